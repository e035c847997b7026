import PyProof.Rows.All
import Wide.All
import OpenK.AllK
import Wide.FinOn
import PySem.Challenge.RW_je0020_01
set_option Elab.async false
set_option linter.all false
set_option tactic.hygienic false
set_option genInjectivity false
set_option genSizeOf false
set_option genSizeOfSpec false
set_option bootstrap.genMatcherCode false
open PySem.Challenge renaming pw_je0020_01->pw
open _root_ renaming List->aa,Nat->ab,Int->ah,Bool->aS,UInt8->aU,Option->bh,False->bB,if_neg->cC,if_pos->cV,Array->eM,of_decide_eq_true->fD,beq_iff_eq->fW,String->gI,of_decide_eq_false->hM,decide_eq_true->iH,Unit->i0,True->ky,decide_eq_true_eq->lU,decide_eq_false->mD,not_or->n',beq_self_eq_true->qU,beq_eq_false_iff_ne->th,dif_neg->vA,if_true->vE
open PySem renaming Value->aj,Str->au,Shared->aF,Addr->aJ,Expr->a3,Heap->a8,Env->bu,wpAny_bind->bw,Pos->bD,Sem->bN,Stmt->b1,World->cu,Around->cy,wpAny_pure->dn,Scope->dz,wpAny_standAt->dA,Obj->ew,Tok->eZ,DictEntry->e9,Program->fc,Model->gd,Builtin->gg,CmpOp->gu,wpAny_of_eq->gU,sizeLine_eq->ha,FuncData->hb,Params->hu,typeLookup_type->ij,builtinLookup_eq_fast->ik,Result->iG,wpAny_field->i4,wpAny_specialOf->i5,Operator->jt,Keyword->jG,isSubtype_type->kS,NameKind->kV,wpAny_call_entry->lb,wpAny_rule->lh,Code->lQ,BoolOp->lR,Slot->lV,wpAny_holding->nu,OsState->nz,Flow->n9,wpAny_newObj_type->oa,Args->ob,wpAny_load->oc,wpAny_callSpecial?_slot->qX,wpAny_isInstance->q0,IntMulOk->q2,IsPart->q3,entryFor_of_fast->q4,entryFor_of_tree->q5,bm_if_false->q8,Const->te,UnaryOp->tf,wpAny_attempt->tn,wpAny_mono->tr,Comprehension->vB,wpAny_setField->vI,isSubtype_stop->vJ,wpAny_mkInt->zC,arm_exec_Assign->zD,plainId_quiet->zQ,builtinType_eq_fast->zS,getMethod_builtin->zT,call_meets->zW,typeIs_int->zX,wpAny_mkStr->zZ,Setting->z5,arm_exec_If->Ib,wpAny_askSetting->Ij,slot_list_getitem->Il,IsRangeIter->Im,wpAny_truthy_bool->Ir,wpAny_getItem_list->Iw,strKind_is->IA,wpAny_typeOf->IE,arm_isTrue_Compare->ZQ,arm_isTrue_UnaryOp->ZR,arm_isTrue_BoolOp->ZS,wpAny_storeName_local->ZT,wpAny_loadName_local->ZU,wpAny_loadName_cell->ZV,wpAny_loadName_free->ZW,wpAny_newFunctionEnv->ZY,arm_eval_Call_Name'->Z0,wpAny_letTemporaryGo->Z4,arm_eval_Subscript->Z6,slot_listiter_next->Z7,wpAny_pyIter_list->aa0,wpAny_getItem_slot->ab0,wpAny_sequenceKey->ab1,slot_list_setitem->ab2,fastTable_eq_tree->ab6,wpAny_pyIter_listiter->ac0
open List renaming length_append->bZ,length_cons->dc,getElem?_eq_some_iff->dH,append_assoc->ee,replicate->ef,getElem?_append_left->eG,getElem?_append_right->eU,mem_singleton->eV,length_nil->fq,size_toArray->fM,mem_cons->gH,map_cons->gJ,length_map->gK,mem_append->gT,drop_drop->hN,length->ig,length_drop->ih,append_nil->il,mem_map->i1,mem_append_right->i3,not_mem_nil->jr,mem_of_getElem?->js,getD_eq_getElem?_getD->j2,nodup_cons->j3,getElem?_map->j4,map_append->kU,length_take->lj,mem_append_left->mw,getElem?_cons_succ->my,all_eq_true->mz,lookup_cons->nr,map_map->nx,mem_cons_self->og,cons_append->oh,range'->oi,map_singleton->oj,mem_reverse->pE,cons->pF,mem_filter->qQ,mem_iff_getElem?->qR,nodup_append->qV,drop_eq_getElem_cons->q1,set_append_right->ra,pairwise_iff_getElem->tg,getElem?_eq_getElem->tj,nodup_nil->tm,getElem?_toArray->tq,length_replicate->tD,getElem?_cons_zero->vC,take_append_drop->vG,mem_cons_of_mem->vP,range->vQ,getElem?_set_ne->zy,length_set->zB,map_reverse->zH,take_append_of_le_length->zJ,drop_eq_nil_of_le->zO,take_of_length_le->zV,replicate_succ->zY,length_singleton->z1,eq_nil_of_length_eq_zero->z2,range'_succ->z6,map_nil->z8,any_eq_false->H7,getElem?_set_self->H9,foldl->IG,filterMap_cons->IK,set_getElem_self->IL,flatMap_cons->IX,drop_zero->IY,pairwise_reverse->Z1,getElem?_eq_none_iff->Z',append_toArray->aa5,map_congr_left->ab3,mem_singleton_self->ab9,getElem?_zip_eq_some->ac1,length_range'->ac2,map_replicate->ac5,flatten_cons->ac7
open Option renaming some_ne_none->cB,map_some->Ig,map_eq_some_iff->Iz,isSome_iff_exists->ZZ
open Nat renaming le_add_left->cK,le_trans->c2,le_refl->eL,beq->fC,zero_le->hc,sub_self->ib,le_add_right->jH,le_of_not_lt->kR,le_of_ble_eq_true->k',mod_eq_of_lt->lY,toUInt8->mB,add_sub_cancel_left->nt,mod_two_eq_zero_or_one->ny,mod_lt->pJ,ble->qS,lt_irrefl->qT,succ_le_succ->qW,le_of_lt->q9,succ->ti,xor_assoc->tu,blt->tv,add_le_add->tE,eq_of_beq_eq_true->vF,lt_succ_self->vL,add_right_comm->vR,xor_comm->vS,div_add_mod->vT,lt_of_le_of_lt->zI,pow_succ->z9,mul_comm->z',xor_lt_two_pow->Aa,zero_add->Ab,lt_of_not_le->H4,ne_of_lt->Ic,le_of_eq->Ie,beq_refl->Ih,succ_ne_zero->Ii,not_lt->Iu,lt_of_succ_lt_succ->IJ,add_comm->IM,xor_zero->IP,shiftRight_eq_div_pow->IQ,lt_trans->IS,div_div_eq_div_mul->IT,reduceMul->IU,div_lt_of_lt_mul->IV,exists_eq_succ_of_ne_zero->ZP,lt_or_gt_of_ne->Z2,le_of_succ_le_succ->aa7,two_pow_add_eq_or_of_lt->ac3,mul_le_mul_left->ac4,pos_of_ne_zero->ac6
open False renaming elim->d1
open PySem.Builtin renaming bitAnd->d',bitXor->jI,bitOr->kT,bitNot->nv
open Bool renaming and_eq_true_iff->fO,false_ne_true->fV,and_eq_true->gf,not_eq_true'->mA,or_eq_true->z0,eq_false_iff->H8
open Ne renaming symm->ht
open Int renaming natCast_nonneg->hL,toNat->jJ,fmod_eq_emod_of_nonneg->mE,ofNat_lt->pI,one_mul->pK,not_lt->qP,ofNat_le->q7,toNat_natCast->tp,emod_nonneg->tB,emod_lt_of_pos->tC,le_of_lt->vK,add_zero->zN,fdiv_eq_ediv_of_nonneg->Ac,not_le->H5,ediv_nonneg->Ip,eq_ofNat_of_zero_le->IF,pow_pos->IW,emod_eq_of_lt->IZ,toNat_of_nonneg->aa1
open PySem.Heap renaming get?_push_size->ic,SameBut->ju,get?_push_of_some->lS,lt_size->lT,get?_update_self->od,ExtBut->vH,get?_update_other->z4,get?_update_ne->Z3
open And renaming intro->ie
open PySem.W renaming Frag->i2,typeIs_bytes->kz,Looks->la,boot_heap->pL,SharedT->q',piece_app->tF,segRun_of->tG,bind_fn->zU,looks_findIn->IB,boot_drawn->I0
open PySem.Builtin.Range renaming rangeSize->lW,small->Io
open PySem.Obj renaming mapSeq->lX,data_mapFields->qZ,isFreed_of_fields->zL,cls_mapFields->zM,mapFields->z3,putName->Ik,mapSeq_push_plain->aa9
open UInt8 renaming toNat_ofNat'->mC
open PySem.Value renaming none->oe,ref->pG,builtin->vM
open PySem.Builtin.Bytes renaming decodersThatHold->pC,write->q6,takeBufferQuiet?->vO,exported->H6,checkResize->It,payload->IC,byteValue->aa6,slotIsOwn->ab4,buffer?->ab5
open PySem.PyData renaming keyHash->pD
open PySem.Heap.SameBut renaming update->pH
open PySem.Str renaming ofString->qY
open PySem.Sem renaming wp_mono->td
open PySem.Code renaming builtin->ts,quiet_builtin->aa8
open PySem.W.Fast renaming te10110043849684766642->tw,te14364793385576792824->tx,te12563942051412417395->tA,te8326940854005059898->ac8,te17119622794617984870->ac9
open Eq renaming symm->vz
open Option.some renaming injEq->vD
open PySem.W.KBy renaming look_buffer->vN,picked->zP
open PyProof.Rows renaming bitAnd_m7->vU,wpAny_release'->zA,slot_tupleiter_next->Z8,unpackItems_tuple->aa2
open Array renaming getElem?_eq_getElem->zz,getElem?_eq_none->H',isEmpty_iff->Iy
open PySem.Keeper renaming frame->zE,machine->zF,boundFrame->zG
open PySem.W.Looks renaming ld->zK
open PySem.Around renaming under_plainId->zR
open List.cons renaming inj->z7,injEq->ID
open PySem.Calls renaming Name_function_global->Ia,loadGlobal_builtin->ZX
open PySem.Value.ref renaming inj->Iq
open PySem.Env renaming kindOf->Iv
open PySem.NameKind renaming free->IH,cell->II
open PySem.W.FB renaming slot_bytes_getitem->Z5,slot_bytes_decode->ab7,entry_bytes_decode->ab8
open PySem.F renaming slot_range_iterator_next->Z9
open PyProof renaming noPylong_small->aa3
open PySem.W.KBc renaming size_picked_le->aa4
open PySem PySem.W PySem.Calls PyProof.Rows
namespace aX
section
open Sem (wp)
@[elab_as_elim]theorem ae{α:Sort u}{a b:α}{M:α->Prop}(h:a=b)(p:M b):M a:=by induction h;exact p
theorem nl{a b:ab}(h:b<=a->bB):a<b:=H4 h
theorem ne{a b:ab}(h:b+1<=a->bB):a<=b:=kR h
theorem fy{a b:ah}(h:b<=a->bB):a<b:=H5.mp h
theorem fX{a b:ah}(h:b+1<=a->bB):a<=b:=qP.mp h
theorem dI{P:Prop}(h:∀G:Prop,(P->G)->G):P:=h P λx=>x
@[elab_as_elim]theorem cv{α:Sort u}{a b:α}{M:α->Prop}(h:b=a)(p:M b):M a:=by induction h;exact p
noncomputable def lk:lQ->Prop
 |.builtin id _=>pC.contains id=false
 |_=>ky
noncomputable def Clean(de:Ctx):Prop:=lk de.code/\∀x∈de.below,lk x.1
noncomputable def aK{α:Type}(k:aS)(M:gd)(A:cy)(t:bN α)(Q:α->aF->Prop)(E:aj->aF->Prop)(s:aF):Prop:=
 ∀de p,de.In A->(k=true->Clean de)->wp M de t (λa J s'=>Q a s') (λe J s'=>E e s') p s
noncomputable def ea(k:aS)(M:gd)(A:cy)(c:lQ)(R:iG->aF->Prop)(s:aF):Prop:=
 ∀de p,de.code=c->de.Below A->(k=true->Clean de)->wpCode M de R p s
section
variable{α β:Type}{k:aS}{M:gd}{A:cy}{E:aj->aF->Prop}{s:aF}
theorem aK.of{t:bN α}{Q:α->aF->Prop}(h:wpAny M A t Q E s):aK k M A t Q E s:=λde p i J=>h de p i
theorem ea.of{c:lQ}{R:iG->aF->Prop}(h:codeAny M A c R s):ea k M A c R s:=λde p e i J=>h de p e i
theorem ea.any{c:lQ}{R:iG->aF->Prop}(h:ea false M A c R s):codeAny M A c R s:=λde p e i=>h de p e i λe=>by exact absurd e fV
theorem bJ{a:α}{Q:α->aF->Prop}(h:Q a s):aK k M A (pure a) Q E s:=λJ J J J=>h
theorem bo{t:bN α}{Q dJ:α->aF->Prop}{rb:aj->aF->Prop}(h:aK k M A t Q E s)(iI:∀a s,Q a s->dJ a s)(rd:∀e s,E e s->rb e s):aK k M A t dJ rb s:=
 λde p i c=>td M de t (λa J s=>iI a s) (λe J s=>rd e s) p s (h de p i c)
theorem bp{m:bN α}{f:α->bN β}{Q:β->aF->Prop}(h:aK k M A m (λa s'=>aK k M A (f a) Q E s') E s):aK k M A (m>>=f) Q E s:=λde p i c=>by
 rw[Sem.wp_bind']
 exact td M de m (λa eN s' ao=>ao de eN i c) (λJ J J ao=>ao) p s (h de p i c)
theorem bV{m:bN α}{f:α->bN β}{Q:β->aF->Prop}(h:wpAny M A m (λa s'=>aK k M A (f a) Q E s') E s):aK k M A (m>>=f) Q E s:=bp (aK.of h)
theorem du{vs:aa aj}{m:bN α}{Q:α->aF->Prop}(h:aK k M A m Q E s):aK k M A (holding vs m) Q E s:=λde p i c=>by rw[Sem.wp_holding];exact h de p i c
theorem om{vs:aa aj}{m:bN aj}{Q:aj->aF->Prop}(h:aK k M A m Q E s):aK k M A (operate vs m) Q E s:=λde p i c=>by rw[Sem.wp_operate];exact h de p i c
theorem nA{m:bN α}{f:aj->bN i0}{Q:α->aF->Prop}(h:aK k M A m Q (λe s'=>aK k M A (f e) (λJ gh=>E e gh) E s') s):aK k M A (m.onRaise f) Q E s:=λde p i c=>by
 rw[Sem.wp_onRaise]
 exact td M de m (λJ J J ao=>ao) (λe eN s' ao=>ao de eN i c) p s (h de p i c)
theorem rf{m:bN α}{Q:Except aj α->aF->Prop}(h:aK k M A m (λa=>Q (.ok a)) (λe=>Q (.error e)) s):aK k M A m.attempt Q E s:=λde p i c=>by rw[Sem.wp_attempt];exact h de p i c
theorem I1{m:bN α}{f:aj->bN α}{Q:α->aF->Prop}(h:aK k M A m Q (λe s'=>aK k M A (f e) Q E s') s):aK k M A (tryCatch m f) Q E s:=λde p i c=>by
 rw[Sem.wp_tryCatch']
 exact td M de m (λJ J J ao=>ao) (λe eN s' ao=>ao de eN i c) p s (h de p i c)
theorem ll{c:lQ}{R hv:iG->aF->Prop}(h:ea k M A c R s)(dp:∀r s,R r s->hv r s):ea k M A c hv s:=λde p aP oo ba=>wpCode_mono dp (h de p aP oo ba)
theorem Clean.enter{de:Ctx}(h:Clean de){c:lQ}(aP:lk c)(hd:bh aj)(p:bD):Clean (de.enter c hd p):=
 ⟨aP,λx aA=>by
  rcases gH.mp aA with rfl|aA
  ·exact h.1
  ·exact h.2 x aA⟩
theorem vV{c:lQ}{h:bh aj}{Q:n9->aF->Prop}(aY:lk c)(aP:ea k M (A.mark h) c (λr s'=>match r with|.ok f=>Q f s'|.error e=>E e s') s)(Ad:h≠some byPass:=by intro x;cases x):
 aK k M A (run c h) Q E s:=λde p i cl=>by rw[Sem.wp_run];exact aP _ p rfl (i.enter c h p Ad) λe=>(cl e).enter aY h p
theorem I2{c:lQ}{Q:aj->aF->Prop}(aY:lk c)(aP:ea k M A c (λr s'=>match r with|.ok (.ret v)=>Q v s'|.ok _=>bB|.error e=>E e s') s):aK k M A (runValue c) Q E s:=
 λde p i cl=>by rw[Sem.wp_runValue];exact aP _ p rfl (i.enter c none p (by intro x;exact absurd x.symm (cB _))) λe=>(cl e).enter aY none p
theorem mF{f:aj}{pos:aa aj}{kw:aa (au×aj)}{Q:aj->aF->Prop}(aP:ea k M A (.call f ⟨pos,kw⟩) (λr s'=>match r with|.ok (.ret v)=>Q v s'|.ok _=>bB|.error e=>E e s') s):
 aK k M A (call f pos kw) Q E s:=I2 (by exact trivial) aP
theorem lp{c:lQ}{R:iG->aF->Prop}
  (h:aK k M (A.under c) (M.den c) (λfin s'=>match fin with|.done f=>R (.ok f) s'|.again ip=>ip.quiet=true/\lk ip/\ea k M A ip R s') (λe s'=>R (.error e) s') s):ea k M A c R s:=λde p aP oo ba=>by
 rw[wpCode_iff_wp,aP]
 refine td M de _ (λfin eN s' ao=>?_) (λJ J J ao=>ao) p s (h de p (aP▸oo.in) ba)
 induction fin with
 |done f=>exact ao
 |again ip=>exact⟨ao.1,ao.2.2 (de.goto ip) eN rfl (oo.goto ip) λe=>⟨ao.2.1,(ba e).2⟩⟩
theorem tH{c:lQ}{R:iG->aF->Prop}(bg:c.quiet=true)(aY:lk c)(I:ab->aF->Prop)
  (turn:∀n s,I n s->aK k M (A.under c) (M.den c) (λfin s'=>match fin with
   |.done f=>R (.ok f) s'
   |.again ip=>(ip=c/\∃m,m<n/\I m s')\/(ip.quiet=true/\lk ip/\ea k M A ip R s')) (λe s'=>R (.error e) s') s)
  (n:ab)(h:I n s):ea k M A c R s:=by
 induction n using Nat.strongRecOn generalizing s with
 |ind n cF=>
  refine lp (bo (turn n s h) (λfin s' hf=>?_) λJ J ao=>ao)
  induction fin with
  |done f=>exact hf
  |again ip=>
   rcases hf with⟨rfl,m,hm,gv⟩|hf
   ·exact⟨bg,aY,cF m hm gv⟩
   ·exact hf
theorem rg{id n:gI}(h:guardIds.contains id=false)(e:guardIds.contains n=true):id≠n:=λz=>by rw[z,e]at h;exact absurd h.symm fV
theorem Ae{v:aj}{Q:aS->aF->Prop}(c3:A.guards=some [])(h:Q false s):aK true M A (H6 v) Q E s:=λde p i cl=>by
 refine Eq.mp (congrArg (Q · s) (vz (H7.mpr λx aA=>?_))) h
 have aI:lk x.1:=by
  rcases gH.mp aA with rfl|aA
  ·exact(cl rfl).1
  ·exact(cl rfl).2 x aA
 have aB:x.1.isGuard=false:=H8.mpr λe=>by
  have m:x.1∈de.code.guards++guardsOf de.below:=guardsOf_cons de.code p _▸qQ.mpr ⟨i1.mpr ⟨x,aA,rfl⟩,e⟩
  rw[i.2.2.2.1 [] c3]at m;exact absurd m jr
 refine H8.mp ?_
 clear aA
 obtain⟨c,q⟩:=x
 induction c with
 |builtin id a=>
  delta Builtin.Bytes.exported.match_1
  dsimp only
  delta H6._sparseCasesOn_1
  dsimp only
  refine(vA (rg aB (n:="bytearray.__contains__") rfl)).trans ?_
  refine(vA (rg aB (n:="bytearray.__mod__") rfl)).trans ?_
  refine(vA (rg aB (n:="bytearray.__rmod__") rfl)).trans ?_
  refine(vA (rg aB (n:="_struct.pack_into.held") rfl)).trans ?_
  refine(vA (rg aB (n:="bytearray.find.held") rfl)).trans ?_
  obtain⟨l,kw⟩:=a
  induction l with
  |nil=>rfl
  |cons y l=>
   show(Builtin.Bytes.sameRef y v&&pC.contains id)=false
   rw[show pC.contains id=false from aI,Bool.and_false]
 |_=>rfl
end
end
noncomputable def kA{α:Type}(z:α)(f:au->Arguments->aa b1->aa a3->dz->bD->α)(c:au->aa b1->aa au->bD->α)(a:aa a3->a3->α)(b:a3->aa b1->aa b1->α):b1->α
 |.FunctionDef n p x ds _ _ sc _ _ q=>f n p x ds sc q
 |.ClassDef n _ _ x _ _ _ _ _ l q=>c n x l q
 |.Assign dW e _=>a dW e
 |.If t x y _=>b t x y
 |.For t _ x _ _=>b t x []
 |.While t x _ _=>b t x []
 |.Try x _ _ _ _=>b (.Tuple [] 0 ⟨0,0,0,0⟩) x []
 |_=>z
noncomputable def nB{α:Type}(z s:α)(c:te->α)(n:au->α)(u:a3->α)(l:aa a3->α)(k:a3->aa vB->dz->α):a3->α
 |.Starred .. =>s
 |.Constant v _ _=>c v
 |.Name x _=>n x
 |.UnaryOp _ e _=>u e
 |.Tuple x _ _=>l x
 |.ListComp e iJ sc _=>k e iJ sc
 |_=>z
inductive eO{gV gW:Type}(p:gV->gW->Prop):Prop
 |mk (dU:gV) (d5:gW) (h:p dU d5)
inductive hO{gV gW hP:Type}(p:gV->gW->hP->Prop):Prop
 |mk (dU:gV) (d5:gW) (fs:hP) (h:p dU d5 fs)
inductive mG{gV gW hP i6:Type}(p:gV->gW->hP->i6->Prop):Prop
 |mk (dU:gV) (d5:gW) (fs:hP) (fE:i6) (h:p dU d5 fs fE)
inductive I3{gV gW hP i6 j5:Type}(p:gV->gW->hP->i6->j5->Prop):Prop
 |mk (dU:gV) (d5:gW) (fs:hP) (fE:i6) (fY:j5) (h:p dU d5 fs fE fY)
inductive Af{gV gW hP i6 j5 lq:Type}(p:gV->gW->hP->i6->j5->lq->Prop):Prop
 |mk (dU:gV) (d5:gW) (fs:hP) (fE:i6) (fY:j5) (gw:lq) (h:p dU d5 fs fE fY gw)
inductive vW{gV gW hP i6 j5 lq nC:Type}(p:gV->gW->hP->i6->j5->lq->nC->Prop):Prop
 |mk (dU:gV) (d5:gW) (fs:hP) (fE:i6) (fY:j5) (gw:lq) (gX:nC) (h:p dU d5 fs fE fY gw gX)
inductive I4{gV gW hP i6 j5 lq nC rh:Type}(p:gV->gW->hP->i6->j5->lq->nC->rh->Prop):Prop
 |mk (dU:gV) (d5:gW) (fs:hP) (fE:i6) (fY:j5) (gw:lq) (gX:nC) (hx:rh) (h:p dU d5 fs fE fY gw gX hx)
inductive I5{gV gW hP i6 j5 lq nC rh Ag Ah:Type}(p:gV->gW->hP->i6->j5->lq->nC->rh->Ag->Ah->Prop):Prop
 |mk (dU:gV) (d5:gW) (fs:hP) (fE:i6) (fY:j5) (gw:lq) (gX:nC) (hx:rh) (iq:Ag) (i7:Ah) (h:p dU d5 fs fE fY gw gX hx iq i7)
structure dx(hg gL hh:Prop):Prop where
 aB:hg
 aI:gL
 cg:hh
inductive hQ(hg gL hh jv:Prop):Prop
 |mk (aB:hg) (aI:gL) (cg:hh) (dX:jv)
inductive pM(hg gL hh jv j6:Prop):Prop
 |mk (aB:hg) (aI:gL) (cg:hh) (dX:jv) (eP:j6)
inductive tI(hg gL hh jv j6 kW:Prop):Prop
 |mk (aB:hg) (aI:gL) (cg:hh) (dX:jv) (eP:j6) (j7:kW)
inductive Ai(hg gL hh jv j6 kW oq:Prop):Prop
 |mk (aB:hg) (aI:gL) (cg:hh) (dX:jv) (eP:j6) (j7:kW) (kB:oq)
inductive I6(hg gL hh jv j6 kW oq ri:Prop):Prop
 |mk (aB:hg) (aI:gL) (cg:hh) (dX:jv) (eP:j6) (j7:kW) (kB:oq) (mH:ri)
inductive I7(hg gL hh jv j6 kW oq ri vX:Prop):Prop
 |mk (aB:hg) (aI:gL) (cg:hh) (dX:jv) (eP:j6) (j7:kW) (kB:oq) (mH:ri) (ot:vX)
inductive I8(hg gL hh jv j6 kW oq ri vX I9:Prop):Prop
 |mk (aB:hg) (aI:gL) (cg:hh) (dX:jv) (eP:j6) (j7:kW) (kB:oq) (mH:ri) (ot:vX) (rj:I9)
inductive af where
 |none
 |bool (b:aS)
 |int (i:ah)
 |str (s:au)
 |bytes (b:aa aU)
 |tup (vs:aa af)
 |lst (vs:aa af)
 |ey (ns:aa ah)
 |obj (C:aJ) (bA:aa (ab×af))
 |e0 (a b st:ah)
 |cell (i:ab)
 |val (v:aj)
 |bound (f:aj) (self:af)
 |ir (bA:aa aj)
 |ft
theorem af.cs{P:af->Prop}(none:P .none)(bool:∀(b:aS),P (.bool b))(int:∀(i:ah),P (.int i))(str:∀(s:au),P (.str s))(bytes:∀(b:aa aU),P (.bytes b))(tup:∀(vs:aa af),P (.tup vs))(lst:∀(vs:aa af),P (.lst vs))(ey:∀(ns:aa ah),P (.ey ns))(obj:∀(C:aJ) (bA:aa (ab×af)),P (.obj C bA))(e0:∀(a b st:ah),P (.e0 a b st))(cell:∀(i:ab),P (.cell i))(val:∀(v:aj),P (.val v))(bound:∀(f:aj) (self:af),P (.bound f self))(ir:∀(bA:aa aj),P (.ir bA))(ft:P .ft)(a:af):P a:=af.casesOn a none bool int str bytes tup lst ey obj e0 cell val bound ir ft
inductive Cell where
 |list (vs:aa af)
 |dict (kvs:aa (ab×af))
 |aZ (b:aa aU)
 |inst (C:aJ) (bA:aa (ab×af))
structure aT where
 cs:aa (aJ×aJ)
 aR:aa aJ
noncomputable def addrs(l:aa (aJ×aJ)):aa aJ:=l.flatMap λp=>[p.1,p.2]
noncomputable def aT.bar(ρ:aT):aa aJ:=addrs ρ.cs++ρ.aR
inductive rk where
 |own
 |e' (f:aJ)
 |prop (p g:aJ)
 |const (a:af) (v:aj)
 |tJ (p f:aJ)
structure aG where
 prog:fc
 w:cu
 K:i2
 base:a8
 clean:aS
 names:aa au
 iu:aa (au×af)
 cls:aa (ab×aa (ab×rk))
 fr:bh (aa bu)
noncomputable def Aj(bA:aa aj):ew:={cls:=.type "builtin_function_or_method",data:=.fields bA.toArray}
inductive I'(ρ:aT)(h:a8)(P:aa aj->Prop)(z:ab)(v:aj):Prop
 |mk (a:aJ) (items:aa aj) (az:v=.ref a) (nb:a∉ρ.bar) (ay:h.get? a=some {cls:=.type "tuple",data:=.seq items.toArray}) (bF:P items) (z:z<=1000000)
inductive Ja(ρ:aT)(h:a8)(P:aa aj->Prop)(z:ab)(v:aj):Prop
 |mk (a:aJ) (items:aa aj) (n:ab) (az:v=.ref a) (nb:a∉ρ.bar) (ay:h.get? a=some {cls:=.type "list",data:=.seq items.toArray n}) (bF:P items) (z:z<=1000000)
inductive Jb(ρ:aT)(h:a8)(ns:aa ah)(v:aj):Prop
 |mk (a:aJ) (items:aa aj) (az:v=.ref a) (nb:a∉ρ.bar) (ay:h.IsList a items.toArray) (bF:IntsAre items ns)
inductive Jc(ρ:aT)(h:a8)(C:aJ)(P:aa e9->Prop)(cG:Prop)(v:aj):Prop
 |mk (a b:aJ) (es:aa e9) (n:ab) (az:v=.ref a) (na:a∉ρ.bar) (nb:b∉ρ.bar) (ay:h.get? a=some (instObj C b)) (bF:h.get? b=some (dictOf es n)) (fF:P es) (cG:cG)
inductive Jd(ρ:aT)(h:a8)(f:aj)(P:aj->Prop)(v:aj):Prop
 |mk (q:aJ) (iK:aj) (az:v=.ref q) (nb:q∉ρ.bar) (ay:h.get? q=some (methodObj f iK)) (bF:P iK)
inductive Je(P:aj->Prop)(R:aa aj->Prop)(vs:aa aj):Prop
 |mk (v:aj) (r:aa aj) (e:vs=v::r) (az:P v) (ay:R r)
inductive Jf(vY:bh au)(hs:au->ah)(P:aj->Prop)(R:aa e9->Prop)(es:aa e9):Prop
 |mk (e:e9) (hR:aa e9) (x:au) (q:es=e::hR) (dQ:vY=some x) (dV:∃t,e.key=.str x t) (e1:e.hash=hs x) (j8:P e.val) (iv:R hR)
inductive Jg(vY:bh au)(P:aj->Prop)(R:aa (au×aj)->Prop)(l:aa (au×aj)):Prop
 |mk (x:au) (v:aj) (l':aa (au×aj)) (q:l=(x,v)::l') (dQ:vY=some x) (dV:P v) (e1:R l')
mutual
noncomputable def bq(c:aG)(ρ:aT)(h:a8):af->aj->Prop
 |.none,v=>v=.none
 |.bool b,v=>v=.bool b
 |.int i,v=>∃t,v=.int i t
 |.str x,v=>∃t,v=.str x t
 |.bytes b,v=>∃t,v=.bytes b.toArray t/\b.length<=1000000
 |.tup as,v=>I' ρ h (bT c ρ h as) as.length v
 |.lst as,v=>Ja ρ h (bT c ρ h as) as.length v
 |.ey ns,v=>Jb ρ h ns v
 |.obj C bA,v=>Jc ρ h C (dR c ρ h bA) (bA.map (·.1)).Nodup v
 |.e0 a b st,v=>mG λq t u w=>dx (v=.ref q) (q∉ρ.bar) (IsRange h q a b st t u w)
 |.cell i,v=>∃p,ρ.cs[i]? =some p/\v=.ref p.1
 |.val x,v=>v=x
 |.bound f self,v=>Jd ρ h f (bq c ρ h self) v
 |.ir bA,v=>∃q,dx (v=.ref q) (q∉ρ.bar) (h.get? q=some (Aj bA))
 |.ft,v=>ky
noncomputable def bT(c:aG)(ρ:aT)(h:a8):aa af->aa aj->Prop
 |[],vs=>vs=[]
 |a::as,vs=>Je (bq c ρ h a) (bT c ρ h as) vs
noncomputable def dR(c:aG)(ρ:aT)(h:a8):aa (ab×af)->aa e9->Prop
 |[],es=>es=[]
 |(k,a)::r,es=>Jf c.names[k]? (pD c.w.params) (bq c ρ h a) (dR c ρ h r) es
end
noncomputable def ej(c:aG)(ρ:aT)(h:a8):aa (ab×af)->aa (au×aj)->Prop
 |[],l=>l=[]
 |(k,a)::r,l=>Jg c.names[k]? (bq c ρ h a) (ej c ρ h r) l
noncomputable def ek(c:aG)(ρ:aT)(h:a8)(p:aJ×aJ):Cell->Prop
 |.list vs=>eO λitems n=>hQ (h.get? p.1=some {cls:=.type "list",data:=.seq items.toArray n}) (bT c ρ h vs items) (vs.length<=1000000) (p.2=p.1)
 |.dict kvs=>∃l,hQ (h.DictOf (strKind c.prog c.w) p.1 l) (ej c ρ h kvs l) (kvs.length<=1000/\(kvs.map (·.1)).Nodup) (p.2=p.1)
 |.aZ b=>h.get? p.1=some {cls:=.type "bytearray",data:=.bytearray b.toArray 0}/\b.length<=1000000/\p.2=p.1
 |.inst C bA=>h.get? p.1=some (instObj C p.2)/\eO λes n=>hQ (h.get? p.2=some (dictOf es n)) (dR c ρ h bA es) (bA.length<=500) ((bA.map (·.1)).Nodup)
noncomputable def Apart(l:aa (aJ×aJ)):Prop:=∀(i j:ab) p q,l[i]? =some p->l[j]? =some q->i≠j->p.1≠q.1/\p.1≠q.2/\p.2≠q.1/\p.2≠q.2
structure Rep(c:aG)(ρ:aT)(σ:aa Cell)(h:a8):Prop where
 len:ρ.cs.length=σ.length
 apart:Apart ρ.cs
 cells:∀(i:ab) p x,ρ.cs[i]? =some p->σ[i]? =some x->ek c ρ h p x
 new:∀b∈ρ.bar,c.base.get? b=none
 stays:c.base.StaysIn h
 e2:∀b∈ρ.aR,b∉addrs ρ.cs
 e3:∀b∈ρ.aR,∃o,h.get? b=some o
structure Ext(ρ ρ':aT)(h ao:a8):Prop where
 pre:∃t,ρ'.cs=ρ.cs++t
 aR:ρ'.aR=ρ.aR
 keep:∀b o,b∉addrs ρ.cs->h.get? b=some o->ao.get? b=some o
 fresh:∀b∈addrs ρ'.cs,b∉addrs ρ.cs->h.get? b=none
noncomputable def Carry(ρ ρ':aT)(h ao:a8):Prop:=∀a o,a∉ρ.bar->h.get? a=some o->a∉ρ'.bar/\ao.get? a=some o
section
variable{c:aG}{ρ:aT}{h:a8}
theorem ou:bq c ρ h .none .none:=rfl
theorem gx{b:aS}:bq c ρ h (.bool b) (.bool b):=rfl
theorem e4{i:ah}{t:eZ}:bq c ρ h (.int i) (.int i t):=⟨t,rfl⟩
theorem vZ{x:au}{t:eZ}:bq c ρ h (.str x) (.str x t):=⟨t,rfl⟩
theorem mI{b:aa aU}{t:eZ}(aO:b.length<=1000000):bq c ρ h (.bytes b) (.bytes b.toArray t):=⟨t,rfl,aO⟩
theorem Jh{v:aj}:bq c ρ h (.val v) v:=rfl
theorem lr{i:ab}{p:aJ×aJ}{a:aJ}(e:ρ.cs[i]? =some p)(q:p.1=a):bq c ρ h (.cell i) (.ref a):=⟨p,e,by exact ae q rfl⟩
theorem iw:bT c ρ h [] []:=rfl
theorem jw{a:af}{as:aa af}{v:aj}{vs:aa aj}(x:bq c ρ h a v)(r:bT c ρ h as vs):bT c ρ h (a::as) (v::vs):=⟨v,vs,rfl,x,r⟩
end
theorem ez{l:aa (aJ×aJ)}{b:aJ}:b∈addrs l↔eO λ(i:ab) (p:aJ×aJ)=>l[i]? =some p/\(b=p.1\/b=p.2):=by
 unfold addrs
 rw[List.mem_flatMap]
 constructor
 ·rintro⟨p,aW,aq⟩
  obtain⟨i,a7⟩:=qR.mp aW
  exact⟨i,p,a7,by simpa using aq⟩
 ·rintro⟨i,p,a7,aq⟩
  exact⟨p,js a7,by simpa using aq⟩
theorem hS(l t:aa (aJ×aJ)):addrs (l++t)=addrs l++addrs t:=by simp[addrs]
theorem er{ρ:aT}{b:aJ}:b∈ρ.bar↔b∈addrs ρ.cs\/b∈ρ.aR:=by unfold aT.bar;rw[gT]
theorem fz{ρ:aT}{b:aJ}:b∉ρ.bar↔b∉addrs ρ.cs/\b∉ρ.aR:=by rw[er,n']
theorem Ext.refl(ρ:aT)(h:a8):Ext ρ ρ h h:=⟨⟨[],by simp⟩,rfl,λJ J J e=>e,λJ a b=>absurd a b⟩
theorem Ext.sub{ρ ρ':aT}{h ao:a8}(x:Ext ρ ρ' h ao){b:aJ}(aq:b∈addrs ρ.cs):b∈addrs ρ'.cs:=by
 obtain⟨t,e⟩:=x.pre
 rw[e,hS]
 exact mw _ aq
theorem Ext.get{ρ ρ':aT}{h ao:a8}(x:Ext ρ ρ' h ao){i:ab}{p:aJ×aJ}(e:ρ.cs[i]? =some p):ρ'.cs[i]? =some p:=by
 obtain⟨t,q⟩:=x.pre
 (refine ae q ?_;refine ae (eG (dH.mp e).1) ?_)
 exact e
theorem Ext.trans{ρ ρ' lu:aT}{h ao j9:a8}(x:Ext ρ ρ' h ao)(y:Ext ρ' lu ao j9):Ext ρ lu h j9:=by
 refine⟨?_,y.aR.trans x.aR,λb o aq e=>?_,λb aB aI=>?_⟩
 ·obtain⟨t,e⟩:=x.pre
  obtain⟨u,ck⟩:=y.pre
  exact⟨t++u,by rw[ck,e,ee]⟩
 ·exact y.keep b o (λq=>by rw[x.fresh b q aq]at e;exact absurd e.symm (cB _)) (x.keep b o aq e)
 ·by_cases q:b∈addrs ρ'.cs
  ·exact x.fresh b q aI
  ·cases e:h.get? b with
   |none=>rfl
   |some o=>have:=x.keep b o aI e;rw[y.fresh b aB q]at this;exact absurd this.symm (cB _)
theorem Ext.carry{ρ ρ':aT}{h ao:a8}(x:Ext ρ ρ' h ao):Carry ρ ρ' h ao:=λa o bL e=>by
 rw[fz]at bL
 refine⟨?_,x.keep a o bL.1 e⟩
 rw[fz,x.aR]
 exact⟨λq=>(by rw[x.fresh a q bL.1]at e;exact absurd e.symm (cB _)),bL.2⟩
mutual
theorem bq.mono{c:aG}{ρ ρ':aT}{h ao:a8}(a4:∀(i:ab) p,ρ.cs[i]? =some p->ρ'.cs[i]? =some p)(bb:Carry ρ ρ' h ao):
  ∀(x:af) (v:aj),bq c ρ h x v->bq c ρ' ao x v
 |.none,_,e=>e
 |.bool _,_,e=>e
 |.int _,_,e=>e
 |.str _,_,e=>e
 |.bytes _,_,e=>e
 |.tup as,_,h0=>by obtain⟨a,items,az,nb,ay,bF,z⟩:=h0;exact⟨a,items,az,(bb a _ nb ay).1,(bb a _ nb ay).2,bT.mono a4 bb as items bF,z⟩
 |.lst as,_,h0=>by obtain⟨a,items,n,az,nb,ay,bF,z⟩:=h0;exact⟨a,items,n,az,(bb a _ nb ay).1,(bb a _ nb ay).2,bT.mono a4 bb as items bF,z⟩
 |.ey _,_,⟨a,items,az,nb,⟨o,ay,r⟩,bF⟩=>⟨a,items,az,(bb a o nb ay).1,⟨o,(bb a o nb ay).2,r⟩,bF⟩
 |.obj _ bA,_,h0=>by obtain⟨a,b,es,n,az,na,nb,ay,bF,fF,cG⟩:=h0;exact⟨a,b,es,n,az,(bb a _ na ay).1,(bb b _ nb bF).1,(bb a _ na ay).2,(bb b _ nb bF).2,dR.mono a4 bb bA es fF,cG⟩
 |.e0 _ _ _,_,h0=>by obtain⟨q,t,u,w,az,nb,ay⟩:=h0;exact⟨q,t,u,w,az,(bb q _ nb ay).1,(bb q _ nb ay).2⟩
 |.cell _,_,h0=>by obtain⟨p,az,ay⟩:=h0;exact⟨p,a4 _ _ az,ay⟩
 |.val _,_,e=>e
 |.bound _ a,_,h0=>by obtain⟨q,iK,az,nb,ay,bF⟩:=h0;exact⟨q,iK,az,(bb q _ nb ay).1,(bb q _ nb ay).2,bq.mono a4 bb a iK bF⟩
 |.ir _,_,h0=>by obtain⟨q,az,nb,ay⟩:=h0;exact⟨q,az,(bb q _ nb ay).1,(bb q _ nb ay).2⟩
 |.ft,_,e=>e
theorem bT.mono{c:aG}{ρ ρ':aT}{h ao:a8}(a4:∀(i:ab) p,ρ.cs[i]? =some p->ρ'.cs[i]? =some p)(bb:Carry ρ ρ' h ao):
  ∀(x:aa af) (v:aa aj),bT c ρ h x v->bT c ρ' ao x v
 |[],_,e=>e
 |a::as,_,h0=>by obtain⟨v,r,e,az,ay⟩:=h0;exact⟨v,r,e,bq.mono a4 bb a v az,bT.mono a4 bb as r ay⟩
theorem dR.mono{c:aG}{ρ ρ':aT}{h ao:a8}(a4:∀(i:ab) p,ρ.cs[i]? =some p->ρ'.cs[i]? =some p)(bb:Carry ρ ρ' h ao):
  ∀(x:aa (ab×af)) (v:aa e9),dR c ρ h x v->dR c ρ' ao x v
 |[],_,e=>e
 |(_,a)::as,_,h0=>by obtain⟨e,hR,x,q,dQ,dV,e1,j8,iv⟩:=h0;exact⟨e,hR,x,q,dQ,dV,e1,bq.mono a4 bb a _ j8,dR.mono a4 bb as hR iv⟩
end
theorem bq.ext{c:aG}{ρ ρ':aT}{σ:aa Cell}{h ao:a8}(R:Rep c ρ σ h)(x:Ext ρ ρ' h ao){a:af}{v:aj}(e:bq c ρ h a v):bq c ρ' ao a v:=bq.mono (λJ J q=>x.get q) x.carry a v e
theorem bT.ext{c:aG}{ρ ρ':aT}{σ:aa Cell}{h ao:a8}(R:Rep c ρ σ h)(x:Ext ρ ρ' h ao){a:aa af}{v:aa aj}(e:bT c ρ h a v):bT c ρ' ao a v:=bT.mono (λJ J q=>x.get q) x.carry a v e
theorem ej.mono{c:aG}{ρ ρ':aT}{h ao:a8}(a4:∀(i:ab) p,ρ.cs[i]? =some p->ρ'.cs[i]? =some p)(bb:Carry ρ ρ' h ao):
  ∀(x:aa (ab×af)) (v:aa (au×aj)),ej c ρ h x v->ej c ρ' ao x v
 |[],_,e=>e
 |(_,a)::as,_,h0=>by obtain⟨x,v,l,q,dQ,dV,e1⟩:=h0;exact⟨x,v,l,q,dQ,bq.mono a4 bb a _ dV,ej.mono a4 bb as l e1⟩
theorem Ak{K:Type} [DecidableEq K]{prog:fc}{w:cu}{knd:KeyKind prog w K}{h ao:a8}{a:aJ}{kvs:aa (K×aj)}(x:h.DictOf knd a kvs)(k:∀o,h.get? a=some o->ao.get? a=some o):ao.DictOf knd a kvs:=
 let⟨o,es,hT,aN,r⟩:=x;⟨o,es,hT,k o aN,r⟩
theorem ek.ext{c:aG}{ρ ρ':aT}{h ao:a8}(a4:∀(i:ab) p,ρ.cs[i]? =some p->ρ'.cs[i]? =some p)(bb:Carry ρ ρ' h ao){p:aJ×aJ}{x:Cell}
  (aB:∀o,h.get? p.1=some o->ao.get? p.1=some o)(aI:∀o,h.get? p.2=some o->ao.get? p.2=some o)(e:ek c ρ h p x):ek c ρ' ao p x:=by
 induction x with
 |list vs=>obtain⟨items,n,a,b,d,i8⟩:=e;exact⟨items,n,aB _ a,bT.mono a4 bb _ _ b,d,i8⟩
 |dict vs=>obtain⟨l,a,b,d,i8⟩:=e;exact⟨l,Ak a aB,ej.mono a4 bb _ _ b,d,i8⟩
 |aZ b=>obtain⟨a,d⟩:=e;exact⟨aB _ a,d⟩
 |inst C bA=>obtain⟨a,es,n,b,d,l,l'⟩:=e;exact⟨aB _ a,es,n,aI _ b,dR.mono a4 bb _ _ d,l,l'⟩
theorem tK{ρ:aT}{h ao:a8}(k:∀b o,h.get? b=some o->ao.get? b=some o):Carry ρ ρ h ao:=λa o n e=>⟨n,k a o e⟩
theorem Rep.grow{c:aG}{ρ:aT}{σ:aa Cell}{h ao:a8}(R:Rep c ρ σ h)(k:∀b o,h.get? b=some o->ao.get? b=some o):Rep c ρ σ ao:=
 ⟨R.len,R.apart,λi p x a b=>ek.ext (λJ J e=>e) (tK k) (k _) (k _) (R.cells i p x a b),R.new,λb o e=>k b o (R.stays b o e),R.e2,λb aq=>let⟨o,e⟩:=R.e3 b aq;⟨o,k b o e⟩⟩
theorem Ext.grow{ρ:aT}{h ao:a8}(k:∀b o,h.get? b=some o->ao.get? b=some o):Ext ρ ρ h ao:=⟨⟨[],by simp⟩,rfl,λb o J e=>k b o e,λJ a b=>absurd a b⟩
theorem Rep.mut{c:aG}{ρ:aT}{σ:aa Cell}{h ao:a8}(R:Rep c ρ σ h)(k:∀a o,a∉ρ.aR->h.get? a=some o->ao.get? a=some o)(l:∀b∈ρ.aR,∃o,ao.get? b=some o):Rep c ρ σ ao:=by
 have x:∀b∈addrs ρ.cs,∀o,h.get? b=some o->ao.get? b=some o:=λb aq o e=>k b o (λq=>R.e2 b q aq) e
 refine⟨R.len,R.apart,λi p y aW bM=>ek.ext (λJ J e=>e) (λa o n e=>⟨n,k a o (fz.mp n).2 e⟩) (x p.1 (ez.mpr ⟨i,p,aW,.inl rfl⟩)) (x p.2 (ez.mpr ⟨i,p,aW,.inr rfl⟩)) (R.cells i p y aW bM),R.new,
  λb o e=>k b o (λq=>?_) (R.stays b o e),R.e2,l⟩
 have:=R.new b (er.mpr (.inr q))
 rw[e]at this;exact absurd this (cB _)
theorem Ji{ρ:aT}{h ao:a8}(k:∀a o,a∉ρ.aR->h.get? a=some o->ao.get? a=some o):Carry ρ ρ h ao:=λa o n e=>⟨n,k a o (fz.mp n).2 e⟩
theorem Jj{l:aa aJ}{h ao:a8}{z:aJ}(dj:∀b o,b≠z->h.get? b=some o->ao.get? b=some o)(lv:∃o,ao.get? z=some o)(e:∀b∈l,∃o,h.get? b=some o):∀b∈l,∃o,ao.get? b=some o:=λb aq=>by
 by_cases q:b=z
 ·exact q▸lv
 ·obtain⟨o,e⟩:=e b aq;exact⟨o,dj b o q e⟩
theorem rl{ρ:aT}{h ao:a8}{z:aJ}(aO:z∈ρ.aR)(dj:∀b o,b≠z->h.get? b=some o->ao.get? b=some o):Carry ρ ρ h ao:=Ji λa o na e=>dj a o (λq=>na (q▸aO)) e
theorem Rep.rm{c:aG}{ρ:aT}{σ:aa Cell}{h ao:a8}{z:aJ}(R:Rep c ρ σ h)(aO:z∈ρ.aR)(dj:∀b o,b≠z->h.get? b=some o->ao.get? b=some o)(lv:∃o,ao.get? z=some o):Rep c ρ σ ao:=
 R.mut (λa o na e=>dj a o (λq=>na (q▸aO)) e) (Jj dj lv R.e3)
theorem Carry.trans{ρ ρ' lu:aT}{h ao j9:a8}(x:Carry ρ ρ' h ao)(y:Carry ρ' lu ao j9):Carry ρ lu h j9:=λa o na e=>y a o (x a o na e).1 (x a o na e).2
theorem v3{h:a8}{a:aJ}{m:au->bh aj}(n:h.Ns a m):∃o,h.get? a=some o:=let⟨o,_,_,aN,_⟩:=n;⟨o,aN⟩
noncomputable def aT.hide(ρ:aT)(l:aa aJ):aT:=⟨ρ.cs,l++ρ.aR⟩
theorem aT.tL{ρ:aT}{l:aa aJ}{a:aJ}:a∉(ρ.hide l).bar↔a∉l/\a∉ρ.bar:=by
 rw[fz,fz]
 show a∉addrs ρ.cs/\a∉l++ρ.aR↔_
 rw[gT,n']
 exact⟨λ⟨x,y,z⟩=>⟨y,x,z⟩,λ⟨y,x,z⟩=>⟨x,y,z⟩⟩
theorem ov{ρ:aT}{h ao:a8}{l:aa aJ}(n:∀b∈l,h.get? b=none)(k:∀b o,h.get? b=some o->ao.get? b=some o):Carry ρ (ρ.hide l) h ao:=λa o na e=>by
 refine⟨aT.tL.mpr ⟨λq=>?_,na⟩,k a o e⟩
 rw[n a q]at e;exact absurd e.symm (cB _)
theorem tM{ρ:aT}{h:a8}{l:aa aJ}:Carry (ρ.hide l) ρ h h:=λa o na e=>⟨(aT.tL.mp na).2,e⟩
theorem Rep.live{c:aG}{ρ:aT}{σ:aa Cell}{h:a8}(R:Rep c ρ σ h):∀b∈addrs ρ.cs,∃o,h.get? b=some o:=by
 intro b aq
 obtain⟨i,q,a7,e⟩:=ez.mp aq
 obtain⟨x,aA⟩:∃x,σ[i]? =some x:=by
  have:=(dH.mp a7).1
  rw[R.len]at this
  exact⟨_,dH.mpr ⟨this,rfl⟩⟩
 have C:=R.cells i q x a7 aA
 induction x with
 |list vs=>obtain⟨_,_,az,-,-,bF⟩:=C;rw[bF,or_self]at e;exact e▸⟨_,az⟩
 |dict vs=>obtain⟨_,⟨_,_,_,az,_⟩,-,-,bF⟩:=C;rw[bF,or_self]at e;exact e▸⟨_,az⟩
 |aZ b=>obtain⟨az,-,bF⟩:=C;rw[bF,or_self]at e;exact e▸⟨_,az⟩
 |inst ad0 bA=>
  obtain⟨az,es,n,ay,-⟩:=C
  rcases e with e|e
  ·exact e▸⟨_,az⟩
  ·exact e▸⟨_,ay⟩
theorem Rep.absent{c:aG}{ρ:aT}{σ:aa Cell}{h:a8}(R:Rep c ρ σ h){b:aJ}(e:h.get? b=none):b∉ρ.bar:=by
 rw[fz]
 exact⟨λq=>(by obtain⟨o,aN⟩:=R.live b q;rw[e]at aN;exact absurd aN.symm (cB _)),λq=>by obtain⟨o,aN⟩:=R.e3 b q;rw[e]at aN;exact absurd aN.symm (cB _)⟩
theorem Ext.gone{c:aG}{ρ ρ':aT}{σ:aa Cell}{h ao:a8}(x:Ext ρ ρ' h ao)(R:Rep c ρ' σ ao){b:aJ}(e:ao.get? b=none):h.get? b=none:=by
 cases q:h.get? b with
 |none=>rfl
 |some o=>
  by_cases z:b∈addrs ρ.cs
  ·exact absurd (er.mpr (.inl (x.sub z))) (R.absent e)
  ·rw[x.keep b o z q]at e;exact absurd e (cB _)
theorem Rep.pN{c:aG}{cs:aa (aJ×aJ)}{l l':aa aJ}{σ:aa Cell}{h ao:a8}(R:Rep c ⟨cs,l'⟩ σ h)(sub:∀b∈l,b∈l')(k:∀a o,a∉l'->h.get? a=some o->ao.get? a=some o)(lv:∀b∈l,∃o,ao.get? b=some o):Rep c ⟨cs,l⟩ σ ao:=by
 have x:∀b∈addrs cs,∀o,h.get? b=some o->ao.get? b=some o:=λb aq o e=>k b o (λq=>R.e2 b q aq) e
 have up:∀{b},b∈(⟨cs,l⟩:aT).bar->b∈(⟨cs,l'⟩:aT).bar:=λaq=>er.mpr ((er.mp aq).imp_right (sub _))
 refine⟨R.len,R.apart,λi p y aW bM=>ek.ext (ρ:=⟨cs,l'⟩) (ρ':=⟨cs,l⟩) (λJ J e=>e) (λa o na e=>⟨λq=>na (up q),k a o (fz.mp na).2 e⟩) (x p.1 (ez.mpr ⟨i,p,aW,.inl rfl⟩)) (x p.2 (ez.mpr ⟨i,p,aW,.inr rfl⟩)) (R.cells i p y aW bM),λb aq=>R.new b (up aq),
  λb o e=>k b o (λq=>?_) (R.stays b o e),λb aq=>R.e2 b (sub b aq),lv⟩
 have:=R.new b (er.mpr (.inr q))
 rw[e]at this;exact absurd this (cB _)
theorem Rep.hide{c:aG}{ρ:aT}{σ:aa Cell}{h ao:a8}{l:aa aJ}(R:Rep c ρ σ h)(k:∀b o,h.get? b=some o->ao.get? b=some o)(n:∀b∈l,h.get? b=none)(v:∀b∈l,∃o,ao.get? b=some o):Rep c (ρ.hide l) σ ao:=by
 refine⟨R.len,R.apart,λi p x a b=>ek.ext (ρ:=ρ) (ρ':=ρ.hide l) (λJ J e=>e) (ov n k) (k _) (k _) (R.cells i p x a b),λb aq=>?_,λb o e=>k b o (R.stays b o e),λb aq=>?_,λb aq=>?_⟩
 ·by_cases q:b∈l
  ·cases e:c.base.get? b with
   |none=>rfl
   |some o=>have:=R.stays b o e;rw[n b q]at this;exact absurd this.symm (cB _)
  ·refine R.new b ?_
   by_cases z:b∈ρ.bar
   ·exact z
   ·exact absurd aq (aT.tL.mpr ⟨q,z⟩)
 ·rcases gT.mp (show b∈l++ρ.aR from aq)with q|q
  ·exact(fz.mp (R.absent (n b q))).1
  ·exact R.e2 b q
 ·rcases gT.mp (show b∈l++ρ.aR from aq)with q|q
  ·exact v b q
  ·obtain⟨o,e⟩:=R.e3 b q;exact⟨o,k b o e⟩
theorem Rep.show{c:aG}{ρ:aT}{σ:aa Cell}{h:a8}{l:aa aJ}(R:Rep c (ρ.hide l) σ h):Rep c ρ σ h:=
 ⟨R.len,R.apart,λi p x a b=>ek.ext (ρ:=ρ.hide l) (ρ':=ρ) (λJ J e=>e) tM (λJ e=>e) (λJ e=>e) (R.cells i p x a b),λb aq=>R.new b (by
  rcases er.mp aq with q|q
  ·exact er.mpr (.inl q)
  ·exact er.mpr (.inr (i3 _ q))),R.stays,λb aq=>R.e2 b (i3 _ aq),λb aq=>R.e3 b (i3 _ aq)⟩
theorem Al{ρ:aT}{h ao:a8}{i:ab}{p:aJ×aJ}(aW:ρ.cs[i]? =some p)(k:∀b o,b≠p.1->b≠p.2->h.get? b=some o->ao.get? b=some o):Carry ρ ρ h ao:=λa o na e=>by
 refine⟨na,k a o ?_ ?_ e⟩
 ·rintro rfl;exact na (er.mpr (.inl (ez.mpr ⟨i,p,aW,.inl rfl⟩)))
 ·rintro rfl;exact na (er.mpr (.inl (ez.mpr ⟨i,p,aW,.inr rfl⟩)))
theorem Rep.change{c:aG}{ρ:aT}{σ:aa Cell}{h ao:a8}(R:Rep c ρ σ h){i:ab}{p:aJ×aJ}{y:Cell}(aW:ρ.cs[i]? =some p)
  (k:∀b o,b≠p.1->b≠p.2->h.get? b=some o->ao.get? b=some o)(bM:ek c ρ ao p y):Rep c ρ (σ.set i y) ao:=by
 have pO:p.1∈addrs ρ.cs/\p.2∈addrs ρ.cs:=⟨ez.mpr ⟨i,p,aW,.inl rfl⟩,ez.mpr ⟨i,p,aW,.inr rfl⟩⟩
 refine⟨by simpa using R.len,R.apart,λj q x bg aA=>?_,R.new,λb o e=>k b o ?_ ?_ (R.stays b o e),R.e2,λb aq=>?_⟩
 ·by_cases kC:i=j
  ·subst kC
   rw[aW]at bg;cases bg
   rw[H9 (by refine cv R.len ?_;exact(dH.mp aW).1)]at aA
   cases aA;exact bM
  ·rw[zy kC]at aA
   have A:=R.apart i j p q aW bg kC
   exact ek.ext (λJ J e=>e) (Al aW k) (λo=>k _ o (ht A.1) (ht A.2.2.1)) (λo=>k _ o (ht A.2.1) (ht A.2.2.2)) (R.cells j q x bg aA)
 ·rintro rfl;have:=R.new _ (er.mpr (.inl pO.1));rw[e]at this;exact absurd this (cB _)
 ·rintro rfl;have:=R.new _ (er.mpr (.inl pO.2));rw[e]at this;exact absurd this (cB _)
 ·obtain⟨o,e⟩:=R.e3 b aq
  have:=R.e2 b aq
  exact⟨o,k b o (λz=>this (z▸pO.1)) (λz=>this (z▸pO.2)) e⟩
theorem Ext.change{ρ:aT}{h ao:a8}{i:ab}{p:aJ×aJ}(aW:ρ.cs[i]? =some p)(k:∀b o,b≠p.1->b≠p.2->h.get? b=some o->ao.get? b=some o):Ext ρ ρ h ao:=by
 refine⟨⟨[],by simp⟩,rfl,λb o aq e=>k b o ?_ ?_ e,λJ a b=>absurd a b⟩
 ·rintro rfl;exact aq (ez.mpr ⟨i,p,aW,.inl rfl⟩)
 ·rintro rfl;exact aq (ez.mpr ⟨i,p,aW,.inr rfl⟩)
noncomputable def aT.add(ρ:aT)(p:aJ×aJ):aT:=⟨ρ.cs++[p],ρ.aR⟩
theorem Ext.add{ρ:aT}{h ao:a8}{p:aJ×aJ}(k:∀b o,h.get? b=some o->ao.get? b=some o)(cD:h.get? p.1=none)(cS:h.get? p.2=none):Ext ρ (ρ.add p) h ao:=by
 refine⟨⟨[p],rfl⟩,rfl,λb o J e=>k b o e,λb aq nb=>?_⟩
 rw[show(ρ.add p).cs=ρ.cs++[p]from rfl,hS]at aq
 rcases gT.mp aq with aq|aq
 ·exact absurd aq nb
 ·have aq:b=p.1\/b=p.2:=by simpa[addrs]using aq
  rcases aq with rfl|rfl
  ·exact cD
  ·exact cS
theorem Rep.add{c:aG}{ρ:aT}{σ:aa Cell}{h ao:a8}(R:Rep c ρ σ h){p:aJ×aJ}{y:Cell}(k:∀b o,h.get? b=some o->ao.get? b=some o)
  (cD:h.get? p.1=none)(cS:h.get? p.2=none)(bM:ek c (ρ.add p) ao p y):Rep c (ρ.add p) (σ++[y]) ao:=by
 have old:=R.live
 have X:Ext ρ (ρ.add p) h ao:=Ext.add k cD cS
 have split:∀(i:ab) q,(ρ.add p).cs[i]? =some q->(ρ.cs[i]? =some q/\i<ρ.cs.length)\/(i=ρ.cs.length/\q=p):=by
  intro i q e
  have e:(ρ.cs++[p])[i]? =some q:=e
  by_cases a7:i<ρ.cs.length
  ·rw[eG a7]at e;exact .inl ⟨e,a7⟩
  ·rw[eU (by exact kR ‹_›)]at e
   have:i-ρ.cs.length=0:=by
    by_cases z:i-ρ.cs.length=0
    ·exact z
    ·obtain⟨m,hm⟩:=ZP z;rw[hm]at e;simp at e
   rw[this]at e
   exact .inr ⟨by lia,by simpa using e.symm⟩
 have pP:∀b,b∈addrs (ρ.add p).cs->b∈addrs ρ.cs\/b=p.1\/b=p.2:=by
  intro b aq
  rw[show(ρ.add p).cs=ρ.cs++[p]from rfl,hS]at aq
  rcases gT.mp aq with aq|aq
  ·exact .inl aq
  ·exact .inr (by simpa[addrs]using aq)
 refine⟨by show(ρ.cs++[p]).length=_;simp[R.len],?_,λi q x bg aA=>?_,λb aq=>?_,λb o e=>k b o (R.stays b o e),λb aq q=>?_,λb aq=>let⟨o,e⟩:=R.e3 b aq;⟨o,k b o e⟩⟩
 ·intro i j q r bg a4 kC
  have low:∀(i:ab) q,ρ.cs[i]? =some q->∀b,h.get? b=none->q.1≠b/\q.2≠b:=λi q e b aq=>by
   obtain⟨o,aN⟩:=old _ (ez.mpr ⟨i,q,e,.inl rfl⟩)
   obtain⟨fe,kX⟩:=old _ (ez.mpr ⟨i,q,e,.inr rfl⟩)
   exact⟨λz=>(by rw[z,aq]at aN;exact absurd aN.symm (cB _)),λz=>(by rw[z,aq]at kX;exact absurd kX.symm (cB _))⟩
  rcases split i q bg with⟨a,_⟩|⟨a,rfl⟩<;>rcases split j r a4 with⟨b,_⟩|⟨b,rfl⟩
  ·exact R.apart i j q r a b kC
  ·have dU:=low i q a _ cD;have d5:=low i q a _ cS;exact⟨dU.1,d5.1,dU.2,d5.2⟩
  ·have dU:=low j r b _ cD;have d5:=low j r b _ cS;exact⟨ht dU.1,ht dU.2,ht d5.1,ht d5.2⟩
  ·lia
 ·rcases split i q bg with⟨a,l⟩|⟨a,rfl⟩
  ·rw[eG (by refine cv R.len ?_;exact l)]at aA
   exact ek.ext (λJ J e=>X.get e) X.carry (k _) (k _) (R.cells i q x a aA)
  ·rw[a,R.len,eU (eL _)]at aA
   simp only[ib,vC,vD]at aA
   refine cv aA ?_;exact bM
 ·rcases er.mp aq with aq|aq
  ·rcases pP b aq with aq|aq
   ·exact R.new b (er.mpr (.inl aq))
   ·cases e:c.base.get? b with
    |none=>rfl
    |some o=>
     have:=R.stays b o e
     rcases aq with rfl|rfl
     ·rw[cD]at this;exact absurd this.symm (cB _)
     ·rw[cS]at this;exact absurd this.symm (cB _)
  ·exact R.new b (er.mpr (.inr aq))
 ·have aq:b∈ρ.aR:=aq
  rcases pP b q with q|q
  ·exact R.e2 b aq q
  ·obtain⟨o,e⟩:=R.e3 b aq
   rcases q with rfl|rfl
   ·rw[cD]at e;exact absurd e.symm (cB _)
   ·rw[cS]at e;exact absurd e.symm (cB _)
noncomputable def d9(c:aG)(d:ab)(A:cy):Prop:=A.handled=none/\A.depth+6*d<=900/\A.units+24*d<=9000/\A.guards=some []/\∀l,c.fr=some l->A.frames=some l
structure b'(s s':aF):Prop where
 os:s'.os=s.os
 old:∀(i:ab) x,s.gens[i]? =some x->s'.gens[i]? =some x
 new:∀(i:ab) x,s.gens.size<=i->s'.gens[i]? =some x->x=.finished
theorem b'.refl(s:aF):b' s s:=⟨rfl,λJ J e=>e,λi x h e=>by rw[H' h]at e;exact absurd e.symm (cB _)⟩
theorem b'.of{s:aF}{h:a8}{t:ab}:b' s {s with heap:=h,toks:=t}:=⟨rfl,λJ J e=>e,λi x h e=>by
 have e:s.gens[i]? =some x:=e
 rw[H' h]at e;exact absurd e.symm (cB _)⟩
theorem b'.trans{s s' gh:aF}(x:b' s s')(y:b' s' gh):b' s gh:=by
 refine⟨y.os.trans x.os,λi a e=>y.old i a (x.old i a e),λi a h e=>?_⟩
 by_cases q:s'.gens.size<=i
 ·exact y.new i a q e
 ·have:s'.gens[i]? =some s'.gens[i]:=zz (by exact H4 ‹_›)
  have:=y.old i _ this
  rw[e]at this
  cases this
  exact x.new i _ h (zz (by exact H4 ‹_›))
noncomputable def ff(c:aG)(ρ:aT)(h:a8)(dS:au->bh aj)(env:bu)(x:au)(o:bh af):Prop:=
 match env.cells.lookup x with
 |none=>(match o with|some a=>∃v,dS x=some v/\bq c ρ h a v|none=>dS x=none)
 |some q=>∃cf,h.get? q=some cf/\(match o with|some a=>∃v,cf.data=.cell (some v)/\bq c ρ h a v|none=>cf.data=.cell none)
noncomputable def own(env:bu):aa aJ:=env.locals::env.cells.map (·.2)
abbrev aE:=aa (bh af)
structure dK(c:aG)(env:bu)(ls:aa au)(m:aE)(ρ:aT)(h:a8):Prop where
 ns:∃dS,h.Ns env.locals dS/\∀(i:ab) x,ls[i]? =some x->ff c ρ h dS env x (m.getD i none)
 aR:∀q∈own env,q∈ρ.aR
 cells:∀q∈env.cells.map (·.2),eO λcf v=>h.get? q=some cf/\cf.data=.cell v
 len:m.length=ls.length
structure gi(c:aG)(d:ab)(env:bu)(ls:aa au)(m:aE)(σ:aa Cell)(A:cy)(s:aF)(ρ:aT):Prop where
 a:d9 c d A
 r:Rep c ρ σ s.heap
 f:dK c env ls m ρ s.heap
theorem nD{x:au}{q:aJ}:∀{l:aa (au×aJ)},l.lookup x=some q->q∈l.map (·.2)
 |[],e=>by exact absurd e.symm (cB _)
 |(k,v)::r,e=>by
  replace e:(match x==k with|true=>some v|false=>r.lookup x)=some q:=e
  cases z:x==k with
  |true=>rw[z]at e;cases e;exact .head _
  |false=>rw[z]at e;exact .tail _ (nD e)
theorem ff.Am{c:aG}{ρ ρ':aT}{h ao:a8}{dS pQ:au->bh aj}{env:bu}{x:au}{o:bh af}(a4:∀(i:ab) p,ρ.cs[i]? =some p->ρ'.cs[i]? =some p)(bb:Carry ρ ρ' h ao)(hm:pQ x=dS x)
  (aP:∀q,env.cells.lookup x=some q->∀cf,h.get? q=some cf->ao.get? q=some cf)(e:ff c ρ h dS env x o):ff c ρ' ao pQ env x o:=by
 unfold ff at e⊢
 cases q:env.cells.lookup x with
 |none=>
  rw[q]at e
  induction o with
  |none=>exact hm.trans e
  |some a=>obtain⟨v,az,ay⟩:=e;exact⟨v,hm.trans az,bq.mono a4 bb _ _ ay⟩
 |some eW=>
  rw[q]at e
  obtain⟨cf,az,ay⟩:=e
  refine⟨cf,aP eW q cf az,?_⟩
  induction o with
  |none=>exact ay
  |some a=>obtain⟨v,ay,bF⟩:=ay;exact⟨v,ay,bq.mono a4 bb _ _ bF⟩
theorem ff.mono{c:aG}{ρ ρ':aT}{h ao:a8}{dS:au->bh aj}{env:bu}{x:au}{o:bh af}(a4:∀(i:ab) p,ρ.cs[i]? =some p->ρ'.cs[i]? =some p)(bb:Carry ρ ρ' h ao)
 (aP:∀q∈env.cells.map (·.2),∀cf,h.get? q=some cf->ao.get? q=some cf)(e:ff c ρ h dS env x o):ff c ρ' ao dS env x o:=e.Am a4 bb rfl λq bg=>aP q (nD bg)
theorem dK.ext{c:aG}{env:bu}{ls:aa au}{m:aE}{ρ ρ':aT}{σ:aa Cell}{h ao:a8}(R:Rep c ρ σ h)(F:dK c env ls m ρ h)(x:Ext ρ ρ' h ao):dK c env ls m ρ' ao:=by
 obtain⟨dS,ns,sl⟩:=F.ns
 have rn:∀q∈own env,∀cf,h.get? q=some cf->ao.get? q=some cf:=λq bg cf e=>x.keep q cf (R.e2 q (F.aR q bg)) e
 refine⟨⟨dS,?_,λi y bM=>ff.mono (λJ J e=>x.get e) x.carry (λq bg=>rn q (.tail _ bg)) (sl i y bM)⟩,λq bg=>by refine ae x.aR ?_;exact F.aR q bg,λq bg=>?_,F.len⟩
 ·obtain⟨o,es,hT,aN,r⟩:=ns
  exact⟨o,es,hT,rn _ (.head _) _ aN,r⟩
 ·obtain⟨cf,v,e,r⟩:=F.cells q bg
  exact⟨cf,v,rn q (.tail _ bg) _ e,r⟩
theorem gi.step{c:aG}{d:ab}{env:bu}{ls:aa au}{m:aE}{σ aC:aa Cell}{A:cy}{s s':aF}{ρ ρ':aT}(S:gi c d env ls m σ A s ρ)(R:Rep c ρ' aC s'.heap)(x:Ext ρ ρ' s.heap s'.heap):
 gi c d env ls m aC A s' ρ':=⟨S.a,R,S.f.ext S.r x⟩
inductive b5(c:aG)(ρ:aT)(s:aF)(Q:af->aa Cell->Prop)(v:aj)(s':aF):Prop
 |mk (a:af) (ρ':aT) (aC:aa Cell) (R:Rep c ρ' aC s'.heap) (X:Ext ρ ρ' s.heap s'.heap) (M:b' s s') (V:bq c ρ' s'.heap a v) (q:Q a aC)
inductive Jk(c:aG)(ρ:aT)(s:aF)(Q:aa af->aa Cell->Prop)(vs:aa aj)(s':aF):Prop
 |mk (as:aa af) (ρ':aT) (aC:aa Cell) (R:Rep c ρ' aC s'.heap) (X:Ext ρ ρ' s.heap s'.heap) (M:b' s s') (V:bT c ρ' s'.heap as vs) (q:Q as aC)
inductive iL{α:Type}(c:aG)(ρ:aT)(s:aF)(Q:α->aa Cell->Prop)(x:α)(s':aF):Prop
 |mk (ρ':aT) (aC:aa Cell) (R:Rep c ρ' aC s'.heap) (X:Ext ρ ρ' s.heap s'.heap) (M:b' s s') (q:Q x aC)
theorem b5.back{c:aG}{ρ bI:aT}{s s₁:aF}{Q:af->aa Cell->Prop}{v:aj}{s':aF}(x:Ext ρ bI s.heap s₁.heap)(y:b' s s₁)(p:b5 c bI s₁ Q v s'):b5 c ρ s Q v s':=
 let⟨a,ρ',aC,R,X,M,V,q⟩:=p;⟨a,ρ',aC,R,x.trans X,y.trans M,V,q⟩
theorem iL.back{α:Type}{c:aG}{ρ bI:aT}{s s₁:aF}{Q:α->aa Cell->Prop}{v:α}{s':aF}(x:Ext ρ bI s.heap s₁.heap)(y:b' s s₁)(p:iL c bI s₁ Q v s'):iL c ρ s Q v s':=
 let⟨ρ',aC,R,X,M,q⟩:=p;⟨ρ',aC,R,x.trans X,y.trans M,q⟩
abbrev cb:aj->aF->Prop:=λJ J=>bB
noncomputable def cz(c:aG)(d:ab)(env:bu)(ls:aa au)(t:bN aj)(m:aE)(σ:aa Cell)(Q:af->aa Cell->Prop):Prop:=
 ∀A s ρ,gi c d env ls m σ A s ρ->aK c.clean (model c.prog c.w) A t (b5 c ρ s Q) cb s
noncomputable def i9(c:aG)(d:ab)(env:bu)(ls:aa au)(t:bN (aa aj))(m:aE)(σ:aa Cell)(Q:aa af->aa Cell->Prop):Prop:=
 ∀A s ρ,gi c d env ls m σ A s ρ->aK c.clean (model c.prog c.w) A t (Jk c ρ s Q) cb s
noncomputable def gY(c:aG)(d:ab)(env:bu)(ls:aa au)(t:bN aS)(m:aE)(σ:aa Cell)(Q:aS->aa Cell->Prop):Prop:=
 ∀A s ρ,gi c d env ls m σ A s ρ->aK c.clean (model c.prog c.w) A t (iL c ρ s Q) cb s
noncomputable def iM(c:aG)(d:ab)(f:aj->bN aj)(a:af)(σ:aa Cell)(Q:af->aa Cell->Prop):Prop:=
 ∀A s ρ v,d9 c d A->Rep c ρ σ s.heap->bq c ρ s.heap a v->aK c.clean (model c.prog c.w) A (f v) (b5 c ρ s Q) cb s
noncomputable def cm(c:aG)(d:ab)(f:aj->aj->bN aj)(a b:af)(σ:aa Cell)(Q:af->aa Cell->Prop):Prop:=
 ∀A s ρ v w,d9 c d A->Rep c ρ σ s.heap->bq c ρ s.heap a v->bq c ρ s.heap b w->aK c.clean (model c.prog c.w) A (f v w) (b5 c ρ s Q) cb s
noncomputable def ow(c:aG)(d:ab)(f:aj->aj->aj->bN i0)(a b e:af)(σ:aa Cell)(Q:aa Cell->Prop):Prop:=
 ∀A s ρ v w u,d9 c d A->Rep c ρ σ s.heap->bq c ρ s.heap a v->bq c ρ s.heap b w->bq c ρ s.heap e u->aK c.clean (model c.prog c.w) A (f v w u) (iL c ρ s λJ aC=>Q aC) cb s
noncomputable def j'(c:aG)(d:ab)(a:af)(σ:aa Cell)(Q:aS->aa Cell->Prop):Prop:=
 ∀A s ρ v,d9 c d A->Rep c ρ σ s.heap->bq c ρ s.heap a v->aK c.clean (model c.prog c.w) A (truthy v) (iL c ρ s Q) cb s
noncomputable def v5(c:aG)(d:ab)(f:aa aj->bN aj)(as:aa af)(σ:aa Cell)(Q:af->aa Cell->Prop):Prop:=
 ∀A s ρ vs,d9 c d A->Rep c ρ σ s.heap->bT c ρ s.heap as vs->aK c.clean (model c.prog c.w) A (f vs) (b5 c ρ s Q) cb s
section
variable{c:aG}{d:ab}{env:bu}{ls:aa au}{m:aE}{σ:aa Cell}
theorem b5.here{ρ:aT}{s:aF}{Q:af->aa Cell->Prop}{a:af}{v:aj}{h:a8}{t:ab}(R:Rep c ρ σ s.heap)(k:∀b o,s.heap.get? b=some o->h.get? b=some o)
  (V:bq c ρ h a v)(q:Q a σ):b5 c ρ s Q v {s with heap:=h,toks:=t}:=
 ⟨a,ρ,σ,R.grow k,Ext.grow k,b'.of,V,q⟩
theorem b5.same{ρ:aT}{s:aF}{Q:af->aa Cell->Prop}{a:af}{v:aj}{t:ab}(R:Rep c ρ σ s.heap)(V:bq c ρ s.heap a v)(q:Q a σ):b5 c ρ s Q v {s with toks:=t}:=
 b5.here R (λJ J e=>e) V q
theorem b5.now{ρ:aT}{s:aF}{Q:af->aa Cell->Prop}{a:af}{v:aj}(R:Rep c ρ σ s.heap)(V:bq c ρ s.heap a v)(q:Q a σ):b5 c ρ s Q v s:=
 ⟨a,ρ,σ,R,Ext.refl _ _,b'.refl _,V,q⟩
theorem iL.now{α:Type}{ρ:aT}{s:aF}{Q:α->aa Cell->Prop}{v:α}(R:Rep c ρ σ s.heap)(q:Q v σ):iL c ρ s Q v s:=⟨ρ,σ,R,Ext.refl _ _,b'.refl _,q⟩
theorem b5.mono{ρ:aT}{s s':aF}{Q dJ:af->aa Cell->Prop}{v:aj}(k:∀a σ,Q a σ->dJ a σ)(p:b5 c ρ s Q v s'):b5 c ρ s dJ v s':=
 let⟨a,ρ',aC,R,X,M,V,q⟩:=p;⟨a,ρ',aC,R,X,M,V,k _ _ q⟩
theorem cz.mono{t:bN aj}{Q dJ:af->aa Cell->Prop}(h:cz c d env ls t m σ Q)(k:∀a σ,Q a σ->dJ a σ):cz c d env ls t m σ dJ:=
 λA s ρ S=>bo (h A s ρ S) (λJ J p=>p.mono k) λJ J x=>x
theorem v7{l r:a3}{op:jt}{pos:bD}{Q:af->aa Cell->Prop}(h:cz c d env ls (eval l env) m σ λa ax=>cz c d env ls (eval r env) m ax λb bt=>cm c d (binaryOp op) a b bt Q):
  cz c d env ls (eval (.BinOp l op r pos) env) m σ Q:=by
 intro A s ρ S
 rw[arm_eval_BinOp]
 refine bp (bo (h A s ρ S) (λv s₁ p=>?_) λJ J x=>x)
 obtain⟨a,bI,ax,bz,bx,bW,cJ,bK⟩:=p
 refine bp (du (bo (bK A s₁ bI (S.step bz bx)) (λw cj p=>?_) λJ J x=>x))
 obtain⟨b,dy,bt,cZ,cw,dM,eH,cN⟩:=p
 exact bV (dA (om (bo (cN A cj dy v w S.a cZ (cJ.ext bz cw) eH) (λJ J p=>(p.back cw dM).back bx bW) λJ J x=>x)))
theorem Jl{x:a3}{op:tf}{pos:bD}{Q:af->aa Cell->Prop}(h:cz c d env ls (eval x env) m σ λa ax=>iM c d (unaryOp op) a ax Q):cz c d env ls (eval (.UnaryOp op x pos) env) m σ Q:=by
 intro A s ρ S
 rw[arm_eval_UnaryOp]
 refine bp (bo (h A s ρ S) (λv s₁ p=>?_) λJ J x=>x)
 obtain⟨a,bI,ax,bz,bx,bW,cJ,bK⟩:=p
 exact bV (dA (du (bo (bK A s₁ bI v S.a bz cJ) (λJ J p=>p.back bx bW) λJ J x=>x)))
theorem v8{op:gu}{r:a3}{env:bu}(aW:behindInMarks op r=false):markedEach [op] [r] (evalEach [r] env)=[eval r env]:=by
 show [markedBehindIn op r (eval r env)]=_
 unfold markedBehindIn
 exact ae aW rfl
theorem Jm{op:gu}{r:a3}{env:bu}{pos:bD}(aW:behindInMarks op r=false)(v:aj):compareChain pos v [op] (markedEach [op] [r] (evalEach [r] env))=(holding [v] (eval r env)>>=λcq=>standAt pos>>=λJ=>operate [v,cq] (compareOp op v cq)):=by
 refine ae (v8 aW) ?_;rfl
theorem Jn{op:gu}{r:a3}{env:bu}{pos:bD}(aW:behindInMarks op r=false)(v:aj):testChain pos v [op] (markedEach [op] [r] (evalEach [r] env))=(holding [v] (eval r env)>>=λcq=>standAt pos>>=λJ=>operate [v,cq] (compareOp op v cq)>>=λc=>holding [c] (truthy c)):=by
 refine ae (v8 aW) ?_;rfl
theorem Jo{op hU:gu}{r q:a3}{env:bu}{pos:bD}(bg:behindInMarks hU q=false)(v:aj):testChain pos v [op,hU] (markedEach [op,hU] [r,q] (evalEach [r,q] env))=(holding [v] (eval r env)>>=λcq=>standAt pos>>=λJ=>holding [v,cq] (compareOp op v cq)>>=λc=>
  release [v,cq] [c]>>=λJ=>holding [c,cq] (truthy c)>>=λt=>if t=true then holding [cq] (eval q env)>>=λtN=>standAt pos>>=λJ=>operate [cq,tN] (compareOp hU cq tN)>>=λc=>holding [c] (truthy c)else pure false):=by
 show testChain pos v [op,hU] (eval r env::markedEach [hU] [q] (evalEach [q] env))=_
 refine ae (v8 bg) ?_;rfl
theorem An{l r:a3}{op:gu}{pos:bD}{Q:af->aa Cell->Prop}(aW:behindInMarks op r=false)(h:cz c d env ls (eval l env) m σ λa ax=>cz c d env ls (eval r env) m ax λb bt=>cm c d (compareOp op) a b bt Q):
  cz c d env ls (eval (.Compare l [op] [r] pos) env) m σ Q:=by
 intro A s ρ S
 rw[arm_eval_Compare]
 refine bp (bo (h A s ρ S) (λv s₁ p=>?_) λJ J x=>x)
 obtain⟨a,bI,ax,bz,bx,bW,cJ,bK⟩:=p
 rw[Jm aW]
 refine bp (du (bo (bK A s₁ bI (S.step bz bx)) (λw cj p=>?_) λJ J x=>x))
 obtain⟨b,dy,bt,cZ,cw,dM,eH,cN⟩:=p
 exact bV (dA (om (bo (cN A cj dy v w S.a cZ (cJ.ext bz cw) eH) (λJ J p=>(p.back cw dM).back bx bW) λJ J x=>x)))
theorem v9{l r:a3}{op:gu}{pos:bD}{whole:bN aj}{Q:aS->aa Cell->Prop}(aW:behindInMarks op r=false)
  (h:cz c d env ls (eval l env) m σ λa ax=>cz c d env ls (eval r env) m ax λb bt=>cm c d (compareOp op) a b bt λx b0=>j' c d x b0 Q):
  gY c d env ls (isTrue (.Compare l [op] [r] pos) env whole) m σ Q:=by
 intro A s ρ S
 rw[ZQ]
 refine bp (bo (h A s ρ S) (λv s₁ p=>?_) λJ J x=>x)
 obtain⟨a,bI,ax,bz,bx,bW,cJ,bK⟩:=p
 rw[Jn aW]
 refine bp (du (bo (bK A s₁ bI (S.step bz bx)) (λw cj p=>?_) λJ J x=>x))
 obtain⟨b,dy,bt,cZ,cw,dM,eH,cN⟩:=p
 refine bV (dA (bp (om (bo (cN A cj dy v w S.a cZ (cJ.ext bz cw) eH) (λu bE p=>?_) λJ J x=>x))))
 obtain⟨e,bH,b0,d3,eA,gy,fg,dG⟩:=p
 exact du (bo (dG A bE bH u S.a d3 fg) (λJ J p=>((p.back eA gy).back cw dM).back bx bW) λJ J x=>x)
theorem Jp{l r q:a3}{op hU:gu}{pos:bD}{whole:bN aj}{Q:aS->aa Cell->Prop}(bg:behindInMarks hU q=false)
  (h:cz c d env ls (eval l env) m σ λa ax=>cz c d env ls (eval r env) m ax λb bt=>cm c d (compareOp op) a b bt λx b0=>j' c d x b0 λt dY=>
   if t then cz c d env ls (eval q env) m dY λe i'=>cm c d (compareOp hU) b e i' λy hV=>j' c d y hV Q else Q false dY):
  gY c d env ls (isTrue (.Compare l [op,hU] [r,q] pos) env whole) m σ Q:=by
 intro A s ρ S
 rw[ZQ]
 refine bp (bo (h A s ρ S) (λv s₁ p=>?_) λJ J x=>x)
 obtain⟨a,bI,ax,bz,bx,bW,cJ,bK⟩:=p
 rw[Jo bg]
 refine bp (du (bo (bK A s₁ bI (S.step bz bx)) (λw cj p=>?_) λJ J x=>x))
 obtain⟨b,dy,bt,cZ,cw,dM,eH,cN⟩:=p
 refine bV (dA (bp (du (bo (cN A cj dy v w S.a cZ (cJ.ext bz cw) eH) (λu bE p=>?_) λJ J x=>x))))
 obtain⟨e,bH,b0,d3,eA,gy,fg,dG⟩:=p
 refine bV (zA (bp (du (bo (dG A bE bH u S.a d3 fg) (λt cL p=>?_) λJ J x=>x))))
 obtain⟨dq,dY,fa,d6,hy,fh⟩:=p
 have X:=((bx.trans cw).trans eA).trans d6
 have M:=((bW.trans dM).trans gy).trans hy
 induction t with
 |false=>exact bJ ⟨dq,dY,fa,X,M,fh⟩
 |true=>
  refine bp (du (bo (fh A cL dq (S.step fa X)) (λz ja p=>?_) λJ J x=>x))
  obtain⟨f,lx,i',ly,lZ,ro,Jq,nE⟩:=p
  refine bV (dA (bp (om (bo (nE A ja lx w z S.a ly (((eH.ext cZ eA).ext d3 d6).ext fa lZ) Jq) (λAo nF p=>?_) λJ J x=>x))))
  obtain⟨g,eQ,hV,l0,jx,mJ,nG,hW⟩:=p
  exact du (bo (hW A nF eQ Ao S.a l0 nG) (λJ J p=>((p.back jx mJ).back lZ ro).back X M) λJ J x=>x)
noncomputable def Ap(e:a3):Prop:=∀env whole,isTrue e env whole=(do let v<-whole;standAt e.pos;holding [v] (truthy v))
theorem fi{q:bD}(_:bu)(w:bN aj):(do let v<-w;standAt q;holding [v] (truthy v))=(do let v<-w;standAt q;holding [v] (truthy v)):=rfl
theorem Jr{e:a3}{Q:aS->aa Cell->Prop}(aW:Ap e)(h:cz c d env ls (eval e env) m σ λa ax=>j' c d a ax Q):gY c d env ls (isTrue e env (eval e env)) m σ Q:=by
 intro A s ρ S
 rw[aW]
 refine bp (bo (h A s ρ S) (λv s₁ p=>?_) λJ J x=>x)
 obtain⟨a,bI,ax,bz,bx,bW,cJ,bK⟩:=p
 exact bV (dA (du (bo (bK A s₁ bI v S.a bz cJ) (λJ J p=>p.back bx bW) λJ J x=>x)))
theorem Js{e:a3}{pos:bD}{whole:bN aj}{Q:aS->aa Cell->Prop}(h:gY c d env ls (isTrue e env (eval e env)) m σ λb ax=>Q (!b) ax):gY c d env ls (isTrue (.UnaryOp .Not e pos) env whole) m σ Q:=by
 intro A s ρ S
 rw[ZR]
 exact bp (bo (h A s ρ S) (λv s₁ p=>bJ (by obtain⟨bI,ax,R,X,M,q⟩:=p;exact⟨bI,ax,R,X,M,q⟩)) λJ J x=>x)
theorem v'(op:lR)(x:a3)(rest:aa a3)(env:bu):allTrue op (x::rest) env=(do
 match op,<-isTrue x env (eval x env)with
 |.And,false=>pure false
 |.Or,true=>pure true
 |_,_=>allTrue op rest env):=rfl
theorem Jt{op:lR}{es:aa a3}{pos:bD}{whole:bN aj}{Q:aS->aa Cell->Prop}(h:gY c d env ls (allTrue op es env) m σ Q):gY c d env ls (isTrue (.BoolOp op es pos) env whole) m σ Q:=by
 intro A s ρ S
 rw[ZS]
 exact h A s ρ S
theorem Aq{op:lR}{Q:aS->aa Cell->Prop}(h:Q (op==.And) σ):gY c d env ls (allTrue op [] env) m σ Q:=λJ J J S=>bJ (iL.now S.r h)
theorem Ar{op:lR}{x:a3}{rest:aa a3}{Q:aS->aa Cell->Prop}(h:gY c d env ls (isTrue x env (eval x env)) m σ λb ax=>match op,b with
  |.And,false=>Q false ax
  |.Or,true=>Q true ax
  |_,_=>gY c d env ls (allTrue op rest env) m ax Q):gY c d env ls (allTrue op (x::rest) env) m σ Q:=by
 intro A s ρ S
 rw[v']
 refine bp (bo (h A s ρ S) (λb s₁ p=>?_) λJ J x=>x)
 obtain⟨bI,ax,bz,bx,bW,bK⟩:=p
 induction op<;>induction b
 ·exact bJ ⟨bI,ax,bz,bx,bW,bK⟩
 ·exact bo (bK A s₁ bI (S.step bz bx)) (λJ J p=>p.back bx bW) λJ J x=>x
 ·exact bo (bK A s₁ bI (S.step bz bx)) (λJ J p=>p.back bx bW) λJ J x=>x
 ·exact bJ ⟨bI,ax,bz,bx,bW,bK⟩
theorem Ju{t b o:a3}{pos:bD}{Q:af->aa Cell->Prop}(h:gY c d env ls (isTrue t env (eval t env)) m σ λx ax=>if x then cz c d env ls (eval b env) m ax Q else cz c d env ls (eval o env) m ax Q):
  cz c d env ls (eval (.IfExp t b o pos) env) m σ Q:=by
 intro A s ρ S
 rw[arm_eval_IfExp]
 refine bp (bo (h A s ρ S) (λx s₁ p=>?_) λJ J x=>x)
 obtain⟨bI,ax,bz,bx,bW,bK⟩:=p
 induction x
 ·exact bo (bK A s₁ bI (S.step bz bx)) (λJ J p=>p.back bx bW) λJ J x=>x
 ·exact bo (bK A s₁ bI (S.step bz bx)) (λJ J p=>p.back bx bW) λJ J x=>x
theorem Jv{op:lR}{pos:bD}{x:bN aj}{Q:af->aa Cell->Prop}(h:cz c d env ls x m σ Q):cz c d env ls (boolOp pos op [x]) m σ Q:=h
theorem Jw{op:lR}{es:aa a3}{pos:bD}{Q:af->aa Cell->Prop}(h:cz c d env ls (boolOp pos op (evalEach es env)) m σ Q):cz c d env ls (eval (.BoolOp op es pos) env) m σ Q:=h
theorem As{op:lR}{pos:bD}{x y:bN aj}{rest:aa (bN aj)}{Q:af->aa Cell->Prop}(h:cz c d env ls x m σ λa ax=>j' c d a ax λt bt=>bt=ax/\match op,t with
  |.And,false=>Q a ax
  |.Or,true=>Q a ax
  |_,_=>cz c d env ls (boolOp pos op (y::rest)) m ax Q):cz c d env ls (boolOp pos op (x::y::rest)) m σ Q:=by
 intro A s ρ S
 show aK _ _ A (do
  let v<-x
  standAt pos
  let t<-holding [v] (truthy v)
  match op,t with
  |.And,false|.Or,true=>pure v
  |_,_=>boolOp pos op (y::rest)) _ _ s
 refine bp (bo (h A s ρ S) (λv s₁ p=>?_) λJ J x=>x)
 obtain⟨a,bI,ax,bz,bx,bW,cJ,bK⟩:=p
 refine bV (dA (bp (du (bo (bK A s₁ bI v S.a bz cJ) (λt cj p=>?_) λJ J x=>x))))
 obtain⟨dy,bt,cZ,cw,dM,e,cN⟩:=p
 subst e
 have V:=cJ.ext bz cw
 induction op<;>induction t
 ·exact bJ ⟨a,dy,_,cZ,bx.trans cw,bW.trans dM,V,cN⟩
 ·exact bo (cN A cj dy ((S.step bz bx).step cZ cw)) (λJ J p=>(p.back cw dM).back bx bW) λJ J x=>x
 ·exact bo (cN A cj dy ((S.step bz bx).step cZ cw)) (λJ J p=>(p.back cw dM).back bx bW) λJ J x=>x
 ·exact bJ ⟨a,dy,_,cZ,bx.trans cw,bW.trans dM,V,cN⟩
end
section
open Sem (wp)
structure fj(env:bu)(ρ ρ':aT)(h ao:a8):Prop where
 pre:∃t,ρ'.cs=ρ.cs++t
 aR:ρ'.aR=ρ.aR
 keep:∀b o,b∉addrs ρ.cs->b∉own env->h.get? b=some o->ao.get? b=some o
 fresh:∀b∈addrs ρ'.cs,b∉addrs ρ.cs->b∈own env\/h.get? b=none
theorem Ext.toF{env:bu}{ρ ρ':aT}{h ao:a8}(x:Ext ρ ρ' h ao):fj env ρ ρ' h ao:=⟨x.pre,x.aR,λb o a J e=>x.keep b o a e,λb p q=>.inr (x.fresh b p q)⟩
theorem fj.get{env:bu}{ρ ρ':aT}{h ao:a8}(x:fj env ρ ρ' h ao){i:ab}{p:aJ×aJ}(e:ρ.cs[i]? =some p):ρ'.cs[i]? =some p:=by
 obtain⟨t,q⟩:=x.pre
 (refine ae q ?_;refine ae (eG (dH.mp e).1) ?_)
 exact e
theorem fj.trans{env:bu}{ρ ρ' lu:aT}{h ao j9:a8}(x:fj env ρ ρ' h ao)(y:fj env ρ' lu ao j9):fj env ρ lu h j9:=by
 refine⟨?_,y.aR.trans x.aR,λb o aq aP e=>?_,λb aB aI=>?_⟩
 ·obtain⟨t,e⟩:=x.pre
  obtain⟨u,ck⟩:=y.pre
  exact⟨t++u,by rw[ck,e,ee]⟩
 ·exact y.keep b o (λq=>by rcases x.fresh b q aq with z|z;exact aP z;rw[z]at e;exact absurd e.symm (cB _)) aP (x.keep b o aq aP e)
 ·by_cases q:b∈addrs ρ'.cs
  ·exact x.fresh b q aI
  ·rcases y.fresh b aB q with z|z
   ·exact .inl z
   ·by_cases aP:b∈own env
    ·exact .inl aP
    ·cases e:h.get? b with
     |none=>exact .inr rfl
     |some o=>have:=x.keep b o aI aP e;rw[z]at this;exact absurd this.symm (cB _)
structure fk(env:bu)(ls:aa au):Prop where
 kind:env.scope.kind=.function
 nodup:ls.Nodup
 slot:∀x∈ls,(match env.cells.lookup x with|none=>env.kindOf x=some .local |some _=>env.kindOf x=some .cell\/env.kindOf x=some .free)
 names:∀x∈ls,(x==("__debug__":au))=false/\(x==("__classdict__":au))=false
 globals:env.globals=mainGlobals
 builtins:env.builtins=builtinsNs
 apart:env.locals∉env.cells.map (·.2)
 cells:∀x y q,x≠y->env.cells.lookup x=some q->env.cells.lookup y≠some q
inductive ct where
 |next|brk|cont|ret (a:af)
noncomputable def Jx(c:aG)(ρ:aT)(h:a8):ct->n9->Prop
 |.next,f=>f=.next
 |.brk,f=>f=.brk
 |.cont,f=>f=.cont
 |.ret a,f=>∃v,f=.ret v/\bq c ρ h a v
inductive lz(c:aG)(env:bu)(ls:aa au)(ρ:aT)(s:aF)(Q:ct->aE->aa Cell->Prop)(f:n9)(s':aF):Prop
 |mk (c7:ct) (cE:aE) (ρ':aT) (aC:aa Cell) (R:Rep c ρ' aC s'.heap) (X:fj env ρ ρ' s.heap s'.heap) (M:b' s s') (F:dK c env ls cE ρ' s'.heap) (V:Jx c ρ' s'.heap c7 f) (q:Q c7 cE aC)
inductive pR(c:aG)(env:bu)(ls:aa au)(ρ:aT)(s:aF)(Q:aE->aa Cell->Prop)(s':aF):Prop
 |mk (cE:aE) (ρ':aT) (aC:aa Cell) (R:Rep c ρ' aC s'.heap) (X:fj env ρ ρ' s.heap s'.heap) (M:b' s s') (F:dK c env ls cE ρ' s'.heap) (q:Q cE aC)
theorem fj.carry{c:aG}{env:bu}{ls:aa au}{m:aE}{ρ ρ':aT}{h ao:a8}(F:dK c env ls m ρ h)(x:fj env ρ ρ' h ao):Carry ρ ρ' h ao:=λa o na e=>by
 rw[fz]at na
 have no:a∉own env:=λq=>na.2 (F.aR a q)
 refine⟨fz.mpr ⟨λq=>?_,by refine ae x.aR ?_;exact na.2⟩,x.keep a o na.1 no e⟩
 rcases x.fresh a q na.1 with z|z
 ·exact no z
 ·rw[z]at e;exact absurd e.symm (cB _)
theorem bq.wa{c:aG}{env:bu}{ls:aa au}{m:aE}{ρ ρ':aT}{σ:aa Cell}{h ao:a8}(R:Rep c ρ σ h)(F:dK c env ls m ρ h)(x:fj env ρ ρ' h ao){a:af}{v:aj}(e:bq c ρ h a v):bq c ρ' ao a v:=
 bq.mono (λJ J q=>x.get q) (x.carry F) a v e
theorem bT.wa{c:aG}{env:bu}{ls:aa au}{m:aE}{ρ ρ':aT}{σ:aa Cell}{h ao:a8}(R:Rep c ρ σ h)(F:dK c env ls m ρ h)(x:fj env ρ ρ' h ao){a:aa af}{v:aa aj}(e:bT c ρ h a v):bT c ρ' ao a v:=
 bT.mono (λJ J q=>x.get q) (x.carry F) a v e
theorem lz.back{c:aG}{env:bu}{ls:aa au}{ρ bI:aT}{s s₁:aF}{Q:ct->aE->aa Cell->Prop}{f:n9}{s':aF}(x:fj env ρ bI s.heap s₁.heap)(y:b' s s₁)(p:lz c env ls bI s₁ Q f s'):lz c env ls ρ s Q f s':=
 let⟨c7,cE,ρ',aC,R,X,M,F,V,q⟩:=p;⟨c7,cE,ρ',aC,R,x.trans X,y.trans M,F,V,q⟩
theorem pR.back{c:aG}{env:bu}{ls:aa au}{ρ bI:aT}{s s₁:aF}{Q:aE->aa Cell->Prop}{s':aF}(x:fj env ρ bI s.heap s₁.heap)(y:b' s s₁)(p:pR c env ls bI s₁ Q s'):pR c env ls ρ s Q s':=
 let⟨cE,ρ',aC,R,X,M,F,q⟩:=p;⟨cE,ρ',aC,R,x.trans X,y.trans M,F,q⟩
noncomputable def eB(c:aG)(d:ab)(env:bu)(ls:aa au)(t:bN n9)(m:aE)(σ:aa Cell)(Q:ct->aE->aa Cell->Prop):Prop:=
 ∀A s ρ,gi c d env ls m σ A s ρ->aK c.clean (model c.prog c.w) A t (lz c env ls ρ s Q) cb s
noncomputable def hX(c:aG)(d:ab)(env:bu)(ls:aa au)(f:aj->bN i0)(a:af)(m:aE)(σ:aa Cell)(Q:aE->aa Cell->Prop):Prop:=
 ∀A s ρ v,gi c d env ls m σ A s ρ->bq c ρ s.heap a v->aK c.clean (model c.prog c.w) A (f v) (λJ=>pR c env ls ρ s Q) cb s
theorem fj.own{env:bu}{ρ:aT}{h ao:a8}(k:∀b o,b∉own env->h.get? b=some o->ao.get? b=some o):fj env ρ ρ h ao:=
 ⟨⟨[],by simp⟩,rfl,λb o J n e=>k b o n e,λJ a b=>absurd a b⟩
section
variable{c:aG}{d:ab}{env:bu}{ls:aa au}{m:aE}{σ:aa Cell}
theorem gi.Au{aC:aa Cell}{cE:aE}{A:cy}{s s':aF}{ρ ρ':aT}(S:gi c d env ls m σ A s ρ)(R:Rep c ρ' aC s'.heap)(F:dK c env ls cE ρ' s'.heap):gi c d env ls cE aC A s' ρ':=⟨S.a,R,F⟩
theorem Jy{i:ab}{o:bh af}(h:i<m.length):(m.set i o).getD i none=o:=by
 (refine ae (j2) ?_;refine ae (H9 h) ?_);rfl
theorem Jz{i j:ab}{o:bh af}(h:i≠j):(m.set i o).getD j none=m.getD j none:=by
 (refine ae (j2) ?_;refine ae (zy h) ?_;exact ae (j2) rfl)
theorem wb{k:aS}{M:gd}{A:cy}{E:aj->aF->Prop}{s:aF}{x:au}{v:aj}{Q:i0->aF->Prop}(h:aK k M A (storeName env x v) Q E s):aK k M A (bindName env x v) Q E s:=λde p i c=>by rw[Sem.wp_bindName];exact h de p i c
theorem JA{l:aa au}{i j:ab}{x:au}(n:l.Nodup)(a:l[i]? =some x)(b:l[j]? =some x):i=j:=by
 obtain⟨a1,a2⟩:=dH.mp a
 obtain⟨hY,iN⟩:=dH.mp b
 rcases Nat.lt_trichotomy i j with z|z|z
 ·exact absurd (a2.trans iN.symm) (tg.mp n i j a1 hY z)
 ·exact z
 ·exact absurd (iN.trans a2.symm) (tg.mp n j i hY a1 z)
theorem Av{ρ:aT}{h ao:a8}{i:ab}{x:au}{a:af}{dS pQ:au->bh aj}(E:fk env ls)(hm:m.length=ls.length)(aA:ls[i]? =some x)(ca:Carry ρ ρ h ao)(JB:∀y,y≠x->pQ y=dS y)(aP:∀y q,y≠x->env.cells.lookup y=some q->∀cf,h.get? q=some cf->ao.get? q=some cf)
  (sl:∀(i:ab) y,ls[i]? =some y->ff c ρ h dS env y (m.getD i none))(new:ff c ρ ao pQ env x (some a)):∀(j:ab) y,ls[j]? =some y->ff c ρ ao pQ env y ((m.set i (some a)).getD j none):=λj y bM=>by
 by_cases dN:j=i
 ·induction dN
  rw[aA]at bM;cases bM
  refine ae (Jy (hm▸(dH.mp aA).1)) ?_
  exact new
 ·have ne:y≠x:=λe=>dN (JA E.nodup (e▸bM) aA)
  refine ae (Jz (ht dN)) ?_
  exact ff.Am (λJ J e=>e) ca (JB y ne) (λq=>aP y q ne) (sl j y bM)
theorem dK.put{ρ:aT}{h ao:a8}{j:ab}{x:au}{a:af}{v:aj}(F:dK c env ls m ρ h)(E:fk env ls)(aA:ls[j]? =some x)(aY:env.cells.lookup x=none)
  (dj:∀b o,b≠env.locals->h.get? b=some o->ao.get? b=some o)(ca:Carry ρ ρ h ao)(V:bq c ρ h a v){dS:au->bh aj}(sl:∀(i:ab) y,ls[i]? =some y->ff c ρ h dS env y (m.getD i none))(ns:ao.Ns env.locals (λy=>if y=x then some v else dS y)):dK c env ls (m.set j (some a)) ρ ao:=
 ⟨⟨_,ns,Av E F.len aA ca (λy n=>cC n) (λy q J bg cf e=>dj q cf (λz=>E.apart (z▸nD bg)) e) sl (by unfold ff;refine ae aY ?_;exact⟨v,cV rfl,bq.mono (λJ J e=>e) ca _ _ V⟩)⟩,F.aR,
  λq bg=>let⟨cf,kY,e,r⟩:=F.cells q bg;⟨cf,kY,dj q cf (λz=>E.apart (z▸bg)) e,r⟩,by refine ae zB ?_;exact F.len⟩
theorem Aw{i:ab}{x:au}{a:af}{Q:aE->aa Cell->Prop}(E:fk env ls)(aA:ls[i]? =some x)(h:Q (m.set i (some a)) σ):hX c d env ls (λv=>storeName env x v) a m σ Q:=by
 intro A s ρ v S V
 have eX:=E.slot x (js aA)
 obtain⟨dS,ns,sl⟩:=S.f.ns
 have e5:env.locals∈own env:=.head _
 cases aP:env.cells.lookup x with
 |none=>
  rw[aP]at eX
  refine aK.of (ZT eX ns (λao aY hs=>?_) (by refine ae E.kind ?_;rfl))
  have dj:∀b o,b≠env.locals->s.heap.get? b=some o->ao.get? b=some o:=λb o n e=>(hs.2 b n).trans e
  have X:fj env ρ ρ s.heap ao:=fj.own λb o n=>dj b o λq=>n (q▸e5)
  exact⟨_,ρ,σ,S.r.rm (S.f.aR _ e5) dj (v3 aY),X,b'.of,S.f.put E aA aP dj (X.carry S.f) V sl aY,h⟩
 |some q=>
  rw[aP]at eX
  have wc:=nD aP
  have Ax:q∈own env:=.tail _ wc
  obtain⟨cf,v0,rp,hd⟩:=S.f.cells q wc
  have fin:∀ao,ao.IsCell q (some v)->ju q s.heap ao->pR c env ls ρ s Q {s with heap:=ao}:=by
   intro ao cx hs
   obtain⟨Ay,az,ay⟩:=cx
   have dj:∀b o,b≠q->s.heap.get? b=some o->ao.get? b=some o:=λb o n e=>(hs.2 b n).trans e
   have X:fj env ρ ρ s.heap ao:=fj.own λb o n=>dj b o λz=>n (z▸Ax)
   have kt:=X.carry S.f
   refine⟨_,ρ,σ,S.r.rm (S.f.aR _ Ax) dj ⟨_,az⟩,X,b'.of (t:=s.toks),⟨⟨dS,ns.sameBut hs (λz=>E.apart (by refine ae z ?_;exact wc)),Av E S.f.len aA kt (λJ J=>rfl) (λy eW ne mK cf e=>dj eW cf (λz=>E.cells y x eW ne mK (z▸aP)) e) sl ?_⟩,S.f.aR,λeW mK=>?_,by refine ae zB ?_;exact S.f.len⟩,h⟩
   ·unfold ff
    refine ae aP ?_
    exact⟨Ay,az,v,ay,bq.mono (λJ J e=>e) kt _ _ V⟩
   ·obtain⟨JC,kY,e,r⟩:=S.f.cells eW mK
    by_cases z:eW=q
    ·exact⟨Ay,_,z▸az,ay⟩
    ·exact⟨JC,kY,(hs.2 eW z).trans e,r⟩
  rcases eX with eX|eX
  ·exact aK.of (wpAny_storeName_cell E.kind eX aP ⟨cf,rp,hd⟩ fin)
  ·delta storeName
   refine ae eX (ae E.kind ?_)
   exact aK.of (bw (wpAny_cellOf aP (wpAny_cellSet ⟨cf,rp,hd⟩ fin)))
theorem JD{i:ab}{x:au}{pos:bD}{a:af}{Q:aE->aa Cell->Prop}(E:fk env ls)(aA:ls[i]? =some x)(h:Q (m.set i (some a)) σ):hX c d env ls (assign (.Name x pos) env) a m σ Q:=by
 intro A s ρ v S V
 rw[arm_assign_Name]
 exact bV (dA (wb (Aw E aA h A s ρ v S V)))
theorem JE{i:ab}{x:au}{pos:bD}{a:af}{Q:af->aa Cell->Prop}(E:fk env ls)(aA:ls[i]? =some x)(bL:m.getD i none=some a)(h:Q a σ):cz c d env ls (eval (.Name x pos) env) m σ Q:=by
 intro A s ρ S
 have hm:x∈ls:=js aA
 have eX:=E.slot x hm
 obtain⟨dS,ns,sl⟩:=S.f.ns
 have:=sl i x aA
 rw[bL]at this
 refine aK.of (wpAny_Name ?_ (E.names x hm).1)
 unfold ff at this
 cases aP:env.cells.lookup x with
 |none=>
  rw[aP]at this eX
  obtain⟨v,az,ay⟩:=this
  exact ZU E.kind eX ns az (b5.now S.r ay h)
 |some q=>
  rw[aP]at this eX
  obtain⟨cf,eb,v,az,ay⟩:=this
  rcases eX with eX|eX
  ·exact ZV E.kind eX aP ⟨cf,eb,az⟩ (b5.now S.r ay h)
  ·exact ZW E.kind eX aP ⟨cf,eb,az⟩ (b5.now S.r ay h) (E.names x hm).2
theorem Az{i:ab}{x:au}{a:af}{Q:af->aa Cell->Prop}(E:fk env ls)(aA:ls[i]? =some x)(bL:m.getD i none=some a)(h:Q a σ):cz c d env ls (loadName env x) m σ Q:=by
 intro A s ρ S
 have hm:x∈ls:=js aA
 have eX:=E.slot x hm
 obtain⟨dS,ns,sl⟩:=S.f.ns
 have:=sl i x aA
 rw[bL]at this
 unfold ff at this
 cases aP:env.cells.lookup x with
 |none=>
  rw[aP]at this eX
  obtain⟨v,az,ay⟩:=this
  exact aK.of (ZU E.kind eX ns az (b5.now S.r ay h))
 |some q=>
  rw[aP]at this eX
  obtain⟨cf,eb,v,az,ay⟩:=this
  rcases eX with eX|eX
  ·exact aK.of (ZV E.kind eX aP ⟨cf,eb,az⟩ (b5.now S.r ay h))
  ·exact aK.of (ZW E.kind eX aP ⟨cf,eb,az⟩ (b5.now S.r ay h) (E.names x hm).2)
end
end
structure aG.Ok(c:aG):Prop where
 fZ:c.K.In c.base
 g:∃jy,c.base.Ns mainGlobals jy
 b:∃fP,c.base.Ns builtinsNs fP/\∀x:au,x≠"__name__"->fP x=bootBuiltins x
 nolimit:c.base.NoLimit
 nodup:c.names.Nodup
noncomputable def AA(c:aG)(x:au)(a:af):Prop:=∃v,nsIn c.K mainGlobals x=some (some v)/\∀ρ h,c.base.StaysIn h->(∀b∈ρ.bar,c.base.get? b=none)->bq c ρ h a v
noncomputable def tO(c:aG)(x:au)(v:aj):Prop:=nsIn c.K mainGlobals x=some none/\bootBuiltins x=some v/\x≠"__name__"
theorem JF{k:aS}{M:gd}{A:cy}{E:aj->aF->Prop}{s:aF}{x:bN aj}{rest:aa (aS×bN aj)}{Q:aa aj->aF->Prop}
  (h:aK k M A x (λv s₁=>aK k M A (spliced rest) (λvs cj=>Q (v::vs) cj) E s₁) E s):aK k M A (spliced ((false,x)::rest)) Q E s:=by
 rw[spliced]
 exact bp (bo h (λv s₁ bK=>bp (bJ (bp (du (bo bK (λvs cj cN=>bJ cN) λJ J x=>x))))) λJ J x=>x)
theorem AB{k:aS}{M:gd}{A:cy}{E:aj->aF->Prop}{s:aF}{env:bu}{c:lQ}{Q:n9->aF->Prop}(aY:lk c)
  (aP:ea k M A c (λr s'=>match r with|.ok f=>Q f s'|.error _=>bB) s):aK k M A (runOwn c env) Q E s:=by
 exact nA (vV aY (ll (by exact aP) λr s' z=>by induction r<;>first|exact z|exact z.elim))
section
variable{c:aG}{d:ab}{env:bu}{ls:aa au}{m:aE}{σ:aa Cell}
theorem JG{x:au}{pos:bD}{a:af}{Q:af->aa Cell->Prop}(H:c.Ok)(E:fk env ls)(ba:env.kindOf x=some .globalImplicit)(hd:(x==("__debug__":au))=false)(c3:AA c x a)(h:Q a σ):
  cz c d env ls (eval (.Name x pos) env) m σ Q:=by
 intro A s ρ S
 obtain⟨v,az,ay⟩:=c3
 obtain⟨jy,G⟩:=H.g
 have dv:s.heap.Ns env.globals jy:=by refine ae E.globals ?_;exact G.keeps λb o e=>S.r.stays b o e
 exact aK.of (Ia E.kind ba (loadGlobal_global dv (mg_of H.fZ G az) (b5.now S.r (ay ρ _ S.r.stays S.r.new) h)) hd)
theorem JH{x:au}{pos:bD}{v:aj}{Q:af->aa Cell->Prop}(H:c.Ok)(E:fk env ls)(ba:env.kindOf x=some .globalImplicit)(hd:(x==("__debug__":au))=false)(c3:tO c x v)(h:Q (.val v) σ):
  cz c d env ls (eval (.Name x pos) env) m σ Q:=by
 intro A s ρ S
 obtain⟨az,ay,bF⟩:=c3
 obtain⟨jy,G⟩:=H.g
 obtain⟨fP,B,aq⟩:=H.b
 have dv:s.heap.Ns env.globals jy:=by refine ae E.globals ?_;exact G.keeps λb o e=>S.r.stays b o e
 have wd:s.heap.Ns env.builtins fP:=by refine ae E.builtins ?_;exact B.keeps λb o e=>S.r.stays b o e
 exact aK.of (Ia E.kind ba (ZX dv (mg_none_of H.fZ G az) wd ((aq x bF).trans ay) (b5.now S.r Jh h)) hd)
noncomputable def AD:te->bh af
 |.none=>some .none
 |.bool b=>some (.bool b)
 |.int i=>some (.int i)
 |.str s=>some (.str s)
 |.bytes b=>match qS b.length 1000 with|true=>some (.bytes b)|false=>none
 |_=>none
theorem tP{k:te}{n:ab}{pos:bD}{a:af}{Q:af->aa Cell->Prop}(e:AD k=some a)(h:Q a σ):cz c d env ls (eval (.Constant k n pos) env) m σ Q:=by
 intro A s ρ S
 rw[arm_eval_Constant]
 induction k with
 |none=>cases e;exact bJ (b5.now S.r ou h)
 |bool b=>cases e;exact bJ (b5.now S.r gx h)
 |int i=>cases e;exact aK.of (zC (b5.same S.r e4 h))
 |str x=>cases e;exactλJ J J J=>b5.same S.r vZ h
 |bytes b=>
  have e:(match qS b.length 1000 with|true=>some (af.bytes b)|false=>none)=some a:=e
  cases q:qS b.length 1000 with
  |true=>
   rw[q]at e;cases e
   have:=k' q
   exactλJ J J J=>b5.same S.r (mI (by exact c2 ‹_› (cK _ _))) h
  |false=>rw[q]at e;exact absurd e.symm (cB _)
 |_=>exact absurd e.symm (cB _)
noncomputable def plainArg:a3->aS:=nB true false (λJ=>true) (λJ=>true) (λJ=>true) (λJ=>true) λJ J J=>true
theorem we{e:a3}{rest:aa a3}{env:bu}(h:plainArg e=true):starEach (e::rest) env=(false,eval e env)::starEach rest env:=by
 cases e<;>first|rfl|cases h
theorem JI{pos:bD}{Q:aa af->aa Cell->Prop}(h:Q [] σ):i9 c d env ls (spliced (backTo pos (starEach [] env))) m σ Q:=
 λJ J ρ S=>bJ ⟨[],ρ,σ,S.r,Ext.refl _ _,b'.refl _,rfl,h⟩
theorem JJ{e:a3}{rest:aa a3}{pos:bD}{Q:aa af->aa Cell->Prop}(aW:plainArg e=true)
  (h:cz c d env ls (eval e env) m σ λa ax=>i9 c d env ls (spliced (backTo pos (starEach rest env))) m ax λas bt=>Q (a::as) bt):i9 c d env ls (spliced (backTo pos (starEach (e::rest) env))) m σ Q:=by
 intro A s ρ S
 refine ae (we aW) ?_
 refine JF (bo (h A s ρ S) (λv s₁ p=>?_) λJ J x=>x)
 obtain⟨a,bI,ax,bz,bx,bW,cJ,bK⟩:=p
 refine bo (bK A s₁ bI (S.step bz bx)) (λvs cj p=>?_) λJ J x=>x
 obtain⟨as,dy,bt,cZ,cw,dM,eH,cN⟩:=p
 exact⟨_,dy,bt,cZ,bx.trans cw,bW.trans dM,jw (cJ.ext bz cw) eH,cN⟩
theorem bT.length:∀{as:aa af} {vs:aa aj} {c:aG} {ρ:aT} {h:a8},bT c ρ h as vs->vs.length=as.length
 |[],_,_,_,_,e=>by refine ae (show _=_ from e) ?_;rfl
 |_::_,_,_,_,_,h0=>by obtain⟨_,_,e,_,r⟩:=h0;(refine ae e ?_;refine ae dc ?_;refine ae (bT.length r) ?_;exact ae dc rfl)
theorem jK(h:a8)(o:ew):∀b x,h.get? b=some x->(h.push o).get? b=some x:=λJ J e=>lS _ e
theorem f3{h:a8}:h.get? h.objs.size=none:=by
 cases e:h.get? h.objs.size with
 |none=>rfl
 |some o=>exact absurd (lT e) (qT _)
theorem b'.heap{s:aF}{h:a8}:b' s {s with heap:=h}:=⟨rfl,λJ J e=>e,λi x h e=>by
 have e:s.gens[i]? =some x:=e
 rw[H' h]at e;exact absurd e.symm (cB _)⟩
theorem JK{as:aa af}{Q:af->aa Cell->Prop}(aO:as.length<=1000000)(h:Q (.tup as) σ):v5 c d newTuple as σ Q:=by
 intro A s ρ vs _ R V
 have a5:=V.length
 refine aK.of<|oa ?_ (by show vs.toArray.size<=sizeLine;(refine ae fM ?_;refine ae a5 ?_;refine ae ha ?_);exact c2 ‹_› (cK _ _))
 have k:=jK s.heap {cls:=.type "tuple",data:=.seq vs.toArray}
 exact⟨.tup as,ρ,σ,R.grow k,Ext.grow k,b'.heap,⟨_,_,rfl,R.absent f3,ic _ rfl,bT.mono (λJ J e=>e) (tK k) _ _ V,aO⟩,h⟩
theorem JL{as:aa af}{Q:af->aa Cell->Prop}(aO:as.length<=1000000)(h:Q (.lst as) σ):v5 c d newList as σ Q:=by
 intro A s ρ vs _ R V
 have a5:=V.length
 refine aK.of<|oa ?_ (by show vs.toArray.size<=sizeLine;(refine ae fM ?_;refine ae a5 ?_;refine ae ha ?_);exact c2 ‹_› (cK _ _))
 have k:=jK s.heap {cls:=.type "list",data:=.seq vs.toArray}
 exact⟨.lst as,ρ,σ,R.grow k,Ext.grow k,b'.heap,⟨_,_,0,rfl,R.absent f3,ic _ rfl,bT.mono (λJ J e=>e) (tK k) _ _ V,aO⟩,h⟩
theorem Rep.AE{ρ:aT}{h:a8}{o:ew}{y:Cell}(R:Rep c ρ σ h)(bM:ek c (ρ.add (h.objs.size,h.objs.size)) (h.push o) (h.objs.size,h.objs.size) y):
  Rep c (ρ.add (h.objs.size,h.objs.size)) (σ++[y]) (h.push o)/\Ext ρ (ρ.add (h.objs.size,h.objs.size)) h (h.push o)/\bq c (ρ.add (h.objs.size,h.objs.size)) (h.push o) (.cell σ.length) (.ref h.objs.size):=
 ⟨R.add (jK h o) f3 f3 bM,Ext.add (jK h o) f3 f3,lr (p:=(h.objs.size,h.objs.size)) (by(refine cv R.len ?_;refine ae (eU (eL _)) ?_);simp) rfl⟩
theorem JM{as:aa af}{Q:af->aa Cell->Prop}(aO:as.length<=1000000)(h:Q (.cell σ.length) (σ++[.list as])):v5 c d newList as σ Q:=by
 intro A s ρ vs _ R V
 have a5:=V.length
 refine aK.of<|oa ?_ (by show vs.toArray.size<=sizeLine;(refine ae fM ?_;refine ae a5 ?_;refine ae ha ?_);exact c2 ‹_› (cK _ _))
 have k:=jK s.heap {cls:=.type "list",data:=.seq vs.toArray}
 have X:Ext ρ (ρ.add (s.heap.objs.size,s.heap.objs.size)) s.heap (s.heap.push {cls:=.type "list",data:=.seq vs.toArray}):=Ext.add k f3 f3
 obtain⟨hv,jb,gZ⟩:=R.AE (o:={cls:=.type "list",data:=.seq vs.toArray}) (y:=.list as) ⟨vs,0,ic _ rfl,V.ext R X,aO,rfl⟩
 exact⟨.cell σ.length,_,_,hv,jb,b'.heap,gZ,h⟩
theorem JN{es:aa a3}{k:ab}{pos:bD}{Q:af->aa Cell->Prop}(h:i9 c d env ls (spliced (backTo pos (starEach es env))) m σ λas ax=>as.length<=1000000/\Q (.tup as) ax):cz c d env ls (eval (.Tuple es k pos) env) m σ Q:=by
 intro A s ρ S
 rw[arm_eval_Tuple]
 refine bV (dA (bp (bo (h A s ρ S) (λvs s₁ p=>?_) λJ J x=>x)))
 obtain⟨as,bI,ax,bz,bx,bW,cJ,aO,bK⟩:=p
 exact bo (JK aO bK A s₁ bI vs S.a bz cJ) (λJ J p=>p.back bx bW) λJ J x=>x
theorem JO{es:aa a3}{pos:bD}{Q:af->aa Cell->Prop}(h:i9 c d env ls (spliced (backTo pos (starEach es env))) m σ λas ax=>as.length<=1000000/\Q (.lst as) ax):cz c d env ls (eval (.List es pos) env) m σ Q:=by
 intro A s ρ S
 rw[arm_eval_List]
 refine bV (dA (bp (bo (h A s ρ S) (λvs s₁ p=>?_) λJ J x=>x)))
 obtain⟨as,bI,ax,bz,bx,bW,cJ,aO,bK⟩:=p
 exact bo (JL aO bK A s₁ bI vs S.a bz cJ) (λJ J p=>p.back bx bW) λJ J x=>x
theorem JP{es:aa a3}{pos:bD}{Q:af->aa Cell->Prop}(h:i9 c d env ls (spliced (backTo pos (starEach es env))) m σ λas ax=>as.length<=1000000/\Q (.cell ax.length) (ax++[.list as])):cz c d env ls (eval (.List es pos) env) m σ Q:=by
 intro A s ρ S
 rw[arm_eval_List]
 refine bV (dA (bp (bo (h A s ρ S) (λvs s₁ p=>?_) λJ J x=>x)))
 obtain⟨as,bI,ax,bz,bx,bW,cJ,aO,bK⟩:=p
 exact bo (JM aO bK A s₁ bI vs S.a bz cJ) (λJ J p=>p.back bx bW) λJ J x=>x
theorem JQ{Q:ct->aE->aa Cell->Prop}(h:Q .next m σ):eB c d env ls (execs [] env) m σ Q:=
 λJ J ρ S=>bJ ⟨.next,m,ρ,σ,S.r,(Ext.refl _ _).toF,b'.refl _,S.f,rfl,h⟩
theorem execs_cons(st:b1)(rest:aa b1)(env:bu):execs (st::rest) env=(do
 match<-exec st env with
 |.next=>execs rest env
 |f=>pure f):=rfl
theorem JR{st:b1}{rest:aa b1}{Q:ct->aE->aa Cell->Prop}(h:eB c d env ls (exec st env) m σ λf m₁ ax=>match f with
  |.next=>eB c d env ls (execs rest env) m₁ ax Q
  |f=>Q f m₁ ax):eB c d env ls (execs (st::rest) env) m σ Q:=by
 intro A s ρ S
 rw[execs_cons]
 refine bp (bo (h A s ρ S) (λf s₁ p=>?_) λJ J x=>x)
 obtain⟨c7,m₁,bI,ax,bz,bx,bW,fG,cJ,bK⟩:=p
 induction c7 with
 |next=>refine ae (show f=.next from cJ) ?_;exact bo (bK A s₁ bI (S.Au bz fG)) (λJ J p=>p.back bx bW) λJ J x=>x
 |brk=>refine ae (show f=.brk from cJ) ?_;exact bJ ⟨.brk,m₁,bI,ax,bz,bx,bW,fG,rfl,bK⟩
 |cont=>refine ae (show f=.cont from cJ) ?_;exact bJ ⟨.cont,m₁,bI,ax,bz,bx,bW,fG,rfl,bK⟩
 |ret a=>obtain⟨v,rfl,V⟩:=cJ;exact bJ ⟨.ret a,m₁,bI,ax,bz,bx,bW,fG,⟨v,rfl,V⟩,bK⟩
theorem JS(E:fk env ls):interactive env=false:=by unfold interactive;refine ae E.kind ?_;rfl
noncomputable def pS(e:a3):Prop:=∀env t l,swapsWith e t l env=pure false
theorem aL(_:bu)(_:bh a3)(_:ab):(pure false:bN aS)=pure false:=rfl
theorem JT{e:a3}{pos:bD}{Q:ct->aE->aa Cell->Prop}(E:fk env ls)(aW:pS e)(h:cz c d env ls (eval e env) m σ λJ ax=>Q .next m ax):eB c d env ls (exec (.Expr e pos) env) m σ Q:=by
 intro A s ρ S
 refine ae (exec_Expr env e pos (JS E) (aW _ _ _)) ?_
 refine bV (dA (bp (bo (h A s ρ S) (λv s₁ p=>aK.of (wpAny_dropValue ?_)) λJ J x=>x)))
 obtain⟨a,bI,ax,bz,bx,bW,cJ,bK⟩:=p
 exact⟨.next,m,bI,ax,bz,bx.toF,bW,S.f.ext S.r bx,rfl,bK⟩
theorem JU{e:a3}{pos:bD}{Q:ct->aE->aa Cell->Prop}(h:cz c d env ls (eval e env) m σ λa ax=>Q (.ret a) m ax):eB c d env ls (exec (.Return (some e) pos) env) m σ Q:=by
 intro A s ρ S
 rw[arm_exec_Return]
 refine bV (dA (bp (bo (h A s ρ S) (λv s₁ p=>bJ ?_) λJ J x=>x)))
 obtain⟨a,bI,ax,bz,bx,bW,cJ,bK⟩:=p
 exact⟨.ret a,m,bI,ax,bz,bx.toF,bW,S.f.ext S.r bx,⟨v,rfl,cJ⟩,bK⟩
theorem JV{pos:bD}{Q:ct->aE->aa Cell->Prop}(h:Q (.ret .none) m σ):eB c d env ls (exec (.Return none pos) env) m σ Q:=by
 intro A s ρ S
 rw[arm_exec_Return]
 exact bV (dA (bJ ⟨.ret .none,m,ρ,σ,S.r,(Ext.refl _ _).toF,b'.refl _,S.f,⟨.none,rfl,rfl⟩,h⟩))
theorem JW{t:a3}{b o:aa b1}{pos:bD}{Q:ct->aE->aa Cell->Prop}(h:gY c d env ls (isTrue t env (eval t env)) m σ λx ax=>if x then eB c d env ls (execs b env) m ax Q else eB c d env ls (execs o env) m ax Q):
  eB c d env ls (exec (.If t b o pos) env) m σ Q:=by
 intro A s ρ S
 rw[Ib]
 refine bV (dA (bp (bo (h A s ρ S) (λx s₁ p=>?_) λJ J x=>x)))
 obtain⟨bI,ax,bz,bx,bW,bK⟩:=p
 induction x
 ·exact bo (bK A s₁ bI (S.step bz bx)) (λJ J p=>p.back bx.toF bW) λJ J x=>x
 ·exact bo (bK A s₁ bI (S.step bz bx)) (λJ J p=>p.back bx.toF bW) λJ J x=>x
theorem JX{t:a3}{msg:bh a3}{pos:bD}{Q:ct->aE->aa Cell->Prop}(h:gY c d env ls (isTrue t env (eval t env)) m σ λx ax=>x=true/\Q .next m ax):eB c d env ls (exec (.Assert t msg pos) env) m σ Q:=by
 intro A s ρ S
 rw[arm_exec_Assert]
 refine bV (dA (bp (bo (h A s ρ S) (λx s₁ p=>?_) λJ J x=>x)))
 obtain⟨bI,ax,bz,bx,bW,aA,bK⟩:=p
 subst aA
 exact bJ ⟨.next,m,bI,ax,bz,bx.toF,bW,S.f.ext S.r bx,rfl,bK⟩
noncomputable def nH(t:a3):Prop:=∀env,(∀e,swappedStores [t] e env=pure none)/\(assignEach [t] env).map (·.2)=[assign t env]
theorem bG{x:au}{p:bD}:nH (.Name x p):=λJ=>⟨λJ=>rfl,rfl⟩
theorem cT{o:a3}{x:au}{p:bD}:nH (.Attribute o x p):=λJ=>⟨λJ=>rfl,rfl⟩
theorem lA{o i:a3}{p:bD}:nH (.Subscript o i p):=λJ=>⟨λJ=>rfl,rfl⟩
theorem JY{t e:a3}{pos:bD}{Q:ct->aE->aa Cell->Prop}(aW:nH t)(he:pS e)
  (h:cz c d env ls (eval e env) m σ λa ax=>hX c d env ls (assign t env) a m ax λm₁ bt=>Q .next m₁ bt):eB c d env ls (exec (.Assign [t] e pos) env) m σ Q:=by
 intro A s ρ S
 rw[zD]
 have aB:swapsWithSole [t] e pos.line env=pure false:=he _ _ _
 refine ae aB ?_
 refine bV (dA (bp (bJ ?_)))
 refine bp (bo (h A s ρ S) (λv s₁ p=>?_) λJ J x=>x)
 obtain⟨a,bI,ax,bz,bx,bW,cJ,bK⟩:=p
 rw[(aW env).1,(aW env).2]
 refine bp (bJ ?_)
 refine bp (bo (bK A s₁ bI v (S.step bz bx) cJ) (λJ cj p=>bJ ?_) λJ J x=>x)
 obtain⟨m₂,dy,bt,cZ,cw,dM,kZ,cN⟩:=p
 exact⟨.next,m₂,dy,bt,cZ,bx.toF.trans cw,bW.trans dM,kZ,rfl,cN⟩
theorem AF{i:ab}{x:au}{ox pos:bD}{op:jt}{e:a3}{Q:ct->aE->aa Cell->Prop}(E:fk env ls)(aA:ls[i]? =some x)
  (h:cz c d env ls (loadName env x) m σ λa ax=>cz c d env ls (eval e env) m ax λb bt=>cm c d (inplaceOp op) a b bt λr b0=>Q .next (m.set i (some r)) b0):
  eB c d env ls (exec (.AugAssign (.Name x ox) op e pos) env) m σ Q:=by
 intro A s ρ S
 rw[arm_exec_AugAssign]
 refine bV (dA (bp (bo (h A s ρ S) (λv s₁ p=>?_) λJ J x=>x)))
 obtain⟨a,bI,ax,bz,bx,bW,cJ,bK⟩:=p
 refine bp (du (bo (bK A s₁ bI (S.step bz bx)) (λw cj p=>?_) λJ J x=>x))
 obtain⟨b,dy,bt,cZ,cw,dM,eH,cN⟩:=p
 refine bV (dA (bp (om (bo (cN A cj dy v w S.a cZ (cJ.ext bz cw) eH) (λu bE p=>?_) λJ J x=>x))))
 obtain⟨r,bH,b0,d3,eA,gy,fg,dG⟩:=p
 refine bV (dA (bp (wb (bo (Aw (Q:=λm₁ dY=>Q .next m₁ dY) E aA dG A bE bH u (((S.step bz bx).step cZ cw).step d3 eA) fg) (λJ cL p=>bJ ?_) λJ J x=>x))))
 obtain⟨rq,dq,dY,fa,d6,hy,pT,fh⟩:=p
 exact⟨.next,rq,dq,dY,fa,((bx.trans cw).trans eA).toF.trans d6,((bW.trans dM).trans gy).trans hy,pT,rfl,fh⟩
theorem JZ{t:a3}{b:aa b1}{pos:bD}{Q:ct->aE->aa Cell->Prop}(I:ab->aE->aa Cell->Prop)(n:ab)(h0:I n m σ)
  (turn:∀n m σ,I n m σ->gY c d env ls (isTrue t env (eval t env)) m σ λx ax=>if x then eB c d env ls (execs b env) m ax (λf m₂ bt=>match f with
   |.next=>∃k,k<n/\I k m₂ bt
   |.cont=>∃k,k<n/\I k m₂ bt
   |.brk=>Q .next m₂ bt
   |.ret a=>Q (.ret a) m₂ bt)else Q .next m ax):eB c d env ls (exec (.While t b [] pos) env) m σ Q:=by
 intro A s ρ S
 rw[arm_exec_While]
 refine bV (dA (AB trivial ?_))
 refine(ll (R:=λr s'=>match r with|.ok f=>lz c env ls ρ s Q f s'|.error _=>bB) ?_ λr s' z=>by induction r<;>first|exact z|exact z.elim)
 refine tH (c:=.whileLoop t b [] env) rfl trivial (λn s'=>hO λcE ρ' aC=>pM (Rep c ρ' aC s'.heap) (fj env ρ ρ' s.heap s'.heap) (b' s s') (dK c env ls cE ρ' s'.heap) (I n cE aC)) ?_ n ⟨m,ρ,σ,S.r,(Ext.refl _ _).toF,b'.refl _,S.f,h0⟩
 rintro n s₁ ⟨m₁,bI,ax,bz,bx,bW,fG,bK⟩
 refine ae (Around.under_of_weight rfl) ?_
 refine nA (bo (E:=cb) ?_ (λJ J x=>x) λJ J x=>x.elim)
 refine bp (bo (turn n m₁ ax bK A s₁ bI ⟨S.a,bz,fG⟩) (λx cj p=>?_) λJ J x=>x)
 obtain⟨dy,bt,cZ,cw,dM,cN⟩:=p
 have kZ:=fG.ext bz cw
 induction x with
 |false=>exact bp (bJ (bJ ⟨.next,m₁,dy,bt,cZ,bx.trans cw.toF,bW.trans dM,kZ,rfl,cN⟩))
 |true=>
  refine bp (bo (cN A cj dy ⟨S.a,cZ,kZ⟩) (λf bE p=>?_) λJ J x=>x)
  obtain⟨c7,jz,bH,b0,d3,eA,gy,mL,fg,dG⟩:=p
  have X:=(bx.trans cw.toF).trans eA
  have M:=(bW.trans dM).trans gy
  induction c7 with
  |next=>obtain⟨k,ba,gv⟩:=dG;refine ae (show f=.next from fg) ?_;exact bJ (.inl ⟨rfl,k,ba,jz,bH,b0,d3,X,M,mL,gv⟩)
  |cont=>obtain⟨k,ba,gv⟩:=dG;refine ae (show f=.cont from fg) ?_;exact bJ (.inl ⟨rfl,k,ba,jz,bH,b0,d3,X,M,mL,gv⟩)
  |brk=>refine ae (show f=.brk from fg) ?_;exact bJ ⟨.next,jz,bH,b0,d3,X,M,mL,rfl,dG⟩
  |ret a=>obtain⟨v,rfl,V⟩:=fg;exact bJ ⟨.ret a,jz,bH,b0,d3,X,M,mL,⟨v,rfl,V⟩,dG⟩
end
section
open Sem (wp)
section
variable{k:aS}{M:gd}{A:cy}{E:aj->aF->Prop}{s:aF}
theorem J0{α:Type}{vs:aa aj}{m:bN α}{Q:α->aF->Prop}(h:aK k M A m Q E s):aK k M A (m.keep vs) Q E s:=λde p i c=>by
 rw[Sem.wp_keep];exact h de p i c
theorem wg{f:aj}{first:aa aj}{pos:bD}{Q:aj->aF->Prop}{P:a8->Prop}{args:aa (aS×bN aj)}{keywords:aa (bh au×bN aj)}(J1:(args.any (·.1)||keywords.any (·.1.isNone))=false)
  (ba:∀h,P h->∃k,(k=zE\/k=zF\/k=zG)/\la M h (keeperOf f) k)
  (h:aK k M A (evalArgs f true args keywords) (λa s₁=>P s₁.heap/\aK k M A (call f (first++a.pos) a.kw) Q E s₁) E s):aK k M A (callWith pos f first args keywords) Q E s:=by
 refine bp (du (bo h (λa s₁ bK=>bV (dA ?_)) λJ J x=>x))
 obtain⟨c',jc,L⟩:=ba _ bK.1
 refine ae J1 ?_
 refine bV (L.here ?_)
 have tail:∀{t:bN aj},aK k M A t Q E s₁->aK k M A (t>>=λr=>holding [r] point>>=λJ=>pure r) Q E s₁:=
  λbb=>bp (bo bb (λr cj a4=>bp (du (aK.of (wpAny_point (bJ a4))))) λJ J x=>x)
 have marked (mk:aj):aK k M A (callMarked mk f (first++a.pos) a.kw) Q E s₁:=by unfold callMarked;exact J0 bK.2
 have two (mk:aj):aK k M A (if args.length+2*keywords.length>30 then call f (first++a.pos) a.kw>>=λr=>holding [r] point>>=λJ=>pure r else callMarked mk f (first++a.pos) a.kw>>=λr=>holding [r] point>>=λJ=>pure r) Q E s₁:=by
  by_cases z:args.length+2*keywords.length>30
  ·exact ae (cV z) (tail bK.2)
  ·exact ae (cC z) (tail (marked mk))
 rcases jc with rfl|rfl|rfl
 ·exact two _
 ·exact tail bK.2
 ·exact two _
theorem J2{x:bN aj}{rest:aa (bN aj)}{Q:aa aj->aF->Prop}
  (h:aK k M A x (λv s₁=>aK k M A (evalAll rest) (λvs cj=>Q (v::vs) cj) E s₁) E s):aK k M A (evalAll (x::rest)) Q E s:=by
 rw[evalAll]
 exact bp (bo h (λv s₁ bK=>bp (du (bo bK (λvs cj cN=>bJ cN) λJ J x=>x))) λJ J x=>x)
theorem J3{f:aj}{x:bN aj}{rest:aa (aS×bN aj)}{keywords:aa (bh au×bN aj)}{Q:ob->aF->Prop}
  (pU:keywords.all (·.1.isSome)=true)
  (h:aK k M A (spliced ((false,x)::rest)) (λvs s₁=>aK k M A (evalAll (keywords.map (·.2))) (λks cj=>Q ⟨vs,(keywords.filterMap (·.1)).zip ks⟩ cj) E s₁) E s):
  aK k M A (evalArgs f true ((false,x)::rest) keywords) Q E s:=by
 refine bp (bo h (λvs s₁ bK=>?_) λJ J x=>x)
 refine du ?_
 simp only[pU,vE]
 refine bp (bo bK (λks cj cN=>?_) λJ J x=>x)
 exact bp (bJ (bJ cN))
theorem J4{f:aj}{keywords:aa (bh au×bN aj)}{Q:ob->aF->Prop}(pU:keywords.all (·.1.isSome)=true)
  (h:aK k M A (evalAll (keywords.map (·.2))) (λks cj=>Q ⟨[],(keywords.filterMap (·.1)).zip ks⟩ cj) E s):aK k M A (evalArgs f true [] keywords) Q E s:=by
 refine bV (Calls.spliced_nil ?_)
 refine bp (bJ ?_)
 refine du ?_
 simp only[pU,vE]
 refine bp (bo h (λks cj cN=>?_) λJ J x=>x)
 exact bp (bJ (bJ cN))
end
section
variable{k:aS}{prog:fc}{w:cu}{A:cy}{E:aj->aF->Prop}{s:aF}{R:iG->aF->Prop}
theorem AG{body:aa b1}{env:bu}(h:aK k (model prog w) (A.deeper env) (execs body env) (λf s'=>R (.ok (.ret (match f with|.ret v=>v|_=>.none))) s')
  (λe s'=>aK k (model prog w) (A.deeper env) (leaving env e) (λJ gh=>R (.error e) gh) cb s') s):ea k (model prog w) A (.func body env) R s:=by
 refine lp ?_
 refine bV (wpAny_point (bp (nA (bo h (λf s' ao=>?_) λJ J ao=>bo ao (λJ J ao=>ao) λJ J ao=>ao.elim))))
 induction f<;>exact bJ ao
theorem J5{a:aJ}{o:ew}{fd:hb}{body:aa b1}{args:ob}{binds:aa (au×aj)}
  (nI:A.depth<recursionLimit)(aN:s.heap.get? a=some o)(wi:o.data=.func fd)(wj:s.heap.NoLimit)(rr:s.heap.CodeRec fd.code fd.qualname)
  (wk:fd.body=.stmts body)(oy:BindsTo s fd args binds)
  (hz:∀x∈fd.scope.names,x.2≠.cell)(hZ:∀x∈binds,fd.scope.names.lookup x.1=some .local)
  (h:∀h₀,h₀.Ns s.heap.objs.size (λx=>binds.reverse.lookup x)->(∀b o,s.heap.get? b=some o->h₀.get? b=some o)->
   aK k (model prog w) (A.deeper (callEnv fd s.heap.objs.size a)) (execs body (callEnv fd s.heap.objs.size a)) (λf s'=>R (.ok (.ret (match f with|.ret v=>v|_=>.none))) s')
    (λe s'=>aK k (model prog w) (A.deeper (callEnv fd s.heap.objs.size a)) (leaving (callEnv fd s.heap.objs.size a) e) (λJ gh=>R (.error e) gh) cb s') {s with heap:=h₀,toks:=s.toks+binds.length})
  (wm:fd.scope.isCoroutine=false)(wo:fd.scope.isGenerator=false)(ba:fd.scope.kind=.function):
  ea k (model prog w) A (.call (.ref a) args) R s:=by
 refine lp ?_
 refine bV (oc aN ?_)
 obtain⟨c,pV,vs,tQ,aP,wq,wt,bg⟩:=id rr
 refine ae wi ?_
 show aK k (model prog w) _ (callFunction a fd args) _ _ _
 delta callFunction
 refine ae aP (ae wm (ae wo (ae wk ?_)))
 refine bV (m:=field (.ref c) 1) (i4 wq wt bg (bp (bJ ?_)))
 refine bV (oy _ _ _ _ ?_)
 refine cv aP ?_
 refine bV (ZY hz hZ (λh₀ J6 AH=>?_) ba)
 refine bV (wpAny_enterFrame (wj.fresh _ AH) nI (bJ (ie rfl (ie trivial (AG (h h₀ J6 λb o e=>?_))))))
 exact AH.extBut b o (Ic (lT e)) (lS _ e)
end
end
noncomputable def cH(c:aG)(d:ab)(f:aj)(as:aa af)(kw:aa (au×af))(σ:aa Cell)(Q:af->aa Cell->Prop):Prop:=
 ∀A s ρ vs kvs,d9 c d A->Rep c ρ σ s.heap->bT c ρ s.heap as vs->bT c ρ s.heap (kw.map (·.2)) kvs->
  aK c.clean (model c.prog c.w) A (call f vs ((kw.map (·.1)).zip kvs)) (b5 c ρ s Q) cb s
inductive J7(c:aG)(ρ:aT)(s:aF)(Q:af->aa Cell->Prop)(r:iG)(s':aF):Prop
 |mk (v:aj) (e:r=.ok (.ret v)) (p:b5 c ρ s Q v s')
noncomputable def bc(c:aG)(d:ab)(f:aj)(as:aa af)(kw:aa (au×af))(σ:aa Cell)(Q:af->aa Cell->Prop):Prop:=
 ∀A s ρ vs kvs,d9 c d A->Rep c ρ σ s.heap->bT c ρ s.heap as vs->bT c ρ s.heap (kw.map (·.2)) kvs->
  ea c.clean (model c.prog c.w) A (.call f ⟨vs,(kw.map (·.1)).zip kvs⟩) (J7 c ρ s Q) s
theorem bc.call{c:aG}{d:ab}{f:aj}{as:aa af}{kw:aa (au×af)}{σ:aa Cell}{Q:af->aa Cell->Prop}(h:bc c d f as kw σ Q):cH c d f as kw σ Q:=
 λA s ρ vs kvs a b e g=>mF (ll (h A s ρ vs kvs a b e g) λr s' p=>by obtain⟨v,rfl,p⟩:=p;exact p)
theorem d9.lower{c:aG}{d i8:ab}{A:cy}(h:d9 c d A)(q:i8<=d):d9 c i8 A:=⟨h.1,by have:=h.2.1;exact ne λJ=>by lia,by have:=h.2.2.1;exact ne λJ=>by lia,h.2.2.2⟩
theorem d9.deeper{c:aG}{d:ab}{A:cy}{env:bu}(hf:c.fr=none)(h:d9 c (d+1) A):d9 c d (A.deeper env):=⟨h.1,by have:=h.2.1;show A.depth+1+_<=_;exact ne λJ=>by lia,by have:=h.2.2.1;show A.units+3+_<=_;exact ne λJ=>by lia,h.2.2.2.1,λl e=>by rw[hf]at e;exact absurd e.symm (cB _)⟩
theorem d9.room{c:aG}{d:ab}{A:cy}(h:d9 c d A):A.depth<recursionLimit:=by have:=h.2.1;show A.depth<1000;exact nl λJ=>by lia
noncomputable def oz(c:aG)(f:aj):Prop:=(∃i,f=.builtin i)\/(∃n,f=.type n)\/keepIn c.K f=true
section
variable{c:aG}{d:ab}{env:bu}{ls:aa au}{m:aE}{σ:aa Cell}
theorem cH.mono{f:aj}{as:aa af}{kw:aa (au×af)}{Q dJ:af->aa Cell->Prop}(h:cH c d f as kw σ Q)(k:∀a σ,Q a σ->dJ a σ):cH c d f as kw σ dJ:=
 λA s ρ vs kvs a b e g=>bo (h A s ρ vs kvs a b e g) (λJ J p=>p.mono k) λJ J x=>x
theorem bc.lower{i8:ab}{f:aj}{as:aa af}{kw:aa (au×af)}{Q:af->aa Cell->Prop}(h:bc c d f as kw σ Q)(q:d<=i8):bc c i8 f as kw σ Q:=
 λA s ρ vs kvs a b e g=>h A s ρ vs kvs (a.lower q) b e g
noncomputable def kD:aa jG->aa au
 |[]=>[]
 |⟨n,_,_⟩::r=>n.getD Str.empty::kD r
noncomputable def lB(kws:aa jG):aS:=kws.all λk=>match k with|⟨n,_,_⟩=>n.isSome
theorem wu(pos:bD)(env:bu):∀{kws:aa jG},lB kws=true->(backToKw pos (keywordEach kws env)).all (·.1.isSome)=true
 |[],_=>rfl
 |⟨n,v,p⟩::r,h=>by
  have h:(n.isSome&&lB r)=true:=h
  rw[gf]at h
  show(n.isSome&&(backToKw pos (keywordEach r env)).all (·.1.isSome))=true
  (refine ae h.1 ?_;refine ae (wu pos env h.2) ?_);rfl
theorem kw_none(pos:bD)(env:bu):∀{kws:aa jG},lB kws=true->(backToKw pos (keywordEach kws env)).any (·.1.isNone)=false
 |[],_=>rfl
 |⟨n,v,p⟩::r,h=>by
  have h:(n.isSome&&lB r)=true:=h
  rw[gf]at h
  show(n.isNone||(backToKw pos (keywordEach r env)).any (·.1.isNone))=false
  rw[kw_none pos env h.2,Bool.or_false]
  induction n<;>first|rfl|cases h.1
theorem AI(pos:bD)(env:bu):∀{kws:aa jG},lB kws=true->(backToKw pos (keywordEach kws env)).filterMap (·.1)=kD kws
 |[],_=>rfl
 |⟨n,v,p⟩::r,h=>by
  have h:(n.isSome&&lB r)=true:=h
  rw[gf]at h
  obtain⟨x,rfl⟩:=ZZ.mp h.1
  show x::(backToKw pos (keywordEach r env)).filterMap (·.1)=_
  refine ae (AI pos env h.2) ?_;rfl
noncomputable def nJ(c:aG)(d:ab)(env:bu)(ls:aa au)(pos:bD)(kws:aa jG)(m:aE)(σ:aa Cell)(Q:aa af->aa Cell->Prop):Prop:=
 i9 c d env ls (evalAll ((backToKw pos (keywordEach kws env)).map (·.2))) m σ Q
theorem kws_nil{pos:bD}{Q:aa af->aa Cell->Prop}(h:Q [] σ):nJ c d env ls pos [] m σ Q:=λJ J ρ S=>bJ ⟨[],ρ,σ,S.r,Ext.refl _ _,b'.refl _,rfl,h⟩
theorem kws_cons{pos p:bD}{n:bh au}{e:a3}{rest:aa jG}{Q:aa af->aa Cell->Prop}(h:cz c d env ls (eval e env) m σ λa ax=>nJ c d env ls pos rest m ax λas bt=>Q (a::as) bt):nJ c d env ls pos (⟨n,e,p⟩::rest) m σ Q:=by
 intro A s ρ S
 show aK _ _ A (evalAll ((do let v<-eval e env;standAt pos;pure v)::(backToKw pos (keywordEach rest env)).map (·.2))) _ _ s
 refine J2 (bp (bo (h A s ρ S) (λv s₁ p=>bV (dA (bJ ?_))) λJ J x=>x))
 obtain⟨a,bI,ax,bz,bx,bW,cJ,bK⟩:=p
 refine bo (bK A s₁ bI (S.step bz bx)) (λvs cj p=>?_) λJ J x=>x
 obtain⟨as,dy,bt,cZ,cw,dM,eH,cN⟩:=p
 exact⟨_,dy,bt,cZ,bx.trans cw,bW.trans dM,jw (cJ.ext bz cw) eH,cN⟩
noncomputable def l1(es:aa a3):aS:=es.all plainArg
theorem rt(pos:bD)(env:bu):∀{es:aa a3},l1 es=true->(backTo pos (starEach es env)).any (·.1)=false
 |[],_=>rfl
 |e::r,h=>by
  have h:(plainArg e&&l1 r)=true:=h
  rw[gf]at h
  refine ae (we h.1) ?_
  show(false||(backTo pos (starEach r env)).any (·.1))=false
  refine ae (rt pos env h.2) ?_;rfl
theorem wx{k:aS}{f:aj}{pos:bD}{es:aa a3}{kws:aa jG}{M:gd}{A:cy}{E:aj->aF->Prop}{s:aF}{Q:ob->aF->Prop}(bL:l1 es=true)(ba:lB kws=true)
  (h:aK k M A (spliced (backTo pos (starEach es env))) (λvs s₁=>aK k M A (evalAll ((backToKw pos (keywordEach kws env)).map (·.2))) (λks cj=>Q ⟨vs,(kD kws).zip ks⟩ cj) E s₁) E s):
  aK k M A (evalArgs f true (backTo pos (starEach es env)) (backToKw pos (keywordEach kws env))) Q E s:=by
 have pU:=wu pos env ba
 rw[<-AI pos env ba]at h
 induction es with
 |nil=>exact J4 pU λde p oo aP=>h de p oo aP de p oo aP
 |cons e r=>
  have bL:(plainArg e&&l1 r)=true:=bL
  rw[gf]at bL
  have az:backTo pos (starEach (e::r) env)=(false,eval e env)::backTo pos (starEach r env):=by refine ae (we bL.1) ?_;rfl
  rw[az]at h⊢
  exact J3 pU h
theorem wy{f:aj}{M:gd}(ba:oz c f)(h:a8)(X:c.K.In h):∃k,(k=zE\/k=zF\/k=zG)/\la M h (keeperOf f) k:=by
 rcases ba with⟨i,rfl⟩|⟨n,rfl⟩|ba
 ·exact⟨.machine,.inr (.inl rfl),.now⟩
 ·exact⟨.machine,.inr (.inl rfl),.now⟩
 ·exact keeps_K ba h X
theorem AJ{ks:aa af}:∀(ns:aa au),ns.length=ks.length->(ns.zip ks).map (·.1)=ns
 |ns,h=>by rw[List.map_fst_zip];exact Ie ‹_›
theorem AK{ks:aa af}:∀(ns:aa au),ns.length=ks.length->(ns.zip ks).map (·.2)=ks
 |ns,h=>by rw[List.map_snd_zip];exact Ie (vz ‹_›)
theorem wz:∀kws:aa jG,(kD kws).length=kws.length
 |[]=>rfl
 |⟨_,_,_⟩::r=>by show(kD r).length+1=_;refine ae (wz r) ?_;rfl
theorem J8{x:au}{p pos:bD}{args:aa a3}{kws:aa jG}{Q:af->aa Cell->Prop}(H:c.Ok)(bL:l1 args=true)(ba:lB kws=true)
  (h:cz c d env ls (eval (.Name x p) env) m σ λf ax=>∃hi,dx (f=.val hi) (oz c hi) (i9 c d env ls (spliced (backTo pos (starEach args env))) m ax λas bt=>
   nJ c d env ls pos kws m bt λks b0=>ks.length=kws.length/\cH c d hi as ((kD kws).zip ks) b0 Q)):cz c d env ls (eval (.Call (.Name x p) args kws pos) env) m σ Q:=by
 intro A s ρ S
 rw[Z0]
 refine bp (bo (h A s ρ S) (λf s₁ p=>?_) λJ J x=>x)
 obtain⟨_,bI,ax,bz,bx,bW,cJ,hi,rfl,ru,bK⟩:=p
 obtain rfl:f=hi:=cJ
 refine wg (P:=c.K.In) (by(refine ae (rt pos env bL) ?_;refine ae (kw_none pos env ba) ?_);rfl) (wy ru) (wx bL ba ?_)
 refine bo (bK A s₁ bI (S.step bz bx)) (λvs cj p=>?_) λJ J x=>x
 obtain⟨as,dy,bt,cZ,cw,dM,eH,cN⟩:=p
 refine bo (cN A cj dy ((S.step bz bx).step cZ cw)) (λks bE p=>?_) λJ J x=>x
 obtain⟨lC,bH,b0,d3,eA,gy,fg,a5,dG⟩:=p
 have oA:(kD kws).length=lC.length:=by rw[wz,a5]
 refine⟨H.fZ.keeps λb o e=>d3.stays b o e,?_⟩
 have:=dG A bE bH vs ks S.a d3 (eH.ext cZ eA) (by refine ae (AK _ oA) ?_;exact fg)
 rw[AJ _ oA]at this
 exact bo this (λJ J p=>((p.back eA gy).back cw dM).back bx bW) λJ J x=>x
noncomputable def AL(bs:aa (au×aj)):au->bh aj:=λx=>bs.reverse.lookup x
structure FnAt(c:aG)(f:aJ)(fd:hb)(body:aa b1):Prop where
 at_:hO λpV tR wA=>c.K.lookup f=some ⟨pV,tR,.func fd,wA⟩
 code:codeIn c.K fd.code fd.qualname=true
 body:fd.body=.stmts body
 kind:fd.scope.kind=.function
 co:fd.scope.isCoroutine=false
 gen:fd.scope.isGenerator=false
 globals:fd.globals=mainGlobals
 builtins:fd.builtins=builtinsNs
 closure:fd.closure=[]
noncomputable def mM(c:aG)(fd:hb)(as:aa af)(kw:aa (au×af))(bs:aa (au×af)):Prop:=
 ∀s ρ vs kvs,c.base.StaysIn s.heap->bT c ρ s.heap as vs->bT c ρ s.heap (kw.map (·.2)) kvs->
  ∃binds:aa (au×aj),dx (BindsTo s fd ⟨vs,(kw.map (·.1)).zip kvs⟩ binds) (binds.map (·.1)=bs.map (·.1)) (bT c ρ s.heap (bs.map (·.2)) (binds.map (·.2)))
theorem AM{x:au}:∀{l:aa (au×aj)},x∉l.map (·.1)->l.lookup x=none
 |[],_=>rfl
 |p::r,h=>by
  refine ae nr ?_
  have:(x==p.1)=false:=th.mpr λe=>h (e▸.head _)
  refine ae this ?_
  exact AM λq=>h (.tail _ q)
theorem lookup_at{x:au}{v:aj}:∀{l:aa (au×aj)} {i:ab},(l.map (·.1)).Nodup->l[i]? =some (x,v)->l.lookup x=some v
 |p::r,0,_,e=>by
  simp only[vC,vD]at e
  rw[e,nr,qU]
 |p::r,i+1,cG,e=>by
  rw[gJ,j3]at cG
  rw[my]at e
  refine ae nr ?_
  have:(x==p.1)=false:=th.mpr λq=>cG.1 (q▸i1.mpr ⟨(x,v),js e,rfl⟩)
  refine ae this ?_
  exact lookup_at cG.2 e
theorem bT.at{c:aG}{ρ:aT}{h:a8}:∀{as:aa af} {vs:aa aj} {i:ab} {a:af},bT c ρ h as vs->as[i]? =some a->∃v,vs[i]? =some v/\bq c ρ h a v
 |_::_,_,0,_,⟨v,r,e,x,_⟩,q=>by cases q;exact⟨v,by refine ae e ?_;rfl,x⟩
 |_::as,_,i+1,_,⟨v,r,e,_,y⟩,q=>by
  obtain⟨kY,az,ay⟩:=bT.at (i:=i) y q
  exact⟨kY,by(refine ae e ?_;refine ae (my) ?_);exact az,ay⟩
noncomputable def f5(bs:aa (au×af))(more:aa au):aE:=bs.map (λb=>some b.2)++more.map λJ=>none
theorem ff.flat{c:aG}{ρ:aT}{h:a8}{dS:au->bh aj}{env:bu}{x:au}{o:bh af}(aP:env.cells=[])(k:match o with|some a=>∃v,dS x=some v/\bq c ρ h a v|none=>dS x=none):ff c ρ h dS env x o:=by
 delta ff
 refine ae aP ?_
 exact k
theorem wB{f:aJ}{fd:hb}{body:aa b1}{as:aa af}{kw bs:aa (au×af)}{more:aa au}(H:c.Ok)(F:FnAt c f fd body)(aq:mM c fd as kw bs)
  (hz:∀x∈fd.scope.names,x.2≠.cell)(a5:ls=bs.map (·.1)++more)(gj:ls.Nodup)(hZ:∀x∈ls,fd.scope.names.lookup x=some .local)(jL:∀x∈ls,(x==("__debug__":au))=false/\(x==("__classdict__":au))=false)
  {A:cy}{s:aF}{ρ:aT}{vs kvs:aa aj}{P:iG->aF->Prop}(nI:A.depth<recursionLimit)(R:Rep c ρ σ s.heap)(V:bT c ρ s.heap as vs)(W:bT c ρ s.heap (kw.map (·.2)) kvs)
  (h:∀env s₁,fk env ls->env.scope=fd.scope->env.frame=some s.heap.objs.size->own env=[s.heap.objs.size]->Rep c (ρ.hide [s.heap.objs.size]) σ s₁.heap->dK c env ls (f5 bs more) (ρ.hide [s.heap.objs.size]) s₁.heap->b' s s₁->
   (∀b o,s.heap.get? b=some o->s₁.heap.get? b=some o)->aK c.clean (model c.prog c.w) (A.deeper env) (execs body env) (λf s'=>P (.ok (.ret (match f with|.ret v=>v|_=>.none))) s')
    (λe s'=>aK c.clean (model c.prog c.w) (A.deeper env) (leaving env e) (λJ gh=>P (.error e) gh) cb s') s₁):
  ea c.clean (model c.prog c.w) A (.call (.ref f) ⟨vs,(kw.map (·.1)).zip kvs⟩) P s:=by
 obtain⟨pV,tR,wA,oB⟩:=F.at_
 have X:c.K.In s.heap:=H.fZ.keeps λb o e=>R.stays b o e
 obtain⟨binds,oy,aY,cx⟩:=aq s ρ vs kvs R.stays V W
 have hlen:binds.length=bs.length:=by have:=congrArg ig aY;simpa using this
 have J9:∀L,fk (callEnv fd L f) ls:=λL=>by
  have e:callEnv fd L f={scope:=fd.scope,locals:=L,globals:=mainGlobals,cells:=[],qual:=fd.qualname++".<locals>.",func:=some f,code:=fd.code,frame:=some L,builtins:=builtinsNs}:=by
   unfold callEnv newEnv;(refine ae F.globals ?_;refine ae F.closure ?_;exact ae F.builtins rfl)
  refine ae e ?_
  exact⟨F.kind,gj,hZ,jL,rfl,rfl,by simp,λJ J J J q=>by exact absurd q.symm (cB _)⟩
 refine J5 (fd:=fd) (body:=body) (binds:=binds) nI (X _ _ oB) rfl (H.nolimit.keeps λb o e=>R.stays b o e) (codeRec_of X F.code) F.body oy hz ?_ (λbK ns k=>?_) F.co F.gen F.kind
 ·intro x aA
  have:x.1∈bs.map (·.1):=aY▸i1.mpr ⟨x,aA,rfl⟩
  exact hZ x.1 (by refine ae a5 ?_;exact mw _ this)
 generalize AN:({s with heap:=bK,toks:=s.toks+binds.length}:aF)=s₁
 have cO:s₁.heap=bK:=by exact cv AN rfl
 have tS:(callEnv fd s.heap.objs.size f).cells=[]:=F.closure
 have AO:(callEnv fd s.heap.objs.size f).locals=s.heap.objs.size:=rfl
 have pW:∀q∈own (callEnv fd s.heap.objs.size f),q=s.heap.objs.size:=λq bg=>by
  unfold own at bg;rw[tS,AO]at bg;simpa using bg
 have bX:∀b o,s.heap.get? b=some o->s₁.heap.get? b=some o:=cO▸k
 have nl:∀b∈[s.heap.objs.size],s.heap.get? b=none:=λb aq=>by refine ae (eV.mp aq) ?_;exact f3
 have bz:Rep c (ρ.hide [s.heap.objs.size]) σ s₁.heap:=R.hide bX nl λb aq=>by
  obtain⟨o,es,hT,aN,-⟩:=ns
  (refine ae (eV.mp aq) ?_;refine ae cO ?_);exact⟨o,aN⟩
 have fG:dK c (callEnv fd s.heap.objs.size f) ls (f5 bs more) (ρ.hide [s.heap.objs.size]) s₁.heap:=by
  refine⟨⟨AL binds,cO▸ns,λi x aA=>?_⟩,λq bg=>?_,λq bg=>?_,?_⟩
  ·refine ff.flat tS ?_
   have cG:(binds.map (·.1)).Nodup:=by refine ae aY ?_;rw[a5]at gj;exact(qV.mp gj).1
   have J':(binds.reverse.map (·.1)).Nodup:=by refine ae zH ?_;exact Z1.mpr (cG.imp ht)
   by_cases a7:i<bs.length
   ·have az:(f5 bs more).getD i none=some (bs[i]).2:=by
     unfold f5
     (refine ae (j2) ?_;refine ae (eG (by simpa using a7)) ?_)
     simp[a7]
    refine ae az ?_
    obtain⟨v,oC,wC⟩:=cx.at (i:=i) (a:=(bs[i]).2) (by simp[a7])
    refine⟨v,?_,bq.mono (ρ:=ρ) (ρ':=ρ.hide [s.heap.objs.size]) (λJ J e=>e) (ov nl bX) _ _ wC⟩
    have ay:binds[i]? =some (x,v):=by
     have a1:(binds.map (·.1))[i]? =some x:=by
      refine ae aY ?_;rw[a5,eG (by simpa using a7)]at aA;exact aA
     rw[j4]at a1 oC
     cases rv:binds[i]? with
     |none=>rw[rv]at a1;exact absurd a1.symm (cB _)
     |some q=>
      rw[rv]at a1 oC
      cases a1;cases oC;rfl
    have pX:i<binds.length:=(dH.mp ay).1
    unfold AL
    refine lookup_at (i:=binds.length-1-i) J' ?_
    have hle:i<=binds.length-1:=Nat.le_sub_one_of_lt pX
    (refine ae (List.getElem?_reverse (zI (Nat.sub_le _ _) (Nat.sub_lt (zI (hc _) pX) Nat.one_pos))) ?_;refine cv ay ?_)
    exact congrArg (binds[·]?) (Nat.sub_sub_self hle)
   ·have az:(f5 bs more).getD i none=none:=by
     unfold f5
     (refine ae (j2) ?_;refine ae (eU (by simpa using kR a7)) ?_)
     refine ae (j4) ?_
     cases more[i-(bs.map λb=>some b.2).length]? <;>rfl
    refine ae az ?_
    refine AM ?_
    rw[zH,pE,aY]
    intro hm
    rw[a5]at aA gj
    rw[eU (by simpa using kR a7)]at aA
    exact(qV.mp gj).2.2 x hm x (js aA) rfl
  ·refine ae (pW q bg) ?_;exact .head _
  ·rw[tS]at bg;exact absurd bg jr
  ·refine ae a5 ?_;simp[f5]
 refine h _ _ (J9 _) rfl rfl ?_ bz fG ?_ bX
 ·unfold own;(refine ae tS ?_;refine ae AO ?_);rfl
 ·refine cv AN ?_;exact b'.of
theorem Ka{f:aJ}{fd:hb}{body:aa b1}{as:aa af}{kw bs:aa (au×af)}{more:aa au}{Q:af->aa Cell->Prop}(H:c.Ok)(eC:c.fr=none)(F:FnAt c f fd body)(aq:mM c fd as kw bs)
  (hz:∀x∈fd.scope.names,x.2≠.cell)(a5:ls=bs.map (·.1)++more)(gj:ls.Nodup)(hZ:∀x∈ls,fd.scope.names.lookup x=some .local)(jL:∀x∈ls,(x==("__debug__":au))=false/\(x==("__classdict__":au))=false)
  (h:∀env,fk env ls->env.scope=fd.scope->eB c d env ls (execs body env) (f5 bs more) σ λc7 J aC=>match c7 with|.ret a=>Q a aC|.next=>Q .none aC|_=>bB):
  bc c (d+1) (.ref f) as kw σ Q:=by
 intro A s ρ vs kvs bP R V W
 refine wB H F aq hz a5 gj hZ jL bP.room R V W λenv s₁ E jM J kE bz fG bW bX=>?_
 refine bo (h _ E jM _ s₁ _ ⟨bP.deeper eC,bz,fG⟩) (λc7 cj p=>?_) λJ J x=>x.elim
 obtain⟨oD,m₂,dy,bt,cZ,cw,dM,kZ,eH,cN⟩:=p
 have M:b' s cj:=bW.trans dM
 have pW:∀q∈own env,q=s.heap.objs.size:=λq bg=>by rw[kE]at bg;exact eV.mp bg
 have wD:dy.aR=s.heap.objs.size::ρ.aR:=cw.aR
 let bH:aT:=⟨dy.cs,ρ.aR⟩
 have bF:dy=bH.hide [s.heap.objs.size]:=by
  induction dy;subst wD;rfl
 rw[bF]at cZ
 have jd:Ext ρ bH s.heap cj.heap:=by
  refine⟨cw.pre,rfl,λb o aq e=>cw.keep b o aq (λq=>?_) (bX b o e),λb aq nb=>?_⟩
  ·rw[pW b q]at e;exact absurd (lT e) (qT _)
  ·rcases cw.fresh b aq nb with z|z
   ·exact absurd aq (cZ.e2 b (by refine ae (pW b z) ?_;exact .head _))
   ·cases e:s.heap.get? b with
    |none=>rfl
    |some o=>rw[bX b o e]at z;exact absurd z (cB _)
 have d3:Rep c bH bt cj.heap:=cZ.show
 induction oD with
 |next=>refine ae (show c7=.next from eH) ?_;exact⟨_,rfl,.none,bH,bt,d3,jd,M,ou,cN⟩
 |brk=>exact cN.elim
 |cont=>exact cN.elim
 |ret a=>
  obtain⟨v,rfl,fg⟩:=eH
  rw[bF]at fg
  exact⟨_,rfl,a,bH,bt,d3,jd,M,bq.mono (ρ:=bH.hide [s.heap.objs.size]) (ρ':=bH) (λJ J e=>e) tM _ _ fg,cN⟩
end
noncomputable def eo(ι:aa ab)(n j:ab):ab:=match ι[j]? with|some i=>i|none=>n+(j-ι.length)
mutual
noncomputable def af.b8(r:ab->ab):af->af
 |.cell i=>.cell (r i)
 |.tup vs=>.tup (fQ r vs)
 |.lst vs=>.lst (fQ r vs)
 |.ey ns=>.ey ns
 |.obj C bA=>.obj C (ka r bA)
 |.bound f s=>.bound f (af.b8 r s)
 |.none=>.none
 |.bool b=>.bool b
 |.int i=>.int i
 |.str s=>.str s
 |.bytes b=>.bytes b
 |.val v=>.val v
 |.e0 a b st=>.e0 a b st
 |.ir bA=>.ir bA
 |.ft=>.ft
noncomputable def fQ(r:ab->ab):aa af->aa af
 |[]=>[]
 |a::as=>af.b8 r a::fQ r as
noncomputable def ka(r:ab->ab):aa (ab×af)->aa (ab×af)
 |[]=>[]
 |(k,a)::as=>(k,a.b8 r)::ka r as
end
noncomputable def Cell.b8(r:ab->ab):Cell->Cell
 |.list vs=>.list (fQ r vs)
 |.dict es=>.dict (ka r es)
 |.aZ b=>.aZ b
 |.inst C bA=>.inst C (ka r bA)
theorem oE(r:ab->ab):∀as:aa af,(fQ r as).length=as.length
 |[]=>rfl
 |_::as=>congrArg ti (oE r as)
theorem rx(r:ab->ab):∀as:aa (ab×af),(ka r as).length=as.length
 |[]=>rfl
 |(_,_)::as=>congrArg ti (rx r as)
theorem oF(r:ab->ab):∀as:aa (ab×af),(ka r as).map (·.1)=as.map (·.1)
 |[]=>rfl
 |(_,_)::as=>congrArg (pF _) (oF r as)
mutual
theorem bq.b8{c:aG}{ρ ρ':aT}{h:a8}{r:ab->ab}(a4:∀(i:ab) p,ρ.cs[i]? =some p->ρ'.cs[r i]? =some p)(bb:Carry ρ ρ' h h):∀(a:af) (v:aj),bq c ρ h a v->bq c ρ' h (a.b8 r) v
 |.cell i,_,h0=>by obtain⟨p,az,ay⟩:=h0;exact⟨p,a4 i p az,ay⟩
 |.tup as,_,h0=>by obtain⟨a,items,az,nb,ay,bF,z⟩:=h0;exact⟨a,items,az,(bb a _ nb ay).1,ay,bT.b8 a4 bb as items bF,by rw[oE];exact z⟩
 |.lst as,_,h0=>by obtain⟨a,items,n,az,nb,ay,bF,z⟩:=h0;exact⟨a,items,n,az,(bb a _ nb ay).1,ay,bT.b8 a4 bb as items bF,by rw[oE];exact z⟩
 |.ey _,_,⟨a,items,az,nb,⟨o,ay,q⟩,bF⟩=>⟨a,items,az,(bb a o nb ay).1,⟨o,ay,q⟩,bF⟩
 |.obj _ bA,_,h0=>by obtain⟨a,b,es,n,az,na,nb,ay,bF,fF,cG⟩:=h0;exact⟨a,b,es,n,az,(bb a _ na ay).1,(bb b _ nb bF).1,ay,bF,dR.b8 a4 bb bA es fF,by rw[oF];exact cG⟩
 |.e0 _ _ _,_,h0=>by obtain⟨q,t,u,w,az,nb,ay⟩:=h0;exact⟨q,t,u,w,az,(bb q _ nb ay).1,ay⟩
 |.bound _ s,_,h0=>by obtain⟨q,iK,az,nb,ay,bF⟩:=h0;exact⟨q,iK,az,(bb q _ nb ay).1,ay,bq.b8 a4 bb s iK bF⟩
 |.ir _,_,h0=>by obtain⟨q,az,nb,ay⟩:=h0;exact⟨q,az,(bb q _ nb ay).1,ay⟩
 |.ft,_,e=>e
 |.none,_,e=>e
 |.bool _,_,e=>e
 |.int _,_,e=>e
 |.str _,_,e=>e
 |.bytes _,_,e=>e
 |.val _,_,e=>e
theorem bT.b8{c:aG}{ρ ρ':aT}{h:a8}{r:ab->ab}(a4:∀(i:ab) p,ρ.cs[i]? =some p->ρ'.cs[r i]? =some p)(bb:Carry ρ ρ' h h):∀(a:aa af) (v:aa aj),bT c ρ h a v->bT c ρ' h (fQ r a) v
 |[],_,e=>e
 |a::as,_,h0=>by obtain⟨v,vs,e,az,ay⟩:=h0;exact⟨v,vs,e,bq.b8 a4 bb a v az,bT.b8 a4 bb as vs ay⟩
theorem dR.b8{c:aG}{ρ ρ':aT}{h:a8}{r:ab->ab}(a4:∀(i:ab) p,ρ.cs[i]? =some p->ρ'.cs[r i]? =some p)(bb:Carry ρ ρ' h h):∀(a:aa (ab×af)) (v:aa e9),dR c ρ h a v->dR c ρ' h (ka r a) v
 |[],_,e=>e
 |(_,a)::as,_,h0=>by obtain⟨e,es,x,q,dQ,dV,e1,j8,iv⟩:=h0;exact⟨e,es,x,q,dQ,dV,e1,bq.b8 a4 bb a _ j8,dR.b8 a4 bb as es iv⟩
end
mutual
theorem bq.hA{c:aG}{ρ ρ':aT}{h:a8}{r:ab->ab}(a4:∀(i:ab) p,ρ'.cs[r i]? =some p->ρ.cs[i]? =some p)(bb:Carry ρ' ρ h h):∀(a:af) (v:aj),bq c ρ' h (a.b8 r) v->bq c ρ h a v
 |.cell i,_,h0=>by obtain⟨p,az,ay⟩:=h0;exact⟨p,a4 i p az,ay⟩
 |.tup as,_,h0=>by obtain⟨a,items,az,nb,ay,bF,z⟩:=h0;exact⟨a,items,az,(bb a _ nb ay).1,ay,bT.hA a4 bb as items bF,by rw[oE]at z;exact z⟩
 |.lst as,_,h0=>by obtain⟨a,items,n,az,nb,ay,bF,z⟩:=h0;exact⟨a,items,n,az,(bb a _ nb ay).1,ay,bT.hA a4 bb as items bF,by rw[oE]at z;exact z⟩
 |.ey _,_,⟨a,items,az,nb,⟨o,ay,q⟩,bF⟩=>⟨a,items,az,(bb a o nb ay).1,⟨o,ay,q⟩,bF⟩
 |.obj _ bA,_,h0=>by obtain⟨a,b,es,n,az,na,nb,ay,bF,fF,cG⟩:=h0;exact⟨a,b,es,n,az,(bb a _ na ay).1,(bb b _ nb bF).1,ay,bF,dR.hA a4 bb bA es fF,by rw[oF]at cG;exact cG⟩
 |.e0 _ _ _,_,h0=>by obtain⟨q,t,u,w,az,nb,ay⟩:=h0;exact⟨q,t,u,w,az,(bb q _ nb ay).1,ay⟩
 |.bound _ s,_,h0=>by obtain⟨q,iK,az,nb,ay,bF⟩:=h0;exact⟨q,iK,az,(bb q _ nb ay).1,ay,bq.hA a4 bb s iK bF⟩
 |.ir _,_,h0=>by obtain⟨q,az,nb,ay⟩:=h0;exact⟨q,az,(bb q _ nb ay).1,ay⟩
 |.ft,_,e=>e
 |.none,_,e=>e
 |.bool _,_,e=>e
 |.int _,_,e=>e
 |.str _,_,e=>e
 |.bytes _,_,e=>e
 |.val _,_,e=>e
theorem bT.hA{c:aG}{ρ ρ':aT}{h:a8}{r:ab->ab}(a4:∀(i:ab) p,ρ'.cs[r i]? =some p->ρ.cs[i]? =some p)(bb:Carry ρ' ρ h h):∀(a:aa af) (v:aa aj),bT c ρ' h (fQ r a) v->bT c ρ h a v
 |[],_,e=>e
 |a::as,_,h0=>by obtain⟨v,vs,e,az,ay⟩:=h0;exact⟨v,vs,e,bq.hA a4 bb a v az,bT.hA a4 bb as vs ay⟩
theorem dR.hA{c:aG}{ρ ρ':aT}{h:a8}{r:ab->ab}(a4:∀(i:ab) p,ρ'.cs[r i]? =some p->ρ.cs[i]? =some p)(bb:Carry ρ' ρ h h):∀(a:aa (ab×af)) (v:aa e9),dR c ρ' h (ka r a) v->dR c ρ h a v
 |[],_,e=>e
 |(_,a)::as,_,h0=>by obtain⟨e,es,x,q,dQ,dV,e1,j8,iv⟩:=h0;exact⟨e,es,x,q,dQ,dV,e1,bq.hA a4 bb a _ j8,dR.hA a4 bb as es iv⟩
end
theorem ej.b8{c:aG}{ρ ρ':aT}{h:a8}{r:ab->ab}(a4:∀(i:ab) p,ρ.cs[i]? =some p->ρ'.cs[r i]? =some p)(bb:Carry ρ ρ' h h):∀(a:aa (ab×af)) (v:aa (au×aj)),ej c ρ h a v->ej c ρ' h (ka r a) v
 |[],_,e=>e
 |(_,a)::as,_,h0=>by obtain⟨x,v,l,q,dQ,dV,e1⟩:=h0;exact⟨x,v,l,q,dQ,bq.b8 a4 bb a _ dV,ej.b8 a4 bb as l e1⟩
theorem ej.hA{c:aG}{ρ ρ':aT}{h:a8}{r:ab->ab}(a4:∀(i:ab) p,ρ'.cs[r i]? =some p->ρ.cs[i]? =some p)(bb:Carry ρ' ρ h h):∀(a:aa (ab×af)) (v:aa (au×aj)),ej c ρ' h (ka r a) v->ej c ρ h a v
 |[],_,e=>e
 |(_,a)::as,_,h0=>by obtain⟨x,v,l,q,dQ,dV,e1⟩:=h0;exact⟨x,v,l,q,dQ,bq.hA a4 bb a _ dV,ej.hA a4 bb as l e1⟩
theorem ek.b8{c:aG}{ρ ρ':aT}{h:a8}{r:ab->ab}(a4:∀(i:ab) p,ρ.cs[i]? =some p->ρ'.cs[r i]? =some p)(bb:Carry ρ ρ' h h){p:aJ×aJ}:∀{x:Cell},ek c ρ h p x->ek c ρ' h p (x.b8 r)
 |.list _,h0=>by obtain⟨items,n,a,b,l,e⟩:=h0;exact⟨items,n,a,bT.b8 a4 bb _ _ b,by rw[oE];exact l,e⟩
 |.dict _,h0=>by obtain⟨items,a,b,l,e⟩:=h0;exact⟨items,a,ej.b8 a4 bb _ _ b,by rw[rx,oF];exact l,e⟩
 |.aZ _,e=>e
 |.inst _ _,h0=>by obtain⟨a,es,n,b,e,l,k⟩:=h0;exact⟨a,es,n,b,dR.b8 a4 bb _ _ e,by rw[rx];exact l,by rw[oF];exact k⟩
theorem ek.hA{c:aG}{ρ ρ':aT}{h:a8}{r:ab->ab}(a4:∀(i:ab) p,ρ'.cs[r i]? =some p->ρ.cs[i]? =some p)(bb:Carry ρ' ρ h h){p:aJ×aJ}:∀{x:Cell},ek c ρ' h p (x.b8 r)->ek c ρ h p x
 |.list _,h0=>by obtain⟨items,n,a,b,l,e⟩:=h0;exact⟨items,n,a,bT.hA a4 bb _ _ b,by rw[oE]at l;exact l,e⟩
 |.dict _,h0=>by obtain⟨items,a,b,l,e⟩:=h0;exact⟨items,a,ej.hA a4 bb _ _ b,by rw[rx,oF]at l;exact l,e⟩
 |.aZ _,e=>e
 |.inst _ _,h0=>by obtain⟨a,es,n,b,e,l,k⟩:=h0;exact⟨a,es,n,b,dR.hA a4 bb _ _ e,by rw[rx]at l;exact l,by rw[oF]at k;exact k⟩
noncomputable def putAll:aa ab->aa Cell->aa Cell->aa Cell
 |i::ι,x::xs,σ=>putAll ι xs (σ.set i x)
 |_,_,σ=>σ
theorem ry:∀(ι:aa ab) (xs σ:aa Cell),(putAll ι xs σ).length=σ.length
 |[],_,_=>rfl
 |_::_,[],_=>rfl
 |i::ι,x::xs,σ=>(ry ι xs _).trans zB
theorem wF{i:ab}:∀(ι:aa ab) (xs σ:aa Cell),i∉ι->(putAll ι xs σ)[i]? =σ[i]?
 |[],_,_,_=>rfl
 |_::_,[],_,_=>rfl
 |k::ι,x::xs,σ,h=>by
  refine(wF ι xs _ λq=>h (.tail _ q)).trans ?_
  rw[zy (λe:k=i=>h (by subst e;exact .head _))]
theorem AP:∀(ι:aa ab) (xs σ:aa Cell) (j i:ab) (x:Cell),ι.Nodup->(∀k∈ι,k<σ.length)->ι[j]? =some i->xs[j]? =some x->(putAll ι xs σ)[i]? =some x
 |k::ι,y::mN,σ,0,i,x,cG,aq,az,ay=>by
  simp only[vC,vD]at az ay
  subst az ay
  refine(wF ι mN _ (j3.mp cG).1).trans ?_
  rw[H9 (aq k (.head _))]
 |k::ι,y::mN,σ,j+1,i,x,cG,aq,az,ay=>by
  rw[my]at az ay
  exact AP ι mN _ j i x (j3.mp cG).2 (λq bg=>by refine ae zB ?_;exact aq q (.tail _ bg)) az ay
noncomputable def eR(l:aa (aJ×aJ))(ι:aa ab):aa (aJ×aJ):=ι.map λi=>l.getD i (0,0)
noncomputable def jA(l:aa (aJ×aJ))(ι:aa ab):aa aJ:=(addrs l).filter λb=>decide (b∉addrs (eR l ι))
noncomputable def l2(ρ:aT)(ι:aa ab):aT:=⟨eR ρ.cs ι,jA ρ.cs ι++ρ.aR⟩
theorem AQ{ρ:aT}{ι:aa ab}{j i:ab}{p:aJ×aJ}(e:ι[j]? =some i)(q:ρ.cs[i]? =some p):(eR ρ.cs ι)[j]? =some p:=by
 unfold eR;rw[j4,e,Ig,j2,q];rfl
theorem pY{ρ:aT}{ι:aa ab}{j:ab}{p:aJ×aJ}(aq:∀i∈ι,i<ρ.cs.length)(q:(eR ρ.cs ι)[j]? =some p):∃i,ι[j]? =some i/\ρ.cs[i]? =some p:=by
 unfold eR at q
 rw[j4]at q
 cases e:ι[j]? with
 |none=>rw[e]at q;exact absurd q.symm (cB _)
 |some i=>
  rw[e,Ig,j2]at q
  have a7:=aq i (js e)
  rw[tj a7]at q
  exact⟨i,rfl,by refine ae (tj a7) ?_;simpa using q⟩
theorem oG{ρ:aT}{ι:aa ab}(aq:∀i∈ι,i<ρ.cs.length){b:aJ}(h:b∈addrs (eR ρ.cs ι)):b∈addrs ρ.cs:=by
 obtain⟨j,p,aW,e⟩:=ez.mp h
 obtain⟨i,a1,a2⟩:=pY aq aW
 exact ez.mpr ⟨i,p,a2,e⟩
theorem rz{l:aa (aJ×aJ)}{ι:aa ab}{b:aJ}:b∈jA l ι↔b∈addrs l/\b∉addrs (eR l ι):=by
 unfold jA;rw[qQ,lU]
theorem wG{ρ:aT}{ι:aa ab}{h:a8}(aq:∀i∈ι,i<ρ.cs.length):Carry ρ (l2 ρ ι) h h:=λa o na e=>by
 rw[fz]at na
 refine⟨fz.mpr ⟨λq=>na.1 (oG aq q),λq=>?_⟩,e⟩
 rcases gT.mp (show a∈jA ρ.cs ι++ρ.aR from q)with q|q
 ·exact na.1 (rz.mp q).1
 ·exact na.2 q
theorem wH{ρ:aT}{t:aa (aJ×aJ)}{ι:aa ab}{h:a8}:Carry ⟨eR ρ.cs ι++t,jA ρ.cs ι++ρ.aR⟩ ⟨ρ.cs++t,ρ.aR⟩ h h:=λa o na e=>by
 rw[fz,hS,gT,n',gT,n']at na
 refine⟨?_,e⟩
 rw[fz,hS,gT,n']
 refine⟨⟨λq=>?_,na.1.2⟩,na.2.2⟩
 exact na.2.1 (rz.mpr ⟨q,na.1.1⟩)
noncomputable def iO(ι:aa ab)(σ ax:aa Cell):aa Cell:=
 putAll ι (ax.map (Cell.b8 (eo ι σ.length))) σ++(ax.drop ι.length).map (Cell.b8 (eo ι σ.length))
section
variable{c:aG}{d:ab}{σ:aa Cell}
theorem wI{ρ:aT}{ι:aa ab}{n:ab}(aY:ρ.cs.length=n):∀(j:ab) p,ρ.cs[eo ι n j]? =some p->(l2 ρ ι).cs[j]? =some p:=by
 intro j p e
 unfold eo at e
 cases q:ι[j]? with
 |some i=>rw[q]at e;exact AQ q e
 |none=>
  rw[q]at e
  have:=(dH.mp e).1
  lia
theorem Rep.pick{ρ:aT}{h:a8}{ι:aa ab}{eD:aa Cell}(R:Rep c ρ σ h)(cG:ι.Nodup)(aq:∀i∈ι,i<σ.length)
  (k0:ι.map (λi=>σ[i]?)=eD.map (λx=>some (x.b8 (eo ι σ.length)))):Rep c (l2 ρ ι) eD h:=by
 have gk:∀i∈ι,i<ρ.cs.length:=λi a7=>by refine ae R.len ?_;exact aq i a7
 have hlen:ι.length=eD.length:=by have:=congrArg ig k0;simpa using this
 have un:=wI (ρ:=ρ) (ι:=ι) R.len
 have ca:Carry ρ (l2 ρ ι) h h:=wG gk
 have sub:∀b∈(l2 ρ ι).bar,b∈ρ.bar:=λb fR=>by
  by_cases z:b∈ρ.bar
  ·exact z
  ·rcases er.mp fR with q|q
   ·exact er.mpr (.inl (oG gk q))
   ·rcases gT.mp (show b∈jA ρ.cs ι++ρ.aR from q)with q|q
    ·exact er.mpr (.inl (rz.mp q).1)
    ·exact er.mpr (.inr q)
 refine⟨by show(eR ρ.cs ι).length=_;simp[eR,hlen],λi j p q aW bg kC=>?_,λj p x aW aA=>?_,λb Kb=>R.new b (sub b Kb),R.stays,λb fR=>?_,λb fR=>?_⟩
 ·obtain⟨rA,a1,a2⟩:=pY gk aW
  obtain⟨rB,hY,iN⟩:=pY gk bg
  refine R.apart rA rB p q a2 iN λe=>?_
  subst e
  obtain⟨dU,d5⟩:=dH.mp a1
  obtain⟨l3,l4⟩:=dH.mp hY
  rcases Z2 kC with z|z
  ·exact(tg.mp cG i j dU l3 z) (d5.trans l4.symm)
  ·exact(tg.mp cG j i l3 dU z) (l4.trans d5.symm)
 ·obtain⟨i,a1,a2⟩:=pY gk aW
  have e:(ι.map (λi=>σ[i]?))[j]? =some (σ[i]?):=by(refine ae (j4) ?_;refine ae a1 ?_);rfl
  rw[k0,j4,aA]at e
  simp only[Ig,vD]at e
  exact ek.hA un ca (R.cells i p _ a2 e.symm)
 ·rcases gT.mp (show b∈jA ρ.cs ι++ρ.aR from fR)with q|q
  ·exact(rz.mp q).2
  ·exactλz=>R.e2 b q (oG gk z)
 ·rcases gT.mp (show b∈jA ρ.cs ι++ρ.aR from fR)with q|q
  ·exact R.live b (rz.mp q).1
  ·exact R.e3 b q
theorem wJ{ρ:aT}{t:aa (aJ×aJ)}{ι:aa ab}{n:ab}(aY:ρ.cs.length=n)(aq:∀i∈ι,i<ρ.cs.length):∀(j:ab) p,(eR ρ.cs ι++t)[j]? =some p->(ρ.cs++t)[eo ι n j]? =some p:=by
 intro j p e
 have h1:(eR ρ.cs ι).length=ι.length:=by simp[eR]
 by_cases dN:j<ι.length
 ·rw[eG (by refine ae h1 ?_;exact dN)]at e
  obtain⟨i,a1,a2⟩:=pY aq e
  unfold eo
  (refine ae a1 ?_;refine ae (eG (dH.mp a2).1) ?_);exact a2
 ·rw[eU (by refine ae h1 ?_;exact kR ‹_›),h1]at e
  unfold eo
  refine ae (show ι[j]? =none from List.getElem?_eq_none (by exact kR ‹_›)) ?_
  dsimp only
  rw[<-aY,eU (by exact jH _ _),nt];exact e
theorem Rep.merge{ρ:aT}{t:aa (aJ×aJ)}{h ao:a8}{ι:aa ab}{ax:aa Cell}(R:Rep c ρ σ h)(cG:ι.Nodup)(aq:∀i∈ι,i<σ.length)(bz:Rep c ⟨eR ρ.cs ι++t,jA ρ.cs ι++ρ.aR⟩ ax ao)
  (keep:∀b o,b∉addrs (eR ρ.cs ι)->b∉ρ.aR->h.get? b=some o->ao.get? b=some o)(fresh:∀b∈addrs t,h.get? b=none):Rep c ⟨ρ.cs++t,ρ.aR⟩ (iO ι σ ax) ao:=by
 have gk:∀i∈ι,i<ρ.cs.length:=λi a7=>by refine ae R.len ?_;exact aq i a7
 have h1:(eR ρ.cs ι).length=ι.length:=by simp[eR]
 have Kc:ι.length+t.length=ax.length:=by have:=bz.len;simp[h1]at this;exact this
 have re:=wJ (t:=t) R.len gk
 have ca:Carry ⟨eR ρ.cs ι++t,jA ρ.cs ι++ρ.aR⟩ ⟨ρ.cs++t,ρ.aR⟩ ao ao:=wH
 have Kd:Carry ρ ⟨ρ.cs++t,ρ.aR⟩ h ao:=λa o na e=>by
  have tT:=fz.mp na
  refine⟨fz.mpr ⟨λq=>?_,tT.2⟩,keep a o (λq=>tT.1 (oG gk q)) tT.2 e⟩
  have q:a∈addrs (ρ.cs++t):=q
  rw[hS,gT]at q
  rcases q with q|q
  ·exact tT.1 q
  ·rw[fresh a q]at e;exact absurd e.symm (cB _)
 have old:∀(i:ab) p,ρ.cs[i]? =some p->i∉ι->p.1∉addrs (eR ρ.cs ι)/\p.2∉addrs (eR ρ.cs ι):=by
  intro i p aW a7
  have h0:∀b,b=p.1\/b=p.2->b∉addrs (eR ρ.cs ι):=by
   intro b Ke q
   obtain⟨j,eN,je,e⟩:=ez.mp q
   obtain⟨rA,a1,a2⟩:=pY gk je
   have A:=R.apart i rA p eN aW a2 λe=>a7 (e▸js a1)
   rcases Ke with rfl|rfl<;>rcases e with e|e
   ·exact A.1 e
   ·exact A.2.1 e
   ·exact A.2.2.1 e
   ·exact A.2.2.2 e
  exact⟨h0 _ (.inl rfl),h0 _ (.inr rfl)⟩
 have Kf:(iO ι σ ax).length=σ.length+t.length:=by
  unfold iO
  rw[bZ,ry,gK,ih];lia
 refine⟨by(refine ae Kf ?_;refine ae bZ ?_;exact ae R.len rfl),λi j p q aW bg kC=>?_,λi p x aW aA=>?_,λb Kg=>?_,bz.stays,λb fR q=>?_,λb fR=>?_⟩
 ·have aW:(ρ.cs++t)[i]? =some p:=aW
  have bg:(ρ.cs++t)[j]? =some q:=bg
  have low:∀b∈addrs ρ.cs,∀jN∈addrs t,b≠jN:=λb fR jN Kh z=>by obtain⟨o,aN⟩:=R.live b fR;rw[z,fresh jN Kh]at aN;exact absurd aN.symm (cB _)
  by_cases a7:i<ρ.cs.length<;>by_cases dN:j<ρ.cs.length
  ·rw[eG a7]at aW
   rw[eG dN]at bg
   exact R.apart i j p q aW bg kC
  ·rw[eG a7]at aW
   rw[eU (by exact kR ‹_›)]at bg
   have rC:p.1∈addrs ρ.cs:=ez.mpr ⟨i,p,aW,.inl rfl⟩
   have rD:p.2∈addrs ρ.cs:=ez.mpr ⟨i,p,aW,.inr rfl⟩
   have l3:q.1∈addrs t:=ez.mpr ⟨_,q,bg,.inl rfl⟩
   have l4:q.2∈addrs t:=ez.mpr ⟨_,q,bg,.inr rfl⟩
   exact⟨low _ rC _ l3,low _ rC _ l4,low _ rD _ l3,low _ rD _ l4⟩
  ·rw[eU (by exact kR ‹_›)]at aW
   rw[eG (by assumption)]at bg
   have rC:q.1∈addrs ρ.cs:=ez.mpr ⟨j,q,bg,.inl rfl⟩
   have rD:q.2∈addrs ρ.cs:=ez.mpr ⟨j,q,bg,.inr rfl⟩
   have l3:p.1∈addrs t:=ez.mpr ⟨_,p,aW,.inl rfl⟩
   have l4:p.2∈addrs t:=ez.mpr ⟨_,p,aW,.inr rfl⟩
   exact⟨ht (low _ rC _ l3),ht (low _ rD _ l3),ht (low _ rC _ l4),ht (low _ rD _ l4)⟩
  ·rw[eU (by exact kR ‹_›)]at aW bg
   refine bz.apart (ι.length+(i-ρ.cs.length)) (ι.length+(j-ρ.cs.length)) p q ?_ ?_ (by lia)
   ·skip
    rw[eU (by exact ne λJ=>by lia),h1,nt];exact aW
   ·skip
    rw[eU (by exact ne λJ=>by lia),h1,nt];exact bg
 ·have aW:(ρ.cs++t)[i]? =some p:=aW
  by_cases a7:i<ρ.cs.length
  ·rw[eG a7]at aW
   unfold iO at aA
   rw[eG (by rw[ry,<-R.len];exact a7)]at aA
   by_cases hm:i∈ι
   ·obtain⟨j,dN⟩:=qR.mp hm
    have pZ:=(dH.mp dN).1
    have oH:ax[j]? =some ax[j]:=tj (by exact nl λJ=>by lia)
    rw[AP ι _ σ j i ((ax[j]).b8 (eo ι σ.length)) cG aq dN (by(refine ae (j4) ?_;refine ae oH ?_);rfl)]at aA
    cases aA
    refine ek.b8 (ρ:=⟨eR ρ.cs ι++t,jA ρ.cs ι++ρ.aR⟩) (ρ':=⟨ρ.cs++t,ρ.aR⟩) re ca (bz.cells j p _ ?_ oH)
    rw[eG (by rw[h1];exact pZ)];exact AQ dN aW
   ·rw[wF ι _ σ hm]at aA
    have o:=old i p aW hm
    exact ek.ext (ρ:=ρ) (ρ':=⟨ρ.cs++t,ρ.aR⟩) (λk q e=>by refine ae (eG (dH.mp e).1) ?_;exact e) Kd (λcf=>keep _ cf o.1 λz=>R.e2 _ z (ez.mpr ⟨i,p,aW,.inl rfl⟩)) (λcf=>keep _ cf o.2 λz=>R.e2 _ z (ez.mpr ⟨i,p,aW,.inr rfl⟩)) (R.cells i p x aW aA)
  ·rw[eU (by exact kR ‹_›)]at aW
   unfold iO at aA
   rw[eU (by rw[ry,<-R.len];exact kR ‹_›),ry,j4,List.getElem?_drop]at aA
   cases e:ax[ι.length+(i-σ.length)]? with
   |none=>rw[e]at aA;exact absurd aA.symm (cB _)
   |some y=>
    rw[e]at aA
    cases aA
    refine ek.b8 (ρ:=⟨eR ρ.cs ι++t,jA ρ.cs ι++ρ.aR⟩) (ρ':=⟨ρ.cs++t,ρ.aR⟩) re ca (bz.cells (ι.length+(i-σ.length)) p y ?_ e)
    rw[eU (by exact ne λJ=>by lia),h1,nt,<-R.len];exact aW
 ·rcases er.mp Kg with q|q
  ·have q:b∈addrs (ρ.cs++t):=q
   rw[hS]at q
   rcases gT.mp q with q|q
   ·exact R.new b (er.mpr (.inl q))
   ·exact bz.new b (er.mpr (.inl (by rw[hS];exact i3 _ q)))
  ·exact R.new b (er.mpr (.inr q))
 ·have q:b∈addrs (ρ.cs++t):=q
  rw[hS]at q
  rcases gT.mp q with q|q
  ·exact R.e2 b fR q
  ·obtain⟨o,e⟩:=R.e3 b fR;rw[fresh b q]at e;exact absurd e.symm (cB _)
 ·exact bz.e3 b (i3 _ fR)
theorem bc.frame{f:aj}{nK as:aa af}{oI kw:aa (au×af)}{eD:aa Cell}{nL Q:af->aa Cell->Prop}(ι:aa ab)(h:bc c d f nK oI eD nL)(cG:ι.Nodup)(aq:∀i∈ι,i<σ.length)
  (k0:ι.map (λi=>σ[i]?)=eD.map (λx=>some (x.b8 (eo ι σ.length))))(bL:as=fQ (eo ι σ.length) nK)(ba:kw.map (·.1)=oI.map (·.1)/\kw.map (·.2)=fQ (eo ι σ.length) (oI.map (·.2)))
  (k:∀a ax,nL a ax->Q (a.b8 (eo ι σ.length)) (iO ι σ ax)):bc c d f as kw σ Q:=by
 intro A s ρ vs kvs bP R V W
 have R₀:=R.pick cG aq k0
 have gk:∀i∈ι,i<ρ.cs.length:=λi a7=>by refine ae R.len ?_;exact aq i a7
 have un:=wI (ρ:=ρ) (ι:=ι) R.len
 have ca:Carry ρ (l2 ρ ι) s.heap s.heap:=wG gk
 rw[bL]at V
 rw[ba.2]at W
 have:=h A s (l2 ρ ι) vs kvs bP R₀ (bT.hA un ca _ _ V) (bT.hA un ca _ _ W)
 rw[<-ba.1]at this
 refine ll this λr s' p=>?_
 obtain⟨v,rfl,a,bI,ax,bz,bx,bW,cJ,q⟩:=p
 refine⟨v,rfl,?_⟩
 obtain⟨t,bb⟩:=bx.pre
 have az:bI=⟨eR ρ.cs ι++t,jA ρ.cs ι++ρ.aR⟩:=by
  have cO:=bx.aR
  induction bI;subst bb;subst cO;rfl
 subst az
 have h1:(eR ρ.cs ι).length=ι.length:=by simp[eR]
 have fresh:∀b∈addrs t,s.heap.get? b=none:=by
  intro b fR
  by_cases z:b∈addrs (eR ρ.cs ι)
  ·obtain⟨j,p,aW,e⟩:=ez.mp z
   obtain⟨rB,eN,je,ck⟩:=ez.mp fR
   exfalso
   have A:=bz.apart j ((eR ρ.cs ι).length+rB) p eN (by refine ae (eG (dH.mp aW).1) ?_;exact aW) (by rw[eU (by exact jH _ _),nt];exact je) (by have:=(dH.mp aW).1;lia)
   rcases e with rfl|rfl<;>rcases ck with ck|ck
   ·exact A.1 ck
   ·exact A.2.1 ck
   ·exact A.2.2.1 ck
   ·exact A.2.2.2 ck
  ·exact bx.fresh b (by rw[hS];exact i3 _ fR) z
 have wK:=R.merge cG aq bz (λb o n J e=>bx.keep b o n e) fresh
 refine⟨_,⟨ρ.cs++t,ρ.aR⟩,_,wK,⟨⟨t,rfl⟩,rfl,λb o aY e=>bx.keep b o (λq=>aY (oG gk q)) e,λb fR aY=>?_⟩,bW,bq.b8 (ρ:=⟨eR ρ.cs ι++t,jA ρ.cs ι++ρ.aR⟩) (ρ':=⟨ρ.cs++t,ρ.aR⟩) (wJ R.len gk) wH _ _ cJ,k a ax q⟩
 have fR:b∈addrs (ρ.cs++t):=fR
 rw[hS]at fR
 exact fresh b ((gT.mp fR).resolve_left aY)
end
mutual
noncomputable def af.sub(n:ab)(x:af):af->af
 |.cell i=>match fC i n with|true=>x|false=>.cell i
 |.tup vs=>.tup (hj n x vs)
 |.lst vs=>.lst (hj n x vs)
 |.ey ns=>.ey ns
 |.obj C bA=>.obj C (mO n x bA)
 |.bound f s=>.bound f (af.sub n x s)
 |.none=>.none
 |.bool b=>.bool b
 |.int i=>.int i
 |.str s=>.str s
 |.bytes b=>.bytes b
 |.val v=>.val v
 |.e0 a b st=>.e0 a b st
 |.ir bA=>.ir bA
 |.ft=>.ft
noncomputable def hj(n:ab)(x:af):aa af->aa af
 |[]=>[]
 |a::as=>af.sub n x a::hj n x as
noncomputable def mO(n:ab)(x:af):aa (ab×af)->aa (ab×af)
 |[]=>[]
 |(k,a)::as=>(k,af.sub n x a)::mO n x as
end
noncomputable def Cell.sub(n:ab)(x:af):Cell->Cell
 |.list vs=>.list (hj n x vs)
 |.dict es=>.dict (mO n x es)
 |.aZ b=>.aZ b
 |.inst C bA=>.inst C (mO n x bA)
noncomputable def Cell.ey(n:ab):Cell->af
 |.list vs=>.lst (hj n .ft vs)
 |.inst C bA=>.obj C (mO n .ft bA)
 |_=>.ft
noncomputable def rE(n:ab)(x:af):aa Cell->aa Cell
 |[]=>[]
 |y::r=>y.sub n x::rE n x r
noncomputable def nM(n:ab)(x:af):aE->aE
 |[]=>[]
 |some a::r=>some (af.sub n x a)::nM n x r
 |none::r=>none::nM n x r
noncomputable def ct.sub(n:ab)(x:af):ct->ct
 |.ret a=>.ret (af.sub n x a)
 |f=>f
theorem rF(n:ab)(x:af):∀as:aa af,(hj n x as).length=as.length
 |[]=>rfl
 |_::as=>congrArg ti (rF n x as)
theorem wL(n:ab)(x:af):∀as:aa (ab×af),(mO n x as).length=as.length
 |[]=>rfl
 |(_,_)::as=>congrArg ti (wL n x as)
theorem rG(n:ab)(x:af):∀as:aa (ab×af),(mO n x as).map (·.1)=as.map (·.1)
 |[]=>rfl
 |(_,_)::as=>congrArg (pF _) (rG n x as)
theorem wM(n:ab)(x:af):∀l:aa Cell,rE n x l=l.map (Cell.sub n x)
 |[]=>rfl
 |y::r=>congrArg (pF _) (wM n x r)
theorem p0(n:ab)(x:af):∀l:aE,nM n x l=l.map (Option.map (af.sub n x))
 |[]=>rfl
 |some a::r=>congrArg (pF _) (p0 n x r)
 |none::r=>congrArg (pF _) (p0 n x r)
mutual
theorem bq.sub{c:aG}{ρ ρ':aT}{h:a8}{n:ab}{x:af}(a4:∀(i:ab) p,i≠n->ρ.cs[i]? =some p->ρ'.cs[i]? =some p)(aA:∀p,ρ.cs[n]? =some p->bq c ρ' h x (.ref p.1))(bb:Carry ρ ρ' h h):
  ∀(a:af) (v:aj),bq c ρ h a v->bq c ρ' h (af.sub n x a) v
 |.cell i,_,⟨p,az,ay⟩=>by
  show bq c ρ' h (match fC i n with|true=>x|false=>.cell i) _
  cases q:fC i n with
  |true=>have:=vF q;subst this;refine ae ay ?_;exact aA p az
  |false=>exact⟨p,a4 i p (λz=>by subst z;rw[Ih]at q;exact absurd q.symm fV) az,ay⟩
 |.tup as,_,h0=>by obtain⟨a,items,az,nb,ay,bF,z⟩:=h0;exact⟨a,items,az,(bb a _ nb ay).1,ay,bT.sub a4 aA bb as items bF,by rw[rF];exact z⟩
 |.lst as,_,h0=>by obtain⟨a,items,n,az,nb,ay,bF,z⟩:=h0;exact⟨a,items,n,az,(bb a _ nb ay).1,ay,bT.sub a4 aA bb as items bF,by rw[rF];exact z⟩
 |.ey _,_,⟨a,items,az,nb,⟨o,ay,q⟩,bF⟩=>⟨a,items,az,(bb a o nb ay).1,⟨o,ay,q⟩,bF⟩
 |.obj _ bA,_,h0=>by obtain⟨a,b,es,n,az,na,nb,ay,bF,fF,cG⟩:=h0;exact⟨a,b,es,n,az,(bb a _ na ay).1,(bb b _ nb bF).1,ay,bF,dR.sub a4 aA bb bA es fF,by rw[rG];exact cG⟩
 |.e0 _ _ _,_,h0=>by obtain⟨q,t,u,w,az,nb,ay⟩:=h0;exact⟨q,t,u,w,az,(bb q _ nb ay).1,ay⟩
 |.bound _ s,_,h0=>by obtain⟨q,iK,az,nb,ay,bF⟩:=h0;exact⟨q,iK,az,(bb q _ nb ay).1,ay,bq.sub a4 aA bb s iK bF⟩
 |.ir _,_,h0=>by obtain⟨q,az,nb,ay⟩:=h0;exact⟨q,az,(bb q _ nb ay).1,ay⟩
 |.none,_,e=>e
 |.bool _,_,e=>e
 |.int _,_,e=>e
 |.str _,_,e=>e
 |.bytes _,_,e=>e
 |.val _,_,e=>e
 |.ft,_,e=>e
theorem bT.sub{c:aG}{ρ ρ':aT}{h:a8}{n:ab}{x:af}(a4:∀(i:ab) p,i≠n->ρ.cs[i]? =some p->ρ'.cs[i]? =some p)(aA:∀p,ρ.cs[n]? =some p->bq c ρ' h x (.ref p.1))(bb:Carry ρ ρ' h h):
  ∀(a:aa af) (v:aa aj),bT c ρ h a v->bT c ρ' h (hj n x a) v
 |[],_,e=>e
 |a::as,_,h0=>by obtain⟨v,vs,e,az,ay⟩:=h0;exact⟨v,vs,e,bq.sub a4 aA bb a v az,bT.sub a4 aA bb as vs ay⟩
theorem dR.sub{c:aG}{ρ ρ':aT}{h:a8}{n:ab}{x:af}(a4:∀(i:ab) p,i≠n->ρ.cs[i]? =some p->ρ'.cs[i]? =some p)(aA:∀p,ρ.cs[n]? =some p->bq c ρ' h x (.ref p.1))(bb:Carry ρ ρ' h h):
  ∀(a:aa (ab×af)) (v:aa e9),dR c ρ h a v->dR c ρ' h (mO n x a) v
 |[],_,e=>e
 |(_,a)::as,_,h0=>by obtain⟨e,es,y,q,dQ,dV,e1,j8,iv⟩:=h0;exact⟨e,es,y,q,dQ,dV,e1,bq.sub a4 aA bb a _ j8,dR.sub a4 aA bb as es iv⟩
end
theorem ej.sub{c:aG}{ρ ρ':aT}{h:a8}{n:ab}{x:af}(a4:∀(i:ab) p,i≠n->ρ.cs[i]? =some p->ρ'.cs[i]? =some p)(aA:∀p,ρ.cs[n]? =some p->bq c ρ' h x (.ref p.1))(bb:Carry ρ ρ' h h):
  ∀(a:aa (ab×af)) (v:aa (au×aj)),ej c ρ h a v->ej c ρ' h (mO n x a) v
 |[],_,e=>e
 |(_,a)::as,_,h0=>by obtain⟨x,v,l,q,dQ,dV,e1⟩:=h0;exact⟨x,v,l,q,dQ,bq.sub a4 aA bb a _ dV,ej.sub a4 aA bb as l e1⟩
theorem ek.sub{c:aG}{ρ ρ':aT}{h:a8}{n:ab}{x:af}(a4:∀(i:ab) p,i≠n->ρ.cs[i]? =some p->ρ'.cs[i]? =some p)(aA:∀p,ρ.cs[n]? =some p->bq c ρ' h x (.ref p.1))(bb:Carry ρ ρ' h h){p:aJ×aJ}:
  ∀{y:Cell},ek c ρ h p y->ek c ρ' h p (y.sub n x)
 |.list _,h0=>by obtain⟨items,n,a,b,l,e⟩:=h0;exact⟨items,n,a,bT.sub a4 aA bb _ _ b,by rw[rF];exact l,e⟩
 |.dict _,h0=>by obtain⟨items,a,b,l,e⟩:=h0;exact⟨items,a,ej.sub a4 aA bb _ _ b,by rw[wL,rG];exact l,e⟩
 |.aZ _,e=>e
 |.inst _ _,h0=>by obtain⟨a,es,n,b,e,l,k⟩:=h0;exact⟨a,es,n,b,dR.sub a4 aA bb _ _ e,by rw[wL];exact l,by rw[rG];exact k⟩
section
variable{c:aG}{d:ab}{env:bu}{ls:aa au}{m:aE}{σ:aa Cell}
theorem Rep.AR{ρ:aT}{h:a8}{y:Cell}{cs:aa (aJ×aJ)}{p:aJ×aJ}(R:Rep c ⟨cs++[p],ρ.aR⟩ (σ++[y]) h):
  Rep c ⟨cs,ρ.aR⟩ (rE σ.length (y.ey σ.length) σ) h/\(∀a v,bq c ⟨cs++[p],ρ.aR⟩ h a v->bq c ⟨cs,ρ.aR⟩ h (af.sub σ.length (y.ey σ.length) a) v):=by
 have a5:cs.length=σ.length:=by have:=R.len;simp at this;exact this
 have aW:(cs++[p])[σ.length]? =some p:=by refine cv a5 (ae (eU (eL _)) ?_);simp
 have bM:(σ++[y])[σ.length]? =some y:=by refine ae (eU (eL _)) ?_;simp
 have C:=R.cells σ.length p y aW bM
 have a4:∀(i:ab) q,i≠σ.length->(⟨cs++[p],ρ.aR⟩:aT).cs[i]? =some q->(⟨cs,ρ.aR⟩:aT).cs[i]? =some q:=λi q a7 e=>by
  have e:(cs++[p])[i]? =some q:=e
  by_cases z:i<cs.length
  ·rw[eG z]at e;exact e
  ·have:i<(cs++[p]).length:=(dH.mp e).1
   simp at this;lia
 have ca:Carry ⟨cs++[p],ρ.aR⟩ ⟨cs,ρ.aR⟩ h h:=λa o na e=>by
  rw[fz,hS,gT,n']at na
  exact⟨fz.mpr ⟨na.1.1,na.2⟩,e⟩
 have out:p.1∉(⟨cs,ρ.aR⟩:aT).bar/\p.2∉(⟨cs,ρ.aR⟩:aT).bar:=by
  have h0:∀b,b=p.1\/b=p.2->b∉(⟨cs,ρ.aR⟩:aT).bar:=λb aq=>fz.mpr ⟨λq=>by
    obtain⟨j,eW,dN,e⟩:=ez.mp q
    have pZ:=(dH.mp dN).1
    have A:=R.apart j σ.length eW p (by refine ae (eG pZ) ?_;exact dN) aW (by have:j<cs.length:=pZ;lia)
    rcases aq with rfl|rfl<;>rcases e with e|e
    ·exact A.1 e.symm
    ·exact A.2.2.1 e.symm
    ·exact A.2.1 e.symm
    ·exact A.2.2.2 e.symm,λq=>R.e2 b q (ez.mpr ⟨σ.length,p,aW,aq⟩)⟩
  exact⟨h0 _ (.inl rfl),h0 _ (.inr rfl)⟩
 have ft:∀q,(⟨cs++[p],ρ.aR⟩:aT).cs[σ.length]? =some q->bq c ⟨cs,ρ.aR⟩ h .ft (.ref q.1):=λJ J=>trivial
 have X:bq c ⟨cs,ρ.aR⟩ h (y.ey σ.length) (.ref p.1):=by
  induction y with
  |list vs=>obtain⟨items,n,az,ay,z,bF⟩:=C;exact⟨p.1,items,n,rfl,out.1,az,bT.sub a4 ft ca _ _ ay,by rw[rF];exact z⟩
  |inst D bA=>obtain⟨az,es,n,ay,bF,-,fF⟩:=C;exact⟨p.1,p.2,es,n,rfl,out.1,out.2,az,ay,dR.sub a4 ft ca _ _ bF,by rw[rG];exact fF⟩
  |dict _=>trivial
  |aZ _=>trivial
 have aA:∀q,(⟨cs++[p],ρ.aR⟩:aT).cs[σ.length]? =some q->bq c ⟨cs,ρ.aR⟩ h (y.ey σ.length) (.ref q.1):=λq e=>by
  have e:(cs++[p])[σ.length]? =some q:=e
  rw[aW]at e;cases e;exact X
 refine⟨⟨by rw[wM,gK];exact a5,λi j a b bL aq kC=>?_,λi q z bg aO=>?_,λb aq=>R.new b ?_,R.stays,λb aq q=>R.e2 b aq ?_,R.e3⟩,bq.sub a4 aA ca⟩
 ·have oJ:=(dH.mp bL).1
  have h2:=(dH.mp aq).1
  exact R.apart i j a b (by refine ae (eG oJ) ?_;exact bL) (by refine ae (eG h2) ?_;exact aq) kC
 ·have Ki:=(dH.mp bg).1
  rw[wM,j4]at aO
  cases e:σ[i]? with
  |none=>rw[e]at aO;exact absurd aO.symm (cB _)
  |some Kj=>
   rw[e]at aO;cases aO
   refine ek.sub a4 aA ca (R.cells i q Kj ?_ ?_)
   ·refine ae (eG Ki) ?_;exact bg
   ·refine ae (eG (dH.mp e).1) ?_;exact e
 ·rcases er.mp aq with q|q
  ·exact er.mpr (.inl (by rw[hS];exact mw _ q))
  ·exact er.mpr (.inr q)
 ·rw[hS];exact mw _ q
theorem AS{α:Type}{l:aa α}{n:ab}(h:l.length=n+1):eO λt x=>l=t++[x]/\t.length=n:=by
 refine⟨l.dropLast,l.getLast (by intro e;subst e;exact absurd h.symm (Ii _)),(List.dropLast_concat_getLast _).symm,by simp[h]⟩
inductive l5(n:ab)(Q:af->aa Cell->Prop):af->aa Cell->Prop
 |done {a:af} {σ:aa Cell} (h:Q a σ):l5 n Q a σ
 |drop {a:af} {ax:aa Cell} (σ:aa Cell) (y:Cell) (e:ax=σ++[y]) (l:qS n σ.length=true) (h:l5 n Q (af.sub σ.length (y.ey σ.length) a) (rE σ.length (y.ey σ.length) σ)):l5 n Q a ax
theorem b5.trim{ρ:aT}{s s':aF}{Q:af->aa Cell->Prop}{v:aj}(p:b5 c ρ s (l5 ρ.cs.length Q) v s'):b5 c ρ s Q v s':=by
 obtain⟨a,ρ',aC,R,X,M,V,q⟩:=p
 induction q generalizing ρ' with
 |done h=>exact⟨_,ρ',_,R,X,M,V,h⟩
 |@drop a ax σ y e l h cF=>
  subst e
  have l:=k' l
  obtain⟨t,bb⟩:=X.pre
  have a5:ρ'.cs.length=σ.length+1:=by have:=R.len;simp at this;exact this
  obtain⟨cs,p,kF,hlen⟩:=AS a5
  obtain⟨jO,rH⟩:=ρ'
  have kF:jO=cs++[p]:=kF
  subst kF
  have cO:rH=ρ.aR:=X.aR
  subst cO
  obtain⟨hv,gZ⟩:=R.AR
  have bb:cs++[p]=ρ.cs++t:=bb
  have aW:∃u,cs=ρ.cs++u:=by
   refine⟨cs.drop ρ.cs.length,?_⟩
   have:(cs++[p]).take ρ.cs.length=ρ.cs:=by refine ae bb ?_;simp
   rw[zJ (by lia)]at this
   conv=>lhs;rw[<-vG ρ.cs.length cs,this]
  refine cF ⟨cs,ρ.aR⟩ hv ⟨aW,rfl,X.keep,λb aq nb=>X.fresh b (by rw[hS];exact mw _ aq) nb⟩ (gZ _ _ V)
theorem bc.trim{f:aj}{as:aa af}{kw:aa (au×af)}{Q:af->aa Cell->Prop}(h:bc c d f as kw σ (l5 σ.length Q)):bc c d f as kw σ Q:=
 λA s ρ vs kvs a b e g=>ll (h A s ρ vs kvs a b e g) λJ J ⟨v,e,p⟩=>⟨v,e,b5.trim (by refine ae b.len ?_;exact p)⟩
inductive oK (n : ab) (Q : ct -> aE -> aa Cell -> Prop) : ct -> aE -> aa Cell -> Prop
  | done {f : ct} {m : aE} {σ : aa Cell} (h : Q f m σ) : oK n Q f m σ
  | drop {f : ct} {m : aE} {ax : aa Cell} (σ : aa Cell) (y : Cell) (e : ax = σ ++ [y]) (l : qS n σ.length = true)
    (h : oK n Q (f.sub σ.length (y.ey σ.length)) (nM σ.length (y.ey σ.length) m) (rE σ.length (y.ey σ.length) σ)) : oK n Q f m ax
set_option tactic.hygienic true in
theorem dK.sub{ρ ρ':aT}{h:a8}{x:af}{n:ab}(cO:ρ'.aR=ρ.aR)(a4:∀a v,bq c ρ h a v->bq c ρ' h (af.sub n x a) v)(F:dK c env ls m ρ h):dK c env ls (nM n x m) ρ' h:=by
 refine dI λdv b4=>?_
 obtain⟨dS,ns,sl⟩:=F.ns
 refine b4 ?_
 refine⟨⟨dS,ns,λi y bM=>?_⟩,λq bg=>by refine ae cO ?_;exact F.aR q bg,F.cells,by rw[p0,gK];exact F.len⟩
 have:=sl i y bM
 have e:(nM n x m).getD i none=(m.getD i none).map (af.sub n x):=by
  rw[p0,j2,j4,j2]
  cases m[i]? <;>rfl
 refine ae e ?_
 unfold ff at this⊢
 cases hm:m.getD i none with
 |none=>rw[hm]at this;exact this
 |some a=>
  rw[hm]at this
  cases q:env.cells.lookup y with
  |none=>rw[q]at this;refine dI λdv b4=>?_;obtain⟨v,az,ay⟩:=this;refine b4 ?_;exact⟨v,az,a4 _ _ ay⟩
  |some eW=>rw[q]at this;refine dI λdv b4=>?_;obtain⟨cf,eb,v,az,ay⟩:=this;refine b4 ?_;exact⟨cf,eb,v,az,a4 _ _ ay⟩
theorem lz.trim{ρ:aT}{s s':aF}{Q:ct->aE->aa Cell->Prop}{v:n9}(p:lz c env ls ρ s (oK ρ.cs.length Q) v s'):lz c env ls ρ s Q v s':=by
 obtain⟨a,m,ρ',aC,R,X,M,F,V,q⟩:=p
 induction q generalizing ρ' with
 |done h=>exact⟨_,_,ρ',_,R,X,M,F,V,h⟩
 |@drop f m ax σ y e l h cF=>
  subst e
  have l:=k' l
  obtain⟨t,bb⟩:=X.pre
  have a5:ρ'.cs.length=σ.length+1:=by have:=R.len;simp at this;exact this
  obtain⟨cs,p,kF,hlen⟩:=AS a5
  obtain⟨jO,rH⟩:=ρ'
  have kF:jO=cs++[p]:=kF
  subst kF
  have cO:rH=ρ.aR:=X.aR
  subst cO
  obtain⟨hv,gZ⟩:=R.AR
  have bb:cs++[p]=ρ.cs++t:=bb
  have aW:∃u,cs=ρ.cs++u:=by
   refine⟨cs.drop ρ.cs.length,?_⟩
   have:(cs++[p]).take ρ.cs.length=ρ.cs:=by refine ae bb ?_;simp
   rw[zJ (by lia)]at this
   conv=>lhs;rw[<-vG ρ.cs.length cs,this]
  refine cF ⟨cs,ρ.aR⟩ hv ⟨aW,rfl,X.keep,λb aq nb=>X.fresh b (by rw[hS];exact mw _ aq) nb⟩ (dK.sub (ρ:=⟨cs++[p],ρ.aR⟩) (ρ':=⟨cs,ρ.aR⟩) rfl gZ F) ?_
  induction f with
  |ret a=>obtain⟨w,e,W⟩:=V;exact⟨w,e,gZ _ _ W⟩
  |next=>exact V
  |brk=>exact V
  |cont=>exact V
theorem eB.trim{t:bN n9}{Q:ct->aE->aa Cell->Prop}(h:eB c d env ls t m σ (oK σ.length Q)):eB c d env ls t m σ Q:=
 λA s ρ S=>bo (h A s ρ S) (λJ J p=>lz.trim (by refine ae S.r.len ?_;exact p)) λJ J x=>x
end
noncomputable def eS{α:Type}:aa (ab×α)->ab->bh α
 |[],_=>none
 |(k,a)::r,j=>match fC k j with|true=>some a|false=>eS r j
noncomputable def ix:aa (ab×af)->ab->af->aa (ab×af)
 |[],j,b=>[(j,b)]
 |(k,a)::r,j,b=>match fC k j with|true=>(k,b)::r|false=>(k,a)::ix r j b
theorem oL{α:Type}{k:ab}{a:α}:∀{l:aa (ab×α)},eS l k=some a->(k,a)∈l
 |(bX,kb)::r,h=>by
  replace h:(match fC bX k with|true=>some kb|false=>eS r k)=some a:=h
  cases q:fC bX k with
  |true=>rw[q]at h;cases h;refine ae (vF q) ?_;exact .head _
  |false=>rw[q]at h;exact .tail _ (oL h)
theorem tU(j:ab)(b:af):∀bA:aa (ab×af),(ix bA j b).length<=bA.length+1
 |[]=>eL _
 |(k,a)::r=>by
  have:=tU j b r
  show(match fC k j with|true=>(k,b)::r|false=>(k,a)::ix r j b).length<=_
  induction fC k j with
  |true=>exact Nat.le_succ _
  |false=>exact qW this
theorem AU(j:ab)(b:af):∀bA:aa (ab×af),(∀k∈(ix bA j b).map (·.1),k∈bA.map (·.1)\/k=j)
 |[]=>λk h=>.inr (eV.mp h)
 |(k,a)::r=>by
  intro bX h
  refine(?_:bX∈(match fC k j with|true=>(k,b)::r|false=>(k,a)::ix r j b:aa (ab×af)).map (·.1)->bX∈k::r.map (·.1)\/bX=j) h
  induction fC k j with
  |true=>exact .inl
  |false=>exactλh=>(gH.mp h).elim (λh=>.inl (h▸.head _)) λh=>(AU j b r bX h).imp (.tail _) id
theorem tV(j:ab)(b:af):∀{bA:aa (ab×af)},(bA.map (·.1)).Nodup->((ix bA j b).map (·.1)).Nodup
 |[],_=>j3.mpr ⟨jr,tm⟩
 |(k,a)::r,h=>by
  rw[gJ,j3]at h
  show((match fC k j with|true=>(k,b)::r|false=>(k,a)::ix r j b:aa (ab×af)).map (·.1)).Nodup
  cases z:fC k j with
  |true=>exact j3.mpr h
  |false=>
   refine j3.mpr ⟨λq=>?_,tV j b h.2⟩
   rcases AU j b r k q with q|q
   ·exact h.1 q
   ·subst q;rw[Ih]at z;exact absurd z.symm fV
noncomputable def rI:aa (ab×af)->ab->af->(aa (ab×af)->Prop)->Prop
 |[],j,b,K=>K [(j,b)]
 |(k,a)::r,j,b,K=>match fC k j with|true=>K ((k,b)::r)|false=>rI r j b λk1=>K ((k,a)::k1)
theorem wN{j:ab}{b:af}:∀{bA:aa (ab×af)} {K:aa (ab×af)->Prop},rI bA j b K->K (ix bA j b)
 |[],_,h=>h
 |(k,a)::r,K,h=>by
  refine(?_:(match fC k j with|true=>K ((k,b)::r)|false=>rI r j b λk1=>K ((k,a)::k1))->K (match fC k j with|true=>(k,b)::r|false=>(k,a)::ix r j b)) h
  induction fC k j with
  |true=>exact id
  |false=>exactλh=>wN (K:=λk1=>K ((k,a)::k1)) h
section
variable{c:aG}{ρ:aT}{h:a8}
theorem Kk{x:au}{e:e9}{r:aa e9}(q:e.key.isStr x=true):getL x (e::r)=some (some e.val):=by
 unfold getL;(refine ae (List.find?_cons) ?_;exact ae q rfl)
theorem Kl{x:au}{e:e9}{r:aa e9}(q:e.key.isStr x=false)(k:e.refKey=false):getL x (e::r)=getL x r:=by
 unfold getL;(refine ae (List.find?_cons) ?_;refine ae q ?_;refine ae List.any_cons ?_;refine ae k ?_);rfl
theorem AV{e:e9}{y x:au}(q:∃t,e.key=.str y t):e.key.isStr x=(y==x):=by
 obtain⟨t,q⟩:=q;refine ae q ?_;rfl
theorem AW{e:e9}{y:au}(q:∃t,e.key=.str y t):e.refKey=false:=by
 obtain⟨t,q⟩:=q;unfold DictEntry.refKey;exact ae q rfl
theorem rJ(aY:c.names.Nodup){k j:ab}{y x:au}(bM:c.names[k]? =some y)(aA:c.names[j]? =some x):(y==x)=fC k j:=by
 obtain⟨aB,az⟩:=dH.mp bM
 obtain⟨aI,ay⟩:=dH.mp aA
 have key:k≠j->y≠x:=λne e=>by
  rcases Z2 ne with z|z
  ·exact tg.mp aY k j aB aI z (by(refine ae az ?_;refine ae ay ?_;exact ae e rfl))
  ·exact tg.mp aY j k aI aB z (by(refine ae az ?_;refine ae ay ?_;exact ae e rfl))
 by_cases z:k=j
 ·subst z;rw[bM]at aA;cases aA;rw[Ih,qU]
 ·refine ae (th.mpr (key z)) ?_
  cases q:fC k j with
  |true=>exact absurd (vF q) z
  |false=>rfl
theorem dR.get(aY:c.names.Nodup){j:ab}{x:au}(aA:c.names[j]? =some x):∀{bA:aa (ab×af)} {es:aa e9},dR c ρ h bA es->
  match eS bA j with
  |some a=>∃v,getL x es=some (some v)/\bq c ρ h a v
  |none=>getL x es=some none
 |[],es,r=>by refine ae (show es=[]from r) ?_;rfl
 |(k,a)::bA,es,⟨e,hR,y,q,dQ,dV,e1,j8,iv⟩=>by
  have cF:=dR.get aY aA iv
  have hs:e.key.isStr x=fC k j:=(AV dV).trans (rJ aY dQ aA)
  subst q
  show match(match fC k j with|true=>some a|false=>eS bA j)with|some a=>∃v,getL x (e::hR)=some (some v)/\bq c ρ h a v|none=>getL x (e::hR)=some none
  cases z:fC k j with
  |true=>exact⟨e.val,Kk (hs.trans z),j8⟩
  |false=>
   have step:getL x (e::hR)=getL x hR:=Kl (hs.trans z) (AW dV)
   refine ae step ?_
   exact cF
theorem dR.put(aY:c.names.Nodup){j:ab}{x:au}(aA:c.names[j]? =some x){b:af}{v:aj}{t:eZ}(aq:bq c ρ h b v):∀{bA:aa (ab×af)} {es:aa e9},dR c ρ h bA es->
  dR c ρ h (ix bA j b) (putL x (pD c.w.params x) (.str x t) v es)
 |[],es,r=>by refine ae (show es=[]from r) ?_;exact⟨_,[],x,rfl,aA,⟨t,rfl⟩,rfl,aq,rfl⟩
 |(k,a)::bA,es,⟨e,hR,y,q,dQ,dV,e1,j8,iv⟩=>by
  subst q
  have hs:e.key.isStr x=fC k j:=(AV dV).trans (rJ aY dQ aA)
  show dR c ρ h (match fC k j with|true=>(k,b)::bA|false=>(k,a)::ix bA j b) _
  unfold putL
  refine ae hs ?_
  cases z:fC k j with
  |true=>exact⟨_,hR,y,rfl,dQ,dV,e1,aq,iv⟩
  |false=>exact⟨e,_,y,rfl,dQ,dV,e1,j8,dR.put aY aA aq iv⟩
theorem dR.len:∀{bA:aa (ab×af)} {es:aa e9},dR c ρ h bA es->es.length=bA.length
 |[],es,r=>by refine ae (show es=[]from r) ?_;rfl
 |(_,_)::bA,_,h0=>by obtain⟨e,hR,_,q,_,_,_,_,iv⟩:=h0;(refine ae q ?_;refine ae dc ?_;refine ae dc ?_;exact ae (dR.len iv) rfl)
theorem dR.strKeys:∀{bA:aa (ab×af)} {es:aa e9},dR c ρ h bA es->∀e∈es,e.refKey=false
 |[],es,r=>by refine ae (show es=[]from r) ?_;intro _ m;exact absurd m jr
 |(_,_)::bA,_,⟨e,hR,_,q,_,dV,_,_,iv⟩=>by
  subst q
  intro ck m
  rcases gH.mp m with rfl|m
  ·exact AW dV
  ·exact dR.strKeys iv ck m
end
noncomputable def aG.d7(c:aG):aG:={c with clean:=false}
mutual
theorem bq.d7{c:aG}{ρ:aT}{h:a8}{b:aS}{l:bh (aa bu)}:∀{a:af} {v:aj},bq c ρ h a v->bq {c with clean:=b,fr:=l} ρ h a v
 |.none,_,e=>e
 |.bool _,_,e=>e
 |.int _,_,e=>e
 |.str _,_,e=>e
 |.bytes _,_,e=>e
 |.tup as,_,h0=>by obtain⟨a,items,az,nb,ay,bF,z⟩:=h0;exact⟨a,items,az,nb,ay,bT.d7 bF,z⟩
 |.lst as,_,h0=>by obtain⟨a,items,n,az,nb,ay,bF,z⟩:=h0;exact⟨a,items,n,az,nb,ay,bT.d7 bF,z⟩
 |.ey _,_,e=>e
 |.obj _ bA,_,h0=>by obtain⟨a,b,es,n,az,na,nb,ay,bF,fF,cG⟩:=h0;exact⟨a,b,es,n,az,na,nb,ay,bF,dR.d7 fF,cG⟩
 |.e0 _ _ _,_,e=>e
 |.cell _,_,e=>e
 |.val _,_,e=>e
 |.bound _ a,_,h0=>by obtain⟨q,iK,az,nb,ay,bF⟩:=h0;exact⟨q,iK,az,nb,ay,bq.d7 bF⟩
 |.ir _,_,e=>e
 |.ft,_,e=>e
theorem bT.d7{c:aG}{ρ:aT}{h:a8}{b:aS}{l:bh (aa bu)}:∀{a:aa af} {v:aa aj},bT c ρ h a v->bT {c with clean:=b,fr:=l} ρ h a v
 |[],_,e=>e
 |a::as,_,h0=>by obtain⟨v,r,e,az,ay⟩:=h0;exact⟨v,r,e,bq.d7 az,bT.d7 ay⟩
theorem dR.d7{c:aG}{ρ:aT}{h:a8}{b:aS}{l:bh (aa bu)}:∀{bA:aa (ab×af)} {es:aa e9},dR c ρ h bA es->dR {c with clean:=b,fr:=l} ρ h bA es
 |[],_,e=>e
 |(_,a)::as,_,h0=>by obtain⟨e,hR,x,q,dQ,dV,e1,j8,iv⟩:=h0;exact⟨e,hR,x,q,dQ,dV,e1,bq.d7 j8,dR.d7 iv⟩
end
theorem ej.d7{c:aG}{ρ:aT}{h:a8}{b:aS}{l:bh (aa bu)}:∀{bA:aa (ab×af)} {es:aa (au×aj)},ej c ρ h bA es->ej {c with clean:=b,fr:=l} ρ h bA es
 |[],_,e=>e
 |(_,a)::as,_,h0=>by obtain⟨x,v,l,q,dQ,dV,e1⟩:=h0;exact⟨x,v,l,q,dQ,dV.d7,ej.d7 e1⟩
theorem ek.d7{c:aG}{ρ:aT}{h:a8}{b:aS}{l:bh (aa bu)}{p:aJ×aJ}:∀{x:Cell},ek c ρ h p x->ek {c with clean:=b,fr:=l} ρ h p x
 |.list _,h0=>by obtain⟨items,n,a,b,d,i8⟩:=h0;exact⟨items,n,a,b.d7,d,i8⟩
 |.dict _,h0=>by obtain⟨es,a,b,d,i8⟩:=h0;exact⟨es,a,b.d7,d,i8⟩
 |.aZ _,e=>e
 |.inst _ _,h0=>by obtain⟨a,es,n,b,e,d,i8⟩:=h0;exact⟨a,es,n,b,e.d7,d,i8⟩
theorem Rep.d7{c:aG}{ρ:aT}{σ:aa Cell}{h:a8}{b:aS}{l:bh (aa bu)}(R:Rep c ρ σ h):Rep {c with clean:=b,fr:=l} ρ σ h:=
 ⟨R.len,R.apart,λi p x a e=>(R.cells i p x a e).d7,R.new,R.stays,R.e2,R.e3⟩
theorem b5.d7{c:aG}{ρ:aT}{s s':aF}{Q:af->aa Cell->Prop}{v:aj}{b:aS}{l:bh (aa bu)}(p:b5 c ρ s Q v s'):b5 {c with clean:=b,fr:=l} ρ s Q v s':=
 let⟨a,ρ',aC,R,X,M,V,q⟩:=p;⟨a,ρ',aC,R.d7,X,M,V.d7,q⟩
noncomputable def l6(K:i2)(C:aJ):aS:=
 findIn K (.ref C) "__getattribute__"==some (some (.builtin "object.__getattribute__"))&&findIn K (.ref C) "__getattr__"==some none&&findIn K (.ref C) "__setattr__"==some (some (.builtin "object.__setattr__"))&&
 plainOver K C&&hasDictIn K C
theorem p1{K:i2}{C:aJ}(e:l6 K C=true):findIn K (.ref C) "__getattribute__"=some (some (.builtin "object.__getattribute__"))/\findIn K (.ref C) "__getattr__"=some none/\
  findIn K (.ref C) "__setattr__"=some (some (.builtin "object.__setattr__"))/\plainOver K C=true/\hasDictIn K C=true:=by
 simp only[l6,gf,fW]at e
 obtain⟨⟨⟨⟨a,b⟩,d⟩,f⟩,g⟩:=e
 exact⟨a,b,d,f,g⟩
noncomputable def Hand:af->Prop
 |.val v=>handedIn v=true
 |.ft=>bB
 |_=>ky
inductive p2:aj->Prop
 |bool {b:aS}:p2 (.bool b)
 |int {i:ah} {t:eZ}:p2 (.int i t)
 |str {x:au} {t:eZ}:p2 (.str x t)
 |bytes {b:eM aU} {t:eZ}:p2 (.bytes b t)
 |ref {a:aJ}:p2 (.ref a)
noncomputable def rK:af->aS
 |.none=>false
 |.val _=>false
 |.ft=>false
 |_=>true
theorem Km{P:Prop}(e:true=false):P:=by exact absurd e.symm fV
theorem et{P:Prop}(e:false=true):P:=by exact absurd e fV
theorem AX{c:aG}{ρ:aT}{h:a8}{a:af}{v:aj}(e:rK a=true)(V:bq c ρ h a v):p2 v:=by
 induction a using af.cs
 case none=>exact et e
 case val=>exact et e
 case ft=>exact et e
 case bool=>refine ae (show v=_ from V) ?_;exact .bool
 case int=>let⟨_,q⟩:=V;refine ae q ?_;exact .int
 case str=>let⟨_,q⟩:=V;refine ae q ?_;exact .str
 case bytes=>let⟨_,q,_⟩:=V;refine ae q ?_;exact .bytes
 case tup=>let⟨_,_,q,_,_,_,_⟩:=V;refine ae q ?_;exact .ref
 case lst=>let⟨_,_,_,q,_,_,_,_⟩:=V;refine ae q ?_;exact .ref
 case ey=>let⟨_,_,q,_,_,_⟩:=V;refine ae q ?_;exact .ref
 case obj=>let⟨_,_,_,_,q,_,_,_,_,_,_⟩:=V;refine ae q ?_;exact .ref
 case e0=>let⟨_,_,_,_,q,_,_⟩:=V;refine ae q ?_;exact .ref
 case cell=>let⟨_,_,q⟩:=V;refine ae q ?_;exact .ref
 case bound=>let⟨_,_,q,_,_,_⟩:=V;refine ae q ?_;exact .ref
 case ir=>let⟨_,q,_,_⟩:=V;refine ae q ?_;exact .ref
theorem AY{P:af->Prop}{a:af}(n:P .none)(v:∀x,P (.val x))(j:P .ft)(e:rK a=false):P a:=by
 induction a using af.cs
 case none=>exact n
 case val=>exact v _
 case ft=>exact j
 all_goals exact Km e
theorem AZ{c:aG}{ρ:aT}{h:a8}{a:af}{v:aj}(cO:Hand a)(V:bq c ρ h a v):handedIn v=true:=by
 cases e:rK a with
 |true=>cases AX e V<;>rfl
 |false=>exact AY (P:=λa=>Hand a->bq c ρ h a v->handedIn v=true) (λJ V=>by refine ae (show v=_ from V) ?_;rfl) (λx cO V=>by refine ae (show v=_ from V) ?_;exact cO) (λcO=>cO.elim) e cO V
inductive mP(σ:aa Cell):af->aJ->aa (ab×af)->Prop
 |cell {i:ab} {C:aJ} {bA:aa (ab×af)} (h:σ[i]? =some (.inst C bA)):mP σ (.cell i) C bA
 |obj {C:aJ} {bA:aa (ab×af)}:mP σ (.obj C bA) C bA
section
variable{c:aG}{d:ab}{σ:aa Cell}
theorem tW{ρ:aT}{h:a8}(R:Rep c ρ σ h){a:af}{C:aJ}{bA:aa (ab×af)}(aP:mP σ a C bA){v:aj}(V:bq c ρ h a v):
  mG λp b es n=>hQ (v=.ref p) (InstAt h p (instObj C b) C (some (dictOf es n))) (dR c ρ h bA es) ((bA.map (·.1)).Nodup):=by
 induction aP with
 |@cell i _ _ aP=>
  obtain⟨p,e,rfl⟩:=V
  obtain⟨az,es,n,ay,bF,_,fF⟩:=R.cells i p _ e aP
  exact⟨p.1,p.2,es,n,rfl,⟨az,rfl,rfl,ay⟩,bF,fF⟩
 |obj=>
  obtain⟨p,b,es,n,e,-,-,az,ay,bF,cG⟩:=V
  exact⟨p,b,es,n,e,⟨az,rfl,rfl,ay⟩,bF,cG⟩
theorem A0{ρ:aT}{h:a8}(R:Rep c ρ σ h){i:ab}{C:aJ}{bA:aa (ab×af)}(aP:σ[i]? =some (.inst C bA)){v:aj}(V:bq c ρ h (.cell i) v):
  hO λp es n=>Ai (v=.ref p.1) (ρ.cs[i]? =some p) (InstAt h p.1 (instObj C p.2) C (some (dictOf es n))) (h.get? p.2=some (dictOf es n)) (dR c ρ h bA es) (bA.length<=500) ((bA.map (·.1)).Nodup):=by
 obtain⟨p,e,rfl⟩:=V
 obtain⟨az,es,n,ay,bF,fF,wO⟩:=R.cells i p _ e aP
 exact⟨p,es,n,rfl,e,⟨az,rfl,rfl,ay⟩,ay,bF,fF,wO⟩
theorem Kn{self:af}{k:ab}{x:au}{C:aJ}{bA:aa (ab×af)}{a:af}{expr:aS}{Q:af->aa Cell->Prop}(H:c.Ok)(aA:c.names[k]? =some x)(aN:l6 c.K C=true)(aY:findIn c.K (.ref C) x=some none)
  (aP:mP σ self C bA)(bL:eS bA k=some a)(cO:Hand a)(h:Q a σ):iM c d (λv=>getAttr v x expr) self σ Q:=by
 intro A s ρ v bP R V
 obtain⟨p,b,es,n,rfl,I,bF,cG⟩:=tW R aP V
 obtain⟨g1,g2,-,-,l7⟩:=p1 aN
 have:=bF.get H.nodup aA
 rw[bL]at this
 obtain⟨v,cx,gZ⟩:=this
 have X:c.K.In s.heap:=H.fZ.keeps λb o e=>R.stays b o e
 exact aK.of<|get_value X I g1 (findObj_own l7 aY rfl cx) (AZ cO gZ) (b5.same R gZ h)
theorem Ko{self:af}{k:ab}{x:au}{C:aJ}{bA:aa (ab×af)}{a:af}{tX:aj}{expr:aS}{Q:af->aa Cell->Prop}(H:c.Ok)(aA:c.names[k]? =some x)(aN:l6 c.K C=true)(aY:findIn c.K (.ref C) x=some (some tX))(c3:specialIn c.K tX "__get__"=some none)
  (hd:handedIn tX=true)(Kp:copiedNames.contains x=false)(aP:mP σ self C bA)(bL:eS bA k=none)(a4:∀ρ h,c.base.StaysIn h->(∀b∈ρ.bar,c.base.get? b=none)->bq c ρ h a tX)(h:Q a σ):
  iM c d (λv=>getAttr v x expr) self σ Q:=by
 intro A s ρ v bP R V
 obtain⟨p,b,es,n,rfl,I,bF,-⟩:=tW R aP V
 obtain⟨g1,g2,-,-,l7⟩:=p1 aN
 have:=bF.get H.nodup aA
 rw[bL]at this
 have X:c.K.In s.heap:=H.fZ.keeps λb o e=>R.stays b o e
 exact aK.of<|get_value X I g1 (findObj_cls l7 aY c3 hd Kp this) hd (b5.same R (a4 ρ _ R.stays R.new) h)
theorem Kq{self:af}{x:au}{C p g:aJ}{rest:aa aj}{bA:aa (ab×af)}{expr:aS}{Q:af->aa Cell->Prop}(H:c.Ok)(aN:l6 c.K C=true)(aY:findIn c.K (.ref C) x=some (some (.ref p)))
  (c3:specialIn c.K (.ref p) "__get__"=some (some (.builtin "property.__get__")))(bb:takesIn c.K (.ref p)=some true)(aW:recIn c.K p "property"=some (.ref g::rest))(aP:mP σ self C bA)
  (h:bc c.d7 d (.ref g) [self] [] σ λa ax=>Hand a/\Q a ax):iM c (d+1) (λv=>getAttr v x expr) self σ Q:=by
 intro A s ρ v bP R V
 obtain⟨q,b,es,n,rfl,I,bF,-⟩:=tW R aP V
 obtain⟨g1,g2,-,-,l7⟩:=p1 aN
 have X:c.K.In s.heap:=H.fZ.keeps λb o e=>R.stays b o e
 have jf:d9 c d A.in1:=⟨bP.1,by have:=bP.2.1;exact ne λJ=>by lia,by have:=bP.2.2.1;exact ne λJ=>by lia,bP.2.2.2⟩
 have:=ea.any (h A.in1 {s with toks:=s.toks+1} ρ [.ref q] [] jf R.d7 (jw V.d7 iw) iw)
 refine aK.of<|get_bind X I g1 (findObj_data (by obtain⟨x,aA,_⟩:=any_some l7;refine ae aA ?_;rfl) aY c3 bb) g2 (wpAny_call (prop_get (s:={s with toks:=s.toks+1}) X aW (codeAny_mono this λr s' p=>?_)))
 obtain⟨v,rfl,a,bI,ax,bz,bx,bW,cJ,cO,Kr⟩:=p
 show wpAny _ A (handedOut v) _ _ _
 refine ae (handedOut_of (AZ cO cJ)) ?_
 exact dn ⟨a,bI,ax,bz.d7,bx,b'.trans (s':={s with toks:=s.toks+1}) b'.of bW,cJ.d7,Kr⟩
theorem Ks{self:af}{k:ab}{x:au}{C f:aJ}{bA:aa (ab×af)}{f6:bN aS}{A:cy}{s:aF}{ρ:aT}{v:aj}{Q:aj×aa aj->aF->Prop}(H:c.Ok)(aA:c.names[k]? =some x)(aN:l6 c.K C=true)(aY:findIn c.K (.ref C) x=some (some (.ref f)))
  (hf:typeIn c.K (.ref f)=some (.type "function"))(aP:mP σ self C bA)(bL:eS bA k=none)(R:Rep c ρ σ s.heap)(V:bq c ρ s.heap self v)(h:Q (.ref f,[v]) s):
  wpAny (model c.prog c.w) A (getMethod v x f6) Q cb s:=by
 obtain⟨q,b,es,n,rfl,I,bF,-⟩:=tW R aP V
 obtain⟨g1,g2,-,-,l7⟩:=p1 aN
 have X:c.K.In s.heap:=H.fZ.keeps λb o e=>R.stays b o e
 have:=bF.get H.nodup aA
 rw[bL]at this
 exact method_fn X I g1 g2 aY hf (by show(lookIn _ (dictOf es n)).map _=_;rw[lookIn_dict,this];rfl) h
theorem Kt{i:ab}{k:ab}{x:au}{C:aJ}{bA:aa (ab×af)}{a:af}{Q:aa Cell->Prop}{tk:eZ}(H:c.Ok)(aA:c.names[k]? =some x)(aN:l6 c.K C=true)(bb:takerIn c.K C x=some none)
  (aP:σ[i]? =some (.inst C bA))(a5:bA.length<=400)(h:Q (σ.set i (.inst C (ix bA k a)))){A:cy}{s:aF}{ρ:aT}{v w:aj}(R:Rep c ρ σ s.heap)(V:bq c ρ s.heap (.cell i) v)(W:bq c ρ s.heap a w):
  codeAny (model c.prog c.w) A (.call (.builtin "object.__setattr__") ⟨[v,.str x tk,w],[]⟩) (λr s'=>r=.ok (.ret .none)/\iL c ρ s (λJ aC=>Q aC) () s') s:=by
 obtain⟨p,es,n,rfl,e,I,ay,bF,-,cG⟩:=A0 R aP V
 obtain⟨-,-,g3,tY,l7⟩:=p1 aN
 have X:c.K.In s.heap:=H.fZ.keeps λb o e=>R.stays b o e
 refine osa_open X I tY bb λb=>?_
 obtain⟨cd,rr,wQ⟩:=any_some l7
 obtain⟨rL,jB,aY,-⟩:=I
 have ne:p.1≠p.2:=by
  intro q
  rw[q]at rL
  rw[ay]at rL;cases rL
 refine bw (dn (bw (bw (wpAny_loadPart rL (bw ((looks_clsIn X rr).here ?_))))))
 refine ae wQ ?_
 refine dn (a:=some p.2) (bw (dn (bw ?_)))
 refine bw (bw (Ij (dn (bw (wpAny_mkText (bw (wpAny_loadPart ay ?_)))))))
 have Ku:es.toArray.any (·.refKey)=false:=by
  rw[List.any_toArray,H7]
  intro x wR
  refine ae (bF.strKeys x wR) ?_;decide
 dsimp only
 rw[aRefKeyMayBeTheName_at,Ku,Bool.and_false]
 have A1:(s.heap.update p.2 (Ik x (pD c.w.params x) (.str x s.toks) w)).get? p.2=some (dictOf (putL x (pD c.w.params x) (.str x s.toks) w es) (putN x es n)):=by
  rw[<-putName_dict]
  exact od _ ay (by rw[putName_dict];rfl)
 have L:=(bF.put H.nodup aA (t:=s.toks) W).len
 have aO:=tU k a bA
 refine wpAny_updatePart ay ?_
 refine bw (wpAny_lookBehind A1 (pastItsLine_dict (by(refine ae fM ?_;refine ae L ?_;refine ae ha ?_);lia)) ?_)
 have K:∀b o,b≠p.1->b≠p.2->s.heap.get? b=some o->(s.heap.update p.2 (Ik x (pD c.w.params x) (.str x s.toks) w)).get? b=some o:=λb o J cS q=>(Z3 _ _ _ _ cS).trans q
 have Kv:ek c ρ (s.heap.update p.2 (Ik x (pD c.w.params x) (.str x s.toks) w)) p (.inst C (ix bA k a)):=
  ⟨(Z3 _ _ _ _ ne).trans rL,_,_,A1,dR.mono (λJ J q=>q) (Al e K) _ _ (bF.put H.nodup aA W),by lia,tV k a cG⟩
 exact dn (ie rfl ⟨ρ,_,R.change e K Kv,Ext.change e K,b'.of,h⟩)
theorem Kw{i:ab}{k:ab}{x:au}{C:aJ}{bA:aa (ab×af)}{a:af}{Q:aa Cell->Prop}(H:c.Ok)(aA:c.names[k]? =some x)(aN:l6 c.K C=true)(bb:takerIn c.K C x=some none)
  (aP:σ[i]? =some (.inst C bA))(a5:bA.length<=400)(h:Q (σ.set i (.inst C (ix bA k a)))){A:cy}{s:aF}{ρ:aT}{v w:aj}(R:Rep c ρ σ s.heap)(V:bq c ρ s.heap (.cell i) v)(W:bq c ρ s.heap a w):
  wpAny (model c.prog c.w) A (setAttr v x w) (iL c ρ s λJ aC=>Q aC) cb s:=by
 obtain⟨p,es,n,rfl,e,I,ay,bF,-⟩:=A0 R aP V
 obtain⟨-,-,g3,tY,l7⟩:=p1 aN
 have X:c.K.In s.heap:=H.fZ.keeps λb o e=>R.stays b o e
 refine set_plain X I g3 (codeAny_mono (Kt H aA aN bb aP a5 h (s:={s with toks:=s.toks+1}) R V W) λr s' p=>?_)
 obtain⟨rfl,bI,ax,bz,bx,bW,q⟩:=p
 exact⟨bI,ax,bz,bx,b'.trans (s':={s with toks:=s.toks+1}) b'.of bW,q⟩
end
noncomputable def tZ(o:a3):Prop:=∀attr env whole,attributeBase o attr env whole=whole
theorem aV(_:au)(_:bu)(w:bN aj):w=w:=rfl
theorem A2{k:aS}{prog:fc}{w:cu}{A:cy}{E:aj->aF->Prop}{s:aF}{value slice:a3}{o i:aj}{ops:aa aj}{T id:gI}{Q:aj->aF->Prop}(cQ:s.TypeIs o T)
  (a5:typeLookup (.type T) "__getitem__"=pure (some (.builtin id)))(c3:aK k (model prog w) A (getItem o i) Q E s)
  (hs:subscripted slice false o i=operate ops (getItem o i)):aK k (model prog w) A (subscriptTail value slice o i) Q E s:=by
 refine bp ?_
 refine ae (getitemInPython_of_ne cQ.not_modules) ?_
 refine bV (i5 cQ a5 ?_)
 refine bJ ?_
 refine ae hs ?_
 exact bp (om (bo c3 (λr bE dG=>bV (Z4 (bJ dG))) λJ J x=>x))
noncomputable def p3(c:aG)(d:ab)(name:au)(a:af)(σ:aa Cell)(Q:af->aa af->aa Cell->Prop):Prop:=
 ∀A s ρ v f6,d9 c d A->Rep c ρ σ s.heap->bq c ρ s.heap a v->
  aK c.clean (model c.prog c.w) A (getMethod v name f6) (λt2 s'=>mG λf as ρ' aC=>tI (Rep c ρ' aC s'.heap) (Ext ρ ρ' s.heap s'.heap) (b' s s') (bq c ρ' s'.heap f t2.1) (bT c ρ' s'.heap as t2.2) (Q f as aC)) cb s
noncomputable def wU(c:aG):af->Prop
 |.val f=>oz c f
 |.bound (.ref f) _=>fnIn c.K f=true
 |.ir _=>ky
 |_=>bB
theorem Kx{c:aG}{M:gd}{ρ ρ':aT}{h ao:a8}{f:af}{hi:aj}(ba:wU c f)(V:bq c ρ h f hi)(x:Ext ρ ρ' h ao):∃P:a8->Prop,(∀h,P h->∃k,(k=zE\/k=zF\/k=zG)/\la M h (keeperOf hi) k)/\(c.K.In ao->P ao):=by
 induction f using af.cs with
 |val g=>
  obtain rfl:hi=g:=V
  exact⟨c.K.In,wy ba,λX=>X⟩
 |bound g self=>
  obtain⟨q,iK,rfl,nb,aN,-⟩:=V
  induction g with
  |ref g=>exact⟨MethP c.K q g iK,keeps_M ba,λX=>⟨x.keep _ _ (fz.mp nb).1 aN,X⟩⟩
  |_=>exact ba.elim
 |ir bA=>
  obtain⟨q,rfl,nb,aN⟩:=V
  refine⟨λh=>h.get? q=some (Aj bA),λh e=>⟨.machine,.inr (.inl rfl),(zK (part:=none) e).andThen ?_⟩,λJ=>x.keep _ _ (fz.mp nb).1 aN⟩
  exact .now
 |_=>exact ba.elim
noncomputable def oM(c:aG)(d:ab)(f:af)(as:aa af)(kw:aa (au×af))(σ:aa Cell)(Q:af->aa Cell->Prop):Prop:=
 ∀A s ρ hi vs kvs,d9 c d A->Rep c ρ σ s.heap->bq c ρ s.heap f hi->bT c ρ s.heap as vs->bT c ρ s.heap (kw.map (·.2)) kvs->
  aK c.clean (model c.prog c.w) A (call hi vs ((kw.map (·.1)).zip kvs)) (b5 c ρ s Q) cb s
section
variable{c:aG}{d:ab}{env:bu}{ls:aa au}{m:aE}{σ:aa Cell}
theorem Ky{f:aj}{as:aa af}{kw:aa (au×af)}{Q:af->aa Cell->Prop}(h:cH c d f as kw σ Q):oM c d (.val f) as kw σ Q:=
 λA s ρ hi vs kvs a b e g k=>by obtain rfl:hi=f:=e;exact h A s ρ vs kvs a b g k
theorem bT.append{c:aG}{ρ:aT}{h:a8}:∀{as bs:aa af} {vs ws:aa aj},bT c ρ h as vs->bT c ρ h bs ws->bT c ρ h (as++bs) (vs++ws)
 |[],_,_,_,e,r=>by refine ae (show _=_ from e) ?_;exact r
 |_::_,_,_,_,⟨v,vs,e,x,y⟩,r=>by refine ae e ?_;exact⟨v,_,rfl,x,bT.append y r⟩
theorem Kz{α:Type}{l:aa (aS×α)}(h:l.any (·.1)=false):l.all (!·.1)=true:=by
 rw[mz];intro x aA
 rw[H7]at h
 have:=h x aA
 revert this;cases x.1<;>simp
theorem A3{o:a3}{name:au}{apos pos:bD}{args:aa a3}{kws:aa jG}{Q:af->aa Cell->Prop}(H:c.Ok)(bL:l1 args=true)(ba:lB kws=true)(aq:tZ o)
  (aY:decide (args.length+kws.length+(if kws.isEmpty then 0 else 1)<30)=true)(aW:(apos.endLine==pos.line)=true)
  (h:cz c d env ls (eval o env) m σ λl8 ax=>p3 c d name l8 ax λf first bt=>wU c f/\i9 c d env ls (spliced (backTo pos (starEach args env))) m bt λas b0=>
   nJ c d env ls pos kws m b0 λks dY=>ks.length=kws.length/\oM c d f (first++as) ((kD kws).zip ks) dY Q):cz c d env ls (eval (.Call (.Attribute o name apos) args kws pos) env) m σ Q:=by
 intro A s ρ S
 rw[arm_eval_Call,aq]
 refine bp (bo (h A s ρ S) (λl8 s₁ p=>bV (dA ?_)) λJ J x=>x)
 obtain⟨ad1,bI,ax,bz,bx,bW,cJ,bK⟩:=p
 have rd:(backToKw pos (keywordEach kws env)).isEmpty=kws.isEmpty:=by induction kws with|nil=>rfl|cons k r=>cases k;rfl
 have KA:methodCallForm (args.length+kws.length) (backTo pos (starEach args env)) (backToKw pos (keywordEach kws env))=true:=by
  unfold methodCallForm
  refine ae (Kz (rt pos env bL)) (ae (wu pos env ba) (ae rd (ae aY ?_)));rfl
 unfold methodCall
 refine ae KA ?_
 refine bp (du (bo (bK A s₁ bI l8 _ S.a bz cJ) (λt2 cj p=>?_) λJ J x=>x))
 obtain⟨f,first,dy,bt,cZ,cw,dM,eH,KC,ru,cN⟩:=p
 obtain⟨hi,KD⟩:=t2
 have KG:methodCallPos true o env apos pos=pure pos:=by unfold methodCallPos;refine ae aW ?_;rfl
 refine ae KG ?_
 refine bp (bJ ?_)
 refine wg (P:=λao=>∃k,(k=zE\/k=zF\/k=zG)/\la (model c.prog c.w) ao (keeperOf hi) k) (by refine ae (rt pos env bL) (ae (kw_none pos env ba) ?_);rfl) (λJ h=>h) (wx bL ba ?_)
 have mQ:=(S.step bz bx).step cZ cw
 refine bo (cN A cj dy mQ) (λvs bE p=>?_) λJ J x=>x
 obtain⟨as,bH,b0,d3,eA,gy,fg,dG⟩:=p
 refine bo (dG A bE bH (mQ.step d3 eA)) (λks cL p=>?_) λJ J x=>x
 obtain⟨lC,dq,dY,fa,d6,hy,kG,a5,fh⟩:=p
 have oA:(kD kws).length=lC.length:=by rw[wz,a5]
 obtain⟨P,oN,KH⟩:=Kx (M:=model c.prog c.w) ru eH (eA.trans d6)
 refine⟨oN _ (KH (H.fZ.keeps λb o e=>fa.stays b o e)),?_⟩
 have:=fh A cL dq hi (KD++vs) ks S.a fa (eH.ext cZ (eA.trans d6)) ((KC.ext cZ (eA.trans d6)).append (fg.ext d3 d6)) (by refine ae (AK _ oA) ?_;exact kG)
 rw[AJ _ oA]at this
 exact bo this (λJ J p=>(((p.back d6 hy).back eA gy).back cw dM).back bx bW) λJ J x=>x
theorem KI{o:a3}{attr:au}{pos:bD}{Q:af->aa Cell->Prop}(aq:tZ o)
  (h:cz c d env ls (eval o env) m σ λa ax=>iM c d (λv=>getAttr v attr true) a ax Q):cz c d env ls (eval (.Attribute o attr pos) env) m σ Q:=by
 intro A s ρ S
 rw[arm_eval_Attribute,aq]
 refine bp (bo (h A s ρ S) (λv s₁ p=>?_) λJ J x=>x)
 obtain⟨a,bI,ax,bz,bx,bW,cJ,bK⟩:=p
 exact bV (dA (bp (du (bo (bK A s₁ bI v S.a bz cJ) (λr cj p=>bV (Z4 (bJ (p.back bx bW)))) λJ J x=>x))))
noncomputable def l9(σ:aa Cell):af->Prop
 |.bytes _|.tup _|.lst _|.ey _=>ky
 |.cell i=>(∃l,σ[i]? =some (.list l))\/(∃l,σ[i]? =some (.dict l))\/∃b,σ[i]? =some (.aZ b)
 |_=>bB
theorem rM:lV "bytearray" "__getitem__" "bytearray.__getitem__":=
 .of (owner:="bytearray") (n:="__getitem__") (by rw[ij,ik];kernel_rfl) (by decide+kernel) (by decide+kernel) (by decide+kernel)
  (by first|exact .inl (by decide+kernel)|exact .inr (by decide+kernel)) (by rw[kS];kernel_rfl)
theorem A4{ρ:aT}{s:aF}{a:af}{v:aj}(R:Rep c ρ σ s.heap)(V:bq c ρ s.heap a v)(h:l9 σ a):eO λT id=>s.TypeIs v T/\typeLookup (.type T) "__getitem__"=pure (some (.builtin id)):=by
 induction a using af.cs with
 |bytes b=>obtain⟨t,rfl,-⟩:=V;exact⟨"bytes",_,kz _ _ _,Z5.lookup⟩
 |tup as=>obtain⟨a,items,rfl,-,t,-⟩:=V;exact⟨"tuple",_,⟨_,t,rfl⟩,slot_tuple_getitem.lookup⟩
 |lst ns=>obtain⟨a,items,n,rfl,-,aN,-⟩:=V;exact⟨"list",_,⟨_,aN,rfl⟩,Il.lookup⟩
 |ey ns=>obtain⟨a,items,rfl,-,⟨o,aN,aP,-⟩,-⟩:=V;exact⟨"list",_,⟨o,aN,aP⟩,Il.lookup⟩
 |cell i=>
  obtain⟨p,aW,rfl⟩:=V
  rcases h with⟨l,h⟩|⟨l,h⟩|⟨l,h⟩
  ·refine dI λdv b4=>?_
   obtain⟨items,n,e,-⟩:=R.cells i p _ aW h;refine b4 ?_;exact⟨"list",_,⟨_,e,rfl⟩,Il.lookup⟩
  ·refine dI λdv b4=>?_
   obtain⟨l,⟨o,_,_,e,q,_⟩,-⟩:=R.cells i p _ aW h;refine b4 ?_;exact⟨"dict",_,⟨o,e,q.1⟩,slot_dict_getitem.lookup⟩
  ·obtain⟨e,-⟩:=R.cells i p _ aW h;exact⟨"bytearray",_,⟨_,e,rfl⟩,rM.lookup⟩
 |_=>exact h.elim
theorem A5(sl:a3)(o i:aj):∃ops,subscripted sl false o i=operate ops (getItem o i):=by
 cases sl with
 |Slice l u st p=>induction st<;>exact⟨_,rfl⟩
 |_=>exact⟨_,rfl⟩
theorem A6{o sl:a3}{pos:bD}{Q:af->aa Cell->Prop}(h:cz c d env ls (eval o env) m σ λa ax=>cz c d env ls (eval sl env) m ax λb bt=>l9 bt a/\cm c d getItem a b bt Q):
  cz c d env ls (eval (.Subscript o sl pos) env) m σ Q:=by
 intro A s ρ S
 rw[Z6]
 refine bp (bo (h A s ρ S) (λv s₁ p=>?_) λJ J x=>x)
 obtain⟨a,bI,ax,bz,bx,bW,cJ,bK⟩:=p
 refine bp (du (bo (bK A s₁ bI (S.step bz bx)) (λi cj p=>?_) λJ J x=>x))
 obtain⟨b,dy,bt,cZ,cw,dM,eH,hs,cN⟩:=p
 refine bV (dA ?_)
 obtain⟨T,id,cQ,a5⟩:=A4 cZ (cJ.ext bz cw) hs
 obtain⟨ops,e⟩:=A5 sl v i
 exact A2 (value:=o) cQ a5 (bo (cN A cj dy v i S.a cZ (cJ.ext bz cw) eH) (λJ J p=>(p.back cw dM).back bx bW) λJ J x=>x) e
noncomputable def wV(c:aG)(d:ab)(attr:au)(a b:af)(σ:aa Cell)(Q:aa Cell->Prop):Prop:=
 ∀A s ρ v w,d9 c d A->Rep c ρ σ s.heap->bq c ρ s.heap a v->bq c ρ s.heap b w->aK c.clean (model c.prog c.w) A (setAttr v attr w) (iL c ρ s λJ aC=>Q aC) cb s
theorem KJ{o:a3}{attr:au}{pos:bD}{a:af}{Q:aE->aa Cell->Prop}(h:cz c d env ls (eval o env) m σ λb ax=>wV c d attr b a ax λbt=>Q m bt):
  hX c d env ls (assign (.Attribute o attr pos) env) a m σ Q:=by
 intro A s ρ v S V
 rw[arm_assign_Attribute]
 refine bp (du (bo (h A s ρ S) (λl8 s₁ p=>?_) λJ J x=>x))
 obtain⟨b,bI,ax,bz,bx,bW,cJ,bK⟩:=p
 refine bV (dA (bp (du (bo (bK A s₁ bI l8 v S.a bz cJ (V.ext S.r bx)) (λJ cj p=>aK.of (zA ?_)) λJ J x=>x))))
 obtain⟨dy,bt,cZ,cw,dM,cN⟩:=p
 exact⟨m,dy,bt,cZ,bx.toF.trans cw.toF,bW.trans dM,(S.f.ext S.r bx).ext bz cw,cN⟩
theorem A7{o i:a3}{pos:bD}{a:af}{Q:aE->aa Cell->Prop}(h:cz c d env ls (eval o env) m σ λb ax=>cz c d env ls (eval i env) m ax λe bt=>ow c d setItem b e a bt λb0=>Q m b0):
  hX c d env ls (assign (.Subscript o i pos) env) a m σ Q:=by
 intro A s ρ v S V
 rw[arm_assign_Subscript]
 refine bp (du (bo (h A s ρ S) (λl8 s₁ p=>?_) λJ J x=>x))
 obtain⟨b,bI,ax,bz,bx,bW,cJ,bK⟩:=p
 refine bp (du (bo (bK A s₁ bI (S.step bz bx)) (λKL cj p=>?_) λJ J x=>x))
 obtain⟨e,dy,bt,cZ,cw,dM,eH,cN⟩:=p
 refine bV (dA (bp (du (bo (cN A cj dy l8 KL v S.a cZ (cJ.ext bz cw) eH ((V.ext S.r bx).ext bz cw)) (λJ bE p=>aK.of (zA ?_)) λJ J x=>x))))
 obtain⟨bH,b0,d3,eA,gy,dG⟩:=p
 exact⟨m,bH,b0,d3,(bx.trans (cw.trans eA)).toF,bW.trans (dM.trans gy),(S.f.ext S.r (bx.trans cw)).ext cZ eA,dG⟩
theorem KN{o e:a3}{attr:au}{dT pos:bD}{op:jt}{Q:ct->aE->aa Cell->Prop}
  (h:cz c d env ls (eval o env) m σ λb ax=>iM c d (λv=>getAttr v attr true) b ax λa bt=>cz c d env ls (eval e env) m bt λx b0=>cm c d (inplaceOp op) a x b0 λr dY=>wV c d attr b r dY λi'=>Q .next m i'):
  eB c d env ls (exec (.AugAssign (.Attribute o attr dT) op e pos) env) m σ Q:=by
 intro A s ρ S
 rw[arm_exec_AugAssign_2]
 refine bV (dA (bp (bo (h A s ρ S) (λl8 s₁ p=>?_) λJ J x=>x)))
 obtain⟨b,bI,ax,bz,bx,bW,cJ,bK⟩:=p
 refine bp (du (bV (dA (bp (bo (bK A s₁ bI l8 S.a bz cJ) (λold cj p=>?_) λJ J x=>x)))))
 obtain⟨a,dy,bt,cZ,cw,dM,eH,cN⟩:=p
 refine bp (du (bo (cN A cj dy ((S.step bz bx).step cZ cw)) (λw bE p=>?_) λJ J x=>x))
 obtain⟨x,bH,b0,d3,eA,gy,fg,dG⟩:=p
 refine bV (dA (om (bo (dG A bE bH old w S.a d3 (eH.ext cZ eA) fg) (λr cL p=>?_) λJ J x=>x)))
 obtain⟨y,dq,dY,fa,d6,hy,kG,fh⟩:=p
 have W:=(cJ.ext bz cw).ext cZ (eA.trans d6)
 refine bV (dA (bp (du (bo (fh A cL dq l8 r S.a fa W kG) (λJ ja p=>bV (zA (bJ ?_))) λJ J x=>x))))
 obtain⟨lx,i',ly,lZ,ro,nE⟩:=p
 have X:=bx.trans (cw.trans (eA.trans d6))
 exact⟨.next,m,lx,i',ly,(X.trans lZ).toF,bW.trans (dM.trans (gy.trans (hy.trans ro))),(S.f.ext S.r X).ext fa lZ,rfl,nE⟩
end
section
variable{prog:fc}{w:cu}{A:cy}{E:aj->aF->Prop}{s:aF}
theorem t4{α:Type}{Q:α->aF->Prop}(cO:A.handled=none)(h:∀ao q,(∀b o,s.heap.get? b=some o->ao.get? b=some o)->(∃o,ao.get? q=some o/\o.cls=.type "StopIteration")->E (.ref q) {s with heap:=ao}):
  wpAny (model prog w) A (newExc (.type "StopIteration") []) (λe s'=>wpAny (model prog w) A (raiseNew e) Q E s') E s:=by
 refine bw (oa ?_ (by size_fits))
 refine bw (m:=firstArgMember _ _) (gU (a:=oe) (by first|rfl|(rfl)) ?_)
 refine oa ?_ (by size_fits)
 refine bw (wpAny_handled ?_)
 refine ae cO ?_
 refine bw (dn (wpAny_throw (h _ _ (λb o e=>?_) ⟨_,ic _ rfl,rfl⟩)))
 exact lS _ (lS _ e)
noncomputable def ma(h:a8)(it:aJ)(T:gI)(i:ab):Prop:=∃o,dx (h.get? it=some o) (o.cls=.type T) (o.data=.fields #[.none,.int i 0])
theorem ma.ext{h ao:a8}{it:aJ}{T:gI}{i:ab}(x:ma h it T i)(k:∀b o,h.get? b=some o->ao.get? b=some o):ma ao it T i:=let⟨o,aN,r,k1⟩:=x;⟨o,k _ _ aN,r,k1⟩
theorem KO{it l:aJ}{i:ab}{items}{Q:bh aj->aF->Prop}(cO:A.handled=none)
  (hit:s.heap.IsListIter it l i)(a5:s.heap.IsList l items)(aA:items[i]? =none)
  (iI:∀ao,ma ao it "list_iterator" i->vH it s.heap ao->Q none {s with heap:=ao}):wpAny (model prog w) A (pyNext (.ref it)) Q E s:=by
 obtain⟨o,aN,aP,hd⟩:=id hit
 obtain⟨ol,wW,_,nl,rN⟩:=a5
 refine bw (tn (qX (name:=qY "__next__") hit.typeIs Z7
  (lb Z7 hit.typeIs entry_listiter_next ?_ (args_listiter_next _))))
 show wpAny _ _ (field (.ref it) 0>>=_) _ _ s
 refine bw (i4 aN hd (x:=.ref l) rfl ?_)
 refine ae (cC (show¬((pG l==oe)=true)from fV)) ?_
 refine bw (i4 aN hd (x:=.int i 0) rfl ?_)
 refine bw (wpAny_seqItems wW rN ?_)
 simp only[tp,aA]
 refine bw (lh (bw (vI aN hd (by simp) ?_)))
 have sp:ma (s.heap.update it (·.mapFields (·.setIfInBounds 0 .none))) it "list_iterator" i:=⟨_,od _ aN (zL (qZ hd _)),(zM ..).trans aP,by
  rw[qZ hd];simp⟩
 refine bw (t4 (show A.in1.handled=none from cO) λao q k bg=>?_)
 refine bw (q0 (T:="StopIteration") (b:=true) bg vJ ?_)
 exact dn (iI _ (sp.ext k) λb o aq e=>k b o ((pH ..).extBut b o aq e))
theorem KP{it l:aJ}{i:ab}{items}{Q:bh aj->aF->Prop}(cO:A.handled=none)
  (hit:IsTupIter s.heap it l i)(a5:IsTup s.heap l items)(aA:items[i]? =none)
  (iI:∀ao,ma ao it "tuple_iterator" i->vH it s.heap ao->Q none {s with heap:=ao}):wpAny (model prog w) A (pyNext (.ref it)) Q E s:=by
 obtain⟨o,aN,aP,hd⟩:=id hit
 obtain⟨ol,wW,_,nl,rN⟩:=a5
 refine bw (tn (qX (name:=qY "__next__") hit.typeIs Z8
  (lb Z8 hit.typeIs entry_tupleiter_next ?_ (args_tupleiter_next _))))
 show wpAny _ _ (field (.ref it) 0>>=_) _ _ s
 refine bw (i4 aN hd (x:=.ref l) rfl ?_)
 refine ae (cC (show¬((pG l==oe)=true)from fV)) ?_
 refine bw (i4 aN hd (x:=.int i 0) rfl ?_)
 refine bw (wpAny_seqItems wW rN ?_)
 simp only[tp,aA]
 refine bw (lh (bw (vI aN hd (by simp) ?_)))
 have sp:ma (s.heap.update it (·.mapFields (·.setIfInBounds 0 .none))) it "tuple_iterator" i:=⟨_,od _ aN (zL (qZ hd _)),(zM ..).trans aP,by
  rw[qZ hd];simp⟩
 refine bw (t4 (show A.in1.handled=none from cO) λao q k bg=>?_)
 refine bw (q0 (T:="StopIteration") (b:=true) bg vJ ?_)
 exact dn (iI _ (sp.ext k) λb o aq e=>k b o ((pH ..).extBut b o aq e))
theorem KQ{it:aJ}{i:ab}{b:eM aU}{t:eZ}{Q:bh aj->aF->Prop}(cO:A.handled=none)(hit:KBw.IsBytesIter s.heap it b t i)(aA:b[i]? =none)
  (iI:∀ao,ma ao it "bytes_iterator" i->vH it s.heap ao->Q none {s with heap:=ao}):wpAny (model prog w) A (pyNext (.ref it)) Q E s:=by
 obtain⟨o,aN,aP,hd⟩:=id hit
 refine bw (tn (qX (name:=PySem.Str.ofString "__next__") (KBw.iter_typeIs hit) KBw.slot_next
  (lb KBw.slot_next (KBw.iter_typeIs hit) KBw.entry_next ?_ (KBw.args_next _))))
 show wpAny _ _ (field (.ref it) 0>>=_) _ _ s
 refine bw (i4 aN hd (x:=.bytes b t) rfl ?_)
 refine ae (cC (show¬((Value.bytes b t==oe)=true)from fV)) ?_
 refine bw (i4 aN hd (x:=.int i 0) rfl ?_)
 refine bw (gU (a:=b) rfl ?_)
 simp only[tp,aA]
 refine bw (lh (bw (vI aN hd (by simp) ?_)))
 have sp:ma (s.heap.update it (·.mapFields (·.setIfInBounds 0 .none))) it "bytes_iterator" i:=⟨_,od _ aN (zL (qZ hd _)),(zM ..).trans aP,by
  rw[qZ hd];simp⟩
 refine bw (t4 (show A.in1.handled=none from cO) λao q k bg=>?_)
 refine bw (q0 (T:="StopIteration") (b:=true) bg vJ ?_)
 exact dn (iI _ (sp.ext k) λb o aq e=>k b o ((pH ..).extBut b o aq e))
theorem KR{it:aJ}{x left step:ah}{Q:bh aj->aF->Prop}(cO:A.handled=none)(hit:Im s.heap it x left step)(KS:left<=0)
  (iI:∀ao,(∀b o,s.heap.get? b=some o->ao.get? b=some o)->Q none {s with heap:=ao}):wpAny (model prog w) A (pyNext (.ref it)) Q E s:=by
 have cQ:s.TypeIs (.ref it) "range_iterator":=⟨_,hit,rfl⟩
 unfold pyNext
 refine bw (tn (qX (name:=qY "__next__") cQ Z9
  (lb Z9 cQ F.entry_range_iterator_next ?_ (F.args_range_iterator_next_1 _))))
 show wpAny _ _ (field (.ref it) 0>>=_) _ _ s
 refine bw (i4 hit rfl (x:=rawInt x) rfl ?_)
 show wpAny _ _ (field (.ref it) 1>>=_) _ _ s
 refine bw (i4 hit rfl (x:=rawInt left) rfl ?_)
 show wpAny _ _ (field (.ref it) 2>>=_) _ _ s
 refine bw (i4 hit rfl (x:=rawInt step) rfl ?_)
 show wpAny _ _ (if left<=0 then _ else _) _ _ s
 refine ae (cV KS) ?_
 refine bw (lh ?_)
 refine bw ?_
 refine bw (t4 (show A.in1.handled=none from cO) λao q k bg=>?_)
 refine bw (q0 (T:="StopIteration") (b:=true) bg vJ ?_)
 exact dn (iI _ k)
end
noncomputable def mb(a st:ah):ab->aa ah
 |0=>[]
 |n+1=>a::mb (a+st) st n
theorem wX(st:ah):∀(n:ab) (a:ah),(mb a st n).length=n
 |0,_=>rfl
 |n+1,a=>congrArg ti (wX st n _)
theorem A8(st:ah):∀(n:ab) (a:ah) (k:ab),(mb a st n)[k]? =if k<n then some (a+k*st)else none
 |0,_,_=>rfl
 |n+1,a,0=>(congrArg some (by rw[Int.natCast_zero,Int.zero_mul,zN])).trans (cV (Nat.succ_pos n)).symm
 |n+1,a,k+1=>by
  refine(A8 st n _ _).trans ?_
  by_cases h:k<n
  ·refine ae (cV h) (ae (cV (by exact qW ‹_›)) ?_)
   congr 1
   push_cast
   rw[Int.add_mul];lia
  ·exact ae (cC h) (ae (cC (by lia)) rfl)
inductive Src(σ:aa Cell):af->aa af->Prop
 |list {i:ab} {as:aa af} (h:σ[i]? =some (.list as)):Src σ (.cell i) as
 |lst {as:aa af}:Src σ (.lst as) as
 |tup {as:aa af}:Src σ (.tup as) as
 |bytes {b:aa aU}:Src σ (.bytes b) (b.map λx=>.int x.toNat)
 |e0 {a b st:ah} (hs:Io a b st=true):Src σ (.e0 a b st) ((mb a st (lW a b st).toNat).map .int)
noncomputable def iP(h:a8)(it:aJ)(dd:aj)(n k:ab):af->Prop
 |.e0 a b st=>Im h it (a+k*st) ((n:ah)-k) st
 |.bytes b=>∃t,dd=.bytes b.toArray t/\KBw.IsBytesIter h it b.toArray t k
 |.tup _=>∃l,dd=.ref l/\IsTupIter h it l k
 |_=>∃l,dd=.ref l/\h.IsListIter it l k
theorem KU{h ao:a8}{it:aJ}{R:ew->Prop}(q:∀o,h.get? it=some o->ao.get? it=some o)(i:∃o,h.get? it=some o/\R o):∃o,ao.get? it=some o/\R o:=i.imp λo j=>⟨q o j.1,j.2⟩
theorem KV{h:a8}{it:aJ}{R:ew->Prop}(i:∃o,h.get? it=some o/\R o):∃o,h.get? it=some o:=i.imp λo j=>j.1
theorem iP.keep{h ao:a8}{it:aJ}{dd:aj}{n k:ab}{x:af}(i:iP h it dd n k x)(q:∀o,h.get? it=some o->ao.get? it=some o):iP ao it dd n k x:=by
 induction x using af.cs<;>first|exact q _ i|exact Exists.imp (λJ j=>⟨j.1,KU q j.2⟩) i
theorem iP.live{h:a8}{it:aJ}{dd:aj}{n k:ab}{x:af}(i:iP h it dd n k x):∃o,h.get? it=some o:=by
 induction x using af.cs<;>first|exact⟨_,i⟩|exact Exists.elim i λJ j=>KV j.2
section
variable{c:aG}{d:ab}{env:bu}{ls:aa au}{m:aE}{σ:aa Cell}
theorem bT.miss{ρ:aT}{h:a8}{as:aa af}{vs:aa aj}{i:ab}(r:bT c ρ h as vs)(q:as[i]? =none):vs[i]? =none:=by
 have:=r.length
 rw[Z']at q⊢
 exact ne λJ=>by lia
theorem A9{ρ:aT}{A:cy}{s:aF}{E:aj->aF->Prop}{x:af}{as:aa af}{dd:aj}{Q:aj->aF->Prop}(hs:Src σ x as)(R:Rep c ρ σ s.heap)(V:bq c ρ s.heap x dd)
  (h:∀o,iP (s.heap.push o) s.heap.objs.size dd as.length 0 x->Q (.ref s.heap.objs.size) {s with heap:=s.heap.push o}):wpAny (model c.prog c.w) A (pyIter dd) Q E s:=by
 induction hs with
 |@list i as aP=>
  obtain⟨p,aW,rfl⟩:=V
  obtain⟨items,n,e,-⟩:=R.cells i p _ aW aP
  exact aa0 ⟨_,e,rfl,_,rfl⟩ (h _ ⟨_,rfl,_,ic _ rfl,rfl,rfl⟩)
 |lst=>
  obtain⟨a,items,n,rfl,-,a5,-⟩:=V
  exact aa0 ⟨_,a5,rfl,_,rfl⟩ (h _ ⟨_,rfl,_,ic _ rfl,rfl,rfl⟩)
 |tup=>
  obtain⟨a,items,rfl,-,a5,-⟩:=V
  exact iter_tuple ⟨_,a5,rfl,_,rfl⟩ (h _ ⟨_,rfl,_,ic _ rfl,rfl,rfl⟩)
 |bytes=>
  obtain⟨t,rfl,-⟩:=V
  exact KBw.pyIter_bytes (h _ ⟨_,rfl,_,ic _ rfl,rfl,rfl⟩)
 |@e0 a b st hs=>
  obtain⟨q,t,u,w,rfl,-,a4⟩:=V
  refine wpAny_pyIter_range a4 hs (h _ ?_)
  rw[gK,wX]
  have p4:0<=lW a b st:=by
   unfold lW
   split
   ·split
    ·rename_i aB aI
     have:=Ip (a:=b-a-1) (b:=st) (by exact fX λJ=>by lia) (by exact vK ‹_›)
     exact fX λJ=>by lia
    ·exact hL _
   ·split
    ·rename_i aB aI
     have:0<=(a-b-1)/ -st:=Ip (by exact fX λJ=>by lia) (by exact fX λJ=>by lia)
     exact fX λJ=>by lia
    ·exact hL _
  show(s.heap.push _).get? _=some _
  refine ae (ic _ rfl) ?_
  simp only[Int.zero_mul,zN,Int.sub_zero,aa1 p4,Int.natCast_zero]
theorem KW{as:aa af}{k:ab}{T:aa af->Prop}(t:T (as.drop k)):(∀a,as[k]? =some a->T (a::as.drop (k+1)))/\(as[k]? =none->T []):=
 ⟨λa e=>by obtain⟨l,q⟩:=dH.mp e;rw[q1 l,q]at t;exact t,λe=>by rw[zO (Z'.mp e)]at t;exact t⟩
theorem A'{ρ:aT}{A:cy}{s:aF}{E:aj->aF->Prop}{x:af}{as:aa af}{dd:aj}{it:aJ}{k:ab}{Q:bh aj->aF->Prop}(cO:A.handled=none)(hs:Src σ x as)(R:Rep c ρ σ s.heap)(V:bq c ρ s.heap x dd)
  (a7:iP s.heap it dd as.length k x){T:aa af->Prop}(t:T (as.drop k))
  (aB:∀a v ao tk,T (a::as.drop (k+1))->bq c ρ s.heap a v->(∀b o,b≠it->s.heap.get? b=some o->ao.get? b=some o)->iP ao it dd as.length (k+1) x->Q (some v) {s with heap:=ao,toks:=tk})
  (h0:T []->∀ao,(∀b o,b≠it->s.heap.get? b=some o->ao.get? b=some o)->(∃o,ao.get? it=some o)->Q none {s with heap:=ao}):wpAny (model c.prog c.w) A (pyNext (.ref it)) Q E s:=by
 obtain⟨t1,t0⟩:=KW t
 have sp:∀{ao:a8} {T:gI} {i:ab},ma ao it T i->∃o,ao.get? it=some o:=λ⟨o,aN,_,_⟩=>⟨o,aN⟩
 have lst:∀{l:aJ} {items:aa aj},s.heap.IsList l items.toArray->bT c ρ s.heap as items->s.heap.IsListIter it l k->(∀ao,ao.IsListIter it l (k+1)->iP ao it dd as.length (k+1) x)->wpAny (model c.prog c.w) A (pyNext (.ref it)) Q E s:=by
  intro l items a5 cq hit ba
  cases bL:as[k]? with
  |some a=>
   obtain⟨v,cx,W⟩:=cq.at bL
   exact wpAny_pyNext_list_item (x:=v) hit a5 ((tq ..).trans cx) λao kc gm=>aB a v ao s.toks (t1 a bL) W (λb o n e=>(gm.2 b n).trans e) (ba ao kc)
  |none=>exact KO cO hit a5 ((tq ..).trans (cq.miss bL)) λao kc gm=>h0 (t0 bL) ao (λb o n e=>gm b o n e) (sp kc)
 clear t
 cases hs with
 |@list i as aP=>
  obtain⟨p,aW,rfl⟩:=V
  obtain⟨items,n,e,cq,-⟩:=R.cells i p _ aW aP
  obtain⟨l,az,hit⟩:=a7
  exact lst ⟨_,e,rfl,_,rfl⟩ cq (Iq az▸hit) λao q=>⟨_,rfl,q⟩
 |lst=>
  obtain⟨a,items,n,eb,-,a5,cq,-⟩:=V
  obtain⟨l,az,hit⟩:=a7
  exact lst ⟨_,a5,rfl,_,rfl⟩ cq (Iq (az.symm.trans eb)▸hit) λao q=>⟨_,eb,q⟩
 |tup=>
  obtain⟨a,items,eb,-,a5,cq,-⟩:=V
  obtain⟨l,az,hit⟩:=a7
  cases Iq (az.symm.trans eb)
  cases bL:as[k]? with
  |some a=>
   obtain⟨v,cx,W⟩:=cq.at bL
   exact next_tuple_item (x:=v) hit ⟨_,a5,rfl,_,rfl⟩ ((tq ..).trans cx) λao kc gm=>aB a v ao s.toks (t1 a bL) W (λb o n e=>(gm.2 b n).trans e) ⟨_,eb,kc⟩
  |none=>exact KP cO hit ⟨_,a5,rfl,_,rfl⟩ ((tq ..).trans (cq.miss bL)) λao kc gm=>h0 (t0 bL) ao (λb o n e=>gm b o n e) (sp kc)
 |@bytes b=>
  obtain⟨t,eb,-⟩:=V
  obtain⟨jP,az,hit⟩:=a7
  cases(Value.bytes.inj (az.symm.trans eb)).2
  rw[j4]at t1 t0
  cases bL:b[k]? with
  |some a=>
   rw[bL]at t1
   exact KBw.next_item hit ((tq ..).trans bL) λao kc gm=>aB _ _ ao _ (t1 _ rfl) e4 (λb o n e=>(gm.2 b n).trans e) ⟨_,eb,kc⟩
  |none=>
   rw[bL]at t0
   exact KQ cO hit ((tq ..).trans bL) λao kc gm=>h0 (t0 rfl) ao (λb o n e=>gm b o n e) (sp kc)
 |@e0 a b st ad2=>
  have a7:Im s.heap it (a+k*st) ((((mb a st (lW a b st).toNat).map af.int).length:ah)-k) st:=a7
  rw[j4,A8]at t1 t0
  rw[gK,wX]at a7 aB
  by_cases ba:k<(lW a b st).toNat
  ·rw[cV ba]at t1
   refine wpAny_pyNext_range_item a7 (by exact fy λJ=>by lia) λao kc gm=>aB _ _ ao _ (t1 _ rfl) e4 (λb o n e=>(gm.2 b n).trans e) ?_
   have e:a+(k:ah)*st+st=a+((k+1:ab):ah)*st:=by push_cast;rw[Int.add_mul];lia
   have ay:((lW a b st).toNat:ah)-k-1=((lW a b st).toNat:ah)-((k+1:ab):ah):=by lia
   rw[e,ay]at kc
   exact kc
  ·rw[cC ba]at t0
   exact KR cO a7 (by exact fX λJ=>by lia) λao q=>h0 (t0 rfl) ao (λb o J e=>q b o e) ⟨_,q _ _ a7⟩
noncomputable def ownNames:aa gI:=["enumerate","zip","dict_itemiterator","dict_reverseitemiterator","odict_iterator","itertools.zip_longest","itertools.pairwise"]
theorem Ba{t:a3}{it:aJ}{A:cy}{s:aF}{v:aj}{Q:i0->aF->Prop}{E:aj->aF->Prop}{o:ew}{T:gI}{vs:eM aj}(aN:s.heap.get? it=some o)(aP:o.cls=.type T)(hd:o.data=.fields vs)(cQ:ownNames.contains T=false)
  (q:Q () s):wpAny (model c.prog c.w) A (letOwnedTupleGo t (.ref it) v) Q E s:=by
 have body:wpAny (model c.prog c.w) A (do
   let(.ref r,.ref a):=(pG it,v)|return
   let o<-load r
   match o.cls,o.data with
   |.type n,.fields vs=>
    if ["enumerate","zip","dict_itemiterator","dict_reverseitemiterator","odict_iterator","itertools.zip_longest","itertools.pairwise"].contains n&&vs[0]? ==some (rawInt a)then
     rule "for.unpacks-the-owned-tuple"
     updateField r 0 .none
   |_,_=>pure ()) Q E s:=by
  induction v with
  |ref b=>
   refine bw (oc aN ?_)
   refine ae aP (ae hd ?_)
   dsimp only
   refine ae (show(["enumerate","zip","dict_itemiterator","dict_reverseitemiterator","odict_iterator","itertools.zip_longest","itertools.pairwise"].contains T)=false from cQ) ?_
   exact dn q
  |_=>exact dn q
 cases t<;>first|exact dn q|exact body
theorem t5{t:a3}{it:aJ}{A:cy}{s:aF}{v:aj}{Q:i0->aF->Prop}{E:aj->aF->Prop}{T:gI}{vs:eM aj}(i:∃o,s.heap.get? it=some o/\o.cls=.type T/\o.data=.fields vs)(cQ:ownNames.contains T=false)
 (q:Q () s):wpAny (model c.prog c.w) A (letOwnedTupleGo t (.ref it) v) Q E s:=i.elim λo j=>Ba j.1 j.2.1 j.2.2 cQ q
theorem Bb{t:a3}{it:aJ}{A:cy}{s:aF}{v dd:aj}{n k:ab}{x:af}{Q:i0->aF->Prop}{E:aj->aF->Prop}(a7:iP s.heap it dd n k x)(q:Q () s):wpAny (model c.prog c.w) A (letOwnedTupleGo t (.ref it) v) Q E s:=by
 induction x using af.cs<;>first|exact Ba a7 rfl rfl (by decide) q|exact Exists.elim a7 λJ j=>t5 j.2 (by decide) q
noncomputable def mR(e:a3):Prop:=∀env x,foldedSetIterable e env x=pure x
theorem iQ(_:bu)(x:aj):(pure x:bN aj)=pure x:=rfl
noncomputable def Bc(k:aS)(M:gd)(A:cy)(target:a3)(it:aj)(body:aa b1)(env:bu)(R:iG->aF->Prop)(P:aF->Prop)(s:aF):Prop:=aK k M A (pyNext it) (λr s₁=>match r with
 |none=>R (.ok .next) s₁
 |some v=>wpAny M A (letOwnedTupleGo target it v) (λJ mc=>aK k M A (assign target env v) (λJ cj=>aK k M A (execs body env) (λf bE=>match f with
  |.next|.cont=>P bE
  |.brk=>R (.ok .next) bE
  |.ret v=>R (.ok (.ret v)) bE) cb cj) cb mc) cb s₁) cb s
theorem KX{k:aS}{prog:fc}{w:cu}{A:cy}{s:aF}{env:bu}{R:iG->aF->Prop}{target:a3}{it:aj}{body:aa b1}(I:ab->aF->Prop)
  (turn:∀n s,I n s->Bc k (model prog w) A target it body env R (λs'=>∃m,m<n/\I m s') s)(n:ab)(h:I n s):ea k (model prog w) A (.forLoop target it body [] env) R s:=by
 refine tH rfl trivial I (λn s gv=>?_) n h
 refine nA (bo (E:=cb) ?_ (λJ J x=>x) λJ J x=>x.elim)
 refine bV (dA (bp (nA (bo (turn n s gv) (λr s₁ bK=>?_) λJ J ao=>ao.elim))))
 induction r with
 |none=>exact bJ (.inr ⟨rfl,trivial,ea.of (codeAny_block (wpAny_execs_nil bK))⟩)
 |some v=>
  refine bV (tr bK (λJ mc rO=>bp (bo rO (λJ cj cN=>bp (bo cN (λf bE dG=>?_) λJ J ao=>ao)) λJ J ao=>ao)) λJ J ao=>ao)
  induction f with
  |next=>exact bJ (.inl ⟨rfl,dG⟩)
  |cont=>exact bJ (.inl ⟨rfl,dG⟩)
  |brk=>exact bJ dG
  |ret v=>exact bJ dG
theorem dK.carry{ρ ρ':aT}{h ao:a8}(F:dK c env ls m ρ h)(a4:∀(i:ab) p,ρ.cs[i]? =some p->ρ'.cs[i]? =some p)(bb:Carry ρ ρ' h ao)
  (ba:∀q∈own env,∀cf,h.get? q=some cf->ao.get? q=some cf)(cO:∀q∈own env,q∈ρ'.aR):dK c env ls m ρ' ao:=by
 obtain⟨dS,ns,sl⟩:=F.ns
 refine⟨⟨dS,?_,λi y bM=>ff.mono a4 bb (λq bg=>ba q (.tail _ bg)) (sl i y bM)⟩,cO,λq bg=>?_,F.len⟩
 ·obtain⟨o,es,hT,aN,r⟩:=ns
  exact⟨o,es,hT,ba _ (.head _) _ aN,r⟩
 ·obtain⟨cf,v,e,r⟩:=F.cells q bg
  exact⟨cf,v,ba q (.tail _ bg) _ e,r⟩
noncomputable def oO(c:aG)(d:ab)(env:bu)(ls:aa au)(t:a3)(b:aa b1)(keep:aa Cell->Prop):aa af->aE->aa Cell->(ct->aE->aa Cell->Prop)->Prop
 |[],m,σ,Q=>Q .next m σ
 |a::as,m,σ,Q=>hX c d env ls (assign t env) a m σ λm₁ ax=>eB c d env ls (execs b env) m₁ ax λc7 m₂ bt=>match c7 with
  |.next=>keep bt/\oO c d env ls t b keep as m₂ bt Q
  |.cont=>keep bt/\oO c d env ls t b keep as m₂ bt Q
  |.brk=>Q .next m₂ bt
  |.ret a=>Q (.ret a) m₂ bt
structure mS(c:aG)(env:bu)(ls:aa au)(ρ:aT)(s:aF)(it:aJ)(dr:af)(dd:aj)(n k:ab)(cE:aE)(ρ':aT)(aC:aa Cell)(s':aF):Prop where
 r:Rep c ρ' aC s'.heap
 h:ρ'.aR=it::ρ.aR
 x:fj env ρ ⟨ρ'.cs,ρ.aR⟩ s.heap s'.heap
 lD:b' s s'
 f:dK c env ls cE ρ' s'.heap
 v:bq c ρ' s'.heap dr dd
 i:iP s'.heap it dd n k dr
theorem wY{cs:aa (aJ×aJ)}{l l':aa aJ}{h:a8}(sub:∀b∈l,b∈l'):Carry ⟨cs,l'⟩ ⟨cs,l⟩ h h:=λJ J na e=>⟨λw=>na (er.mpr ((er.mp w).imp_right (sub _))),e⟩
section
variable{it:aJ}{x:af}{dd:aj}{n k:ab}{ρ bH:aT}{s bE:aF}{jz:aE}{b0:aa Cell}{A:cy}
theorem mS.mut{ao:a8}{tk bX:ab}(S:gi c d env ls m σ A s ρ)(new:s.heap.get? it=none)(I:mS c env ls ρ s it x dd n k jz bH b0 bE)(dj:∀b o,b≠it->bE.heap.get? b=some o->ao.get? b=some o)(i:iP ao it dd n bX x):mS c env ls ρ s it x dd n bX jz bH b0 {bE with heap:=ao,toks:=tk}:=
 have a7:it∈bH.aR:=I.h▸.head _
 have ca:=rl a7 dj
 ⟨I.r.rm a7 dj i.live,I.h,⟨I.x.pre,rfl,λb o aq aN e=>dj b o (λz=>by rw[z,new]at e;exact absurd e.symm (cB _)) (I.x.keep b o aq aN e),I.x.fresh⟩,I.lD.trans b'.of,
  I.f.carry (λJ J e=>e) ca (λq bg J e=>dj q _ (λz=>by obtain⟨o,ck⟩:=S.r.e3 q (S.f.aR q bg);rw[z,new]at ck;exact absurd ck.symm (cB _)) e) I.f.aR,bq.mono (λJ J e=>e) ca _ _ I.v,i⟩
theorem mS.post{rq:aE}{dq:aT}{dY:aa Cell}{cL:aF}(S:gi c d env ls m σ A s ρ)(new:s.heap.get? it=none)(I:mS c env ls ρ s it x dd n k jz bH b0 bE)(R:Rep c dq dY cL.heap)(X:fj env bH dq bE.heap cL.heap)(M:b' bE cL)(F:dK c env ls rq dq cL.heap):mS c env ls ρ s it x dd n k rq dq dY cL:=
 ⟨R,X.aR.trans I.h,I.x.trans ⟨X.pre,rfl,X.keep,X.fresh⟩,I.lD.trans M,F,I.v.wa I.r I.f X,I.i.keep λo e=>X.keep it o (I.r.e2 it (I.h▸.head _)) (λz=>by obtain⟨o,ck⟩:=S.r.e3 it (S.f.aR it z);rw[new]at ck;exact absurd ck.symm (cB _)) e⟩
theorem mS.done(S:gi c d env ls m σ A s ρ)(I:mS c env ls ρ s it x dd n k jz bH b0 bE):Rep c ⟨bH.cs,ρ.aR⟩ b0 bE.heap/\dK c env ls jz ⟨bH.cs,ρ.aR⟩ bE.heap:=
 have sub:∀b∈ρ.aR,b∈bH.aR:=λb aq=>I.h▸.tail _ aq
 ⟨Rep.pN (l':=bH.aR) I.r sub (λJ J J e=>e) λb aq=>I.r.e3 b (sub b aq),I.f.carry (ρ':=⟨bH.cs,ρ.aR⟩) (λJ J e=>e) (wY sub) (λJ J J e=>e) S.f.aR⟩
inductive t6(c:aG)(d:ab)(env:bu)(ls:aa au)(t:a3)(b:aa b1)(Q:ct->aE->aa Cell->Prop)(as:aa af)(x:af)(dd:aj)(it:aJ)(s:aF)(ρ:aT)(n:ab)(s':aF):Prop
 |mk (k:ab) (cE:aE) (ρ':aT) (aC:aa Cell) (I:mS c env ls ρ s it x dd as.length k cE ρ' aC s') (S:Src aC x as) (h:(as.drop k).length=n/\oO c d env ls t b (λaC=>Src aC x as) (as.drop k) cE aC Q)
theorem KY{t:a3}{b:aa b1}{Q:ct->aE->aa Cell->Prop}{as:aa af}(S:gi c d env ls m σ A s ρ)(new:s.heap.get? it=none)(I:t6 c d env ls t b Q as x dd it s ρ n bE):
  Bc c.clean (model c.prog c.w) A t (.ref it) b env (λr s'=>match r with|.ok f=>lz c env ls ρ s Q f s'|.error _=>bB) (λs'=>∃cE,cE<n/\t6 c d env ls t b Q as x dd it s ρ cE s') bE:=by
 obtain⟨k,jz,bH,b0,I,hs,dG⟩:=I
 refine aK.of (A' (T:=λl=>l.length=n/\oO c d env ls t b (λaC=>Src aC x as) l jz b0 Q) S.a.1 hs I.r I.v I.i dG (λa v ao tk w W dj t7=>?_) λw ao dj lv=>?_)
 ·have W:=bq.mono (λJ J e=>e) (rl (I.h▸.head _) dj) _ _ W
  have I:=I.mut (tk:=tk) S new dj t7
  refine Bb I.i (bo (w.2 A _ bH v ⟨S.a,I.r,I.f⟩ W) (λJ ja p=>?_) λJ J x=>x)
  obtain⟨ad3,lx,i',ly,lZ,ro,Bd,nE⟩:=p
  have I:=I.post S new ly lZ ro Bd
  refine bo (nE A ja lx ⟨S.a,ly,Bd⟩) (λf nF p=>?_) λJ J x=>x
  obtain⟨c7,kd,eQ,hV,l0,jx,mJ,oP,nG,hW⟩:=p
  have I:=I.post S new l0 jx mJ oP
  have on:(Src hV x as/\oO c d env ls t b (λaC=>Src aC x as) (as.drop (k+1)) kd hV Q)->∃cE,cE<n/\t6 c d env ls t b Q as x dd it s ρ cE nF:=λq=>⟨(as.drop (k+1)).length,w.1▸vL _,k+1,kd,eQ,hV,I,q.1,rfl,q.2⟩
  have D:=I.done S
  induction c7 with
  |next=>refine ae (show f=.next from nG) ?_;exact on hW
  |cont=>refine ae (show f=.cont from nG) ?_;exact on hW
  |brk=>refine ae (show f=.brk from nG) ?_;exact⟨.next,kd,_,hV,D.1,I.x,I.lD,D.2,rfl,hW⟩
  |ret a=>obtain⟨v,rfl,V⟩:=nG;exact⟨.ret a,kd,_,hV,D.1,I.x,I.lD,D.2,⟨v,rfl,bq.mono (ρ:=eQ) (ρ':=⟨eQ.cs,ρ.aR⟩) (λJ J e=>e) (wY (l':=eQ.aR) λb aq=>I.h▸.tail _ aq) _ _ V⟩,hW⟩
 ·have a7:it∈bH.aR:=I.h▸.head _
  have sub:∀b∈ρ.aR,b∈bH.aR:=λb aq=>I.h▸.tail _ aq
  have R:=I.r.rm a7 dj lv
  exact⟨.next,jz,⟨bH.cs,ρ.aR⟩,b0,Rep.pN (l':=bH.aR) R sub (λJ J J e=>e) λb aq=>R.e3 b (sub b aq),⟨I.x.pre,rfl,λb o aq aN e=>dj b o (λz=>by rw[z,new]at e;exact absurd e.symm (cB _)) (I.x.keep b o aq aN e),I.x.fresh⟩,I.lD.trans b'.heap,
   I.f.carry (ρ':=⟨bH.cs,ρ.aR⟩) (λJ J e=>e) ((rl a7 dj).trans (wY sub)) (λq bg J e=>dj q _ (λz=>by obtain⟨o,ck⟩:=S.r.e3 q (S.f.aR q bg);rw[z,new]at ck;exact absurd ck.symm (cB _)) e) S.f.aR,rfl,w.2⟩
end
theorem KZ{t e:a3}{b:aa b1}{pos:bD}{Q:ct->aE->aa Cell->Prop}(a7:mR e)
  (h:cz c d env ls (eval e env) m σ λx ax=>∃as,Src ax x as/\oO c d env ls t b (λaC=>Src aC x as) as m ax Q):eB c d env ls (exec (.For t e b [] pos) env) m σ Q:=by
 intro A s ρ S
 rw[arm_exec_For]
 refine bV (dA (bp (bo (h A s ρ S) (λdd s₁ p=>?_) λJ J x=>x)))
 rw[a7]
 refine bp (bJ (bV (dA (bp (du ?_)))))
 obtain⟨x,bI,ax,bz,bx,bW,cJ,as,hs,bK⟩:=p
 refine aK.of (A9 hs bz cJ λo hit=>?_)
 generalize aY:s₁.heap.objs.size=it at hit⊢
 have t8:s₁.heap.get? it=none:=aY▸f3
 have c':=jK s₁.heap o
 have one:∀b∈[it],s₁.heap.get? b=none:=λb aq=>by refine ae (eV.mp aq) ?_;exact t8
 have ca:=ov (ρ:=bI) one c'
 have fG:=S.f.ext S.r bx
 have Y:=bx.trans (Ext.grow c')
 exact AB trivial (KX (t6 c d env ls t b Q as x dd it s ρ) (λn s' I=>KY S (bx.gone bz t8) I) as.length ⟨0,m,bI.hide [it],ax,⟨bz.hide c' one λb aq=>by refine ae (eV.mp aq) ?_;exact hit.live,congrArg (it::·) bx.aR,
  ⟨Y.pre,rfl,λb o aq J e=>Y.keep b o aq e,λb aB aI=>.inr (Y.fresh b aB aI)⟩,bW.trans b'.heap,fG.carry (ρ':=bI.hide [it]) (λJ J e=>e) ca (λq J cf e=>c' q cf e) (λq bg=>.tail _ (fG.aR q bg)),bq.mono (ρ:=bI) (ρ':=bI.hide [it]) (λJ J e=>e) ca _ _ cJ,hit⟩,hs,rfl,bK⟩)
noncomputable def rP(es:aa a3):aS:=es.all plainArg
noncomputable def rQ(c:aG)(d:ab)(env:bu)(ls:aa au):aa a3->aa af->aE->aa Cell->(aE->aa Cell->Prop)->Prop
 |[],[],m,σ,Q=>Q m σ
 |e::es,a::as,m,σ,Q=>hX c d env ls (assign e env) a m σ λm₁ ax=>rQ c d env ls es as m₁ ax Q
 |_,_,_,_,_=>bB
theorem wZ:∀{es:aa a3},rP es=true->(assignEach es env).map (·.2)=es.map (λe=>assign e env)/\(assignEach es env).findIdx? (·.1)=none/\(assignEach es env).length=es.length
 |[],_=>⟨rfl,rfl,rfl⟩
 |e::r,h=>by
  have h:(plainArg e&&rP r)=true:=h
  rw[gf]at h
  obtain⟨oQ,rR,rS⟩:=wZ (es:=r) h.2
  have az:assignEach (e::r) env=(false,assign e env)::assignEach r env:=by
   cases e<;>first|rfl|cases h.1
  refine ae az ?_
  refine⟨by exact ae gJ (ae oQ (ae gJ rfl)),?_,by exact ae dc (ae rS (ae dc rfl))⟩
  refine ae (List.findIdx?_cons) (ae rR ?_);rfl
theorem w0{Q:aE->aa Cell->Prop}:∀{es:aa a3} {as:aa af} {m:aE} {σ:aa Cell},rQ c d env ls es as m σ Q->∀A s ρ vs,gi c d env ls m σ A s ρ->bT c ρ s.heap as vs->
  aK c.clean (model c.prog c.w) A (assignInOrder (es.map λe=>assign e env) vs) (λJ=>pR c env ls ρ s Q) cb s
 |[],[],m,σ,h,A,s,ρ,vs,S,V=>by refine ae (show vs=[]from V) ?_;exact bJ ⟨m,ρ,σ,S.r,(Ext.refl _ _).toF,b'.refl _,S.f,h⟩
 |e::es,a::as,m,σ,h,A,s,ρ,_,S,⟨v,vs,rfl,V,W⟩=>by
  refine bp (du (bo (h A s ρ v S V) (λJ s₁ p=>?_) λJ J x=>x))
  obtain⟨m₁,bI,ax,bz,bx,bW,fG,bK⟩:=p
  exact bo (w0 bK A s₁ bI vs (S.Au bz fG) (W.wa S.r S.f bx)) (λJ J p=>p.back bx bW) λJ J x=>x
 |[],_::_,_,_,h,_,_,_,_,_,_=>h.elim
 |_::_,[],_,_,h,_,_,_,_,_,_=>h.elim
theorem K0{k:aS}{prog:fc}{w:cu}{A:cy}{E:aj->aF->Prop}{s:aF}{env:bu}{elts:aa a3}{dU:ab}{pos:bD}{t:aJ}{items:eM aj}{Q:i0->aF->Prop}(cO:A.handled=none)(bb:IsTup s.heap t items)
  (aY:(assignEach elts env).length=items.size)(w1:(assignEach elts env).findIdx? (·.1)=none)
  (h:∀ao,vH s.heap.objs.size s.heap ao->aK k (model prog w) A (assignInOrder ((assignEach elts env).map (·.2)) items.toList) Q E {s with heap:=ao}):
  aK k (model prog w) A (assign (.Tuple elts dU pos) env (.ref t)) Q E s:=by
 rw[arm_assign_Tuple]
 refine bV (dA ?_)
 unfold unpack
 refine ae aY (ae w1 ?_)
 exact bV (nu (aa2 cO bb h))
theorem K1{es:aa a3}{k:ab}{pos:bD}{as:aa af}{Q:aE->aa Cell->Prop}(aW:rP es=true)(a5:es.length=as.length)(h:rQ c d env ls es as m σ Q):
  hX c d env ls (assign (.Tuple es k pos) env) (.tup as) m σ Q:=by
 intro A s ρ v S V
 obtain⟨oQ,rR,rS⟩:=wZ (env:=env) aW
 obtain⟨a,items,rfl,-,bb,V,-⟩:=V
 have hlen:=V.length
 refine K0 S.a.1 ⟨_,bb,rfl,_,rfl⟩ (by exact ae rS (ae a5 (ae fM (ae hlen rfl)))) rR λao aA=>?_
 have c':∀b o,s.heap.get? b=some o->ao.get? b=some o:=λb o e=>aA b o (λz=>by rw[z,f3]at e;exact absurd e.symm (cB _)) e
 refine ae oQ ?_
 have X:Ext ρ ρ s.heap ao:=Ext.grow c'
 exact bo (w0 h A {s with heap:=ao} ρ items (S.step (s':={s with heap:=ao}) (S.r.grow c') X) (V.ext S.r X)) (λJ J p=>p.back X.toF b'.heap) λJ J x=>x
theorem K2{es:aa a3}{k:ab}{dT:bD}{e:a3}{pos:bD}{Q:ct->aE->aa Cell->Prop}(he:pS e)(gm:swappedStores [.Tuple es k dT] e env=pure none)
  (h:cz c d env ls (eval e env) m σ λa ax=>hX c d env ls (assign (.Tuple es k dT) env) a m ax λm₁ bt=>Q .next m₁ bt):eB c d env ls (exec (.Assign [.Tuple es k dT] e pos) env) m σ Q:=by
 intro A s ρ S
 rw[zD]
 have aB:swapsWithSole [.Tuple es k dT] e pos.line env=pure false:=he env (some (.Tuple es k dT)) pos.line
 refine ae aB ?_
 refine bV (dA (bp (bJ ?_)))
 refine bp (bo (h A s ρ S) (λv s₁ p=>?_) λJ J x=>x)
 obtain⟨a,bI,ax,bz,bx,bW,cJ,bK⟩:=p
 refine ae gm (ae (show(assignEach [.Tuple es k dT] env).map (·.2)=[assign (.Tuple es k dT) env]from rfl) ?_)
 refine bp (bJ ?_)
 refine bp (bo (bK A s₁ bI v (S.step bz bx) cJ) (λJ cj p=>bJ ?_) λJ J x=>x)
 obtain⟨m₂,dy,bt,cZ,cw,dM,kZ,cN⟩:=p
 exact⟨.next,m₂,dy,bt,cZ,bx.toF.trans cw,bW.trans dM,kZ,rfl,cN⟩
end
section
open Sem (wp)
section
variable{c:aG}{d:ab}{σ:aa Cell}
theorem Be{ρ:aT}{s:aF}(R:Rep c ρ σ s.heap){a b st:ah}{t u w:eZ}{tk:ab}{Q:af->aa Cell->Prop}(h:Q (.e0 a b st) σ):
  b5 c ρ s Q (.ref s.heap.objs.size) {s with heap:=s.heap.push {cls:=.type "range",data:=.fields #[.int a t,.int b u,.int st w]},toks:=tk}:=
 ⟨.e0 a b st,ρ,σ,R.grow (jK _ _),Ext.grow (jK _ _),b'.of,⟨_,t,u,w,rfl,R.absent f3,ic _ rfl⟩,h⟩
theorem mT{n:ah}{Q:af->aa Cell->Prop}(h:Q (.e0 0 n 1) σ):cH c d (.type "range") [.int n] [] σ Q:=by
 intro A s ρ vs kvs _ R V W
 obtain⟨v,r,rfl,⟨t,rfl⟩,rfl⟩:=V
 obtain rfl:kvs=[]:=W
 exact aK.of<|call_range_1 (Be R h)
theorem K3{a b e:ah}{Q:af->aa Cell->Prop}(he:e≠0)(hs:e.natAbs<1073741824)(h:Q (.e0 a b e) σ):cH c d (.type "range") [.int a,.int b,.int e] [] σ Q:=by
 intro A s ρ vs kvs _ R V W
 obtain⟨v,r,rfl,⟨t,rfl⟩,kY,k1,rfl,⟨jP,rfl⟩,ad4,ad5,rfl,⟨ad6,rfl⟩,rfl⟩:=V
 obtain rfl:kvs=[]:=W
 refine aK.of<|call_range_3 he ?_ (.inl (aa3 hs))
 exact Be (tk:=s.toks) R h
end
section
variable{c:aG}{d:ab}{σ:aa Cell}{a b:ah}{Q:af->aa Cell->Prop}
theorem g0{f:aj->aj->bN aj}{r:af}(h0:∀{A:cy} {s:aF} {ρ:aT} {t u:eZ} {P:aj->aF->Prop},(∀v tk,bq c ρ s.heap r v->P v {s with toks:=tk})->wpAny (model c.prog c.w) A (f (.int a t) (.int b u)) P cb s)(h:Q r σ):
  cm c d f (.int a) (.int b) σ Q:=by
 intro A s ρ v w _ R ⟨t,cx⟩ ⟨u,hw⟩
 refine ae cx (ae hw ?_)
 exact aK.of<|h0 (ρ:=ρ) λx tk V=>b5.same R V h
theorem K4(h:Q (.int (a+b)) σ):cm c d (binaryOp .Add) (.int a) (.int b) σ Q:=g0 (λk=>PyProof.Rows.add_int (k _ _ e4)) h
theorem K5(h:Q (.int (a+b)) σ):cm c d (inplaceOp .Add) (.int a) (.int b) σ Q:=g0 (λk=>PyProof.Rows.iadd_int (k _ _ e4)) h
theorem K6(h:Q (.int (a-b)) σ):cm c d (binaryOp .Sub) (.int a) (.int b) σ Q:=g0 (λk=>PyProof.Rows.sub_int (k _ _ e4)) h
theorem K7(h:Q (.int (a-b)) σ):cm c d (inplaceOp .Sub) (.int a) (.int b) σ Q:=g0 (λk=>PyProof.Rows.isub_int (k _ _ e4)) h
theorem K8(hm:q2 a b)(h:Q (.int (a*b)) σ):cm c d (binaryOp .Mult) (.int a) (.int b) σ Q:=g0 (λk=>PyProof.Rows.mul_int (k _ _ e4) hm) h
theorem K9(aq:b≠0)(h:Q (.int (a.fmod b)) σ):cm c d (binaryOp .Mod) (.int a) (.int b) σ Q:=g0 (λk=>PyProof.Rows.mod_int aq (k _ _ e4)) h
theorem K'(aq:b≠0)(hs:b.natAbs<1073741824)(h:Q (.int (a.fdiv b)) σ):cm c d (binaryOp .FloorDiv) (.int a) (.int b) σ Q:=g0 (λk=>PyProof.Rows.floordiv_int aq (k _ _ e4) (.inl (aa3 hs))) h
theorem La(h:Q (.int (d' a b)) σ):cm c d (binaryOp .BitAnd) (.int a) (.int b) σ Q:=g0 (λk=>PyProof.Rows.and_int (k _ _ e4)) h
theorem Lb(h:Q (.int (d' a b)) σ):cm c d (inplaceOp .BitAnd) (.int a) (.int b) σ Q:=g0 (λk=>PyProof.Rows.iand_int (k _ _ e4)) h
theorem Lc(h:Q (.int (kT a b)) σ):cm c d (binaryOp .BitOr) (.int a) (.int b) σ Q:=g0 (λk=>PyProof.Rows.or_int (k _ _ e4)) h
theorem Ld(h:Q (.int (kT a b)) σ):cm c d (inplaceOp .BitOr) (.int a) (.int b) σ Q:=g0 (λk=>PyProof.Rows.ior_int (k _ _ e4)) h
theorem Le(h:Q (.int (jI a b)) σ):cm c d (binaryOp .BitXor) (.int a) (.int b) σ Q:=g0 (λk=>PyProof.Rows.xor_int (k _ _ e4)) h
theorem Lf(h:Q (.int (jI a b)) σ):cm c d (inplaceOp .BitXor) (.int a) (.int b) σ Q:=g0 (λk=>PyProof.Rows.ixor_int (k _ _ e4)) h
theorem Lg(aY:0<=b)(mU:b<=1000000)(bL:a.natAbs<2^64)(h:Q (.int (a*2^b.toNat)) σ):cm c d (binaryOp .LShift) (.int a) (.int b) σ Q:=g0 (λk=>PyProof.Rows.lshift_int_small aY mU bL (k _ _ e4)) h
theorem Lh(aY:0<=b)(h:Q (.int (a.fdiv (2^b.toNat))) σ):cm c d (binaryOp .RShift) (.int a) (.int b) σ Q:=g0 (λk=>PyProof.Rows.rshift_int aY (k _ _ e4)) h
theorem Li(aY:0<=b)(h:Q (.int (a.fdiv (2^b.toNat))) σ):cm c d (inplaceOp .RShift) (.int a) (.int b) σ Q:=g0 (λk=>PyProof.Rows.irshift_int aY (k _ _ e4)) h
theorem Lj(aY:0<=b)(mU:b<=1000000)(bL:a.natAbs<2^64)(h:Q (.int (a^b.toNat)) σ):cm c d (binaryOp .Pow) (.int a) (.int b) σ Q:=g0 (λk=>PyProof.Rows.pow_int_small aY mU bL (k _ _ e4)) h
theorem Lk(h:Q (.bool (a==b)) σ):cm c d (compareOp .Eq) (.int a) (.int b) σ Q:=g0 (λk=>PyProof.Rows.eq_int (k _ _ gx)) h
theorem Ll(h:Q (.bool (a !=b)) σ):cm c d (compareOp .NotEq) (.int a) (.int b) σ Q:=g0 (λk=>PyProof.Rows.ne_int (k _ _ gx)) h
theorem Lm(h:Q (.bool (decide (a<b))) σ):cm c d (compareOp .Lt) (.int a) (.int b) σ Q:=g0 (λk=>PyProof.Rows.lt_int (k _ _ gx)) h
theorem cmp_gt(h:Q (.bool (decide (b<a))) σ):cm c d (compareOp .Gt) (.int a) (.int b) σ Q:=g0 (λk=>PyProof.Rows.gt_int (k _ _ gx)) h
theorem Ln(h:Q (.bool (decide (a<=b))) σ):cm c d (compareOp .LtE) (.int a) (.int b) σ Q:=g0 (λk=>PyProof.Rows.le_int (k _ _ gx)) h
theorem Lo(h:Q (.bool (decide (b<=a))) σ):cm c d (compareOp .GtE) (.int a) (.int b) σ Q:=g0 (λk=>PyProof.Rows.ge_int (k _ _ gx)) h
theorem Bf{f:aj->bN aj}{r:af}(h0:∀{A:cy} {s:aF} {ρ:aT} {t:eZ} {P:aj->aF->Prop},(∀v tk,bq c ρ s.heap r v->P v {s with toks:=tk})->wpAny (model c.prog c.w) A (f (.int a t)) P cb s)(h:Q r σ):
  iM c d f (.int a) σ Q:=by
 intro A s ρ v _ R ⟨t,cx⟩
 refine ae cx ?_
 exact aK.of<|h0 (ρ:=ρ) λx tk V=>b5.same R V h
theorem Lp(h:Q (.int (-a)) σ):iM c d (unaryOp .USub) (.int a) σ Q:=Bf (λk=>PyProof.Rows.neg_int (k _ _ e4)) h
theorem Lq(h:Q (.int (nv a)) σ):iM c d (unaryOp .Invert) (.int a) σ Q:=Bf (λk=>PyProof.Rows.invert_int (k _ _ e4)) h
variable{P:aS->aa Cell->Prop}
theorem Lr(h:P (a !=0) σ):j' c d (.int a) σ P:=by
 intro A s ρ v _ R ⟨t,cx⟩
 refine ae cx ?_;exact aK.of<|PyProof.Rows.truthy_int (iL.now R h)
theorem Ls{b:aS}(h:P b σ):j' c d (.bool b) σ P:=by
 intro A s ρ v _ R cx
 refine ae (show v=.bool b from cx) ?_;exact aK.of<|Ir (iL.now R h)
theorem Lu(h:P false σ):j' c d .none σ P:=by
 intro A s ρ v _ R cx
 refine ae (show v=.none from cx) ?_;exact aK.of<|truthy_none (iL.now R h)
end
noncomputable def fu(b:aa aU)(lo a7:bh ah):aa aU:=(b.drop (lo.elim 0 (clipAt b.length))).take (a7.elim b.length (clipAt b.length)-lo.elim 0 (clipAt b.length))
section
variable{c:aG}{d:ab}{env:bu}{ls:aa au}{m:aE}{σ:aa Cell}{Q:af->aa Cell->Prop}
noncomputable def t9(c:aG)(d:ab)(a:af)(lo a7:bh ah)(σ:aa Cell)(Q:af->aa Cell->Prop):Prop:=
 ∀A s ρ v q lv k2,d9 c d A->Rep c ρ σ s.heap->bq c ρ s.heap a v->q3 lv lo->q3 k2 a7->s.heap.IsSliceOf q lv k2 .none->aK c.clean (model c.prog c.w) A (getItem v (.ref q)) (b5 c ρ s Q) cb s
noncomputable def oR(c:aG)(d:ab)(env:bu)(ls:aa au)(e:bh a3)(m:aE)(σ:aa Cell)(Q:bh ah->aa Cell->Prop):Prop:=
 match e with
 |none=>Q none σ
 |some e=>cz c d env ls (eval e env) m σ λa aC=>∃i,a=.int i/\Q (some i) aC
theorem part_of{e:bh a3}{Q:bh ah->aa Cell->Prop}(h:oR c d env ls e m σ Q):∀A s ρ,gi c d env ls m σ A s ρ->aK c.clean (model c.prog c.w) A (valueOrNone (evalOpt e env)) (λv s'=>∃i,q3 v i/\iL c ρ s (λ(J:i0) aC=>Q i aC) () s') cb s:=by
 intro A s ρ S
 induction e with
 |none=>exact bJ ⟨none,.none,iL.now S.r h⟩
 |some e=>
  refine bo (h A s ρ S) (λv s₁ p=>?_) λJ J x=>x
  obtain⟨a,bI,ax,bz,bx,bW,cJ,i,rfl,bK⟩:=p
  obtain⟨t,rfl⟩:=cJ
  exact⟨some i,.int i t,bI,ax,bz,bx,bW,bK⟩
theorem Lv{o:a3}{l u:bh a3}{sp pos:bD}(h:cz c d env ls (eval o env) m σ λa ax=>oR c d env ls l m ax λlo bt=>oR c d env ls u m bt λa7 b0=>l9 b0 a/\t9 c d a lo a7 b0 Q):
  cz c d env ls (eval (.Subscript o (.Slice l u none sp) pos) env) m σ Q:=by
 intro A s ρ S
 rw[Z6]
 refine bp (bo (h A s ρ S) (λv s₁ p=>?_) λJ J x=>x)
 refine dI λdv b4=>?_
 obtain⟨a,bI,ax,bz,bx,bW,cJ,bK⟩:=p
 refine b4 ?_
 refine bp (du ?_)
 rw[arm_eval_Slice]
 have rT:=S.step bz bx
 refine bp (bo (part_of bK A s₁ bI rT) (λlv cj p=>?_) λJ J x=>x)
 refine dI λdv b4=>?_
 obtain⟨lo,mV,dy,bt,cZ,cw,dM,cN⟩:=p
 refine b4 ?_
 have mQ:=rT.step cZ cw
 refine bp (du (bo (part_of cN A cj dy mQ) (λk2 bE p=>?_) λJ J x=>x))
 refine dI λdv b4=>?_
 obtain⟨a7,p5,bH,b0,d3,eA,gy,hs,dG⟩:=p
 refine b4 ?_
 have fg:=(cJ.ext bz cw).ext cZ eA
 refine bp (du (bJ ?_))
 refine aK.of<|oa ?_
 have c':=jK bE.heap {cls:=.type "slice",data:=.fields [lv,k2,.none].toArray}
 have fa:Rep c bH b0 (bE.heap.push {cls:=.type "slice",data:=.fields [lv,k2,.none].toArray}):=d3.grow c'
 have d6:Ext bH bH bE.heap (bE.heap.push {cls:=.type "slice",data:=.fields [lv,k2,.none].toArray}):=Ext.grow c'
 refine bV (dA ?_)
 generalize Bg:({bE with heap:=bE.heap.push {cls:=.type "slice",data:=.fields [lv,k2,.none].toArray}}:aF)=cL
 have rU:cL.heap=bE.heap.push {cls:=.type "slice",data:=.fields [lv,k2,.none].toArray}:=by exact cv Bg rfl
 have hy:b' bE cL:=by refine cv Bg ?_;exact b'.heap
 rw[<-rU]at fa d6
 have kG:=fg.ext d3 d6
 refine dI λdv b4=>?_
 obtain⟨T,id,cQ,a5⟩:=A4 fa kG hs
 obtain⟨ops,e⟩:=A5 (.Slice l u none sp) v (.ref bE.heap.objs.size)
 refine b4 ?_
 have eX:cL.heap.IsSliceOf bE.heap.objs.size lv k2 .none:=by refine ae rU ?_;exact⟨_,ic _ rfl,rfl,rfl⟩
 have B:Ext ρ bH s.heap cL.heap:=bx.trans (cw.trans (eA.trans d6))
 have N:b' s cL:=bW.trans (dM.trans (gy.trans hy))
 exact A2 (value:=o) cQ a5 (bo (dG A cL bH v _ lv k2 S.a fa kG mV p5 eX) (λJ J p=>p.back B N) λJ J x=>x) e
theorem t'(b:aa aU)(lo a7:bh ah):(fu b lo a7).length<=b.length:=by
 refine ae lj (ae ih ?_);exact ne λJ=>by lia
theorem Lw{b:aa aU}{lo a7:bh ah}(h:Q (.bytes (fu b lo a7)) σ):t9 c d (.bytes b) lo a7 σ Q:=by
 intro A s ρ v q lv k2 _ R V mV p5 eX
 obtain⟨t,rfl,aO⟩:=V
 have e:zP b.toArray lo a7=(fu b lo a7).toArray:=by rw[KBc.picked_eq];simp[fu]
 refine aK.of<|getItem_meets (kz _ _ _) (by decide) Z5 FB.entry_bytes_getitem (FB.args_bytes_getitem_2 _ _) (KBc.meets_slice2 b.toArray t _ mV p5)
  ⟨eX,c2 (aa4 _ lo a7) (by refine ae ha (ae fM ?_);exact c2 ‹_› (cK _ _)),λjP k=>?_⟩
 refine ae e ?_
 exact b5.same R (mI (c2 (t' _ _ _) aO)) h
theorem Lx{b:aa aU}{i:ah}(h0:0<=i)(aB:i<b.length)(h:Q (.int (b.getD i.toNat 0).toNat) σ):cm c d getItem (.bytes b) (.int i) σ Q:=by
 intro A s ρ v w _ R V W
 obtain⟨t,rfl,aO⟩:=V
 obtain⟨u,rfl⟩:=W
 exact aK.of<|getItem_bytes (by exact c2 ‹_› (cK _ _)) h0 aB (b5.same R e4 h)
theorem Ly{a b:aa aU}(aO:a.length+b.length<=1000000)(h:Q (.bytes (a++b)) σ):cm c d (binaryOp .Add) (.bytes a) (.bytes b) σ Q:=by
 intro A s ρ v w _ R V W
 obtain⟨t,rfl,-⟩:=V
 obtain⟨u,rfl,-⟩:=W
 refine aK.of<|KBy.add_bytes (by simp;exact c2 ‹_› (cK _ _)) λjP k=>?_
 rw[aa5]
 exact b5.same R (mI (by refine ae bZ ?_;exact aO)) h
theorem Lz{a b:aa aU}(h:Q (.bool (a==b)) σ):cm c d (compareOp .Eq) (.bytes a) (.bytes b) σ Q:=by
 intro A s ρ v w _ R V W
 obtain⟨t,rfl,-⟩:=V
 obtain⟨u,rfl,-⟩:=W
 exact aK.of<|eq_bytes (b5.now R gx h)
theorem LA{a b:aa aU}(h:Q (.bool (a !=b)) σ):cm c d (compareOp .NotEq) (.bytes a) (.bytes b) σ Q:=by
 intro A s ρ v w _ R V W
 obtain⟨t,rfl,-⟩:=V
 obtain⟨u,rfl,-⟩:=W
 exact aK.of<|ne_bytes (b5.now R gx h)
end
section
variable{k:aS}{prog:fc}{w:cu}{A:cy}{E:aj->aF->Prop}{s:aF}
theorem Bh{T:gI}{name:au}{id:gI}{b:gg}{self:aj}{rest:aa aj}{Q:aj->aF->Prop}(h:lV T name id)(cQ:s.TypeIs self T)(aq:entryFor table id=some b)
  (aY:pC.contains id=false)(aP:aK k (model prog w) A.in1 (b ⟨self::rest,[]⟩) (λfin s'=>∃v,fin=.done (.ret v)/\Q v s') E s)(bL:argsOk id ⟨self::rest,[]⟩):
  aK k (model prog w) A (call (.builtin id) (self::rest)) Q E s:=by
 refine mF (lp ?_)
 show aK _ _ A.in1 (do checkBuiltinCall id ⟨self::rest,[]⟩;again (.builtin id ⟨self::rest,[]⟩)) _ _ s
 refine bV (h.check _ _ _ _ _ _ _ _ cQ bL (bJ (ie (zQ h.plain _) (ie aY (lp ?_)))))
 rw[zR h.plain]
 show aK _ _ _ (match entryFor table id with|some b=>b ⟨self::rest,[]⟩|none=>unsupported ((withoutEnding? id "#data").getD id)) _ _ s
 refine ae aq ?_
 exact bo aP (λfin s' ao=>by obtain⟨v,rfl,cx⟩:=ao;exact cx) λJ J x=>x
end
theorem Bi:lV "bytearray" "append" "bytearray.append":=
 .of (owner:="bytearray") (n:="append") (by rw[ij,ik];kernel_rfl) (by decide+kernel) (by decide+kernel) (by decide+kernel)
  (by first|exact .inl (by decide+kernel)|exact .inr (by decide+kernel)) (by rw[kS];kernel_rfl)
theorem LB:entryFor table "bytearray.append"=some gg.«bytearray.append»:=by first|exact q4 (by kernel_rfl)|exact q5 (by kernel_rfl)
theorem LC(a b:aj):argsOk "bytearray.append" ⟨[a,b],[]⟩:=by kernel_rfl
section
variable{c:aG}{d:ab}{σ:aa Cell}
theorem Bj{prog:fc}{w:cu}{A:cy}{E:aj->aF->Prop}{s:aF}{a:aJ}{b:eM aU}{Q:i0->aF->Prop}(c3:A.guards=some [])(aN:s.heap.get? a=some {cls:=.type "bytearray",data:=.bytearray b 0})(h:Q () s):
  aK true (model prog w) A (It (.ref a)) Q E s:=by
 refine bp ?_
 refine bp (Ae c3 ?_)
 refine bp (aK.of ?_)
 refine bw (oc aN (dn ?_))
 exact bJ (bJ h)
theorem p6{prog:fc}{w:cu}{A:cy}{E:aj->aF->Prop}{s:aF}{a:aJ}{b:eM aU}{f:eM aU->eM aU}{Q:i0->aF->Prop}(aN:s.heap.get? a=some {cls:=.type "bytearray",data:=.bytearray b 0})(aO:(f b).size<=sizeLine)
  (h:∀ao,ao.get? a=some {cls:=.type "bytearray",data:=.bytearray (f b) 0}->ju a s.heap ao->Q () {s with heap:=ao}):wpAny (model prog w) A (q6 (.ref a) f) Q E s:=by
 refine bw (oc aN ?_)
 have e:(s.heap.update a (Obj.mapBytearray f)).get? a=some {cls:=.type "bytearray",data:=.bytearray (f b) 0}:=od _ aN rfl
 refine bw (wpAny_update aN (wpAny_lookBehind e ?_ (h _ e (pH ..))))
 unfold Data.pastItsLine
 simp only
 exact ae (cC (Iu.mpr aO)) rfl
theorem Bk{M:gd}{A:cy}{E:aj->aF->Prop}{s:aF}{n:ah}{t:eZ}{Q:aU->aF->Prop}(h0:0<=n)(aB:n<256)(h:Q n.toNat.toUInt8 s):wpAny M A (aa6 (.int n t)) Q E s:=by
 refine bw (gU (a:=n) rfl ?_)
 have e:(decide (n<0)||decide (n>=256))=false:=by simp;lia
 refine ae e ?_
 exact dn h
theorem ua{i:ab}{b:aa aU}{n:ah}{Q:af->aa Cell->Prop}(jB:c.clean=true)(aP:σ[i]? =some (.aZ b))(h0:0<=n)(aB:n<256)(aO:b.length+1<=1000000)(h:Q .none (σ.set i (.aZ (b++[n.toNat.toUInt8])))):
  cH c d (.builtin "bytearray.append") [.cell i,.int n] [] σ Q:=by
 intro A s ρ vs kvs bP R V W
 obtain⟨v,r,rfl,⟨p,aW,rfl⟩,v2,nN,rfl,⟨t,rfl⟩,rfl⟩:=V
 obtain rfl:kvs=[]:=W
 obtain⟨aN,-,he⟩:=R.cells i p _ aW aP
 refine Bh Bi ⟨_,aN,rfl⟩ LB (by decide+kernel) ?_ (LC _ _)
 show aK _ _ _ (aa6 (.int n t)>>=λc=>It (.ref p.1)>>=λJ=>q6 (.ref p.1) (·.push c)>>=λJ=>ret .none) _ _ s
 refine bV (Bk h0 aB ?_)
 refine bp ?_
 refine ae jB ?_
 refine Bj (by exact bP.2.2.2.1) aN ?_
 refine bV (p6 aN (by simp[ha];exact ne λJ=>by lia) λao kX hs=>?_)
 have c':∀b o,b≠p.1->b≠p.2->s.heap.get? b=some o->ao.get? b=some o:=λb o n J e=>(hs.2 b n).trans e
 have C:ek c ρ ao p (.aZ (b++[n.toNat.toUInt8])):=⟨by refine ae kX ?_;simp,by simp;exact aa7 ‹_›,he⟩
 exact bJ ⟨.none,rfl,.none,ρ,_,R.change aW c' C,Ext.change aW c',b'.heap,ou,h⟩
end
end
section
open Sem (wp)
noncomputable def p7:aE->ab->(af->Prop)->Prop
 |[],_,_=>bB
 |o::_,0,K=>(match o with|some a=>K a|none=>bB)
 |_::m,i+1,K=>p7 m i K
noncomputable def nO:aE->ab->af->(aE->Prop)->Prop
 |[],_,_,_=>bB
 |_::m,0,a,K=>K (some a::m)
 |x::m,i+1,a,K=>nO m i a λcE=>K (x::cE)
noncomputable def hk:aa Cell->ab->(Cell->Prop)->Prop
 |[],_,_=>bB
 |x::_,0,K=>K x
 |_::σ,i+1,K=>hk σ i K
noncomputable def md:aa Cell->ab->Cell->(aa Cell->Prop)->Prop
 |[],_,_,_=>bB
 |_::σ,0,y,K=>K (y::σ)
 |x::σ,i+1,y,K=>md σ i y λaC=>K (x::aC)
noncomputable def oS:aa Cell->Cell->(ab->aa Cell->Prop)->Prop
 |[],y,K=>K 0 [y]
 |x::σ,y,K=>oS σ y λn aC=>K (n+1) (x::aC)
noncomputable def dw{α:Type}:aa α->ab->bh α
 |[],_=>none
 |x::_,0=>some x
 |_::l,i+1=>dw l i
noncomputable def kH{α:Type}:aa α->ab->(α->Prop)->Prop
 |[],_,_=>bB
 |x::_,0,K=>K x
 |_::l,i+1,K=>kH l i K
theorem rV{K:af->Prop}:∀{m:aE} {i:ab},p7 m i K->∃a,m.getD i none=some a/\K a
 |[],_,h=>h.elim
 |some a::m,0,h=>⟨a,rfl,h⟩
 |none::m,0,h=>h.elim
 |o::m,i+1,h=>by obtain⟨a,e,k⟩:=rV (m:=m) (i:=i) h;exact⟨a,by simpa using e,k⟩
theorem p8:∀{m:aE} {i:ab} {a:af} {K:aE->Prop},nO m i a K->K (m.set i (some a))
 |[],_,_,_,h=>h.elim
 |_::m,0,a,K,h=>h
 |x::m,i+1,a,K,h=>p8 (m:=m) (i:=i) (K:=λcE=>K (x::cE)) h
theorem jg{K:Cell->Prop}:∀{σ:aa Cell} {i:ab},hk σ i K->∃x,σ[i]? =some x/\K x
 |[],_,h=>h.elim
 |x::σ,0,h=>⟨x,rfl,h⟩
 |_::σ,i+1,h=>by obtain⟨x,e,k⟩:=jg (σ:=σ) (i:=i) h;exact⟨x,by simpa using e,k⟩
theorem oT:∀{σ:aa Cell} {i:ab} {y:Cell} {K:aa Cell->Prop},md σ i y K->K (σ.set i y)
 |[],_,_,_,h=>h.elim
 |_::σ,0,y,K,h=>h
 |x::σ,i+1,y,K,h=>oT (σ:=σ) (i:=i) (K:=λaC=>K (x::aC)) h
theorem rW:∀{σ:aa Cell} {y:Cell} {K:ab->aa Cell->Prop},oS σ y K->K σ.length (σ++[y])
 |[],y,K,h=>h
 |x::σ,y,K,h=>rW (σ:=σ) (K:=λn aC=>K (n+1) (x::aC)) h
theorem hB{α:Type}:∀{l:aa α} {i:ab},l[i]? =dw l i
 |[],_=>rfl
 |x::l,0=>rfl
 |x::l,i+1=>hB (l:=l)
theorem p9{α:Type}{K:α->Prop}:∀{l:aa α} {i:ab},kH l i K->∃x,l[i]? =some x/\K x
 |[],_,h=>h.elim
 |x::l,0,h=>⟨x,rfl,h⟩
 |_::l,i+1,h=>by obtain⟨x,e,k⟩:=p9 (l:=l) (i:=i) h;exact⟨x,by simpa using e,k⟩
theorem Bl{α:Type}{q:α}:∀{l:aa α} {i:ab} {K:α->Prop},l[i]? =some q->K q->kH l i K:=by
 intro l
 induction l with
 |nil=>intro i K e;simp at e
 |cons y l cF=>
  intro i K e k
  induction i with
  |zero=>simp at e;subst e;exact k
  |succ i=>rw[my]at e;exact cF e k
noncomputable def bY(b:aS)(P Q:Prop):Prop:=match b with|true=>P|false=>Q
theorem me{b:aS}{P Q:Prop}(h:bY b P Q):if b=true then P else Q:=by induction b<;>exact h
theorem bY.intro{b:aS}{P Q:Prop}(aB:b=true->P)(aI:b=false->Q):bY b P Q:=by induction b;exact aI rfl;exact aB rfl
theorem bY.t{b:aS}{P Q:Prop}(e:b=true)(h:P):bY b P Q:=by subst e;exact h
theorem bY.f{b:aS}{P Q:Prop}(e:b=false)(h:Q):bY b P Q:=by subst e;exact h
structure SC where
 N:aa au
 iJ:aa au
 ls:aa au
 sc:dz
 top:aS
abbrev TE:=aG->ab->aE->aa Cell->(af->aa Cell->Prop)->Prop
abbrev fl:=aG->ab->aE->aa Cell->(aa af->aa Cell->Prop)->Prop
abbrev TT:=aG->ab->aE->aa Cell->(aS->aa Cell->Prop)->Prop
abbrev br:=aG->ab->aE->aa Cell->(ct->aE->aa Cell->Prop)->Prop
abbrev iy:=aG->ab->af->aE->aa Cell->(aE->aa Cell->Prop)->Prop
noncomputable def Bm(c:aG)(C:aJ)(x:au):rk->Prop
 |.own=>findIn c.K (.ref C) x=some none/\takerIn c.K C x=some none
 |.e' f=>findIn c.K (.ref C) x=some (some (.ref f))/\typeIn c.K (.ref f)=some (.type "function")/\keepIn c.K (.ref f)=true
 |.prop p g=>findIn c.K (.ref C) x=some (some (.ref p))/\specialIn c.K (.ref p) "__get__"=some (some (.builtin "property.__get__"))/\takesIn c.K (.ref p)=some true/\∃rest,recIn c.K p "property"=some (.ref g::rest)
 |.const a v=>findIn c.K (.ref C) x=some (some v)/\specialIn c.K v "__get__"=some none/\handedIn v=true/\copiedNames.contains x=false/\∀ρ h,c.base.StaysIn h->(∀b∈ρ.bar,c.base.get? b=none)->bq c ρ h a v
 |.tJ _ _=>ky
noncomputable def w2:aa au:=["append","extend","to_bytes","encode","decode","join","from_bytes"]
structure aG.a0(c:aG):Prop where
 H:c.Ok
 glob:∀x a,(x,a)∈c.iu->AA c x a\/∃v,a=.val v/\tO c x v
 keep:∀x v,(x,af.val v)∈c.iu->oz c v
 base:∀k x,dw w2 k=some x->c.names[k]? =some x
 cls:∀C cX,(C,cX)∈c.cls->l6 c.K C=true/\∀k at_,(k,at_)∈cX->∃x,c.names[k]? =some x/\Bm c C x at_
structure SC.Fits(S:SC)(c:aG)(env:bu):Prop where
 F:c.a0
 N:c.names=S.N
 g:c.iu.map (·.1)=S.iJ
 E:fk env S.ls
 sc:env.scope=S.sc
 top:S.top=true->c.fr=some [env]/\env.frame=some env.locals
noncomputable def cA(S:SC)(e:a3)(t:TE):Prop:=∀c d env m σ Q,S.Fits c env->t c d m σ Q->cz c d env S.ls (eval e env) m σ Q
noncomputable def mf(S:SC)(es:aa a3)(t:fl):Prop:=∀c d env m σ Q pos,S.Fits c env->t c d m σ Q->i9 c d env S.ls (spliced (backTo pos (starEach es env))) m σ Q
noncomputable def iz(S:SC)(e:a3)(t:TT):Prop:=∀c d env m σ Q,S.Fits c env->t c d m σ Q->gY c d env S.ls (isTrue e env (eval e env)) m σ Q
noncomputable def dt(S:SC)(s:b1)(t:br):Prop:=∀c d env m σ Q,S.Fits c env->t c d m σ Q->eB c d env S.ls (exec s env) m σ Q
noncomputable def bQ(S:SC)(s:aa b1)(t:br):Prop:=∀c d env m σ Q,S.Fits c env->t c d m σ Q->eB c d env S.ls (execs s env) m σ Q
noncomputable def k3(S:SC)(e:a3)(t:iy):Prop:=∀c d env a m σ Q,S.Fits c env->t c d a m σ Q->hX c d env S.ls (assign e env) a m σ Q
noncomputable def LD(i:ab):TE:=λJ J m σ Q=>p7 m i λa=>Q a σ
theorem ag{S:SC}{i:ab}{x:au}{pos:bD}(aA:dw S.ls i=some x):cA S (.Name x pos) (LD i):=λc d env m σ Q F h=>by
 obtain⟨a,e,k⟩:=rV h
 exact JE F.E (hB.trans aA) e k
noncomputable def Bn(a:af):TE:=λJ J J σ Q=>Q a σ
theorem aw{S:SC}{k:te}{n:ab}{pos:bD}{a:af}(e:AD k=some a):cA S (.Constant k n pos) (Bn a):=λc d env m σ Q F h=>tP e h
noncomputable def LF(i:ab):TE:=λc J J σ Q=>kH c.iu i λp=>Q p.2 σ
noncomputable def oU(sc:dz)(x:au):aS:=sc.names.lookup x==some .globalImplicit&&!(x==("__debug__":au))
theorem w3{S:SC}{c:aG}{env:bu}(F:S.Fits c env){i:ab}{x:au}{p:au×af}(aA:dw S.iJ i=some x)(aW:c.iu[i]? =some p):p.1=x/\(x,p.2)∈c.iu:=by
 have:(c.iu.map (·.1))[i]? =some p.1:=by(refine ae (j4) ?_;refine ae aW ?_);rfl
 rw[F.g,hB,aA]at this
 cases this
 exact⟨rfl,js aW⟩
theorem h3{S:SC}{i:ab}{x:au}{pos:bD}(aA:dw S.iJ i=some x)(c3:oU S.sc x=true):cA S (.Name x pos) (LF i):=λc d env m σ Q F h=>by
 obtain⟨p,e,k⟩:=p9 h
 obtain⟨-,hm⟩:=w3 F aA e
 simp only[oU,gf,fW,mA]at c3
 have ba:env.kindOf x=some .globalImplicit:=by unfold Iv;refine ae F.sc ?_;exact c3.1
 rcases F.F.glob _ _ hm with q|⟨v,ev,q⟩
 ·exact JG F.F.H F.E ba c3.2 q k
 ·rw[ev]at k;exact JH F.F.H F.E ba c3.2 q k
noncomputable def w4:fl:=λJ J J σ Q=>Q [] σ
theorem aD{S:SC}:mf S [] w4:=λc d env m σ Q pos F h=>JI h
noncomputable def LG(Q:aa af->aa Cell->Prop)(a:af)(as:aa af)(σ:aa Cell):Prop:=Q (a::as) σ
noncomputable def LH(r:fl)(c:aG)(d:ab)(m:aE)(Q:aa af->aa Cell->Prop)(a:af)(σ:aa Cell):Prop:=r c d m σ (LG Q a)
noncomputable def w5(t:TE)(r:fl):fl:=λc d m σ Q=>t c d m σ (LH r c d m Q)
theorem ak{S:SC}{e:a3}{es:aa a3}{t:TE}{r:fl}(aW:plainArg e=true)(aB:cA S e t)(aI:mf S es r):mf S (e::es) (w5 t r):=λc d env m σ Q pos F h=>
 JJ aW ((aB c d env m σ _ F h).mono λa ax k=>aI c d env m ax _ pos F k)
theorem i9.mono{c:aG}{d:ab}{env:bu}{ls:aa au}{t:bN (aa aj)}{m:aE}{σ:aa Cell}{Q dJ:aa af->aa Cell->Prop}(h:i9 c d env ls t m σ Q)(k:∀a σ,Q a σ->dJ a σ):i9 c d env ls t m σ dJ:=
 λA s ρ S=>bo (h A s ρ S) (λJ J ⟨a,ρ',aC,R,X,M,V,q⟩=>⟨a,ρ',aC,R,X,M,V,k _ _ q⟩) λJ J x=>x
theorem gY.mono{c:aG}{d:ab}{env:bu}{ls:aa au}{t:bN aS}{m:aE}{σ:aa Cell}{Q dJ:aS->aa Cell->Prop}(h:gY c d env ls t m σ Q)(k:∀a σ,Q a σ->dJ a σ):gY c d env ls t m σ dJ:=
 λA s ρ S=>bo (h A s ρ S) (λJ J ⟨ρ',aC,R,X,M,q⟩=>⟨ρ',aC,R,X,M,k _ _ q⟩) λJ J x=>x
theorem eB.mono{c:aG}{d:ab}{env:bu}{ls:aa au}{t:bN n9}{m:aE}{σ:aa Cell}{Q dJ:ct->aE->aa Cell->Prop}(h:eB c d env ls t m σ Q)(k:∀f m σ,Q f m σ->dJ f m σ):eB c d env ls t m σ dJ:=
 λA s ρ S=>bo (h A s ρ S) (λJ J ⟨a,cE,ρ',aC,R,X,M,F,V,q⟩=>⟨a,cE,ρ',aC,R,X,M,F,V,k _ _ _ q⟩) λJ J x=>x
theorem hX.mono{c:aG}{d:ab}{env:bu}{ls:aa au}{f:aj->bN i0}{a:af}{m:aE}{σ:aa Cell}{Q dJ:aE->aa Cell->Prop}(h:hX c d env ls f a m σ Q)(k:∀m σ,Q m σ->dJ m σ):hX c d env ls f a m σ dJ:=
 λA s ρ v S V=>bo (h A s ρ v S V) (λJ J ⟨cE,ρ',aC,R,X,M,F,q⟩=>⟨cE,ρ',aC,R,X,M,F,k _ _ q⟩) λJ J x=>x
theorem iM.mono{c:aG}{d:ab}{f:aj->bN aj}{a:af}{σ:aa Cell}{Q dJ:af->aa Cell->Prop}(h:iM c d f a σ Q)(k:∀a σ,Q a σ->dJ a σ):iM c d f a σ dJ:=
 λA s ρ v x R V=>bo (h A s ρ v x R V) (λJ J p=>p.mono k) λJ J x=>x
theorem cm.mono{c:aG}{d:ab}{f:aj->aj->bN aj}{a b:af}{σ:aa Cell}{Q dJ:af->aa Cell->Prop}(h:cm c d f a b σ Q)(k:∀a σ,Q a σ->dJ a σ):cm c d f a b σ dJ:=
 λA s ρ v w x R V W=>bo (h A s ρ v w x R V W) (λJ J p=>p.mono k) λJ J x=>x
theorem j'.mono{c:aG}{d:ab}{a:af}{σ:aa Cell}{Q dJ:aS->aa Cell->Prop}(h:j' c d a σ Q)(k:∀a σ,Q a σ->dJ a σ):j' c d a σ dJ:=
 λA s ρ v x R V=>bo (h A s ρ v x R V) (λJ J ⟨ρ',aC,R,X,M,q⟩=>⟨ρ',aC,R,X,M,k _ _ q⟩) λJ J x=>x
noncomputable def rX:aa af->ab->Prop->Prop
 |[],_,K=>K
 |_::as,n+1,K=>rX as n K
 |_::_,0,_=>bB
theorem ub:∀{as:aa af} {n:ab} {K:Prop},rX as n K->as.length<=n/\K
 |[],_,_,h=>⟨hc _,h⟩
 |_::as,n+1,K,h=>by obtain⟨a,b⟩:=ub (as:=as) (n:=n) h;exact⟨qW a,b⟩
noncomputable def LI(Q:af->aa Cell->Prop)(as:aa af)(σ:aa Cell):Prop:=rX as 1000 (Q (.tup as) σ)
noncomputable def LJ(Q:af->aa Cell->Prop)(as:aa af)(σ:aa Cell):Prop:=rX as 1000 (Q (.lst as) σ)
noncomputable def LK(Q:af->aa Cell->Prop)(as:aa af)(σ:aa Cell):Prop:=rX as 1000 (oS σ (.list as) λn bt=>Q (.cell n) bt)
noncomputable def LL(r:fl):TE:=λc d m σ Q=>r c d m σ (LI Q)
theorem ke{S:SC}{es:aa a3}{k:ab}{pos:bD}{r:fl}(aB:mf S es r):cA S (.Tuple es k pos) (LL r):=λc d env m σ Q F h=>
 JN ((aB c d env m σ _ pos F h).mono λas ax k=>by have:=ub k;exact⟨by exact ne λJ=>by lia,this.2⟩)
noncomputable def LM(r:fl):TE:=λc d m σ Q=>r c d m σ (LJ Q)
theorem h4{S:SC}{es:aa a3}{pos:bD}{r:fl}(aB:mf S es r):cA S (.List es pos) (LM r):=λc d env m σ Q F h=>
 JO ((aB c d env m σ _ pos F h).mono λas ax k=>by have:=ub k;exact⟨by exact ne λJ=>by lia,this.2⟩)
noncomputable def LN(r:fl):TE:=λc d m σ Q=>r c d m σ (LK Q)
theorem kI{S:SC}{es:aa a3}{pos:bD}{r:fl}(aB:mf S es r):cA S (.List es pos) (LN r):=λc d env m σ Q F h=>
 JP ((aB c d env m σ _ pos F h).mono λas ax k=>by have:=ub k;exact⟨by exact ne λJ=>by lia,rW (K:=λn bt=>Q (.cell n) bt) this.2⟩)
noncomputable def Bo:af->bh aS
 |.none=>some true
 |_=>Option.none
noncomputable def isNone(a:af):bh aS:=match rK a with
 |true=>some false
 |false=>Bo a
noncomputable def jC(a:af)(N:Prop)(B:aS->Prop)(I:ah->Prop)(Y:aa aU->Prop):Prop:=match a with
 |.none=>N
 |.bool b=>B b
 |.int i=>I i
 |.bytes y=>Y y
 |_=>bB
theorem jQ{P:af->Prop}{a:af}{N:Prop}{B:aS->Prop}{I:ah->Prop}{Y:aa aU->Prop}(h:jC a N B I Y)(hC:N->P .none)(oV:∀b,B b->P (.bool b))(gv:∀i,I i->P (.int i))(w6:∀y,Y y->P (.bytes y)):P a:=by
 induction a using af.cs
 case none=>exact hC h
 case bool=>exact oV _ h
 case int=>exact gv _ h
 case bytes=>exact w6 _ h
 all_goals exact d1 h
abbrev dE (a:af) (I:ah->Prop):Prop:=jC a bB (λJ=>bB) I (λJ=>bB)
theorem no{α:Type}{P:α->Prop}(a:α):bB->P a:=d1
theorem kf{P:af->Prop}{a:af}{I:ah->Prop}(h:dE a I)(gv:∀i,I i->P (.int i)):P a:=jQ h d1 no gv no
theorem iA{c:aG}{d:ab}{σ:aa Cell}{f:aj->aj->bN aj}{a b:af}{I:ah->ah->Prop}{Q:af->aa Cell->Prop}(h:dE a λx=>dE b (I x))(k:∀x y,I x y->cm c d f (.int x) (.int y) σ Q):cm c d f a b σ Q:=
 kf (P:=λa=>cm c d f a b σ Q) h λx h=>kf (P:=λb=>cm c d f (.int x) b σ Q) h (k x)
noncomputable def Bp(op:jt)(a b:af)(σ:aa Cell)(Q:af->aa Cell->Prop):Prop:=
 match op with
 |.Add=>jC a bB (λJ=>bB) (λx=>dE b λy=>Q (.int (x+y)) σ) (λx=>jC b bB (λJ=>bB) (λJ=>bB) λy=>x.length+y.length<=1000000/\Q (.bytes (x++y)) σ)
 |.Sub=>dE a λx=>dE b λy=>Q (.int (x-y)) σ
 |.Mult=>dE a λx=>dE b λy=>q2 x y/\Q (.int (x*y)) σ
 |.Mod=>dE a λx=>dE b λy=>y≠0/\Q (.int (x.fmod y)) σ
 |.FloorDiv=>dE a λx=>dE b λy=>(y≠0/\y.natAbs<1073741824)/\Q (.int (x.fdiv y)) σ
 |.Pow=>dE a λx=>dE b λy=>(0<=y/\y<=1000000/\x.natAbs<2^64)/\Q (.int (x^y.toNat)) σ
 |.LShift=>dE a λx=>dE b λy=>(0<=y/\y<=1000000/\x.natAbs<2^64)/\Q (.int (x*2^y.toNat)) σ
 |.RShift=>dE a λx=>dE b λy=>0<=y/\Q (.int (x.fdiv (2^y.toNat))) σ
 |.BitAnd=>dE a λx=>dE b λy=>Q (.int (d' x y)) σ
 |.BitOr=>dE a λx=>dE b λy=>Q (.int (kT x y)) σ
 |.BitXor=>dE a λx=>dE b λy=>Q (.int (jI x y)) σ
 |_=>bB
theorem LO{c:aG}{d:ab}{op:jt}{a b:af}{σ:aa Cell}{Q:af->aa Cell->Prop}(h:Bp op a b σ Q):cm c d (binaryOp op) a b σ Q:=by
 induction op
 case Add=>exact jQ (P:=λa=>cm c d _ a b σ Q) h d1 no (λx h=>kf (P:=λb=>cm c d _ (.int x) b σ Q) h λy h=>K4 h) λx h=>jQ (P:=λb=>cm c d _ (.bytes x) b σ Q) h d1 no no λy h=>Ly h.1 h.2
 case Sub=>exact iA h λx y h=>K6 h
 case Mult=>exact iA h λx y h=>K8 h.1 h.2
 case Mod=>exact iA h λx y h=>K9 h.1 h.2
 case FloorDiv=>exact iA h λx y h=>K' h.1.1 h.1.2 h.2
 case Pow=>exact iA h λx y h=>Lj h.1.1 h.1.2.1 h.1.2.2 h.2
 case LShift=>exact iA h λx y h=>Lg h.1.1 h.1.2.1 h.1.2.2 h.2
 case RShift=>exact iA h λx y h=>Lh h.1 h.2
 case BitAnd=>exact iA h λx y h=>La h
 case BitOr=>exact iA h λx y h=>Lc h
 case BitXor=>exact iA h λx y h=>Le h
 all_goals exact d1 h
end
section
open Sem (wp)
section
variable{c:aG}{d:ab}{env:bu}{ls:aa au}{m:aE}{σ:aa Cell}
theorem LP{as:aa af}{i:ah}{a:af}{Q:af->aa Cell->Prop}(h0:0<=i)(ba:as[i.toNat]? =some a)(h:Q a σ):cm c d getItem (.lst as) (.int i) σ Q:=by
 intro A s ρ v w _ R V W
 obtain⟨t,rfl⟩:=W
 obtain⟨l,items,n,rfl,-,a5,cq,aO⟩:=V
 obtain⟨v,cx,U⟩:=cq.at ba
 have:=(dH.mp ba).1
 exact aK.of<|Iw ⟨_,a5,rfl,_,rfl⟩ h0 (by exact fy λJ=>by lia) (by simpa using cx) (b5.now R U h)
theorem item_list{j:ab}{as:aa af}{i:ah}{a:af}{Q:af->aa Cell->Prop}(aP:σ[j]? =some (.list as))(h0:0<=i)(ba:as[i.toNat]? =some a)(h:Q a σ):cm c d getItem (.cell j) (.int i) σ Q:=by
 intro A s ρ v w _ R V W
 obtain⟨t,rfl⟩:=W
 obtain⟨p,aW,rfl⟩:=V
 obtain⟨items,n,e,cq,aO,-⟩:=R.cells j p _ aW aP
 obtain⟨v,cx,U⟩:=cq.at ba
 have:=(dH.mp ba).1
 exact aK.of<|Iw ⟨_,e,rfl,_,rfl⟩ h0 (by exact fy λJ=>by lia) (by simpa using cx) (b5.now R U h)
theorem item_tup{as:aa af}{i:ah}{k:ab}{a:af}{Q:af->aa Cell->Prop}(dN:seqIndex? i as.length=some k)(ba:as[k]? =some a)(h:Q a σ):cm c d getItem (.tup as) (.int i) σ Q:=by
 intro A s ρ v w _ R V W
 obtain⟨t,rfl⟩:=W
 obtain⟨l,items,rfl,-,bb,cq,aO⟩:=V
 obtain⟨v,cx,U⟩:=cq.at ba
 have:-(as.length:ah)<=i/\i<as.length:=by
  unfold seqIndex? at dN
  dsimp only at dN
  by_cases q:(decide (0<=(if i<0 then i+as.length else i))&&decide ((if i<0 then i+as.length else i)<as.length))=true
  ·rw[gf,lU,lU]at q
   by_cases a7:i<0
   ·rw[cV a7]at q;lia
   ·rw[cC a7]at q;lia
  ·rw[cC q]at dN;exact absurd dN.symm (cB _)
 exact aK.of<|PyProof.Rows.getItem_tuple ⟨_,bb,rfl,_,rfl⟩ (by exact fX λJ=>by lia) (by exact fy λJ=>by lia) (by(refine ae fM ?_;refine ae cq.length ?_);exact dN) (by simpa using cx) (b5.now R U h)
noncomputable def rY(as:aa af)(i:ah)(σ:aa Cell)(Q:af->aa Cell->Prop):Prop:=match i with
 |.ofNat k=>kH as k λa=>Q a σ
 |.negSucc _=>bB
theorem LQ{α:Type}{K:α->Prop}{l:aa α}{i:ab}(h:kH l i K):∃x,dx (l[i]? =some x) (i<l.length) (K x):=by
 obtain⟨x,e,k⟩:=p9 h
 exact⟨x,e,(dH.mp e).1,k⟩
noncomputable def Bq(a b:af)(σ:aa Cell)(Q:af->aa Cell->Prop):Prop:=dE b λi=>match a with
 |.lst as=>rY as i σ Q
 |.tup as=>rY as i σ Q
 |.cell j=>hk σ j λx=>(match x with
  |.list as=>rY as i σ Q
  |_=>bB)
 |.bytes b=>(0<=i/\i<b.length)/\Q (.int (b.getD i.toNat 0).toNat) σ
 |_=>bB
theorem uc{as:aa af}{i:ah}{σ:aa Cell}{Q:af->aa Cell->Prop}(h:rY as i σ Q):0<=i/\i<as.length/\∃a,as[i.toNat]? =some a/\Q a σ:=by
 induction i with
 |ofNat k=>
  obtain⟨x,e,l,q⟩:=LQ h
  exact⟨hL k,by exact q7.mpr ‹_›,x,e,q⟩
 |negSucc k=>exact h.elim
theorem LR{a b:af}{Q:af->aa Cell->Prop}(h:Bq a b σ Q):l9 σ a/\cm c d getItem a b σ Q:=by
 refine kf (P:=λb=>l9 σ a/\cm c d getItem a b σ Q) h λi h=>?_
 induction a using af.cs
 case lst as=>
  obtain⟨h0,aB,x,e,q⟩:=uc h
  exact⟨trivial,LP h0 e q⟩
 case tup as=>
  obtain⟨h0,aB,x,e,q⟩:=uc h
  refine⟨trivial,item_tup (k:=i.toNat) ?_ e q⟩
  unfold seqIndex?
  simp only[qP.mpr h0,if_false,iH h0,iH aB,Bool.and_self,vE]
 case cell j=>
  obtain⟨x,aA,h⟩:=jg h
  induction x
  case list as=>
   obtain⟨h0,aB,a,e,q⟩:=uc h
   exact⟨.inl ⟨_,aA⟩,item_list aA h0 e q⟩
  all_goals exact d1 h
 case bytes b=>exact⟨trivial,Lx h.1.1 h.1.2 h.2⟩
 all_goals exact d1 h
end
end
section
open Sem (wp)
noncomputable def rZ(σ:aa Cell)(a:af)(K:aa af->Prop):Prop:=match a with
 |.lst as=>K as
 |.cell j=>hk σ j λx=>(match x with|.list as=>K as|_=>bB)
 |_=>bB
section
variable{c:aG}{d:ab}{env:bu}{ls:aa au}{m:aE}{σ:aa Cell}
theorem Br{a:af}{K:aa af->Prop}(h:rZ σ a K):∃as,K as/\∀ρ h v,Rep c ρ σ h->bq c ρ h a v->hO λl items n=>hQ (v=.ref l) (h.get? l=some {cls:=.type "list",data:=.seq items.toArray n}) (bT c ρ h as items) (as.length<=1000000):=by
 induction a using af.cs with
 |lst as=>exact⟨as,h,λρ aW v R V=>by obtain⟨l,items,n,e,-,a5,cq,aO⟩:=V;exact⟨l,items,n,e,a5,cq,aO⟩⟩
 |cell j=>
  obtain⟨x,aA,h⟩:=jg h
  induction x with
  |list as=>exact⟨as,h,λρ aW v R V=>by obtain⟨p,je,rfl⟩:=V;obtain⟨items,n,e,cq,aO,-⟩:=R.cells j p _ je aA;exact⟨p.1,items,n,rfl,e,cq,aO⟩⟩
  |_=>exact h.elim
 |_=>exact h.elim
theorem LS{ρ:aT}{s:aF}(R:Rep c ρ σ s.heap){as:aa af}{items:eM aj}(V:bT c ρ s.heap as items.toList)(aO:as.length<=1000000){Q:af->aa Cell->Prop}{tk:ab}(h:Q (.lst as) σ):
  b5 c ρ s Q (.ref s.heap.objs.size) {s with heap:=s.heap.push {cls:=.type "list",data:=.seq items},toks:=tk}:=
 have k:=jK s.heap {cls:=.type "list",data:=.seq items}
 ⟨.lst as,ρ,σ,R.grow k,Ext.grow k,b'.of,⟨_,items.toList,0,rfl,R.absent f3,ic _ rfl,bT.mono (λJ J e=>e) (tK k) _ _ V,aO⟩,h⟩
theorem LU{a b:af}{Q:af->aa Cell->Prop}(h:rZ σ a λas=>rZ σ b λbs=>as.length+bs.length<=1000000/\Q (.lst (as++bs)) σ):cm c d (binaryOp .Add) a b σ Q:=by
 intro A s ρ v w _ R V W
 obtain⟨as,h,H1⟩:=Br (c:=c) h
 obtain⟨bs,⟨aO,h⟩,LV⟩:=Br (c:=c) h
 obtain⟨l,items,n,rfl,a5,cq,-⟩:=H1 ρ _ v R V
 obtain⟨l',ad7,LW,rfl,oA,Bs,-⟩:=LV ρ _ w R W
 refine aK.of<|PySem.P.add_list a5 oA ?_ (by(refine ae fM ?_;refine ae fM ?_;refine ae cq.length ?_;refine ae Bs.length ?_;refine ae ha ?_);exact c2 ‹_› (cK _ _))
 exact LS (tk:=s.toks) R (by simpa using cq.append Bs) (by refine ae bZ ?_;exact aO) h
theorem LX:typeLookup (.type "bytes") (dunderI "add")=pure none:=by rw[ij,ik];kernel_rfl
theorem LY{a b:aa aU}{Q:af->aa Cell->Prop}(aO:a.length+b.length<=1000000)(h:Q (.bytes (a++b)) σ):cm c d (inplaceOp .Add) (.bytes a) (.bytes b) σ Q:=by
 intro A s ρ v w _ R V W
 obtain⟨t,rfl,-⟩:=V
 obtain⟨u,rfl,-⟩:=W
 have key:∀jP k,b5 c ρ s Q (.bytes (a.toArray++b.toArray) jP) {s with toks:=k}:=λjP k=>by rw[aa5];exact b5.same R (mI (by refine ae bZ ?_;exact aO)) h
 refine aK.of<|iconcat_gives (kz s a.toArray t) (kz s b.toArray u) LX KBy.noFill_bytes_add KBy.seq_bytes_add FB.slot_bytes_add FB.entry_bytes_add (FB.args_bytes_add_2 _ _) (KBy.gives_bytes_add (KBy.tooLong_not (by simp;exact c2 ‹_› (cK _ _)))) ?_
 by_cases aq:a.toArray.isEmpty=true
 ·refine ae (cV aq) ?_
  have e:a.toArray=#[]:=Iy.1 aq
  have ao:=key u s.toks
  rw[e,Array.empty_append]at ao
  exact ao
 ·refine ae (cC aq) ?_
  by_cases aP:b.toArray.isEmpty=true
  ·refine ae (cV aP) ?_
   have e:b.toArray=#[]:=Iy.1 aP
   have ao:=key t s.toks
   rw[e,Array.append_empty]at ao
   exact ao
  ·refine ae (cC aP) ?_
   exact⟨by simp[ha];exact c2 ‹_› (cK _ _),key s.toks (s.toks+1)⟩
noncomputable def Bt(op:jt)(a b:af)(σ:aa Cell)(Q:af->aa Cell->Prop):Prop:=
 match op with
 |.Add=>jC a bB (λJ=>bB) (λx=>dE b λy=>Q (.int (x+y)) σ) (λx=>jC b bB (λJ=>bB) (λJ=>bB) λy=>x.length+y.length<=1000000/\Q (.bytes (x++y)) σ)
 |.Sub=>dE a λx=>dE b λy=>Q (.int (x-y)) σ
 |.RShift=>dE a λx=>dE b λy=>0<=y/\Q (.int (x.fdiv (2^y.toNat))) σ
 |.BitAnd=>dE a λx=>dE b λy=>Q (.int (d' x y)) σ
 |.BitOr=>dE a λx=>dE b λy=>Q (.int (kT x y)) σ
 |.BitXor=>dE a λx=>dE b λy=>Q (.int (jI x y)) σ
 |_=>bB
theorem Bu{op:jt}{a b:af}{Q:af->aa Cell->Prop}(h:Bt op a b σ Q):cm c d (inplaceOp op) a b σ Q:=by
 induction op
 case Add=>exact jQ (P:=λa=>cm c d _ a b σ Q) h d1 no (λx h=>kf (P:=λb=>cm c d _ (.int x) b σ Q) h λy h=>K5 h) λx h=>jQ (P:=λb=>cm c d _ (.bytes x) b σ Q) h d1 no no λy h=>LY h.1 h.2
 case Sub=>exact iA h λx y h=>K7 h
 case RShift=>exact iA h λx y h=>Li h.1 h.2
 case BitAnd=>exact iA h λx y h=>Lb h
 case BitOr=>exact iA h λx y h=>Ld h
 case BitXor=>exact iA h λx y h=>Lf h
 all_goals exact d1 h
theorem w7{a:af}{b:aS}(e:isNone a=some b){ρ:aT}{h:a8}{v:aj}(V:bq c ρ h a v):(v==.none)=b/\plainIs v .none=true:=by
 unfold isNone at e
 cases q:rK a with
 |true=>rw[q]at e;cases e;cases AX q V<;>exact⟨rfl,rfl⟩
 |false=>
  rw[q]at e
  exact AY (P:=λa=>Bo a=some b->bq c ρ h a v->(v==.none)=b/\plainIs v .none=true) (λe V=>by cases e;refine ae (show v=.none from V) ?_;exact⟨rfl,rfl⟩) (λx e=>by exact absurd e.symm (cB _)) (λe=>by exact absurd e.symm (cB _)) q e V
theorem LZ{a:af}{b:aS}{Q:af->aa Cell->Prop}(e:isNone a=some b)(h:Q (.bool b) σ):cm c d (compareOp .Is) a .none σ Q:=by
 intro A s ρ v w _ R V W
 refine ae (show w=.none from W) ?_
 refine aK.of<|is_none_gen ?_
 refine ae ((w7 e V).1) ?_
 exact b5.now R gx h
theorem L0{a:af}{b:aS}{Q:af->aa Cell->Prop}(e:isNone a=some b)(h:Q (.bool (!b)) σ):cm c d (compareOp .IsNot) a .none σ Q:=by
 intro A s ρ v w _ R V W
 refine ae (show w=.none from W) ?_
 refine aK.of<|wpAny_isNot_plain (w7 e V).2 ?_
 refine ae ((w7 e V).1) ?_
 exact b5.now R gx h
theorem L1{a b:aS}{Q:af->aa Cell->Prop}(h:Q (.bool (a==b)) σ):cm c d (compareOp .Is) (.bool a) (.bool b) σ Q:=by
 intro A s ρ v w _ R V W
 (refine ae (show v=_ from V) ?_;refine ae (show w=_ from W) ?_)
 exact aK.of<|PyProof.Rows.is_bool (b5.now R gx h)
noncomputable def af.int?:af->bh ah
 |.int i=>Option.some i
 |_=>Option.none
theorem L2{a:af}{i:ah}(e:a.int?=some i):a=.int i:=by induction a using af.cs<;>cases e;rfl
noncomputable def intsOf(l:aa af):bh (aa ah):=match l with
 |[]=>some []
 |a::r=>a.int?.bind λi=>(intsOf r).map (i::·)
theorem L3{ρ:aT}{h:a8}{as:aa af}:∀{vs:aa aj} {ns:aa ah},intsOf as=some ns->bT c ρ h as vs->IntsAre vs ns:=by
 induction as with
 |nil=>intro vs ns e r;cases e;refine ae (show vs=[]from r) ?_;exact .nil
 |cons a as cF=>
  intro vs ns e r
  obtain⟨i,az,e⟩:=Option.bind_eq_some_iff.mp e
  obtain⟨ms,ay,rfl⟩:=Iz.mp e
  obtain⟨v,r,rfl,V,y⟩:=r
  rw[L2 az]at V
  obtain⟨t,rfl⟩:=V
  exact .cons _ _ (cF ay y)
noncomputable def anyInt(x:ah)(l:aa af):bh aS:=(intsOf l).map λns=>ns.any (· ==x)
theorem L4{x:ah}{as:aa af}{b:aS}(e:anyInt x as=some b):∃ns,intsOf as=some ns/\ns.any (· ==x)=b:=Iz.mp e
theorem L5{x:ah}{as:aa af}{b:aS}{Q:af->aa Cell->Prop}(e:anyInt x as=some b)(h:Q (.bool b) σ):cm c d (compareOp .In) (.int x) (.lst as) σ Q:=by
 intro A s ρ v w _ R V W
 obtain⟨t,rfl⟩:=V
 obtain⟨l,items,n,rfl,-,a5,cq,aO⟩:=W
 obtain⟨ns,az,ay⟩:=L4 e
 refine aK.of<|in_list_ints ⟨_,a5,rfl,_,rfl⟩ (L3 az cq) ?_
 refine ae ay ?_
 exact b5.now R gx h
noncomputable def ud(o:bh aS)(K:aS->Prop):Prop:=match o with|some b=>K b|none=>bB
noncomputable def lstK(a:af)(K:aa af->Prop):Prop:=match a with
 |.lst as=>K as
 |_=>bB
theorem Bv{P:af->Prop}{a:af}{K:aa af->Prop}(h:lstK a K)(k:∀as,K as->P (.lst as)):P a:=by
 induction a using af.cs
 case lst=>exact k _ h
 all_goals exact d1 h
noncomputable def L6(a:af)(N:Prop):Prop:=jC a N (λJ=>bB) (λJ=>bB) (λJ=>bB)
noncomputable def w8(op:gu)(a b:af)(σ:aa Cell)(Q:af->aa Cell->Prop):Prop:=
 match op with
 |.Eq=>jC a (dE b λJ=>Q (.bool false) σ) (λJ=>bB) (λx=>jC b (Q (.bool false) σ) (λJ=>bB) (λy=>Q (.bool (x==y)) σ) (λJ=>bB)) (λx=>jC b bB (λJ=>bB) (λJ=>bB) λy=>Q (.bool (x==y)) σ)
 |.NotEq=>jC a bB (λx=>jC b bB (λy=>Q (.bool (!(x==y))) σ) (λJ=>bB) (λJ=>bB)) (λx=>dE b λy=>Q (.bool (x !=y)) σ) (λx=>jC b bB (λJ=>bB) (λJ=>bB) λy=>Q (.bool (x !=y)) σ)
 |.Lt=>dE a λx=>dE b λy=>Q (.bool (decide (x<y))) σ
 |.LtE=>dE a λx=>dE b λy=>Q (.bool (decide (x<=y))) σ
 |.Gt=>dE a λx=>dE b λy=>Q (.bool (decide (y<x))) σ
 |.GtE=>dE a λx=>dE b λy=>Q (.bool (decide (y<=x))) σ
 |.Is=>jC b (ud (isNone a) λr=>Q (.bool r) σ) (λy=>jC a bB (λx=>Q (.bool (x==y)) σ) (λJ=>bB) (λJ=>bB)) (λJ=>bB) (λJ=>bB)
 |.IsNot=>L6 b (ud (isNone a) λr=>Q (.bool (!r)) σ)
 |.In=>dE a λx=>lstK b λas=>ud (anyInt x as) λr=>Q (.bool r) σ
 |_=>bB
theorem w9{o:bh aS}{K:aS->Prop}(h:ud o K):∃b,o=some b/\K b:=by
 induction o with
 |none=>exact h.elim
 |some b=>exact⟨b,rfl,h⟩
theorem ue{op:gu}{a b:af}{Q:af->aa Cell->Prop}(h:w8 op a b σ Q):cm c d (compareOp op) a b σ Q:=by
 induction op
 case Eq=>
  refine jQ (P:=λa=>cm c d _ a b σ Q) h (λh=>kf (P:=λb=>cm c d _ .none b σ Q) h λy h=>?_) no (λx h=>jQ (P:=λb=>cm c d _ (.int x) b σ Q) h (λh=>?_) no (λy h=>Lk h) no) λx h=>jQ (P:=λb=>cm c d _ (.bytes x) b σ Q) h d1 no no λy h=>Lz h
  ·intro A s ρ v w _ R V ⟨t,W⟩;(refine ae W ?_;refine ae (show v=_ from V) ?_);exact aK.of<|EqNone.eq_none_int (b5.now R gx h)
  ·intro A s ρ v w _ R ⟨t,V⟩ W;(refine ae V ?_;refine ae (show w=_ from W) ?_);exact aK.of<|EqNone.eq_int_none (b5.now R gx h)
 case NotEq=>
  refine jQ (P:=λa=>cm c d _ a b σ Q) h d1 (λx h=>jQ (P:=λb=>cm c d _ (.bool x) b σ Q) h d1 (λy h=>?_) no no) (λx h=>kf (P:=λb=>cm c d _ (.int x) b σ Q) h λy h=>Ll h) λx h=>jQ (P:=λb=>cm c d _ (.bytes x) b σ Q) h d1 no no λy h=>LA h
  intro A s ρ v w _ R V W;(refine ae (show v=_ from V) ?_;refine ae (show w=_ from W) ?_);exact aK.of (PySem.SeqAt.RcNeAt.bool_bool _ _ c.prog c.w cb _ (b5.now R gx h))
 case Lt=>exact iA h λx y h=>Lm h
 case LtE=>exact iA h λx y h=>Ln h
 case Gt=>exact iA h λx y h=>cmp_gt h
 case GtE=>exact iA h λx y h=>Lo h
 case Is=>exact jQ (P:=λb=>cm c d _ a b σ Q) h (λh=>by obtain⟨r,e,h⟩:=w9 h;exact LZ e h) (λy h=>jQ (P:=λa=>cm c d _ a (.bool y) σ Q) h d1 (λx h=>L1 h) no no) no no
 case IsNot=>exact jQ (P:=λb=>cm c d _ a b σ Q) h (λh=>by obtain⟨r,e,h⟩:=w9 h;exact L0 e h) no no no
 case In=>exact kf (P:=λa=>cm c d _ a b σ Q) h λx h=>Bv (P:=λb=>cm c d _ (.int x) b σ Q) h λas h=>by obtain⟨r,e,h⟩:=w9 h;exact L5 e h
 all_goals exact d1 h
noncomputable def r0(as:aa af)(P:aS->Prop):Prop:=match as with
 |[]=>P false
 |_::_=>P true
noncomputable def Bw(x:Cell)(P:aS->Prop):Prop:=match x with
 |.list as=>r0 as P
 |_=>bB
noncomputable def p'(a:af)(σ:aa Cell)(P:aS->Prop):Prop:=match a with
 |.none=>P false
 |.bool b=>P b
 |.int i=>P (i !=0)
 |.bytes b=>P (decide (0<b.length))
 |.lst as=>r0 as P
 |.cell j=>hk σ j λx=>Bw x P
 |_=>bB
noncomputable def r1(a:af)(σ:aa Cell)(P:aS->aa Cell->Prop):Prop:=p' a σ λb=>P b σ
theorem Bx{l:aJ}{items:aa aj}{as:aa af}{n:ab}{A:cy}{s:aF}{ρ:aT}{P:aS->aa Cell->Prop}(R:Rep c ρ σ s.heap)(a5:s.heap.get? l=some {cls:=.type "list",data:=.seq items.toArray n})(cq:bT c ρ s.heap as items)(aO:as.length<=1000000)
  (h:r0 as λb=>P b σ):aK c.clean (model c.prog c.w) A (truthy (.ref l)) (iL c ρ s P) cb s:=by
 have hlen:=cq.length
 refine aK.of<|wpAny_truthy_list ⟨_,a5,rfl,_,rfl⟩ (by(refine ae fM ?_;refine ae hlen ?_);exact fy λJ=>by lia) ⟨ρ,σ,R,Ext.refl _ _,b'.of,?_⟩
 induction as with
 |nil=>refine ae (List.length_eq_zero_iff.mp hlen) ?_;exact h
 |cons a as=>induction items with
  |nil=>exact absurd hlen.symm (Ii _)
  |cons _ _=>exact h
set_option tactic.hygienic true in
theorem nP{a:af}{P:aS->aa Cell->Prop}(h:r1 a σ P):j' c d a σ P:=by
 induction a using af.cs
 case none=>exact Lu h
 case bool=>exact Ls h
 case int=>exact Lr h
 case bytes b=>
  intro A s ρ v _ R V
  obtain⟨t,rfl,aO⟩:=V
  refine aK.of<|KBw.truthy_K (b:=b.toArray) (ks:=b.map λx=>(x.toNat:ah)) (by simp[KBw.bInts]) (by simp;exact c2 ‹_› (cK _ _)) ?_
  exact⟨ρ,σ,R,Ext.refl _ _,b'.of,(by simpa using(show P (decide (0<b.length)) σ from h))⟩
 case lst as=>
  intro A s ρ v _ R V
  obtain⟨l,items,n,rfl,-,a5,cq,aO⟩:=V
  exact Bx R a5 cq aO h
 case cell j=>
  obtain⟨x,aA,h⟩:=jg h
  intro A s ρ v _ R V
  obtain⟨p,aW,rfl⟩:=V
  induction x
  case list=>obtain⟨items,n,e,cq,aO,-⟩:=R.cells j p _ aW aA;exact Bx R e cq aO h
  all_goals exact d1 h
 all_goals exact d1 h
noncomputable def By(op:tf)(a:af)(σ:aa Cell)(Q:af->aa Cell->Prop):Prop:=match op with
 |.USub=>dE a λx=>Q (.int (-x)) σ
 |.Invert=>dE a λx=>Q (.int (nv x)) σ
 |.Not=>r1 a σ λb aC=>Q (.bool (!b)) aC
 |_=>bB
theorem L7{a:af}{Q:af->aa Cell->Prop}(h:j' c d a σ λb aC=>Q (.bool (!b)) aC):iM c d (unaryOp .Not) a σ Q:=by
 intro A s ρ v bP R V
 unfold unaryOp
 refine du ?_
 refine bp (bo (h A s ρ v bP R V) (λb s₁ p=>bJ ?_) λJ J x=>x)
 obtain⟨bI,ax,bz,bx,bW,q⟩:=p
 exact⟨_,bI,ax,bz,bx,bW,gx,q⟩
theorem L8{op:tf}{a:af}{Q:af->aa Cell->Prop}(h:By op a σ Q):iM c d (unaryOp op) a σ Q:=by
 induction op
 case USub=>exact kf (P:=λa=>iM c d _ a σ Q) h λx h=>Lp h
 case Invert=>exact kf (P:=λa=>iM c d _ a σ Q) h λx h=>Lq h
 case Not=>exact L7 (nP h)
 all_goals exact d1 h
noncomputable def uf(c:aG)(d:ab)(k:ab)(self:af)(C:aJ)(bA:aa (ab×af))(σ:aa Cell)(Q:af->aa Cell->Prop):Prop:=
 match eS c.cls C with
 |some cX=>(match eS cX k with
  |some .own=>(match eS bA k with|some a=>Hand a/\Q a σ|none=>bB)
  |some (.prop _ g)=>(match d with|i8+1=>bc c.d7 i8 (.ref g) [self] [] σ (λa ax=>Hand a/\Q a ax)|0=>bB)
  |some (.const a _)=>(match eS bA k with|none=>Q a σ|some _=>bB)
  |_=>bB)
 |none=>bB
noncomputable def w'(c:aG)(d:ab)(k:ab)(a:af)(σ:aa Cell)(Q:af->aa Cell->Prop):Prop:=match a with
 |.cell i=>hk σ i λx=>(match x with|.inst C bA=>uf c d k (.cell i) C bA σ Q|_=>bB)
 |.obj C bA=>uf c d k (.obj C bA) C bA σ Q
 |_=>bB
theorem Bz(F:c.a0){k:ab}{x:au}(aA:c.names[k]? =some x){self:af}{C:aJ}{bA:aa (ab×af)}{Q:af->aa Cell->Prop}(gv:mP σ self C bA)(h:uf c d k self C bA σ Q):iM c d (λv=>getAttr v x true) self σ Q:=by
 unfold uf at h
 cases aB:eS c.cls C with
 |none=>rw[aB]at h;exact h.elim
 |some cX=>
  rw[aB]at h
  obtain⟨aN,bb⟩:=F.cls C cX (oL aB)
  dsimp only at h
  cases aI:eS cX k with
  |none=>rw[aI]at h;exact h.elim
  |some at_=>
   rw[aI]at h
   obtain⟨y,bM,aP⟩:=bb k at_ (oL aI)
   rw[aA]at bM;cases bM
   induction at_ with
   |own=>
    dsimp only at h
    cases cg:eS bA k with
    |none=>rw[cg]at h;exact h.elim
    |some a=>rw[cg]at h;exact Kn F.H aA aN aP.1 gv cg h.1 h.2
   |prop p g=>
    obtain⟨az,ay,bF,rest,fF⟩:=aP
    induction d with
    |zero=>exact h.elim
    |succ d=>exact Kq F.H aN az ay bF fF gv h
   |const a v=>
    obtain⟨az,ay,bF,fF,wO⟩:=aP
    dsimp only at h
    cases cg:eS bA k with
    |none=>rw[cg]at h;exact Ko F.H aA aN az ay bF fF gv cg wO h
    |some a=>rw[cg]at h;exact h.elim
   |e' f=>exact h.elim
   |tJ p f=>exact h.elim
theorem BA(F:c.a0){k:ab}{x:au}(aA:c.names[k]? =some x){a:af}{Q:af->aa Cell->Prop}(h:w' c d k a σ Q):iM c d (λv=>getAttr v x true) a σ Q:=by
 induction a using af.cs with
 |cell i=>
  obtain⟨y,bM,h⟩:=jg h
  induction y with
  |inst C bA=>exact Bz F aA (.cell bM) h
  |_=>exact h.elim
 |obj C bA=>exact Bz F aA .obj h
 |_=>exact h.elim
end
end
section
open Sem (wp)
noncomputable def L9(op:jt)(Q:af->aa Cell->Prop)(a b:af)(σ:aa Cell):Prop:=Bp op a b σ Q
noncomputable def L'(op:jt)(r:TE)(c:aG)(d:ab)(m:aE)(Q:af->aa Cell->Prop)(a:af)(σ:aa Cell):Prop:=r c d m σ (L9 op Q a)
noncomputable def Ma(op:jt)(l r:TE):TE:=λc d m σ Q=>l c d m σ (L' op r c d m Q)
theorem a9{S:SC}{l r:a3}{op:jt}{pos:bD}{tl gn:TE}(aB:cA S l tl)(aI:cA S r gn):cA S (.BinOp l op r pos) (Ma op tl gn):=λc d env m σ Q F h=>
 v7 ((aB c d env m σ _ F h).mono λa ax k=>(aI c d env m ax _ F k).mono λb bt k=>LO k)
noncomputable def Mb(Q:af->aa Cell->Prop)(a b:af)(σ:aa Cell):Prop:=rZ σ a λas=>rZ σ b λbs=>as.length+bs.length<=1000000/\Q (.lst (as++bs)) σ
noncomputable def Mc(r:TE)(c:aG)(d:ab)(m:aE)(Q:af->aa Cell->Prop)(a:af)(σ:aa Cell):Prop:=r c d m σ (Mb Q a)
noncomputable def Md(l r:TE):TE:=λc d m σ Q=>l c d m σ (Mc r c d m Q)
theorem ug{S:SC}{l r:a3}{pos:bD}{tl gn:TE}(aB:cA S l tl)(aI:cA S r gn):cA S (.BinOp l .Add r pos) (Md tl gn):=λc d env m σ Q F h=>
 v7 ((aB c d env m σ _ F h).mono λa ax k=>(aI c d env m ax _ F k).mono λb bt k=>LU k)
noncomputable def Me(op:tf)(Q:af->aa Cell->Prop)(a:af)(σ:aa Cell):Prop:=By op a σ Q
noncomputable def Mf(op:tf)(t:TE):TE:=λc d m σ Q=>t c d m σ (Me op Q)
theorem iB{S:SC}{x:a3}{op:tf}{pos:bD}{t:TE}(aB:cA S x t):cA S (.UnaryOp op x pos) (Mf op t):=λc d env m σ Q F h=>
 Jl ((aB c d env m σ _ F h).mono λa ax k=>L8 k)
noncomputable def BB(op:gu)(Q:af->aa Cell->Prop)(a b:af)(σ:aa Cell):Prop:=w8 op a b σ Q
noncomputable def BC(op:gu)(r:TE)(c:aG)(d:ab)(m:aE)(Q:af->aa Cell->Prop)(a:af)(σ:aa Cell):Prop:=r c d m σ (BB op Q a)
noncomputable def Mg(op:gu)(l r:TE):TE:=λc d m σ Q=>l c d m σ (BC op r c d m Q)
theorem jh{S:SC}{l r:a3}{op:gu}{pos:bD}{tl gn:TE}(aW:behindInMarks op r=false)(aB:cA S l tl)(aI:cA S r gn):cA S (.Compare l [op] [r] pos) (Mg op tl gn):=λc d env m σ Q F h=>
 An aW ((aB c d env m σ _ F h).mono λa ax k=>(aI c d env m ax _ F k).mono λb bt k=>ue k)
noncomputable def Mh(cX to:TE)(c:aG)(d:ab)(m:aE)(Q:af->aa Cell->Prop)(b:aS)(σ:aa Cell):Prop:=bY b (cX c d m σ Q) (to c d m σ Q)
noncomputable def Mi(tt:TT)(cX to:TE):TE:=λc d m σ Q=>tt c d m σ (Mh cX to c d m Q)
theorem mW{S:SC}{t b o:a3}{pos:bD}{tt:TT}{cX to:TE}(h0:iz S t tt)(aB:cA S b cX)(aI:cA S o to):cA S (.IfExp t b o pos) (Mi tt cX to):=λc d env m σ Q F h=>
 Ju ((h0 c d env m σ _ F h).mono λx ax k=>by
  have k:=me k
  induction x
  ·exact aI c d env m ax _ F k
  ·exact aB c d env m ax _ F k)
noncomputable def qa(S:SC)(op:lR)(es:aa a3)(t:TE):Prop:=∀c d env m σ Q pos,S.Fits c env->t c d m σ Q->cz c d env S.ls (boolOp pos op (evalEach es env)) m σ Q
theorem r2{S:SC}{op:lR}{e:a3}{t:TE}(h:cA S e t):qa S op [e] t:=λc d env m σ Q pos F k=>Jv (h c d env m σ Q F k)
noncomputable def Mj(r:TE)(c:aG)(d:ab)(m:aE)(Q:af->aa Cell->Prop)(a:af)(σ:aa Cell):Prop:=p' a σ λb=>bY b (r c d m σ Q) (Q a σ)
noncomputable def Mk(r:TE)(c:aG)(d:ab)(m:aE)(Q:af->aa Cell->Prop)(a:af)(σ:aa Cell):Prop:=p' a σ λb=>bY b (Q a σ) (r c d m σ Q)
noncomputable def Ml(t r:TE):TE:=λc d m σ Q=>t c d m σ (Mj r c d m Q)
noncomputable def Mm(t r:TE):TE:=λc d m σ Q=>t c d m σ (Mk r c d m Q)
set_option tactic.hygienic true in
theorem Mn{a:af}{σ:aa Cell}{P P':aS->Prop}(h:p' a σ P)(k:∀b,P b->P' b):p' a σ P':=by
 have tl:∀as,r0 as P->r0 as P':=λas h=>by induction as<;>exact k _ h
 induction a using af.cs
 case cell j=>
  have h:hk σ j λx=>Bw x P:=h
  induction σ generalizing j with
  |nil=>exact h.elim
  |cons x σ cF=>induction j with
   |zero=>induction x with
    |list as=>exact tl as h
    |_=>exact h.elim
   |succ j=>exact cF (j:=j) h h
 case lst as=>exact tl as h
 case none=>exact k _ h
 case bool=>exact k _ h
 case int=>exact k _ h
 case bytes=>exact k _ h
 all_goals exact d1 h
theorem BD{c:aG}{d:ab}{a:af}{σ:aa Cell}{P:aS->Prop}(h:p' a σ P):j' c d a σ λb bt=>bt=σ/\P b:=
 nP (Mn (P':=λb=>σ=σ/\P b) h λb k=>⟨rfl,k⟩)
theorem uh{S:SC}{e ck:a3}{es:aa a3}{t r:TE}(aB:cA S e t)(aI:qa S .And (ck::es) r):qa S .And (e::ck::es) (Ml t r):=λc d env m σ Q pos F h=>by
 have az:evalEach (e::ck::es) env=eval e env::eval ck env::evalEach es env:=rfl
 refine ae az ?_
 refine As ((aB c d env m σ _ F h).mono λa ax k=>(BD k).mono λb bt k=>⟨k.1,?_⟩)
 have f7:=me k.2
 induction b
 ·exact f7
 ·exact aI c d env m ax Q pos F f7
theorem BE{S:SC}{e ck:a3}{es:aa a3}{t r:TE}(aB:cA S e t)(aI:qa S .Or (ck::es) r):qa S .Or (e::ck::es) (Mm t r):=λc d env m σ Q pos F h=>by
 have az:evalEach (e::ck::es) env=eval e env::eval ck env::evalEach es env:=rfl
 refine ae az ?_
 refine As ((aB c d env m σ _ F h).mono λa ax k=>(BD k).mono λb bt k=>⟨k.1,?_⟩)
 have f7:=me k.2
 induction b
 ·exact aI c d env m ax Q pos F f7
 ·exact f7
theorem r3{S:SC}{op:lR}{es:aa a3}{pos:bD}{t:TE}(h:qa S op es t):cA S (.BoolOp op es pos) t:=λc d env m σ Q F k=>Jw (h c d env m σ Q pos F k)
noncomputable def Mo(c:aG)(d k:ab)(Q:af->aa Cell->Prop)(a:af)(σ:aa Cell):Prop:=w' c d k a σ Q
noncomputable def Mp(t:TE)(k:ab):TE:=λc d m σ Q=>t c d m σ (Mo c d k Q)
theorem bk{S:SC}{o:a3}{x:au}{pos:bD}{t:TE}{k:ab}(aq:tZ o)(aA:dw S.N k=some x)(aB:cA S o t):cA S (.Attribute o x pos) (Mp t k):=λc d env m σ Q F h=>
 KI aq ((aB c d env m σ _ F h).mono λa ax q=>BA F.F (by(refine ae F.N ?_;refine ae hB ?_);exact aA) q)
noncomputable def BF(k:ab)(a:af)(σ:aa Cell)(Q:af->aa Cell->Prop):Prop:=match a with
 |.cell i=>hk σ i λx=>(match x with
  |.dict es=>(match eS es k with|some v=>Q v σ|none=>bB)
  |_=>bB)
 |_=>bB
theorem ej.keys{c:aG}{ρ:aT}{h:a8}:∀{es:aa (ab×af)} {l:aa (au×aj)},ej c ρ h es l->l.length=es.length
 |[],_,e=>by refine ae (show _=_ from e) ?_;rfl
 |(_,_)::es,_,h0=>by obtain⟨x,v,l,e,_,_,r⟩:=h0;(refine ae e ?_;refine ae dc ?_;refine ae dc ?_;exact ae r.keys rfl)
theorem ej.find{c:aG}(aY:c.names.Nodup){ρ:aT}{h:a8}{k:ab}{x:au}{a:af}(aA:c.names[k]? =some x):∀{es:aa (ab×af)} {l:aa (au×aj)},ej c ρ h es l->eS es k=some a->∃v,valueAt l x=some v/\bq c ρ h a v
 |(j,b)::es,l,⟨y,v,l',e,dQ,dV,e1⟩,ba=>by
  subst e
  replace ba:(match fC j k with|true=>some b|false=>eS es k)=some a:=ba
  have aq:=rJ aY dQ aA
  cases z:fC j k with
  |true=>
   rw[z]at ba aq
   cases ba
   refine⟨v,?_,dV⟩
   unfold valueAt
   refine ae (List.find?_cons_of_pos (by simpa using aq)) ?_;rfl
  |false=>
   rw[z]at ba aq
   refine dI λdv b4=>?_
   obtain⟨w,az,ay⟩:=ej.find aY aA e1 ba
   refine b4 ?_
   refine⟨w,?_,ay⟩
   unfold valueAt at az⊢
   refine ae (List.find?_cons_of_neg (by simpa using aq)) ?_;exact az
set_option tactic.hygienic true in
theorem Mq{c:aG}{d:ab}{σ:aa Cell}(H:c.Ok){k:ab}{x:au}(aA:c.names[k]? =some x){a:af}{Q:af->aa Cell->Prop}(h:BF k a σ Q):l9 σ a/\cm c d getItem a (.str x) σ Q:=by
 induction a using af.cs
 case cell i=>
  obtain⟨y,bM,h⟩:=jg h
  induction y
  case dict es=>
   refine⟨.inr (.inl ⟨_,bM⟩),?_⟩
   intro A s ρ v w _ R V ⟨t,W⟩
   obtain⟨p,aW,rfl⟩:=V
   obtain⟨l,hd,ui,aO,-⟩:=R.cells i p _ aW bM
   dsimp only at h
   cases e:eS es k with
   |none=>rw[e]at h;exact h.elim
   |some b=>
    rw[e]at h
    obtain⟨u,az,ay⟩:=ui.find H.nodup aA e
    refine ae W ?_
    exact aK.of<|wpAny_getItem_of (IA _ _ _ _) hd.mapOf az (b5.same R ay h)
  all_goals exact d1 h
 all_goals exact d1 h
noncomputable def Mr(k:ab)(Q:af->aa Cell->Prop)(a:af)(σ:aa Cell):Prop:=BF k a σ Q
noncomputable def Ms(t:TE)(k:ab):TE:=λc d m σ Q=>t c d m σ (Mr k Q)
theorem eE{S:SC}{o:a3}{x:au}{n:ab}{pos dj:bD}{t:TE}{k:ab}(aA:dw S.N k=some x)(aB:cA S o t):cA S (.Subscript o (.Constant (.str x) n dj) pos) (Ms t k):=λc d env m σ Q F h=>
 A6 ((aB c d env m σ _ F h).mono λa ax q=>tP rfl (Mq F.F.H (by(refine ae F.N ?_;refine ae hB ?_);exact aA) q))
noncomputable def xa(a:af)(K:ah->Prop):Prop:=match a with|.int i=>K i|_=>bB
theorem BG{a:af}{K:ah->Prop}(h:xa a K):∃i,a=.int i/\K i:=by
 induction a using af.cs<;>first|exact h.elim|exact⟨_,rfl,h⟩
abbrev oW:=aG->ab->aE->aa Cell->(bh ah->aa Cell->Prop)->Prop
noncomputable def uj(S:SC)(e:bh a3)(t:oW):Prop:=∀c d env m σ Q,S.Fits c env->t c d m σ Q->oR c d env S.ls e m σ Q
noncomputable def Mt:oW:=λJ J J σ Q=>Q none σ
theorem oX{S:SC}:uj S none Mt:=λc d env m σ Q F h=>h
noncomputable def Mu(Q:bh ah->aa Cell->Prop)(a:af)(σ:aa Cell):Prop:=xa a λi=>Q (some i) σ
noncomputable def Mv(t:TE):oW:=λc d m σ Q=>t c d m σ (Mu Q)
theorem hD{S:SC}{e:a3}{t:TE}(aB:cA S e t):uj S (some e) (Mv t):=λc d env m σ Q F h=>(aB c d env m σ _ F h).mono λa ax k=>BG k
theorem oR.mono{c:aG}{d:ab}{env:bu}{ls:aa au}{m:aE}{σ:aa Cell}{e:bh a3}{Q dJ:bh ah->aa Cell->Prop}(h:oR c d env ls e m σ Q)(k:∀i σ,Q i σ->dJ i σ):oR c d env ls e m σ dJ:=by
 induction e with
 |none=>exact k _ _ h
 |some e=>exact cz.mono h λa σ ⟨i,e,q⟩=>⟨i,e,k _ _ q⟩
noncomputable def r4(S:SC)(kws:aa jG)(t:fl):Prop:=∀c d env m σ Q pos,S.Fits c env->t c d m σ Q->nJ c d env S.ls pos kws m σ Q
theorem aQ{S:SC}:r4 S [] w4:=λc d env m σ Q pos F h=>kws_nil h
theorem jR{S:SC}{n:bh au}{e:a3}{p:bD}{rest:aa jG}{t:TE}{r:fl}(aB:cA S e t)(aI:r4 S rest r):r4 S (⟨n,e,p⟩::rest) (w5 t r):=λc d env m σ Q pos F h=>
 kws_cons ((aB c d env m σ _ F h).mono λa ax k=>aI c d env m ax _ pos F k)
noncomputable def nQ:aa af->ab->Prop->Prop
 |[],0,K=>K
 |_::l,n+1,K=>nQ l n K
 |_,_,_=>bB
theorem r5:∀{l:aa af} {n:ab} {K:Prop},nQ l n K->l.length=n/\K
 |[],0,_,h=>⟨rfl,h⟩
 |_::l,n+1,K,h=>by obtain⟨a,b⟩:=r5 (l:=l) (n:=n) h;exact⟨by(refine ae dc ?_;exact ae a rfl),b⟩
 |[],_+1,_,h=>h.elim
 |_::_,0,_,h=>h.elim
noncomputable def Mw(c:aG)(d:ab)(v:aj)(as:aa af)(ns:aa au)(mX:ab)(Q:af->aa Cell->Prop)(ks:aa af)(σ:aa Cell):Prop:=nQ ks mX (cH c d v as (ns.zip ks) σ Q)
noncomputable def BH(c:aG)(d:ab)(v:aj)(first:aa af)(ns:aa au)(mX:ab)(kws:fl)(m:aE)(Q:af->aa Cell->Prop)(as:aa af)(σ:aa Cell):Prop:=kws c d m σ (Mw c d v (first++as) ns mX Q)
noncomputable def Mx(i:ab)(args:fl)(ns:aa au)(mX:ab)(kws:fl):TE:=λc d m σ Q=>kH c.iu i λp=>match p.2 with
 |.val v=>args c d m σ (BH c d v [] ns mX kws m Q)
 |_=>bB
theorem a'{S:SC}{i:ab}{x:au}{p pos:bD}{args:aa a3}{kws:aa jG}{fv tk:fl}(aA:dw S.iJ i=some x)(c3:oU S.sc x=true)(bL:l1 args=true)(ba:lB kws=true)
  (aB:mf S args fv)(aI:r4 S kws tk):cA S (.Call (.Name x p) args kws pos) (Mx i fv (kD kws) kws.length tk):=λc d env m σ Q F h=>by
 refine J8 F.F.H bL ba (h3 aA c3 c d env m σ _ F ?_)
 refine dI λdv b4=>?_
 obtain⟨q,e,h⟩:=p9 h
 obtain⟨-,hm⟩:=w3 F aA e
 refine b4 ?_
 have:kH c.iu i λp=>∃hi,dx (p.2=.val hi) (oz c hi) (i9 c d env S.ls (spliced (backTo pos (starEach args env))) m σ λas bt=>
   nJ c d env S.ls pos kws m bt λks b0=>ks.length=kws.length/\cH c d hi as ((kD kws).zip ks) b0 Q):=by
  refine Bl e ?_
  cases cx:q.2 with
  |val v=>
   rw[cx]at h hm
   refine⟨v,rfl,F.F.keep _ _ hm,(aB c d env m σ _ pos F h).mono λas ax k=>i9.mono (aI c d env m ax _ pos F k) λks bt k=>r5 k⟩
  |_=>rw[cx]at h;exact h.elim
 exact this
end
section
open Sem (wp)
theorem BI:PlainAttrs "bytearray":=⟨⟨"bytearray.__getattribute__",by rw[ij,ik];kernel_rfl,by decide+kernel⟩,by rw[ij,ik];kernel_rfl⟩
theorem My:typeOf (.builtin "bytearray.append")=pure (.type "method_descriptor"):=by refine ae zS ?_;kernel_rfl
theorem Mz:typeOf (.builtin "bytearray.extend")=pure (.type "method_descriptor"):=by refine ae zS ?_;kernel_rfl
theorem BJ:lV "bytearray" "extend" "bytearray.extend":=
 .of (owner:="bytearray") (n:="extend") (by rw[ij,ik];kernel_rfl) (by decide+kernel) (by decide+kernel) (by decide+kernel)
  (by first|exact .inl (by decide+kernel)|exact .inr (by decide+kernel)) (by rw[kS];kernel_rfl)
theorem MA:lV "list" "append" "list.append":=
 .of (owner:="list") (n:="append") (by rw[ij,ik];kernel_rfl) (by decide+kernel) (by decide+kernel) (by decide+kernel)
  (by first|exact .inl (by decide+kernel)|exact .inr (by decide+kernel)) (by rw[kS];kernel_rfl)
theorem MB:lV "str" "encode" "str.encode":=
 .of (owner:="str") (n:="encode") (by rw[ij,ik];kernel_rfl) (by decide+kernel) (by decide+kernel) (by decide+kernel)
  (by first|exact .inl (by decide+kernel)|exact .inr (by decide+kernel)) (by rw[kS];kernel_rfl)
theorem MC:typeOf (.builtin "str.encode")=pure (.type "method_descriptor"):=by refine ae zS ?_;kernel_rfl
theorem MD:lV "bytes" "join" "bytes.join":=
 .of (owner:="bytes") (n:="join") (by rw[ij,ik];kernel_rfl) (by decide+kernel) (by decide+kernel) (by decide+kernel)
  (by first|exact .inl (by decide+kernel)|exact .inr (by decide+kernel)) (by rw[kS];kernel_rfl)
theorem ME:typeOf (.builtin "bytes.join")=pure (.type "method_descriptor"):=by refine ae zS ?_;kernel_rfl
section
variable{M:gd}{A:cy}{E:aj->aF->Prop}{s:aF}{f6:bN aS}{Q:aj×aa aj->aF->Prop}
theorem BK{T:gI}(MF:PlainAttrs T){name:PySem.Str}{id:gI}(v:aj)(cQ:s.TypeIs v T)(slot:lV T name id)(ty:typeOf (.builtin id)=pure (.type "method_descriptor"))
  (hd:∀a,v=.ref a->∃o,s.heap.get? a=some o/\o.dict=none)(h:Q (.builtin id,[v]) s):wpAny M A (getMethod v name f6) Q E s:=
 zT cQ MF slot ty hd h
theorem MG{x:au}{t:eZ}(h:Q (.builtin "str.encode",[.str x t]) s):wpAny M A (getMethod (.str x t) "encode" f6) Q E s:=by
 with_reducible exact BK PySem.F.plainAttrs_str (.str x t) (typeIs_str _ _ _) MB MC (λJ e=>nomatch e) h
theorem MH{x:eM aU}{t:eZ}(h:Q (.builtin "bytes.join",[.bytes x t]) s):wpAny M A (getMethod (.bytes x t) "join" f6) Q E s:=by
 with_reducible exact BK FB.plainAttrs_bytes (.bytes x t) (kz _ _ _) MD ME (λJ e=>nomatch e) h
theorem MI{x:eM aU}{t:eZ}(h:Q (.builtin "bytes.decode",[.bytes x t]) s):wpAny M A (getMethod (.bytes x t) "decode" f6) Q E s:=by
 with_reducible exact KBd.method h
end
section
variable{c:aG}{d:ab}{env:bu}{ls:aa au}{m:aE}{σ:aa Cell}
theorem nR{name:au}{a:af}{f:aj}{Q:af->aa af->aa Cell->Prop}
  (h:∀A s ρ v f6,d9 c d A->Rep c ρ σ s.heap->bq c ρ s.heap a v->∀P:aj×aa aj->aF->Prop,P (f,[v]) s->wpAny (model c.prog c.w) A (getMethod v name f6) P cb s)(q:Q (.val f) [a] σ):p3 c d name a σ Q:=
 λA s ρ v f6 x R V=>aK.of (h A s ρ v f6 x R V _ ⟨.val f,[a],ρ,σ,R,Ext.refl _ _,b'.refl _,rfl,jw V iw,q⟩)
noncomputable def BL(c:aG)(k:ab)(a:af)(σ:aa Cell)(K:aj->aa af->Prop):Prop:=match a with
 |.cell i=>hk σ i λx=>(match x with
  |.inst C bA=>(match eS c.cls C with
   |some cX=>(match eS cX k,eS bA k with|some (.e' f),none=>K (.ref f) [.cell i]|_,_=>bB)
   |none=>bB)
  |.list _=>(match k with|0=>K (.builtin "list.append") [.cell i]|_=>bB)
  |.aZ _=>(match k with|0=>K (.builtin "bytearray.append") [.cell i]|1=>K (.builtin "bytearray.extend") [.cell i]|_=>bB)
  |_=>bB)
 |.obj C bA=>(match eS c.cls C with
   |some cX=>(match eS cX k,eS bA k with|some (.e' f),none=>K (.ref f) [.obj C bA]|_,_=>bB)
   |none=>bB)
 |.int i=>(match k with|2=>K (.builtin "int.to_bytes") [.int i]|_=>bB)
 |.str x=>(match k with|3=>K (.builtin "str.encode") [.str x]|_=>bB)
 |.bytes b=>(match k with|4=>K (.builtin "bytes.decode") [.bytes b]|5=>K (.builtin "bytes.join") [.bytes b]|_=>bB)
 |_=>bB
theorem BM(F:c.a0){self:af}{k:ab}{x:au}(aA:c.names[k]? =some x){C:aJ}{bA:aa (ab×af)}(gv:mP σ self C bA){K:aj->aa af->Prop}{Q:af->aa af->aa Cell->Prop}
  (h:match eS c.cls C with
   |some cX=>(match eS cX k,eS bA k with|some (.e' f),none=>K (.ref f) [self]|_,_=>bB)
   |none=>bB)(q:∀v as,oz c v->K v as->Q (.val v) as σ):p3 c d x self σ Q:=by
 cases aB:eS c.cls C with
 |none=>rw[aB]at h;exact h.elim
 |some cX=>
  rw[aB]at h
  obtain⟨aN,bb⟩:=F.cls C cX (oL aB)
  dsimp only at h
  cases aI:eS cX k with
  |none=>rw[aI]at h;exact h.elim
  |some at_=>
   rw[aI]at h
   obtain⟨y,bM,aP⟩:=bb k at_ (oL aI)
   rw[aA]at bM;cases bM
   cases cg:eS bA k with
   |some _=>rw[cg]at h;induction at_<;>exact h.elim
   |none=>
    rw[cg]at h
    induction at_ with
    |e' f=>
     obtain⟨az,ay,bF⟩:=aP
     exact nR (λA s ρ v f6 J R V P aW=>Ks F.H aA aN az ay gv cg R V aW|>λz=>tr z (λJ J p=>p) λJ J e=>e) (q _ _ (.inr (.inr bF)) h)
    |_=>exact h.elim
set_option tactic.hygienic true in
theorem MJ(F:c.a0){k:ab}{x:au}(aA:c.names[k]? =some x){a:af}{K:aj->aa af->Prop}{Q:af->aa af->aa Cell->Prop}(h:BL c k a σ K)
  (q:∀v as,oz c v->K v as->Q (.val v) as σ):p3 c d x a σ Q:=by
 have nm:∀{j:ab} {y:au},dw w2 j=some y->k=j->x=y:=λ{j y} e ck=>by
  have:=F.base j y e;subst ck;rw[aA]at this;cases this;rfl
 induction a using af.cs
 case cell i=>
  obtain⟨y,bM,h⟩:=jg h
  induction y
  case inst=>exact BM F aA (.cell bM) h q
  case list=>
   match k,h with
   |0,h=>
    refine ae (nm (j:=0) rfl rfl) ?_
    exact nR (λA s ρ v f6 J R V P aW=>by
     obtain⟨p,je,rfl⟩:=V
     obtain⟨items,n,e,-⟩:=R.cells i p _ je bM
     exact zT ⟨_,e,rfl⟩ PySem.F.plainAttrs_list MA type_list_append (λa ck=>by cases ck;exact⟨_,e,rfl⟩) aW) (q _ _ (.inl ⟨_,rfl⟩) h)
   |_+1,h=>exact d1 h
  case aZ=>
   match k,h with
   |0,h=>
    refine ae (nm (j:=0) rfl rfl) ?_
    exact nR (λA s ρ v f6 J R V P aW=>by
     obtain⟨p,je,rfl⟩:=V
     obtain⟨e,-⟩:=R.cells i p _ je bM
     exact zT ⟨_,e,rfl⟩ BI Bi My (λa ck=>by cases ck;exact⟨_,e,rfl⟩) aW) (q _ _ (.inl ⟨_,rfl⟩) h)
   |1,h=>
    refine ae (nm (j:=1) rfl rfl) ?_
    exact nR (λA s ρ v f6 J R V P aW=>by
     obtain⟨p,je,rfl⟩:=V
     obtain⟨e,-⟩:=R.cells i p _ je bM
     exact zT ⟨_,e,rfl⟩ BI BJ Mz (λa ck=>by cases ck;exact⟨_,e,rfl⟩) aW) (q _ _ (.inl ⟨_,rfl⟩) h)
   |_+2,h=>exact d1 h
  all_goals exact d1 h
 case obj=>exact BM F aA .obj h q
 case int=>
  match k,h with
  |2,h=>
   refine ae (nm (j:=2) rfl rfl) ?_
   exact nR (f:=.builtin "int.to_bytes") (λA s ρ v f6 J R V P aW=>by obtain⟨t,rfl⟩:=V;with_reducible exact KTBy.method aW) (q _ _ (.inl ⟨_,rfl⟩) h)
  |0,h|1,h|_+3,h=>exact d1 h
 case str=>
  match k,h with
  |3,h=>
   refine ae (nm (j:=3) rfl rfl) ?_
   exact nR (f:=.builtin "str.encode") (λA s ρ v f6 J R V P aW=>by obtain⟨t,rfl⟩:=V;with_reducible exact MG aW) (q _ _ (.inl ⟨_,rfl⟩) h)
  |0,h|1,h|2,h|_+4,h=>exact d1 h
 case bytes=>
  match k,h with
  |4,h=>
   refine ae (nm (j:=4) rfl rfl) ?_
   exact nR (f:=.builtin "bytes.decode") (λA s ρ v f6 J R V P aW=>by obtain⟨t,rfl,-⟩:=V;with_reducible exact MI aW) (q _ _ (.inl ⟨_,rfl⟩) h)
  |5,h=>
   refine ae (nm (j:=5) rfl rfl) ?_
   exact nR (f:=.builtin "bytes.join") (λA s ρ v f6 J R V P aW=>by obtain⟨t,rfl,-⟩:=V;with_reducible exact MH aW) (q _ _ (.inl ⟨_,rfl⟩) h)
  |0,h|1,h|2,h|3,h|_+6,h=>exact d1 h
 all_goals exact d1 h
end
end
section
open Sem (wp)
noncomputable def MK(c:aG)(d k:ab)(args:fl)(ns:aa au)(mX:ab)(kws:fl)(m:aE)(Q:af->aa Cell->Prop)(a:af)(σ:aa Cell):Prop:=BL c k a σ λf first=>args c d m σ (BH c d f first ns mX kws m Q)
noncomputable def ML(t:TE)(k:ab)(args:fl)(ns:aa au)(mX:ab)(kws:fl):TE:=λc d m σ Q=>t c d m σ (MK c d k args ns mX kws m Q)
theorem cR{S:SC}{o:a3}{x:au}{apos pos:bD}{args:aa a3}{kws:aa jG}{t:TE}{k:ab}{fv tk:fl}(bL:l1 args=true)(ba:lB kws=true)(aq:tZ o)
  (aY:decide (args.length+kws.length+(if kws.isEmpty then 0 else 1)<30)=true)(aW:(apos.endLine==pos.line)=true)(aA:dw S.N k=some x)(h0:cA S o t)(aB:mf S args fv)(aI:r4 S kws tk):
  cA S (.Call (.Attribute o x apos) args kws pos) (ML t k fv (kD kws) kws.length tk):=λc d env m σ Q F h=>
 A3 F.F.H bL ba aq aY aW ((h0 c d env m σ _ F h).mono λa ax q=>MJ F.F (by(refine ae F.N ?_;refine ae hB ?_);exact aA) q λf first ru q=>
  ⟨ru,(aB c d env m ax _ pos F q).mono λas bt q=>i9.mono (aI c d env m bt _ pos F q) λks b0 q=>by
   have:=r5 q
   exact⟨this.1,Ky this.2⟩⟩)
noncomputable def uk(Q:aS->aa Cell->Prop)(a:af)(σ:aa Cell):Prop:=r1 a σ Q
noncomputable def MM(t:TE):TT:=λc d m σ Q=>t c d m σ (uk Q)
theorem fm{S:SC}{e:a3}{t:TE}(aW:Ap e)(h:cA S e t):iz S e (MM t):=λc d env m σ Q F k=>Jr aW ((h c d env m σ _ F k).mono λa ax q=>nP q)
noncomputable def MN(Q:aS->aa Cell->Prop)(b:aS)(σ:aa Cell):Prop:=Q (!b) σ
noncomputable def MO(t:TT):TT:=λc d m σ Q=>t c d m σ (MN Q)
theorem ji{S:SC}{e:a3}{pos:bD}{t:TT}(h:iz S e t):iz S (.UnaryOp .Not e pos) (MO t):=λc d env m σ Q F k=>Js (h c d env m σ _ F k)
noncomputable def MP(op:gu)(l r:TE):TT:=λc d m σ Q=>l c d m σ (BC op r c d m (uk Q))
theorem b2{S:SC}{l r:a3}{op:gu}{pos:bD}{tl gn:TE}(aW:behindInMarks op r=false)(aB:cA S l tl)(aI:cA S r gn):iz S (.Compare l [op] [r] pos) (MP op tl gn):=λc d env m σ Q F h=>
 v9 aW ((aB c d env m σ _ F h).mono λa ax k=>(aI c d env m ax _ F k).mono λb bt k=>(ue k).mono λx b0 k=>nP k)
noncomputable def MQ(op hU:gu)(q:TE)(c:aG)(d:ab)(m:aE)(Q:aS->aa Cell->Prop)(a b:af)(σ:aa Cell):Prop:=w8 op a b σ λx b0=>r1 x b0 λt dY=>bY t (q c d m dY (BB hU (uk Q) b)) (Q false dY)
noncomputable def MR(op hU:gu)(r q:TE)(c:aG)(d:ab)(m:aE)(Q:aS->aa Cell->Prop)(a:af)(σ:aa Cell):Prop:=r c d m σ (MQ op hU q c d m Q a)
noncomputable def MS(op hU:gu)(l r q:TE):TT:=λc d m σ Q=>l c d m σ (MR op hU r q c d m Q)
theorem BN{S:SC}{l r q:a3}{op hU:gu}{pos:bD}{tl gn tQ:TE}(bg:behindInMarks hU q=false)(aB:cA S l tl)(aI:cA S r gn)(cg:cA S q tQ):iz S (.Compare l [op,hU] [r,q] pos) (MS op hU tl gn tQ):=λc d env m σ Q F h=>
 Jp bg ((aB c d env m σ _ F h).mono λa ax k=>(aI c d env m ax _ F k).mono λb bt k=>(ue k).mono λx b0 k=>(nP k).mono λt dY k=>by
  have k:=me k
  induction t
  ·exact k
  ·exact(cg c d env m dY _ F k).mono λe i' k=>(ue k).mono λy hV k=>nP k)
noncomputable def oY(S:SC)(op:lR)(es:aa a3)(t:TT):Prop:=∀c d env m σ Q,S.Fits c env->t c d m σ Q->gY c d env S.ls (allTrue op es env) m σ Q
noncomputable def MT:TT:=λJ J J σ Q=>Q true σ
noncomputable def MU:TT:=λJ J J σ Q=>Q false σ
theorem qb{S:SC}:oY S .And [] MT:=λc d env m σ Q F h=>Aq h
theorem kg{S:SC}:oY S .Or [] MU:=λc d env m σ Q F h=>Aq h
noncomputable def MV(r:TT)(c:aG)(d:ab)(m:aE)(Q:aS->aa Cell->Prop)(b:aS)(σ:aa Cell):Prop:=bY b (r c d m σ Q) (Q false σ)
noncomputable def MW(r:TT)(c:aG)(d:ab)(m:aE)(Q:aS->aa Cell->Prop)(b:aS)(σ:aa Cell):Prop:=bY b (Q true σ) (r c d m σ Q)
noncomputable def MX(t r:TT):TT:=λc d m σ Q=>t c d m σ (MV r c d m Q)
noncomputable def MY(t r:TT):TT:=λc d m σ Q=>t c d m σ (MW r c d m Q)
theorem kJ{S:SC}{e:a3}{es:aa a3}{t r:TT}(aB:iz S e t)(aI:oY S .And es r):oY S .And (e::es) (MX t r):=λc d env m σ Q F h=>
 Ar ((aB c d env m σ _ F h).mono λb ax k=>by
  have k:=me k
  induction b
  ·exact k
  ·exact aI c d env m ax Q F k)
theorem fA{S:SC}{e:a3}{es:aa a3}{t r:TT}(aB:iz S e t)(aI:oY S .Or es r):oY S .Or (e::es) (MY t r):=λc d env m σ Q F h=>
 Ar ((aB c d env m σ _ F h).mono λb ax k=>by
  have k:=me k
  induction b
  ·exact aI c d env m ax Q F k
  ·exact k)
theorem h5{S:SC}{op:lR}{es:aa a3}{pos:bD}{t:TT}(h:oY S op es t):iz S (.BoolOp op es pos) t:=λc d env m σ Q F k=>Jt (h c d env m σ Q F k)
noncomputable def MZ(i:ab):iy:=λJ J a m σ Q=>nO m i a λcE=>Q cE σ
theorem bl{S:SC}{i:ab}{x:au}{pos:bD}(aA:dw S.ls i=some x):k3 S (.Name x pos) (MZ i):=λc d env a m σ Q F h=>
 JD F.E (hB.trans aA) (p8 (K:=λcE=>Q cE σ) h)
noncomputable def short{α:Type}:aa α->ab->Prop->Prop
 |[],_,K=>K
 |_::as,n+1,K=>short as n K
 |_::_,0,_=>bB
theorem xb{α:Type}:∀{as:aa α} {n:ab} {K:Prop},short as n K->as.length<=n/\K
 |[],_,_,h=>⟨hc _,h⟩
 |_::as,n+1,K,h=>by obtain⟨a,b⟩:=xb (as:=as) (n:=n) h;exact⟨qW a,b⟩
 |_::_,0,_,h=>h.elim
noncomputable def xc(c:aG)(k:ab)(b a:af)(σ:aa Cell)(Q:aa Cell->Prop):Prop:=match b with
 |.cell i=>hk σ i λx=>(match x with
  |.inst C bA=>(match eS c.cls C with
   |some cX=>(match eS cX k with
    |some .own=>short bA 400 (rI bA k a λxd=>md σ i (.inst C xd) Q)
    |_=>bB)
   |none=>bB)
  |_=>bB)
 |_=>bB
set_option tactic.hygienic true in
theorem BO{c:aG}{d:ab}{σ:aa Cell}(F:c.a0){k:ab}{x:au}(aA:c.names[k]? =some x){b a:af}{Q:aa Cell->Prop}(h:xc c k b a σ Q):wV c d x b a σ Q:=by
 induction b using af.cs
 case cell i=>
  obtain⟨y,bM,h⟩:=jg h
  induction y
  case inst C bA=>
   dsimp only at h
   cases aB:eS c.cls C with
   |none=>rw[aB]at h;exact h.elim
   |some cX=>
    rw[aB]at h
    obtain⟨aN,bb⟩:=F.cls C cX (oL aB)
    dsimp only at h
    cases aI:eS cX k with
    |none=>rw[aI]at h;exact h.elim
    |some at_=>
     rw[aI]at h
     obtain⟨z,aO,aP⟩:=bb k at_ (oL aI)
     rw[aA]at aO;cases aO
     induction at_ with
     |own=>
      obtain⟨l,h⟩:=xb h
      have h:=oT (wN (K:=λxd=>md σ i (.inst C xd) Q) h)
      exactλA s ρ v w J R V W=>aK.of (Kw F.H aA aN aP.2 bM l h R V W)
     |_=>exact h.elim
  all_goals exact d1 h
 all_goals exact d1 h
noncomputable def M0(c:aG)(k:ab)(a:af)(Q:aa Cell->Prop)(b:af)(σ:aa Cell):Prop:=xc c k b a σ Q
noncomputable def M1(t:TE)(k:ab):iy:=λc d a m σ Q=>t c d m σ (M0 c k a (Q m))
theorem cU{S:SC}{o:a3}{x:au}{pos:bD}{t:TE}{k:ab}(aA:dw S.N k=some x)(aB:cA S o t):k3 S (.Attribute o x pos) (M1 t k):=λc d env a m σ Q F h=>
 KJ ((aB c d env m σ _ F h).mono λb ax q=>BO F.F (by(refine ae F.N ?_;refine ae hB ?_);exact aA) q)
noncomputable def um(S:SC)(es:aa a3)(t:aG->ab->aa af->aE->aa Cell->(aE->aa Cell->Prop)->Prop):Prop:=∀c d env as m σ Q,S.Fits c env->t c d as m σ Q->rQ c d env S.ls es as m σ Q
noncomputable def M3:aG->ab->aa af->aE->aa Cell->(aE->aa Cell->Prop)->Prop:=λJ J as m σ Q=>match as with|[]=>Q m σ|_=>bB
noncomputable def M4(r:aG->ab->aa af->aE->aa Cell->(aE->aa Cell->Prop)->Prop)(c:aG)(d:ab)(as:aa af)(Q:aE->aa Cell->Prop)(m:aE)(σ:aa Cell):Prop:=r c d as m σ Q
noncomputable def M5(t:iy)(r:aG->ab->aa af->aE->aa Cell->(aE->aa Cell->Prop)->Prop):aG->ab->aa af->aE->aa Cell->(aE->aa Cell->Prop)->Prop:=λc d as m σ Q=>match as with|a::as=>t c d a m σ (M4 r c d as Q)|[]=>bB
theorem jS{S:SC}:um S [] M3:=λc d env as m σ Q F h=>by induction as with|nil=>exact h|cons _ _=>exact h.elim
theorem fb{S:SC}{e:a3}{es:aa a3}{t:iy}{r:aG->ab->aa af->aE->aa Cell->(aE->aa Cell->Prop)->Prop}(aB:k3 S e t)(aI:um S es r):um S (e::es) (M5 t r):=λc d env as m σ Q F h=>by
 induction as with
 |nil=>exact h.elim
 |cons a as=>exact(aB c d env a m σ _ F h).mono λm₁ ax k=>aI c d env as m₁ ax Q F k
noncomputable def uo(a:af)(σ:aa Cell)(n:ab)(K:aa af->Prop):Prop:=match a with
 |.tup as=>nQ as n (K as)
 |.cell j=>hk σ j λx=>(match x with|.list as=>nQ as n (K as)|_=>bB)
 |_=>bB
noncomputable def M6(n:ab)(r:aG->ab->aa af->aE->aa Cell->(aE->aa Cell->Prop)->Prop):iy:=λc d a m σ Q=>uo a σ n λas=>r c d as m σ Q
theorem M7{k:aS}{prog:fc}{w:cu}{A:cy}{E:aj->aF->Prop}{s:aF}{env:bu}{elts:aa a3}{dU:ab}{pos:bD}{t:aJ}{items:eM aj}{Q:i0->aF->Prop}(cO:A.handled=none)
  (bb:IsTup s.heap t items\/s.heap.IsList t items)(aY:(assignEach elts env).length=items.size)(w1:(assignEach elts env).findIdx? (·.1)=none)
  (h:∀ao,vH s.heap.objs.size s.heap ao->aK k (model prog w) A (assignInOrder ((assignEach elts env).map (·.2)) items.toList) Q E {s with heap:=ao}):
  aK k (model prog w) A (assign (.Tuple elts dU pos) env (.ref t)) Q E s:=by
 rw[arm_assign_Tuple]
 refine bV (dA ?_)
 unfold unpack
 (refine ae aY ?_;refine ae w1 ?_)
 rcases bb with bb|bb
 ·exact bV (nu (aa2 cO bb h))
 ·exact bV (nu (kun_itemsOf cO bb h))
set_option tactic.hygienic true in
theorem M8{c:aG}{d:ab}{env:bu}{ls:aa au}{m:aE}{σ:aa Cell}{es:aa a3}{k:ab}{pos:bD}{a:af}{n:ab}{Q:aE->aa Cell->Prop}(aW:rP es=true)(a5:es.length=n)
  (h:uo a σ n λas=>rQ c d env ls es as m σ Q):hX c d env ls (assign (.Tuple es k pos) env) a m σ Q:=by
 induction a using af.cs
 case tup=>
  obtain⟨aY,h⟩:=r5 h
  exact K1 aW (a5.trans aY.symm) h
 case cell j=>
  obtain⟨x,aA,h⟩:=jg h
  induction x
  case list as=>
   obtain⟨aY,h⟩:=r5 h
   intro A s ρ v S V
   obtain⟨oQ,rR,rS⟩:=wZ (env:=env) aW
   obtain⟨p,je,rfl⟩:=V
   obtain⟨items,LW,e,cq,-⟩:=S.r.cells j p _ je aA
   have hlen:=cq.length
   refine M7 S.a.1 (.inr ⟨_,e,rfl,_,rfl⟩) (by(refine ae rS ?_;refine ae a5 ?_;refine ae fM ?_;refine ae hlen ?_;exact ae aY rfl)) rR λao aA=>?_
   have c':∀b o,s.heap.get? b=some o->ao.get? b=some o:=λb o e=>aA b o (λz=>by rw[z,f3]at e;exact absurd e.symm (cB _)) e
   refine ae oQ ?_
   have X:Ext ρ ρ s.heap ao:=Ext.grow c'
   exact bo (w0 h A {s with heap:=ao} ρ items (S.step (s':={s with heap:=ao}) (S.r.grow c') X) (cq.ext S.r X)) (λJ J p=>p.back X.toF b'.heap) λJ J x=>x
  all_goals exact d1 h
 all_goals exact d1 h
set_option tactic.hygienic true in
theorem M9{a:af}{σ:aa Cell}{n:ab}{K BP:aa af->Prop}(h:uo a σ n K)(k:∀as,K as->BP as):uo a σ n BP:=by
 have ln:∀{l:aa af} {n:ab} {P P':Prop},nQ l n P->(P->P')->nQ l n P':=by
  intro l
  induction l with
  |nil=>intro n P P' h k;induction n with
   |zero=>exact k h
   |succ n=>exact h.elim
  |cons x l cF=>intro n P P' h k;induction n with
   |zero=>exact h.elim
   |succ n=>exact cF (n:=n) h k
 induction a using af.cs
 case tup as=>exact ln h (k as)
 case cell j=>
  have h:hk σ j λx=>(match x with|.list as=>nQ as n (K as)|_=>bB):=h
  induction σ generalizing j with
  |nil=>exact h.elim
  |cons x σ cF=>induction j with
   |zero=>induction x with
    |list as=>exact ln h (k as)
    |_=>exact h.elim
   |succ j=>exact cF (j:=j) h h
 all_goals exact d1 h
theorem jT{S:SC}{es:aa a3}{k:ab}{pos:bD}{r:aG->ab->aa af->aE->aa Cell->(aE->aa Cell->Prop)->Prop}(aW:rP es=true)(aB:um S es r):k3 S (.Tuple es k pos) (M6 es.length r):=λc d env a m σ Q F h=>by
 exact M8 aW rfl (M9 h λas h=>aB c d env as m σ Q F h)
end
section
open Sem (wp)
noncomputable def M':br:=λJ J m σ Q=>Q .next m σ
theorem aH{S:SC}:bQ S [] M':=λc d env m σ Q F h=>JQ h
noncomputable def Na(r:br)(c:aG)(d:ab)(Q:ct->aE->aa Cell->Prop)(f:ct)(m:aE)(σ:aa Cell):Prop:=match f with|.next=>r c d m σ Q|.brk=>Q .brk m σ|.cont=>Q .cont m σ|.ret a=>Q (.ret a) m σ
noncomputable def Nb(t r:br):br:=λc d m σ Q=>t c d m σ (Na r c d Q)
theorem ai{S:SC}{s:b1}{rest:aa b1}{t r:br}(aB:dt S s t)(aI:bQ S rest r):bQ S (s::rest) (Nb t r):=λc d env m σ Q F h=>
 JR ((aB c d env m σ _ F h).mono λf m₁ ax k=>by
  induction f with
  |next=>exact aI c d env m₁ ax Q F k
  |brk=>exact k
  |cont=>exact k
  |ret a=>exact k)
noncomputable def Nc:br:=λJ J J J J=>bB
theorem jj{S:SC}{s:b1}:dt S s Nc:=λc d env m σ Q F h=>h.elim
noncomputable def Nd(m:aE)(Q:ct->aE->aa Cell->Prop)(_:af)(σ:aa Cell):Prop:=Q .next m σ
noncomputable def Nf(t:TE):br:=λc d m σ Q=>t c d m σ (Nd m Q)
theorem dF{S:SC}{e:a3}{pos:bD}{t:TE}(aW:pS e)(aB:cA S e t):dt S (.Expr e pos) (Nf t):=λc d env m σ Q F h=>JT F.E aW (aB c d env m σ _ F h)
noncomputable def Ng(m:aE)(Q:ct->aE->aa Cell->Prop)(a:af)(σ:aa Cell):Prop:=Q (.ret a) m σ
noncomputable def Nh(t:TE):br:=λc d m σ Q=>t c d m σ (Ng m Q)
theorem bO{S:SC}{e:a3}{pos:bD}{t:TE}(aB:cA S e t):dt S (.Return (some e) pos) (Nh t):=λc d env m σ Q F h=>JU (aB c d env m σ _ F h)
noncomputable def Ni:br:=λJ J m σ Q=>Q (.ret .none) m σ
theorem BQ{S:SC}{pos:bD}:dt S (.Return none pos) Ni:=λc d env m σ Q F h=>JV h
noncomputable def Nj(b o:br)(c:aG)(d:ab)(m:aE)(Q:ct->aE->aa Cell->Prop)(x:aS)(σ:aa Cell):Prop:=bY x (b c d m σ Q) (o c d m σ Q)
noncomputable def Nk(t:TT)(b o:br):br:=λc d m σ Q=>t c d m σ (Nj b o c d m Q)
theorem cp{S:SC}{e:a3}{b o:aa b1}{pos:bD}{t:TT}{cX to:br}(h0:iz S e t)(aB:bQ S b cX)(aI:bQ S o to):dt S (.If e b o pos) (Nk t cX to):=λc d env m σ Q F h=>
 JW ((h0 c d env m σ _ F h).mono λx ax k=>by
  have k:=me k
  induction x
  ·exact aI c d env m ax _ F k
  ·exact aB c d env m ax _ F k)
noncomputable def Nl(m:aE)(Q:ct->aE->aa Cell->Prop)(x:aS)(σ:aa Cell):Prop:=bY x (Q .next m σ) bB
noncomputable def Nm(t:TT):br:=λc d m σ Q=>t c d m σ (Nl m Q)
theorem mY{S:SC}{e:a3}{msg:bh a3}{pos:bD}{t:TT}(h0:iz S e t):dt S (.Assert e msg pos) (Nm t):=λc d env m σ Q F h=>
 JX ((h0 c d env m σ _ F h).mono λx ax k=>by
  have k:=me k
  induction x
  ·exact k.elim
  ·exact⟨rfl,k⟩)
noncomputable def BR(a:iy)(c:aG)(d:ab)(m:aE)(Q:ct->aE->aa Cell->Prop)(v:af)(σ:aa Cell):Prop:=a c d v m σ (Q .next)
noncomputable def BS(t:TE)(a:iy):br:=λc d m σ Q=>t c d m σ (BR a c d m Q)
theorem a6{S:SC}{t e:a3}{pos:bD}{dk:TE}{fv:iy}(aW:nH t)(he:pS e)(aB:cA S e dk)(aI:k3 S t fv):dt S (.Assign [t] e pos) (BS dk fv):=λc d env m σ Q F h=>
 JY aW he ((aB c d env m σ _ F h).mono λv ax k=>aI c d env v m ax _ F k)
noncomputable def Nn(e:a3):Prop:=∀env es k dT,swappedStores [.Tuple es k dT] e env=pure none
theorem lE(_:bu)(_:aa a3)(_:ab)(_:bD):(pure none:bN (bh (aa au)))=pure none:=rfl
theorem lF{S:SC}{es:aa a3}{k:ab}{dT:bD}{e:a3}{pos:bD}{dk:TE}{fv:iy}(he:pS e)(hs:Nn e)(aB:cA S e dk)(aI:k3 S (.Tuple es k dT) fv):dt S (.Assign [.Tuple es k dT] e pos) (BS dk fv):=λc d env m σ Q F h=>
 K2 he (hs _ _ _ _) ((aB c d env m σ _ F h).mono λv ax k=>aI c d env v m ax _ F k)
noncomputable def BU(i:ab)(m:aE)(Q:ct->aE->aa Cell->Prop)(r:af)(σ:aa Cell):Prop:=nO m i r λm₁=>Q .next m₁ σ
noncomputable def BV(op:jt)(a:af)(Q:af->aa Cell->Prop)(b:af)(σ:aa Cell):Prop:=Bt op a b σ Q
noncomputable def Np(i:ab)(op:jt)(t:TE):br:=λc d m σ Q=>p7 m i λa=>t c d m σ (BV op a (BU i m Q))
theorem hE{S:SC}{i:ab}{x:au}{ox pos:bD}{op:jt}{e:a3}{t:TE}(aA:dw S.ls i=some x)(aB:cA S e t):dt S (.AugAssign (.Name x ox) op e pos) (Np i op t):=λc d env m σ Q F h=>by
 obtain⟨a,e,k⟩:=rV h
 exact AF F.E (hB.trans aA) (Az F.E (hB.trans aA) e ((aB c d env m σ _ F k).mono λb ax k=>(Bu k).mono λr bt k=>p8 (K:=λm₁=>Q .next m₁ bt) k))
noncomputable def Nq(c:aG)(k:ab)(b:af)(Q:aa Cell->Prop)(r:af)(σ:aa Cell):Prop:=xc c k b r σ Q
noncomputable def Nr(e:TE)(op:jt)(c:aG)(d k:ab)(m:aE)(b:af)(Q:aa Cell->Prop)(a:af)(σ:aa Cell):Prop:=e c d m σ (BV op a (Nq c k b Q))
noncomputable def Nt(e:TE)(op:jt)(c:aG)(d k:ab)(m:aE)(Q:aa Cell->Prop)(b:af)(σ:aa Cell):Prop:=w' c d k b σ (Nr e op c d k m b Q)
noncomputable def Nu(t:TE)(k:ab)(op:jt)(e:TE):br:=λc d m σ Q=>t c d m σ (Nt e op c d k m (Q .next m))
theorem uq{S:SC}{o e:a3}{x:au}{dT pos:bD}{op:jt}{t dk:TE}{k:ab}(aA:dw S.N k=some x)(aB:cA S o t)(aI:cA S e dk):dt S (.AugAssign (.Attribute o x dT) op e pos) (Nu t k op dk):=λc d env m σ Q F h=>by
 have aY:c.names[k]? =some x:=by(refine ae F.N ?_;refine ae hB ?_);exact aA
 exact KN ((aB c d env m σ _ F h).mono λb ax q=>(BA F.F aY q).mono λa bt q=>(aI c d env m bt _ F q).mono λy b0 q=>(Bu q).mono λr dY q=>BO F.F aY q)
noncomputable def xe(cX:aE->aa Cell->(ct->aE->aa Cell->Prop)->Prop)(Q:ct->aE->aa Cell->Prop)(m:aE)(σ:aa Cell):Prop:=cX m σ Q
noncomputable def kFor(keep:aa Cell->Prop->Prop)(R:aE->aa Cell->Prop)(Q:ct->aE->aa Cell->Prop)(c7:ct)(m:aE)(σ:aa Cell):Prop:=match c7 with
 |.next=>keep σ (R m σ)
 |.cont=>keep σ (R m σ)
 |.brk=>Q .next m σ
 |.ret a=>Q (.ret a) m σ
noncomputable def qc(fv:af->aE->aa Cell->(aE->aa Cell->Prop)->Prop)(cX:aE->aa Cell->(ct->aE->aa Cell->Prop)->Prop)(keep:aa Cell->Prop->Prop)(Q:ct->aE->aa Cell->Prop):aa af->aE->aa Cell->Prop
 |[],m,σ=>Q .next m σ
 |a::as,m,σ=>fv a m σ (xe cX (kFor keep (qc fv cX keep Q as) Q))
noncomputable def qd:aa Cell->Prop->Prop:=λJ P=>P
noncomputable def Nv(j:ab)(as:aa af):aa Cell->Prop->Prop:=λσ P=>hk σ j λx=>x=.list as/\P
noncomputable def r6(σ:aa Cell)(x:af)(K:aa af->(aa Cell->Prop->Prop)->Prop):Prop:=match x with
 |.lst as=>K as qd
 |.tup as=>K as qd
 |.bytes b=>K (b.map λx=>.int x.toNat) qd
 |.e0 a b st=>Io a b st=true/\K ((mb a st (lW a b st).toNat).map .int) qd
 |.cell j=>hk σ j λy=>(match y with|.list as=>K as (Nv j as)|_=>bB)
 |_=>bB
theorem BW{σ:aa Cell}{x:af}{K:aa af->(aa Cell->Prop->Prop)->Prop}(h:r6 σ x K):eO λas keep=>dx (Src σ x as) (K as keep) (∀aC P,keep aC P->Src aC x as/\P):=by
 induction x using af.cs
 case lst=>exact⟨_,_,.lst,h,λaC P q=>⟨.lst,q⟩⟩
 case tup=>exact⟨_,_,.tup,h,λaC P q=>⟨.tup,q⟩⟩
 case bytes=>exact⟨_,_,.bytes,h,λaC P q=>⟨.bytes,q⟩⟩
 case e0=>exact⟨_,_,.e0 h.1,h.2,λaC P q=>⟨.e0 h.1,q⟩⟩
 case cell=>
  obtain⟨y,bM,h⟩:=jg h
  induction y
  case list=>exact⟨_,_,.list bM,h,λaC P q=>by obtain⟨z,aO,e,q⟩:=jg q;subst e;exact⟨.list aO,q⟩⟩
  all_goals exact d1 h
 all_goals exact d1 h
noncomputable def Nw(a:iy)(b:br)(c:aG)(d:ab)(m:aE)(Q:ct->aE->aa Cell->Prop)(x:af)(σ:aa Cell):Prop:=r6 σ x λas keep=>qc (a c d) (b c d) keep Q as m σ
noncomputable def Nx(t:TE)(a:iy)(b:br):br:=λc d m σ Q=>t c d m σ (Nw a b c d m Q)
theorem kh{S:SC}{t e:a3}{b:aa b1}{pos:bD}{dk:TE}{fv:iy}{cX:br}(a7:mR e)(h0:cA S e dk)(aB:k3 S t fv)(aI:bQ S b cX):dt S (.For t e b [] pos) (Nx dk fv cX):=λc d env m σ Q F h=>
 KZ a7 ((h0 c d env m σ _ F h).mono λx ax k=>by
  obtain⟨as,keep,hs,k,ba⟩:=BW k
  refine⟨as,hs,?_⟩
  have key:∀(l:aa af) (m:aE) (σ:aa Cell),qc (fv c d) (cX c d) keep Q l m σ->oO c d env S.ls t b (λaC=>Src aC x as) l m σ Q:=by
   intro l
   induction l with
   |nil=>intro m σ h;exact h
   |cons a l cF=>
    intro m σ h
    refine(aB c d env a m σ _ F h).mono λm₁ ax k=>(aI c d env m₁ ax _ F k).mono λf m₂ bt k=>?_
    induction f with
    |next=>have:=ba _ _ k;exact⟨this.1,cF _ _ this.2⟩
    |cont=>have:=ba _ _ k;exact⟨this.1,cF _ _ this.2⟩
    |brk=>exact k
    |ret a=>exact k
  exact key as m ax k)
noncomputable def Ny(R:aE->aa Cell->Prop)(Q:ct->aE->aa Cell->Prop)(c7:ct)(m:aE)(σ:aa Cell):Prop:=match c7 with
 |.next=>R m σ
 |.cont=>R m σ
 |.brk=>Q .next m σ
 |.ret a=>Q (.ret a) m σ
noncomputable def BX(cX:aE->aa Cell->(ct->aE->aa Cell->Prop)->Prop)(R:aE->aa Cell->Prop)(Q:ct->aE->aa Cell->Prop)(m:aE)(b:aS)(σ:aa Cell):Prop:=bY b (cX m σ (Ny R Q)) (Q .next m σ)
noncomputable def oZ(tt:aE->aa Cell->(aS->aa Cell->Prop)->Prop)(cX:aE->aa Cell->(ct->aE->aa Cell->Prop)->Prop)(Q:ct->aE->aa Cell->Prop):ab->aE->aa Cell->Prop
 |0,_,_=>bB
 |n+1,m,σ=>tt m σ (BX cX (oZ tt cX Q n) Q m)
noncomputable def Nz(t:TT)(b:br):br:=λc d m σ Q=>∃n,oZ (t c d) (b c d) Q n m σ
theorem o1{S:SC}{e:a3}{b:aa b1}{pos:bD}{t:TT}{cX:br}(h0:iz S e t)(aB:bQ S b cX):dt S (.While e b [] pos) (Nz t cX):=λc d env m σ Q F h=>by
 obtain⟨n,h⟩:=h
 refine JZ (oZ (t c d) (cX c d) Q) n h λn m σ h=>?_
 induction n with
 |zero=>exact h.elim
 |succ n=>
  refine(h0 c d env m σ _ F h).mono λx ax k=>?_
  have k:=me k
  induction x with
  |false=>exact k
  |true=>
   refine(aB c d env m ax _ F k).mono λf m₂ bt k=>?_
   induction f with
   |next=>exact⟨n,vL n,k⟩
   |cont=>exact⟨n,vL n,k⟩
   |brk=>exact k
   |ret a=>exact k
theorem NA{c:aG}{d:ab}{σ:aa Cell}{S:SC}{f:aJ}{fd:hb}{body:aa b1}{as:aa af}{kw bs:aa (au×af)}{more:aa au}{t:br}{Q:af->aa Cell->Prop}(F:c.a0)(eC:c.fr=none)(hC:c.names=S.N)(c3:c.iu.map (·.1)=S.iJ)
  (fw:FnAt c f fd body)(iR:fd.scope=S.sc)(r7:S.top=false)(bb:bQ S body t)(aq:mM c fd as kw bs)(hz:∀x∈fd.scope.names,x.2≠.cell)(a5:S.ls=bs.map (·.1)++more)(gj:S.ls.Nodup)(hZ:∀x∈S.ls,fd.scope.names.lookup x=some .local)
  (jL:∀x∈S.ls,(x==("__debug__":au))=false/\(x==("__classdict__":au))=false)
  (h:t c d (f5 bs more) σ λc7 J aC=>match c7 with|.ret a=>Q a aC|.next=>Q .none aC|.brk=>bB|.cont=>bB):bc c (d+1) (.ref f) as kw σ Q:=
 Ka F.H eC fw aq hz a5 gj hZ jL λenv E he=>(bb c d env _ σ _ ⟨F,hC,c3,E,he.trans iR,λe=>by rw[r7]at e;exact absurd e fV⟩ h).mono λc7 m σ k=>by
  induction c7<;>first|exact k|exact k.elim
end
section
open Sem (wp)
section
variable{k:aS}{prog:fc}{w:cu}{A:cy}{E:aj->aF->Prop}{s:aF}{R:iG->aF->Prop}
theorem kK{α β:Type}{M:gd}{t:bN α}{r:α}{f:α->bN β}{Q:β->aF->Prop}(L:la M s.heap t r)(h:aK k M A (f r) Q E s):aK k M A (t>>=f) Q E s:=bV (L.here h)
abbrev BY (k:aS) (prog:fc) (w:cu) (A:cy) (R:iG->aF->Prop):Fin->aF->Prop:=λfin s'=>match fin with
 |.done f=>R (.ok f) s'
 |.again ip=>ip.quiet=true/\lk ip/\ea k (model prog w) A ip R s'
theorem BZ{id:gI}{args:ob}{b:gg}(aq:entryFor table id=some b)(h:aK k (model prog w) (A.under (.builtin id args)) (b args) (BY k prog w A R) (λe s'=>R (.error e) s') s):ea k (model prog w) A (.builtin id args) R s:=by
 refine lp ?_
 show aK _ _ _ (match entryFor table id with|some b=>b args|none=>unsupported ((withoutEnding? id "#data").getD id)) _ _ s
 refine ae aq ?_;exact h
theorem B0{id:gI}{args:ob}{b:gg}(bg:(ts id args).quiet=true)(aY:pC.contains id=false)(aq:entryFor table id=some b)
  (h:aK k (model prog w) A.in1 (checkBuiltinCall id args) (λJ s₁=>aK k (model prog w) (A.under (.builtin id args)) (b args) (BY k prog w A R) (λe s'=>R (.error e) s') s₁) (λe s'=>R (.error e) s') s):
  ea k (model prog w) A (.call (.builtin id) args) R s:=by
 refine lp ?_
 exact bp (bo h (λJ s₁ bK=>bJ (ie bg (ie aY (BZ aq bK)))) λJ J ao=>ao)
theorem NB{a:ob}:(ts "type.__call__" a).quiet=true:=aa8 _ (by decide+kernel)
theorem B1:pC.contains "type.__call__"=false:=by decide+kernel
theorem NC{C:aJ}{rest:aa aj}{kw:aa (au×aj)}{init:aj}(Y:Makes (model prog w) s.heap C)(a7:la (model prog w) s.heap (typeLookup (.ref C) "__init__") (some init))
  (aq:∀self,la (model prog w) s.heap (bindSpecial init self) (init,[self]))(mg:(some init !=some (vM "object.__init__"))=true)
  (bg:aK k (model prog w) (A.under (.builtin "type.__call__" ⟨.ref C::rest,kw⟩)) (call init (.ref (s.heap.objs.size+1)::rest) kw) (λv s'=>v=.none/\R (.ok (.ret (.ref (s.heap.objs.size+1)))) s') (λe s'=>R (.error e) s')
   {s with heap:=(s.heap.push emptyDict).push (instObj C s.heap.objs.size)}):
  ea k (model prog w) A (.call (.ref C) ⟨rest,kw⟩) R s:=by
 have ND:=Y
 obtain⟨⟨pV,tR,cd,sl,B2,az,ay,fF⟩,made,base,self,top,NF,typ⟩:=Y
 refine lp ?_
 show aK _ _ _ (callAny (.ref C) _) _ _ _
 unfold callAny
 refine bV (oc B2 ?_)
 show aK _ _ _ (callAny.viaDunder (.ref C) _) _ _ _
 unfold callAny.viaDunder
 refine kK NF ?_
 dsimp only
 rw[tc_bind]
 refine bp (bJ (bp (bJ ?_)))
 refine bJ (a:=Fin.again (.call (.builtin "type.__call__") ⟨.ref C::rest,kw⟩)) (ie rfl (ie trivial ?_))
 refine B0 NB B1 entry_typeCall (aK.of (check_slot tc_kind tc_split typ (tc_args _ _ _) ?_))
 unfold gg.«type.__call__»
 have hm:la (model prog w) s.heap (mroOf (.ref C)) cd.mro:=((zK (part:=none) B2).andThen .now).andThen .now
 show aK _ _ _ (mroOf (.ref C)>>=λl=>_) _ _ s
 refine kK hm ?_
 rw[cC (by rw[fF];decide)]
 show aK _ _ _ (Bind.madeBy (.ref C)>>=λl=>_) _ _ s
 refine kK made ?_
 show aK _ _ _ (pure (vM "object.__new__")>>=λl=>_) _ _ s
 refine bp (bJ ?_)
 obtain⟨h,g,d,t,os⟩:=s
 refine bp (du (mF (ea.of (new_K ND a7 (.inl mg) ?_))))
 have c':∀b o,h.get? b=some o->((h.push emptyDict).push (instObj C h.objs.size)).get? b=some o:=λb o e=>lS _ (lS _ e)
 have aA:((h.push emptyDict).push (instObj C h.objs.size)).get? (h.objs.size+1)=some (instObj C h.objs.size):=by heap_get
 have t1:la (model prog w) ((h.push emptyDict).push (instObj C h.objs.size)) (typeOf (.ref (h.objs.size+1))) (.ref C):=(zK aA).andThen .now
 have s1:=self.keeps c'
 have oQ:=a7.keeps c'
 have hY:=(aq (.ref (h.objs.size+1))).keeps c'
 refine kK (s:=⟨(h.push emptyDict).push (instObj C h.objs.size),g,d,t,os⟩) (t1.andThen s1) ?_
 refine ae (cC (by decide)) ?_
 unfold callSpecial? specialOf
 refine bp (du ?_)
 refine kK (s:=⟨(h.push emptyDict).push (instObj C h.objs.size),g,d,t,os⟩) (t1.andThen oQ) ?_
 dsimp only
 refine du (kK (s:=⟨(h.push emptyDict).push (instObj C h.objs.size),g,d,t,os⟩) hY ?_)
 dsimp only
 refine bp (bo bg (λv s' z=>?_) λJ J z=>z)
 obtain⟨rfl,z⟩:=z
 refine bJ ?_
 dsimp only
 refine ae (cC (by decide)) ?_
 exact bJ z
end
section
variable{c:aG}{d:ab}{σ:aa Cell}
theorem call_cls{C fI:aJ}{as:aa af}{kw:aa (au×af)}{Q:af->aa Cell->Prop}(H:c.Ok)(hm:makesIn c.K C=true)(a7:findIn c.K (.ref C) "__init__"=some (some (.ref fI)))(hf:typeIn c.K (.ref fI)=some (.type "function"))
  (h:bc c d (.ref fI) (.cell σ.length::as) kw (σ++[.inst C []]) λa aC=>a=.none/\Q (.cell σ.length) aC):cH c (d+1) (.ref C) as kw σ Q:=by
 intro A s ρ vs kvs bP R V W
 have X:c.K.In s.heap:=H.fZ.keeps λb o e=>R.stays b o e
 refine mF (NC (makes_of X hm) (IB X a7) (λself=>zU X self hf) rfl ?_)
 have jf:d9 c d (A.under (.builtin "type.__call__" ⟨.ref C::vs,(kw.map (·.1)).zip kvs⟩)):=by
  have qe:(ts "type.__call__" ⟨.ref C::vs,(kw.map (·.1)).zip kvs⟩).weight=1:=by kernel_rfl
  have NG:(ts "type.__call__" ⟨.ref C::vs,(kw.map (·.1)).zip kvs⟩).cUnits=1:=by kernel_rfl
  have ur:(ts "type.__call__" ⟨.ref C::vs,(kw.map (·.1)).zip kvs⟩).guards=[]:=by kernel_rfl
  refine⟨bP.1,?_,?_,?_,λl e=>?_⟩
  ·have:=bP.2.1;show A.depth+_+_<=_;refine ae qe ?_;exact ne λJ=>by lia
  ·have:=bP.2.2.1;show A.units+_+_<=_;refine ae NG ?_;exact ne λJ=>by lia
  ·unfold Around.under;dsimp only;(refine ae ur ?_;refine ae bP.2.2.2.1 ?_);rfl
  ·exact bP.2.2.2.2 l e
 have k:∀b o,s.heap.get? b=some o->((s.heap.push emptyDict).push (instObj C s.heap.objs.size)).get? b=some o:=λb o e=>lS _ (lS _ e)
 have aA:((s.heap.push emptyDict).push (instObj C s.heap.objs.size)).get? (s.heap.objs.size+1)=some (instObj C s.heap.objs.size):=by heap_get
 have hd:((s.heap.push emptyDict).push (instObj C s.heap.objs.size)).get? s.heap.objs.size=some emptyDict:=by heap_get
 have cD:s.heap.get? (s.heap.objs.size+1)=none:=by
  cases e:s.heap.get? (s.heap.objs.size+1)with
  |none=>rfl
  |some o=>have:s.heap.objs.size+1<s.heap.objs.size:=lT e;lia
 have hv:=R.add (p:=(s.heap.objs.size+1,s.heap.objs.size)) (y:=.inst C []) k cD f3 ⟨aA,[],0,hd,rfl,by trivial,by trivial⟩
 have jb:Ext ρ (ρ.add (s.heap.objs.size+1,s.heap.objs.size)) s.heap ((s.heap.push emptyDict).push (instObj C s.heap.objs.size)):=Ext.add k cD f3
 have gZ:bq c (ρ.add (s.heap.objs.size+1,s.heap.objs.size)) ((s.heap.push emptyDict).push (instObj C s.heap.objs.size)) (.cell σ.length) (.ref (s.heap.objs.size+1)):=
  lr (p:=(s.heap.objs.size+1,s.heap.objs.size)) (by(refine cv R.len ?_;refine ae (eU (eL _)) ?_);simp) rfl
 refine bo (h.call _ {s with heap:=(s.heap.push emptyDict).push (instObj C s.heap.objs.size)} (ρ.add (s.heap.objs.size+1,s.heap.objs.size)) (.ref (s.heap.objs.size+1)::vs) kvs jf hv (jw gZ (V.ext R jb)) (W.ext R jb)) (λv s' p=>?_) λJ J e=>e.elim
 obtain⟨a,bI,ax,bz,bx,bW,cJ,rfl,q⟩:=p
 exact⟨cJ,.cell σ.length,bI,ax,bz,jb.trans bx,b'.trans (s':={s with heap:=(s.heap.push emptyDict).push (instObj C s.heap.objs.size)}) b'.heap bW,gZ.ext hv bx,q⟩
end
end
section
open Sem (wp)
section
variable{c:aG}{d:ab}{σ:aa Cell}
theorem NH{ρ:aT}{h:a8}{a:af}{vs:aa aj}(V:bT c ρ h [a] vs):∃v,vs=[v]/\bq c ρ h a v:=by
 obtain⟨v,r,e,V,W⟩:=V;rw[show r=[]from W]at e;exact⟨v,e,V⟩
theorem B3{ρ:aT}{h:a8}{a b:af}{vs:aa aj}(V:bT c ρ h [a,b] vs):eO λv w=>dx (vs=[v,w]) (bq c ρ h a v) (bq c ρ h b w):=by
 obtain⟨v,r,e,V,kY,k1,ck,gZ,W⟩:=V;rw[show k1=[]from W]at ck;rw[ck]at e;exact⟨v,kY,e,V,gZ⟩
theorem NI{ρ:aT}{h:a8}{a b e:af}{vs:aa aj}(V:bT c ρ h [a,b,e] vs):hO λv w u=>hQ (vs=[v,w,u]) (bq c ρ h a v) (bq c ρ h b w) (bq c ρ h e u):=by
 obtain⟨v,r,q,V,kY,k1,eW,gZ,v2,nN,dV,o2,W⟩:=V;rw[show nN=[]from W]at dV;rw[dV]at eW;rw[eW]at q;exact⟨v,kY,v2,q,V,gZ,o2⟩
theorem uu{ρ:aT}{h:a8}{kvs:aa aj}(W:bT c ρ h (([]:aa (au×af)).map (·.2)) kvs):kvs=[]:=W
theorem ki{f:aj}{a:af}{Q:af->aa Cell->Prop}(h:∀A s ρ v,d9 c d A->Rep c ρ σ s.heap->bq c ρ s.heap a v->aK c.clean (model c.prog c.w) A (call f [v] []) (b5 c ρ s Q) cb s):cH c d f [a] [] σ Q:=by
 intro A s ρ vs kvs bP R V W
 obtain⟨v,e,gZ⟩:=NH V;subst e
 obtain rfl:=uu W
 exact h A s ρ v bP R gZ
theorem call2{f:aj}{a b:af}{Q:af->aa Cell->Prop}(h:∀A s ρ v w,d9 c d A->Rep c ρ σ s.heap->bq c ρ s.heap a v->bq c ρ s.heap b w->aK c.clean (model c.prog c.w) A (call f [v,w] []) (b5 c ρ s Q) cb s):cH c d f [a,b] [] σ Q:=by
 intro A s ρ vs kvs bP R V W
 obtain⟨v,w,e,r8,o2⟩:=B3 V;subst e
 obtain rfl:=uu W
 exact h A s ρ v w bP R r8 o2
theorem NJ{f:aj}{a b e:af}{Q:af->aa Cell->Prop}(h:∀A s ρ v w u,d9 c d A->Rep c ρ σ s.heap->bq c ρ s.heap a v->bq c ρ s.heap b w->bq c ρ s.heap e u->aK c.clean (model c.prog c.w) A (call f [v,w,u] []) (b5 c ρ s Q) cb s):cH c d f [a,b,e] [] σ Q:=by
 intro A s ρ vs kvs bP R V W
 obtain⟨v,w,u,e,r8,o2,NK⟩:=NI V;subst e
 obtain rfl:=uu W
 exact h A s ρ v w u bP R r8 o2 NK
theorem B4:lV "bytearray" "__len__" "bytearray.__len__":=
 .of (owner:="bytearray") (n:="__len__") (by rw[ij,ik];kernel_rfl) (by decide+kernel) (by decide+kernel) (by decide+kernel)
  (by first|exact .inl (by decide+kernel)|exact .inr (by decide+kernel)) (by rw[kS];kernel_rfl)
theorem NL:entryFor table "bytearray.__len__"=some gg.«bytearray.__len__»:=by first|exact q4 (by kernel_rfl)|exact q5 (by kernel_rfl)
theorem NM(a:aj):argsOk "bytearray.__len__" ⟨[a],[]⟩:=by kernel_rfl
theorem qf{M:gd}{A:cy}{E:aj->aF->Prop}{s:aF}{a:aJ}{b:eM aU}{Q:eM aU->aF->Prop}(aN:s.heap.get? a=some {cls:=.type "bytearray",data:=.bytearray b 0})(h:Q b s):wpAny M A (IC (.ref a)) Q E s:=by
 exact bw (bw (oc aN (dn (dn h))))
theorem NN{prog:fc}{w:cu}{A:cy}{E:aj->aF->Prop}{s:aF}{a:aJ}{b:eM aU}{Q:aj->aF->Prop}(aN:s.heap.get? a=some {cls:=.type "bytearray",data:=.bytearray b 0})(xf:(b.size:ah)<2^63)
  (h:Q (.int b.size (s.toks+1)) {s with toks:=s.toks+1+1}):wpAny (model prog w) A (call (.builtin "len") [.ref a]) Q E s:=by
 have cQ:s.TypeIs (.ref a) "bytearray":=⟨_,aN,rfl⟩
 refine call_function_entry kind_len plain_len entry_len (args_len1 _) ?_
 refine bw (m:=oneArg "len" _) (dn ?_)
 refine bw (m:=callSpecial? (.ref a) (qY "__len__")) (qX (name:=qY "__len__") cQ B4
  (lb B4 cQ NL ?_ (NM _)))
 ·show wpAny _ _ (do retInt (<-IC (.ref a)).size) _ _ s
  refine bw (qf aN ?_)
  refine bw (zC (dn ⟨_,rfl,?_⟩))
  refine bw (nu (dn ?_))
  refine bw (wpAny_letGo ?_)
  refine ae (cC (by lia)) ?_
  refine ae (cC (by exact H5.mpr ‹_›)) ?_
  exact bw (zC (dn ⟨_,rfl,h⟩))
theorem eF{b:aa aU}{Q:af->aa Cell->Prop}(h:Q (.int b.length) σ):cH c d (.builtin "len") [.bytes b] [] σ Q:=ki λA s ρ v bP R V=>by
 obtain⟨t,rfl,aO⟩:=V
 exact aK.of<|len_bytes (by refine ae fM ?_;exact c2 ‹_› (cK _ _)) (by refine ae fM ?_;exact b5.same R e4 h)
theorem qg{i:ab}{b:aa aU}{Q:af->aa Cell->Prop}(aP:σ[i]? =some (.aZ b))(h:Q (.int b.length) σ):cH c d (.builtin "len") [.cell i] [] σ Q:=ki λA s ρ v bP R V=>by
 obtain⟨p,aW,rfl⟩:=V
 obtain⟨aN,aO,-⟩:=R.cells i p _ aW aP
 exact aK.of<|NN aN (by refine ae fM ?_;exact fy λJ=>by lia) (by refine ae fM ?_;exact b5.same R e4 h)
theorem B5{as:aa af}{Q:af->aa Cell->Prop}(h:Q (.int as.length) σ):cH c d (.builtin "len") [.lst as] [] σ Q:=ki λA s ρ v bP R V=>by
 obtain⟨a,items,n,rfl,nb,aN,cq,aO⟩:=V
 have a5:=cq.length
 exact aK.of<|call_len_list ⟨_,aN,rfl,n,rfl⟩ (by(refine ae fM ?_;refine ae a5 ?_);exact fy λJ=>by lia) (by(refine ae fM ?_;refine ae a5 ?_);exact b5.same R e4 h)
theorem IntsAre.len{vs:aa aj}{ns:aa ah}(h:IntsAre vs ns):vs.length=ns.length:=by
 induction h with
 |nil=>rfl
 |cons n t r cF=>(refine ae dc ?_;refine ae dc ?_;exact ae cF rfl)
theorem NO{ns:aa ah}{Q:af->aa Cell->Prop}(aO:ns.length<=1000000)(h:Q (.int ns.length) σ):cH c d (.builtin "len") [.ey ns] [] σ Q:=ki λA s ρ v bP R V=>by
 obtain⟨a,items,rfl,nb,aN,cq⟩:=V
 have a5:=IntsAre.len cq
 exact aK.of<|call_len_list aN (by(refine ae fM ?_;refine ae a5 ?_);exact fy λJ=>by lia) (by(refine ae fM ?_;refine ae a5 ?_);exact b5.same R e4 h)
theorem B6{i:ah}{Q:af->aa Cell->Prop}(h:Q (.bool true) σ):cH c d (.builtin "isinstance") [.int i,.val (.type "int")] [] σ Q:=call2 λA s ρ v w bP R V W=>by
 obtain⟨t,rfl⟩:=V
 obtain rfl:w=_:=W
 exact aK.of<|IsiPair.int_int (b5.now R gx h)
theorem B7{i:ah}{Q:af->aa Cell->Prop}(h:Q (.bool false) σ):cH c d (.builtin "isinstance") [.int i,.val (.type "bool")] [] σ Q:=call2 λA s ρ v w bP R V W=>by
 obtain⟨t,rfl⟩:=V
 obtain rfl:w=_:=W
 exact aK.of<|IsiPair.int_bool (b5.same R gx h)
theorem ty_bytes:typeOf (.type "bytes")=pure (.type "type"):=rfl
theorem NP:typeOf (.type "bytearray")=pure (.type "type"):=rfl
theorem B8{b:aa aU}{Q:af->aa Cell->Prop}(h:Q (.bool true) σ):cH c d (.builtin "isinstance") [.bytes b,.tup [.val (.type "bytes"),.val (.type "bytearray")]] [] σ Q:=call2 λA s ρ v w bP R V W=>by
 obtain⟨t,rfl,aO⟩:=V
 obtain⟨a,items,rfl,nb,aN,cq,-⟩:=W
 obtain⟨v1,NQ,rfl,az,v2,nN,rfl,ay,rfl⟩:=cq
 obtain rfl:v1=_:=az
 obtain rfl:v2=_:=ay
 refine aK.of<|call_isinstance (isinstance_tuple (vs:=[true,false]) (Tx:="bytes") (.cons (Answers.of_true ty_bytes (by rw[kS];kernel_rfl)) (.cons ?_ .nil))) ⟨kz _ _ _,aN,λtk=>?_⟩
 ·exactλJ J J J J J s hs=>by
   obtain⟨h,g,d,t,os⟩:=s
   exact isinstance_nested_false_bytes (by decide) NP (by rw[kS];kernel_rfl) (hs.2 (t+1))
 ·exact b5.same R gx h
theorem xg{i:ah}{Q:af->aa Cell->Prop}(h:Q (.bool (i !=0)) σ):cH c d (.type "bool") [.int i] [] σ Q:=ki λA s ρ v bP R V=>by
 obtain⟨t,rfl⟩:=V
 exact aK.of<|call_bool_int (b5.now R gx h)
theorem NR{b:aS}{Q:af->aa Cell->Prop}(h:Q (.bool b) σ):cH c d (.type "bool") [.bool b] [] σ Q:=ki λA s ρ v bP R V=>by
 obtain rfl:v=_:=V
 exact aK.of<|call_bool_bool (b5.now R gx h)
theorem uv{b:aS}{Q:af->aa Cell->Prop}(h:Q (.int (if b then 1 else 0)) σ):cH c d (.type "int") [.bool b] [] σ Q:=ki λA s ρ v bP R V=>by
 obtain rfl:v=_:=V
 exact aK.of<|call_int_bool (b5.same R e4 h)
theorem NS{i j:ah}{Q:af->aa Cell->Prop}(h:Q (.int (if i<j then j else i)) σ):cH c d (.builtin "max") [.int i,.int j] [] σ Q:=call2 λA s ρ v w bP R V W=>by
 obtain⟨t,rfl⟩:=V
 obtain⟨u,rfl⟩:=W
 refine aK.of<|PySem.Flt.max_two_num bP.1 (PySem.Flt.NumV.int _ _) (PySem.Flt.NumV.int _ _) λao tk k=>?_
 have e:PySem.Flt.ltV (.int i t) (.int j u)=decide (i<j):=rfl
 refine ae e ?_
 by_cases z:i<j
 ·rw[cV z]at h;refine ae (cV (by exact iH z)) ?_;exact b5.here R k e4 h
 ·rw[cC z]at h;refine ae (cC (by simpa using z)) ?_;exact b5.here R k e4 h
theorem r9{ρ:aT}{h:a8}:∀{ns:aa ah} {vs:aa aj},bT c ρ h (ns.map .int) vs->IntsAre vs ns
 |[],_,e=>by refine ae (show _=_ from e) ?_;exact .nil
 |n::ns,_,⟨v,r,e,⟨t,x⟩,y⟩=>by(refine ae e ?_;refine ae x ?_);exact .cons n t (r9 y)
theorem B9{vs:aa aj}{ns:aa ah}(h:IntsAre vs ns):AllInts vs.toArray/\numsOf vs=ns:=by
 induction h with
 |nil=>exact⟨λv cx=>by simp at cx,rfl⟩
 |cons n t r cF=>
  refine⟨λv cx=>?_,?_⟩
  ·rw[List.mem_toArray,gH]at cx
   rcases cx with rfl|cx
   ·exact⟨n,t,rfl⟩
   ·exact cF.1 v (by simpa using cx)
  ·show n::numsOf _=_;exact ae cF.2 rfl
theorem NT{A:cy}{s:aF}{ρ:aT}{a:aJ}{items:aa aj}{ns:aa ah}{Q:af->aa Cell->Prop}(bP:d9 c d A)(R:Rep c ρ σ s.heap)(a5:s.heap.IsList a items.toArray)(a7:IntsAre items ns)(h:Q (.int ns.sum) σ):
  aK c.clean (model c.prog c.w) A (call (.builtin "sum") [.ref a]) (b5 c ρ s Q) cb s:=by
 obtain⟨xs,e⟩:=(B9 a7).1.items
 have ay:numsOf (intItems xs).toList=ns:=by refine cv e ?_;exact(B9 a7).2
 rw[nums_intItems]at ay
 rw[e]at a5
 refine aK.of<|sum_intListG bP.1 a5 λao tk jP k=>?_
 rw[preSum_eq,zV (by simp),ay]
 exact b5.here R k e4 h
theorem sum_list{i:ab}{ns:aa ah}{Q:af->aa Cell->Prop}(aP:σ[i]? =some (.list (ns.map .int)))(h:Q (.int ns.sum) σ):cH c d (.builtin "sum") [.cell i] [] σ Q:=ki λA s ρ v bP R V=>by
 obtain⟨p,aW,rfl⟩:=V
 obtain⟨items,n,aN,cq,aO,-⟩:=R.cells i p _ aW aP
 exact NT bP R ⟨_,aN,rfl,n,rfl⟩ (r9 cq) h
theorem gM{i:ab}{as:aa af}{a:af}{Q:af->aa Cell->Prop}(aP:σ[i]? =some (.list as))(aO:as.length+1<=1000000)(h:Q .none (σ.set i (.list (as++[a])))):cH c d (.builtin "list.append") [.cell i,a] [] σ Q:=call2 λA s ρ v w bP R V W=>by
 obtain⟨p,aW,rfl⟩:=V
 obtain⟨items,n,aN,cq,qh,he⟩:=R.cells i p _ aW aP
 have a5:=cq.length
 have xh:items.toArray.size<=sizeLine:=by(refine ae fM ?_;refine ae a5 ?_;refine ae ha ?_);exact c2 ‹_› (cK _ _)
 have c':∀b o,b≠p.1->b≠p.2->s.heap.get? b=some o->(s.heap.update p.1 (lX λx_1=>x_1.push w)).get? b=some o:=λb o n J e=>((pH ..).2 b n).trans e
 refine aK.of<|zW PySem.F.slot_list_append ⟨_,aN,rfl⟩ PySem.F.entry_list_append (PySem.F.args_list_append_2 _ _) (list_append p.1 items.toArray n w xh) ⟨aN,?_⟩
 have e:(s.heap.update p.1 (lX λx_1=>x_1.push w)).get? p.1=some {cls:=.type "list",data:=.seq (items.toArray.push w) (n+1)}:=by rw[od _ aN (by rw[aa9];rfl),aa9]
 have X:Ext ρ ρ s.heap (s.heap.update p.1 (lX λx_1=>x_1.push w)):=Ext.change aW c'
 have C:ek c ρ (s.heap.update p.1 (lX λx_1=>x_1.push w)) p (.list (as++[a])):=⟨items++[w],n+1,by refine ae e ?_;simp,(cq.ext R X).append (jw (W.ext R X) iw),by simpa using aO,he⟩
 exact⟨.none,ρ,_,R.change aW c' C,X,b'.of,ou,h⟩
noncomputable def dZ:ab->ah->aa aU
 |0,_=>[]
 |n+1,x=>dZ n (x/256)++[(x%256).toNat.toUInt8]
theorem B':∀{a b:aa aU},a.map (λc:aU=>((c.toNat:ab):ah))=b.map (λc:aU=>((c.toNat:ab):ah))->a=b
 |[],[],_=>rfl
 |[],_::_,h=>by cases h
 |_::_,[],h=>by cases h
 |x::a,y::b,h=>by
  simp only[gJ,ID]at h
  (refine ae (B' h.2) ?_;exact ae (UInt8.toNat_inj.mp (Int.ofNat.inj h.1)) rfl)
theorem Ca:∀(n:ab) (x:ah),(dZ n x).map (λc:aU=>((c.toNat:ab):ah))=(KTBy.little n x).reverse
 |0,_=>rfl
 |n+1,x=>by
  show(dZ n (x/256)++[_]).map _=(x%256::KTBy.little n (x/256)).reverse
  rw[kU,Ca n,List.reverse_cons]
  congr 1
  show [(((x%256).toNat.toUInt8.toNat:ab):ah)]=[x%256]
  have:(x%256).toNat<256:=by exact nl λJ=>by lia
  congr 1
  rw[mB,mC,lY this]
  lia
theorem Cb:∀(n:ab) (x:ah),(dZ n x).length=n
 |0,_=>rfl
 |n+1,x=>by show(dZ n _++[_]).length=_;rw[bZ,Cb n];rfl
theorem xi{x:ah}{k:ab}{Q:af->aa Cell->Prop}(ba:k<=8)(h0:0<=x)(aB:x<256^k)(h:Q (.bytes (dZ k x)) σ):cH c d (.builtin "int.to_bytes") [.int x,.int k,.str (PySem.Str.ofString "big")] [] σ Q:=NJ λA s ρ v w u bP R V W U=>by
 obtain⟨t,rfl⟩:=V
 obtain⟨ad8,rfl⟩:=W
 obtain⟨t3,rfl⟩:=U
 refine aK.of<|KTBy.to_big ba rfl h0 aB λb jP bX e a5=>?_
 have:b=(dZ k x).toArray:=by
  have:b.toList=dZ k x:=B' (by rw[Ca,<-e];rfl)
  exact cv this rfl
 refine ae this ?_
 exact b5.same R (mI (by rw[Cb];exact c2 ‹_› (cK _ _))) h
end
end
section
open Sem (wp)
set_option maxRecDepth 100000
open Builtin
theorem Cc:entryFor table "bytearray.__getitem__"=some gg.«bytearray.__getitem__»:=by first|exact q4 (by kernel_rfl)|exact q5 (by kernel_rfl)
theorem Cd(a b:aj):argsOk "bytearray.__getitem__" ⟨[a,b],[]⟩:=by kernel_rfl
theorem Ce:lV "bytearray" "__setitem__" "bytearray.__setitem__":=
 .of (owner:="bytearray") (n:="__setitem__") (by rw[ij,ik];kernel_rfl) (by decide+kernel) (by decide+kernel) (by decide+kernel)
  (by first|exact .inl (by decide+kernel)|exact .inr (by decide+kernel)) (by rw[kS];kernel_rfl)
theorem NU:entryFor table "bytearray.__setitem__"=some gg.«bytearray.__setitem__»:=by first|exact q4 (by kernel_rfl)|exact q5 (by kernel_rfl)
theorem NV(a b e:aj):argsOk "bytearray.__setitem__" ⟨[a,b,e],[]⟩:=by kernel_rfl
theorem NW:entryFor table "bytearray.extend"=some gg.«bytearray.extend»:=by first|exact q4 (by kernel_rfl)|exact q5 (by kernel_rfl)
theorem NX(a b:aj):argsOk "bytearray.extend" ⟨[a,b],[]⟩:=by kernel_rfl
section
variable{prog:fc}{w:cu}{A:cy}{E:aj->aF->Prop}{s:aF}{a:aJ}{b:eM aU}
theorem sub_int{M:gd}{i:ah}{t:eZ}{Q:bh ah->aF->Prop}(a4:Bytes.fitsIndex i=true)(h:Q (some i) s):wpAny M A (Bytes.subscript? (.int i t)) Q E s:=by
 refine bw (i5 (zX s i t) PySem.F.slot_int_index.lookup ?_)
 show wpAny M A (if(!Bytes.fitsIndex i)=true then _ else pure (some i)) _ E s
 refine ae a4 ?_
 exact dn h
theorem NY{M:gd}{q:aJ}{o:ew}{Q:bh ah->aF->Prop}(aN:s.heap.get? q=some o)(aP:o.cls=.type "slice")(h:Q none s):wpAny M A (Bytes.subscript? (.ref q)) Q E s:=by
 have cQ:s.TypeIs (.ref q) "slice":=⟨o,aN,aP⟩
 exact bw (i5 cQ slice_no_index (dn h))
theorem NZ{M:gd}{q:aJ}{l u:aj}{lo a7:bh ah}{Q:aj×aj×aj->aF->Prop}(a5:q3 l lo)(jk:q3 u a7)(hs:s.heap.IsSliceOf q l u .none)(h:Q (rawPart lo,rawPart a7,rawPart none) s):
  wpAny M A (Bytes.sliceParts (.ref q)) Q E s:=by
 refine dI λdv b4=>?_
 obtain⟨o,aN,aP,hd⟩:=hs
 refine b4 ?_
 refine bw (i4 (x:=.none) aN hd rfl ?_)
 kby_none
 refine wpAny_ite (KBy.ite_no (show¬((oe==rawInt 0)=true)from fV) ?_)
 refine bw (i4 (x:=l) aN hd rfl ?_)
 induction a5<;>induction jk<;>(first
  |(kby_none;(refine bw (i4 (x:=.none) aN hd rfl ?_));kby_none)
  |(kby_none;(refine bw (i4 (x:=.int _ _) aN hd rfl ?_));kby_int)
  |(kby_int;(refine bw (i4 (x:=.none) aN hd rfl ?_));kby_none)
  |(kby_int;(refine bw (i4 (x:=.int _ _) aN hd rfl ?_));kby_int))<;>exact dn h
theorem N0{i:ah}{t:eZ}{x:aU}{Q:aj->aF->Prop}(aN:s.heap.get? a=some {cls:=.type "bytearray",data:=.bytearray b 0})(a4:Bytes.fitsIndex i=true)(aA:(seqIndex? i b.size).bind (b[·]?)=some x)
  (h:Q (.int x.toNat s.toks) {s with toks:=s.toks+1}):wpAny (model prog w) A (getItem (.ref a) (.int i t)) Q E s:=by
 have cQ:s.TypeIs (.ref a) "bytearray":=⟨_,aN,rfl⟩
 refine ab0 cQ (by decide) rM (lb rM cQ Cc ?_ (Cd _ _))
 show wpAny _ _ (Bytes.subscript? (.int i t)>>=λr=>_) _ _ s
 refine bw (sub_int a4 ?_)
 refine bw (qf aN ?_)
 refine ae aA ?_
 exact bw (zC (dn ⟨_,rfl,h⟩))
theorem N1{q:aJ}{l u:aj}{lo a7:bh ah}{Q:aj->aF->Prop}(aN:s.heap.get? a=some {cls:=.type "bytearray",data:=.bytearray b 0})(a5:q3 l lo)(jk:q3 u a7)(hs:s.heap.IsSliceOf q l u .none)
  (aO:(zP b lo a7).size<=sizeLine)(h:Q (.ref s.heap.objs.size) {s with heap:=s.heap.push {cls:=.type "bytearray",data:=.bytearray (zP b lo a7) 0}}):wpAny (model prog w) A (getItem (.ref a) (.ref q)) Q E s:=by
 have cQ:s.TypeIs (.ref a) "bytearray":=⟨_,aN,rfl⟩
 refine ab0 cQ (by decide) rM (lb rM cQ Cc ?_ (Cd _ _))
 refine dI λdv b4=>?_
 obtain⟨o,bg,aP,hd⟩:=id hs
 refine b4 ?_
 have iI:s.TypeIs (.ref q) "slice":=⟨o,bg,aP⟩
 show wpAny _ _ (Bytes.subscript? (.ref q)>>=λr=>_) _ _ s
 refine bw (NY bg aP ?_)
 refine bw (IE iI ?_)
 refine bw (NZ a5 jk hs ?_)
 refine bw (qf aN ?_)
 refine bw (gU (a:=sliceBounds lo a7 none b.size) (sliceIndices_raw lo a7 none b.size (λe=>nomatch e)) ?_)
 exact bw (oa (dn ⟨_,rfl,h⟩) aO)
theorem N2{i n:ah}{k:ab}{t u:eZ}{Q:i0->aF->Prop}(aN:s.heap.get? a=some {cls:=.type "bytearray",data:=.bytearray b 0})(a4:Bytes.fitsIndex i=true)(ba:seqIndex? i b.size=some k)(aO:b.size<=sizeLine)(h0:0<=n)(aB:n<256)
  (h:∀ao,ao.get? a=some {cls:=.type "bytearray",data:=.bytearray (b.setIfInBounds k n.toNat.toUInt8) 0}->ju a s.heap ao->Q () {s with heap:=ao}):wpAny (model prog w) A (setItem (.ref a) (.int i t) (.int n u)) Q E s:=by
 have cQ:s.TypeIs (.ref a) "bytearray":=⟨_,aN,rfl⟩
 refine nu ?_
 refine bw (ab1 cQ (by decide) ?_)
 refine bw (qX (name:=qY "__setitem__") cQ Ce (lb Ce cQ NU ?_ (NV _ _ _)))
 refine bw (sub_int a4 ?_)
 refine bw (Bk h0 aB ?_)
 refine bw (qf aN ?_)
 refine ae ba ?_
 refine bw (p6 aN (by simpa using aO) λao e hs=>?_)
 refine dn ⟨_,rfl,?_⟩
 first|exact dn (h ao e hs)|exact h ao e hs
theorem N3{items:eM aj}{n:ab}{k:ah}{t:eZ}{v:aj}{Q:i0->aF->Prop}(aN:s.heap.get? a=some {cls:=.type "list",data:=.seq items n})(h0:0<=k)(xf:k<2^63)(ba:k<items.size)
  (iI:∀ao,ao.get? a=some {cls:=.type "list",data:=.seq (items.setIfInBounds k.toNat v) n}->ju a s.heap ao->Q () {s with heap:=ao}):wpAny (model prog w) A (setItem (.ref a) (.int k t) v) Q E s:=by
 have a5:s.heap.IsList a items:=⟨_,aN,rfl,n,rfl⟩
 refine nu ?_
 refine bw (ab1 a5.typeIs (by decide) ?_)
 refine bw (qX (name:=qY "__setitem__") a5.typeIs ab2
  (lb ab2 a5.typeIs entry_list_setitem ?_ (args_list_setitem _ _ _)))
 show wpAny _ _ (Builtin.List.listSubscript? (.int k t)>>=_) _ _ s
 refine bw (wpAny_listSubscript_int (fitsIndex_of h0 xf) ?_)
 clear xf
 obtain⟨k,rfl⟩:=IF h0
 have ba:k<items.size:=by exact pI.mp ‹_›
 have wR:items[k]? =some items[k]:=zz ba
 refine bw (bw (wpAny_seqItemAt aN rfl (dn ?_)))
 refine ae wR ?_
 have jU:(s.heap.update a (lX (·.setIfInBounds k v))).get? a=some {cls:=.type "list",data:=.seq (items.setIfInBounds k v) n}:=by
  have e:lX (·.setIfInBounds k v) {cls:=.type "list",data:=.seq items n}={cls:=.type "list",data:=.seq (items.setIfInBounds k v) n}:=by simp[lX]
  rw[od _ aN (by rw[e];rfl),e]
 refine bw (wpAny_setSeqItemAt aN rfl ?_)
 first
  |exact bw (dn (dn ⟨.none,rfl,dn (iI _ jU (pH ..))⟩))
  |exact dn ⟨.none,rfl,dn (iI _ jU (pH ..))⟩
end
section
variable{c:aG}{d:ab}{σ:aa Cell}{Q:af->aa Cell->Prop}
theorem N4{i:ab}{b:aa aU}{n:ah}(aP:σ[i]? =some (.aZ b))(h0:0<=n)(aB:n<b.length)(h:Q (.int (b.getD n.toNat 0).toNat) σ):cm c d getItem (.cell i) (.int n) σ Q:=by
 intro A s ρ v w _ R V W
 obtain⟨p,aW,rfl⟩:=V
 obtain⟨u,rfl⟩:=W
 refine dI λdv b4=>?_
 obtain⟨aN,aO,-⟩:=R.cells i p _ aW aP
 refine b4 ?_
 refine aK.of<|N0 (x:=b.getD n.toNat 0) aN ?_ ?_ (b5.same R e4 h)
 ·simp only[Bytes.fitsIndex,gf,lU];lia
 ·have a5:n.toNat<b.length:=by exact nl λJ=>by lia
  have:seqIndex? n b.toArray.size=some n.toNat:=by
   have aY:¬n<0:=by exact qP.mpr ‹_›
   simp[seqIndex?,aY,h0,aB]
  refine ae this ?_;simp[a5]
theorem N5{i:ab}{b:aa aU}{lo a7:bh ah}(aP:σ[i]? =some (.aZ b))(h:Q (.cell σ.length) (σ++[.aZ (fu b lo a7)])):t9 c d (.cell i) lo a7 σ Q:=by
 intro A s ρ v q lv k2 _ R V mV p5 eX
 obtain⟨p,aW,rfl⟩:=V
 obtain⟨aN,aO,-⟩:=R.cells i p _ aW aP
 have e:zP b.toArray lo a7=(fu b lo a7).toArray:=by rw[KBc.picked_eq];simp[fu]
 refine aK.of<|N1 aN mV p5 eX (c2 (aa4 _ lo a7) (by(refine ae ha ?_;refine ae fM ?_);exact c2 ‹_› (cK _ _))) ?_
 refine ae e ?_
 obtain⟨hv,jb,gZ⟩:=R.AE (y:=.aZ (fu b lo a7)) (o:={cls:=.type "bytearray",data:=.bytearray (fu b lo a7).toArray 0}) ⟨ic _ rfl,c2 (t' _ _ _) aO,rfl⟩
 exact⟨_,_,_,hv,jb,b'.heap,gZ,h⟩
theorem N6{i:ab}{b:aa aU}{n x:ah}{Q:aa Cell->Prop}(aP:σ[i]? =some (.aZ b))(h0:0<=n)(aB:n<b.length)(mZ:0<=x)(N7:x<256)(h:Q (σ.set i (.aZ (b.set n.toNat x.toNat.toUInt8)))):ow c d setItem (.cell i) (.int n) (.int x) σ Q:=by
 intro A s ρ v w u _ R V W U
 obtain⟨p,aW,rfl⟩:=V
 obtain⟨t,rfl⟩:=W
 obtain⟨jP,rfl⟩:=U
 obtain⟨aN,aO,he⟩:=R.cells i p _ aW aP
 refine aK.of<|N2 (k:=n.toNat) aN ?_ ?_ (by(refine ae fM ?_;refine ae ha ?_);exact c2 ‹_› (cK _ _)) mZ N7 λao kX hs=>?_
 ·simp only[Bytes.fitsIndex,gf,lU];lia
 ·have aY:¬n<0:=by exact qP.mpr ‹_›
  simp[seqIndex?,aY,h0,aB]
 have c':∀b o,b≠p.1->b≠p.2->s.heap.get? b=some o->ao.get? b=some o:=λb o n J e=>(hs.2 b n).trans e
 have C:ek c ρ ao p (.aZ (b.set n.toNat x.toNat.toUInt8)):=⟨by refine ae kX ?_;simp,by simpa using aO,he⟩
 exact⟨ρ,_,R.change aW c' C,Ext.change aW c',b'.heap,h⟩
theorem bT.Cf{c:aG}{ρ:aT}{h:a8}{a:af}{v:aj}(V:bq c ρ h a v):∀{as:aa af} {vs:aa aj} {k:ab},bT c ρ h as vs->bT c ρ h (as.set k a) (vs.set k v)
 |[],_,_,e=>by refine ae (show _=_ from e) ?_;exact iw
 |x::as,_,0,h0=>by obtain⟨kY,r,e,Cg,y⟩:=h0;refine ae e ?_;exact jw V y
 |x::as,_,k+1,h0=>by obtain⟨kY,r,e,Cg,y⟩:=h0;refine ae e ?_;exact jw Cg (bT.Cf V y)
theorem set_list{i:ab}{as:aa af}{n:ah}{a:af}{Q:aa Cell->Prop}(aP:σ[i]? =some (.list as))(h0:0<=n)(aB:n<as.length)(h:Q (σ.set i (.list (as.set n.toNat a)))):ow c d setItem (.cell i) (.int n) a σ Q:=by
 intro A s ρ v w u _ R V W U
 obtain⟨p,aW,rfl⟩:=V
 obtain⟨t,rfl⟩:=W
 obtain⟨items,k,aN,cq,aO,he⟩:=R.cells i p _ aW aP
 have a5:=cq.length
 obtain⟨j,rfl⟩:=IF h0
 refine aK.of<|N3 aN (by assumption) (by exact fy λJ=>by lia) (by(refine ae fM ?_;refine ae a5 ?_);assumption) λao kX hs=>?_
 have c':∀b o,b≠p.1->b≠p.2->s.heap.get? b=some o->ao.get? b=some o:=λb o n J e=>(hs.2 b n).trans e
 have X:Ext ρ ρ s.heap ao:=Ext.change aW c'
 have C:ek c ρ ao p (.list (as.set (j:ah).toNat a)):=⟨items.set j u,k,by refine ae kX ?_;simp,(cq.ext R X).Cf (U.ext R X),by simpa using aO,he⟩
 exact⟨ρ,_,R.change aW c' C,X,b'.heap,h⟩
theorem Ci{y x:au}{u v:aj}{l:aa (au×aj)}(aA:x∉l.map (·.1)\/y≠x):stored ((y,u)::l) x v=if y=x then(y,v)::l else(y,u)::stored l x v:=by
 unfold stored
 by_cases e:y=x
 ·subst e
  have aA:y∉l.map (·.1):=aA.resolve_right (λh=>h rfl)
  (refine ae (cV rfl) ?_;refine ae (cV (by simp)) ?_;refine ae gJ ?_;refine ae (cV rfl) ?_)
  congr 1
  rw[ab3 (g:=_root_.id) (λqi N8=>?_),List.map_id]
  rw[cC (λe=>aA (by rw[<-e];exact i1.mpr ⟨qi,N8,rfl⟩))];rfl
 ·refine ae (cC e) ?_
  have:((y,u)::l).any (λqi=>decide (qi.1=x))=l.any (λqi=>decide (qi.1=x)):=by refine ae List.any_cons ?_;simp[e]
  refine ae this ?_
  split
  ·(refine ae gJ ?_;exact ae (cC e) rfl)
  ·rfl
theorem ej.xj{c:aG}{ρ:aT}{h:a8}(aY:c.names.Nodup){k:ab}{x:au}{a:af}{v:aj}(aA:c.names[k]? =some x)(V:bq c ρ h a v):∀{es:aa (ab×af)} {l:aa (au×aj)},(es.map (·.1)).Nodup->ej c ρ h es l->ej c ρ h (ix es k a) (stored l x v)
 |[],_,_,e=>by refine ae (show _=_ from e) ?_;exact⟨x,v,[],rfl,aA,V,rfl⟩
 |(j,b)::es,_,cG,⟨y,u,l',e,dQ,dV,e1⟩=>by
  subst e
  have aq:=rJ aY dQ aA
  have Cj:=j3.mp cG
  have keys:∀{es:aa (ab×af)} {l:aa (au×aj)},ej c ρ h es l->∀z∈l.map (·.1),∃i∈es.map (·.1),c.names[i]? =some z:=by
   intro es
   induction es with
   |nil=>intro l e z aO;rw[show l=[]from e]at aO;exact absurd aO jr
   |cons p es cF=>
    obtain⟨i,jN⟩:=p
    intro l e z aO
    obtain⟨ad9,Ao,ae0,e,qe,Ck,N9⟩:=e
    subst e
    rw[gJ,gH]at aO
    rcases aO with rfl|aO
    ·exact⟨i,.head _,qe⟩
    ·obtain⟨rA,a7,pX⟩:=cF N9 z aO;exact⟨rA,.tail _ a7,pX⟩
  show ej c ρ h (match fC j k with|true=>(j,a)::es|false=>(j,b)::ix es k a) _
  cases z:fC j k with
  |true=>
   rw[z]at aq
   have uw:y=x:=by exact fW.mp aq
   obtain rfl:=vF z
   rw[Ci (.inl λhm=>?_),cV uw]
   ·exact⟨y,v,l',rfl,dQ,V,e1⟩
   ·obtain⟨i,a7,pX⟩:=keys e1 x hm
    have:=rJ aY pX aA
    rw[qU]at this
    exact Cj.1 (vF this.symm▸a7)
  |false=>
   rw[z]at aq
   have uw:y≠x:=by simpa using aq
   (refine ae (Ci (.inr uw)) ?_;refine ae (cC uw) ?_)
   exact⟨y,u,_,rfl,dQ,dV,ej.xj aY aA V Cj.2 e1⟩
theorem set_dict{i k:ab}{x:au}{es:aa (ab×af)}{a:af}{Q:aa Cell->Prop}(H:c.Ok)(aA:c.names[k]? =some x)(aP:σ[i]? =some (.dict es))(aO:es.length<1000)(h:Q (σ.set i (.dict (ix es k a)))):ow c d setItem (.cell i) (.str x) a σ Q:=by
 intro A s ρ v w u _ R V W U
 obtain⟨p,aW,rfl⟩:=V
 obtain⟨t,rfl⟩:=W
 refine dI λdv b4=>?_
 obtain⟨l,hd,ui,⟨a5,gj⟩,he⟩:=R.cells i p _ aW aP
 refine b4 ?_
 have hlen:=ui.keys
 refine aK.of<|wpAny_setItem_pairs (IA _ _ _ _) hd (λao wQ hs=>?_) (by refine ae ha ?_;exact ne λJ=>by lia)
 have c':∀b o,b≠p.1->b≠p.2->s.heap.get? b=some o->ao.get? b=some o:=λb o n J e=>(hs.2 b n).trans e
 have X:Ext ρ ρ s.heap ao:=Ext.change aW c'
 have N':ej c ρ ao es l:=ej.mono (ρ:=ρ) (λJ J e=>e) X.carry _ _ ui
 have C:ek c ρ ao p (.dict (ix es k a)):=⟨_,wQ,N'.xj H.nodup aA (U.ext R X) gj,⟨c2 (tU k a es) (by exact ne λJ=>by lia),tV k a gj⟩,he⟩
 exact⟨ρ,_,R.change aW c' C,X,b'.of,h⟩
end
end
section
open Sem (wp)
set_option maxRecDepth 100000
theorem qj:typeLookup (.type "bytearray") "__buffer__"=pure (some (.builtin "bytearray.__buffer__")):=by rw[ij,ik];kernel_rfl
theorem Oa:typeLookup (.type "bytearray") "__release_buffer__"=pure (some (.builtin "bytearray.__release_buffer__")):=by rw[ij,ik];kernel_rfl
theorem ux:isSubtype (.type "bytearray") (.type "bytearray")=pure true:=by rw[kS];kernel_rfl
section
variable{prog:fc}{w:cu}{M:gd}{A:cy}{E:aj->aF->Prop}{s:aF}{a:aJ}{b:eM aU}
theorem Cm{name:gI}{id T:gI}{v:aj}{Q:aS->aF->Prop}(cQ:s.TypeIs v T)(a5:typeLookup (.type T) (name:au)=pure (some (.builtin id)))(he:(!id.endsWith ("."++name))=false)(hd:id.dropRight (name.length+1)=T)
  (hs:isSubtype (.type T) (.type T)=pure true)(h:Q true s):wpAny M A (ab4 v name) Q E s:=by
 refine bw (i5 cQ a5 ?_)
 dsimp only
 refine ae he (ae hd ?_)
 exact q0 cQ hs h
theorem Cn{Q:aS->aF->Prop}(cQ:s.TypeIs (.ref a) "bytearray")(h:Q true s):wpAny M A (ab4 (.ref a) "__buffer__") Q E s:=
 Cm cQ qj (by decide+kernel) (by decide+kernel) ux h
theorem xk{Q:aS->aF->Prop}(cQ:s.TypeIs (.ref a) "bytearray")(h:Q false s):wpAny M A (Builtin.Bytes.ownRelease (.ref a)) Q E s:=by
 exact bw (Cm cQ Oa (by decide+kernel) (by decide+kernel) ux (dn h))
theorem Co{id:gI}{full:aS}{Q:bh (eM aU)->aF->Prop}(aN:s.heap.get? a=some {cls:=.type "bytearray",data:=.bytearray b 0})(h:Q (some b) s):wpAny M A (ab5 id (.ref a) full) Q E s:=by
 have cQ:s.TypeIs (.ref a) "bytearray":=⟨_,aN,rfl⟩
 refine bw (i5 cQ qj ?_)
 refine bw (Cn cQ ?_)
 refine bw (i5 cQ qj ?_)
 refine bw (xk cQ ?_)
 exact bw (qf aN (dn h))
theorem Cp{id:gI}{full:aS}{t:eZ}{Q:bh (eM aU)->aF->Prop}(h:Q (some b) s):wpAny M A (ab5 id (.bytes b t) full) Q E s:=by
 have cQ:s.TypeIs (.bytes b t) "bytes":=kz _ _ _
 refine bw (i5 cQ vN ?_)
 refine bw (gU KBy.own_buffer ?_)
 refine bw (i5 cQ vN ?_)
 refine bw (gU KBy.own_release ?_)
 exact bw (gU (a:=b) rfl (dn h))
theorem Ob{id:gI}{i:ah}{Q:bh (eM aU×bh aj)->aF->Prop}(aN:s.heap.get? a=some {cls:=.type "bytearray",data:=.bytearray b 0})(h:Q (some (b,none)) s):wpAny M A (vO id (.ref a) i) Q E s:=by
 have cQ:s.TypeIs (.ref a) "bytearray":=⟨_,aN,rfl⟩
 refine bw (tn ?_)
 refine bw (i5 cQ qj ?_)
 refine bw (Cn cQ ?_)
 refine bw (i5 cQ qj ?_)
 exact bw (Co aN (dn (dn h)))
theorem Oc{id:gI}{i:ah}{t:eZ}{Q:bh (eM aU×bh aj)->aF->Prop}(h:Q (some (b,none)) s):wpAny M A (vO id (.bytes b t) i) Q E s:=by
 have cQ:s.TypeIs (.bytes b t) "bytes":=kz _ _ _
 refine bw (tn ?_)
 refine bw (i5 cQ vN ?_)
 refine bw (gU KBy.own_buffer ?_)
 refine bw (i5 cQ vN ?_)
 exact bw (Cp (dn (dn h)))
end
section
variable{k:aS}{prog:fc}{w:cu}{A:cy}{E:aj->aF->Prop}{s:aF}{a:aJ}{b more:eM aU}
theorem Od{v:aj}{T id:gI}{Q:aj->aF->Prop}(c3:A.guards=some [])(aN:s.heap.get? a=some {cls:=.type "bytearray",data:=.bytearray b 0})(cQ:s.TypeIs v T)(a5:typeLookup (.type T) "__buffer__"=pure (some (.builtin id)))
  (bb:∀{A:cy} {E:aj->aF->Prop} {Q:bh (eM aU×bh aj)->aF->Prop},Q (some (more,none)) s->wpAny (model prog w) A (vO "bytearray.extend" v 0) Q E s)(aO:(b++more).size<=sizeLine)
  (h:∀ao,ao.get? a=some {cls:=.type "bytearray",data:=.bytearray (b++more) 0}->ju a s.heap ao->Q .none {s with heap:=ao}):aK true (model prog w) A (call (.builtin "bytearray.extend") [.ref a,v]) Q E s:=by
 refine Bh BJ ⟨_,aN,rfl⟩ NW (by decide+kernel) ?_ (NX _ _)
 refine bp (bJ ?_)
 refine bV (i5 cQ a5 ?_)
 show aK _ _ _ (IC (.ref a)>>=λp=>vO "bytearray.extend" v 0>>=_) _ _ s
 refine bV (qf aN ?_)
 refine bV (bb ?_)
 show aK _ _ _ (if(!more.isEmpty)=true then It (.ref a)>>=λJ=>q6 (.ref a) (· ++more)>>=λJ=>ret .none else q6 (.ref a) (· ++more)>>=λJ=>ret .none) _ _ s
 have fin:aK true (model prog w) A.in1 (q6 (.ref a) (· ++more)>>=λJ=>ret .none) (λfin s'=>∃v,fin=.done (.ret v)/\Q v s') E s:=
  bV (p6 aN aO λao e hs=>bJ ⟨_,rfl,h ao e hs⟩)
 split
 ·exact bp (Bj c3 aN fin)
 ·exact fin
end
section
variable{c:aG}{d:ab}{σ:aa Cell}{Q:af->aa Cell->Prop}
theorem Cq{i:ab}{b more:aa aU}{A:cy}{s:aF}{ρ:aT}{p:aJ×aJ}{v:aj}{T id:gI}(jB:c.clean=true)(bP:d9 c d A)(R:Rep c ρ σ s.heap)(aW:ρ.cs[i]? =some p)(aP:σ[i]? =some (.aZ b))
  (aO:b.length+more.length<=1000000)(cQ:s.TypeIs v T)(a5:typeLookup (.type T) "__buffer__"=pure (some (.builtin id)))
  (bb:∀{A:cy} {E:aj->aF->Prop} {Q:bh (eM aU×bh aj)->aF->Prop},Q (some (more.toArray,none)) s->wpAny (model c.prog c.w) A (vO "bytearray.extend" v 0) Q E s)
  (h:Q .none (σ.set i (.aZ (b++more)))):aK c.clean (model c.prog c.w) A (call (.builtin "bytearray.extend") [.ref p.1,v]) (b5 c ρ s Q) cb s:=by
 obtain⟨aN,Oe,he⟩:=R.cells i p _ aW aP
 refine ae jB ?_
 refine Od bP.2.2.2.1 aN cQ a5 bb (by simp[ha];exact c2 ‹_› (cK _ _)) λao kX hs=>?_
 have c':∀b o,b≠p.1->b≠p.2->s.heap.get? b=some o->ao.get? b=some o:=λb o n J e=>(hs.2 b n).trans e
 have C:ek c ρ ao p (.aZ (b++more)):=⟨by refine ae kX ?_;simp,by simp;assumption,he⟩
 exact⟨.none,ρ,_,R.change aW c' C,Ext.change aW c',b'.heap,ou,h⟩
theorem uy{i:ab}{b more:aa aU}(jB:c.clean=true)(aP:σ[i]? =some (.aZ b))(aO:b.length+more.length<=1000000)(h:Q .none (σ.set i (.aZ (b++more)))):cH c d (.builtin "bytearray.extend") [.cell i,.bytes more] [] σ Q:=
 call2 λA s ρ v w bP R V W=>by
  obtain⟨p,aW,rfl⟩:=V
  obtain⟨t,rfl,qh⟩:=W
  exact Cq jB bP R aW aP aO (kz _ _ _) vN (λh=>Oc h) h
theorem Of{i j:ab}{b more:aa aU}(jB:c.clean=true)(aP:σ[i]? =some (.aZ b))(dN:σ[j]? =some (.aZ more))(aO:b.length+more.length<=1000000)(h:Q .none (σ.set i (.aZ (b++more)))):cH c d (.builtin "bytearray.extend") [.cell i,.cell j] [] σ Q:=
 call2 λA s ρ v w bP R V W=>by
  obtain⟨p,aW,rfl⟩:=V
  obtain⟨q,bg,rfl⟩:=W
  obtain⟨aN,Oe,he⟩:=R.cells j q _ bg dN
  exact Cq jB bP R aW aP aO ⟨_,aN,rfl⟩ qj (λh=>Ob aN h) h
end
theorem Og:typeLookup (.type "bytearray") "__bytes__"=pure none:=by rw[ij,ik];kernel_rfl
theorem Oh:typeLookup (.type "bytearray") "__index__"=pure none:=by rw[ij,ik];kernel_rfl
theorem Oi:typeLookup (.type "bytes") "__bytes__"=pure (some (.builtin "bytes.__bytes__")):=by rw[ij,ik];kernel_rfl
section
variable{prog:fc}{w:cu}{A:cy}{E:aj->aF->Prop}{s:aF}{a:aJ}{b:eM aU}
theorem Oj{v:aj}{Q:aj->aF->Prop}(h:wpAny (model prog w) A.in1 (gg.«bytes.__new__» ⟨[.type "bytes",v],[]⟩) (λfin s'=>∃x,fin=.done (.ret x)/\Q x s') E s):
  codeAny (model prog w) A (.call (.builtin "bytes.__new__") ⟨[.type "bytes",v],[]⟩) (wants Q E) s:=by
 refine codeAny_of_tree ?_
 refine bw (gU (PySem.F.bm_newCall _) (dn ⟨zQ PySem.F.bm_plain _,codeAny_builtin PySem.F.bm_entry ?_⟩))
 refine ae (zR PySem.F.bm_plain _) ?_
 exact tr h (λfin s' ao=>by obtain⟨x,rfl,aA⟩:=ao;exact aA) λJ J x=>x
theorem Cr{v:aj}{Q:aj->aF->Prop}(h:∀{A:cy},wpAny (model prog w) A (gg.«bytes.__new__» ⟨[.type "bytes",v],[]⟩) (λfin s'=>∃x,fin=.done (.ret x)/\s'.TypeIs x "bytes"/\Q x s') E s):
  wpAny (model prog w) A (call (.type "bytes") [v]) Q E s:=by
 refine callType_codes (Q₁:=λobj s₁=>s₁.TypeIs obj "bytes"/\Q obj s₁) PySem.F.bm_called (PySem.F.bm_typeCall _) PySem.F.entry_object_init (Oj h) λobj s₁ bK=>?_
 exact⟨bK.1,PySem.F.args_object_init_2 obj _,object_init_meets PySem.F.bm_called.init.lookup PySem.F.bm_called.made (by decide) prog w A.in1 _ s₁ ⟨bK.1,rfl,bK.2⟩⟩
theorem Ol{t:eZ}{Q:aj->aF->Prop}(h:Q (.bytes b t) s):wpAny (model prog w) A (call (.type "bytes") [.bytes b t]) Q E s:=by
 refine Cr λ{A}=>?_
 have cQ:s.TypeIs (.bytes b t) "bytes":=kz _ _ _
 refine bw (gU (a:=true) rfl ?_)
 refine q8 rfl ?_
 refine bw (gU PySem.F.bm_sub ?_)
 refine q8 rfl ?_
 refine bw (gU (PySem.F.bm_bind _) ?_)
 refine bw (gU (a:=()) rfl ?_)
 refine bw (gU (a:=()) rfl ?_)
 refine q8 rfl ?_
 refine bw (i5 cQ Oi ?_)
 refine bw (lh ?_)
 refine bw (IE cQ ?_)
 refine bm_if_true rfl ?_
 exact dn ⟨_,rfl,cQ,h⟩
theorem Om{Q:aj->aF->Prop}(aN:s.heap.get? a=some {cls:=.type "bytearray",data:=.bytearray b 0})(aO:b.size<=sizeLine)(h:Q (.bytes b s.toks) {s with toks:=s.toks+1}):wpAny (model prog w) A (call (.type "bytes") [.ref a]) Q E s:=by
 refine Cr λ{A}=>?_
 have cQ:s.TypeIs (.ref a) "bytearray":=⟨_,aN,rfl⟩
 refine bw (gU (a:=true) rfl ?_)
 refine q8 rfl ?_
 refine bw (gU PySem.F.bm_sub ?_)
 refine q8 rfl ?_
 refine bw (gU (PySem.F.bm_bind _) ?_)
 refine bw (gU (a:=()) rfl ?_)
 refine bw (gU (a:=()) rfl ?_)
 refine q8 rfl ?_
 refine bw (i5 cQ Og ?_)
 refine bw (bw ?_)
 refine bw (oc aN ?_)
 refine dn (dn ?_)
 refine q8 rfl ?_
 refine bw (i5 cQ Oh ?_)
 refine bm_if_true rfl ?_
 first
  |skip
  |(refine bw ?_;skip)
 refine bw (Co aN ?_)
 refine bw (lh ?_)
 refine bw (wpAny_mkBytes ?_ aO)
 first
  |exact dn ⟨_,rfl,kz _ _ _,h⟩
  |exact dn (dn ⟨_,rfl,kz _ _ _,h⟩)
end
section
variable{c:aG}{d:ab}{σ:aa Cell}{Q:af->aa Cell->Prop}
theorem Cs{b:aa aU}(h:Q (.bytes b) σ):cH c d (.type "bytes") [.bytes b] [] σ Q:=ki λA s ρ v bP R V=>by
 obtain⟨t,rfl,aO⟩:=V
 exact aK.of<|Ol (b5.now R (mI aO) h)
theorem kj{i:ab}{b:aa aU}(aP:σ[i]? =some (.aZ b))(h:Q (.bytes b) σ):cH c d (.type "bytes") [.cell i] [] σ Q:=ki λA s ρ v bP R V=>by
 obtain⟨p,aW,rfl⟩:=V
 obtain⟨aN,aO,-⟩:=R.cells i p _ aW aP
 exact aK.of<|Om aN (by refine ae fM (ae ha ?_);exact c2 ‹_› (cK _ _)) (b5.same R (mI aO) h)
noncomputable def o3(ns:aa ah):aa aU:=ns.map λn=>n.toNat.toUInt8
theorem Ct{A:cy}{s:aF}{ρ:aT}{a:aJ}{items:aa aj}{ns:aa ah}(bP:d9 c d A)(R:Rep c ρ σ s.heap)(a5:s.heap.IsList a items.toArray)(a7:IntsAre items ns)(a4:∀n∈ns,0<=n/\n<256)(aO:ns.length<=1000000)(h:Q (.bytes (o3 ns)) σ):
  aK c.clean (model c.prog c.w) A (call (.type "bytes") [.ref a]) (b5 c ρ s Q) cb s:=by
 refine aK.of<|call_bytes_ints a5 a7 a4 (by refine ae (IntsAre.len a7) (ae ha ?_);exact c2 ‹_› (cK _ _)) bP.1 λao t k c'=>?_
 exact b5.here R c' (mI (b:=o3 ns) (by unfold o3;rw[gK];exact aO)) h
theorem Oo{ns:aa ah}(a4:∀n∈ns,0<=n/\n<256)(h:Q (.bytes (o3 ns)) σ):cH c d (.type "bytes") [.lst (ns.map .int)] [] σ Q:=ki λA s ρ v bP R V=>by
 obtain⟨a,items,n,rfl,nb,aN,cq,aO⟩:=V
 exact Ct bP R ⟨_,aN,rfl,n,rfl⟩ (r9 cq) a4 (by simpa using aO) h
theorem bytes_list{i:ab}{ns:aa ah}(aP:σ[i]? =some (.list (ns.map .int)))(a4:∀n∈ns,0<=n/\n<256)(h:Q (.bytes (o3 ns)) σ):cH c d (.type "bytes") [.cell i] [] σ Q:=ki λA s ρ v bP R V=>by
 obtain⟨p,aW,rfl⟩:=V
 obtain⟨items,n,aN,cq,aO,-⟩:=R.cells i p _ aW aP
 exact Ct bP R ⟨_,aN,rfl,n,rfl⟩ (r9 cq) a4 (by simpa using aO) h
end
end
section
open Sem (wp)
set_option maxRecDepth 100000
theorem xl:mroOf (.type "bytearray")=pure [.type "bytearray",.type "object"]:=by rw[mroOf_type];kernel_rfl
theorem Oq:typeLookup (.type "bytearray") "__new__"=pure (some (.builtin "bytearray.__new__")):=by rw[ij,ik];kernel_rfl
theorem uz:lV "bytearray" "__init__" "bytearray.__init__":=
 .of (owner:="bytearray") (n:="__init__") (by rw[ij,ik];kernel_rfl) (by decide+kernel) (by decide+kernel) (by decide+kernel)
  (by first|exact .inl (by decide+kernel)|exact .inr (by decide+kernel)) (by rw[kS];kernel_rfl)
theorem Cu:TypeCalled "bytearray" "bytearray.__new__" "bytearray.__init__":=
 ⟨by decide+kernel,by decide+kernel,⟨_,_,xl⟩,madeBy_type xl Oq (by decide+kernel),by decide+kernel,by rw[kS];kernel_rfl,uz⟩
theorem Cv(a:aj):checkTypeCall "bytearray" ⟨[a],[]⟩=pure ():=by kernel_rfl
theorem Cw(a:aj):checkBuiltinCall "bytearray.__new__" ⟨[.type "bytearray",a],[]⟩=pure ():=by kernel_rfl
theorem Ot:entryFor table "bytearray.__new__"=some gg.«list.__new__»:=
 entryFor_alias (id':="list.__new__") (by rw[ab6];kernel_rfl) (by first|rfl|decide+kernel) (by decide+kernel) (by rw[ab6];kernel_rfl)
theorem Cx:plainId "bytearray.__new__"=true:=by decide+kernel
theorem Cy:plainId "bytearray.__init__"=true:=by decide+kernel
theorem Ou:entryFor table "bytearray.__init__"=some gg.«bytearray.__init__»:=by first|exact q4 (by kernel_rfl)|exact q5 (by kernel_rfl)
theorem Cz(a b:aj):argsOk "bytearray.__init__" ⟨[a,b],[]⟩:=by kernel_rfl
theorem CA(v:aj):Builtin.Bytes.bindOptional "bytearray.__init__" "bytearray" ["source","encoding","errors"] [v] []=pure [some v,none,none]:=by kernel_rfl
theorem Ov:typeLookup (.type "bytes") "__index__"=pure none:=by rw[ij,ik];kernel_rfl
theorem Ow{a:ob}:(ts "type.__call__" a).quiet=true:=aa8 _ (by decide+kernel)
theorem Ox:pC.contains "bytearray.__init__"=false:=by decide+kernel
set_option maxRecDepth 1000000 in
set_option maxHeartbeats 4000000 in
theorem Oy:("bytearray.__new__".splitOn ".__new__").headD ""="bytearray":=by simp+decide [String.splitOn,String.splitOnAux]
open Builtin Builtin.Bytes in
theorem CB (v : aj) (pos : aa aj) : ∃ (U : bN Fin) (F : aa (bh aj) -> bN Fin), gg.«bytearray.__init__» ⟨v :: pos, []⟩ = (ownRelease v >>= λ r => if r = true then U else (bindOptional "bytearray.__init__" "bytearray" ["source", "encoding", "errors"] pos [] >>= F)) /\
   ∃ (xm : bh aj -> bN Fin) (G : bh aj -> bN Fin), (∀ x, F [x, none, none] = ((exported v <||> (exportsOf v >>= λ n => pure (decide (n > 0)))) >>= λ e => if e = true then xm x else (write v (λ J => #[]) >>= λ J => G x))) /\
   G none = ret .none /\ ∀ x, ∃ (S : bh PySem.Str -> bN Fin), G (some x) = (asStr? x >>= S) /\ ∃ D : bh aj -> bN Fin, S none = (specialOf x "__index__" >>= D) /\
     (∃ Y, D none = (buffer? "bytearray.__init__" x true >>= Y) /\ ∀ b, Y (some b) = (rule "bytearray.__init__.bytes-like" >>= λ J => write v (λ J => b) >>= λ J => ret .none)) /\
     ∀ i, ∃ N : Except aj ah -> bN Fin, D (some i) = ((asIndex x).attempt >>= N) /\ ∀ n, 0 < n -> n <= 1000000 -> N (.ok n) = (rule "bytearray.__init__.count" >>= λ J => write v (λ J => Array.replicate n.toNat 0) >>= λ J => ret .none) := by
  refine ⟨_, _, rfl, ?_⟩
  refine ⟨_, _, λ x => rfl, ?_⟩
  refine ⟨rfl, λ x => ?_⟩
  refine ⟨_, rfl, ?_⟩
  refine ⟨_, rfl, ?_, λ i => ?_⟩
  · refine ⟨_, rfl, λ b => ?_⟩
    rfl
  · refine ⟨_, rfl, λ n h0 aB => ?_⟩
    refine (cC (by simp only [fitsIndex, mA, Bool.not_eq_false, gf, lU]; lia)).trans ((cC (by lia)).trans ((cC (by rw [fW]; lia)).trans ((cC (by rw [tooLong, ha, lU]; lia)).trans (congrArg _ (funext λ J => (cV h0).trans ?_)))))
    rfl
section
variable{prog:fc}{w:cu}{A:cy}{E:aj->aF->Prop}{s:aF}
theorem Oz{args:aa aj}{Q₁:aj->aF->Prop}(aY:checkBuiltinCall "bytearray.__new__" ⟨.type "bytearray"::args,[]⟩=pure ())
  (h:Q₁ (.ref s.heap.objs.size) {s with heap:=s.heap.push {cls:=.type "bytearray",data:=.bytearray #[]}}):
  codeAny (model prog w) A (.call (.builtin "bytearray.__new__") ⟨.type "bytearray"::args,[]⟩) (wants Q₁ E) s:=by
 refine codeAny_of_tree ?_
 refine bw (gU aY (dn ⟨zQ Cx _,codeAny_builtin_stack Ot rfl λp st=>?_⟩))
 refine ae (zR Cx _) ?_
 have ae1:=ux
 have pW:=Oy
 obtain⟨aW,g,d,tk,os⟩:=s
 simp only[pW]
 wp_walk
 exact h
end
section
variable{k:aS}{prog:fc}{w:cu}{A:cy}{E:aj->aF->Prop}{s:aF}
theorem CC{args:aa aj}{Q:aj->aF->Prop}(bb:checkTypeCall "bytearray" ⟨args,[]⟩=pure ())(aY:checkBuiltinCall "bytearray.__new__" ⟨.type "bytearray"::args,[]⟩=pure ())
  (xh:∀a,argsOk "bytearray.__init__" ⟨a::args,[]⟩)
  (h:aK k (model prog w) A.in1.in1 (gg.«bytearray.__init__» ⟨.ref s.heap.objs.size::args,[]⟩) (λfin s'=>fin=.done (.ret .none)/\Q (.ref s.heap.objs.size) s') E {s with heap:=s.heap.push {cls:=.type "bytearray",data:=.bytearray #[]}}):
  aK k (model prog w) A (call (.type "bytearray") args) Q E s:=by
 refine mF (lp ?_)
 show aK _ _ _ (callAny (.type "bytearray") _) _ _ _
 refine bJ (ie Ow (ie B1 (BZ PySem.F.entry_type_call ?_)))
 refine ae (Around.under_plain (weight_type_call_type "bytearray" args []) rfl) ?_
 unfold gg.«type.__call__»
 have aI:=Cu.canCreate
 dsimp only
 rw[cC (by decide),cC (by rw[aI];decide),bb]
 refine bp (bJ ?_)
 show aK _ _ _ (mroOf (.type "bytearray")>>=λl=>_) _ _ s
 refine ae xl ?_
 refine bp (bJ ?_)
 refine ae (cC (by decide)) ?_
 show aK _ _ _ (Bind.madeBy (.type "bytearray")>>=λl=>_) _ _ s
 refine ae Cu.made ?_
 refine bp (bJ ?_)
 show aK _ _ _ (holding [vM "bytearray.__new__"] (call (.builtin "bytearray.__new__") (.type "bytearray"::args) [])>>=λl=>_) _ _ s
 refine bp (du (mF (ea.of (Oz aY ?_))))
 have aN:(s.heap.push {cls:=.type "bytearray",data:=.bytearray #[]}).get? s.heap.objs.size=some {cls:=.type "bytearray",data:=.bytearray #[]}:=ic _ rfl
 have cQ:({s with heap:=s.heap.push {cls:=.type "bytearray",data:=.bytearray #[]}}:aF).TypeIs (.ref s.heap.objs.size) "bytearray":=⟨_,aN,rfl⟩
 refine bV (q0 cQ ux ?_)
 refine ae (cC (by decide)) ?_
 refine bp (du ?_)
 unfold callSpecial?
 refine bV (i5 cQ uz.lookup ?_)
 dsimp only
 refine du ?_
 rw[uz.bind]
 refine bp (bJ ?_)
 dsimp only
 refine bp (mF (B0 (zQ Cy _) Ox Ou (aK.of (uz.check _ _ _ _ _ _ _ _ cQ (xh _) ?_))))
 refine ae (zR Cy _) ?_
 refine bo h (λfin s' hf=>?_) λJ J x=>x
 obtain⟨rfl,bg⟩:=hf
 refine bJ ?_
 dsimp only
 refine ae (cC (by decide)) ?_
 exact bJ bg
theorem OA{α:Type}{M:gd}{c:aS}{a b:bN α}{Q:α->aF->Prop}(aP:c=true)(h:aK k M A a Q E s):aK k M A (if c=true then a else b) Q E s:=by subst aP;exact h
theorem xn{α:Type}{M:gd}{c:aS}{a b:bN α}{Q:α->aF->Prop}(aP:c=false)(h:aK k M A b Q E s):aK k M A (if c=true then a else b) Q E s:=by subst aP;exact h
theorem OB{prog:fc}{w:cu}{A:cy}{E:aj->aF->Prop}{s:aF}{a:aJ}{Q:i0->aF->Prop}(aN:s.heap.get? a=some {cls:=.type "bytearray",data:=.bytearray #[] 0})
  (h:∀ao,ao.get? a=some {cls:=.type "bytearray",data:=.bytearray #[] 0}->ju a s.heap ao->Q () {s with heap:=ao}):wpAny (model prog w) A (q6 (.ref a) λJ=>#[]) Q E s:=
 p6 aN (hc _) h
theorem CD{a:aJ}{U:bN PySem.Fin}{G:bN PySem.Fin}{Q:PySem.Fin->aF->Prop}(c3:A.guards=some [])(aN:s.heap.get? a=some {cls:=.type "bytearray",data:=.bytearray #[] 0})
  (h:∀ao,ao.get? a=some {cls:=.type "bytearray",data:=.bytearray #[] 0}->ju a s.heap ao->aK true (model prog w) A G Q E {s with heap:=ao}):
  aK true (model prog w) A ((H6 (.ref a)<||>(Builtin.Bytes.exportsOf (.ref a)>>=λn=>pure (decide (n>0))))>>=λe=>if e=true then U else(q6 (.ref a) (λJ=>#[])>>=λJ=>G)) Q E s:=by
 refine bp ?_
 refine bp (Ae c3 (bp (aK.of ?_)))
 exact bw (oc aN (dn (bJ (xn rfl (bV (OB aN h))))))
theorem OC{a:aJ}{n:ah}{t:eZ}{Q:aj->aF->Prop}(c3:A.guards=some [])(aN:s.heap.get? a=some {cls:=.type "bytearray",data:=.bytearray #[] 0})(h0:0<n)(aB:n<=1000000)
  (h:∀ao,ao.get? a=some {cls:=.type "bytearray",data:=.bytearray (Array.replicate n.toNat 0) 0}->ju a s.heap ao->Q (.ref a) {s with heap:=ao}):
  aK true (model prog w) A (gg.«bytearray.__init__» ⟨[.ref a,.int n t],[]⟩) (λfin s'=>fin=.done (.ret .none)/\Q (.ref a) s') E s:=by
 refine dI λdv b4=>?_
 obtain⟨U,F,az,xm,G,ay,-,bF⟩:=CB (.ref a) [.int n t]
 obtain⟨S,s1,D,iS,-,bF⟩:=bF (.int n t)
 refine b4 ?_
 rw[az,CA]
 refine bV (xk ⟨_,aN,rfl⟩ (xn rfl (bp (bJ ?_))))
 rw[ay,s1]
 refine CD c3 aN λao e hs=>bV (gU (a:=none) rfl ?_)
 refine ae iS ?_
 refine bV (i5 (T:="int") (zX _ _ _) PySem.F.slot_int_index.lookup ?_)
 refine dI λdv b4=>?_
 obtain⟨N,cD,cS⟩:=bF (.builtin "int.__index__")
 refine b4 ?_
 refine ae cD ?_
 refine bp (rf (aK.of (gU (a:=n) rfl ?_)))
 refine ae (cS n h0 aB) ?_
 exact bV (lh (bV (p6 e (by simp[ha];exact fX λJ=>by lia) λaI ay r'=>bJ ⟨rfl,h aI ay ⟨r'.1.trans hs.1,λb n=>(r'.2 b n).trans (hs.2 b n)⟩⟩)))
theorem OD{a:aJ}{b:eM aU}{t:eZ}{Q:aj->aF->Prop}(c3:A.guards=some [])(aN:s.heap.get? a=some {cls:=.type "bytearray",data:=.bytearray #[] 0})(aO:b.size<=1000000)
  (h:∀ao,ao.get? a=some {cls:=.type "bytearray",data:=.bytearray b 0}->ju a s.heap ao->Q (.ref a) {s with heap:=ao}):
  aK true (model prog w) A (gg.«bytearray.__init__» ⟨[.ref a,.bytes b t],[]⟩) (λfin s'=>fin=.done (.ret .none)/\Q (.ref a) s') E s:=by
 refine dI λdv b4=>?_
 obtain⟨U,F,az,xm,G,ay,-,bF⟩:=CB (.ref a) [.bytes b t]
 obtain⟨S,s1,D,iS,⟨Y,l3,l4⟩,-⟩:=bF (.bytes b t)
 refine b4 ?_
 rw[az,CA]
 refine bV (xk ⟨_,aN,rfl⟩ (xn rfl (bp (bJ ?_))))
 rw[ay,s1]
 refine CD c3 aN λao e hs=>bV (gU (a:=none) rfl ?_)
 refine ae iS ?_
 refine bV (i5 (T:="bytes") (kz _ _ _) Ov ?_)
 refine ae l3 ?_
 refine bV (Cp ?_)
 rw[l4]
 exact bV (lh (bV (p6 e (by refine ae ha ?_;exact c2 ‹_› (cK _ _)) λaI ay r'=>bJ ⟨rfl,h aI ay ⟨r'.1.trans hs.1,λb n=>(r'.2 b n).trans (hs.2 b n)⟩⟩)))
end
section
variable{c:aG}{d:ab}{σ:aa Cell}{Q:af->aa Cell->Prop}
theorem SameBut.push{h ao:a8}{o:ew}(hs:ju h.objs.size (h.push o) ao):∀b o,h.get? b=some o->ao.get? b=some o:=λb o e=>
 (hs.2 b (Ic (lT e))).trans (lS _ e)
theorem CE{ρ:aT}{s:aF}{ao:a8}{b:aa aU}(R:Rep c ρ σ s.heap)(e:ao.get? s.heap.objs.size=some {cls:=.type "bytearray",data:=.bytearray b.toArray 0})(c':∀b o,s.heap.get? b=some o->ao.get? b=some o)(aO:b.length<=1000000)
  (h:Q (.cell σ.length) (σ++[.aZ b])):b5 c ρ s Q (.ref s.heap.objs.size) {s with heap:=ao}:=by
 have hv:=R.add (p:=(s.heap.objs.size,s.heap.objs.size)) (y:=.aZ b) c' f3 f3 ⟨e,aO,rfl⟩
 exact⟨.cell σ.length,_,_,hv,Ext.add c' f3 f3,b'.heap,lr (p:=(s.heap.objs.size,s.heap.objs.size)) (by(refine cv R.len ?_;refine ae (eU (eL _)) ?_);simp) rfl,h⟩
theorem CF{c:aG}{d:ab}{A:cy}(bP:d9 c d A):A.in1.in1.guards=some []:=bP.2.2.2.1
theorem OE{n:ah}(jB:c.clean=true)(h0:0<n)(aB:n<=1000000)(h:Q (.cell σ.length) (σ++[.aZ (ef n.toNat 0)])):cH c d (.type "bytearray") [.int n] [] σ Q:=ki λA s ρ v bP R V=>by
 obtain⟨t,rfl⟩:=V
 refine ae jB ?_
 refine CC (Cv _) (Cw _) (λa=>Cz a _) (OC (CF bP) (ic _ rfl) h0 aB λao e hs=>?_)
 exact CE R (by refine ae e ?_;simp) (SameBut.push hs) (by simp;assumption) h
theorem o4{b:aa aU}(jB:c.clean=true)(h:Q (.cell σ.length) (σ++[.aZ b])):cH c d (.type "bytearray") [.bytes b] [] σ Q:=ki λA s ρ v bP R V=>by
 obtain⟨t,rfl,aO⟩:=V
 refine ae jB ?_
 refine CC (Cv _) (Cw _) (λa=>Cz a _) (OD (CF bP) (ic _ rfl) (by refine ae fM ?_;exact aO) λao e hs=>?_)
 exact CE R e (SameBut.push hs) aO h
end
end
section
open Sem (wp)
set_option maxRecDepth 100000
theorem CG:typeLookup (.type "list") (dunderI "add")=pure (some (.builtin "list.__iadd__")):=by rw[ij,ik];kernel_rfl
theorem OF:lV "list" (dunderI "add") "list.__iadd__":=
 .of (owner:="list") (n:="__iadd__") (by rw[ij,ik];kernel_rfl) (by decide+kernel) (by decide+kernel) (by decide+kernel)
  (by first|exact .inl (by decide+kernel)|exact .inr (by decide+kernel)) (by rw[kS];kernel_rfl)
theorem OG:entryFor table "list.__iadd__"=some gg.«list.__iadd__»:=by first|exact q4 (by kernel_rfl)|exact q5 (by kernel_rfl)
theorem OH(a b:aj):argsOk "list.__iadd__" ⟨[a,b],[]⟩:=by kernel_rfl
theorem OI:isSeqSlot (some (.builtin "list.__iadd__"))=true:=by first|rfl|decide+kernel
section
variable{prog:fc}{w:cu}{A:cy}{E:aj->aF->Prop}{s:aF}{l b:aJ}{items h6:eM aj}{n cS:ab}
theorem OJ{Q:aj->aF->Prop}(a5:s.heap.get? l=some {cls:=.type "list",data:=.seq items n})(aq:s.heap.get? b=some {cls:=.type "list",data:=.seq h6 cS})(aO:items.size+h6.size<=sizeLine)
  (h:Q (.ref l) {s with heap:=s.heap.update l (lX λx=>x++h6)}):wpAny (model prog w) A (inplaceOp .Add (.ref l) (.ref b)) Q E s:=by
 have bL:s.TypeIs (.ref l) "list":=⟨_,a5,rfl⟩
 have gk:s.TypeIs (.ref b) "list":=⟨_,aq,rfl⟩
 refine nu ?_
 have OK:fillsInplaceSlot (.type "list") "add" (Operator.Add==.Add)=pure false:=by
  refine ae CG ?_
  have e:((some (vM "list.__iadd__")).isSome&&!isSeqSlot (some (vM "list.__iadd__")))=false:=by refine ae OI ?_;rfl
  exact congrArg (λb=>(pure b:bN aS)) e
 have OL:seqSlot? (.type "list") (dunderI "add")=pure (some (.builtin "list.__iadd__")):=PySem.seqSlot_of CG (by decide+kernel)
 refine bw (IE bL (bw (gU OK ?_)))
 refine ae (cC fV) ?_
 refine bw (wpAny_binaryOp1_none (nm:="add") bL gk noFill_list_add ?_)
 refine bw (gU OL ?_)
 exact bw (lh (zW OF bL OG (OH _ _) (AutoSeq1.list___iadd___list_list_0 l items n b h6 cS (extend_door aO) (c2 (jH _ _) aO)) ⟨a5,aq,h⟩))
theorem OM{k:ab}{x:ah}{u:eZ}{Q:aj->aF->Prop}(a5:s.heap.get? l=some {cls:=.type "list",data:=.seq items k})(h0:0<=x)(p5:x<=1000000)(aO:items.size<=10)
  (h:Q (.ref s.heap.objs.size) {s with heap:=s.heap.push {cls:=.type "list",data:=.seq (IG (λdU d5=>dU++d5) #[] (ef (if items.isEmpty=true then 0 else x.toNat) items))}}):
  wpAny (model prog w) A (binaryOp .Mult (.ref l) (.int x u)) Q E s:=by
 have hm:items.size*x.toNat<=10*1000000:=Nat.mul_le_mul aO (by exact ne λJ=>by lia)
 exact wpAny_binaryOp_repeat_ref (T:="list") (U:="int") (by decide) ⟨_,a5,rfl⟩ (λs'=>zX s' x u) noFill_list_mul PySem.F.fills_int_mul PySem.F.slot_int_rmul repeat_list PySem.F.slot_int_index.lookup
  (zW PySem.F.slot_int_rmul (zX s x u) PySem.F.entry_int_rmul (PySem.F.args_int_rmul_2 _ _) (int___rmul___int_list x u l items k)
   ⟨a5,rfl,⟨_,a5,rfl⟩,zW PySem.F.slot_list_mul ⟨_,a5,rfl⟩ PySem.F.entry_list_mul (PySem.F.args_list_mul_2 _ _)
    (AutoListH.list___mul___list_int_3 l items k x u (by simp[Builtin.List.listFitsIndex];lia) (by lia) (by simp[Builtin.List.listTooLong,sizeLine];exact c2 ‹_› (cK _ _)))
    ⟨a5,h⟩⟩)
end
section
variable{c:aG}{d:ab}{σ:aa Cell}
theorem foldl_rep{α:Type}(x:α):∀(k:ab) (acc:eM α),IG (λdU d5=>dU++d5) acc (ef k #[x])=(acc.toList++ef k x).toArray
 |0,acc=>by simp
 |k+1,acc=>by rw[zY,List.foldl_cons,foldl_rep x k];simp[zY]
theorem CH{ρ:aT}{h:a8}{a:af}{v:aj}(V:bq c ρ h a v):∀k,bT c ρ h (ef k a) (ef k v)
 |0=>iw
 |k+1=>jw V (CH V k)
theorem mul_one{a:af}{n:ah}{Q:af->aa Cell->Prop}(h0:0<=n)(aB:n<=1000000)(h:Q (.lst (ef n.toNat a)) σ):cm c d (binaryOp .Mult) (.lst [a]) (.int n) σ Q:=by
 intro A s ρ v w _ R V ⟨t,hw⟩
 subst hw
 obtain⟨l,items,k,rfl,nb,a5,⟨x,r,rfl,X,rfl⟩,aO⟩:=V
 refine aK.of<|OM a5 h0 aB (by simp) ?_
 have e:IG (λdU d5=>dU++d5) #[] (ef (if([x].toArray:eM aj).isEmpty=true then 0 else n.toNat) [x].toArray)=(ef n.toNat x).toArray:=by
  have:([x].toArray:eM aj).isEmpty=false:=rfl
  (refine ae this ?_;refine ae (cC (by decide)) ?_)
  exact(foldl_rep x n.toNat #[]).trans (by simp)
 refine ae e ?_
 have c':=jK s.heap {cls:=.type "list",data:=.seq (ef n.toNat x).toArray}
 exact⟨.lst (ef n.toNat a),ρ,σ,R.grow c',Ext.grow c',b'.heap,⟨_,_,_,rfl,R.absent f3,ic _ rfl,CH (X.ext R (Ext.grow c')) _,by simp;assumption⟩,h⟩
theorem ON{i:ab}{as bs:aa af}{Q:af->aa Cell->Prop}(aP:σ[i]? =some (.list as))(aO:as.length+bs.length<=1000000)(h:Q (.cell i) (σ.set i (.list (as++bs)))):cm c d (inplaceOp .Add) (.cell i) (.lst bs) σ Q:=by
 intro A s ρ v w _ R V W
 obtain⟨p,aW,rfl⟩:=V
 obtain⟨items,n,aN,cq,qh,he⟩:=R.cells i p _ aW aP
 obtain⟨l,h6,cS,rfl,nb,a5,k4,k5⟩:=W
 have az:=cq.length
 have ay:=k4.length
 have c':∀b o,b≠p.1->b≠p.2->s.heap.get? b=some o->(s.heap.update p.1 (lX λx=>x++h6.toArray)).get? b=some o:=λb o n J e=>((pH ..).2 b n).trans e
 refine aK.of<|OJ aN a5 (by(refine ae fM ?_;refine ae fM ?_;refine ae az ?_;refine ae ay ?_;refine ae ha ?_);exact c2 ‹_› (cK _ _)) ?_
 have e:(s.heap.update p.1 (lX λx=>x++h6.toArray)).get? p.1=some {cls:=.type "list",data:=.seq (items.toArray++h6.toArray) (if(items.toArray++h6.toArray).size==items.toArray.size then n else n+1)}:=by
  rw[od _ aN (by rw[mapSeq_app];rfl),mapSeq_app]
 have X:Ext ρ ρ s.heap (s.heap.update p.1 (lX λx=>x++h6.toArray)):=Ext.change aW c'
 have C:ek c ρ (s.heap.update p.1 (lX λx=>x++h6.toArray)) p (.list (as++bs)):=⟨items++h6,_,by refine ae e ?_;simp;rfl,(cq.ext R X).append (k4.ext R X),by simpa using aO,he⟩
 exact⟨.cell i,ρ,_,R.change aW c' C,X,b'.heap,lr (X.get aW) rfl,h⟩
theorem IntsAre.at{vs:aa aj}{ns:aa ah}(h:IntsAre vs ns):∀{k:ab},k<ns.length->∃t,vs[k]? =some (.int (ns.getD k 0) t):=by
 induction h with
 |nil=>intro k h;simp at h
 |cons n t r cF=>
  intro k h
  induction k with
  |zero=>exact⟨t,rfl⟩
  |succ k=>obtain⟨u,e⟩:=cF (k:=k) (by simpa using h);exact⟨u,by simpa using e⟩
theorem OO{ns:aa ah}{i:ah}{Q:af->aa Cell->Prop}(h0:0<=i)(aB:i<ns.length)(aO:ns.length<=1000000)(h:Q (.int (ns.getD i.toNat 0)) σ):cm c d getItem (.ey ns) (.int i) σ Q:=by
 intro A s ρ v w _ R V W
 obtain⟨t,rfl⟩:=W
 obtain⟨l,items,rfl,nb,aN,cq⟩:=V
 obtain⟨u,jk⟩:=IntsAre.at cq (k:=i.toNat) (by exact nl λJ=>by lia)
 exact aK.of<|Iw aN h0 (by exact fy λJ=>by lia) (by simpa using jk) (b5.now R e4 h)
end
end
section
open Sem (wp)
noncomputable def uA(a b:af)(σ:aa Cell)(Q:af->aa Cell->Prop):Prop:=
 match a with
 |.ey ns=>dE b λi=>(0<=i/\i<ns.length/\ns.length<=1000000)/\Q (.int (ns.getD i.toNat 0)) σ
 |.cell j=>dE b λi=>hk σ j λx=>(match x with
  |.aZ b=>(0<=i/\i<b.length)/\Q (.int (b.getD i.toNat 0).toNat) σ
  |.list as=>rY as i σ Q
  |_=>bB)
 |a=>Bq a b σ Q
set_option tactic.hygienic true in
theorem OP{c:aG}{d:ab}{σ:aa Cell}{a b:af}{Q:af->aa Cell->Prop}(h:uA a b σ Q):l9 σ a/\cm c d getItem a b σ Q:=by
 induction a using af.cs
 case ey ns=>exact kf (P:=λb=>l9 σ _/\cm c d getItem _ b σ Q) h λi h=>⟨trivial,OO h.1.1 h.1.2.1 h.1.2.2 h.2⟩
 case cell j=>
  refine kf (P:=λb=>l9 σ _/\cm c d getItem _ b σ Q) h λi h=>?_
  obtain⟨x,aA,h⟩:=jg h
  induction x
  case aZ=>exact⟨.inr (.inr ⟨_,aA⟩),N4 aA h.1.1 h.1.2 h.2⟩
  case list=>
   obtain⟨h0,aB,a,e,q⟩:=uc h
   exact⟨.inl ⟨_,aA⟩,item_list aA h0 e q⟩
  all_goals exact d1 h
 all_goals exact LR h
noncomputable def OQ(Q:af->aa Cell->Prop)(a b:af)(σ:aa Cell):Prop:=uA a b σ Q
noncomputable def OR(i:TE)(c:aG)(d:ab)(m:aE)(Q:af->aa Cell->Prop)(a:af)(σ:aa Cell):Prop:=i c d m σ (OQ Q a)
noncomputable def OS(t i:TE):TE:=λc d m σ Q=>t c d m σ (OR i c d m Q)
theorem da{S:SC}{o i:a3}{pos:bD}{t gz:TE}(aB:cA S o t)(aI:cA S i gz):cA S (.Subscript o i pos) (OS t gz):=λc d env m σ Q F h=>
 A6 ((aB c d env m σ _ F h).mono λa ax k=>(aI c d env m ax _ F k).mono λb bt k=>OP k)
noncomputable def CI(a:af)(lo a7:bh ah)(σ:aa Cell)(Q:af->aa Cell->Prop):Prop:=match a with
 |.bytes b=>Q (.bytes (fu b lo a7)) σ
 |.cell j=>hk σ j λx=>(match x with|.aZ b=>oS σ (.aZ (fu b lo a7)) λn ax=>Q (.cell n) ax|_=>bB)
 |_=>bB
set_option tactic.hygienic true in
theorem OT{c:aG}{d:ab}{σ:aa Cell}{a:af}{lo a7:bh ah}{Q:af->aa Cell->Prop}(h:CI a lo a7 σ Q):l9 σ a/\t9 c d a lo a7 σ Q:=by
 induction a using af.cs
 case bytes=>exact⟨trivial,Lw h⟩
 case cell j=>
  obtain⟨x,aA,h⟩:=jg h
  induction x
  case aZ=>exact⟨.inr (.inr ⟨_,aA⟩),N5 aA (rW (K:=λn ax=>Q (.cell n) ax) h)⟩
  all_goals exact d1 h
 all_goals exact d1 h
noncomputable def OU(Q:af->aa Cell->Prop)(a:af)(l u:bh ah)(σ:aa Cell):Prop:=CI a l u σ Q
noncomputable def OV(a7:oW)(c:aG)(d:ab)(m:aE)(Q:af->aa Cell->Prop)(a:af)(l:bh ah)(σ:aa Cell):Prop:=a7 c d m σ (OU Q a l)
noncomputable def OW(lo a7:oW)(c:aG)(d:ab)(m:aE)(Q:af->aa Cell->Prop)(a:af)(σ:aa Cell):Prop:=lo c d m σ (OV a7 c d m Q a)
noncomputable def OX(t:TE)(lo a7:oW):TE:=λc d m σ Q=>t c d m σ (OW lo a7 c d m Q)
theorem kk{S:SC}{o:a3}{l u:bh a3}{sp pos:bD}{t:TE}{tl xo:oW}(aB:cA S o t)(aI:uj S l tl)(cg:uj S u xo):cA S (.Subscript o (.Slice l u none sp) pos) (OX t tl xo):=λc d env m σ Q F h=>
 Lv ((aB c d env m σ _ F h).mono λa ax k=>(aI c d env m ax _ F k).mono λlo bt k=>(cg c d env m bt _ F k).mono λa7 b0 k=>OT k)
noncomputable def CJ(b i a:af)(σ:aa Cell)(Q:aa Cell->Prop):Prop:=dE i λn=>match b with
 |.cell j=>hk σ j λx=>(match x with
  |.aZ b=>xa a λy=>(0<=n/\n<b.length/\0<=y/\y<256)/\md σ j (.aZ (b.set n.toNat y.toNat.toUInt8)) Q
  |.list as=>(0<=n/\n<as.length)/\md σ j (.list (as.set n.toNat a)) Q
  |_=>bB)
 |_=>bB
theorem OY{c:aG}{d:ab}{σ:aa Cell}{b i a:af}{Q:aa Cell->Prop}(h:CJ b i a σ Q):ow c d setItem b i a σ Q:=by
 refine kf (P:=λi=>ow c d setItem b i a σ Q) h λn h=>?_
 induction b using af.cs
 case cell j=>
  obtain⟨x,aA,h⟩:=jg h
  induction x
  case aZ=>
   obtain⟨y,rfl,h⟩:=BG h
   exact N6 aA h.1.1 h.1.2.1 h.1.2.2.1 h.1.2.2.2 (oT h.2)
  case list=>exact set_list aA h.1.1 h.1.2 (oT h.2)
  all_goals exact d1 h
 all_goals exact d1 h
noncomputable def OZ(a:af)(Q:aa Cell->Prop)(b e:af)(σ:aa Cell):Prop:=CJ b e a σ Q
noncomputable def O0(i:TE)(c:aG)(d:ab)(m:aE)(a:af)(Q:aa Cell->Prop)(b:af)(σ:aa Cell):Prop:=i c d m σ (OZ a Q b)
noncomputable def O1(o i:TE):iy:=λc d a m σ Q=>o c d m σ (O0 i c d m a (Q m))
theorem CK{S:SC}{o i:a3}{pos:bD}{t gz:TE}(aB:cA S o t)(aI:cA S i gz):k3 S (.Subscript o i pos) (O1 t gz):=λc d env a m σ Q F h=>
 A7 ((aB c d env m σ _ F h).mono λb ax k=>(aI c d env m ax _ F k).mono λe bt k=>OY k)
noncomputable def CL(k:ab)(b a:af)(σ:aa Cell)(Q:aa Cell->Prop):Prop:=match b with
 |.cell j=>hk σ j λx=>(match x with|.dict es=>short es 999 (rI es k a λhR=>md σ j (.dict hR) Q)|_=>bB)
 |_=>bB
set_option tactic.hygienic true in
theorem O2{c:aG}{d:ab}{σ:aa Cell}(H:c.Ok){k:ab}{x:au}(aA:c.names[k]? =some x){b a:af}{Q:aa Cell->Prop}(h:CL k b a σ Q):ow c d setItem b (.str x) a σ Q:=by
 induction b using af.cs
 case cell j=>
  obtain⟨y,bM,h⟩:=jg h
  induction y
  case dict=>
   obtain⟨l,h⟩:=xb h
   exact set_dict H aA bM (by exact qW ‹_›) (oT (wN (K:=λhR=>md σ j (.dict hR) Q) h))
  all_goals exact d1 h
 all_goals exact d1 h
noncomputable def O3(k:ab)(a:af)(Q:aa Cell->Prop)(b:af)(σ:aa Cell):Prop:=CL k b a σ Q
noncomputable def O4(o:TE)(k:ab):iy:=λc d a m σ Q=>o c d m σ (O3 k a (Q m))
theorem m1{S:SC}{o:a3}{x:au}{n:ab}{dj pos:bD}{t:TE}{k:ab}(aA:dw S.N k=some x)(aB:cA S o t):k3 S (.Subscript o (.Constant (.str x) n dj) pos) (O4 t k):=λc d env a m σ Q F h=>
 A7 ((aB c d env m σ _ F h).mono λb ax q=>tP rfl (O2 F.F.H (by(refine ae F.N ?_;refine ae hB ?_);exact aA) q))
noncomputable def O5(a b:af)(σ:aa Cell)(Q:af->aa Cell->Prop):Prop:=dE b λn=>lstK a λas=>match as with
 |[x]=>(0<=n/\n<=1000000)/\Q (.lst (ef n.toNat x)) σ
 |_=>bB
noncomputable def O6(Q:af->aa Cell->Prop)(a b:af)(σ:aa Cell):Prop:=O5 a b σ Q
noncomputable def O7(r:TE)(c:aG)(d:ab)(m:aE)(Q:af->aa Cell->Prop)(a:af)(σ:aa Cell):Prop:=r c d m σ (O6 Q a)
noncomputable def O8(l r:TE):TE:=λc d m σ Q=>l c d m σ (O7 r c d m Q)
theorem CM{S:SC}{l r:a3}{pos:bD}{tl gn:TE}(aB:cA S l tl)(aI:cA S r gn):cA S (.BinOp l .Mult r pos) (O8 tl gn):=λc d env m σ Q F h=>
 v7 ((aB c d env m σ _ F h).mono λa ax k=>(aI c d env m ax _ F k).mono λb bt k=>by
  refine kf (P:=λb=>cm c d _ a b bt Q) k λn k=>Bv (P:=λa=>cm c d _ a _ bt Q) k λas k=>?_
  match as,k with
  |[x],k=>exact mul_one k.1.1 k.1.2 k.2
  |[],k|_::_::_,k=>exact d1 k)
noncomputable def O9(a b:af)(σ:aa Cell)(Q:af->aa Cell->Prop):Prop:=match a,b with
 |.cell j,.lst bs=>hk σ j λx=>(match x with|.list as=>as.length+bs.length<=1000000/\md σ j (.list (as++bs)) λax=>Q (.cell j) ax|_=>bB)
 |_,_=>bB
noncomputable def O'(a:af)(Q:af->aa Cell->Prop)(b:af)(σ:aa Cell):Prop:=O9 a b σ Q
noncomputable def Pa(i:ab)(t:TE):br:=λc d m σ Q=>p7 m i λa=>t c d m σ (O' a (BU i m Q))
theorem Pb{S:SC}{i:ab}{x:au}{ox pos:bD}{e:a3}{t:TE}(aA:dw S.ls i=some x)(aB:cA S e t):dt S (.AugAssign (.Name x ox) .Add e pos) (Pa i t):=λc d env m σ Q F h=>by
 obtain⟨a,e,k⟩:=rV h
 refine AF F.E (hB.trans aA) (Az F.E (hB.trans aA) e ((aB c d env m σ _ F k).mono λb ax k=>?_))
 induction a using af.cs with
 |cell j=>
  induction b using af.cs with
  |lst bs=>
   obtain⟨y,bM,k⟩:=jg k
   induction y with
   |list as=>
    have q:=oT (K:=λax=>nO m i (.cell j) λm₁=>Q .next m₁ ax) k.2
    exact ON bM k.1 (p8 (K:=λm₁=>Q .next m₁ _) q)
   |_=>exact k.elim
  |_=>exact k.elim
 |_=>exact k.elim
end
section
open Sem (wp)
set_option maxRecDepth 100000
theorem Pc(K:i2):findCls K (.type "int") (.type "type") (PySem.Str.ofString "from_bytes")=some (.get (.builtin "classmethod_descriptor.__get__") (.builtin "int.from_bytes") .none (.type "int")):=by kernel_rfl
theorem Pd{prog:fc}{w:cu}{A:cy}{E:aj->aF->Prop}{s:aF}{K:i2}{f6:bN aS}{Q:aj×aa aj->aF->Prop}(X:K.In s.heap)
  (h:Q (.ref s.heap.objs.size,[]) {s with heap:=s.heap.push KFB.bound,toks:=s.toks+1}):
  wpAny (model prog w) A (getMethod (.type "int") (PySem.Str.ofString "from_bytes") f6) Q E s:=by
 have Pe:opaqueClassAbove (.type "int")=pure none:=by unfold opaqueClassAbove;dsimp only;refine ae (show Manifest.isStub "int"=false by decide+kernel) ?_;rfl
 have bb:typeOf (.type "int")=pure (.type "type"):=by first|rfl|kernel_rfl
 have CN:la (model prog w) s.heap (typeOf (.type "int")) (.type "type"):=Looks.of_pure bb
 have c3:findIn K (.type "type") "__getattribute__"=some (some (.builtin "type.__getattribute__")):=type_tga
 unfold getMethod specialOf
 refine bw (bw (CN.here ((IB X c3).here ?_)))
 dsimp only
 refine ae (cV canon_tga) ?_
 refine bw (tr (Q:=λv=>Q (v,[])) (E:=E) ?_ (λJ J z=>dn z) λJ J z=>z)
 have Pf:la (model prog w) s.heap (opaqueClassAbove (.type "int")) none:=Looks.of_pure Pe
 refine cls_open X Pf CN c3 (looks_hook X (r:=none) (by rfl)) (by rfl) (Pc K) ?_
 refine bw (nu (lb KFB.slot_get KFB.type_fb KFB.entry_get (KFB.run_get ⟨_,rfl,dn (dn ?_)⟩) (KFB.args_get _ _ _)))
 exact h
noncomputable def lG(b:aa aU):ah:=KFB.value (b.map λc=>((c.toNat:ab):ah))
section
variable{c:aG}{d:ab}{σ:aa Cell}
theorem Pg{Q:af->aa af->aa Cell->Prop}(H:c.Ok)(q:Q (.ir [.builtin "int.from_bytes",.type "int"]) [] σ):p3 c d (PySem.Str.ofString "from_bytes") (.val (.type "int")) σ Q:=by
 intro A s ρ v f6 _ R V
 obtain rfl:v=_:=V
 have X:c.K.In s.heap:=H.fZ.keeps λb o e=>R.stays b o e
 have c':=jK s.heap KFB.bound
 exact aK.of (Pd X ⟨.ir [.builtin "int.from_bytes",.type "int"],[],ρ,σ,R.grow c',Ext.grow c',b'.of,⟨_,rfl,R.absent f3,ic _ rfl⟩,iw,q⟩)
theorem Ph{b:aa aU}{Q:af->aa Cell->Prop}(a5:b.length<=8)(h:Q (.int (lG b)) σ):oM c d (.ir [.builtin "int.from_bytes",.type "int"]) [.bytes b,.str (PySem.Str.ofString "big")] [] σ Q:=by
 intro A s ρ hi vs kvs _ R F V W
 obtain⟨q,rfl,nb,aN⟩:=F
 obtain⟨v,w,e,⟨t,cx,aO⟩,⟨u,hw⟩⟩:=B3 V
 subst e cx hw
 obtain rfl:=uu W
 exact aK.of (KFB.call_of (z:=lG b) aN (λz=>KFB.tree_big (by refine ae fM ?_;exact a5) z) (b5.same R e4 h))
end
noncomputable def CO(a:af)(K:au->Prop):Prop:=match a with|.str x=>K x|_=>bB
theorem Pj{P:af->Prop}{a:af}{K:au->Prop}(h:CO a K)(k:∀x,K x->P (.str x)):P a:=by
 induction a using af.cs
 case str=>exact k _ h
 all_goals exact d1 h
noncomputable def CP(as:aa af)(K:af->af->Prop):Prop:=match as with|[a,b]=>K a b|_=>bB
theorem Pk{P:aa af->Prop}{as:aa af}{K:af->af->Prop}(h:CP as K)(k:∀a b,K a b->P [a,b]):P as:=match as,h with
 |[a,b],h=>k a b h
noncomputable def Pl(Q:af->aa Cell->Prop)(as:aa af)(σ:aa Cell):Prop:=CP as λa b=>jC a bB (λJ=>bB) (λJ=>bB) λy=>CO b λx=>(y.length<=8/\x=PySem.Str.ofString "big")/\Q (.int (lG y)) σ
noncomputable def CQ(a:af)(K:aj->Prop):Prop:=match a with|.val v=>K v|_=>bB
theorem Pm{P:af->Prop}{a:af}{K:aj->Prop}(h:CQ a K)(k:∀v,K v->P (.val v)):P a:=by
 induction a using af.cs
 case val=>exact k _ h
 all_goals exact d1 h
noncomputable def Pn(i:ab)(args:fl):TE:=λc d m σ Q=>kH c.iu i λp=>CQ p.2 λv=>v=.type "int"/\args c d m σ (Pl Q)
theorem Po{S:SC}{i:ab}{x:au}{p apos pos:bD}{args:aa a3}{fv:fl}(aA:dw S.iJ i=some x)(c3:oU S.sc x=true)(bL:l1 args=true)
  (aY:decide (args.length+([]:aa jG).length+(if([]:aa jG).isEmpty then 0 else 1)<30)=true)(aW:(apos.endLine==pos.line)=true)(aB:mf S args fv):
  cA S (.Call (.Attribute (.Name x p) (PySem.Str.ofString "from_bytes") apos) args [] pos) (Pn i fv):=λc d env m σ Q F h=>by
 refine A3 F.F.H bL rfl aV aY aW (h3 aA c3 c d env m σ _ F ?_)
 obtain⟨q,e,h⟩:=p9 h
 refine Bl e (Pm (P:=λa=>p3 c d _ a σ λf first bt=>wU c f/\i9 c d env S.ls (spliced (backTo pos (starEach args env))) m bt λas b0=>nJ c d env S.ls pos [] m b0 λks dY=>ks.length=0/\oM c d f (first++as) ((kD []).zip ks) dY Q) h λv h=>?_)
 obtain⟨rfl,h⟩:=h
 refine Pg F.F.H ⟨trivial,(aB c d env m σ _ pos F h).mono λas ax k=>kws_nil ⟨rfl,?_⟩⟩
 exact Pk (P:=λas=>oM c d _ as [] ax Q) k λa b k=>jQ (P:=λa=>oM c d _ [a,b] [] ax Q) k d1 no no λy k=>Pj (P:=λb=>oM c d _ [_,b] [] ax Q) k λx k=>k.1.2▸Ph k.1.1 k.2
end
section
open Sem (wp)
set_option maxRecDepth 100000
open PySem.Builtin in
theorem Pp(t u:eZ):«str.encode» ⟨[.str (PySem.Str.ofString "") t,.str (PySem.Str.ofString "utf-8") u],[]⟩=(mkBytes #[]>>=λv=>ret v):=by kernel_rfl
open PySem.Builtin in
theorem Pq(t u:eZ):«str.encode» ⟨[.str (PySem.Str.ofString "a") t,.str (PySem.Str.ofString "utf-8") u],[]⟩=(mkBytes #[97]>>=λv=>ret v):=by kernel_rfl
open PySem.Builtin in
theorem Pr(t u:eZ):«str.encode» ⟨[.str (PySem.Str.ofString "é") t,.str (PySem.Str.ofString "utf-8") u],[]⟩=(mkBytes #[195,169]>>=λv=>ret v):=by kernel_rfl
open PySem.Builtin in
theorem Pt(t u:eZ):«str.encode» ⟨[.str (PySem.Str.ofString "€z") t,.str (PySem.Str.ofString "utf-8") u],[]⟩=(mkBytes #[226,130,172,122]>>=λv=>ret v):=by kernel_rfl
theorem CR(a b:aj):argsOk "bytes.decode" ⟨[a,b],[]⟩:=by kernel_rfl
section
variable{prog:fc}{w:cu}{A:cy}{E:aj->aF->Prop}{s:aF}
theorem Pu{x:au}{b:eM aU}{t u:eZ}{Q:aj->aF->Prop}(e:∀t u,gg.«str.encode» ⟨[.str x t,.str (PySem.Str.ofString "utf-8") u],[]⟩=(mkBytes b>>=λv=>ret v))(aO:b.size<=10)(h:Q (.bytes b s.toks) {s with toks:=s.toks+1}):
  wpAny (model prog w) A (call (.builtin "str.encode") [.str x t,.str (PySem.Str.ofString "utf-8") u]) Q E s:=by
 refine lb PySem.F.slot_str_encode (typeIs_str _ _ _) PySem.F.entry_str_encode ?_ (PySem.F.args_str_encode_2 _ _)
 rw[e]
 exact bw (wpAny_mkBytes (dn ⟨_,rfl,h⟩) (by refine ae ha ?_;exact c2 ‹_› (cK _ _)))
open PySem.Builtin in
theorem Pw(c:aU)(cs:aa aU)(t u:eZ):«bytes.decode» ⟨[.bytes (c::cs).toArray t,.str (PySem.Str.ofString "utf-8") u],[]⟩=(mkStr (PySem.Str.ofString "utf-8")>>=λJ=>mkStr (PySem.Str.ofString "utf-8")>>=λe=>mkStr (PySem.Str.ofString "bytes.decode")>>=λd=>
 call (.builtin "_codecs.decode.text") [.bytes (c::cs).toArray t,e,.none,d]>>=λv=>ret v):=by kernel_rfl
open PySem.Builtin in
theorem Px(t u:eZ):«bytes.decode» ⟨[.bytes #[] t,.str (PySem.Str.ofString "utf-8") u],[]⟩=(rule "bytes.decode.empty">>=λJ=>retStr Str.empty):=by kernel_rfl
theorem Py{c:aU}{cs:aa aU}{x:au}{n:ab}{t u:eZ}{Q:aj->aF->Prop}(hd:∀id,gg._codecs.runDecoder id gg._codecs.utf8Decoder none true (c::cs).toArray 0 []=pure (x.cps,n))(aO:x.length<=sizeLine)
  (h:∀jP k,Q (.str x jP) {s with toks:=k}):wpAny (model prog w) A (call (.builtin "bytes.decode") [.bytes (c::cs).toArray t,.str (PySem.Str.ofString "utf-8") u]) Q E s:=by
 refine lb ab7 (kz _ _ _) ab8 ?_ (CR _ _)
 rw[Pw]
 refine bw (zZ ?_ (by decide))
 refine bw (zZ ?_ (by decide))
 refine bw (zZ ?_ (by decide))
 exact bw (call_function_meets KBd.kind_text KBd.plain_text KBd.entry_text (KBd.args_text _ _ _ _) (KBd.meets_text hd) ⟨aO,dn ⟨_,rfl,h _ _⟩⟩)
theorem Pz{t u:eZ}{Q:aj->aF->Prop}(h:∀jP k,Q (.str Str.empty jP) {s with toks:=k}):wpAny (model prog w) A (call (.builtin "bytes.decode") [.bytes #[] t,.str (PySem.Str.ofString "utf-8") u]) Q E s:=by
 refine lb ab7 (kz _ _ _) ab8 ?_ (CR _ _)
 rw[Px]
 refine bw (lh ?_)
 exact bw (zZ (dn ⟨_,rfl,h _ _⟩) (by decide))
end
noncomputable def o5:ab->au
 |0=>PySem.Str.ofString ""
 |1=>PySem.Str.ofString "a"
 |2=>PySem.Str.ofString "é"
 |_=>PySem.Str.ofString "€z"
noncomputable def eg:ab->aa aU
 |0=>[]
 |1=>[97]
 |2=>[195,169]
 |_=>[226,130,172,122]
section
variable{c:aG}{d:ab}{σ:aa Cell}{Q:af->aa Cell->Prop}
theorem uB{x:au}{b:aa aU}(e:∀t u,gg.«str.encode» ⟨[.str x t,.str (PySem.Str.ofString "utf-8") u],[]⟩=(mkBytes b.toArray>>=λv=>ret v))(aO:b.length<=10)(h:Q (.bytes b) σ):
  cH c d (.builtin "str.encode") [.str x,.str (PySem.Str.ofString "utf-8")] [] σ Q:=call2 λA s ρ v w bP R V W=>by
 obtain⟨t,rfl⟩:=V
 obtain⟨u,rfl⟩:=W
 exact aK.of<|Pu e (by refine ae fM ?_;exact aO) (b5.same R (mI (by exact c2 ‹_› (cK _ _))) h)
theorem CS(i:ab)(h:Q (.bytes (eg i)) σ):cH c d (.builtin "str.encode") [.str (o5 i),.str (PySem.Str.ofString "utf-8")] [] σ Q:=by
 match i,h with
 |0,h=>exact uB Pp (by decide) h
 |1,h=>exact uB Pq (by decide) h
 |2,h=>exact uB Pr (by decide) h
 |_+3,h=>exact uB Pt (k' rfl) h
theorem xp{x:au}{ip:aU}{cs:aa aU}{n:ab}(hd:∀id,gg._codecs.runDecoder id gg._codecs.utf8Decoder none true (ip::cs).toArray 0 []=pure (x.cps,n))(aO:x.length<=sizeLine)(h:Q (.str x) σ):
  cH c d (.builtin "bytes.decode") [.bytes (ip::cs),.str (PySem.Str.ofString "utf-8")] [] σ Q:=call2 λA s ρ v w bP R V W=>by
 obtain⟨t,rfl,qh⟩:=V
 obtain⟨u,rfl⟩:=W
 exact aK.of<|Py hd aO λjP k=>b5.same R vZ h
theorem PA(i:ab)(h:Q (.str (o5 i)) σ):cH c d (.builtin "bytes.decode") [.bytes (eg i),.str (PySem.Str.ofString "utf-8")] [] σ Q:=by
 match i,h with
 |0,h=>
  refine call2 λA s ρ v w bP R V W=>?_
  obtain⟨t,rfl,qh⟩:=V
  obtain⟨u,rfl⟩:=W
  exact aK.of<|Pz λjP k=>b5.same R vZ h
 |1,h=>exact xp (n:=1) (λid=>by kernel_rfl) (by refine ae ha ?_;decide) h
 |2,h=>exact xp (n:=2) (λid=>by kernel_rfl) (by refine ae ha ?_;decide) h
 |_+3,h=>exact xp (x:=PySem.Str.ofString "€z") (n:=4) (λid=>by kernel_rfl) (by refine ae ha ?_;decide) h
end
end
section
open Sem (wp)
theorem PB(elt target iter cnd:a3)(scope:dz)(pos:bD)(it acc:aj)(env:bu):
  compTurn (.ListComp elt [⟨target,iter,[cnd],0⟩] scope pos) 0 it acc env=(standAt iter.pos>>=λJ=>pyNext it>>=λr=>match r with
   |none=>pure (.done .next)
   |some v=>letOwnedTupleGo target it v>>=λJ=>assign target env v>>=λJ=>isTrue cnd env (eval cnd env)>>=λok=>
    if ok=true then(eval elt env>>=λx=>call (.builtin "list.append") [acc,x]>>=λJ=>pure ())>>=λJ=>again (.compLoop (.ListComp elt [⟨target,iter,[cnd],0⟩] scope pos) 0 it acc env)
    else again (.compLoop (.ListComp elt [⟨target,iter,[cnd],0⟩] scope pos) 0 it acc env)):=by
 rw[compTurn_list]
 simp only[List.forIn_cons,List.forIn_nil,bind_assoc,pure_bind,vE]
 congr 1
section
variable{k:aS}{prog:fc}{w:cu}{A:cy}{s:aF}{R:iG->aF->Prop}
theorem PC{elt target iter:a3}{scope:dz}{pos:bD}{it acc:aj}{env:bu}(I:ab->aF->Prop)
  (turn:∀n s,I n s->aK k (model prog w) A (pyNext it) (λr s₁=>match r with
   |none=>R (.ok .next) s₁
   |some v=>wpAny (model prog w) A (letOwnedTupleGo target it v) (λJ mc=>aK k (model prog w) A (assign target env v) (λJ cj=>aK k (model prog w) A (eval elt env) (λx bE=>
    aK k (model prog w) A (call (.builtin "list.append") [acc,x]) (λJ cL=>∃m,m<n/\I m cL) cb bE) cb cj) cb mc) cb s₁) cb s)
  (n:ab)(h:I n s):ea k (model prog w) A (.compLoop (.ListComp elt [⟨target,iter,[],0⟩] scope pos) 0 it acc env) R s:=by
 refine tH rfl trivial I (λn s gv=>?_) n h
 refine nA (bo (E:=cb) ?_ (λJ J x=>x) λJ J x=>x.elim)
 rw[compTurn_list1]
 refine bV (dA (bp (bo (turn n s gv) (λr s₁ bK=>?_) λJ J ao=>ao)))
 induction r with
 |none=>exact bJ bK
 |some v=>
  refine bV (tr bK (λJ mc rO=>?_) λJ J ao=>ao.elim)
  refine bp (bo rO (λJ cj cN=>bp (bp (bo cN (λx bE dG=>bp (bo dG (λJ cL fh=>bJ (bJ (.inl ⟨rfl,fh⟩))) λJ J ao=>ao)) λJ J ao=>ao))) λJ J ao=>ao)
theorem PD{elt target iter cnd:a3}{scope:dz}{pos:bD}{it acc:aj}{env:bu}(I:ab->aF->Prop)
  (turn:∀n s,I n s->aK k (model prog w) A (pyNext it) (λr s₁=>match r with
   |none=>R (.ok .next) s₁
   |some v=>wpAny (model prog w) A (letOwnedTupleGo target it v) (λJ mc=>aK k (model prog w) A (assign target env v) (λJ cj=>aK k (model prog w) A (isTrue cnd env (eval cnd env)) (λok xq=>match ok with
    |true=>aK k (model prog w) A (eval elt env) (λx bE=>aK k (model prog w) A (call (.builtin "list.append") [acc,x]) (λJ cL=>∃m,m<n/\I m cL) cb bE) cb xq
    |false=>∃m,m<n/\I m xq) cb cj) cb mc) cb s₁) cb s)
  (n:ab)(h:I n s):ea k (model prog w) A (.compLoop (.ListComp elt [⟨target,iter,[cnd],0⟩] scope pos) 0 it acc env) R s:=by
 refine tH rfl trivial I (λn s gv=>?_) n h
 refine nA (bo (E:=cb) ?_ (λJ J x=>x) λJ J x=>x.elim)
 rw[PB]
 refine bV (dA (bp (bo (turn n s gv) (λr s₁ bK=>?_) λJ J ao=>ao)))
 induction r with
 |none=>exact bJ bK
 |some v=>
  refine bV (tr bK (λJ mc rO=>?_) λJ J ao=>ao.elim)
  refine bp (bo rO (λJ cj cN=>bp (bo cN (λok xq CT=>?_) λJ J ao=>ao)) λJ J ao=>ao)
  induction ok with
  |true=>exact bp (bp (bo CT (λx bE dG=>bp (bo dG (λJ cL fh=>bJ (bJ (.inl ⟨rfl,fh⟩))) λJ J ao=>ao)) λJ J ao=>ao))
  |false=>exact bJ (.inl ⟨rfl,CT⟩)
noncomputable def xr(k:aS)(M:gd)(A:cy)(elt:a3)(acc:aj)(env:bu)(P:aF->Prop)(s:aF):Prop:=aK k M A (eval elt env) (λx bE=>aK k M A (call (.builtin "list.append") [acc,x]) (λJ=>P) cb bE) cb s
noncomputable def PE(k:aS)(M:gd)(A:cy)(elt:a3)(cnd:bh a3)(acc:aj)(env:bu)(P:aF->Prop)(s:aF):Prop:=match cnd with
 |none=>xr k M A elt acc env P s
 |some cnd=>aK k M A (isTrue cnd env (eval cnd env)) (λok cj=>match ok with|true=>xr k M A elt acc env P cj|false=>P cj) cb s
noncomputable def xt(k:aS)(M:gd)(A:cy)(target elt:a3)(cnd:bh a3)(it acc:aj)(env:bu)(R:iG->aF->Prop)(P:aF->Prop)(s:aF):Prop:=
 aK k M A (pyNext it) (λr s₁=>match r with
  |none=>R (.ok .next) s₁
  |some v=>wpAny M A (letOwnedTupleGo target it v) (λJ mc=>aK k M A (assign target env v) (λJ=>PE k M A elt cnd acc env P) cb mc) cb s₁) cb s
theorem CU{elt target iter:a3}{cnd:bh a3}{scope:dz}{pos:bD}{it acc:aj}{env:bu}(I:ab->aF->Prop)
  (turn:∀n s,I n s->xt k (model prog w) A target elt cnd it acc env R (λs'=>∃m,m<n/\I m s') s)
  (n:ab)(h:I n s):ea k (model prog w) A (.compLoop (.ListComp elt [⟨target,iter,cnd.toList,0⟩] scope pos) 0 it acc env) R s:=by
 induction cnd with
 |none=>exact PC I turn n h
 |some e=>exact PD I turn n h
theorem CV{elt target iter:a3}{ifs:aa a3}{scope:dz}{pos:bD}{it acc:aj}{env:bu}
  (h0:ea k (model prog w) A (.compLoop (.ListComp elt [⟨target,iter,ifs,0⟩] scope pos) 0 it acc env) R s)
  (h:aK k (model prog w) A (pyIter it) (λxu s'=>ea k (model prog w) A (.compLoop (.ListComp elt [⟨target,iter,ifs,0⟩] scope pos) 0 xu acc env) R s') cb s):
  ea k (model prog w) A (.compStart (.ListComp elt [⟨target,iter,ifs,0⟩] scope pos) 0 it acc env) R s:=by
 refine lp ?_
 refine nA (bo (E:=cb) ?_ (λJ J x=>x) λJ J x=>x.elim)
 refine bV (Ij ?_)
 split
 ·first
   |exact bp (bJ (bJ (ie rfl (ie trivial h0))))
   |exact bJ (ie rfl (ie trivial h0))
 ·refine bV (lh ?_)
  first
   |exact bV (dA (bp (bo h (λxu s' ao=>bJ (ie rfl (ie trivial ao))) λJ J x=>x)))
   |(exact bV (dA (bp (bo h (λxu s' ao=>bJ (ie rfl (ie trivial ao))) λJ J x=>x))))
end
end
section
open Sem (wp)
noncomputable def nS(env:bu)(n:au)(k:kV):aS:=k==.free&&env.scope.kind==.function&&env.kindOf n==some .cell
noncomputable def fH(scope:dz)(env:bu):dz:={scope with names:=scope.names.map λ(n,k)=>if nS env n k then(n,.cell)else(n,k)}
theorem CW(env:bu)(adr:au->aJ):∀(l:aa (au×kV)) (cs:aa (au×aJ)),(∀x∈l,x.2=.free->env.cells.lookup x.1=some (adr x.1))->
  (forIn l cs λ(x:au×kV) (cs:aa (au×aJ))=>(if(x.2==.free)=true then(cellOf env x.1>>=λa=>pure (ForInStep.yield ((x.1,a)::cs)))else pure (ForInStep.yield cs):bN (ForInStep (aa (au×aJ)))))=
   pure (((l.filter (·.2==.free)).map λx=>(x.1,adr x.1)).reverse++cs)
 |[],cs,_=>by simp
 |x::l,cs,h=>by
  rw[List.forIn_cons]
  have cF:=λcs=>CW env adr l cs λy bM=>h y (vP _ bM)
  by_cases e:x.2=.free
  ·have aA:(x.2==IH)=true:=by refine ae e ?_;rfl
   refine ae (cV aA) ?_
   have aP:cellOf env x.1=pure (adr x.1):=by unfold cellOf;exact ae (h x og e) rfl
   refine ae aP ?_
   simp only[pure_bind]
   rw[cF]
   simp[aA]
  ·have aA:(x.2==IH)=false:=by simpa using e
   rw[cC (by rw[aA];decide)]
   simp only[pure_bind]
   rw[cF]
   simp[aA]
theorem PF{scope:dz}{env:bu}(adr:au->aJ)(h:∀x∈scope.names,x.2=.free->env.cells.lookup x.1=some (adr x.1)):
  closureFor scope env=pure ((scope.names.filter (·.2==.free)).map λx=>(x.1,adr x.1)).reverse:=by
 unfold closureFor
 have:=CW env adr scope.names [] h
 rw[il]at this
 refine cv this ?_
 simp
section
variable{k:aS}{M:gd}{A:cy}{s:aF}
theorem PG{e:a3}{scope:dz}{env:bu}{pos:bD}{sa first:bN aj}{g:vB}{cl:aa (au×aJ)}{Q:aj->aF->Prop}
  (jB:clausesOf e=[g])(hs:∀x,foldedSetIterable g.iter env x=pure x)(sb:closureFor scope env=pure cl)(sd:scope.kind=.function)
  (mh:∀x∈scope.names,x.2= .local ->(fH scope env).names.lookup x.1=some .local)
  (h:aK k M A first (λx s₁=>aK k M A (pyIter x) (λit cj=>aK k M A sa (λacc bE=>
   aK k M A (newFunctionEnv scope env.globals cl [] env.qual none .none (some env)) (λcenv cL=>
    ea k M A (.compStart e 0 it acc {cenv with scope:=fH scope env}) (λr s'=>∃m,s'.heap.Ns cenv.locals m/\∀ao,ju cenv.locals s'.heap ao->
     match r with|.ok _=>Q acc {s' with heap:=ao}|.error x=>bB) cL) cb bE) cb cj) cb s₁) cb s):
  aK k M A (comprehension e scope env pos sa false first) Q cb s:=by
 unfold comprehension
 (refine ae sb ?_;refine ae jB ?_)
 refine bp (bo h (λx s₁ bK=>bV (dA ?_)) λJ J x=>x)
 dsimp only
 rw[hs]
 refine bp (bJ (bp (du (bo bK (λit cj cN=>?_) λJ J x=>x))))
 refine bp (bo cN (λacc bE dG=>bp (bJ (bp (bo dG (λcenv cL fh=>?_) λJ J x=>x)))) λJ J x=>x)
 have cx:∀x∈(scope.names.filter λx=>(x.2== .local ||x.2==.cell)&&x.1 !=(".0":au)).reverse,x.2= .local ->
   Iv {cenv with scope:=fH scope env} x.1=some .local :=λx aA a5=>mh x (qQ.mp (pE.mp aA)).1 a5
 refine du (bp (rf (du (vV trivial (ll fh λr s' a4=>?_)))))
 obtain⟨m,aY,a4⟩:=a4
 induction r with
 |ok f=>exact bV (nu (wpAny_comp_letGo (cenv:={cenv with scope:=fH scope env}) sd _ s' m cx aY λao cE J gm=>bJ (a4 ao gm)))
 |error x=>exact(a4 _ (.refl ..)).elim
end
end
section
open Sem (wp)
noncomputable def gA(env:bu)(y:au):aJ:=(env.cells.lookup y).getD 0
noncomputable def lH(scope:dz)(x:au)(fr:aa au):aS:=
 scope.kind==.function&&scope.names.lookup x==some .local &&((scope.names.filter (·.2==.free)).map (·.1)==fr)&&fr.all (λy=>scope.names.lookup y==some .free)&&decide (fr++[x]).Nodup&&
  scope.names.all (λz=>!(z.2==.cell))&&scope.names.all (λz=>!(z.2== .local)||scope.names.lookup z.1==some .local)&&(fr++[x]).all λy=>!(y==("__debug__":au))&&!(y==("__classdict__":au))
theorem uC{f:au->aJ}{y:au}:∀{l:aa au},(l.map λz=>(z,f z)).lookup y=if y∈l then some (f y)else none
 |[]=>rfl
 |z::l=>by
  (refine ae gJ ?_;refine ae nr ?_;refine ae (uC (l:=l)) ?_)
  by_cases e:y=z
  ·subst e;simp
  ·have:(y==z)=false:=by simpa using e
   refine ae this ?_;simp[e]
theorem xv{env:bu}{y:au}:∀{l:aa (au×kV)},(l.map λ(n,k)=>if nS env n k then(n,II)else(n,k)).lookup y=(l.lookup y).map λk=>if nS env y k then .cell else k
 |[]=>rfl
 |(n,k)::l=>by
  rw[gJ,nr]
  by_cases e:y=n
  ·subst e
   cases q:nS env y k<;>simp[q]
  ·have:(y==n)=false:=by simpa using e
   have az:(if nS env n k=true then(n,II)else(n,k)).1=n:=by split<;>rfl
   rw[az,this,nr,this]
   exact xv (l:=l)
noncomputable def compEnv(scope:dz)(env:bu)(fr:aa au)(L:aJ):bu:=
 {newEnv scope L env.globals (fr.reverse.map λy=>(y,gA env y)) env.qual none .none (some env) builtinsNs with scope:=fH scope env}
section
variable{env:bu}{ls:aa au}{scope:dz}{x:au}{fr:aa au}{L:aJ}
structure qk(scope:dz)(x:au)(fr:aa au):Prop where
 kind:scope.kind=.function
 PH:scope.names.lookup x=some .local
 iC:(scope.names.filter (·.2==.free)).map (·.1)=fr
 free:∀y∈fr,scope.names.lookup y=some .free
 cG:(fr++[x]).Nodup
 PI:∀z∈scope.names,z.2≠.cell
 loc:∀z∈scope.names,z.2= .local ->scope.names.lookup z.1=some .local
 names:∀y∈fr++[x],(y==("__debug__":au))=false/\(y==("__classdict__":au))=false
theorem se(h:lH scope x fr=true):qk scope x fr:=by
 simp only[lH,gf,fW,mz,lU,mA,z0]at h
 obtain⟨⟨⟨⟨⟨⟨⟨aB,aI⟩,cg⟩,dX⟩,eP⟩,j7⟩,kB⟩,mH⟩:=h
 refine⟨aB,aI,cg,dX,eP,λz aO e=>?_,λz aO e=>?_,mH⟩
 ·have:=j7 z aO;rw[e]at this;cases this
 ·rcases kB z aO with q|q
  ·rw[e]at q;cases q
  ·exact q
theorem PJ(E:fk env ls)(C:qk scope x fr)(eC:∀y∈fr,∃q,env.cells.lookup y=some q)(e5:∀y q,env.cells.lookup y=some q->q≠L):fk (compEnv scope env fr L) (fr++[x]):=by
 have uD:∀y,(compEnv scope env fr L).cells.lookup y=if y∈fr then some (gA env y)else none:=λy=>by
  refine ae uC ?_;simp
 have nT:∀y,(compEnv scope env fr L).kindOf y=(scope.names.lookup y).map λk=>if nS env y k then .cell else k:=λy=>xv
 have sf:x∉fr:=λh=>(qV.mp C.cG).2.2 x h x (by exact ab9 _) rfl
 refine⟨C.kind,C.cG,λy bM=>?_,C.names,E.globals,E.builtins,?_,λy z q mg bM aO=>?_⟩
 ·rw[uD,nT]
  rcases gT.mp bM with bM|bM
  ·(refine ae (cV bM) ?_;refine ae (C.free y bM) ?_)
   dsimp only[Option.map]
   cases nS env y IH
   ·exact .inr rfl
   ·exact .inl rfl
  ·(refine ae (eV.mp bM) ?_;refine ae (cC sf) ?_;refine ae C.PH ?_)
   rfl
 ·intro hm
  have hm:L∈(fr.reverse.map λy=>(y,gA env y)).map (·.2):=hm
  rw[nx,i1]at hm
  obtain⟨y,bM,e⟩:=hm
  obtain⟨q,bg⟩:=eC y (by simpa using bM)
  refine e5 y q bg ?_
  refine cv e ?_;show q=gA env y;unfold gA;refine ae bg ?_;rfl
 ·rw[uD]at bM aO
  split at bM
  ·rename_i aB
   split at aO
   ·rename_i aI
    obtain⟨dQ,az⟩:=eC y aB
    obtain⟨dV,ay⟩:=eC z aI
    have a1:gA env y=dQ:=by unfold gA;refine ae az ?_;rfl
    have a2:gA env z=dV:=by unfold gA;refine ae ay ?_;rfl
    rw[a1]at bM;rw[a2]at aO
    cases bM;cases aO
    exact E.cells y z _ mg az ay
   ·exact absurd aO.symm (cB _)
  ·exact absurd bM.symm (cB _)
end
end
section
open Sem (wp)
noncomputable def iT(c:aG)(d:ab)(sc:dz)(cP:aa au)(elt:a3)(cnd:bh a3)(keep:aa Cell->Prop)(na j:ab):aa af->aa af->aE->aa Cell->(aa af->aa Cell->Prop)->Prop
 |[],acc,_,σ,Q=>Q acc σ
 |a::as,acc,m,σ,Q=>∀cenv,fk cenv cP->cenv.scope=sc->match cnd with
  |none=>cz c d cenv cP (eval elt cenv) (m.set j (some a)) σ λr ax=>dx (ax[na]? =some (.list acc)) (acc.length+1<=1000000) (keep (ax.set na (.list (acc++[r])))/\iT c d sc cP elt cnd keep na j as (acc++[r]) (m.set j (some a)) (ax.set na (.list (acc++[r]))) Q)
  |some e=>gY c d cenv cP (isTrue e cenv (eval e cenv)) (m.set j (some a)) σ λb eD=>match b with
   |true=>cz c d cenv cP (eval elt cenv) (m.set j (some a)) eD λr ax=>dx (ax[na]? =some (.list acc)) (acc.length+1<=1000000) (keep (ax.set na (.list (acc++[r])))/\iT c d sc cP elt cnd keep na j as (acc++[r]) (m.set j (some a)) (ax.set na (.list (acc++[r]))) Q)
   |false=>keep eD/\iT c d sc cP elt cnd keep na j as acc (m.set j (some a)) eD Q
noncomputable def ql:af->aS
 |.e0 .. |.lst _|.cell _=>true
 |_=>false
theorem PK{prog:fc}{w:cu}{A:cy}{E:aj->aF->Prop}{s:aF}{it:aJ}{dd:aj}{n k:ab}{x:af}{Q:aj->aF->Prop}(a7:iP s.heap it dd n k x)(aA:ql x=true)(h:Q (.ref it) s):wpAny (model prog w) A (pyIter (.ref it)) Q E s:=by
 induction x using af.cs with
 |e0 a b st=>exact wpAny_pyIter_rangeiter a7 h
 |lst as=>obtain⟨l,-,a7⟩:=a7;exact ac0 a7 h
 |cell i=>obtain⟨l,-,a7⟩:=a7;exact ac0 a7 h
 |_=>cases aA
section
variable{c:aG}{d:ab}{env:bu}{ls:aa au}{m:aE}{σ:aa Cell}
theorem dK.comp{scope:dz}{x:au}{fr:aa au}{vals:aa af}{L:aJ}{ρ ρ':aT}{h ao:a8}(F:dK c env ls m ρ h)(C:qk scope x fr)(cx:vals.length=fr.length)
  (eC:∀(k:ab) y,fr[k]? =some y->hO λ(i:ab) (a:af) (q:aJ)=>hQ (ls[i]? =some y) (m.getD i none=some a) (vals[k]? =some a) (env.cells.lookup y=some q))
  (a4:∀(i:ab) p,ρ.cs[i]? =some p->ρ'.cs[i]? =some p)(ca:Carry ρ ρ' h ao)(dj:∀b o,h.get? b=some o->ao.get? b=some o)(PL:∀b∈ρ.aR,b∈ρ'.aR)(e5:L∈ρ'.aR)(ns:ao.Ns L λJ=>none):
  dK c (compEnv scope env fr L) (fr++[x]) (vals.map some++[none]) ρ' ao:=by
 have uD:∀y,(compEnv scope env fr L).cells.lookup y=if y∈fr then some (gA env y)else none:=λy=>by
  refine ae uC ?_;simp
 have sf:x∉fr:=λh=>(qV.mp C.cG).2.2 x h x (by exact ab9 _) rfl
 have t5:∀q∈(compEnv scope env fr L).cells.map (·.2),q∈env.cells.map (·.2):=by
  intro q bg
  have bg:q∈(fr.reverse.map λy=>(y,gA env y)).map (·.2):=bg
  rw[nx,i1]at bg
  obtain⟨y,bM,e⟩:=bg
  obtain⟨k,ba⟩:=qR.mp (pE.mp bM)
  obtain⟨i,a,eW,-,-,-,mK⟩:=eC k y ba
  have:gA env y=eW:=by unfold gA;refine ae mK ?_;rfl
  refine cv e ?_;show gA env y∈_;refine ae this ?_
  exact nD mK
 refine dI λdv b4=>?_
 obtain⟨dS,p4,sl⟩:=F.ns
 refine b4 ?_
 refine⟨⟨_,ns,λi y bM=>?_⟩,λq bg=>?_,λq bg=>?_,by simp[cx]⟩
 ·unfold ff
  rw[uD]
  by_cases a7:i<fr.length
  ·rw[eG a7]at bM
   have hm:y∈fr:=js bM
   refine ae (cV hm) ?_
   refine dI λdv b4=>?_
   obtain⟨PM,a,q,aB,aI,cg,dX⟩:=eC i y bM
   refine b4 ?_
   have bg:gA env y=q:=by unfold gA;refine ae dX ?_;rfl
   refine ae bg ?_
   have s0:=sl PM y aB
   unfold ff at s0
   rw[dX,aI]at s0
   refine dI λdv b4=>?_
   obtain⟨cf,eb,v,az,ay⟩:=s0
   refine b4 ?_
   have bF:(vals.map some++[none]).getD i none=some a:=by
    rw[j2,eG (by rw[gK,cx];exact a7),j4,cg];rfl
   refine ae bF ?_
   exact⟨cf,dj _ _ eb,v,az,bq.mono a4 ca _ _ ay⟩
  ·have PN:i=fr.length:=by
    have:=(dH.mp bM).1
    rw[bZ,z1]at this
    lia
   subst PN
   rw[eU (eL _),ib,vC]at bM
   cases bM
   refine ae (cC sf) ?_
   have bF:(vals.map some++[none]).getD fr.length none=none:=by
    rw[j2,eU (by rw[gK,cx];exact eL _),gK,cx,ib];rfl
   exact ae bF rfl
 ·rcases gH.mp bg with e|bg
  ·refine ae e ?_;exact e5
  ·exact PL q (F.aR q (.tail _ (t5 q bg)))
 ·refine dI λdv b4=>?_
  obtain⟨cf,v,e,r⟩:=F.cells q (t5 q bg)
  refine b4 ?_
  exact⟨cf,v,dj _ _ e,r⟩
end
end
section
open Sem (wp)
theorem Src.append{σ:aa Cell}{x:af}{as:aa af}{y:Cell}(h:Src σ x as):Src (σ++[y]) x as:=by
 induction h with
 |list h=>exact .list (by refine ae (eG (dH.mp h).1) ?_;exact h)
 |lst=>exact .lst
 |tup=>exact .tup
 |bytes=>exact .bytes
 |e0 h=>exact .e0 h
theorem CX{α:Type}{l:aa α}{x:α}{n:ab}(h:l.length=n):(l++[x])[n]? =some x:=by subst h;rw[eU (eL _),ib];rfl
theorem PO{env:bu}{scope:dz}{fr:aa au}{L:aJ}(bg:∀y∈fr,∃q,env.cells.lookup y=some q):∀q∈(compEnv scope env fr L).cells.map (·.2),q∈env.cells.map (·.2):=by
 intro q hm
 have hm:q∈(fr.reverse.map λy=>(y,gA env y)).map (·.2):=hm
 rw[nx,i1]at hm
 obtain⟨y,bM,e⟩:=hm
 obtain⟨eW,ck⟩:=bg y (pE.mp bM)
 have e:gA env y=q:=e
 unfold gA at e
 rw[ck]at e
 exact nD (ck.trans (congrArg some e))
structure qm(c:aG)(env:bu)(x:au)(j:ab)(cenv:bu)(cP:aa au)(hs:aa aJ)(s:aF):Prop where
 E:fk cenv cP
 aA:cP[j]? =some x
 av:cenv.cells.lookup x=none
 PQ:cenv.kindOf x=some .local
 new:∀b∈cenv.locals::hs,s.heap.get? b=none
 no:∀b∈own cenv,b∉hs
 out:∀b∈cenv.locals::hs,b∉own env
noncomputable def xw(hs:aa aJ)(Z:aT->a8->Prop):Prop:=∀ρ ρ' h ao,(∀(i:ab) p,ρ.cs[i]? =some p->ρ'.cs[i]? =some p)->Carry ρ ρ' h ao->(∀b∈hs,∀o,h.get? b=some o->ao.get? b=some o)->Z ρ h->Z ρ' ao
structure eY(c:aG)(env:bu)(ls:aa au)(m:aE)(cenv:bu)(cP:aa au)(hs:aa aJ)(q:aJ)(na:ab)(ρ:aT)(s:aF)(Z:aT->a8->Prop)(dO:aE)(ρ':aT)(aC:aa Cell)(s':aF):Prop where
 r:Rep c ρ' aC s'.heap
 h:ρ'.aR=(cenv.locals::hs)++ρ.aR
 x:Ext ρ ⟨ρ'.cs,ρ.aR⟩ s.heap s'.heap
 lD:b' s s'
 f:dK c cenv cP dO ρ' s'.heap
 a:ρ'.cs[na]? =some (q,q)
 o:dK c env ls m ρ' s'.heap
 st:xw hs Z
 z:Z ρ' s'.heap
section
variable{c:aG}{d:ab}{env:bu}{ls:aa au}{m:aE}{σ:aa Cell}{cenv:bu}{cP:aa au}{hs:aa aJ}{q:aJ}{na:ab}{ρ:aT}{s:aF}{Z:aT->a8->Prop}{dO:aE}{bH:aT}{b0:aa Cell}{bE:aF}{x:au}{j:ab}{A:cy}
theorem eY.aR(I:eY c env ls m cenv cP hs q na ρ s Z dO bH b0 bE){b:aJ}(h:b∈cenv.locals::hs):b∈bH.aR:=I.h▸mw _ h
theorem eY.post{dq:aT}{dY:aa Cell}{cL:aF}(I:eY c env ls m cenv cP hs q na ρ s Z dO bH b0 bE)(R:Rep c dq dY cL.heap)(X:Ext bH dq bE.heap cL.heap)(M:b' bE cL):eY c env ls m cenv cP hs q na ρ s Z dO dq dY cL:=
 have Y:Ext ⟨bH.cs,ρ.aR⟩ ⟨dq.cs,ρ.aR⟩ bE.heap cL.heap:=⟨X.pre,rfl,X.keep,X.fresh⟩
 ⟨R,X.aR.trans I.h,I.x.trans Y,I.lD.trans M,I.f.ext I.r X,X.get I.a,I.o.ext I.r X,I.st,I.st _ _ _ _ (λJ J e=>X.get e) X.carry (λb aq o e=>X.keep b o (I.r.e2 b (I.aR (.tail _ aq))) e) I.z⟩
theorem eY.mut{xx:aT->a8->Prop}{CY:aE}{z:aJ}{ao:a8}{tk:ab}(G:qm c env x j cenv cP hs s)(I:eY c env ls m cenv cP hs q na ρ s Z dO bH b0 bE)(aO:z∈cenv.locals::hs)(dj:∀b o,b≠z->bE.heap.get? b=some o->ao.get? b=some o)(lv:∃o,ao.get? z=some o)
  (hf:Carry bH bH bE.heap ao->dK c cenv cP CY bH ao)(st:xw hs xx)(qh:Carry bH bH bE.heap ao->xx bH ao):eY c env ls m cenv cP hs q na ρ s xx CY bH b0 {bE with heap:=ao,toks:=tk}:=
 have ca:=rl (I.aR aO) dj
 ⟨I.r.rm (I.aR aO) dj lv,I.h,⟨I.x.pre,rfl,λb o aq e=>dj b o (λw=>by rw[w,G.new z aO]at e;exact absurd e.symm (cB _)) (I.x.keep b o aq e),I.x.fresh⟩,I.lD.trans b'.of,hf ca,I.a,I.o.carry (λJ J e=>e) ca (λq bg cf e=>dj q cf (λw=>G.out z aO (w▸bg)) e) I.o.aR,st,qh ca⟩
theorem eY.asg{a:af}{v:aj}{dT:bD}{P:i0->aF->Prop}(G:qm c env x j cenv cP hs s)(I:eY c env ls m cenv cP hs q na ρ s Z dO bH b0 bE)(V:bq c bH bE.heap a v)(oN:∀ja,eY c env ls m cenv cP hs q na ρ s Z (dO.set j (some a)) bH b0 ja->P () ja):
  aK c.clean (model c.prog c.w) A (assign (.Name x dT) cenv v) P cb bE:=by
 rw[arm_assign_Name]
 refine bV (dA (wb (aK.of ?_)))
 obtain⟨dS,ns,sl⟩:=I.f.ns
 refine ZT G.PQ ns (λeP CZ PR=>?_) (by refine ae G.E.kind ?_;rfl)
 have dj:∀b o,b≠cenv.locals->bE.heap.get? b=some o->eP.get? b=some o:=λb o n e=>(PR.2 b n).trans e
 exact oN _ (I.mut G (.head _) dj (v3 CZ) (λca=>I.f.put G.E G.aA G.av dj ca V sl CZ) I.st λca=>I.st _ _ _ _ (λJ J e=>e) ca (λb aq o e=>dj b o (λw=>G.no _ (.head _) (w▸aq)) e) I.z)
theorem eY.elt{elt:a3}{acc:aa af}{K:af->aa Cell->Prop}{P:aF->Prop}(bL:d9 c d A)(I:eY c env ls m cenv cP hs q na ρ s Z dO bH b0 bE)(h:cz c d cenv cP (eval elt cenv) dO b0 λr ax=>dx (ax[na]? =some (.list acc)) (acc.length+1<=1000000) (K r (ax.set na (.list (acc++[r])))))
  (oN:∀r lx i' ja,eY c env ls m cenv cP hs q na ρ s Z dO lx i' ja->K r i'->P ja):xr c.clean (model c.prog c.w) A elt (.ref q) cenv P bE:=by
 refine bo (h A bE bH ⟨bL,I.r,I.f⟩) (λcq nF p=>?_) λJ J x=>x
 obtain⟨r,eQ,hV,l0,jx,mJ,nG,PS,aO,k⟩:=p
 have C0:=I.post l0 jx mJ
 refine bo (gM (c:=c) (d:=d) (Q:=λJ=>K r) PS aO k A nF eQ [.ref q,cq] [] bL l0 (jw (lr C0.a rfl) (jw nG iw)) iw) (λv PT p=>?_) λJ J x=>x
 obtain⟨_,PU,PV,PW,PX,PY,ae2,k⟩:=p
 exact oN r PU PV PT (C0.post PW PX PY) k
theorem C1{scope:dz}{fr:aa au}{vals:aa af}{bI:aT}{ax:aa Cell}{s₁:aF}{K:aj->bu->aF->Prop}(E:fk env ls)(C:qk scope x fr)(cx:vals.length=fr.length)
  (bg:∀(k:ab) y,fr[k]? =some y->hO λ(i:ab) (a:af) (q:aJ)=>hQ (ls[i]? =some y) (m.getD i none=some a) (vals[k]? =some a) (env.cells.lookup y=some q))
  (S:gi c d env ls m σ A s ρ)(bz:Rep c (bI.hide hs) ax s₁.heap)(bx:Ext ρ bI s.heap s₁.heap)(bW:b' s s₁)(fG:dK c env ls m (bI.hide hs) s₁.heap)(new:∀b∈hs,s.heap.get? b=none)(st:xw hs Z)(aO:Z (bI.hide hs) s₁.heap)
  (h:∀cenv q bH bE,qm c env x fr.length cenv (fr++[x]) hs s->cenv.scope=fH scope env->eY c env ls m cenv (fr++[x]) hs q ax.length ρ s Z (vals.map some++[none]) bH (ax++[.list []]) bE->K (.ref q) cenv bE):
  aK c.clean (model c.prog c.w) A (newList []) (λacc bE=>aK c.clean (model c.prog c.w) A (newFunctionEnv scope env.globals (fr.reverse.map λy=>(y,gA env y)) [] env.qual none .none (some env)) (λcenv cL=>K acc {cenv with scope:=fH scope env} cL) cb bE) cb s₁:=by
 have mK:∀y∈fr,∃q,env.cells.lookup y=some q:=λy bM=>by
  obtain⟨k,ba⟩:=qR.mp bM
  obtain⟨i,a,q,-,-,-,e⟩:=bg k y ba
  exact⟨q,e⟩
 refine aK.of (oa ?_ (hc _))
 generalize aY:s₁.heap.objs.size=q
 have qn:s₁.heap.get? q=none:=aY▸f3
 have f7:=jK s₁.heap {cls:=.type "list",data:=.seq [].toArray}
 have ga:(s₁.heap.push {cls:=.type "list",data:=.seq [].toArray}).get? q=some {cls:=.type "list",data:=.seq [].toArray}:=aY▸ic _ rfl
 generalize s₁.heap.push {cls:=.type "list",data:=.seq [].toArray}=H at f7 ga⊢
 refine aK.of (ZY C.PI (by simp) (λdG xy C2=>?_) C.kind)
 generalize e5:H.objs.size=L at xy C2⊢
 have xA:H.get? L=none:=e5▸f3
 have sh:∀b cf,H.get? b=some cf->dG.get? b=some cf:=λb cf e=>(C2.2 b (λz=>by rw[z,xA]at e;exact absurd e.symm (cB _))).trans (lS _ e)
 have C3:s₁.heap.get? L=none:=(Ext.grow (ρ:=bI.hide hs) f7).gone (bz.grow f7) xA
 have one:∀b∈[L],H.get? b=none:=λb aq=>by refine ae (eV.mp aq) ?_;exact xA
 have h7:Ext (bI.hide hs) ((bI.hide hs).add (q,q)) s₁.heap H:=Ext.add f7 qn qn
 have C4:Rep c ((bI.hide hs).add (q,q)) (ax++[.list []]) H:=bz.add (p:=(q,q)) (y:=.list []) f7 qn qn ⟨[],0,ga,iw,hc _,rfl⟩
 have PZ:Rep c (((bI.hide hs).add (q,q)).hide [L]) (ax++[.list []]) dG:=C4.hide sh one λb aq=>eV.mp aq▸v3 xy
 have c':∀b cf,s₁.heap.get? b=some cf->dG.get? b=some cf:=λb cf e=>sh _ _ (f7 _ _ e)
 have ca:=h7.carry.trans (ov one sh)
 have a4:∀(i:ab) p,bI.cs[i]? =some p->(((bI.hide hs).add (q,q)).hide [L]).cs[i]? =some p:=λi p e=>h7.get e
 have P0:=bx.gone bz.show C3
 have P1:∀b∈own env,∃o,s.heap.get? b=some o:=λb aq=>S.r.e3 b (S.f.aR b aq)
 have C5:∀b∈L::hs,s.heap.get? b=none:=λb aq=>by
  rcases gH.mp aq with e|aq
  ·exact e▸P0
  ·exact new b aq
 have out:∀b∈L::hs,b∉own env:=λb aq hm=>by
  obtain⟨o,e⟩:=P1 b hm
  rw[C5 b aq]at e;exact absurd e.symm (cB _)
 have rb:=PJ (L:=L) E C mK λy q e z=>out L (.head _) (z▸.tail _ (nD e))
 have sf:x∉fr:=λh=>(qV.mp C.cG).2.2 x h x (.head _) rfl
 have C6:(compEnv scope env fr L).cells.lookup x=none:=by
  show(fr.reverse.map λy=>(y,gA env y)).lookup x=_
  (refine ae uC ?_;exact ae (cC (λh=>sf (pE.mp h))) rfl)
 have P2:(compEnv scope env fr L).kindOf x=some .local :=by
  have:=rb.slot x (i3 _ (.head _))
  rw[C6]at this;exact this
 have Y:=bx.trans (Ext.add (p:=(q,q)) c' qn qn)
 refine h (compEnv scope env fr L) q _ _ ⟨rb,CX rfl,C6,P2,C5,λb aq hm=>?_,out⟩ rfl ⟨PZ,congrArg (λl=>L::(hs++l)) bx.aR,⟨Y.pre,rfl,Y.keep,Y.fresh⟩,bW.trans b'.of,
  fG.comp C cx bg a4 ca c' (λb aq=>i3 _ aq) (mw _ (.head _)) xy,CX bz.len,fG.carry a4 ca (λq J cf e=>c' q cf e) λq bg=>i3 _ (fG.aR q bg),st,st (bI.hide hs) _ _ _ a4 ca (λb J o e=>c' b o e) aO⟩
 rcases gH.mp aq with e|aq
 ·obtain⟨o,ck⟩:=bz.e3 b (mw _ hm)
  rw[show b=L from e,C3]at ck;exact absurd ck.symm (cB _)
 ·exact out b (.tail _ hm) (.tail _ (PO mK b aq))
theorem P4{it:aJ}{as:aa af}{k:ab}{dr:af}{dd:aj}{P:bh aj->aF->Prop}(cO:A.handled=none)(G:qm c env x j cenv cP [it] s)(I:eY c env ls m cenv cP [it] q na ρ s (λρ h=>bq c ρ h dr dd/\iP h it dd as.length k dr) dO bH b0 bE)(hs:Src b0 dr as){T:aa af->Prop}(t:T (as.drop k))
  (h0:T []->∀Z s',eY c env ls m cenv cP [it] q na ρ s Z dO bH b0 s'->P none s')
  (aB:∀a v s',T (a::as.drop (k+1))->eY c env ls m cenv cP [it] q na ρ s (λρ h=>bq c ρ h dr dd/\iP h it dd as.length (k+1) dr) dO bH b0 s'->bq c bH s'.heap a v->P (some v) s'):wpAny (model c.prog c.w) A (pyNext (.ref it)) P cb bE:=by
 have hit:it∈cenv.locals::[it]:=.tail _ (.head _)
 have fr:∀{ao:a8},(∀b o,b≠it->bE.heap.get? b=some o->ao.get? b=some o)->Carry bH bH bE.heap ao->dK c cenv cP dO bH ao:=λdj ca=>I.f.carry (λJ J e=>e) ca (λq bg cf e=>dj q cf (λz=>G.no q bg (z▸.head _)) e) I.f.aR
 exact A' cO hs I.r I.z.1 I.z.2 t (λa v ao tk w W dj t7=>aB a v _ w (I.mut G hit dj t7.live (fr dj) (λJ J J J a4 ca k z=>⟨bq.mono a4 ca _ _ z.1,z.2.keep λo e=>k it (.head _) o e⟩) λca=>⟨bq.mono (λJ J e=>e) ca _ _ I.z.1,t7⟩) (bq.mono (λJ J e=>e) (rl (I.aR hit) dj) _ _ W))
  λw ao dj lv=>h0 w (λJ J=>ky) _ (I.mut (tk:=bE.toks) G hit dj lv (fr dj) (λJ J J J J J J J=>trivial) λJ=>trivial)
inductive uE(c:aG)(d:ab)(env:bu)(ls:aa au)(m:aE)(cenv:bu)(cP:aa au)(it q:aJ)(na j:ab)(ρ:aT)(s:aF)(sc:dz)(elt:a3)(cnd:bh a3)(as:aa af)(dr:af)(dd:aj)(Q:aa Cell->Prop)(n:ab)(s':aF):Prop
 |mk (k:ab) (acc:aa af) (dO:aE) (ρ':aT) (aC:aa Cell) (I:eY c env ls m cenv cP [it] q na ρ s (λρ h=>bq c ρ h dr dd/\iP h it dd as.length k dr) dO ρ' aC s') (hs:Src aC dr as)
  (h:(as.drop k).length=n/\iT c d sc cP elt cnd (λaC=>Src aC dr as) na j (as.drop k) acc dO aC λJ=>Q)
theorem P5{it:aJ}{sc:dz}{elt:a3}{cnd:bh a3}{as:aa af}{dr:af}{dd:aj}{Q:aa Cell->Prop}{n:ab}{dT:bD}{R:iG->aF->Prop}(bL:d9 c d A)(G:qm c env x j cenv cP [it] s)(iR:cenv.scope=sc)(I:uE c d env ls m cenv cP it q na j ρ s sc elt cnd as dr dd Q n bE)
  (jU:∀Z dO bH b0 bE,eY c env ls m cenv cP [it] q na ρ s Z dO bH b0 bE->Q b0->R (.ok .next) bE):
  xt c.clean (model c.prog c.w) A (.Name x dT) elt cnd (.ref it) (.ref q) cenv R (λs'=>∃cE,cE<n/\uE c d env ls m cenv cP it q na j ρ s sc elt cnd as dr dd Q cE s') bE:=by
 obtain⟨k,acc,dO,bH,b0,I,hs,h⟩:=I
 refine aK.of (P4 (T:=λl=>l.length=n/\iT c d sc cP elt cnd (λaC=>Src aC dr as) na j l acc dO b0 λJ=>Q) bL.1 G I hs h (λt Z s' I=>jU Z _ _ _ s' I t.2) λa v s' t I W=>Bb I.z.2 (I.asg G W λja I=>?_))
 have done:∀e lx i' ja,eY c env ls m cenv cP [it] q na ρ s (λρ h=>bq c ρ h dr dd/\iP h it dd as.length (k+1) dr) (dO.set j (some a)) lx i' ja->(Src i' dr as/\iT c d sc cP elt cnd (λaC=>Src aC dr as) na j (as.drop (k+1)) e (dO.set j (some a)) i' λJ=>Q)->
   ∃cE,cE<n/\uE c d env ls m cenv cP it q na j ρ s sc elt cnd as dr dd Q cE ja:=λe lx i' ja I q=>⟨(as.drop (k+1)).length,t.1▸vL _,k+1,e,_,lx,i',I,q.1,rfl,q.2⟩
 have dG:=t.2 cenv G.E iR
 clear t h
 induction cnd with
 |none=>exact eY.elt (K:=λe aC=>Src aC dr as/\iT c d sc cP elt none (λaC=>Src aC dr as) na j (as.drop (k+1)) (acc++[e]) (dO.set j (some a)) aC λJ=>Q) bL I dG λe=>done (acc++[e])
 |some e=>
  refine bo (dG A ja bH ⟨bL,I.r,I.f⟩) (λb nF p=>?_) λJ J x=>x
  obtain⟨P6,eD,R₀,xB,xC,nE⟩:=p
  have I:=I.post R₀ xB xC
  induction b with
  |false=>exact done acc _ _ _ I nE
  |true=>exact eY.elt (K:=λy aC=>Src aC dr as/\iT c d sc cP elt (some e) (λaC=>Src aC dr as) na j (as.drop (k+1)) (acc++[y]) (dO.set j (some a)) aC λJ=>Q) bL I nE λe=>done (acc++[e])
theorem C7{elt iter:a3}{cnd:bh a3}{dT pos:bD}{scope:dz}{fr:aa au}{vals:aa af}{Q:ab->aa Cell->Prop}{RR:aJ->aj->iG->aF->Prop}(E:fk env ls)(aP:lH scope x fr=true)(cx:vals.length=fr.length)
  (hz:∀y∈fr,env.kindOf y=some .cell)(eC:∀(k:ab) y,fr[k]? =some y->eO λ(i:ab) (a:af)=>dx (ls[i]? =some y) (m.getD i none=some a) (vals[k]? =some a))
  (h:cz c d env ls (eval iter env) m σ λdr ax=>∃as,dx (Src ax dr as) (ql dr=true) (iT c d (fH scope env) (fr++[x]) elt cnd (λaC=>Src aC dr as) ax.length fr.length as [] (vals.map some++[none]) (ax++[.list []]) λJ aC=>Q ax.length aC))
  (S:gi c d env ls m σ A s ρ)
  (jU:∀cenv cP hs q na Z dO bH b0 bE,eY c env ls m cenv cP hs q na ρ s Z dO bH b0 bE->(∀b∈cenv.locals::hs,s.heap.get? b=none)->Q na b0->RR cenv.locals (.ref q) (.ok .next) bE):
  aK c.clean (model c.prog c.w) A (eval iter env) (λdd s₁=>aK c.clean (model c.prog c.w) A (pyIter dd) (λit cj=>aK c.clean (model c.prog c.w) A (newList []) (λacc bE=>
   aK c.clean (model c.prog c.w) A (newFunctionEnv scope env.globals (fr.reverse.map λy=>(y,gA env y)) [] env.qual none .none (some env)) (λcenv cL=>
    ea c.clean (model c.prog c.w) A (.compStart (.ListComp elt [⟨.Name x dT,iter,cnd.toList,0⟩] scope pos) 0 it acc {cenv with scope:=fH scope env}) (λr s'=>RR cenv.locals acc r s') cL) cb bE) cb cj) cb s₁) cb s:=by
 have bg:∀(k:ab) y,fr[k]? =some y->hO λ(i:ab) (a:af) (q:aJ)=>hQ (ls[i]? =some y) (m.getD i none=some a) (vals[k]? =some a) (env.cells.lookup y=some q):=λk y ba=>by
  obtain⟨i,a,aB,aI,cg⟩:=eC k y ba
  have:=E.slot y (js aB)
  cases e:env.cells.lookup y with
  |some q=>exact⟨i,a,q,aB,aI,cg,rfl⟩
  |none=>rw[e]at this;dsimp only at this;rw[hz y (js ba)]at this;cases this
 refine bo (h A s ρ S) (λdd s₁ p=>?_) λJ J x=>x
 refine dI λdv b4=>?_
 obtain⟨dr,bI,ax,bz,bx,bW,cJ,as,hs,xD,bK⟩:=p
 refine b4 ?_
 refine aK.of (A9 hs bz cJ λo hit=>?_)
 generalize aY:s₁.heap.objs.size=it at hit⊢
 have t8:s₁.heap.get? it=none:=aY▸f3
 have iD:=jK s₁.heap o
 have one:∀b∈[it],s₁.heap.get? b=none:=λb aq=>by refine ae (eV.mp aq) ?_;exact t8
 have ca:=ov (ρ:=bI) one iD
 refine C1 (Z:=λρ h=>bq c ρ h dr dd/\iP h it dd as.length 0 dr) (s₁:={s₁ with heap:=s₁.heap.push o}) (K:=λacc cenv cL=>ea c.clean (model c.prog c.w) A (.compStart (.ListComp elt [⟨.Name x dT,iter,cnd.toList,0⟩] scope pos) 0 (.ref it) acc cenv) (λr s'=>RR cenv.locals acc r s') cL) E (se aP) cx bg S
  (bz.hide iD one λb aq=>by refine ae (eV.mp aq) ?_;exact hit.live) (bx.trans (Ext.grow iD)) (bW.trans b'.heap) ((S.f.ext S.r bx).carry (ρ':=bI.hide [it]) (λJ J e=>e) ca (λq J cf e=>iD q cf e) λq bg=>i3 _ ((S.f.ext S.r bx).aR q bg))
  (λb aq=>bx.gone bz (one b aq)) (λJ J J J a4 ca k z=>⟨bq.mono a4 ca _ _ z.1,z.2.keep λo e=>k it (.head _) o e⟩) ⟨bq.mono (ρ:=bI) (ρ':=bI.hide [it]) (λJ J e=>e) ca _ _ cJ,hit⟩ λcenv q bH bE G iR I=>?_
 have loop:=CU (k:=c.clean) (prog:=c.prog) (w:=c.w) (A:=A) (R:=λr s'=>RR cenv.locals (.ref q) r s') (iter:=iter) (scope:=scope) (pos:=pos) (target:=.Name x dT) (uE c d env ls m cenv (fr++[x]) it q ax.length fr.length ρ s (fH scope env) elt cnd as dr dd (Q ax.length)) (λn s' I=>P5 S.a G iR I λZ dO bH b0 bE I q=>jU cenv _ _ _ _ Z dO bH b0 bE I G.new q) as.length
  ⟨0,[],_,_,_,I,hs.append,rfl,bK⟩
 exact CV loop (aK.of (PK I.z.2 xD loop))
end
end
section
open Sem (wp)
section
variable{c:aG}{d:ab}{env:bu}{ls:aa au}{m:aE}{σ:aa Cell}
theorem xE{scope:dz}{x:au}{fr:aa au}(E:fk env ls)(C:qk scope x fr)(hz:∀y∈fr,env.kindOf y=some .cell)(si:∀y∈fr,y∈ls):closureFor scope env=pure (fr.reverse.map λy=>(y,gA env y)):=by
 rw[PF (gA env) λz aO hf=>?_]
 ·rw[<-C.iC,<-zH,<-zH,nx];rfl
 ·have hm:z.1∈fr:=by rw[<-C.iC];exact i1.mpr ⟨z,qQ.mpr ⟨aO,by rw[hf];rfl⟩,rfl⟩
  have:=E.slot z.1 (si _ hm)
  cases e:env.cells.lookup z.1 with
  |some q=>unfold gA;rw[e];rfl
  |none=>rw[e]at this;dsimp only at this;rw[hz z.1 hm]at this;cases this
theorem xF{scope:dz}{x:au}{fr:aa au}(C:qk scope x fr):∀z∈scope.names,z.2= .local ->(fH scope env).names.lookup z.1=some .local :=λz aO a5=>by
 have:(fH scope env).names.lookup z.1=(scope.names.lookup z.1).map λk=>if nS env z.1 k then .cell else k:=xv
 (refine ae this ?_;refine ae (C.loc z aO a5) ?_);rfl
theorem eY.done{cenv:bu}{cP:aa au}{hs:aa aJ}{q:aJ}{na:ab}{ρ:aT}{s:aF}{Z:aT->a8->Prop}{dO:aE}{bH:aT}{b0:aa Cell}{bE:aF}{ao:a8}(R:Rep c ρ σ s.heap)(I:eY c env ls m cenv cP hs q na ρ s Z dO bH b0 bE)
  (new:∀b∈cenv.locals::hs,s.heap.get? b=none)(aI:ju cenv.locals bE.heap ao):Rep c ⟨bH.cs,ρ.aR⟩ b0 ao/\Ext ρ ⟨bH.cs,ρ.aR⟩ s.heap ao:=
 have nb:∀{b o},s.heap.get? b=some o->b≠cenv.locals:=λe w=>by rw[w,new _ (.head _)]at e;exact absurd e.symm (cB _)
 have sub:∀b∈ρ.aR,b∈bH.aR:=λb aq=>I.h▸i3 _ aq
 ⟨Rep.pN (l':=bH.aR) I.r sub (λa o na e=>(aI.2 a λw=>na (w▸I.aR (.head _))).trans e) λb aq=>
  let⟨_,e⟩:=R.e3 b aq
  let⟨o,ck⟩:=I.r.e3 b (sub b aq)
  ⟨o,(aI.2 b (nb e)).trans ck⟩,I.x.pre,rfl,λb J aq e=>(aI.2 b (nb e)).trans (I.x.keep b _ aq e),I.x.fresh⟩
theorem C8{h ao:a8}{a:aJ}{m:au->bh aj}(n:h.Ns a m)(k:∀o,h.get? a=some o->ao.get? a=some o):ao.Ns a m:=let⟨o,es,hT,aN,r⟩:=n;⟨o,es,hT,k o aN,r⟩
theorem eY.doneF{cenv:bu}{cP:aa au}{hs:aa aJ}{q:aJ}{na:ab}{ρ:aT}{s:aF}{Z:aT->a8->Prop}{dO kd:aE}{bH eQ:aT}{b0 hV:aa Cell}{bE:aF}{hW ao:a8}{A:cy}(S:gi c d env ls m σ A s ρ)(I:eY c env ls m cenv cP hs q na ρ s Z dO bH b0 bE)
  (new:∀b∈cenv.locals::hs,s.heap.get? b=none)(R:Rep c eQ hV hW)(X:fj env bH eQ bE.heap hW)(F:dK c env ls kd eQ hW)(aI:ju cenv.locals hW ao):dx (Rep c ⟨eQ.cs,ρ.aR⟩ hV ao) (fj env ρ ⟨eQ.cs,ρ.aR⟩ s.heap ao) (dK c env ls kd ⟨eQ.cs,ρ.aR⟩ ao):=
 have aR:=X.aR.trans I.h
 have nb:∀{b o},s.heap.get? b=some o->b≠cenv.locals:=λe w=>by rw[w,new _ (.head _)]at e;exact absurd e.symm (cB _)
 have sub:∀b∈ρ.aR,b∈eQ.aR:=λb aq=>aR▸i3 _ aq
 have e5:cenv.locals∈eQ.aR:=aR▸.head _
 have k:∀a o,a∉eQ.aR->hW.get? a=some o->ao.get? a=some o:=λa o na e=>(aI.2 a λw=>na (w▸e5)).trans e
 have Y:=I.x.toF.trans (⟨X.pre,rfl,X.keep,X.fresh⟩:fj env ⟨bH.cs,ρ.aR⟩ ⟨eQ.cs,ρ.aR⟩ bE.heap hW)
 ⟨Rep.pN (l':=eQ.aR) R sub k λb aq=>
  let⟨_,e⟩:=S.r.e3 b aq
  let⟨o,ck⟩:=R.e3 b (sub b aq)
  ⟨o,(aI.2 b (nb e)).trans ck⟩,
 ⟨Y.pre,rfl,λb J aq aP e=>(aI.2 b (nb e)).trans (Y.keep b _ aq aP e),Y.fresh⟩,
 F.carry (ρ':=⟨eQ.cs,ρ.aR⟩) (λJ J e=>e) (λa o na e=>⟨λw=>na (er.mpr ((er.mp w).imp_right (sub a))),k a o (fz.mp na).2 e⟩) (λq bg J e=>(aI.2 q λw=>by obtain⟨o,ck⟩:=S.r.e3 q (S.f.aR q bg);exact nb ck w).trans e) S.f.aR⟩
theorem P7{elt iter:a3}{cnd:bh a3}{x:au}{dT pos:bD}{scope:dz}{fr:aa au}{vals:aa af}{Q:af->aa Cell->Prop}(E:fk env ls)(a7:mR iter)(aP:lH scope x fr=true)(cx:vals.length=fr.length)
  (hz:∀y∈fr,env.kindOf y=some .cell)(eC:∀(k:ab) y,fr[k]? =some y->eO λ(i:ab) (a:af)=>dx (ls[i]? =some y) (m.getD i none=some a) (vals[k]? =some a))
  (h:cz c d env ls (eval iter env) m σ λdr ax=>∃as,dx (Src ax dr as) (ql dr=true) (iT c d (fH scope env) (fr++[x]) elt cnd (λaC=>Src aC dr as) ax.length fr.length as [] (vals.map some++[none]) (ax++[.list []]) λJ aC=>Q (.cell ax.length) aC)):
  cz c d env ls (eval (.ListComp elt [⟨.Name x dT,iter,cnd.toList,0⟩] scope pos) env) m σ Q:=by
 intro A s ρ S
 have C:=se aP
 have si:∀y∈fr,y∈ls:=λy bM=>by
  obtain⟨k,ba⟩:=qR.mp bM
  obtain⟨i,a,aB,-⟩:=eC k y ba
  exact js aB
 rw[eval_ListComp]
 refine PG (g:=⟨.Name x dT,iter,cnd.toList,0⟩) rfl (a7 env) (xE E C hz si) C.kind (xF C) ?_
 refine C7 (cnd:=cnd) (Q:=λn aC=>Q (.cell n) aC) (RR:=λL acc r s'=>∃dS,s'.heap.Ns L dS/\∀ao,ju L s'.heap ao->match r with|.ok _=>b5 c ρ s Q acc {s' with heap:=ao}|.error x=>bB) E aP cx hz eC h S ?_
 intro cenv cP hs q na Z dO bH b0 bE I new k
 obtain⟨dS,ns,-⟩:=I.f.ns
 exact⟨dS,ns,λj9 aI=>have D:=I.done S.r new aI;⟨.cell na,_,b0,D.1,D.2,b'.trans I.lD b'.heap,lr I.a rfl,k⟩⟩
end
section
variable{k:aS}{M:gd}{A:cy}{s:aF}
theorem C9{e:a3}{scope:dz}{env:bu}{pos:bD}{sa first:bN aj}{g:vB}{cl:aa (au×aJ)}{use:aj->bN i0}{Q:aj->aF->Prop}
  (jB:clausesOf e=[g])(hs:∀x,foldedSetIterable g.iter env x=pure x)(sb:closureFor scope env=pure cl)(sd:scope.kind=.function)
  (mh:∀x∈scope.names,x.2= .local ->(fH scope env).names.lookup x.1=some .local)
  (h:aK k M A first (λx s₁=>aK k M A (pyIter x) (λit cj=>aK k M A sa (λacc bE=>
   aK k M A (newFunctionEnv scope env.globals cl [] env.qual none .none (some env)) (λcenv cL=>
    ea k M A (.compStart e 0 it acc {cenv with scope:=fH scope env}) (λr s'=>
     match r with|.ok _=>aK k M A (use acc) (λJ gh=>∃m,gh.heap.Ns cenv.locals m/\∀ao,ju cenv.locals gh.heap ao->Q .none {gh with heap:=ao}) cb s'|.error x=>bB) cL) cb bE) cb cj) cb s₁) cb s):
  aK k M A (comprehension e scope env pos sa false first (some use)) Q cb s:=by
 unfold comprehension
 (refine ae sb ?_;refine ae jB ?_)
 refine bp (bo h (λx s₁ bK=>bV (dA ?_)) λJ J x=>x)
 dsimp only
 rw[hs]
 refine bp (bJ (bp (du (bo bK (λit cj cN=>?_) λJ J x=>x))))
 refine bV (dA ?_)
 refine bp (bo cN (λacc bE dG=>bp (bJ (bp (bo dG (λcenv cL fh=>?_) λJ J x=>x)))) λJ J x=>x)
 have cx:∀x∈(scope.names.filter λx=>(x.2== .local ||x.2==.cell)&&x.1 !=(".0":au)).reverse,x.2= .local ->
   Iv {cenv with scope:=fH scope env} x.1=some .local :=λx aA a5=>mh x (qQ.mp (pE.mp aA)).1 a5
 refine du (bp (rf (du (vV trivial (ll fh λr s' a4=>?_)))))
 induction r with
 |ok f=>
  refine bV (lh ?_)
  refine bp (du (bo a4 (λJ gh bg=>?_) λJ J x=>x))
  refine dI λdv b4=>?_
  obtain⟨m,aY,bg⟩:=bg
  refine b4 ?_
  refine bV (wpAny_comp_letGo (cenv:={cenv with scope:=fH scope env}) sd _ gh m ?_ aY λao cE J gm=>bJ (bg ao gm))
  intro y bM
  rcases gT.mp bM with bM|bM
  ·exact cx y (List.mem_of_mem_drop bM)
  ·exact cx y (List.mem_of_mem_take bM)
 |error x=>exact a4.elim
end
end
section
open Sem (wp)
section
variable{c:aG}{d:ab}{env:bu}{ls:aa au}{m:aE}{σ:aa Cell}
theorem P8{t elt iter:a3}{cnd:bh a3}{x:au}{dT gB pos:bD}{scope:dz}{fr:aa au}{vals:aa af}{Q:ct->aE->aa Cell->Prop}(E:fk env ls)(bb:nH t)
  (mi:swapsWithSole [t] (.ListComp elt [⟨.Name x dT,iter,cnd.toList,0⟩] scope gB) pos.line env=pure true)(a7:mR iter)(aP:lH scope x fr=true)(cx:vals.length=fr.length)
  (hz:∀y∈fr,env.kindOf y=some .cell)(eC:∀(k:ab) y,fr[k]? =some y->eO λ(i:ab) (a:af)=>dx (ls[i]? =some y) (m.getD i none=some a) (vals[k]? =some a))
  (h:cz c d env ls (eval iter env) m σ λdr ax=>∃as,dx (Src ax dr as) (ql dr=true) (iT c d (fH scope env) (fr++[x]) elt cnd (λaC=>Src aC dr as) ax.length fr.length as [] (vals.map some++[none]) (ax++[.list []]) λJ aC=>hX c d env ls (assign t env) (.cell ax.length) m aC λm₁ bt=>Q .next m₁ bt)):
  eB c d env ls (exec (.Assign [t] (.ListComp elt [⟨.Name x dT,iter,cnd.toList,0⟩] scope gB) pos) env) m σ Q:=by
 intro A s ρ S
 have C:=se aP
 have si:∀y∈fr,y∈ls:=λy bM=>by
  obtain⟨k,ba⟩:=qR.mp bM
  obtain⟨i,a,aB,-⟩:=eC k y ba
  exact js aB
 rw[zD,mi,(bb env).2]
 refine bV (dA (bp (bJ ?_)))
 refine bp (bp ?_)
 refine C9 (g:=⟨.Name x dT,iter,cnd.toList,0⟩) rfl (a7 env) (xE E C hz si) C.kind (xF C) ?_
 refine C7 (cnd:=cnd) (Q:=λn aC=>hX c d env ls (assign t env) (.cell n) m aC λm₁ bt=>Q .next m₁ bt)
  (RR:=λL acc r s'=>match r with
   |.ok _=>aK c.clean (model c.prog c.w) A (assignAll acc [assign t env]) (λJ gh=>∃m,gh.heap.Ns L m/\∀ao,ju L gh.heap ao->aK c.clean (model c.prog c.w) A (pure ()) (λJ s'=>aK c.clean (model c.prog c.w) A (pure Flow.next) (lz c env ls ρ s Q) cb s') cb {gh with heap:=ao}) cb s'
   |.error x=>bB) E aP cx hz eC h S ?_
 intro cenv cP hs q na Z dO bH b0 bE I new k
 obtain⟨dS,ns,-⟩:=I.f.ns
 have o6:cenv.locals∉own env:=λhm=>by
  obtain⟨cf,e⟩:=S.r.e3 _ (S.f.aR _ hm)
  rw[new _ (.head _)]at e;exact absurd e.symm (cB _)
 refine bo (k A bE bH (.ref q) ⟨S.a,I.r,I.o⟩ (lr I.a rfl)) (λJ nF p=>?_) λJ J x=>x
 obtain⟨kd,eQ,hV,l0,jx,mJ,oP,xG⟩:=p
 exact⟨dS,C8 ns λo e=>jx.keep _ _ (I.r.e2 _ (I.aR (.head _))) o6 e,λj9 aI=>bJ (bJ (have D:=I.doneF S new l0 jx oP aI;⟨.next,kd,_,hV,D.aB,D.aI,b'.trans (b'.trans I.lD mJ) b'.heap,D.cg,rfl,xG⟩))⟩
end
end
section
open Sem (wp)
noncomputable def xH:aE->aa ab->(aa af->Prop)->Prop
 |_,[],K=>K []
 |m,i::is,K=>p7 m i λa=>xH m is λas=>K (a::as)
theorem C'{m:aE}:∀{is:aa ab} {K:aa af->Prop},xH m is K->∃vs,dx (vs.length=is.length) (∀(k:ab) i,is[k]? =some i->∃a,m.getD i none=some a/\vs[k]? =some a) (K vs)
 |[],K,h=>⟨[],rfl,λk i e=>by simp at e,h⟩
 |i::is,K,h=>by
  refine dI λdv b4=>?_
  obtain⟨a,e,h⟩:=rV h
  obtain⟨vs,aB,aI,cg⟩:=C' h
  refine b4 ?_
  refine⟨a::vs,by(refine ae dc ?_;refine ae dc ?_;exact ae aB rfl),λk j ba=>?_,cg⟩
  induction k with
  |zero=>simp at ba;subst ba;exact⟨a,e,rfl⟩
  |succ k=>rw[my]at ba;refine dI λdv b4=>?_;obtain⟨b,az,ay⟩:=aI k j ba;refine b4 ?_;exact⟨b,az,by refine ae (my) ?_;exact ay⟩
noncomputable def qo(keep:aa Cell->Prop->Prop)(na:ab)(acc:aa af)(R:aa af->aE->aa Cell->Prop)(m:aE)(r:af)(σ:aa Cell):Prop:=hk σ na λy=>(y=.list acc/\acc.length+1<=1000000)/\md σ na (.list (acc++[r])) λbt=>keep bt (R (acc++[r]) m bt)
noncomputable def Dc(dk:aE->aa Cell->(af->aa Cell->Prop)->Prop)(keep:aa Cell->Prop->Prop)(na:ab)(acc:aa af)(R:aa af->aE->aa Cell->Prop)(m:aE)(b:aS)(σ:aa Cell):Prop:=bY b (dk m σ (qo keep na acc R m)) (keep σ (R acc m σ))
noncomputable def k6(dk:aE->aa Cell->(af->aa Cell->Prop)->Prop)(tc:bh (aE->aa Cell->(aS->aa Cell->Prop)->Prop))(keep:aa Cell->Prop->Prop)(na j:ab)(Q:aa Cell->Prop):aa af->aa af->aE->aa Cell->Prop
 |[],_,_,σ=>Q σ
 |a::as,acc,m,σ=>nO m j a λcE=>match tc with
  |none=>dk cE σ (qo keep na acc (k6 dk tc keep na j Q as) cE)
  |some t=>t cE σ (Dc dk keep na acc (k6 dk tc keep na j Q as) cE)
noncomputable def Dd(x:af)(P:Prop):Prop:=match x with
 |.e0 .. =>P
 |.lst _=>P
 |.cell _=>P
 |_=>bB
theorem P9{x:af}{P:Prop}(h:Dd x P):ql x=true/\P:=by
 induction x using af.cs<;>first|exact⟨rfl,h⟩|exact h.elim
noncomputable def Qa(dk:TE)(tc:bh TT)(c:aG)(d n:ab)(vs:aa af)(Q:ab->aa Cell->Prop)(dr:af)(σ:aa Cell):Prop:=r6 σ dr λas keep=>Dd dr (oS σ (.list []) λna bt=>
 k6 (dk c d) (tc.map λt=>t c d) keep na n (Q na) as [] (vs.map some++[none]) bt)
noncomputable def xI(gz:TE)(dk:TE)(tc:bh TT)(is:aa ab)(c:aG)(d:ab)(m:aE)(σ:aa Cell)(Q:ab->aa Cell->Prop):Prop:=
 xH m is λvs=>gz c d m σ (Qa dk tc c d is.length vs Q)
noncomputable def De(scope outer:dz):dz:={scope with names:=scope.names.map λ(n,k)=>if(k==.free&&outer.kind==.function&&outer.names.lookup n==some .cell)then(n,.cell)else(n,k)}
noncomputable def SC.comp(S:SC)(scope:dz)(fr:aa au)(x:au):SC:=⟨S.N,S.iJ,fr++[x],De scope S.sc,false⟩
theorem Df{scope:dz}{env:bu}:fH scope env=De scope env.scope:=rfl
noncomputable def o7(S:SC)(fr:aa au)(is:aa ab):aS:=fr.length==is.length&&(fr.zip is).all λp=>dw S.ls p.2==some p.1&&S.sc.names.lookup p.1==some .cell
theorem Qb{S:SC}{fr:aa au}{is:aa ab}(h:o7 S fr is=true):fr.length=is.length:=by
 simp only[o7,gf,fW]at h;exact h.1
theorem Dg{S:SC}{fr:aa au}{is:aa ab}(h:o7 S fr is=true){k:ab}{y:au}(e:fr[k]? =some y):∃i,dx (is[k]? =some i) (dw S.ls i=some y) (S.sc.names.lookup y=some .cell):=by
 simp only[o7,gf,fW,mz]at h
 have ba:=(dH.mp e).1
 obtain⟨i,a7⟩:∃i,is[k]? =some i:=⟨_,dH.mpr ⟨by refine cv h.1 ?_;exact ba,rfl⟩⟩
 have:=h.2 (y,i) (js (i:=k) (by rw[ac1];exact⟨e,a7⟩))
 exact⟨i,a7,this.1,this.2⟩
section
variable{S:SC}{elt iter cnd:a3}{x:au}{scope:dz}{fr:aa au}
theorem Qc{dk:TE}{tc:bh TT}{cn:bh a3}{c:aG}{d:ab}{env:bu}{uF:aa Cell->Prop}{keep:aa Cell->Prop->Prop}{na:ab}{Q:aa Cell->Prop}(F:S.Fits c env)(ba:∀σ P,keep σ P->uF σ/\P)
  (aB:cA (S.comp scope fr x) elt dk)(aI:match cn,tc with|none,none=>ky|some e,some t=>iz (S.comp scope fr x) e t|_,_=>bB):
  ∀(as acc:aa af) (m:aE) (σ:aa Cell),k6 (dk c d) (tc.map λt=>t c d) keep na fr.length Q as acc m σ->
   iT c d (fH scope env) (fr++[x]) elt cn uF na fr.length as acc m σ λJ aC=>Q aC:=by
 intro as
 induction as with
 |nil=>intro acc m σ h;exact h
 |cons a as cF=>
  intro acc m σ h cenv E he
  have G:(S.comp scope fr x).Fits c cenv:=⟨F.F,F.N,F.g,E,by(refine ae he ?_;refine ae Df ?_;refine ae F.sc ?_);rfl,λe=>by cases e⟩
  have emit:∀{cE:aE} {eD:aa Cell},dk c d cE eD (qo keep na acc (k6 (dk c d) (tc.map λt=>t c d) keep na fr.length Q as) cE)->
    cz c d cenv (fr++[x]) (eval elt cenv) cE eD λr ax=>dx (ax[na]? =some (.list acc)) (acc.length+1<=1000000) (uF (ax.set na (.list (acc++[r])))/\iT c d (fH scope env) (fr++[x]) elt cn uF na fr.length as (acc++[r]) cE (ax.set na (.list (acc++[r]))) λJ aC=>Q aC):=by
   intro cE eD h
   refine(aB c d cenv cE eD _ G h).mono λr ax q=>?_
   refine dI λdv b4=>?_
   obtain⟨y,bM,⟨e,aO⟩,q⟩:=jg q
   refine b4 ?_
   subst e
   have q:=oT (K:=λbt=>keep bt (k6 (dk c d) (tc.map λt=>t c d) keep na fr.length Q as (acc++[r]) cE bt)) q
   obtain⟨iD,q⟩:=ba _ _ q
   exact⟨bM,aO,iD,cF _ _ _ q⟩
  induction cn with
  |none=>
   induction tc with
   |some t=>exact aI.elim
   |none=>exact emit (p8 (K:=λcE=>dk c d cE σ (qo keep na acc (k6 (dk c d) none keep na fr.length Q as) cE)) h)
  |some e=>
   induction tc with
   |none=>exact aI.elim
   |some t=>
    have h:=p8 (K:=λcE=>t c d cE σ (Dc (dk c d) keep na acc (k6 (dk c d) (some (t c d)) keep na fr.length Q as) cE)) h
    refine(aI c d cenv _ σ _ G h).mono λb eD q=>?_
    have q:=me q
    induction b with
    |true=>exact emit q
    |false=>obtain⟨iD,q⟩:=ba _ _ q;exact⟨iD,cF _ _ _ q⟩
noncomputable def xJ(S:SC):bh a3->bh TT->Prop
 |none,none=>ky
 |some e,some t=>iz S e t
 |_,_=>bB
theorem Dh{gz dk:TE}{tc:bh TT}{cn:bh a3}{is:aa ab}{c:aG}{d:ab}{env:bu}{m:aE}{σ:aa Cell}{Q:ab->aa Cell->Prop}(F:S.Fits c env)(hf:o7 S fr is=true)
  (h0:cA S iter gz)(aB:cA (S.comp scope fr x) elt dk)(aI:xJ (S.comp scope fr x) cn tc)(h:xI gz dk tc is c d m σ Q):
  ∃vals:aa af,dx (vals.length=fr.length) (∀y∈fr,env.kindOf y=some .cell) ((∀(k:ab) y,fr[k]? =some y->eO λ(i:ab) (a:af)=>dx (S.ls[i]? =some y) (m.getD i none=some a) (vals[k]? =some a))/\cz c d env S.ls (eval iter env) m σ λdr ax=>∃as,dx (Src ax dr as) (ql dr=true) (iT c d (fH scope env) (fr++[x]) elt cn (λaC=>Src aC dr as) ax.length fr.length as [] (vals.map some++[none]) (ax++[.list []]) λJ aC=>Q ax.length aC)):=by
 obtain⟨vs,v1,v2,h⟩:=C' h
 have a5:=Qb hf
 refine⟨vs,v1.trans a5.symm,λy bM=>?_,λk y ba=>?_,(h0 c d env m σ _ F h).mono λdr ax q=>?_⟩
 ·obtain⟨k,ba⟩:=qR.mp bM
  obtain⟨i,-,-,e⟩:=Dg hf ba
  show env.scope.names.lookup y=_
  refine ae F.sc ?_;exact e
 ·obtain⟨i,az,ay,-⟩:=Dg hf ba
  obtain⟨a,bF,fF⟩:=v2 k i az
  exact⟨i,a,hB.trans ay,bF,fF⟩
 ·obtain⟨as,keep,hs,q,ba⟩:=BW q
  obtain⟨xD,q⟩:=P9 q
  refine⟨as,hs,xD,?_⟩
  have q:=rW (K:=λna bt=>k6 (dk c d) (tc.map λt=>t c d) keep na is.length (Q na) as [] (vs.map some++[none]) bt) q
  rw[<-a5]at q
  exact Qc F ba aB (by induction cn<;>induction tc<;>exact aI) as [] _ _ q
noncomputable def Di(Q:af->aa Cell->Prop)(n:ab)(σ:aa Cell):Prop:=Q (.cell n) σ
noncomputable def Qd(gz dk:TE)(tc:bh TT)(is:aa ab):TE:=λc d m σ Q=>xI gz dk tc is c d m σ (Di Q)
theorem Dj{gz dk:TE}{tc:bh TT}{cn:bh a3}{is:aa ab}{dT pos:bD}{ifs:aa a3}(a7:mR iter)(aP:lH scope x fr=true)(hf:o7 S fr is=true)(xK:ifs=cn.toList)
  (h0:cA S iter gz)(aB:cA (S.comp scope fr x) elt dk)(aI:xJ (S.comp scope fr x) cn tc):cA S (.ListComp elt [⟨.Name x dT,iter,ifs,0⟩] scope pos) (Qd gz dk tc is):=λc d env m σ Q F h=>by
 subst xK
 refine dI λdv b4=>?_
 obtain⟨vals,v1,v2,g4,q⟩:=Dh F hf h0 aB aI h
 refine b4 ?_
 exact P7 (cnd:=cn) F.E a7 aP v1 v2 g4 q
noncomputable def Qe(gz dk:TE)(tc:bh TT)(is:aa ab)(a:iy):br:=λc d m σ Q=>xI gz dk tc is c d m σ (Di (BR a c d m Q))
noncomputable def sj(S:SC)(t:au)(Qf Qg:ab)(scope:dz):aS:=S.sc.kind==.function&&S.sc.names.lookup t==some .local &&Qf==Qg&&!(scope.names.any λ(n,k)=>n==t&&(k== .local ||k==.cell))
theorem iT.mono{c:aG}{d:ab}{cn:bh a3}{sc:dz}{cP:aa au}{dj:aa Cell->Prop}{na j:ab}{Q dJ:aa af->aa Cell->Prop}(bg:∀a σ,Q a σ->dJ a σ):∀(as acc:aa af) (m:aE) (σ:aa Cell),
  iT c d sc cP elt cn dj na j as acc m σ Q->iT c d sc cP elt cn dj na j as acc m σ dJ:=by
 intro as
 induction as with
 |nil=>intro acc m σ h;exact bg _ _ h
 |cons a as cF=>
  intro acc m σ h cenv E he
  have h:=h cenv E he
  induction cn with
  |none=>exact cz.mono h λr ax q=>⟨q.1,q.2,q.3.1,cF _ _ _ q.3.2⟩
  |some e=>
   refine gY.mono h λb eD q=>?_
   induction b with
   |true=>exact cz.mono q λr ax q=>⟨q.1,q.2,q.3.1,cF _ _ _ q.3.2⟩
   |false=>exact⟨q.1,cF _ _ _ q.2⟩
theorem Qh{S:SC}{c:aG}{env:bu}(F:S.Fits c env){t:au}{kL gB:bD}{gens:aa vB}{l:ab}(h:sj S t kL.line gB.line scope=true):
  swapsWithSole [.Name t kL] (.ListComp elt gens scope gB) l env=pure true:=by
 simp only[sj,gf]at h
 refine dI λdv b4=>?_
 obtain⟨⟨⟨aB,aI⟩,cg⟩,dX⟩:=h
 refine b4 ?_
 have ba:env.scope.kind=.function:=by refine ae F.sc ?_;exact fW.mp aB
 have aq:env.blockKind=.function:=by unfold Env.blockKind;refine ae ba ?_;rfl
 have aY:env.kindOf t=some .local :=by show env.scope.names.lookup t=_;refine ae F.sc ?_;exact fW.mp aI
 show(pure (env.blockKind==.function&&env.kindOf t==some .local &&kL.line==gB.line&&!(scope.names.any λ(n,k)=>n==t&&(k== .local ||k==.cell))):bN aS)=_
 (refine ae aq ?_;refine ae aY ?_;refine ae cg ?_;refine ae dX ?_);rfl
theorem Dk{gz dk:TE}{tc:bh TT}{cn:bh a3}{is:aa ab}{t:au}{kL dT gB pos:bD}{ifs:aa a3}{fv:iy}(a7:mR iter)(aP:lH scope x fr=true)(hf:o7 S fr is=true)(xK:ifs=cn.toList)(mi:sj S t kL.line gB.line scope=true)
  (h0:cA S iter gz)(aB:cA (S.comp scope fr x) elt dk)(aI:xJ (S.comp scope fr x) cn tc)(cg:k3 S (.Name t kL) fv):dt S (.Assign [.Name t kL] (.ListComp elt [⟨.Name x dT,iter,ifs,0⟩] scope gB) pos) (Qe gz dk tc is fv):=λc d env m σ Q F h=>by
 subst xK
 obtain⟨vals,v1,v2,g4,q⟩:=Dh F hf h0 aB aI h
 refine P8 (cnd:=cn) F.E bG (Qh F mi) a7 aP v1 v2 g4 (q.mono λdr ax q=>?_)
 obtain⟨as,a1,a2,gp⟩:=q
 refine⟨as,a1,a2,?_⟩
 exact iT.mono (λJ aC q=>cg c d env _ m aC _ F q) as [] _ _ gp
end
end
section
open Sem (wp)
section
variable{k:aS}{prog:fc}{w:cu}{A:cy}{s:aF}{R:iG->aF->Prop}
theorem Qi{a:aJ}{o:ew}{fd:hb}{body:aa b1}{args:ob}{binds:aa (au×aj)}
  (nI:A.depth<recursionLimit)(aN:s.heap.get? a=some o)(wi:o.data=.func fd)(wj:s.heap.NoLimit)(rr:s.heap.CodeRec fd.code fd.qualname)
  (wk:fd.body=.stmts body)(oy:BindsTo s fd args binds)(sb:fd.closure=[])
  (sd:∀x∈binds,fd.scope.names.lookup x.1=some .local \/(fd.scope.names.lookup x.1=some .cell/\((cellsFrom (s.heap.objs.size+1) fd.scope.names []).lookup x.1).isSome=true))
  (h:∀s',InCallC s (callEnvC fd s.heap.objs.size a).locals (bindL (callEnvC fd s.heap.objs.size a).kindOf binds λJ=>none) (callEnvC fd s.heap.objs.size a).cells (bindC (callEnvC fd s.heap.objs.size a).kindOf binds λJ=>none) s'->
   aK k (model prog w) (A.deeper (callEnvC fd s.heap.objs.size a)) (execs body (callEnvC fd s.heap.objs.size a)) (λf s'=>R (.ok (.ret (match f with|.ret v=>v|_=>.none))) s') cb s')
  (wm:fd.scope.isCoroutine=false)(wo:fd.scope.isGenerator=false)(ba:fd.scope.kind=.function):
  ea k (model prog w) A (.call (.ref a) args) R s:=by
 refine lp ?_
 refine bV (oc aN ?_)
 refine dI λdv b4=>?_
 obtain⟨c,pV,vs,tQ,aP,wq,wt,bg⟩:=id rr
 refine b4 ?_
 refine ae wi ?_
 show aK k (model prog w) _ (callFunction a fd args) _ _ _
 delta callFunction
 refine ae aP (ae wm (ae wo (ae wk ?_)))
 refine bV (m:=field (.ref c) 1) (i4 wq wt bg (bp (bJ ?_)))
 refine bV (oy _ _ _ _ ?_)
 (refine cv aP ?_;refine ae sb ?_)
 refine bV (wpAny_newFunctionEnv_cells ba sd λenv he s' x=>?_)
 subst he
 exact bV (wpAny_enterFrame (wj.keeps x.toInCall.keep) nI (bJ (ie rfl (ie trivial (AG (bo (h s' x) (λJ J p=>p) λJ J p=>p.elim))))))
end
theorem xM{K:au->bh kV}{x:au}:∀{bs:aa (au×aj)} {m:au->bh aj},x∉bs.map (·.1)->bindL K bs m x=m x
 |[],_,_=>rfl
 |(n,v)::r,m,h=>by
  have aY:x≠n:=λe=>h (e▸.head _)
  refine(xM λq=>h (.tail _ q)).trans ?_
  by_cases z:K n=some .local
  ·exact(congrFun (cV z) x).trans (cC aY)
  ·exact congrFun (cC z) x
theorem xN{K:au->bh kV}{x:au}:∀{bs:aa (au×aj)} {m:au->bh aj},x∉bs.map (·.1)->bindC K bs m x=m x
 |[],_,_=>rfl
 |(n,v)::r,m,h=>by
  have aY:x≠n:=λe=>h (e▸.head _)
  refine(xN λq=>h (.tail _ q)).trans ?_
  by_cases z:K n=some .local
  ·exact congrFun (cV z) x
  ·exact(congrFun (cC z) x).trans (cC aY)
theorem Dl{K:au->bh kV}{x:au}{v:aj}(ba:K x=some .local):∀{bs:aa (au×aj)} {i:ab} {m:au->bh aj},(bs.map (·.1)).Nodup->bs[i]? =some (x,v)->bindL K bs m x=some v
 |(n,u)::r,0,m,cG,e=>by
  obtain⟨rfl,rfl⟩:=e
  refine(xM (j3.mp cG).1).trans ((congrFun (cV ba) _).trans (cV rfl))
 |(n,u)::r,i+1,m,cG,e=>by
  rw[my]at e
  exact Dl (bs:=r) ba (j3.mp cG).2 e
theorem Dm{K:au->bh kV}{x:au}{v:aj}(ba:K x≠some .local):∀{bs:aa (au×aj)} {i:ab} {m:au->bh aj},(bs.map (·.1)).Nodup->bs[i]? =some (x,v)->bindC K bs m x=some v
 |(n,u)::r,0,m,cG,e=>by
  obtain⟨rfl,rfl⟩:=e
  refine(xN (j3.mp cG).1).trans ((congrFun (cC ba) _).trans (cV rfl))
 |(n,u)::r,i+1,m,cG,e=>by
  rw[my]at e
  exact Dm (bs:=r) ba (j3.mp cG).2 e
theorem cellsFrom_names:∀(names:aa (au×kV)) (n:ab) (acc:aa (au×aJ)),(cellsFrom n names acc).map (·.1)=((names.filter (·.2==.cell)).map (·.1)).reverse++acc.map (·.1)
 |[],n,acc=>rfl
 |(x,nT)::r,n,acc=>by
  cases e:nT==II with
  |true=>exact(congrArg (List.map Prod.fst) (cV e)).trans (by rw[cellsFrom_names r];simp[e])
  |false=>exact(congrArg (List.map Prod.fst) (cC (H8.mp e))).trans (by rw[cellsFrom_names r];simp[e])
theorem Qj{l:aa (au×aJ)}{x:au}(h:x∈l.map (·.1)):∃q,l.lookup x=some q:=by
 induction l with
 |nil=>exact absurd h jr
 |cons p r cF=>
  refine ae nr ?_
  cases e:x==p.1 with
  |true=>exact⟨p.2,rfl⟩
  |false=>
   rw[gJ,gH]at h
   rcases h with h|h
   ·rw[h]at e;simp at e
   ·exact cF h
theorem Qk{l:aa (au×aJ)}{x:au}(h:x∉l.map (·.1)):l.lookup x=none:=by
 induction l with
 |nil=>rfl
 |cons p r cF=>
  refine ae nr ?_
  have:(x==p.1)=false:=th.mpr λe=>h (e▸.head _)
  refine ae this ?_
  exact cF λq=>h (.tail _ q)
theorem Dn{l:aa (au×aJ)}{x:au}{q:aJ}(cG:(l.map (·.1)).Nodup)(h:(x,q)∈l):l.lookup x=some q:=by
 induction l with
 |nil=>exact absurd h jr
 |cons p r cF=>
  refine ae nr ?_
  rw[gJ,j3]at cG
  rcases gH.mp h with e|h
  ·refine cv e ?_;simp
  ·have:(x==p.1)=false:=th.mpr λe=>cG.1 (i1.mpr ⟨(x,q),h,e⟩)
   refine ae this ?_;exact cF cG.2 h
end
section
open Sem (wp)
section
variable{c:aG}{d:ab}{ls:aa au}{σ:aa Cell}
theorem xO{x:au}{nT:kV}:∀{l:aa (au×kV)},l.lookup x=some nT->(x,nT)∈l
 |p::r,h=>by
  rw[nr]at h
  cases e:x==p.1 with
  |true=>
   rw[e]at h;cases h
   have:x=p.1:=by exact fW.mp e
   refine ae this ?_;exact .head _
  |false=>rw[e]at h;exact .tail _ (xO h)
theorem Dp{x:au}{iD f7:kV}:∀{l:aa (au×kV)},(l.map (·.1)).Nodup->(x,iD)∈l->(x,f7)∈l->iD=f7
 |p::r,cG,aB,aI=>by
  rw[gJ,j3]at cG
  rcases gH.mp aB with az|aB
  ·rcases gH.mp aI with ay|aI
   ·rw[<-ay]at az;cases az;rfl
   ·exact absurd (i1.mpr ⟨_,aI,by exact cv az rfl⟩) cG.1
  ·rcases gH.mp aI with ay|aI
   ·exact absurd (i1.mpr ⟨_,aB,by exact cv ay rfl⟩) cG.1
   ·exact Dp cG.2 aB aI
noncomputable def aG.deeper(c:aG)(env:bu):aG:={c with fr:=c.fr.map (env::·)}
theorem d9.Ql{c:aG}{d:ab}{A:cy}{env:bu}(h:d9 c (d+1) A):d9 (c.deeper env) d (A.deeper env):=⟨h.1,by have:=h.2.1;show A.depth+1+_<=_;exact ne λJ=>by lia,by have:=h.2.2.1;show A.units+3+_<=_;exact ne λJ=>by lia,h.2.2.2.1,λl e=>by
 obtain⟨l',az,ay⟩:=Iz.mp (show c.fr.map (env::·)=some l from e)
 show A.frames.map (env::·)=_
 (refine ae (h.2.2.2.2 l' az) ?_;refine cv ay ?_);rfl⟩
theorem ff.d7{c:aG}{ρ:aT}{h:a8}{dS:au->bh aj}{env:bu}{x:au}{o:bh af}{b:aS}{l:bh (aa bu)}(k:ff c ρ h dS env x o):ff {c with clean:=b,fr:=l} ρ h dS env x o:=by
 unfold ff at k⊢
 revert k
 cases env.cells.lookup x with
 |none=>
  intro k
  induction o with
  |none=>exact k
  |some a=>obtain⟨v,az,ay⟩:=k;exact⟨v,az,ay.d7⟩
 |some q=>
  intro k
  obtain⟨cf,e,k⟩:=k
  induction o with
  |none=>exact⟨cf,e,k⟩
  |some a=>obtain⟨v,az,ay⟩:=k;exact⟨cf,e,v,az,ay.d7⟩
theorem dK.d7{c:aG}{env:bu}{ls:aa au}{m:aE}{ρ:aT}{h:a8}{b:aS}{l:bh (aa bu)}(F:dK c env ls m ρ h):dK {c with clean:=b,fr:=l} env ls m ρ h:=
 ⟨by obtain⟨dS,n,k⟩:=F.ns;exact⟨dS,n,λi x e=>(k i x e).d7⟩,F.aR,F.cells,F.len⟩
theorem Dq{f:aJ}{fd:hb}{body:aa b1}{as:aa af}{kw bs:aa (au×af)}{more:aa au}{Q:af->aa Cell->Prop}(H:c.Ok)(F:FnAt c f fd body)(aq:mM c fd as kw bs)
  (mh:(fd.scope.names.map (·.1)).Nodup)(a5:ls=bs.map (·.1)++more)(gj:ls.Nodup)(hZ:∀x∈ls,fd.scope.names.lookup x=some .local \/fd.scope.names.lookup x=some .cell)(jL:∀x∈ls,(x==("__debug__":au))=false/\(x==("__classdict__":au))=false)
  (h:∀env,fk env ls->env.scope=fd.scope->env.frame=some env.locals->eB (c.deeper env) d env ls (execs body env) (f5 bs more) σ λc7 J aC=>match c7 with|.ret a=>Q a aC|.next=>Q .none aC|_=>bB):
  bc c (d+1) (.ref f) as kw σ Q:=by
 intro A s ρ vs kvs bP R V W
 obtain⟨pV,tR,wA,oB⟩:=F.at_
 have X:c.K.In s.heap:=H.fZ.keeps λb o e=>R.stays b o e
 obtain⟨binds,oy,aY,cx⟩:=aq s ρ vs kvs R.stays V W
 have hlen:binds.length=bs.length:=by have:=congrArg ig aY;simpa using this
 generalize kF:cellsFrom (s.heap.objs.size+1) fd.scope.names []=cells
 have xP:cells.map (·.1)=((fd.scope.names.filter (·.2==.cell)).map (·.1)).reverse:=by rw[<-kF,cellsFrom_names];simp
 have Dr:(cells.map (·.1)).Nodup:=by
  refine ae xP ?_
  have:((fd.scope.names.filter (·.2==.cell)).map (·.1)).Nodup:=List.Nodup.sublist (List.filter_sublist.map _) mh
  exact Z1.mpr (this.imp ht)
 have xQ:∀x,fd.scope.names.lookup x=some .cell->∃q,cells.lookup x=some q:=λx aA=>Qj (by
  rw[xP,pE]
  exact i1.mpr ⟨(x,.cell),qQ.mpr ⟨xO aA,rfl⟩,rfl⟩)
 have Ds:∀x,fd.scope.names.lookup x=some .local ->cells.lookup x=none:=λx aA=>Qk (by
  rw[xP,pE]
  intro hm
  obtain⟨⟨y,nT⟩,bM,e⟩:=i1.mp hm
  obtain⟨aB,aI⟩:=qQ.mp bM
  have e:y=x:=e
  subst e
  have aI:nT=.cell:=by exact fW.mp aI
  subst aI
  exact NameKind.noConfusion (Dp mh aB (xO aA)))
 have h2:∀x∈binds,x.1∈ls:=λx aA=>by
  have:x.1∈bs.map (·.1):=aY▸i1.mpr ⟨x,aA,rfl⟩
  refine ae a5 ?_;exact mw _ this
 refine Qi (fd:=fd) (body:=body) (binds:=binds) bP.room (X _ _ oB) rfl (H.nolimit.keeps λb o e=>R.stays b o e) (codeRec_of X F.code) F.body oy F.closure ?_ (λs₁ I=>?_) F.co F.gen F.kind
 ·intro x aA
  rcases hZ x.1 (h2 x aA)with e|e
  ·exact .inl e
  ·obtain⟨q,bg⟩:=xQ x.1 e
   exact .inr ⟨e,by(refine ae kF ?_;refine ae bg ?_);rfl⟩
 have m2:(callEnvC fd s.heap.objs.size f).cells=cells:=kF
 have sk:(callEnvC fd s.heap.objs.size f).locals=s.heap.objs.size:=rfl
 have uG:(callEnvC fd s.heap.objs.size f).kindOf=λx=>fd.scope.names.lookup x:=rfl
 have jM:(callEnvC fd s.heap.objs.size f).scope=fd.scope:=rfl
 have Dt:(callEnvC fd s.heap.objs.size f).globals=fd.globals:=rfl
 have Du:(callEnvC fd s.heap.objs.size f).builtins=fd.builtins:=rfl
 have Dv:(callEnvC fd s.heap.objs.size f).frame=some (callEnvC fd s.heap.objs.size f).locals:=rfl
 generalize callEnvC fd s.heap.objs.size f=env at I m2 sk uG jM Dt Du Dv⊢
 rw[m2]at I
 have fresh:∀q∈own env,s.heap.get? q=none:=λq bg=>by
  have Qm:s.heap.objs.size<=q:=by
   rcases gH.mp bg with e|bg
   ·(refine ae e ?_;refine ae sk ?_);exact eL _
   ·rw[m2]at bg
    obtain⟨⟨y,eW⟩,bM,e⟩:=i1.mp bg
    have e:eW=q:=e
    subst e
    have:=I.above y eW bM
    rw[sk]at this
    exact q9 this
  cases e:s.heap.get? q with
  |none=>rfl
  |some o=>have:q<s.heap.objs.size:=lT e;exact absurd this (Iu.mpr Qm)
 have E:fk env ls:=by
  refine⟨by refine ae jM ?_;exact F.kind,gj,λx aA=>?_,jL,Dt.trans F.globals,Du.trans F.builtins,?_,λx y q ne aB aI=>?_⟩
  ·(refine ae m2 ?_;refine ae uG ?_)
   rcases hZ x aA with e|e
   ·refine ae (Ds x e) ?_;exact e
   ·obtain⟨q,bg⟩:=xQ x e
    refine ae bg ?_;exact .inl e
  ·intro hm
   rw[m2]at hm
   obtain⟨⟨y,eW⟩,bM,e⟩:=i1.mp hm
   have e:eW=env.locals:=e
   have:=I.above y eW bM
   rw[e]at this
   exact qT _ this
  ·rw[m2]at aB aI
   exact ne (name_of_addr I.apart (mem_of_lookup aB) (mem_of_lookup aI))
 have bX:=I.toInCall.keep
 have live:∀b∈own env,∃o,s₁.heap.get? b=some o:=λb aq=>by
  rcases gH.mp aq with e|aq
  ·obtain⟨o,es,hT,aN,-⟩:=I.toInCall.ns;refine ae e ?_;exact⟨o,aN⟩
  ·rw[m2]at aq
   obtain⟨⟨y,eW⟩,bM,e⟩:=i1.mp aq
   obtain⟨o,aN,-⟩:=I.cell y eW (Dn Dr bM)
   refine cv e ?_;exact⟨o,aN⟩
 have bz:Rep c (ρ.hide (own env)) σ s₁.heap:=R.hide bX fresh live
 have ca:Carry ρ (ρ.hide (own env)) s.heap s₁.heap:=ov fresh bX
 have bn:(binds.map (·.1)).Nodup:=by refine ae aY ?_;rw[a5]at gj;exact(qV.mp gj).1
 have fG:dK c env ls (f5 bs more) (ρ.hide (own env)) s₁.heap:=by
  refine⟨⟨_,I.toInCall.ns,λi x aA=>?_⟩,λq bg=>mw _ bg,λq bg=>?_,by refine ae a5 ?_;simp[f5]⟩
  ·have Qn:x∈ls:=js aA
   have val:(eO λv a=>dx (binds[i]? =some (x,v)) ((f5 bs more).getD i none=some a) (bq c (ρ.hide (own env)) s₁.heap a v))\/(x∉binds.map (·.1)/\(f5 bs more).getD i none=none):=by
    by_cases a7:i<bs.length
    ·left
     have az:(f5 bs more).getD i none=some (bs[i]).2:=by
      (refine ae (j2) ?_;refine ae (eG (by simpa using a7)) ?_)
      simp[a7]
     obtain⟨v,oC,wC⟩:=cx.at (i:=i) (a:=(bs[i]).2) (by simp[a7])
     refine⟨v,_,?_,az,bq.mono (ρ:=ρ) (ρ':=ρ.hide (own env)) (λJ J e=>e) ca _ _ wC⟩
     have a1:(binds.map (·.1))[i]? =some x:=by
      refine ae aY ?_;rw[a5,eG (by simpa using a7)]at aA;exact aA
     rw[j4]at a1 oC
     cases rv:binds[i]? with
     |none=>rw[rv]at a1;exact absurd a1.symm (cB _)
     |some q=>
      rw[rv]at a1 oC
      cases a1;cases oC;rfl
    ·right
     refine⟨λhm=>?_,?_⟩
     ·rw[aY]at hm
      rw[a5]at aA gj
      rw[eU (by simpa using kR a7)]at aA
      exact(qV.mp gj).2.2 x hm x (js aA) rfl
     ·skip
      (refine ae (j2) ?_;refine ae (eU (by simpa using kR a7)) ?_)
      refine ae (j4) ?_
      cases more[i-(bs.map λb=>some b.2).length]? <;>rfl
   unfold ff
   refine ae m2 ?_
   rcases hZ x Qn with e|e
   ·refine ae (Ds x e) ?_
    have o8:env.kindOf x=some .local :=by refine ae uG ?_;exact e
    rcases val with⟨v,a,hY,iN,o9⟩|⟨hY,iN⟩
    ·refine ae iN ?_;exact⟨v,Dl o8 bn hY,o9⟩
    ·refine ae iN ?_;exact xM hY
   ·obtain⟨q,bg⟩:=xQ x e
    refine ae bg ?_
    have o8:env.kindOf x≠some .local :=by refine ae uG ?_;show fd.scope.names.lookup x≠_;refine ae e ?_;exactλz=>by cases z
    obtain⟨cf,aN,hd⟩:=I.cell x q bg
    refine⟨cf,aN,?_⟩
    rcases val with⟨v,a,hY,iN,o9⟩|⟨hY,iN⟩
    ·refine ae iN ?_;rw[Dm o8 bn hY]at hd;exact⟨v,hd,o9⟩
    ·refine ae iN ?_;rw[xN hY]at hd;exact hd
  ·rw[m2]at bg
   obtain⟨⟨y,eW⟩,bM,e⟩:=i1.mp bg
   obtain⟨o,aN,hd⟩:=I.cell y eW (Dn Dr bM)
   refine cv e ?_;exact⟨o,_,aN,hd⟩
 have bW:b' s s₁:=by
  obtain⟨ao,tk,e⟩:=I.toInCall.same
  refine ae e ?_;exact b'.of
 refine bo (h env E jM Dv _ s₁ _ ⟨bP.Ql,bz.d7,fG.d7⟩) (λc7 cj p=>?_) λJ J x=>x.elim
 obtain⟨oD,m₂,dy,bt,cZ,cw,dM,kZ,eH,cN⟩:=p
 obtain⟨qp,wD⟩:=dy
 have ay:wD=own env++ρ.aR:=cw.aR
 subst ay
 have jd:Ext ρ ⟨qp,ρ.aR⟩ s.heap cj.heap:=by
  refine⟨cw.pre,rfl,λb o aq e=>cw.keep b o aq (λq=>?_) (bX b o e),λb aq nb=>?_⟩
  ·rw[fresh b q]at e;exact absurd e.symm (cB _)
  ·rcases cw.fresh b aq nb with z|z
   ·exact fresh b z
   ·cases e:s.heap.get? b with
    |none=>rfl
    |some o=>rw[bX b o e]at z;exact absurd z (cB _)
 have d3:Rep c (⟨qp,ρ.aR⟩:aT) bt cj.heap:=Rep.show (l:=own env) (Rep.d7 (c:=c.deeper env) (b:=c.clean) (l:=c.fr) cZ)
 have M:=bW.trans dM
 induction oD with
 |next=>refine ae (show c7=.next from eH) ?_;exact⟨_,rfl,.none,⟨qp,ρ.aR⟩,bt,d3,jd,M,ou,cN⟩
 |brk=>exact cN.elim
 |cont=>exact cN.elim
 |ret a=>
  obtain⟨v,rfl,fg⟩:=eH
  exact⟨_,rfl,a,⟨qp,ρ.aR⟩,bt,d3,jd,M,bq.mono (ρ:=(⟨qp,ρ.aR⟩:aT).hide (own env)) (ρ':=⟨qp,ρ.aR⟩) (λJ J e=>e) tM _ _ (bq.d7 (c:=c.deeper env) (b:=c.clean) (l:=c.fr) fg),cN⟩
theorem Qo{f:aJ}{fd:hb}{body:aa b1}{as:aa af}{kw bs:aa (au×af)}{more:aa au}{Q:af->aa Cell->Prop}(H:c.Ok)(F:FnAt c f fd body)(aq:mM c fd as kw bs)
  (mh:(fd.scope.names.map (·.1)).Nodup)(a5:ls=bs.map (·.1)++more)(gj:ls.Nodup)(hZ:∀x∈ls,fd.scope.names.lookup x=some .local \/fd.scope.names.lookup x=some .cell)(jL:∀x∈ls,(x==("__debug__":au))=false/\(x==("__classdict__":au))=false)
  (h:∀env,fk env ls->env.scope=fd.scope->eB (c.deeper env) d env ls (execs body env) (f5 bs more) σ λc7 J aC=>match c7 with|.ret a=>Q a aC|.next=>Q .none aC|_=>bB):
  bc c (d+1) (.ref f) as kw σ Q:=
 Dq H F aq mh a5 gj hZ jL λenv E he J=>h env E he
theorem Qp{S:SC}{f:aJ}{fd:hb}{body:aa b1}{as:aa af}{kw bs:aa (au×af)}{more:aa au}{t:br}{Q:af->aa Cell->Prop}(F:c.a0)(eC:c.fr=none)(hC:c.names=S.N)(c3:c.iu.map (·.1)=S.iJ)
  (fw:FnAt c f fd body)(iR:fd.scope=S.sc)(r7:S.top=false)(bb:bQ S body t)(aq:mM c fd as kw bs)(mh:(fd.scope.names.map (·.1)).Nodup)(a5:S.ls=bs.map (·.1)++more)(gj:S.ls.Nodup)
  (hZ:∀x∈S.ls,fd.scope.names.lookup x=some .local \/fd.scope.names.lookup x=some .cell)(jL:∀x∈S.ls,(x==("__debug__":au))=false/\(x==("__classdict__":au))=false)
  (h:t c d (f5 bs more) σ λc7 J aC=>match c7 with|.ret a=>Q a aC|.next=>Q .none aC|.brk=>bB|.cont=>bB):bc c (d+1) (.ref f) as kw σ Q:=
 Qo F.H fw aq mh a5 gj hZ jL λenv E he=>by
  refine ae (show c.deeper env=c by induction c;subst eC;rfl) ?_
  exact(bb c d env _ σ _ ⟨F,hC,c3,E,he.trans iR,λe=>by rw[r7]at e;exact absurd e fV⟩ h).mono λc7 m σ k=>by induction c7<;>first|exact k|exact k.elim
end
end
section
open Sem (wp)
theorem Rep.Qq{c:aG}{ρ:aT}{σ:aa Cell}{h ao:a8}{D:aJ}{y:Cell}(R:Rep c (ρ.hide [D]) σ h)(Dw:D∉ρ.aR)(k:∀a o,a≠D->h.get? a=some o->ao.get? a=some o)
  (bM:Carry (ρ.hide [D]) (ρ.add (D,D)) h ao->ek c (ρ.add (D,D)) ao (D,D) y):Rep c (ρ.add (D,D)) (σ++[y]) ao:=by
 have sm:D∉addrs ρ.cs:=R.e2 D og
 have split:∀(i:ab) q,(ρ.add (D,D)).cs[i]? =some q->(ρ.cs[i]? =some q/\i<ρ.cs.length)\/(i=ρ.cs.length/\q=(D,D)):=by
  intro i q e
  have e:(ρ.cs++[(D,D)])[i]? =some q:=e
  by_cases a7:i<ρ.cs.length
  ·rw[eG a7]at e;exact .inl ⟨e,a7⟩
  ·rw[eU (by exact kR ‹_›)]at e
   have:i-ρ.cs.length=0:=by
    by_cases z:i-ρ.cs.length=0
    ·exact z
    ·obtain⟨m,hm⟩:=ZP z;rw[hm]at e;simp at e
   rw[this]at e
   exact .inr ⟨by lia,by simpa using e.symm⟩
 have pP:∀b,b∈addrs (ρ.add (D,D)).cs->b∈addrs ρ.cs\/b=D:=by
  intro b aq
  rw[show(ρ.add (D,D)).cs=ρ.cs++[(D,D)]from rfl,hS]at aq
  rcases gT.mp aq with aq|aq
  ·exact .inl aq
  ·exact .inr (by simpa[addrs]using aq)
 have a4:∀(i:ab) p,(ρ.hide [D]).cs[i]? =some p->(ρ.add (D,D)).cs[i]? =some p:=λi p e=>by
  have e:ρ.cs[i]? =some p:=e
  refine ae (eG (dH.mp e).1) ?_;exact e
 have ca:Carry (ρ.hide [D]) (ρ.add (D,D)) h ao:=λa o na e=>by
  obtain⟨cD,cS⟩:=aT.tL.mp na
  have cD:a≠D:=by simpa using cD
  rw[fz]at cS
  refine⟨fz.mpr ⟨λq=>?_,cS.2⟩,k a o cD e⟩
  rcases pP a q with q|q
  ·exact cS.1 q
  ·exact cD q
 have Dx:∀b∈addrs ρ.cs,∀o,h.get? b=some o->ao.get? b=some o:=λb aq o e=>k b o (λz=>sm (z▸aq)) e
 refine⟨by show(ρ.cs++[_]).length=_;have:ρ.cs.length=σ.length:=R.len;simp[this],?_,λi q x bg aA=>?_,λb aq=>?_,λb o e=>k b o (λz=>?_) (R.stays b o e),λb aq q=>?_,λb aq=>?_⟩
 ·intro i j q r bg Qr kC
  rcases split i q bg with⟨a,_⟩|⟨a,rfl⟩<;>rcases split j r Qr with⟨b,_⟩|⟨b,rfl⟩
  ·exact R.apart i j q r a b kC
  ·have dU:q.1≠D:=λz=>sm (ez.mpr ⟨i,q,a,.inl z.symm⟩)
   have d5:q.2≠D:=λz=>sm (ez.mpr ⟨i,q,a,.inr z.symm⟩)
   exact⟨dU,dU,d5,d5⟩
  ·have dU:r.1≠D:=λz=>sm (ez.mpr ⟨j,r,b,.inl z.symm⟩)
   have d5:r.2≠D:=λz=>sm (ez.mpr ⟨j,r,b,.inr z.symm⟩)
   exact⟨ht dU,ht d5,ht dU,ht d5⟩
  ·lia
 ·rcases split i q bg with⟨a,l⟩|⟨a,rfl⟩
  ·have len:ρ.cs.length=σ.length:=R.len
   rw[eG (by refine cv len ?_;exact l)]at aA
   exact ek.ext (ρ:=ρ.hide [D]) (ρ':=ρ.add (D,D)) a4 ca (Dx _ (ez.mpr ⟨i,q,a,.inl rfl⟩)) (Dx _ (ez.mpr ⟨i,q,a,.inr rfl⟩)) (R.cells i q x a aA)
  ·have len:ρ.cs.length=σ.length:=R.len
   rw[a,len,eU (eL _)]at aA
   simp only[ib,vC,vD]at aA
   refine cv aA ?_;exact bM ca
 ·rcases er.mp aq with aq|aq
  ·rcases pP b aq with aq|aq
   ·exact R.new b (er.mpr (.inl aq))
   ·exact R.new b (er.mpr (.inr (by refine ae aq ?_;exact og)))
  ·exact R.new b (er.mpr (.inr (vP _ aq)))
 ·have:=R.new b (er.mpr (.inr (by refine ae z ?_;exact og)))
  rw[e]at this;exact absurd this (cB _)
 ·have aq:b∈ρ.aR:=aq
  rcases pP b q with q|q
  ·exact R.e2 b (vP _ aq) q
  ·exact Dw (q▸aq)
 ·have aq:b∈ρ.aR:=aq
  obtain⟨o,e⟩:=R.e3 b (vP _ aq)
  exact⟨o,k b o (λz=>Dw (z▸aq)) e⟩
end
section
open Sem (wp)
abbrev jV:=au×ab×bD
noncomputable def uH(ks:aa jV):aa (bh a3):=ks.map λk=>some (.Constant (.str k.1) k.2.1 k.2.2)
noncomputable def so(pos:bD)(env:bu):aa jV->aa a3->aa (bN aj×bN aj)
 |k::ks,e::es=>(eval (.Constant (.str k.1) k.2.1 k.2.2) env,do let x<-eval e env;standAt pos;pure x)::so pos env ks es
 |_,_=>[]
theorem Dy(pos:bD)(env:bu):∀(ks:aa jV) (es:aa a3),ks.length=es.length->
  (evalEachOpt (uH ks) env).zip ((evalEach es env).map λv=>do let x<-v;standAt pos;pure x)=(so pos env ks es).map λp=>(some p.1,p.2)
 |[],[],_=>rfl
 |k::ks,e::es,h=>by
  have:=Dy pos env ks es (by simpa using h)
  show(some (eval (.Constant (.str k.1) k.2.1 k.2.2) env),_)::(evalEachOpt (uH ks) env).zip ((evalEach es env).map _)=_
  refine ae this ?_;rfl
theorem pairs_len(pos:bD)(env:bu):∀(ks:aa jV) (es:aa a3),ks.length=es.length->(so pos env ks es).length=es.length
 |[],[],_=>rfl
 |k::ks,e::es,h=>by
  show(so pos env ks es).length+1=_
  refine ae (pairs_len pos env ks es (by simpa using h)) ?_;rfl
noncomputable def m3(c:aG)(d:ab)(env:bu)(ls:aa au):aa a3->aE->aa Cell->(aa af->aa Cell->Prop)->Prop
 |[],_,σ,Q=>Q [] σ
 |e::es,m,σ,Q=>cz c d env ls (eval e env) m σ λa ax=>m3 c d env ls es m ax λas bt=>Q (a::as) bt
noncomputable def m4(c:aG)(ρ:aT)(h:a8):aa jV->aa af->aa (aj×aj)->Prop
 |[],[],vs=>vs=[]
 |k::ks,a::as,vs=>hO λt v r=>dx (vs=(.str k.1 t,v)::r) (bq c ρ h a v) (m4 c ρ h ks as r)
 |_,_,_=>bB
theorem m4.mono{c:aG}{ρ ρ':aT}{h ao:a8}(a4:∀(i:ab) p,ρ.cs[i]? =some p->ρ'.cs[i]? =some p)(bb:Carry ρ ρ' h ao):∀{ks:aa jV} {as:aa af} {vs:aa (aj×aj)},m4 c ρ h ks as vs->m4 c ρ' ao ks as vs
 |[],[],_,e=>e
 |k::ks,a::as,_,h0=>by obtain⟨t,v,r,e,V,R⟩:=h0;exact⟨t,v,r,e,bq.mono a4 bb _ _ V,m4.mono a4 bb R⟩
section
variable{c:aG}{d:ab}{env:bu}{ls:aa au}{m:aE}{σ:aa Cell}
theorem Dz{pos:bD}:∀{ks:aa jV} {es:aa a3} {σ:aa Cell} {Q:aa af->aa Cell->Prop},ks.length=es.length->m3 c d env ls es m σ Q->∀A s ρ,gi c d env ls m σ A s ρ->
  aK c.clean (model c.prog c.w) A (evalPairs (so pos env ks es)) (λvs s'=>hO λas ρ' aC=>pM (Rep c ρ' aC s'.heap) (Ext ρ ρ' s.heap s'.heap) (b' s s') (m4 c ρ' s'.heap ks as vs) (Q as aC)) cb s
 |[],[],σ,Q,_,h,A,s,ρ,S=>bJ ⟨[],ρ,σ,S.r,Ext.refl _ _,b'.refl _,rfl,h⟩
 |k::ks,e::es,σ,Q,a5,h,A,s,ρ,S=>by
  have ba:cz c d env ls (eval (.Constant (.str k.1) k.2.1 k.2.2) env) m σ λa aC=>a=.str k.1/\aC=σ:=tP rfl ⟨rfl,rfl⟩
  refine bp (bo (ba A s ρ S) (λqi s₁ p=>?_) λJ J x=>x)
  obtain⟨_,bI,ax,bz,bx,bW,cJ,rfl,rfl⟩:=p
  obtain⟨t,rfl⟩:=cJ
  refine bp (du (bp (bo (h A s₁ bI (S.step bz bx)) (λQs cj p=>bV (dA (bJ ?_))) λJ J x=>x)))
  obtain⟨a,dy,bt,cZ,cw,dM,eH,cN⟩:=p
  refine bp (du (bo (Dz (by simpa using a5) cN A cj dy ((S.step bz bx).step cZ cw)) (λr bE p=>bJ ?_) λJ J x=>x))
  obtain⟨as,bH,b0,d3,eA,gy,fg,dG⟩:=p
  exact⟨a::as,bH,b0,d3,bx.trans (cw.trans eA),bW.trans (dM.trans gy),⟨t,Qs,r,rfl,eH.ext cZ eA,fg⟩,dG⟩
end
noncomputable def o':aa (ab×af)->aa ab->aa af->aa (ab×af)
 |acc,k::ks,a::as=>o' (ix acc k a) ks as
 |acc,_,_=>acc
noncomputable def kvsOf:aa jV->aa (aj×aj)->aa (au×aj)
 |k::ks,v::vs=>(k.1,v.2)::kvsOf ks vs
 |_,_=>[]
theorem DA{c:aG}{ρ:aT}{h:a8}:∀{ks:aa jV} {as:aa af} {vs:aa (aj×aj)},m4 c ρ h ks as vs->Carries (strKind c.prog c.w) vs (kvsOf ks vs)
 |[],[],_,e=>by refine ae (show _=_ from e) ?_;exact trivial
 |k::ks,a::as,_,h0=>by obtain⟨t,v,r,e,V,R⟩:=h0;refine ae e ?_;exact⟨IA _ _ _ _,rfl,DA R⟩
theorem DB{c:aG}(aY:c.names.Nodup){ρ:aT}{h:a8}:∀{is:aa ab} {ks:aa jV} {as:aa af} {vs:aa (aj×aj)} {acc:aa (ab×af)} {l:aa (au×aj)},(∀(j:ab) i,is[j]? =some i->∃k,ks[j]? =some k/\c.names[i]? =some k.1)->is.length=ks.length->
  m4 c ρ h ks as vs->(acc.map (·.1)).Nodup->ej c ρ h acc l->ej c ρ h (o' acc is as) (merged l (kvsOf ks vs))/\((o' acc is as).map (·.1)).Nodup/\(o' acc is as).length<=acc.length+is.length
 |[],[],[],_,acc,l,_,_,e,cG,r=>by refine ae (show _=_ from e) ?_;exact⟨r,cG,eL _⟩
 |i::is,k::ks,a::as,_,acc,l,a7,a5,⟨t,v,k1,e,V,R⟩,cG,r=>by
  refine ae e ?_
  refine dI λdv b4=>?_
  obtain⟨bX,az,ay⟩:=a7 0 i rfl
  refine b4 ?_
  have az:k=bX:=by simpa using az
  subst az
  have nN:=r.xj aY ay V cG
  refine dI λdv b4=>?_
  obtain⟨hg,gL,hh⟩:=DB aY (is:=is) (λj z aO=>by have:=a7 (j+1) z (by refine ae (my) ?_;exact aO);simpa using this) (by simpa using a5) R (tV i a cG) nN
  refine b4 ?_
  refine⟨hg,gL,c2 hh ?_⟩
  have:=tU i a acc
  refine ae dc ?_;lia
end
section
open Sem (wp)
theorem DC:∀(ks:aa jV) (vs:aa (aj×aj)),(kvsOf ks vs).length<=ks.length
 |[],_=>hc _
 |_::_,[]=>hc _
 |k::ks,v::vs=>qW (DC ks vs)
section
variable{c:aG}{d:ab}{env:bu}{ls:aa au}{m:aE}{σ:aa Cell}
theorem Qt{ks:aa jV}{is:aa ab}{es:aa a3}{pos:bD}{Q:af->aa Cell->Prop}(H:c.Ok)(a5:ks.length=es.length)(Qu:is.length=ks.length)(a7:∀(j:ab) i,is[j]? =some i->∃k,ks[j]? =some k/\c.names[i]? =some k.1)(h0:es≠[])(ae3:es.length<=15)
  (h:m3 c d env ls es m σ λas ax=>Q (.cell ax.length) (ax++[.dict (o' [] is as)])):cz c d env ls (eval (.Dict (uH ks) es pos) env) m σ Q:=by
 intro A s ρ S
 have h1:=pairs_len pos env ks es a5
 rw[arm_eval_Dict,Dy pos env ks es a5,dictDisplay_pairs _ (λe=>h0 (z2 (by rw[<-h1,e];rfl))) (by exact nl λJ=>by lia)]
 refine bV (dA (bp ?_))
 refine bp (aK.of (wpAny_alloc ?_))
 refine bp (du ?_)
 refine ae (cV (by exact ne λJ=>by lia)) ?_
 have c':=jK s.heap {cls:=.type "dict",data:=.dict #[]}
 have p4:∀b∈[s.heap.objs.size],s.heap.get? b=none:=λb aq=>by refine ae (eV.mp aq) ?_;exact f3
 have DD:(s.heap.push {cls:=.type "dict",data:=.dict #[]}).get? s.heap.objs.size=some {cls:=.type "dict",data:=.dict #[]}:=ic _ rfl
 have DE:(s.heap.push {cls:=.type "dict",data:=.dict #[]}).DictOf (strKind c.prog c.w) s.heap.objs.size []:=Heap.DictOf.new s.heap
 generalize Qv:s.heap.objs.size=D at p4 DD DE⊢
 have xR:s.heap.get? D=none:=by refine cv Qv ?_;exact f3
 have bz:Rep c (ρ.hide [D]) σ (s.heap.push {cls:=.type "dict",data:=.dict #[]}):=S.r.hide c' p4 λb aq=>by refine ae (eV.mp aq) ?_;exact⟨_,DD⟩
 have fG:dK c env ls m (ρ.hide [D]) (s.heap.push {cls:=.type "dict",data:=.dict #[]}):=S.f.carry (λJ J e=>e) (ov p4 c') (λq J cf e=>c' q cf e) λq bg=>vP _ (S.f.aR q bg)
 refine bp (bo (Dz a5 h A {s with heap:=s.heap.push {cls:=.type "dict",data:=.dict #[]}} (ρ.hide [D]) ⟨S.a,bz,fG⟩) (λvs cj p=>?_) λJ J x=>x)
 refine dI λdv b4=>?_
 obtain⟨as,ρ',aC,hv,jb,xS,gZ,q⟩:=p
 obtain⟨jO,rH⟩:=ρ'
 refine b4 ?_
 have ck:rH=[D]++ρ.aR:=jb.aR
 subst ck
 have Qw:cj.heap.DictOf (strKind c.prog c.w) D []:=Ak DE λo e=>jb.keep D o (bz.e2 D og) e
 refine du (bp (aK.of (wpAny_storeAll (knd:=strKind c.prog c.w) vs (kvsOf ks vs) [] cj _ (DA gZ) Qw (by have:=DC ks vs;(refine ae ha ?_;refine ae fq ?_);exact ne λJ=>by lia) λao Qx gm=>?_)))
 have fin:b5 c ρ s Q (.ref D) {cj with heap:=ao,toks:=cj.toks+vs.length}:=by
  have Qy:D∉ρ.aR:=λaq=>by obtain⟨o,e⟩:=S.r.e3 D aq;rw[xR]at e;exact absurd e.symm (cB _)
  have cZ:Rep c ((⟨jO,ρ.aR⟩:aT).add (D,D)) (aC++[.dict (o' [] is as)]) ao:=Rep.Qq (ρ:=⟨jO,ρ.aR⟩) (h:=cj.heap) hv Qy (λa o n e=>(gm.2 a n).trans e) λca=>by
   have a4:∀(i:ab) p,(⟨jO,[D]++ρ.aR⟩:aT).cs[i]? =some p->((⟨jO,ρ.aR⟩:aT).add (D,D)).cs[i]? =some p:=λi p e=>by
    have e:jO[i]? =some p:=e
    refine ae (eG (dH.mp e).1) ?_;exact e
   refine dI λdv b4=>?_
   obtain⟨hg,gL,hh⟩:=DB H.nodup (is:=is) a7 Qu (m4.mono (ρ:=⟨jO,[D]++ρ.aR⟩) (ρ':=(⟨jO,ρ.aR⟩:aT).add (D,D)) a4 ca gZ) (acc:=[]) (l:=[]) tm rfl
   refine b4 ?_
   exact⟨_,Qx,hg,⟨c2 hh (by refine ae fq ?_;exact ne λJ=>by lia),gL⟩,rfl⟩
  have len:jO.length=aC.length:=hv.len
  refine⟨.cell aC.length,_,_,cZ,⟨?_,rfl,λb o aq e=>?_,λb aq nb=>?_⟩,b'.trans b'.heap (b'.trans xS b'.of),lr (p:=(D,D)) (by(refine cv len ?_;refine ae (eU (eL _)) ?_);simp) rfl,q⟩
  ·obtain⟨t,e⟩:=jb.pre
   have e:jO=ρ.cs++t:=e
   exact⟨t++[(D,D)],by show jO++_=_;rw[e,ee]⟩
  ·have cD:b≠D:=λz=>by rw[z,xR]at e;exact absurd e.symm (cB _)
   exact(gm.2 b cD).trans (jb.keep b o aq (c' b o e))
  ·have aq:b∈addrs (jO++[(D,D)]):=aq
   rw[hS,gT]at aq
   rcases aq with aq|aq
   ·have:=jb.fresh b aq nb
    cases e:s.heap.get? b with
    |none=>rfl
    |some o=>have ay:=c' b o e;have this:(s.heap.push {cls:=.type "dict",data:=.dict #[]}).get? b=none:=this;rw[ay]at this;exact absurd this (cB _)
   ·have:b=D:=by simpa[addrs]using aq
    refine ae this ?_;exact xR
 first
  |exact bJ (bJ fin)
  |exact bJ (bJ (bJ fin))
end
end
section
open Sem (wp)
noncomputable def uI(S:SC)(es:aa a3)(t:fl):Prop:=∀c d env m σ Q,S.Fits c env->t c d m σ Q->m3 c d env S.ls es m σ Q
theorem m3.mono{c:aG}{d:ab}{env:bu}{ls:aa au}{m:aE}:∀{es:aa a3} {σ:aa Cell} {Q dJ:aa af->aa Cell->Prop},m3 c d env ls es m σ Q->(∀a σ,Q a σ->dJ a σ)->m3 c d env ls es m σ dJ
 |[],_,_,_,h,k=>k _ _ h
 |e::es,_,_,_,h,k=>cz.mono h λa ax q=>m3.mono q λas bt q=>k _ _ q
theorem Qz{S:SC}:uI S [] w4:=λc d env m σ Q F h=>h
theorem nU{S:SC}{e:a3}{es:aa a3}{t:TE}{r:fl}(aB:cA S e t)(aI:uI S es r):uI S (e::es) (w5 t r):=λc d env m σ Q F h=>
 (aB c d env m σ _ F h).mono λa ax k=>aI c d env m ax _ F k
noncomputable def xT(S:SC)(is:aa ab)(ks:aa jV):aS:=is.length==ks.length&&(is.zip ks).all λp=>dw S.N p.1==some p.2.1
theorem QA{S:SC}{is:aa ab}{ks:aa jV}(h:xT S is ks=true):is.length=ks.length/\∀(j:ab) i,is[j]? =some i->∃k,ks[j]? =some k/\dw S.N i=some k.1:=by
 simp only[xT,gf,fW,mz]at h
 refine⟨h.1,λj i e=>?_⟩
 have dN:=(dH.mp e).1
 obtain⟨k,ba⟩:∃k,ks[j]? =some k:=⟨_,dH.mpr ⟨by refine cv h.1 ?_;exact dN,rfl⟩⟩
 exact⟨k,ba,h.2 (i,k) (js (i:=j) (by rw[ac1];exact⟨e,ba⟩))⟩
noncomputable def QB(is:aa ab)(Q:af->aa Cell->Prop)(as:aa af)(σ:aa Cell):Prop:=oS σ (.dict (o' [] is as)) λn bt=>Q (.cell n) bt
noncomputable def QC(is:aa ab)(t:fl):TE:=λc d m σ Q=>t c d m σ (QB is Q)
theorem QD{S:SC}{keys:aa (bh a3)}{ks:aa jV}{is:aa ab}{es:aa a3}{pos:bD}{t:fl}(QE:keys=uH ks)(ba:xT S is ks=true)(a5:(ks.length==es.length&&!es.isEmpty&&qS es.length 15)=true)(aB:uI S es t):
  cA S (.Dict keys es pos) (QC is t):=λc d env m σ Q F h=>by
 subst QE
 simp only[gf,fW]at a5
 obtain⟨QF,QG⟩:=QA ba
 refine Qt F.F.H a5.1.1 QF (λj i e=>?_) (λe=>by have:=a5.1.2;rw[e]at this;cases this) (k' a5.2) (m3.mono (aB c d env m σ _ F h) λas ax q=>rW (K:=λn bt=>Q (.cell n) bt) q)
 obtain⟨k,az,ay⟩:=QG j i e
 exact⟨k,az,by(refine ae F.N ?_;refine ae hB ?_);exact ay⟩
noncomputable def xU:aa af->(aa ah->Prop)->Prop
 |[],K=>K []
 |.int i::r,K=>xU r λis=>K (i::is)
 |_::_,_=>bB
theorem DF:∀{as:aa af} {K:aa ah->Prop},xU as K->∃is,as=is.map .int/\K is
 |[],K,h=>⟨[],rfl,h⟩
 |a::r,K,h=>by
  induction a using af.cs with
  |int i=>obtain⟨is,e,k⟩:=DF (as:=r) (K:=λis=>K (i::is)) h;exact⟨i::is,by refine ae e ?_;rfl,k⟩
  |_=>exact h.elim
noncomputable def DG(a b:af)(σ:aa Cell)(Q:af->aa Cell->Prop):Prop:=match a,b with
 |.int k,.lst as=>xU as λns=>Q (.bool (ns.any (· ==k))) σ
 |_,_=>bB
theorem QH{c:aG}{d:ab}{σ:aa Cell}{a b:af}{Q:af->aa Cell->Prop}(h:DG a b σ Q):cm c d (compareOp .In) a b σ Q:=by
 induction a using af.cs with
 |int k=>
  induction b using af.cs with
  |lst as=>
   obtain⟨ns,e,aI⟩:=DF (as:=as) (K:=λns=>Q (.bool (ns.any (· ==k))) σ) h
   subst e
   intro A s ρ v w _ R V W
   obtain⟨t,rfl⟩:=V
   obtain⟨l,items,n,rfl,nb,a5,cq,aO⟩:=W
   exact aK.of<|in_list_ints ⟨_,a5,rfl,n,rfl⟩ (r9 cq) (b5.now R gx aI)
  |_=>exact h.elim
 |_=>exact h.elim
noncomputable def QI(l r:TE):TT:=λc d m σ Q=>l c d m σ λa ax=>r c d m ax λb bt=>DG a b bt λx b0=>r1 x b0 Q
theorem DH{S:SC}{l r:a3}{pos:bD}{tl gn:TE}(aW:behindInMarks .In r=false)(aB:cA S l tl)(aI:cA S r gn):iz S (.Compare l [.In] [r] pos) (QI tl gn):=λc d env m σ Q F h=>
 v9 aW ((aB c d env m σ _ F h).mono λa ax k=>(aI c d env m ax _ F k).mono λb bt k=>(QH k).mono λx b0 k=>nP k)
end
section
open Sem (wp)
open PySem.SeqAt
noncomputable def nV(σ:aa Cell)(a:af)(as:aa af):Prop:=a=.lst as\/∃i,a=.cell i/\σ[i]? =some (.list as)
noncomputable def QJ(f:af->aS):af->aS
 |.none=>true
 |.bool _=>true
 |.int _=>true
 |.str _=>true
 |.bytes _=>true
 |.tup as=>as.all f
 |.lst as=>as.all f
 |_=>false
noncomputable def jW:ab->af->aS
 |0=>λJ=>false
 |n+1=>QJ (jW n)
theorem QK{A:cy}{s:aF}{b:eM aU}{t u:eZ}:EqAt A s (.bytes b t) (.bytes b u) true:=λprog w E Q h=>by
 unfold eqBool
 refine nu ?_
 refine wpAny_ite_split (λJ=>bw (lh (dn h))) (λJ=>?_)
 exact bw (eq_bytes (Ir (by simpa using h)))
theorem nV.at{c:aG}{ρ:aT}{σ:aa Cell}{h:a8}{a:af}{v:aj}{as:aa af}(R:Rep c ρ σ h)(V:bq c ρ h a v)(l:nV σ a as):eO λq items=>dx (v=.ref q) (h.IsList q items.toArray) (bT c ρ h as items):=by
 rcases l with rfl|⟨i,rfl,aP⟩
 ·obtain⟨q,items,n,rfl,nb,aN,cq,aO⟩:=V;exact⟨q,items,rfl,⟨_,aN,rfl,n,rfl⟩,cq⟩
 ·obtain⟨p,aW,rfl⟩:=V
  obtain⟨items,n,aN,cq,-⟩:=R.cells i p _ aW aP
  exact⟨p.1,items,rfl,⟨_,aN,rfl,n,rfl⟩,cq⟩
theorem all_true{n:ab}:(vQ n).all (λJ=>true)=true:=by simp
theorem xV{c:aG}{ρ:aT}{s:aF}{A:cy}{f:af->aS}(cF:∀a v w,f a=true->bq c ρ s.heap a v->bq c ρ s.heap a w->EqAt A s v w true):∀{as:aa af} {vs ws:aa aj},as.all f=true->bT c ρ s.heap as vs->bT c ρ s.heap as ws->
  vs.length=ws.length/\∀(j:ab) (aB:j<vs.length) (aI:j<ws.length),EqAt A s vs[j] ws[j] true:=by
 intro as
 induction as with
 |nil=>
  intro vs ws _ V W
  obtain rfl:vs=[]:=V
  exact⟨congrArg _ (vz W),λj aB J=>absurd aB (Nat.not_lt_zero j)⟩
 |cons a as uJ=>
  intro vs ws h V W
  rw[List.all_cons,gf]at h
  obtain⟨v,ae4,rfl,r8,o2⟩:=V
  obtain⟨w,wr,rfl,W1,QL⟩:=W
  have ay:=uJ h.2 o2 QL
  refine⟨congrArg ti ay.1,λj aB aI=>?_⟩
  induction j with
  |zero=>exact cF a v w h.1 r8 W1
  |succ j=>exact ay.2 j (IJ aB) (IJ aI)
theorem DI{c:aG}{ρ:aT}{s:aF}{A:cy}{f:af->aS}{p q:aJ}{as:aa af}{items h6:aa aj}(cF:∀a v w,f a=true->bq c ρ s.heap a v->bq c ρ s.heap a w->EqAt A.in1 s v w true)(h:as.all f=true)(jk:A.units<cLine)(a5:s.heap.IsList p items.toArray)(qq:s.heap.IsList q h6.toArray)
  (cq:bT c ρ s.heap as items)(k4:bT c ρ s.heap as h6):RcAt A s (.ref p) (.ref q) true:=by
 have he:=xV cF h cq k4
 have:=RcAt.lists (A:=A) (s:=s) (e:=λJ=>true) a5 qq he.1 jk λj aB aI=>he.2 j aB aI
 rw[all_true]at this
 exact this
set_option tactic.hygienic true in
theorem DJ{c:aG}{ρ:aT}{s:aF}:∀{n:ab} {A:cy} (a:af) (v w:aj),A.units+n<cLine->jW n a=true->bq c ρ s.heap a v->bq c ρ s.heap a w->EqAt A s v w true:=by
 intro n
 induction n with
 |zero=>intro A a v w _ h;cases h
 |succ n cF=>
  intro A a v w jk h V W
  have uJ:∀a v w,jW n a=true->bq c ρ s.heap a v->bq c ρ s.heap a w->EqAt A.in1 s v w true:=λa v w=>cF (A:=A.in1) a v w (by show A.units+1+n<_;exact nl λJ=>by lia)
  clear cF
  induction a using af.cs
  case none=>(refine ae (show v=_ from V) ?_;refine ae (show w=_ from W) ?_);exact EqAt.same _
  case bool=>(refine ae (show v=_ from V) ?_;refine ae (show w=_ from W) ?_);exact EqAt.same _
  case int i=>obtain⟨t,rfl⟩:=V;obtain⟨u,rfl⟩:=W;exact(qU i)▸EqAt.int_int (A:=A) (s:=s) i t i u
  case str x=>obtain⟨t,rfl⟩:=V;obtain⟨u,rfl⟩:=W;exact(qU x)▸EqAt.str_str (A:=A) (s:=s) x t x u
  case bytes=>obtain⟨t,rfl,_⟩:=V;obtain⟨u,rfl,_⟩:=W;exact QK
  case tup as=>
   obtain⟨p,items,rfl,nb,aN,cq,-⟩:=V
   obtain⟨q,h6,rfl,QM,pa,k4,-⟩:=W
   by_cases e:p=q
   ·refine ae e ?_;exact EqAt.same _
   ·have he:=xV uJ h cq k4
    have:=RcAt.tuples (A:=A) (s:=s) (e:=λJ=>true) ⟨_,aN,rfl,_,rfl⟩ ⟨_,pa,rfl,_,rfl⟩ (by exact nl λJ=>by lia) λj aB aI=>he.2 j aB aI
    rw[all_true,show(items.toArray.size==h6.toArray.size)=true from fW.mpr he.1]at this
    exact EqAt.of_refs e this
  case lst as=>
   obtain⟨p,items,n,rfl,nb,aN,cq,aO⟩:=V
   obtain⟨q,h6,cS,rfl,QM,pa,k4,k5⟩:=W
   by_cases e:p=q
   ·refine ae e ?_;exact EqAt.same _
   ·exact EqAt.of_refs e (DI uJ h (by exact nl λJ=>by lia) ⟨_,aN,rfl,n,rfl⟩ ⟨_,pa,rfl,cS,rfl⟩ cq k4)
  all_goals cases h
end
section
open Sem (wp)
open PySem.SeqAt
section
variable{c:aG}{d:ab}{σ:aa Cell}{Q:af->aa Cell->Prop}
theorem QN{n:ab}{a b:af}{as:aa af}(bL:nV σ a as)(aq:nV σ b as)(h:as.all (jW n)=true)(aY:n<=100)(q:Q (.bool true) σ):cm c d (compareOp .Eq) a b σ Q:=by
 intro A s ρ v w bP R V W
 obtain⟨p,items,rfl,a5,cq⟩:=bL.at R V
 obtain⟨gL,h6,rfl,qq,k4⟩:=aq.at R W
 have jk:A.units<=9000:=by have:=bP.2.2.1;exact ne λJ=>by lia
 have aP:cLine=9900:=rfl
 exact aK.of (DI (λa v w=>DJ (A:=A.in1) a v w (by show A.units+1+n<_;exact nl λJ=>by lia)) h (by exact nl λJ=>by lia) a5 qq cq k4 c.prog c.w cb _ (b5.now R gx q))
theorem QO{n:ab}{a b:af}{as:aa af}(bL:nV σ a as)(aq:nV σ b as)(h:as.all (jW n)=true)(aY:n<=100)(q:Q (.bool false) σ):cm c d (compareOp .NotEq) a b σ Q:=by
 intro A s ρ v w bP R V W
 obtain⟨p,items,rfl,a5,cq⟩:=bL.at R V
 obtain⟨gL,h6,rfl,qq,k4⟩:=aq.at R W
 have jk:A.units<=9000:=by have:=bP.2.2.1;exact ne λJ=>by lia
 have aP:cLine=9900:=rfl
 have he:=xV (λa v w=>DJ (A:=A.in1) a v w (by show A.units+1+n<_;exact nl λJ=>by lia)) h cq k4
 have:=RcNeAt.lists (A:=A) (s:=s) (e:=λJ=>true) a5 qq he.1 (by exact nl λJ=>by lia) λj aB aI=>he.2 j aB aI
 rw[all_true]at this
 exact aK.of (this c.prog c.w cb _ (b5.now R gx q))
end
noncomputable def DK(op:gu)(a b:af)(σ:aa Cell)(Q:af->aa Cell->Prop):Prop:=eO λn as=>pM (n<=100) (nV σ a as) (nV σ b as) (as.all (jW n)=true) (match op with|.Eq=>Q (.bool true) σ|.NotEq=>Q (.bool false) σ|_=>bB)
theorem DL{c:aG}{d:ab}{σ:aa Cell}{op:gu}{a b:af}{Q:af->aa Cell->Prop}(h:DK op a b σ Q):cm c d (compareOp op) a b σ Q:=by
 obtain⟨n,as,aY,bL,aq,hs,q⟩:=h
 induction op<;>first|exact QN bL aq hs aY q|exact QO bL aq hs aY q|exact q.elim
noncomputable def QP(op:gu)(Q:af->aa Cell->Prop)(a b:af)(σ:aa Cell):Prop:=DK op a b σ Q
noncomputable def DM(op:gu)(r:TE)(c:aG)(d:ab)(m:aE)(Q:af->aa Cell->Prop)(a:af)(σ:aa Cell):Prop:=r c d m σ (QP op Q a)
noncomputable def QQ(op:gu)(l r:TE):TE:=λc d m σ Q=>l c d m σ (DM op r c d m Q)
theorem QR{S:SC}{l r:a3}{op:gu}{pos:bD}{tl gn:TE}(aW:behindInMarks op r=false)(aB:cA S l tl)(aI:cA S r gn):cA S (.Compare l [op] [r] pos) (QQ op tl gn):=λc d env m σ Q F h=>
 An aW ((aB c d env m σ _ F h).mono λa ax k=>(aI c d env m ax _ F k).mono λb bt k=>DL k)
noncomputable def QS(op:gu)(l r:TE):TT:=λc d m σ Q=>l c d m σ (DM op r c d m (uk Q))
theorem DN{S:SC}{l r:a3}{op:gu}{pos:bD}{tl gn:TE}(aW:behindInMarks op r=false)(aB:cA S l tl)(aI:cA S r gn):iz S (.Compare l [op] [r] pos) (QS op tl gn):=λc d env m σ Q F h=>
 v9 aW ((aB c d env m σ _ F h).mono λa ax k=>(aI c d env m ax _ F k).mono λb bt k=>(DL k).mono λx b0 k=>nP k)
end
section
open Sem (wp)
section
variable{c:aG}{d:ab}{env:bu}{ls:aa au}{m:aE}{σ:aa Cell}
theorem QT{body:aa b1}{hs:aa ExceptHandler}{pos:bD}{Q:ct->aE->aa Cell->Prop}(h:eB c d env ls (execs body env) m σ Q):eB c d env ls (exec (.Try body hs [] [] pos) env) m σ Q:=by
 intro A s ρ S
 rw[arm_exec_Try]
 refine bV (dA ?_)
 unfold tryStmt
 refine OA rfl ?_
 refine bp (rf (bo (h A s ρ S) (λf s' p=>?_) λJ J x=>x.elim))
 cases f with
 |next=>exact bJ p
 |_=>exact bJ p
end
theorem QU{S:SC}{body:aa b1}{hs:aa ExceptHandler}{pos:bD}{t:br}(h:bQ S body t):dt S (.Try body hs [] [] pos) t:=λc d env m σ Q F k=>QT (h c d env m σ Q F k)
end
section
open Sem (wp)
section
variable{k:aS}{prog:fc}{w:cu}{A:cy}{E:aj->aF->Prop}{s:aF}
theorem uK{K:i2}{M:gd}{h:a8}{a b C f:aJ}{x:au}(X:K.In h)(aA:h.get? a=some (instObj C b))(a7:findIn K (.ref C) x=some (some (.ref f))):la M h (specialOf (.ref a) x) (some (.ref f)):=by
 unfold specialOf
 rw[typeOf_ref]
 exact(((zK aA).andThen .now:la M h (typeOf (.ref a)) (.ref C))).andThen (IB X a7)
theorem QV{K:i2}{a b C f:aJ}{x:au}{Q:bh aj->aF->Prop}(X:K.In s.heap)(aA:s.heap.get? a=some (instObj C b))(a7:findIn K (.ref C) x=some (some (.ref f)))(hf:typeIn K (.ref f)=some (.type "function"))
  (h:aK k (model prog w) A (call (.ref f) [.ref a]) (λv s'=>Q (some v) s') E s):aK k (model prog w) A (callSpecial? (.ref a) x) Q E s:=by
 refine kK (uK X aA a7) ?_
 refine du (kK (zU X (.ref a) hf) ?_)
 exact bp (bo h (λv s' q=>bJ q) λJ J x=>x)
theorem DO{K:i2}{a b C f:aJ}{Q:bh aj->aF->Prop}(X:K.In s.heap)(aA:s.heap.get? a=some (instObj C b))(a7:findIn K (.ref C) "__next__"=some (some (.ref f)))(hf:typeIn K (.ref f)=some (.type "function"))
  (h:aK k (model prog w) A (call (.ref f) [.ref a]) (λv s'=>Q (some v) s') (λe s'=>(eO λq o=>dx (e=.ref q) (s'.heap.get? q=some o) (o.cls=.type "StopIteration"))/\Q none s') s):aK k (model prog w) A (pyNext (.ref a)) Q E s:=by
 refine bp (rf (QV X aA a7 hf (bo h (λv s' q=>bJ q) λe s' q=>?_)))
 obtain⟨⟨q,o,rfl,aN,aP⟩,bg⟩:=q
 exact bV (q0 (T:="StopIteration") (b:=true) ⟨o,aN,aP⟩ vJ (by refine ae (cV rfl) ?_;exact bJ bg))
theorem QW{K:i2}{a b C f g:aJ}{Q:aj->aF->Prop}(X:K.In s.heap)(aA:s.heap.get? a=some (instObj C b))(a7:findIn K (.ref C) "__iter__"=some (some (.ref f)))(hf:typeIn K (.ref f)=some (.type "function"))(aY:findIn K (.ref C) "__next__"=some (some (.ref g)))
  (h:aK k (model prog w) A (call (.ref f) [.ref a]) (λv s'=>v=.ref a/\(∃jN,s'.heap.get? a=some (instObj C jN))/\K.In s'.heap/\Q (.ref a) s') E s):aK k (model prog w) A (pyIter (.ref a)) Q E s:=by
 refine kK (uK X aA a7) ?_
 have tail:∀{P:bh aj->aF->Prop},(∀v s',(v=.ref a/\(∃jN,s'.heap.get? a=some (instObj C jN))/\K.In s'.heap/\Q (.ref a) s')->P (some v) s')->
   aK k (model prog w) A (call (.ref f) [.ref a]>>=λv=>pure (some v)) P E s:=λoN=>bp (bo h (λv s' q=>bJ (oN v s' q)) λJ J x=>x)
 refine bp (du (bp (kK (uK X aA a7) ?_)))
 have fin:∀v s',(v=.ref a/\(∃jN,s'.heap.get? a=some (instObj C jN))/\K.In s'.heap/\Q (.ref a) s')->aK k (model prog w) A (specialOf v "__next__">>=λr=>match r with|none=>rule "iter.non-iterator">>=λJ=>typeNameOf v>>=λn=>raiseError "TypeError" s!"iter() returned non-iterator of type '{n}'"|some _=>pure v) Q E s':=by
  rintro v s' ⟨rfl,⟨jN,gk⟩,jb,q⟩
  refine kK (uK jb gk aY) ?_
  exact bJ q
 refine bV (Ij ?_)
 split
 ·refine kK (zU X (.ref a) hf) (bJ ?_)
  exact tail fin
 ·refine I1 (kK (zU X (.ref a) hf) (bJ ?_))
  exact tail fin
end
end
section
open Sem (wp)
noncomputable def QX(F:aa aJ)(e:aJ)(h ao:a8):Prop:=∀b o,b≠e->h.get? b=some o->(b∉F->ao.get? b=some o)/\∃sl,ao.get? b=some {o with slots:=sl}
section
variable{M:gd}{A:cy}{E:aj->aF->Prop}{s:aF}
theorem leave_own{base:a8}{env:bu}{outer:aa bu}{L e:aJ}{uL:ew}{vs:eM aj}{Q:i0->aF->Prop}(eC:A.frames=some (env::outer))(a5:s.heap.FunFrames base (env::outer))(hf:env.frame=some L)
  (he:s.heap.get? e=some uL)(hd:uL.data=.fields vs)(aB:vs[1]? =some .none)
  (h:∀ao,QX ((env::outer).filterMap (·.frame)) e s.heap ao->(∃fe,ao.get? e=some fe/\fe.cls=uL.cls)->Q () {s with heap:=ao}):wpAny M A (leaving env (.ref e)) Q E s:=by
 have nW:1<vs.size:=(Array.getElem?_eq_some_iff.mp aB).1
 have QY:e∉(env::outer).filterMap (·.frame):=λhm=>by
  obtain⟨_,o,aN,QZ⟩:=a5.mem hm
  rw[he]at aN;cases aN;exact QZ vs hd
 unfold leaving noteFrame
 simp only[hf]
 refine bw (bw (i4 he hd aB ?_))
 refine ae (cC (by decide)) ?_
 refine bw (wpAny_frameOf_fun eC a5 hf λbK xW=>?_)
 refine bw (wpAny_entryPlaceOf λf6 h1=>?_)
 refine bw (oa ?_ (h1.sizeOk5 _ _ _ _ _))
 have DP:bK.get? e=some uL:=(xW.2.1 e QY).trans he
 generalize rp:({cls:=.type "traceback",dict:=none,data:=.fields ([oe,.ref L,.none,rawInt L,.none]++(if f6.isEmpty then ef 6 oe else f6)).toArray}:ew)=cf
 have Q0:cf.isFreed=false:=by refine cv rp ?_;rfl
 have DQ:=lS (h:=bK) cf DP
 refine vI DQ hd nW ?_
 have DR:bK.objs.size≠e:=Nat.ne_of_gt (lT DP)
 have DS:=qZ hd (·.setIfInBounds 1 (pG bK.objs.size))
 have DT:=od (z3 (·.setIfInBounds 1 (pG bK.objs.size))) DQ (zL DS)
 have Q1:=(z4 (bK.push cf) (z3 (·.setIfInBounds 1 (pG bK.objs.size))) (ht DR)).trans (ic bK Q0)
 refine bw (i4 DT DS (x:=.ref bK.objs.size) (by simp[nW]) ?_)
 refine ae (cV (show(pG bK.objs.size !=oe)=true from by simp)) ?_
 refine vI Q1 (by exact cv rp rfl) (by simp only[fM,bZ,dc,fq]<;>exact nl λJ=>by lia) (h _ (λb o Q2 aq=>?_) ?_)
 ·have DU:∀fe,bK.get? b=some fe->(((bK.push cf).update e (z3 (·.setIfInBounds 1 (pG bK.objs.size)))).update bK.objs.size
    (z3 (·.setIfInBounds 3 ((none:bh aJ).elim oe λf=>rawInt f)))).get? b=some fe:=λfe gk=>by
   (refine ae (z4 _ _ (Nat.ne_of_gt (lT gk))) ?_;refine ae (z4 _ _ (ht Q2)) ?_)
   exact lS _ gk
  refine⟨λaY=>DU o ((xW.2.1 b aY).trans aq),?_⟩
  obtain⟨sl,ay⟩:=xW.2.2 b o aq
  exact⟨sl,DU _ ay⟩
 ·refine⟨_,(z4 _ _ DR).trans DT,zM _ _⟩
end
noncomputable def iU(c:aG)(A:cy)(ρ:aT)(h:a8)(l:aa bu):Prop:=A.frames=some l/\∀e∈l,e.scope.kind≠.module/\eO λL o=>hQ (e.frame=some L) (L∈ρ.aR) (h.get? L=some o) (∀vs,o.data≠.fields vs)
noncomputable def iC(l:aa bu):aa aJ:=l.filterMap (·.frame)
theorem iU.mem{c:aG}{A:cy}{ρ:aT}{h:a8}{l:aa bu}(F:iU c A ρ h l){b:aJ}(aq:b∈iC l):b∈ρ.aR:=by
 obtain⟨e,he,q⟩:=List.mem_filterMap.mp aq
 obtain⟨-,L,o,aB,aI,-⟩:=F.2 e he
 rw[aB]at q;cases q;exact aI
theorem iU.fun{c:aG}{A:cy}{ρ:aT}{σ:aa Cell}{h:a8}{l:aa bu}(R:Rep c ρ σ h)(F:iU c A ρ h l):h.FunFrames c.base l:=by
 have:=F.2
 clear F
 induction l with
 |nil=>trivial
 |cons e l cF=>
  obtain⟨aB,L,o,aI,cg,dX,eP⟩:=this e og
  exact⟨aB,⟨L,o,aI,R.new L (er.mpr (.inr cg)),dX,eP⟩,cF λck jD=>this ck (.tail _ jD)⟩
theorem iU.move{c:aG}{A:cy}{ρ ρ':aT}{h ao:a8}{l:aa bu}(F:iU c A ρ h l)(cO:∀b∈ρ.aR,b∈ρ'.aR)(k:∀b∈ρ.aR,∀o,h.get? b=some o->ao.get? b=some o):iU c A ρ' ao l:=
 ⟨F.1,λe he=>by obtain⟨aB,L,o,aI,cg,dX,eP⟩:=F.2 e he;exact⟨aB,L,o,aI,cO L cg,k L cg o dX,eP⟩⟩
structure mj(F:aa aJ)(ρ ρ':aT)(h ao:a8):Prop where
 pre:∃t,ρ'.cs=ρ.cs++t
 aR:ρ'.aR=ρ.aR
 keep:∀b o,b∉addrs ρ.cs->b∉F->h.get? b=some o->ao.get? b=some o
 slot:∀b o,b∉addrs ρ.cs->h.get? b=some o->∃sl,ao.get? b=some {o with slots:=sl}
 fresh:∀b∈addrs ρ'.cs,b∉addrs ρ.cs->h.get? b=none
inductive Q3(c:aG)(F:aa aJ)(ρ:aT)(s:aF)(k7:aa Cell->Prop)(s':aF):Prop
 |mk (ρ':aT) (aC:aa Cell) (R:Rep c ρ' aC s'.heap) (X:mj F ρ ρ' s.heap s'.heap) (M:b' s s') (q:k7 aC)
noncomputable def Q4(e:aj)(s':aF):Prop:=eO λq o=>dx (e=.ref q) (s'.heap.get? q=some o) (o.cls=.type "StopIteration")
noncomputable def nX(c:aG)(d:ab)(f:aj)(as:aa af)(σ:aa Cell)(k7:aa Cell->Prop):Prop:=
 ∀A s ρ vs l,d9 c d A->iU c A ρ s.heap l->Rep c ρ σ s.heap->bT c ρ s.heap as vs->
  ea c.clean (model c.prog c.w) A (.call f ⟨vs,[]⟩) (λr s'=>∃e,dx (r=.error e) (Q4 e s') (Q3 c (iC l) ρ s k7 s')) s
section
variable{c:aG}{d:ab}{σ:aa Cell}{ls:aa au}
theorem Q5{f:aJ}{fd:hb}{t:a3}{s1:b1}{x:au}{np xX pos:bD}{rest:aa b1}{as:aa af}{bs:aa (au×af)}{more:aa au}{k7:aa Cell->Prop}(H:c.Ok)(eC:c.fr=none)(F:FnAt c f fd (.If t [s1,.Raise (some (.Name x np)) none xX] [] pos::rest))(aq:mM c fd as [] bs)
  (hz:∀x∈fd.scope.names,x.2≠.cell)(a5:ls=bs.map (·.1)++more)(gj:ls.Nodup)(hZ:∀x∈ls,fd.scope.names.lookup x=some .local)(jL:∀x∈ls,(x==("__debug__":au))=false/\(x==("__classdict__":au))=false)
  (aA:fd.scope.names.lookup x=some .globalImplicit)(Q6:(x==("__debug__":au))=false)(oV:tO c x (.type "StopIteration"))
  (h:∀env,fk env ls->env.scope=fd.scope->gY c d env ls (isTrue t env (eval t env)) (f5 bs more) σ λb ax=>b=true/\eB c d env ls (exec s1 env) (f5 bs more) ax λc7 J bt=>c7=.next/\k7 bt):
  nX c (d+1) (.ref f) as σ k7:=by
 intro A s ρ vs l bP fw R V
 refine wB (kw:=[]) (kvs:=[]) H F aq hz a5 gj hZ jL bP.room R V iw λenv s₁ E jM qr kE bz fG bW bX=>?_
 have jf:d9 c d (A.deeper env):=bP.deeper eC
 rw[execs_cons]
 refine bp ?_
 rw[Ib]
 refine bV (dA (bp (bo (h env E jM _ s₁ _ ⟨jf,bz,fG⟩) (λb cj p=>?_) λJ J x=>x.elim)))
 obtain⟨dy,bt,cZ,cw,dM,rfl,cN⟩:=p
 have mQ:gi c d env ls (f5 bs more) bt (A.deeper env) cj dy:=⟨jf,cZ,fG.ext bz cw⟩
 rw[cV rfl,execs_cons]
 refine bp (bo (cN _ cj dy mQ) (λc7 bE p=>?_) λJ J x=>x.elim)
 obtain⟨oD,jz,bH,b0,d3,eA,gy,mL,fg,rfl,dG⟩:=p
 refine ae (show c7=.next from fg) ?_
 rw[execs_cons]
 refine bp (aK.of (owsi_raiseC (show(A.deeper env).handled=none from jf.1) ?_ λao e hm=>?_))
 ·refine dI λdv b4=>?_
  obtain⟨az,ay,bF⟩:=oV
  obtain⟨jy,G⟩:=H.g
  obtain⟨fP,B,aq⟩:=H.b
  refine b4 ?_
  have dv:bE.heap.Ns env.globals jy:=by refine ae E.globals ?_;exact G.keeps λb o e=>d3.stays b o e
  have wd:bE.heap.Ns env.builtins fP:=by refine ae E.builtins ?_;exact B.keeps λb o e=>d3.stays b o e
  exact Ia E.kind (show env.scope.names.lookup x=_ by refine ae jM ?_;exact aA) (ZX dv (mg_none_of H.fZ G az) wd ((aq x bF).trans ay) ⟨rfl,rfl⟩) Q6
 refine dI λdv b4=>?_
 obtain⟨t0,he,-⟩:=hm.there
 refine b4 ?_
 have jd:=cw.toF.trans eA
 have xY:∀b o,b∉addrs ρ.cs->b≠s.heap.objs.size->s.heap.get? b=some o->bE.heap.get? b=some o:=λb o aq sq e=>jd.keep b o aq (λq=>by rw[kE]at q;exact sq (eV.mp q)) (bX b o e)
 have uM:∀b∈ρ.aR,b≠s.heap.objs.size:=λb aq q=>by
  obtain⟨o,e⟩:=R.e3 b aq
  rw[q]at e;exact absurd (lT e) (qT _)
 have xZ:iU c A bH bE.heap l:=fw.move (λb aq=>by refine ae jd.aR ?_;exact i3 _ aq) λb aq o e=>xY b o (R.e2 b aq) (uM b aq) e
 have DV:iU c (A.deeper env) bH ao (env::l):=by
  refine⟨by show A.frames.map _=_;refine ae fw.1 ?_;rfl,λck jD=>?_⟩
  rcases gH.mp jD with rfl|jD
  ·refine dI λdv b4=>?_
   obtain⟨dS,⟨o,es,hT,aN,hd,-⟩,-⟩:=mL.ns
   refine b4 ?_
   refine⟨(by refine ae E.kind ?_;intro z;cases z),s.heap.objs.size,o,qr,mL.aR _ (by refine ae kE ?_;exact .head _),hm.keeps _ _ ?_,λvs q=>by rw[hd]at q;cases q⟩
   have:ck.locals=s.heap.objs.size:=by
    have:ck.locals∈own ck:=.head _
    rw[kE]at this;exact eV.mp this
   refine cv this ?_;exact aN
  ·refine dI λdv b4=>?_
   obtain⟨aB,L,o,aI,cg,dX,eP⟩:=xZ.2 ck jD
   refine b4 ?_
   exact⟨aB,L,o,aI,cg,hm.keeps _ _ dX,eP⟩
 have fa:Rep c bH b0 ao:=d3.grow hm.keeps
 refine aK.of (leave_own (base:=c.base) DV.1 (DV.fun fa) qr he rfl rfl λeP x1 aP=>?_)
 have pb:∀b∈(env::l).filterMap (·.frame),b=s.heap.objs.size\/b∈iC l:=λb aq=>by
  rw[IK,qr]at aq
  exact gH.mp aq
 have x2:∀b o,bE.heap.get? b=some o->b≠e:=λb o q z=>by rw[z,hm.new]at q;exact absurd q.symm (cB _)
 have sr:∀b o,b∉(env::l).filterMap (·.frame)->bE.heap.get? b=some o->eP.get? b=some o:=λb o aq q=>(x1 b o (x2 b o q) (hm.keeps _ _ q)).1 aq
 have su:bH.aR=s.heap.objs.size::ρ.aR:=jd.aR
 have Q7:∀b∈(env::l).filterMap (·.frame),b∈bH.aR:=λb aq=>by
  rcases pb b aq with q|q
  ·(refine ae su ?_;refine ae q ?_);exact .head _
  ·refine ae su ?_;exact .tail _ (fw.mem q)
 have ly:Rep c ⟨bH.cs,ρ.aR⟩ b0 eP:=by
  refine Rep.pN (l':=bH.aR) (h:=bE.heap) d3 (λb aq=>su▸.tail _ aq) (λa o na q=>sr a o (λz=>na (Q7 a z)) q) λb aq=>?_
  obtain⟨o,q⟩:=d3.e3 b (by refine ae su ?_;exact .tail _ aq)
  obtain⟨sl,dV⟩:=(x1 b o (x2 b o q) (hm.keeps _ _ q)).2
  exact⟨_,dV⟩
 refine⟨.ref e,rfl,?_,⟨bH.cs,ρ.aR⟩,b0,ly,⟨jd.pre,rfl,λb o aq DW q=>?_,λb o aq q=>?_,λb aq nb=>?_⟩,?_,dG⟩
 ·refine dI λdv b4=>?_
  obtain⟨fe,dQ,dV⟩:=aP
  refine b4 ?_
  exact⟨e,fe,rfl,dQ,dV⟩
 ·have sq:b≠s.heap.objs.size:=λz=>by rw[z]at q;exact absurd (lT q) (qT _)
  exact sr b o (λz=>by rcases pb b z with z|z<;>contradiction) (xY b o aq sq q)
 ·have sq:b≠s.heap.objs.size:=λz=>by rw[z]at q;exact absurd (lT q) (qT _)
  have e1:=xY b o aq sq q
  exact(x1 b o (x2 b o e1) (hm.keeps _ _ e1)).2
 ·rcases jd.fresh b aq nb with z|z
  ·exact absurd aq (d3.e2 b (by rw[kE]at z;(refine ae su ?_;refine ae (eV.mp z) ?_);exact .head _))
  ·cases q:s.heap.get? b with
   |none=>rfl
   |some o=>rw[bX b o q]at z;exact absurd z (cB _)
 ·exact bW.trans (dM.trans (gy.trans b'.heap))
end
end
section
open Sem (wp)
theorem dK.slot{c:aG}{env:bu}{ls:aa au}{m:aE}{ρ ρ':aT}{h ao:a8}(F:dK c env ls m ρ h)(a4:∀(i:ab) p,ρ.cs[i]? =some p->ρ'.cs[i]? =some p)(ca:Carry ρ ρ' h ao)
  (k:∀q∈own env,∀o,h.get? q=some o->∃sl,ao.get? q=some {o with slots:=sl})(cO:∀q∈own env,q∈ρ'.aR):dK c env ls m ρ' ao:=by
 obtain⟨⟨dS,⟨o,es,hT,aN,hd,r⟩,sl⟩,-,aP,a5⟩:=F
 refine⟨⟨dS,?_,λi x aA=>?_⟩,cO,λq bg=>?_,a5⟩
 ·obtain⟨s',e⟩:=k _ (.head _) o aN
  exact⟨_,es,hT,e,hd,r⟩
 ·have:=sl i x aA
  unfold ff at this⊢
  revert this
  cases e:env.cells.lookup x with
  |none=>
   intro this
   cases q:m.getD i none with
   |none=>rw[q]at this;exact this
   |some a=>rw[q]at this;obtain⟨v,az,ay⟩:=this;exact⟨v,az,bq.mono a4 ca _ _ ay⟩
  |some q=>
   rintro⟨cf,eb,this⟩
   obtain⟨s',ck⟩:=k q (.tail _ (nD e)) cf eb
   refine⟨_,ck,?_⟩
   cases q:m.getD i none with
   |none=>rw[q]at this;exact this
   |some a=>rw[q]at this;obtain⟨v,az,ay⟩:=this;exact⟨v,az,bq.mono a4 ca _ _ ay⟩
 ·obtain⟨cf,v,eb,az⟩:=aP q bg
  obtain⟨s',ck⟩:=k q (.tail _ bg) cf eb
  exact⟨_,v,ck,az⟩
structure m5(env:bu)(F:aa aJ)(ρ ρ':aT)(h ao:a8):Prop where
 pre:∃t,ρ'.cs=ρ.cs++t
 aR:ρ'.aR=ρ.aR
 keep:∀b o,b∉addrs ρ.cs->b∉own env->b∉F->h.get? b=some o->ao.get? b=some o
 slot:∀b o,b∉addrs ρ.cs->b∉own env->h.get? b=some o->∃sl,ao.get? b=some {o with slots:=sl}
 fresh:∀b∈addrs ρ'.cs,b∉addrs ρ.cs->b∈own env\/h.get? b=none
noncomputable def kl(C:aJ)(i:ab)(σ:aa Cell):Prop:=∃bA,σ[i]? =some (.inst C bA)
theorem kl.at{c:aG}{C:aJ}{i:ab}{ρ:aT}{σ:aa Cell}{h:a8}{p:aJ×aJ}(I:kl C i σ)(R:Rep c ρ σ h)(e:ρ.cs[i]? =some p):h.get? p.1=some (instObj C p.2):=let⟨_,q⟩:=I;(R.cells i p _ e q).1
noncomputable def pd(c:aG)(d:ab)(sc:dz)(cP:aa au)(elt:a3)(C fN:aJ)(i na j:ab)(Q:aa Cell->Prop):ab->aa af->aE->aa Cell->Prop
 |0,_,_,σ=>kl C i σ/\nX c d (.ref fN) [.cell i] σ Q
 |n+1,acc,m,σ=>kl C i σ/\cH c d (.ref fN) [.cell i] [] σ λa ax=>∀cenv,fk cenv cP->cenv.scope=sc->cz c d cenv cP (eval elt cenv) (m.set j (some a)) ax λr bt=>
  dx (bt[na]? =some (.list acc)) (acc.length+1<=1000000) (pd c d sc cP elt C fN i na j Q n (acc++[r]) (m.set j (some a)) (bt.set na (.list (acc++[r]))))
noncomputable def x3(c:aG)(d:ab)(sc:dz)(x:au)(elt:a3)(C fI fN:aJ)(i n:ab)(Q:ab->aa Cell->Prop)(dr:af)(eD:aa Cell):Prop:=
 dx (dr=.cell i) (kl C i eD) (cH c d (.ref fI) [.cell i] [] eD λa ax=>hQ (a=.cell i) (kl C i ax) (pd c d sc [x] elt C fN i ax.length 0 (Q ax.length) n [] [none] (ax++[.list []]))
  (cH c d (.ref fI) [.cell i] [] (ax++[.list []]) λa bt=>dx (a=.cell i) (kl C i bt) (pd c d sc [x] elt C fN i ax.length 0 (Q ax.length) n [] [none] bt)))
structure qs(c:aG)(C fI fN:aJ):Prop where
 Q8:findIn c.K (.ref C) "__iter__"=some (some (.ref fI))
 gz:typeIn c.K (.ref fI)=some (.type "function")
 fn:findIn c.K (.ref C) "__next__"=some (some (.ref fN))
 lI:typeIn c.K (.ref fN)=some (.type "function")
end
section
open Sem (wp)
inductive x4(c:aG)(d:ab)(env:bu)(ls:aa au)(m:aE)(cenv:bu)(cP:aa au)(q:aJ)(na j:ab)(ρ:aT)(s:aF)(sc:dz)(elt:a3)(C fN:aJ)(i:ab)(p:aJ×aJ)(Q:aa Cell->Prop)(n:ab)(s':aF):Prop
 |mk (acc:aa af) (dO:aE) (ρ':aT) (aC:aa Cell) (I:eY c env ls m cenv cP [] q na ρ s (λρ J=>ρ.cs[i]? =some p) dO ρ' aC s') (h:pd c d sc cP elt C fN i na j Q n acc dO aC)
section
variable{c:aG}{d:ab}{env:bu}{ls:aa au}{m:aE}{σ:aa Cell}{cenv:bu}{cP:aa au}{q:aJ}{na:ab}{ρ:aT}{s:aF}{dO:aE}{bH:aT}{b0:aa Cell}{bE:aF}{x:au}{j:ab}{A:cy}{C fI fN:aJ}{i:ab}{p:aJ×aJ}{elt:a3}
theorem Q9{sc:dz}{Q:aa Cell->Prop}{n:ab}{dT:bD}{R:iG->aF->Prop}{l:aa bu}(S:gi c d env ls m σ A s ρ)(H:c.Ok)(O:qs c C fI fN)(fw:iU c A ρ s.heap l)(G:qm c env x j cenv cP [] s)(iR:cenv.scope=sc)(I:x4 c d env ls m cenv cP q na j ρ s sc elt C fN i p Q n bE)
  (jU:∀Z dO bH b0 bE dq dY cL,eY c env ls m cenv cP [] q na ρ s Z dO bH b0 bE->Rep c dq dY cL.heap->mj (iC l) bH dq bE.heap cL.heap->b' bE cL->Q dY->R (.ok .next) cL):
  xt c.clean (model c.prog c.w) A (.Name x dT) elt none (.ref p.1) (.ref q) cenv R (λs'=>∃cE,cE<n/\x4 c d env ls m cenv cP q na j ρ s sc elt C fN i p Q cE s') bE:=by
 obtain⟨acc,dO,bH,b0,I,qt⟩:=I
 have fZ:c.K.In bE.heap:=H.fZ.keeps λb o e=>I.r.stays b o e
 have V:=jw (c:=c) (ρ:=bH) (h:=bE.heap) (lr I.z rfl) iw
 induction n with
 |zero=>
  have xZ:iU c A bH bE.heap l:=fw.move (λb aq=>I.h▸i3 _ aq) λb aq o e=>I.x.keep b o (S.r.e2 b aq) e
  refine DO fZ (qt.1.at I.r I.z) O.fn O.lI (mF (ll (qt.2 A bE _ [.ref p.1] l S.a xZ I.r V) λr cL a4=>?_))
  obtain⟨e,rfl,lJ,dq,dY,fa,d6,hy,Q'⟩:=a4
  exact⟨lJ,jU _ _ _ _ bE dq dY cL I fa d6 hy Q'⟩
 |succ n=>
  refine DO fZ (qt.1.at I.r I.z) O.fn O.lI (bo (qt.2 A _ _ [.ref p.1] [] S.a I.r V iw) (λv cL cx=>?_) λJ J x=>x.elim)
  obtain⟨a,dq,dY,fa,d6,hy,kG,fh⟩:=cx
  exact dn ((I.post fa d6 hy).asg G kG λja Ra=>eY.elt (K:=λr aC=>pd c d sc cP elt C fN i na j Q n (acc++[r]) (dO.set j (some a)) aC) S.a Ra (fh cenv G.E iR) λr ae5 ae6 ae7 Rb k=>⟨n,vL n,acc++[r],_,_,_,Rb,k⟩)
theorem DX{ρ:aT}{P:af->aa Cell->Prop}{W:aj->aF->Prop}(bL:d9 c d A)(H:c.Ok)(O:qs c C fI fN)(R:Rep c ρ σ s.heap)(e:ρ.cs[i]? =some p)(gv:kl C i σ)(h:cH c d (.ref fI) [.cell i] [] σ P)
  (k:∀bI ax s₁ a,Rep c bI ax s₁.heap->Ext ρ bI s.heap s₁.heap->b' s s₁->P a ax->(a=.cell i/\kl C i ax)/\W (.ref p.1) s₁):aK c.clean (model c.prog c.w) A (pyIter (.ref p.1)) W cb s:=by
 refine QW (H.fZ.keeps λb o e=>R.stays b o e) (gv.at R e) O.Q8 O.gz O.fn (bo (h A _ _ [.ref p.1] [] bL R (jw (lr e rfl) iw) iw) (λv s₁ q=>?_) λJ J x=>x)
 obtain⟨a,bI,ax,bz,bx,bW,cJ,bK⟩:=q
 obtain⟨⟨rfl,a7⟩,w⟩:=k bI ax s₁ a bz bx bW bK
 obtain⟨eN,aW,rfl⟩:=cJ
 cases(bx.get e).symm.trans aW
 exact⟨rfl,⟨_,a7.at bz aW⟩,H.fZ.keeps λb o e=>bz.stays b o e,w⟩
theorem Rc{n:ab}{iter:a3}{dT pos:bD}{scope:dz}{Q:ab->aa Cell->Prop}{RR:aJ->aj->iG->aF->Prop}{l:aa bu}(H:c.Ok)(E:fk env ls)(aP:lH scope x []=true)(O:qs c C fI fN)
  (h:cz c d env ls (eval iter env) m σ (x3 c d (fH scope env) x elt C fI fN i n Q))(S:gi c d env ls m σ A s ρ)(fw:iU c A ρ s.heap l)
  (jU:∀cenv cP q na Z dO bH b0 bE dq dY cL,eY c env ls m cenv cP [] q na ρ s Z dO bH b0 bE->(∀b∈[cenv.locals],s.heap.get? b=none)->Rep c dq dY cL.heap->mj (iC l) bH dq bE.heap cL.heap->b' bE cL->Q na dY->RR cenv.locals (.ref q) (.ok .next) cL):
  aK c.clean (model c.prog c.w) A (eval iter env) (λdd s₁=>aK c.clean (model c.prog c.w) A (pyIter dd) (λit cj=>aK c.clean (model c.prog c.w) A (newList []) (λacc bE=>
   aK c.clean (model c.prog c.w) A (newFunctionEnv scope env.globals [] [] env.qual none .none (some env)) (λcenv cL=>
    ea c.clean (model c.prog c.w) A (.compStart (.ListComp elt [⟨.Name x dT,iter,[],0⟩] scope pos) 0 it acc {cenv with scope:=fH scope env}) (λr s'=>RR cenv.locals acc r s') cL) cb bE) cb cj) cb s₁) cb s:=by
 refine bo (h A s ρ S) (λdd nY p=>?_) λJ J x=>x
 obtain⟨dr,P6,eD,R₀,xB,xC,Rd,rfl,Rf,h₀⟩:=p
 obtain⟨p,DY,rfl⟩:=Rd
 refine DX S.a H O R₀ DY Rf h₀ λbI ax s₁ a bz bx bW ⟨x5,DZ,bP,oV⟩=>⟨⟨x5,DZ⟩,?_⟩
 have X:=xB.trans bx
 refine C1 (fr:=[]) (vals:=[]) (hs:=[]) (Z:=λρ J=>ρ.cs[i]? =some p) (K:=λacc cenv cL=>ea c.clean (model c.prog c.w) A (.compStart (.ListComp elt [⟨.Name x dT,iter,[],0⟩] scope pos) 0 (.ref p.1) acc cenv) (λr s'=>RR cenv.locals acc r s') cL) E (se aP) rfl (λk y e=>by exact absurd e.symm (cB _)) S
  bz X (xC.trans bW) (S.f.ext S.r X) (λb aq=>by exact absurd aq jr) (λJ J J J a4 J J z=>a4 _ _ z) (bx.get DY) λcenv q bH bE G iR I=>?_
 have loop:∀{ρ' aC s'},eY c env ls m cenv [x] [] q ax.length ρ s (λρ J=>ρ.cs[i]? =some p) [none] ρ' aC s'->pd c d (fH scope env) [x] elt C fN i ax.length 0 (Q ax.length) n [] [none] aC->ea c.clean (model c.prog c.w) A (.compLoop (.ListComp elt [⟨.Name x dT,iter,[],0⟩] scope pos) 0 (.ref p.1) (.ref q) cenv) (λr s'=>RR cenv.locals (.ref q) r s') s':=λI qt=>
  CU (cnd:=none) (x4 c d env ls m cenv [x] q ax.length 0 ρ s (fH scope env) elt C fN i p (Q ax.length)) (λn s' I=>Q9 S H O fw G iR I λZ dO bH b0 bE dq dY cL I R X M k=>jU cenv _ _ _ Z dO bH b0 bE dq dY cL I G.new R X M k) n ⟨[],_,_,_,I,qt⟩
 refine CV (loop I bP) (DX S.a H O I.r I.z ?_ oV λdq dY cL a fa d6 hy ⟨x5,Rg,fh⟩=>⟨⟨x5,Rg⟩,loop (I.post fa d6 hy) fh⟩)
 obtain⟨bA,e⟩:=DZ
 exact⟨bA,by refine ae (eG (dH.mp e).1) ?_;exact e⟩
end
end
section
open Sem (wp)
theorem fj.uN{env:bu}{F:aa aJ}{ρ ρ':aT}{h ao:a8}(x:fj env ρ ρ' h ao):m5 env F ρ ρ' h ao:=⟨x.pre,x.aR,λb o a e J q=>x.keep b o a e q,λb o a e q=>⟨o.slots,x.keep b o a e q⟩,x.fresh⟩
theorem m5.trans{env:bu}{F:aa aJ}{ρ ρ' lu:aT}{h ao j9:a8}(x:m5 env F ρ ρ' h ao)(y:m5 env F ρ' lu ao j9):m5 env F ρ lu h j9:=by
 have mid:∀b o,b∉addrs ρ.cs->b∉own env->h.get? b=some o->b∉addrs ρ'.cs:=λb o aq aP e q=>by
  rcases x.fresh b q aq with z|z
  ·exact aP z
  ·rw[z]at e;exact absurd e.symm (cB _)
 refine⟨?_,y.aR.trans x.aR,λb o aq aP fw e=>y.keep b o (mid b o aq aP e) aP fw (x.keep b o aq aP fw e),λb o aq aP e=>?_,λb aB aI=>?_⟩
 ·obtain⟨t,e⟩:=x.pre
  obtain⟨u,ck⟩:=y.pre
  exact⟨t++u,by rw[ck,e,ee]⟩
 ·obtain⟨s1,az⟩:=x.slot b o aq aP e
  obtain⟨s2,ay⟩:=y.slot b _ (mid b o aq aP e) aP az
  exact⟨s2,ay⟩
 ·by_cases q:b∈addrs ρ'.cs
  ·exact x.fresh b q aI
  ·rcases y.fresh b aB q with z|z
   ·exact .inl z
   ·by_cases aP:b∈own env
    ·exact .inl aP
    ·cases e:h.get? b with
     |none=>exact .inr rfl
     |some o=>obtain⟨s1,az⟩:=x.slot b o aI aP e;rw[z]at az;exact absurd az.symm (cB _)
theorem D0{env:bu}:∀(a b:aa b1),execs (a++b) env=(execs a env>>=λf=>match f with|.next=>execs b env|f=>pure f)
 |[],b=>rfl
 |st::a,b=>by
  rw[oh,execs_cons,execs_cons,bind_assoc]
  congr 1
  funext f
  induction f with
  |next=>exact D0 a b
  |_=>exact(pure_bind _ _).symm
section
variable{c:aG}{d:ab}{env:bu}{ls:aa au}{m:aE}{σ:aa Cell}
inductive D1(c:aG)(env:bu)(ls:aa au)(F:aa aJ)(ρ:aT)(s:aF)(Q:aE->aa Cell->Prop)(s':aF):Prop
 |mk (cE:aE) (ρ':aT) (aC:aa Cell) (R:Rep c ρ' aC s'.heap) (X:m5 env F ρ ρ' s.heap s'.heap) (M:b' s s') (F:dK c env ls cE ρ' s'.heap) (q:Q cE aC)
theorem mj.get{F:aa aJ}{ρ ρ':aT}{h ao:a8}(x:mj F ρ ρ' h ao){i:ab}{p:aJ×aJ}(e:ρ.cs[i]? =some p):ρ'.cs[i]? =some p:=by
 obtain⟨t,q⟩:=x.pre
 (refine ae q ?_;refine ae (eG (dH.mp e).1) ?_);exact e
theorem mj.carry{F:aa aJ}{ρ ρ':aT}{h ao:a8}(x:mj F ρ ρ' h ao)(fw:∀b∈F,b∈ρ.aR):Carry ρ ρ' h ao:=λa o na e=>by
 have nb:=fz.mp na
 refine⟨fz.mpr ⟨λz=>?_,by refine ae x.aR ?_;exact nb.2⟩,x.keep a o nb.1 (λz=>nb.2 (fw a z)) e⟩
 rw[x.fresh a z nb.1]at e;exact absurd e.symm (cB _)
theorem Rh{h ao:a8}{a:aJ}{m:au->bh aj}(n:h.Ns a m)(k:∀o,h.get? a=some o->∃sl,ao.get? a=some {o with slots:=sl}):ao.Ns a m:=let⟨o,es,hT,aN,r⟩:=n;let⟨_,e⟩:=k o aN;⟨_,es,hT,e,r⟩
theorem eY.Ri{cenv:bu}{cP:aa au}{q:aJ}{na:ab}{ρ:aT}{s:aF}{Z:aT->a8->Prop}{dO kd:aE}{bH dq eQ:aT}{b0 hV:aa Cell}{bE:aF}{fh hW ao:a8}{A:cy}{F:aa aJ}(S:gi c d env ls m σ A s ρ)(I:eY c env ls m cenv cP [] q na ρ s Z dO bH b0 bE)
  (new:∀b∈[cenv.locals],s.heap.get? b=none)(X:mj F bH dq bE.heap fh)(R:Rep c eQ hV hW)(jx:fj env dq eQ fh hW)(oP:dK c env ls kd eQ hW)(aI:ju cenv.locals hW ao):dx (Rep c ⟨eQ.cs,ρ.aR⟩ hV ao) (m5 env F ρ ⟨eQ.cs,ρ.aR⟩ s.heap ao) (dK c env ls kd ⟨eQ.cs,ρ.aR⟩ ao):=
 have aR:=jx.aR.trans (X.aR.trans I.h)
 have nb:∀{b o},s.heap.get? b=some o->b≠cenv.locals:=λe w=>by rw[w,new _ (.head _)]at e;exact absurd e.symm (cB _)
 have sub:∀b∈ρ.aR,b∈eQ.aR:=λb aq=>aR▸i3 _ aq
 have e5:cenv.locals∈eQ.aR:=aR▸.head _
 have k:∀a o,a∉eQ.aR->hW.get? a=some o->ao.get? a=some o:=λa o na e=>(aI.2 a λw=>na (w▸e5)).trans e
 have Rj:m5 env F ⟨bH.cs,ρ.aR⟩ ⟨dq.cs,ρ.aR⟩ bE.heap fh:=⟨X.pre,rfl,λb o a J q e=>X.keep b o a q e,λb o a J e=>X.slot b o a e,λb a q=>.inr (X.fresh b a q)⟩
 have Rk:fj env ⟨dq.cs,ρ.aR⟩ ⟨eQ.cs,ρ.aR⟩ fh hW:=⟨jx.pre,rfl,jx.keep,jx.fresh⟩
 have Y:=(I.x.toF.uN (F:=F)).trans (Rj.trans Rk.uN)
 ⟨Rep.pN (l':=eQ.aR) R sub k λb aq=>
  let⟨_,e⟩:=S.r.e3 b aq
  let⟨o,ck⟩:=R.e3 b (sub b aq)
  ⟨o,(aI.2 b (nb e)).trans ck⟩,
 ⟨Y.pre,rfl,λb J aq aP fw e=>(aI.2 b (nb e)).trans (Y.keep b _ aq aP fw e),λb J aq aP e=>let⟨sl,ck⟩:=Y.slot b _ aq aP e;⟨sl,(aI.2 b (nb e)).trans ck⟩,Y.fresh⟩,
 oP.carry (ρ':=⟨eQ.cs,ρ.aR⟩) (λJ J e=>e) (λa o na e=>⟨λw=>na (er.mpr ((er.mp w).imp_right (sub a))),k a o (fz.mp na).2 e⟩) (λq bg J e=>(aI.2 q λw=>by obtain⟨o,ck⟩:=S.r.e3 q (S.f.aR q bg);exact nb ck w).trans e) S.f.aR⟩
theorem Rl{C fI fN:aJ}{t elt iter:a3}{x:au}{dT gB pos:bD}{scope:dz}{Q:aE->aa Cell->Prop}(H:c.Ok)(E:fk env ls)(bb:nH t)
  (mi:swapsWithSole [t] (.ListComp elt [⟨.Name x dT,iter,[],0⟩] scope gB) pos.line env=pure true)(a7:mR iter)(aP:lH scope x []=true)(O:qs c C fI fN)
  {i n:ab}(h:cz c d env ls (eval iter env) m σ (x3 c d (fH scope env) x elt C fI fN i n λna aC=>hX c d env ls (assign t env) (.cell na) m aC Q))
  {A:cy}{s:aF}{ρ:aT}{l:aa bu}(S:gi c d env ls m σ A s ρ)(fw:iU c A ρ s.heap l):
  aK c.clean (model c.prog c.w) A (exec (.Assign [t] (.ListComp elt [⟨.Name x dT,iter,[],0⟩] scope gB) pos) env) (λf s'=>f=.next/\D1 c env ls (iC l) ρ s Q s') cb s:=by
 have C:=se aP
 rw[zD,mi,(bb env).2]
 refine bV (dA (bp (bJ ?_)))
 refine bp (bp ?_)
 refine C9 (cl:=[]) (g:=⟨.Name x dT,iter,[],0⟩) rfl (a7 env) (xE (fr:=[]) E C (λy bM=>by exact absurd bM jr) λy bM=>by exact absurd bM jr) C.kind (xF C) ?_
 refine Rc (Q:=λna aC=>hX c d env ls (assign t env) (.cell na) m aC Q)
  (RR:=λL acc r s'=>match r with
   |.ok _=>aK c.clean (model c.prog c.w) A (assignAll acc [assign t env]) (λJ gh=>∃m,gh.heap.Ns L m/\∀ao,ju L gh.heap ao->aK c.clean (model c.prog c.w) A (pure ()) (λJ s'=>aK c.clean (model c.prog c.w) A (pure Flow.next) (λf s'=>f=.next/\D1 c env ls (iC l) ρ s Q s') cb s') cb {gh with heap:=ao}) cb s'
   |.error x=>bB) H E aP O h S fw ?_
 intro cenv cP q na Z dO bH b0 bE dq dY cL I new fa d6 hy k
 obtain⟨dS,ns,-⟩:=I.f.ns
 have o6:cenv.locals∉own env:=λhm=>by
  obtain⟨cf,e⟩:=S.r.e3 _ (S.f.aR _ hm)
  rw[new _ (.head _)]at e;exact absurd e.symm (cB _)
 have pT:dK c env ls m dq cL.heap:=I.o.slot (λJ J e=>d6.get e) (d6.carry λb aq=>I.h▸i3 _ (fw.mem aq)) (λb aq o e=>d6.slot b o (I.r.e2 b (I.o.aR b aq)) e) λb aq=>by refine ae d6.aR ?_;exact I.o.aR b aq
 have e5:=I.aR (b:=cenv.locals) (.head _)
 refine bo (k A cL dq (.ref q) ⟨S.a,fa,pT⟩ (lr (d6.get I.a) rfl)) (λJ nF p=>?_) λJ J x=>x
 obtain⟨kd,eQ,hV,l0,jx,mJ,oP,xG⟩:=p
 refine⟨dS,C8 (Rh ns λo e=>d6.slot _ o (I.r.e2 _ e5) e) λo e=>jx.keep _ _ (fa.e2 _ (d6.aR▸e5)) o6 e,λj9 aI=>bJ (bJ ⟨rfl,?_⟩)⟩
 have D:=I.Ri S new d6 l0 jx oP aI
 exact⟨kd,_,hV,D.aB,D.aI,(I.lD.trans hy).trans (mJ.trans b'.heap),D.cg,xG⟩
end
end
section
open Sem (wp)
noncomputable def m6(c:aG)(d:ab)(f:aj)(as:aa af)(σ:aa Cell)(Q:af->aa Cell->Prop):Prop:=
 ∀A s ρ vs l,d9 c d A->iU c A ρ s.heap l->Rep c ρ σ s.heap->bT c ρ s.heap as vs->
  ea c.clean (model c.prog c.w) A (.call f ⟨vs,[]⟩) (λr s'=>∃v,r=.ok (.ret v)/\hO λa ρ' aC=>pM (Rep c ρ' aC s'.heap) (mj (iC l) ρ ρ' s.heap s'.heap) (b' s s') (bq c ρ' s'.heap a v) (Q a aC)) s
theorem dK.D2{c:aG}{env:bu}{ls:aa au}{m:aE}{ρ:aT}{h:a8}(F:dK c env ls m ρ h):∃o,h.get? env.locals=some o/\∀vs,o.data≠.fields vs:=by
 refine dI λdv b4=>?_
 obtain⟨dS,⟨o,es,hT,aN,hd,-⟩,-⟩:=F.ns
 refine b4 ?_
 exact⟨o,aN,λvs q=>by rw[hd]at q;cases q⟩
section
variable{c:aG}{d:ab}{σ:aa Cell}{ls:aa au}
theorem Rm{f:aJ}{fd:hb}{pre post:aa b1}{C fI fN:aJ}{t elt iter:a3}{x:au}{dT gB pos:bD}{scope:dz}{as:aa af}{bs:aa (au×af)}{more:aa au}{Q:af->aa Cell->Prop}(H:c.Ok)(eC:c.fr=none)
  (F:FnAt c f fd (pre++.Assign [t] (.ListComp elt [⟨.Name x dT,iter,[],0⟩] scope gB) pos::post))(aq:mM c fd as [] bs)
  (hz:∀x∈fd.scope.names,x.2≠.cell)(a5:ls=bs.map (·.1)++more)(gj:ls.Nodup)(hZ:∀x∈ls,fd.scope.names.lookup x=some .local)(jL:∀x∈ls,(x==("__debug__":au))=false/\(x==("__classdict__":au))=false)
  (bb:nH t)(mi:∀env:bu,env.scope=fd.scope->swapsWithSole [t] (.ListComp elt [⟨.Name x dT,iter,[],0⟩] scope gB) pos.line env=pure true)(a7:mR iter)(aP:lH scope x []=true)
  (O:qs c C fI fN)(h:∀env,fk env ls->env.scope=fd.scope->eB c d env ls (execs pre env) (f5 bs more) σ λc7 m σ=>c7=.next/\eO λi n=>cz c d env ls (eval iter env) m σ (x3 c d (fH scope env) x elt C fI fN i n λna aC=>hX c d env ls (assign t env) (.cell na) m aC λm₂ bt=>eB c d env ls (execs post env) m₂ bt λc7 J aC=>match c7 with|.ret a=>Q a aC|.next=>Q .none aC|_=>bB)):
  m6 c (d+1) (.ref f) as σ Q:=by
 intro A s ρ vs l bP fw R V
 refine wB (kw:=[]) (kvs:=[]) H F aq hz a5 gj hZ jL bP.room R V iw λenv s₁ E jM qr kE bz fG bW bX=>?_
 have jf:d9 c d (A.deeper env):=bP.deeper eC
 have sk:env.locals=s.heap.objs.size:=by
  have:env.locals∈own env:=.head _
  rw[kE]at this;exact eV.mp this
 have uM:∀b o,s.heap.get? b=some o->b≠s.heap.objs.size:=λb o e q=>by rw[q]at e;exact absurd (lT e) (qT _)
 have x6:∀b o,s.heap.get? b=some o->b∉own env:=λb o e q=>by rw[kE]at q;exact uM b o e (eV.mp q)
 rw[D0]
 refine bp (bo (h env E jM _ s₁ _ ⟨jf,bz,fG⟩) (λc7 cj p=>?_) λJ J x=>x.elim)
 obtain⟨oD,m₂,dy,bt,cZ,cw,dM,kZ,eH,rfl,i,n,cN⟩:=p
 refine ae (show c7=.next from eH) ?_
 rw[execs_cons]
 have Rn:iU c (A.deeper env) dy cj.heap (env::l):=by
  refine⟨by show A.frames.map _=_;refine ae fw.1 ?_;rfl,λck jD=>?_⟩
  rcases gH.mp jD with eb|jD
  ·refine ae eb ?_
   obtain⟨o,aN,hd⟩:=kZ.D2
   rw[sk]at aN
   exact⟨(by refine ae E.kind ?_;intro z;cases z),s.heap.objs.size,o,qr,kZ.aR _ (by refine ae kE ?_;exact .head _),aN,hd⟩
  ·obtain⟨aB,L,o,aI,cg,dX,eP⟩:=fw.2 ck jD
   exact⟨aB,L,o,aI,(by refine ae cw.aR ?_;exact i3 _ cg),cw.keep L o (R.e2 L cg) (x6 L o dX) (bX L o dX),eP⟩
 refine bp (bo (Rl H E bb (mi env jM) a7 aP O cN ⟨jf,cZ,kZ⟩ Rn) (λc7 bE p=>?_) λJ J x=>x.elim)
 obtain⟨rfl,jz,bH,b0,d3,eA,gy,mL,dG⟩:=p
 refine bo (dG _ bE bH ⟨jf,d3,mL⟩) (λc7 cL p=>?_) λJ J x=>x.elim
 obtain⟨oD,rq,dq,dY,fa,d6,hy,pT,kG,fh⟩:=p
 have jd:m5 env (iC (env::l)) (ρ.hide [s.heap.objs.size]) dq s₁.heap cL.heap:=cw.uN.trans (eA.trans d6.uN)
 have D3:dq.aR=s.heap.objs.size::ρ.aR:=jd.aR
 have fF:dq=(⟨dq.cs,ρ.aR⟩:aT).hide [s.heap.objs.size]:=by
  induction dq;subst D3;rfl
 have Ro:∀b o,s.heap.get? b=some o->b∉iC l->b∉iC (env::l):=λb o e aq z=>by
  rw[show iC (env::l)=s.heap.objs.size::iC l by show List.filterMap _ _=_;(refine ae IK ?_;refine ae qr ?_);rfl]at z
  rcases gH.mp z with z|z
  ·exact uM b o e z
  ·exact aq z
 have ly:Rep c ⟨dq.cs,ρ.aR⟩ dY cL.heap:=Rep.show (l:=[s.heap.objs.size]) (fF▸fa)
 have lZ:mj (iC l) ρ ⟨dq.cs,ρ.aR⟩ s.heap cL.heap:=by
  refine⟨jd.pre,rfl,λb o aq DW e=>jd.keep b o aq (x6 b o e) (Ro b o e DW) (bX b o e),λb o aq e=>jd.slot b o aq (x6 b o e) (bX b o e),λb aq nb=>?_⟩
  rcases jd.fresh b aq nb with z|z
  ·exact absurd aq (fa.e2 b (by rw[kE]at z;(refine ae D3 ?_;refine ae (eV.mp z) ?_);exact .head _))
  ·cases q:s.heap.get? b with
   |none=>rfl
   |some o=>rw[bX b o q]at z;exact absurd z (cB _)
 have M:=bW.trans (dM.trans (gy.trans hy))
 induction oD with
 |next=>refine ae (show c7=.next from kG) ?_;exact⟨_,rfl,.none,⟨dq.cs,ρ.aR⟩,dY,ly,lZ,M,ou,fh⟩
 |brk=>exact fh.elim
 |cont=>exact fh.elim
 |ret a=>
  obtain⟨v,rfl,fg⟩:=kG
  rw[fF]at fg
  exact⟨_,rfl,a,⟨dq.cs,ρ.aR⟩,dY,ly,lZ,M,bq.mono (ρ:=(⟨dq.cs,ρ.aR⟩:aT).hide [s.heap.objs.size]) (ρ':=⟨dq.cs,ρ.aR⟩) (λJ J e=>e) tM _ _ fg,fh⟩
end
end
section
open Sem (wp)
noncomputable def aG.low(c:aG):aG:={c with fr:=none}
theorem d9.low{c:aG}{d:ab}{A:cy}(h:d9 c d A):d9 c.low d A:=⟨h.1,h.2.1,h.2.2.1,h.2.2.2.1,λl e=>by exact absurd e.symm (cB _)⟩
theorem cH.up{c:aG}{d:ab}{f:aj}{as:aa af}{kw:aa (au×af)}{σ:aa Cell}{Q:af->aa Cell->Prop}(h:cH c.low d f as kw σ Q):cH c d f as kw σ Q:=λA s ρ vs kvs bP R V W=>
 bo (h A s ρ vs kvs bP.low R.d7 V.d7 W.d7) (λv s' p=>b5.d7 (c:=c.low) (b:=c.clean) (l:=c.fr) p) λJ J x=>x
noncomputable def Rp(m:aE)(Q:ct->aE->aa Cell->Prop)(a:af)(σ:aa Cell):Prop:=a=.bool true/\Q .next m σ
noncomputable def Rq(c:aG)(d:ab)(v:aj)(m:aE)(Q:ct->aE->aa Cell->Prop)(as:aa af)(σ:aa Cell):Prop:=m6 c.low d v as σ (Rp m Q)
noncomputable def Rr(i:ab)(tl:fl)(c:aG)(d:ab)(m:aE)(Q:ct->aE->aa Cell->Prop)(b:aS)(σ:aa Cell):Prop:=b=false/\kH c.iu i λp=>match p.2 with
 |.val v=>tl c d m σ (Rq c d v m Q)
 |_=>bB
noncomputable def Rt(t1:TT)(i:ab)(tl:fl):br:=λc d m σ Q=>t1 c d m σ (Rr i tl c d m Q)
theorem Ru{S:SC}{az:a3}{i:ab}{x:au}{p gB ox Rv pos:bD}{args:aa a3}{b:aa b1}{t1:TT}{tl:fl}(r7:S.top=true)(aA:dw S.iJ i=some x)(c3:oU S.sc x=true)(bL:l1 args=true)(aB:iz S az t1)(aI:mf S args tl):
  dt S (.If (.BoolOp .Or [az,.UnaryOp .Not (.Call (.Name x p) args [] gB) ox] Rv) b [] pos) (Rt t1 i tl):=λc d env m σ Q F h A s ρ D4=>by
 obtain⟨eC,D5⟩:=F.top r7
 rw[Ib]
 refine bV (dA (bp ?_))
 rw[ZS,v']
 refine bp (bo (aB c d env m σ _ F h A s ρ D4) (λae8 s₁ q=>?_) λJ J x=>x)
 obtain⟨bI,ax,bz,bx,bW,rfl,bK⟩:=q
 have rT:=D4.step bz bx
 dsimp only
 rw[v']
 refine bp ?_
 rw[ZR]
 refine bp ?_
 rw[show∀w,isTrue (.Call (.Name x p) args [] gB) env w=(do let v<-w;standAt gB;holding [v] (truthy v))fromλJ=>rfl]
 refine bp ?_
 rw[Z0]
 obtain⟨tN,e,bK⟩:=p9 bK
 obtain⟨-,hm⟩:=w3 F aA e
 obtain⟨ae9,Rw⟩:=tN
 induction Rw using af.cs with
 |val v=>
  have ba:=F.F.keep _ _ hm
  have nm:cz c d env S.ls (eval (.Name x p) env) m ax λa bt=>a=.val v/\bt=ax:=h3 aA c3 c d env m ax _ F (by
   have key:∀{l:aa (au×af)} {i:ab} {q:au×af} {K:au×af->Prop},l[i]? =some q->K q->kH l i K:=by
    intro l
    induction l with
    |nil=>intro i q K e;simp at e
    |cons y l cF=>
     intro i q K e k
     induction i with
     |zero=>simp at e;subst e;exact k
     |succ i=>rw[my]at e;exact cF e k
   exact key e ⟨rfl,rfl⟩)
  refine bp (bo (nm A s₁ bI rT) (λf cj q=>?_) λJ J x=>x)
  obtain⟨_,dy,bt,cZ,cw,dM,eH,rfl,rfl⟩:=q
  obtain rfl:f=v:=eH
  have mQ:=rT.step cZ cw
  refine wg (P:=c.K.In) (by refine ae (rt gB env bL) ?_;rfl) (wy ba) (wx (kws:=[]) bL rfl ?_)
  refine bo (aI c d env m _ _ gB F bK A cj dy mQ) (λvs bE q=>?_) λJ J x=>x
  obtain⟨as,bH,b0,d3,eA,gy,fg,dG⟩:=q
  refine bJ ⟨F.F.H.fZ.keeps λb o e=>d3.stays b o e,?_⟩
  have nZ:=mQ.step d3 eA
  have fw:iU c.low A bH bE.heap [env]:=⟨nZ.a.2.2.2.2 _ eC,λck jD=>by
   obtain rfl:=eV.mp jD
   obtain⟨o,aN,hd⟩:=nZ.f.D2
   exact⟨(by refine ae F.E.kind ?_;intro z;cases z),ck.locals,o,D5,nZ.f.aR _ (.head _),aN,hd⟩⟩
  refine mF (ll (dG A bE bH vs [env] nZ.a.low fw d3.d7 fg.d7) λr cL q=>?_)
  obtain⟨Rx,rfl,_,dq,dY,fa,d6,hy,kG,rfl,fh⟩:=q
  have fa:Rep c dq dY cL.heap:=Rep.d7 (c:=c.low) (b:=c.clean) (l:=c.fr) fa
  obtain rfl:Rx=.bool true:=kG
  refine bV (dA (du (aK.of (Ir (bJ (bJ ?_))))))
  have pb:∀b∈iC [env],b∈own env:=λb aq=>by
   rw[show iC [env]=[env.locals]by show List.filterMap _ _=_;(refine ae IK ?_;refine ae D5 ?_);rfl]at aq
   refine ae (eV.mp aq) ?_;exact .head _
  have ca:Carry bH dq bE.heap cL.heap:=λa o na e=>by
   have nb:=fz.mp na
   refine⟨fz.mpr ⟨λz=>?_,by refine ae d6.aR ?_;exact nb.2⟩,d6.keep a o nb.1 (λz=>nb.2 (nZ.f.aR a (pb a z))) e⟩
   rw[d6.fresh a z nb.1]at e;exact absurd e.symm (cB _)
  have a4:∀(i:ab) p,bH.cs[i]? =some p->dq.cs[i]? =some p:=λi p e=>by
   obtain⟨t,ck⟩:=d6.pre
   (refine ae ck ?_;refine ae (eG (dH.mp e).1) ?_);exact e
  have pT:dK c env S.ls m dq cL.heap:=nZ.f.slot a4 ca (λq bg o e=>d6.slot q o (d3.e2 q (nZ.f.aR q bg)) e) λq bg=>by refine ae d6.aR ?_;exact nZ.f.aR q bg
  have Y:fj env bH dq bE.heap cL.heap:=⟨d6.pre,d6.aR,λb o aq aP e=>d6.keep b o aq (λz=>aP (pb b z)) e,λb aq nb=>.inr (d6.fresh b aq nb)⟩
  refine bJ ?_
  exact⟨.next,m,dq,dY,fa,bx.toF.trans (cw.toF.trans (eA.toF.trans Y)),bW.trans (dM.trans (gy.trans hy)),pT,rfl,fh⟩
 |_=>exact bK.elim
end
inductive hl where
 |pos (i:ab)
 |kw (i:ab)
 |none
 |tt
 |x7
noncomputable def hl.val(vs kvs:aa aj):hl->aj
 |.pos i=>(dw vs i).getD .none
 |.kw i=>(dw kvs i).getD .none
 |.none=>.none
 |.tt=>.bool true
 |.x7=>.bool false
noncomputable def hl.fJ(as lC:aa af):hl->af
 |.pos i=>(dw as i).getD .none
 |.kw i=>(dw lC i).getD .none
 |.none=>.none
 |.tt=>.bool true
 |.x7=>.bool false
noncomputable def x8(vs kvs:aa aj):aa (au×hl)->aa (au×aj)
 |[]=>[]
 |(x,b)::l=>(x,b.val vs kvs)::x8 vs kvs l
noncomputable def m7(as lC:aa af):aa (au×hl)->aa (au×af)
 |[]=>[]
 |(x,b)::l=>(x,b.fJ as lC)::m7 as lC l
noncomputable def qu:ab->(ab->aj)->aa aj
 |0,_=>[]
 |n+1,g=>g 0::qu n λi=>g (i+1)
theorem x9:∀vs:aa aj,∃g,qu vs.length g=vs
 |[]=>⟨λJ=>.none,rfl⟩
 |v::vs=>by
  obtain⟨g,e⟩:=x9 vs
  exact⟨Nat.rec (motive:=λJ=>aj) v λi J=>g i,congrArg (pF v) e⟩
theorem bT.len{c:aG}{ρ:aT}{h:a8}:∀{as:aa af} {vs:aa aj},bT c ρ h as vs->vs.length=as.length
 |[],_,e=>by refine ae (show _=[]from e) ?_;rfl
 |_::as,_,h0=>by obtain⟨v,r,e,_,y⟩:=h0;(refine ae e ?_;refine ae dc ?_;refine ae dc ?_;exact ae (bT.len y) rfl)
theorem bT.dw{c:aG}{ρ:aT}{h:a8}:∀{as:aa af} {vs:aa aj} (i:ab),bT c ρ h as vs->bq c ρ h ((aX.dw as i).getD .none) ((aX.dw vs i).getD .none)
 |[],_,i,e=>by refine ae (show _=[]from e) ?_;exact rfl
 |_::as,_,0,h0=>by obtain⟨v,r,e,x,_⟩:=h0;refine ae e ?_;exact x
 |_::as,_,i+1,h0=>by obtain⟨v,r,e,_,y⟩:=h0;refine ae e ?_;exact bT.dw i y
noncomputable def bindL(c:aG)(fd:hb)(n:ab)(gq:aa au)(g k:ab->aj)(S:z5):bh (aa (au×aj)):=peek c.K S (bindArgs fd ⟨qu n g,gq.zip (qu gq.length k)⟩)
noncomputable def bindR(n m:ab)(c4:aa (au×hl))(g k:ab->aj)(_:z5):bh (aa (au×aj)):=some (x8 (qu n g) (qu m k) c4)
noncomputable def m8(c:aG)(fd:hb)(n:ab)(gq:aa au)(c4:aa (au×hl)):Prop:=bindL c fd n gq=bindR n gq.length c4
theorem m8.as{c:aG}{fd:hb}{n:ab}{gq:aa au}{c4:aa (au×hl)}{as:aa af}{kw:aa (au×af)}(H:c.Ok)(h:m8 c fd n gq c4)(bL:as.length=n)(ba:kw.map (·.1)=gq):mM c fd as kw (m7 as (kw.map (·.2)) c4):=by
 intro s ρ vs kvs st V W
 subst ba
 have ba:kvs.length=(kw.map (·.1)).length:=by rw[W.len,gK,gK]
 have cx:=V.len.trans bL
 obtain⟨g,x'⟩:=x9 vs
 obtain⟨k,o8⟩:=x9 kvs
 have:=λS=>congrFun (congrFun (congrFun h g) k) S
 unfold bindL bindR at this
 rw[<-cx,<-ba,x',o8]at this
 refine⟨x8 vs kvs c4,kp_binds (H.fZ.keeps λb o e=>st b o e) this,?_,?_⟩
 ·clear this h x' o8
  induction c4 with
  |nil=>rfl
  |cons p l cF=>obtain⟨x,b⟩:=p;show x::_=x::_;exact ae cF rfl
 ·clear this h x' o8
  induction c4 with
  |nil=>exact iw
  |cons p l cF=>
   obtain⟨x,b⟩:=p
   refine jw ?_ cF
   induction b with
   |pos i=>exact V.dw i
   |kw i=>exact W.dw i
   |none=>exact rfl
   |tt=>exact rfl
   |x7=>exact rfl
noncomputable def uO(S:SC)(sc:dz)(c4:aa au):aS:=sc.names.all (λx=>!(x.2==.cell))&&((c4++S.ls.drop c4.length)==S.ls)&&decide S.ls.Nodup&&S.ls.all (λx=>sc.names.lookup x==some .local &&!(x==("__debug__":au))&&!(x==("__classdict__":au)))&&!S.top
structure Ry(S:SC)(sc:dz)(c4:aa au):Prop where
 cell:∀x∈sc.names,x.2≠.cell
 ls:S.ls=c4++S.ls.drop c4.length
 cG:S.ls.Nodup
 loc:∀x∈S.ls,sc.names.lookup x=some .local
 ya:∀x∈S.ls,(x==("__debug__":au))=false/\(x==("__classdict__":au))=false
 top:S.top=false
theorem yb{S:SC}{sc:dz}{c4:aa au}(h:uO S sc c4=true):Ry S sc c4:=by
 simp only[uO,gf,fW,mz,lU,mA]at h
 obtain⟨⟨⟨⟨aB,aI⟩,cg⟩,dX⟩,eP⟩:=h
 exact⟨λx aA e=>(by have:=aB x aA;rw[e]at this;cases this),aI.symm,cg,λx aA=>(dX x aA).1.1,λx aA=>⟨(dX x aA).1.2,(dX x aA).2⟩,eP⟩
theorem qv(as lC:aa af):∀c4:aa (au×hl),(m7 as lC c4).map (·.1)=c4.map (·.1)
 |[]=>rfl
 |(x,b)::l=>by show x::_=x::_;exact ae (qv as lC l) rfl
structure b3(c:aG)(f:aJ)(fd:hb)(S:SC)(body:aa b1)(n:ab)(gq:aa au)(c4:aa (au×hl)):Prop where
 fn:FnAt c f fd body
 sc:fd.scope=S.sc
 ent:uO S fd.scope (c4.map (·.1))=true
 bind:m8 c fd n gq c4
noncomputable def m9(Q:af->aa Cell->Prop):ct->aE->aa Cell->Prop:=λc7 J aC=>match c7 with|.ret a=>Q a aC|.next=>Q .none aC|.brk=>bB|.cont=>bB
theorem enter{c:aG}{d:ab}{σ:aa Cell}{S:SC}{f:aJ}{fd:hb}{body:aa b1}{n:ab}{gq:aa au}{c4:aa (au×hl)}{as:aa af}{kw:aa (au×af)}{t:br}{Q:af->aa Cell->Prop}(F:c.a0)(eC:c.fr=none)(hC:c.names=S.N)(c3:c.iu.map (·.1)=S.iJ)
  (D:b3 c f fd S body n gq c4)(bb:bQ S body t)(bL:as.length=n)(ba:kw.map (·.1)=gq)(h:t c d (f5 (m7 as (kw.map (·.2)) c4) (S.ls.drop (c4.map (·.1)).length)) σ (m9 Q)):bc c (d+1) (.ref f) as kw σ Q:=by
 have E:=yb D.ent
 exact NA F eC hC c3 D.fn D.sc E.top bb (D.bind.as F.H bL ba) E.cell (by rw[qv];exact E.ls) E.cG E.loc E.ya h
noncomputable def sv:b1->aS:=kA false (λJ J J J sc J=>sc.kind==.function&&!sc.isCoroutine&&!sc.isGenerator) (λJ J J J=>false) (λJ J=>false) λJ J J=>false
noncomputable def D6(i:ah):aj->aS
 |.int j _=>decide (i=j)
 |_=>false
noncomputable def D7:Data->bh (eM aj)
 |.seq xs n=>(match n with|0=>some xs|_+1=>none)
 |_=>none
theorem Rz{d:Data}{xs:eM aj}(e:D7 d=some xs):d=.seq xs 0:=by
 cases d with
 |seq mN n=>
  induction n with
  |zero=>exact congrArg (Data.seq · 0) (Option.some.inj e)
  |succ n=>exact absurd e.symm (cB _)
 |_=>exact absurd e.symm (cB _)
noncomputable def uP{α:Type}(r:bh α)(P:α->aS):aS:=match r with|some x=>P x|none=>false
theorem yc{α:Type}{P:α->aS}:∀{r:bh α},uP r P=true->∃x,r=some x/\P x=true
 |some x,e=>⟨x,rfl,e⟩
 |none,e=>absurd e fV
noncomputable def D8(P:aa aj->aS)(o:ew):aS:=decide (o.cls=.type "tuple")&&(o.dict.isNone&&(o.slots.isEmpty&&uP (D7 o.data) λxs=>P xs.toList))
noncomputable def D9(K:i2)(v:aj)(P:aa aj->aS):aS:=match v with
 |.ref a=>uP (K.lookup a) (D8 P)
 |_=>false
mutual
noncomputable def sx(K:i2):af->aj->aS
 |.int i,v=>D6 i v
 |.tup as,v=>qS as.length 1000000&&D9 K v (yd K as)
 |.val x,v=>decide (x=v)
 |.ft,_=>true
 |_,_=>false
noncomputable def yd(K:i2):aa af->aa aj->aS
 |[],vs=>vs.isEmpty
 |a::as,vs=>(match vs with
  |v::vs=>sx K a v&&yd K as vs
  |[]=>false)
end
section
variable{c:aG}{ρ:aT}{h:a8}
theorem RA{i:ah}{v:aj}(e:D6 i v=true):∃t,v=.int i t:=by
 cases v with
 |int j t=>exact⟨t,by rw[fD e]⟩
 |_=>exact absurd e fV
theorem RB{P:aa aj->aS}{o:ew}(e:D8 P o=true):∃xs,o={cls:=.type "tuple",data:=.seq (List.toArray xs)}/\P xs=true:=by
 obtain⟨c,d,data,sl⟩:=o
 have aB:=fO.mp e
 have aI:=fO.mp aB.2
 have cg:=fO.mp aI.2
 obtain⟨xs,q,r⟩:=yc cg.2
 have iD:c=_:=fD aB.1
 have f7:d=none:=Option.isNone_iff_eq_none.mp aI.1
 have sh:sl=#[]:=Iy.mp cg.1
 have RC:data=_:=Rz q
 exact⟨xs.toList,by rw[iD,f7,sh,RC],r⟩
theorem RD{K:i2}{v:aj}{P:aa aj->aS}(e:D9 K v P=true):∃a xs,v=.ref a/\K.lookup a=some {cls:=.type "tuple",data:=.seq (List.toArray xs)}/\P xs=true:=by
 cases v with
 |ref a=>
  obtain⟨o,q,r⟩:=yc e
  obtain⟨xs,e,r⟩:=RB r
  exact⟨a,xs,rfl,e▸q,r⟩
 |_=>exact absurd e fV
set_option tactic.hygienic true in
mutual
theorem ye(X:c.K.In c.base)(hs:c.base.StaysIn h)(aq:∀b∈ρ.bar,c.base.get? b=none):∀(a:af) (v:aj),sx c.K a v=true->bq c ρ h a v:=by
 intro a v e
 cases a
 case int i=>exact RA e
 case tup as=>
  obtain⟨az,ay⟩:=fO.mp e
  obtain⟨q,xs,rfl,bg,bF⟩:=RD ay
  have ba:=X _ _ bg
  exact⟨q,xs,rfl,λz=>(by rw[aq q z]at ba;exact absurd ba.symm (cB _)),hs _ _ ba,D' X hs aq as _ bF,k' az⟩
 case val x=>exact(fD e).symm
 case ft=>exact trivial
 all_goals exact absurd e fV
theorem D'(X:c.K.In c.base)(hs:c.base.StaysIn h)(aq:∀b∈ρ.bar,c.base.get? b=none):∀(a:aa af) (v:aa aj),yd c.K a v=true->bT c ρ h a v:=by
 intro a v e
 cases a with
 |nil=>exact List.isEmpty_iff.mp e
 |cons a as=>cases v with
  |nil=>cases e
  |cons v vs=>
   obtain⟨az,ay⟩:=fO.mp e
   exact jw (ye X hs aq a v az) (D' X hs aq as vs ay)
end
end
noncomputable def ml:bh (aa aj)->bh aj
 |some (x::_)=>some x
 |_=>none
theorem RE{x:aj}:∀{r:bh (aa aj)},ml r=some x->∃l,r=some (x::l)
 |some (y::l),e=>⟨l,by rw[Option.some.inj e]⟩
 |some [],e=>absurd e.symm (cB _)
 |none,e=>absurd e.symm (cB _)
noncomputable def Ea(K:i2)(C:aJ)(x:au):rk->aS
 |.own=>findIn K (.ref C) x==some none&&takerIn K C x==some none
 |.e' f=>findIn K (.ref C) x==some (some (.ref f))&&(typeIn K (.ref f)==some (.type "function")&&keepIn K (.ref f))
 |.prop p g=>findIn K (.ref C) x==some (some (.ref p))&&(specialIn K (.ref p) "__get__"==some (some (.builtin "property.__get__"))&&(takesIn K (.ref p)==some true&&ml (recIn K p "property")==some (.ref g)))
 |.const a v=>findIn K (.ref C) x==some (some v)&&(specialIn K v "__get__"==some none&&(handedIn v&&(!copiedNames.contains x&&sx K a v)))
 |.tJ _ _=>true
theorem RF{c:aG}(X:c.K.In c.base){C:aJ}{x:au}{a:rk}(e:Ea c.K C x a=true):Bm c C x a:=by
 induction a with
 |own=>have h:=fO.mp e;exact⟨eq_of_beq h.1,eq_of_beq h.2⟩
 |e' f=>have h:=fO.mp e;have g:=fO.mp h.2;exact⟨eq_of_beq h.1,eq_of_beq g.1,g.2⟩
 |prop p g=>
  have h:=fO.mp e;have g:=fO.mp h.2;have f:=fO.mp g.2
  exact⟨eq_of_beq h.1,eq_of_beq g.1,eq_of_beq f.1,RE (eq_of_beq f.2)⟩
 |const a v=>
  have h:=fO.mp e;have g:=fO.mp h.2;have f:=fO.mp g.2;have k:=fO.mp f.2
  exact⟨eq_of_beq h.1,eq_of_beq g.1,f.1,(mA _).mp k.1,λρ h hs aq=>ye X hs aq a v k.2⟩
 |tJ p q=>exact trivial
noncomputable def bi(x:au):af->aS
 |.val v=>bootBuiltins x==some v&&!(x==("__name__":au))
 |_=>false
theorem RG{x:au}{a:af}(e:bi x a=true):∃v,a=.val v/\bootBuiltins x=some v/\x≠"__name__":=by
 induction a using af.cs with
 |val v=>have h:=fO.mp e;exact⟨v,rfl,eq_of_beq h.1,ne_of_beq_false ((mA _).mp h.2)⟩
 |_=>exact absurd e fV
noncomputable def Eb(K:i2)(x:au)(a:af):bh (bh aj)->aS
 |some (some v)=>sx K a v
 |some none=>bi x a
 |none=>false
theorem RH{K:i2}{x:au}{a:af}:∀{r:bh (bh aj)},Eb K x a r=true->(∃v,r=some (some v)/\sx K a v=true)\/(r=some none/\bi x a=true)
 |some (some v),e=>.inl ⟨v,rfl,e⟩
 |some none,e=>.inr ⟨rfl,e⟩
 |none,e=>absurd e fV
noncomputable def RI(K:i2)(x:au)(a:af):aS:=Eb K x a (nsIn K mainGlobals x)
noncomputable def RJ(K:i2):af->aS
 |.val (.builtin _)=>true
 |.val (.type _)=>true
 |.val v=>keepIn K v
 |_=>true
noncomputable def Ec(c:aG):aS:=
 c.iu.all (λp=>RI c.K p.1 p.2&&RJ c.K p.2)&&(w2.isPrefixOf c.names&&c.cls.all λp=>l6 c.K p.1&&p.2.all λq=>uP (dw c.names q.1) λx=>Ea c.K p.1 x q.2)
theorem prefix_at{α:Type} [BEq α] [LawfulBEq α]:∀{l m:aa α} {k:ab} {x:α},l.isPrefixOf m=true->dw l k=some x->m[k]? =some x
 |[],_,_,_,_,e=>by exact absurd e.symm (cB _)
 |a::l,[],_,_,e,_=>by cases e
 |a::l,b::m,0,x,e,h=>by
  simp only[List.isPrefixOf,gf,fW]at e
  cases h;refine ae e.1 ?_;rfl
 |a::l,b::m,k+1,x,e,h=>by
  simp only[List.isPrefixOf,gf]at e
  refine ae (my) ?_;exact prefix_at e.2 h
theorem RK{c:aG}(H:c.Ok)(e:Ec c=true):c.a0:=by
 have h:=fO.mp e
 have g:=fO.mp h.2
 have az:=mz.mp h.1
 have bF:=mz.mp g.2
 refine⟨H,λx a hm=>?_,λx v hm=>?_,λk x ba=>prefix_at g.1 ba,λC cX hm=>⟨(fO.mp (bF _ hm)).1,λk a ba=>?_⟩⟩
 ·exact(RH (fO.mp (az _ hm)).1).imp (λ⟨v,q,z⟩=>⟨v,q,λρ h hs aq=>ye H.fZ hs aq a v z⟩) λ⟨q,z⟩=>(RG z).imp λv y=>⟨y.1,q,y.2⟩
 ·have:=(fO.mp (az _ hm)).2
  cases v with
  |builtin i=>exact .inl ⟨i,rfl⟩
  |type n=>exact .inr (.inl ⟨n,rfl⟩)
  |_=>exact .inr (.inr this)
 ·obtain⟨x,aA,q⟩:=yc (mz.mp (fO.mp (bF _ hm)).2 _ ba)
  exact⟨x,hB.trans aA,RF H.fZ q⟩
theorem pe{α:Type}{fv:af->aE->aa Cell->(aE->aa Cell->Prop)->Prop}{cX:aE->aa Cell->(ct->aE->aa Cell->Prop)->Prop}{keep:aa Cell->Prop->Prop}{Q:ct->aE->aa Cell->Prop}{f:α->af}(I:aa α->aE->aa Cell->Prop)
  (aY:∀m σ,I [] m σ->Q .next m σ)
  (hs:∀a l (R:aE->aa Cell->Prop),(∀m σ,I l m σ->R m σ)->∀m σ,I (a::l) m σ->fv (f a) m σ (xe cX (kFor keep R Q))):∀{as:aa α} {m:aE} {σ:aa Cell},I as m σ->qc fv cX keep Q (as.map f) m σ:=by
 intro as
 induction as with
 |nil=>intro m σ h;exact aY m σ h
 |cons a l cF=>intro m σ h;exact hs a l (qc fv cX keep Q (l.map f)) (λm σ h=>cF h) m σ h
theorem sy{fv:af->aE->aa Cell->(aE->aa Cell->Prop)->Prop}{cX:aE->aa Cell->(ct->aE->aa Cell->Prop)->Prop}{keep:aa Cell->Prop->Prop}{Q:ct->aE->aa Cell->Prop}{f:ab->af}(I:ab->aE->aa Cell->Prop){a n:ab}
  (aY:∀m σ,I (a+n) m σ->Q .next m σ)
  (hs:∀k (R:aE->aa Cell->Prop),a<=k->k<a+n->(∀m σ,I (k+1) m σ->R m σ)->∀m σ,I k m σ->fv (f k) m σ (xe cX (kFor keep R Q))){m:aE}{σ:aa Cell}(h:I a m σ):qc fv cX keep Q ((oi a n).map f) m σ:=by
 refine pe (λl m σ=>∃k,hQ (a<=k) (k+l.length=a+n) (l=oi k l.length) (I k m σ)) ?_ ?_ ⟨a,eL _,by exact ae ac2 rfl,by exact ae ac2 rfl,h⟩
 ·rintro m σ ⟨k,aB,aI,-,cg⟩
  have:k=a+n:=by simpa using aI
  subst this;exact aY m σ cg
 ·rintro x l R dp m σ ⟨k,aB,aI,cg,dX⟩
  rw[dc]at aI cg
  rw[z6]at cg
  obtain⟨rfl,cg⟩:=z7 cg
  exact hs x R aB (by exact nl λJ=>by lia) (λm σ h=>dp m σ ⟨x+1,by exact c2 ‹_› (jH _ _),by lia,cg,h⟩) m σ dX
theorem Ed:∀(n a:ab),mb (a:ah) 1 n=(oi a n).map λk=>((k:ab):ah)
 |0,a=>rfl
 |n+1,a=>by
  (refine ae z6 ?_;refine ae gJ ?_)
  show(a:ah)::mb ((a:ah)+1) 1 n=_
  (refine ae (show(a:ah)+1=((a+1:ab):ah)from rfl) ?_;exact ae (Ed n (a+1)) rfl)
theorem pf{σ:aa Cell}{a b:ab}{K:aa af->(aa Cell->Prop->Prop)->Prop}(aB:a<=b)(aI:b<=1000000)(h:K ((oi a (b-a)).map λk=>.int (k:ab)) qd):r6 σ (.e0 a b 1) K:=by
 have e:lW (a:ah) (b:ah) 1=((b-a:ab):ah):=by
  unfold lW
  refine ae (cV (by decide)) ?_
  split
  ·rw[Int.ediv_one];lia
  ·lia
 refine⟨?_,?_⟩
 ·exact small_one (by exact fX λJ=>by lia) (by exact fy λJ=>by lia) (by exact fX λJ=>by lia) (by exact fy λJ=>by lia)
 ·rw[e,tp,Ed,nx]
  exact h
theorem Ee:∀(n a i:ab),mb ((a+2*i:ab):ah) 2 n=(oi i n).map λk=>((a+2*k:ab):ah)
 |0,a,i=>rfl
 |n+1,a,i=>by
  (refine ae z6 ?_;refine ae gJ ?_)
  show((a+2*i:ab):ah)::mb (((a+2*i:ab):ah)+2) 2 n=_
  (refine ae (show((a+2*i:ab):ah)+2=((a+2*(i+1):ab):ah)from by lia) ?_;exact ae (Ee n a (i+1)) rfl)
theorem RL{σ:aa Cell}{n:ab}{b:ah}{K:aa af->(aa Cell->Prop->Prop)->Prop}(aB:b=(1+2*n:ab))(aI:n<=1000000)(h:K ((oi 0 n).map λk=>.int ((1+2*k:ab):ah)) qd):r6 σ (.e0 1 b 2) K:=by
 subst aB
 have e:lW (1:ah) ((1+2*n:ab):ah) 2=(n:ah):=by
  unfold lW
  refine ae (cV (by decide)) ?_
  split<;>lia
 refine⟨?_,?_⟩
 ·unfold Io Builtin.Range.rangeFitsLong
  refine ae e ?_
  simp only[gf,z0,lU,fW,show(2:ah)>0 by decide,vE]
  lia
 ·rw[e,tp]
  have:=Ee n 1 0
  rw[show((1+2*0:ab):ah)=1 from rfl]at this
  (refine ae this ?_;refine ae nx ?_)
  exact h
theorem pg{tt:aE->aa Cell->(aS->aa Cell->Prop)->Prop}{cX:aE->aa Cell->(ct->aE->aa Cell->Prop)->Prop}{Q:ct->aE->aa Cell->Prop}(I:ab->aE->aa Cell->Prop)
  (hs:∀n (R:aE->aa Cell->Prop),(∀k,n=k+1->∀m σ,I k m σ->R m σ)->∀m σ,I n m σ->tt m σ (BX cX R Q m))(n:ab){m:aE}{σ:aa Cell}(h:I n m σ):∃n,oZ tt cX Q n m σ:=by
 refine⟨n+1,?_⟩
 induction n generalizing m σ with
 |zero=>exact hs 0 (oZ tt cX Q 0) (λk e=>by exact absurd e.symm (Ii _)) m σ h
 |succ n cF=>exact hs (n+1) (oZ tt cX Q (n+1)) (λk e m σ h=>by cases e;exact cF h) m σ h
noncomputable def RM(R X:aE->aa Cell->Prop)(Q:ct->aE->aa Cell->Prop)(c7:ct)(m:aE)(σ:aa Cell):Prop:=match c7 with
 |.next=>R m σ
 |.cont=>R m σ
 |.brk=>X m σ
 |.ret a=>Q (.ret a) m σ
noncomputable def RN(cX:aE->aa Cell->(ct->aE->aa Cell->Prop)->Prop)(R X:aE->aa Cell->Prop)(Q:ct->aE->aa Cell->Prop)(m:aE)(b:aS)(σ:aa Cell):Prop:=bY b (cX m σ (RM R X Q)) (X m σ)
theorem RO{tt:aE->aa Cell->(aS->aa Cell->Prop)->Prop}{cX:aE->aa Cell->(ct->aE->aa Cell->Prop)->Prop}{Q:ct->aE->aa Cell->Prop}(I:ab->aE->aa Cell->Prop)(Ef:aE->aa Cell->Prop)
  (hs:∀n (R X:aE->aa Cell->Prop),(∀k,n=k+1->∀m σ,I k m σ->R m σ)->(∀m σ,Ef m σ->X m σ)->∀m σ,I n m σ->tt m σ (RN cX R X Q m))(aA:∀m σ,Ef m σ->Q .next m σ)(n:ab){m:aE}{σ:aa Cell}(h:I n m σ):∃n,oZ tt cX Q n m σ:=
 pg I (λn R dp m σ h=>hs n R (Q .next) dp aA m σ h) n h
theorem n0{α:Type}{q:α}:∀{l:aa α} {i:ab} {K:α->Prop},dw l i=some q->K q->kH l i K
 |[],_,_,e,_=>by exact absurd e.symm (cB _)
 |_::_,0,_,e,k=>by cases e;exact k
 |_::l,i+1,K,e,k=>n0 (l:=l) e k
theorem RP{as:aa af}{i:ah}{σ:aa Cell}{Q:af->aa Cell->Prop}{k:ab}{a:af}(a7:i=k)(ba:dw as k=some a)(h:Q a σ):uA (.tup as) (.int i) σ Q:=by
 subst a7
 exact n0 ba h
theorem sz{α β:Type}{f:α->β}:∀{l:aa α} {k:ab} {x:α},dw l k=some x->dw (l.map f) k=some (f x)
 |[],_,_,e=>by exact absurd e.symm (cB _)
 |_::_,0,_,e=>by cases e;rfl
 |_::l,k+1,x,e=>sz (l:=l) (k:=k) e
theorem uQ{n k:ab}(h:k<n):dw (vQ n) k=some k:=by
 (refine cv hB ?_;exact ae (List.getElem?_range h) rfl)
noncomputable def Eg(S:SC)(sc:dz)(c4:aa au):aS:=decide (sc.names.map (·.1)).Nodup&&((c4++S.ls.drop c4.length)==S.ls)&&decide S.ls.Nodup&&S.ls.all (λx=>(sc.names.lookup x==some .local ||sc.names.lookup x==some .cell)&&!(x==("__debug__":au))&&!(x==("__classdict__":au)))&&!S.top
theorem Eh{c:aG}{d:ab}{σ:aa Cell}{S:SC}{f:aJ}{fd:hb}{body:aa b1}{n:ab}{gq:aa au}{c4:aa (au×hl)}{as:aa af}{kw:aa (au×af)}{t:br}{Q:af->aa Cell->Prop}(F:c.a0)(eC:c.fr=none)(hC:c.names=S.N)(c3:c.iu.map (·.1)=S.iJ)
  (D:FnAt c f fd body/\m8 c fd n gq c4)(iR:fd.scope=S.sc)(he:Eg S fd.scope (c4.map (·.1))=true)(bb:bQ S body t)(bL:as.length=n)(ba:kw.map (·.1)=gq)(h:t c d (f5 (m7 as (kw.map (·.2)) c4) (S.ls.drop (c4.map (·.1)).length)) σ (m9 Q)):bc c (d+1) (.ref f) as kw σ Q:=by
 simp only[Eg,gf,z0,fW,mz,lU,mA]at he
 obtain⟨⟨⟨⟨aB,aI⟩,cg⟩,dX⟩,eP⟩:=he
 exact Qp F eC hC c3 D.1 iR eP bb (D.2.as F.H bL ba) aB (by rw[qv];exact aI.symm) cg (λx aA=>(dX x aA).1.1) (λx aA=>⟨(dX x aA).1.2,(dX x aA).2⟩) h
theorem Ei{dk:aE->aa Cell->(af->aa Cell->Prop)->Prop}{keep:aa Cell->Prop->Prop}{na j:ab}{Q:aa Cell->Prop}{f:ab->af}(I:ab->aa af->aE->aa Cell->Prop){a n:ab}
  (aY:∀acc m σ,I (a+n) acc m σ->Q σ)
  (hs:∀k (R:aa af->aE->aa Cell->Prop),a<=k->k<a+n->(∀acc m σ,I (k+1) acc m σ->R acc m σ)->∀acc m σ,I k acc m σ->nO m j (f k) λcE=>dk cE σ (qo keep na acc R cE))
  {m:aE}{σ:aa Cell}(h:I a [] m σ):k6 dk none keep na j Q ((oi a n).map f) [] m σ:=by
 have key:∀(n k:ab) (acc:aa af) (m:aE) (σ:aa Cell),a<=k->(∀acc m σ,I (k+n) acc m σ->Q σ)->(∀i (R:aa af->aE->aa Cell->Prop),a<=i->i<k+n->(∀acc m σ,I (i+1) acc m σ->R acc m σ)->∀acc m σ,I i acc m σ->nO m j (f i) λcE=>dk cE σ (qo keep na acc R cE))->I k acc m σ->k6 dk none keep na j Q ((oi k n).map f) acc m σ:=by
  intro n
  induction n with
  |zero=>intro k acc m σ _ aY _ h;exact aY acc m σ h
  |succ n cF=>
   intro k acc m σ ba aY hs h
   (refine ae z6 ?_;refine ae gJ ?_)
   refine hs k (k6 dk none keep na j Q ((oi (k+1) n).map f)) ba (by exact nl λJ=>by lia) (λacc m σ h=>?_) acc m σ h
   exact cF (k+1) acc m σ (by exact c2 ‹_› (jH _ _)) (by refine ae (show k+1+n=k+(n+1)from by exact vR _ _ _) ?_;exact aY) (by refine ae (show k+1+n=k+(n+1)from by exact vR _ _ _) ?_;exact hs) h
 exact key n a [] m σ (eL _) aY hs h
noncomputable def yf(t:br):br:=λc d m σ Q=>t c d m σ (oK σ.length Q)
theorem uR{S:SC}{s:b1}{t:br}(h:dt S s t):dt S s (yf t):=λc d env m σ Q F k=>eB.trim (h c d env m σ _ F k)
inductive Run(t:br)(c:aG)(d:ab)(m:aE)(σ:aa Cell)(Q:ct->aE->aa Cell->Prop):Prop
 |mk (h:t c d m σ Q)
noncomputable def e6{S:SC}{s:b1}(x:{t:br//dt S s t}):{t:br//dt S s t}:=⟨Run x.1,λc d env m σ Q F h=>by obtain⟨h⟩:=h;exact x.2 c d env m σ Q F h⟩
section
open Sem (wp)
section
variable{c:aG}{d:ab}{σ:aa Cell}
theorem nX.mono{f:aj}{as:aa af}{Q dJ:aa Cell->Prop}(h:nX c d f as σ Q)(k:∀σ,Q σ->dJ σ):nX c d f as σ dJ:=λA s ρ vs l bP fw R V=>
 ll (h A s ρ vs l bP fw R V) λr s' ⟨e,az,ay,ρ',aC,hv,jb,xS,q⟩=>⟨e,az,ay,ρ',aC,hv,jb,xS,k _ q⟩
theorem RQ{S:SC}{f:aJ}{fd:hb}{body:aa b1}{n:ab}{c4:aa (au×hl)}{as:aa af}{t:a3}{s1:b1}{x:au}{np xX pos:bD}{rest:aa b1}{tt:TT}{dW:br}{k7:aa Cell->Prop}(F:c.a0)(eC:c.fr=none)(hC:c.names=S.N)(c3:c.iu.map (·.1)=S.iJ)
  (D:b3 c f fd S body n [] c4)(yg:body=.If t [s1,.Raise (some (.Name x np)) none xX] [] pos::rest)(aB:iz S t tt)(aI:dt S s1 dW)(bL:as.length=n)
  (aA:oU S.sc x=true)(oV:tO c x (.type "StopIteration"))
  (h:tt c d (f5 (m7 as [] c4) (S.ls.drop (c4.map (·.1)).length)) σ λb ax=>b=true/\dW c d (f5 (m7 as [] c4) (S.ls.drop (c4.map (·.1)).length)) ax λc7 J bt=>c7=.next/\k7 bt):nX c (d+1) (.ref f) as σ k7:=by
 have E:=yb D.ent
 subst yg
 simp only[oU,gf,fW,mA]at aA
 refine Q5 F.H eC D.fn (D.bind.as (kw:=[]) F.H bL rfl) E.cell (by rw[qv];exact E.ls) E.cG E.loc E.ya (by refine ae D.sc ?_;exact aA.1) aA.2 oV λenv Ev he=>?_
 have m':S.Fits c env:=⟨F,hC,c3,Ev,he.trans D.sc,λe=>by rw[E.top]at e;exact absurd e fV⟩
 refine(aB c d env _ σ _ m' h).mono λb ax q=>⟨q.1,?_⟩
 exact(aI c d env _ ax _ m' q.2).mono λc7 m bt q=>q
theorem m6.frame{f:aj}{nK as:aa af}{eD:aa Cell}{nL Q:af->aa Cell->Prop}(ι:aa ab)(h:m6 c d f nK eD nL)(cG:ι.Nodup)(aq:∀i∈ι,i<σ.length)
  (k0:ι.map (λi=>σ[i]?)=eD.map (λx=>some (x.b8 (eo ι σ.length))))(bL:as=fQ (eo ι σ.length) nK)
  (k:∀a ax,nL a ax->Q (a.b8 (eo ι σ.length)) (iO ι σ ax)):m6 c d f as σ Q:=by
 intro A s ρ vs l bP fw R V
 have R₀:=R.pick cG aq k0
 have gk:∀i∈ι,i<ρ.cs.length:=λi a7=>by refine ae R.len ?_;exact aq i a7
 have un:=wI (ρ:=ρ) (ι:=ι) R.len
 have ca:Carry ρ (l2 ρ ι) s.heap s.heap:=wG gk
 rw[bL]at V
 have RS:iU c A (l2 ρ ι) s.heap l:=fw.move (λb aq=>i3 _ aq) λb J o e=>e
 have:=h A s (l2 ρ ι) vs l bP RS R₀ (bT.hA un ca _ _ V)
 refine ll this λr s' p=>?_
 obtain⟨v,rfl,a,bI,ax,bz,bx,bW,cJ,q⟩:=p
 refine⟨v,rfl,?_⟩
 obtain⟨t,bb⟩:=bx.pre
 have az:bI=⟨eR ρ.cs ι++t,jA ρ.cs ι++ρ.aR⟩:=by
  have cO:=bx.aR
  induction bI;subst bb;subst cO;rfl
 subst az
 have h1:(eR ρ.cs ι).length=ι.length:=by simp[eR]
 have fresh:∀b∈addrs t,s.heap.get? b=none:=by
  intro b fR
  by_cases z:b∈addrs (eR ρ.cs ι)
  ·obtain⟨j,p,aW,e⟩:=ez.mp z
   obtain⟨rB,eN,je,ck⟩:=ez.mp fR
   exfalso
   have A:=bz.apart j ((eR ρ.cs ι).length+rB) p eN (by refine ae (eG (dH.mp aW).1) ?_;exact aW) (by rw[eU (by exact jH _ _),nt];exact je) (by have:=(dH.mp aW).1;lia)
   rcases e with rfl|rfl<;>rcases ck with ck|ck
   ·exact A.1 ck
   ·exact A.2.1 ck
   ·exact A.2.2.1 ck
   ·exact A.2.2.2 ck
  ·exact bx.fresh b (by rw[hS];exact i3 _ fR) z
 have wK:=R.merge cG aq bz (λb o cD cS e=>bx.keep b o cD (λz=>cS (fw.mem z)) e) fresh
 refine⟨_,⟨ρ.cs++t,ρ.aR⟩,_,wK,⟨⟨t,rfl⟩,rfl,λb o aY hf e=>bx.keep b o (λq=>aY (oG gk q)) hf e,λb o aY e=>bx.slot b o (λq=>aY (oG gk q)) e,λb fR aY=>?_⟩,bW,bq.b8 (ρ:=⟨eR ρ.cs ι++t,jA ρ.cs ι++ρ.aR⟩) (ρ':=⟨ρ.cs++t,ρ.aR⟩) (wJ R.len gk) wH _ _ cJ,k a ax q⟩
 have fR:b∈addrs (ρ.cs++t):=fR
 rw[hS]at fR
 exact fresh b ((gT.mp fR).resolve_left aY)
noncomputable def qw(c:aG)(d:ab)(dk:aE->aa Cell->(af->aa Cell->Prop)->Prop)(C fN:aJ)(i na j:ab):ab->aa af->aE->aa Cell->(aa Cell->Prop)->Prop
 |0,_,_,σ,Q=>kl C i σ/\nX c d (.ref fN) [.cell i] σ Q
 |n+1,acc,m,σ,Q=>kl C i σ/\cH c d (.ref fN) [.cell i] [] σ λa ax=>dk (m.set j (some a)) ax λr bt=>bt[na]? =some (.list acc)/\acc.length+1<=1000000/\qw c d dk C fN i na j n (acc++[r]) (m.set j (some a)) (bt.set na (.list (acc++[r]))) Q
theorem Ej{S:SC}{env:bu}{scope:dz}{x:au}{elt:a3}{dk:TE}{C fN:aJ}{i na j:ab}{Q dJ:aa Cell->Prop}(F:S.Fits c env)(aB:cA (S.comp scope [] x) elt dk)(k:∀σ,Q σ->dJ σ):
  ∀(n:ab) (acc:aa af) (m:aE) (σ:aa Cell),qw c d (λm σ Q=>dk c d m σ Q) C fN i na j n acc m σ Q->pd c d (fH scope env) [x] elt C fN i na j dJ n acc m σ:=by
 intro n
 induction n with
 |zero=>intro acc m σ h;exact⟨h.1,h.2.mono k⟩
 |succ n cF=>
  intro acc m σ h
  refine⟨h.1,h.2.mono λa ax q cenv E he=>?_⟩
  have G:(S.comp scope [] x).Fits c cenv:=⟨F.F,F.N,F.g,E,by(refine ae he ?_;refine ae Df ?_;refine ae F.sc ?_);rfl,λe=>by cases e⟩
  exact(aB c d cenv _ ax _ G q).mono λr bt q=>⟨q.1,q.2.1,cF _ _ _ q.2.2⟩
theorem RT{S:SC}{f:aJ}{fd:hb}{body pre post:aa b1}{st:b1}{n:ab}{c4:aa (au×hl)}{as:aa af}{C fI fN:aJ}{elt iter:a3}{lI x:au}{kL dT gB pos:bD}{scope:dz}{Ek yh:br}{yi gz:TE}{yj:iy}{Q:af->aa Cell->Prop}(F:c.a0)(eC:c.fr=none)(hC:c.names=S.N)(c3:c.iu.map (·.1)=S.iJ)
  (D:b3 c f fd S body n [] c4)(yg:body=pre++st::post)(lJ:st=.Assign [.Name lI kL] (.ListComp elt [⟨.Name x dT,iter,[],0⟩] scope gB) pos)(aW:bQ S pre Ek)(bg:bQ S post yh)(El:cA (S.comp scope [] x) elt yi)(hit:cA S iter gz)(RU:k3 S (.Name lI kL) yj)(bL:as.length=n)
  (mi:sj S lI kL.line gB.line scope=true)(a7:mR iter)(aP:lH scope x []=true)
  (O:qs c C fI fN)(h:Ek c d (f5 (m7 as [] c4) (S.ls.drop (c4.map (·.1)).length)) σ λc7 m σ=>c7=.next/\eO λi k=>gz c d m σ λdr eD=>dr=.cell i/\kl C i eD/\cH c d (.ref fI) [.cell i] [] eD λa ax=>a=.cell i/\kl C i ax/\
   let sA:=λaC=>yj c d (.cell ax.length) m aC λm₂ bt=>yh c d m₂ bt (m9 Q)
   qw c d (λm σ Q=>yi c d m σ Q) C fN i ax.length 0 k [] [none] (ax++[.list []]) sA/\cH c d (.ref fI) [.cell i] [] (ax++[.list []]) λa bt=>a=.cell i/\kl C i bt/\
    qw c d (λm σ Q=>yi c d m σ Q) C fN i ax.length 0 k [] [none] bt sA):
  m6 c (d+1) (.ref f) as σ Q:=by
 have E:=yb D.ent
 subst yg lJ
 refine Rm F.H eC D.fn (D.bind.as (kw:=[]) F.H bL rfl) E.cell (by rw[qv];exact E.ls) E.cG E.loc E.ya bG (λenv he=>?_) a7 aP O λenv Ev he=>?_
 ·simp only[sj,gf]at mi
  obtain⟨⟨⟨aB,aI⟩,cg⟩,dX⟩:=mi
  have iR:env.scope=S.sc:=he.trans D.sc
  have ba:env.scope.kind=.function:=by refine ae iR ?_;exact fW.mp aB
  have aq:env.blockKind=.function:=by unfold Env.blockKind;refine ae ba ?_;rfl
  have aY:env.kindOf lI=some .local :=by show env.scope.names.lookup lI=_;refine ae iR ?_;exact fW.mp aI
  show(pure (env.blockKind==.function&&env.kindOf lI==some .local &&kL.line==gB.line&&!(scope.names.any λ(n,k)=>n==lI&&(k== .local ||k==.cell))):bN aS)=_
  (refine ae aq ?_;refine ae aY ?_;refine ae cg ?_;refine ae dX ?_);rfl
 ·have m':S.Fits c env:=⟨F,hC,c3,Ev,he.trans D.sc,λe=>by rw[E.top]at e;exact absurd e fV⟩
  have Em:∀{m:aE} {v:af} (aC:aa Cell),(yj c d v m aC λm₂ bt=>yh c d m₂ bt (m9 Q))->hX c d env S.ls (assign (.Name lI kL) env) v m aC λm₂ bt=>eB c d env S.ls (execs post env) m₂ bt λc7 J aC=>match c7 with|.ret a=>Q a aC|.next=>Q .none aC|_=>bB:=λ{m v} aC q=>
   (RU c d env _ m aC _ m' q).mono λm₂ bt q=>(bg c d env m₂ bt _ m' q).mono λc7 jz b0 k=>by induction c7<;>first|exact k|exact k.elim
  refine(aW c d env _ σ _ m' h).mono λc7 m eD q=>⟨q.1,?_⟩
  obtain⟨-,i,k,q⟩:=q
  refine⟨i,k,(hit c d env m eD _ m' q).mono λdr ax q=>⟨q.1,q.2.1,q.2.2.mono λa bt q=>⟨q.1,q.2.1,Ej m' El Em k _ _ _ q.2.2.1,q.2.2.2.mono λa b0 q=>⟨q.1,q.2.1,Ej m' El Em k _ _ _ q.2.2⟩⟩⟩⟩
end
end
theorem yk:∀(ι:aa ab) (xs σ:aa Cell),ι.map (λi=>σ[i]?)=xs.map some->putAll ι xs σ=σ
 |[],_,_,_=>rfl
 |_::_,[],_,_=>rfl
 |i::ι,x::xs,σ,h=>by
  rw[gJ,gJ,ID]at h
  have:σ.set i x=σ:=by
   obtain⟨a5,e⟩:=dH.mp h.1
   refine cv e ?_;exact IL a5
  refine(congrArg (putAll ι xs) this).trans ?_
  exact yk ι xs σ h.2
theorem RV{ι:aa ab}{σ eD:aa Cell}(h:ι.map (λi=>σ[i]?)=eD.map (λx=>some (x.b8 (eo ι σ.length)))):iO ι σ eD=σ:=by
 have a5:ι.length=eD.length:=by have:=congrArg ig h;simpa using this
 unfold iO
 rw[a5,List.drop_length,z8,il]
 exact yk ι _ σ (by(refine ae h ?_;refine ae nx ?_);rfl)
theorem bc.uS{c:aG}{d:ab}{σ:aa Cell}{f:aj}{nK as:aa af}{oI kw:aa (au×af)}{eD:aa Cell}{ph:af}{Q:af->aa Cell->Prop}(ι:aa ab)(h:bc c d f nK oI eD λa aC=>a=ph/\aC=eD)(cG:ι.Nodup)(aq:∀i∈ι,i<σ.length)
  (k0:ι.map (λi=>σ[i]?)=eD.map (λx=>some (x.b8 (eo ι σ.length))))(bL:as=fQ (eo ι σ.length) nK)(ba:kw.map (·.1)=oI.map (·.1)/\kw.map (·.2)=fQ (eo ι σ.length) (oI.map (·.2)))
  (k:Q (ph.b8 (eo ι σ.length)) σ):bc c d f as kw σ Q:=
 bc.frame ι h cG aq k0 bL ba λa ax e=>by(refine ae e.1 ?_;refine ae e.2 ?_;refine ae (RV k0) ?_);exact k
noncomputable def En(S:SC)(sc:dz)(c4:aa au):aS:=decide (sc.names.map (·.1)).Nodup&&((c4++S.ls.drop c4.length)==S.ls)&&decide S.ls.Nodup&&S.ls.all (λx=>(sc.names.lookup x==some .local ||sc.names.lookup x==some .cell)&&!(x==("__debug__":au))&&!(x==("__classdict__":au)))
theorem RW{c:aG}{d:ab}{σ:aa Cell}{S:SC}{f:aJ}{fd:hb}{body:aa b1}{n:ab}{c4:aa (au×hl)}{as:aa af}{t:br}{Q:af->aa Cell->Prop}(eC:c.fr=some [])(F:∀env,(c.deeper env).a0)(H:c.Ok)(hC:c.names=S.N)(c3:c.iu.map (·.1)=S.iJ)
  (D:FnAt c f fd body/\m8 c fd n [] c4)(iR:fd.scope=S.sc)(he:En S fd.scope (c4.map (·.1))=true)(bb:bQ S body t)(bL:as.length=n)(h:∀env,t (c.deeper env) d (f5 (m7 as [] c4) (S.ls.drop (c4.map (·.1)).length)) σ (m9 Q)):bc c (d+1) (.ref f) as [] σ Q:=by
 simp only[En,gf,z0,fW,mz,lU,mA]at he
 refine dI λdv b4=>?_
 obtain⟨⟨⟨aB,aI⟩,cg⟩,dX⟩:=he
 refine b4 ?_
 refine Dq H D.1 (D.2.as (kw:=[]) H bL rfl) aB (by rw[qv];exact aI.symm) cg (λx aA=>(dX x aA).1.1) (λx aA=>⟨(dX x aA).1.2,(dX x aA).2⟩) λenv E hs hf=>?_
 refine(bb (c.deeper env) d env _ σ _ ⟨F env,hC,c3,E,hs.trans iR,λJ=>⟨?_,hf⟩⟩ (h env)).mono λc7 m σ k=>by induction c7<;>first|exact k|exact k.elim
 show c.fr.map _=_
 refine ae eC ?_;rfl
theorem Eo:∀(ι:aa ab) (xs mN σ:aa Cell),ι.length=xs.length->putAll ι (xs++mN) σ=putAll ι xs σ
 |[],[],mN,σ,_=>rfl
 |i::ι,x::xs,mN,σ,h=>Eo ι xs mN (σ.set i x) (Nat.succ.inj h)
theorem RX(i:ab)(ι:aa ab)(x:Cell)(xs σ:aa Cell):putAll (i::ι) (x::xs) σ=putAll ι xs (σ.set i x):=rfl
theorem RY{i:ab}{ι:aa ab}{σ rest G:aa Cell}{x0 c0:Cell}(cG:(i::ι).Nodup)(h:(i::ι).map (λi=>σ[i]?)=(x0::rest).map (λx=>some (x.b8 (eo (i::ι) σ.length)))):
  iO (i::ι) σ (c0::rest++G)=σ.set i (c0.b8 (eo (i::ι) σ.length))++G.map (Cell.b8 (eo (i::ι) σ.length)):=by
 rw[gJ,gJ,ID]at h
 have a5:ι.length=rest.length:=by have:=congrArg ig h.2;simpa using this
 unfold iO
 congr 1
 ·refine(RX _ _ _ _ _).trans ?_
  refine(congrArg (λl=>putAll ι l _) kU).trans ?_
  refine(Eo _ _ _ _ (by rw[gK];exact a5)).trans ?_
  refine yk ι _ _ ?_
  refine ae nx ?_
  refine Eq.trans (ab3 λj dN=>?_) h.2
  exact zy λe:i=j=>(j3.mp cG).1 (by refine ae e ?_;exact dN)
 ·congr 1
  (refine ae dc ?_;refine ae oh ?_;refine ae List.drop_succ_cons ?_;refine ae a5 ?_;exact ae List.drop_left rfl)
theorem RZ(b:aa aU)(c:aU):lG (b++[c])=lG b*256+c.toNat:=by
 unfold lG KFB.value
 (refine ae kU ?_;refine ae List.foldl_append ?_);rfl
theorem R0(x:ah):(((x%256).toNat.toUInt8.toNat:ab):ah)=x%256:=by
 have:(x%256).toNat<256:=by exact nl λJ=>by lia
 rw[mB,mC,lY this]
 lia
theorem yl : ∀ (n : ab) (x : ah), 0 <= x -> x < 256 ^ n -> lG (dZ n x) = x
  | 0, x, h0, aB => by
    have : x = 0 := by have aB : x < 1 := by simpa using aB
                       lia
    refine ae this ?_; rfl
  | n + 1, x, h0, aB => by
    show lG (dZ n (x / 256) ++ [_]) = x
    rw [RZ, yl n (x / 256) (Ip h0 (by decide)) ?_, R0]
    · lia
    · have : (256 : ah) ^ (n + 1) = 256 ^ n * 256 := Int.pow_succ 256 n
      exact Int.ediv_lt_of_lt_mul (by decide) (by refine cv this ?_; exact aB)
noncomputable def gC(x:aU):ab->aa aU->ab
 |0,_=>0
 |n+1,y::r=>if y=x then gC x n r+1 else 0
 |_+1,[]=>0
theorem uT(x:aU):∀(n:ab) (l:aa aU),gC x n l<=n/\gC x n l<=l.length
 |0,_=>⟨eL _,hc _⟩
 |n+1,[]=>⟨hc _,eL _⟩
 |n+1,y::r=>by
  show(if y=x then gC x n r+1 else 0)<=_/\(if y=x then gC x n r+1 else 0)<=_
  by_cases e:y=x
  ·rw[cV e];have:=uT x n r
   exact⟨by exact ne λJ=>by lia,by rw[dc];exact ne λJ=>by lia⟩
  ·rw[cC e];exact⟨hc _,hc _⟩
theorem Ep(x:aU):∀(n:ab) (l:aa aU),l.take (gC x n l)=ef (gC x n l) x
 |0,l=>rfl
 |n+1,[]=>rfl
 |n+1,y::r=>by
  show List.take (if y=x then gC x n r+1 else 0) _=ef (if y=x then gC x n r+1 else 0) x
  by_cases e:y=x
  ·rw[cV e,List.take_succ_cons,zY,Ep x n r,e]
  ·rw[cC e];rfl
noncomputable def e7:ab->aa aU->aa aU
 |0,_=>[]
 |_+1,[]=>[]
 |f+1,x::r=>(1+gC x 254 r).toUInt8::x::e7 f (r.drop (gC x 254 r))
noncomputable def fS:aa aU->aa aU
 |n::x::r=>ef n.toNat x++fS r
 |_=>[]
theorem ym : ∀ (f : ab) (l : aa aU), l.length <= f -> fS (e7 f l) = l
  | 0, l, h => by have : l = [] := z2 (by lia)
                  rw [this]; rfl
  | f + 1, [], _ => rfl
  | f + 1, x :: r, h => by
    have a4 := uT x 254 r
    have aY : ((1 + gC x 254 r).toUInt8).toNat = 1 + gC x 254 r := by
      rw [mB, mC, lY (by exact nl λ J => by lia)]
    show ef ((1 + gC x 254 r).toUInt8).toNat x ++ fS (e7 f (r.drop (gC x 254 r))) = x :: r
    rw [aY, ym f _ (by rw [ih]; rw [dc] at h; exact ne λ J => by lia), IM, zY, oh, <- Ep x 254 r, vG]
noncomputable def fT:ab->ab->aa aU
 |0,_=>[]
 |f+1,n=>if n<=127 then [n.toUInt8]else(128+n%128).toUInt8::fT f (n/128)
noncomputable def gD(v:ah):ab:=if 0<=v then(2*v).toNat else(-2*v-1).toNat
noncomputable def pj(n:ab):ah:=if n%2=0 then(n/2:ab)else-((n/2:ab):ah)-1
theorem R1(v:ah):pj (gD v)=v:=by
 unfold gD pj
 split<;>split<;>lia
noncomputable def lK(c1 n:ab):ab:=if n%2=0 then n/2 else(n/2)^^^c1
noncomputable def eI(c1:ab):ab->ab->ab
 |0,n=>n
 |k+1,n=>eI c1 k (lK c1 n)
theorem Er(a b:ab):(a^^^b)%2=(a%2+b%2)%2:=by
 have h:=Nat.testBit_xor a b 0
 rcases ny a with bL|bL<;>rcases ny b with aq|aq<;>rcases ny (a^^^b)with aP|aP<;>simp[bL,aq,aP]at h⊢
theorem R2(c1 a b:ab):lK c1 (a^^^b)=lK c1 a^^^lK c1 b:=by
 unfold lK
 refine ae Nat.xor_div_two ?_
 have h:=Er a b
 rcases ny a with bL|bL<;>rcases ny b with aq|aq<;>rw[bL,aq]at h<;>simp[h,bL,aq]
 ·rw[tu]
 ·rw[tu (a/2) c1,vS c1 (b/2),<-tu]
 ·rw[vS (b/2) c1,<-tu,tu (a/2) c1 c1,Nat.xor_self,IP]
theorem Es(c1:ab):∀(k a b:ab),eI c1 k (a^^^b)=eI c1 k a^^^eI c1 k b
 |0,_,_=>rfl
 |k+1,a,b=>(congrArg (eI c1 k) (R2 c1 a b)).trans (Es c1 k _ _)
theorem Et(c1:ab):∀(k h:ab),eI c1 k (2^k*h)=h
 |0,h=>by show 2^0*h=h;lia
 |k+1,h=>by
  have e:2^(k+1)*h=2*(2^k*h):=by rw[z9,z' (2^k) 2,Nat.mul_assoc]
  have:lK c1 (2^(k+1)*h)=2^k*h:=by
   unfold lK
   (refine ae e ?_;refine ae (cV (by lia)) ?_)
   lia
  exact(congrArg (eI c1 k) this).trans (Et c1 k h)
theorem R3(k n:ab):n=(2^k*(n/2^k))^^^(n%2^k):=by
 have h:=vT n (2^k)
 have:=ac3 (pJ n (Nat.two_pow_pos k)) (n/2^k)
 have x:(2^k*(n/2^k))^^^(n%2^k)=(2^k*(n/2^k))|||(n%2^k):=by
  apply Nat.eq_of_testBit_eq
  intro i
  rw[Nat.testBit_xor,Nat.testBit_or,Nat.testBit_two_pow_mul,Nat.testBit_mod_two_pow]
  by_cases a7:i<k
  ·have:decide (k<=i)=false:=by simpa using a7
   simp[this,a7]
  ·simp[a7]
 (refine ae x ?_;refine cv this ?_;exact ae h rfl)
theorem yn(c1 k n:ab):eI c1 k n=(n/2^k)^^^eI c1 k (n%2^k):=by
 have h:=Es c1 k (2^k*(n/2^k)) (n%2^k)
 rw[<-R3 k n,Et]at h
 exact h
theorem R4(a b:ab):(a&&&b)%2=(a%2)*(b%2):=by
 have h:=Nat.testBit_and a b 0
 rcases ny a with bL|bL<;>rcases ny b with aq|aq<;>rcases ny (a&&&b)with aP|aP<;>simp[bL,aq,aP]at h⊢
theorem R5:∀(a b:ab),(a^^^b)+2*(a&&&b)=a+b:=by
 intro a
 induction a using Nat.strongRecOn with
 |ind a cF=>
  intro b
  by_cases h0:a=0
  ·subst h0;simp
  ·have h:=cF (a/2) (by exact nl λJ=>by lia) (b/2)
   have az:=Nat.xor_div_two (a:=a) (b:=b)
   have ay:=Nat.and_div_two (a:=a) (b:=b)
   have bF:=Er a b
   have fF:=R4 a b
   have iS:=vT (a^^^b) 2
   have km:=vT (a&&&b) 2
   rw[az]at iS;rw[ay]at km
   rcases ny a with bL|bL<;>rcases ny b with aq|aq<;>rw[bL,aq]at bF fF<;>lia
theorem R6(a b:ab):d' (a:ah) (b:ah)=((a&&&b:ab):ah):=rfl
theorem nc(a b:ab):jI (a:ah) (b:ah)=((a^^^b:ab):ah):=by
 rw[bitXor_and,R6]
 have:=R5 a b
 lia
theorem yo(x:ah):nv (nv x)=x:=by unfold nv;lia
theorem sC(a b:ab):kT (a:ah) (b:ah)=((a|||b:ab):ah):=by
 unfold kT d'
 have e:∀a:ab,decide (0<=nv (a:ah))=false:=λa=>by unfold nv;simp;exact fy λJ=>by lia
 rw[e,e]
 rw[yo,yo,yo];rfl
theorem yp(x:ah):jI x (-1)=-x-1:=by
 rw[bitXor_and]
 have:d' x (-1)=x:=by
  by_cases h:0<=x
  ·unfold d'
   have az:decide (0<=x)=true:=by exact iH h
   refine ae az ?_
   show x-((x.toNat&&&0:ab):ah)=x
   rw[Nat.and_zero];lia
  ·unfold d'
   have az:decide (0<=x)=false:=by exact mD h
   refine ae az ?_
   show nv (((nv x).toNat|||0:ab):ah)=x
   rw[Nat.or_zero]
   unfold nv
   lia
 refine ae this ?_;lia
theorem yq{k a b:ab}(h:b<2^k):(2^k*a)|||b=2^k*a+b:=(ac3 h a).symm
noncomputable def crcStep(c1 c:ab)(b:aU):ab:=eI c1 8 (c^^^b.toNat)
noncomputable def crcOf(c1:ab)(bs:aa aU):ab:=bs.foldl (crcStep c1) 4294967295^^^4294967295
theorem yr{c1 m:ab}(aW:c1<2^m):∀(k n:ab),n<2^m->eI c1 k n<2^m
 |0,n,h=>h
 |k+1,n,h=>by
  refine yr aW k _ ?_
  unfold lK
  split
  ·exact nl λJ=>by lia
  ·exact Aa (by exact nl λJ=>by lia) aW
theorem nd(b:aU):b.toNat<256:=b.toNat_lt
theorem ys(a b k:ab):(a^^^b)/2^k=a/2^k^^^b/2^k:=by
 rw[<-IQ,Nat.shiftRight_xor_distrib,IQ,IQ]
theorem R7(c1 c:ab)(b:aU):crcStep c1 c b=eI c1 8 ((c^^^b.toNat)%256)^^^c/256:=by
 unfold crcStep
 rw[yn c1 8]
 have h:=ys c b.toNat 8
 have aq:b.toNat/2^8=0:=Nat.div_eq_of_lt (nd b)
 rw[aq,IP]at h
 rw[h,vS]
theorem yt(c1:ab):∀(j k n:ab),eI c1 (j+k) n=eI c1 k (eI c1 j n)
 |0,k,n=>by rw[Ab];rfl
 |j+1,k,n=>by rw[vR];exact yt c1 j k (lK c1 n)
theorem R8(c1 c:ab)(b:aU):let r:=eI c1 4 ((c^^^b.toNat)%16)^^^c/16
  eI c1 4 ((r^^^b.toNat/16)%16)^^^r/16=crcStep c1 c b:=by
 intro r
 have aB:eI c1 4 (c^^^b.toNat)=r^^^b.toNat/16:=by
  rw[yn c1 4,ys c b.toNat 4]
  rw[vS (c/16^^^b.toNat/16),tu]
 have aI:=yt c1 4 4 (c^^^b.toNat)
 unfold crcStep
 (refine ae (show(8:ab)=4+4 from rfl) ?_;refine ae aI ?_;refine ae aB ?_;refine ae (yn c1 4 (r^^^b.toNat/16)) ?_;refine ae (ys r (b.toNat/16) 4) ?_)
 have aq:b.toNat/16/2^4=0:=by have:=nd b;lia
 rw[aq,IP,vS]
theorem iV(n k:ab):(n:ah).fdiv (2^k)=((n/2^k:ab):ah):=by
 refine ae (Ac _ (Int.pow_nonneg (by decide))) ?_
 simp
theorem yu{c1 c:ab}{b:aU}(aW:c1<2^32)(h:c<2^32):crcStep c1 c b<2^32:=
 yr aW 8 _ (Aa h (IS (nd b) (by decide)))
theorem uU{v:ah}(h:-2^60<=v/\v<2^60):jI (v*2^jJ 1) (v.fdiv (2^jJ 63))=(gD v:ab)/\gD v<2^61:=by
 have ay:v*2^jJ 1=2*v:=by refine ae (show(2:ah)^jJ 1=2 from rfl) ?_;lia
 have az:v.fdiv (2^jJ 63)=if 0<=v then 0 else-1:=by
  (refine ae (Ac _ (Int.pow_nonneg (by decide))) ?_;refine ae (show(2:ah)^jJ 63=9223372036854775808 from rfl) ?_)
  have:(2:ah)^60=1152921504606846976:=rfl
  split<;>lia
 (refine ae az ?_;refine ae ay ?_)
 unfold gD
 have:(2:ah)^60=1152921504606846976:=rfl
 have:(2:ab)^61=2305843009213693952:=rfl
 split
 ·rw[bitXor_zero];lia
 ·rw[yp];lia
theorem R9{a:ab}(bL:a<128):kT 128 (a:ah)=((128+a:ab):ah):=by
 refine(sC 128 a).trans ?_
 have h:128|||a=128+a:=yq (k:=7) (a:=1) bL
 exact ae h rfl
theorem sD(a:ab):kT 128 (d' (a:ah) 127)=((128+a%128:ab):ah):=by
 rw[vU,show(a:ah)%128=((a%128:ab):ah)from by rfl]
 refine(sC 128 (a%128)).trans ?_
 have h:128|||a%128=128+a%128:=yq (k:=7) (a:=1) (b:=a%128) (pJ _ (by decide))
 exact ae h rfl
theorem qx(n k:ab):kT 128 (d' ((n:ah).fdiv (2^k)) 127)=((128+n/2^k%128:ab):ah):=by rw[iV,sD]
theorem R'{s lo:ab}(m:ab)(h:lo<2^s):kT (lo:ah) ((m:ah)*2^s)=((lo+2^s*m:ab):ah):=by
 have e:(m:ah)*2^s=((2^s*m:ab):ah):=by rw[Int.natCast_mul,Int.natCast_pow,Int.mul_comm];rfl
 rw[e,sC,Nat.or_comm,yq h,IM]
theorem Sa(n:ab):jI ((n:ah).fdiv (2^1)) (-d' (n:ah) 1)=pj n:=by
 rw[iV,bitAnd_m1,pj]
 split
 ·rw[show-((n:ah)%2)=0 from by lia,bitXor_zero]
 ·rw[show-((n:ah)%2)=-1 from by lia,yp]
theorem kM{f n:ab}(h:n<=127):fT (f+1) n=[n.toUInt8]:=cV h
theorem jl{f n:ab}(h:127<n):fT (f+1) n=(128+n%128).toUInt8::fT f (n/128):=cC (Nat.not_le_of_lt h)
abbrev dB:=bh (aa aU)
noncomputable def cI:dB->af
 |none=>.none
 |some b=>.bytes b
noncomputable def c8(v:ah):aa aU:=fT 10 (gD v)
theorem Eu:∀(f n:ab),(fT f n).length<=f
 |0,_=>eL _
 |f+1,n=>by
  show(if n<=127 then [n.toUInt8]else(128+n%128).toUInt8::fT f (n/128)).length<=f+1
  by_cases h:n<=127
  ·refine ae (cV h) ?_;exact cK _ _
  ·refine ae (cC h) ?_;exact qW (Eu f (n/128))
theorem hF(v:ah):(c8 v).length<=10:=Eu 10 _
noncomputable def fld:dB->aa aU
 |none=>c8 (-1)
 |some b=>c8 b.length++b
noncomputable def gN(n:ab):dB->Prop
 |none=>ky
 |some b=>b.length<=n
noncomputable def dP(h:ab×dB):af:=.tup [.str (o5 h.1),cI h.2]
noncomputable def gr(h:ab×dB):aa aU:=fld (some (eg h.1))++fld h.2
structure Rec where
 t:ah
 key:dB
 val:dB
 hd:aa (ab×dB)
noncomputable def Rec.fJ(r:Rec):af:=.tup [.int r.t,cI r.key,cI r.val,.lst (r.hd.map dP)]
noncomputable def Rec.body(r:Rec)(off first:ah):aa aU:=0::(c8 (r.t-first)++c8 off++fld r.key++fld r.val++c8 r.hd.length++r.hd.flatMap gr)
noncomputable def Rec.laid(r:Rec)(off first:ah):aa aU:=c8 (r.body off first).length++r.body off first
structure Rec.Ok(r:Rec)(start:ah):Prop where
 t:start-1000000000<=r.t/\r.t<=start+100000000000
 key:gN 3 r.key
 val:gN 66 r.val
 hd:r.hd.length<=2
 jX:∀h∈r.hd,h.1<4/\gN 3 h.2
structure Told where
 last:ah
 first:ah
 most:ah
 ec:ah
 turn:ah
 place:ah
 many:ah
noncomputable def gE(o:Told)(attributes:ah)(records:aa aU):aa aU:=
 dZ 2 (attributes%256^2)++dZ 4 (o.last%256^4)++dZ 8 (o.first%256^8)++dZ 8 (o.most%256^8)++dZ 8 (o.ec%256^8)++dZ 2 (o.turn%256^2)++dZ 4 (o.place%256^4)++dZ 4 (o.many%256^4)++records
noncomputable def d0(o:Told)(base c6 attributes:ah)(records:aa aU):aa aU:=
 dZ 8 (base%256^8)++dZ 4 (((gE o attributes records).length+9:ah)%256^4)++dZ 4 (c6%256^4)++[2]++dZ 4 ((crcOf 2197175160 (gE o attributes records):ah)%256^4)++gE o attributes records
noncomputable def ar(p:fc)(i:ab):b1:=(dw p.main.body i).getD (.Pass ⟨0,0,0,0⟩)
noncomputable def kN:a3:=.Tuple [] 0 ⟨0,0,0,0⟩
noncomputable def aM(s:b1)(j:ab):b1:=kA s (λJ J J J J J=>s) (λJ b J J=>(dw b j).getD (.Pass ⟨0,0,0,0⟩)) (λJ J=>s) (λJ J J=>s) s
noncomputable def bodyOf:b1->aa b1:=kA [] (λJ J b J J J=>b) (λJ J J J=>[]) (λJ J=>[]) λJ J J=>[]
noncomputable def b6:b1->dz:=kA default (λJ J J J sc J=>sc) (λJ J J J=>default) (λJ J=>default) λJ J J=>default
noncomputable def d4(l:aa b1)(i:ab):b1:=(dw l i).getD (.Pass ⟨0,0,0,0⟩)
noncomputable def subB:b1->aa b1:=kA [] (λJ J J J J J=>[]) (λJ J J J=>[]) (λJ J=>[]) λJ x J=>x
noncomputable def Ew:b1->a3:=kA kN (λJ J J J J J=>kN) (λJ J J J=>kN) (λJ J=>kN) λe J J=>e
noncomputable def yv{α:Type}(z:α)(k:a3->aa vB->dz->α):b1->α:=kA z (λJ J J J J J=>z) (λJ J J J=>z) (λJ=>nB z z (λJ=>z) (λJ=>z) (λJ=>z) (λJ=>z) k) λJ J J=>z
noncomputable def Ex:b1->a3:=yv kN λe J J=>e
noncomputable def Ey:b1->dz:=yv default λJ J sc=>sc
noncomputable def Ez:b1->a3:=yv kN λJ iJ J=>match iJ with
 |⟨_,i,_,_⟩::_=>i
 |_=>kN
noncomputable def Sb:b1->a3:=kA kN (λJ J J J J J=>kN) (λJ J J J=>kN) (λl J=>(dw l 0).getD kN) λJ J J=>kN
noncomputable def uV(st:b1)(qual:au)(pm code fB:aj):hb:=kA default (λn a b J sc J=>{name:=n,qualname:=qual,params:=a,body:=.stmts b,scope:=sc,globals:=mainGlobals,closure:=[],defaults:=fB,kwdefaults:=.none,doc:=.none,pyModule:=pm,code:=code,builtins:=builtinsNs}) (λJ J J J=>default) (λJ J=>default) (λJ J J=>default) st
noncomputable def uW(st:b1)(qual:au)(pm code fB:aj):ew:={cls:=.type "function",data:=.func (uV st qual pm code fB)}
noncomputable def EA(i:ab):af:=.tup ((vQ 64).map λj=>.int (eI 2197175160 8 (64*i+j)))
noncomputable def Sd:af:=.tup ((vQ 4).map EA)
noncomputable def nm:aa au:=[.ofString "append",.ofString "extend",.ofString "to_bytes",.ofString "encode",.ofString "decode",.ofString "join",.ofString "from_bytes",.ofString "CODEC_GZIP",.ofString "CODEC_ZSTD",.ofString "_buffer",.ofString "_header_data",.ofString "_pos",.ofString "HEADER_SIZE",.ofString "_num_records",.ofString "_next_record_index",.ofString "_decompressed",.ofString "AFTER_LEN_OFFSET",.ofString "base_offset",.ofString "last_offset_delta",.ofString "last_offset",.ofString "attributes",.ofString "CODEC_MASK",.ofString "TIMESTAMP_TYPE_MASK",.ofString "TRANSACTIONAL_MASK",.ofString "CONTROL_MASK",.ofString "producer_id",.ofString "NO_PRODUCER_ID",.ofString "base_sequence",.ofString "NO_SEQUENCE",.ofString "_increment_sequence",.ofString "MAX_INT",.ofString "compression_type",.ofString "CODEC_NONE",.ofString "_assert_has_codec",.ofString "CODEC_SNAPPY",.ofString "CODEC_LZ4",.ofString "is_control_batch",.ofString "timestamp_type",.ofString "LOG_APPEND_TIME",.ofString "max_timestamp",.ofString "first_timestamp",.ofString "format",.ofString "_maybe_uncompress",.ofString "_read_msg",.ofString "crc",.ofString "ATTRIBUTES_OFFSET",.ofString "_size_in_bytes",.ofString "_offset",.ofString "_timestamp",.ofString "_timestamp_type",.ofString "_key",.ofString "_value",.ofString "_headers",.ofString "_magic",.ofString "_compression_type",.ofString "_batch_size",.ofString "_is_transactional",.ofString "_producer_id",.ofString "_producer_epoch",.ofString "_base_sequence",.ofString "_first_timestamp",.ofString "_max_timestamp",.ofString "_last_offset",.ofString "CRC_OFFSET",.ofString "_get_attributes",.ofString "_maybe_compress",.ofString "write_header",.ofString "_size",.ofString "_next_slice",.ofString "_remaining_bytes",.ofString "_cache_next",.ofString "LENGTH_OFFSET",.ofString "LOG_OVERHEAD",.ofString "MIN_SLICE",.ofString "MAGIC_OFFSET",.ofString "_next_offset",.ofString "_closed",.ofString "_bytes_written",.ofString "_builder",.ofString "size",.ofString "build",.ofString "producer_epoch",.ofString "most",.ofString "first",.ofString "many",.ofString "last",.ofString "place",.ofString "turn",.ofString "producer",.ofString "rows",.ofString "base",.ofString "epoch",.ofString "own",.ofString "whole",.ofString "codec",.ofString "close",.ofString "skip",.ofString "next_offset",.ofString "size_in_bytes",.ofString "is_full",.ofString "buffer",.ofString "offset",.ofString "timestamp",.ofString "leader_epoch",.ofString "magic",.ofString "is_transactional",.ofString "has_sequence",.ofString "last_sequence",.ofString "records_count",.ofString "key",.ofString "value",.ofString "headers",.ofString "has_producer_id",.ofString "validate_crc",.ofString "valid_bytes",.ofString "has_next",.ofString "next_batch"]
noncomputable def b7:aa au:=[.ofString "_MASK",.ofString "CRC_TABLE",.ofString "crc_finalize",.ofString "crc_update",.ofString "CRC_INIT",.ofString "crc",.ofString "len",.ofString "range",.ofString "bytes",.ofString "int",.ofString "squeezed",.ofString "unsqueezed",.ofString "bytearray",.ofString "header_of",.ofString "bool",.ofString "gzip_decode",.ofString "snappy_decode",.ofString "lz4_decode",.ofString "zstd_decode",.ofString "decode_varint",.ofString "ControlRecord",.ofString "DefaultRecord",.ofString "calc_crc32c",.ofString "isinstance",.ofString "encode_varint",.ofString "size_of_varint",.ofString "DefaultRecordMetadata",.ofString "put_into",.ofString "header_from",.ofString "packed",.ofString "gzip_encode",.ofString "snappy_encode",.ofString "lz4_encode",.ofString "zstd_encode",.ofString "unpack_from",.ofString "HEADER_SIZES",.ofString "LegacyRecordBatch",.ofString "DefaultRecordBatch",.ofString "DefaultRecordBatchBuilder",.ofString "LegacyRecordBatchBuilder",.ofString "_law_varint",.ofString "_law_next",.ofString "_law_octets",.ofString "_law_field",.ofString "_law_int",.ofString "_law_crc",.ofString "MemoryRecordsBuilder",.ofString "_law_record",.ofString "_law_laid",.ofString "max",.ofString "_law_head",.ofString "_law_batch",.ofString "MemoryRecords",.ofString "sum",.ofString "_law_read"]
section
set_option maxRecDepth 1000000
noncomputable def dg(s:gI)(t:ab):aj:=.str (.ofString s) t
noncomputable def dm(i:ah):aj:=.int i 0
noncomputable def bC(a:ab):aj:=.ref a
noncomputable def g5(l:aa aj):ew:=⟨.type "tuple",none,.seq ⟨l⟩ 0,#[]⟩
noncomputable def jY(l:aa aj):ew:=⟨.none,none,.fields ⟨l⟩,#[]⟩
noncomputable def bS(P:hu)(x:gI)(t:ab)(v:aj):e9:=⟨pD P (.ofString x),.str (.ofString x) t,v⟩
noncomputable def o6:aa au->ab->aa aj
 |[],_=>[]
 |x::r,t=>.str x t::o6 r (t+1)
noncomputable def EB(P:hu)(x:au)(t:ab)(v:aj):e9:=⟨pD P x,.str x t,v⟩
noncomputable def h8(l:aa ew)(i:ab):ew:=(dw l i).getD default
noncomputable def sE:aa (au×kV)->aa au
 |[]=>[]
 |(x,k)::r=>match k with
  | .local =>x::sE r
  |_=>sE r
noncomputable def Se:te->ah
 |.int i=>i
 |_=>0
noncomputable def Sf(t:ab):te->aj×ab
 |.int i=>(.int i t,1)
 |.bool b=>(.bool b,0)
 |_=>(.none,0)
noncomputable def EC(t:ab):a3->aj×ab:=nB (.none,0) (.none,0) (Sf t) (λJ=>(.none,0)) (λe=>(.int (-(nB 0 0 Se (λJ=>0) (λJ=>0) (λJ=>0) (λJ J J=>0) e)) (t+1),2)) (λJ=>(.none,0)) λJ J J=>(.none,0)
noncomputable def ED(e:a3)(t:ab):aj:=(EC t e).1
noncomputable def uX(e:a3):ab:=(EC 0 e).2
noncomputable def sF:aa a3->ab->aa aj
 |[],_=>[]
 |e::r,t=>ED e t::sF r (t+uX e)
noncomputable def uY:aa a3->ab
 |[]=>0
 |e::r=>uX e+uY r
noncomputable def jM:a3->aa a3:=nB [] [] (λJ=>[]) (λJ=>[]) (λJ=>[]) id λJ J J=>[]
noncomputable def sG:aa a3->ab
 |[]=>0
 |e::_=>nB 0 0 (λJ=>0) (λx=>match x==.ofString "property"with
  |true=>1
  |false=>3) (λJ=>0) (λJ=>0) (λJ J J=>0) e
noncomputable def EE:aa a3->ab
 |[]=>0
 |_=>1
noncomputable def fN{α:Type}(z:b1->α)(k:au->Arguments->aa b1->aa a3->dz->bD->α)(s:b1):α:=kA (z s) k (λJ J J J=>z s) (λJ J=>z s) (λJ J J=>z s) s
noncomputable def yw{α:Type}(z:α)(k:au->a3->α):b1->α:=kA z (λJ J J J J J=>z) (λJ J J J=>z) (λl e=>match l with
 |[]=>z
 |y::_=>nB z z (λJ=>z) (λx=>k x e) (λJ=>z) (λJ=>z) (λJ J J=>z) y) λJ J J=>z
noncomputable def EF{α:Type}(z:α)(k:au->aa b1->aa au->bD->α):b1->α:=kA z (λJ J J J J J=>z) k (λJ J=>z) λJ J J=>z
noncomputable def uZ(c:au):b1->hb:=fN (λJ=>default) λn p b J sc J=>{name:=n,qualname:=c++n,params:=p,body:=.stmts b,scope:=sc,globals:=0,closure:=[],defaults:=.none,kwdefaults:=.none}
noncomputable def qy:b1->ab:=fN (λJ=>0) λJ p J ds J J=>EE p.defaults+7+sG ds
noncomputable def u0:b1->ab:=fN (yw 0 λJ e=>uX e+1) λJ p J ds sc J=>uY p.defaults+(sE sc.names).length+match sG ds with
 |0=>6
 |1=>7
 |_=>18
noncomputable def Sg(P:hu)(a t:ab):b1->aa e9->aa e9:=fN (yw id λx e=>pF (EB P x (t-1) (ED e (t-1-uX e)))) λn J J ds J J=>pF (EB P n (t-1) (bC (match sG ds with
 |3=>a-2
 |_=>a-1)))
noncomputable def Sh(a:ab):b1->aa aj->aa aj:=fN (λJ=>id) λJ p J ds J q l=>dm q.line::dm q.col::bC (a+EE p.defaults+5)::l
noncomputable def sH(c:au)(m fB:aj)(an:bh aJ)(a t k b:ab)(u v:aj)(st:b1):aa ew:=fN (λJ=>[]) (λn p J ds sc q=>[⟨.none,none,.func (uZ c st),#[]⟩,⟨.type "code",none,.fields #[.str n t,.str (c++n) (t+1),dg "/claim/cut.py" (t+2),dm (firstLineOf ds q),dm (p.posonlyargs.length+p.args.length),dm 0,dm 0,dm (match sc.isGenerator with
 |true=>35
 |false=>3),bC a,.bool true,dm 181,bC (a+1),.none,u,v,bC b,dm (t+3+k),dm (firstLineOf ds q),dg "/claim/cut.py" (t+4+k)],#[]⟩,⟨.type "function",none,.func {uZ c st with globals:=3,defaults:=fB,pyModule:=m,annotations:=an,code:=bC (b+1)},#[]⟩]) st
noncomputable def Si(P:hu)(c n:au)(m:aj)(a t:ab):ab->aa ew
 |0=>[]
 |1=>[⟨.type "property",none,.fields #[bC (a+6),.none,.none,.none,.str n t,.bool false],#[]⟩]
 |_=>[⟨.type "dict",none,.dict #[bS P "__module__" t m,bS P "__name__" (t+3) (.str n (t+2)),bS P "__qualname__" (t+6) (.str (c++n) (t+5)),bS P "__doc__" (t+8) .none,bS P "__annotations__" (t+10) (bC (a+9))] 5,#[]⟩,⟨.type "classmethod",some (a+7),.fields #[bC (a+6),.bool false],#[]⟩,⟨.type "dict",none,.dict #[] 0,#[]⟩]
noncomputable def EG(P:hu)(c n:au)(m fB:aj)(st:b1)(a t:ab)(l:aa au)(d:ab):aa ew:=
 g5 []::jY []::g5 (o6 l (t+3))::g5 []::(sH c m fB (match d with
  |3=>some (a+9)
  |_=>none) a t l.length (a+4) (bC (a+2)) (bC (a+3)) st++Si P c n m a (t+l.length+6) d)
noncomputable def sI(P:hu)(c:au)(m:aj)(a t:ab)(st:b1):aa ew:=fN (λJ=>[]) (λn p J ds sc J=>match p.defaults with
 |[]=>EG P c n m .none st a t (sE sc.names) (sG ds)
 |l=>g5 (sF l t)::EG P c n m (bC a) st (a+1) (t+uY l) (sE sc.names) (sG ds)) st
noncomputable def EH:aa b1->ab
 |[]=>0
 |s::r=>qy s+EH r
noncomputable def EI:aa b1->ab
 |[]=>0
 |s::r=>u0 s+EI r
noncomputable def EJ(P:hu)(z:aa e9):aa b1->ab->ab->aa e9
 |[],_,_=>z
 |s::r,a,t=>Sg P (a+qy s) (t+u0 s) s (EJ P z r (a+qy s) (t+u0 s))
noncomputable def EK:aa b1->ab->aa aj
 |[],_=>[]
 |s::r,a=>Sh a s (EK r (a+qy s))
noncomputable def nf(P:hu)(c:au)(m:aj)(z:aa (ab×(ab->ew))):aa b1->ab->ab->aa (ab×(ab->ew))
 |[],_,_=>z
 |s::r,a,t=>(qy s,h8 (sI P c m a t s))::nf P c m z r (a+qy s) (t+u0 s)
noncomputable def EL:ab->aa aj
 |0=>[]
 |1=>[.type "Exception"]
 |b=>[bC b]
noncomputable def Sj:ab->aa aj
 |0=>[.type "object"]
 |1=>[.type "Exception",.type "BaseException",.type "object"]
 |b=>[bC b,.type "object"]
noncomputable def Sk:ab->aa aj
 |0=>[.type "object"]
 |b=>EL b
noncomputable def u1(g:ab)(n:au)(a t e:ab)(yx:aa aj):ew:=⟨.type "type",none,.cls {name:=n,bases:=Sk g,mro:=bC (e+2)::Sj g,ns:=e+1,qualname:=n,subclasses:=yx,hasDel:=false},#[match g with
 |0=>none
 |_=>some (bC a),none,some (.str n t),some (.str n (t+8)),some (match g with
 |1=>.builtin "Exception.__new__"
 |_=>.builtin "object.__new__"),some (.bool true)]⟩
noncomputable def EM(x f:gI)(v:aj)(t c:ab):ew:=⟨.type "getset_descriptor",none,.fields #[dg x t,bC c,.builtin f,v],#[]⟩
noncomputable def EN(t c:ab):ew:=EM "__weakref__" "ExceptionGroup.__weakref__" .none t c
noncomputable def u2(P:hu)(u e:ab):ab->ab×aa e9×aa ew
 |0=>(4,[bS P "__dict__" (u+2) (bC (e+3)),bS P "__weakref__" (u+4) (bC (e+4)),bS P "__doc__" (u+5) .none],[EM "__dict__" "function.__dict__" (.builtin "function.__dict__#set") (u+1) (e+2),EN (u+3) (e+2)])
 |1=>(3,[bS P "__weakref__" (u+2) (bC (e+3)),bS P "__doc__" (u+3) .none],[EN (u+1) (e+2)])
 |_=>(2,[bS P "__doc__" (u+1) .none],[])
noncomputable def jZ(P:hu)(m:aj)(g a t:ab)(yx:aa aj)(z:aa (ab×(ab->ew))):b1->aa (ab×(ab->ew)):=EF z λn b l q=>
 let e:=a+7+EH b
 let u:=t+12+EI b+l.length
 let E (w:aa e9):aa e9:=bS P "__firstlineno__" (t+11) (.int q.line (t+10))::EJ P (bS P "__static_attributes__" u (bC e)::w) b (a+7) (t+12)
 let D:=bS P "__qualname__" (t+9) (.str n (t+8))::E []
 (7,h8 [g5 (EL g),⟨.type "builtin_function_or_method",none,.fields #[.builtin "type.__prepare__",.type "type"],#[]⟩,⟨.type "dict",none,.dict ⟨bS P "__module__" (t+7) m::D⟩ (1+D.length),#[]⟩,g5 [],jY (EK b (a+7)),⟨.type "code",none,.fields #[.str n (t+2),.str n (t+3),dg "/claim/cut.py" (t+4),dm q.line,dm 0,dm 0,dm 0,dm 0,bC (a+3),.bool false,dm 181,bC (a+4),.none,.none,.none,.none,dm (t+5),dm q.line,dg "/claim/cut.py" (t+6)],#[]⟩,⟨.type "frame",none,.plain,#[some (bC (a+5)),some (bC 3),some (bC (a+2)),none,some m,none,some (bC 0)]⟩])::
 nf P (n++".") m ((5+(u2 P u e g).2.2.length,h8 (g5 (o6 l (u-l.length))::⟨.type "dict",none,.dict ⟨bS P "__module__" (t+7) m::E (u2 P u e g).2.1⟩ (u2 P u e g).1,#[]⟩::u1 g n a t e yx::((u2 P u e g).2.2++[⟨.type "super",none,.fields #[bC (e+2),bC (e+2),bC (e+2)],#[]⟩,⟨.type "builtin_function_or_method",none,.fields #[.builtin "object.__init_subclass__",bC (e+2)],#[]⟩])))::z) b (a+7) (t+12)
noncomputable def yy:b1->aa a3:=yw [] λJ e=>jM e
noncomputable def EO(z:aa ew):aa a3->ab->aa ew
 |[],_=>z
 |e::r,t=>g5 (sF (jM e) t)::EO z r (t+uY (jM e))
noncomputable def pk(p:fc)(i k:ab):aa b1:=(p.main.body.drop i).take k
noncomputable def yz:aa (ab×(ab->ew))->ab->bh ew
 |[],_=>none
 |(n,g)::r,b=>match tv b n with
  |true=>some (g b)
  |false=>yz r (b-n)
noncomputable def yA(L:aa (ab×(ab->ew))):ab->ab->ab->BT
 |0,_,_=>.nil
 |f+1,a,b=>match yz L b with
  |some o=>.node o (yA L f (2*a) (a+b)) (yA L f (2*a) (2*a+b))
  |none=>.nil
noncomputable def iW:BT->ab->ew->BT
 |.nil,_,_=>.nil
 |.node v l r,i,o=>match fC i 0 with
  |true=>.node o l r
  |false=>match fC (i%2) 1 with
   |true=>.node v (iW l (i/2) o) r
   |false=>.node v l (iW r (i/2-1) o)
noncomputable def yB:ab->ab->aa ab
 |0,_=>[]
 |k+1,n=>n%4096::yB k (n/4096)
noncomputable def qz:b1->au:=kA default (λn J J J J J=>n) (λn J J J=>n) (λl J=>nB default default (λJ=>default) id (λJ=>default) (λJ=>default) (λJ J J=>default) ((dw l 0).getD kN)) λJ J J=>default
noncomputable def EP:aa ab->aa aj
 |i::a::r=>dm i::dm 0::bC a::EP r
 |_=>[]
noncomputable def bF(P:hu):aa e9:=[bS P "__doc__" 166 .none,bS P "__package__" 167 .none,bS P "__loader__" 168 (.builtin "__main__.__loader__#opaque"),bS P "__spec__" 169 .none,bS P "__annotations__" 170 (bC 6),bS P "__builtins__" 171 (bC 4),bS P "__file__" 173 (dg "/claim/cut.py" 172),bS P "__cached__" 174 .none,bS P "_wall" 193 (bC 21),bS P "CRC_TABLE" 452 (bC 26),bS P "CRC_INIT" 454 (.int (0) 453),bS P "_MASK" 456 (.int (4294967295) 455),bS P "crc_update" 467 (bC 33),bS P "crc_finalize" 474 (bC 40),bS P "crc" 481 (bC 47),bS P "encode_varint" 493 (bC 54),bS P "size_of_varint" 500 (bC 61),bS P "decode_varint" 512 (bC 69),bS P "calc_crc32c" 519 (bC 76),bS P "calc_crc32" 527 (bC 83),bS P "StructError" 547 (bC 93),bS P "CorruptRecordError" 567 (bC 106),bS P "UnsupportedCodecError" 587 (bC 119),bS P "CRC32_TABLE" 604 (bC 123),bS P "crc32" 613 (bC 130),bS P "packed" 624 (bC 138),bS P "put_into" 634 (bC 145),bS P "unpack_from" 646 (bC 153),bS P "squeezed" 657 (bC 160),bS P "unsqueezed" 667 (bC 167),bS P "gzip_encode" 674 (bC 174),bS P "gzip_decode" 681 (bC 181),bS P "snappy_encode" 688 (bC 188),bS P "snappy_decode" 695 (bC 195),bS P "lz4_encode" 702 (bC 202),bS P "lz4_decode" 709 (bC 209),bS P "zstd_encode" 716 (bC 216),bS P "zstd_decode" 723 (bC 223),bS P "lz4_encode_old_kafka" 730 (bC 230),bS P "lz4_decode_old_kafka" 737 (bC 237),bS P "LegacyRecordBase" 804 (bC 254),bS P "LegacyRecordBatch" 974 (bC 364),bS P "LegacyRecord" 1097 (bC 462),bS P "LegacyRecordBatchBuilder" 1268 (bC 558),bS P "LegacyRecordMetadata" 1335 (bC 609),bS P "DefaultRecordBase" 1403 (bC 630),bS P "DefaultRecordBatch" 1678 (bC 868),bS P "DefaultRecord" 1790 (bC 958),bS P "ControlRecord" 1856 (bC 1013),bS P "DefaultRecordBatchBuilder" 2095 (bC 1147),bS P "DefaultRecordMetadata" 2160 (bC 1198),bS P "HEADER_SIZES" 2174 (bC 1203),bS P "header_of" 2184 (bC 1210),bS P "header_from" 2193 (bC 1217),bS P "MemoryRecords" 2298 (bC 1283),bS P "MemoryRecordsBuilder" 2448 (bC 1393),bS P "_law_next" 2461 (bC 1404),bS P "_law_int" 2469 (bC 1411),bS P "_law_crc" 2482 (bC 1418),bS P "_law_varint" 2491 (bC 1425),bS P "_law_field" 2498 (bC 1432),bS P "_law_octets" 2504 (bC 1437),bS P "_law_record" 2510 (bC 1442),bS P "_law_laid" 2526 (bC 1449),bS P "_law_head" 2539 (bC 1456),bS P "_law_batch" 2566 (bC 1463),bS P "_law_read" 2572 (bC 1468),bS P "law" 2578 (bC 1473)]
noncomputable def ay(P:hu):aa e9:=[bS P "type.__subclasses__.Exception.0" 544 (dm 93),bS P "type.__subclasses__.Exception.n" 545 (dm 3),bS P "type.__subclasses__.Exception.1" 564 (dm 106),bS P "type.__subclasses__.Exception.2" 584 (dm 119)]
noncomputable def pl:aa aj:=EP (yB 110 0x5c05155bb5055b64d05af4cb5a84c55a14c159c4ba5974b85904b15894a65824a457b49d50d4434c73fc4c03f64b93ef4833d83fd3333c931b36c2ee28022b26b2142361fc1d81851741521080c70f30b00ec0ad0e50ab0de0a90d70a70d00a50c90a30c20a10bb09f0b409d0ad09b0a609409f08909808109007c08907308106d07306a06606805906605206304b06104404f03c03a03501402e01102700f020008014001)
noncomputable def yC:b1->au:=EF default λn J J J=>n
noncomputable def Sl:aj:=(dg "__main__" 164)
noncomputable def u3:aj:=(dg "kafka.record._crc32c" 194)
noncomputable def g6:aj:=(dg "kafka.record.util" 482)
noncomputable def sJ:aj:=(dg "kafka.record.legacy_records" 738)
noncomputable def df:aj:=(dg "kafka.record.default_records" 1336)
noncomputable def md5:aj:=(dg "kafka.record.memory_records" 2194)
noncomputable def hG:aj:=(dg "law_je0020_01" 2449)
noncomputable def ER(P:hu):aa (ab×(ab->ew)):=(15,h8 [boot_o_0 P,boot_o_1 P,⟨.none,none,.dict ⟨(ay P).take 4⟩ 4,#[]⟩,⟨.type "dict",none,.dict ⟨bS P "__name__" 165 (dg "law_je0020_01" 2449)::(bF P).take 68⟩ 69,#[]⟩,boot_o_4 P,boot_o_5 P,boot_o_6 P,boot_o_7 P,boot_o_8 P,boot_o_9 P,boot_o_10 P,(g5 []),(jY (pl.take 165)),⟨(.type "code"),none,.fields #[(dg "<module>" 182),(dg "<module>" 183),(dg "/claim/cut.py" 184),(dm 1),(dm 0),(dm 0),(dm 0),(dm 0),(bC 11),(.bool false),(dm 181),(bC 12),.none,.none,.none,.none,(dm 185),(dm 1),(dg "/claim/cut.py" 186)],#[]⟩,⟨(.type "frame"),none,.plain,#[some (bC 13),some (bC 3),some (bC 3),none,some (dg "__main__" 164),none,some (bC 0)]⟩])::nf P "" Sl ((5,h8 (EO [g5 [bC 22,bC 23,bC 24,bC 25]] (yy (ar pw 2)) 196))::nf P "" u3 (nf P "" g6 (jZ P g6 1 84 528 [] (jZ P g6 1 97 548 [] (jZ P g6 1 110 568 [] ((1,h8 [g5 (sF (yy (ar pw 17)) 588)])::nf P "" g6 (jZ P sJ 0 238 740 [bC 364,bC 558] (jZ P sJ 254 259 805 [] (jZ P sJ 0 367 975 [] (jZ P sJ 254 467 1098 [] (jZ P sJ 0 561 1269 [] (jZ P df 0 614 1338 [bC 868,bC 1147] (jZ P df 630 635 1404 [] (jZ P df 0 871 1679 [bC 1013] ((16,h8 [(g5 [(bC 958)]),⟨(.type "builtin_function_or_method"),none,.fields #[(.builtin "type.__prepare__"),(.type "type")],#[]⟩,⟨(.type "dict"),none,.dict #[bS P "__module__" 1798 (dg "kafka.record.default_records" 1336),bS P "__qualname__" 1800 (dg "ControlRecord" 1799),bS P "__firstlineno__" 1802 (.int (795) 1801),bS P "__init__" 1817 (bC 978),bS P "version" 1825 (bC 986),bS P "type" 1833 (bC 994),bS P "abort" 1841 (bC 1002),bS P "commit" 1849 (bC 1010),bS P "__static_attributes__" 1852 (bC 1011),bS P "__classcell__" 1853 (bC 966)] 10,#[]⟩,⟨(.type "cell"),none,.cell (some (bC 1013)),#[]⟩,(g5 []),(jY [(dm 797),(dm 4),(bC 977),(dm 805),(dm 4),(bC 984),(dm 809),(dm 4),(bC 992),(dm 813),(dm 4),(bC 1000),(dm 817),(dm 4),(bC 1008)]),⟨(.type "code"),none,.fields #[(dg "ControlRecord" 1793),(dg "ControlRecord" 1794),(dg "/claim/cut.py" 1795),(dm 795),(dm 0),(dm 0),(dm 0),(dm 0),(bC 967),(.bool false),(dm 181),(bC 968),.none,.none,.none,.none,(dm 1796),(dm 795),(dg "/claim/cut.py" 1797)],#[]⟩,⟨(.type "frame"),none,.plain,#[some (bC 969),some (bC 3),some (bC 965),none,some (dg "kafka.record.default_records" 1336),none,some (bC 0)]⟩,(g5 [(bC 966)]),(g5 [(dg "__class__" 1806)]),(jY []),(g5 [(dg "self" 1807),(dg "size_in_bytes" 1808),(dg "offset" 1809),(dg "timestamp" 1810),(dg "timestamp_type" 1811),(dg "key" 1812),(dg "value" 1813),(dg "headers" 1814)]),(g5 []),⟨.none,none,.func (uZ "ControlRecord." (aM (ar pw 44) 0)),#[]⟩,⟨(.type "code"),none,.fields #[(dg "__init__" 1803),(dg "ControlRecord.__init__" 1804),(dg "/claim/cut.py" 1805),(dm 797),(dm 8),(dm 0),(dm 0),(dm 3),(bC 972),(.bool true),(dm 181),(bC 973),.none,(bC 974),(bC 975),(bC 976),(dm 1815),(dm 797),(dg "/claim/cut.py" 1816)],#[]⟩,⟨.type "function",none,.func {uZ "ControlRecord." (aM (ar pw 44) 0)with globals:=3,closure:=[(.ofString "__class__",966)],defaults:=.none,pyModule:=(dg "kafka.record.default_records" 1336),annotations:=none,code:=(bC 977),closureTuple:=(bC 971),builtins:=0},#[]⟩])::(7,h8 (sI P "ControlRecord." (dg "kafka.record.default_records" 1336) 979 1818 (aM (ar pw 44) 1)))::(1,h8 [⟨(.type "property"),none,.fields #[(bC 985),.none,.none,.none,(dg "version" 1825),(.bool false)],#[]⟩])::(7,h8 (sI P "ControlRecord." (dg "kafka.record.default_records" 1336) 987 1826 (aM (ar pw 44) 2)))::(1,h8 [⟨(.type "property"),none,.fields #[(bC 993),.none,.none,.none,(dg "type" 1833),(.bool false)],#[]⟩])::(7,h8 (sI P "ControlRecord." (dg "kafka.record.default_records" 1336) 995 1834 (aM (ar pw 44) 3)))::(1,h8 [⟨(.type "property"),none,.fields #[(bC 1001),.none,.none,.none,(dg "abort" 1841),(.bool false)],#[]⟩])::(7,h8 (sI P "ControlRecord." (dg "kafka.record.default_records" 1336) 1003 1842 (aM (ar pw 44) 4)))::(6,h8 [⟨(.type "property"),none,.fields #[(bC 1009),.none,.none,.none,(dg "commit" 1849),(.bool false)],#[]⟩,(g5 [(dg "_type" 1850),(dg "_version" 1851)]),⟨(.type "dict"),none,.dict #[bS P "__module__" 1798 (dg "kafka.record.default_records" 1336),bS P "__firstlineno__" 1802 (.int (795) 1801),bS P "__init__" 1817 (bC 978),bS P "version" 1825 (bC 986),bS P "type" 1833 (bC 994),bS P "abort" 1841 (bC 1002),bS P "commit" 1849 (bC 1010),bS P "__static_attributes__" 1852 (bC 1011),bS P "__doc__" 1854 .none] 3,#[]⟩,⟨(.type "type"),none,(.cls {name:=(.ofString "ControlRecord"),bases:=[(.ref 958)],mro:=[(.ref 1013),(.ref 958),(.type "object")],ns:=1012,qualname:=(.ofString "ControlRecord"),subclasses:=[],hasDel:=false}),#[some (bC 963),none,some (dg "ControlRecord" 1791),some (dg "ControlRecord" 1799),some (.builtin "object.__new__"),some (.bool true)]⟩,⟨(.type "super"),none,.fields #[(bC 1013),(bC 1013),(bC 1013)],#[]⟩,⟨(.type "builtin_function_or_method"),none,.fields #[(.builtin "object.__init_subclass__"),(bC 1013)],#[]⟩])::jZ P df 630 1016 1857 [] (jZ P df 0 1150 2096 [] ((1,h8 [g5 (sF (yy (ar pw 47)) 2161)])::nf P "" df (jZ P md5 0 1218 2196 [] (jZ P md5 0 1288 2299 [] (nf P "" hG ((5,h8 (g5 []::jY []::sH "" hG .none none 1433 2499 0 1435 .none .none (ar pw 59)))::(5,h8 (g5 []::jY []::sH "" hG .none none 1438 2505 0 1440 .none .none (ar pw 60)))::nf P "" hG ((5,h8 (g5 []::jY []::sH "" hG .none none 1464 2567 0 1466 .none .none (ar pw 64)))::(5,h8 (g5 []::jY []::sH "" hG .none none 1469 2573 0 1471 .none .none (ar pw 65)))::[]) (pk pw 61 3) 1443 2511) (pk pw 54 5) 1398 2451) (ar pw 52)) (ar pw 51)) (pk pw 48 3) 1204 2175) (ar pw 46)) (ar pw 45)) (ar pw 43)) (ar pw 42)) (ar pw 41)) (ar pw 39)) (ar pw 38)) (ar pw 37)) (ar pw 36)) (ar pw 35)) (pk pw 18 17) 124 605) (ar pw 16)) (ar pw 15)) (ar pw 14)) (pk pw 9 5) 48 484) (pk pw 5 4) 27 457) (pk pw 0 2) 15 187
noncomputable def pn(P:hu):BT:=yA (ER P) 12 1 0
noncomputable def n1:bu:={scope:=pw.main.scope,locals:=mainNs,globals:=mainNs,cells:=[],code:=.ref 13,frame:=some 14}
noncomputable def jm:lQ:=.body (behindTheImports pw) n1
noncomputable def T0(P:hu):BT:=iW (iW (iW (pn P) 2 ⟨.none,none,.dict ⟨(ay P).take 0⟩ 0,#[]⟩) 3 ⟨.type "dict",none,.dict ⟨bS P "__name__" 165 (dg "__main__" 164)::(bF P).take 8⟩ 9,#[]⟩) 12 (jY (pl.take 0))
noncomputable def u4(w:cu)(os:nz):q':=⟨T0 w.params,15,{},#[],{},187,os⟩
noncomputable def u5:bD:=⟨0,0,0,0⟩
noncomputable def Sm(P:hu):BT:=iW (iW (pn P) 3 ⟨.type "dict",none,.dict ⟨bS P "__name__" 165 (dg "kafka.record.legacy_records" 738)::(bF P).take 40⟩ 41,#[]⟩) 12 (jY (pl.take 84))
noncomputable def ES(w:cu)(os:nz):q':=⟨Sm w.params,238,{},#[],{},740,os⟩
noncomputable def hg:bD:=⟨175,0,175,8⟩
noncomputable def Sn(P:hu):BT:=iW (iW (iW (pn P) 3 ⟨.type "dict",none,.dict ⟨bS P "__name__" 165 (dg "kafka.record.legacy_records" 738)::(bF P).take 43⟩ 44,#[]⟩) 12 (jY (pl.take 93))) 254 (u1 0 (yC (ar pw 35)) 238 740 252 [bC 364])
noncomputable def ET(w:cu)(os:nz):q':=⟨Sn w.params,467,{},#[],{},1098,os⟩
noncomputable def gL:bD:=⟨338,0,388,105⟩
noncomputable def So(P:hu):BT:=iW (iW (iW (pn P) 3 ⟨.type "dict",none,.dict ⟨bS P "__name__" 165 (dg "kafka.record.default_records" 1336)::(bF P).take 46⟩ 47,#[]⟩) 12 (jY (pl.take 102))) 630 (u1 0 (yC (ar pw 41)) 614 1338 628 [])
noncomputable def EU(w:cu)(os:nz):q':=⟨So w.params,635,{},#[],{},1404,os⟩
noncomputable def hh:bD:=⟨532,0,554,98⟩
noncomputable def Sp(P:hu):BT:=iW (iW (iW (pn P) 3 ⟨.type "dict",none,.dict ⟨bS P "__name__" 165 (dg "kafka.record.default_records" 1336)::(bF P).take 47⟩ 48,#[]⟩) 12 (jY (pl.take 105))) 630 (u1 0 (yC (ar pw 41)) 614 1338 628 [bC 868])
noncomputable def EV(w:cu)(os:nz):q':=⟨Sp w.params,871,{},#[],{},1679,os⟩
noncomputable def jv:bD:=⟨555,0,749,32⟩
noncomputable def Sq(P:hu):BT:=iW (iW (pn P) 3 ⟨.type "dict",none,.dict ⟨bS P "__name__" 165 (dg "kafka.record.default_records" 1336)::(bF P).take 50⟩ 51,#[]⟩) 12 (jY (pl.take 114))
noncomputable def EW(w:cu)(os:nz):q':=⟨Sq w.params,1150,{},#[],{},2096,os⟩
noncomputable def j6:bD:=⟨819,0,983,91⟩
noncomputable def EX(P:hu):BT:=pn P
noncomputable def mm(w:cu)(os:nz):q':=⟨EX w.params,1474,{},#[],{},2579,os⟩
noncomputable def kW:bD:=⟨1301,0,1320,103⟩
theorem Sr(w:cu):(λos=>segRunT treeTable pw w 11 (some (.ref 6)) 1 1696 (u4 w os) ⟨(execs (((behindTheImports pw).drop 0).take 35) n1).wrap doneF deadEnd id id,jm,u5,[topFrame ⟨0,0,0,0⟩]⟩)=λos=>some (.next,ES w os,jm,hg):=by
 rw[tw,tx,tA]
 kernel_rfl
theorem Ss(w:cu):(λos=>segRunT treeTable pw w 11 (some (.ref 6)) 1 2439 (ES w os) ⟨(execs (((behindTheImports pw).drop 35).take 3) n1).wrap doneF deadEnd id id,jm,hg,[topFrame ⟨0,0,0,0⟩]⟩)=λos=>some (.next,ET w os,jm,gL):=by
 rw[tw,tx,tA]
 kernel_rfl
theorem Su(w:cu):(λos=>segRunT treeTable pw w 11 (some (.ref 6)) 1 1975 (ET w os) ⟨(execs (((behindTheImports pw).drop 38).take 4) n1).wrap doneF deadEnd id id,jm,gL,[topFrame ⟨0,0,0,0⟩]⟩)=λos=>some (.next,EU w os,jm,hh):=by
 rw[tw,tx,tA]
 kernel_rfl
theorem Sv(w:cu):(λos=>segRunT treeTable pw w 11 (some (.ref 6)) 1 2365 (EU w os) ⟨(execs (((behindTheImports pw).drop 42).take 1) n1).wrap doneF deadEnd id id,jm,hh,[topFrame ⟨0,0,0,0⟩]⟩)=λos=>some (.next,EV w os,jm,jv):=by
 rw[tw,tx,tA]
 kernel_rfl
theorem Sw(w:cu):(λos=>segRunT treeTable pw w 11 (some (.ref 6)) 1 3058 (EV w os) ⟨(execs (((behindTheImports pw).drop 43).take 3) n1).wrap doneF deadEnd id id,jm,jv,[topFrame ⟨0,0,0,0⟩]⟩)=λos=>some (.next,EW w os,jm,j6):=by
 rw[tw,tx,tA]
 kernel_rfl
theorem Sx(w:cu):(λos=>segRunT treeTable pw w 11 (some (.ref 6)) 1 2383 (EW w os) ⟨(execs (((behindTheImports pw).drop 46).take 20) n1).wrap doneF deadEnd id id,jm,j6,[topFrame ⟨0,0,0,0⟩]⟩)=λos=>some (.next,mm w os,jm,kW):=by
 rw[tw,tx,tA]
 kernel_rfl
end
set_option maxRecDepth 100000 in
noncomputable def u6:aa aJ:=yB 262 0x5c15c05bc5bb5b75b65b05af5a95a85a25a159d59c59859759159058a58958358257c57b57157056e56d56756656055f55955855255152552451e51d51c51651550f5035024f24f14eb4ea4e44e34dd4dc4d64d54cf4ce4c14c04ba4b94b34ae4ad4ab4aa4a94a34a24a149b49a49949349249148b48a47b47a45044f44944844244143b43a43443343242c42b42542442342241c41b41a4144134124054043be3bd3ac3ab3aa3a43a33a239c39b39a39439339238c38b38a38438338237437336436336136035a35935335234c34b34534433e33d33c33633532f32e32d32732632531f31e31d31731631530f30e3083073063002ff2fe2f82f72f62f02ef2ee2e82e72e62e02df2de2d82d72d62d02cf2ce2c82c72c62c02bf2be2b82b72b62b02af2ae2a82a72a62a029f29e29829729629028f28e2882872762752732720df0de0d80d70d10d00ca0c90c30c20bc0bb0b50b40ae0ad0a70a60a009f09909809209109008a08908304c04b04504403e03d03c03603502f02e02802702102001a019018017016003
noncomputable def KK(P:hu):i2:=u6.map λa=>(a,(yz (ER P) a).getD default)
set_option maxRecDepth 100000 in
noncomputable def gl:aa (au×af):=[(.ofString "_MASK",.int (4294967295)),(.ofString "CRC_TABLE",Sd),(.ofString "crc_finalize",.val (.ref 40)),(.ofString "crc_update",.val (.ref 33)),(.ofString "CRC_INIT",.int (0)),(.ofString "crc",.val (.ref 47)),(.ofString "len",.val (.builtin "len")),(.ofString "range",.val (.type "range")),(.ofString "bytes",.val (.type "bytes")),(.ofString "int",.val (.type "int")),(.ofString "squeezed",.val (.ref 160)),(.ofString "unsqueezed",.val (.ref 167)),(.ofString "bytearray",.val (.type "bytearray")),(.ofString "header_of",.val (.ref 1210)),(.ofString "bool",.val (.type "bool")),(.ofString "gzip_decode",.val (.ref 181)),(.ofString "snappy_decode",.val (.ref 195)),(.ofString "lz4_decode",.val (.ref 209)),(.ofString "zstd_decode",.val (.ref 223)),(.ofString "decode_varint",.val (.ref 69)),(.ofString "ControlRecord",.ft),(.ofString "DefaultRecord",.val (.ref 958)),(.ofString "calc_crc32c",.val (.ref 76)),(.ofString "isinstance",.val (.builtin "isinstance")),(.ofString "encode_varint",.val (.ref 54)),(.ofString "size_of_varint",.val (.ref 61)),(.ofString "DefaultRecordMetadata",.val (.ref 1198)),(.ofString "put_into",.val (.ref 145)),(.ofString "header_from",.val (.ref 1217)),(.ofString "packed",.val (.ref 138)),(.ofString "gzip_encode",.val (.ref 174)),(.ofString "snappy_encode",.val (.ref 188)),(.ofString "lz4_encode",.val (.ref 202)),(.ofString "zstd_encode",.val (.ref 216)),(.ofString "unpack_from",.val (.ref 153)),(.ofString "HEADER_SIZES",.tup [.int (8),.int (4),.int (4),.int (1),.int (4),.int (2),.int (4),.int (8),.int (8),.int (8),.int (2),.int (4),.int (4)]),(.ofString "LegacyRecordBatch",.ft),(.ofString "DefaultRecordBatch",.val (.ref 868)),(.ofString "DefaultRecordBatchBuilder",.val (.ref 1147)),(.ofString "LegacyRecordBatchBuilder",.ft),(.ofString "_law_varint",.val (.ref 1425)),(.ofString "_law_next",.val (.ref 1404)),(.ofString "_law_octets",.val (.ref 1437)),(.ofString "_law_field",.val (.ref 1432)),(.ofString "_law_int",.val (.ref 1411)),(.ofString "_law_crc",.val (.ref 1418)),(.ofString "MemoryRecordsBuilder",.val (.ref 1393)),(.ofString "_law_record",.val (.ref 1442)),(.ofString "_law_laid",.val (.ref 1449)),(.ofString "max",.val (.builtin "max")),(.ofString "_law_head",.val (.ref 1456)),(.ofString "_law_batch",.val (.ref 1463)),(.ofString "MemoryRecords",.val (.ref 1283)),(.ofString "sum",.val (.builtin "sum")),(.ofString "_law_read",.val (.ref 1468))]
noncomputable def Sy:aa (ab×aa (ab×rk)):=[(868,[(7,.const (.int (1)) (.int (1) 1362)),(8,.const (.int (4)) (.int (4) 1368)),(9,.own),(10,.own),(11,.own),(12,.const (.int (61)) (.int (61) 1350)),(13,.own),(14,.own),(15,.own),(16,.const (.int (12)) (.int (12) 1356)),(17,.prop 656 655),(18,.prop 704 703),(19,.prop 712 711),(20,.prop 696 695),(21,.const (.int (7)) (.int (7) 1358)),(22,.const (.int (8)) (.int (8) 1370)),(23,.const (.int (16)) (.int (16) 1372)),(24,.const (.int (32)) (.int (32) 1374)),(25,.prop 776 775),(26,.const (.int (-1)) (.int (-1) 1381)),(27,.prop 799 798),(28,.const (.int (-1)) (.int (-1) 1384)),(29,.e' 822),(30,.const (.int (2147483647)) (.int (2147483647) 1386)),(31,.prop 728 727),(32,.const (.int (0)) (.int (0) 1360)),(33,.e' 627),(34,.const (.int (2)) (.int (2) 1364)),(35,.const (.int (3)) (.int (3) 1366)),(36,.prop 752 751),(37,.prop 736 735),(38,.const (.int (1)) (.int (1) 1376)),(39,.prop 768 767),(40,.prop 760 759),(42,.e' 837),(43,.e' 844),(44,.prop 688 687),(45,.const (.int (21)) (.int (21) 1352)),(63,.const (.int (17)) (.int (17) 1354)),(81,.prop 791 790),(97,.prop 720 719),(98,.prop 664 663),(103,.prop 672 671),(104,.prop 680 679),(105,.prop 744 743),(106,.prop 807 806),(107,.prop 815 814),(108,.prop 830 829),(112,.e' 783),(113,.e' 865)]),(958,[(37,.prop 916 915),(46,.own),(47,.own),(48,.own),(49,.own),(50,.own),(51,.own),(52,.own),(101,.prop 900 899),(102,.prop 908 907),(109,.prop 924 923),(110,.prop 932 931),(111,.prop 940 939)]),(1147,[(0,.e' 1075),(7,.const (.int (1)) (.int (1) 1362)),(8,.const (.int (4)) (.int (4) 1368)),(9,.own),(12,.const (.int (61)) (.int (61) 1350)),(13,.own),(16,.const (.int (12)) (.int (12) 1356)),(21,.const (.int (7)) (.int (7) 1358)),(22,.const (.int (8)) (.int (8) 1370)),(23,.const (.int (16)) (.int (16) 1372)),(24,.const (.int (32)) (.int (32) 1374)),(25,.prop 1044 1043),(26,.const (.int (-1)) (.int (-1) 1381)),(27,.prop 1060 1059),(28,.const (.int (-1)) (.int (-1) 1384)),(30,.const (.int (2147483647)) (.int (2147483647) 1386)),(32,.const (.int (0)) (.int (0) 1360)),(33,.e' 627),(34,.const (.int (2)) (.int (2) 1364)),(35,.const (.int (3)) (.int (3) 1366)),(38,.const (.int (1)) (.int (1) 1376)),(45,.const (.int (21)) (.int (21) 1352)),(53,.own),(54,.own),(55,.own),(56,.own),(57,.own),(58,.own),(59,.own),(60,.own),(61,.own),(62,.own),(63,.const (.int (17)) (.int (17) 1354)),(64,.e' 1068),(65,.e' 1090),(66,.e' 1083),(79,.e' 1104),(80,.e' 1097),(81,.prop 1052 1051)]),(1198,[(44,.prop 1179 1178),(47,.own),(48,.own),(67,.own),(79,.prop 1187 1186),(101,.prop 1171 1170),(102,.prop 1195 1194)]),(1283,[(9,.own),(11,.own),(68,.own),(69,.own),(70,.e' 1252),(71,.const (.int (8)) (.int (8) 2208)),(72,.const (.int (12)) (.int (12) 2210)),(73,.const (.int (26)) (.int (26) 2214)),(74,.const (.int (16)) (.int (16) 2212)),(98,.e' 1238),(114,.e' 1245),(115,.e' 1259),(116,.e' 1266)]),(1393,[(0,.e' 1317),(9,.own),(53,.own),(55,.own),(57,.own),(58,.own),(59,.own),(75,.own),(76,.own),(77,.own),(78,.own),(95,.e' 1362),(96,.e' 1309),(97,.e' 1383),(98,.e' 1369),(99,.e' 1376),(100,.e' 1390)])]
noncomputable def av(w:cu)(B:a8)(b:aS)(l:bh (aa bu)):aG:=⟨pw,w,KK w.params,B,b,nm,gl,Sy,l⟩
section
variable{w:cu}{B:a8}{b:aS}{l:bh (aa bu)}
set_option maxRecDepth 100000 in
theorem Sz:Ec (av w B b l)=true:=by kernel_rfl
theorem yD(H:(av w B b l).Ok):(av w B b l).a0:=RK H Sz
theorem SA{P:b1->Prop}(k:∀n a x d r t sc u v q,sv (.FunctionDef n a x d r t sc u v q)=true->P (.FunctionDef n a x d r t sc u v q))(st:b1)(h:sv st=true):P st:=by
 cases st with
 |FunctionDef n a x d r t sc u v q=>exact k n a x d r t sc u v q h
 |_=>exact absurd h fV
theorem EY{st:b1}{f:aJ}{q:au}{pm cd fB:aj}(aB:(KK w.params).lookup f=some (uW st q pm cd fB))(aI:codeIn (KK w.params) cd q=true)(cg:sv st=true):FnAt (av w B b l) f (uV st q pm cd fB) (bodyOf st):=
 SA (P:=λst=>(KK w.params).lookup f=some (uW st q pm cd fB)->FnAt (av w B b l) f (uV st q pm cd fB) (bodyOf st)) (λJ J J J J J J J J J h aB=>by
  have h:=fO.mp h
  have g:=fO.mp h.1
  exact⟨⟨_,_,_,aB⟩,aI,rfl,eq_of_beq g.1,(mA _).mp g.2,(mA _).mp h.2,rfl,rfl,rfl⟩) st cg aB
noncomputable def cY(i:ab):au:=qz (ar pw i)++"."
noncomputable def bU(e:au)(st:b1)(pm:aj)(cd:aJ)(fB:aj):hb:=uV st (e++qz st) pm (.ref cd) fB
noncomputable def pp(l:aa (au×hl)):ab->aa gI->aa (au×hl)
 |_,[]=>l
 |i,x::r=>(.ofString x,.pos i)::pp l (i+1) r
noncomputable def rn(c:aG)(f:aJ)(e:au)(st:b1)(pm:aj)(cd:aJ)(fB:aj)(S:SC)(n:ab)(gq:aa au)(c4:aa (au×hl)):bh ew×aS×dz×((ab->aj)->(ab->aj)->z5->bh (aa (au×aj))):=
 (c.K.lookup f,codeIn c.K (.ref cd) (e++qz st)&&sv st&&uO S S.sc (c4.map (·.1)),(bU e st pm cd fB).scope,bindL c (bU e st pm cd fB) n gq)
noncomputable def SD(e:au)(st:b1)(pm:aj)(cd:aJ)(fB:aj)(S:SC)(n m:ab)(c4:aa (au×hl)):bh ew×aS×dz×((ab->aj)->(ab->aj)->z5->bh (aa (au×aj))):=
 (some (uW st (e++qz st) pm (.ref cd) fB),true,S.sc,bindR n m c4)
theorem b9{f:aJ}{e:au}{st:b1}{pm:aj}{cd:aJ}{fB:aj}{S:SC}{n:ab}{gq:aa au}{c4:aa (au×hl)}(h:rn (av w B b l) f e st pm cd fB S n gq c4=SD e st pm cd fB S n gq.length c4):b3 (av w B b l) f (bU e st pm cd fB) S (bodyOf st) n gq c4:=by
 have aB:=congrArg (·.1) h
 have aI:=congrArg (·.2.1) h
 have cg:(bU e st pm cd fB).scope=S.sc:=congrArg (·.2.2.1) h
 have dX:=congrArg (·.2.2.2) h
 have aI:=fO.mp aI
 have eP:=fO.mp aI.1
 exact⟨EY aB eP.1 eP.2,cg,by rw[cg];exact aI.2,dX⟩
theorem yE{f:aJ}{e:au}{st:b1}{pm:aj}{cd:aJ}{fB:aj}{n:ab}{gq:aa au}{c4:aa (au×hl)}(aB:(KK w.params).lookup f=some (uW st (e++qz st) pm (.ref cd) fB))(aI:(codeIn (KK w.params) (.ref cd) (e++qz st)&&sv st)=true)(h:bindL (av w B b l) (bU e st pm cd fB) n gq=bindR n gq.length c4):FnAt (av w B b l) f (bU e st pm cd fB) (bodyOf st)/\m8 (av w B b l) (bU e st pm cd fB) n gq c4:=
 ⟨EY aB (fO.mp aI).1 (fO.mp aI).2,h⟩
end
section
set_option maxRecDepth 100000
set_option maxHeartbeats 0
noncomputable def kn:SC:=⟨nm,b7,[.ofString "hand",.ofString "long",.ofString "codec",.ofString "room",.ofString "offset",.ofString "producer",.ofString "turn",.ofString "place",.ofString "whole",.ofString "builder",.ofString "start",.ofString "told",.ofString "laid",.ofString "k",.ofString "record",.ofString "first",.ofString "octets",.ofString "got",.ofString "small",.ofString "attributes",.ofString "closed"],b6 (ar pw 63),false⟩
@[irreducible]noncomputable def C_law_batch_4:{t:br//dt kn (d4 (bodyOf (ar pw 63)) 4) t}:=e6 ⟨_,(a6 bG aL (mW (b2 rfl (ag (i:=5) rfl) (aw rfl)) (iB (aw rfl)) (aw rfl)) (bl (i:=6) rfl))⟩
@[irreducible]noncomputable def C_law_batch_5:{t:br//dt kn (d4 (bodyOf (ar pw 63)) 5) t}:=e6 ⟨_,(a6 bG aL (mW (b2 rfl (ag (i:=5) rfl) (aw rfl)) (iB (aw rfl)) (da (h4 (ak rfl (aw rfl) (ak rfl (a9 (a9 (aw rfl) (aw rfl)) (aw rfl)) aD))) (a' (i:=41) rfl (by kernel_rfl) rfl rfl (ak rfl (ag (i:=0) rfl) (ak rfl (aw rfl) aD)) aQ))) (bl (i:=7) rfl))⟩
@[irreducible]noncomputable def C_law_batch_6:{t:br//dt kn (d4 (bodyOf (ar pw 63)) 6) t}:=e6 ⟨_,(a6 bG aL (r3 (uh (jh rfl (ag (i:=5) rfl) (aw rfl)) (r2 (jh rfl (a' (i:=41) rfl (by kernel_rfl) rfl rfl (ak rfl (ag (i:=0) rfl) (ak rfl (aw rfl) aD)) aQ) (aw rfl))))) (bl (i:=8) rfl))⟩
@[irreducible]noncomputable def C_law_batch_11_b_0:{t:br//dt kn (d4 (subB (d4 (bodyOf (ar pw 63)) 11)) 0) t}:=e6 ⟨_,(a6 bG aL (a' (i:=47) rfl (by kernel_rfl) rfl rfl (ak rfl (ag (i:=0) rfl) (ak rfl (ag (i:=10) rfl) (ak rfl (r3 (uh (ag (i:=1) rfl) (r2 (jh rfl (ag (i:=13) rfl) (aw rfl))))) aD))) aQ) (bl (i:=14) rfl))⟩
@[irreducible]noncomputable def C_law_batch_11_b_1:{t:br//dt kn (d4 (subB (d4 (bodyOf (ar pw 63)) 11)) 1) t}:=e6 ⟨_,(a6 bG aL (mW (b2 rfl (eE (k:=84) rfl (ag (i:=11) rfl)) (aw rfl)) (da (ag (i:=14) rfl) (aw rfl)) (eE (k:=83) rfl (ag (i:=11) rfl))) (bl (i:=15) rfl))⟩
@[irreducible]noncomputable def C_law_batch_11_b_4:{t:br//dt kn (d4 (subB (d4 (bodyOf (ar pw 63)) 11)) 4) t}:=e6 ⟨_,(cp (h5 (kJ (b2 rfl (eE (k:=84) rfl (ag (i:=11) rfl)) (aw rfl)) (kJ (b2 rfl (a9 (a9 (aw rfl) (a' (i:=6) rfl (by kernel_rfl) rfl rfl (ak rfl (ag (i:=12) rfl) aD) aQ)) (a' (i:=6) rfl (by kernel_rfl) rfl rfl (ak rfl (ag (i:=16) rfl) aD) aQ)) (ag (i:=3) rfl)) qb))) (ai (cp (b2 rfl (ag (i:=17) rfl) (aw rfl)) (ai (bO (aw rfl))
 aH) aH)
 aH) (ai (cp (h5 (fA (b2 rfl (ag (i:=17) rfl) (aw rfl)) (fA (DN rfl (h4 (ak rfl (bk (k:=101) aV rfl (ag (i:=17) rfl)) (ak rfl (bk (k:=79) aV rfl (ag (i:=17) rfl)) (ak rfl (bk (k:=102) aV rfl (ag (i:=17) rfl)) (ak rfl (bk (k:=44) aV rfl (ag (i:=17) rfl)) aD))))) (h4 (ak rfl (ag (i:=4) rfl) (ak rfl (a' (i:=6) rfl (by kernel_rfl) rfl rfl (ak rfl (ag (i:=16) rfl) aD) aQ) (ak rfl (da (ag (i:=14) rfl) (aw rfl)) (ak rfl (aw rfl) aD)))))) kg))) (ai (bO (aw rfl))
 aH) aH)
 (ai (a6 lA aL (mW (b2 rfl (eE (k:=84) rfl (ag (i:=11) rfl)) (aw rfl)) (da (ag (i:=14) rfl) (aw rfl)) (a' (i:=49) rfl (by kernel_rfl) rfl rfl (ak rfl (eE (k:=82) rfl (ag (i:=11) rfl)) (ak rfl (da (ag (i:=14) rfl) (aw rfl)) aD)) aQ)) (m1 (k:=82) rfl (ag (i:=11) rfl)))
 (ai (a6 lA aL (ag (i:=15) rfl) (m1 (k:=83) rfl (ag (i:=11) rfl)))
 (ai (a6 lA aL (ag (i:=4) rfl) (m1 (k:=85) rfl (ag (i:=11) rfl)))
 (ai (a6 lA aL (a9 (eE (k:=84) rfl (ag (i:=11) rfl)) (aw rfl)) (m1 (k:=84) rfl (ag (i:=11) rfl)))
 (ai (dF aL (cR (k:=0) rfl rfl aV rfl rfl rfl (eE (k:=89) rfl (ag (i:=11) rfl)) (ak rfl (ke (ak rfl (ag (i:=4) rfl) (ak rfl (ag (i:=14) rfl) aD))) aD) aQ))
 (ai (a6 bG aL (a9 (ag (i:=12) rfl) (ag (i:=16) rfl)) (bl (i:=12) rfl))
 (ai (a6 bG aL (a9 (ag (i:=4) rfl) (aw rfl)) (bl (i:=4) rfl))
 aH)))))))))⟩
@[irreducible]noncomputable def C_law_batch_11_b_5:{t:br//dt kn (d4 (subB (d4 (bodyOf (ar pw 63)) 11)) 5) t}:=e6 ⟨_,(cp (h5 (fA (b2 rfl (cR (k:=97) rfl rfl aV rfl rfl rfl (ag (i:=9) rfl) aD aQ) (ag (i:=4) rfl)) (fA (b2 rfl (cR (k:=98) rfl rfl aV rfl rfl rfl (ag (i:=9) rfl) aD aQ) (a9 (aw rfl) (a' (i:=6) rfl (by kernel_rfl) rfl rfl (ak rfl (ag (i:=12) rfl) aD) aQ))) (fA (b2 rfl (cR (k:=99) rfl rfl aV rfl rfl rfl (ag (i:=9) rfl) aD aQ) (jh rfl (a9 (aw rfl) (a' (i:=6) rfl (by kernel_rfl) rfl rfl (ak rfl (ag (i:=12) rfl) aD) aQ)) (ag (i:=3) rfl))) kg)))) (ai (bO (aw rfl))
 aH) aH)⟩
@[irreducible]noncomputable def C_law_batch_11_b_6:{t:br//dt kn (d4 (subB (d4 (bodyOf (ar pw 63)) 11)) 6) t}:=e6 ⟨_,(cp (b2 rfl (a' (i:=41) rfl (by kernel_rfl) rfl rfl (ak rfl (ag (i:=0) rfl) (ak rfl (aw rfl) aD)) aQ) (aw rfl)) (ai (dF aL (cR (k:=96) rfl rfl aV rfl rfl rfl (ag (i:=9) rfl) (ak rfl (aw rfl) aD) aQ))
 (ai (a6 bG aL (a9 (ag (i:=4) rfl) (aw rfl)) (bl (i:=4) rfl))
 aH)) aH)⟩
@[irreducible]noncomputable def C_law_batch_11:{t:br//dt kn (d4 (bodyOf (ar pw 63)) 11) t}:=e6 ⟨_,(kh iQ (a' (i:=7) rfl (by kernel_rfl) rfl rfl (ak rfl (a9 (aw rfl) (a' (i:=41) rfl (by kernel_rfl) rfl rfl (ak rfl (ag (i:=0) rfl) (ak rfl (aw rfl) aD)) aQ)) aD) aQ) (bl (i:=13) rfl) (ai C_law_batch_11_b_0.2
 (ai C_law_batch_11_b_1.2
 (ai (a6 bG aL (a' (i:=48) rfl (by kernel_rfl) rfl rfl (ak rfl (ag (i:=14) rfl) (ak rfl (ag (i:=4) rfl) (ak rfl (ag (i:=15) rfl) aD))) aQ) (bl (i:=16) rfl))
 (ai (a6 bG aL (cR (k:=0) rfl rfl aV rfl rfl rfl (ag (i:=9) rfl) (ak rfl (da (ag (i:=14) rfl) (aw rfl)) (ak rfl (da (ag (i:=14) rfl) (aw rfl)) (ak rfl (da (ag (i:=14) rfl) (aw rfl)) (ak rfl (da (ag (i:=14) rfl) (aw rfl)) aD)))) aQ) (bl (i:=17) rfl))
 (ai C_law_batch_11_b_4.2
 (ai C_law_batch_11_b_5.2
 (ai C_law_batch_11_b_6.2
 aH))))))))⟩
@[irreducible]noncomputable def C_law_batch_14:{t:br//dt kn (d4 (bodyOf (ar pw 63)) 14) t}:=e6 ⟨_,(cp (h5 (fA (b2 rfl (ag (i:=2) rfl) (aw rfl)) (fA (b2 rfl (a' (i:=6) rfl (by kernel_rfl) rfl rfl (ak rfl (ag (i:=18) rfl) aD) aQ) (a' (i:=6) rfl (by kernel_rfl) rfl rfl (ak rfl (ag (i:=12) rfl) aD) aQ)) kg))) (ai (a6 bG aL (aw rfl) (bl (i:=2) rfl))
 (ai (a6 bG aL (ag (i:=12) rfl) (bl (i:=18) rfl))
 aH)) aH)⟩
@[irreducible]noncomputable def C_law_batch_17:{t:br//dt kn (d4 (bodyOf (ar pw 63)) 17) t}:=e6 ⟨_,(cp (h5 (fA (b2 rfl (a' (i:=8) rfl (by kernel_rfl) rfl rfl (ak rfl (cR (k:=100) rfl rfl aV rfl rfl rfl (ag (i:=9) rfl) aD aQ) aD) aQ) (ag (i:=20) rfl)) (fA (b2 rfl (cR (k:=0) rfl rfl aV rfl rfl rfl (ag (i:=9) rfl) (ak rfl (aw rfl) (ak rfl (aw rfl) (ak rfl (aw rfl) aD))) aQ) (aw rfl)) kg))) (ai (bO (aw rfl))
 aH) aH)⟩
@[irreducible]noncomputable def C_law_batch_24:{t:br//dt kn (d4 (bodyOf (ar pw 63)) 24) t}:=e6 ⟨_,(cp (fm fi (eE (k:=92) rfl (ag (i:=11) rfl))) (ai (a6 bG aL (a' (i:=50) rfl (by kernel_rfl) rfl rfl (ak rfl (ag (i:=11) rfl) (ak rfl (eE (k:=90) rfl (ag (i:=11) rfl)) (ak rfl (eE (k:=91) rfl (ag (i:=11) rfl)) (ak rfl (a9 (ag (i:=19) rfl) (aw rfl)) (ak rfl (ag (i:=18) rfl) aD))))) aQ) (bl (i:=16) rfl))
 aH) aH)⟩
noncomputable def SE:{t:br//bQ kn (bodyOf (ar pw 63)) t}:=⟨_,(ai (a6 bG aL (da (h4 (ak rfl (aw rfl) (ak rfl (aw rfl) (ak rfl (aw rfl) (ak rfl (aw rfl) (ak rfl (aw rfl) (ak rfl (aw rfl) aD))))))) (a' (i:=41) rfl (by kernel_rfl) rfl rfl (ak rfl (ag (i:=0) rfl) (ak rfl (aw rfl) aD)) aQ)) (bl (i:=2) rfl))
 (ai (a6 bG aL (da (h4 (ak rfl (aw rfl) (ak rfl (aw rfl) (ak rfl (aw rfl) (ak rfl (aw rfl) aD))))) (a' (i:=41) rfl (by kernel_rfl) rfl rfl (ak rfl (ag (i:=0) rfl) (ak rfl (aw rfl) aD)) aQ)) (bl (i:=3) rfl))
 (ai (a6 bG aL (a' (i:=41) rfl (by kernel_rfl) rfl rfl (ak rfl (ag (i:=0) rfl) (ak rfl (aw rfl) aD)) aQ) (bl (i:=4) rfl))
 (ai (a6 bG aL (da (h4 (ak rfl (iB (aw rfl)) (ak rfl (aw rfl) (ak rfl (aw rfl) (ak rfl (a9 (aw rfl) (aw rfl)) aD))))) (a' (i:=41) rfl (by kernel_rfl) rfl rfl (ak rfl (ag (i:=0) rfl) (ak rfl (aw rfl) aD)) aQ)) (bl (i:=5) rfl))
 (ai C_law_batch_4.2
 (ai C_law_batch_5.2
 (ai C_law_batch_6.2
 (ai (a6 bG aL (a' (i:=46) rfl (by kernel_rfl) rfl rfl (ak rfl (aw rfl) (ak rfl (ag (i:=2) rfl) (ak rfl (ag (i:=3) rfl) aD))) (jR (ag (i:=4) rfl) (jR (ag (i:=8) rfl) (jR (ag (i:=5) rfl) (jR (ag (i:=6) rfl) (jR (ag (i:=7) rfl) aQ)))))) (bl (i:=9) rfl))
 (ai (a6 bG aL (da (h4 (ak rfl (aw rfl) (ak rfl (aw rfl) (ak rfl (a9 (aw rfl) (aw rfl)) (ak rfl (a9 (aw rfl) (aw rfl)) aD))))) (a' (i:=41) rfl (by kernel_rfl) rfl rfl (ak rfl (ag (i:=0) rfl) (ak rfl (aw rfl) aD)) aQ)) (bl (i:=10) rfl))
 (ai (a6 bG aL (QD (is:=[85,83,82,88,87,86,84,89]) (ks:=[(.ofString "last",_,_),(.ofString "first",_,_),(.ofString "most",_,_),(.ofString "producer",_,_),(.ofString "turn",_,_),(.ofString "place",_,_),(.ofString "many",_,_),(.ofString "rows",_,_)]) rfl (by kernel_rfl) (by kernel_rfl) (nU (aw rfl) (nU (aw rfl) (nU (aw rfl) (nU (ag (i:=5) rfl) (nU (ag (i:=6) rfl) (nU (ag (i:=7) rfl) (nU (aw rfl) (nU (kI aD) Qz))))))))) (bl (i:=11) rfl))
 (ai (a6 bG aL (aw rfl) (bl (i:=12) rfl))
 (ai C_law_batch_11.2
 (ai (dF aL (cR (k:=95) rfl rfl aV rfl rfl rfl (ag (i:=9) rfl) aD aQ))
 (ai (a6 bG aL (a' (i:=10) rfl (by kernel_rfl) rfl rfl (ak rfl (ag (i:=2) rfl) (ak rfl (ag (i:=12) rfl) aD)) aQ) (bl (i:=18) rfl))
 (ai C_law_batch_14.2
 (ai (a6 bG aL (a9 (ag (i:=2) rfl) (a9 (aw rfl) (a' (i:=9) rfl (by kernel_rfl) rfl rfl (ak rfl (ag (i:=8) rfl) aD) aQ))) (bl (i:=19) rfl))
 (ai (a6 bG aL (a' (i:=50) rfl (by kernel_rfl) rfl rfl (ak rfl (ag (i:=11) rfl) (ak rfl (aw rfl) (ak rfl (aw rfl) (ak rfl (ag (i:=19) rfl) (ak rfl (ag (i:=18) rfl) aD))))) aQ) (bl (i:=20) rfl))
 (ai C_law_batch_17.2
 (ai (a6 lA aL (da (h4 (ak rfl (aw rfl) (ak rfl (aw rfl) (ak rfl (a9 (aw rfl) (aw rfl)) aD)))) (a' (i:=41) rfl (by kernel_rfl) rfl rfl (ak rfl (ag (i:=0) rfl) (ak rfl (aw rfl) aD)) aQ)) (m1 (k:=90) rfl (ag (i:=11) rfl)))
 (ai (a6 lA aL (a' (i:=41) rfl (by kernel_rfl) rfl rfl (ak rfl (ag (i:=0) rfl) (ak rfl (aw rfl) aD)) aQ) (m1 (k:=91) rfl (ag (i:=11) rfl)))
 (ai (a6 lA aL (jh rfl (a' (i:=41) rfl (by kernel_rfl) rfl rfl (ak rfl (ag (i:=0) rfl) (ak rfl (aw rfl) aD)) aQ) (aw rfl)) (m1 (k:=92) rfl (ag (i:=11) rfl)))
 (ai (a6 lA aL (ag (i:=8) rfl) (m1 (k:=93) rfl (ag (i:=11) rfl)))
 (ai (a6 lA aL (ag (i:=2) rfl) (m1 (k:=94) rfl (ag (i:=11) rfl)))
 (ai (a6 bG aL (a9 (a9 (a9 (a' (i:=44) rfl (by kernel_rfl) rfl rfl (ak rfl (eE (k:=90) rfl (ag (i:=11) rfl)) (ak rfl (aw rfl) aD)) aQ) (kk (ag (i:=20) rfl) (hD (aw rfl)) (hD (aw rfl)))) (a' (i:=44) rfl (by kernel_rfl) rfl rfl (ak rfl (eE (k:=91) rfl (ag (i:=11) rfl)) (ak rfl (aw rfl) aD)) aQ)) (kk (ag (i:=20) rfl) (hD (aw rfl)) oX)) (bl (i:=16) rfl))
 (ai C_law_batch_24.2
 (ai (bO (ke (ak rfl (ag (i:=16) rfl) (ak rfl (ag (i:=11) rfl) aD))))
 aH))))))))))))))))))))))))))⟩
noncomputable def EZ:SC:=⟨nm,b7,[.ofString "self",.ofString "offsets_to_skip"],b6 (aM (ar pw 52) 1),false⟩
noncomputable def SF:{t:br//bQ EZ (bodyOf (aM (ar pw 52) 1)) t}:=⟨_,(ai (uq (k:=75) rfl (ag (i:=0) rfl) (ag (i:=1) rfl))
 aH)⟩
noncomputable def E0:SC:=⟨nm,b7,[.ofString "self"],b6 (aM (ar pw 51) 8),false⟩
noncomputable def SG:{t:br//bQ E0 (bodyOf (aM (ar pw 51) 8)) t}:=⟨_,(ai (bO (jh rfl (bk (k:=68) aV rfl (ag (i:=0) rfl)) (aw rfl)))
 aH)⟩
noncomputable def E1:SC:=⟨nm,b7,[.ofString "data"],b6 (ar pw 30),false⟩
noncomputable def SH:{t:br//bQ E1 (bodyOf (ar pw 30)) t}:=⟨_,(ai (bO (a' (i:=10) rfl (by kernel_rfl) rfl rfl (ak rfl (aw rfl) (ak rfl (ag (i:=0) rfl) aD)) aQ))
 aH)⟩
noncomputable def E2:SC:=⟨nm,b7,[.ofString "memview"],b6 (ar pw 12),false⟩
noncomputable def SI:{t:br//bQ E2 (bodyOf (ar pw 12)) t}:=⟨_,(ai (bO (a' (i:=5) rfl (by kernel_rfl) rfl rfl (ak rfl (ag (i:=0) rfl) aD) aQ))
 aH)⟩
end
section
set_option maxRecDepth 100000
set_option maxHeartbeats 0
noncomputable def ng:SC:=⟨nm,b7,[.ofString "self",.ofString "offset",.ofString "timestamp",.ofString "key",.ofString "value",.ofString "headers",.ofString "timestamp_delta",.ofString "first_message",.ofString "message_buffer",.ofString "h_key",.ofString "h_value",.ofString "message_len",.ofString "main_buffer",.ofString "required_size"],b6 (aM (ar pw 45) 7),false⟩
@[irreducible]noncomputable def C_DefaultRecordBatchBuilder_append_2:{t:br//dt ng (d4 (bodyOf (aM (ar pw 45) 7)) 2) t}:=e6 ⟨_,(cp (ji (h5 (fA (b2 rfl (ag (i:=3) rfl) (aw rfl)) (fA (fm fi (a' (i:=23) rfl (by kernel_rfl) rfl rfl (ak rfl (ag (i:=3) rfl) (ak rfl (ke (ak rfl (h3 (i:=8) rfl (by kernel_rfl)) (ak rfl (h3 (i:=12) rfl (by kernel_rfl)) aD))) aD)) aQ)) kg)))) (ai jj
 aH) aH)⟩
@[irreducible]noncomputable def C_DefaultRecordBatchBuilder_append_3:{t:br//dt ng (d4 (bodyOf (aM (ar pw 45) 7)) 3) t}:=e6 ⟨_,(cp (ji (h5 (fA (b2 rfl (ag (i:=4) rfl) (aw rfl)) (fA (fm fi (a' (i:=23) rfl (by kernel_rfl) rfl rfl (ak rfl (ag (i:=4) rfl) (ak rfl (ke (ak rfl (h3 (i:=8) rfl (by kernel_rfl)) (ak rfl (h3 (i:=12) rfl (by kernel_rfl)) aD))) aD)) aQ)) kg)))) (ai jj
 aH) aH)⟩
@[irreducible]noncomputable def C_DefaultRecordBatchBuilder_append_4:{t:br//dt ng (d4 (bodyOf (aM (ar pw 45) 7)) 4) t}:=e6 ⟨_,(cp (b2 rfl (bk (k:=60) aV rfl (ag (i:=0) rfl)) (aw rfl)) (ai (a6 cT aL (ag (i:=2) rfl) (cU (k:=60) rfl (ag (i:=0) rfl)))
 (ai (a6 cT aL (ag (i:=2) rfl) (cU (k:=61) rfl (ag (i:=0) rfl)))
 (ai (a6 bG aL (aw rfl) (bl (i:=6) rfl))
 (ai (a6 bG aL (aw rfl) (bl (i:=7) rfl))
 aH)))) (ai (a6 bG aL (a9 (ag (i:=2) rfl) (bk (k:=60) aV rfl (ag (i:=0) rfl))) (bl (i:=6) rfl))
 (ai (a6 bG aL (aw rfl) (bl (i:=7) rfl))
 aH)))⟩
@[irreducible]noncomputable def C_DefaultRecordBatchBuilder_append_8:{t:br//dt ng (d4 (bodyOf (aM (ar pw 45) 7)) 8) t}:=e6 ⟨_,(cp (b2 rfl (ag (i:=3) rfl) (aw rfl)) (ai (dF aL (a' (i:=24) rfl (by kernel_rfl) rfl rfl (ak rfl (a' (i:=6) rfl (by kernel_rfl) rfl rfl (ak rfl (ag (i:=3) rfl) aD) aQ) (ak rfl (ag (i:=8) rfl) aD)) aQ))
 (ai (dF aL (cR (k:=1) rfl rfl aV rfl rfl rfl (ag (i:=8) rfl) (ak rfl (ag (i:=3) rfl) aD) aQ))
 aH)) (ai (dF aL (cR (k:=0) rfl rfl aV rfl rfl rfl (ag (i:=8) rfl) (ak rfl (aw rfl) aD) aQ))
 aH))⟩
@[irreducible]noncomputable def C_DefaultRecordBatchBuilder_append_9:{t:br//dt ng (d4 (bodyOf (aM (ar pw 45) 7)) 9) t}:=e6 ⟨_,(cp (b2 rfl (ag (i:=4) rfl) (aw rfl)) (ai (dF aL (a' (i:=24) rfl (by kernel_rfl) rfl rfl (ak rfl (a' (i:=6) rfl (by kernel_rfl) rfl rfl (ak rfl (ag (i:=4) rfl) aD) aQ) (ak rfl (ag (i:=8) rfl) aD)) aQ))
 (ai (dF aL (cR (k:=1) rfl rfl aV rfl rfl rfl (ag (i:=8) rfl) (ak rfl (ag (i:=4) rfl) aD) aQ))
 aH)) (ai (dF aL (cR (k:=0) rfl rfl aV rfl rfl rfl (ag (i:=8) rfl) (ak rfl (aw rfl) aD) aQ))
 aH))⟩
@[irreducible]noncomputable def C_DefaultRecordBatchBuilder_append_11:{t:br//dt ng (d4 (bodyOf (aM (ar pw 45) 7)) 11) t}:=e6 ⟨_,(kh iQ (ag (i:=5) rfl) (jT rfl (fb (bl (i:=9) rfl) (fb (bl (i:=10) rfl) jS))) (ai (a6 bG aL (cR (k:=3) rfl rfl aV rfl rfl rfl (ag (i:=9) rfl) (ak rfl (aw rfl) aD) aQ) (bl (i:=9) rfl))
 (ai (dF aL (a' (i:=24) rfl (by kernel_rfl) rfl rfl (ak rfl (a' (i:=6) rfl (by kernel_rfl) rfl rfl (ak rfl (ag (i:=9) rfl) aD) aQ) (ak rfl (ag (i:=8) rfl) aD)) aQ))
 (ai (dF aL (cR (k:=1) rfl rfl aV rfl rfl rfl (ag (i:=8) rfl) (ak rfl (ag (i:=9) rfl) aD) aQ))
 (ai (cp (b2 rfl (ag (i:=10) rfl) (aw rfl)) (ai (dF aL (a' (i:=24) rfl (by kernel_rfl) rfl rfl (ak rfl (a' (i:=6) rfl (by kernel_rfl) rfl rfl (ak rfl (ag (i:=10) rfl) aD) aQ) (ak rfl (ag (i:=8) rfl) aD)) aQ))
 (ai (dF aL (cR (k:=1) rfl rfl aV rfl rfl rfl (ag (i:=8) rfl) (ak rfl (ag (i:=10) rfl) aD) aQ))
 aH)) (ai (dF aL (cR (k:=0) rfl rfl aV rfl rfl rfl (ag (i:=8) rfl) (ak rfl (aw rfl) aD) aQ))
 aH))
 aH)))))⟩
@[irreducible]noncomputable def C_DefaultRecordBatchBuilder_append_16:{t:br//dt ng (d4 (bodyOf (aM (ar pw 45) 7)) 16) t}:=e6 ⟨_,(cp (b2 rfl (bk (k:=61) aV rfl (ag (i:=0) rfl)) (ag (i:=2) rfl)) (ai (a6 cT aL (ag (i:=2) rfl) (cU (k:=61) rfl (ag (i:=0) rfl)))
 aH) aH)⟩
noncomputable def SJ:{t:br//bQ ng (bodyOf (aM (ar pw 45) 7)) t}:=⟨_,(ai (cp (h5 (fA (ji (fm fi (a' (i:=23) rfl (by kernel_rfl) rfl rfl (ak rfl (ag (i:=1) rfl) (ak rfl (h3 (i:=9) rfl (by kernel_rfl)) aD)) aQ))) (fA (fm fi (a' (i:=23) rfl (by kernel_rfl) rfl rfl (ak rfl (ag (i:=1) rfl) (ak rfl (h3 (i:=14) rfl (by kernel_rfl)) aD)) aQ)) kg))) (ai jj
 aH) aH)
 (ai (cp (h5 (fA (ji (fm fi (a' (i:=23) rfl (by kernel_rfl) rfl rfl (ak rfl (ag (i:=2) rfl) (ak rfl (h3 (i:=9) rfl (by kernel_rfl)) aD)) aQ))) (fA (fm fi (a' (i:=23) rfl (by kernel_rfl) rfl rfl (ak rfl (ag (i:=2) rfl) (ak rfl (h3 (i:=14) rfl (by kernel_rfl)) aD)) aQ)) kg))) (ai jj
 aH) aH)
 (ai C_DefaultRecordBatchBuilder_append_2.2
 (ai C_DefaultRecordBatchBuilder_append_3.2
 (ai C_DefaultRecordBatchBuilder_append_4.2
 (ai (a6 bG aL (a' (i:=12) rfl (by kernel_rfl) rfl rfl (ak rfl (aw rfl) aD) aQ) (bl (i:=8) rfl))
 (ai (dF aL (a' (i:=24) rfl (by kernel_rfl) rfl rfl (ak rfl (ag (i:=6) rfl) (ak rfl (ag (i:=8) rfl) aD)) aQ))
 (ai (dF aL (a' (i:=24) rfl (by kernel_rfl) rfl rfl (ak rfl (ag (i:=1) rfl) (ak rfl (ag (i:=8) rfl) aD)) aQ))
 (ai C_DefaultRecordBatchBuilder_append_8.2
 (ai C_DefaultRecordBatchBuilder_append_9.2
 (ai (dF aL (a' (i:=24) rfl (by kernel_rfl) rfl rfl (ak rfl (a' (i:=6) rfl (by kernel_rfl) rfl rfl (ak rfl (ag (i:=5) rfl) aD) aQ) (ak rfl (ag (i:=8) rfl) aD)) aQ))
 (ai C_DefaultRecordBatchBuilder_append_11.2
 (ai (a6 bG aL (a' (i:=6) rfl (by kernel_rfl) rfl rfl (ak rfl (ag (i:=8) rfl) aD) aQ) (bl (i:=11) rfl))
 (ai (a6 bG aL (bk (k:=9) aV rfl (ag (i:=0) rfl)) (bl (i:=12) rfl))
 (ai (a6 bG aL (a9 (ag (i:=11) rfl) (a' (i:=25) rfl (by kernel_rfl) rfl rfl (ak rfl (ag (i:=11) rfl) aD) aQ)) (bl (i:=13) rfl))
 (ai (cp (h5 (kJ (b2 rfl (a9 (ag (i:=13) rfl) (a' (i:=6) rfl (by kernel_rfl) rfl rfl (ak rfl (ag (i:=12) rfl) aD) aQ)) (bk (k:=55) aV rfl (ag (i:=0) rfl))) (kJ (ji (fm fi (ag (i:=7) rfl))) qb))) (ai (bO (aw rfl))
 aH) aH)
 (ai C_DefaultRecordBatchBuilder_append_16.2
 (ai (uq (k:=13) rfl (ag (i:=0) rfl) (aw rfl))
 (ai (a6 cT aL (ag (i:=1) rfl) (cU (k:=62) rfl (ag (i:=0) rfl)))
 (ai (dF aL (a' (i:=24) rfl (by kernel_rfl) rfl rfl (ak rfl (ag (i:=11) rfl) (ak rfl (ag (i:=12) rfl) aD)) aQ))
 (ai (dF aL (cR (k:=1) rfl rfl aV rfl rfl rfl (ag (i:=12) rfl) (ak rfl (ag (i:=8) rfl) aD) aQ))
 (ai (bO (a' (i:=26) rfl (by kernel_rfl) rfl rfl (ak rfl (ag (i:=1) rfl) (ak rfl (ag (i:=13) rfl) (ak rfl (ag (i:=2) rfl) aD))) aQ))
 aH))))))))))))))))))))))⟩
noncomputable def yF:SC:=⟨nm,b7,[.ofString "self",.ofString "timestamp",.ofString "key",.ofString "value",.ofString "headers",.ofString "offset",.ofString "metadata"],b6 (aM (ar pw 52) 2),false⟩
noncomputable def E3:{t:br//bQ yF (bodyOf (aM (ar pw 52) 2)) t}:=⟨_,(ai (cp (b2 rfl (ag (i:=4) rfl) (aw rfl)) (ai (a6 bG aL (kI aD) (bl (i:=4) rfl))
 aH) aH)
 (ai (cp (fm fi (bk (k:=76) aV rfl (ag (i:=0) rfl))) (ai (bO (aw rfl))
 aH) aH)
 (ai (a6 bG aL (bk (k:=75) aV rfl (ag (i:=0) rfl)) (bl (i:=5) rfl))
 (ai (a6 bG aL (cR (k:=0) rfl rfl aV rfl rfl rfl (bk (k:=78) aV rfl (ag (i:=0) rfl)) (ak rfl (ag (i:=5) rfl) (ak rfl (ag (i:=1) rfl) (ak rfl (ag (i:=2) rfl) (ak rfl (ag (i:=3) rfl) (ak rfl (ag (i:=4) rfl) aD))))) aQ) (bl (i:=6) rfl))
 (ai (cp (b2 rfl (ag (i:=6) rfl) (aw rfl)) (ai (bO (aw rfl))
 aH) aH)
 (ai (uq (k:=75) rfl (ag (i:=0) rfl) (aw rfl))
 (ai (bO (ag (i:=6) rfl))
 aH)))))))⟩
noncomputable def E4:SC:=⟨nm,b7,[.ofString "value",.ofString "size",.ofString "signed",.ofString "low",.ofString "high"],b6 (ar pw 19),false⟩
noncomputable def E5:{t:br//bQ E4 (bodyOf (ar pw 19)) t}:=⟨_,(ai (a6 bG aL (aw rfl) (bl (i:=3) rfl))
 (ai (a6 bG aL (a9 (aw rfl) (a9 (aw rfl) (ag (i:=1) rfl))) (bl (i:=4) rfl))
 (ai (cp (fm fi (ag (i:=2) rfl)) (ai (a6 bG aL (a9 (aw rfl) (a9 (a9 (aw rfl) (ag (i:=1) rfl)) (aw rfl))) (bl (i:=4) rfl))
 (ai (a6 bG aL (iB (ag (i:=4) rfl)) (bl (i:=3) rfl))
 aH)) aH)
 (ai (cp (ji (BN rfl (ag (i:=3) rfl) (ag (i:=0) rfl) (ag (i:=4) rfl))) (ai jj
 aH) aH)
 (ai (bO (cR (k:=2) rfl rfl aV rfl rfl rfl (a9 (ag (i:=0) rfl) (a9 (aw rfl) (a9 (aw rfl) (ag (i:=1) rfl)))) (ak rfl (ag (i:=1) rfl) (ak rfl (aw rfl) aD)) aQ))
 aH)))))⟩
noncomputable def E6:SC:=⟨nm,b7,[.ofString "self",.ofString "include_compression_type",.ofString "attrs"],b6 (aM (ar pw 45) 6),false⟩
noncomputable def SK:{t:br//bQ E6 (bodyOf (aM (ar pw 45) 6)) t}:=⟨_,(ai (a6 bG aL (aw rfl) (bl (i:=2) rfl))
 (ai (cp (fm fi (ag (i:=1) rfl)) (ai (hE (i:=2) rfl (bk (k:=54) aV rfl (ag (i:=0) rfl)))
 aH) aH)
 (ai (cp (fm fi (bk (k:=56) aV rfl (ag (i:=0) rfl))) (ai (hE (i:=2) rfl (bk (k:=23) aV rfl (ag (i:=0) rfl)))
 aH) aH)
 (ai (bO (ag (i:=2) rfl))
 aH))))⟩
noncomputable def E7:SC:=⟨nm,b7,[.ofString "self",.ofString "offset",.ofString "size",.ofString "timestamp"],b6 (aM (ar pw 46) 0),false⟩
noncomputable def SM:{t:br//bQ E7 (bodyOf (aM (ar pw 46) 0)) t}:=⟨_,(ai (a6 cT aL (ag (i:=1) rfl) (cU (k:=47) rfl (ag (i:=0) rfl)))
 (ai (a6 cT aL (ag (i:=2) rfl) (cU (k:=67) rfl (ag (i:=0) rfl)))
 (ai (a6 cT aL (ag (i:=3) rfl) (cU (k:=48) rfl (ag (i:=0) rfl)))
 aH)))⟩
noncomputable def E8:SC:=⟨nm,b7,[.ofString "self"],b6 (aM (ar pw 52) 12),false⟩
noncomputable def SN:{t:br//bQ E8 (bodyOf (aM (ar pw 52) 12)) t}:=⟨_,(ai (mY (fm fi (bk (k:=76) aV rfl (ag (i:=0) rfl))))
 (ai (bO (bk (k:=9) aV rfl (ag (i:=0) rfl)))
 aH))⟩
noncomputable def E9:SC:=⟨nm,b7,[.ofString "self"],b6 (aM (ar pw 42) 14),false⟩
noncomputable def SO:{t:br//bQ E9 (bodyOf (aM (ar pw 42) 14)) t}:=⟨_,(ai (bO (da (bk (k:=10) aV rfl (ag (i:=0) rfl)) (aw rfl)))
 aH)⟩
noncomputable def E':SC:=⟨nm,b7,[.ofString "self"],b6 (aM (ar pw 45) 4),false⟩
noncomputable def Fb:{t:br//bQ E' (bodyOf (aM (ar pw 45) 4)) t}:=⟨_,(ai (bO (bk (k:=58) aV rfl (ag (i:=0) rfl)))
 aH)⟩
noncomputable def Fc:SC:=⟨nm,b7,[.ofString "self"],b6 (aM (ar pw 52) 11),false⟩
noncomputable def SP:{t:br//bQ Fc (bodyOf (aM (ar pw 52) 11)) t}:=⟨_,(ai (bO (bk (k:=75) aV rfl (ag (i:=0) rfl)))
 aH)⟩
noncomputable def Fd:SC:=⟨nm,b7,[.ofString "data"],b6 (ar pw 26),false⟩
noncomputable def SQ:{t:br//bQ Fd (bodyOf (ar pw 26)) t}:=⟨_,(ai (bO (a' (i:=10) rfl (by kernel_rfl) rfl rfl (ak rfl (aw rfl) (ak rfl (ag (i:=0) rfl) aD)) aQ))
 aH)⟩
noncomputable def Fe:SC:=⟨nm,b7,[.ofString "data"],b6 (ar pw 28),false⟩
noncomputable def SR:{t:br//bQ Fe (bodyOf (ar pw 28)) t}:=⟨_,(ai (bO (a' (i:=10) rfl (by kernel_rfl) rfl rfl (ak rfl (aw rfl) (ak rfl (ag (i:=0) rfl) aD)) aQ))
 aH)⟩
noncomputable def Ff:SC:=⟨nm,b7,[.ofString "self"],b6 (aM (ar pw 46) 2),false⟩
noncomputable def SS:{t:br//bQ Ff (bodyOf (aM (ar pw 46) 2)) t}:=⟨_,(ai (bO (aw rfl))
 aH)⟩
end
section
set_option maxRecDepth 100000
set_option maxHeartbeats 0
noncomputable def qA:SC:=⟨nm,b7,[.ofString "self",.ofString "buffer",.ofString "pos",.ofString "length",.ofString "start_pos",.ofString "_",.ofString "ts_delta",.ofString "timestamp",.ofString "offset_delta",.ofString "offset",.ofString "key_len",.ofString "key",.ofString "value_len",.ofString "value",.ofString "header_count",.ofString "headers",.ofString "h_key_len",.ofString "h_key",.ofString "h_value_len",.ofString "h_value"],b6 (aM (ar pw 42) 25),false⟩
@[irreducible]noncomputable def C_DefaultRecordBatch_read_msg_6:{t:br//dt qA (d4 (bodyOf (aM (ar pw 42) 25)) 6) t}:=e6 ⟨_,(cp (b2 rfl (bk (k:=37) aV rfl (ag (i:=0) rfl)) (bk (k:=38) aV rfl (ag (i:=0) rfl))) (ai (a6 bG aL (bk (k:=39) aV rfl (ag (i:=0) rfl)) (bl (i:=7) rfl))
 aH) (ai (a6 bG aL (a9 (bk (k:=40) aV rfl (ag (i:=0) rfl)) (ag (i:=6) rfl)) (bl (i:=7) rfl))
 aH))⟩
@[irreducible]noncomputable def C_DefaultRecordBatch_read_msg_10:{t:br//dt qA (d4 (bodyOf (aM (ar pw 42) 25)) 10) t}:=e6 ⟨_,(cp (b2 rfl (ag (i:=10) rfl) (aw rfl)) (ai (a6 bG aL (a' (i:=8) rfl (by kernel_rfl) rfl rfl (ak rfl (kk (ag (i:=1) rfl) (hD (ag (i:=2) rfl)) (hD (a9 (ag (i:=2) rfl) (ag (i:=10) rfl)))) aD) aQ) (bl (i:=11) rfl))
 (ai (hE (i:=2) rfl (ag (i:=10) rfl))
 aH)) (ai (a6 bG aL (aw rfl) (bl (i:=11) rfl))
 aH))⟩
@[irreducible]noncomputable def C_DefaultRecordBatch_read_msg_12:{t:br//dt qA (d4 (bodyOf (aM (ar pw 42) 25)) 12) t}:=e6 ⟨_,(cp (b2 rfl (ag (i:=12) rfl) (aw rfl)) (ai (a6 bG aL (a' (i:=8) rfl (by kernel_rfl) rfl rfl (ak rfl (kk (ag (i:=1) rfl) (hD (ag (i:=2) rfl)) (hD (a9 (ag (i:=2) rfl) (ag (i:=12) rfl)))) aD) aQ) (bl (i:=13) rfl))
 (ai (hE (i:=2) rfl (ag (i:=12) rfl))
 aH)) (ai (a6 bG aL (aw rfl) (bl (i:=13) rfl))
 aH))⟩
@[irreducible]noncomputable def C_DefaultRecordBatch_read_msg_16:{t:br//dt qA (d4 (bodyOf (aM (ar pw 42) 25)) 16) t}:=e6 ⟨_,(o1 (fm fi (ag (i:=14) rfl)) (ai (lF aL lE (a' (i:=19) rfl (by kernel_rfl) rfl rfl (ak rfl (ag (i:=1) rfl) (ak rfl (ag (i:=2) rfl) aD)) aQ) (jT rfl (fb (bl (i:=16) rfl) (fb (bl (i:=2) rfl) jS))))
 (ai (cp (b2 rfl (ag (i:=16) rfl) (aw rfl)) (ai jj
 aH) aH)
 (ai (uR (a6 bG aL (cR (k:=4) rfl rfl aV rfl rfl rfl (a' (i:=8) rfl (by kernel_rfl) rfl rfl (ak rfl (kk (ag (i:=1) rfl) (hD (ag (i:=2) rfl)) (hD (a9 (ag (i:=2) rfl) (ag (i:=16) rfl)))) aD) aQ) (ak rfl (aw rfl) aD) aQ) (bl (i:=17) rfl)))
 (ai (hE (i:=2) rfl (ag (i:=16) rfl))
 (ai (lF aL lE (a' (i:=19) rfl (by kernel_rfl) rfl rfl (ak rfl (ag (i:=1) rfl) (ak rfl (ag (i:=2) rfl) aD)) aQ) (jT rfl (fb (bl (i:=18) rfl) (fb (bl (i:=2) rfl) jS))))
 (ai (uR (cp (b2 rfl (ag (i:=18) rfl) (aw rfl)) (ai (a6 bG aL (a' (i:=8) rfl (by kernel_rfl) rfl rfl (ak rfl (kk (ag (i:=1) rfl) (hD (ag (i:=2) rfl)) (hD (a9 (ag (i:=2) rfl) (ag (i:=18) rfl)))) aD) aQ) (bl (i:=19) rfl))
 (ai (hE (i:=2) rfl (ag (i:=18) rfl))
 aH)) (ai (a6 bG aL (aw rfl) (bl (i:=19) rfl))
 aH)))
 (ai (dF aL (cR (k:=0) rfl rfl aV rfl rfl rfl (ag (i:=15) rfl) (ak rfl (ke (ak rfl (ag (i:=17) rfl) (ak rfl (ag (i:=19) rfl) aD))) aD) aQ))
 (ai (hE (i:=14) rfl (aw rfl))
 aH)))))))))⟩
noncomputable def SU:{t:br//bQ qA (bodyOf (aM (ar pw 42) 25)) t}:=⟨_,(ai (a6 bG aL (bk (k:=9) aV rfl (ag (i:=0) rfl)) (bl (i:=1) rfl))
 (ai (a6 bG aL (bk (k:=11) aV rfl (ag (i:=0) rfl)) (bl (i:=2) rfl))
 (ai (lF aL lE (a' (i:=19) rfl (by kernel_rfl) rfl rfl (ak rfl (ag (i:=1) rfl) (ak rfl (ag (i:=2) rfl) aD)) aQ) (jT rfl (fb (bl (i:=3) rfl) (fb (bl (i:=2) rfl) jS))))
 (ai (a6 bG aL (ag (i:=2) rfl) (bl (i:=4) rfl))
 (ai (lF aL lE (a' (i:=19) rfl (by kernel_rfl) rfl rfl (ak rfl (ag (i:=1) rfl) (ak rfl (ag (i:=2) rfl) aD)) aQ) (jT rfl (fb (bl (i:=5) rfl) (fb (bl (i:=2) rfl) jS))))
 (ai (lF aL lE (a' (i:=19) rfl (by kernel_rfl) rfl rfl (ak rfl (ag (i:=1) rfl) (ak rfl (ag (i:=2) rfl) aD)) aQ) (jT rfl (fb (bl (i:=6) rfl) (fb (bl (i:=2) rfl) jS))))
 (ai C_DefaultRecordBatch_read_msg_6.2
 (ai (lF aL lE (a' (i:=19) rfl (by kernel_rfl) rfl rfl (ak rfl (ag (i:=1) rfl) (ak rfl (ag (i:=2) rfl) aD)) aQ) (jT rfl (fb (bl (i:=8) rfl) (fb (bl (i:=2) rfl) jS))))
 (ai (a6 bG aL (a9 (bk (k:=17) aV rfl (ag (i:=0) rfl)) (ag (i:=8) rfl)) (bl (i:=9) rfl))
 (ai (lF aL lE (a' (i:=19) rfl (by kernel_rfl) rfl rfl (ak rfl (ag (i:=1) rfl) (ak rfl (ag (i:=2) rfl) aD)) aQ) (jT rfl (fb (bl (i:=10) rfl) (fb (bl (i:=2) rfl) jS))))
 (ai (uR C_DefaultRecordBatch_read_msg_10.2)
 (ai (lF aL lE (a' (i:=19) rfl (by kernel_rfl) rfl rfl (ak rfl (ag (i:=1) rfl) (ak rfl (ag (i:=2) rfl) aD)) aQ) (jT rfl (fb (bl (i:=12) rfl) (fb (bl (i:=2) rfl) jS))))
 (ai (uR C_DefaultRecordBatch_read_msg_12.2)
 (ai (lF aL lE (a' (i:=19) rfl (by kernel_rfl) rfl rfl (ak rfl (ag (i:=1) rfl) (ak rfl (ag (i:=2) rfl) aD)) aQ) (jT rfl (fb (bl (i:=14) rfl) (fb (bl (i:=2) rfl) jS))))
 (ai (cp (b2 rfl (ag (i:=14) rfl) (aw rfl)) (ai jj
 aH) aH)
 (ai (a6 bG aL (kI aD) (bl (i:=15) rfl))
 (ai C_DefaultRecordBatch_read_msg_16.2
 (ai (cp (b2 rfl (a9 (ag (i:=2) rfl) (ag (i:=4) rfl)) (ag (i:=3) rfl)) (ai jj
 aH) aH)
 (ai (a6 cT aL (ag (i:=2) rfl) (cU (k:=11) rfl (ag (i:=0) rfl)))
 (ai (cp (fm fi (bk (k:=36) aV rfl (ag (i:=0) rfl))) (ai (bO (a' (i:=20) rfl (by kernel_rfl) rfl rfl (ak rfl (ag (i:=3) rfl) (ak rfl (ag (i:=9) rfl) (ak rfl (ag (i:=7) rfl) (ak rfl (bk (k:=37) aV rfl (ag (i:=0) rfl)) (ak rfl (ag (i:=11) rfl) (ak rfl (ag (i:=13) rfl) (ak rfl (ag (i:=15) rfl) aD))))))) aQ))
 aH) (ai (bO (a' (i:=21) rfl (by kernel_rfl) rfl rfl (ak rfl (ag (i:=3) rfl) (ak rfl (ag (i:=9) rfl) (ak rfl (ag (i:=7) rfl) (ak rfl (bk (k:=37) aV rfl (ag (i:=0) rfl)) (ak rfl (ag (i:=11) rfl) (ak rfl (ag (i:=13) rfl) (ak rfl (ag (i:=15) rfl) aD))))))) aQ))
 aH))
 aH))))))))))))))))))))⟩
noncomputable def Fg:SC:=⟨nm,b7,[.ofString "octets",.ofString "poly",.ofString "table",.ofString "n",.ofString "step",.ofString "rest",.ofString "one"],b6 (ar pw 56),false⟩
noncomputable def SV:{t:br//bQ Fg (bodyOf (ar pw 56)) t}:=⟨_,(ai (a6 bG aL (kI aD) (bl (i:=2) rfl))
 (ai (kh iQ (a' (i:=7) rfl (by kernel_rfl) rfl rfl (ak rfl (aw rfl) aD) aQ) (bl (i:=3) rfl) (ai (kh iQ (a' (i:=7) rfl (by kernel_rfl) rfl rfl (ak rfl (aw rfl) aD) aQ) (bl (i:=4) rfl) (ai (a6 bG aL (mW (b2 rfl (a9 (ag (i:=3) rfl) (aw rfl)) (aw rfl)) (a9 (ag (i:=3) rfl) (aw rfl)) (a9 (a9 (ag (i:=3) rfl) (aw rfl)) (ag (i:=1) rfl))) (bl (i:=3) rfl))
 aH))
 (ai (dF aL (cR (k:=0) rfl rfl aV rfl rfl rfl (ag (i:=2) rfl) (ak rfl (ag (i:=3) rfl) aD) aQ))
 aH)))
 (ai (a6 bG aL (aw rfl) (bl (i:=5) rfl))
 (ai (kh iQ (ag (i:=0) rfl) (bl (i:=6) rfl) (ai (a6 bG aL (a9 (da (ag (i:=2) rfl) (a9 (a9 (ag (i:=5) rfl) (ag (i:=6) rfl)) (aw rfl))) (a9 (ag (i:=5) rfl) (aw rfl))) (bl (i:=5) rfl))
 (ai (a6 bG aL (a9 (da (ag (i:=2) rfl) (a9 (a9 (ag (i:=5) rfl) (a9 (ag (i:=6) rfl) (aw rfl))) (aw rfl))) (a9 (ag (i:=5) rfl) (aw rfl))) (bl (i:=5) rfl))
 aH)))
 (ai (bO (a9 (ag (i:=5) rfl) (aw rfl)))
 aH)))))⟩
noncomputable def Fh:SC:=⟨nm,b7,[.ofString "self",.ofString "buffer"],b6 (aM (ar pw 42) 0),false⟩
noncomputable def SW:{t:br//bQ Fh (bodyOf (aM (ar pw 42) 0)) t}:=⟨_,(ai (a6 cT aL (a' (i:=12) rfl (by kernel_rfl) rfl rfl (ak rfl (ag (i:=1) rfl) aD) aQ) (cU (k:=9) rfl (ag (i:=0) rfl)))
 (ai (a6 cT aL (a' (i:=13) rfl (by kernel_rfl) rfl rfl (ak rfl (bk (k:=9) aV rfl (ag (i:=0) rfl)) aD) aQ) (cU (k:=10) rfl (ag (i:=0) rfl)))
 (ai (a6 cT aL (bk (k:=12) aV rfl (ag (i:=0) rfl)) (cU (k:=11) rfl (ag (i:=0) rfl)))
 (ai (a6 cT aL (da (bk (k:=10) aV rfl (ag (i:=0) rfl)) (aw rfl)) (cU (k:=13) rfl (ag (i:=0) rfl)))
 (ai (a6 cT aL (aw rfl) (cU (k:=14) rfl (ag (i:=0) rfl)))
 (ai (a6 cT aL (aw rfl) (cU (k:=15) rfl (ag (i:=0) rfl)))
 aH))))))⟩
noncomputable def Fi:SC:=⟨nm,b7,[.ofString "value",.ofString "rest",.ofString "found"],b6 (ar pw 57),false⟩
noncomputable def SX:{t:br//bQ Fi (bodyOf (ar pw 57)) t}:=⟨_,(ai (a6 bG aL (mW (b2 rfl (ag (i:=0) rfl) (aw rfl)) (a9 (aw rfl) (ag (i:=0) rfl)) (a9 (a9 (iB (aw rfl)) (ag (i:=0) rfl)) (aw rfl))) (bl (i:=1) rfl))
 (ai (a6 bG aL (kI aD) (bl (i:=2) rfl))
 (ai (o1 (b2 rfl (ag (i:=1) rfl) (aw rfl)) (ai (dF aL (cR (k:=0) rfl rfl aV rfl rfl rfl (ag (i:=2) rfl) (ak rfl (a9 (aw rfl) (a9 (ag (i:=1) rfl) (aw rfl))) aD) aQ))
 (ai (a6 bG aL (a9 (ag (i:=1) rfl) (aw rfl)) (bl (i:=1) rfl))
 aH)))
 (ai (bO (a' (i:=8) rfl (by kernel_rfl) rfl rfl (ak rfl (ug (ag (i:=2) rfl) (h4 (ak rfl (ag (i:=1) rfl) aD))) aD) aQ))
 aH))))⟩
noncomputable def Fj:SC:=⟨nm,b7,[.ofString "self"],b6 (aM (ar pw 52) 9),false⟩
noncomputable def SY:{t:br//bQ Fj (bodyOf (aM (ar pw 52) 9)) t}:=⟨_,(ai (cp (ji (fm fi (bk (k:=76) aV rfl (ag (i:=0) rfl)))) (ai (bO (cR (k:=79) rfl rfl aV rfl rfl rfl (bk (k:=78) aV rfl (ag (i:=0) rfl)) aD aQ))
 aH) (ai (bO (a' (i:=6) rfl (by kernel_rfl) rfl rfl (ak rfl (bk (k:=9) aV rfl (ag (i:=0) rfl)) aD) aQ))
 aH))
 aH)⟩
noncomputable def Fl:SC:=⟨nm,b7,[.ofString "self"],b6 (aM (ar pw 52) 10),false⟩
noncomputable def S0:{t:br//bQ Fl (bodyOf (aM (ar pw 52) 10)) t}:=⟨_,(ai (cp (fm fi (bk (k:=76) aV rfl (ag (i:=0) rfl))) (ai (bO (aw rfl))
 aH) (ai (bO (jh rfl (cR (k:=79) rfl rfl aV rfl rfl rfl (bk (k:=78) aV rfl (ag (i:=0) rfl)) aD aQ) (bk (k:=55) aV rfl (ag (i:=0) rfl))))
 aH))
 aH)⟩
noncomputable def Fm:SC:=⟨nm,b7,[.ofString "value",.ofString "size"],b6 (ar pw 55),false⟩
noncomputable def S1:{t:br//bQ Fm (bodyOf (ar pw 55)) t}:=⟨_,(ai (bO (cR (k:=2) rfl rfl aV rfl rfl rfl (a9 (ag (i:=0) rfl) (a9 (aw rfl) (a9 (aw rfl) (ag (i:=1) rfl)))) (ak rfl (ag (i:=1) rfl) (ak rfl (aw rfl) aD)) aQ))
 aH)⟩
noncomputable def Fn:SC:=⟨nm,b7,[.ofString "self"],b6 (aM (ar pw 42) 8),false⟩
noncomputable def S2:{t:br//bQ Fn (bodyOf (aM (ar pw 42) 8)) t}:=⟨_,(ai (bO (a9 (bk (k:=17) aV rfl (ag (i:=0) rfl)) (bk (k:=18) aV rfl (ag (i:=0) rfl))))
 aH)⟩
noncomputable def Fo:SC:=⟨nm,b7,[.ofString "self"],b6 (aM (ar pw 42) 19),false⟩
noncomputable def S3:{t:br//bQ Fo (bodyOf (aM (ar pw 42) 19)) t}:=⟨_,(ai (bO (da (bk (k:=10) aV rfl (ag (i:=0) rfl)) (aw rfl)))
 aH)⟩
noncomputable def Fp:SC:=⟨nm,b7,[.ofString "self"],b6 (aM (ar pw 45) 3),false⟩
noncomputable def Fq:{t:br//bQ Fp (bodyOf (aM (ar pw 45) 3)) t}:=⟨_,(ai (bO (bk (k:=57) aV rfl (ag (i:=0) rfl)))
 aH)⟩
noncomputable def Fs:SC:=⟨nm,b7,[.ofString "self"],b6 (aM (ar pw 46) 1),false⟩
noncomputable def S4:{t:br//bQ Fs (bodyOf (aM (ar pw 46) 1)) t}:=⟨_,(ai (bO (bk (k:=47) aV rfl (ag (i:=0) rfl)))
 aH)⟩
noncomputable def Ft:SC:=⟨nm,b7,[.ofString "self"],b6 (aM (ar pw 46) 3),false⟩
noncomputable def S5:{t:br//bQ Ft (bodyOf (aM (ar pw 46) 3)) t}:=⟨_,(ai (bO (bk (k:=67) aV rfl (ag (i:=0) rfl)))
 aH)⟩
end
section
set_option maxRecDepth 100000
set_option maxHeartbeats 0
noncomputable def pq:SC:=⟨nm,b7,[.ofString "batch",.ofString "told",.ofString "size",.ofString "base",.ofString "place",.ofString "last",.ofString "rows",.ofString "due",.ofString "found",.ofString "offset",.ofString "record"],b6 (ar pw 64),false⟩
@[irreducible]noncomputable def C_law_read_2:{t:br//dt pq (d4 (bodyOf (ar pw 64)) 2) t}:=e6 ⟨_,(a6 bG aL (mW (b2 rfl (ag (i:=4) rfl) (aw rfl)) (iB (aw rfl)) (a9 (a9 (ag (i:=4) rfl) (eE (k:=85) rfl (ag (i:=1) rfl))) (a9 (aw rfl) (aw rfl)))) (bl (i:=5) rfl))⟩
noncomputable def ps:b1:=d4 (bodyOf (ar pw 64)) 9
noncomputable def Fu:{t:br//bQ pq ((bodyOf (ar pw 64)).take 9) t}:=⟨_,(ai (a6 bG aL (eE (k:=90) rfl (ag (i:=1) rfl)) (bl (i:=3) rfl))
 (ai (a6 bG aL (eE (k:=86) rfl (ag (i:=1) rfl)) (bl (i:=4) rfl))
 (ai C_law_read_2.2
 (ai (a6 bG aL (kI (ak rfl (bk (k:=17) aV rfl (ag (i:=0) rfl)) (ak rfl (bk (k:=98) aV rfl (ag (i:=0) rfl)) (ak rfl (bk (k:=103) aV rfl (ag (i:=0) rfl)) (ak rfl (bk (k:=104) aV rfl (ag (i:=0) rfl)) (ak rfl (bk (k:=19) aV rfl (ag (i:=0) rfl)) (ak rfl (bk (k:=97) aV rfl (ag (i:=0) rfl)) (ak rfl (bk (k:=31) aV rfl (ag (i:=0) rfl)) aD)))))))) (bl (i:=6) rfl))
 (ai (a6 bG aL (ug (ag (i:=6) rfl) (h4 (ak rfl (bk (k:=37) aV rfl (ag (i:=0) rfl)) (ak rfl (bk (k:=105) aV rfl (ag (i:=0) rfl)) (ak rfl (bk (k:=36) aV rfl (ag (i:=0) rfl)) (ak rfl (bk (k:=40) aV rfl (ag (i:=0) rfl)) (ak rfl (bk (k:=39) aV rfl (ag (i:=0) rfl)) aD))))))) (bl (i:=6) rfl))
 (ai (a6 bG aL (ug (ag (i:=6) rfl) (h4 (ak rfl (bk (k:=25) aV rfl (ag (i:=0) rfl)) (ak rfl (cR (k:=112) rfl rfl aV rfl rfl rfl (ag (i:=0) rfl) aD aQ) (ak rfl (bk (k:=81) aV rfl (ag (i:=0) rfl)) (ak rfl (bk (k:=27) aV rfl (ag (i:=0) rfl)) (ak rfl (bk (k:=106) aV rfl (ag (i:=0) rfl)) (ak rfl (bk (k:=107) aV rfl (ag (i:=0) rfl)) aD)))))))) (bl (i:=6) rfl))
 (ai (a6 bG aL (kI (ak rfl (ag (i:=3) rfl) (ak rfl (ag (i:=2) rfl) (ak rfl (eE (k:=91) rfl (ag (i:=1) rfl)) (ak rfl (aw rfl) (ak rfl (a9 (ag (i:=3) rfl) (eE (k:=85) rfl (ag (i:=1) rfl))) (ak rfl (a9 (a9 (ag (i:=3) rfl) (eE (k:=85) rfl (ag (i:=1) rfl))) (aw rfl)) (ak rfl (eE (k:=94) rfl (ag (i:=1) rfl)) (ak rfl (a' (i:=9) rfl (by kernel_rfl) rfl rfl (ak rfl (eE (k:=92) rfl (ag (i:=1) rfl)) aD) aQ) (ak rfl (eE (k:=93) rfl (ag (i:=1) rfl)) (ak rfl (aw rfl) aD))))))))))) (bl (i:=7) rfl))
 (ai (a6 bG aL (ug (ag (i:=7) rfl) (h4 (ak rfl (eE (k:=83) rfl (ag (i:=1) rfl)) (ak rfl (eE (k:=82) rfl (ag (i:=1) rfl)) (ak rfl (eE (k:=88) rfl (ag (i:=1) rfl)) (ak rfl (jh rfl (eE (k:=88) rfl (ag (i:=1) rfl)) (aw rfl)) (ak rfl (eE (k:=87) rfl (ag (i:=1) rfl)) (ak rfl (ag (i:=4) rfl) (ak rfl (jh rfl (ag (i:=4) rfl) (aw rfl)) (ak rfl (ag (i:=5) rfl) aD)))))))))) (bl (i:=7) rfl))
 (ai (cp (h5 (fA (DN rfl (ag (i:=6) rfl) (ag (i:=7) rfl)) (fA (b2 rfl (bk (k:=108) aV rfl (ag (i:=0) rfl)) (eE (k:=84) rfl (ag (i:=1) rfl))) (fA (ji (fm fi (cR (k:=113) rfl rfl aV rfl rfl rfl (ag (i:=0) rfl) aD aQ))) kg)))) (ai (bO (aw rfl))
 aH) aH)
 aH)))))))))⟩
noncomputable def yG:{t:br//bQ pq ((bodyOf (ar pw 64)).drop 10) t}:=⟨_,(ai (a6 bG aL (kI aD) (bl (i:=7) rfl))
 (ai (kh iQ (eE (k:=89) rfl (ag (i:=1) rfl)) (jT rfl (fb (bl (i:=9) rfl) (fb (bl (i:=10) rfl) jS))) (ai (dF aL (cR (k:=0) rfl rfl aV rfl rfl rfl (ag (i:=7) rfl) (ak rfl (ke (ak rfl (a9 (ag (i:=3) rfl) (ag (i:=9) rfl)) (ak rfl (mW (fm fi (eE (k:=92) rfl (ag (i:=1) rfl))) (eE (k:=82) rfl (ag (i:=1) rfl)) (da (ag (i:=10) rfl) (aw rfl))) (ak rfl (a' (i:=9) rfl (by kernel_rfl) rfl rfl (ak rfl (eE (k:=92) rfl (ag (i:=1) rfl)) aD) aQ) (ak rfl (da (ag (i:=10) rfl) (aw rfl)) (ak rfl (da (ag (i:=10) rfl) (aw rfl)) (ak rfl (da (ag (i:=10) rfl) (aw rfl)) aD))))))) aD) aQ))
 aH))
 (ai (bO (QR rfl (ag (i:=8) rfl) (ag (i:=7) rfl)))
 aH)))⟩
noncomputable def u7:{t:TE//cA (pq.comp (Ey ps) [] (.ofString "one")) (Ex ps) t}:=⟨_,(ke (ak rfl (bk (k:=101) aV rfl (ag (i:=0) rfl)) (ak rfl (bk (k:=102) aV rfl (ag (i:=0) rfl)) (ak rfl (bk (k:=37) aV rfl (ag (i:=0) rfl)) (ak rfl (bk (k:=109) aV rfl (ag (i:=0) rfl)) (ak rfl (bk (k:=110) aV rfl (ag (i:=0) rfl)) (ak rfl (bk (k:=111) aV rfl (ag (i:=0) rfl)) aD)))))))⟩
noncomputable def S6:{t:TE//cA pq (Ez ps) t}:=⟨_,(ag (i:=0) rfl)⟩
noncomputable def Fv:{t:iy//k3 pq (Sb ps) t}:=⟨_,(bl (i:=8) rfl)⟩
noncomputable def Fw:SC:=⟨nm,b7,[.ofString "self",.ofString "magic",.ofString "compression_type",.ofString "is_transactional",.ofString "producer_id",.ofString "producer_epoch",.ofString "base_sequence",.ofString "batch_size"],b6 (aM (ar pw 45) 1),false⟩
noncomputable def S7:{t:br//bQ Fw (bodyOf (aM (ar pw 45) 1)) t}:=⟨_,(ai (mY (b2 rfl (ag (i:=1) rfl) (aw rfl)))
 (ai (a6 cT aL (ag (i:=1) rfl) (cU (k:=53) rfl (ag (i:=0) rfl)))
 (ai (a6 cT aL (a9 (ag (i:=2) rfl) (bk (k:=21) aV rfl (ag (i:=0) rfl))) (cU (k:=54) rfl (ag (i:=0) rfl)))
 (ai (a6 cT aL (ag (i:=7) rfl) (cU (k:=55) rfl (ag (i:=0) rfl)))
 (ai (a6 cT aL (a' (i:=14) rfl (by kernel_rfl) rfl rfl (ak rfl (ag (i:=3) rfl) aD) aQ) (cU (k:=56) rfl (ag (i:=0) rfl)))
 (ai (a6 cT aL (ag (i:=4) rfl) (cU (k:=57) rfl (ag (i:=0) rfl)))
 (ai (a6 cT aL (ag (i:=5) rfl) (cU (k:=58) rfl (ag (i:=0) rfl)))
 (ai (a6 cT aL (ag (i:=6) rfl) (cU (k:=59) rfl (ag (i:=0) rfl)))
 (ai (a6 cT aL (aw rfl) (cU (k:=60) rfl (ag (i:=0) rfl)))
 (ai (a6 cT aL (aw rfl) (cU (k:=61) rfl (ag (i:=0) rfl)))
 (ai (a6 cT aL (aw rfl) (cU (k:=62) rfl (ag (i:=0) rfl)))
 (ai (a6 cT aL (aw rfl) (cU (k:=13) rfl (ag (i:=0) rfl)))
 (ai (a6 cT aL (a' (i:=12) rfl (by kernel_rfl) rfl rfl (ak rfl (bk (k:=12) aV rfl (ag (i:=0) rfl)) aD) aQ) (cU (k:=9) rfl (ag (i:=0) rfl)))
 aH)))))))))))))⟩
noncomputable def Fx:SC:=⟨nm,b7,[.ofString "mark",.ofString "data",.ofString "out",.ofString "k",.ofString "n"],b6 (ar pw 22),false⟩
noncomputable def S8:{t:br//bQ Fx (bodyOf (ar pw 22)) t}:=⟨_,(ai (a6 bG aL (kI (ak rfl (ag (i:=0) rfl) aD)) (bl (i:=2) rfl))
 (ai (a6 bG aL (aw rfl) (bl (i:=3) rfl))
 (ai (o1 (b2 rfl (ag (i:=3) rfl) (a' (i:=6) rfl (by kernel_rfl) rfl rfl (ak rfl (ag (i:=1) rfl) aD) aQ)) (ai (a6 bG aL (aw rfl) (bl (i:=4) rfl))
 (ai (o1 (h5 (kJ (b2 rfl (ag (i:=4) rfl) (aw rfl)) (kJ (b2 rfl (a9 (ag (i:=3) rfl) (ag (i:=4) rfl)) (a' (i:=6) rfl (by kernel_rfl) rfl rfl (ak rfl (ag (i:=1) rfl) aD) aQ)) (kJ (b2 rfl (da (ag (i:=1) rfl) (a9 (ag (i:=3) rfl) (ag (i:=4) rfl))) (da (ag (i:=1) rfl) (ag (i:=3) rfl))) qb)))) (ai (hE (i:=4) rfl (aw rfl))
 aH))
 (ai (dF aL (cR (k:=0) rfl rfl aV rfl rfl rfl (ag (i:=2) rfl) (ak rfl (ag (i:=4) rfl) aD) aQ))
 (ai (dF aL (cR (k:=0) rfl rfl aV rfl rfl rfl (ag (i:=2) rfl) (ak rfl (da (ag (i:=1) rfl) (ag (i:=3) rfl)) aD) aQ))
 (ai (hE (i:=3) rfl (ag (i:=4) rfl))
 aH))))))
 (ai (bO (a' (i:=8) rfl (by kernel_rfl) rfl rfl (ak rfl (ag (i:=2) rfl) aD) aQ))
 aH))))⟩
noncomputable def Fy:SC:=⟨nm,b7,[.ofString "self",.ofString "size_in_bytes",.ofString "offset",.ofString "timestamp",.ofString "timestamp_type",.ofString "key",.ofString "value",.ofString "headers"],b6 (aM (ar pw 43) 0),false⟩
noncomputable def S9:{t:br//bQ Fy (bodyOf (aM (ar pw 43) 0)) t}:=⟨_,(ai (a6 cT aL (ag (i:=1) rfl) (cU (k:=46) rfl (ag (i:=0) rfl)))
 (ai (a6 cT aL (ag (i:=2) rfl) (cU (k:=47) rfl (ag (i:=0) rfl)))
 (ai (a6 cT aL (ag (i:=3) rfl) (cU (k:=48) rfl (ag (i:=0) rfl)))
 (ai (a6 cT aL (ag (i:=4) rfl) (cU (k:=49) rfl (ag (i:=0) rfl)))
 (ai (a6 cT aL (ag (i:=5) rfl) (cU (k:=50) rfl (ag (i:=0) rfl)))
 (ai (a6 cT aL (ag (i:=6) rfl) (cU (k:=51) rfl (ag (i:=0) rfl)))
 (ai (a6 cT aL (ag (i:=7) rfl) (cU (k:=52) rfl (ag (i:=0) rfl)))
 aH)))))))⟩
noncomputable def Fz:SC:=⟨nm,b7,[.ofString "self",.ofString "crc",.ofString "data_view",.ofString "verify_crc"],b6 (aM (ar pw 42) 28),false⟩
noncomputable def S':{t:br//bQ Fz (bodyOf (aM (ar pw 42) 28)) t}:=⟨_,(ai (mY (b2 rfl (bk (k:=15) aV rfl (ag (i:=0) rfl)) (aw rfl)))
 (ai (a6 bG aL (bk (k:=44) aV rfl (ag (i:=0) rfl)) (bl (i:=1) rfl))
 (ai (a6 bG aL (a' (i:=8) rfl (by kernel_rfl) rfl rfl (ak rfl (kk (bk (k:=9) aV rfl (ag (i:=0) rfl)) (hD (bk (k:=45) aV rfl (ag (i:=0) rfl))) oX) aD) aQ) (bl (i:=2) rfl))
 (ai (a6 bG aL (a' (i:=22) rfl (by kernel_rfl) rfl rfl (ak rfl (ag (i:=2) rfl) aD) aQ) (bl (i:=3) rfl))
 (ai (bO (jh rfl (ag (i:=1) rfl) (ag (i:=3) rfl)))
 aH)))))⟩
noncomputable def FA:SC:=⟨nm,b7,[.ofString "self",.ofString "base",.ofString "increment"],b6 (aM (ar pw 42) 22),false⟩
noncomputable def Ta:{t:br//bQ FA (bodyOf (aM (ar pw 42) 22)) t}:=⟨_,(ai (cp (b2 rfl (ag (i:=1) rfl) (a9 (bk (k:=30) aV rfl (ag (i:=0) rfl)) (ag (i:=2) rfl))) (ai (bO (a9 (a9 (ag (i:=2) rfl) (a9 (bk (k:=30) aV rfl (ag (i:=0) rfl)) (ag (i:=1) rfl))) (aw rfl)))
 aH) aH)
 (ai (bO (a9 (ag (i:=1) rfl) (ag (i:=2) rfl)))
 aH))⟩
noncomputable def FC:SC:=⟨nm,b7,[.ofString "octets"],b6 (ar pw 58),false⟩
noncomputable def Tb:{t:br//bQ FC (bodyOf (ar pw 58)) t}:=⟨_,(ai (bO (mW (b2 rfl (ag (i:=0) rfl) (aw rfl)) (a' (i:=40) rfl (by kernel_rfl) rfl rfl (ak rfl (iB (aw rfl)) aD) aQ) (a9 (a' (i:=40) rfl (by kernel_rfl) rfl rfl (ak rfl (a' (i:=6) rfl (by kernel_rfl) rfl rfl (ak rfl (ag (i:=0) rfl) aD) aQ) aD) aQ) (ag (i:=0) rfl))))
 aH)⟩
noncomputable def FD:SC:=⟨nm,b7,[.ofString "self"],b6 (aM (ar pw 45) 11),false⟩
noncomputable def Tc:{t:br//bQ FD (bodyOf (aM (ar pw 45) 11)) t}:=⟨_,(ai (bO (a' (i:=6) rfl (by kernel_rfl) rfl rfl (ak rfl (bk (k:=9) aV rfl (ag (i:=0) rfl)) aD) aQ))
 aH)⟩
noncomputable def FE:SC:=⟨nm,b7,[.ofString "self"],b6 (aM (ar pw 42) 7),false⟩
noncomputable def Td:{t:br//bQ FE (bodyOf (aM (ar pw 42) 7)) t}:=⟨_,(ai (bO (da (bk (k:=10) aV rfl (ag (i:=0) rfl)) (aw rfl)))
 aH)⟩
noncomputable def FF:SC:=⟨nm,b7,[.ofString "self"],b6 (aM (ar pw 45) 5),false⟩
noncomputable def FG:{t:br//bQ FF (bodyOf (aM (ar pw 45) 5)) t}:=⟨_,(ai (bO (bk (k:=59) aV rfl (ag (i:=0) rfl)))
 aH)⟩
noncomputable def FH:SC:=⟨nm,b7,[.ofString "self"],b6 (aM (ar pw 42) 4),false⟩
noncomputable def Te:{t:br//bQ FH (bodyOf (aM (ar pw 42) 4)) t}:=⟨_,(ai (bO (da (bk (k:=10) aV rfl (ag (i:=0) rfl)) (aw rfl)))
 aH)⟩
noncomputable def FI:SC:=⟨nm,b7,[.ofString "self"],b6 (aM (ar pw 42) 5),false⟩
noncomputable def Tf:{t:br//bQ FI (bodyOf (aM (ar pw 42) 5)) t}:=⟨_,(ai (bO (da (bk (k:=10) aV rfl (ag (i:=0) rfl)) (aw rfl)))
 aH)⟩
noncomputable def FJ:SC:=⟨nm,b7,[.ofString "data"],b6 (ar pw 31),false⟩
noncomputable def Tg:{t:br//bQ FJ (bodyOf (ar pw 31)) t}:=⟨_,(ai (bO (a' (i:=11) rfl (by kernel_rfl) rfl rfl (ak rfl (aw rfl) (ak rfl (ag (i:=0) rfl) aD)) aQ))
 aH)⟩
noncomputable def FK:SC:=⟨nm,b7,[.ofString "crc"],b6 (ar pw 6),false⟩
noncomputable def Th:{t:br//bQ FK (bodyOf (ar pw 6)) t}:=⟨_,(ai (bO (a9 (ag (i:=0) rfl) (h3 (i:=0) rfl (by kernel_rfl))))
 aH)⟩
end
section
set_option maxRecDepth 100000
set_option maxHeartbeats 0
noncomputable def nh:SC:=⟨nm,b7,[.ofString "script",.ofString "hand",.ofString "octets",.ofString "due",.ofString "turn",.ofString "made",.ofString "cut",.ofString "records",.ofString "whole",.ofString "valid",.ofString "end",.ofString "size",.ofString "told"],b6 (ar pw 65),true⟩
@[irreducible]noncomputable def C_law_3:{t:br//dt nh (d4 (bodyOf (ar pw 65)) 3) t}:=e6 ⟨_,(kh iQ (a' (i:=7) rfl (by kernel_rfl) rfl rfl (ak rfl (aw rfl) aD) aQ) (bl (i:=4) rfl) (ai (a6 bG aL (a' (i:=51) rfl (by kernel_rfl) rfl rfl (ak rfl (ag (i:=1) rfl) (ak rfl (jh rfl (ag (i:=4) rfl) (aw rfl)) aD)) aQ) (bl (i:=5) rfl))
 (ai (cp (b2 rfl (ag (i:=5) rfl) (aw rfl)) (ai (bO (aw rfl))
 aH) aH)
 (ai (a6 bG aL (a9 (ag (i:=2) rfl) (da (ag (i:=5) rfl) (aw rfl))) (bl (i:=2) rfl))
 (ai (dF aL (cR (k:=0) rfl rfl aV rfl rfl rfl (ag (i:=3) rfl) (ak rfl (ke (ak rfl (a' (i:=6) rfl (by kernel_rfl) rfl rfl (ak rfl (ag (i:=2) rfl) aD) aQ) (ak rfl (a' (i:=6) rfl (by kernel_rfl) rfl rfl (ak rfl (da (ag (i:=5) rfl) (aw rfl)) aD) aQ) (ak rfl (da (ag (i:=5) rfl) (aw rfl)) aD)))) aD) aQ))
 aH)))))⟩
@[irreducible]noncomputable def C_law_4:{t:br//dt nh (d4 (bodyOf (ar pw 65)) 4) t}:=e6 ⟨_,(a6 bG aL (a9 (a' (i:=6) rfl (by kernel_rfl) rfl rfl (ak rfl (ag (i:=2) rfl) aD) aQ) (da (h4 (ak rfl (aw rfl) (ak rfl (aw rfl) (ak rfl (a' (i:=41) rfl (by kernel_rfl) rfl rfl (ak rfl (ag (i:=1) rfl) (ak rfl (a9 (a' (i:=6) rfl (by kernel_rfl) rfl rfl (ak rfl (ag (i:=2) rfl) aD) aQ) (aw rfl)) aD)) aQ) (ak rfl (da (da (ag (i:=3) rfl) (aw rfl)) (aw rfl)) aD))))) (a' (i:=41) rfl (by kernel_rfl) rfl rfl (ak rfl (ag (i:=1) rfl) (ak rfl (aw rfl) aD)) aQ))) (bl (i:=6) rfl))⟩
@[irreducible]noncomputable def C_law_6:{t:br//dt nh (d4 (bodyOf (ar pw 65)) 6) t}:=e6 ⟨_,(Dk (cn:=some _) (tc:=some _) (is:=[6]) (fr:=[.ofString "cut"]) iQ (by kernel_rfl) (by kernel_rfl) rfl (by kernel_rfl) (ag (i:=3) rfl) (ag (i:=1) rfl) (b2 rfl (da (ag (i:=1) rfl) (aw rfl)) (ag (i:=0) rfl)) (bl (i:=8) rfl))⟩
@[irreducible]noncomputable def C_law_7:{t:br//dt nh (d4 (bodyOf (ar pw 65)) 7) t}:=e6 ⟨_,(a6 bG aL (a' (i:=53) rfl (by kernel_rfl) rfl rfl (ak rfl (Dj (cn:=none) (tc:=none) (is:=[]) (fr:=[]) iQ (by kernel_rfl) (by kernel_rfl) rfl (ag (i:=8) rfl) (da (ag (i:=0) rfl) (aw rfl)) trivial) aD) aQ) (bl (i:=9) rfl))⟩
@[irreducible]noncomputable def C_law_8:{t:br//dt nh (d4 (bodyOf (ar pw 65)) 8) t}:=e6 ⟨_,(cp (h5 (fA (b2 rfl (cR (k:=98) rfl rfl aV rfl rfl rfl (ag (i:=7) rfl) aD aQ) (ag (i:=6) rfl)) (fA (b2 rfl (cR (k:=114) rfl rfl aV rfl rfl rfl (ag (i:=7) rfl) aD aQ) (ag (i:=9) rfl)) kg))) (ai (bO (aw rfl))
 aH) aH)⟩
@[irreducible]noncomputable def C_law_9_b_0:{t:br//dt nh (d4 (subB (d4 (bodyOf (ar pw 65)) 9)) 0) t}:=e6 ⟨_,(Ru (i:=54) rfl rfl (by kernel_rfl) rfl (ji (fm fi (cR (k:=115) rfl rfl aV rfl rfl rfl (ag (i:=7) rfl) aD aQ))) (ak rfl (cR (k:=116) rfl rfl aV rfl rfl rfl (ag (i:=7) rfl) aD aQ) (ak rfl (ag (i:=12) rfl) (ak rfl (ag (i:=11) rfl) aD))))⟩
@[irreducible]noncomputable def C_law_9:{t:br//dt nh (d4 (bodyOf (ar pw 65)) 9) t}:=e6 ⟨_,(kh iQ (ag (i:=8) rfl) (jT rfl (fb (bl (i:=10) rfl) (fb (bl (i:=11) rfl) (fb (bl (i:=12) rfl) jS)))) (ai C_law_9_b_0.2
 aH))⟩
@[irreducible]noncomputable def C_law_10:{t:br//dt nh (d4 (bodyOf (ar pw 65)) 10) t}:=e6 ⟨_,(bO (r3 (uh (iB (cR (k:=115) rfl rfl aV rfl rfl rfl (ag (i:=7) rfl) aD aQ)) (uh (jh rfl (cR (k:=116) rfl rfl aV rfl rfl rfl (ag (i:=7) rfl) aD aQ) (aw rfl)) (r2 (jh rfl (cR (k:=114) rfl rfl aV rfl rfl rfl (ag (i:=7) rfl) aD aQ) (ag (i:=9) rfl)))))))⟩
noncomputable def Ti:{t:br//bQ nh (bodyOf (ar pw 65)) t}:=⟨_,(ai (a6 bG aL (kI (ak rfl (ag (i:=0) rfl) (ak rfl (aw rfl) aD))) (bl (i:=1) rfl))
 (ai (a6 bG aL (aw rfl) (bl (i:=2) rfl))
 (ai (a6 bG aL (kI aD) (bl (i:=3) rfl))
 (ai C_law_3.2
 (ai C_law_4.2
 (ai (a6 bG aL (a' (i:=52) rfl (by kernel_rfl) rfl rfl (ak rfl (kk (ag (i:=2) rfl) oX (hD (ag (i:=6) rfl))) aD) aQ) (bl (i:=7) rfl))
 (ai C_law_6.2
 (ai C_law_7.2
 (ai C_law_8.2
 (ai C_law_9.2
 (ai C_law_10.2
 aH)))))))))))⟩
noncomputable def FL:SC:=⟨nm,b7,[.ofString "self",.ofString "use_compression_type",.ofString "batch_len",.ofString "crc"],b6 (aM (ar pw 45) 8),false⟩
noncomputable def Tj:{t:br//bQ FL (bodyOf (aM (ar pw 45) 8)) t}:=⟨_,(ai (a6 bG aL (a' (i:=6) rfl (by kernel_rfl) rfl rfl (ak rfl (bk (k:=9) aV rfl (ag (i:=0) rfl)) aD) aQ) (bl (i:=2) rfl))
 (ai (dF aL (a' (i:=27) rfl (by kernel_rfl) rfl rfl (ak rfl (bk (k:=9) aV rfl (ag (i:=0) rfl)) (ak rfl (aw rfl) (ak rfl (a' (i:=28) rfl (by kernel_rfl) rfl rfl (ak rfl (ke (ak rfl (aw rfl) (ak rfl (a9 (ag (i:=2) rfl) (bk (k:=16) aV rfl (ag (i:=0) rfl))) (ak rfl (aw rfl) (ak rfl (bk (k:=53) aV rfl (ag (i:=0) rfl)) (ak rfl (aw rfl) (ak rfl (cR (k:=64) rfl rfl aV rfl rfl rfl (ag (i:=0) rfl) (ak rfl (ag (i:=1) rfl) aD) aQ) (ak rfl (bk (k:=62) aV rfl (ag (i:=0) rfl)) (ak rfl (r3 (BE (bk (k:=60) aV rfl (ag (i:=0) rfl)) (r2 (aw rfl)))) (ak rfl (r3 (BE (bk (k:=61) aV rfl (ag (i:=0) rfl)) (r2 (aw rfl)))) (ak rfl (bk (k:=57) aV rfl (ag (i:=0) rfl)) (ak rfl (bk (k:=58) aV rfl (ag (i:=0) rfl)) (ak rfl (bk (k:=59) aV rfl (ag (i:=0) rfl)) (ak rfl (bk (k:=13) aV rfl (ag (i:=0) rfl)) aD)))))))))))))) aD) aQ) aD))) aQ))
 (ai (a6 bG aL (a' (i:=22) rfl (by kernel_rfl) rfl rfl (ak rfl (a' (i:=8) rfl (by kernel_rfl) rfl rfl (ak rfl (kk (bk (k:=9) aV rfl (ag (i:=0) rfl)) (hD (bk (k:=45) aV rfl (ag (i:=0) rfl))) oX) aD) aQ) aD) aQ) (bl (i:=3) rfl))
 (ai (dF aL (a' (i:=27) rfl (by kernel_rfl) rfl rfl (ak rfl (bk (k:=9) aV rfl (ag (i:=0) rfl)) (ak rfl (bk (k:=63) aV rfl (ag (i:=0) rfl)) (ak rfl (a' (i:=29) rfl (by kernel_rfl) rfl rfl (ak rfl (ag (i:=3) rfl) (ak rfl (aw rfl) (ak rfl (aw rfl) aD))) aQ) aD))) aQ))
 aH))))⟩
noncomputable def FN:SC:=⟨nm,b7,[.ofString "self"],b6 (aM (ar pw 52) 8),false⟩
noncomputable def Tn:{t:br//bQ FN (bodyOf (aM (ar pw 52) 8)) t}:=⟨_,(ai (cp (ji (fm fi (bk (k:=76) aV rfl (ag (i:=0) rfl)))) (ai (a6 cT aL (cR (k:=79) rfl rfl aV rfl rfl rfl (bk (k:=78) aV rfl (ag (i:=0) rfl)) aD aQ) (cU (k:=77) rfl (ag (i:=0) rfl)))
 (ai (a6 cT aL (cR (k:=80) rfl rfl aV rfl rfl rfl (bk (k:=78) aV rfl (ag (i:=0) rfl)) aD aQ) (cU (k:=9) rfl (ag (i:=0) rfl)))
 (ai (cp (b2 rfl (bk (k:=53) aV rfl (ag (i:=0) rfl)) (aw rfl)) (ai (a6 cT aL (bk (k:=25) aV rfl (bk (k:=78) aV rfl (ag (i:=0) rfl))) (cU (k:=57) rfl (ag (i:=0) rfl)))
 (ai (a6 cT aL (bk (k:=81) aV rfl (bk (k:=78) aV rfl (ag (i:=0) rfl))) (cU (k:=58) rfl (ag (i:=0) rfl)))
 (ai (a6 cT aL (bk (k:=27) aV rfl (bk (k:=78) aV rfl (ag (i:=0) rfl))) (cU (k:=59) rfl (ag (i:=0) rfl)))
 aH))) aH)
 (ai (a6 cT aL (aw rfl) (cU (k:=78) rfl (ag (i:=0) rfl)))
 aH)))) aH)
 (ai (a6 cT aL (aw rfl) (cU (k:=76) rfl (ag (i:=0) rfl)))
 aH))⟩
noncomputable def FO:SC:=⟨nm,b7,[.ofString "mark",.ofString "data",.ofString "out",.ofString "k"],b6 (ar pw 23),false⟩
noncomputable def To:{t:br//bQ FO (bodyOf (ar pw 23)) t}:=⟨_,(ai (cp (h5 (fA (b2 rfl (a9 (a' (i:=6) rfl (by kernel_rfl) rfl rfl (ak rfl (ag (i:=1) rfl) aD) aQ) (aw rfl)) (aw rfl)) (fA (b2 rfl (da (ag (i:=1) rfl) (aw rfl)) (ag (i:=0) rfl)) kg))) (ai jj
 aH) aH)
 (ai (a6 bG aL (kI aD) (bl (i:=2) rfl))
 (ai (kh iQ (a' (i:=7) rfl (by kernel_rfl) rfl rfl (ak rfl (aw rfl) (ak rfl (a' (i:=6) rfl (by kernel_rfl) rfl rfl (ak rfl (ag (i:=1) rfl) aD) aQ) (ak rfl (aw rfl) aD))) aQ) (bl (i:=3) rfl) (ai (Pb (i:=2) rfl (CM (h4 (ak rfl (da (ag (i:=1) rfl) (a9 (ag (i:=3) rfl) (aw rfl))) aD)) (da (ag (i:=1) rfl) (ag (i:=3) rfl))))
 aH))
 (ai (bO (a' (i:=8) rfl (by kernel_rfl) rfl rfl (ak rfl (ag (i:=2) rfl) aD) aQ))
 aH))))⟩
noncomputable def FP:SC:=⟨nm,b7,[.ofString "crc",.ofString "data",.ofString "buf",.ofString "b",.ofString "n"],b6 (ar pw 5),false⟩
noncomputable def Tp:{t:br//bQ FP (bodyOf (ar pw 5)) t}:=⟨_,(ai (a6 bG aL (ag (i:=1) rfl) (bl (i:=2) rfl))
 (ai (hE (i:=0) rfl (h3 (i:=0) rfl (by kernel_rfl)))
 (ai (kh iQ (ag (i:=2) rfl) (bl (i:=3) rfl) (ai (a6 bG aL (a9 (a9 (ag (i:=0) rfl) (ag (i:=3) rfl)) (aw rfl)) (bl (i:=4) rfl))
 (ai (a6 bG aL (a9 (a9 (da (da (h3 (i:=1) rfl (by kernel_rfl)) (a9 (ag (i:=4) rfl) (aw rfl))) (a9 (ag (i:=4) rfl) (aw rfl))) (a9 (ag (i:=0) rfl) (aw rfl))) (h3 (i:=0) rfl (by kernel_rfl))) (bl (i:=0) rfl))
 aH)))
 (ai (bO (a9 (ag (i:=0) rfl) (h3 (i:=0) rfl (by kernel_rfl))))
 aH))))⟩
noncomputable def FQ:SC:=⟨nm,b7,[.ofString "self",.ofString "bytes_data"],b6 (aM (ar pw 51) 4),false⟩
noncomputable def Tq:{t:br//bQ FQ (bodyOf (aM (ar pw 51) 4)) t}:=⟨_,(ai (a6 cT aL (ag (i:=1) rfl) (cU (k:=9) rfl (ag (i:=0) rfl)))
 (ai (a6 cT aL (aw rfl) (cU (k:=11) rfl (ag (i:=0) rfl)))
 (ai (a6 cT aL (aw rfl) (cU (k:=68) rfl (ag (i:=0) rfl)))
 (ai (a6 cT aL (aw rfl) (cU (k:=69) rfl (ag (i:=0) rfl)))
 (ai (dF aL (cR (k:=70) rfl rfl aV rfl rfl rfl (ag (i:=0) rfl) aD aQ))
 aH)))))⟩
noncomputable def FR:SC:=⟨nm,b7,[.ofString "self"],b6 (aM (ar pw 42) 12),false⟩
noncomputable def Tr:{t:br//bQ FR (bodyOf (aM (ar pw 42) 12)) t}:=⟨_,(ai (bO (a' (i:=14) rfl (by kernel_rfl) rfl rfl (ak rfl (a9 (bk (k:=20) aV rfl (ag (i:=0) rfl)) (bk (k:=23) aV rfl (ag (i:=0) rfl))) aD) aQ))
 aH)⟩
noncomputable def FT:SC:=⟨nm,b7,[.ofString "self"],b6 (aM (ar pw 42) 17),false⟩
noncomputable def Ts:{t:br//bQ FT (bodyOf (aM (ar pw 42) 17)) t}:=⟨_,(ai (bO (jh rfl (bk (k:=25) aV rfl (ag (i:=0) rfl)) (bk (k:=26) aV rfl (ag (i:=0) rfl))))
 aH)⟩
noncomputable def FU:SC:=⟨nm,b7,[.ofString "self"],b6 (aM (ar pw 51) 5),false⟩
noncomputable def Tt:{t:br//bQ FU (bodyOf (aM (ar pw 51) 5)) t}:=⟨_,(ai (bO (a' (i:=6) rfl (by kernel_rfl) rfl rfl (ak rfl (bk (k:=9) aV rfl (ag (i:=0) rfl)) aD) aQ))
 aH)⟩
noncomputable def FV:SC:=⟨nm,b7,[.ofString "self"],b6 (aM (ar pw 42) 15),false⟩
noncomputable def Tu:{t:br//bQ FV (bodyOf (aM (ar pw 42) 15)) t}:=⟨_,(ai (bO (da (bk (k:=10) aV rfl (ag (i:=0) rfl)) (aw rfl)))
 aH)⟩
noncomputable def FW:SC:=⟨nm,b7,[.ofString "self"],b6 (aM (ar pw 42) 1),false⟩
noncomputable def Tv:{t:br//bQ FW (bodyOf (aM (ar pw 42) 1)) t}:=⟨_,(ai (bO (da (bk (k:=10) aV rfl (ag (i:=0) rfl)) (aw rfl)))
 aH)⟩
noncomputable def FX:SC:=⟨nm,b7,[.ofString "data"],b6 (ar pw 27),false⟩
noncomputable def Tw:{t:br//bQ FX (bodyOf (ar pw 27)) t}:=⟨_,(ai (bO (a' (i:=11) rfl (by kernel_rfl) rfl rfl (ak rfl (aw rfl) (ak rfl (ag (i:=0) rfl) aD)) aQ))
 aH)⟩
noncomputable def FY:SC:=⟨nm,b7,[.ofString "self"],b6 (aM (ar pw 43) 3),false⟩
noncomputable def Tz:{t:br//bQ FY (bodyOf (aM (ar pw 43) 3)) t}:=⟨_,(ai (bO (bk (k:=48) aV rfl (ag (i:=0) rfl)))
 aH)⟩
noncomputable def FZ:SC:=⟨nm,b7,[.ofString "self"],b6 (aM (ar pw 43) 5),false⟩
noncomputable def TA:{t:br//bQ FZ (bodyOf (aM (ar pw 43) 5)) t}:=⟨_,(ai (bO (bk (k:=50) aV rfl (ag (i:=0) rfl)))
 aH)⟩
end
section
set_option maxRecDepth 100000
set_option maxHeartbeats 0
noncomputable def F0:SC:=⟨nm,b7,[.ofString "value",.ofString "write",.ofString "bits",.ofString "i"],b6 (ar pw 9),false⟩
noncomputable def TB:{t:br//bQ F0 (bodyOf (ar pw 9)) t}:=⟨_,(ai (a6 bG aL (a9 (a9 (ag (i:=0) rfl) (aw rfl)) (a9 (ag (i:=0) rfl) (aw rfl))) (bl (i:=0) rfl))
 (ai (cp (b2 rfl (ag (i:=0) rfl) (aw rfl)) (ai (dF aL (cR (k:=0) rfl rfl aV rfl rfl rfl (ag (i:=1) rfl) (ak rfl (ag (i:=0) rfl) aD) aQ))
 (ai (bO (aw rfl))
 aH)) aH)
 (ai (cp (b2 rfl (ag (i:=0) rfl) (aw rfl)) (ai (dF aL (cR (k:=0) rfl rfl aV rfl rfl rfl (ag (i:=1) rfl) (ak rfl (a9 (aw rfl) (a9 (ag (i:=0) rfl) (aw rfl))) aD) aQ))
 (ai (dF aL (cR (k:=0) rfl rfl aV rfl rfl rfl (ag (i:=1) rfl) (ak rfl (a9 (ag (i:=0) rfl) (aw rfl)) aD) aQ))
 (ai (bO (aw rfl))
 aH))) aH)
 (ai (cp (b2 rfl (ag (i:=0) rfl) (aw rfl)) (ai (dF aL (cR (k:=0) rfl rfl aV rfl rfl rfl (ag (i:=1) rfl) (ak rfl (a9 (aw rfl) (a9 (ag (i:=0) rfl) (aw rfl))) aD) aQ))
 (ai (dF aL (cR (k:=0) rfl rfl aV rfl rfl rfl (ag (i:=1) rfl) (ak rfl (a9 (aw rfl) (a9 (a9 (ag (i:=0) rfl) (aw rfl)) (aw rfl))) aD) aQ))
 (ai (dF aL (cR (k:=0) rfl rfl aV rfl rfl rfl (ag (i:=1) rfl) (ak rfl (a9 (ag (i:=0) rfl) (aw rfl)) aD) aQ))
 (ai (bO (aw rfl))
 aH)))) aH)
 (ai (cp (b2 rfl (ag (i:=0) rfl) (aw rfl)) (ai (dF aL (cR (k:=0) rfl rfl aV rfl rfl rfl (ag (i:=1) rfl) (ak rfl (a9 (aw rfl) (a9 (ag (i:=0) rfl) (aw rfl))) aD) aQ))
 (ai (dF aL (cR (k:=0) rfl rfl aV rfl rfl rfl (ag (i:=1) rfl) (ak rfl (a9 (aw rfl) (a9 (a9 (ag (i:=0) rfl) (aw rfl)) (aw rfl))) aD) aQ))
 (ai (dF aL (cR (k:=0) rfl rfl aV rfl rfl rfl (ag (i:=1) rfl) (ak rfl (a9 (aw rfl) (a9 (a9 (ag (i:=0) rfl) (aw rfl)) (aw rfl))) aD) aQ))
 (ai (dF aL (cR (k:=0) rfl rfl aV rfl rfl rfl (ag (i:=1) rfl) (ak rfl (a9 (ag (i:=0) rfl) (aw rfl)) aD) aQ))
 (ai (bO (aw rfl))
 aH))))) aH)
 (ai (cp (b2 rfl (ag (i:=0) rfl) (aw rfl)) (ai (dF aL (cR (k:=0) rfl rfl aV rfl rfl rfl (ag (i:=1) rfl) (ak rfl (a9 (aw rfl) (a9 (ag (i:=0) rfl) (aw rfl))) aD) aQ))
 (ai (dF aL (cR (k:=0) rfl rfl aV rfl rfl rfl (ag (i:=1) rfl) (ak rfl (a9 (aw rfl) (a9 (a9 (ag (i:=0) rfl) (aw rfl)) (aw rfl))) aD) aQ))
 (ai (dF aL (cR (k:=0) rfl rfl aV rfl rfl rfl (ag (i:=1) rfl) (ak rfl (a9 (aw rfl) (a9 (a9 (ag (i:=0) rfl) (aw rfl)) (aw rfl))) aD) aQ))
 (ai (dF aL (cR (k:=0) rfl rfl aV rfl rfl rfl (ag (i:=1) rfl) (ak rfl (a9 (aw rfl) (a9 (a9 (ag (i:=0) rfl) (aw rfl)) (aw rfl))) aD) aQ))
 (ai (dF aL (cR (k:=0) rfl rfl aV rfl rfl rfl (ag (i:=1) rfl) (ak rfl (a9 (ag (i:=0) rfl) (aw rfl)) aD) aQ))
 (ai (bO (aw rfl))
 aH)))))) (ai (a6 bG aL (a9 (ag (i:=0) rfl) (aw rfl)) (bl (i:=2) rfl))
 (ai (hE (i:=0) rfl (aw rfl))
 (ai (a6 bG aL (aw rfl) (bl (i:=3) rfl))
 (ai (o1 (fm fi (ag (i:=0) rfl)) (ai (dF aL (cR (k:=0) rfl rfl aV rfl rfl rfl (ag (i:=1) rfl) (ak rfl (a9 (aw rfl) (ag (i:=2) rfl)) aD) aQ))
 (ai (a6 bG aL (a9 (ag (i:=0) rfl) (aw rfl)) (bl (i:=2) rfl))
 (ai (hE (i:=0) rfl (aw rfl))
 (ai (hE (i:=3) rfl (aw rfl))
 aH)))))
 aH)))))
 (ai (dF aL (cR (k:=0) rfl rfl aV rfl rfl rfl (ag (i:=1) rfl) (ak rfl (ag (i:=2) rfl) aD) aQ))
 (ai (bO (ag (i:=3) rfl))
 aH))))))))⟩
noncomputable def F1:SC:=⟨nm,b7,[.ofString "self",.ofString "len_offset",.ofString "log_overhead",.ofString "buffer",.ofString "buffer_len",.ofString "pos",.ofString "remaining",.ofString "length",.ofString "slice_end"],b6 (aM (ar pw 51) 7),false⟩
noncomputable def F2:{t:br//bQ F1 (bodyOf (aM (ar pw 51) 7)) t}:=⟨_,(ai (a6 bG aL (bk (k:=71) aV rfl (ag (i:=0) rfl)) (bl (i:=1) rfl))
 (ai (a6 bG aL (bk (k:=72) aV rfl (ag (i:=0) rfl)) (bl (i:=2) rfl))
 (ai (a6 bG aL (bk (k:=9) aV rfl (ag (i:=0) rfl)) (bl (i:=3) rfl))
 (ai (a6 bG aL (a' (i:=6) rfl (by kernel_rfl) rfl rfl (ak rfl (ag (i:=3) rfl) aD) aQ) (bl (i:=4) rfl))
 (ai (a6 bG aL (bk (k:=11) aV rfl (ag (i:=0) rfl)) (bl (i:=5) rfl))
 (ai (a6 bG aL (a9 (ag (i:=4) rfl) (ag (i:=5) rfl)) (bl (i:=6) rfl))
 (ai (cp (b2 rfl (ag (i:=6) rfl) (ag (i:=2) rfl)) (ai (a6 cT aL (ag (i:=6) rfl) (cU (k:=69) rfl (ag (i:=0) rfl)))
 (ai (a6 cT aL (aw rfl) (cU (k:=68) rfl (ag (i:=0) rfl)))
 (ai BQ
 aH))) aH)
 (ai (a6 bG aL (a' (i:=34) rfl (by kernel_rfl) rfl rfl (ak rfl (ag (i:=3) rfl) (ak rfl (a9 (ag (i:=5) rfl) (ag (i:=1) rfl)) (ak rfl (aw rfl) aD))) aQ) (bl (i:=7) rfl))
 (ai (a6 bG aL (a9 (a9 (ag (i:=5) rfl) (ag (i:=2) rfl)) (ag (i:=7) rfl)) (bl (i:=8) rfl))
 (ai (cp (b2 rfl (ag (i:=8) rfl) (ag (i:=4) rfl)) (ai (a6 cT aL (ag (i:=6) rfl) (cU (k:=69) rfl (ag (i:=0) rfl)))
 (ai (a6 cT aL (aw rfl) (cU (k:=68) rfl (ag (i:=0) rfl)))
 (ai BQ
 aH))) aH)
 (ai (a6 cT aL (a' (i:=8) rfl (by kernel_rfl) rfl rfl (ak rfl (kk (ag (i:=3) rfl) (hD (ag (i:=5) rfl)) (hD (ag (i:=8) rfl))) aD) aQ) (cU (k:=68) rfl (ag (i:=0) rfl)))
 (ai (a6 cT aL (ag (i:=8) rfl) (cU (k:=11) rfl (ag (i:=0) rfl)))
 aH))))))))))))⟩
noncomputable def F3:SC:=⟨nm,b7,[.ofString "buffer",.ofString "pos",.ofString "result",.ofString "shift",.ofString "b"],b6 (ar pw 11),false⟩
noncomputable def TC:{t:br//bQ F3 (bodyOf (ar pw 11)) t}:=⟨_,(ai (a6 bG aL (da (ag (i:=0) rfl) (ag (i:=1) rfl)) (bl (i:=2) rfl))
 (ai (cp (ji (fm fi (a9 (ag (i:=2) rfl) (aw rfl)))) (ai (bO (ke (ak rfl (a9 (ag (i:=2) rfl) (aw rfl)) (ak rfl (a9 (ag (i:=1) rfl) (aw rfl)) aD))))
 aH) aH)
 (ai (cp (ji (fm fi (a9 (ag (i:=2) rfl) (aw rfl)))) (ai (bO (ke (ak rfl (a9 (a9 (ag (i:=2) rfl) (aw rfl)) (iB (aw rfl))) (ak rfl (a9 (ag (i:=1) rfl) (aw rfl)) aD))))
 aH) aH)
 (ai (hE (i:=2) rfl (aw rfl))
 (ai (hE (i:=1) rfl (aw rfl))
 (ai (a6 bG aL (aw rfl) (bl (i:=3) rfl))
 (ai (o1 (fm fi (aw rfl)) (ai (a6 bG aL (da (ag (i:=0) rfl) (ag (i:=1) rfl)) (bl (i:=4) rfl))
 (ai (hE (i:=2) rfl (a9 (a9 (ag (i:=4) rfl) (aw rfl)) (ag (i:=3) rfl)))
 (ai (hE (i:=1) rfl (aw rfl))
 (ai (cp (ji (fm fi (a9 (ag (i:=4) rfl) (aw rfl)))) (ai (bO (ke (ak rfl (a9 (a9 (ag (i:=2) rfl) (aw rfl)) (iB (a9 (ag (i:=2) rfl) (aw rfl)))) (ak rfl (ag (i:=1) rfl) aD))))
 aH) aH)
 (ai (hE (i:=3) rfl (aw rfl))
 (ai (cp (b2 rfl (ag (i:=3) rfl) (aw rfl)) (ai jj
 aH) aH)
 aH)))))))
 aH)))))))⟩
noncomputable def F4:SC:=⟨nm,b7,[.ofString "value"],b6 (ar pw 10),false⟩
noncomputable def TF:{t:br//bQ F4 (bodyOf (ar pw 10)) t}:=⟨_,(ai (a6 bG aL (a9 (a9 (ag (i:=0) rfl) (aw rfl)) (a9 (ag (i:=0) rfl) (aw rfl))) (bl (i:=0) rfl))
 (ai (cp (b2 rfl (ag (i:=0) rfl) (aw rfl)) (ai (bO (aw rfl))
 aH) aH)
 (ai (cp (b2 rfl (ag (i:=0) rfl) (aw rfl)) (ai (bO (aw rfl))
 aH) aH)
 (ai (cp (b2 rfl (ag (i:=0) rfl) (aw rfl)) (ai (bO (aw rfl))
 aH) aH)
 (ai (cp (b2 rfl (ag (i:=0) rfl) (aw rfl)) (ai (bO (aw rfl))
 aH) aH)
 (ai (cp (b2 rfl (ag (i:=0) rfl) (aw rfl)) (ai (bO (aw rfl))
 aH) aH)
 (ai (cp (b2 rfl (ag (i:=0) rfl) (aw rfl)) (ai (bO (aw rfl))
 aH) aH)
 (ai (cp (b2 rfl (ag (i:=0) rfl) (aw rfl)) (ai (bO (aw rfl))
 aH) aH)
 (ai (cp (b2 rfl (ag (i:=0) rfl) (aw rfl)) (ai (bO (aw rfl))
 aH) aH)
 (ai (cp (b2 rfl (ag (i:=0) rfl) (aw rfl)) (ai (bO (aw rfl))
 aH) aH)
 (ai (bO (aw rfl))
 aH)))))))))))⟩
noncomputable def F5:SC:=⟨nm,b7,[.ofString "hand",.ofString "many",.ofString "script",.ofString "k",.ofString "n"],b6 (ar pw 54),false⟩
noncomputable def TG:{t:br//bQ F5 (bodyOf (ar pw 54)) t}:=⟨_,(ai (lF aL lE (ag (i:=0) rfl) (jT rfl (fb (bl (i:=2) rfl) (fb (bl (i:=3) rfl) jS))))
 (ai (a6 lA aL (a9 (ag (i:=3) rfl) (aw rfl)) (CK (ag (i:=0) rfl) (aw rfl)))
 (ai (a6 bG aL (a' (i:=6) rfl (by kernel_rfl) rfl rfl (ak rfl (ag (i:=2) rfl) aD) aQ) (bl (i:=4) rfl))
 (ai (cp (b2 rfl (ag (i:=4) rfl) (aw rfl)) (ai (bO (a9 (a9 (a9 (aw rfl) (ag (i:=3) rfl)) (aw rfl)) (ag (i:=1) rfl)))
 aH) aH)
 (ai (bO (a9 (a9 (da (ag (i:=2) rfl) (a9 (ag (i:=3) rfl) (ag (i:=4) rfl))) (a9 (a9 (aw rfl) (ag (i:=3) rfl)) (a9 (ag (i:=3) rfl) (ag (i:=4) rfl)))) (ag (i:=1) rfl)))
 aH)))))⟩
noncomputable def F6:SC:=⟨nm,b7,[.ofString "buf",.ofString "pos",.ofString "octets",.ofString "k"],b6 (ar pw 20),false⟩
noncomputable def TH:{t:br//bQ F6 (bodyOf (ar pw 20)) t}:=⟨_,(ai (cp (b2 rfl (a9 (ag (i:=1) rfl) (a' (i:=6) rfl (by kernel_rfl) rfl rfl (ak rfl (ag (i:=2) rfl) aD) aQ)) (a' (i:=6) rfl (by kernel_rfl) rfl rfl (ak rfl (ag (i:=0) rfl) aD) aQ)) (ai jj
 aH) aH)
 (ai (kh iQ (a' (i:=7) rfl (by kernel_rfl) rfl rfl (ak rfl (a' (i:=6) rfl (by kernel_rfl) rfl rfl (ak rfl (ag (i:=2) rfl) aD) aQ) aD) aQ) (bl (i:=3) rfl) (ai (a6 lA aL (da (ag (i:=2) rfl) (ag (i:=3) rfl)) (CK (ag (i:=0) rfl) (a9 (ag (i:=1) rfl) (ag (i:=3) rfl))))
 aH))
 aH))⟩
noncomputable def F7:SC:=⟨nm,b7,[.ofString "self",.ofString "send_compressed"],b6 (aM (ar pw 45) 10),false⟩
noncomputable def TJ:{t:br//bQ F7 (bodyOf (aM (ar pw 45) 10)) t}:=⟨_,(ai (a6 bG aL (cR (k:=65) rfl rfl aV rfl rfl rfl (ag (i:=0) rfl) aD aQ) (bl (i:=1) rfl))
 (ai (dF aL (cR (k:=66) rfl rfl aV rfl rfl rfl (ag (i:=0) rfl) (ak rfl (ag (i:=1) rfl) aD) aQ))
 (ai (bO (bk (k:=9) aV rfl (ag (i:=0) rfl)))
 aH)))⟩
noncomputable def F8:SC:=⟨nm,b7,[.ofString "self"],b6 (aM (ar pw 42) 13),false⟩
noncomputable def TK:{t:br//bQ F8 (bodyOf (aM (ar pw 42) 13)) t}:=⟨_,(ai (bO (a' (i:=14) rfl (by kernel_rfl) rfl rfl (ak rfl (a9 (bk (k:=20) aV rfl (ag (i:=0) rfl)) (bk (k:=24) aV rfl (ag (i:=0) rfl))) aD) aQ))
 aH)⟩
noncomputable def F9:SC:=⟨nm,b7,[.ofString "self"],b6 (aM (ar pw 42) 20),false⟩
noncomputable def TL:{t:br//bQ F9 (bodyOf (aM (ar pw 42) 20)) t}:=⟨_,(ai (bO (jh rfl (da (bk (k:=10) aV rfl (ag (i:=0) rfl)) (aw rfl)) (iB (aw rfl))))
 aH)⟩
noncomputable def F':SC:=⟨nm,b7,[.ofString "self"],b6 (aM (ar pw 42) 18),false⟩
noncomputable def TM:{t:br//bQ F' (bodyOf (aM (ar pw 42) 18)) t}:=⟨_,(ai (bO (da (bk (k:=10) aV rfl (ag (i:=0) rfl)) (aw rfl)))
 aH)⟩
noncomputable def Ga:SC:=⟨nm,b7,[.ofString "self"],b6 (aM (ar pw 42) 16),false⟩
noncomputable def TN:{t:br//bQ Ga (bodyOf (aM (ar pw 42) 16)) t}:=⟨_,(ai (bO (da (bk (k:=10) aV rfl (ag (i:=0) rfl)) (aw rfl)))
 aH)⟩
noncomputable def Gb:SC:=⟨nm,b7,[.ofString "self"],b6 (aM (ar pw 46) 4),false⟩
noncomputable def TO:{t:br//bQ Gb (bodyOf (aM (ar pw 46) 4)) t}:=⟨_,(ai (bO (bk (k:=48) aV rfl (ag (i:=0) rfl)))
 aH)⟩
noncomputable def Gd:SC:=⟨nm,b7,[.ofString "data"],b6 (ar pw 25),false⟩
noncomputable def TP:{t:br//bQ Gd (bodyOf (ar pw 25)) t}:=⟨_,(ai (bO (a' (i:=11) rfl (by kernel_rfl) rfl rfl (ak rfl (aw rfl) (ak rfl (ag (i:=0) rfl) aD)) aQ))
 aH)⟩
noncomputable def Ge:SC:=⟨nm,b7,[.ofString "self"],b6 (aM (ar pw 43) 2),false⟩
noncomputable def TQ:{t:br//bQ Ge (bodyOf (aM (ar pw 43) 2)) t}:=⟨_,(ai (bO (bk (k:=47) aV rfl (ag (i:=0) rfl)))
 aH)⟩
end
section
set_option maxRecDepth 100000
set_option maxHeartbeats 0
noncomputable def Gf:SC:=⟨nm,b7,[.ofString "self",.ofString "magic",.ofString "compression_type",.ofString "batch_size",.ofString "offset",.ofString "transactional",.ofString "producer_id",.ofString "producer_epoch",.ofString "base_sequence"],b6 (aM (ar pw 52) 0),false⟩
noncomputable def TR:{t:br//bQ Gf (bodyOf (aM (ar pw 52) 0)) t}:=⟨_,(ai (mY (DH rfl (ag (i:=1) rfl) (h4 (ak rfl (aw rfl) (ak rfl (aw rfl) (ak rfl (aw rfl) aD))))))
 (ai (mY (DH rfl (ag (i:=2) rfl) (h4 (ak rfl (aw rfl) (ak rfl (aw rfl) (ak rfl (aw rfl) (ak rfl (aw rfl) (ak rfl (aw rfl) aD))))))))
 (ai (cp (b2 rfl (ag (i:=1) rfl) (aw rfl)) (ai (mY (h5 (fA (ji (fm fi (ag (i:=5) rfl))) (fA (b2 rfl (ag (i:=6) rfl) (iB (aw rfl))) kg))))
 (ai (mY (h5 (fA (b2 rfl (ag (i:=6) rfl) (iB (aw rfl))) (fA (b2 rfl (ag (i:=7) rfl) (iB (aw rfl))) kg))))
 (ai (mY (h5 (fA (b2 rfl (ag (i:=6) rfl) (iB (aw rfl))) (fA (b2 rfl (ag (i:=8) rfl) (iB (aw rfl))) kg))))
 (ai (a6 cT aL (a' (i:=38) rfl (by kernel_rfl) rfl rfl aD (jR (ag (i:=1) rfl) (jR (ag (i:=2) rfl) (jR (ag (i:=5) rfl) (jR (ag (i:=6) rfl) (jR (ag (i:=7) rfl) (jR (ag (i:=8) rfl) (jR (ag (i:=3) rfl) aQ)))))))) (cU (k:=78) rfl (ag (i:=0) rfl)))
 (ai (a6 cT aL (ag (i:=6) rfl) (cU (k:=57) rfl (ag (i:=0) rfl)))
 (ai (a6 cT aL (ag (i:=7) rfl) (cU (k:=58) rfl (ag (i:=0) rfl)))
 (ai (a6 cT aL (ag (i:=8) rfl) (cU (k:=59) rfl (ag (i:=0) rfl)))
 aH))))))) (ai (mY (h5 (kJ (ji (fm fi (ag (i:=5) rfl))) (kJ (b2 rfl (ag (i:=6) rfl) (iB (aw rfl))) qb))))
 (ai (a6 cT aL (a' (i:=39) rfl (by kernel_rfl) rfl rfl aD (jR (ag (i:=1) rfl) (jR (ag (i:=2) rfl) (jR (ag (i:=3) rfl) aQ)))) (cU (k:=78) rfl (ag (i:=0) rfl)))
 (ai (a6 cT aL (aw rfl) (cU (k:=57) rfl (ag (i:=0) rfl)))
 (ai (a6 cT aL (aw rfl) (cU (k:=58) rfl (ag (i:=0) rfl)))
 (ai (a6 cT aL (aw rfl) (cU (k:=59) rfl (ag (i:=0) rfl)))
 aH))))))
 (ai (a6 cT aL (ag (i:=3) rfl) (cU (k:=55) rfl (ag (i:=0) rfl)))
 (ai (a6 cT aL (aw rfl) (cU (k:=9) rfl (ag (i:=0) rfl)))
 (ai (a6 cT aL (ag (i:=4) rfl) (cU (k:=75) rfl (ag (i:=0) rfl)))
 (ai (a6 cT aL (aw rfl) (cU (k:=76) rfl (ag (i:=0) rfl)))
 (ai (a6 cT aL (ag (i:=1) rfl) (cU (k:=53) rfl (ag (i:=0) rfl)))
 (ai (a6 cT aL (aw rfl) (cU (k:=77) rfl (ag (i:=0) rfl)))
 aH)))))))))⟩
noncomputable def Gg:SC:=⟨nm,b7,[.ofString "told",.ofString "base",.ofString "epoch",.ofString "attributes",.ofString "records",.ofString "rest",.ofString "mark"],b6 (ar pw 62),false⟩
noncomputable def TS:{t:br//bQ Gg (bodyOf (ar pw 62)) t}:=⟨_,(ai (a6 bG aL (a9 (a9 (a9 (a' (i:=44) rfl (by kernel_rfl) rfl rfl (ak rfl (ag (i:=3) rfl) (ak rfl (aw rfl) aD)) aQ) (a' (i:=44) rfl (by kernel_rfl) rfl rfl (ak rfl (eE (k:=85) rfl (ag (i:=0) rfl)) (ak rfl (aw rfl) aD)) aQ)) (a' (i:=44) rfl (by kernel_rfl) rfl rfl (ak rfl (eE (k:=83) rfl (ag (i:=0) rfl)) (ak rfl (aw rfl) aD)) aQ)) (a' (i:=44) rfl (by kernel_rfl) rfl rfl (ak rfl (eE (k:=82) rfl (ag (i:=0) rfl)) (ak rfl (aw rfl) aD)) aQ)) (bl (i:=5) rfl))
 (ai (a6 bG aL (a9 (a9 (a9 (a9 (a9 (ag (i:=5) rfl) (a' (i:=44) rfl (by kernel_rfl) rfl rfl (ak rfl (eE (k:=88) rfl (ag (i:=0) rfl)) (ak rfl (aw rfl) aD)) aQ)) (a' (i:=44) rfl (by kernel_rfl) rfl rfl (ak rfl (eE (k:=87) rfl (ag (i:=0) rfl)) (ak rfl (aw rfl) aD)) aQ)) (a' (i:=44) rfl (by kernel_rfl) rfl rfl (ak rfl (eE (k:=86) rfl (ag (i:=0) rfl)) (ak rfl (aw rfl) aD)) aQ)) (a' (i:=44) rfl (by kernel_rfl) rfl rfl (ak rfl (eE (k:=84) rfl (ag (i:=0) rfl)) (ak rfl (aw rfl) aD)) aQ)) (ag (i:=4) rfl)) (bl (i:=5) rfl))
 (ai (a6 bG aL (a' (i:=44) rfl (by kernel_rfl) rfl rfl (ak rfl (a' (i:=45) rfl (by kernel_rfl) rfl rfl (ak rfl (ag (i:=5) rfl) (ak rfl (aw rfl) aD)) aQ) (ak rfl (aw rfl) aD)) aQ) (bl (i:=6) rfl))
 (ai (bO (a9 (a9 (a9 (a9 (a9 (a' (i:=44) rfl (by kernel_rfl) rfl rfl (ak rfl (ag (i:=1) rfl) (ak rfl (aw rfl) aD)) aQ) (a' (i:=44) rfl (by kernel_rfl) rfl rfl (ak rfl (a9 (a' (i:=6) rfl (by kernel_rfl) rfl rfl (ak rfl (ag (i:=5) rfl) aD) aQ) (aw rfl)) (ak rfl (aw rfl) aD)) aQ)) (a' (i:=44) rfl (by kernel_rfl) rfl rfl (ak rfl (ag (i:=2) rfl) (ak rfl (aw rfl) aD)) aQ)) (aw rfl)) (ag (i:=6) rfl)) (ag (i:=5) rfl)))
 aH))))⟩
noncomputable def TU:SC:=⟨nm,b7,[.ofString "hand",.ofString "first",.ofString "long",.ofString "moment",.ofString "headers"],b6 (ar pw 60),false⟩
noncomputable def TV:{t:br//bQ TU (bodyOf (ar pw 60)) t}:=⟨_,(ai (a6 bG aL (a9 (ag (i:=1) rfl) (da (h4 (ak rfl (aw rfl) (ak rfl (aw rfl) (ak rfl (iB (aw rfl)) (ak rfl (aw rfl) (ak rfl (iB (aw rfl)) (ak rfl (aw rfl) (ak rfl (a9 (aw rfl) (aw rfl)) aD)))))))) (a' (i:=41) rfl (by kernel_rfl) rfl rfl (ak rfl (ag (i:=0) rfl) (ak rfl (aw rfl) aD)) aQ))) (bl (i:=3) rfl))
 (ai (Dk (cn:=none) (tc:=none) (is:=[0]) (fr:=[.ofString "hand"]) iQ (by kernel_rfl) (by kernel_rfl) rfl (by kernel_rfl) (a' (i:=7) rfl (by kernel_rfl) rfl rfl (ak rfl (da (h4 (ak rfl (aw rfl) (ak rfl (aw rfl) (ak rfl (aw rfl) (ak rfl (aw rfl) aD))))) (a' (i:=41) rfl (by kernel_rfl) rfl rfl (ak rfl (ag (i:=0) rfl) (ak rfl (aw rfl) aD)) aQ)) aD) aQ) (ke (ak rfl (da (h4 (ak rfl (aw rfl) (ak rfl (aw rfl) (ak rfl (aw rfl) (ak rfl (aw rfl) aD))))) (a' (i:=41) rfl (by kernel_rfl) rfl rfl (ak rfl (ag (i:=0) rfl) (ak rfl (aw rfl) aD)) aQ)) (ak rfl (a' (i:=42) rfl (by kernel_rfl) rfl rfl (ak rfl (ag (i:=0) rfl) (ak rfl (aw rfl) aD)) aQ) aD))) trivial (bl (i:=4) rfl))
 (ai (bO (ke (ak rfl (ag (i:=3) rfl) (ak rfl (a' (i:=42) rfl (by kernel_rfl) rfl rfl (ak rfl (ag (i:=0) rfl) (ak rfl (aw rfl) aD)) aQ) (ak rfl (a' (i:=42) rfl (by kernel_rfl) rfl rfl (ak rfl (ag (i:=0) rfl) (ak rfl (ag (i:=2) rfl) aD)) aQ) (ak rfl (ag (i:=4) rfl) aD))))))
 aH)))⟩
noncomputable def Gh:SC:=⟨nm,b7,[.ofString "self",.ofString "_min_slice",.ofString "_magic_offset",.ofString "next_slice",.ofString "magic"],b6 (aM (ar pw 51) 9),false⟩
noncomputable def Gi:{t:br//bQ Gh (bodyOf (aM (ar pw 51) 9)) t}:=⟨_,(ai (a6 bG aL (bk (k:=73) aV rfl (ag (i:=0) rfl)) (bl (i:=1) rfl))
 (ai (a6 bG aL (bk (k:=74) aV rfl (ag (i:=0) rfl)) (bl (i:=2) rfl))
 (ai (a6 bG aL (bk (k:=68) aV rfl (ag (i:=0) rfl)) (bl (i:=3) rfl))
 (ai (cp (b2 rfl (ag (i:=3) rfl) (aw rfl)) (ai (bO (aw rfl))
 aH) aH)
 (ai (cp (b2 rfl (a' (i:=6) rfl (by kernel_rfl) rfl rfl (ak rfl (ag (i:=3) rfl) aD) aQ) (ag (i:=1) rfl)) (ai jj
 aH) aH)
 (ai (dF aL (cR (k:=70) rfl rfl aV rfl rfl rfl (ag (i:=0) rfl) aD aQ))
 (ai (a6 bG aL (a' (i:=34) rfl (by kernel_rfl) rfl rfl (ak rfl (ag (i:=3) rfl) (ak rfl (ag (i:=2) rfl) (ak rfl (aw rfl) aD))) aQ) (bl (i:=4) rfl))
 (ai (cp (b2 rfl (ag (i:=4) rfl) (aw rfl)) (ai (bO (a' (i:=36) rfl (by kernel_rfl) rfl rfl (ak rfl (ag (i:=3) rfl) (ak rfl (ag (i:=4) rfl) aD)) aQ))
 aH) (ai (bO (a' (i:=37) rfl (by kernel_rfl) rfl rfl (ak rfl (ag (i:=3) rfl) aD) aQ))
 aH))
 aH))))))))⟩
noncomputable def Gj:SC:=⟨nm,b7,[.ofString "self",.ofString "next_slice",.ofString "pos"],b6 (aM (ar pw 51) 6),false⟩
noncomputable def Gk:{t:br//bQ Gj (bodyOf (aM (ar pw 51) 6)) t}:=⟨_,(ai (cp (b2 rfl (bk (k:=69) aV rfl (ag (i:=0) rfl)) (aw rfl)) (ai (a6 bG aL (bk (k:=68) aV rfl (ag (i:=0) rfl)) (bl (i:=1) rfl))
 (ai (a6 bG aL (bk (k:=11) aV rfl (ag (i:=0) rfl)) (bl (i:=2) rfl))
 (ai (o1 (b2 rfl (bk (k:=69) aV rfl (ag (i:=0) rfl)) (aw rfl)) (ai (dF aL (cR (k:=70) rfl rfl aV rfl rfl rfl (ag (i:=0) rfl) aD aQ))
 aH))
 (ai (a6 cT aL (ag (i:=1) rfl) (cU (k:=68) rfl (ag (i:=0) rfl)))
 (ai (a6 cT aL (ag (i:=2) rfl) (cU (k:=11) rfl (ag (i:=0) rfl)))
 aH))))) aH)
 (ai (bO (a9 (a' (i:=6) rfl (by kernel_rfl) rfl rfl (ak rfl (bk (k:=9) aV rfl (ag (i:=0) rfl)) aD) aQ) (bk (k:=69) aV rfl (ag (i:=0) rfl))))
 aH))⟩
noncomputable def u9:SC:=⟨nm,b7,[.ofString "self",.ofString "msg"],b6 (aM (ar pw 42) 27),false⟩
noncomputable def TX:{t:br//bQ u9 (bodyOf (aM (ar pw 42) 27)) t}:=⟨_,(ai (cp (b2 rfl (bk (k:=14) aV rfl (ag (i:=0) rfl)) (bk (k:=13) aV rfl (ag (i:=0) rfl))) (ai (cp (b2 rfl (bk (k:=11) aV rfl (ag (i:=0) rfl)) (a' (i:=6) rfl (by kernel_rfl) rfl rfl (ak rfl (bk (k:=9) aV rfl (ag (i:=0) rfl)) aD) aQ)) (ai jj
 aH) aH)
 (ai jj
 aH)) aH)
 (ai (QU (ai (a6 bG aL (cR (k:=43) rfl rfl aV rfl rfl rfl (ag (i:=0) rfl) aD aQ) (bl (i:=1) rfl))
 aH))
 (ai (uq (k:=14) rfl (ag (i:=0) rfl) (aw rfl))
 (ai (bO (ag (i:=1) rfl))
 aH))))⟩
noncomputable def Gl:SC:=⟨nm,b7,[.ofString "numbers",.ofString "octets",.ofString "k"],b6 (ar pw 49),false⟩
noncomputable def TY:{t:br//bQ Gl (bodyOf (ar pw 49)) t}:=⟨_,(ai (a6 bG aL (aw rfl) (bl (i:=1) rfl))
 (ai (kh iQ (a' (i:=7) rfl (by kernel_rfl) rfl rfl (ak rfl (aw rfl) aD) aQ) (bl (i:=2) rfl) (ai (hE (i:=1) rfl (a' (i:=29) rfl (by kernel_rfl) rfl rfl (ak rfl (da (ag (i:=0) rfl) (ag (i:=2) rfl)) (ak rfl (da (h3 (i:=35) rfl (by kernel_rfl)) (ag (i:=2) rfl)) (ak rfl (jh rfl (ag (i:=2) rfl) (aw rfl)) aD))) aQ))
 aH))
 (ai (bO (ag (i:=1) rfl))
 aH)))⟩
noncomputable def Gm:SC:=⟨nm,b7,[.ofString "self",.ofString "compression_type"],b6 (aM (ar pw 41) 18),false⟩
noncomputable def Gn:{t:br//bQ Gm (bodyOf (aM (ar pw 41) 18)) t}:=⟨_,(ai (cp (ji (BN rfl (bk (k:=7) aV rfl (ag (i:=0) rfl)) (ag (i:=1) rfl) (bk (k:=8) aV rfl (ag (i:=0) rfl)))) (ai jj
 aH) aH)
 aH)⟩
noncomputable def Gp:SC:=⟨nm,b7,[.ofString "self"],b6 (aM (ar pw 42) 2),false⟩
noncomputable def TZ:{t:br//bQ Gp (bodyOf (aM (ar pw 42) 2)) t}:=⟨_,(ai (bO (a9 (da (bk (k:=10) aV rfl (ag (i:=0) rfl)) (aw rfl)) (bk (k:=16) aV rfl (ag (i:=0) rfl))))
 aH)⟩
noncomputable def Gq:SC:=⟨nm,b7,[.ofString "data"],b6 (ar pw 7),false⟩
noncomputable def T1:{t:br//bQ Gq (bodyOf (ar pw 7)) t}:=⟨_,(ai (bO (a' (i:=2) rfl (by kernel_rfl) rfl rfl (ak rfl (a' (i:=3) rfl (by kernel_rfl) rfl rfl (ak rfl (h3 (i:=4) rfl (by kernel_rfl)) (ak rfl (ag (i:=0) rfl) aD)) aQ) aD) aQ))
 aH)⟩
noncomputable def Gr:SC:=⟨nm,b7,[.ofString "self"],b6 (aM (ar pw 42) 23),false⟩
noncomputable def T2:{t:br//bQ Gr (bodyOf (aM (ar pw 42) 23)) t}:=⟨_,(ai (bO (da (bk (k:=10) aV rfl (ag (i:=0) rfl)) (aw rfl)))
 aH)⟩
noncomputable def Gs:SC:=⟨nm,b7,[.ofString "self"],b6 (aM (ar pw 42) 9),false⟩
noncomputable def T3:{t:br//bQ Gs (bodyOf (aM (ar pw 42) 9)) t}:=⟨_,(ai (bO (a9 (bk (k:=19) aV rfl (ag (i:=0) rfl)) (aw rfl)))
 aH)⟩
noncomputable def Gu:SC:=⟨nm,b7,[.ofString "self"],b6 (aM (ar pw 43) 4),false⟩
noncomputable def T4:{t:br//bQ Gu (bodyOf (aM (ar pw 43) 4)) t}:=⟨_,(ai (bO (bk (k:=49) aV rfl (ag (i:=0) rfl)))
 aH)⟩
noncomputable def Gv:SC:=⟨nm,b7,[.ofString "data"],b6 (ar pw 29),false⟩
noncomputable def T5:{t:br//bQ Gv (bodyOf (ar pw 29)) t}:=⟨_,(ai (bO (a' (i:=11) rfl (by kernel_rfl) rfl rfl (ak rfl (aw rfl) (ak rfl (ag (i:=0) rfl) aD)) aQ))
 aH)⟩
end
section
set_option maxRecDepth 100000
set_option maxHeartbeats 0
noncomputable def yH:SC:=⟨nm,b7,[.ofString "self",.ofString "header_size",.ofString "data",.ofString "compressed",.ofString "compressed_size"],b6 (aM (ar pw 45) 9),false⟩
@[irreducible]noncomputable def C_DefaultRecordBatchBuilder_maybe_compress_0_b_3:{t:br//dt yH (d4 (subB (d4 (bodyOf (aM (ar pw 45) 9)) 0)) 3) t}:=e6 ⟨_,(cp (b2 rfl (bk (k:=54) aV rfl (ag (i:=0) rfl)) (bk (k:=7) aV rfl (ag (i:=0) rfl))) (ai (a6 bG aL (a' (i:=30) rfl (by kernel_rfl) rfl rfl (ak rfl (ag (i:=2) rfl) aD) aQ) (bl (i:=3) rfl))
 aH) (ai (cp (b2 rfl (bk (k:=54) aV rfl (ag (i:=0) rfl)) (bk (k:=34) aV rfl (ag (i:=0) rfl))) (ai (a6 bG aL (a' (i:=31) rfl (by kernel_rfl) rfl rfl (ak rfl (ag (i:=2) rfl) aD) aQ) (bl (i:=3) rfl))
 aH) (ai (cp (b2 rfl (bk (k:=54) aV rfl (ag (i:=0) rfl)) (bk (k:=35) aV rfl (ag (i:=0) rfl))) (ai (a6 bG aL (a' (i:=32) rfl (by kernel_rfl) rfl rfl (ak rfl (ag (i:=2) rfl) aD) aQ) (bl (i:=3) rfl))
 aH) (ai (cp (b2 rfl (bk (k:=54) aV rfl (ag (i:=0) rfl)) (bk (k:=8) aV rfl (ag (i:=0) rfl))) (ai (a6 bG aL (a' (i:=33) rfl (by kernel_rfl) rfl rfl (ak rfl (ag (i:=2) rfl) aD) aQ) (bl (i:=3) rfl))
 aH) aH)
 aH))
 aH))
 aH))⟩
noncomputable def T6:{t:br//bQ yH (bodyOf (aM (ar pw 45) 9)) t}:=⟨_,(ai (cp (b2 rfl (bk (k:=54) aV rfl (ag (i:=0) rfl)) (bk (k:=32) aV rfl (ag (i:=0) rfl))) (ai (dF aL (cR (k:=33) rfl rfl aV rfl rfl rfl (ag (i:=0) rfl) (ak rfl (bk (k:=54) aV rfl (ag (i:=0) rfl)) aD) aQ))
 (ai (a6 bG aL (bk (k:=12) aV rfl (ag (i:=0) rfl)) (bl (i:=1) rfl))
 (ai (a6 bG aL (a' (i:=8) rfl (by kernel_rfl) rfl rfl (ak rfl (kk (bk (k:=9) aV rfl (ag (i:=0) rfl)) (hD (ag (i:=1) rfl)) oX) aD) aQ) (bl (i:=2) rfl))
 (ai C_DefaultRecordBatchBuilder_maybe_compress_0_b_3.2
 (ai (a6 bG aL (a' (i:=6) rfl (by kernel_rfl) rfl rfl (ak rfl (ag (i:=3) rfl) aD) aQ) (bl (i:=4) rfl))
 (ai (cp (b2 rfl (a' (i:=6) rfl (by kernel_rfl) rfl rfl (ak rfl (ag (i:=2) rfl) aD) aQ) (ag (i:=4) rfl)) (ai (bO (aw rfl))
 aH) (ai (a6 cT aL (a' (i:=12) rfl (by kernel_rfl) rfl rfl (ak rfl (a9 (a' (i:=8) rfl (by kernel_rfl) rfl rfl (ak rfl (kk (bk (k:=9) aV rfl (ag (i:=0) rfl)) oX (hD (ag (i:=1) rfl))) aD) aQ) (ag (i:=3) rfl)) aD) aQ) (cU (k:=9) rfl (ag (i:=0) rfl)))
 (ai (bO (aw rfl))
 aH)))
 aH)))))) aH)
 (ai (bO (aw rfl))
 aH))⟩
noncomputable def yI:SC:=⟨nm,b7,[.ofString "self",.ofString "compression_type",.ofString "data",.ofString "uncompressed"],b6 (aM (ar pw 42) 24),false⟩
@[irreducible]noncomputable def C_DefaultRecordBatch_maybe_uncompress_0_b_1:{t:br//dt yI (d4 (subB (d4 (bodyOf (aM (ar pw 42) 24)) 0)) 1) t}:=e6 ⟨_,(cp (b2 rfl (ag (i:=1) rfl) (bk (k:=32) aV rfl (ag (i:=0) rfl))) (ai (dF aL (cR (k:=33) rfl rfl aV rfl rfl rfl (ag (i:=0) rfl) (ak rfl (ag (i:=1) rfl) aD) aQ))
 (ai (a6 bG aL (a' (i:=8) rfl (by kernel_rfl) rfl rfl (ak rfl (kk (bk (k:=9) aV rfl (ag (i:=0) rfl)) (hD (bk (k:=11) aV rfl (ag (i:=0) rfl))) oX) aD) aQ) (bl (i:=2) rfl))
 (ai (cp (b2 rfl (ag (i:=1) rfl) (bk (k:=7) aV rfl (ag (i:=0) rfl))) (ai (a6 bG aL (a' (i:=15) rfl (by kernel_rfl) rfl rfl (ak rfl (ag (i:=2) rfl) aD) aQ) (bl (i:=3) rfl))
 aH) aH)
 (ai (cp (b2 rfl (ag (i:=1) rfl) (bk (k:=34) aV rfl (ag (i:=0) rfl))) (ai (a6 bG aL (a' (i:=16) rfl (by kernel_rfl) rfl rfl (ak rfl (ag (i:=2) rfl) aD) aQ) (bl (i:=3) rfl))
 aH) aH)
 (ai (cp (b2 rfl (ag (i:=1) rfl) (bk (k:=35) aV rfl (ag (i:=0) rfl))) (ai (a6 bG aL (a' (i:=17) rfl (by kernel_rfl) rfl rfl (ak rfl (ag (i:=2) rfl) aD) aQ) (bl (i:=3) rfl))
 aH) aH)
 (ai (cp (b2 rfl (ag (i:=1) rfl) (bk (k:=8) aV rfl (ag (i:=0) rfl))) (ai (a6 bG aL (a' (i:=18) rfl (by kernel_rfl) rfl rfl (ak rfl (ag (i:=2) rfl) aD) aQ) (bl (i:=3) rfl))
 aH) aH)
 (ai (a6 cT aL (a' (i:=12) rfl (by kernel_rfl) rfl rfl (ak rfl (ag (i:=3) rfl) aD) aQ) (cU (k:=9) rfl (ag (i:=0) rfl)))
 (ai (a6 cT aL (aw rfl) (cU (k:=11) rfl (ag (i:=0) rfl)))
 aH)))))))) aH)⟩
noncomputable def Gw:{t:br//bQ yI (bodyOf (aM (ar pw 42) 24)) t}:=⟨_,(ai (cp (ji (fm fi (bk (k:=15) aV rfl (ag (i:=0) rfl)))) (ai (a6 bG aL (bk (k:=31) aV rfl (ag (i:=0) rfl)) (bl (i:=1) rfl))
 (ai C_DefaultRecordBatch_maybe_uncompress_0_b_1.2
 aH)) aH)
 (ai (a6 cT aL (aw rfl) (cU (k:=15) rfl (ag (i:=0) rfl)))
 aH))⟩
noncomputable def Gx:SC:=⟨nm,b7,[.ofString "record",.ofString "offset",.ofString "first",.ofString "moment",.ofString "key",.ofString "value",.ofString "headers",.ofString "body",.ofString "name",.ofString "octets"],b6 (ar pw 61),false⟩
noncomputable def T7:{t:br//bQ Gx (bodyOf (ar pw 61)) t}:=⟨_,(ai (lF aL lE (ag (i:=0) rfl) (jT rfl (fb (bl (i:=3) rfl) (fb (bl (i:=4) rfl) (fb (bl (i:=5) rfl) (fb (bl (i:=6) rfl) jS))))))
 (ai (a6 bG aL (a9 (a9 (a9 (a9 (a9 (aw rfl) (a' (i:=40) rfl (by kernel_rfl) rfl rfl (ak rfl (a9 (ag (i:=3) rfl) (ag (i:=2) rfl)) aD) aQ)) (a' (i:=40) rfl (by kernel_rfl) rfl rfl (ak rfl (ag (i:=1) rfl) aD) aQ)) (a' (i:=43) rfl (by kernel_rfl) rfl rfl (ak rfl (ag (i:=4) rfl) aD) aQ)) (a' (i:=43) rfl (by kernel_rfl) rfl rfl (ak rfl (ag (i:=5) rfl) aD) aQ)) (a' (i:=40) rfl (by kernel_rfl) rfl rfl (ak rfl (a' (i:=6) rfl (by kernel_rfl) rfl rfl (ak rfl (ag (i:=6) rfl) aD) aQ) aD) aQ)) (bl (i:=7) rfl))
 (ai (kh iQ (ag (i:=6) rfl) (jT rfl (fb (bl (i:=8) rfl) (fb (bl (i:=9) rfl) jS))) (ai (a6 bG aL (a9 (a9 (ag (i:=7) rfl) (a' (i:=43) rfl (by kernel_rfl) rfl rfl (ak rfl (cR (k:=3) rfl rfl aV rfl rfl rfl (ag (i:=8) rfl) (ak rfl (aw rfl) aD) aQ) aD) aQ)) (a' (i:=43) rfl (by kernel_rfl) rfl rfl (ak rfl (ag (i:=9) rfl) aD) aQ)) (bl (i:=7) rfl))
 aH))
 (ai (bO (a9 (a' (i:=40) rfl (by kernel_rfl) rfl rfl (ak rfl (a' (i:=6) rfl (by kernel_rfl) rfl rfl (ak rfl (ag (i:=7) rfl) aD) aQ) aD) aQ) (ag (i:=7) rfl)))
 aH))))⟩
noncomputable def T8:SC:=⟨nm,b7,[.ofString "hand",.ofString "long",.ofString "kind"],b6 (ar pw 59),false⟩
noncomputable def T9:{t:br//bQ T8 (bodyOf (ar pw 59)) t}:=⟨_,(ai (a6 bG aL (a' (i:=41) rfl (by kernel_rfl) rfl rfl (ak rfl (ag (i:=0) rfl) (ak rfl (aw rfl) aD)) aQ) (bl (i:=2) rfl))
 (ai (cp (b2 rfl (ag (i:=2) rfl) (aw rfl)) (ai (bO (aw rfl))
 aH) aH)
 (ai (cp (h5 (kJ (b2 rfl (ag (i:=2) rfl) (aw rfl)) (kJ (fm fi (ag (i:=1) rfl)) qb))) (ai (bO (a' (i:=8) rfl (by kernel_rfl) rfl rfl (ak rfl (CM (h4 (ak rfl (a9 (aw rfl) (a' (i:=41) rfl (by kernel_rfl) rfl rfl (ak rfl (ag (i:=0) rfl) (ak rfl (aw rfl) aD)) aQ)) aD)) (aw rfl)) aD) aQ))
 aH) aH)
 (ai (bO (a' (i:=8) rfl (by kernel_rfl) rfl rfl (ak rfl (Dj (cn:=none) (tc:=none) (is:=[0]) (fr:=[.ofString "hand"]) iQ (by kernel_rfl) (by kernel_rfl) rfl (a' (i:=7) rfl (by kernel_rfl) rfl rfl (ak rfl (a9 (ag (i:=2) rfl) (aw rfl)) aD) aQ) (a' (i:=41) rfl (by kernel_rfl) rfl rfl (ak rfl (ag (i:=0) rfl) (ak rfl (aw rfl) aD)) aQ) trivial) aD) aQ))
 aH))))⟩
noncomputable def yJ:SC:=⟨nm,b7,[.ofString "buf",.ofString "pos",.ofString "size",.ofString "signed",.ofString "octets",.ofString "value"],b6 (ar pw 21),false⟩
noncomputable def yK:{t:br//bQ yJ (bodyOf (ar pw 21)) t}:=⟨_,(ai (a6 bG aL (a' (i:=8) rfl (by kernel_rfl) rfl rfl (ak rfl (kk (ag (i:=0) rfl) (hD (ag (i:=1) rfl)) (hD (a9 (ag (i:=1) rfl) (ag (i:=2) rfl)))) aD) aQ) (bl (i:=4) rfl))
 (ai (cp (b2 rfl (a' (i:=6) rfl (by kernel_rfl) rfl rfl (ak rfl (ag (i:=4) rfl) aD) aQ) (ag (i:=2) rfl)) (ai jj
 aH) aH)
 (ai (a6 bG aL (Po (i:=9) rfl (by kernel_rfl) rfl rfl rfl (ak rfl (ag (i:=4) rfl) (ak rfl (aw rfl) aD))) (bl (i:=5) rfl))
 (ai (cp (h5 (kJ (fm fi (ag (i:=3) rfl)) (kJ (fm fi (a9 (ag (i:=5) rfl) (a9 (a9 (aw rfl) (ag (i:=2) rfl)) (aw rfl)))) qb))) (ai (hE (i:=5) rfl (a9 (aw rfl) (a9 (aw rfl) (ag (i:=2) rfl))))
 aH) aH)
 (ai (bO (ag (i:=5) rfl))
 aH)))))⟩
noncomputable def Gy:SC:=⟨nm,b7,[.ofString "buffer",.ofString "found",.ofString "pos",.ofString "k"],b6 (ar pw 48),false⟩
noncomputable def T':{t:br//bQ Gy (bodyOf (ar pw 48)) t}:=⟨_,(ai (a6 bG aL (kI aD) (bl (i:=1) rfl))
 (ai (a6 bG aL (aw rfl) (bl (i:=2) rfl))
 (ai (kh iQ (a' (i:=7) rfl (by kernel_rfl) rfl rfl (ak rfl (aw rfl) aD) aQ) (bl (i:=3) rfl) (ai (dF aL (cR (k:=0) rfl rfl aV rfl rfl rfl (ag (i:=1) rfl) (ak rfl (a' (i:=34) rfl (by kernel_rfl) rfl rfl (ak rfl (ag (i:=0) rfl) (ak rfl (ag (i:=2) rfl) (ak rfl (da (h3 (i:=35) rfl (by kernel_rfl)) (ag (i:=3) rfl)) (ak rfl (jh rfl (ag (i:=3) rfl) (aw rfl)) aD)))) aQ) aD) aQ))
 (ai (hE (i:=2) rfl (da (h3 (i:=35) rfl (by kernel_rfl)) (ag (i:=3) rfl)))
 aH)))
 (ai (bO (ag (i:=1) rfl))
 aH))))⟩
noncomputable def Gz:SC:=⟨nm,b7,[.ofString "self"],b6 (aM (ar pw 42) 21),false⟩
noncomputable def Ua:{t:br//bQ Gz (bodyOf (aM (ar pw 42) 21)) t}:=⟨_,(ai (cp (b2 rfl (bk (k:=27) aV rfl (ag (i:=0) rfl)) (bk (k:=28) aV rfl (ag (i:=0) rfl))) (ai (bO (bk (k:=28) aV rfl (ag (i:=0) rfl)))
 aH) aH)
 (ai (bO (cR (k:=29) rfl rfl aV rfl rfl rfl (ag (i:=0) rfl) (ak rfl (bk (k:=27) aV rfl (ag (i:=0) rfl)) (ak rfl (bk (k:=18) aV rfl (ag (i:=0) rfl)) aD)) aQ))
 aH))⟩
noncomputable def GA:SC:=⟨nm,b7,[.ofString "self"],b6 (aM (ar pw 42) 11),false⟩
noncomputable def Ub:{t:br//bQ GA (bodyOf (aM (ar pw 42) 11)) t}:=⟨_,(ai (bO (a' (i:=9) rfl (by kernel_rfl) rfl rfl (ak rfl (a' (i:=14) rfl (by kernel_rfl) rfl rfl (ak rfl (a9 (bk (k:=20) aV rfl (ag (i:=0) rfl)) (bk (k:=22) aV rfl (ag (i:=0) rfl))) aD) aQ) aD) aQ))
 aH)⟩
noncomputable def GB:SC:=⟨nm,b7,[.ofString "self"],b6 (aM (ar pw 42) 10),false⟩
noncomputable def Uc:{t:br//bQ GB (bodyOf (aM (ar pw 42) 10)) t}:=⟨_,(ai (bO (a9 (bk (k:=20) aV rfl (ag (i:=0) rfl)) (bk (k:=21) aV rfl (ag (i:=0) rfl))))
 aH)⟩
noncomputable def GC:SC:=⟨nm,b7,[.ofString "self"],b6 (aM (ar pw 42) 26),false⟩
noncomputable def GD:{t:br//bQ GC (bodyOf (aM (ar pw 42) 26)) t}:=⟨_,(ai (dF aL (cR (k:=42) rfl rfl aV rfl rfl rfl (ag (i:=0) rfl) aD aQ))
 (ai (bO (ag (i:=0) rfl))
 aH))⟩
noncomputable def GF:SC:=⟨nm,b7,[.ofString "self"],b6 (aM (ar pw 42) 3),false⟩
noncomputable def Ud:{t:br//bQ GF (bodyOf (aM (ar pw 42) 3)) t}:=⟨_,(ai (bO (da (bk (k:=10) aV rfl (ag (i:=0) rfl)) (aw rfl)))
 aH)⟩
noncomputable def GG:SC:=⟨nm,b7,[.ofString "self"],b6 (aM (ar pw 42) 6),false⟩
noncomputable def Ue:{t:br//bQ GG (bodyOf (aM (ar pw 42) 6)) t}:=⟨_,(ai (bO (da (bk (k:=10) aV rfl (ag (i:=0) rfl)) (aw rfl)))
 aH)⟩
noncomputable def GH:SC:=⟨nm,b7,[.ofString "data"],b6 (ar pw 24),false⟩
noncomputable def Ug:{t:br//bQ GH (bodyOf (ar pw 24)) t}:=⟨_,(ai (bO (a' (i:=10) rfl (by kernel_rfl) rfl rfl (ak rfl (aw rfl) (ak rfl (ag (i:=0) rfl) aD)) aQ))
 aH)⟩
noncomputable def GI:SC:=⟨nm,b7,[.ofString "self"],b6 (aM (ar pw 43) 7),false⟩
noncomputable def Uh:{t:br//bQ GI (bodyOf (aM (ar pw 43) 7)) t}:=⟨_,(ai (bO (bk (k:=52) aV rfl (ag (i:=0) rfl)))
 aH)⟩
noncomputable def GJ:SC:=⟨nm,b7,[.ofString "self"],b6 (aM (ar pw 43) 6),false⟩
noncomputable def Ui:{t:br//bQ GJ (bodyOf (aM (ar pw 43) 6)) t}:=⟨_,(ai (bO (bk (k:=51) aV rfl (ag (i:=0) rfl)))
 aH)⟩
end
section
set_option maxRecDepth 100000
section
variable{w:cu}{B:a8}{b:aS}{l:bh (aa bu)}
theorem Uj:b3 (av w B b l) 33 (bU "" (ar pw 5) u3 32 .none) FP (bodyOf (ar pw 5)) 2 [] (pp [] 0 ["crc","data"]):=b9 (by kernel_rfl)
theorem Uk:b3 (av w B b l) 40 (bU "" (ar pw 6) u3 39 .none) FK (bodyOf (ar pw 6)) 1 [] (pp [] 0 ["crc"]):=b9 (by kernel_rfl)
theorem Ul:b3 (av w B b l) 47 (bU "" (ar pw 7) u3 46 .none) Gq (bodyOf (ar pw 7)) 1 [] (pp [] 0 ["data"]):=b9 (by kernel_rfl)
theorem Um:b3 (av w B b l) 54 (bU "" (ar pw 9) g6 53 .none) F0 (bodyOf (ar pw 9)) 2 [] (pp [] 0 ["value","write"]):=b9 (by kernel_rfl)
theorem Un:b3 (av w B b l) 61 (bU "" (ar pw 10) g6 60 .none) F4 (bodyOf (ar pw 10)) 1 [] (pp [] 0 ["value"]):=b9 (by kernel_rfl)
theorem Uo:b3 (av w B b l) 69 (bU "" (ar pw 11) g6 68 (.ref 62)) F3 (bodyOf (ar pw 11)) 2 [] (pp [] 0 ["buffer","pos"]):=b9 (by kernel_rfl)
theorem Up:b3 (av w B b l) 76 (bU "" (ar pw 12) g6 75 .none) E2 (bodyOf (ar pw 12)) 1 [] (pp [] 0 ["memview"]):=b9 (by kernel_rfl)
theorem Uq:b3 (av w B b l) 138 (bU "" (ar pw 19) g6 137 (.ref 131)) E4 (bodyOf (ar pw 19)) 3 [] (pp [] 0 ["value","size","signed"]):=b9 (by kernel_rfl)
theorem Ur:b3 (av w B b l) 145 (bU "" (ar pw 20) g6 144 .none) F6 (bodyOf (ar pw 20)) 3 [] (pp [] 0 ["buf","pos","octets"]):=b9 (by kernel_rfl)
theorem Us:b3 (av w B b l) 153 (bU "" (ar pw 21) g6 152 (.ref 146)) yJ (bodyOf (ar pw 21)) 4 [] (pp [] 0 ["buf","pos","size","signed"]):=b9 (by kernel_rfl)
theorem Ut:b3 (av w B b l) 153 (bU "" (ar pw 21) g6 152 (.ref 146)) yJ (bodyOf (ar pw 21)) 3 [] (pp [(.ofString "signed",.tt)] 0 ["buf","pos","size"]):=b9 (by kernel_rfl)
theorem Uu:b3 (av w B b l) 160 (bU "" (ar pw 22) g6 159 .none) Fx (bodyOf (ar pw 22)) 2 [] (pp [] 0 ["mark","data"]):=b9 (by kernel_rfl)
theorem Uv:b3 (av w B b l) 167 (bU "" (ar pw 23) g6 166 .none) FO (bodyOf (ar pw 23)) 2 [] (pp [] 0 ["mark","data"]):=b9 (by kernel_rfl)
theorem Uw:b3 (av w B b l) 174 (bU "" (ar pw 24) g6 173 .none) GH (bodyOf (ar pw 24)) 1 [] (pp [] 0 ["data"]):=b9 (by kernel_rfl)
theorem Ux:b3 (av w B b l) 181 (bU "" (ar pw 25) g6 180 .none) Gd (bodyOf (ar pw 25)) 1 [] (pp [] 0 ["data"]):=b9 (by kernel_rfl)
theorem Uy:b3 (av w B b l) 188 (bU "" (ar pw 26) g6 187 .none) Fd (bodyOf (ar pw 26)) 1 [] (pp [] 0 ["data"]):=b9 (by kernel_rfl)
theorem Uz:b3 (av w B b l) 195 (bU "" (ar pw 27) g6 194 .none) FX (bodyOf (ar pw 27)) 1 [] (pp [] 0 ["data"]):=b9 (by kernel_rfl)
theorem UA:b3 (av w B b l) 202 (bU "" (ar pw 28) g6 201 .none) Fe (bodyOf (ar pw 28)) 1 [] (pp [] 0 ["data"]):=b9 (by kernel_rfl)
theorem UB:b3 (av w B b l) 209 (bU "" (ar pw 29) g6 208 .none) Gv (bodyOf (ar pw 29)) 1 [] (pp [] 0 ["data"]):=b9 (by kernel_rfl)
theorem UC:b3 (av w B b l) 216 (bU "" (ar pw 30) g6 215 .none) E1 (bodyOf (ar pw 30)) 1 [] (pp [] 0 ["data"]):=b9 (by kernel_rfl)
theorem UD:b3 (av w B b l) 223 (bU "" (ar pw 31) g6 222 .none) FJ (bodyOf (ar pw 31)) 1 [] (pp [] 0 ["data"]):=b9 (by kernel_rfl)
theorem GK:b3 (av w B b l) 627 (bU (cY 41) (aM (ar pw 41) 18) df 626 .none) Gm (bodyOf (aM (ar pw 41) 18)) 2 [] (pp [] 0 ["self","compression_type"]):=b9 (by kernel_rfl)
theorem UE:b3 (av w B b l) 648 (bU (cY 42) (aM (ar pw 42) 0) df 647 .none) Fh (bodyOf (aM (ar pw 42) 0)) 2 [] (pp [] 0 ["self","buffer"]):=b9 (by kernel_rfl)
theorem UG:b3 (av w B b l) 655 (bU (cY 42) (aM (ar pw 42) 1) df 654 .none) FW (bodyOf (aM (ar pw 42) 1)) 1 [] (pp [] 0 ["self"]):=b9 (by kernel_rfl)
theorem UH:b3 (av w B b l) 663 (bU (cY 42) (aM (ar pw 42) 2) df 662 .none) Gp (bodyOf (aM (ar pw 42) 2)) 1 [] (pp [] 0 ["self"]):=b9 (by kernel_rfl)
theorem UI:b3 (av w B b l) 671 (bU (cY 42) (aM (ar pw 42) 3) df 670 .none) GF (bodyOf (aM (ar pw 42) 3)) 1 [] (pp [] 0 ["self"]):=b9 (by kernel_rfl)
theorem UJ:b3 (av w B b l) 679 (bU (cY 42) (aM (ar pw 42) 4) df 678 .none) FH (bodyOf (aM (ar pw 42) 4)) 1 [] (pp [] 0 ["self"]):=b9 (by kernel_rfl)
theorem UK:b3 (av w B b l) 687 (bU (cY 42) (aM (ar pw 42) 5) df 686 .none) FI (bodyOf (aM (ar pw 42) 5)) 1 [] (pp [] 0 ["self"]):=b9 (by kernel_rfl)
theorem UL:b3 (av w B b l) 695 (bU (cY 42) (aM (ar pw 42) 6) df 694 .none) GG (bodyOf (aM (ar pw 42) 6)) 1 [] (pp [] 0 ["self"]):=b9 (by kernel_rfl)
theorem UM:b3 (av w B b l) 703 (bU (cY 42) (aM (ar pw 42) 7) df 702 .none) FE (bodyOf (aM (ar pw 42) 7)) 1 [] (pp [] 0 ["self"]):=b9 (by kernel_rfl)
theorem UN:b3 (av w B b l) 711 (bU (cY 42) (aM (ar pw 42) 8) df 710 .none) Fn (bodyOf (aM (ar pw 42) 8)) 1 [] (pp [] 0 ["self"]):=b9 (by kernel_rfl)
theorem UO:b3 (av w B b l) 719 (bU (cY 42) (aM (ar pw 42) 9) df 718 .none) Gs (bodyOf (aM (ar pw 42) 9)) 1 [] (pp [] 0 ["self"]):=b9 (by kernel_rfl)
theorem UP:b3 (av w B b l) 727 (bU (cY 42) (aM (ar pw 42) 10) df 726 .none) GB (bodyOf (aM (ar pw 42) 10)) 1 [] (pp [] 0 ["self"]):=b9 (by kernel_rfl)
theorem UQ:b3 (av w B b l) 735 (bU (cY 42) (aM (ar pw 42) 11) df 734 .none) GA (bodyOf (aM (ar pw 42) 11)) 1 [] (pp [] 0 ["self"]):=b9 (by kernel_rfl)
theorem UR:b3 (av w B b l) 743 (bU (cY 42) (aM (ar pw 42) 12) df 742 .none) FR (bodyOf (aM (ar pw 42) 12)) 1 [] (pp [] 0 ["self"]):=b9 (by kernel_rfl)
theorem US:b3 (av w B b l) 751 (bU (cY 42) (aM (ar pw 42) 13) df 750 .none) F8 (bodyOf (aM (ar pw 42) 13)) 1 [] (pp [] 0 ["self"]):=b9 (by kernel_rfl)
theorem UT:b3 (av w B b l) 759 (bU (cY 42) (aM (ar pw 42) 14) df 758 .none) E9 (bodyOf (aM (ar pw 42) 14)) 1 [] (pp [] 0 ["self"]):=b9 (by kernel_rfl)
theorem UU:b3 (av w B b l) 767 (bU (cY 42) (aM (ar pw 42) 15) df 766 .none) FV (bodyOf (aM (ar pw 42) 15)) 1 [] (pp [] 0 ["self"]):=b9 (by kernel_rfl)
theorem UW:b3 (av w B b l) 775 (bU (cY 42) (aM (ar pw 42) 16) df 774 .none) Ga (bodyOf (aM (ar pw 42) 16)) 1 [] (pp [] 0 ["self"]):=b9 (by kernel_rfl)
theorem UX:b3 (av w B b l) 783 (bU (cY 42) (aM (ar pw 42) 17) df 782 .none) FT (bodyOf (aM (ar pw 42) 17)) 1 [] (pp [] 0 ["self"]):=b9 (by kernel_rfl)
theorem UY:b3 (av w B b l) 790 (bU (cY 42) (aM (ar pw 42) 18) df 789 .none) F' (bodyOf (aM (ar pw 42) 18)) 1 [] (pp [] 0 ["self"]):=b9 (by kernel_rfl)
theorem UZ:b3 (av w B b l) 798 (bU (cY 42) (aM (ar pw 42) 19) df 797 .none) Fo (bodyOf (aM (ar pw 42) 19)) 1 [] (pp [] 0 ["self"]):=b9 (by kernel_rfl)
theorem U0:b3 (av w B b l) 806 (bU (cY 42) (aM (ar pw 42) 20) df 805 .none) F9 (bodyOf (aM (ar pw 42) 20)) 1 [] (pp [] 0 ["self"]):=b9 (by kernel_rfl)
theorem U1:b3 (av w B b l) 814 (bU (cY 42) (aM (ar pw 42) 21) df 813 .none) Gz (bodyOf (aM (ar pw 42) 21)) 1 [] (pp [] 0 ["self"]):=b9 (by kernel_rfl)
theorem U2:b3 (av w B b l) 822 (bU (cY 42) (aM (ar pw 42) 22) df 821 .none) FA (bodyOf (aM (ar pw 42) 22)) 3 [] (pp [] 0 ["self","base","increment"]):=b9 (by kernel_rfl)
theorem U3:b3 (av w B b l) 829 (bU (cY 42) (aM (ar pw 42) 23) df 828 .none) Gr (bodyOf (aM (ar pw 42) 23)) 1 [] (pp [] 0 ["self"]):=b9 (by kernel_rfl)
theorem GL:b3 (av w B b l) 837 (bU (cY 42) (aM (ar pw 42) 24) df 836 .none) yI (bodyOf (aM (ar pw 42) 24)) 1 [] (pp [] 0 ["self"]):=b9 (by kernel_rfl)
theorem U4:b3 (av w B b l) 844 (bU (cY 42) (aM (ar pw 42) 25) df 843 .none) qA (bodyOf (aM (ar pw 42) 25)) 1 [] (pp [] 0 ["self"]):=b9 (by kernel_rfl)
theorem GN:b3 (av w B b l) 851 (bU (cY 42) (aM (ar pw 42) 26) df 850 .none) GC (bodyOf (aM (ar pw 42) 26)) 1 [] (pp [] 0 ["self"]):=b9 (by kernel_rfl)
theorem GO:b3 (av w B b l) 858 (bU (cY 42) (aM (ar pw 42) 27) df 857 .none) u9 (bodyOf (aM (ar pw 42) 27)) 1 [] (pp [] 0 ["self"]):=b9 (by kernel_rfl)
theorem U5:b3 (av w B b l) 865 (bU (cY 42) (aM (ar pw 42) 28) df 864 .none) Fz (bodyOf (aM (ar pw 42) 28)) 1 [] (pp [] 0 ["self"]):=b9 (by kernel_rfl)
theorem U6:b3 (av w B b l) 884 (bU (cY 43) (aM (ar pw 43) 0) df 883 .none) Fy (bodyOf (aM (ar pw 43) 0)) 8 [] (pp [] 0 ["self","size_in_bytes","offset","timestamp","timestamp_type","key","value","headers"]):=b9 (by kernel_rfl)
theorem U7:b3 (av w B b l) 899 (bU (cY 43) (aM (ar pw 43) 2) df 898 .none) Ge (bodyOf (aM (ar pw 43) 2)) 1 [] (pp [] 0 ["self"]):=b9 (by kernel_rfl)
theorem U8:b3 (av w B b l) 907 (bU (cY 43) (aM (ar pw 43) 3) df 906 .none) FY (bodyOf (aM (ar pw 43) 3)) 1 [] (pp [] 0 ["self"]):=b9 (by kernel_rfl)
theorem U9:b3 (av w B b l) 915 (bU (cY 43) (aM (ar pw 43) 4) df 914 .none) Gu (bodyOf (aM (ar pw 43) 4)) 1 [] (pp [] 0 ["self"]):=b9 (by kernel_rfl)
theorem U':b3 (av w B b l) 923 (bU (cY 43) (aM (ar pw 43) 5) df 922 .none) FZ (bodyOf (aM (ar pw 43) 5)) 1 [] (pp [] 0 ["self"]):=b9 (by kernel_rfl)
theorem Va:b3 (av w B b l) 931 (bU (cY 43) (aM (ar pw 43) 6) df 930 .none) GJ (bodyOf (aM (ar pw 43) 6)) 1 [] (pp [] 0 ["self"]):=b9 (by kernel_rfl)
theorem Vb:b3 (av w B b l) 939 (bU (cY 43) (aM (ar pw 43) 7) df 938 .none) GI (bodyOf (aM (ar pw 43) 7)) 1 [] (pp [] 0 ["self"]):=b9 (by kernel_rfl)
theorem Vc:b3 (av w B b l) 1029 (bU (cY 45) (aM (ar pw 45) 1) df 1028 .none) Fw (bodyOf (aM (ar pw 45) 1)) 1 [.ofString "magic",.ofString "compression_type",.ofString "is_transactional",.ofString "producer_id",.ofString "producer_epoch",.ofString "base_sequence",.ofString "batch_size"] (pp [(.ofString "magic",.kw 0),(.ofString "compression_type",.kw 1),(.ofString "is_transactional",.kw 2),(.ofString "producer_id",.kw 3),(.ofString "producer_epoch",.kw 4),(.ofString "base_sequence",.kw 5),(.ofString "batch_size",.kw 6)] 0 ["self"]):=b9 (by kernel_rfl)
theorem GP:b3 (av w B b l) 1043 (bU (cY 45) (aM (ar pw 45) 3) df 1042 .none) Fp (bodyOf (aM (ar pw 45) 3)) 1 [] (pp [] 0 ["self"]):=b9 (by kernel_rfl)
theorem GQ:b3 (av w B b l) 1051 (bU (cY 45) (aM (ar pw 45) 4) df 1050 .none) E' (bodyOf (aM (ar pw 45) 4)) 1 [] (pp [] 0 ["self"]):=b9 (by kernel_rfl)
theorem GR:b3 (av w B b l) 1059 (bU (cY 45) (aM (ar pw 45) 5) df 1058 .none) FF (bodyOf (aM (ar pw 45) 5)) 1 [] (pp [] 0 ["self"]):=b9 (by kernel_rfl)
theorem Vd:b3 (av w B b l) 1068 (bU (cY 45) (aM (ar pw 45) 6) df 1067 (.ref 1061)) E6 (bodyOf (aM (ar pw 45) 6)) 2 [] (pp [] 0 ["self","include_compression_type"]):=b9 (by kernel_rfl)
theorem Ve:b3 (av w B b l) 1075 (bU (cY 45) (aM (ar pw 45) 7) df 1074 .none) ng (bodyOf (aM (ar pw 45) 7)) 6 [] (pp [] 0 ["self","offset","timestamp","key","value","headers"]):=b9 (by kernel_rfl)
theorem Vf:b3 (av w B b l) 1083 (bU (cY 45) (aM (ar pw 45) 8) df 1082 (.ref 1076)) FL (bodyOf (aM (ar pw 45) 8)) 2 [] (pp [] 0 ["self","use_compression_type"]):=b9 (by kernel_rfl)
theorem Vg:b3 (av w B b l) 1090 (bU (cY 45) (aM (ar pw 45) 9) df 1089 .none) yH (bodyOf (aM (ar pw 45) 9)) 1 [] (pp [] 0 ["self"]):=b9 (by kernel_rfl)
theorem Vh:b3 (av w B b l) 1097 (bU (cY 45) (aM (ar pw 45) 10) df 1096 .none) F7 (bodyOf (aM (ar pw 45) 10)) 1 [] (pp [] 0 ["self"]):=b9 (by kernel_rfl)
theorem Vi:b3 (av w B b l) 1104 (bU (cY 45) (aM (ar pw 45) 11) df 1103 .none) FD (bodyOf (aM (ar pw 45) 11)) 1 [] (pp [] 0 ["self"]):=b9 (by kernel_rfl)
theorem Vj:b3 (av w B b l) 1163 (bU (cY 46) (aM (ar pw 46) 0) df 1162 .none) E7 (bodyOf (aM (ar pw 46) 0)) 4 [] (pp [] 0 ["self","offset","size","timestamp"]):=b9 (by kernel_rfl)
theorem Vk:b3 (av w B b l) 1170 (bU (cY 46) (aM (ar pw 46) 1) df 1169 .none) Fs (bodyOf (aM (ar pw 46) 1)) 1 [] (pp [] 0 ["self"]):=b9 (by kernel_rfl)
theorem Vl:b3 (av w B b l) 1178 (bU (cY 46) (aM (ar pw 46) 2) df 1177 .none) Ff (bodyOf (aM (ar pw 46) 2)) 1 [] (pp [] 0 ["self"]):=b9 (by kernel_rfl)
theorem Vm:b3 (av w B b l) 1186 (bU (cY 46) (aM (ar pw 46) 3) df 1185 .none) Ft (bodyOf (aM (ar pw 46) 3)) 1 [] (pp [] 0 ["self"]):=b9 (by kernel_rfl)
theorem Vn:b3 (av w B b l) 1194 (bU (cY 46) (aM (ar pw 46) 4) df 1193 .none) Gb (bodyOf (aM (ar pw 46) 4)) 1 [] (pp [] 0 ["self"]):=b9 (by kernel_rfl)
theorem Vo:b3 (av w B b l) 1210 (bU "" (ar pw 48) df 1209 .none) Gy (bodyOf (ar pw 48)) 1 [] (pp [] 0 ["buffer"]):=b9 (by kernel_rfl)
theorem Vp:b3 (av w B b l) 1217 (bU "" (ar pw 49) df 1216 .none) Gl (bodyOf (ar pw 49)) 1 [] (pp [] 0 ["numbers"]):=b9 (by kernel_rfl)
theorem Vq:b3 (av w B b l) 1231 (bU (cY 51) (aM (ar pw 51) 4) md5 1230 .none) FQ (bodyOf (aM (ar pw 51) 4)) 2 [] (pp [] 0 ["self","bytes_data"]):=b9 (by kernel_rfl)
theorem Vr:b3 (av w B b l) 1238 (bU (cY 51) (aM (ar pw 51) 5) md5 1237 .none) FU (bodyOf (aM (ar pw 51) 5)) 1 [] (pp [] 0 ["self"]):=b9 (by kernel_rfl)
theorem GS:b3 (av w B b l) 1245 (bU (cY 51) (aM (ar pw 51) 6) md5 1244 .none) Gj (bodyOf (aM (ar pw 51) 6)) 1 [] (pp [] 0 ["self"]):=b9 (by kernel_rfl)
theorem GU:b3 (av w B b l) 1252 (bU (cY 51) (aM (ar pw 51) 7) md5 1251 .none) F1 (bodyOf (aM (ar pw 51) 7)) 1 [] (pp [] 0 ["self"]):=b9 (by kernel_rfl)
theorem Vs:b3 (av w B b l) 1259 (bU (cY 51) (aM (ar pw 51) 8) md5 1258 .none) E0 (bodyOf (aM (ar pw 51) 8)) 1 [] (pp [] 0 ["self"]):=b9 (by kernel_rfl)
theorem GV:b3 (av w B b l) 1266 (bU (cY 51) (aM (ar pw 51) 9) md5 1265 .none) Gh (bodyOf (aM (ar pw 51) 9)) 1 [] (pp [] 0 ["self"]):=b9 (by kernel_rfl)
theorem Vt:b3 (av w B b l) 1302 (bU (cY 52) (aM (ar pw 52) 0) md5 1301 (.ref 1295)) Gf (bodyOf (aM (ar pw 52) 0)) 4 [.ofString "offset",.ofString "transactional",.ofString "producer_id",.ofString "producer_epoch",.ofString "base_sequence"] (pp [(.ofString "offset",.kw 0),(.ofString "transactional",.kw 1),(.ofString "producer_id",.kw 2),(.ofString "producer_epoch",.kw 3),(.ofString "base_sequence",.kw 4)] 0 ["self","magic","compression_type","batch_size"]):=b9 (by kernel_rfl)
theorem Vu:b3 (av w B b l) 1309 (bU (cY 52) (aM (ar pw 52) 1) md5 1308 .none) EZ (bodyOf (aM (ar pw 52) 1)) 2 [] (pp [] 0 ["self","offsets_to_skip"]):=b9 (by kernel_rfl)
theorem Vv:b3 (av w B b l) 1317 (bU (cY 52) (aM (ar pw 52) 2) md5 1316 (.ref 1310)) yF (bodyOf (aM (ar pw 52) 2)) 5 [] (pp [] 0 ["self","timestamp","key","value","headers"]):=b9 (by kernel_rfl)
theorem Vw:b3 (av w B b l) 1317 (bU (cY 52) (aM (ar pw 52) 2) md5 1316 (.ref 1310)) yF (bodyOf (aM (ar pw 52) 2)) 4 [] (pp [(.ofString "headers",.none)] 0 ["self","timestamp","key","value"]):=b9 (by kernel_rfl)
theorem Vx:b3 (av w B b l) 1362 (bU (cY 52) (aM (ar pw 52) 8) md5 1361 .none) FN (bodyOf (aM (ar pw 52) 8)) 1 [] (pp [] 0 ["self"]):=b9 (by kernel_rfl)
theorem Vy:b3 (av w B b l) 1369 (bU (cY 52) (aM (ar pw 52) 9) md5 1368 .none) Fj (bodyOf (aM (ar pw 52) 9)) 1 [] (pp [] 0 ["self"]):=b9 (by kernel_rfl)
theorem Vz:b3 (av w B b l) 1376 (bU (cY 52) (aM (ar pw 52) 10) md5 1375 .none) Fl (bodyOf (aM (ar pw 52) 10)) 1 [] (pp [] 0 ["self"]):=b9 (by kernel_rfl)
theorem VA:b3 (av w B b l) 1383 (bU (cY 52) (aM (ar pw 52) 11) md5 1382 .none) Fc (bodyOf (aM (ar pw 52) 11)) 1 [] (pp [] 0 ["self"]):=b9 (by kernel_rfl)
theorem VB:b3 (av w B b l) 1390 (bU (cY 52) (aM (ar pw 52) 12) md5 1389 .none) E8 (bodyOf (aM (ar pw 52) 12)) 1 [] (pp [] 0 ["self"]):=b9 (by kernel_rfl)
theorem VC:b3 (av w B b l) 1404 (bU "" (ar pw 54) hG 1403 .none) F5 (bodyOf (ar pw 54)) 2 [] (pp [] 0 ["hand","many"]):=b9 (by kernel_rfl)
theorem VD:b3 (av w B b l) 1411 (bU "" (ar pw 55) hG 1410 .none) Fm (bodyOf (ar pw 55)) 2 [] (pp [] 0 ["value","size"]):=b9 (by kernel_rfl)
theorem VE:b3 (av w B b l) 1418 (bU "" (ar pw 56) hG 1417 .none) Fg (bodyOf (ar pw 56)) 2 [] (pp [] 0 ["octets","poly"]):=b9 (by kernel_rfl)
theorem VF:b3 (av w B b l) 1425 (bU "" (ar pw 57) hG 1424 .none) Fi (bodyOf (ar pw 57)) 1 [] (pp [] 0 ["value"]):=b9 (by kernel_rfl)
theorem VG:b3 (av w B b l) 1432 (bU "" (ar pw 58) hG 1431 .none) FC (bodyOf (ar pw 58)) 1 [] (pp [] 0 ["octets"]):=b9 (by kernel_rfl)
theorem VH:FnAt (av w B b l) 1437 (bU "" (ar pw 59) hG 1436 .none) (bodyOf (ar pw 59))/\m8 (av w B b l) (bU "" (ar pw 59) hG 1436 .none) 2 [] (pp [] 0 ["hand","long"]):=yE (by kernel_rfl) (by kernel_rfl) (by kernel_rfl)
theorem VI:FnAt (av w B b l) 1442 (bU "" (ar pw 60) hG 1441 .none) (bodyOf (ar pw 60))/\m8 (av w B b l) (bU "" (ar pw 60) hG 1441 .none) 3 [] (pp [] 0 ["hand","first","long"]):=yE (by kernel_rfl) (by kernel_rfl) (by kernel_rfl)
theorem VJ:b3 (av w B b l) 1449 (bU "" (ar pw 61) hG 1448 .none) Gx (bodyOf (ar pw 61)) 3 [] (pp [] 0 ["record","offset","first"]):=b9 (by kernel_rfl)
theorem VK:b3 (av w B b l) 1456 (bU "" (ar pw 62) hG 1455 .none) Gg (bodyOf (ar pw 62)) 5 [] (pp [] 0 ["told","base","epoch","attributes","records"]):=b9 (by kernel_rfl)
theorem VL:b3 (av w B b l) 1463 (bU "" (ar pw 63) hG 1462 .none) kn (bodyOf (ar pw 63)) 2 [] (pp [] 0 ["hand","long"]):=b9 (by kernel_rfl)
theorem VM:b3 (av w B b l) 1468 (bU "" (ar pw 64) hG 1467 .none) pq (bodyOf (ar pw 64)) 3 [] (pp [] 0 ["batch","told","size"]):=b9 (by kernel_rfl)
theorem VN:FnAt (av w B b l) 1473 (bU "" (ar pw 65) hG 1472 .none) (bodyOf (ar pw 65))/\m8 (av w B b l) (bU "" (ar pw 65) hG 1472 .none) 1 [] (pp [] 0 ["script"]):=yE (by kernel_rfl) (by kernel_rfl) (by kernel_rfl)
end
end
section
variable{w:cu}{B:a8}{b:aS}{d:ab}{σ:aa Cell}{Q:af->aa Cell->Prop}
theorem VO(F:(av w B b none).a0){bs:aa aU}(h:Q (.int (crcOf 2197175160 bs)) σ):bc (av w B b none) (d+1) (.ref 33) [.int 0,.bytes bs] [] σ Q:=by
 refine enter F rfl rfl rfl Uj Tp.2 rfl rfl ?_
 refine pe (λl m aC=>aC=σ/\hO λ(c:ab) (fx fo:bh af)=>dx (m=[some (.int c),some (.bytes bs),some (.bytes bs),fx,fo]) (c<2^32) (l.foldl (crcStep 2197175160) c=bs.foldl (crcStep 2197175160) 4294967295)) ?_ ?_ ⟨rfl,4294967295,none,none,rfl,by decide,rfl⟩
 ·rintro m aC ⟨rfl,c,fx,fo,rfl,aP,he⟩
  conv=>whnf
  have:jI (c:ah) 4294967295=(crcOf 2197175160 bs:ab):=by
   unfold crcOf;refine cv he ?_;exact nc c 4294967295
  refine ae this ?_;exact h
 ·rintro a l R dp m aC ⟨rfl,c,fx,fo,rfl,aP,he⟩
  conv=>whnf
  have aY:(c^^^a.toNat)%256<256:=pJ _ (by decide)
  have eb:d' (jI (c:ah) (a.toNat:ah)) 255=(((c^^^a.toNat)%256:ab):ah):=by rw[nc,bitAnd_m8];rfl
  refine ae eb ?_
  have bb:=R7 2197175160 c a
  generalize (c^^^a.toNat)%256=n at aY bb
  refine⟨by decide,RP (k:=n/64) (a:=EA (n/64)) (iV n 6) (sz (uQ (by exact nl λJ=>by lia))) ?_⟩
  refine n0 (q:=.int (eI 2197175160 8 n)) ?_ ?_
  ·rw[show(n:ah).toNat&&&jJ 63=n%64 from Nat.and_two_pow_sub_one_eq_mod n 6,sz (uQ (pJ _ (by decide))),vT]
  refine⟨by decide,?_⟩
  have aq:c/256<2^32:=by exact nl λJ=>by lia
  have cx:eI 2197175160 8 n^^^c/256<2^32:=Aa (yr (by decide) 8 n (by exact nl λJ=>by lia)) aq
  have az:d' (jI (eI 2197175160 8 n:ah) ((c:ah).fdiv (2^8))) 4294967295=(crcStep 2197175160 c a:ab):=by
   rw[iV,nc,bitAnd_m32,bb,show(2:ab)^8=256 from rfl]
   lia
  exact dp _ _ ⟨rfl,crcStep 2197175160 c a,some (.int a.toNat),some (.int n),by refine cv az ?_;rfl,yu (by decide) aP,he⟩
theorem VP(F:(av w B b none).a0){n:ab}(aY:n<2^32)(h:Q (.int n) σ):bc (av w B b none) (d+1) (.ref 40) [.int n] [] σ Q:=by
 refine enter F rfl rfl rfl Uk Th.2 rfl rfl ?_
 conv=>whnf
 have:d' (n:ah) 4294967295=n:=by rw[bitAnd_m32];lia
 refine ae this ?_;exact h
theorem yL{c1:ab}(aW:c1<2^32)(bs:aa aU):crcOf c1 bs<2^32:=by
 refine Aa ?_ (by decide)
 have:∀(l:aa aU) (c:ab),c<2^32->l.foldl (crcStep c1) c<2^32:=by
  intro l
  induction l with
  |nil=>exactλc h=>h
  |cons x l cF=>exactλc h=>cF _ (yu aW h)
 exact this bs _ (by decide)
theorem VQ(F:(av w B b none).a0){bs:aa aU}(h:Q (.int (crcOf 2197175160 bs)) σ):bc (av w B b none) (d+2) (.ref 47) [.bytes bs] [] σ Q:=by
 refine enter F rfl rfl rfl Ul T1.2 rfl rfl ?_
 refine(VO F ?_).call
 refine(VP F (yL (by decide) bs) ?_).call
 exact h
theorem GW(F:(av w B b none).a0){bs:aa aU}(h:Q (.int (crcOf 2197175160 bs)) σ):bc (av w B b none) (d+3) (.ref 76) [.bytes bs] [] σ Q:=by
 refine enter F rfl rfl rfl Up SI.2 rfl rfl ?_
 refine(VQ F ?_).call
 exact h
end
section
variable{w:cu}{B:a8}{b:aS}{d:ab}{σ:aa Cell}{Q:af->aa Cell->Prop}
theorem VR{v:ah}(h:-2^60<=v/\v<2^60):v.natAbs<2^64:=by
 induction v with
 |ofNat n=>exact IS (pI.mp (show((n:ab):ah)<((2^60:ab):ah)from h.2)) (by decide)
 |negSucc n=>exact zI (q7.mp (show((n+1:ab):ah)<=((2^60:ab):ah)from Int.neg_le_neg_iff.mp h.1)) (by decide)
theorem jn{c:aG}(aP:c.clean=true){old:aa aU}{i:ah}(x:ab)(a7:i=x)(aA:x<256)(aO:old.length+1<=1000000)(h:Q .none [.aZ (old++[x.toUInt8])]):cH c d (.builtin "bytearray.append") [.cell 0,.int i] [] [.aZ old] Q:=by
 subst a7
 exact ua aP rfl (hL x) (by exact fy λJ=>by lia) aO h
theorem VS(F:(av w B true none).a0){v:ah}{old:aa aU}(aB:-2^60<=v/\v<2^60)(aI:old.length+10<=1000000)(h:∀r,Q r [.aZ (old++fT 10 (gD v))]):bc (av w B true none) (d+1) (.ref 54) [.int v,.cell 0] [] [.aZ old] Q:=by
 refine enter F rfl rfl rfl Um TB.2 rfl rfl ?_
 refine⟨⟨by decide,by decide,VR aB⟩,?_⟩
 refine⟨by decide,?_⟩
 conv=>whnf
 obtain⟨eb,h0⟩:=uU aB
 refine ae eb ?_
 generalize gD v=n at h h0
 refine bY.intro (λe=>?_) λe=>?_
 ·have e:=fD e
  refine jn rfl n rfl (by exact nl λJ=>by lia) (by exact ne λJ=>by lia) ?_
  refine cv (kM (f:=9) (by exact ne λJ=>by lia)) ?_
  exact h _
 have e:=hM e
 refine bY.intro (λaz=>?_) λaz=>?_
 ·have az:=fD az
  refine jn rfl _ (sD n) (by exact nl λJ=>by lia) (by exact ne λJ=>by lia) ?_
  refine⟨by decide,?_⟩
  refine jn rfl (n/128) (iV n 7) (by exact nl λJ=>by lia) (by simp;exact ne λJ=>by lia) ?_
  have:=h (.int 2)
  rw[jl (f:=9) (by exact nl λJ=>by lia),kM (f:=8) (by exact ne λJ=>by lia)]at this
  rw[ee]
  exact this
 have az:=hM az
 refine bY.intro (λaz=>?_) λaz=>?_
 ·have az:=fD az
  refine jn rfl _ (sD n) (by exact nl λJ=>by lia) (by exact ne λJ=>by lia) ?_
  refine⟨by decide,?_⟩
  refine jn rfl _ (qx n 7) (by exact nl λJ=>by lia) (by simp only[bZ,dc,fq];exact ne λJ=>by lia) ?_
  refine⟨by decide,?_⟩
  refine jn rfl _ (iV n 14) (by exact nl λJ=>by lia) (by simp only[bZ,dc,fq];exact ne λJ=>by lia) ?_
  have:=h (.int 3)
  rw[jl (by exact nl λJ=>by lia),jl (by exact nl λJ=>by lia),kM (by exact ne λJ=>by lia)]at this
  simp only[IT,IU]at this
  simp only[ee]
  exact this
 have az:=hM az
 refine bY.intro (λaz=>?_) λaz=>?_
 ·have az:=fD az
  refine jn rfl _ (sD n) (by exact nl λJ=>by lia) (by exact ne λJ=>by lia) ?_
  refine⟨by decide,?_⟩
  refine jn rfl _ (qx n 7) (by exact nl λJ=>by lia) (by simp only[bZ,dc,fq];exact ne λJ=>by lia) ?_
  refine⟨by decide,?_⟩
  refine jn rfl _ (qx n 14) (by exact nl λJ=>by lia) (by simp only[bZ,dc,fq];exact ne λJ=>by lia) ?_
  refine⟨by decide,?_⟩
  refine jn rfl _ (iV n 21) (by exact nl λJ=>by lia) (by simp only[bZ,dc,fq];exact ne λJ=>by lia) ?_
  have:=h (.int 4)
  rw[jl (by exact nl λJ=>by lia),jl (by exact nl λJ=>by lia),jl (by exact nl λJ=>by lia),kM (by exact ne λJ=>by lia)]at this
  simp only[IT,IU]at this
  simp only[ee]
  exact this
 have az:=hM az
 refine bY.intro (λaz=>?_) λaz=>?_
 ·have az:=fD az
  refine jn rfl _ (sD n) (by exact nl λJ=>by lia) (by exact ne λJ=>by lia) ?_
  refine⟨by decide,?_⟩
  refine jn rfl _ (qx n 7) (by exact nl λJ=>by lia) (by simp only[bZ,dc,fq];exact ne λJ=>by lia) ?_
  refine⟨by decide,?_⟩
  refine jn rfl _ (qx n 14) (by exact nl λJ=>by lia) (by simp only[bZ,dc,fq];exact ne λJ=>by lia) ?_
  refine⟨by decide,?_⟩
  refine jn rfl _ (qx n 21) (by exact nl λJ=>by lia) (by simp only[bZ,dc,fq];exact ne λJ=>by lia) ?_
  refine⟨by decide,?_⟩
  refine jn rfl _ (iV n 28) (by exact nl λJ=>by lia) (by simp only[bZ,dc,fq];exact ne λJ=>by lia) ?_
  have:=h (.int 5)
  rw[jl (by exact nl λJ=>by lia),jl (by exact nl λJ=>by lia),jl (by exact nl λJ=>by lia),jl (by exact nl λJ=>by lia),kM (by exact ne λJ=>by lia)]at this
  simp only[IT,IU]at this
  simp only[ee]
  exact this
 have az:=hM az
 refine⟨by decide,?_⟩
 rw[vU,show(n:ah)%128=((n%128:ab):ah)from by lia,show(n:ah).fdiv (2^jJ 7)=((n/128:ab):ah)from iV n 7]
 refine pg (λk m aC=>mG λ(f x i:ab) (acc:aa aU)=>tI (aC=[.aZ acc]) (m=[some (.int (x/128:ab)),some (.cell 0),some (.int (x%128:ab)),some (.int i)]) (f=k+1) (x<128^f) (acc++fT f x=old++fT 10 n) (acc.length+f<=old.length+10)) ?_ 9 ⟨10,n,0,old,rfl,rfl,rfl,by exact nl λJ=>by lia,rfl,by exact ne λJ=>by lia⟩
 rintro k R dp m aC ⟨f,x,i,acc,rfl,rfl,rfl,aA,he,a5⟩
 refine bY.intro (λay=>?_) λay=>?_
 ·have ay:((x/128:ab):ah)≠0:=by simpa using ay
  obtain⟨k,rfl⟩:∃bX,k=bX+1:=by
   induction k with
   |zero=>exact absurd (congrArg Int.ofNat (Nat.div_eq_of_lt (show x<128 from aA))) ay
   |succ k=>exact⟨k,rfl⟩
  rw[jl (by exact nl λJ=>by lia)]at he
  refine jn rfl _ (R9 (pJ _ (by decide))) (by exact nl λJ=>by lia) (by exact ne λJ=>by lia) ?_
  refine⟨by decide,?_⟩
  refine dp k rfl _ _ ⟨k+1,x/128,i+1,acc++[(128+x%128).toUInt8],rfl,?_,rfl,?_,?_,?_⟩
  ·rw[show((x/128/128:ab):ah)=((x/128:ab):ah).fdiv (2^jJ 7)from(iV (x/128) 7).symm,show((x/128%128:ab):ah)=d' ((x/128:ab):ah) 127 from by rw[vU];lia]
   rfl
  ·exact IV (by rw[z',<-z9];exact aA)
  ·rw[<-he,ee];rfl
  ·(refine ae bZ ?_;refine ae z1 ?_);exact ne λJ=>by lia
 ·have ay:((x/128:ab):ah)=0:=by simpa using ay
  rw[kM (by exact ne λJ=>by lia)]at he
  refine jn rfl _ rfl (by exact nl λJ=>by lia) (by exact ne λJ=>by lia) ?_
  (refine ae (show x%128=x from by lia) ?_;refine ae he ?_)
  exact h _
end
theorem VT:∀x:ab,x<256->(!(d' (x:ah) 129 !=0))=(x%2==0&&tv x 128):=by decide+kernel
theorem GX:∀x:ab,x<256->(!(d' (x:ah) 128 !=0))=tv x 128:=by decide+kernel
theorem sL{l r:aa aU}{x:aU}{k:ab}(h:l.drop k=x::r):l.getD k 0=x/\k<l.length/\l.drop (k+1)=r:=by
 have ba:k<l.length:=by
  have:=congrArg ig h
  rw[ih,dc]at this;exact Nat.lt_of_sub_pos (ae this (Nat.succ_pos _))
 rw[q1 ba]at h
 cases h
 exact⟨by(refine ae (j2) ?_;refine ae (tj ba) ?_);rfl,ba,rfl⟩
section
variable{w:cu}{B:a8}{b:aS}{d:ab}{σ:aa Cell}{Q:af->aa Cell->Prop}
theorem VU(F:(av w B b none).a0){v:ab}(aB:v<1000000)(h:Q (.int (fT 10 (gD v)).length) σ):bc (av w B b none) (d+1) (.ref 61) [.int v] [] σ Q:=by
 refine enter F rfl rfl rfl Un TF.2 rfl rfl ?_
 refine⟨⟨by decide,by decide,IS aB (by decide)⟩,?_⟩
 refine⟨by decide,?_⟩
 conv=>whnf
 have eb:=(uU (v:=v) (by lia)).1
 have h0:gD v=2*v:=by unfold gD;refine ae (cV (by exact hL _)) ?_;lia
 refine ae eb ?_
 generalize gD v=n at h h0
 refine bY.intro (λe=>?_) λe=>?_
 ·have e:=fD e
  rw[kM (by exact ne λJ=>by lia)]at h;exact h
 have e:=hM e
 refine bY.intro (λaz=>?_) λaz=>?_
 ·have az:=fD az
  rw[jl (by exact nl λJ=>by lia),kM (by exact ne λJ=>by lia)]at h;exact h
 have az:=hM az
 refine bY.intro (λay=>?_) λay=>?_
 ·have ay:=fD ay
  rw[jl (by exact nl λJ=>by lia),jl (by exact nl λJ=>by lia),kM (by exact ne λJ=>by lia)]at h;exact h
 have ay:=hM ay
 lia
theorem VV(F:(av w B b none).a0){v:ah}{buf post:aa aU}{p:ab}(aB:-2^60<=v/\v<2^60)(aI:buf.length<=1000000)(aq:buf.drop p=fT 10 (gD v)++post)(h:Q (.tup [.int v,.int (p+(fT 10 (gD v)).length:ab)]) [.aZ buf]):
  bc (av w B b none) (d+1) (.ref 69) [.cell 0,.int p] [] [.aZ buf] Q:=by
 refine enter F rfl rfl rfl Uo TC.2 rfl rfl ?_
 have h0:=(uU aB).2
 have aO:pj (gD v)=v:=R1 v
 generalize gD v=n at h h0 aq aO
 obtain⟨x,r,aA,n2⟩:eO λx r=>fT 10 n++post=x::r/\x.toNat=(if n<=127 then n else 128+n%128):=by
  unfold fT;split<;>refine⟨_,_,rfl,?_⟩<;>rw[mB,mC,lY (by exact nl λJ=>by lia)]
 obtain⟨g1,g2,g3⟩:=sL (aq.trans aA)
 refine⟨⟨by exact hL _,by exact pI.mpr ‹_›⟩,?_⟩
 conv=>whnf
 (refine ae (show buf.getD (p:ah).toNat 0=x from g1) ?_;refine ae (VT _ (nd x)) ?_)
 refine bY.intro (λe=>?_) λe=>?_
 ·simp only[gf,fW,Nat.blt_eq]at e
  refine⟨by decide,?_⟩
  rw[cV (by split at n2<;>(first|exact nl λJ=>by lia|exact ne λJ=>by lia))]at n2
  rw[kM (by exact ne λJ=>by lia)]at h
  have:v=(x.toNat:ah).fdiv (2^jJ 1):=by rw[show(x.toNat:ah).fdiv (2^jJ 1)=_ from iV x.toNat 1,<-aO,pj,cV (by lia),n2]
  refine cv this ?_;exact h
 conv=>whnf
 refine ae (GX _ (nd x)) ?_
 refine bY.intro (λaz=>?_) λaz=>?_
 ·simp only[Nat.blt_eq]at az
  refine⟨by decide,?_⟩
  have e:x.toNat%2=1:=by
   simp only[Bool.and_eq_false_iff,th,ne_eq]at e
   rcases e with e|e
   ·lia
   ·rw[show x.toNat.blt 128=true from by simpa using az]at e;exact absurd e.symm fV
  rw[cV (by split at n2<;>(first|exact nl λJ=>by lia|exact ne λJ=>by lia))]at n2
  rw[kM (by exact ne λJ=>by lia)]at h
  have:v=jI ((x.toNat:ah).fdiv (2^jJ 1)) (-1):=by
   rw[show(x.toNat:ah).fdiv (2^jJ 1)=_ from iV x.toNat 1,yp,<-aO,pj,cC (by lia),n2]
  rw[this]at h;exact h
 have az:¬x.toNat<128:=by
  intro z;rw[show x.toNat.blt 128=true from by simpa using z]at az;exact absurd az.symm fV
 have aY:127<n:=by split at n2<;>exact nl λJ=>by lia
 rw[cC (by exact Nat.not_le_of_lt ‹_›)]at n2
 rw[jl aY]at aA h
 have g3:buf.drop (p+1)=fT 9 (n/128)++post:=g3.trans (z7 aA).2.symm
 have mV:d' (x.toNat:ah) 127=((n%128:ab):ah):=by rw[vU];lia
 refine pg (λk m aC=>Af λ(f s lo y q:ab) (o:bh af)=>I6 (aC=[.aZ buf]) (m=[some (.cell 0),some (.int q),some (.int lo),some (.int s),o]) (f=k+1) (s+7*f=70) (lo<2^s) (n=lo+2^s*y) (y<128^f) (buf.drop q=fT f y++post/\
  q+(fT f y).length=p+((128+n%128).toUInt8::fT 9 (n/128)).length)) ?_ 8 ⟨9,7,n%128,n/128,p+1,none,rfl,?_,rfl,rfl,by exact nl λJ=>by lia,by lia,by exact nl λJ=>by lia,g3,by refine ae dc ?_;lia⟩
 rotate_left
 ·refine cv mV ?_;rfl
 rintro k R dp m aC ⟨f,s,lo,y,q,o,rfl,rfl,rfl,hs,VW,mU,bM,bg,u'⟩
 obtain⟨z,r,aA,yM⟩:eO λz r=>fT (k+1) y++post=z::r/\z.toNat=(if y<=127 then y else 128+y%128):=by
  unfold fT;split<;>refine⟨_,_,rfl,?_⟩<;>rw[mB,mC,lY (by exact nl λJ=>by lia)]
 obtain⟨g1,g2,g3⟩:=sL (bg.trans aA)
 refine⟨⟨by exact hL _,by exact pI.mpr ‹_›⟩,?_⟩
 refine ae (show buf.getD (q:ah).toNat 0=z from g1) ?_
 conv=>whnf
 have VX:d' (z.toNat:ah) 127=((y%128:ab):ah):=by rw[vU];split at yM<;>lia
 refine ae VX ?_
 refine⟨⟨by exact hL _,by exact fX λJ=>by lia,by exact nl λJ=>by lia⟩,?_⟩
 conv=>whnf
 have GY:=R' (y%128) VW
 have hT:(2:ab)^(s+7)=2^s*128:=Nat.pow_add 2 s 7
 refine ae (GX _ (nd z)) ?_
 refine bY.intro (λay=>?_) λay=>?_
 ·have ay:z.toNat<128:=by simpa using ay
  have va:y<=127:=by split at yM<;>(first|exact nl λJ=>by lia|exact ne λJ=>by lia)
  refine⟨by decide,?_⟩
  rw[kM va]at u'
  have:v=jI ((kT (lo:ah) (((y%128:ab):ah)*2^s)).fdiv (2^jJ 1)) (-d' (kT (lo:ah) (((y%128:ab):ah)*2^s)) 1):=by
   (refine ae GY ?_;refine ae (lY (by exact nl λJ=>by lia:y<128)) ?_;refine cv mU ?_)
   exact aO.symm.trans (Sa n).symm
  rw[<-u']at h
  rw[this]at h
  exact h
 ·have ay:¬z.toNat<128:=by
   intro u;rw[show z.toNat.blt 128=true from by simpa using u]at ay;exact absurd ay.symm fV
  have va:127<y:=by split at yM<;>exact nl λJ=>by lia
  obtain⟨k,rfl⟩:∃bX,k=bX+1:=by
   cases k with
   |zero=>exact absurd va (Iu.mpr (Nat.le_of_lt_succ (show y<127+1 from bM)))
   |succ k=>exact⟨k,rfl⟩
  rw[jl va]at aA u'
  have g3:buf.drop (q+1)=fT (k+1) (y/128)++post:=g3.trans (z7 aA).2.symm
  refine bY.f (mD (by lia)) ?_
  have hd:=vT y 128
  refine dp k rfl _ _ ⟨k+1,s+7,lo+2^s*(y%128),y/128,q+1,some (.int z.toNat),rfl,?_,rfl,by lia,?_,?_,IV (by rw[z',<-z9];exact bM),g3,by(refine cv u' ?_;refine ae dc ?_);lia⟩
  ·refine cv GY ?_;rfl
  ·refine ae hT ?_
   have:2^s*(y%128)<=2^s*127:=ac4 _ (by exact ne λJ=>by lia)
   exact nl λJ=>by lia
  ·rw[hT,Nat.mul_assoc,Nat.add_assoc,<-Nat.mul_add,IM (y%128),hd];exact mU
end
theorem vb{x:ah}:q2 8 x:=.of_left (by decide+kernel)
theorem GZ(x:aU):((x.toNat:ah)).toNat.toUInt8=x:=by rw[tp];exact UInt8.ofNat_toNat
theorem VY{buf o:aa aU}{p k:ab}(aB:p+o.length<=buf.length)(aI:k<o.length):(buf.take p++o.take k++buf.drop (p+k)).set (p+k) (o.getD k 0)=buf.take p++o.take (k+1)++buf.drop (p+(k+1)):=by
 have a5:(buf.take p++o.take k).length=p+k:=by(refine ae bZ ?_;refine ae lj ?_;refine ae lj ?_);lia
 have e:o.getD k 0=o[k]:=by(refine ae (j2) ?_;refine ae (tj aI) ?_);rfl
 rw[e,List.set_append,cC (by lia),a5,ib,q1 (by lia:p+k<buf.length),List.set_cons_zero,List.take_succ_eq_append_getElem aI,<-ee,ee (buf.take p++o.take k)]
 rfl
noncomputable def kO(sg:aS)(n:ab)(l:aa aU):ah:=if(sg&&(lG l).fdiv (2^(8*n-1)) !=0)=true then lG l-1*2^(8*n)else lG l
theorem vc{b:aa aU}{p q:ab}(aB:p<=q)(aI:q<=b.length):fu b (some (p:ah)) (some (q:ah))=(b.drop p).take (q-p):=by
 have e:∀k:ab,k<=b.length->clipAt b.length (k:ah)=k:=λk ba=>by
  show(max 0 (min (if(k:ah)<0 then(k:ah)+b.length else k) b.length)).toNat=k
  refine ae (cC (qP.mpr (hL k))) ?_
  refine ae (Int.min_eq_left (q7.mpr ba)) ?_
  exact ae (Int.max_eq_right (hL k)) rfl
 show(b.drop (clipAt b.length p)).take (clipAt b.length q-clipAt b.length p)=_
 (refine ae (e p (by exact c2 ‹_› ‹_›)) ?_;exact ae (e q aI) rfl)
theorem pow_256(n:ab):(2:ah)^(8*n)=256^n:=by refine ae Int.pow_mul ?_;rfl
theorem qB(n:ab):(8*(n:ah)).toNat=8*n:=rfl
theorem yN(n:ab):(8*(n:ah)-1).toNat=8*n-1:=Int.toNat_sub (8*n) 1
section
variable{w:cu}{B:a8}{b:aS}{d:ab}{σ:aa Cell}{Q:af->aa Cell->Prop}
theorem VZ(F:(av w B b none).a0){v:ah}{n:ab}{sg:aS}(aY:1<=n/\n<=8)(cx:if sg=true then-2^(8*n-1)<=v/\v<2^(8*n-1)else 0<=v/\v<2^(8*n))(h:Q (.bytes (dZ n (v%256^n))) σ):E5.1 (av w B b none) d [some (.int v),some (.int n),some (.bool sg),none,none] σ (m9 Q):=by
 have hm:q2 8 (n:ah):=vb
 have aW:(0:ah)<256^n:=IW (by decide)
 have hf:v.fmod (1*2^(8*n))=v%256^n:=by rw[pK,pow_256,mE _ (by exact vK ‹_›)]
 refine⟨hm,?_⟩
 refine⟨⟨by lia,by lia,by decide⟩,?_⟩
 rw[qB]
 induction sg
 ·skip
  refine bY.t (iH cx.1) ?_
  refine bY.f (by rw[pK,iH cx.2];rfl) ?_
  refine⟨hm,?_⟩
  refine⟨⟨by lia,by lia,by decide⟩,?_⟩
  rw[qB]
  refine⟨by rw[pK,pow_256];lia,?_⟩
  refine ae hf ?_
  exact xi aY.2 (tB _ (by lia)) (tC _ aW) h
 ·skip
  refine⟨hm,?_⟩
  refine⟨⟨by lia,by lia,by decide⟩,?_⟩
  rw[yN]
  refine bY.t (iH (by rw[pK];exact cx.1)) ?_
  refine bY.f (by rw[pK,iH cx.2];rfl) ?_
  refine⟨hm,?_⟩
  refine⟨⟨by lia,by lia,by decide⟩,?_⟩
  rw[qB]
  refine⟨by rw[pK,pow_256];lia,?_⟩
  refine ae hf ?_
  exact xi aY.2 (tB _ (by lia)) (tC _ aW) h
theorem ko(F:(av w B b none).a0){v:ah}{n:ab}{sg:aS}(aY:1<=n/\n<=8)(cx:if sg=true then-2^(8*n-1)<=v/\v<2^(8*n-1)else 0<=v/\v<2^(8*n))(h:Q (.bytes (dZ n (v%256^n))) σ):bc (av w B b none) (d+1) (.ref 138) [.int v,.int n,.bool sg] [] σ Q:=
 enter F rfl rfl rfl Uq E5.2 rfl rfl (VZ F aY cx h)
theorem V0(F:(av w B true none).a0){buf o:aa aU}{p:ab}(aW:p+o.length<=buf.length)(aq:buf.length<=1000000)(h:Q .none [.aZ (buf.take p++o++buf.drop (p+o.length))]):bc (av w B true none) (d+1) (.ref 145) [.cell 0,.int p,.bytes o] [] [.aZ buf] Q:=by
 refine enter F rfl rfl rfl Ur TH.2 rfl rfl ?_
 refine eF ?_
 refine qg rfl ?_
 refine bY.f (mD (by lia)) ?_
 refine eF ?_
 refine mT ?_
 refine pf (a:=0) (hc _) (by lia) ?_
 refine sy (λk m aC=>aC=[.aZ (buf.take p++o.take k++buf.drop (p+k))]/\∃x,m=[some (.cell 0),some (.int p),some (.bytes o),x]) ?_ ?_ ⟨by simp,none,rfl⟩
 ·rintro m aC ⟨rfl,x,rfl⟩
  rw[Nat.sub_zero,Ab,List.take_length]
  exact h
 ·rintro k R-ba dp m aC ⟨rfl,x,rfl⟩
  refine⟨⟨by exact hL _,by lia⟩,?_⟩
  have jk:=nd (o.getD k 0)
  refine⟨⟨by lia,?_,by exact hL _,pI.mpr jk⟩,?_⟩
  ·(refine ae bZ ?_;refine ae bZ ?_;refine ae lj ?_;refine ae lj ?_;refine ae ih ?_)
   have jc:k<o.length:=by rw[Ab]at ba;exact ba
   refine ae (Nat.min_eq_left (c2 (jH _ _) aW)) ?_;refine ae (Nat.min_eq_left (q9 jc)) ?_
   exact pI.mpr (Nat.lt_add_of_pos_right (Nat.sub_pos_of_lt (Nat.lt_of_lt_of_le (Nat.add_lt_add_left jc p) aW)))
  refine dp _ _ ⟨?_,some (.int k),rfl⟩
  refine cv (VY aW (by lia)) ?_
  rw[show(o.getD (k:ah).toNat 0)=o.getD k 0 from rfl,GZ];rfl
theorem V1(F:(av w B b none).a0){n p:ab}{buf:aa aU}{sg:aS}(aY:1<=n/\n<=8)(aq:buf.length<=1000000)(aW:p+n<=buf.length)(h:Q (.int (kO sg n ((buf.drop p).take n))) [.aZ buf]):yK.1 (av w B b none) d [some (.cell 0),some (.int p),some (.int n),some (.bool sg),none,none] [.aZ buf] (m9 (l5 1 Q)):=by
 refine kj (i:=1) rfl ?_
 have aP:fu buf (some (p:ah)) (some (p+n:ah))=(buf.drop p).take n:=by
  have:=vc (b:=buf) (p:=p) (q:=p+n) (by exact jH _ _) aW
  rwa [nt]at this
 refine ae aP ?_
 refine eF ?_
 have a5:((buf.drop p).take n).length=n:=by(refine ae lj ?_;refine ae ih ?_);lia
 refine ae a5 ?_
 refine bY.f (by simp) ?_
 generalize (buf.drop p).take n=l at h a5
 unfold kO at h
 have hm:q2 8 (n:ah):=vb
 refine⟨rfl,?_⟩
 refine⟨⟨by lia,rfl⟩,?_⟩
 induction sg
 ·skip
  exact .drop [.aZ buf] _ rfl rfl (.done h)
 ·skip
  refine⟨hm,?_⟩
  refine⟨by lia,?_⟩
  rw[yN]
  rw[Bool.true_and]at h
  refine bY.intro (λe=>?_) λe=>?_
  ·rw[cV e]at h
   refine⟨hm,?_⟩
   refine⟨⟨by lia,by lia,by decide⟩,?_⟩
   rw[qB]
   exact .drop [.aZ buf] _ rfl rfl (.done h)
  ·rw[cC (by refine ae e ?_;decide)]at h
   exact .drop [.aZ buf] _ rfl rfl (.done h)
theorem V2(F:(av w B b none).a0){n p:ab}{buf:aa aU}{sg:aS}(aY:1<=n/\n<=8)(aq:buf.length<=1000000)(aW:p+n<=buf.length)(h:Q (.int (kO sg n ((buf.drop p).take n))) [.aZ buf]):bc (av w B b none) (d+1) (.ref 153) [.cell 0,.int p,.int n,.bool sg] [] [.aZ buf] Q:=
 bc.trim (enter F rfl rfl rfl Us yK.2 rfl rfl (V1 F aY aq aW h))
theorem yO(F:(av w B b none).a0){n p:ab}{buf:aa aU}(aY:1<=n/\n<=8)(aq:buf.length<=1000000)(aW:p+n<=buf.length)(h:Q (.int (kO true n ((buf.drop p).take n))) σ):bc (av w B b none) (d+1) (.ref 153) [.bytes buf,.int p,.int n] [] σ Q:=by
 refine enter F rfl rfl rfl Ut yK.2 rfl rfl ?_
 refine Cs ?_
 have aP:fu buf (some (p:ah)) (some (p+n:ah))=(buf.drop p).take n:=by
  have:=vc (b:=buf) (p:=p) (q:=p+n) (by exact jH _ _) aW
  rwa [nt]at this
 refine ae aP ?_
 refine eF ?_
 have a5:((buf.drop p).take n).length=n:=by(refine ae lj ?_;refine ae ih ?_);lia
 refine ae a5 ?_
 refine bY.f (by simp) ?_
 generalize (buf.drop p).take n=l at h a5
 unfold kO at h
 have hm:q2 8 (n:ah):=vb
 refine⟨rfl,?_⟩
 refine⟨⟨by lia,rfl⟩,?_⟩
 ·skip
  refine⟨hm,?_⟩
  refine⟨by lia,?_⟩
  rw[yN]
  rw[Bool.true_and]at h
  refine bY.intro (λe=>?_) λe=>?_
  ·rw[cV e]at h
   refine⟨hm,?_⟩
   refine⟨⟨by lia,by lia,by decide⟩,?_⟩
   rw[qB]
   exact h
  ·rw[cC (by refine ae e ?_;decide)]at h
   exact h
end
section
variable{w:cu}{B:a8}{b:aS}{d:ab}{σ:aa Cell}{Q:af->aa Cell->Prop}
noncomputable def f9(l:aa aU):aa af:=l.map λx=>.int x.toNat
theorem G0(l:aa aU):o3 (l.map λx=>((x.toNat:ab):ah))=l:=by
 induction l with
 |nil=>rfl
 |cons x l cF=>show((x.toNat:ab):ah).toNat.toUInt8::o3 _=_;rw[cF,GZ]
theorem G1(l:aa aU):∀n∈l.map (λx:aU=>((x.toNat:ab):ah)),0<=n/\n<256:=λn aY=>by
 obtain⟨x,-,rfl⟩:=i1.mp aY
 have:=nd x;lia
theorem yP{c:aG}{i:ab}{l:aa aU}(aP:σ[i]? =some (.list (f9 l)))(h:Q (.bytes l) σ):cH c d (.type "bytes") [.cell i] [] σ Q:=
 bytes_list (ns:=l.map λx=>((x.toNat:ab):ah)) (by(refine ae aP ?_;refine ae nx ?_);rfl) (G1 l) (by rw[G0];exact h)
theorem G2(x y:aU)(n:ab)(r:aa aU):gC x (n+1) (y::r)=if y=x then gC x n r+1 else 0:=rfl
theorem V3(f:ab)(x:aU)(r:aa aU):e7 (f+1) (x::r)=(1+gC x 254 r).toUInt8::x::e7 f (r.drop (gC x 254 r)):=rfl
set_option maxRecDepth 100000 in
theorem V4(F:(av w B b none).a0){mk:aU}{data:aa aU}(aO:data.length<=100000)(h:Q (.bytes (mk::e7 data.length data)) []):bc (av w B b none) (d+1) (.ref 160) [.int mk.toNat,.bytes data] [] [] Q:=by
 refine bc.trim (enter F rfl rfl rfl Uu S8.2 rfl rfl ?_)
 refine pg (λq m aC=>mG λ(f k:ab) (acc:aa aU) (o:bh af)=>Ai (aC=[.list (f9 (mk::acc))]) (m=[some (.int mk.toNat),some (.bytes data),some (.cell 0),some (.int k),o]) ((data.drop k).length<=f) (q=f) (acc.length<=2*k) (k<=data.length) (acc++e7 f (data.drop k)=e7 data.length data)) ?_ data.length ⟨data.length,0,[],none,rfl,rfl,by simp,rfl,by trivial,by exact hc _,rfl⟩
 rintro f af0 V5 m aC ⟨_,k,acc,o,rfl,rfl,hf,rfl,a5,ba,he⟩
 refine eF ?_
 refine bY.intro (λe=>?_) λe=>?_
 ·have e:=fD e
  refine dI λdv b4=>?_
  obtain⟨x,r,aA⟩:eO λx r=>data.drop k=x::r:=⟨_,_,q1 (by exact pI.mp ‹_›:k<data.length)⟩
  obtain⟨g1,g2,g3⟩:=sL aA
  obtain⟨L,e5⟩:∃L,L=gC x 254 r:=⟨_,rfl⟩
  refine b4 ?_
  have a4:r.length=data.length-(k+1):=by(refine cv g3 ?_;exact ae ih rfl)
  refine RO (λq m aC=>∃n:ab,tI (aC=[.list (f9 (mk::acc))]) (m=[some (.int mk.toNat),some (.bytes data),some (.cell 0),some (.int k),some (.int n)]) (1<=n) (q+n=255) (n<=data.length) (L=n-1+gC x q (r.drop (n-1))))
   (λm aC=>∃n:ab,dx (aC=[.list (f9 (mk::acc))]) (m=[some (.int mk.toNat),some (.bytes data),some (.cell 0),some (.int k),some (.int n)]) (n=1+L)) ?_ ?_ 254 ⟨1,rfl,rfl,by exact cK _ _,by rfl,by exact ne λJ=>by lia,by refine ae e5 ?_;simp⟩
  ·rintro q R X dp g7 m aC ⟨n,rfl,rfl,cD,bg,yQ,aY⟩
   refine bY.intro (λaz=>?_) λaz=>?_
   ·have az:=fD az
    refine eF ?_
    refine bY.intro (λay=>?_) λay=>?_
    ·have ay:=fD ay
     refine⟨⟨by exact fX λJ=>by lia,by assumption⟩,?_⟩
     refine⟨⟨by exact hL _,by assumption⟩,?_⟩
     have hd:r.drop (n-1)=data.drop (k+n):=by(refine cv g3 ?_;refine ae hN ?_);congr 1;lia
     rw[hd,q1 (by exact nl λJ=>by lia:k+n<data.length)]at aY
     have bM:data.getD (k+n) 0=data[k+n]:=by(refine ae (j2) ?_;refine ae (tj (by exact nl λJ=>by lia)) ?_);rfl
     (refine ae (show((k:ah)+(n:ah)).toNat=k+n from rfl) ?_;refine ae (show((k:ah)).toNat=k from rfl) ?_;refine ae g1 ?_;refine ae bM ?_)
     obtain⟨eW,rfl⟩:∃eW,q=eW+1:=⟨q-1,by lia⟩
     refine bY.intro (λbF=>?_) λbF=>?_
     ·have bF:data[k+n]=x:=by
       have:((data[k+n].toNat:ab):ah)=(x.toNat:ab):=by exact fW.mp bF
       have:data[k+n].toNat=x.toNat:=by lia
       exact UInt8.toNat_inj.mp this
      refine dp eW rfl _ _ ⟨n+1,rfl,rfl,by exact cK _ _,by lia,by exact ne λJ=>by lia,?_⟩
      (refine ae aY ?_;refine ae bF ?_)
      rw[G2,cV rfl,show n+1-1=n from rfl,<-g3,hN,show k+1+n=k+n+1 from by exact vR _ _ _]
      lia
     ·have bF:data[k+n]≠x:=λz=>by rw[z]at bF;simp at bF
      refine g7 _ _ ⟨n,rfl,rfl,?_⟩
      refine ae aY ?_
      rw[G2,cC bF]
      lia
    ·have ay:=hM ay
     refine g7 _ _ ⟨n,rfl,rfl,?_⟩
     (refine ae aY ?_;refine ae (zO (by exact ne λJ=>by lia)) ?_)
     have:gC x q []=0:=by induction q<;>rfl
     lia
   ·have az:=hM az
    refine g7 _ _ ⟨n,rfl,rfl,?_⟩
    (refine ae aY ?_;refine ae (show q=0 from by lia) ?_)
    have:gC x 0 (r.drop (n-1))=0:=rfl
    lia
  ·rintro m aC ⟨n,rfl,rfl,aY⟩
   have af1:=(uT x 254 r).2
   refine gM rfl (by unfold f9;rw[gK,dc];exact ne λJ=>by lia) ?_
   refine⟨⟨by exact hL _,by assumption⟩,?_⟩
   refine gM rfl (by unfold f9;rw[bZ,gK,dc,z1];exact ne λJ=>by lia) ?_
   obtain⟨vd,rfl⟩:∃vd,f=vd+1:=⟨f-1,by rw[ih]at hf;lia⟩
   have af2:=(uT x 254 r).1
   rw[aA,V3,<-e5]at he
   have hd:r.drop L=data.drop (k+n):=by(refine cv g3 ?_;refine ae hN ?_);congr 1;lia
   refine V5 vd rfl _ _ ⟨vd,k+n,acc++[(1+L).toUInt8,x],some (.int n),?_,rfl,?_,rfl,?_,by exact ne λJ=>by lia,?_⟩
   ·refine ae (show data.getD (k:ah).toNat 0=x from g1) ?_
    have:((1+L).toUInt8).toNat=n:=by rw[mB,mC,lY (by exact nl λJ=>by lia)];exact vz ‹_›
    unfold f9
    (refine cv oh ?_;refine ae kU ?_)
    show _=[Cell.list (_++[af.int ((1+L).toUInt8).toNat,_])]
    rw[this,ee];rfl
   ·rw[ih]at hf⊢;exact c2 (Nat.sub_le_sub_left (Nat.add_le_add_left (show 1<=n from ae aY (jH 1 L)) k) _) (Nat.sub_le_sub_right hf 1)
   ·refine ae bZ ?_;simp only[dc,fq];exact ne λJ=>by lia
   ·rw[<-he,<-hd,ee];rfl
 ·have e:=hM e
  refine yP rfl ?_
  rw[zO (by exact ne λJ=>by lia),show e7 f []=[]by induction f<;>rfl,il]at he
  refine ae he ?_
  exact .drop [] _ rfl rfl (.done h)
theorem V6(F:(av w B b none).a0){mk:aU}{data:aa aU}(aB:data.length%2=0)(aO:data.length<=200000)(k5:(fS data).length<=200000)(h:Q (.bytes (fS data)) []):bc (av w B b none) (d+1) (.ref 167) [.int mk.toNat,.bytes (mk::data)] [] [] Q:=by
 refine bc.trim (enter F rfl rfl rfl Uv To.2 rfl rfl ?_)
 refine eF ?_
 refine⟨by decide,?_⟩
 refine bY.f (by
  have:(((mk::data).length:ab):ah).fmod 2=1:=by(refine ae (mE _ (by decide)) ?_;refine ae dc ?_);lia
  refine ae this ?_;rfl) ?_
 refine⟨⟨by decide,by refine ae dc ?_;exact fy λJ=>by lia⟩,?_⟩
 refine bY.f (by refine ae (show(mk::data).getD (jJ 0) 0=mk from rfl) ?_;simp) ?_
 refine eF ?_
 refine K3 (by decide) (by decide) ?_
 refine RL (n:=data.length/2) (by refine ae dc ?_;lia) (by exact ne λJ=>by lia) ?_
 refine sy (λi m aC=>eO λacc o=>dx (aC=[.list (f9 acc)]) (m=[some (.int mk.toNat),some (.bytes (mk::data)),some (.cell 0),o]) (acc++fS (data.drop (2*i))=fS data)) ?_ ?_ ⟨[],none,rfl,rfl,rfl⟩
 ·rintro m aC ⟨acc,o,rfl,rfl,he⟩
  rw[zO (by exact ne λJ=>by lia)]at he
  have he:acc=fS data:=by refine cv he ?_;exact(il acc).symm
  subst he
  refine yP rfl ?_
  exact .drop [] _ rfl rfl (.done h)
 ·rintro i R-a7 dp m aC ⟨acc,o,rfl,rfl,he⟩
  refine dI λdv b4=>?_
  obtain⟨n,NQ,ml⟩:eO λx r=>data.drop (2*i)=x::r:=⟨_,_,q1 (by exact nl λJ=>by lia)⟩
  obtain⟨g1,g2,g3⟩:=sL ml
  obtain⟨x,nN,hd2⟩:eO λx r=>data.drop (2*i+1)=x::r:=⟨_,_,q1 (by exact nl λJ=>by lia)⟩
  obtain⟨tY,l7,V7⟩:=sL hd2
  refine b4 ?_
  rw[ml,<-g3,hd2]at he
  refine⟨⟨by exact fX λJ=>by lia,by refine ae dc ?_;exact fy λJ=>by lia⟩,?_⟩
  have a1:(mk::data).getD (((1+2*i:ab):ah)+1).toNat 0=x:=by
   refine ae (show(((1+2*i:ab):ah)+1).toNat=2*i+1+1 from by lia) ?_;exact tY
  have a2:(mk::data).getD (((1+2*i:ab):ah)).toNat 0=n:=by
   refine ae (show(((1+2*i:ab):ah)).toNat=2*i+1 from by lia) ?_;exact g1
  refine ae a1 ?_
  refine⟨⟨by exact hL _,by refine ae dc ?_;exact fy λJ=>by lia⟩,?_⟩
  refine ae a2 ?_
  have aY:=nd n
  refine⟨⟨by exact hL _,by exact fX λJ=>by lia⟩,?_⟩
  have jk:fS (n::x::nN)=ef n.toNat x++fS nN:=rfl
  have aq:(f9 acc++ef n.toNat (af.int x.toNat))=f9 (acc++ef n.toNat x):=by unfold f9;(refine ae kU ?_;exact ae ac5 rfl)
  have hlen:acc.length+n.toNat<=200000:=by
   have:=congrArg ig he
   rw[jk,bZ,bZ,tD]at this
   exact ne λJ=>by lia
  refine ae (show((n.toNat:ah)).toNat=n.toNat from rfl) ?_
  refine⟨by unfold f9;rw[gK,tD];exact c2 ‹_› (cK _ _),?_⟩
  refine dp _ _ ⟨acc++ef n.toNat x,some (.int (1+2*i:ab)),by exact cv aq rfl,rfl,?_⟩
  rw[<-he,jk,ee,show 2*(i+1)=2*i+1+1 from by lia,V7]
theorem bc.G3{c:aG}{f:aj}{as:aa af}{nL:aa aU->Prop}(h:bc c d f as [] [] λa aC=>∃x,dx (a=.bytes x) (aC=[]) (nL x))(bL:∀r,fQ r as=as)(k:∀x,nL x->Q (.bytes x) σ):bc c d f as [] σ Q:=
 bc.frame [] h tm (λJ h=>by exact absurd h jr) rfl (bL _).symm ⟨rfl,rfl⟩ λa ax ⟨x,az,ay,aA⟩=>by
  subst az ay
  show Q (.bytes x) (σ++[])
  rw[il];exact k x aA
theorem sM(F:(av w B b none).a0)(mk:aU){data:aa aU}(aO:data.length<=100000)(h:Q (.bytes (mk::e7 data.length data)) σ):bc (av w B b none) (d+1) (.ref 160) [.int mk.toNat,.bytes data] [] σ Q:=
 bc.G3 (V4 (Q:=λa aC=>∃x,dx (a=.bytes x) (aC=[]) (x=mk::e7 data.length data)) F aO ⟨_,rfl,rfl,rfl⟩) (λJ=>rfl) λx e=>by refine ae e ?_;exact h
theorem ve(F:(av w B b none).a0)(mk:aU){data:aa aU}(aB:data.length%2=0)(aO:data.length<=200000)(k5:(fS data).length<=200000)(h:Q (.bytes (fS data)) σ):bc (av w B b none) (d+1) (.ref 167) [.int mk.toNat,.bytes (mk::data)] [] σ Q:=
 bc.G3 (V6 (Q:=λa aC=>∃x,dx (a=.bytes x) (aC=[]) (x=fS data)) F aB aO k5 ⟨_,rfl,rfl,rfl⟩) (λJ=>rfl) λx e=>by refine ae e ?_;exact h
theorem V8(F:(av w B b none).a0){data:aa aU}(aO:data.length<=100000)(h:Q (.bytes (1::e7 data.length data)) σ):bc (av w B b none) (d+2) (.ref 174) [.bytes data] [] σ Q:=by
 refine enter F rfl rfl rfl Uw Ug.2 rfl rfl ?_
 exact(sM F 1 aO h).call
theorem V9(F:(av w B b none).a0){data:aa aU}(aB:data.length%2=0)(aO:data.length<=200000)(k5:(fS data).length<=200000)(h:Q (.bytes (fS data)) σ):bc (av w B b none) (d+2) (.ref 181) [.bytes (1::data)] [] σ Q:=by
 refine enter F rfl rfl rfl Ux TP.2 rfl rfl ?_
 exact(ve F 1 aB aO k5 h).call
theorem V'(F:(av w B b none).a0){data:aa aU}(aO:data.length<=100000)(h:Q (.bytes (2::e7 data.length data)) σ):bc (av w B b none) (d+2) (.ref 188) [.bytes data] [] σ Q:=by
 refine enter F rfl rfl rfl Uy SQ.2 rfl rfl ?_
 exact(sM F 2 aO h).call
theorem Wa(F:(av w B b none).a0){data:aa aU}(aB:data.length%2=0)(aO:data.length<=200000)(k5:(fS data).length<=200000)(h:Q (.bytes (fS data)) σ):bc (av w B b none) (d+2) (.ref 195) [.bytes (2::data)] [] σ Q:=by
 refine enter F rfl rfl rfl Uz Tw.2 rfl rfl ?_
 exact(ve F 2 aB aO k5 h).call
theorem Wb(F:(av w B b none).a0){data:aa aU}(aO:data.length<=100000)(h:Q (.bytes (3::e7 data.length data)) σ):bc (av w B b none) (d+2) (.ref 202) [.bytes data] [] σ Q:=by
 refine enter F rfl rfl rfl UA SR.2 rfl rfl ?_
 exact(sM F 3 aO h).call
theorem Wc(F:(av w B b none).a0){data:aa aU}(aB:data.length%2=0)(aO:data.length<=200000)(k5:(fS data).length<=200000)(h:Q (.bytes (fS data)) σ):bc (av w B b none) (d+2) (.ref 209) [.bytes (3::data)] [] σ Q:=by
 refine enter F rfl rfl rfl UB T5.2 rfl rfl ?_
 exact(ve F 3 aB aO k5 h).call
theorem Wd(F:(av w B b none).a0){data:aa aU}(aO:data.length<=100000)(h:Q (.bytes (4::e7 data.length data)) σ):bc (av w B b none) (d+2) (.ref 216) [.bytes data] [] σ Q:=by
 refine enter F rfl rfl rfl UC SH.2 rfl rfl ?_
 exact(sM F 4 aO h).call
theorem We(F:(av w B b none).a0){data:aa aU}(aB:data.length%2=0)(aO:data.length<=200000)(k5:(fS data).length<=200000)(h:Q (.bytes (fS data)) σ):bc (av w B b none) (d+2) (.ref 223) [.bytes (4::data)] [] σ Q:=by
 refine enter F rfl rfl rfl UD Tg.2 rfl rfl ?_
 exact(ve F 4 aB aO k5 h).call
end
noncomputable def Wf(p:ah->aS):af->aS
 |.int j=>p j
 |_=>false
theorem pv{p:ah->aS}{K:af->Prop}:∀{l:aa af} {r:ab},r<l.length->l.all (Wf p)=true->(∀j,p j=true->K (.int j))->kH l r K
 |[],_,h,_,_=>absurd h (Nat.not_lt_zero _)
 |a::l,0,_,a5,k=>by
  have z:=(fO.mp a5).1
  induction a using af.cs with
  |int j=>exact k j z
  |_=>exact absurd z fV
 |a::l,r+1,h,a5,k=>pv (l:=l) (IJ h) (fO.mp a5).2 k
section
variable{w:cu}{B:a8}{b:aS}{d:ab}{σ:aa Cell}{Q:af->aa Cell->Prop}
theorem G4{x:Cell}{K:Cell->Prop}:∀{σ:aa Cell} {j:ab},dw σ j=some x->K x->hk σ j K
 |[],_,e,_=>by exact absurd e.symm (cB _)
 |_::_,0,e,k=>by cases e;exact k
 |_::σ,j+1,e,k=>G4 (σ:=σ) (j:=j) e k
theorem G5{as:aa af}{i:ah}{j k:ab}{a:af}(aP:dw σ j=some (.list as))(a7:i=k)(ba:dw as k=some a)(h:Q a σ):uA (.cell j) (.int i) σ Q:=by
 subst a7
 exact G4 aP (n0 ba h)
theorem G6{c:aG}{l:aa aU}(h:Q (.bytes l) σ):cH c d (.type "bytes") [.lst (f9 l)] [] σ Q:=by
 have:=Oo (c:=c) (d:=d) (σ:=σ) (Q:=Q) (ns:=l.map λx=>((x.toNat:ab):ah)) (G1 l) (by rw[G0];exact h)
 rw[nx]at this;exact this
theorem sN{x y:ah}(h:x.natAbs<2^64):q2 x y:=.of_left (intBits_le_iff.mpr h)
theorem Wg(F:(av w B b none).a0){ns:aa ah}{k many:ab}(aY:ns.length<=63)(ba:k<1000000)(hm:0<many/\many<1000000)(h:∀r:ab,r<many->Q (.int r) [.list [.ey ns,.int (k+1)]]):bc (av w B b none) (d+1) (.ref 1404) [.cell 0,.int many] [] [.list [.ey ns,.int k]] Q:=by
 refine enter F rfl rfl rfl VC TG.2 rfl rfl ?_
 refine⟨⟨by decide,by simp⟩,?_⟩
 refine NO (by exact c2 ‹_› (cK _ _)) ?_
 have fin:∀x:ah,∃r:ab,r<many/\x.fmod many=r:=λx=>by
  refine ae (mE _ (by exact hL _)) ?_
  have aB:=tB x (show(many:ah)≠0 by lia)
  have aI:=tC x (show(0:ah)<many by exact fy λJ=>by lia)
  exact⟨(x%many).toNat,by exact nl λJ=>by lia,by exact(aa1 ‹_›).symm⟩
 have sO:((k:ah)).natAbs<2^64:=by exact nl λJ=>by lia
 refine bY.intro (λe=>?_) λe=>?_
 ·skip
  refine⟨sN (by decide),?_⟩
  refine⟨by lia,?_⟩
  obtain⟨r,aB,aI⟩:=fin (13*k+5)
  refine ae aI ?_
  exact h r aB
 ·have e:((ns.length:ab):ah)≠0:=by simpa using e
  refine⟨by assumption,?_⟩
  have h0:((k:ah).fmod ns.length)=((k%ns.length:ab):ah):=by refine ae (mE _ (by exact hL _)) ?_;rfl
  have ot:k%ns.length<ns.length:=pJ _ (by exact nl λJ=>by lia)
  refine ae h0 ?_
  refine⟨⟨by exact hL _,by exact pI.mpr ‹_›,by exact c2 ‹_› (cK _ _)⟩,?_⟩
  refine⟨sN (by decide),?_⟩
  refine⟨⟨e,zI aY (by decide)⟩,?_⟩
  refine⟨sN (by exact nl λJ=>by lia),?_⟩
  refine⟨by lia,?_⟩
  obtain⟨r,aB,aI⟩:=fin (ns.getD (((k%ns.length:ab):ah)).toNat 0+7*(k:ah)*(k:ah).fdiv ns.length)
  refine ae aI ?_
  exact h r aB
theorem kp(F:(av w B b none).a0){v:ah}{n:ab}(aY:n<=8)(h:Q (.bytes (dZ n (v%256^n))) σ):bc (av w B b none) (d+1) (.ref 1411) [.int v,.int n] [] σ Q:=by
 refine enter F rfl rfl rfl VD S1.2 rfl rfl ?_
 have aW:(0:ah)<256^n:=IW (by decide)
 have hf:v.fmod (1*2^(8*n))=v%256^n:=by rw[pK,pow_256,mE _ (by exact vK ‹_›)]
 refine⟨vb,?_⟩
 refine⟨⟨by exact fX λJ=>by lia,by exact fX λJ=>by lia,by decide⟩,?_⟩
 rw[qB]
 refine⟨by rw[pK,pow_256];lia,?_⟩
 refine ae hf ?_
 exact xi aY (tB _ (by lia)) (tC _ aW) h
theorem bc.G7{c:aG}{f:aj}{as:aa af}{ph:af}(h:bc c d f as [] [] λa aC=>a=ph/\aC=[])(bL:∀r,fQ r as=as)(a4:∀r,ph.b8 r=ph)(k:Q ph σ):bc c d f as [] σ Q:=
 bc.frame [] h tm (λJ h=>by exact absurd h jr) rfl (bL _).symm ⟨rfl,rfl⟩ λa ax ⟨az,ay⟩=>by
  subst az ay
  show Q (a.b8 _) (σ++[])
  rw[il,a4];exact k
noncomputable def gO:ab:=2197175160
theorem Wh(c1 j n:ab):eI c1 (j+1) n=lK c1 (eI c1 j n):=yt c1 j 1 n
noncomputable def sP(k:ab):aa af:=(vQ k).map λj=>.int (eI gO 4 j)
theorem Wi(F:(av w B b none).a0){bs:aa aU}:bc (av w B b none) (d+1) (.ref 1418) [.bytes bs,.int gO] [] [] λa aC=>a=.int (crcOf gO bs)/\aC=[]:=by
 refine bc.trim (enter F rfl rfl rfl VE SV.2 rfl rfl ?_)
 refine mT ?_
 refine pf (a:=0) (b:=16) (by decide) (by decide) ?_
 refine sy (λk m aC=>aC=[.list (sP k)]/\mG λfx fo kq sQ=>m=[some (.bytes bs),some (.int gO),some (.cell 0),fx,fo,kq,sQ]) ?_ ?_ ⟨rfl,none,none,none,none,rfl⟩
 ·rintro m aC ⟨rfl,fx,fo,kq,sQ,rfl⟩
  refine pe (λl m aC=>aC=[.list (sP 16)]/\mG λ(c:ab) (fx fo kq:bh af)=>dx (m=[some (.bytes bs),some (.int gO),some (.cell 0),fx,fo,some (.int c),kq]) (c<2^32) (l.foldl (crcStep gO) c=bs.foldl (crcStep gO) 4294967295)) ?_ ?_ ⟨rfl,4294967295,fx,fo,sQ,rfl,by decide,rfl⟩
  ·rintro m aC ⟨rfl,c,fx,fo,kq,rfl,aP,he⟩
   conv=>whnf
   have:jI (c:ah) 4294967295=(crcOf gO bs:ab):=by
    unfold crcOf;refine cv he ?_;exact nc c 4294967295
   refine ae this ?_
   exact .drop [] _ rfl rfl (.done ⟨rfl,rfl⟩)
  ·rintro a l R dp m aC ⟨rfl,c,fx,fo,kq,rfl,aP,he⟩
   refine⟨by decide,?_⟩
   have aA:(jI (c:ah) a.toNat).fmod 16=(((c^^^a.toNat)%16:ab):ah):=by rw[nc,mE _ (by decide)];rfl
   refine ae aA ?_
   refine G5 rfl rfl (sz (uQ (pJ _ (by decide)))) ?_
   refine⟨by decide,?_⟩
   have bM:jI (eI gO 4 ((c^^^a.toNat)%16):ah) ((c:ah).fdiv 16)=((eI gO 4 ((c^^^a.toNat)%16)^^^c/16:ab):ah):=by
    rw[show(c:ah).fdiv 16=((c/16:ab):ah)from iV c 4,nc]
   have lJ:=R8 gO c a
   conv=>whnf
   refine ae bM ?_
   generalize eI gO 4 ((c^^^a.toNat)%16)^^^c/16=r at lJ
   refine⟨by decide,?_⟩
   refine⟨by decide,?_⟩
   have aA:(jI (r:ah) ((a.toNat:ah).fdiv 16)).fmod 16=(((r^^^a.toNat/16)%16:ab):ah):=by
    rw[show(a.toNat:ah).fdiv 16=((a.toNat/16:ab):ah)from iV a.toNat 4,nc,mE _ (by decide)];rfl
   refine ae aA ?_
   refine G5 rfl rfl (sz (uQ (pJ _ (by decide)))) ?_
   refine⟨by decide,?_⟩
   refine dp _ _ ⟨rfl,crcStep gO c a,fx,fo,some (.int a.toNat),?_,yu (by decide) aP,he⟩
   rw[<-lJ,<-nc,show((r/16:ab):ah)=(r:ah).fdiv 16 from(iV r 4).symm]
 ·rintro k R-ba dp m aC ⟨rfl,fx,fo,kq,sQ,rfl⟩
  refine mT ?_
  refine pf (a:=0) (b:=4) (by decide) (by decide) ?_
  refine sy (λj m aC=>aC=[.list (sP k)]/\hO λfx fo kq=>m=[some (.bytes bs),some (.int gO),some (.cell 0),some (.int (eI gO j k)),fx,fo,kq]) ?_ ?_ ⟨rfl,fo,kq,sQ,rfl⟩
  ·rintro m aC ⟨rfl,fx,fo,kq,rfl⟩
   refine gM rfl (by unfold sP;rw[gK,List.length_range];exact ne λJ=>by lia) ?_
   refine dp _ _ ⟨?_,_,_,_,_,rfl⟩
   unfold sP
   (refine ae List.range_succ ?_;refine ae kU ?_);rfl
  ·rintro j C4-dN G8 m aC ⟨rfl,fx,fo,kq,rfl⟩
   refine⟨by decide,?_⟩
   have hs:=Wh gO j k
   unfold lK at hs
   refine bY.intro (λe=>?_) λe=>?_
   ·have e:(eI gO j k)%2=0:=by
     have:((eI gO j k:ab):ah).fmod 2=0:=by exact fW.mp e
     rw[mE _ (by decide)]at this;lia
    rw[cV e]at hs
    refine⟨by decide,?_⟩
    refine G8 _ _ ⟨rfl,some (.int j),fo,kq,?_⟩
    (refine ae hs ?_;exact ae (show((eI gO j k/2:ab):ah)=((eI gO j k:ab):ah).fdiv 2 from(iV _ 1).symm) rfl)
   ·have e:¬(eI gO j k)%2=0:=by
     intro z
     have:((eI gO j k:ab):ah).fmod 2=0:=by refine ae (mE _ (by decide)) ?_;lia
     rw[this]at e;cases e
    rw[cC e]at hs
    refine⟨by decide,?_⟩
    refine G8 _ _ ⟨rfl,some (.int j),fo,kq,?_⟩
    rw[hs,<-nc,show((eI gO j k/2:ab):ah)=((eI gO j k:ab):ah).fdiv 2 from(iV _ 1).symm]
theorem Wj(F:(av w B b none).a0){bs:aa aU}(h:Q (.int (crcOf 2197175160 bs)) σ):bc (av w B b none) (d+1) (.ref 1418) [.bytes bs,.int 2197175160] [] σ Q:=
 bc.G7 (Wi F) (λJ=>rfl) (λJ=>rfl) h
theorem Wk (F : (av w B b none).a0) {v : ah} (aB : -2 ^ 60 <= v /\ v < 2 ^ 60) : bc (av w B b none) (d+1) (.ref 1425) [.int v] [] [] λ a aC => a = .bytes (c8 v) /\ aC = [] := by
  refine bc.trim (enter F rfl rfl rfl VF SX.2 rfl rfl ?_)
  have h0 := (uU aB).2
  have k8 : (2 : ah) ^ 60 = 1152921504606846976 := rfl
  refine bY.intro (λ e => ?_) λ e => ?_
  all_goals first
    | (have e := fD e
       refine ⟨sN (by decide), ?_⟩
       rw [show 2 * v = (gD v : ab) from by unfold gD; rw [cV e]; lia]
       conv => whnf)
    | (have e := hM e
       refine ⟨sN (by decide), ?_⟩
       conv => whnf
       rw [show -2 * v - 1 = (gD v : ab) from by unfold gD; rw [cC e]; lia])
  all_goals
    unfold c8
    generalize gD v = n at h0
    refine pg (λ q m aC => eO λ (x : ab) (acc : aa aU) => pM (aC = [.list (f9 acc)]) (m = [some (.int v), some (.int x), some (.cell 0)]) (x < 128 ^ (q + 1)) (acc ++ fT (q + 1) x = fT 10 n) (acc.length + q <= 9)) ?_ 9 ⟨n, [], rfl, rfl, by exact nl λ J => by lia, rfl, by trivial⟩
    rintro q R dp m aC ⟨x, acc, rfl, rfl, aA, he, a5⟩
    have h2 : (f9 acc).length = acc.length := by unfold f9; rw [gK]
    refine bY.intro (λ ay => ?_) λ ay => ?_
    · have ay := fD ay
      refine ⟨by decide, ?_⟩
      refine gM rfl (by exact ne λ J => by lia) ?_
      refine ⟨by decide, ?_⟩
      obtain ⟨q, rfl⟩ : ∃ eW, q = eW + 1 := by
        induction q with
        | zero => simp at aA; lia
        | succ k => exact ⟨k, rfl⟩
      rw [jl (by exact nl λ J => by lia)] at he
      refine dp q rfl _ _ ⟨x / 128, acc ++ [(128 + x % 128).toUInt8], ?_, ?_, IV (by rw [z', <- z9]; exact aA), by rw [<- he, ee]; rfl, by (refine ae bZ ?_; refine ae z1 ?_); exact ne λ J => by lia⟩
      · have : ((128 + x % 128).toUInt8).toNat = 128 + x % 128 := by rw [mB, mC, lY (by exact nl λ J => by lia)]
        unfold f9
        refine ae kU ?_
        show _ = [Cell.list (_ ++ [af.int ((128 + x % 128).toUInt8).toNat])]
        rw [this, show (((128 + x % 128 : ab)) : ah) = 128 + (x : ah).fmod 128 from by rw [mE _ (by decide)]; lia]; rfl
      · exact ae (show ((x / 128 : ab) : ah) = (x : ah).fdiv 128 from (iV x 7).symm) rfl
    · have ay := hM ay
      rw [kM (by exact ne λ J => by lia)] at he
      refine ⟨by refine ae h2 ?_; simp; exact ne λ J => by lia, ?_⟩
      have aq : (f9 acc ++ [af.int x]) = f9 (acc ++ [x.toUInt8]) := by
        have : (x.toUInt8).toNat = x := by rw [mB, mC, lY (by exact nl λ J => by lia)]
        unfold f9
        refine ae kU ?_
        show _ = _ ++ [af.int (x.toUInt8).toNat]
        exact ae this rfl
      (refine ae aq ?_; refine ae he ?_)
      refine G6 ?_
      exact .drop [] _ rfl rfl (.done ⟨rfl, rfl⟩)
theorem qC(F:(av w B b none).a0){v:ah}(aB:-2^60<=v/\v<2^60)(h:Q (.bytes (c8 v)) σ):bc (av w B b none) (d+1) (.ref 1425) [.int v] [] σ Q:=
 bc.G7 (Wk F aB) (λJ=>rfl) (λJ=>rfl) h
theorem vf(F:(av w B b none).a0){o:dB}(aN:gN 1000 o)(h:Q (.bytes (fld o)) σ):bc (av w B b none) (d+2) (.ref 1432) [cI o] [] σ Q:=by
 have k8:(2:ah)^60=1152921504606846976:=rfl
 refine enter F rfl rfl rfl VG Tb.2 rfl rfl ?_
 induction o with
 |none=>
  exact(qC F (by decide) h).call
 |some x=>
  have aA:x.length<=1000:=aN
  refine eF ?_
  refine(qC F (by lia) ?_).call
  have:=hF x.length
  exact⟨by exact ne λJ=>by lia,h⟩
end
section
variable{w:cu}{B:a8}{b:aS}{d:ab}{σ:aa Cell}{Q:af->aa Cell->Prop}
noncomputable def hand(ns:aa ah)(k:ab):Cell:=.list [.ey ns,.int k]
theorem h9(F:(av w B b none).a0){ns:aa ah}{k:ab}(many:ab){rest:aa Cell}(aY:ns.length<=63)(ba:k<1000000)(hm:0<many/\many<1000000)(h:∀r:ab,r<many->Q (.int r) (hand ns (k+1)::rest)):cH (av w B b none) (d+1) (.ref 1404) [.cell 0,.int many] [] (hand ns k::rest) Q:=
 (bc.frame [0] (Wg (Q:=λa aC=>∃r:ab,dx (r<many) (a=.int r) (aC=[hand ns (k+1)])) F aY ba hm λr a4=>⟨r,a4,rfl,rfl⟩) (by trivial) (by simp) rfl rfl ⟨rfl,rfl⟩ λa ax ⟨r,a4,az,ay⟩=>by
  subst az ay
  show Q (.int r) (_::rest++[])
  rw[il];exact h r a4).call
theorem Wl (F : (av w B b none).a0) {ns : aa ah} {k : ab} {lg : aS} (aY : ns.length <= 63) (ba : k < 100000) (h : ∀ (o : dB) (bX : ab), gN (if lg = true then 66 else 3) o -> bX <= k + 5 -> Q (cI o) [hand ns bX]) : bc (av w B b none) (d+2) (.ref 1437) [.cell 0, .bool lg] [] [hand ns k] Q := by
  refine bc.trim (Eh F rfl rfl rfl VH rfl (by kernel_rfl) T9.2 rfl rfl ?_)
  refine h9 F 5 aY (by exact nl λ J => by lia) (by decide) λ r a4 => ?_
  match r, a4 with
  | 0, _ =>
    exact .done (h none (k + 1) trivial (by exact ne λ J => by lia))
  | j + 1, dN =>
    by_cases aP : j = 3 /\ lg = true
    · obtain ⟨rfl, rfl⟩ := aP
      refine h9 F 4 aY (k := k + 1) (by exact nl λ J => by lia) (by decide) λ r a4 => ?_
      refine ⟨by decide, ?_⟩
      have : ef (jJ 66) (af.int (65 + r)) = f9 (ef 66 (65 + r).toUInt8) := by
        unfold f9
        rw [ac5, show ((65 + r).toUInt8).toNat = 65 + r from by rw [mB, mC, lY (by exact nl λ J => by lia)]]; rfl
      refine ae this ?_
      refine G6 ?_
      exact .done (h (some _) (k + 2) (by show _ <= 66; refine ae tD ?_; decide) (by exact ne λ J => by lia))
    · refine bY.intro (λ e => ?_) λ e => ?_
      all_goals first
        | (have e : j = 3 := by
             have : ((j + 1 : ab) : ah) = 4 := by exact fW.mp e
             lia
           have a5 : lg = false := by
             induction lg
             · rfl
             · exact absurd ⟨e, rfl⟩ aP
           subst a5
           conv => whnf)
        | conv => whnf
      all_goals
        refine ae (show ((j + 1 : ab) : ah) - 1 = (j : ab) from by lia) ?_
        refine mT ?_
        refine pf (a := 0) (hc _) (by exact ne λ J => by lia) ?_
        refine Ei (λ i acc m aC => eO λ (l : aa aU) (o : bh af) => hQ (acc = f9 l) (l.length = i) (aC = [hand ns (k + 1 + i), .list acc]) (m = [some (.cell 0), o])) ?_ ?_ ⟨[], none, rfl, rfl, rfl, rfl⟩
        · rintro acc m aC ⟨l, o, rfl, a5, rfl, rfl⟩
          refine yP rfl ?_
          refine .drop [hand ns (k + 1 + (0 + (j - 0)))] _ rfl rfl (.done (h (some l) _ ?_ (by exact ne λ J => by lia)))
          show l.length <= _
          split <;> (first | exact nl λ J => by lia | exact ne λ J => by lia)
        · rintro i R - a7 dp acc m aC ⟨l, o, rfl, a5, rfl, rfl⟩
          refine h9 F 256 aY (by exact nl λ J => by lia) (by decide) λ x aA => ?_
          refine ⟨⟨rfl, by unfold f9; rw [gK]; exact ne λ J => by lia⟩, ?_⟩
          have aq : f9 l ++ [af.int x] = f9 (l ++ [x.toUInt8]) := by
            unfold f9
            refine ae kU ?_
            show _ = _ ++ [af.int (x.toUInt8).toNat]
            rw [mB, mC, lY (by assumption)]
          refine ae aq ?_
          exact dp _ _ _ ⟨l ++ [x.toUInt8], some (.int i), rfl, by (refine ae bZ ?_; refine ae a5 ?_); rfl, rfl, rfl⟩
theorem mn(o:dB)(r:ab->ab):(cI o).b8 r=cI o:=by induction o<;>rfl
theorem yR(F:(av w B b none).a0){ns:aa ah}{k:ab}{lg:aS}{rest:aa Cell}(aY:ns.length<=63)(ba:k<100000)(h:∀(o:dB) (bX:ab),gN (if lg=true then 66 else 3) o->bX<=k+5->Q (cI o) (hand ns bX::rest)):cH (av w B b none) (d+2) (.ref 1437) [.cell 0,.bool lg] [] (hand ns k::rest) Q:=
 (bc.frame [0] (Wl (Q:=λa aC=>eO λ(o:dB) (bX:ab)=>hQ (gN (if lg=true then 66 else 3) o) (bX<=k+5) (a=cI o) (aC=[hand ns bX])) F aY ba λo bX aB aI=>⟨o,bX,aB,aI,rfl,rfl⟩) (by trivial) (by simp) rfl rfl ⟨rfl,rfl⟩ λa ax ⟨o,bX,aB,aI,az,ay⟩=>by
  subst az ay
  show Q ((cI o).b8 _) (_::rest++[])
  rw[il,mn];exact h o bX aB aI).call
theorem Wm(F:(av w B b none).a0){ns:aa ah}{k:ab}{lg:aS}{start:ah}(aY:ns.length<=63)(ba:k<10000)(h:∀(r:Rec) (bX:ab),r.Ok start->bX<=k+30->Q r.fJ [hand ns bX]):bc (av w B b none) (d+3) (.ref 1442) [.cell 0,.int start,.bool lg] [] [hand ns k] Q:=by
 refine bc.trim (Eh F rfl rfl rfl VI rfl (by kernel_rfl) TV.2 rfl rfl ?_)
 refine⟨⟨by decide,by decide,by decide⟩,?_⟩
 refine h9 F 7 aY (by exact nl λJ=>by lia) (by decide) λr a4=>?_
 have hm:∃m:ah,dx (dw [af.int 0,.int 3,.int (-2),.int 70000,.int (-1000000000),.int 5000000,.int (10^jJ 11)] r=some (.int m)) (-1000000000<=m) (m<=100000000000):=by
  match r,a4 with
  |0,_|1,_|2,_|3,_|4,_|5,_|6,_=>exact⟨_,rfl,by decide,by decide⟩
 obtain⟨m,hm,aq⟩:=hm
 refine n0 hm ?_
 refine h9 F 4 aY (k:=k+1) (by exact nl λJ=>by lia) (by decide) λr a4=>?_
 have dN:∃j:ab,dw [af.int 0,.int 0,.int 1,.int 2] r=some (.int j)/\j<=2:=by
  match r,a4 with
  |0,_|1,_=>exact⟨0,rfl,by decide⟩
  |2,_=>exact⟨1,rfl,by decide⟩
  |3,_=>exact⟨2,rfl,by decide⟩
 obtain⟨j,dN,G9⟩:=dN
 refine n0 dN ?_
 refine mT ?_
 refine pf (a:=0) (hc _) (by exact c2 ‹_› (cK _ _)) ?_
 refine Ei (λi acc pw aC=>hO λ(l:aa (ab×dB)) (o:bh af) (bX:ab)=>tI (acc=l.map dP) (l.length=i) (∀x∈l,x.1<4/\gN 3 x.2) (aC=[hand ns bX,.list acc]) (bX<=k+2+6*i) (pw=[some (.cell 0),o])) ?_ ?_ ⟨[],none,k+2,rfl,rfl,by simp,rfl,by exact jH _ _,rfl⟩
 ·rintro acc pw aC ⟨l,o,bX,rfl,a5,aA,rfl,jc,rfl⟩
  refine yR F (lg:=false) aY (by exact nl λJ=>by lia) λfx iD yS G'=>?_
  refine yR F (lg:=lg) aY (by exact nl λJ=>by lia) λfo f7 pa sO=>?_
  refine .drop [hand ns f7] _ rfl rfl (.done ?_)
  have aO:∀(l:aa (ab×dB)) (n:ab) (y:af),hj n y (l.map dP)=l.map dP:=by
   intro l n y
   induction l with
   |nil=>rfl
   |cons a l cF=>
    obtain⟨a1,a2⟩:=a
    show af.sub n y (dP (a1,a2))::hj n y (l.map dP)=_
    refine ae cF ?_
    induction a2<;>rfl
  have:=h ⟨start+m,fx,fo,l⟩ f7 ⟨⟨by show _<=start+m;exact fX λJ=>by lia,by show start+m<=_;exact fX λJ=>by lia⟩,yS,?_,by show l.length<=2;exact ne λJ=>by lia,aA⟩ (by exact ne λJ=>by lia)
  ·have e:(af.sub 1 (Cell.ey 1 (.list (l.map dP))) (.tup [.int (start+m),cI fx,cI fo,.cell 1]))=Rec.fJ ⟨start+m,fx,fo,l⟩:=by
    show af.tup [_,af.sub 1 _ (cI fx),af.sub 1 _ (cI fo),af.lst (hj 1 _ (l.map dP))]=_
    rw[aO]
    induction fx<;>induction fo<;>rfl
   exact e▸this
  ·show gN 66 fo
   induction fo with
   |none=>trivial
   |some x=>
    have:x.length<=if lg=true then 66 else 3:=pa
    show x.length<=66
    split at this<;>(first|assumption|exact c2 ‹_› (cK _ _))
 ·rintro i R-a7 dp acc pw aC ⟨l,o,bX,rfl,a5,aA,rfl,jc,rfl⟩
  refine h9 F 4 aY (by exact nl λJ=>by lia) (by decide) λr a4=>?_
  have hs:dw [af.str (.ofString ""),.str (.ofString "a"),.str (.ofString "é"),.str (.ofString "€z")] r=some (.str (o5 r)):=by
   match r,a4 with
   |0,_|1,_|2,_|3,_=>rfl
  refine n0 hs ?_
  refine yR F (lg:=false) aY (by exact nl λJ=>by lia) λfx iD yS G'=>?_
  refine⟨⟨rfl,by rw[gK];exact ne λJ=>by lia⟩,?_⟩
  refine dp _ _ _ ⟨l++[(r,fx)],some (.int i),iD,?_,by(refine ae bZ ?_;refine ae a5 ?_);rfl,?_,rfl,by exact ne λJ=>by lia,rfl⟩
  ·refine ae kU ?_;rfl
  ·intro x hm
   rcases gT.mp hm with hm|hm
   ·exact aA x hm
   ·refine ae (eV.mp hm) ?_;exact⟨a4,yS⟩
end
section
variable{w:cu}{B:a8}{b:aS}{d:ab}{σ:aa Cell}{Q:af->aa Cell->Prop}
theorem vg(i:ab):(eg i).length<=10:=by
 match i with
 |0|1|2=>decide
 |_+3=>show([226,130,172,122]:aa aU).length<=10;decide
theorem lL{o:dB}{n:ab}(h:gN n o):(fld o).length<=n+10:=by
 induction o with
 |none=>exact c2 (hF _) (by exact cK _ _)
 |some x=>
  refine ae bZ ?_
  have:=hF x.length
  have:x.length<=n:=h
  exact ne λJ=>by lia
theorem gN.mono{n k:ab}{o:dB}(h:gN n o)(e:n<=k):gN k o:=by
 induction o with
 |none=>trivial
 |some x=>exact c2 (show x.length<=n from h) e
theorem Wn(F:(av w B b none).a0){r:Rec}{off first start:ah}(a4:r.Ok start)(hf:start-1000000000<=first/\first<=start+100000000000)(aN:0<=off/\off<=1000)(h:Q (.bytes (r.laid off first)) σ):bc (av w B b none) (d+3) (.ref 1449) [r.fJ,.int off,.int first] [] σ Q:=by
 have k8:(2:ah)^60=1152921504606846976:=rfl
 have:=a4.t
 refine enter F rfl rfl rfl VJ T7.2 rfl rfl ?_
 refine(qC F (by lia) ?_).call
 refine⟨by have:=hF (r.t-first);simp;exact ne λJ=>by lia,?_⟩
 refine(qC F (by lia) ?_).call
 have v1:=hF (r.t-first)
 have v2:=hF off
 refine⟨by simp;exact ne λJ=>by lia,?_⟩
 refine(vf F (a4.key.mono (by decide)) ?_).call
 have f1:=lL a4.key
 refine⟨by simp;exact ne λJ=>by lia,?_⟩
 refine(vf F (a4.val.mono (by decide)) ?_).call
 have f2:=lL a4.val
 refine⟨by simp;exact ne λJ=>by lia,?_⟩
 refine B5 ?_
 have a5:=a4.hd
 refine(qC F (by simp;exact fy λJ=>by lia) ?_).call
 have g4:=hF (r.hd.map dP).length
 refine⟨by simp only[bZ,dc,fq];exact ne λJ=>by lia,?_⟩
 rw[gK]at g4⊢
 refine pe (λl m aC=>aC=σ/\hO λ(fx fo:bh af) (body:aa aU)=>hQ (m=[some r.fJ,some (.int off),some (.int first),some (.int r.t),some (cI r.key),some (cI r.val),some (.lst (r.hd.map dP)),some (.bytes body),fx,fo]) (body++l.flatMap gr=r.body off first) (∀x∈l,x.1<4/\gN 3 x.2) (body.length+40*l.length<=400)) ?_ ?_ ⟨rfl,none,none,_,rfl,rfl,a4.jX,by simp only[bZ,dc,fq];exact ne λJ=>by lia⟩
 ·rintro m aC ⟨rfl,fx,fo,body,rfl,he,-,aO⟩
  have he:body=r.body off first:=by refine cv he ?_;simp
  refine eF ?_
  refine(qC F (by simp at aO;lia) ?_).call
  have:=hF body.length
  refine⟨by simp at aO;exact ne λJ=>by lia,?_⟩
  rw[he]at*
  exact h
 ·rintro⟨nm,o⟩ l R dp m aC ⟨rfl,fx,fo,body,rfl,he,aA,aO⟩
  have mZ:=aA _ og
  rw[dc]at aO
  refine CS nm ?_
  have aq:=vg nm
  refine(vf F (o:=some (eg nm)) (show _<=1000 by exact c2 ‹_› (cK _ _)) ?_).call
  have g1:(fld (some (eg nm))).length<=10+10:=lL (o:=some (eg nm)) aq
  refine⟨by exact ne λJ=>by lia,?_⟩
  refine(vf F (mZ.2.mono (by decide)) ?_).call
  have g2:(fld o).length<=3+10:=lL mZ.2
  refine⟨by refine ae bZ ?_;exact ne λJ=>by lia,?_⟩
  refine dp _ _ ⟨rfl,some (.str (o5 nm)),some (cI o),body++fld (some (eg nm))++fld o,rfl,?_,λx hm=>aA x (.tail _ hm),by simp only[bZ];exact ne λJ=>by lia⟩
  rw[<-he,ee,ee]
  show body++(fld (some (eg nm))++(fld o++l.flatMap gr))=body++((fld (some (eg nm))++fld o)++l.flatMap gr)
  rw[ee]
theorem hn:∀(n:ab) (x:ah),(dZ n x).length=n
 |0,_=>rfl
 |n+1,x=>by show(dZ n (x/256)++[_]).length=_;rw[bZ,hn n];rfl
noncomputable def j0(o:Told)(rows:af)(more:aa (ab×af)):Cell:=.dict ([(85,.int o.last),(83,.int o.first),(82,.int o.most),(88,.int o.ec),(87,.int o.turn),(86,.int o.place),(84,.int o.many),(89,rows)]++more)
theorem Wo(F:(av w B b none).a0){o:Told}{base c6 at_:ah}{recs:aa aU}{rows:aa af}{more:aa (ab×af)}(aO:recs.length<=10000)(h:Q (.bytes (d0 o base c6 at_ recs)) [.list rows,j0 o (.cell 0) more]):
  bc (av w B b none) (d+2) (.ref 1456) [.cell 1,.int base,.int c6,.int at_,.bytes recs] [] [.list rows,j0 o (.cell 0) more] Q:=by
 refine enter F rfl rfl rfl VK TS.2 rfl rfl ?_
 refine(kp F (by decide) ?_).call
 refine(kp F (by decide) ?_).call
 refine⟨by exact cK _ _,?_⟩
 refine(kp F (by decide) ?_).call
 refine⟨by exact cK _ _,?_⟩
 refine(kp F (by decide) ?_).call
 refine⟨by exact cK _ _,?_⟩
 refine(kp F (by decide) ?_).call
 refine⟨by exact cK _ _,?_⟩
 refine(kp F (by decide) ?_).call
 refine⟨by exact cK _ _,?_⟩
 refine(kp F (by decide) ?_).call
 refine⟨by exact cK _ _,?_⟩
 refine(kp F (by decide) ?_).call
 refine⟨by exact cK _ _,?_⟩
 refine⟨by simp only[bZ,hn,dc,fq];exact ne λJ=>by lia,?_⟩
 refine(Wj F ?_).call
 refine(kp F (by decide) ?_).call
 refine(kp F (by decide) ?_).call
 refine eF ?_
 refine(kp F (by decide) ?_).call
 refine⟨by exact cK _ _,?_⟩
 refine(kp F (by decide) ?_).call
 refine⟨by exact cK _ _,?_⟩
 refine⟨by exact cK _ _,?_⟩
 refine⟨by exact cK _ _,?_⟩
 exact⟨by simp only[bZ,hn,dc,fq];exact ne λJ=>by lia,h⟩
end
section
variable{w:cu}{B:a8}{b:aS}{d:ab}{σ:aa Cell}{Q:af->aa Cell->Prop}
structure ho where
 codec:ab
 room:ah
 whole:aS
 prod:ah
 turn:ah
 place:ah
 et:af
 mt:af
 last:ah
 num:ah
noncomputable def cc(s:ho)(j:ab):Cell:=.inst 1147 [(53,.int 2),(54,.int s.codec),(55,.int s.room),(56,.bool s.whole),(57,.int s.prod),(58,.int s.turn),(59,.int s.place),(60,s.et),(61,s.mt),(62,.int s.last),(13,.int s.num),(9,.cell j)]
theorem Wq{n:ab}(h:n<=4):d' (n:ah) 7=n:=by rw[bitAnd_m3];lia
theorem Wr(F:(av w B true none).a0){codec:ab}{room prod turn place:ah}{whole:aS}(aP:codec<=4)(h:Q .none [cc ⟨codec,room,whole,prod,turn,place,.none,.none,0,0⟩ 1,.aZ (ef 61 0)]):
  bc (av w B true none) (d+1) (.ref 1029) [.cell 0] [(.ofString "magic",.int 2),(.ofString "compression_type",.int codec),(.ofString "is_transactional",.bool whole),(.ofString "producer_id",.int prod),(.ofString "producer_epoch",.int turn),(.ofString "base_sequence",.int place),(.ofString "batch_size",.int room)] [.inst 1147 []] Q:=by
 refine enter F rfl rfl rfl Vc S7.2 rfl rfl ?_
 conv=>whnf
 refine ae (Wq aP) ?_
 refine NR ?_
 refine OE rfl (by decide) (by decide) ?_
 exact h
theorem Ws(F:(av w B b none).a0){s:ho}{j:ab}{inc:aS}{rest:aa Cell}(aP:s.codec<=4)(h:Q (.int ((if inc=true then(s.codec:ah)else 0)+(if s.whole=true then 16 else 0))) (cc s j::rest)):bc (av w B b none) (d+1) (.ref 1068) [.cell 0,.bool inc] [] (cc s j::rest) Q:=by
 refine enter F rfl rfl rfl Vd SK.2 rfl rfl ?_
 obtain⟨codec,room,whole,prod,turn,place,et,mt,last,num⟩:=s
 have aP:codec<=4:=aP
 have eb:kT 0 (codec:ah)=codec:=(sC 0 codec).trans (by rw[Nat.zero_or])
 have az:kT (codec:ah) 16=codec+16:=by
  refine(sC codec 16).trans ?_
  have:codec|||16=codec+16:=by
   have:∀c:ab,c<=4->c|||16=c+16:=by decide
   exact this codec aP
  refine ae this ?_;rfl
 induction inc<;>induction whole
 all_goals repeat (refine⟨trivial,?_⟩;conv=>whnf)
 ·exact h
 ·exact h
 ·refine ae eb ?_;exact(zN (codec:ah))▸h
 ·(refine ae eb ?_;refine ae az ?_);exact h
theorem Wt(F:(av w B b none).a0){s:ho}{buf:aa aU}(h:Q (.int buf.length) [cc s 1,.aZ buf]):bc (av w B b none) (d+1) (.ref 1104) [.cell 0] [] [cc s 1,.aZ buf] Q:=by
 refine enter F rfl rfl rfl Vi Tc.2 rfl rfl ?_
 repeat refine⟨trivial,?_⟩
 refine qg (i:=1) rfl ?_
 exact h
noncomputable def lM(off:ah)(size:ab)(dW:ah):af:=.obj 1198 [(47,.int off),(67,.int size),(48,.int dW)]
noncomputable def ho.add(s:ho)(r:Rec)(off first mx:ah):ho:={s with et:=.int first,mt:=.int (if mx<r.t then r.t else mx),last:=off,num:=s.num+1}
theorem n3(F:(av w B true none).a0){v:ah}{old:aa aU}{k:ab}(aB:-2^60<=v/\v<2^60)(aI:old.length+10<=1000000)(ba:dw σ k=some (.aZ old))(h:∀r,Q r (σ.set k (.aZ (old++c8 v)))):cH (av w B true none) (d+1) (.ref 54) [.int v,.cell k] [] σ Q:=by
 have jc:σ[k]? =some (.aZ old):=hB.trans ba
 refine(bc.frame [k] (VS (Q:=λa aC=>aC=[.aZ (old++c8 v)]) F aB aI λr=>rfl) (by simp) (λi a7=>by refine ae (eV.mp a7) ?_;exact(dH.mp jc).1) (by(refine ae oj ?_;refine ae jc ?_);rfl) rfl ⟨rfl,rfl⟩ λa ax e=>?_).call
 subst e
 show Q _ (σ.set k _++[])
 rw[il];exact h _
section
variable{P:ct->aE->aa Cell->Prop}{jo a1 a2 gp eh e8 eJ fp hH eT d2:bh af}{m:aE}
theorem Wu(F:(av w B b none).a0){o:dB}(h:P .next (jo::a1::a2::some (cI o)::m) σ):C_DefaultRecordBatchBuilder_append_2.1 (av w B b none) d (jo::a1::a2::some (cI o)::m) σ P:=by
 unfold C_DefaultRecordBatchBuilder_append_2
 refine .mk ?_
 induction o
 ·exact h
 ·refine B8 ?_
  exact h
theorem Wv(F:(av w B b none).a0){o:dB}(h:P .next (jo::a1::a2::gp::some (cI o)::m) σ):C_DefaultRecordBatchBuilder_append_3.1 (av w B b none) d (jo::a1::a2::gp::some (cI o)::m) σ P:=by
 unfold C_DefaultRecordBatchBuilder_append_3
 refine .mk ?_
 induction o
 ·exact h
 ·refine B8 ?_
  exact h
theorem Ww(F:(av w B b none).a0){s:ho}{rest:aa Cell}{dW first mx:ah}{iE:aS}(hs:if iE=true then s.et=.none/\first=dW/\mx=dW else s.et=.int first/\s.mt=.int mx)
  (h:P .next (some (.cell 0)::a1::some (.int dW)::gp::eh::e8::some (.int (dW-first))::some (.int (if iE=true then 1 else 0))::m) (cc {s with et:=.int first,mt:=.int mx} 1::rest)):
  C_DefaultRecordBatchBuilder_append_4.1 (av w B b none) d (some (.cell 0)::a1::some (.int dW)::gp::eh::e8::eJ::fp::m) (cc s 1::rest) P:=by
 unfold C_DefaultRecordBatchBuilder_append_4
 refine .mk ?_
 obtain⟨codec,room,whole,prod,turn,place,et,mt,last,num⟩:=s
 induction iE<;>skip
 ·obtain⟨rfl,rfl⟩:=hs
  repeat refine⟨trivial,?_⟩
  exact h
 ·obtain⟨rfl,rfl,rfl⟩:=hs
  repeat refine⟨trivial,?_⟩
  have e:(0:ah)=mx-mx:=by lia
  rw[<-e]at h
  exact h
set_option tactic.hygienic true in
theorem Wx(F:(av w B true none).a0){c0 cM:Cell}{o:dB}{fP:aa aU}(aN:gN 100 o)(aO:fP.length<=1000)(h:P .next (jo::a1::a2::some (cI o)::eh::e8::eJ::fp::some (.cell 2)::m) [c0,cM,.aZ (fP++fld o)]):
  C_DefaultRecordBatchBuilder_append_8.1 (av w B true none) (d+1) (jo::a1::a2::some (cI o)::eh::e8::eJ::fp::some (.cell 2)::m) [c0,cM,.aZ fP] P:=by
 unfold C_DefaultRecordBatchBuilder_append_8
 refine .mk ?_
 have k8:(2:ah)^60=1152921504606846976:=rfl
 induction o
 ·refine ua (n:=1) rfl rfl (by decide) (by decide) (by exact ne λJ=>by lia) ?_
  exact h
 ·rename_i x
  have aA:x.length<=100:=aN
  refine eF ?_
  refine n3 F (by lia) (by exact ne λJ=>by lia) rfl λr=>?_
  have:=hF x.length
  refine uy (i:=2) rfl rfl (by refine ae bZ ?_;exact ne λJ=>by lia) ?_
  rw[ee]
  exact h
set_option tactic.hygienic true in
theorem Wy(F:(av w B true none).a0){c0 cM:Cell}{o:dB}{fP:aa aU}(aN:gN 100 o)(aO:fP.length<=1000)(h:P .next (jo::a1::a2::gp::some (cI o)::e8::eJ::fp::some (.cell 2)::m) [c0,cM,.aZ (fP++fld o)]):
  C_DefaultRecordBatchBuilder_append_9.1 (av w B true none) (d+1) (jo::a1::a2::gp::some (cI o)::e8::eJ::fp::some (.cell 2)::m) [c0,cM,.aZ fP] P:=by
 unfold C_DefaultRecordBatchBuilder_append_9
 refine .mk ?_
 have k8:(2:ah)^60=1152921504606846976:=rfl
 induction o
 ·refine ua (n:=1) rfl rfl (by decide) (by decide) (by exact ne λJ=>by lia) ?_
  exact h
 ·rename_i x
  have aA:x.length<=100:=aN
  refine eF ?_
  refine n3 F (by lia) (by exact ne λJ=>by lia) rfl λr=>?_
  have:=hF x.length
  refine uy (i:=2) rfl rfl (by refine ae bZ ?_;exact ne λJ=>by lia) ?_
  rw[ee]
  exact h
theorem Wz(F:(av w B true none).a0){c0 cM:Cell}{hd:aa (ab×dB)}{fP:aa aU}(cO:∀x∈hd,x.1<4/\gN 3 x.2)(a5:hd.length<=2)(aO:fP.length<=1000)
  (h:∀eT d2,P .next (jo::a1::a2::gp::eh::some (.lst (hd.map dP))::eJ::fp::some (.cell 2)::eT::d2::m) [c0,cM,.aZ (fP++hd.flatMap gr)]):
  C_DefaultRecordBatchBuilder_append_11.1 (av w B true none) (d+1) (jo::a1::a2::gp::eh::some (.lst (hd.map dP))::eJ::fp::some (.cell 2)::eT::d2::m) [c0,cM,.aZ fP] P:=by
 unfold C_DefaultRecordBatchBuilder_append_11
 refine .mk ?_
 have k8:(2:ah)^60=1152921504606846976:=rfl
 refine pe (λl pw aC=>hO λ(eT d2:bh af) (x:aa aU)=>pM (aC=[c0,cM,.aZ x]) (pw=jo::a1::a2::gp::eh::some (.lst (hd.map dP))::eJ::fp::some (.cell 2)::eT::d2::m) (x++l.flatMap gr=fP++hd.flatMap gr) (∀x∈l,x.1<4/\gN 3 x.2) (x.length+40*l.length<=1080)) ?_ ?_ ⟨eT,d2,fP,rfl,rfl,rfl,cO,by exact ne λJ=>by lia⟩
 ·rintro pw aC ⟨eT,d2,x,rfl,rfl,he,-,-⟩
  have he:x=fP++hd.flatMap gr:=by refine cv he ?_;simp
  refine ae he ?_
  exact h eT d2
 ·rintro⟨nm,o⟩ l R dp pw aC ⟨eT,d2,x,rfl,rfl,he,aA,aO⟩
  have mZ:gN 3 o:=(aA _ og).2
  rw[dc]at aO
  have aq:=vg nm
  have ur:=hF (eg nm).length
  have WA:gr (nm,o)=c8 (eg nm).length++eg nm++fld o:=rfl
  refine CS nm ?_
  refine eF ?_
  refine n3 F (by lia) (by exact ne λJ=>by lia) rfl λr=>?_
  refine uy (i:=2) rfl rfl (by refine ae bZ ?_;exact ne λJ=>by lia) ?_
  have fin:∀(eT d2:bh af),R (jo::a1::a2::gp::eh::some (.lst (hd.map dP))::eJ::fp::some (.cell 2)::eT::d2::m) [c0,cM,.aZ (x++c8 (eg nm).length++eg nm++fld o)]:=λeT d2=>dp _ _ ⟨eT,d2,_,rfl,rfl,by(refine cv he ?_;refine ae IX ?_;refine ae WA ?_);simp only[ee],λx hm=>aA x (.tail _ hm),by
   have:=lL mZ
   simp only[bZ];exact ne λJ=>by lia⟩
  induction o with
  |none=>
   refine ua (i:=2) (n:=1) rfl rfl (by decide) (by decide) (by simp only[bZ];exact ne λJ=>by lia) ?_
   exact fin _ _
  |some y=>
   have bM:y.length<=3:=mZ
   refine eF ?_
   refine n3 F (by lia) (by simp only[bZ];exact ne λJ=>by lia) rfl λr=>?_
   have:=hF y.length
   refine uy (i:=2) rfl rfl (by simp only[bZ];exact ne λJ=>by lia) ?_
   have:=fin (some (.bytes (eg nm))) (some (.bytes y))
   rw[show fld (some y)=c8 y.length++y from rfl,<-ee]at this
   exact this
theorem WB(F:(av w B b none).a0){s:ho}{rest:aa Cell}{dW mx:ah}(hs:s.mt=.int mx)(h:P .next (some (.cell 0)::a1::some (.int dW)::m) (cc {s with mt:=.int (if mx<dW then dW else mx)} 1::rest)):
  C_DefaultRecordBatchBuilder_append_16.1 (av w B b none) d (some (.cell 0)::a1::some (.int dW)::m) (cc s 1::rest) P:=by
 unfold C_DefaultRecordBatchBuilder_append_16
 refine .mk ?_
 obtain⟨codec,room,whole,prod,turn,place,et,mt,last,num⟩:=s
 have hs:mt=.int mx:=hs
 subst hs
 repeat refine⟨trivial,?_⟩
 refine bY.intro (λe=>?_) λe=>?_
 ·rw[cV (fD e)]at h
  exact h
 ·rw[cC (hM e)]at h
  exact h
end
theorem WC{c:aG}{C fI:aJ}{as:aa af}{kw:aa (au×af)}{bA:aa (ab×af)}(H:c.Ok)(hm:makesIn c.K C=true)(a7:findIn c.K (.ref C) "__init__"=some (some (.ref fI)))(hf:typeIn c.K (.ref fI)=some (.type "function"))
  (h:bc c d (.ref fI) (.cell 0::as) kw [.inst C []] λa aC=>a=.none/\aC=[.inst C bA])(bL:∀r,fQ r as=as)(WD:∀r,fQ r (kw.map (·.2))=kw.map (·.2))(pb:∀r,ka r bA=bA)(k:Q (.cell σ.length) (σ++[.inst C bA])):cH c (d+1) (.ref C) as kw σ Q:=by
 refine call_cls H hm a7 hf ?_
 have a4:eo [σ.length] (σ++[Cell.inst C []]).length 0=σ.length:=rfl
 refine bc.frame [σ.length] h (by simp) (λi e=>by refine ae (eV.mp e) ?_;simp) ?_ ?_ ⟨rfl,(WD _).symm⟩ λa ax ⟨az,ay⟩=>?_
 ·rw[oj,eU (eL _),ib];rfl
 ·show _=af.cell (eo [σ.length] _ 0)::fQ _ as
  rw[bL,a4]
 ·subst az ay
  refine⟨rfl,?_⟩
  show Q _ ((σ++[Cell.inst C []]).set σ.length (.inst C (ka _ bA))++[])
  rw[pb,il,ra _ _ (eL _),ib]
  exact k
theorem WE(F:(av w B b none).a0){off dW:ah}{n:ab}(h:Q (.cell σ.length) (σ++[.inst 1198 [(47,.int off),(67,.int n),(48,.int dW)]])):cH (av w B b none) (d+2) (.ref 1198) [.int off,.int n,.int dW] [] σ Q:=by
 refine WC F.H (by kernel_rfl) (fI:=1163) (by kernel_rfl) (by kernel_rfl) ?_ (λJ=>rfl) (λJ=>rfl) (λJ=>rfl) h
 refine enter F rfl rfl rfl Vj SM.2 rfl rfl ?_
 exact⟨rfl,rfl⟩
theorem Ha:∀{l:aa (ab×dB)},(∀x∈l,x.1<4/\gN 3 x.2)->(l.flatMap gr).length<=40*l.length
 |[],_=>by trivial
 |(n,o)::l,h=>by
  have cF:=Ha λx aA=>h x (.tail _ aA)
  have h0:gN 3 o:=(h _ og).2
  have:=lL h0
  have:=vg n
  have aY:(fld (some (eg n))).length<=10+10:=lL (o:=some (eg n)) this
  have e:gr (n,o)=fld (some (eg n))++fld o:=rfl
  (refine ae IX ?_;refine ae bZ ?_;refine ae dc ?_;refine ae e ?_;refine ae bZ ?_)
  exact ne λJ=>by lia
theorem vh{r:Rec}{off first start:ah}(a4:r.Ok start):(r.body off first).length<=300:=by
 have v1:=hF (r.t-first)
 have v2:=hF off
 have f1:=lL a4.key
 have f2:=lL a4.val
 have a5:=a4.hd
 have g4:=hF r.hd.length
 have:=Ha a4.jX
 unfold Rec.body
 simp only[bZ,dc]
 exact c2 (tE (tE (tE (tE (tE (tE v1 v2) f1) f2) g4) (c2 this (ac4 40 a5))) (eL 1)) (by decide)
theorem WG (F : (av w B true none).a0) {s : ho} {buf : aa aU} {r : Rec} {off first mx start : ah} {iE : aS} (a4 : r.Ok start) (hf : start - 1000000000 <= first /\ first <= start + 100000000000) (aN : 0 <= off /\ off <= 1000) (aO : buf.length <= 10000)
    (hs : if iE = true then s.et = .none /\ first = r.t /\ mx = r.t else s.et = .int first /\ s.mt = .int mx)
    (aB : iE = false -> s.room < (r.laid off first).length + buf.length -> Q .none [cc s 1, .aZ buf])
    (aI : (iE = true \/ ¬ s.room < (r.laid off first).length + buf.length) -> Q (lM off (r.laid off first).length r.t) [cc (s.add r off first mx) 1, .aZ (buf ++ r.laid off first)]) :
    bc (av w B true none) (d+3) (.ref 1075) [.cell 0, .int off, .int r.t, cI r.key, cI r.val, .lst (r.hd.map dP)] [] [cc s 1, .aZ buf] Q := by
  refine bc.trim (enter F rfl rfl rfl Ve SJ.2 rfl rfl ?_)
  have k8 : (2 : ah) ^ 60 = 1152921504606846976 := rfl
  have af3 := a4.t
  have v1 := hF (r.t - first)
  have v2 := hF off
  have f1 := lL a4.key
  have f2 := lL a4.val
  have a5 := a4.hd
  have g4 := hF r.hd.length
  refine B6 ?_
  refine B7 ?_
  refine B6 ?_
  refine B7 ?_
  refine Wu F ?_
  refine Wv F ?_
  refine Ww F hs ?_
  refine o4 rfl ?_
  refine n3 F (by lia) (by decide) rfl λ J => ?_
  refine n3 F (by lia) (by simp only [bZ, dc, fq]; exact ne λ J => by lia) rfl λ J => ?_
  refine Wx F (a4.key.mono (by decide)) (by simp only [bZ, dc, fq]; exact ne λ J => by lia) ?_
  refine Wy F (a4.val.mono (by decide)) (by simp only [bZ, dc, fq]; exact ne λ J => by lia) ?_
  refine B5 ?_
  rw [gK]
  refine n3 F (by lia) (by simp only [bZ, dc, fq]; exact ne λ J => by lia) rfl λ J => ?_
  refine Wz F a4.jX a5 (by simp only [bZ, dc, fq]; exact ne λ J => by lia) λ eT d2 => ?_
  have aq : [0] ++ c8 (r.t - first) ++ c8 off ++ fld r.key ++ fld r.val ++ c8 r.hd.length ++ r.hd.flatMap gr = r.body off first := by unfold Rec.body; simp
  have h2 := vh (off := off) (first := first) a4
  refine ae aq ?_
  unfold Rec.laid at aB aI
  generalize r.body off first = bd at h2 aB aI
  have af4 := hF bd.length
  refine qg (i := 2) rfl ?_
  repeat refine ⟨trivial, ?_⟩
  refine (VU F (v := bd.length) (by exact nl λ J => by lia) ?_).call
  refine qg (i := 1) rfl ?_
  repeat refine ⟨trivial, ?_⟩
  have WH : (bd.length : ah) + (fT 10 (gD bd.length)).length + buf.length = ((c8 bd.length ++ bd).length : ab) + buf.length := by refine ae bZ ?_; show _ = (((fT 10 (gD bd.length)).length + bd.length : ab) : ah) + _; lia
  refine ae WH ?_
  by_cases hC : iE = false /\ s.room < ((c8 bd.length ++ bd).length : ab) + buf.length
  · obtain ⟨rfl, hC⟩ := hC
    refine bY.t (iH hC) ?_
    refine .drop [cc { s with et := .int first, mt := .int mx } 1, .aZ buf] _ rfl rfl (.done ?_)
    have := aB rfl hC
    have e : ({ s with et := .int first, mt := .int mx } : ho) = s := by (refine cv hs.1 ?_; exact cv hs.2 rfl)
    have ay : cc { s with et := .int first, mt := .int mx } 1 = cc s 1 := by exact ae e rfl
    rw [<- ay] at this
    exact this
  · refine bY.intro (λ e => ?_) λ e => ?_
    all_goals first
      | (have e := fD e
         have WI : iE = true := by
           induction iE
           · exact absurd ⟨rfl, e⟩ hC
           · rfl
         subst WI
         have iI := aI (.inl rfl)
         conv => whnf)
      | (have iI := aI (.inr (hM e))
         conv => whnf)
    all_goals
      refine WB F rfl ?_
      repeat refine ⟨trivial, ?_⟩
      refine n3 F (by lia) (by exact ne λ J => by lia) rfl λ J => ?_
      refine Of (i := 1) (j := 2) rfl rfl rfl (by refine ae bZ ?_; exact ne λ J => by lia) ?_
      have WJ : (bd.length : ah) + (fT 10 (gD bd.length)).length = ((c8 bd.length ++ bd).length : ab) := by refine ae bZ ?_; show _ = (((fT 10 (gD bd.length)).length + bd.length : ab) : ah); lia
      refine ae WJ ?_
      refine WE F ?_
      rw [<- ee] at iI
      refine .drop [cc (s.add r off first mx) 1, .aZ (buf ++ c8 bd.length ++ bd), .aZ bd] _ rfl rfl (.drop [cc (s.add r off first mx) 1, .aZ (buf ++ c8 bd.length ++ bd)] _ rfl rfl (.done ?_))
      exact iI
end
section
variable{w:cu}{B:a8}{b:aS}{d:ab}{σ:aa Cell}{Q:af->aa Cell->Prop}
noncomputable def bj(n:ab)(v:ah):aa aU:=dZ n (v%256^n)
theorem gF(n:ab)(v:ah):(bj n v).length=n:=hn _ _
theorem WK(F:(av w B b none).a0){v0 v1 v2 g4 v4 jE v6 iX iF h' v10 v11 hp:ah}(h0:-2^(8*8-1)<=v0/\v0<2^(8*8-1))(aB:-2^(8*4-1)<=v1/\v1<2^(8*4-1))(aI:-2^(8*4-1)<=v2/\v2<2^(8*4-1))(cg:-2^(8*1-1)<=g4/\g4<2^(8*1-1))(dX:0<=v4/\v4<2^(8*4))(eP:-2^(8*2-1)<=jE/\jE<2^(8*2-1))(j7:-2^(8*4-1)<=v6/\v6<2^(8*4-1))(kB:-2^(8*8-1)<=iX/\iX<2^(8*8-1))(mH:-2^(8*8-1)<=iF/\iF<2^(8*8-1))(ot:-2^(8*8-1)<=h'/\h'<2^(8*8-1))(rj:-2^(8*2-1)<=v10/\v10<2^(8*2-1))(yT:-2^(8*4-1)<=v11/\v11<2^(8*4-1))(yU:-2^(8*4-1)<=hp/\hp<2^(8*4-1))(h:Q (.bytes (([]:aa aU)++bj 8 v0++bj 4 v1++bj 4 v2++bj 1 g4++bj 4 v4++bj 2 jE++bj 4 v6++bj 8 iX++bj 8 iF++bj 8 h'++bj 2 v10++bj 4 v11++bj 4 hp)) σ):
  bc (av w B b none) (d+2) (.ref 1217) [.tup [.int v0,.int v1,.int v2,.int g4,.int v4,.int jE,.int v6,.int iX,.int iF,.int h',.int v10,.int v11,.int hp]] [] σ Q:=by
 refine enter F rfl rfl rfl Vp TY.2 rfl rfl ?_
 refine mT ?_
 refine⟨by decide,?_⟩
 refine(ko F (n:=8) (sg:=true) (by decide) h0 ?_).call
 refine⟨by exact cK _ _,?_⟩
 refine(ko F (n:=4) (sg:=true) (by decide) aB ?_).call
 refine⟨by exact cK _ _,?_⟩
 refine(ko F (n:=4) (sg:=true) (by decide) aI ?_).call
 refine⟨by exact cK _ _,?_⟩
 refine(ko F (n:=1) (sg:=true) (by decide) cg ?_).call
 refine⟨by exact cK _ _,?_⟩
 refine(ko F (n:=4) (sg:=false) (by decide) dX ?_).call
 refine⟨by exact cK _ _,?_⟩
 refine(ko F (n:=2) (sg:=true) (by decide) eP ?_).call
 refine⟨by exact cK _ _,?_⟩
 refine(ko F (n:=4) (sg:=true) (by decide) j7 ?_).call
 refine⟨by exact cK _ _,?_⟩
 refine(ko F (n:=8) (sg:=true) (by decide) kB ?_).call
 refine⟨by simp only[bZ,hn,fq];exact cK _ _,?_⟩
 refine(ko F (n:=8) (sg:=true) (by decide) mH ?_).call
 refine⟨by simp only[bZ,hn,fq];exact cK _ _,?_⟩
 refine(ko F (n:=8) (sg:=true) (by decide) ot ?_).call
 refine⟨by simp only[bZ,hn,fq];exact cK _ _,?_⟩
 refine(ko F (n:=2) (sg:=true) (by decide) rj ?_).call
 refine⟨by simp only[bZ,hn,fq];exact cK _ _,?_⟩
 refine(ko F (n:=4) (sg:=true) (by decide) yT ?_).call
 refine⟨by simp only[bZ,hn,fq];exact cK _ _,?_⟩
 refine(ko F (n:=4) (sg:=true) (by decide) yU ?_).call
 refine⟨by simp only[bZ,hn,fq];exact cK _ _,?_⟩
 exact h
theorem Hb{c:aG}{d:ab}{m:aE}{x:ah}{σ:aa Cell}{Q:af->aa Cell->Prop}(h:Q (.int x) σ):bY (x !=0) (Q (.int x) σ) (Bn (.int 0) c d m σ Q):=by
 refine bY.intro (λJ=>h) λe=>?_
 have:x=0:=by simpa using e
 rw[this]at h;exact h
theorem Hc(F:(av w B true none).a0){buf o:aa aU}{p k:ab}(aW:p+o.length<=buf.length)(aq:buf.length<=1000000)(ba:dw σ k=some (.aZ buf))(h:Q .none (σ.set k (.aZ (buf.take p++o++buf.drop (p+o.length))))):cH (av w B true none) (d+1) (.ref 145) [.cell k,.int p,.bytes o] [] σ Q:=by
 have jc:σ[k]? =some (.aZ buf):=hB.trans ba
 refine(bc.frame [k] (V0 (Q:=λa aC=>a=.none/\aC=[.aZ (buf.take p++o++buf.drop (p+o.length))]) F aW aq ⟨rfl,rfl⟩) (by simp) (λi a7=>by refine ae (eV.mp a7) ?_;exact(dH.mp jc).1) (by(refine ae oj ?_;refine ae jc ?_);rfl) rfl ⟨rfl,rfl⟩ λa ax ⟨az,ay⟩=>?_).call
 subst az ay
 show Q .none (σ.set k _++[])
 rw[il];exact h
structure Told.Ok(o:Told):Prop where
 last:0<=o.last/\o.last<=1000
 first:-2^60<=o.first/\o.first<2^60
 most:-2^60<=o.most/\o.most<2^60
 ec:-1<=o.ec/\o.ec<2^60
 turn:-1<=o.turn/\o.turn<=7
 place:-1<=o.place/\o.place<2^31
 many:0<=o.many/\o.many<=3
noncomputable def hI(o:Told)(codec:ab)(room:ah)(whole:aS):ho:=⟨codec,room,whole,o.ec,o.turn,o.place,.int o.first,.int o.most,o.last,o.many⟩
theorem qD{α:Type}{a b:aa α}{n:ab}(h:a.length=n):(a++b).take n=a:=by subst h;simp
theorem fU{α:Type}{a b:aa α}{n:ab}(h:a.length=n):(a++b).drop n=b:=by subst h;simp
theorem vi{b:aa aU}{p:ab}(h:p<=b.length):fu b (some (p:ah)) none=b.drop p:=by
 have e:clipAt b.length (p:ah)=p:=by unfold clipAt;lia
 show(b.drop (clipAt b.length p)).take (b.length-clipAt b.length p)=_
 rw[e,zV (by rw[ih];exact eL _)]
theorem WL(a b c d e f g h i j k l m:aa aU):[]++a++b++c++d++e++f++g++h++i++j++k++l++m=(a++b++c++d)++e++(f++g++h++i++j++k++l++m):=by simp only[List.nil_append,ee]
theorem WM{P Z R h0 recs:aa aU}(cO:h0.length=(P++Z++R).length):(h0++recs).take 0++(P++Z++R)++(h0++recs).drop (0+(P++Z++R).length)=P++Z++(R++recs):=by
 rw[Ab,fU cO];simp
theorem WN{P Z X:aa aU}{n:ab}(h:(P++Z).length=n):(P++Z++X).drop n=X:=fU h
theorem WO{P Z X Y:aa aU}{n:ab}(aW:P.length=n)(aO:Z.length=Y.length):(P++Z++X).take n++Y++(P++Z++X).drop (n+Y.length)=P++Y++X:=by
 rw[ee P Z X,qD aW,<-ee P Z X,fU (by rw[bZ,aW,aO])]
theorem Hd{b:aa aU}(h:21<=b.length):fu b (some 21) none=b.drop 21:=vi (p:=21) h
theorem yV{v:ah}(h:-1<=v/\v<=20):-2^(8*2-1)<=v/\v<2^(8*2-1):=by
 have:(2:ah)^(8*2-1)=32768:=rfl
 lia
theorem mq{v:ah}(h:-1<=v/\v<2147483648):-2^(8*4-1)<=v/\v<2^(8*4-1):=by
 have:(2:ah)^(8*4-1)=2147483648:=rfl
 lia
theorem n4{v:ah}(h:-2^60<=v/\v<2^60):-2^(8*8-1)<=v/\v<2^(8*8-1):=by
 have:(2:ah)^(8*8-1)=9223372036854775808:=rfl
 have:(2:ah)^60=1152921504606846976:=rfl
 lia
theorem He(F:(av w B true none).a0){o:Told}{codec:ab}{room:ah}{whole inc:aS}{h0 recs:aa aU}(aN:o.Ok)(aP:codec<=4)(cO:h0.length=61)(a4:recs.length<=10000)
  (h:Q .none [cc (hI o codec room whole) 1,.aZ (d0 o 0 0 ((if inc=true then(codec:ah)else 0)+(if whole=true then 16 else 0)) recs)]):
  bc (av w B true none) (d+4) (.ref 1083) [.cell 0,.bool inc] [] [cc (hI o codec room whole) 1,.aZ (h0++recs)] Q:=by
 refine bc.trim (enter F rfl rfl rfl Vf Tj.2 rfl rfl ?_)
 have k8:(2:ah)^60=1152921504606846976:=rfl
 repeat refine⟨trivial,?_⟩
 refine qg (i:=1) rfl ?_
 repeat refine⟨trivial,?_⟩
 refine(Ws F aP ?_).call
 repeat refine⟨trivial,?_⟩
 refine Hb ?_
 repeat refine⟨trivial,?_⟩
 refine Hb ?_
 repeat refine⟨trivial,?_⟩
 have a1:=aN.last
 have a2:=aN.first
 have gp:=aN.most
 have eh:=aN.ec
 have e8:=aN.turn
 have eJ:=aN.place
 have fp:=aN.many
 have g1:(if inc=true then(codec:ah)else 0)+(if whole=true then 16 else 0)<=20/\0<=(if inc=true then(codec:ah)else 0)+(if whole=true then 16 else 0):=by
  induction inc<;>induction whole<;>simp<;>lia
 have h2:(h0++recs).length=61+recs.length:=by(refine ae bZ ?_;exact ae cO rfl)
 refine(WK F (n4 (by decide)) (mq (by lia)) (mq (by decide)) (by decide) (by decide) (yV ⟨by exact Int.le_trans (by decide) g1.2,g1.1⟩) (mq (show-1<=o.last/\o.last<_ by lia)) (n4 (by first|exact a2|decide)) (n4 (by first|exact gp|decide)) (n4 (show-2^60<=o.ec/\o.ec<_ by lia)) (yV (show-1<=o.turn/\o.turn<=_ by lia)) (mq (show-1<=o.place/\o.place<_ by assumption)) (mq (show-1<=o.many/\o.many<_ by lia)) ?_).call
 generalize oB:(if inc=true then(codec:ah)else 0)+(if whole=true then 16 else 0)=at_ at h g1⊢
 have af5:((if inc=true then((hI o codec room whole).codec:ah)else 0)+(if(hI o codec room whole).whole=true then 16 else 0))=at_:=oB
 have Hf:d0 o 0 0 at_ recs=(bj 8 0++bj 4 ((h0++recs).length-12)++bj 4 0++bj 1 2)++bj 4 (crcOf 2197175160 ((bj 2 at_++bj 4 o.last++bj 8 o.first++bj 8 o.most++bj 8 o.ec++bj 2 o.turn++bj 4 o.place++bj 4 o.many)++recs))++((bj 2 at_++bj 4 o.last++bj 8 o.first++bj 8 o.most++bj 8 o.ec++bj 2 o.turn++bj 4 o.place++bj 4 o.many)++recs):=by
  have WQ:((gE o at_ recs).length+9:ah)=((h0++recs).length:ah)-12:=by
   unfold gE
   simp only[bZ,hn,cO]
   lia
  unfold d0
  refine ae WQ ?_
  rfl
 rw[Hf]at h
 rw[WL]
 have yW:(bj 8 0++bj 4 ((h0++recs).length-12)++bj 4 0++bj 1 2).length=17:=by simp only[bZ,gF]
 generalize (bj 8 0++bj 4 ((h0++recs).length-12)++bj 4 0++bj 1 2)=P at h yW⊢
 have yX:=gF 4 0
 generalize bj 4 0=Z at yX⊢
 refine Hc F (p:=0) (k:=1) ?_ (by lia) rfl ?_
 ·simp only[bZ,gF];lia
 refine ae (WM (by simp only[bZ,gF];lia)) ?_
 repeat (refine⟨trivial,?_⟩;conv=>whnf)
 rw[Hd (by simp only[bZ,gF];lia),WN (n:=21) (by rw[bZ,yW,yX])]
 refine kj (i:=2) rfl ?_
 refine(GW F ?_).call
 repeat refine⟨trivial,?_⟩
 have yY:∀l:aa aU,crcOf 2197175160 l<2^(8*4):=λl=>yL (by decide) l
 refine(ko F (n:=4) (sg:=false) (by decide) ⟨by exact hL _,by exact_mod_cast yY _⟩ ?_).call
 refine Hc F (p:=17) (k:=1) ?_ ?_ rfl ?_
 ·simp only[bZ,gF,hn];lia
 ·simp only[bZ,gF];lia
 rw[WO yW (by rw[yX,hn])]
 exact .drop [_,_] _ rfl rfl (.done h)
end
section
variable{w:cu}{B:a8}{b:aS}{d:ab}{σ:aa Cell}{Q:af->aa Cell->Prop}
theorem WR(F:(av w B b none).a0){s:ho}{j n:ab}{rest:aa Cell}(aY:1<=n/\n<=4)(h:Q .none (cc s j::rest)):bc (av w B b none) (d+1) (.ref 627) [.cell 0,.int n] [] (cc s j::rest) Q:=by
 refine enter F rfl rfl rfl GK Gn.2 rfl rfl ?_
 refine bY.t (iH (by lia)) ?_
 refine bY.f (by refine ae (iH (by lia)) ?_;rfl) ?_
 exact h
section
variable{P:ct->aE->aa Cell->Prop}{jo a1 a2 gp eh:bh af}{m:aE}
theorem four{c:ab}(h:c<=4):c=0\/c=1\/c=2\/c=3\/c=4:=by lia
theorem WS(F:(av w B b none).a0){s:ho}{j:ab}{rest:aa Cell}{data:aa aU}(aP:1<=s.codec/\s.codec<=4)(aO:data.length<=100000)(h:P .next (some (.cell 0)::a1::some (.bytes data)::some (.bytes (s.codec.toUInt8::e7 data.length data))::m) (cc s j::rest)):
  C_DefaultRecordBatchBuilder_maybe_compress_0_b_3.1 (av w B b none) (d+2) (some (.cell 0)::a1::some (.bytes data)::gp::m) (cc s j::rest) P:=by
 unfold C_DefaultRecordBatchBuilder_maybe_compress_0_b_3
 refine .mk ?_
 obtain⟨codec,room,whole,prod,turn,place,et,mt,last,num⟩:=s
 have aP:1<=codec/\codec<=4:=aP
 obtain z|rfl|rfl|rfl|rfl:=four aP.2
 ·exact absurd aP.1 (by rw[z];decide)
 ·repeat refine⟨trivial,?_⟩
  refine(V8 F aO ?_).call
  repeat refine⟨trivial,?_⟩
  exact h
 ·repeat refine⟨trivial,?_⟩
  refine(V' F aO ?_).call
  repeat refine⟨trivial,?_⟩
  exact h
 ·repeat refine⟨trivial,?_⟩
  refine(Wb F aO ?_).call
  repeat refine⟨trivial,?_⟩
  exact h
 ·repeat refine⟨trivial,?_⟩
  refine(Wd F aO ?_).call
  repeat refine⟨trivial,?_⟩
  exact h
end
noncomputable def small(codec:ab)(recs:aa aU):ab×aa aU:=if codec=0\/recs.length<=(codec.toUInt8::e7 recs.length recs).length then(0,recs)else(codec,codec.toUInt8::e7 recs.length recs)
theorem WT(F:(av w B true none).a0){o:Told}{codec:ab}{room:ah}{whole:aS}{h0 recs:aa aU}(aP:codec<=4)(cO:h0.length=61)(aO:recs.length<=10000)
  (aB:small codec recs=(0,recs)->Q (.bool false) [cc (hI o codec room whole) 1,.aZ (h0++recs)])
  (aI:∀g1 g2 g3:Cell,small codec recs=(codec,codec.toUInt8::e7 recs.length recs)->Q (.bool true) [cc (hI o codec room whole) 4,g1,g2,g3,.aZ (h0++(codec.toUInt8::e7 recs.length recs))]):
  bc (av w B true none) (d+3) (.ref 1090) [.cell 0] [] [cc (hI o codec room whole) 1,.aZ (h0++recs)] Q:=by
 refine bc.trim (enter F rfl rfl rfl Vg T6.2 rfl rfl ?_)
 repeat refine⟨trivial,?_⟩
 have kr:fu (h0++recs) (some 61) none=recs:=by
  have:=vi (b:=h0++recs) (p:=61) (by refine ae bZ ?_;lia)
  rw[show((61:ab):ah)=61 from rfl]at this
  (refine ae this ?_;exact ae (fU cO) rfl)
 have WU:fu (h0++recs) none (some 61)=h0:=by
  have e:clipAt (h0++recs).length 61=61:=by refine ae bZ ?_;unfold clipAt;lia
  show((h0++recs).drop 0).take (clipAt (h0++recs).length 61-0)=_
  (refine ae e ?_;refine ae IY ?_);exact qD cO
 unfold small at aB aI
 refine bY.intro (λe=>?_) λe=>?_
 ·have e:codec≠0:=by
   intro z
   have e:((codec:ah) !=0)=true:=e
   rw[z]at e;cases e
  repeat refine⟨trivial,?_⟩
  refine(WR F ⟨by exact ac6 ‹_›,aP⟩ ?_).call
  repeat (refine⟨trivial,?_⟩;conv=>whnf)
  refine ae kr ?_
  refine kj (i:=2) rfl ?_
  refine WS F ⟨by show 1<=codec;exact ac6 ‹_›,aP⟩ (by exact c2 ‹_› (cK _ _)) ?_
  refine eF ?_
  refine eF ?_
  refine bY.intro (λay=>?_) λay=>?_
  ·have ay:(recs.length:ah)<=((codec.toUInt8::e7 recs.length recs).length:ab):=fD ay
   exact .drop [_,_] _ rfl rfl (.done (aB (by exact ae (cV (.inr (by exact q7.mp ‹_›))) rfl)))
  ·have ay:¬(recs.length:ah)<=((codec.toUInt8::e7 recs.length recs).length:ab):=hM ay
   repeat (refine⟨trivial,?_⟩;conv=>whnf)
   refine ae WU ?_
   refine kj (i:=3) rfl ?_
   refine⟨by show h0.length+(codec.toUInt8::e7 recs.length recs).length<=_;lia,?_⟩
   refine o4 rfl ?_
   exact .done (aI _ _ _ (by exact ae (cC (by rintro(z|z);exact e z;lia)) rfl))
 ·have e:codec=0:=by
   have e:((codec:ah) !=0)=false:=e
   have:(codec:ah)=0:=by simpa using e
   lia
  exact .done (aB (by exact ae (cV (.inl e)) rfl))
theorem WV(F:(av w B true none).a0){o:Told}{codec:ab}{room:ah}{whole:aS}{h0 recs:aa aU}(aN:o.Ok)(aP:codec<=4)(cO:h0.length=61)(aO:recs.length<=5000)
  (aB:Q (.cell 1) [cc (hI o codec room whole) 1,.aZ (d0 o 0 0 ((small codec recs).1+(if whole=true then 16 else 0)) (small codec recs).2)])
  (aI:∀g1 g2 g3:Cell,Q (.cell 4) [cc (hI o codec room whole) 4,g1,g2,g3,.aZ (d0 o 0 0 ((small codec recs).1+(if whole=true then 16 else 0)) (small codec recs).2)]):
  bc (av w B true none) (d+5) (.ref 1097) [.cell 0] [] [cc (hI o codec room whole) 1,.aZ (h0++recs)] Q:=by
 refine enter F rfl rfl rfl Vh TJ.2 rfl rfl ?_
 refine((WT F aP cO (by exact c2 ‹_› (cK _ _)) (λe=>?_) λg1 g2 g3 e=>?_).lower (d:=d+3) (by exact Nat.le_succ _)).call
 ·rw[e]at aB
  refine(He F aN aP cO (by exact c2 ‹_› (cK _ _)) ?_).call
  repeat refine⟨trivial,?_⟩
  induction whole<;>exact aB
 ·have nW:(codec.toUInt8::e7 recs.length recs).length<=10000:=by
   unfold small at e
   split at e
   ·refine cv ((Prod.mk.inj e).2) ?_;exact c2 ‹_› (cK _ _)
   ·rename_i aY
    have:¬recs.length<=(codec.toUInt8::e7 recs.length recs).length:=λz=>aY (.inr z)
    lia
  rw[e]at aI
  refine(bc.frame [0,4] (He (Q:=λa aC=>a=.none/\aC=[cc (hI o codec room whole) 1,.aZ (d0 o 0 0 ((if true=true then(codec:ah)else 0)+(if whole=true then 16 else 0)) (codec.toUInt8::e7 recs.length recs))]) (inc:=true) F aN aP cO nW ⟨rfl,rfl⟩) (by decide) (by simp) rfl rfl ⟨rfl,rfl⟩ λa ax ⟨az,ay⟩=>?_).call
  subst az ay
  repeat refine⟨trivial,?_⟩
  have:=aI g1 g2 g3
  induction whole<;>exact this
end
section
variable{w:cu}{B:a8}{b:aS}{d:ab}{σ:aa Cell}{Q:af->aa Cell->Prop}
theorem yZ(F:(av w B true none).a0){codec:ab}{room prod turn place:ah}{whole:aS}(aP:codec<=4)(h:Q (.cell σ.length) (σ++[cc ⟨codec,room,whole,prod,turn,place,.none,.none,0,0⟩ (σ.length+1),.aZ (ef 61 0)])):
  cH (av w B true none) (d+2) (.ref 1147) [] [(.ofString "magic",.int 2),(.ofString "compression_type",.int codec),(.ofString "is_transactional",.bool whole),(.ofString "producer_id",.int prod),(.ofString "producer_epoch",.int turn),(.ofString "base_sequence",.int place),(.ofString "batch_size",.int room)] σ Q:=by
 refine call_cls F.H (by kernel_rfl) (fI:=1029) (by kernel_rfl) (by kernel_rfl) ?_
 refine bc.frame [σ.length] (Wr (Q:=λa aC=>a=.none/\aC=[cc ⟨codec,room,whole,prod,turn,place,.none,.none,0,0⟩ 1,.aZ (ef 61 0)]) F aP ⟨rfl,rfl⟩) (by simp) (λi e=>by refine ae (eV.mp e) ?_;simp) ?_ rfl ⟨rfl,rfl⟩ λa ax ⟨az,ay⟩=>?_
 ·rw[oj,eU (eL _),ib];rfl
 ·subst az ay
  refine⟨rfl,?_⟩
  have e:eo [σ.length] (σ++[Cell.inst 1147 []]).length 1=σ.length+1:=by
   refine ae bZ ?_;rfl
  show Q _ ((σ++[Cell.inst 1147 []]).set σ.length (cc _ (eo [σ.length] (σ++[Cell.inst 1147 []]).length 1))++[_])
  rw[e,ra _ _ (eL _),ib,ee]
  exact h
noncomputable def dh(bld:af)(prod turn place room:ah)(buf:af)(next:ah)(closed:aS)(written:ah):Cell:=.inst 1393 [(78,bld),(57,.int prod),(58,.int turn),(59,.int place),(55,.int room),(9,buf),(75,.int next),(76,.bool closed),(53,.int 2),(77,.int written)]
theorem WW(F:(av w B true none).a0){codec:ab}{room off prod turn place:ah}{whole:aS}(aP:codec<=4)(aW:whole=true->prod≠-1)(bg:prod=-1\/turn≠-1/\place≠-1)
  (h:Q .none [dh (.cell 1) prod turn place room .none off false 0,cc ⟨codec,room,whole,prod,turn,place,.none,.none,0,0⟩ 2,.aZ (ef 61 0)]):
  bc (av w B true none) (d+3) (.ref 1302) [.cell 0,.int 2,.int codec,.int room] [(.ofString "offset",.int off),(.ofString "transactional",.bool whole),(.ofString "producer_id",.int prod),(.ofString "producer_epoch",.int turn),(.ofString "base_sequence",.int place)] [.inst 1393 []] Q:=by
 refine enter F rfl rfl rfl Vt TR.2 rfl rfl ?_
 refine bY.t (by
  have:∀c:ab,c<=4->([0,1,2,3,4].any λx:ah=>x==(c:ah))=true:=by decide
  exact this codec aP) ?_
 by_cases qE:prod=-1
 ·have hw:whole=false:=by
   induction whole
   ·rfl
   ·exact absurd qE (aW rfl)
  subst qE hw
  refine yZ F aP ?_
  exact h
 ·have bg:=bg.resolve_left qE
  have cD:(prod==-1)=false:=by simpa using qE
  have cS:(prod !=-1)=true:=by simpa using qE
  have yQ:(turn !=-1)=true:=by simpa using bg.1
  have Hg:(place !=-1)=true:=by simpa using bg.2
  induction whole
  ·skip
   refine bY.f cD ?_
   refine bY.t yQ ?_
   conv=>whnf
   refine bY.f cD ?_
   refine bY.t Hg ?_
   refine yZ F aP ?_
   exact h
  ·skip
   refine bY.t cS ?_
   conv=>whnf
   refine bY.f cD ?_
   refine bY.t yQ ?_
   conv=>whnf
   refine bY.f cD ?_
   refine bY.t Hg ?_
   refine yZ F aP ?_
   exact h
theorem WX(F:(av w B true none).a0){codec:ab}{room off prod turn place:ah}{whole:aS}(aP:codec<=4)(aW:whole=true->prod≠-1)(bg:prod=-1\/turn≠-1/\place≠-1)
  (h:Q (.cell σ.length) (σ++[dh (.cell (σ.length+1)) prod turn place room .none off false 0,cc ⟨codec,room,whole,prod,turn,place,.none,.none,0,0⟩ (σ.length+2),.aZ (ef 61 0)])):
  cH (av w B true none) (d+4) (.ref 1393) [.int 2,.int codec,.int room] [(.ofString "offset",.int off),(.ofString "transactional",.bool whole),(.ofString "producer_id",.int prod),(.ofString "producer_epoch",.int turn),(.ofString "base_sequence",.int place)] σ Q:=by
 refine call_cls F.H (by kernel_rfl) (fI:=1302) (by kernel_rfl) (by kernel_rfl) ?_
 refine bc.frame [σ.length] (WW (Q:=λa aC=>a=.none/\aC=[dh (.cell 1) prod turn place room .none off false 0,cc ⟨codec,room,whole,prod,turn,place,.none,.none,0,0⟩ 2,.aZ (ef 61 0)]) F aP aW bg ⟨rfl,rfl⟩) (by simp) (λi e=>by refine ae (eV.mp e) ?_;simp) ?_ rfl ⟨rfl,rfl⟩ λa ax ⟨az,ay⟩=>?_
 ·rw[oj,eU (eL _),ib];rfl
 ·subst az ay
  refine⟨rfl,?_⟩
  have e:∀k,eo [σ.length] (σ++[Cell.inst 1393 []]).length (k+1)=σ.length+(k+1):=λk=>by
   refine ae bZ ?_;simp;exact vR _ _ _
  show Q _ ((σ++[Cell.inst 1393 []]).set σ.length (dh (.cell (eo [σ.length] (σ++[Cell.inst 1393 []]).length (0+1))) _ _ _ _ _ _ _ _)++[cc _ (eo [σ.length] (σ++[Cell.inst 1393 []]).length (1+1)),_])
  rw[e,e,ra _ _ (eL _),ib,ee]
  exact h
section
variable{prod turn place room off written:ah}{bld bf:af}{cl:aS}{rest:aa Cell}
theorem WY(F:(av w B b none).a0){n:ah}(h:Q .none (dh bld prod turn place room bf (off+n) cl written::rest)):bc (av w B b none) (d+1) (.ref 1309) [.cell 0,.int n] [] (dh bld prod turn place room bf off cl written::rest) Q:=by
 refine enter F rfl rfl rfl Vu SF.2 rfl rfl ?_
 repeat refine⟨trivial,?_⟩
 exact h
theorem WZ(F:(av w B b none).a0)(h:Q (.int off) (dh bld prod turn place room bf off cl written::rest)):bc (av w B b none) (d+1) (.ref 1383) [.cell 0] [] (dh bld prod turn place room bf off cl written::rest) Q:=by
 refine enter F rfl rfl rfl VA SP.2 rfl rfl ?_
 repeat refine⟨trivial,?_⟩
 exact h
variable{s:ho}{buf:aa aU}
theorem y0(F:(av w B b none).a0){m0:Cell}(h:Q (.int buf.length) [m0,cc s 2,.aZ buf])(sR:(∃x,s.et=.int x/\∃y,s.mt=.int y)\/s.et=.none/\s.mt=.none):bc (av w B b none) (d+1) (.ref 1104) [.cell 1] [] [m0,cc s 2,.aZ buf] Q:=by
 obtain⟨codec,room,whole,prod,turn,place,et,mt,last,num⟩:=s
 rcases sR with⟨x,aA,y,bM⟩|⟨aA,bM⟩<;>(have aA:et=_:=aA)<;>(have bM:mt=_:=bM)<;>subst aA bM
 all_goals
  refine bc.frame [1,2] (Wt (Q:=λa aC=>a=.int buf.length/\aC=[cc _ 1,.aZ buf]) F ⟨rfl,rfl⟩) (by decide) (by simp) rfl rfl ⟨rfl,rfl⟩ λa ax ⟨az,ay⟩=>?_
  subst az ay
  exact h
theorem W0(F:(av w B b none).a0)(sR:(∃x,s.et=.int x/\∃y,s.mt=.int y)\/s.et=.none/\s.mt=.none)(h:Q (.int buf.length) [dh (.cell 1) prod turn place room .none off false written,cc s 2,.aZ buf]):bc (av w B b none) (d+2) (.ref 1369) [.cell 0] [] [dh (.cell 1) prod turn place room .none off false written,cc s 2,.aZ buf] Q:=by
 refine enter F rfl rfl rfl Vy SY.2 rfl rfl ?_
 repeat refine⟨trivial,?_⟩
 exact(y0 F h sR).call
theorem W2(F:(av w B b none).a0)(sR:(∃x,s.et=.int x/\∃y,s.mt=.int y)\/s.et=.none/\s.mt=.none)(h:Q (.bool (decide (room<=buf.length))) [dh (.cell 1) prod turn place room .none off false written,cc s 2,.aZ buf]):bc (av w B b none) (d+2) (.ref 1376) [.cell 0] [] [dh (.cell 1) prod turn place room .none off false written,cc s 2,.aZ buf] Q:=by
 refine enter F rfl rfl rfl Vz S0.2 rfl rfl ?_
 repeat refine⟨trivial,?_⟩
 refine(y0 F ?_ sR).call
 repeat refine⟨trivial,?_⟩
 exact h
theorem sS(r:ab->ab):∀l:aa (ab×dB),fQ r (l.map dP)=l.map dP
 |[]=>rfl
 |(n,o)::l=>by
  show af.b8 r (dP (n,o))::fQ r (l.map dP)=_
  refine ae (sS r l) ?_
  induction o<;>rfl
theorem a0.dC{jN:aS}(F:(av w B b none).a0):(av w B jN none).a0:=yD ⟨F.H.fZ,F.H.g,F.H.b,F.H.nolimit,F.H.nodup⟩
theorem W3(F:(av w B true none).a0){r:Rec}{first mx start:ah}{iE:aS}(a4:r.Ok start)(hf:start-1000000000<=first/\first<=start+100000000000)(aN:0<=off/\off<=1000)(aO:buf.length<=10000)
  (hs:if iE=true then s.et=.none/\s.mt=.none/\first=r.t/\mx=r.t else s.et=.int first/\s.mt=.int mx)
  (aB:iE=false->s.room<(r.laid off first).length+buf.length->Q .none [dh (.cell 1) prod turn place room .none off false written,cc s 2,.aZ buf])
  (aI:(iE=true\/¬s.room<(r.laid off first).length+buf.length)->Q (lM off (r.laid off first).length r.t) [dh (.cell 1) prod turn place room .none (off+1) false written,cc (s.add r off first mx) 2,.aZ (buf++r.laid off first)]):
  bc (av w B true none) (d+4) (.ref 1317) [.cell 0,.int r.t,cI r.key,cI r.val,.lst (r.hd.map dP)] [] [dh (.cell 1) prod turn place room .none off false written,cc s 2,.aZ buf] Q:=by
 refine enter F rfl rfl rfl Vv E3.2 rfl rfl ?_
 repeat refine⟨trivial,?_⟩
 have gm:if iE=true then s.et=.none/\first=r.t/\mx=r.t else s.et=.int first/\s.mt=.int mx:=by
  induction iE
  ·exact hs
  ·exact⟨hs.1,hs.2.2⟩
 have Hh:∀n,(cc s 1).b8 (eo [1,2] n)=cc s 2:=by
  intro n
  obtain⟨codec,room,whole,pr,xo,f6,et,mt,last,num⟩:=s
  induction iE
  ·obtain⟨az,ay⟩:=hs
   have az:et=_:=az
   have ay:mt=_:=ay
   subst az ay;rfl
  ·obtain⟨az,ay,-⟩:=hs
   have az:et=_:=az
   have ay:mt=_:=ay
   subst az ay;rfl
 refine(bc.frame [1,2] (WG (Q:=λa aC=>(a=.none/\aC=[cc s 1,.aZ buf]/\iE=false/\s.room<(r.laid off first).length+buf.length)\/(a=lM off (r.laid off first).length r.t/\aC=[cc (s.add r off first mx) 1,.aZ (buf++r.laid off first)]/\(iE=true\/¬s.room<(r.laid off first).length+buf.length)))
  F a4 hf aN aO gm (λa b=>.inl ⟨rfl,rfl,a,b⟩) λa=>.inr ⟨rfl,rfl,a⟩) (by decide) (by simp) ?_ ?_ ⟨rfl,rfl⟩ λa ax q=>?_).call
 ·show [some (cc s 2),some (Cell.aZ buf)]=[some ((cc s 1).b8 _),some ((Cell.aZ buf).b8 _)]
  rw[Hh];rfl
 ·show _=[af.cell 1,af.int off,af.int r.t,(cI r.key).b8 _,(cI r.val).b8 _,af.lst (fQ _ (r.hd.map dP))]
  rw[mn,mn,sS];rfl
 ·rcases q with⟨az,ay,dQ,dV⟩|⟨az,ay,dQ⟩
  ·subst az ay
   have e:iO [1,2] [dh (.cell 1) prod turn place room .none off false written,cc s 2,.aZ buf] [cc s 1,.aZ buf]=[dh (.cell 1) prod turn place room .none off false written,cc s 2,.aZ buf]:=by
    show [_,(cc s 1).b8 _,(Cell.aZ buf).b8 _]++[]=_
    rw[Hh];rfl
   have:=aB dQ dV
   rw[<-e]at this
   exact this
  ·subst az ay
   repeat refine⟨trivial,?_⟩
   exact aI dQ
end
section
variable{prod turn place room off written:ah}
theorem W4(F:(av w B b none).a0){x:aa aU}(h:Q .none [dh .none prod turn place room (.cell 1) off true written,.aZ x]):bc (av w B b none) (d+1) (.ref 1317) [.cell 0,.int 1,.none,.none] [] [dh .none prod turn place room (.cell 1) off true written,.aZ x] Q:=by
 refine bc.trim (enter F rfl rfl rfl Vw E3.2 rfl rfl ?_)
 repeat refine⟨trivial,?_⟩
 exact .drop [_,_] _ rfl rfl (.done h)
theorem W5(F:(av w B b none).a0){bld bf:af}{rest:aa Cell}(aq:Hand bf)(h:Q bf (dh bld prod turn place room bf off true written::rest)):bc (av w B b none) (d+1) (.ref 1390) [.cell 0] [] (dh bld prod turn place room bf off true written::rest) Q:=by
 refine enter F rfl rfl rfl VB SN.2 rfl rfl ?_
 refine⟨trivial,?_⟩
 exact⟨aq,h⟩
theorem W6(F:(av w B true none).a0){o:Told}{codec:ab}{whole:aS}{h0 recs:aa aU}(aN:o.Ok)(aP:codec<=4)(cO:h0.length=61)(aO:recs.length<=5000)
  (aB:∀p t l wr,Q .none [dh .none p t l room (.cell 2) off true wr,cc (hI o codec room whole) 2,.aZ (d0 o 0 0 ((small codec recs).1+(if whole=true then 16 else 0)) (small codec recs).2)])
  (aI:∀p t l wr,∀g1 g2 g3:Cell,Q .none [dh .none p t l room (.cell 5) off true wr,cc (hI o codec room whole) 5,g1,g2,g3,.aZ (d0 o 0 0 ((small codec recs).1+(if whole=true then 16 else 0)) (small codec recs).2)]):
  bc (av w B true none) (d+6) (.ref 1362) [.cell 0] [] [dh (.cell 1) prod turn place room .none off false written,cc (hI o codec room whole) 2,.aZ (h0++recs)] Q:=by
 refine enter F rfl rfl rfl Vx Tn.2 rfl rfl ?_
 repeat refine⟨trivial,?_⟩
 refine(y0 F ?_ (.inl ⟨_,rfl,_,rfl⟩)).call
 repeat refine⟨trivial,?_⟩
 refine(bc.frame [1,2] (WV (Q:=λa aC=>(a=.cell 1/\aC=[cc (hI o codec room whole) 1,.aZ (d0 o 0 0 ((small codec recs).1+(if whole=true then 16 else 0)) (small codec recs).2)])\/hO λg1 g2 g3=>a=.cell 4/\aC=[cc (hI o codec room whole) 4,g1,g2,g3,.aZ (d0 o 0 0 ((small codec recs).1+(if whole=true then 16 else 0)) (small codec recs).2)])
  F aN aP cO aO (.inl ⟨rfl,rfl⟩) λg1 g2 g3=>.inr ⟨g1,g2,g3,rfl,rfl⟩) (by decide) (by simp) rfl rfl ⟨rfl,rfl⟩ λa ax q=>?_).call
 rcases q with⟨az,ay⟩|⟨g1,g2,g3,az,ay⟩
 ·subst az ay
  repeat refine⟨trivial,?_⟩
  refine enter (c:=av w B false none) (a0.dC F) rfl rfl rfl GP Fq.2 rfl rfl ?_
  repeat refine⟨trivial,?_⟩
  refine enter (c:=av w B false none) (a0.dC F) rfl rfl rfl GQ Fb.2 rfl rfl ?_
  repeat refine⟨trivial,?_⟩
  refine enter (c:=av w B false none) (a0.dC F) rfl rfl rfl GR FG.2 rfl rfl ?_
  repeat refine⟨trivial,?_⟩
  exact aB _ _ _ _
 ·subst az ay
  repeat refine⟨trivial,?_⟩
  refine enter (c:=av w B false none) (a0.dC F) rfl rfl rfl GP Fq.2 rfl rfl ?_
  repeat refine⟨trivial,?_⟩
  refine enter (c:=av w B false none) (a0.dC F) rfl rfl rfl GQ Fb.2 rfl rfl ?_
  repeat refine⟨trivial,?_⟩
  refine enter (c:=av w B false none) (a0.dC F) rfl rfl rfl GR FG.2 rfl rfl ?_
  repeat refine⟨trivial,?_⟩
  exact aI _ _ _ _ _ _ _
end
end
theorem y1{n:ab}{v:ah}(aY:1<=n)(h:-2^(8*n-1)<=v/\v<2^(8*n-1)):kO true n (bj n v)=v:=by
 have aW:(0:ah)<2^(8*n-1):=IW (by decide)
 have e:(2:ah)^(8*n)=2*2^(8*n-1):=by
  obtain⟨m,rfl⟩:∃m,n=m+1:=⟨n-1,by lia⟩
  rw[show 8*(m+1)=(8*(m+1)-1)+1 from by lia,Int.pow_succ,Int.mul_comm];rfl
 have hm:=tB v (show(256:ah)^n≠0 by rw[<-pow_256];lia)
 have px:=tC v (show(0:ah)<256^n by rw[<-pow_256];exact fy λJ=>by lia)
 unfold kO bj
 refine ae (yl n _ hm px) ?_
 have bg:v%256^n=if 0<=v then v else v+2^(8*n):=by
  rw[<-pow_256]
  split
  ·exact IZ (by assumption) (by exact fy λJ=>by lia)
  ·rw[<-Int.add_emod_right];exact IZ (by exact fX λJ=>by lia) (by exact fy λJ=>by lia)
 refine ae bg ?_
 by_cases cx:0<=v
 ·refine ae (cV cx) ?_
  have:v.fdiv (2^(8*n-1))=0:=by refine ae (Ac _ (by exact vK ‹_›)) ?_;exact Int.ediv_eq_zero_of_lt cx h.2
  refine ae this ?_;rfl
 ·refine ae (cC cx) ?_
  have:(v+2^(8*n)).fdiv (2^(8*n-1))≠0:=by
   refine ae (Ac _ (by exact vK ‹_›)) ?_
   intro z
   have:=Int.lt_mul_ediv_self_add (x:=v+2^(8*n)) aW
   rw[z]at this;lia
  refine ae (show((v+2^(8*n)).fdiv (2^(8*n-1)) !=0)=true from by simpa using this) ?_
  show v+2^(8*n)-1*2^(8*n)=v
  lia
theorem W7{n:ab}{v:ah}(h:0<=v/\v<2^(8*n)):kO false n (bj n v)=v:=by
 unfold kO bj
 rw[yl n _ (tB v (show(256:ah)^n≠0 by rw[<-pow_256];lia)) (tC v (show(0:ah)<256^n by rw[<-pow_256];exact fy λJ=>by lia)),<-pow_256,IZ h.1 h.2]
 rfl
section
variable{w:cu}{B:a8}{b:aS}{d:ab}{σ:aa Cell}{Q:af->aa Cell->Prop}
theorem kP(F:(av w B b none).a0){n p:ab}{v:ah}{buf X:aa aU}{sg:aS}{rest:aa Cell}(aY:1<=n/\n<=8)(aO:buf.length<=1000000)(aq:buf.drop p=bj n v++X)(cx:if sg=true then-2^(8*n-1)<=v/\v<2^(8*n-1)else 0<=v/\v<2^(8*n))
  (h:Q (.int v) (.aZ buf::rest)):cH (av w B b none) (d+1) (.ref 153) [.cell 0,.int p,.int n,.bool sg] [] (.aZ buf::rest) Q:=by
 have a5:=congrArg ig aq
 rw[ih,bZ,gF]at a5
 refine(bc.frame [0] (V2 (Q:=λa aC=>a=.int v/\aC=[.aZ buf]) F aY aO (by exact ne λJ=>by lia) ?_) (by trivial) (by simp) rfl rfl ⟨rfl,rfl⟩ λa ax ⟨az,ay⟩=>?_).call
 ·(refine ae aq ?_;refine ae (qD (gF n v)) ?_)
  refine⟨?_,rfl⟩
  induction sg
  ·exact ae (W7 cx) rfl
  ·exact ae (y1 aY.1 cx) rfl
 ·subst az ay
  show Q (.int v) (_::rest++[])
  rw[il];exact h
theorem W8(F:(av w B b none).a0){v0 v1 v2 g4 v4 jE v6 iX iF h' v10 v11 hp:ah}{buf rest:aa aU}(h0:-2^(8*8-1)<=v0/\v0<2^(8*8-1))(aB:-2^(8*4-1)<=v1/\v1<2^(8*4-1))(aI:-2^(8*4-1)<=v2/\v2<2^(8*4-1))(cg:-2^(8*1-1)<=g4/\g4<2^(8*1-1))(dX:0<=v4/\v4<2^(8*4))(eP:-2^(8*2-1)<=jE/\jE<2^(8*2-1))(j7:-2^(8*4-1)<=v6/\v6<2^(8*4-1))(kB:-2^(8*8-1)<=iX/\iX<2^(8*8-1))(mH:-2^(8*8-1)<=iF/\iF<2^(8*8-1))(ot:-2^(8*8-1)<=h'/\h'<2^(8*8-1))(rj:-2^(8*2-1)<=v10/\v10<2^(8*2-1))(yT:-2^(8*4-1)<=v11/\v11<2^(8*4-1))(yU:-2^(8*4-1)<=hp/\hp<2^(8*4-1))(aO:buf.length<=1000000)(aq:buf=bj 8 v0++(bj 4 v1++(bj 4 v2++(bj 1 g4++(bj 4 v4++(bj 2 jE++(bj 4 v6++(bj 8 iX++(bj 8 iF++(bj 8 h'++(bj 2 v10++(bj 4 v11++(bj 4 hp++rest)))))))))))))(h:Q (.lst [.int v0,.int v1,.int v2,.int g4,.int v4,.int jE,.int v6,.int iX,.int iF,.int h',.int v10,.int v11,.int hp]) [.aZ buf]):
  bc (av w B b none) (d+2) (.ref 1210) [.cell 0] [] [.aZ buf] Q:=by
 refine bc.trim (enter F rfl rfl rfl Vo T'.2 rfl rfl ?_)
 have qF:buf.drop 0=bj 8 v0++(bj 4 v1++(bj 4 v2++(bj 1 g4++(bj 4 v4++(bj 2 jE++(bj 4 v6++(bj 8 iX++(bj 8 iF++(bj 8 h'++(bj 2 v10++(bj 4 v11++(bj 4 hp++rest)))))))))))):=aq
 have iS:buf.drop 8=bj 4 v1++(bj 4 v2++(bj 1 g4++(bj 4 v4++(bj 2 jE++(bj 4 v6++(bj 8 iX++(bj 8 iF++(bj 8 h'++(bj 2 v10++(bj 4 v11++(bj 4 hp++rest))))))))))):=by(refine ae (show 8=0+8 from rfl) ?_;refine cv hN ?_;refine ae qF ?_;exact ae (fU (gF 8 v0)) rfl)
 have km:buf.drop 12=bj 4 v2++(bj 1 g4++(bj 4 v4++(bj 2 jE++(bj 4 v6++(bj 8 iX++(bj 8 iF++(bj 8 h'++(bj 2 v10++(bj 4 v11++(bj 4 hp++rest)))))))))):=by(refine ae (show 12=8+4 from rfl) ?_;refine cv hN ?_;refine ae iS ?_;exact ae (fU (gF 4 v1)) rfl)
 have k9:buf.drop 16=bj 1 g4++(bj 4 v4++(bj 2 jE++(bj 4 v6++(bj 8 iX++(bj 8 iF++(bj 8 h'++(bj 2 v10++(bj 4 v11++(bj 4 hp++rest))))))))):=by(refine ae (show 16=12+4 from rfl) ?_;refine cv hN ?_;refine ae km ?_;exact ae (fU (gF 4 v2)) rfl)
 have lN:buf.drop 17=bj 4 v4++(bj 2 jE++(bj 4 v6++(bj 8 iX++(bj 8 iF++(bj 8 h'++(bj 2 v10++(bj 4 v11++(bj 4 hp++rest)))))))):=by(refine ae (show 17=16+1 from rfl) ?_;refine cv hN ?_;refine ae k9 ?_;exact ae (fU (gF 1 g4)) rfl)
 have lO:buf.drop 21=bj 2 jE++(bj 4 v6++(bj 8 iX++(bj 8 iF++(bj 8 h'++(bj 2 v10++(bj 4 v11++(bj 4 hp++rest))))))):=by(refine ae (show 21=17+4 from rfl) ?_;refine cv hN ?_;refine ae lN ?_;exact ae (fU (gF 4 v4)) rfl)
 have sT:buf.drop 23=bj 4 v6++(bj 8 iX++(bj 8 iF++(bj 8 h'++(bj 2 v10++(bj 4 v11++(bj 4 hp++rest)))))):=by(refine ae (show 23=21+2 from rfl) ?_;refine cv hN ?_;refine ae lO ?_;exact ae (fU (gF 2 jE)) rfl)
 have sU:buf.drop 27=bj 8 iX++(bj 8 iF++(bj 8 h'++(bj 2 v10++(bj 4 v11++(bj 4 hp++rest))))):=by(refine ae (show 27=23+4 from rfl) ?_;refine cv hN ?_;refine ae sT ?_;exact ae (fU (gF 4 v6)) rfl)
 have sV:buf.drop 35=bj 8 iF++(bj 8 h'++(bj 2 v10++(bj 4 v11++(bj 4 hp++rest)))):=by(refine ae (show 35=27+8 from rfl) ?_;refine cv hN ?_;refine ae sU ?_;exact ae (fU (gF 8 iX)) rfl)
 have vj:buf.drop 43=bj 8 h'++(bj 2 v10++(bj 4 v11++(bj 4 hp++rest))):=by(refine ae (show 43=35+8 from rfl) ?_;refine cv hN ?_;refine ae sV ?_;exact ae (fU (gF 8 iF)) rfl)
 have Hi:buf.drop 51=bj 2 v10++(bj 4 v11++(bj 4 hp++rest)):=by(refine ae (show 51=43+8 from rfl) ?_;refine cv hN ?_;refine ae vj ?_;exact ae (fU (gF 8 h')) rfl)
 have Hj:buf.drop 53=bj 4 v11++(bj 4 hp++rest):=by(refine ae (show 53=51+2 from rfl) ?_;refine cv hN ?_;refine ae Hi ?_;exact ae (fU (gF 2 v10)) rfl)
 have W9:buf.drop 57=bj 4 hp++rest:=by(refine ae (show 57=53+4 from rfl) ?_;refine cv hN ?_;refine ae Hj ?_;exact ae (fU (gF 4 v11)) rfl)
 refine mT ?_
 refine⟨by decide,?_⟩
 refine kP F (n:=8) (p:=0) (sg:=true) (by decide) aO qF h0 ?_
 refine gM (i:=1) rfl (by trivial) ?_
 refine kP F (n:=4) (p:=8) (sg:=true) (by decide) aO iS aB ?_
 refine gM (i:=1) rfl (by simp) ?_
 refine kP F (n:=4) (p:=12) (sg:=true) (by decide) aO km aI ?_
 refine gM (i:=1) rfl (by simp) ?_
 refine kP F (n:=1) (p:=16) (sg:=true) (by decide) aO k9 cg ?_
 refine gM (i:=1) rfl (by simp) ?_
 refine kP F (n:=4) (p:=17) (sg:=false) (by decide) aO lN dX ?_
 refine gM (i:=1) rfl (by simp) ?_
 refine kP F (n:=2) (p:=21) (sg:=true) (by decide) aO lO eP ?_
 refine gM (i:=1) rfl (by simp) ?_
 refine kP F (n:=4) (p:=23) (sg:=true) (by decide) aO sT j7 ?_
 refine gM (i:=1) rfl (by simp) ?_
 refine kP F (n:=8) (p:=27) (sg:=true) (by decide) aO sU kB ?_
 refine gM (i:=1) rfl (by simp) ?_
 refine kP F (n:=8) (p:=35) (sg:=true) (by decide) aO sV mH ?_
 refine gM (i:=1) rfl (by simp) ?_
 refine kP F (n:=8) (p:=43) (sg:=true) (by decide) aO vj ot ?_
 refine gM (i:=1) rfl (by simp) ?_
 refine kP F (n:=2) (p:=51) (sg:=true) (by decide) aO Hi rj ?_
 refine gM (i:=1) rfl (by simp) ?_
 refine kP F (n:=4) (p:=53) (sg:=true) (by decide) aO Hj yT ?_
 refine gM (i:=1) rfl (by simp) ?_
 refine kP F (n:=4) (p:=57) (sg:=true) (by decide) aO W9 yU ?_
 refine gM (i:=1) rfl (by simp) ?_
 exact .drop [_] _ rfl rfl (.done h)
end
structure f' where
 base:ah
 len:ah
 c6:ah
 qG:ah
 mr:ah
 at_:ah
 last:ah
 first:ah
 most:ah
 prod:ah
 turn:ah
 place:ah
 many:ah
noncomputable def y2(h:f'):af:=.lst [.int h.base,.int h.len,.int h.c6,.int h.qG,.int h.mr,.int h.at_,.int h.last,.int h.first,.int h.most,.int h.prod,.int h.turn,.int h.place,.int h.many]
noncomputable def bR(bf:af)(h:f')(pos idx:ah)(dec:aS):Cell:=.inst 868 [(9,bf),(10,y2 h),(11,.int pos),(13,.int h.many),(14,.int idx),(15,.bool dec)]
section
variable{w:cu}{B:a8}{b:aS}{d:ab}{σ:aa Cell}{Q:af->aa Cell->Prop}
section
variable{bf:af}{hd:f'}{pos idx:ah}{dec:aS}{rest:aa Cell}
theorem y3(F:(av w B b none).a0)(h:Q (.int hd.base) (bR bf hd pos idx dec::rest)):bc (av w B b none) (d+1) (.ref 655) [.cell 0] [] (bR bf hd pos idx dec::rest) Q:=by
 refine enter F rfl rfl rfl UG Tv.2 rfl rfl ?_
 repeat refine⟨trivial,?_⟩
 exact h
theorem W'(F:(av w B b none).a0)(h:Q (.int (hd.len+12)) (bR bf hd pos idx dec::rest)):bc (av w B b none) (d+1) (.ref 663) [.cell 0] [] (bR bf hd pos idx dec::rest) Q:=by
 refine enter F rfl rfl rfl UH TZ.2 rfl rfl ?_
 repeat refine⟨trivial,?_⟩
 exact h
theorem Xa(F:(av w B b none).a0)(h:Q (.int hd.c6) (bR bf hd pos idx dec::rest)):bc (av w B b none) (d+1) (.ref 671) [.cell 0] [] (bR bf hd pos idx dec::rest) Q:=by
 refine enter F rfl rfl rfl UI Ud.2 rfl rfl ?_
 repeat refine⟨trivial,?_⟩
 exact h
theorem Xb(F:(av w B b none).a0)(h:Q (.int hd.qG) (bR bf hd pos idx dec::rest)):bc (av w B b none) (d+1) (.ref 679) [.cell 0] [] (bR bf hd pos idx dec::rest) Q:=by
 refine enter F rfl rfl rfl UJ Te.2 rfl rfl ?_
 repeat refine⟨trivial,?_⟩
 exact h
theorem Xc(F:(av w B b none).a0)(h:Q (.int hd.mr) (bR bf hd pos idx dec::rest)):bc (av w B b none) (d+1) (.ref 687) [.cell 0] [] (bR bf hd pos idx dec::rest) Q:=by
 refine enter F rfl rfl rfl UK Tf.2 rfl rfl ?_
 repeat refine⟨trivial,?_⟩
 exact h
theorem vk(F:(av w B b none).a0)(h:Q (.int hd.at_) (bR bf hd pos idx dec::rest)):bc (av w B b none) (d+1) (.ref 695) [.cell 0] [] (bR bf hd pos idx dec::rest) Q:=by
 refine enter F rfl rfl rfl UL Ue.2 rfl rfl ?_
 repeat refine⟨trivial,?_⟩
 exact h
theorem Hk(F:(av w B b none).a0)(h:Q (.int hd.last) (bR bf hd pos idx dec::rest)):bc (av w B b none) (d+1) (.ref 703) [.cell 0] [] (bR bf hd pos idx dec::rest) Q:=by
 refine enter F rfl rfl rfl UM Td.2 rfl rfl ?_
 repeat refine⟨trivial,?_⟩
 exact h
theorem Hl(F:(av w B b none).a0)(h:Q (.int hd.first) (bR bf hd pos idx dec::rest)):bc (av w B b none) (d+1) (.ref 759) [.cell 0] [] (bR bf hd pos idx dec::rest) Q:=by
 refine enter F rfl rfl rfl UT SO.2 rfl rfl ?_
 repeat refine⟨trivial,?_⟩
 exact h
theorem Hm(F:(av w B b none).a0)(h:Q (.int hd.most) (bR bf hd pos idx dec::rest)):bc (av w B b none) (d+1) (.ref 767) [.cell 0] [] (bR bf hd pos idx dec::rest) Q:=by
 refine enter F rfl rfl rfl UU Tu.2 rfl rfl ?_
 repeat refine⟨trivial,?_⟩
 exact h
theorem Hn(F:(av w B b none).a0)(h:Q (.int hd.prod) (bR bf hd pos idx dec::rest)):bc (av w B b none) (d+1) (.ref 775) [.cell 0] [] (bR bf hd pos idx dec::rest) Q:=by
 refine enter F rfl rfl rfl UW TN.2 rfl rfl ?_
 repeat refine⟨trivial,?_⟩
 exact h
theorem Xd(F:(av w B b none).a0)(h:Q (.int hd.turn) (bR bf hd pos idx dec::rest)):bc (av w B b none) (d+1) (.ref 790) [.cell 0] [] (bR bf hd pos idx dec::rest) Q:=by
 refine enter F rfl rfl rfl UY TM.2 rfl rfl ?_
 repeat refine⟨trivial,?_⟩
 exact h
theorem y4(F:(av w B b none).a0)(h:Q (.int hd.place) (bR bf hd pos idx dec::rest)):bc (av w B b none) (d+1) (.ref 798) [.cell 0] [] (bR bf hd pos idx dec::rest) Q:=by
 refine enter F rfl rfl rfl UZ S3.2 rfl rfl ?_
 repeat refine⟨trivial,?_⟩
 exact h
theorem Xe(F:(av w B b none).a0)(h:Q (.int hd.many) (bR bf hd pos idx dec::rest)):bc (av w B b none) (d+1) (.ref 829) [.cell 0] [] (bR bf hd pos idx dec::rest) Q:=by
 refine enter F rfl rfl rfl U3 T2.2 rfl rfl ?_
 repeat refine⟨trivial,?_⟩
 exact h
theorem Ho(F:(av w B b none).a0)(h:Q (.int (hd.base+hd.last)) (bR bf hd pos idx dec::rest)):bc (av w B b none) (d+3) (.ref 711) [.cell 0] [] (bR bf hd pos idx dec::rest) Q:=by
 refine enter F rfl rfl rfl UN S2.2 rfl rfl ?_
 refine y3 (a0.dC F) ?_
 refine⟨trivial,?_⟩
 refine Hk (a0.dC F) ?_
 refine⟨trivial,?_⟩
 exact h
theorem Xf(F:(av w B b none).a0)(h:Q (.int (hd.base+hd.last+1)) (bR bf hd pos idx dec::rest)):bc (av w B b none) (d+5) (.ref 719) [.cell 0] [] (bR bf hd pos idx dec::rest) Q:=by
 refine enter F rfl rfl rfl UO T3.2 rfl rfl ?_
 refine Ho (a0.dC F) ?_
 refine⟨trivial,?_⟩
 exact h
theorem Hp(F:(av w B b none).a0)(h:Q (.int (d' hd.at_ 7)) (bR bf hd pos idx dec::rest)):bc (av w B b none) (d+3) (.ref 727) [.cell 0] [] (bR bf hd pos idx dec::rest) Q:=by
 refine enter F rfl rfl rfl UP Uc.2 rfl rfl ?_
 refine vk (a0.dC F) ?_
 refine⟨trivial,?_⟩
 repeat refine⟨trivial,?_⟩
 exact h
theorem y5(F:(av w B b none).a0)(h:Q (.int (if(d' hd.at_ 8 !=0)=true then 1 else 0)) (bR bf hd pos idx dec::rest)):bc (av w B b none) (d+3) (.ref 735) [.cell 0] [] (bR bf hd pos idx dec::rest) Q:=by
 refine enter F rfl rfl rfl UQ Ub.2 rfl rfl ?_
 refine vk (a0.dC F) ?_
 refine⟨trivial,?_⟩
 repeat refine⟨trivial,?_⟩
 refine xg ?_
 exact uv h
theorem Xg(F:(av w B b none).a0)(h:Q (.bool (d' hd.at_ 16 !=0)) (bR bf hd pos idx dec::rest)):bc (av w B b none) (d+3) (.ref 743) [.cell 0] [] (bR bf hd pos idx dec::rest) Q:=by
 refine enter F rfl rfl rfl UR Tr.2 rfl rfl ?_
 refine vk (a0.dC F) ?_
 refine⟨trivial,?_⟩
 repeat refine⟨trivial,?_⟩
 exact xg h
theorem Hq(F:(av w B b none).a0)(h:Q (.bool (d' hd.at_ 32 !=0)) (bR bf hd pos idx dec::rest)):bc (av w B b none) (d+3) (.ref 751) [.cell 0] [] (bR bf hd pos idx dec::rest) Q:=by
 refine enter F rfl rfl rfl US TK.2 rfl rfl ?_
 refine vk (a0.dC F) ?_
 refine⟨trivial,?_⟩
 repeat refine⟨trivial,?_⟩
 exact xg h
theorem Xh(F:(av w B b none).a0)(h:Q (.bool (decide (-1<hd.prod))) (bR bf hd pos idx dec::rest)):bc (av w B b none) (d+3) (.ref 783) [.cell 0] [] (bR bf hd pos idx dec::rest) Q:=by
 refine enter F rfl rfl rfl UX Ts.2 rfl rfl ?_
 refine Hn (a0.dC F) ?_
 refine⟨trivial,?_⟩
 repeat refine⟨trivial,?_⟩
 exact h
theorem Xi(F:(av w B b none).a0)(h:Q (.bool (hd.place !=-1)) (bR bf hd pos idx dec::rest)):bc (av w B b none) (d+1) (.ref 806) [.cell 0] [] (bR bf hd pos idx dec::rest) Q:=by
 refine enter F rfl rfl rfl U0 TL.2 rfl rfl ?_
 repeat refine⟨trivial,?_⟩
 exact h
theorem Xj(F:(av w B b none).a0){x y:ah}(h:Q (.int (if 2147483647-y<x then y-(2147483647-x)-1 else x+y)) (bR bf hd pos idx dec::rest)):bc (av w B b none) (d+1) (.ref 822) [.cell 0,.int x,.int y] [] (bR bf hd pos idx dec::rest) Q:=by
 refine enter F rfl rfl rfl U2 Ta.2 rfl rfl ?_
 repeat refine⟨trivial,?_⟩
 refine bY.intro (λe=>?_) λe=>?_
 ·rw[cV (fD e)]at h
  repeat refine⟨trivial,?_⟩
  exact h
 ·rw[cC (hM e)]at h
  exact h
theorem Xk(F:(av w B b none).a0)(h:Q (.int (if hd.place=-1 then-1 else if 2147483647-hd.last<hd.place then hd.last-(2147483647-hd.place)-1 else hd.place+hd.last)) (bR bf hd pos idx dec::rest)):bc (av w B b none) (d+3) (.ref 814) [.cell 0] [] (bR bf hd pos idx dec::rest) Q:=by
 refine enter F rfl rfl rfl U1 Ua.2 rfl rfl ?_
 refine y4 (a0.dC F) ?_
 refine⟨trivial,?_⟩
 repeat refine⟨trivial,?_⟩
 refine bY.intro (λe=>?_) λe=>?_
 ·rw[cV (by exact fW.mp e)]at h
  repeat refine⟨trivial,?_⟩
  exact h
 ·rw[cC (by simpa using e)]at h
  refine y4 (a0.dC F) ?_
  refine⟨trivial,?_⟩
  refine Hk (a0.dC F) ?_
  refine⟨trivial,?_⟩
  exact(Xj F h).call
end
noncomputable def f'.bytes(h:f')(rest:aa aU):aa aU:=bj 8 h.base++(bj 4 h.len++(bj 4 h.c6++(bj 1 h.qG++(bj 4 h.mr++(bj 2 h.at_++(bj 4 h.last++(bj 8 h.first++(bj 8 h.most++(bj 8 h.prod++(bj 2 h.turn++(bj 4 h.place++(bj 4 h.many++rest))))))))))))
structure f'.Ok(h:f'):Prop where
 base:-2^60<=h.base/\h.base<2^60
 len:-1<=h.len/\h.len<2147483648
 c6:-1<=h.c6/\h.c6<2147483648
 qG:h.qG=2
 mr:0<=h.mr/\h.mr<2^(8*4)
 at_:0<=h.at_/\h.at_<32
 last:0<=h.last/\h.last<2147483648
 first:-2^60<=h.first/\h.first<2^60
 most:-2^60<=h.most/\h.most<2^60
 prod:-2^60<=h.prod/\h.prod<2^60
 turn:-1<=h.turn/\h.turn<=20
 place:-1<=h.place/\h.place<2147483648
 many:0<=h.many/\h.many<2147483648
theorem Xl(F:(av w B b none).a0){hd:f'}{buf rest:aa aU}(aN:hd.Ok)(aO:buf.length<=1000000)(aq:buf=hd.bytes rest)(h:Q (y2 hd) [.aZ buf]):bc (av w B b none) (d+2) (.ref 1210) [.cell 0] [] [.aZ buf] Q:=
 W8 F (n4 aN.base) (mq aN.len) (mq aN.c6) (by refine ae aN.qG ?_;decide) aN.mr (by have:=aN.at_;have:(2:ah)^(8*2-1)=32768:=rfl;lia) (mq (by have:=aN.last;lia)) (n4 aN.first) (n4 aN.most) (n4 aN.prod) (yV aN.turn) (mq aN.place) (mq (by have:=aN.many;lia)) aO aq h
theorem Xm(F:(av w B true none).a0){hd:f'}{x rest:aa aU}(aN:hd.Ok)(aO:x.length<=1000000)(aq:x=hd.bytes rest)(h:Q .none [bR (.cell 1) hd 61 0 false,.aZ x]):bc (av w B true none) (d+3) (.ref 648) [.cell 0,.bytes x] [] [.inst 868 []] Q:=by
 refine enter F rfl rfl rfl UE SW.2 rfl rfl ?_
 refine o4 rfl ?_
 repeat refine⟨trivial,?_⟩
 refine(bc.frame [1] (Xl (Q:=λa aC=>a=y2 hd/\aC=[.aZ x]) F aN aO aq ⟨rfl,rfl⟩) (by decide) (by simp) rfl rfl ⟨rfl,rfl⟩ λa ax ⟨az,ay⟩=>?_).call
 subst az ay
 repeat refine⟨trivial,?_⟩
 exact h
theorem Xn(F:(av w B true none).a0){hd:f'}{x rest:aa aU}(aN:hd.Ok)(aO:x.length<=1000000)(aq:x=hd.bytes rest)(h:Q (.cell σ.length) (σ++[bR (.cell (σ.length+1)) hd 61 0 false,.aZ x])):cH (av w B true none) (d+4) (.ref 868) [.bytes x] [] σ Q:=by
 refine call_cls F.H (by kernel_rfl) (fI:=648) (by kernel_rfl) (by kernel_rfl) ?_
 refine bc.frame [σ.length] (Xm (Q:=λa aC=>a=.none/\aC=[bR (.cell 1) hd 61 0 false,.aZ x]) F aN aO aq ⟨rfl,rfl⟩) (by simp) (λi e=>by refine ae (eV.mp e) ?_;simp) ?_ rfl ⟨rfl,rfl⟩ λa ax ⟨az,ay⟩=>?_
 ·rw[oj,eU (eL _),ib];rfl
 ·subst az ay
  refine⟨rfl,?_⟩
  have e:eo [σ.length] (σ++[Cell.inst 868 []]).length 1=σ.length+1:=by
   refine ae bZ ?_;rfl
  show Q _ ((σ++[Cell.inst 868 []]).set σ.length (bR (.cell (eo [σ.length] (σ++[Cell.inst 868 []]).length 1)) _ _ _ _)++[_])
  rw[e,ra _ _ (eL _),ib,ee]
  exact h
end
section
variable{w:cu}{B:a8}{b:aS}{d:ab}{σ:aa Cell}{Q:af->aa Cell->Prop}
theorem Xo(F:(av w B true none).a0){hd:f'}{x:aa aU}{pos idx:ah}(aO:21<=x.length)(h:Q (.bool (hd.mr==(crcOf 2197175160 (x.drop 21):ab))) [bR (.cell 1) hd pos idx false,.aZ x]):bc (av w B true none) (d+4) (.ref 865) [.cell 0] [] [bR (.cell 1) hd pos idx false,.aZ x] Q:=by
 refine bc.trim (enter F rfl rfl rfl U5 S'.2 rfl rfl ?_)
 repeat refine⟨trivial,?_⟩
 refine Xc (a0.dC F) ?_
 refine⟨trivial,?_⟩
 repeat (refine⟨trivial,?_⟩;conv=>whnf)
 refine ae (Hd aO) ?_
 refine kj (i:=2) rfl ?_
 refine(GW F ?_).call
 exact .drop [_,_] _ rfl rfl (.done h)
theorem vm(F:(av w B b none).a0){bf:af}{hd:f'}{pos idx:ah}{dec:aS}{n:ab}{rest:aa Cell}(aY:1<=n/\n<=4)(h:Q .none (bR bf hd pos idx dec::rest)):bc (av w B b none) (d+1) (.ref 627) [.cell 0,.int n] [] (bR bf hd pos idx dec::rest) Q:=by
 refine enter F rfl rfl rfl GK Gn.2 rfl rfl ?_
 refine bY.t (iH (by exact fX λJ=>by lia)) ?_
 refine bY.f (by refine ae (iH (by exact fX λJ=>by lia)) ?_;rfl) ?_
 exact h
theorem Xp(F:(av w B true none).a0){hd:f'}{h0 recs:aa aU}{codec:ab}(bL:d' hd.at_ 7=codec)(aP:codec<=4)(cO:h0.length=61)(aO:recs.length<=100000)
  (aB:codec=0->Q .none [bR (.cell 1) hd 61 0 true,.aZ (h0++recs)])
  (aI:∀ei g,recs=codec.toUInt8::ei->codec≠0->ei.length%2=0->(fS ei).length<=200000->Q .none [bR (.cell 3) hd 0 0 true,.aZ (h0++recs),g,.aZ (fS ei)])
  (hs:codec≠0->∃ei,dx (recs=codec.toUInt8::ei) (ei.length%2=0) ((fS ei).length<=200000)):
  bc (av w B true none) (d+5) (.ref 837) [.cell 0] [] [bR (.cell 1) hd 61 0 false,.aZ (h0++recs)] Q:=by
 refine bc.trim (enter F rfl rfl rfl GL Gw.2 rfl rfl ?_)
 repeat refine⟨trivial,?_⟩
 refine Hp (a0.dC F) ?_
 refine⟨trivial,?_⟩
 refine ae bL ?_
 unfold C_DefaultRecordBatch_maybe_uncompress_0_b_1
 refine .mk ?_
 have kr:fu (h0++recs) (some 61) none=recs:=by
  have:=vi (b:=h0++recs) (p:=61) (by refine ae bZ ?_;exact ne λJ=>by lia)
  rw[show((61:ab):ah)=61 from rfl]at this
  (refine ae this ?_;exact ae (fU cO) rfl)
 obtain rfl|rfl|rfl|rfl|rfl:=four aP
 ·repeat refine⟨trivial,?_⟩
  exact .done (aB rfl)
 ·obtain⟨ei,e,s1,s2⟩:=hs (by decide)
  have nW:ei.length<=100000:=by rw[e,dc]at aO;exact q9 ‹_›
  have kr:fu (h0++recs) (some 61) none=1::ei:=kr.trans e
  repeat refine⟨trivial,?_⟩
  refine(vm F (n:=1) (by decide) ?_).call
  repeat (refine⟨trivial,?_⟩;conv=>whnf)
  refine ae kr ?_
  refine kj (i:=2) rfl ?_
  repeat refine⟨trivial,?_⟩
  refine(V9 F s1 (by exact c2 ‹_› (cK _ _)) s2 ?_).call
  repeat refine⟨trivial,?_⟩
  refine o4 rfl ?_
  exact .done (aI ei _ e (by decide) s1 s2)
 ·obtain⟨ei,e,s1,s2⟩:=hs (by decide)
  have nW:ei.length<=100000:=by rw[e,dc]at aO;exact q9 ‹_›
  have kr:fu (h0++recs) (some 61) none=2::ei:=kr.trans e
  repeat refine⟨trivial,?_⟩
  refine(vm F (n:=2) (by decide) ?_).call
  repeat (refine⟨trivial,?_⟩;conv=>whnf)
  refine ae kr ?_
  refine kj (i:=2) rfl ?_
  repeat refine⟨trivial,?_⟩
  refine(Wa F s1 (by exact c2 ‹_› (cK _ _)) s2 ?_).call
  repeat refine⟨trivial,?_⟩
  refine o4 rfl ?_
  exact .done (aI ei _ e (by decide) s1 s2)
 ·obtain⟨ei,e,s1,s2⟩:=hs (by decide)
  have nW:ei.length<=100000:=by rw[e,dc]at aO;exact q9 ‹_›
  have kr:fu (h0++recs) (some 61) none=3::ei:=kr.trans e
  repeat refine⟨trivial,?_⟩
  refine(vm F (n:=3) (by decide) ?_).call
  repeat (refine⟨trivial,?_⟩;conv=>whnf)
  refine ae kr ?_
  refine kj (i:=2) rfl ?_
  repeat refine⟨trivial,?_⟩
  refine(Wc F s1 (by exact c2 ‹_› (cK _ _)) s2 ?_).call
  repeat refine⟨trivial,?_⟩
  refine o4 rfl ?_
  exact .done (aI ei _ e (by decide) s1 s2)
 ·obtain⟨ei,e,s1,s2⟩:=hs (by decide)
  have nW:ei.length<=100000:=by rw[e,dc]at aO;exact q9 ‹_›
  have kr:fu (h0++recs) (some 61) none=4::ei:=kr.trans e
  repeat refine⟨trivial,?_⟩
  refine(vm F (n:=4) (by decide) ?_).call
  repeat (refine⟨trivial,?_⟩;conv=>whnf)
  refine ae kr ?_
  refine kj (i:=2) rfl ?_
  repeat refine⟨trivial,?_⟩
  refine(We F s1 (by exact c2 ‹_› (cK _ _)) s2 ?_).call
  repeat refine⟨trivial,?_⟩
  refine o4 rfl ?_
  exact .done (aI ei _ e (by decide) s1 s2)
end
section
variable{w:cu}{B:a8}{b:aS}{d:ab}{σ:aa Cell}{Q:af->aa Cell->Prop}
theorem ni(F:(av w B b none).a0){v:ah}{buf post:aa aU}{p k:ab}(aB:-2^60<=v/\v<2^60)(aI:buf.length<=1000000)(ba:dw σ k=some (.aZ buf))(aq:buf.drop p=c8 v++post)(h:Q (.tup [.int v,.int (p+(c8 v).length:ab)]) σ):cH (av w B b none) (d+1) (.ref 69) [.cell k,.int p] [] σ Q:=by
 have jc:σ[k]? =some (.aZ buf):=hB.trans ba
 have Hr:=(dH.mp jc).1
 refine(bc.frame [k] (VV (Q:=λa aC=>a=.tup [.int v,.int (p+(c8 v).length:ab)]/\aC=[.aZ buf]) F aB aI aq ⟨rfl,rfl⟩) (by simp) (λi a7=>by refine ae (eV.mp a7) ?_;exact Hr) (by(refine ae oj ?_;refine ae jc ?_);rfl) rfl ⟨rfl,rfl⟩ λa ax ⟨az,ay⟩=>?_).call
 subst az ay
 show Q _ (σ.set k (.aZ buf)++[])
 have:σ.set k (.aZ buf)=σ:=by
  have e:=(dH.mp jc).2
  refine cv e ?_;exact IL Hr
 rw[il,this];exact h
noncomputable def qH(o:bh af):Prop:=∀y,o.map (af.sub 3 y)=o
noncomputable def y6:aE->Prop
 |[]=>ky
 |o::m=>qH o/\y6 m
theorem Hs{y:af}:∀{m:aE},y6 m->nM 3 y m=m
 |[],_=>rfl
 |o::m,h=>by rw[p0,gJ,<-p0,h.1 y,Hs h.2]
theorem sW(o:dB):qH (some (cI o)):=λy=>by induction o<;>rfl
theorem sX(n:ab)(y:af):∀l:aa (ab×dB),hj n y (l.map dP)=l.map dP
 |[]=>rfl
 |(a1,a2)::l=>by
  show af.sub n y (dP (a1,a2))::hj n y (l.map dP)=_
  refine ae (sX n y l) ?_
  induction a2<;>rfl
noncomputable def ku(len off dW tt:ah)(k v:dB)(hd:aa (ab×dB)):af:=.obj 958 [(46,.int len),(47,.int off),(48,.int dW),(49,.int tt),(50,cI k),(51,cI v),(52,.lst (hd.map dP))]
section
variable{P:ct->aE->aa Cell->Prop}{jo a1 a2 gp eh e8 eJ fp hH eT d2 gb gc fK:bh af}{m:aE}{bf:af}{hd:f'}{pos idx:ah}{rest:aa Cell}
theorem Xq(F:(av w B b none).a0){dl:ah}{own:aS}(aN:(d' hd.at_ 8 !=0)=own)(h:P .next (some (.cell 0)::a1::a2::gp::eh::e8::some (.int dl)::some (.int (if own=true then hd.most else hd.first+dl))::m) (bR bf hd pos idx true::rest)):
  C_DefaultRecordBatch_read_msg_6.1 (av w B b none) (d+4) (some (.cell 0)::a1::a2::gp::eh::e8::some (.int dl)::fp::m) (bR bf hd pos idx true::rest) P:=by
 unfold C_DefaultRecordBatch_read_msg_6
 refine .mk ?_
 refine y5 (a0.dC F) ?_
 refine ae aN ?_
 refine⟨trivial,?_⟩
 induction own
 ·skip
  repeat refine⟨trivial,?_⟩
  refine Hl (a0.dC F) ?_
  refine⟨trivial,?_⟩
  exact h
 ·skip
  repeat refine⟨trivial,?_⟩
  refine Hm (a0.dC F) ?_
  refine⟨trivial,?_⟩
  exact h
end
noncomputable def fL:dB->ah
 |none=>-1
 |some x=>x.length
noncomputable def jq:dB->aa aU
 |none=>[]
 |some x=>x
theorem y7(o:dB):fld o=c8 (fL o)++jq o:=by
 induction o with
 |none=>exact(il _).symm
 |some x=>rfl
theorem sY{buf x post:aa aU}{p:ab}(h:buf.drop p=x++post):fu buf (some (p:ah)) (some ((p:ah)+x.length))=x:=by
 have a5:=congrArg ig h
 rw[ih,bZ]at a5
 by_cases aW:p<=buf.length
 ·have:=vc (b:=buf) (p:=p) (q:=p+x.length) (by exact jH _ _) (by lia)
  rw[show((p+x.length:ab):ah)=(p:ah)+x.length from rfl]at this
  rw[this,nt,h,qD rfl]
 ·have:x=[]:=z2 (by lia)
  subst this
  have e:clipAt buf.length (p:ah)=buf.length:=by unfold clipAt;lia
  have ay:clipAt buf.length ((p:ah)+(([]:aa aU).length:ab))=buf.length:=by simp;lia
  show(buf.drop (clipAt buf.length (p:ah))).take (clipAt buf.length ((p:ah)+(([]:aa aU).length:ab))-clipAt buf.length (p:ah))=[]
  rw[e,ay,ib];rfl
section
variable{P:ct->aE->aa Cell->Prop}{hd:f'}{pos idx:ah}{fs fE fY gw gX hx iq i7 vn:ah}{buf post:aa aU}{p:ab}
theorem Xr(F:(av w B b none).a0){o:dB}(aq:buf.drop p=jq o++post)(h:P .next [some (.cell 0),some (.cell 1),some (.int (p+(jq o).length)),some (.int fs),some (.int fE),some (.int fY),some (.int gw),some (.int gX),some (.int hx),some (.int iq),some (.int (fL o)),some (cI o),none,none,none,none,none,none,none,none] [bR (.cell 1) hd pos idx true,.aZ buf]):
  yf C_DefaultRecordBatch_read_msg_10.1 (av w B b none) d [some (.cell 0),some (.cell 1),some (.int p),some (.int fs),some (.int fE),some (.int fY),some (.int gw),some (.int gX),some (.int hx),some (.int iq),some (.int (fL o)),none,none,none,none,none,none,none,none,none] [bR (.cell 1) hd pos idx true,.aZ buf] P:=by
 unfold C_DefaultRecordBatch_read_msg_10
 refine .mk ?_
 induction o with
 |none=>
  refine .done ?_
  have e:(p:ah)+((jq none).length:ab)=p:=by show(p:ah)+((0:ab):ah)=p;lia
  rw[e]at h
  exact h
 |some x=>
  conv=>whnf
  have aP:=sY aq
  refine ae (show fu buf (some (p:ah)) (some ((p:ah)+fL (some x)))=x from aP) ?_
  refine kj (i:=2) rfl ?_
  exact .drop [_,_] _ rfl rfl (.done h)
theorem Xs(F:(av w B b none).a0){k o:dB}(aq:buf.drop p=jq o++post)(h:P .next [some (.cell 0),some (.cell 1),some (.int (p+(jq o).length)),some (.int fs),some (.int fE),some (.int fY),some (.int gw),some (.int gX),some (.int hx),some (.int iq),some (.int i7),some (cI k),some (.int (fL o)),some (cI o),none,none,none,none,none,none] [bR (.cell 1) hd pos idx true,.aZ buf]):
  yf C_DefaultRecordBatch_read_msg_12.1 (av w B b none) d [some (.cell 0),some (.cell 1),some (.int p),some (.int fs),some (.int fE),some (.int fY),some (.int gw),some (.int gX),some (.int hx),some (.int iq),some (.int i7),some (cI k),some (.int (fL o)),none,none,none,none,none,none,none] [bR (.cell 1) hd pos idx true,.aZ buf] P:=by
 unfold C_DefaultRecordBatch_read_msg_12
 refine .mk ?_
 induction o with
 |none=>
  refine .done ?_
  have e:(p:ah)+((jq none).length:ab)=p:=by show(p:ah)+((0:ab):ah)=p;lia
  rw[e]at h
  exact h
 |some x=>
  conv=>whnf
  have aP:=sY aq
  refine ae (show fu buf (some (p:ah)) (some ((p:ah)+fL (some x)))=x from aP) ?_
  refine kj (i:=2) rfl ?_
  refine .drop [_,_] _ rfl rfl (.done ?_)
  induction k<;>exact h
theorem Ht{dJ:ct->aE->aa Cell->Prop}{m:aE}{y:Cell}{l:aa (ab×dB)}(hm:y6 m)(h:dJ .next m [bR (.cell 1) hd pos idx true,.aZ buf,.list (l.map dP)]):oK 3 dJ .next m [bR (.cell 1) hd pos idx true,.aZ buf,.list (l.map dP),y]:=by
 refine .drop [_,_,_] y rfl rfl (.done ?_)
 show dJ .next (nM 3 _ m) [bR (.cell 1) hd pos idx true,.aZ buf,.list (hj 3 _ (l.map dP))]
 rw[Hs hm,sX];exact h
theorem Xt(F:(av w B b none).a0){k v:dB}{jX:aa (ab×dB)}(cO:∀x∈jX,x.1<4/\gN 3 x.2)(a5:jX.length<=2)(aO:buf.length<=1000000)(aq:buf.drop p=jX.flatMap gr++post)
  (h:∀qI qJ qK qL,P .next [some (.cell 0),some (.cell 1),some (.int (p+(jX.flatMap gr).length:ab)),some (.int fs),some (.int fE),some (.int fY),some (.int gw),some (.int gX),some (.int hx),some (.int iq),some (.int i7),some (cI k),some (.int vn),some (cI v),some (.int 0),some (.cell 2),qI,qJ,qK,qL] [bR (.cell 1) hd pos idx true,.aZ buf,.list (jX.map dP)]):
  C_DefaultRecordBatch_read_msg_16.1 (av w B b none) (d+1) [some (.cell 0),some (.cell 1),some (.int p),some (.int fs),some (.int fE),some (.int fY),some (.int gw),some (.int gX),some (.int hx),some (.int iq),some (.int i7),some (cI k),some (.int vn),some (cI v),some (.int jX.length),some (.cell 2),none,none,none,none] [bR (.cell 1) hd pos idx true,.aZ buf,.list []] P:=by
 unfold C_DefaultRecordBatch_read_msg_16
 refine .mk ?_
 have k8:(2:ah)^60=1152921504606846976:=rfl
 refine pg (λq m aC=>vW λ(eK d8:aa (ab×dB)) (eN:ab) (qI qJ qK qL:bh af)=>I8 (qH qI) (qH qJ) (qH qK) (qH qL) (jX=eK++d8) (d8.length=q) (buf.drop eN=d8.flatMap gr++post) (eN+(d8.flatMap gr).length=p+(jX.flatMap gr).length) (aC=[bR (.cell 1) hd pos idx true,.aZ buf,.list (eK.map dP)]) (m=[some (.cell 0),some (.cell 1),some (.int eN),some (.int fs),some (.int fE),some (.int fY),some (.int gw),some (.int gX),some (.int hx),some (.int iq),some (.int i7),some (cI k),some (.int vn),some (cI v),some (.int q),some (.cell 2),qI,qJ,qK,qL])) ?_ jX.length
  ⟨[],jX,p,none,none,none,none,λJ=>rfl,λJ=>rfl,λJ=>rfl,λJ=>rfl,rfl,rfl,aq,rfl,rfl,rfl⟩
 rintro q R dp m aC ⟨eK,d8,eN,qI,qJ,qK,qL,af6,af7,Xu,Xv,rfl,bg,ml,aW,rfl,rfl⟩
 induction d8 with
 |nil=>
  have:q=0:=bg.symm
  subst this
  rw[il]at aW h
  have je:eN=p+(eK.flatMap gr).length:=by refine cv aW ?_;simp
  subst je
  exact h _ _ _ _
 |cons aA d8=>
  obtain⟨nm,o⟩:=aA
  obtain⟨q,rfl⟩:∃eW,q=eW+1:=⟨d8.length,bg.symm⟩
  have mZ:gN 3 o:=(cO (nm,o) (by simp)).2
  have Ad:=vg nm
  have eb:gr (nm,o)=c8 (eg nm).length++(eg nm++(c8 (fL o)++jq o)):=by
   show(c8 (eg nm).length++eg nm)++fld o=_
   rw[y7,ee]
  rw[IX,eb]at ml aW
  simp only[ee]at ml
  have iS:buf.drop (eN+(c8 (eg nm).length).length)=eg nm++(c8 (fL o)++(jq o++(d8.flatMap gr++post))):=by(refine cv hN ?_;refine ae ml ?_;exact ae (fU rfl) rfl)
  have km:buf.drop (eN+(c8 (eg nm).length).length+(eg nm).length)=c8 (fL o)++(jq o++(d8.flatMap gr++post)):=by(refine cv hN ?_;refine ae iS ?_;exact ae (fU rfl) rfl)
  have k9:buf.drop (eN+(c8 (eg nm).length).length+(eg nm).length+(c8 (fL o)).length)=jq o++(d8.flatMap gr++post):=by(refine cv hN ?_;refine ae km ?_;exact ae (fU rfl) rfl)
  have lN:buf.drop (eN+(c8 (eg nm).length).length+(eg nm).length+(c8 (fL o)).length+(jq o).length)=d8.flatMap gr++post:=by(refine cv hN ?_;refine ae k9 ?_;exact ae (fU rfl) rfl)
  refine ni F (v:=(eg nm).length) (by lia) aO rfl ml ?_
  conv=>whnf
  refine ae (sY iS) ?_
  refine kj (i:=3) rfl ?_
  refine PA nm ?_
  refine Ht ⟨λJ=>rfl,λJ=>rfl,λJ=>rfl,λJ=>rfl,λJ=>rfl,λJ=>rfl,λJ=>rfl,λJ=>rfl,λJ=>rfl,λJ=>rfl,λJ=>rfl,sW k,λJ=>rfl,sW v,λJ=>rfl,λJ=>rfl,λJ=>rfl,λJ=>rfl,Xu,Xv,trivial⟩ ?_
  refine ni F (v:=fL o) (by induction o with|none=>decide|some x=>(have:x.length<=3:=mZ);show-2^60<=(x.length:ah)/\(x.length:ah)<2^60;lia) aO rfl km ?_
  have fin:∀Hu:ah,Hu=(eN+(c8 (eg nm).length).length+(eg nm).length+(c8 (fL o)).length+(jq o).length:ab)->R [some (.cell 0),some (.cell 1),some (.int Hu),some (.int fs),some (.int fE),some (.int fY),some (.int gw),some (.int gX),some (.int hx),some (.int iq),some (.int i7),some (cI k),some (.int vn),some (cI v),some (.int (q:ab)),some (.cell 2),some (.int (eg nm).length),some (.str (o5 nm)),some (.int (fL o)),some (cI o)] [bR (.cell 1) hd pos idx true,.aZ buf,.list (eK.map dP++[dP (nm,o)])]:=by
   rintro _ rfl
   refine dp q rfl _ _ ⟨eK++[(nm,o)],d8,_,some (.int (eg nm).length),some (.str (o5 nm)),some (.int (fL o)),some (cI o),λJ=>rfl,λJ=>rfl,λJ=>rfl,sW o,by simp,by simpa using bg,lN,?_,by refine ae kU ?_;rfl,rfl⟩
   refine cv aW ?_
   simp only[bZ]
   lia
  induction o with
  |none=>
   refine .done ?_
   refine gM (i:=2) rfl (by rw[gK];simp at a5;lia) ?_
   conv=>whnf
   have:=fin (eN+(c8 (eg nm).length).length+(eg nm).length+(c8 (fL none)).length:ab) (by rfl)
   refine ae (show((q+1:ab):ah)-1=(q:ab)from by lia) ?_
   exact this
  |some x=>
   conv=>whnf
   have Xw:buf.drop (eN+(c8 (eg nm).length).length+(eg nm).length+(c8 (fL (some x))).length)=x++(d8.flatMap gr++post):=k9
   rw[show∀(a:ah),a+fL (some x)=a+x.length fromλJ=>rfl]
   have lO:=sY Xw
   refine ae lO ?_
   refine kj (i:=3) rfl ?_
   refine Ht ⟨λJ=>rfl,λJ=>rfl,λJ=>rfl,λJ=>rfl,λJ=>rfl,λJ=>rfl,λJ=>rfl,λJ=>rfl,λJ=>rfl,λJ=>rfl,λJ=>rfl,sW k,λJ=>rfl,sW v,λJ=>rfl,λJ=>rfl,λJ=>rfl,λJ=>rfl,λJ=>rfl,λJ=>rfl,trivial⟩ ?_
   refine gM (i:=2) rfl (by rw[gK];simp at a5;lia) ?_
   conv=>whnf
   have:=fin ((eN+(c8 (eg nm).length).length+(eg nm).length+(c8 (fL (some x))).length:ab)+fL (some x)) (by rfl)
   refine ae (show((q+1:ab):ah)-1=(q:ab)from by lia) ?_
   exact this
end
end
section
variable{w:cu}{B:a8}{b:aS}{d:ab}{σ:aa Cell}{Q:af->aa Cell->Prop}
theorem lP{buf x post:aa aU}{p:ab}(h:buf.drop p=x++post):buf.drop (p+x.length)=post:=by(refine cv hN ?_;refine ae h ?_;exact ae (fU rfl) rfl)
section
variable{len off dW tt:ah}{k v:dB}{l:aa (ab×dB)}
theorem Xx(F:(av w B b none).a0){m0:f'}{pos idx:ah}{buf:aa aU}(h:Q .none [bR (.cell 1) m0 pos idx true,.aZ buf,.list (l.map dP),.inst 958 [(46,.int len),(47,.int off),(48,.int dW),(49,.int tt),(50,cI k),(51,cI v),(52,.cell 2)]]):bc (av w B b none) (d+1) (.ref 884) [.cell 3,.int len,.int off,.int dW,.int tt,cI k,cI v,.cell 2] [] [bR (.cell 1) m0 pos idx true,.aZ buf,.list (l.map dP),.inst 958 []] Q:=by
 refine enter F rfl rfl rfl U6 S9.2 rfl rfl ?_
 repeat refine⟨trivial,?_⟩
 exact h
end
theorem Xy{len off dW tt:ah}{k v:dB}{l:aa (ab×dB)}{m0:f'}{pos idx:ah}{buf:aa aU}(h:Q (ku len off dW tt k v l) [bR (.cell 1) m0 pos idx true,.aZ buf]):l5 2 Q (.cell 3) [bR (.cell 1) m0 pos idx true,.aZ buf,.list (l.map dP),.inst 958 [(46,.int len),(47,.int off),(48,.int dW),(49,.int tt),(50,cI k),(51,cI v),(52,.cell 2)]]:=by
 refine .drop [_,_,_] _ rfl rfl ?_
 have Xz:∀y,hj 3 y (l.map dP)=l.map dP:=λy=>sX 3 y l
 obtain⟨L,e5⟩:∃L,L=l.map dP:=⟨_,rfl⟩
 induction k<;>induction v<;>
 ·show l5 2 Q (.obj 958 [(46,.int len),(47,.int off),(48,.int dW),(49,.int tt),(50,_),(51,_),(52,.cell 2)]) [bR (.cell 1) m0 pos idx true,.aZ buf,.list (hj 3 _ (l.map dP))]
  rw[Xz]
  refine .drop [_,_] _ rfl rfl (.done ?_)
  show Q (.obj 958 [(46,.int len),(47,.int off),(48,.int dW),(49,.int tt),(50,_),(51,_),(52,.lst (hj 2 .ft (l.map dP)))]) _
  rw[sX]
  exact h
theorem Hv{o:dB}{n:ab}(h:gN n o)(aY:n<=100):-2^60<=fL o/\fL o<2^60:=by
 induction o with
 |none=>decide
 |some x=>
  have:x.length<=n:=h
  show-2^60<=(x.length:ah)/\(x.length:ah)<2^60
  have k8:(2:ah)^60=1152921504606846976:=rfl
  lia
noncomputable def Rec.len(r:Rec)(off first:ah):ah:=(r.body off first).length
theorem XA(F:(av w B b none).a0){hd:f'}{r:Rec}{start off idx:ah}{own:aS}{buf post:aa aU}{p:ab}(aN:(d' hd.at_ 8 !=0)=own)(y8:(d' hd.at_ 32 !=0)=false)(a4:r.Ok start)(hf:start-1000000000<=hd.first/\hd.first<=start+100000000000)(y9:0<=off/\off<=1000)(aO:buf.length<=1000000)(aq:buf.drop p=r.laid off hd.first++post)
  (h:Q (ku (r.len off hd.first) (hd.base+off) (if own=true then hd.most else r.t) (if own=true then 1 else 0) r.key r.val r.hd) [bR (.cell 1) hd (p+(r.laid off hd.first).length:ab) idx true,.aZ buf]):
  bc (av w B b none) (d+5) (.ref 844) [.cell 0] [] [bR (.cell 1) hd p idx true,.aZ buf] Q:=by
 have k8:(2:ah)^60=1152921504606846976:=rfl
 have bb:=a4.t
 have XB:=a4.key
 have XC:=a4.val
 have aY:=a4.hd
 have XD:=a4.jX
 have h2:=vh (off:=off) (first:=hd.first) a4
 have eb:r.laid off hd.first++post=c8 (r.len off hd.first)++(c8 0++(c8 (r.t-hd.first)++(c8 off++(c8 (fL r.key)++(jq r.key++(c8 (fL r.val)++(jq r.val++(c8 r.hd.length++(r.hd.flatMap gr++post))))))))):=by
  unfold Rec.laid Rec.len Rec.body
  rw[y7,y7]
  simp only[ee,oh]
  rfl
 have qF:=aq
 rw[eb]at qF
 have iS:=lP qF
 have km:=lP iS
 have k9:=lP km
 have lN:=lP k9
 have lO:=lP lN
 have sT:=lP lO
 have sU:=lP sT
 have sV:=lP sU
 have vj:=lP sV
 refine bc.trim (enter F rfl rfl rfl U4 SU.2 rfl rfl ?_)
 conv=>whnf
 repeat (refine⟨trivial,?_⟩;conv=>whnf)
 refine ni F (v:=r.len off hd.first) (by unfold Rec.len;lia) aO rfl qF ?_
 conv=>whnf
 repeat (refine⟨trivial,?_⟩;conv=>whnf)
 refine ni F (v:=0) (by decide) aO rfl iS ?_
 conv=>whnf
 repeat (refine⟨trivial,?_⟩;conv=>whnf)
 refine ni F (v:=r.t-hd.first) (by lia) aO rfl km ?_
 conv=>whnf
 refine Xq F aN ?_
 conv=>whnf
 refine ni F (v:=off) (by lia) aO rfl k9 ?_
 conv=>whnf
 repeat (refine⟨trivial,?_⟩;conv=>whnf)
 refine y3 (a0.dC F) ?_
 refine⟨trivial,?_⟩
 conv=>whnf
 refine ni F (v:=fL r.key) (Hv XB (by decide)) aO rfl lN ?_
 conv=>whnf
 refine Xr F lO ?_
 conv=>whnf
 refine ni F (v:=fL r.val) (Hv XC (by decide)) aO rfl sT ?_
 conv=>whnf
 refine Xs F sU ?_
 conv=>whnf
 refine ni F (v:=r.hd.length) (by lia) aO rfl sV ?_
 conv=>whnf
 refine Xt F XD aY aO vj λqI qJ qK qL=>?_
 conv=>whnf
 refine bY.f ?_ ?_
 ·have:=congrArg ig eb
  simp only[bZ]at this
  have e5:((r.laid off hd.first).length:ah)=(c8 (r.len off hd.first)).length+r.len off hd.first:=by
   show(((c8 _++r.body off hd.first).length:ab):ah)=_
   rw[bZ];rfl
  rw[bne_eq_false_iff_eq]
  lia
 conv=>whnf
 repeat (refine⟨trivial,?_⟩;conv=>whnf)
 refine Hq (a0.dC F) ?_
 refine ae y8 ?_
 refine⟨trivial,?_⟩
 conv=>whnf
 refine y5 (a0.dC F) ?_
 refine ae aN ?_
 refine⟨trivial,?_⟩
 conv=>whnf
 refine call_cls F.H (by kernel_rfl) (fI:=884) (by kernel_rfl) (by kernel_rfl) ?_
 refine Xx F ?_
 refine⟨rfl,?_⟩
 refine Xy ?_
 have az:(p:ab)+(r.laid off hd.first).length=p+(c8 (r.len off hd.first)).length+(c8 0).length+(c8 (r.t-hd.first)).length+(c8 off).length+(c8 (fL r.key)).length+(jq r.key).length+(c8 (fL r.val)).length+(jq r.val).length+(c8 r.hd.length).length+(r.hd.flatMap gr).length:=by
  have:=congrArg ig eb
  simp only[bZ]at this⊢
  lia
 rw[az]at h
 have ay:(if own=true then hd.most else hd.first+(r.t-hd.first))=if own=true then hd.most else r.t:=by
  exact ae (show hd.first+(r.t-hd.first)=r.t from by lia) rfl
 refine ae ay ?_
 exact h
end
section
variable{w:cu}{B:a8}{b:aS}{d:ab}{σ:aa Cell}{Q:af->aa Cell->Prop}
section
variable{bf:af}{hd:f'}{pos idx:ah}{rest:aa Cell}
theorem XE(F:(av w B b none).a0)(h:Q .none (bR bf hd pos idx true::rest)):bc (av w B b none) (d+1) (.ref 837) [.cell 0] [] (bR bf hd pos idx true::rest) Q:=by
 refine enter F rfl rfl rfl GL Gw.2 rfl rfl ?_
 repeat refine⟨trivial,?_⟩
 exact h
theorem Hw(F:(av w B b none).a0)(h:Q (.cell 0) (bR bf hd pos idx true::rest)):bc (av w B b none) (d+2) (.ref 851) [.cell 0] [] (bR bf hd pos idx true::rest) Q:=by
 refine enter F rfl rfl rfl GN GD.2 rfl rfl ?_
 refine(XE F ?_).call
 exact h
end
theorem XF(F:(av w B true none).a0){hd:f'}{h0 recs:aa aU}{codec:ab}(bL:d' hd.at_ 7=codec)(aP:codec<=4)(cO:h0.length=61)(aO:recs.length<=100000)
  (aB:codec=0->Q (.cell 0) [bR (.cell 1) hd 61 0 true,.aZ (h0++recs)])
  (aI:∀ei g,recs=codec.toUInt8::ei->codec≠0->ei.length%2=0->(fS ei).length<=200000->Q (.cell 0) [bR (.cell 3) hd 0 0 true,.aZ (h0++recs),g,.aZ (fS ei)])
  (hs:codec≠0->∃ei,dx (recs=codec.toUInt8::ei) (ei.length%2=0) ((fS ei).length<=200000)):
  bc (av w B true none) (d+6) (.ref 851) [.cell 0] [] [bR (.cell 1) hd 61 0 false,.aZ (h0++recs)] Q:=by
 refine enter F rfl rfl rfl GN GD.2 rfl rfl ?_
 exact(Xp F bL aP cO aO aB aI hs).call
theorem XG(F:(av w B b none).a0){hd:f'}{r:Rec}{start off idx:ah}{own:aS}{buf post:aa aU}{p:ab}(a7:idx<hd.many)(aN:(d' hd.at_ 8 !=0)=own)(y8:(d' hd.at_ 32 !=0)=false)(a4:r.Ok start)(hf:start-1000000000<=hd.first/\hd.first<=start+100000000000)(y9:0<=off/\off<=1000)(aO:buf.length<=1000000)(aq:buf.drop p=r.laid off hd.first++post)
  (h:Q (ku (r.len off hd.first) (hd.base+off) (if own=true then hd.most else r.t) (if own=true then 1 else 0) r.key r.val r.hd) [bR (.cell 1) hd (p+(r.laid off hd.first).length:ab) (idx+1) true,.aZ buf]):
  bc (av w B b none) (d+6) (.ref 858) [.cell 0] [] [bR (.cell 1) hd p idx true,.aZ buf] Q:=by
 refine enter F rfl rfl rfl GO TX.2 rfl rfl ?_
 repeat refine⟨trivial,?_⟩
 refine bY.f (mD (by exact H5.mpr ‹_›)) ?_
 refine(XA F aN y8 a4 hf y9 aO aq ?_).call
 repeat refine⟨trivial,?_⟩
 exact h
noncomputable def vo:b1:=d4 (bodyOf (aM (ar pw 42) 27)) 0
noncomputable def XH:{t:TT//iz u9 (Ew vo) t}:=⟨_,b2 rfl (bk (k:=14) aV rfl (ag (i:=0) rfl)) (bk (k:=13) aV rfl (ag (i:=0) rfl))⟩
noncomputable def XI:{t:br//dt u9 (d4 (subB vo) 0) t}:=⟨_,cp (b2 rfl (bk (k:=11) aV rfl (ag (i:=0) rfl)) (a' (i:=6) rfl (by kernel_rfl) rfl rfl (ak rfl (bk (k:=9) aV rfl (ag (i:=0) rfl)) aD) aQ)) (ai jj aH) aH⟩
theorem XJ(F:(av w B b none).a0){hd:f'}{buf:aa aU}{k:ab}{rest:aa Cell}{k7:aa Cell->Prop}(ba:(bR (.cell k) hd buf.length hd.many true::rest)[k]? =some (.aZ buf))(h:k7 (bR (.cell k) hd buf.length hd.many true::rest)):
  nX (av w B b none) (d+1) (.ref 858) [.cell 0] (bR (.cell k) hd buf.length hd.many true::rest) k7:=by
 refine RQ F rfl rfl rfl GO (t:=Ew vo) (s1:=d4 (subB vo) 0) (by rfl) XH.2 XI.2 rfl (x:=.ofString "StopIteration") (by kernel_rfl) ⟨by kernel_rfl,by kernel_rfl,by decide⟩ ?_
 repeat refine⟨trivial,?_⟩
 refine⟨iH (Int.le_refl _),?_⟩
 repeat refine⟨trivial,?_⟩
 refine qg ba ?_
 refine bY.f (by simp) ?_
 exact⟨rfl,h⟩
section
variable{len off dW tt:ah}{k v:dB}{l:aa (ab×dB)}
theorem sZ(o:dB):Hand (cI o):=by induction o<;>trivial
theorem XK(F:(av w B b none).a0)(h:Q (.int off) σ):bc (av w B b none) (d+1) (.ref 899) [ku len off dW tt k v l] [] σ Q:=by
 refine enter F rfl rfl rfl U7 TQ.2 rfl rfl ?_
 repeat refine⟨trivial,?_⟩
 exact h
theorem XM(F:(av w B b none).a0)(h:Q (.int dW) σ):bc (av w B b none) (d+1) (.ref 907) [ku len off dW tt k v l] [] σ Q:=by
 refine enter F rfl rfl rfl U8 Tz.2 rfl rfl ?_
 repeat refine⟨trivial,?_⟩
 exact h
theorem XN(F:(av w B b none).a0)(h:Q (.int tt) σ):bc (av w B b none) (d+1) (.ref 915) [ku len off dW tt k v l] [] σ Q:=by
 refine enter F rfl rfl rfl U9 T4.2 rfl rfl ?_
 repeat refine⟨trivial,?_⟩
 exact h
theorem XO(F:(av w B b none).a0)(h:Q (cI k) σ):bc (av w B b none) (d+1) (.ref 923) [ku len off dW tt k v l] [] σ Q:=by
 refine enter F rfl rfl rfl U' TA.2 rfl rfl ?_
 exact⟨sZ _,h⟩
theorem XQ(F:(av w B b none).a0)(h:Q (cI v) σ):bc (av w B b none) (d+1) (.ref 931) [ku len off dW tt k v l] [] σ Q:=by
 refine enter F rfl rfl rfl Va Ui.2 rfl rfl ?_
 exact⟨sZ _,h⟩
theorem XR(F:(av w B b none).a0)(h:Q (.lst (l.map dP)) σ):bc (av w B b none) (d+1) (.ref 939) [ku len off dW tt k v l] [] σ Q:=by
 refine enter F rfl rfl rfl Vb Uh.2 rfl rfl ?_
 repeat refine⟨trivial,?_⟩
 exact h
end
end
section
variable{w:cu}{B:a8}{b:aS}{d:ab}{σ:aa Cell}{Q:af->aa Cell->Prop}
noncomputable def gs(buf:aa aU)(pos:ah)(sl:dB)(d8:af):Cell:=.inst 1283 [(9,.bytes buf),(11,.int pos),(68,cI sl),(69,d8)]
structure Lay(X:aa aU):Prop where
 lo:61<=X.length
 a7:X.length<=100000
 len:(X.drop 8).take 4=bj 4 (X.length-12)
 XS:(X.drop 16).take 1=bj 1 2
theorem Lay.kO{X:aa aU}(h:Lay X):kO true 4 ((X.drop 8).take 4)=(X.length:ah)-12:=by
 have:=h.lo
 have:=h.a7
 refine ae h.len ?_
 have e:(2:ah)^(8*4-1)=2147483648:=rfl
 exact y1 (by decide) (by lia)
theorem Hx{α:Type}{X Y:aa α}{a n:ab}(h:a+n<=X.length):((X++Y).drop a).take n=(X.drop a).take n:=by
 rw[List.drop_append_of_le_length (by exact ne λJ=>by lia),zJ (by rw[ih];exact ne λJ=>by lia)]
section
variable{buf:aa aU}{p:ab}{sl:dB}{d8:af}
theorem XT(F:(av w B b none).a0){X rest:aa aU}(aO:buf.length<=1000000)(e5:Lay X)(aq:buf.drop p=X++rest)(h:Q .none [gs buf (p+X.length:ab) (some X) d8]):bc (av w B b none) (d+2) (.ref 1252) [.cell 0] [] [gs buf p sl d8] Q:=by
 have aB:=e5.lo
 have aI:=e5.a7
 have a5:=congrArg ig aq
 rw[ih,bZ]at a5
 refine enter F rfl rfl rfl GU F2.2 rfl rfl ?_
 repeat refine⟨trivial,?_⟩
 refine eF ?_
 repeat refine⟨trivial,?_⟩
 refine bY.f (mD (by lia)) ?_
 refine(yO F (n:=4) (p:=p+8) (by decide) aO (by exact ne λJ=>by lia) ?_).call
 have az:(buf.drop (p+8)).take 4=(X.drop 8).take 4:=by
  (refine cv hN ?_;refine ae aq ?_;exact ae (Hx (by exact ne λJ=>by lia)) rfl)
 (refine ae az ?_;refine ae e5.kO ?_)
 refine bY.f (mD (by lia)) ?_
 conv=>whnf
 have ay:(p:ah)+12+((X.length:ah)-12)=(p:ah)+X.length:=by lia
 (refine ae ay ?_;refine ae (sY aq) ?_)
 refine Cs ?_
 repeat refine⟨trivial,?_⟩
 exact h
theorem XU(F:(av w B b none).a0){Y:aa aU}(aO:buf.length<=1000000)(aW:p<=buf.length)(aq:buf.drop p=Y)(w6:Y=[]\/eO λX Z=>dx (Lay X) (X=Y++Z) (Z≠[]))(h:Q .none [gs buf p none (.int Y.length)]):bc (av w B b none) (d+2) (.ref 1252) [.cell 0] [] [gs buf p sl d8] Q:=by
 have a5:=congrArg ig aq
 rw[ih]at a5
 have Hy:((Y.length:ab):ah)=(buf.length:ah)-p:=by lia
 rw[Hy]at h
 refine enter F rfl rfl rfl GU F2.2 rfl rfl ?_
 repeat refine⟨trivial,?_⟩
 refine eF ?_
 repeat refine⟨trivial,?_⟩
 refine bY.intro (λe=>?_) λe=>?_
 ·skip
  repeat refine⟨trivial,?_⟩
  exact h
 ·have e:=hM e
  rcases w6 with rfl|⟨X,Z,e5,g7,y'⟩
  ·simp at Hy;lia
  have aA:=congrArg ig g7
  rw[bZ]at aA
  have af8:0<Z.length:=List.length_pos_iff.mpr y'
  refine(yO F (n:=4) (p:=p+8) (by decide) aO (by exact ne λJ=>by lia) ?_).call
  have az:(buf.drop (p+8)).take 4=(X.drop 8).take 4:=by
   (refine cv hN ?_;refine ae aq ?_;refine ae g7 ?_;exact ae (Hx (by exact ne λJ=>by lia)) rfl)
  (refine ae az ?_;refine ae e5.kO ?_)
  refine bY.t (iH (by exact fy λJ=>by lia)) ?_
  repeat refine⟨trivial,?_⟩
  exact h
end
end
section
variable{w:cu}{B:a8}{b:aS}{d:ab}{σ:aa Cell}{Q:af->aa Cell->Prop}
structure iY(buf:aa aU)(p:ab)(el:aa (aa aU))(Y:aa aU):Prop where
 z:buf.length<=1000000
 le:p<=buf.length
 d:buf.drop p=el.flatten++Y
 l:∀X∈el,Lay X
 t:Y=[]\/eO λX Z=>dx (Lay X) (X=Y++Z) (Z≠[])
theorem iY.next{buf X:aa aU}{p:ab}{el:aa (aa aU)}{Y:aa aU}(h:iY buf p (X::el) Y):iY buf (p+X.length) el Y:=by
 have e:=h.d
 rw[ac7,ee]at e
 have a5:=congrArg ig e
 rw[ih,bZ]at a5
 have:=h.le
 exact⟨h.z,by lia,lP e,λZ y'=>h.l Z (.tail _ y'),h.t⟩
noncomputable def iZ(buf:aa aU)(p:ab)(Y:aa aU)(d8:af):aa (aa aU)->Cell
 |[]=>gs buf p none (.int Y.length)
 |X::_=>gs buf (p+X.length:ab) (some X) d8
section
variable{buf Y:aa aU}{p:ab}{sl:dB}{d8:af}{el:aa (aa aU)}
theorem za(F:(av w B b none).a0)(bP:iY buf p el Y)(h:Q .none [iZ buf p Y d8 el]):bc (av w B b none) (d+2) (.ref 1252) [.cell 0] [] [gs buf p sl d8] Q:=by
 induction el with
 |nil=>exact XU F bP.z bP.le bP.d bP.t h
 |cons X el=>
  have e:=bP.d
  rw[ac7,ee]at e
  exact XT F bP.z (bP.l X (.head _)) e h
theorem Hz(F:(av w B b none).a0)(h:Q (.int buf.length) [gs buf p sl d8]):bc (av w B b none) (d+1) (.ref 1238) [.cell 0] [] [gs buf p sl d8] Q:=by
 refine enter F rfl rfl rfl Vr Tt.2 rfl rfl ?_
 repeat refine⟨trivial,?_⟩
 exact eF h
theorem HA(F:(av w B b none).a0)(h:Q (.bool sl.isSome) [gs buf p sl d8]):bc (av w B b none) (d+1) (.ref 1259) [.cell 0] [] [gs buf p sl d8] Q:=by
 refine enter F rfl rfl rfl Vs SG.2 rfl rfl ?_
 induction sl<;>
 ·skip
  repeat refine⟨trivial,?_⟩
  exact h
theorem HB(F:(av w B b none).a0){y:ah}(h:Q (.int (buf.length-y)) [gs buf p sl (.int y)]):bc (av w B b none) (d+1) (.ref 1245) [.cell 0] [] [gs buf p sl (.int y)] Q:=by
 refine enter F rfl rfl rfl GS Gk.2 rfl rfl ?_
 repeat refine⟨trivial,?_⟩
 refine eF ?_
 repeat refine⟨trivial,?_⟩
 exact h
theorem XW(F:(av w B b none).a0)(bP:iY buf p el Y)(h:Q (.int (buf.length-Y.length)) [gs buf p sl (.int Y.length)]):bc (av w B b none) (d+3) (.ref 1245) [.cell 0] [] [gs buf p sl .none] Q:=by
 refine enter F rfl rfl rfl GS Gk.2 rfl rfl ?_
 repeat refine⟨trivial,?_⟩
 refine⟨sZ _,?_⟩
 repeat refine⟨trivial,?_⟩
 refine pg (λq m aC=>m=[some (.cell 0),some (cI sl),some (.int p)]/\((hO λ(eN:ab) (HC:dB) (pz:aa (aa aU))=>dx (q=pz.length+1) (aC=[gs buf eN HC .none]) (iY buf eN pz Y))\/q=0/\∃eN:ah,aC=[gs buf eN none (.int Y.length)])) ?_ (el.length+1) ⟨rfl,.inl ⟨p,sl,el,rfl,rfl,bP⟩⟩
 rintro q R dp m aC ⟨rfl,gv⟩
 rcases gv with⟨eN,HC,pz,rfl,rfl,jf⟩|⟨rfl,eN,rfl⟩
 ·skip
  repeat refine⟨trivial,?_⟩
  refine(za F jf ?_).call
  refine dp pz.length rfl _ _ ⟨rfl,?_⟩
  induction pz with
  |nil=>exact .inr ⟨rfl,eN,rfl⟩
  |cons X pz=>exact .inl ⟨_,some X,pz,rfl,rfl,jf.next⟩
 ·skip
  repeat refine⟨trivial,?_⟩
  refine eF ?_
  repeat refine⟨trivial,?_⟩
  exact h
theorem XX(F:(av w B b none).a0)(h:Q .none [gs buf p none d8]):bc (av w B b none) (d+1) (.ref 1266) [.cell 0] [] [gs buf p none d8] Q:=by
 refine enter F rfl rfl rfl GV Gi.2 rfl rfl ?_
 repeat refine⟨trivial,?_⟩
 exact h
theorem XY(F:(av w B true none).a0){hd:f'}{X rest:aa aU}(e5:Lay X)(aN:hd.Ok)(aq:X=hd.bytes rest)(bP:iY buf p el Y)(h:Q (.cell 1) [iZ buf p Y d8 el,bR (.cell 2) hd 61 0 false,.aZ X]):bc (av w B true none) (d+5) (.ref 1266) [.cell 0] [] [gs buf p (some X) d8] Q:=by
 have aB:=e5.lo
 have aI:=e5.a7
 refine enter F rfl rfl rfl GV Gi.2 rfl rfl ?_
 repeat refine⟨trivial,?_⟩
 refine eF ?_
 refine bY.f (mD (by lia)) ?_
 refine(za F bP ?_).call
 refine(yO F (n:=1) (p:=16) (by decide) (by exact c2 ‹_› (cK _ _)) (by lia) ?_).call
 (refine ae e5.XS ?_;refine ae (y1 (by decide) (by decide)) ?_)
 exact Xn F aN (by exact c2 ‹_› (cK _ _)) aq h
theorem XZ(F:(av w B b none).a0)(bP:iY buf 0 el Y)(h:Q .none [iZ buf 0 Y .none el]):bc (av w B b none) (d+3) (.ref 1231) [.cell 0,.bytes buf] [] [.inst 1283 []] Q:=by
 refine enter F rfl rfl rfl Vq Tq.2 rfl rfl ?_
 repeat refine⟨trivial,?_⟩
 refine(za (sl:=none) F bP ?_).call
 exact h
theorem HD{r:ab->ab}{d8:af}(a4:d8.b8 r=d8):(iZ buf p Y d8 el).b8 r=iZ buf p Y d8 el:=by
 induction el with
 |nil=>rfl
 |cons X el=>show Cell.inst 1283 [(9,.bytes buf),(11,_),(68,.bytes X),(69,d8.b8 r)]=_;refine ae a4 ?_;rfl
theorem X0(F:(av w B b none).a0)(bP:iY buf 0 el Y)(h:Q (.cell σ.length) (σ++[iZ buf 0 Y .none el])):cH (av w B b none) (d+4) (.ref 1283) [.bytes buf] [] σ Q:=by
 refine call_cls F.H (by kernel_rfl) (fI:=1231) (by kernel_rfl) (by kernel_rfl) ?_
 refine bc.frame [σ.length] (XZ (Q:=λa aC=>a=.none/\aC=[iZ buf 0 Y .none el]) F bP ⟨rfl,rfl⟩) (by simp) (λi e=>by refine ae (eV.mp e) ?_;simp) ?_ rfl ⟨rfl,rfl⟩ λa ax ⟨az,ay⟩=>?_
 ·rw[oj,eU (eL _),ib];rfl
 ·subst az ay
  refine⟨rfl,?_⟩
  show Q _ ((σ++[Cell.inst 1283 []]).set σ.length ((iZ buf 0 Y .none el).b8 _)++[])
  rw[HD rfl,ra _ _ (eL _),ib,il]
  exact h
end
end
section
variable{w:cu}{B:a8}{b:aS}{d:ab}{σ:aa Cell}{Q:af->aa Cell->Prop}
section
variable{off dW:ah}{size:ab}
theorem X1(F:(av w B b none).a0)(h:Q (.int off) σ):bc (av w B b none) (d+1) (.ref 1170) [lM off size dW] [] σ Q:=by
 refine enter F rfl rfl rfl Vk S4.2 rfl rfl ?_
 repeat refine⟨trivial,?_⟩
 exact h
theorem X2(F:(av w B b none).a0)(h:Q .none σ):bc (av w B b none) (d+1) (.ref 1178) [lM off size dW] [] σ Q:=by
 refine enter F rfl rfl rfl Vl SS.2 rfl rfl ?_
 exact h
theorem X3(F:(av w B b none).a0)(h:Q (.int size) σ):bc (av w B b none) (d+1) (.ref 1186) [lM off size dW] [] σ Q:=by
 refine enter F rfl rfl rfl Vm S5.2 rfl rfl ?_
 repeat refine⟨trivial,?_⟩
 exact h
theorem X4(F:(av w B b none).a0)(h:Q (.int dW) σ):bc (av w B b none) (d+1) (.ref 1194) [lM off size dW] [] σ Q:=by
 refine enter F rfl rfl rfl Vn TO.2 rfl rfl ?_
 repeat refine⟨trivial,?_⟩
 exact h
end
noncomputable def di(x:ah×Rec):af:=.tup [.int x.1,x.2.fJ]
noncomputable def ia(o:Told)(codec:ab)(room:ah)(whole:aS):aS->ho
 |true=>⟨codec,room,whole,o.ec,o.turn,o.place,.none,.none,0,0⟩
 |false=>hI o codec room whole
noncomputable def hq(ns:aa ah)(k:ab)(o:Told)(codec:ab)(room:ah)(whole:aS)(off:ah)(laid:aa aU)(rows:aa (ah×Rec))(e:aS):aa Cell:=
 [hand ns k,dh (.cell 2) o.ec o.turn o.place room .none off false 0,cc (ia o codec room whole e) 3,.aZ (ef 61 0++laid),.list (rows.map di),j0 o (.cell 4) []]
noncomputable def hJ(lg:aS)(codec:ab)(room off:ah)(o:Told)(whole:aS)(start:ah)(laid:aa aU)(rest:aE):aE:=
 some (.cell 0)::some (.bool lg)::some (.int codec)::some (.int room)::some (.int off)::some (.int o.ec)::some (.int o.turn)::some (.int o.place)::some (.bool whole)::some (.cell 1)::some (.int start)::some (.cell 5)::some (.bytes laid)::rest
structure Rows(o:Told)(start off:ah)(laid:aa aU)(rows:aa (ah×Rec)):Prop where
 many:o.many=rows.length
 ok:∀x∈rows,x.2.Ok start/\0<=x.1/\x.1<=1000
 last:0<=o.last/\o.last<=1000
 first:rows≠[]->start-1000000000<=o.first/\o.first<=start+100000000000
 most:rows≠[]->start-1000000000<=o.most/\o.most<=start+100000000000
 laid:laid=rows.flatMap λx=>x.2.laid x.1 o.first
noncomputable def Told.add(o:Told)(r:Rec)(off first:ah):Told:={o with last:=off,first:=first,most:=if o.many=0 then r.t else if o.most<r.t then r.t else o.most,many:=o.many+1}
section
variable{ns:aa ah}{k:ab}{o:Told}{codec:ab}{room off start first:ah}{whole lg:aS}{laid octets:aa aU}{rows:aa (ah×Rec)}{e:aS}{r:Rec}{fK hK g8 g9:bh af}{P:ct->aE->aa Cell->Prop}
theorem X5(hf:0<o.many/\room<61+laid.length+octets.length)
  (h:P .next (hJ lg codec room off o whole start laid [fK,some r.fJ,some (.int first),some (.bytes octets),some .none,hK,g8,g9]) (hq ns k o codec room whole off laid rows e)):
  C_law_batch_11_b_4.1 (av w B b none) d (hJ lg codec room off o whole start laid [fK,some r.fJ,some (.int first),some (.bytes octets),some .none,hK,g8,g9]) (hq ns k o codec room whole off laid rows e) P:=by
 unfold C_law_batch_11_b_4
 refine .mk ?_
 refine bY.t (iH hf.1) ?_
 refine eF ?_
 refine eF ?_
 refine bY.t (iH hf.2) ?_
 exact h
theorem X6{s2:ho}{bf:aa aU}(F:(av w B b none).a0)(dp:Rows o start off laid rows)(a4:r.Ok start)(aY:rows.length<=10)(aO:laid.length<=4000)(hf:¬(0<o.many/\room<61+laid.length+octets.length))(aB:first=if o.many=0 then r.t else o.first)(aN:octets=r.laid off first)
  (h:P .next (hJ lg codec room (off+1) (o.add r off first) whole start (laid++octets) [fK,some r.fJ,some (.int first),some (.bytes octets),some (lM off octets.length r.t),hK,g8,g9]) [hand ns k,dh (.cell 2) o.ec o.turn o.place room .none (off+1) false 0,cc s2 3,.aZ bf,.list ((rows++[(off,r)]).map di),j0 (o.add r off first) (.cell 4) []]):
  C_law_batch_11_b_4.1 (av w B b none) (d+2) (hJ lg codec room off o whole start laid [fK,some r.fJ,some (.int first),some (.bytes octets),some (lM off octets.length r.t),hK,g8,g9]) [hand ns k,dh (.cell 2) o.ec o.turn o.place room .none (off+1) false 0,cc s2 3,.aZ bf,.list (rows.map di),j0 o (.cell 4) []] P:=by
 unfold C_law_batch_11_b_4
 refine .mk ?_
 have af9:octets.length<=310:=by
  refine ae aN ?_
  refine ae bZ ?_
  have:=hF (r.body off first).length
  have:=vh (off:=off) (first:=first) a4
  exact ne λJ=>by lia
 refine bY.intro (λaz=>?_) λaz=>?_
 all_goals try
  have az:=fD az
  refine eF ?_
  refine eF ?_
  refine bY.f (mD λay=>hf ⟨az,ay⟩) ?_
 all_goals
  refine X1 (a0.dC F) ?_
  refine⟨trivial,?_⟩
  refine X3 (a0.dC F) ?_
  refine⟨trivial,?_⟩
  refine X4 (a0.dC F) ?_
  refine⟨trivial,?_⟩
  refine X2 (a0.dC F) ?_
  refine⟨trivial,?_⟩
  refine eF ?_
  refine⟨1,_,by decide,.inl rfl,.inl rfl,rfl,?_⟩
  refine bY.intro (λbF=>?_) λbF=>?_
 all_goals
  conv=>whnf
 all_goals try
  refine NS ?_
  conv=>whnf
 all_goals
  refine gM (i:=4) rfl (by rw[gK];(first|exact nl λJ=>by lia|exact ne λJ=>by lia)) ?_
  conv=>whnf
  refine⟨by(first|exact nl λJ=>by lia|exact ne λJ=>by lia),?_⟩
  conv=>whnf
  rw[kU]at h
  unfold Told.add at h
 ·rw[cV (by simpa using bF)]at h
  exact h
 ·rw[cC (by simpa using bF)]at h
  exact h
 ·rw[cV (by simpa using bF)]at h
  exact h
 ·rw[cC (by simpa using bF)]at h
  exact h
end
end
section
variable{w:cu}{B:a8}{b:aS}{d:ab}{σ:aa Cell}{Q:af->aa Cell->Prop}
noncomputable def ho.Set(s:ho):Prop:=(∃x,s.et=.int x/\∃y,s.mt=.int y)\/s.et=.none/\s.mt=.none
theorem pA{s:ho}{r:ab->ab}{j:ab}(h:s.Set):(cc s j).b8 r=cc s (r j):=by
 obtain⟨codec,room,whole,prod,turn,place,et,mt,last,num⟩:=s
 rcases h with⟨x,aA,y,bM⟩|⟨aA,bM⟩<;>(have aA:et=_:=aA)<;>(have bM:mt=_:=bM)<;>subst aA bM<;>rfl
theorem mu{o:Told}{codec:ab}{room:ah}{whole e:aS}:(ia o codec room whole e).Set:=by
 induction e
 ·exact .inl ⟨_,rfl,_,rfl⟩
 ·exact .inr ⟨rfl,rfl⟩
section
variable{f:aJ}{prod turn place room off written:ah}{s:ho}{bf:aa aU}{h0 L D:Cell}{a:af}
theorem zb(hs:s.Set)(bL:∀r,a.b8 r=a)(h:bc (av w B b none) d (.ref f) [.cell 0] [] [dh (.cell 1) prod turn place room .none off false written,cc s 2,.aZ bf] λkb aC=>kb=a/\aC=[dh (.cell 1) prod turn place room .none off false written,cc s 2,.aZ bf])
  (k:Q a [h0,dh (.cell 2) prod turn place room .none off false written,cc s 3,.aZ bf,L,D]):cH (av w B b none) d (.ref f) [.cell 1] [] [h0,dh (.cell 2) prod turn place room .none off false written,cc s 3,.aZ bf,L,D] Q:=by
 refine(bc.frame [1,2,3] h (by decide) (by simp) ?_ rfl ⟨rfl,rfl⟩ λkb ax ⟨az,ay⟩=>?_).call
 ·show [some _,some (cc s 3),some _]=[some _,some ((cc s 2).b8 _),some _]
  refine ae (pA hs) ?_;rfl
 ·subst az ay
  rw[bL]
  show Q _ ([h0,(dh (.cell 1) prod turn place room .none off false written).b8 _,(cc s 2).b8 _,_,L,D]++[])
  refine ae (pA hs) ?_
  exact k
end
section
variable{ns:aa ah}{k:ab}{o:Told}{codec:ab}{room off start:ah}{whole lg:aS}{laid:aa aU}{rows:aa (ah×Rec)}{e:aS}{fK hr gP g' gG hK g8 g9:bh af}{P:ct->aE->aa Cell->Prop}
theorem HE(F:(av w B b none).a0)
  (h:P .next (hJ lg codec room off o whole start laid [fK,hr,gP,g',gG,hK,g8,g9]) (hq ns k o codec room whole off laid rows e)):
  C_law_batch_11_b_5.1 (av w B b none) (d+2) (hJ lg codec room off o whole start laid [fK,hr,gP,g',gG,hK,g8,g9]) (hq ns k o codec room whole off laid rows e) P:=by
 unfold C_law_batch_11_b_5
 refine .mk ?_
 refine zb mu (λJ=>rfl) (WZ F (bld:=.cell 1) ⟨rfl,rfl⟩) ?_
 refine bY.f (by simp) ?_
 refine zb mu (λJ=>rfl) (W0 F mu ⟨rfl,rfl⟩) ?_
 refine eF ?_
 have h2:((ef 61 (0:aU)++laid).length:ah)=61+laid.length:=by(refine ae bZ ?_;refine ae tD ?_);rfl
 refine bY.f (by refine ae h2 ?_;simp) ?_
 refine zb mu (λJ=>rfl) (W2 F mu ⟨rfl,rfl⟩) ?_
 refine eF ?_
 refine ae h2 ?_
 refine bY.f (by simp) ?_
 exact h
theorem HF(F:(av w B b none).a0)(aY:ns.length<=63)(ba:k<1000000)
  (h:∀en,en=off\/en=off+2->P .next (hJ lg codec room en o whole start laid [fK,hr,gP,g',gG,hK,g8,g9]) (hq ns (k+1) o codec room whole en laid rows e)):
  C_law_batch_11_b_6.1 (av w B b none) (d+2) (hJ lg codec room off o whole start laid [fK,hr,gP,g',gG,hK,g8,g9]) (hq ns k o codec room whole off laid rows e) P:=by
 unfold C_law_batch_11_b_6
 refine .mk ?_
 refine h9 F 4 aY (by assumption) (by decide) λr a4=>?_
 refine bY.intro (λbF=>?_) λbF=>?_
 ·skip
  refine(bc.frame [1,2,3] (WY F (bld:=.cell 1) (bf:=.none) (rest:=[cc (ia o codec room whole e) 2,.aZ (ef 61 0++laid)]) (Q:=λkb aC=>kb=.none/\aC=[dh (.cell 1) o.ec o.turn o.place room .none (off+2) false 0,cc (ia o codec room whole e) 2,.aZ (ef 61 0++laid)]) ⟨rfl,rfl⟩) (by decide) (by simp) ?_ rfl ⟨rfl,rfl⟩ λkb ax ⟨az,ay⟩=>?_).call
  ·show [some _,some (cc _ 3),some _]=[some _,some ((cc _ 2).b8 _),some _]
   refine ae (pA mu) ?_;rfl
  ·subst az ay
   have hm:iO [1,2,3] [hand ns (k+1),dh (.cell 2) o.ec o.turn o.place room .none off false 0,cc (ia o codec room whole e) 3,.aZ (ef 61 0++laid),.list (rows.map di),j0 o (.cell 4) []] [dh (.cell 1) o.ec o.turn o.place room .none (off+2) false 0,cc (ia o codec room whole e) 2,.aZ (ef 61 0++laid)]=hq ns (k+1) o codec room whole (off+2) laid rows e:=by
    show [_,(dh (.cell 1) o.ec o.turn o.place room .none (off+2) false 0).b8 _,(cc _ 2).b8 _,_,_,_]++[]=_
    refine ae (pA mu) ?_;rfl
   refine ae hm ?_
   exact h (off+2) (.inr rfl)
 ·skip
  exact h off (.inl rfl)
end
end
section
variable{w:cu}{B:a8}{b:aS}{d:ab}{σ:aa Cell}{Q:af->aa Cell->Prop}
theorem HG(r:Rec)(f:ab->ab):r.fJ.b8 f=r.fJ:=by
 show af.tup [.int r.t,(cI r.key).b8 f,(cI r.val).b8 f,.lst (fQ f (r.hd.map dP))]=_
 rw[mn,mn,sS];rfl
theorem X7(F:(av w B b none).a0){ns:aa ah}{k:ab}{lg:aS}{start:ah}{rest:aa Cell}(aY:ns.length<=63)(ba:k<10000)(h:∀(r:Rec) (bX:ab),r.Ok start->bX<=k+30->Q r.fJ (hand ns bX::rest)):cH (av w B b none) (d+3) (.ref 1442) [.cell 0,.int start,.bool lg] [] (hand ns k::rest) Q:=
 (bc.frame [0] (Wm (Q:=λa aC=>eO λ(r:Rec) (bX:ab)=>hQ (r.Ok start) (bX<=k+30) (a=r.fJ) (aC=[hand ns bX])) F aY ba λo bX aB aI=>⟨o,bX,aB,aI,rfl,rfl⟩) (by trivial) (by simp) rfl rfl ⟨rfl,rfl⟩ λa ax ⟨o,bX,aB,aI,az,ay⟩=>by
  subst az ay
  show Q ((Rec.fJ o).b8 _) (_::rest++[])
  rw[il,HG];exact h o bX aB aI).call
section
variable{ns:aa ah}{k:ab}{o:Told}{codec:ab}{room off start first:ah}{whole lg:aS}{laid:aa aU}{rows:aa (ah×Rec)}{r:Rec}{fK hr gP g' gG hK g8 g9:bh af}{P:ct->aE->aa Cell->Prop}
theorem Rows.grow(dp:Rows o start off laid rows)(a4:r.Ok start)(aN:0<=off/\off<=1000)(aB:first=if o.many=0 then r.t else o.first):Rows (o.add r off first) start (off+1) (laid++r.laid off first) (rows++[(off,r)]):=by
 have bb:=a4.t
 have hm:=dp.many
 have eb:o.many=0↔rows=[]:=by
  refine ae hm ?_
  constructor
  ·intro e;exact z2 (by lia)
  ·intro e;refine ae e ?_;rfl
 refine⟨?_,?_,aN,λJ=>?_,λJ=>?_,?_⟩
 ·show o.many+1=_
  (refine ae hm ?_;refine ae bZ ?_);rfl
 ·intro x aA
  rcases gT.mp aA with aA|aA
  ·exact dp.ok x aA
  ·refine ae (eV.mp aA) ?_;exact⟨a4,aN⟩
 ·show start-1000000000<=first/\first<=start+100000000000
  refine ae aB ?_
  split
  ·exact bb
  ·rename_i h;exact dp.first λe=>h (eb.mpr e)
 ·show start-1000000000<=(if o.many=0 then r.t else if o.most<r.t then r.t else o.most)/\(if o.many=0 then r.t else if o.most<r.t then r.t else o.most)<=start+100000000000
  split
  ·exact bb
  ·rename_i h
   have:=dp.most λe=>h (eb.mpr e)
   split
   ·exact bb
   ·exact this
 ·(refine ae List.flatMap_append ?_;refine ae dp.laid ?_)
  show _=(rows.flatMap λx=>x.2.laid x.1 first)++([(off,r)].flatMap λx=>x.2.laid x.1 first)
  by_cases h:o.many=0
  ·refine ae (eb.mp h) ?_;simp
  ·rw[cC h]at aB
   refine ae aB ?_;simp
theorem X8(F:(av w B b none).a0){i:ab}{e:aS}(aY:ns.length<=63)(ba:k<10000)(h:∀(r:Rec) (bX:ab),r.Ok start->bX<=k+30->P .next (hJ lg codec room off o whole start laid [some (.int i),some r.fJ,gP,g',gG,hK,g8,g9]) (hq ns bX o codec room whole off laid rows e)):
  C_law_batch_11_b_0.1 (av w B b none) (d+3) (hJ lg codec room off o whole start laid [some (.int i),hr,gP,g',gG,hK,g8,g9]) (hq ns k o codec room whole off laid rows e) P:=by
 unfold C_law_batch_11_b_0
 refine .mk ?_
 induction lg<;>
 ·skip
  refine X7 F aY ba λr bX aB aI=>?_
  exact h r bX aB aI
theorem X9{e:aS}(h:∀first,first=(if o.many=0 then r.t else o.first)->P .next (hJ lg codec room off o whole start laid [fK,some r.fJ,some (.int first),g',gG,hK,g8,g9]) (hq ns k o codec room whole off laid rows e)):
  C_law_batch_11_b_1.1 (av w B b none) d (hJ lg codec room off o whole start laid [fK,some r.fJ,gP,g',gG,hK,g8,g9]) (hq ns k o codec room whole off laid rows e) P:=by
 unfold C_law_batch_11_b_1
 refine .mk ?_
 refine bY.intro (λe=>?_) λe=>?_
 ·skip
  exact h _ (cV (by exact fW.mp e)).symm
 ·skip
  exact h _ (cC (by simpa using e)).symm
theorem X'(F:(av w B true none).a0){e:aS}(a4:r.Ok start)(hf:start-1000000000<=first/\first<=start+100000000000)(aN:0<=off/\off<=1000)(aO:laid.length<=9000)(he:e=true↔o.many=0)(h0:first=if o.many=0 then r.t else o.first)
  (aB:e=false->room<61+laid.length+(r.laid off first).length->Q .none (hq ns k o codec room whole off laid rows e))
  (aI:(e=true\/¬room<61+laid.length+(r.laid off first).length)->Q (lM off (r.laid off first).length r.t) [hand ns k,dh (.cell 2) o.ec o.turn o.place room .none (off+1) false 0,cc (ia (o.add r off first) codec room whole false) 3,.aZ (ef 61 0++(laid++r.laid off first)),.list (rows.map di),j0 o (.cell 4) []]):
  cH (av w B true none) (d+4) (.ref 1317) [.cell 1,.int r.t,cI r.key,cI r.val,.lst (r.hd.map dP)] [] (hq ns k o codec room whole off laid rows e) Q:=by
 have h2:(ef 61 (0:aU)++laid).length=61+laid.length:=by(refine ae bZ ?_;exact ae tD rfl)
 have nI:(ia o codec room whole e).room=room:=by induction e<;>rfl
 have hs:if e=true then(ia o codec room whole e).et=.none/\(ia o codec room whole e).mt=.none/\first=r.t/\(if e=true then r.t else o.most)=r.t else(ia o codec room whole e).et=.int first/\(ia o codec room whole e).mt=.int (if e=true then r.t else o.most):=by
  induction e
  ·have:¬o.many=0:=λz=>by simpa using he.mpr z
   rw[cC this]at h0
   refine ae h0 ?_;exact⟨rfl,rfl⟩
  ·rw[cV (he.mp rfl)]at h0
   exact⟨rfl,rfl,h0,rfl⟩
 have Ya:(ia o codec room whole e).add r off first (if e=true then r.t else o.most)=ia (o.add r off first) codec room whole false:=by
  induction e
  ·have:¬o.many=0:=λz=>by simpa using he.mpr z
   show(⟨_,_,_,_,_,_,_,.int (if o.most<r.t then r.t else o.most),_,_⟩:ho)=⟨_,_,_,_,_,_,_,.int (if o.many=0 then r.t else if o.most<r.t then r.t else o.most),_,_⟩
   refine ae (cC this) ?_;rfl
  ·have:=he.mp rfl
   show(⟨_,_,_,_,_,_,_,.int (if r.t<r.t then r.t else r.t),_,0+1⟩:ho)=⟨_,_,_,_,_,_,_,.int (if o.many=0 then r.t else if o.most<r.t then r.t else o.most),_,o.many+1⟩
   (refine ae (cV this) ?_;refine ae this ?_;refine ae (cC (Int.lt_irrefl _)) ?_);rfl
 refine(bc.frame [1,2,3] (W3 (prod:=o.ec) (turn:=o.turn) (place:=o.place) (room:=room) (written:=0) (s:=ia o codec room whole e) (buf:=ef 61 0++laid) (mx:=if e=true then r.t else o.most) (Q:=λa aC=>(a=.none/\aC=[dh (.cell 1) o.ec o.turn o.place room .none off false 0,cc (ia o codec room whole e) 2,.aZ (ef 61 0++laid)]/\e=false/\room<61+laid.length+(r.laid off first).length)\/(a=lM off (r.laid off first).length r.t/\aC=[dh (.cell 1) o.ec o.turn o.place room .none (off+1) false 0,cc (ia (o.add r off first) codec room whole false) 2,.aZ (ef 61 0++laid++r.laid off first)]/\(e=true\/¬room<61+laid.length+(r.laid off first).length)))
  F a4 hf aN (by exact ne λJ=>by lia) hs (λa z=>.inl ⟨rfl,rfl,a,by rw[nI]at z;rw[h2]at z;exact fy λJ=>by lia⟩) λa=>.inr ⟨rfl,by exact ae Ya rfl,a.imp id λz=>by rw[nI,h2]at z;lia⟩) (by decide) (by simp[hq]) ?_ ?_ ⟨rfl,rfl⟩ λa ax q=>?_).call
 ·show [some _,some (cc _ 3),some _]=[some _,some ((cc _ 2).b8 _),some _]
  refine ae (pA mu) ?_;rfl
 ·show _=[af.cell 1,af.int r.t,(cI r.key).b8 _,(cI r.val).b8 _,af.lst (fQ _ (r.hd.map dP))]
  rw[mn,mn,sS]
 ·rcases q with⟨az,ay,dQ,dV⟩|⟨az,ay,dQ⟩
  ·subst az ay
   have:=aB dQ dV
   have hm:iO [1,2,3] (hq ns k o codec room whole off laid rows e) [dh (.cell 1) o.ec o.turn o.place room .none off false 0,cc (ia o codec room whole e) 2,.aZ (ef 61 0++laid)]=hq ns k o codec room whole off laid rows e:=by
    show [_,(dh (.cell 1) o.ec o.turn o.place room .none off false 0).b8 _,(cc _ 2).b8 _,_,_,_]++[]=_
    refine ae (pA mu) ?_;rfl
   refine ae hm ?_;exact this
  ·subst az ay
   have:=aI dQ
   have hm:iO [1,2,3] (hq ns k o codec room whole off laid rows e) [dh (.cell 1) o.ec o.turn o.place room .none (off+1) false 0,cc (ia (o.add r off first) codec room whole false) 2,.aZ (ef 61 0++laid++r.laid off first)]=[hand ns k,dh (.cell 2) o.ec o.turn o.place room .none (off+1) false 0,cc (ia (o.add r off first) codec room whole false) 3,.aZ (ef 61 0++(laid++r.laid off first)),.list (rows.map di),j0 o (.cell 4) []]:=by
    show [_,(dh (.cell 1) o.ec o.turn o.place room .none (off+1) false 0).b8 _,(cc _ 2).b8 _,_,_,_]++[]=_
    rw[pA mu,ee];rfl
   refine ae hm ?_;exact this
theorem Yb(F:(av w B true none).a0)(aY:ns.length<=63)(ba:k<8000)(aN:0<=off/\off<=10)(he:o.last=0/\o.first=0/\o.most=0/\o.many=0)
  (h:∀bX fe en j1 gQ fK hr gP g' gG,bX<=k+100->fe.ec=o.ec/\fe.turn=o.turn/\fe.place=o.place->Rows fe start en j1 gQ->0<=en/\en<=100->gQ≠[]->gQ.length<=3->j1.length<=930->P .next (hJ lg codec room en fe whole start j1 [fK,hr,gP,g',gG,hK,g8,g9]) (hq ns bX fe codec room whole en j1 gQ false)):
  C_law_batch_11.1 (av w B true none) (d+5) (hJ lg codec room off o whole start [] [none,none,none,none,none,hK,g8,g9]) (hq ns k o codec room whole off [] [] true) P:=by
 unfold C_law_batch_11
 refine .mk ?_
 refine h9 F 3 aY (by exact nl λJ=>by lia) (by decide) λc aP=>?_
 refine mT ?_
 refine ae (show(1:ah)+(c:ab)=((1+c:ab):ah)from by lia) ?_
 refine pf (a:=0) (hc _) (by exact ne λJ=>by lia) ?_
 refine sy (λi m aC=>I5 λbX fe en j1 gQ fK hr gP g' gG=>I7 (bX<=k+1+31*i) (fe.ec=o.ec/\fe.turn=o.turn/\fe.place=o.place) (Rows fe start en j1 gQ) (0<=en/\en<=10+3*i) (0<i->gQ≠[]) (gQ.length<=i) (j1.length<=310*gQ.length) (m=hJ lg codec room en fe whole start j1 [fK,hr,gP,g',gG,hK,g8,g9]) (aC=hq ns bX fe codec room whole en j1 gQ gQ.isEmpty)) ?_ ?_ ⟨k+1,o,off,[],[],none,none,none,none,none,by exact jH _ _,⟨rfl,rfl,rfl⟩,⟨he.2.2.2,(by intro x aA;exact absurd aA jr),by refine ae he.1 ?_;decide,λe=>absurd rfl e,λe=>absurd rfl e,rfl⟩,⟨aN.1,by exact fX λJ=>by lia⟩,λe=>absurd e (by decide),eL _,hc _,rfl,rfl⟩
 ·rintro m aC ⟨bX,fe,en,j1,gQ,fK,hr,gP,g',gG,aB,aI,cg,dX,eP,j7,kB,rfl,rfl⟩
  have mg:=eP (by exact nl λJ=>by lia)
  have:gQ.isEmpty=false:=by induction gQ with|nil=>exact absurd rfl mg|cons _ _=>rfl
  refine ae this ?_
  exact h bX fe en j1 gQ fK hr gP g' gG (by exact ne λJ=>by lia) aI cg (by lia) mg (by exact ne λJ=>by lia) (by exact ne λJ=>by lia)
 ·rintro i R-a7 dp m aC ⟨bX,fe,en,j1,gQ,fK,hr,gP,g',gG,aB,aI,cg,dX,eP,j7,kB,rfl,rfl⟩
  have jD:gQ.isEmpty=true↔fe.many=0:=by
   refine ae cg.many ?_
   induction gQ with
   |nil=>exact⟨λJ=>rfl,λJ=>rfl⟩
   |cons x l=>exact⟨λz=>(by cases z),λz=>(by simp at z;lia)⟩
  refine X8 F aY (by exact nl λJ=>by lia) λr f7 a4 sO=>?_
  refine X9 λfirst vp=>?_
  have Yc:=a4.t
  have hf:start-1000000000<=first/\first<=start+100000000000:=by
   refine ae vp ?_
   split
   ·exact Yc
   ·rename_i z;exact cg.first λe=>z (jD.mp (by refine ae e ?_;rfl))
  have zc:(r.laid en first).length<=310:=by
   show(c8 _++r.body en first).length<=_
   refine ae bZ ?_
   have:=hF (r.body en first).length
   have:=vh (off:=en) (first:=first) a4
   exact ne λJ=>by lia
  refine(Wn F a4 hf (by lia) ?_).call
  refine X' F a4 hf (by lia) (by exact ne λJ=>by lia) jD vp (λdQ dV=>?_) λq=>?_
  ·have Yd:0<fe.many:=by
    have:=cg.many
    have:¬fe.many=0:=λz=>by rw[jD.mpr z]at dQ;exact absurd dQ.symm fV
    exact fy λJ=>by lia
   refine X5 ⟨Yd,dV⟩ ?_
   refine HE F ?_
   refine HF F aY (by exact nl λJ=>by lia) λzd pa=>?_
   refine dp _ _ ⟨f7+1,fe,zd,j1,gQ,_,_,_,_,_,by exact ne λJ=>by lia,aI,⟨cg.many,cg.ok,cg.last,cg.first,cg.most,cg.laid⟩,by lia,λJ=>(by
    intro e;rw[e]at dQ;cases dQ),by exact c2 ‹_› (jH _ _),kB,rfl,rfl⟩
  ·have c3:=cg.grow (off:=en) (first:=first) a4 (by lia) vp
   have Ye:¬(0<fe.many/\room<61+j1.length+(r.laid en first).length):=λz=>by
    rcases q with q|q
    ·have:=jD.mp q;lia
    ·exact q z.2
   refine X6 (a0.dC F) cg a4 (by exact ne λJ=>by lia) (by exact ne λJ=>by lia) Ye vp rfl ?_
   refine HE (rows:=gQ++[(en,r)]) (e:=false) F ?_
   refine HF (rows:=gQ++[(en,r)]) (e:=false) F aY (by exact nl λJ=>by lia) λzd pa=>?_
   have Yf:(gQ++[(en,r)]).isEmpty=false:=by induction gQ<;>rfl
   refine dp _ _ ⟨f7+1,fe.add r en first,zd,j1++r.laid en first,gQ++[(en,r)],_,_,_,_,_,by exact ne λJ=>by lia,aI,⟨c3.many,c3.ok,c3.last,c3.first,c3.most,c3.laid⟩,by lia,λJ e=>(by simp at e),by rw[bZ];simp;assumption,by rw[bZ,bZ];simp;exact ne λJ=>by lia,rfl,by rw[Yf]⟩
end
end
noncomputable def ze(o:Told)(base c6 at_:ah)(recs:aa aU):f':=⟨base,recs.length+49,c6,2,crcOf 2197175160 (gE o at_ recs),at_,o.last,o.first,o.most,o.ec,o.turn,o.place,o.many⟩
theorem zf(o:Told)(at_:ah)(recs:aa aU):(gE o at_ recs).length=40+recs.length:=by
 unfold gE
 simp only[bZ,hn]
theorem Yg(o:Told)(base c6 at_:ah)(recs:aa aU):d0 o base c6 at_ recs=(ze o base c6 at_ recs).bytes recs:=by
 have e:((gE o at_ recs).length:ah)+9=recs.length+49:=by rw[zf];lia
 have ay:([2]:aa aU)=bj 1 2:=by decide
 unfold d0 f'.bytes ze
 rw[e,ay]
 show bj 8 base++bj 4 (recs.length+49)++bj 4 c6++bj 1 2++bj 4 _++(bj 2 at_++bj 4 o.last++bj 8 o.first++bj 8 o.most++bj 8 o.ec++bj 2 o.turn++bj 4 o.place++bj 4 o.many++recs)=_
 simp only[ee]
theorem nj(o:Told)(base c6 at_:ah)(recs:aa aU):(d0 o base c6 at_ recs).length=61+recs.length:=by
 unfold d0
 simp only[bZ,hn,zf,dc,fq];lia
theorem HH{o:Told}{base c6 at_:ah}{recs:aa aU}(aO:recs.length<=10000):Lay (d0 o base c6 at_ recs):=by
 have a5:=nj o base c6 at_ recs
 have e:((gE o at_ recs).length:ah)+9=(d0 o base c6 at_ recs).length-12:=by rw[zf,a5];lia
 have az:d0 o base c6 at_ recs=bj 8 base++(bj 4 ((d0 o base c6 at_ recs).length-12)++(bj 4 c6++([2]++(dZ 4 ((crcOf 2197175160 (gE o at_ recs):ah)%256^4)++gE o at_ recs)))):=by
  refine cv e ?_
  rfl
 refine⟨by exact ne λJ=>by lia,by exact ne λJ=>by lia,?_,?_⟩
 ·(refine ae (show(d0 o base c6 at_ recs).drop 8=_ from(congrArg (List.drop 8) az).trans (fU (gF 8 base))) ?_;exact ae (qD (gF 4 _)) rfl)
 ·have ay:d0 o base c6 at_ recs=(bj 8 base++bj 4 ((d0 o base c6 at_ recs).length-12)++bj 4 c6)++([2]++(dZ 4 ((crcOf 2197175160 (gE o at_ recs):ah)%256^4)++gE o at_ recs)):=by
   refine cv e ?_
   rfl
  refine ae (show(d0 o base c6 at_ recs).drop 16=_ from(congrArg (List.drop 16) ay).trans (fU (by simp only[bZ,gF]))) ?_
  rfl
theorem headB_21(o:Told)(base c6 at_:ah)(recs:aa aU):(d0 o base c6 at_ recs).drop 21=gE o at_ recs:=by
 exact fU (by simp only[bZ,hn,dc,fq])
theorem Yh(o:Told)(base c6 at_:ah)(recs:aa aU)(aO:recs.length<=10000):dZ 8 (base%256^8)++fu (d0 o 0 0 at_ recs) (some 8) (some 12)++dZ 4 (c6%256^4)++fu (d0 o 0 0 at_ recs) (some 16) none=d0 o base c6 at_ recs:=by
 have a5:=nj o 0 0 at_ recs
 have cM:fu (d0 o 0 0 at_ recs) (some 8) (some 12)=dZ 4 (((gE o at_ recs).length+9:ah)%256^4):=by
  refine(vc (p:=8) (q:=12) (by decide) (by exact ne λJ=>by lia)).trans ?_
  have az:d0 o 0 0 at_ recs=bj 8 0++(dZ 4 (((gE o at_ recs).length+9:ah)%256^4)++(bj 4 0++([2]++(dZ 4 ((crcOf 2197175160 (gE o at_ recs):ah)%256^4)++gE o at_ recs)))):=by
   unfold d0
   simp only[ee]
   rfl
  (refine ae (show(d0 o 0 0 at_ recs).drop 8=_ from(congrArg (List.drop 8) az).trans (fU (gF 8 0))) ?_;exact ae (qD (hn _ _)) rfl)
 have dD:fu (d0 o 0 0 at_ recs) (some 16) none=[2]++(dZ 4 ((crcOf 2197175160 (gE o at_ recs):ah)%256^4)++gE o at_ recs):=by
  refine(vi (p:=16) (by exact ne λJ=>by lia)).trans ?_
  unfold d0
  rw[show∀a b c d e f:aa aU,a++b++c++d++e++f=(a++b++c)++(d++(e++f))fromλJ J J J J J=>by simp only[ee]]
  exact fU (by simp only[bZ,hn])
 rw[cM,dD]
 unfold d0
 simp only[ee]
structure Made where
 o:Told
 base:ah
 c6:ah
 own:aS
 whole:aS
 codec:ab
 recs:aa aU
 laid:aa aU
 rows:aa (ah×Rec)
 start:ah
 off:ah
noncomputable def Made.at_(m:Made):ah:=m.codec+(if m.whole=true then 16 else 0)+(if m.own=true then 8 else 0)
noncomputable def Made.X(m:Made):aa aU:=d0 m.o m.base m.c6 m.at_ m.recs
noncomputable def Made.hd(m:Made):f':=ze m.o m.base m.c6 m.at_ m.recs
noncomputable def Made.D(m:Made)(rows:af):Cell:=j0 m.o rows [(90,.int m.base),(91,.int m.c6),(92,.bool m.own),(93,.bool m.whole),(94,.int m.codec)]
structure Made.Ok(m:Made):Prop where
 base:0<=m.base/\m.base<=10^15
 c6:0<=m.c6/\m.c6<=9
 codec:m.codec<=4
 o:m.o.Ok
 place:m.o.place=-1\/0<=m.o.place
 start:0<=m.start/\m.start<=2^41
 rows:Rows m.o m.start m.off m.laid m.rows
 ne:m.rows≠[]
 n:m.rows.length<=3
 z:m.laid.length<=930
 plain:m.codec=0->m.recs=m.laid
 ei:m.codec≠0->m.recs=m.codec.toUInt8::e7 m.laid.length m.laid/\m.recs.length<m.laid.length
theorem Made.Ok.qM{m:Made}(h:m.Ok):m.recs.length<=930:=by
 have:=h.z
 by_cases e:m.codec=0
 ·refine ae (h.plain e) ?_;exact this
 ·have:=(h.ei e).2;lia
theorem Made.Yi{m:Made}(h:m.Ok):0<=m.at_/\m.at_<32:=by
 have:=h.codec
 unfold Made.at_
 split<;>split<;>lia
theorem Made.bits{m:Made}(h:m.Ok):d' m.at_ 7=m.codec/\(d' m.at_ 8 !=0)=m.own/\(d' m.at_ 16 !=0)=m.whole/\(d' m.at_ 32 !=0)=false:=by
 have key:∀codec:ab,codec<=4->∀own whole:aS,d' ((codec:ah)+(if whole=true then 16 else 0)+(if own=true then 8 else 0)) 7=codec/\(d' ((codec:ah)+(if whole=true then 16 else 0)+(if own=true then 8 else 0)) 8 !=0)=own/\(d' ((codec:ah)+(if whole=true then 16 else 0)+(if own=true then 8 else 0)) 16 !=0)=whole/\(d' ((codec:ah)+(if whole=true then 16 else 0)+(if own=true then 8 else 0)) 32 !=0)=false:=by decide
 exact key m.codec h.codec m.own m.whole
theorem Made.Yj{m:Made}(h:m.Ok):m.hd.Ok:=by
 have k8:(2:ah)^60=1152921504606846976:=rfl
 have Yk:(2:ah)^41=2199023255552:=rfl
 have aB:=h.base
 have aI:=h.c6
 have cg:=h.qM
 have dX:=h.o.last
 have eP:=h.o.first
 have j7:=h.o.most
 have kB:=h.o.ec
 have mH:=h.o.turn
 have ot:=h.o.place
 have rj:=h.o.many
 have HI:(2:ah)^31=2147483648:=rfl
 have yY:((crcOf 2197175160 (gE m.o m.at_ m.recs):ab):ah)<2^(8*4):=by exact_mod_cast yL (by decide) _
 refine⟨?_,?_,?_,rfl,⟨hL _,yY⟩,Made.Yi h,?_,eP,j7,?_,?_,?_,?_⟩
 ·show-2^60<=m.base/\m.base<2^60;lia
 ·show-1<=(m.recs.length:ah)+49/\(m.recs.length:ah)+49<2147483648;lia
 ·show-1<=m.c6/\m.c6<2147483648;lia
 ·show 0<=m.o.last/\m.o.last<2147483648;lia
 ·show-2^60<=m.o.ec/\m.o.ec<2^60;lia
 ·show-1<=m.o.turn/\m.o.turn<=20;lia
 ·show-1<=m.o.place/\m.o.place<2147483648;lia
 ·show 0<=m.o.many/\m.o.many<2147483648;lia
section
variable{w:cu}{B:a8}{b:aS}{d:ab}{σ:aa Cell}{Q:af->aa Cell->Prop}
theorem vq(f:ab->ab):∀l:aa (ah×Rec),fQ f (l.map di)=l.map di
 |[]=>rfl
 |(n,r)::l=>by
  show af.tup [.int n,r.fJ.b8 f]::fQ f (l.map di)=_
  rw[vq f l,HG];rfl
theorem Yl(r:Rec)(n:ab)(y:af):af.sub n y r.fJ=r.fJ:=by
 show af.tup [.int r.t,af.sub n y (cI r.key),af.sub n y (cI r.val),.lst (hj n y (r.hd.map dP))]=_
 rw[sX]
 obtain⟨t,key,val,hd⟩:=r
 induction key<;>induction val<;>rfl
theorem vr(n:ab)(y:af):∀l:aa (ah×Rec),hj n y (l.map di)=l.map di
 |[]=>rfl
 |(k,r)::l=>by
  show af.tup [.int k,af.sub n y r.fJ]::hj n y (l.map di)=_
  rw[vr n y l,Yl];rfl
section
variable{ns:aa ah}{k:ab}{o:Told}{codec:ab}{room off start:ah}{whole lg:aS}{laid:aa aU}{rows:aa (ah×Rec)}{fK hr gP g' gG hK g8 g9:bh af}{P:ct->aE->aa Cell->Prop}
theorem Ym(h:P .next (hJ lg (small codec laid).1 room off o whole start laid [fK,hr,gP,g',gG,some (.bytes (small codec laid).2),g8,g9]) σ):
  C_law_batch_14.1 (av w B b none) d (hJ lg codec room off o whole start laid [fK,hr,gP,g',gG,some (.bytes (codec.toUInt8::e7 laid.length laid)),g8,g9]) σ P:=by
 unfold C_law_batch_14
 refine .mk ?_
 refine bY.intro (λe=>?_) λe=>?_
 ·have e:codec=0:=by simpa using e
  have hs:small codec laid=(0,laid):=cV (.inl e)
  rw[hs]at h
  exact h
 ·have e:¬codec=0:=by simpa using e
  refine eF ?_
  refine eF ?_
  refine bY.intro (λay=>?_) λay=>?_
  ·have ay:=fD ay
   have hs:small codec laid=(0,laid):=cV (.inr (by exact q7.mp ‹_›))
   rw[hs]at h
   exact h
  ·have ay:=hM ay
   have hs:small codec laid=(codec,codec.toUInt8::e7 laid.length laid):=cC λz=>z.elim e λz=>ay (by exact q7.mpr ‹_›)
   rw[hs]at h
   exact h
variable{p t l wr:ah}{j:ab}{mv c9 L D:Cell}{G:aa Cell}{closed:aa aU}
theorem Yn(F:(av w B b none).a0)(dN:(hand ns k::dh .none p t l room (.cell j) off true wr::mv::c9::L::D::G)[j]? =some (.aZ closed))(oH:j≠1)
  (h:P .next (hJ lg codec room off o whole start laid [fK,hr,gP,g',gG,hK,g8,some (.bytes closed)]) (hand ns k::dh .none p t l room (.cell j) off true wr::mv::c9::L::D::G)):
  C_law_batch_17.1 (av w B b none) (d+1) (hJ lg codec room off o whole start laid [fK,hr,gP,g',gG,hK,g8,some (.bytes closed)]) (hand ns k::dh .none p t l room (.cell j) off true wr::mv::c9::L::D::G) P:=by
 have pZ:=(dH.mp dN).1
 have aY:∀i∈[1,j],i<(hand ns k::dh .none p t l room (.cell j) off true wr::mv::c9::L::D::G).length:=λi a7=>by
  rcases gH.mp a7 with rfl|a7
  ·simp
  ·refine ae (eV.mp a7) ?_;exact pZ
 have aP:[1,j].map (λi=>(hand ns k::dh .none p t l room (.cell j) off true wr::mv::c9::L::D::G)[i]?)=[dh .none p t l room (.cell 1) off true wr,.aZ closed].map (λx=>some (x.b8 (eo [1,j] (hand ns k::dh .none p t l room (.cell j) off true wr::mv::c9::L::D::G).length))):=by
  simp only[gJ,z8,dN]
  rfl
 unfold C_law_batch_17
 refine .mk ?_
 refine(bc.uS [1,j] (W5 (Q:=λa aC=>a=.cell 1/\aC=[dh .none p t l room (.cell 1) off true wr,.aZ closed]) F (bf:=.cell 1) (rest:=[.aZ closed]) trivial ⟨rfl,rfl⟩) (by simpa using ht oH) aY aP rfl ⟨rfl,rfl⟩ ?_).call
 refine kj dN ?_
 refine bY.f (by simp) ?_
 refine(bc.uS [1,j] (W4 (Q:=λa aC=>a=.none/\aC=[dh .none p t l room (.cell 1) off true wr,.aZ closed]) F ⟨rfl,rfl⟩) (by simpa using ht oH) aY aP rfl ⟨rfl,rfl⟩ ?_).call
 exact h
end
end
section
variable{w:cu}{B:a8}{b:aS}{d:ab}{σ:aa Cell}{Q:af->aa Cell->Prop}
noncomputable def n5(m:Made):aa Cell:=[bR (.cell 1) m.hd 61 0 false,.aZ m.X,.list (m.rows.map di),m.D (.cell 2)]
noncomputable def Made.last(m:Made):ah:=if m.o.place<0 then-1 else(m.o.place+m.o.last)%2147483648
theorem Yo{m:Made}{P:ct->aE->aa Cell->Prop}{e8 eJ fp hH eT d2:bh af}
  (h:P .next [some (.cell 0),some (.cell 3),some (.int m.X.length),some (.int m.base),some (.int m.o.place),some (.int m.last),eJ,fp,hH,eT,d2] (n5 m)):
  C_law_read_2.1 (av w B b none) d [some (.cell 0),some (.cell 3),some (.int m.X.length),some (.int m.base),some (.int m.o.place),e8,eJ,fp,hH,eT,d2] (n5 m) P:=by
 unfold C_law_read_2
 refine .mk ?_
 unfold Made.last at h
 refine bY.intro (λe=>?_) λe=>?_
 ·rw[cV (fD e)]at h
  exact h
 ·rw[cC (hM e)]at h
  refine⟨by decide,by decide,?_⟩
  refine ae (mE _ (by decide)) ?_
  exact h
theorem Yp(F:(av w B true none).a0){m:Made}{P:ct->aE->aa Cell->Prop}(hm:m.Ok)
  (h:∀last ep eu ed nk,P .next [some (.cell 0),some (.cell 3),some (.int m.X.length),some (.int m.base),some (.int m.o.place),some (.int last),some ep,some eu,none,none,none] (n5 m++[ed,nk])):
  Fu.1 (av w B true none) (d+7) [some (.cell 0),some (.cell 3),some (.int m.X.length),none,none,none,none,none,none,none,none] (n5 m) P:=by
 refine dI λdv b4=>?_
 obtain⟨hY,iN,o9,s6⟩:=Made.bits hm
 refine b4 ?_
 have hY:d' m.hd.at_ 7=m.codec:=hY
 have iN:(d' m.hd.at_ 8 !=0)=m.own:=iN
 have o9:(d' m.hd.at_ 16 !=0)=m.whole:=o9
 have s6:(d' m.hd.at_ 32 !=0)=false:=s6
 have g7:m.X.length=61+m.recs.length:=nj _ _ _ _ _
 have Yq:m.hd.len+12=m.X.length:=by
  refine ae g7 ?_
  show(m.recs.length:ah)+49+12=_
  lia
 have hT:decide (-1<m.hd.prod)=decide (0<=m.o.ec):=by
  show decide (-1<m.o.ec)=_
  exact decide_eq_decide.mpr (by lia)
 have h1:=hm.place
 have qE:=hm.o.place
 have ag0:=hm.o.last
 have HI:(2:ah)^31=2147483648:=rfl
 have es:(m.hd.place !=-1)=decide (0<=m.o.place):=by
  show(m.o.place !=-1)=_
  rcases h1 with z|z
  ·refine ae z ?_;rfl
  ·rw[iH z,bne_iff_ne];lia
 have eq:(if m.hd.place=-1 then-1 else if 2147483647-m.hd.last<m.hd.place then m.hd.last-(2147483647-m.hd.place)-1 else m.hd.place+m.hd.last)=m.last:=by
  show(if m.o.place=-1 then-1 else if 2147483647-m.o.last<m.o.place then m.o.last-(2147483647-m.o.place)-1 else m.o.place+m.o.last)=m.last
  unfold Made.last
  rcases h1 with z|z
  ·(refine ae (cV z) ?_;exact ae (cV (by exact fy λJ=>by lia)) rfl)
  ·(refine ae (cC (show¬m.o.place=-1 by lia)) ?_;refine ae (cC (show¬m.o.place<0 by exact qP.mpr ‹_›)) ?_)
   split<;>lia
 refine Yo ?_
 refine y3 (a0.dC F) ?_
 refine⟨trivial,?_⟩
 refine W' (a0.dC F) ?_
 refine⟨trivial,?_⟩
 refine Xa (a0.dC F) ?_
 refine⟨trivial,?_⟩
 refine Xb (a0.dC F) ?_
 refine⟨trivial,?_⟩
 refine Ho (a0.dC F) ?_
 refine⟨trivial,?_⟩
 refine Xf (a0.dC F) ?_
 refine⟨trivial,?_⟩
 refine Hp (a0.dC F) ?_
 refine⟨trivial,?_⟩
 refine y5 (a0.dC F) ?_
 refine⟨trivial,?_⟩
 refine Xg (a0.dC F) ?_
 refine⟨trivial,?_⟩
 refine Hq (a0.dC F) ?_
 refine⟨trivial,?_⟩
 refine Hl (a0.dC F) ?_
 refine⟨trivial,?_⟩
 refine Hm (a0.dC F) ?_
 refine⟨trivial,?_⟩
 refine⟨k' rfl,?_⟩
 refine Hn (a0.dC F) ?_
 refine⟨trivial,?_⟩
 refine(Xh F ?_).call
 refine Xd (a0.dC F) ?_
 refine⟨trivial,?_⟩
 refine y4 (a0.dC F) ?_
 refine⟨trivial,?_⟩
 refine Xi (a0.dC F) ?_
 refine⟨trivial,?_⟩
 refine Xk (a0.dC F) ?_
 refine⟨trivial,?_⟩
 refine⟨k' rfl,?_⟩
 refine uv ?_
 refine⟨k' rfl,?_⟩
 (refine ae hY ?_;refine ae iN ?_;refine ae o9 ?_;refine ae s6 ?_;refine ae Yq ?_;refine ae hT ?_;refine ae es ?_;refine ae eq ?_)
 refine⟨1,_,by decide,.inl rfl,.inl rfl,rfl,?_⟩
 refine Xe (a0.dC F) ?_
 refine⟨trivial,?_⟩
 refine bY.f (by show(m.o.many !=m.o.many)=false;simp) ?_
 refine(bc.uS [0,1] (Xo (Q:=λa aC=>a=.bool (m.hd.mr==(crcOf 2197175160 (m.X.drop 21):ab))/\aC=[bR (.cell 1) m.hd 61 0 false,.aZ m.X]) F (by exact ne λJ=>by lia) ⟨rfl,rfl⟩) (by decide) (by simp) rfl rfl ⟨rfl,rfl⟩ ?_).call
 have Yr:(m.hd.mr==(crcOf 2197175160 (m.X.drop 21):ab))=true:=by
  refine ae (show m.X.drop 21=gE m.o m.at_ m.recs from headB_21 _ _ _ _ _) ?_
  exact qU _
 refine ae Yr ?_
 exact h _ _ _ _ _
end
section
variable{w:cu}{B:a8}{b:aS}{d:ab}{σ:aa Cell}{Q:af->aa Cell->Prop}
section
variable{ns:aa ah}{k:ab}{jo a1 a2 gp eh:bh af}{prod:ah}{eJ fp hH:bh af}{l:aE}{P:ct->aE->aa Cell->Prop}
theorem Ys(h:P .next (jo::a1::a2::gp::eh::some (.int prod)::some (.int (if prod<0 then-1 else 7))::l) σ):
  C_law_batch_4.1 (av w B b none) d (jo::a1::a2::gp::eh::some (.int prod)::eJ::l) σ P:=by
 unfold C_law_batch_4
 refine .mk ?_
 refine bY.intro (λe=>?_) λe=>?_
 ·rw[cV (fD e)]at h
  exact h
 ·rw[cC (hM e)]at h
  exact h
theorem Yt(F:(av w B b none).a0)(aY:ns.length<=63)(ba:k<1000000)(h:∀place bX,bX<=k+1->(prod<0->place=-1)->(¬prod<0->0<=place/\place<2^31)->P .next (some (.cell 0)::a1::a2::gp::eh::some (.int prod)::eJ::some (.int place)::l) [hand ns bX]):
  C_law_batch_5.1 (av w B b none) (d+1) (some (.cell 0)::a1::a2::gp::eh::some (.int prod)::eJ::fp::l) [hand ns k] P:=by
 unfold C_law_batch_5
 refine .mk ?_
 refine bY.intro (λe=>?_) λe=>?_
 ·have e:=fD e
  exact h (-1) k (by exact jH _ _) (λJ=>rfl) λz=>absurd e z
 ·have e:=hM e
  refine⟨⟨by decide,by decide,by decide⟩,?_⟩
  refine h9 F 2 aY (by assumption) (by decide) λr a4=>?_
  refine pv (p:=λj=>decide (0<=j/\j<2^31)) a4 rfl λj dN=>?_
  have⟨G9,Yu⟩:=fD dN
  exact h j (k+1) (by exact ne λJ=>by lia) (λz=>absurd z e) λJ=>⟨G9,Yu⟩
theorem Yv(F:(av w B b none).a0)(aY:ns.length<=63)(ba:k<1000000)(h:∀whole bX,bX<=k+1->(whole=true->¬prod<0)->P .next (some (.cell 0)::a1::a2::gp::eh::some (.int prod)::eJ::fp::some (.bool whole)::l) [hand ns bX]):
  C_law_batch_6.1 (av w B b none) (d+1) (some (.cell 0)::a1::a2::gp::eh::some (.int prod)::eJ::fp::hH::l) [hand ns k] P:=by
 unfold C_law_batch_6
 refine .mk ?_
 refine bY.intro (λe=>?_) λe=>?_
 ·have e:=fD e
  refine h9 F 2 aY (by assumption) (by decide) λr a4=>?_
  exact h _ (k+1) (by exact ne λJ=>by lia) λJ=>by exact qP.mpr ‹_›
 ·skip
  exact h (decide (0<=prod)) k (by exact jH _ _) λz=>by rw[e]at z;exact absurd z fV
end
theorem HJ(F:(av w B b none).a0){o:Told}{base c6 at_:ah}{recs:aa aU}{rows:aa (ah×Rec)}{more:aa (ab×af)}{h0 cM dD c9:Cell}{G:aa Cell}(aO:recs.length<=10000)(Yw:∀f,ka f more=more)(h:Q (.bytes (d0 o base c6 at_ recs)) (h0::cM::dD::c9::.list (rows.map di)::j0 o (.cell 4) more::G)):
  cH (av w B b none) (d+2) (.ref 1456) [.cell 5,.int base,.int c6,.int at_,.bytes recs] [] (h0::cM::dD::c9::.list (rows.map di)::j0 o (.cell 4) more::G) Q:=by
 refine(bc.uS [4,5] (Wo (Q:=λa aC=>a=.bytes (d0 o base c6 at_ recs)/\aC=[.list (rows.map di),j0 o (.cell 0) more]) F aO ⟨rfl,rfl⟩) (by decide) (by simp) ?_ rfl ⟨rfl,rfl⟩ h).call
 show [some (Cell.list _),some _]=[some (Cell.list (fQ _ (rows.map di))),some (Cell.dict (_::_::_::_::_::_::_::_::ka _ more))]
 rw[vq,Yw];rfl
section
variable{codec:ab}{room off start at_ base c6:ah}{o:Told}{whole own lg:aS}{laid recs ag1:aa aU}{rows:aa (ah×Rec)}{fK hr gP g' gG hK g8 g9:bh af}{P:ct->aE->aa Cell->Prop}{c0 cM dD c9:Cell}{G:aa Cell}
theorem Yx(F:(av w B b none).a0)(aO:recs.length<=10000)
  (h:P .next (hJ lg codec room off o whole start laid [fK,hr,gP,some (.bytes (d0 o base c6 (at_+if own=true then 8 else 0) recs)),gG,some (.bytes recs),some (.int at_),g9]) (c0::cM::dD::c9::.list (rows.map di)::j0 o (.cell 4) [(90,.int base),(91,.int c6),(92,.bool own),(93,.bool whole),(94,.int codec)]::G)):
  C_law_batch_24.1 (av w B b none) (d+2) (hJ lg codec room off o whole start laid [fK,hr,gP,some (.bytes (d0 o base c6 at_ recs)),gG,some (.bytes recs),some (.int at_),g9]) (c0::cM::dD::c9::.list (rows.map di)::j0 o (.cell 4) [(90,.int base),(91,.int c6),(92,.bool own),(93,.bool whole),(94,.int codec)]::G) P:=by
 unfold C_law_batch_24
 refine .mk ?_
 induction own
 ·skip
  rw[show(at_+if false=true then 8 else 0)=at_ from zN at_]at h
  exact h
 ·skip
  refine HJ F aO (λJ=>rfl) ?_
  exact h
end
theorem Yy(F:(av w B true none).a0){ns:aa ah}{k:ab}{lg:aS}(aY:ns.length<=63)(ba:k<5000)(h:∀(m:Made) (bX:ab) (cM dD c9:Cell),m.Ok->bX<=k+120->Q (.tup [.bytes m.X,.cell 5]) [hand ns bX,cM,dD,c9,.list (m.rows.map di),m.D (.cell 4)]):bc (av w B true none) (d+8) (.ref 1463) [.cell 0,.bool lg] [] [hand ns k] Q:=by
 refine bc.trim (enter F rfl rfl rfl VL SE.2 rfl rfl ?_)
 refine h9 F 6 aY (by exact nl λJ=>by lia) (by decide) λr a4=>?_
 refine pv (p:=λj=>decide (0<=j/\j<=4)) a4 rfl λj dN=>?_
 have⟨h0,aB⟩:=fD dN
 obtain⟨codec,rfl⟩:=IF h0
 have aP:=q7.mp aB
 refine h9 F 4 aY (k:=k+1) (by exact nl λJ=>by lia) (by decide) λr a4=>?_
 refine pv (p:=λj=>decide (ky)) a4 rfl λroom dN=>?_
 refine h9 F 3 aY (k:=k+2) (by exact nl λJ=>by lia) (by decide) λoff y9=>?_
 refine⟨⟨by decide,by decide,by decide⟩,?_⟩
 refine h9 F 4 aY (k:=k+3) (by exact nl λJ=>by lia) (by decide) λr a4=>?_
 refine pv (p:=λj=>decide (-1<=j/\j<=1099511627776)) a4 rfl λprod dN=>?_
 have ag2:=fD dN
 refine Ys ?_
 refine Yt F aY (by exact nl λJ=>by lia) λplace sr ag3 HK zg=>?_
 refine Yv F aY (by exact nl λJ=>by lia) λwhole HL ag4 hw=>?_
 refine WX F aP (λz e=>by have:=hw z;lia) ?_ ?_
 ·by_cases z:prod<0
  ·exact .inl (by lia)
  ·refine ae (cC z) ?_
   exact .inr ⟨by decide,by have:=zg z;lia⟩
 refine⟨⟨by decide,by decide,by decide⟩,?_⟩
 refine⟨⟨by decide,by decide,by decide⟩,?_⟩
 refine h9 F 4 aY (by exact nl λJ=>by lia) (by decide) λr a4=>?_
 refine pv (p:=λj=>decide (0<=j/\j<=2^41)) a4 rfl λstart dN=>?_
 have⟨Yz,YA⟩:=fD dN
 refine Yb F (start:=start) (o:=⟨0,0,0,prod,if prod<0 then-1 else 7,place,0⟩) aY (by exact nl λJ=>by lia) (by lia) ⟨rfl,rfl,rfl,rfl⟩ λbX o en laid rows fK hr gP g' gG jc HM dp ag5 mg YB zc=>?_
 have k8:(2:ah)^60=1152921504606846976:=rfl
 have Yk:(2:ah)^41=2199023255552:=rfl
 have HN:o.Ok:=by
  have aB:=dp.last
  have aI:=dp.first mg
  have cg:=dp.most mg
  have dX:=dp.many
  obtain⟨az,ay,bF⟩:=HM
  have az:o.ec=prod:=az
  have ay:o.turn=if prod<0 then-1 else 7:=ay
  have bF:o.place=place:=bF
  have HI:(2:ah)^31=2147483648:=rfl
  refine⟨aB,⟨by exact fX λJ=>by lia,by exact fy λJ=>by lia⟩,⟨by exact fX λJ=>by lia,by exact fy λJ=>by lia⟩,by refine ae az ?_;lia,?_,?_,⟨by exact fX λJ=>by lia,by exact fX λJ=>by lia⟩⟩
  ·refine ae ay ?_;split<;>decide
  ·refine ae bF ?_
   by_cases z:prod<0
   ·refine ae (HK z) ?_;decide
   ·have:=zg z;lia
 have YC:∀ax,(mG λp t l wr=>ax=[dh .none p t l room (.cell 2) en true wr,cc (hI o codec room whole) 2,.aZ (d0 o 0 0 ((small codec laid).1+(if whole=true then 16 else 0)) (small codec laid).2)])\/(vW λp t l wr g1 g2 g3=>ax=[dh .none p t l room (.cell 5) en true wr,cc (hI o codec room whole) 5,g1,g2,g3,.aZ (d0 o 0 0 ((small codec laid).1+(if whole=true then 16 else 0)) (small codec laid).2)])->
   I4 λp t l wr j mv c9 G=>hQ (j≠1) (iO [1,2,3] (hq ns bX o codec room whole en laid rows false) ax=(hand ns bX::dh .none p t l room (.cell j) en true wr::mv::c9::.list (rows.map di)::j0 o (.cell 4) []::G)) (∀h0 D,(h0::dh .none p t l room (.cell j) en true wr::mv::c9::.list (rows.map di)::D::G)[j]? =some (.aZ (d0 o 0 0 ((small codec laid).1+(if whole=true then 16 else 0)) (small codec laid).2))) (G=[]\/hO λg1 g2 g3=>G=[g1,g2,g3]):=by
  rintro ax (⟨p,t,l,wr,rfl⟩|⟨p,t,l,wr,g1,g2,g3,rfl⟩)
  ·exact⟨p,t,l,wr,3,_,_,[],by decide,rfl,λJ J=>rfl,.inl rfl⟩
  ·exact⟨p,t,l,wr,8,_,_,[_,_,_],by decide,rfl,λJ J=>rfl,.inr ⟨_,_,_,rfl⟩⟩
 refine(bc.frame [1,2,3] (W6 (prod:=o.ec) (turn:=o.turn) (place:=o.place) (room:=room) (off:=en) (written:=0) (h0:=ef 61 0) (recs:=laid) (Q:=λa ax=>a=.none/\((mG λp t l wr=>ax=[dh .none p t l room (.cell 2) en true wr,cc (hI o codec room whole) 2,.aZ (d0 o 0 0 ((small codec laid).1+(if whole=true then 16 else 0)) (small codec laid).2)])\/(vW λp t l wr g1 g2 g3=>ax=[dh .none p t l room (.cell 5) en true wr,cc (hI o codec room whole) 5,g1,g2,g3,.aZ (d0 o 0 0 ((small codec laid).1+(if whole=true then 16 else 0)) (small codec laid).2)])))
  F HN aP (by exact ae tD rfl) (by exact c2 ‹_› (cK _ _)) (λp t l wr=>⟨rfl,.inl ⟨p,t,l,wr,rfl⟩⟩) λp t l wr g1 g2 g3=>⟨rfl,.inr ⟨p,t,l,wr,g1,g2,g3,rfl⟩⟩) (by decide) (by simp[hq]) rfl rfl ⟨rfl,rfl⟩ λa ax ⟨az,q⟩=>?_).call
 obtain⟨p,t,l,wr,j,mv,c9,G,oH,hm,YD,YE⟩:=YC ax q
 refine ae hm ?_
 have YF:(((codec.toUInt8).toNat:ab):ah)=codec:=by
  have:codec.toUInt8.toNat=codec:=by rw[mB,mC,lY (by exact nl λJ=>by lia)]
  exact ae this rfl
 refine Eq.mp (congrArg (λx=>cH _ _ _ [.int x,_] _ _ _) YF) (sM F codec.toUInt8 (by exact c2 ‹_› (cK _ _)) ?_).call
 refine Ym ?_
 have kF:(small codec laid).1<=4:=by unfold small;split<;>simp<;>assumption
 have eX:(small codec laid).2.length<=930:=by
  unfold small
  split
  ·exact zc
  ·rename_i z
   rw[n']at z
   show(codec.toUInt8::e7 laid.length laid).length<=930
   exact ne λJ=>by lia
 refine uv ?_
 have oB:((small codec laid).1:ah)+16*(if whole=true then 1 else 0)=(small codec laid).1+(if whole=true then 16 else 0):=by induction whole<;>rfl
 refine⟨.of_left (by decide+kernel),?_⟩
 conv=>whnf
 refine ae oB ?_
 refine HJ F (by exact c2 ‹_› (cK _ _)) (λJ=>rfl) ?_
 refine Yn F (YD _ _) oH ?_
 refine⟨⟨by decide,by decide,by decide⟩,?_⟩
 refine h9 F 3 aY (by exact nl λJ=>by lia) (by decide) λr a4=>?_
 refine pv (p:=λj=>decide (0<=j/\j<=10^15)) a4 rfl λbase dN=>?_
 have⟨YG,YH⟩:=fD dN
 refine h9 F 9 aY (by exact nl λJ=>by lia) (by decide) λc6 ag6=>?_
 refine h9 F 4 aY (by exact nl λJ=>by lia) (by decide) λYI how=>?_
 have Hf:(d0 o 0 0 ((small codec laid).1+(if whole=true then 16 else 0)) (small codec laid).2).length<=1000:=by rw[nj];exact ne λJ=>by lia
 have ag7:=t' (d0 o 0 0 ((small codec laid).1+(if whole=true then 16 else 0)) (small codec laid).2) (some 8) (some 12)
 have ag8:=t' (d0 o 0 0 ((small codec laid).1+(if whole=true then 16 else 0)) (small codec laid).2) (some 16) none
 refine(kp F (by decide) ?_).call
 refine⟨by simp only[bZ,hn];exact ne λJ=>by lia,?_⟩
 refine(kp F (by decide) ?_).call
 refine⟨by simp only[bZ,hn];exact ne λJ=>by lia,?_⟩
 refine⟨by simp only[bZ,hn];exact ne λJ=>by lia,?_⟩
 refine ae (Yh _ _ _ _ _ (by exact ne λJ=>by lia)) ?_
 refine Yx F (by exact ne λJ=>by lia) ?_
 have YJ:Made.Ok ⟨o,base,c6,(YI:ah)==1,whole,(small codec laid).1,(small codec laid).2,laid,rows,start,en⟩:=by
  refine⟨⟨YG,YH⟩,⟨by show(0:ah)<=c6;exact hL _,by show(c6:ah)<=9;exact fX λJ=>by lia⟩,kF,HN,?_,⟨Yz,YA⟩,dp,mg,YB,zc,λz=>?_,λz=>?_⟩
  ·show o.place=-1\/0<=o.place
   refine ae (show o.place=place from HM.2.2) ?_
   by_cases z:prod<0
   ·exact .inl (HK z)
   ·exact .inr (zg z).1
  ·show(small codec laid).2=laid
   have z:(small codec laid).1=0:=z
   unfold small at z⊢
   split
   ·rfl
   ·rename_i y
    rw[cC y]at z
    exact absurd (.inl z) y
  ·have z:¬(small codec laid).1=0:=z
   show(small codec laid).2=(small codec laid).1.toUInt8::e7 laid.length laid/\(small codec laid).2.length<laid.length
   unfold small at z⊢
   split
   ·rename_i y;rw[cV y]at z;exact absurd rfl z
   ·rename_i y
    exact⟨rfl,by rw[n']at y;show(codec.toUInt8::e7 laid.length laid).length<_;exact nl λJ=>by lia⟩
 have jU:=λf7 cM dD c9 sO=>h _ f7 cM dD c9 YJ sO
 rcases YE with rfl|⟨g1,g2,g3,rfl⟩
 ·exact .done (jU _ _ _ _ (by exact ne λJ=>by lia))
 ·refine .drop [_,_,_,_,_,_,_,_] _ rfl rfl ?_
  show l5 1 Q _ [hand ns _,_,_,_,.list (hj 8 _ (rows.map di)),_,_,_]
  rw[vr]
  refine .drop [_,_,_,_,_,_,_] _ rfl rfl ?_
  show l5 1 Q _ [hand ns _,_,_,_,.list (hj 7 _ (rows.map di)),_,_]
  rw[vr]
  refine .drop [_,_,_,_,_,_] _ rfl rfl (.done ?_)
  show Q _ [hand ns _,_,_,_,.list (hj 6 _ (rows.map di)),_]
  rw[vr]
  exact jU _ _ _ _ (by exact ne λJ=>by lia)
end
section
variable{w:cu}{B:a8}{b:aS}{d:ab}{σ:aa Cell}{Q:af->aa Cell->Prop}
noncomputable def Made.kQ(m:Made)(x:ah×Rec):af:=.tup [.int (m.base+x.1),.int (if m.own=true then m.o.most else x.2.t),.int (if m.own=true then 1 else 0),cI x.2.key,cI x.2.val,.lst (x.2.hd.map dP)]
theorem zh(n:ab)(o:dB):jW (n+1) (cI o)=true:=by induction o<;>rfl
theorem HO{α:Type}{n:ab}{f:α->af}(h:∀x,jW n (f x)=true)(l:aa α):(l.map f).all (jW n)=true:=by
 rw[List.all_map,mz]
 exactλx J=>h x
theorem YK(y:ab×dB):jW 2 (dP y)=true:=by
 show(true&&(jW 1 (cI y.2)&&true))=true
 rw[zh];rfl
theorem YL(m:Made)(x:ah×Rec):jW 4 (m.kQ x)=true:=by
 show(true&&(true&&(true&&(jW 3 (cI x.2.key)&&(jW 3 (cI x.2.val)&&((x.2.hd.map dP).all (jW 2)&&true))))))=true
 rw[zh,zh,HO YK];rfl
theorem HP:∀{σ:aa Cell} {y:Cell} {K:ab->aa Cell->Prop},K σ.length (σ++[y])->oS σ y K
 |[],_,_,h=>h
 |_::σ,_,_,h=>HP (σ:=σ) h
theorem HQ:∀{σ:aa Cell} {y:Cell} {K:Cell->Prop},K y->hk (σ++[y]) σ.length K
 |[],_,_,h=>h
 |_::σ,_,_,h=>HQ (σ:=σ) h
theorem zi(σ:aa Cell)(y:Cell):(σ++[y])[σ.length]? =some y:=by rw[eU (eL _),ib];rfl
theorem HR(σ:aa Cell)(y z:Cell):(σ++[y]).set σ.length z=σ++[z]:=by rw[ra _ _ (eL _),ib];rfl
theorem YM(F:(av w B b none).a0){m:Made}{c0 cM:Cell}{tl:aa Cell}{na:ab}{size place last:ah}{ep eu:af}(hm:m.Ok)(pB:(c0::cM::.list (m.rows.map di)::m.D (.cell 2)::tl)[na]? =some (.list (m.rows.map m.kQ)))
  (h:∀y,Q (.bool true) (c0::cM::.list (m.rows.map di)::m.D (.cell 2)::tl++[y])):
  yG.1 (av w B b none) d [some (.cell 0),some (.cell 3),some (.int size),some (.int m.base),some (.int place),some (.int last),some ep,some eu,some (.cell na),none,none] (c0::cM::.list (m.rows.map di)::m.D (.cell 2)::tl) (m9 Q):=by
 have aY:=hm.n
 refine HP ?_
 refine pe (λl cE aC=>hO λ(eK:aa (ah×Rec)) (zj zk:bh af)=>dx (m.rows=eK++l) (cE=[some (.cell 0),some (.cell 3),some (.int size),some (.int m.base),some (.int place),some (.int last),some ep,some (.cell (tl.length+1+1+1+1)),some (.cell na),zj,zk]) (aC=c0::cM::.list (m.rows.map di)::m.D (.cell 2)::(tl++[.list (eK.map m.kQ)]))) ?_ ?_ ⟨[],none,none,rfl,rfl,rfl⟩
 ·rintro cE aC ⟨eK,zj,zk,hd,rfl,rfl⟩
  rw[il]at hd
  subst hd
  refine⟨4,_,by decide,.inr ⟨na,rfl,?_⟩,.inr ⟨_,rfl,?_⟩,HO (YL m) m.rows,?_⟩
  ·refine Eq.trans (eG (l₁:=c0::cM::.list (m.rows.map di)::m.D (.cell 2)::tl) (l₂:=[_]) ?_) pB
   exact(dH.mp pB).1
  ·exact zi (c0::cM::.list (m.rows.map di)::m.D (.cell 2)::tl) _
  ·skip
   exact h _
 ·rintro x l R dp cE aC ⟨eK,zj,zk,hd,rfl,rfl⟩
  refine HQ ?_
  refine bY.intro (λe=>?_) λe=>?_
  all_goals
   refine uv ?_
   refine gM (as:=eK.map m.kQ) (zi (c0::cM::.list (m.rows.map di)::m.D (.cell 2)::tl) _) (by have:=congrArg ig hd;rw[bZ,dc]at this;rw[gK];exact ne λJ=>by lia) ?_
   refine⟨rfl,dp _ _ ⟨eK++[x],_,_,(by rw[hd,ee];rfl),rfl,?_⟩⟩
   refine(HR (c0::cM::.list (m.rows.map di)::m.D (.cell 2)::tl) _ _).trans ?_
   (refine ae kU ?_;refine ae oj ?_;refine ae oh ?_;refine ae oh ?_;refine ae oh ?_;refine ae oh ?_)
   have aA:=congrArg (λz:ah=>af.tup [.int (m.base+x.1),.int z,.int (if m.own=true then 1 else 0),cI x.2.key,cI x.2.val,.lst (x.2.hd.map dP)]) (show(if m.own=true then m.o.most else x.2.t)=_ from by first|exact cV e|exact cC (by refine ae e ?_;decide))
   have aA:m.kQ x=_:=aA
   exact ae aA rfl
end
section
variable{w:cu}{B:a8}{b:aS}{d:ab}{σ:aa Cell}{Q:af->aa Cell->Prop}
theorem YN{len off dW tt:ah}{k v:dB}{l:aa (ab×dB)}(f:ab->ab):(ku len off dW tt k v l).b8 f=ku len off dW tt k v l:=by
 show af.obj 958 [(46,.int len),(47,.int off),(48,.int dW),(49,.int tt),(50,(cI k).b8 f),(51,(cI v).b8 f),(52,.lst (fQ f (l.map dP)))]=_
 rw[mn,mn,sS];rfl
noncomputable def Made.zl(m:Made)(rs:aa (ah×Rec)):aa aU:=rs.flatMap λx=>x.2.laid x.1 m.o.first
theorem YO(F:(av w B b none).a0){m:Made}{x:ah×Rec}{len:ah}(h:Q (m.kQ x) σ):u7.1 (av w B b none) (d+2) [some (ku len (m.base+x.1) (if m.own=true then m.o.most else x.2.t) (if m.own=true then 1 else 0) x.2.key x.2.val x.2.hd)] σ Q:=by
 refine XK (a0.dC F) ?_
 refine⟨trivial,?_⟩
 refine XM (a0.dC F) ?_
 refine⟨trivial,?_⟩
 refine XN (a0.dC F) ?_
 refine⟨trivial,?_⟩
 refine XO (a0.dC F) ?_
 refine⟨sZ _,?_⟩
 refine XQ (a0.dC F) ?_
 refine⟨sZ _,?_⟩
 refine XR (a0.dC F) ?_
 refine⟨trivial,?_⟩
 exact h
theorem YP(F:(av w B true none).a0){m:Made}{buf:aa aU}{k na:ab}{tl:aa af->aa Cell}{sA:aa Cell->Prop}(hm:m.Ok)(aO:buf.length<=1000000)(HS:0<k)(ba:∀c acc,(c::tl acc)[k]? =some (.aZ buf))(pB:∀c acc,(c::tl acc)[na]? =some (.list acc))(YQ:∀c acc zm,(c::tl acc).set na (.list zm)=c::tl zm)
  (jU:sA (bR (.cell k) m.hd buf.length m.hd.many true::tl (m.rows.map m.kQ))):∀(rs eK:aa (ah×Rec)) (p:ab) (o:bh af),m.rows=eK++rs->p<=buf.length->buf.drop p=m.zl rs->
   qw (av w B true none) (d+7) (λm σ Q=>u7.1 (av w B true none) (d+7) m σ Q) 868 858 0 na 0 rs.length (eK.map m.kQ) [o] (bR (.cell k) m.hd p eK.length true::tl (eK.map m.kQ)) sA:=by
 intro rs
 have aY:=hm.n
 have HT:m.hd.many=m.rows.length:=hm.rows.many
 obtain⟨-,iN,-,s6⟩:=Made.bits hm
 induction rs with
 |nil=>
  intro eK p o hd aW aq
  rw[il]at hd
  have YR:p=buf.length:=by
   have:=congrArg ig aq
   rw[ih]at this
   have:buf.length-p=0:=this
   lia
  subst YR
  refine⟨⟨_,rfl⟩,?_⟩
  (refine cv hd ?_;refine cv HT ?_)
  exact XJ F (ba _ _) jU
 |cons x rs cF=>
  intro eK p o hd aW aq
  have zo:buf.drop p=x.2.laid x.1 m.o.first++m.zl rs:=aq
  have h1:=congrArg ig zo
  rw[ih,bZ]at h1
  have YS:x∈m.rows:=by refine ae hd ?_;simp
  have aA:=hm.rows.ok x YS
  have rN:=congrArg ig hd
  rw[bZ,dc]at rN
  have YT:(eK.length:ah)<m.hd.many:=by refine ae HT ?_;exact fy λJ=>by lia
  refine⟨⟨_,rfl⟩,?_⟩
  refine(bc.frame [0,k] (XG (Q:=λa aC=>a=ku (x.2.len x.1 m.hd.first) (m.hd.base+x.1) (if m.own=true then m.hd.most else x.2.t) (if m.own=true then 1 else 0) x.2.key x.2.val x.2.hd/\aC=[bR (.cell 1) m.hd (p+(x.2.laid x.1 m.hd.first).length:ab) (eK.length+1) true,.aZ buf]) F (own:=m.own) (p:=p) (start:=m.start) YT iN s6 aA.1 (hm.rows.first hm.ne) aA.2 aO zo ⟨rfl,rfl⟩) (by simp;exact Ic ‹_›) (λi a7=>?_) ?_ rfl ⟨rfl,rfl⟩ λa ax ⟨az,ay⟩=>?_).call
  ·rcases gH.mp a7 with rfl|a7
   ·simp
   ·refine ae (eV.mp a7) ?_;exact(dH.mp (ba _ _)).1
  ·simp only[gJ,z8,ba]
   rfl
  ·subst az ay
   rw[YN]
   have YU:iO [0,k] (bR (.cell k) m.hd p eK.length true::tl (eK.map m.kQ)) [bR (.cell 1) m.hd (p+(x.2.laid x.1 m.hd.first).length:ab) (eK.length+1) true,.aZ buf]=bR (.cell k) m.hd (p+(x.2.laid x.1 m.hd.first).length:ab) (eK.length+1) true::tl (eK.map m.kQ):=by
    have:=ba (bR (.cell k) m.hd (p+(x.2.laid x.1 m.hd.first).length:ab) (eK.length+1) true) (eK.map m.kQ)
    obtain⟨a5,e⟩:=dH.mp this
    show((bR (.cell k) m.hd (p+(x.2.laid x.1 m.hd.first).length:ab) (eK.length+1) true::tl (eK.map m.kQ)).set k (.aZ buf))++[]=_
    rw[il]
    exact e▸IL a5
   refine ae YU ?_
   refine YO F ?_
   refine⟨pB _ _,by rw[gK];exact ne λJ=>by lia,?_⟩
   rw[YQ]
   have:=cF (eK++[x]) (p+(x.2.laid x.1 m.o.first).length) (some (ku (x.2.len x.1 m.hd.first) (m.hd.base+x.1) (if m.own=true then m.hd.most else x.2.t) (if m.own=true then 1 else 0) x.2.key x.2.val x.2.hd)) (by rw[hd,ee];rfl) (by exact ne λJ=>by lia) (lP zo)
   rw[kU,bZ]at this
   exact this
end
section
variable{w:cu}{B:a8}{b:aS}{d:ab}{σ:aa Cell}{Q:af->aa Cell->Prop}
theorem HU:∀(f:ab) (l:aa aU),(e7 f l).length%2=0
 |0,_=>rfl
 |_+1,[]=>rfl
 |f+1,x::r=>by
  have:=HU f (r.drop (gC x 254 r))
  show((e7 f (r.drop (gC x 254 r))).length+1+1)%2=0
  lia
theorem headB_61(o:Told)(base c6 at_:ah)(recs:aa aU):∃A:aa aU,A.length=61/\d0 o base c6 at_ recs=A++recs:=by
 refine⟨dZ 8 (base%256^8)++dZ 4 (((gE o at_ recs).length+9:ah)%256^4)++dZ 4 (c6%256^4)++[2]++dZ 4 ((crcOf 2197175160 (gE o at_ recs):ah)%256^4)++(dZ 2 (at_%256^2)++dZ 4 (o.last%256^4)++dZ 8 (o.first%256^8)++dZ 8 (o.most%256^8)++dZ 8 (o.ec%256^8)++dZ 2 (o.turn%256^2)++dZ 4 (o.place%256^4)++dZ 4 (o.many%256^4)),?_,?_⟩
 ·simp only[bZ,hn,dc,fq]
 ·skip
  rw[ee]
  rfl
theorem YV(F:(av w B true none).a0){m:Made}(hm:m.Ok):m6 (av w B true none) (d+8) (.ref 1468) [.cell 0,.cell 3,.int m.X.length] (n5 m) λa aC=>a=.bool true/\eO λc0 G=>aC=c0::.aZ m.X::.list (m.rows.map di)::m.D (.cell 2)::G:=by
 refine RT (C:=868) (fI:=851) (fN:=858) (scope:=Ey ps) (x:=.ofString "one") (elt:=Ex ps) (iter:=Ez ps) F rfl rfl rfl VM (by rfl) (by rfl) Fu.2 yG.2 u7.2 S6.2 Fv.2 rfl (by kernel_rfl) (λJ J=>by kernel_rfl) (by kernel_rfl) ⟨by kernel_rfl,by kernel_rfl,by kernel_rfl,by kernel_rfl⟩ ?_
 refine Yp F hm λlast ep eu ed nk=>⟨rfl,0,m.rows.length,?_⟩
 refine⟨rfl,⟨_,rfl⟩,?_⟩
 refine dI λdv b4=>?_
 obtain⟨A,bP,g7⟩:=headB_61 m.o m.base m.c6 m.at_ m.recs
 have g7:m.X=A++m.recs:=g7
 obtain⟨hY,-,-,-⟩:=Made.bits hm
 refine b4 ?_
 have ag9:=hm.qM
 have aO:=hm.z
 have YW:m.codec≠0->∃ei,dx (m.recs=m.codec.toUInt8::ei) (ei.length%2=0) ((fS ei).length<=200000):=λz=>by
  refine⟨_,(hm.ei z).1,HU _ _,?_⟩
  refine ae (ym _ _ (eL _)) ?_;exact c2 ‹_› (cK _ _)
 have ah0:m.X.length=61+m.recs.length:=nj _ _ _ _ _
 refine(bc.frame [0,1] (XF (Q:=λa aC=>a=.cell 0/\((m.codec=0/\aC=[bR (.cell 1) m.hd 61 0 true,.aZ m.X])\/(m.codec≠0/\∃g,aC=[bR (.cell 3) m.hd 0 0 true,.aZ m.X,g,.aZ m.laid]))) F (hd:=m.hd) (h0:=A) (recs:=m.recs) hY hm.codec bP (by exact c2 ‹_› (cK _ _)) (λz=>⟨rfl,.inl ⟨z,by exact ae g7 rfl⟩⟩) (λei g e z J J=>⟨rfl,.inr ⟨z,g,?_⟩⟩) YW) (by decide) (by simp[n5]) ?_ rfl ⟨rfl,rfl⟩ λa ax ⟨az,q⟩=>?_).call
 ·have:=(hm.ei z).1
  rw[e]at this
  have:=(z7 this).2
  (refine ae this ?_;refine ae (ym _ _ (eL _)) ?_;exact cv g7 rfl)
 ·refine cv g7 ?_;rfl
 subst az
 have fin:∀(k p:ab) (g:aa Cell) (buf:aa aU),0<k->(∀c acc,(c::.aZ m.X::.list (m.rows.map di)::m.D (.cell 2)::ed::nk::(g++[Cell.list acc]))[k]? =some (.aZ buf))->buf.length<=1000000->p<=buf.length->buf.drop p=m.zl m.rows->
   qw (av w B true none) (d+7) (λm σ Q=>u7.val (av w B true none) (d+7) m σ Q) 868 858 0 (g.length+6) 0 m.rows.length [] [none] (bR (.cell k) m.hd p 0 true::.aZ m.X::.list (m.rows.map di)::m.D (.cell 2)::ed::nk::(g++[Cell.list []])) λaC=>
    Fv.val (av w B true none) (d+7) (.cell (g.length+6)) [some (.cell 0),some (.cell 3),some (.int m.X.length),some (.int m.base),some (.int m.o.place),some (.int last),some ep,some eu,none,none,none] aC λm₂ bt=>
     yG.val (av w B true none) (d+7) m₂ bt (m9 λa aC=>a=.bool true/\eO λc0 G=>aC=c0::.aZ m.X::.list (m.rows.map di)::m.D (.cell 2)::G):=by
  intro k p g buf HS ba YX aW aq
  have pB:∀c acc,(c::Cell.aZ m.X::.list (m.rows.map di)::m.D (.cell 2)::ed::nk::(g++[Cell.list acc]))[g.length+6]? =some (.list acc):=λc acc=>zi (c::.aZ m.X::.list (m.rows.map di)::m.D (.cell 2)::ed::nk::g) _
  refine YP F (tl:=λacc=>.aZ m.X::.list (m.rows.map di)::m.D (.cell 2)::ed::nk::(g++[Cell.list acc])) hm YX HS ba pB (λc acc zm=>HR (c::.aZ m.X::.list (m.rows.map di)::m.D (.cell 2)::ed::nk::g) _ _) ?_ m.rows [] p none rfl aW aq
  exact YM F hm (pB _ _) λy=>⟨rfl,_,_,rfl⟩
 rcases q with⟨z,rfl⟩|⟨z,g,rfl⟩
 ·have W:=fin 1 61 [] m.X (by decide) (λJ J=>rfl) (by exact ne λJ=>by lia) (by exact ne λJ=>by lia) (by
   (refine ae g7 ?_;refine ae (fU bP) ?_;refine ae (hm.plain z) ?_;refine ae hm.rows.laid ?_);rfl)
  exact⟨rfl,⟨_,rfl⟩,W,(Hw F ⟨rfl,⟨_,rfl⟩,W⟩).call⟩
 ·have W:=fin 7 0 [g.b8 (eo [0,1] (n5 m++[ed,nk]).length),.aZ m.laid] m.laid (by decide) (λJ J=>rfl) (by exact c2 ‹_› (cK _ _)) (by exact hc _) (by
   (refine ae IY ?_;refine ae hm.rows.laid ?_);rfl)
  exact⟨rfl,⟨_,rfl⟩,W,(Hw F ⟨rfl,⟨_,rfl⟩,W⟩).call⟩
end
section
variable{w:cu}{B:a8}{b:aS}{d:ab}{σ:aa Cell}{Q:af->aa Cell->Prop}{env:bu}
theorem a0.any{jN:aS}{l:bh (aa bu)}(F:(av w B b none).a0):(av w B jN l).a0:=yD ⟨F.H.fZ,F.H.g,F.H.b,F.H.nolimit,F.H.nodup⟩
theorem cH.lift{f:aj}{as:aa af}{kw:aa (au×af)}(h:cH (av w B b none) d f as kw σ Q):cH (av w B b (some [env])) d f as kw σ Q:=cH.up (c:=av w B b (some [env])) h
theorem HV(F:(av w B true none).a0){ns:aa ah}{k:ab}{lg:aS}{rest:aa Cell}(aY:ns.length<=63)(ba:k<5000)
  (h:∀(m:Made) (bX:ab) (cM dD c9:Cell),m.Ok->bX<=k+120->Q (.tup [.bytes m.X,.cell (rest.length+5)]) (hand ns bX::rest++[cM,dD,c9,.list (m.rows.map di),m.D (.cell (rest.length+4))])):
  cH (av w B true none) (d+8) (.ref 1463) [.cell 0,.bool lg] [] (hand ns k::rest) Q:=by
 refine(bc.frame [0] (Yy (Q:=λa aC=>I3 λ(m:Made) (bX:ab) (cM dD c9:Cell)=>hQ m.Ok (bX<=k+120) (a=.tup [.bytes m.X,.cell 5]) (aC=[hand ns bX,cM,dD,c9,.list (m.rows.map di),m.D (.cell 4)])) F aY ba λm bX cM dD c9 aB aI=>⟨m,bX,cM,dD,c9,aB,aI,rfl,rfl⟩) (by trivial) (by simp) rfl rfl ⟨rfl,rfl⟩ λa ax ⟨m,bX,cM,dD,c9,aB,aI,az,ay⟩=>?_).call
 subst az ay
 have hm:iO [0] (hand ns k::rest) [hand ns bX,cM,dD,c9,.list (m.rows.map di),m.D (.cell 4)]=hand ns bX::rest++[cM.b8 (eo [0] (hand ns k::rest).length),dD.b8 (eo [0] (hand ns k::rest).length),c9.b8 (eo [0] (hand ns k::rest).length),.list (m.rows.map di),m.D (.cell (rest.length+4))]:=by
  show hand ns bX::rest++[_,_,_,Cell.list (fQ _ (m.rows.map di)),m.D (.cell ((rest.length+1)+3))]=_
  rw[vq]
 refine ae hm ?_
 exact h m bX _ _ _ aB aI
variable{ns:aa ah}{P:ct->aE->aa Cell->Prop}{eJ fp hH eT d2 gb gc:bh af}
theorem YY(F:(av w B true none).a0)(aY:ns.length<=63)
  (h:∀(cW c5:Made) (bX:ab) (cM dD c9 ep eu ed:Cell) (eh e8:bh af),cW.Ok->c5.Ok->bX<=300->P .next [some (.ey ns),some (.cell 0),some (.bytes (cW.X++c5.X)),some (.cell 1),eh,e8,eJ,fp,hH,eT,d2,gb,gc]
   [hand ns bX,.list [.tup [.int cW.X.length,.int cW.X.length,.cell 6],.tup [.int ((cW.X++c5.X).length:ab),.int c5.X.length,.cell 11]],cM,dD,c9,.list (cW.rows.map di),cW.D (.cell 5),ep,eu,ed,.list (c5.rows.map di),c5.D (.cell 10)]):
  C_law_3.1 (av w B true (some [env])) (d+8) [some (.ey ns),some (.cell 0),some (.bytes []),some (.cell 1),none,none,eJ,fp,hH,eT,d2,gb,gc] [hand ns 0,.list []] P:=by
 unfold C_law_3
 refine .mk ?_
 refine mT ?_
 refine pf (a:=0) (b:=2) (by decide) (by decide) ?_
 refine(HV F aY (by decide) λcW iD cM dD c9 s7 G'=>?_).lift
 have Kc:cW.X.length<=1000:=by
  have:=s7.qM
  have:cW.X.length=61+cW.recs.length:=nj _ _ _ _ _
  exact ne λJ=>by lia
 refine⟨by simp only[fq];exact ne λJ=>by lia,?_⟩
 refine eF ?_
 refine eF ?_
 refine gM (i:=1) rfl (by decide) ?_
 refine(HV F (rest:=[_,_,_,_,_,_]) aY (by exact nl λJ=>by lia) λc5 f7 ep eu ed px sO=>?_).lift
 have qq:c5.X.length<=1000:=by
  have:=px.qM
  have:c5.X.length=61+c5.recs.length:=nj _ _ _ _ _
  exact ne λJ=>by lia
 refine⟨by simp only[bZ,fq];exact ne λJ=>by lia,?_⟩
 refine eF ?_
 refine eF ?_
 refine gM (i:=1) (as:=[af.tup [.int cW.X.length,.int cW.X.length,.cell 6]]) rfl (k' rfl) ?_
 exact h cW c5 f7 cM dD c9 ep eu ed _ _ s7 px (by exact ne λJ=>by lia)
end
section
variable{w:cu}{B:a8}{b:aS}{d:ab}{σ:aa Cell}{Q:af->aa Cell->Prop}{env:bu}
section
variable{x0 dU d5 fs fE fY gw gX hx iq i7 n6 rc s8:Cell}{tl:aa Cell}
theorem n7{f:aJ}{a:af}(h:bc (av w B b none) d (.ref f) [.cell 0] [] [rc] λkb aC=>kb=a/\aC=[s8])(bL:∀r,a.b8 r=a)(a4:∀r,rc.b8 r=rc)(HW:∀r,s8.b8 r=s8)
  (k:Q a (x0::dU::d5::fs::fE::fY::gw::gX::hx::iq::i7::n6::s8::tl)):cH (av w B b none) d (.ref f) [.cell 12] [] (x0::dU::d5::fs::fE::fY::gw::gX::hx::iq::i7::n6::rc::tl) Q:=by
 refine(bc.frame [12] h (by decide) (by simp) ?_ rfl ⟨rfl,rfl⟩ λkb ax ⟨az,ay⟩=>?_).call
 ·show [some rc]=[some (rc.b8 _)]
  rw[a4]
 ·subst az ay
  rw[bL]
  show Q kb (x0::dU::d5::fs::fE::fY::gw::gX::hx::iq::i7::n6::s8.b8 _::tl++[])
  rw[HW,il];exact k
variable{buf Y:aa aU}{p:ab}{el:aa (aa aU)}
theorem YZ{y:ah}(F:(av w B true none).a0){hd:f'}{X rest:aa aU}(e5:Lay X)(aN:hd.Ok)(aq:X=hd.bytes rest)(bP:iY buf p el Y)
  (k:Q (.cell (x0::dU::d5::fs::fE::fY::gw::gX::hx::iq::i7::n6::iZ buf p Y (.int y) el::tl).length) (x0::dU::d5::fs::fE::fY::gw::gX::hx::iq::i7::n6::iZ buf p Y (.int y) el::tl++[bR (.cell ((x0::dU::d5::fs::fE::fY::gw::gX::hx::iq::i7::n6::iZ buf p Y (.int y) el::tl).length+1)) hd 61 0 false,.aZ X])):
  cH (av w B true none) (d+5) (.ref 1266) [.cell 12] [] (x0::dU::d5::fs::fE::fY::gw::gX::hx::iq::i7::n6::gs buf p (some X) (.int y)::tl) Q:=by
 refine(bc.frame [12] (XY (Q:=λkb aC=>kb=.cell 1/\aC=[iZ buf p Y (.int y) el,bR (.cell 2) hd 61 0 false,.aZ X]) F e5 aN aq bP ⟨rfl,rfl⟩) (by decide) (by simp) rfl rfl ⟨rfl,rfl⟩ λkb ax ⟨az,ay⟩=>?_).call
 subst az ay
 show Q (.cell _) (x0::dU::d5::fs::fE::fY::gw::gX::hx::iq::i7::n6::(iZ buf p Y (.int y) el).b8 _::tl++[bR (.cell _) hd 61 0 false,.aZ X])
 refine ae (HD rfl) ?_
 exact k
end
theorem Y0(F:(av w B true none).a0){m:Made}(hm:m.Ok){l:aa Cell}{s t:ab}(bb:l[t]? =some (m.D (.cell s)))(hs:l[s]? =some (.list (m.rows.map di)))(lJ:s≠t)(k:∀c0 G,Q (.bool true) (l++c0::.aZ m.X::G)):
  m6 (av w B true none) (d+8) (.ref 1468) [.cell l.length,.cell t,.int m.X.length] (l++[bR (.cell (l.length+1)) m.hd 61 0 false,.aZ m.X]) Q:=by
 have eX:=(dH.mp hs).1
 have Y1:=(dH.mp bb).1
 have cG:[l.length,l.length+1,s,t].Nodup:=by
  simp only[j3,gH,jr,or_false,n',tm,not_false_eq_true,and_true]
  lia
 have ur:(l++[bR (.cell (l.length+1)) m.hd 61 0 false,Cell.aZ m.X])[l.length]? =some (bR (.cell (l.length+1)) m.hd 61 0 false):=by rw[eU (eL _),ib];rfl
 have g1:(l++[bR (.cell (l.length+1)) m.hd 61 0 false,Cell.aZ m.X])[l.length+1]? =some (.aZ m.X):=by rw[eU (by exact jH _ _),nt];rfl
 have g2:=(eG (l₁:=l) (l₂:=[bR (.cell (l.length+1)) m.hd 61 0 false,Cell.aZ m.X]) eX).trans hs
 have g3:=(eG (l₁:=l) (l₂:=[bR (.cell (l.length+1)) m.hd 61 0 false,Cell.aZ m.X]) Y1).trans bb
 have k0:[l.length,l.length+1,s,t].map (λi=>(l++[bR (.cell (l.length+1)) m.hd 61 0 false,Cell.aZ m.X])[i]?)=(n5 m).map (λx=>some (x.b8 (eo [l.length,l.length+1,s,t] (l++[bR (.cell (l.length+1)) m.hd 61 0 false,Cell.aZ m.X]).length))):=by
  simp only[gJ,z8,ur,g1,g2,g3]
  show _=[some (bR (.cell (l.length+1)) m.hd 61 0 false),some (Cell.aZ m.X),some (Cell.list (fQ _ (m.rows.map di))),some (m.D (.cell s))]
  rw[vq]
 refine m6.frame [l.length,l.length+1,s,t] (YV F hm) cG (λi a7=>?_) k0 rfl λa ax ⟨az,c0,G,ay⟩=>?_
 ·simp only[gH,jr,or_false]at a7
  refine ae bZ ?_
  show i<l.length+2
  exact nl λJ=>by lia
 ·subst az ay
  have:=RY (c0:=c0) (G:=G) cG k0
  (refine ae (show c0::Cell.aZ m.X::Cell.list (m.rows.map di)::m.D (.cell 2)::G=c0::[Cell.aZ m.X,Cell.list (m.rows.map di),m.D (.cell 2)]++G from rfl) ?_;refine ae this ?_)
  have bF:∀y,(l++[bR (.cell (l.length+1)) m.hd 61 0 false,Cell.aZ m.X]).set l.length y=l++[y,.aZ m.X]:=λy=>by rw[ra _ _ (eL _),ib];rfl
  rw[bF,ee]
  exact k _ _
end
theorem Y2{α:Type}{a b:aa α}{c:ab}(h:a.length<=c):(a++b).take c=a++b.take (c-a.length):=by
 (refine ae List.take_append ?_;exact ae (zV h) rfl)
theorem Y3{b:aa aU}{c:ab}(h:c<=b.length):fu b none (some (c:ah))=b.take c:=by
 have e:clipAt b.length (c:ah)=c:=by unfold clipAt;lia
 show(b.drop 0).take (clipAt b.length (c:ah)-0)=_
 refine ae e ?_;rfl
section
variable{gR h7:aa aU}{c:ab}
theorem Y4(aB:Lay gR)(aI:Lay h7)(aP:c<gR.length):iY ((gR++h7).take c) 0 [] (gR.take c):=by
 have:=aB.a7
 have e:(gR++h7).take c=gR.take c:=zJ (by exact q9 ‹_›)
 refine⟨?_,hc _,by refine ae e ?_;rfl,(by intro X g7;exact absurd g7 jr),.inr ⟨gR,gR.drop c,aB,(vG c gR).symm,λz=>?_⟩⟩
 ·refine ae lj ?_;lia
 ·have:=congrArg ig z
  rw[ih]at this
  have:gR.length-c=0:=this
  lia
theorem Y5(aB:Lay gR)(aI:Lay h7)(aP:gR.length<=c)(qN:c<gR.length+h7.length):iY ((gR++h7).take c) 0 [gR] (h7.take (c-gR.length)):=by
 have:=aB.a7
 have:=aI.a7
 refine⟨?_,hc _,?_,(by intro X g7;refine ae (eV.mp g7) ?_;exact aB),.inr ⟨h7,h7.drop (c-gR.length),aI,(vG _ h7).symm,λz=>?_⟩⟩
 ·refine ae lj ?_;lia
 ·(refine ae (Y2 aP) ?_;refine ae IY ?_);simp
 ·have:=congrArg ig z
  rw[ih]at this
  have:h7.length-(c-gR.length)=0:=this
  lia
theorem Y6(aB:Lay gR)(aI:Lay h7)(aP:c=gR.length+h7.length):iY ((gR++h7).take c) 0 [gR,h7] []:=by
 have:=aB.a7
 have:=aI.a7
 have e:(gR++h7).take c=gR++h7:=zV (by refine ae bZ ?_;exact Ie (vz ‹_›))
 refine⟨?_,hc _,?_,?_,.inl rfl⟩
 ·refine ae lj ?_;lia
 ·refine ae e ?_;simp
 ·intro X g7
  rcases gH.mp g7 with rfl|g7
  ·exact aB
  ·refine ae (eV.mp g7) ?_;exact aI
end
structure kv where
 m:Made
 e:ab
 z:ab
 t:ab
noncomputable def kv.fJ(x:kv):af:=.tup [.int x.e,.int x.z,.cell x.t]
noncomputable def kx(ns:aa ah)(oct:aa aU)(eh e8 eJ fp hH eT d2 gb gc:bh af):aE:=[some (.ey ns),some (.cell 0),some (.bytes oct),some (.cell 1),eh,e8,eJ,fp,hH,eT,d2,gb,gc]
noncomputable def gS(ns:aa ah)(k:ab)(cW c5:Made)(cD n cS:ab)(cM dD c9 ep eu ed:Cell)(tl:aa Cell):aa Cell:=
 hand ns k::.list [.tup [.int cD,.int cD,.cell 6],.tup [.int n,.int cS,.cell 11]]::cM::dD::c9::.list (cW.rows.map di)::cW.D (.cell 5)::ep::eu::ed::.list (c5.rows.map di)::c5.D (.cell 10)::tl
noncomputable def nq(cW c5:Made)(cD n cS c:ab):aa kv:=if c<cD then []else if c<n then [⟨cW,cD,cD,6⟩]else [⟨cW,cD,cD,6⟩,⟨c5,n,cS,11⟩]
section
variable{w:cu}{B:a8}{b:aS}{d:ab}{σ:aa Cell}{Q:af->aa Cell->Prop}{env:bu}
section
variable{ns:aa ah}{k cD n cS:ab}{cW c5:Made}{cM dD c9 ep eu ed:Cell}{tl:aa Cell}{oct:aa aU}{eh e8 eJ fp hH eT d2 gb gc:bh af}{P:ct->aE->aa Cell->Prop}
theorem Y7(F:(av w B true none).a0)(aY:ns.length<=63)(ba:k<=900000)(a5:oct.length=n)(aB:1<=n/\cS<=n)(aI:n<=900000)
  (h:∀c:ab,c<=n->P .next (kx ns oct eh e8 (some (.int c)) fp hH eT d2 gb gc) (gS ns (k+2) cW c5 cD n cS cM dD c9 ep eu ed tl)):
  C_law_4.1 (av w B true (some [env])) (d+1) (kx ns oct eh e8 eJ fp hH eT d2 gb gc) (gS ns k cW c5 cD n cS cM dD c9 ep eu ed tl) P:=by
 unfold C_law_4
 refine .mk ?_
 refine eF ?_
 refine eF ?_
 refine ae a5 ?_
 refine(h9 F (n+1) aY (by lia) (by lia) λr a4=>?_).lift
 refine(h9 F 4 aY (by lia) (by decide) λq bg=>?_).lift
 have dN:∃s:ab,dw [af.int 0,.int 1,.int r,.int cS] q=some (.int s)/\s<=n:=by
  match q,bg with
  |0,_=>exact⟨0,rfl,by exact hc _⟩
  |1,_=>exact⟨1,rfl,by lia⟩
  |2,_=>exact⟨r,rfl,by exact aa7 ‹_›⟩
  |3,_=>exact⟨_,rfl,by lia⟩
 obtain⟨s,dN,hs⟩:=dN
 refine n0 dN ?_
 obtain⟨c,aP⟩:∃c:ab,c+s=n:=⟨n-s,by exact Nat.sub_add_cancel ‹_›⟩
 have e:(n:ah)-s=(c:ab):=by lia
 conv=>whnf
 refine ae e ?_
 exact h c (by lia)
theorem Y8{c:ab}{rc:Cell}(aY:cD<=n)
  (h:P .next (kx ns oct eh e8 (some (.int c)) fp (some (.cell 13)) eT d2 gb gc) (gS ns k cW c5 cD n cS cM dD c9 ep eu ed [rc,.list ((nq cW c5 cD n cS c).map kv.fJ)])):
  C_law_6.1 (av w B b (some [env])) d (kx ns oct eh e8 (some (.int c)) fp hH eT d2 gb gc) (gS ns k cW c5 cD n cS cM dD c9 ep eu ed [rc]) P:=by
 unfold C_law_6
 refine .mk ?_
 unfold nq at h
 by_cases s9:c<cD
 ·rw[cV s9]at h
  refine bY.f (mD (by lia)) ?_
  refine⟨rfl,?_⟩
  refine bY.f (mD (by lia)) ?_
  refine⟨rfl,?_⟩
  exact h
 ·rw[cC s9]at h
  refine bY.t (iH (by lia)) ?_
  refine⟨⟨rfl,by decide⟩,?_⟩
  refine⟨rfl,?_⟩
  by_cases qN:c<n
  ·rw[cV qN]at h
   refine bY.f (mD (by lia)) ?_
   refine⟨rfl,?_⟩
   exact h
  ·rw[cC qN]at h
   refine bY.t (iH (by lia)) ?_
   refine⟨⟨rfl,k' rfl⟩,?_⟩
   refine⟨rfl,?_⟩
   exact h
end
end
section
variable{w:cu}{B:a8}{b:aS}{d:ab}{σ:aa Cell}{Q:af->aa Cell->Prop}{env:bu}
section
variable{ns:aa ah}{k cD n cS:ab}{cW c5:Made}{cM dD c9 ep eu ed:Cell}{tl:aa Cell}{oct buf Y:aa aU}{eh e8 eJ fp hH eT d2 gb gc:bh af}{P:ct->aE->aa Cell->Prop}{S:aa kv}{rc:Cell}
noncomputable def sumZ(S:aa kv):ah:=(S.map λx=>(x.z:ah)).sum
theorem Y9(ta:S=[]\/(∃x,S=[x])\/eO λx y=>S=[x,y])
  (h:∀y,P .next (kx ns oct eh e8 eJ fp (some (.cell 13)) (some (.int (sumZ S))) d2 gb gc) (gS ns k cW c5 cD n cS cM dD c9 ep eu ed [rc,.list (S.map kv.fJ),y])):
  C_law_7.1 (av w B b (some [env])) d (kx ns oct eh e8 eJ fp (some (.cell 13)) eT d2 gb gc) (gS ns k cW c5 cD n cS cM dD c9 ep eu ed [rc,.list (S.map kv.fJ)]) P:=by
 unfold C_law_7
 refine .mk ?_
 rcases ta with rfl|⟨x,rfl⟩|⟨x,y,rfl⟩
 ·skip
  refine sum_list (i:=14) (ns:=[]) rfl ?_
  exact h _
 ·skip
  refine⟨⟨rfl,by decide⟩,?_⟩
  refine⟨rfl,?_⟩
  refine sum_list (i:=14) (ns:=[(x.z:ah)]) rfl ?_
  exact h _
 ·skip
  refine⟨⟨rfl,by decide⟩,?_⟩
  refine⟨rfl,?_⟩
  refine⟨⟨rfl,k' rfl⟩,?_⟩
  refine⟨rfl,?_⟩
  refine sum_list (i:=14) (ns:=[(x.z:ah),y.z]) rfl ?_
  exact h _
theorem jF{p:ah}{sl:dB}{d8:af}(a4:∀r,d8.b8 r=d8)(r:ab->ab):(gs buf p sl d8).b8 r=gs buf p sl d8:=by
 show Cell.inst 1283 [(9,.bytes buf),(11,.int p),(68,(cI sl).b8 r),(69,d8.b8 r)]=_
 rw[mn,a4];rfl
theorem Y'(F:(av w B true none).a0){el:aa (aa aU)}{c:ab}{v:ah}{wh vl:Cell}(bP:iY buf 0 el Y)(aP:buf.length=c)(cx:(buf.length:ah)-Y.length=v)
  (h:P .next (kx ns oct eh e8 (some (.int c)) (some (.cell 12)) hH (some (.int v)) d2 gb gc) (gS ns k cW c5 cD n cS cM dD c9 ep eu ed (iZ buf 0 Y (.int Y.length) el::tl))):
  C_law_8.1 (av w B true (some [env])) (d+3) (kx ns oct eh e8 (some (.int c)) (some (.cell 12)) hH (some (.int v)) d2 gb gc) (gS ns k cW c5 cD n cS cM dD c9 ep eu ed (iZ buf 0 Y .none el::tl)) P:=by
 unfold C_law_8
 refine .mk ?_
 induction el with
 |nil=>
  refine(n7 (Hz F ⟨rfl,rfl⟩) (λJ=>rfl) (λJ=>jF (λJ=>rfl) _) (λJ=>jF (λJ=>rfl) _) ?_).lift
  refine bY.f (by refine ae aP ?_;simp) ?_
  refine(n7 (HB F ⟨rfl,rfl⟩) (λJ=>rfl) (λJ=>jF (λJ=>rfl) _) (λJ=>jF (λJ=>rfl) _) ?_).lift
  refine bY.f (by refine ae cx ?_;simp) ?_
  exact h
 |cons X el=>
  refine(n7 (Hz F ⟨rfl,rfl⟩) (λJ=>rfl) (λJ=>jF (λJ=>rfl) _) (λJ=>jF (λJ=>rfl) _) ?_).lift
  refine bY.f (by refine ae aP ?_;simp) ?_
  refine(n7 (XW F bP.next ⟨rfl,rfl⟩) (λJ=>rfl) (λJ=>jF (λJ=>rfl) _) (λJ=>jF (λJ=>rfl) _) ?_).lift
  refine bY.f (by refine ae cx ?_;simp) ?_
  exact h
theorem Za(F:(av w B true none).a0){p:ab}{y v:ah}(cx:(buf.length:ah)-y=v)
  (h:∀m σ,P (.ret (.bool true)) m σ):
  C_law_10.1 (av w B true (some [env])) (d+3) (kx ns oct eh e8 eJ (some (.cell 12)) hH (some (.int v)) d2 gb gc) (gS ns k cW c5 cD n cS cM dD c9 ep eu ed (gs buf p none (.int y)::tl)) P:=by
 unfold C_law_10
 refine .mk ?_
 refine(n7 (HA F ⟨rfl,rfl⟩) (λJ=>rfl) (λJ=>jF (λJ=>rfl) _) (λJ=>jF (λJ=>rfl) _) ?_).lift
 refine(n7 (XX F ⟨rfl,rfl⟩) (λJ=>rfl) (λJ=>jF (λJ=>rfl) _) (λJ=>jF (λJ=>rfl) _) ?_).lift
 refine(n7 (HB F ⟨rfl,rfl⟩) (λJ=>rfl) (λJ=>jF (λJ=>rfl) _) (λJ=>jF (λJ=>rfl) _) ?_).lift
 conv=>whnf
 have e:((buf.length:ah)-y==v)=true:=by refine ae cx ?_;exact qU _
 refine ae e ?_
 exact h _ _
theorem Zb(F:(av w B true none).a0){m:Made}{s t p:ab}{el:aa (aa aU)}(hm:m.Ok)(bP:iY buf p (m.X::el) Y)(bb:∀rc,(gS ns k cW c5 cD n cS cM dD c9 ep eu ed (rc::tl))[t]? =some (m.D (.cell s)))(hs:∀rc,(gS ns k cW c5 cD n cS cM dD c9 ep eu ed (rc::tl))[s]? =some (.list (m.rows.map di)))(lJ:s≠t)
  (h:∀c0 G,P .next (kx ns oct eh e8 eJ (some (.cell 12)) hH eT d2 (some (.int m.X.length)) (some (.cell t))) (gS ns k cW c5 cD n cS cM dD c9 ep eu ed (iZ buf (p+m.X.length) Y (.int Y.length) el::tl++c0::.aZ m.X::G))):
  C_law_9_b_0.1 (av w B true (some [env])) (d+8) (kx ns oct eh e8 eJ (some (.cell 12)) hH eT d2 (some (.int m.X.length)) (some (.cell t))) (gS ns k cW c5 cD n cS cM dD c9 ep eu ed (gs buf (p+m.X.length:ab) (some m.X) (.int Y.length)::tl)) P:=by
 unfold C_law_9_b_0
 refine .mk ?_
 refine(n7 (HA F ⟨rfl,rfl⟩) (λJ=>rfl) (λJ=>jF (λJ=>rfl) _) (λJ=>jF (λJ=>rfl) _) ?_).lift
 refine⟨rfl,?_⟩
 have e5:Lay m.X:=bP.l _ (.head _)
 refine(YZ F e5 (Made.Yj hm) (Yg _ _ _ _ _) bP.next ?_).lift
 refine Y0 F hm (bb _) (hs _) lJ λc0 G=>⟨rfl,?_⟩
 exact h c0 G
end
end
section
variable{w:cu}{B:a8}{b:aS}{d:ab}{σ:aa Cell}{Q:af->aa Cell->Prop}{env:bu}
theorem Zc(F:(av w B true none).a0){ns:aa ah}{k cD n cS:ab}{cW c5:Made}{cM dD c9 ep eu ed vl:Cell}{oct buf Y:aa aU}{eh e8 eJ eT d2 gb gc:bh af}{P:ct->aE->aa Cell->Prop}{S:aa kv}
  (ta:∀x∈S,x.m.Ok/\x.z=x.m.X.length/\∃s,dx (s≠x.t) (∀tl,(gS ns k cW c5 cD n cS cM dD c9 ep eu ed tl)[x.t]? =some (x.m.D (.cell s))) (∀tl,(gS ns k cW c5 cD n cS cM dD c9 ep eu ed tl)[s]? =some (.list (x.m.rows.map di))))
  (bP:iY buf 0 (S.map λx=>x.m.X) Y)
  (h:∀p d2 gb gc tl,P .next (kx ns oct eh e8 eJ (some (.cell 12)) (some (.cell 13)) eT d2 gb gc) (gS ns k cW c5 cD n cS cM dD c9 ep eu ed (gs buf (p:ab) none (.int Y.length)::tl))):
  C_law_9.1 (av w B true (some [env])) (d+8) (kx ns oct eh e8 eJ (some (.cell 12)) (some (.cell 13)) eT d2 gb gc) (gS ns k cW c5 cD n cS cM dD c9 ep eu ed [iZ buf 0 Y (.int Y.length) (S.map λx=>x.m.X),.list (S.map kv.fJ),vl]) P:=by
 unfold C_law_9
 refine .mk ?_
 refine pe (λl m aC=>Af λ(eK:aa kv) (p:ab) (tl:aa Cell) (d2 gb gc:bh af)=>hQ (S=eK++l) (iY buf p (l.map λx=>x.m.X) Y) (m=kx ns oct eh e8 eJ (some (.cell 12)) (some (.cell 13)) eT d2 gb gc) (aC=gS ns k cW c5 cD n cS cM dD c9 ep eu ed (iZ buf p Y (.int Y.length) (l.map λx=>x.m.X)::.list (S.map kv.fJ)::vl::tl))) ?_ ?_ ⟨[],0,[],d2,gb,gc,rfl,bP,rfl,rfl⟩
 ·rintro m aC ⟨eK,p,tl,d2,gb,gc,-,-,rfl,rfl⟩
  exact h p d2 gb gc _
 ·rintro x l R dp m aC ⟨eK,p,tl,d2,gb,gc,hd,jf,rfl,rfl⟩
  obtain⟨hm,aO,s,lJ,bb,hs⟩:=ta x (by rw[hd];simp)
  obtain⟨vt,Zd,xz,Ze⟩:=x
  have aO:xz=vt.X.length:=aO
  subst aO
  refine Zb F hm jf (λJ=>bb _) (λJ=>hs _) lJ λc0 G=>?_
  exact⟨rfl,dp _ _ ⟨eK++[⟨vt,Zd,vt.X.length,Ze⟩],p+vt.X.length,_,_,_,_,(by rw[hd,ee];rfl),jf.next,rfl,rfl⟩⟩
theorem Zf(F:(av w B true none).a0){ns:aa ah}(aY:ns.length<=63):bc (av w B true (some [])) (d+10) (.ref 1473) [.ey ns] [] [] λa J=>a=.bool true:=by
 refine RW rfl (λenv=>a0.any F) (a0.any F).H rfl rfl VN rfl (by kernel_rfl) Ti.2 rfl λenv=>?_
 refine YY F aY λcW c5 k cM dD c9 ep eu ed eh e8 s7 px ba=>?_
 have ah1:cW.X.length=61+cW.recs.length:=nj _ _ _ _ _
 have ah2:c5.X.length=61+c5.recs.length:=nj _ _ _ _ _
 have ah3:=s7.qM
 have HW:=px.qM
 have zp:Lay cW.X:=HH (by exact c2 ‹_› (cK _ _))
 have zq:Lay c5.X:=HH (by exact c2 ‹_› (cK _ _))
 have ah4:(cW.X++c5.X).length=cW.X.length+c5.X.length:=bZ
 refine dI λdv b4=>?_
 obtain⟨cD,HX⟩:∃cD,cD=cW.X.length:=⟨_,rfl⟩
 obtain⟨cS,mU⟩:∃cS,cS=c5.X.length:=⟨_,rfl⟩
 obtain⟨n,HY⟩:∃n,n=(cW.X++c5.X).length:=⟨_,rfl⟩
 refine b4 ?_
 rw[<-HX,<-mU,<-HY]
 refine Y7 F aY (by exact c2 ‹_› (cK _ _)) HY.symm (by lia) (by exact ne λJ=>by lia) λc aP=>?_
 conv=>whnf
 rw[Y3 (by exact ne λJ=>by lia)]
 have h2:((cW.X++c5.X).take c).length=c:=by rw[lj];lia
 have bP:∃Y,hQ (iY ((cW.X++c5.X).take c) 0 ((nq cW c5 cD n cS c).map λx=>x.m.X) Y) ((((cW.X++c5.X).take c).length:ah)-Y.length=sumZ (nq cW c5 cD n cS c)) (nq cW c5 cD n cS c=[]\/(∃x,nq cW c5 cD n cS c=[x])\/eO λx y=>nq cW c5 cD n cS c=[x,y])
   (∀x∈nq cW c5 cD n cS c,x.m.Ok/\x.z=x.m.X.length/\∃s,dx (s≠x.t) (∀tl,(gS ns (k+2) cW c5 cD n cS cM dD c9 ep eu ed tl)[x.t]? =some (x.m.D (.cell s))) (∀tl,(gS ns (k+2) cW c5 cD n cS cM dD c9 ep eu ed tl)[s]? =some (.list (x.m.rows.map di)))):=by
  have qe:(⟨cW,cD,cD,6⟩:kv).m.Ok/\cD=cW.X.length/\∃s,dx (s≠6) (∀tl,(gS ns (k+2) cW c5 cD n cS cM dD c9 ep eu ed tl)[6]? =some (cW.D (.cell s))) (∀tl,(gS ns (k+2) cW c5 cD n cS cM dD c9 ep eu ed tl)[s]? =some (.list (cW.rows.map di))):=⟨s7,HX,5,by decide,λJ=>rfl,λJ=>rfl⟩
  have Ck:(⟨c5,n,cS,11⟩:kv).m.Ok/\cS=c5.X.length/\∃s,dx (s≠11) (∀tl,(gS ns (k+2) cW c5 cD n cS cM dD c9 ep eu ed tl)[11]? =some (c5.D (.cell s))) (∀tl,(gS ns (k+2) cW c5 cD n cS cM dD c9 ep eu ed tl)[s]? =some (.list (c5.rows.map di))):=⟨px,mU,10,by decide,λJ=>rfl,λJ=>rfl⟩
  unfold nq
  by_cases s9:c<cD
  ·rw[cV s9]
   refine⟨_,Y4 zp zq (by exact nl λJ=>by lia),?_,.inl rfl,(by intro x aA;exact absurd aA jr)⟩
   rw[h2,lj]
   show _=(0:ah)
   lia
  ·rw[cC s9]
   by_cases qN:c<n
   ·rw[cV qN]
    refine⟨_,Y5 zp zq (by exact ne λJ=>by lia) (by exact nl λJ=>by lia),?_,.inr (.inl ⟨_,rfl⟩),λx aA=>?_⟩
    ·rw[h2,lj]
     show _=(cD:ah)+0
     lia
    ·rw[eV.mp aA];exact qe
   ·rw[cC qN]
    refine⟨_,Y6 zp zq (by lia),?_,.inr (.inr ⟨_,_,rfl⟩),λx aA=>?_⟩
    ·rw[h2]
     show(c:ah)-((0:ab):ah)=(cD:ah)+((cS:ah)+0)
     lia
    ·rcases gH.mp aA with rfl|aA
     ·exact qe
     ·rw[eV.mp aA];exact Ck
 refine dI λdv b4=>?_
 obtain⟨Y,bP,cx,ta,Zg⟩:=bP
 refine b4 ?_
 refine(X0 F bP ?_).lift
 refine Y8 (by exact ne λJ=>by lia) ?_
 refine Y9 ta λy=>?_
 refine Y' F (vl:=y) (wh:=y) bP h2 cx ?_
 refine Zc F Zg bP λp d2 gb gc tl=>?_
 exact Za F cx λJ J=>rfl
end
section
set_option maxRecDepth 1000000
theorem Zh(w:cu):(λos=>topGo treeTable pw w 11 (some (.ref 6)) 12 ⟨pL w.params,#[],I0,boot_toks,os⟩ (topStub pw))=λos=>some ((u4 w os).abs,⟨denote treeTable jm,jm,u5,[topFrame ⟨0,0,0,0⟩]⟩):=by kernel_rfl
theorem Zi(w:cu)(os:nz):segRun treeTable pw w 11 (some (.ref 6)) 1 1 (u4 w os).abs (blockOf (behindTheImports pw) n1 jm u5 [topFrame ⟨0,0,0,0⟩])=some (.next,(u4 w os).abs,jm,u5):=by kernel_rfl
theorem Zj(w:cu)(os:nz):topRun treeTable pw w 11 (some (.ref 6)) 2 (mm w os).abs ⟨doneF .next,jm,kW,[topFrame ⟨0,0,0,0⟩]⟩=some (mm w os).abs:=by kernel_rfl
noncomputable def tk(a n:ab):aa b1:=((behindTheImports pw).drop a).take n
theorem Zk:behindTheImports pw=tk 0 35++(tk 35 3++(tk 38 4++(tk 42 1++(tk 43 3++(tk 46 20++[]))))):=by kernel_rfl
theorem Zl(w:cu)(os:nz):topRun treeTable pw w 11 (some (.ref 6)) (12+(1+(1696+(2439+(1975+(2365+(3058+(2383+2)))))))) ⟨pL w.params,#[],I0,boot_toks,os⟩ (topStub pw)=some (mm w os).abs:=by
 refine go_top (congrFun (Zh w) os) (piece_block (q:=⟨0,0,0,0⟩) (Zi w os) ?_)
 refine ae Zk ?_
 exact tF (tG (congrFun (Sr w) os)) (tF (tG (congrFun (Ss w) os)) (tF (tG (congrFun (Su w) os)) (tF (tG (congrFun (Sv w) os)) (tF (tG (congrFun (Sw w) os)) (tF (tG (congrFun (Sx w) os)) (piece_nil (Zj w os)))))))
end
section
set_option maxRecDepth 1000000
noncomputable def vu:fc:={pw with main:={pw.main with body:=[ar pw 65]}}
noncomputable def vv:aa au:=[.ofString "_wall",.ofString "CRC_TABLE",.ofString "CRC_INIT",.ofString "_MASK",.ofString "crc_update",.ofString "crc_finalize",.ofString "crc",.ofString "encode_varint",.ofString "size_of_varint",.ofString "decode_varint",.ofString "calc_crc32c",.ofString "calc_crc32",.ofString "StructError",.ofString "CorruptRecordError",.ofString "UnsupportedCodecError",.ofString "CRC32_TABLE",.ofString "crc32",.ofString "packed",.ofString "put_into",.ofString "unpack_from",.ofString "squeezed",.ofString "unsqueezed",.ofString "gzip_encode",.ofString "gzip_decode",.ofString "snappy_encode",.ofString "snappy_decode",.ofString "lz4_encode",.ofString "lz4_decode",.ofString "zstd_encode",.ofString "zstd_decode",.ofString "lz4_encode_old_kafka",.ofString "lz4_decode_old_kafka",.ofString "LegacyRecordBase",.ofString "LegacyRecordBatch",.ofString "LegacyRecord",.ofString "LegacyRecordBatchBuilder",.ofString "LegacyRecordMetadata",.ofString "DefaultRecordBase",.ofString "DefaultRecordBatch",.ofString "DefaultRecord",.ofString "ControlRecord",.ofString "DefaultRecordBatchBuilder",.ofString "DefaultRecordMetadata",.ofString "HEADER_SIZES",.ofString "header_of",.ofString "header_from",.ofString "MemoryRecords",.ofString "MemoryRecordsBuilder",.ofString "_law_next",.ofString "_law_int",.ofString "_law_crc",.ofString "_law_varint",.ofString "_law_field",.ofString "_law_octets",.ofString "_law_record",.ofString "_law_laid",.ofString "_law_head",.ofString "_law_batch",.ofString "_law_read"]
theorem Zm(P:hu):u6=(KK P).map (·.1):=by kernel_rfl
noncomputable def tb:Hook:=kHook KK u6 Zm
theorem Zn(w:cu):((pL w.params).isNs mainGlobals&&(#[]:eM GenState).size==0,(pL w.params).objs.size,(pL w.params).nsMap mainGlobals "__annotations__")=(true,11,some (.ref 6)):=by kernel_rfl
theorem Zo(w:cu):(λos=>(staticsOk (importedModules pw.main.body) (pL w.params) (mm w os).abs.heap&&namesBound pw (mm w os).abs.heap&&gensDone (mm w os).abs&&laidKept (pL w.params) (mm w os).abs.heap))=λJ=>true:=by kernel_rfl
theorem HZ(t:BT)(n:ab)(life:Life):∀as:aa aJ,as.map (absHeap t n life).get?=as.map λa=>match tv a n with|true=>alive ((t.get a).getD default)|false=>none
 |[]=>rfl
 |a::r=>by
  (refine ae gJ ?_;refine ae gJ ?_;refine ae (HZ t n life r) ?_)
  refine congrArg (· ::_) ?_
  cases e:tv a n with
  |false=>exact abs_get_none λq=>by rw[show tv a n=true from Nat.ble_eq_true_of_le q]at e;exact absurd e.symm fV
  |true=>
   have lt:a<n:=k' e
   unfold Heap.get?
   rw[absHeap_at,cV lt]
   obtain⟨c,d,Zp,sl⟩:=(t.get a).getD default
   cases Zp<;>rfl
theorem Zq(w:cu):(λos=>tb.obs (mm w os).abs)=λJ=>tb.val w:=by
 refine funext λos=>(HZ _ _ _ u6).trans ?_
 kernel_rfl
theorem Zr(w:cu):(λos=>openSeen vu vv (importedModules pw.main.body) (λJ=>true) true (mm w os).abs)=λJ=>openGood vu vv:=by kernel_rfl
theorem Zs:LeftO pw vu vv (λJ=>true) tb.obs tb.val 40000 true:=by
 refine LeftO.of_pieces (H₀:=pL) (H₁:=λP=>absHeap (EX P) 1474 {}) (gs₀:=#[]) (gs₁:=#[]) (d₀:=I0) (d₁:={}) (k₀:=boot_toks) (k₁:=2579) (m₀:=11) (ann:=some (.ref 6)) (boot_open (by kernel_rfl) (by kernel_rfl) (λJ=>by kernel_rfl)) Zn Zl (by kernel_rfl) λw=>?_
 exact funext λos=>Prod.ext (congrFun (Zo w) os) (Prod.ext (congrFun (Zr w) os) (congrFun (Zq w) os))
end
section
set_option maxRecDepth 1000000
theorem Zt:(["vars","dir","locals"]:aa au).filter (readsOut pw pw.main.body)=[]:=by
 rw[Fast.te13343964577679436407];kernel_rfl
theorem Zu:namesResolve pw=true:=by
 rw[Fast.te8377067652309620493];kernel_rfl
theorem Zv:noRoadLSs {strict:=!(importedModules pw.main.body).all cThrough.contains,foot:=none,bare:=[]} pw.main.body=true:=by
 rw[ac8];kernel_rfl
theorem Zw:namesMeet pw pw.main.body (λJ n=>attrL n)=true:=by
 rw[ac9,Fast.te17868728402115742887];kernel_rfl
set_option maxHeartbeats 0 in
theorem Zx:PySem.Challenge.rw_je0020_01.wellSaid=true:=by
 unfold OpenLaw.wellSaid OpenRow.wellSaid OpenRow.partSaid looksOpen
 dsimp only[PySem.Challenge.rw_je0020_01,OpenLaw.row]
 rw[Zt]
 repeat' (with_reducible refine look_both ?_ ?_)
 all_goals first
  |with_reducible exact Zu
  |with_reducible exact Zv
  |with_reducible exact Zw
  |(rw[ac8];kernel_rfl)
  |(rw[ac9];kernel_rfl)
  |kernel_rfl
end
noncomputable def zr:Ctx:=⟨.builtin "claim.caller" {},none,none,[],none⟩
theorem Zy:Clean zr:=⟨by show pC.contains "claim.caller"=false;decide+kernel,λx aA=>by exact absurd aA jr⟩
theorem Zz{c:ClaimW}{tree:aa aj->bN Fin}{w:cu}{s:aF}{free:aJ->Prop}{gens:Prop}{kept:a8->Prop}(aO:s.asleep)(c3:s.gens=#[])
  (H:∀args,c.pre args=true->WData.layableAll args=true->∀ord:aa e9->aa e9,(∀l,(ord l).Perm l)->∃vs s₁,layAllW c.records (classAt s.heap) w.params ord args s=some (vs,s₁)/\
   aK true (model c.prog w) callerA (tree vs) (λfin s'=>∃f,fin=.done f/\c.Ends s args vs s₁ (.ok f) s'/\s'.os=s.os/\AllBare s'.gens/\kept s'.heap) (λJ J=>bB) s₁):
  c.CallFrom (λvs=>⟨tree vs,.builtin "claim.caller" {},default,[]⟩) w free gens kept s:=λargs aW a5 ord aN=>by
 refine dI λdv b4=>?_
 obtain⟨vs,s₁,n8,h⟩:=H args aW a5 ord aN
 have oJ:=layAllW_rest _ _ _ n8
 have ao:=h zr default caller_in λJ=>Zy
 obtain⟨k,r,s',gh,hs,aY,ZA,rd,kX,ZC⟩:=wp_halts_full (M:=model c.prog w) (R:=λr s'=>c.Ends s args vs s₁ r s'/\s'.os=s.os/\kept s'.heap) (Shared.asleep_of_life oJ.2.2.2 aO)
  (td (model c.prog w) zr (tree vs) (λfin p s' ⟨f,e,a,b,d,k⟩=>by subst e;exact⟨⟨a,b,k⟩,leftWithCleanup_false_of_bare d⟩) (λJ J J x=>x.elim) _ _ ao)
 obtain⟨rU,_,_,kE,_⟩:=Shared.forget_eq ZA
 refine b4 ⟨vs,s₁,n8,k,_,gh,hs,?_,λJ i x aA=>?_,rU▸ZC,?_,Shared.rest_eq (kE.trans kX)⟩
 ·refine dI λdv b4=>?_
  rcases rd.congr rU with⟨v,rfl,iS,km,k9,lN,lO⟩|⟨e,cf,cls,rfl,iS,km,k9,lN,lO⟩
  ·exact b4 (.inl ⟨v,rfl,iS,km,k9,λb o y J=>lN b o y,lO⟩)
  ·exact b4 (.inr ⟨e,cf,cls,rfl,iS,km,k9,lN,λb o y J=>lO b o y⟩)
 ·rw[c3]at aA;simp at aA
 ·exact congrArg Life.seen ((runN_life _ _ _ aY).trans oJ.2.2.2)
theorem ZD{r:OpenRow}{q:fc}{loose:aa au}{H:Hook}{d:DefRec}{kwd:aa (au×a3)}{N:ab}(left:LeftO r.prog q loose (λJ=>true) H.obs H.val N)
  (zt:defOf q r.name=some (d,kwd))(aW:r.prog.theDef r.name=some (d.params,d.body,d.scope))(ba:kwWritten? d.params.kwonlyargs d.params.kw_defaults=some kwd)(dp:r.records=[])(ZE:(!r.writes||r.records.isEmpty)=true)
  (iD:r.wellSaid=true)(H0:chainsOk q=true)(fx:opensWell r.prog=true)(sr:frees r.toRowW=true)(HL:r.within=[])(aq:r.prog.bare)(hw:r.toRowW.promised)
  (call:∀(w:cu) (nY s₁:aF) (a:aJ) (args:aa WData) (vs:aa aj) (as:aa aJ),H.says w s₁.heap->r.claim.pre args=true->WData.layableAll args=true->Laid r.records w nY s₁ args vs as->WellAll w.params s₁.heap vs args->(∀a∈as,(a==sysModules)=false)->
   (∃jy fP,Top q (looseW q loose) (ExcName.means nY.heap) jy fP s₁.heap/\jy d.name=some (.ref a))->
   aK true (model r.prog w) callerA (PySem.call (.ref a) vs) (λv s'=>GoodWG r.claim (classAt nY.heap) (ExcName.means nY.heap) args s₁ (.ok (.ret v)) s') (λJ J=>bB) s₁):r.Holds:=by
 obtain⟨ZF,jk,bL,ZG,hm⟩:=frees_parts sr
 refine⟨iD,hw,⟨aq,fx,by show r.makers.map _=[];refine ae hm ?_;rfl⟩,hw.witness,λw=>⟨(left.behind (XP:=λJ J=>ky) (λJ J=>trivial) H0 w).1,λs' gm=>?_⟩⟩
 refine dI λdv b4=>?_
 obtain⟨nY,hf,ZH,s,cQ,aO,vw,c3,H2,y⟩:=(left.behind (XP:=λJ J=>ky) (λJ J=>trivial) H0 w).2 s' gm
 have zu:RecFacts r.records s.heap:=dp▸recFacts_of (s:=s) (R:=[]) rfl
 refine b4 ⟨nY,hf,ZH,s,cQ,λn aY=>?_,zu.1,zu.2.1,?_⟩
 ·obtain rfl:n=r.name:=by split at aY<;>simp_all
  exact pinned_of_view c3 H2 zt aW ba
 have vw:s.gens=#[]:=Array.eq_empty_of_size_eq_zero (fW.mp vw)
 have G:Ground q loose r.records (λJ J=>ky) w s _ _ s.heap:=zu.ground H2
 refine Zz (c:=r.claim) (tree:=λvs=>_) aO vw λargs vx vy ord H3=>dI λdv b4=>?_
 obtain⟨⟨vs,s₁⟩,n8⟩:=ZZ.mp (layAllW_isSome (P:=w.params) (ord:=ord) G.has args r.args s (pre_splitW vx).1)
 have keeps:=layAllW_keeps _ _ _ n8
 have oJ:=layAllW_rest _ _ _ n8
 obtain⟨as,zv,pO,hold⟩:=reads_layAllW H3 _ _ _ n8 vy s₁.heap (λJ J e=>e)
 have L:Laid r.records w s s₁ args vs as:=⟨⟨ord,H3,n8⟩,zv,pO,hold,keeps,oJ.1.trans vw,oJ.2.2.1⟩
 have zw:=G.keeps (λJ J J h J=>h) keeps
 obtain⟨a,o,pm,cd,doc,fB,ah5,aB,-⟩:=zw.fn zt
 refine b4 ⟨vs,s₁,n8,?_⟩
 have aY:=defOf_name zt
 refine bV (wpAny_nsGet zw.T.g ?_)
 refine ae aB ?_
 refine bp (bo (call w s s₁ a args vs as (H.keeps _ _ _ (H.of _ _ y) keeps) vx vy L L.well (L.low G.low) ⟨_,_,zw.T,by refine ae aY ?_;exact aB⟩) (λv s' g=>?_) λJ J x=>x)
 have z:=g.laid (c:=r.claim) ZF HL (ident_freeW jk bL ZG) L
 exact bJ ⟨_,rfl,z.1,z.2.1,z.2.2,λq=>⟨namesKept_of cQ c3 r.keeps keeps g.2.1.old,noTable ZE q⟩⟩
section
set_option maxRecDepth 1000000
theorem ZI:nm.Nodup:=by decide+kernel
theorem ZJ:opensWell pw=true:=by kernel_rfl
theorem ZK:pw.bare:=⟨rfl,rfl,rfl,rfl,rfl,by kernel_rfl⟩
theorem finish{w:cu}{s₁:aF}{ns:aa ah}{a:aJ}(qO:(KK w.params).In s₁.heap){jy fP:au->bh aj}{q:fc}{loose:aa au}{zx:ExcName->bh aj}(T:Top q loose zx jy fP s₁.heap)
  (c3:s₁.gens=#[])(a5:∃items,s₁.heap.IsList a items.toArray/\IntsAre items ns)(aY:ns.length<=63){P:aj->aF->Prop}(h:∀s',OldK s₁.heap s'.heap->s'.os=s₁.os->AllBare s'.gens->P (.bool true) s'):
  aK true (model pw w) callerA (PySem.call (.ref 1473) [.ref a]) P (λJ J=>bB) s₁:=by
 have H:(av w s₁.heap true none).Ok:=⟨qO,⟨_,T.g⟩,⟨_,T.b,T.builtins⟩,T.nolimit,ZI⟩
 obtain⟨items,aB,aI⟩:=a5
 have R:Rep (av w s₁.heap true (some [])) ⟨[],[]⟩ [] s₁.heap:=⟨rfl,λi j p q e=>by simp at e,λi p x e=>by simp at e,λb aq=>by simp[aT.bar,addrs]at aq,λb o e=>e,λb aq=>by simp at aq,λb aq=>by simp at aq⟩
 have A:d9 (av w s₁.heap true (some [])) 20 callerA:=⟨rfl,by decide+kernel,by decide,rfl,λl e=>by cases e;rfl⟩
 refine bo ((Zf (d:=10) (yD H) aY).call callerA s₁ _ [.ref a] [] A R (jw ⟨a,items,rfl,by simp[aT.bar,addrs],aB,aI⟩ iw) iw) (λv s' p=>?_) λJ J x=>x
 obtain⟨_,ρ',aC,hv,X,M,V,rfl⟩:=p
 obtain rfl:v=.bool true:=V
 exact h s' (.of_keep λb o e=>X.keep b o (by simp[addrs]) e) M.os λy bM=>by
  obtain⟨i,a7,e⟩:=Array.getElem_of_mem bM
  have:=M.new i y (by rw[c3];exact hc _) (e▸zz a7)
  rw[this];rfl
noncomputable def dL:DefRec:=match ar pw 65 with
 |.FunctionDef n a b _ _ _ sc _ _ p=>⟨n,a,b,sc,p⟩
 |_=>⟨.ofString "",⟨[],[],none,[],[],none,[]⟩,[],default,⟨0,0,0,0⟩⟩
theorem ZL{w:cu}{h:a8}{a:aJ}(qO:(KK w.params).In h){jy fP:au->bh aj}{q:fc}{loose:aa au}{zx:ExcName->bh aj}(T:Top q loose zx jy fP h)(e:jy dL.name=some (.ref a)):a=1473:=by
 have:=mg_of qO T.g (n:=dL.name) (v:=.ref 1473) (by kernel_rfl)
 rw[this]at e
 cases e;rfl
end
end aX
set_option maxRecDepth 1000000
set_option maxHeartbeats 4000000 in
theorem PySem.Challenge.cw_je0020_01_holds : PySem.Challenge.rw_je0020_01.Holds := by
 refine holds_law aX.Zx λZN=>aX.ZD (H:=aX.tb) (q:=aX.vu) (loose:=aX.vv) (d:=aX.dL) (kwd:=[]) (N:=40000) aX.Zs (by kernel_rfl) (by kernel_rfl) (by kernel_rfl) rfl rfl ZN (by kernel_rfl) aX.ZJ (by kernel_rfl) rfl aX.ZK (by w_witness2) ?_
 intro w nY s₁ a args vals as qO vx vy L ZO mV ⟨jy,fP,T,hm⟩
 have zv:=L.reads
 have c3:=L.gens
 obtain rfl:a=1473:=aX.ZL qO T hm
 clear hm L
 wrow_args vx vy zv ZO mV
 exact aX.finish qO T c3 ⟨_,by assumption,by assumption⟩ (by lia) λs' aB aI cg=>⟨.inl ⟨_,.bool true,[],rfl,λJ=>rfl,.bool true,by wrow_post,λJ=>⟨tm,λJ h=>by cases h⟩⟩,aB,aI,cg⟩

