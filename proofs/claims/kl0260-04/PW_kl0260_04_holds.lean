import PyProof.Rows.All
import Wide.All
import OpenK.AllK
import Wide.FinOn
import Lean
import PySem.Challenge.RW_kl0260_04
open PySem PySem.W PyProof.Rows PySem.Calls
set_option maxRecDepth 100000
set_option maxHeartbeats 0
set_option Elab.async false
set_option linter.unusedVariables false
set_option compiler.extract_closed false
noncomputable section
namespace Pl.Internal
open _root_.PySem renaming Program->pA,World->eA,Value->dA,Shared->iA,Addr->cA,Stmt->IA,treeTable->oB,hashInt->ZC,DictEntry->pB,typeLookup_type->EF,builtinLookup_eq_fast->wF,sysModules->cG,Params->lA,PyData->OA,OsState->XD,Operator->dC,CmpOp->JG,NameKind->GA,Comprehension->uB,Keyword->YB,nsFind->TA,PlainL->jG,Around->xA,wpAny->oA,wpAny_bind->rA,wpAny_standAt->VD,wpAny_rule->MM,wpAny_pure->JA,wpAny_with_toks->QE,wpAny_holding->HF,wpAny_of_eq->oR,wpAny_mono->VC,wpAny_call_entry->nR,Result->NF,cellsFrom->LE,pushCells_keeps->wO,Callee->mE,getMethod_builtin->YJ,wpAny_seqItems->pR
open _root_.PySem.W renaming SharedT->xB
open _root_.List renaming length_map->AA,mem_singleton->BA,mem_cons_self->HA,mem_cons_of_mem->NA,length_append->QA,range->UA,all_eq_true->YA,map_append->aB,mem_cons->bB,append_assoc->qB,map_cons->sB,prefix_refl->wB,mem_append->GB,append_nil->bC,map_map->jC,mem_map->rC,replicate->NC,getElem?_append_left->OC,getElem?_eq_getElem->sD,lookup->wD,length_cons->BD,mem_of_getElem?->DD,mem_append_left->MD,mem_range->gE,getElem?_set_ne->jE,mem_append_right->DE,getD_eq_getElem?_getD->FE,flatMap_cons->GE,getElem?_map->UE,nil_append->qF,getElem?_eq_some_iff->sF,foldl_append->gG,getElem?_append_right->GG,length_filter_le->IG,size_toArray->WG,getElem?_concat_length->ZG,not_mem_nil->aH,length_nil->uH,nodup_cons->zH,mem_flatMap->AH,forIn_cons->VH,map->XH,mem_filter->YH,range'->GI,set_append_right->MI,pairwise_cons->EJ,getElem?_set_self->HJ,getElem_mem->aL,drop_zero->cL,nodup_append->iL,length_set->kL,length->lL,eq_nil_of_length_eq_zero->nL,getElem?_eq_none->oL,filter_eq_nil_iff->OM,cons_append->QM,length_drop->RM,mem_map_of_mem->TM,map_nil->LO,flatten_cons->NO,drop_nil->QO,length_take->RO,mem_filterMap->UO,map_eq_nil_iff->VO,any_eq_false->WO,foldl_cons->YO,all_cons->ZO,range_eq_range'->sR,mapM_cons->xR,replicate_succ->AR,filter_cons_of_neg->IR,filter->KR,flatMap_nil->LR,any_eq_true->MR,isPrefixOf_iff_prefix->OR,drop_eq_getElem_cons->GV,drop_eq_nil_of_le->HV,drop_drop->IV,find?_cons->SV,isEmpty_iff->UV,drop_length->VV,any_cons->YV,toList_toArray->ZV,find?_cons_of_neg->bW,eq_of_mem_replicate->cW,length_range'->dW,map_replicate->eW,filter_cons_of_pos->gW,take_left->jW,flatMap_eq_nil_iff->kW,foldr_cons->lW,getElem?_cons_succ->u6,findIdx?_eq_none_iff->w6,map_eq_singleton_iff->x6,mem_or_eq_of_mem_set->A6
open _root_.Nat renaming le_trans->jA,le_refl->sA,lt_of_le_of_lt->iB,le_add_right->BB,le_succ->CB,le_of_eq->FB,succ_le_succ->XB,lt_of_lt_of_le->cC,le_of_lt->kC,sub_le->wC,add_le_add_left->EC,le_of_ble_eq_true->LC,ne_of_lt->iD,lt_succ_self->jD,lt_trans->uD,blt->AD,le_add_left->LD,le_succ_of_le->eE,zero_le->iE,ble->BE,not_lt->CE,add_right_comm->RE,add_comm->SE,zero_add->IF,le_of_lt_succ->dG,add_le_add_right->eG,le_of_succ_le->HG,lt_succ_of_lt->XG,ne_of_gt->YG,succ_ne_zero->tH,mul_le_mul_left->yH,add_assoc->UH,lt_add_right->WH,lt_of_lt_of_eq->HI,add_le_add->JI,lt_succ_of_le->LI,sub_self->NI,lt_of_le_of_ne->DJ,min_le_right->GJ,succ_pos->NM,and_le_left->UM,add_lt_add_right->KO,mul_add->MO,le_of_not_lt->PO,blt_eq->rR,not_succ_le_self->vR,min_eq_left->wR,lt_irrefl->yR,not_lt_zero->BR,le_of_add_right_le->CR,lt_or_ge->FR,add_lt_add_left->HR,add_sub_cancel_left->JR,add_left_cancel->EV,lt_add_of_pos_right->FV,lt_add_of_pos_left->JV,max_eq_right->MV,mul_lt_mul_of_pos_left->s6
open _root_.Int renaming natCast_nonneg->vB,ofNat_lt->kD,ofNat_le->CD,emod_nonneg->EE,not_lt->pF,le_trans->rF,toNat_natCast->fG,toNat_lt->FG,le_of_lt->vH,emod_lt_of_pos->wH,ofNat->xH,lt_of_lt_of_le->bL,lt_of_le_of_lt->dL,not_le->fL,eq_ofNat_of_zero_le->gL,ne_of_gt->PM,sub_nonneg_of_le->OO,ofNat_inj->aP,lt_trans->uR,le_antisymm->DR,pow_pos->ER,add_nonneg->GR,max_eq_right->LV,ediv_nonneg->fW,sub_left_lt_of_lt_add->iW,fdiv_eq_ediv_of_nonneg->y6,le_add_of_nonneg_left->z6
open _root_.Option renaming map_eq_some_iff->MC,map_some->qR,bind_eq_some_iff->NV,isSome_iff_exists->XV
open _root_.Bool renaming and_eq_true->KA,not_eq_true'->bH,or_eq_true->II,and_false->CJ,false_eq_true->jL,or_false->SO,false_and->TO,not_true->XO,eq_false_iff->NR,eq_iff_iff->OV,false_or->aW
open _root_.Array renaming all_eq_true'->TV
open _root_.PySem.Str renaming ofString->nA,mk->FJ
open _root_.PySem.Heap renaming get?_push_size->vD,lt_size->JF,size_push->mL,SameBut->SM,dictOf_iff->zR
section
namespace Mine
noncomputable def qG(tb:String->Option Builtin)(p:pA)(w:eA)(n₀:Nat)(ann:Option dA):Nat->xB->Thread->Option (xB×Thread)
 | 0,s,t=>some (s,t)
 | n+1,s,t=>match stepOk n₀ ann t with
  | false=>none
  | true=>match stepT (denote tb) p w s t with
   | some (s',t')=>qG tb p w n₀ ann n s' t'
   | none=>none
section
variable{tb:String->Option Builtin}{p:pA}{w:eA}{n₀:Nat}{ann:Option dA}
theorem nf{st:Step}{F:iA->Thread->xB×Thread}{r:xB×Thread}(h:(match st with | .go s' t'=>some (F s' t') | .halt _ _=>none)=some r)(e:∃ o s1,st = .halt o s1):False:=by
 obtain⟨o,s1,rfl⟩:=e
 contradiction
theorem Oc(o:Outcome)(s:iA):∃ o' s1,finish o s=Step.halt o' s1:=by
 unfold finish
 split<;>exact⟨_,_,rfl⟩
theorem kr{s s':xB}{t t':Thread}(h:stepT (denote tb) p w s t=some (s',t')):through t=false:=by
 obtain⟨cur,code,pos,stack⟩:=t
 cases cur with
 | pure f =>
  cases f with
  | done f =>
   rcases stack with _|⟨_,_⟩
   ·obtain⟨T,n,life,gens,drawn,toks,os⟩:=s
    exact (nf (st:=step (denote tb) p w ⟨{},gens,drawn,toks,os⟩ ⟨.pure (.done f),code,pos,[]⟩) (F:=fun s' t'=>(⟨T,n,life,s'.gens,s'.drawn,s'.toks,s'.os⟩,t')) h (by rcases f with ⟨⟩<;>exact Oc _ _)).elim
   ·rfl
  | again c=>exact CJ _
 | _=>exact CJ _
theorem GZ:∀ {n N:Nat}{s s':xB}{r:iA}{t t':Thread},qG tb p w n₀ ann n s t=some (s',t')->topRun tb p w n₀ ann N s'.abs t'=some r ->
  topRun tb p w n₀ ann (n+N) s.abs t=some r
 | 0,N,s,s',r,t,t',h,k=>by
  obtain⟨rfl,rfl⟩:s=s'/\t=t':=by simpa [qG] using h
  rw [IF];exact k
 | n+1,N,s,s',r,t,t',h,k=>by
  rw [show n+1+N=n+N+1 from RE n 1 N]
  unfold qG at h
  unfold topRun
  rcases hk:stepOk n₀ ann t with _|_
  ·rw [hk] at h;contradiction
  ·rw [hk] at h
   rcases hs:stepT (denote tb) p w s t with _|x
   ·rw [hs] at h;contradiction
   ·obtain⟨s₂,t₂⟩:=x
    rw [hs] at h
    rw [kr hs,stepT_spec hs]
    exact GZ h k
theorem FZ:∀ {n m:Nat}{s s' s'':xB}{t t' t'':Thread},qG tb p w n₀ ann n s t=some (s',t')->qG tb p w n₀ ann m s' t'=some (s'',t'') ->
  qG tb p w n₀ ann (n+m) s t=some (s'',t'')
 | 0,m,s,s',s'',t,t',t'',h,k=>by
  obtain⟨rfl,rfl⟩:s=s'/\t=t':=by simpa [qG] using h
  rw [IF];exact k
 | n+1,m,s,s',s'',t,t',t'',h,k=>by
  rw [show n+1+m=n+m+1 from RE n 1 m]
  unfold qG at h ⊢
  rcases hk:stepOk n₀ ann t with _|_
  ·rw [hk] at h;contradiction
  ·rw [hk] at h
   rcases hs:stepT (denote tb) p w s t with _|x
   ·rw [hs] at h;contradiction
   ·obtain⟨s₂,t₂⟩:=x
    rw [hs] at h
    exact FZ h k
noncomputable def RT(tb:String->Option Builtin)(p:pA)(w:eA)(n₀:Nat)(ann:Option dA){α:Type}(t:Sem α)(s:xB)(q:Pos)(n:Nat)(a:α)(s':xB)(q':Pos):Prop :=
 ∀ (K:α->Sem Fin) (H:dA->Sem Fin) (gd:Bool->Bool) (lv:List dA->List dA) (c:Code) (B:List Frame),
  qG tb p w n₀ ann n s ⟨t.wrap K H gd lv,c,q,B⟩=some (s',⟨K a,c,q',B⟩)
variable{α β:Type}{s s₁ s':xB}{q q₁ q':Pos}
theorem RT.pure{a:α}:RT tb p w n₀ ann (Pure.pure a:Sem α) s q 0 a s q:=fun _ _ _ _ _ _=>rfl
theorem RT.bind{m:Sem α}{f:α->Sem β}{n k:Nat}{a:α}{b:β}(h:RT tb p w n₀ ann m s q n a s₁ q₁)(h':RT tb p w n₀ ann (f a) s₁ q₁ k b s' q') :
  RT tb p w n₀ ann (m>>=f) s q (n+k) b s' q':=fun K H gd lv c B=>by
 rw [Sem.bind_eq_wrap',Sem.wrap_wrap]
 exact FZ (h _ _ _ _ c B) (h' _ _ _ _ c B)
theorem RT.keep{m:Sem α}{vs:List dA}{n:Nat}{a:α}(h:RT tb p w n₀ ann m s q n a s' q'):RT tb p w n₀ ann (m.keep vs) s q n a s' q':=fun K H gd lv c B=>by
 rw [Sem.keep_eq_wrap,Sem.wrap_wrap]
 exact h _ _ _ _ c B
theorem RT.holding{m:Sem α}{vs:List dA}{n:Nat}{a:α}(h:RT tb p w n₀ ann m s q n a s' q'):RT tb p w n₀ ann (PySem.holding vs m) s q n a s' q':=by
 rw [holding_eq_keep];exact h.keep
theorem RT.rule{tag:String}:RT tb p w n₀ ann (PySem.rule tag) s q 1 () s q:=fun _ _ _ _ _ _=>rfl
theorem RT.at{x:Pos}:RT tb p w n₀ ann (standAt x) s q 1 () s x:=fun _ _ _ _ _ _=>rfl
theorem RT.fresh:RT tb p w n₀ ann PySem.fresh s q 1 s.toks { s with toks:=s.toks+1 } q:=fun _ _ _ _ _ _=>rfl
theorem RT.load{a:cA}{part:Option dA}{o o':Obj}(h:AD a s.n=true)(g:s.tree.get a=some o)(al:alive o=some o'):RT tb p w n₀ ann (loadPart a part) s q 1 o' s q:=fun K H gd lv c B=>by
 show (match stepT (denote tb) p w s ⟨.load a part fun x=>K x,c,q,B⟩ with|some (s',t')=>some (s',t')|none=>none)=_
 obtain⟨T,n,life,gens,drawn,toks,os⟩:=s
 simp only at h g
 simp only [stepT,h,g,al]
theorem RT.update{a:cA}{part:Option dA}{f:Obj->Obj}{o o':Obj}(h:AD a s.n=true)(g:s.tree.get a=some o)(al:alive o=some o')(hn:BE n₀ a=true) :
  RT tb p w n₀ ann (updatePart a part f) s q 1 () { s with tree:=s.tree.set a f } q:=fun K H gd lv c B=>by
 show (match (BE n₀ a||a==mainNs||a==cStatics||ann==some (.ref a)) with|false=>none|true=>match stepT (denote tb) p w s ⟨.update a part f fun x=>K x,c,q,B⟩ with|some (s',t')=>some (s',t')|none=>none)=_
 rw [hn]
 obtain⟨T,n,life,gens,drawn,toks,os⟩:=s
 simp only at h g
 simp only [stepT,h,g,al,Bool.true_or]
theorem RT.alloc{o:Obj}(h:((s.tree.ins s.n o).get s.n).isSome=true):RT tb p w n₀ ann (PySem.alloc o) s q 1 s.n { s with tree:=s.tree.ins s.n o,n:=s.n+1 } q:=fun K H gd lv c B=>by
 show (match stepT (denote tb) p w s ⟨.alloc o fun x=>K x,c,q,B⟩ with|some (s',t')=>some (s',t')|none=>none)=_
 obtain⟨T,n,life,gens,drawn,toks,os⟩:=s
 simp only at h
 simp only [stepT,h]
theorem RT.step_top{env:Env}{st:IA}{rest:List IA}{c:Code}{B:List Frame}{n N:Nat}{r:iA}(h:RT tb p w n₀ ann (exec st env) s q n .next s' q')
  (k:topRun tb p w n₀ ann N s'.abs (restOf rest env c q' B)=some r):topRun tb p w n₀ ann (n+N) s.abs (restOf (st::rest) env c q B)=some r:=by
 refine GZ (s':=s') (t':=restOf rest env c q' B) ?_ k
 unfold restOf
 rw [execs_cons_wrap]
 exact h _ _ _ _ c B
end
end Mine
end
section
namespace Mine
theorem qf(p:pA)(n₀:Nat)(ann:Option dA)(k:Int)(t:Tok)(s:xB)(q:Pos)(K:Int->Sem Fin)(H:dA->Sem Fin)(gd:Bool->Bool)(lv:List dA->List dA)(c:Code)(B:List Frame)(w:eA) :
  qG oB p w n₀ ann 5 s ⟨(pyHash (.int k t)).wrap K H gd lv,c,q,B⟩=some ({ s with toks:=s.toks+1 },⟨(pyHashByItsType.reduced (rawHash k)).wrap K H gd lv,c,q,B⟩):=by
 refine byRow2 "special-get-raises" (P:=fun w=>qG oB p w n₀ ann 5 s ⟨(pyHash (.int k t)).wrap K H gd lv,c,q,B⟩=some ({ s with toks:=s.toks+1 },⟨(pyHashByItsType.reduced (rawHash k)).wrap K H gd lv,c,q,B⟩)) ?_ ?_ w
 ·intro w;kernel_rfl
 ·intro w;kernel_rfl
theorem Bp(k:Int):pyHashByItsType.reduced (rawHash k)=(Pure.pure (ZC k):Sem Int):=by
 have hr:=rawHash_range k
 unfold pyHashByItsType.reduced
 rw [if_pos (by rw [decide_eq_true hr.1,decide_eq_true hr.2];rfl)]
 rfl
theorem RT.pyHash_int{p:pA}{w:eA}{n₀:Nat}{ann:Option dA}{k:Int}{t:Tok}{s:xB}{q:Pos} :
  RT oB p w n₀ ann (pyHash (.int k t)) s q 5 (ZC k) { s with toks:=s.toks+1 } q:=fun K H gd lv c B=>by
 rw [qf,Bp]
 rfl
end Mine
end
section
namespace Mine
theorem mP{a b N:Nat}(h:a+(b+1)<N):a+1+b<N:=by
 rw [RE];exact h
theorem Wj{a b:Nat}(h:a+(b+1)<17):¬ a=16:=fun q=>by
 subst q
 exact CE.mpr (EC (LD 1 b) 16) h
theorem Xj{a b:Nat}(h:a+(b+1+1)=17):¬ a=16:=fun q=>by
 subst q
 exact tH _ (Nat.succ.inj (EV (show 16+(b+1+1)=16+1 from h)))
theorem ia{a b c N:Nat}(hz:a+17*(b+1)+15<N)(hc:c=17):a+c<N:=by
 subst hc
 exact iB (jA (EC (Nat.le_mul_of_pos_right 17 (NM b)) a) (BB _ 15)) hz
theorem ja{a b c N:Nat}(hz:a+17*(b+1)+15<N)(hc:c=17):a+c+17*b+15<N:=by
 subst hc
 rw [UH a,SE 17]
 exact hz
theorem iN(i:Nat):i=0\/(∃ j,i=2*j+1)\/∃ j,i=2*j+2:=by
 rcases i with _|i
 ·exact .inl rfl
 ·have e:=Nat.div_add_mod i 2
  rcases Nat.mod_two_eq_zero_or_one i with h|h
  ·rw [h] at e;exact .inr (.inl ⟨i / 2,congrArg (· + 1) e.symm⟩)
  ·rw [h] at e;exact .inr (.inr ⟨i / 2,congrArg (· + 1) e.symm⟩)
theorem TT(j:Nat):(2*j+1)%2=1:=Nat.mul_add_mod 2 j 1
theorem UT(j:Nat):¬ (2*j+2)%2=1:=fun h=>absurd ((Nat.mul_add_mod 2 j 2).symm.trans h) (by decide)
theorem CS(j:Nat):(2*j+1) / 2=j:=Nat.mul_add_div (by decide) j 1
theorem ES(j:Nat):(2*j+2) / 2 - 1=j:=congrArg (· - 1) (Nat.mul_add_div (by decide) j 2)
section
variable{v o:Obj}{l r:BT}{i:Nat}{f:Obj->Obj}
theorem tS:(BT.node v l r).get (2*i+1)=l.get i:=by
 rw [BT.get_node,if_neg (tH _),if_pos (TT i),CS]
theorem uS:(BT.node v l r).get (2*i+2)=r.get i:=by
 rw [BT.get_node,if_neg (tH _),if_neg (UT i),ES]
theorem UK:(BT.node v l r).set (2*i+1) f = .node v (l.set i f) r:=by
 rw [BT.set_node,if_neg (tH _),if_pos (TT i),CS]
theorem VK:(BT.node v l r).set (2*i+2) f = .node v l (r.set i f):=by
 rw [BT.set_node,if_neg (tH _),if_neg (UT i),ES]
theorem cT:(BT.node v l r).ins (2*i+1) o = .node v (l.ins i o) r:=by
 rw [BT.ins_node,if_neg (tH _),if_pos (TT i),CS]
theorem dT:(BT.node v l r).ins (2*i+2) o = .node v l (r.ins i o):=by
 rw [BT.ins_node,if_neg (tH _),if_neg (UT i),ES]
theorem rZ{n:Nat}(h:∀ i,i<2*n+1->((BT.node v l r).get i).isSome=true):∀ i,i<n->(l.get i).isSome=true:=fun i hi=>tS▸h (2*i+1) (KO (s6 hi (by decide)) 1)
theorem sZ{n:Nat}(h:∀ i,i<2*n+2->((BT.node v l r).get i).isSome=true):∀ i,i<n->(r.get i).isSome=true:=fun i hi=>uS▸h (2*i+2) (KO (s6 hi (by decide)) 2)
theorem qZ{n:Nat}(h:∀ i,i<n->(BT.nil.get i).isSome=true):n=0:=by
 rcases n with _|n
 ·rfl
 ·exact absurd (h 0 (NM n)) (by decide)
end
theorem x9(f g:Obj->Obj)(t:BT):∀ (a:Nat),(t.set a f).set a g=t.set a (fun o=>g (f o)):=by
 induction t with
 | nil=>exact fun _=>rfl
 | node v l r ihl ihr =>
  intro a
  rcases iN a with rfl|⟨j,rfl⟩|⟨j,rfl⟩
  ·rfl
  ·rw [UK,UK,UK,ihl]
  ·rw [VK,VK,VK,ihr]
theorem w9(t:BT):∀ (d:Nat),t.set d (fun x=>x)=t:=by
 induction t with
 | nil=>exact fun _=>rfl
 | node v l r ihl ihr =>
  intro a
  rcases iN a with rfl|⟨j,rfl⟩|⟨j,rfl⟩
  ·rfl
  ·rw [UK,ihl]
  ·rw [VK,ihr]
theorem sS(o:Obj)(t:BT):∀ (n:Nat),(∀ i,i<n->(t.get i).isSome=true)->(t.ins n o).get n=some o:=by
 induction t with
 | nil=>intro n h;rw [qZ h];rfl
 | node v l r ihl ihr =>
  intro a h
  rcases iN a with rfl|⟨j,rfl⟩|⟨j,rfl⟩
  ·rfl
  ·rw [cT,tS];exact ihl _ (rZ h)
  ·rw [dT,uS];exact ihr _ (sZ h)
theorem v9(o o':Obj)(t:BT):∀ (n:Nat),(∀ i,i<n->(t.get i).isSome=true)->(t.ins n o).set n (fun _=>o')=t.ins n o':=by
 induction t with
 | nil=>intro n h;rw [qZ h];rfl
 | node v l r ihl ihr =>
  intro a h
  rcases iN a with rfl|⟨j,rfl⟩|⟨j,rfl⟩
  ·rfl
  ·rw [cT,cT,UK,ihl _ (rZ h)]
  ·rw [dT,dT,VK,ihr _ (sZ h)]
noncomputable def dO(es:List pB)(ep:Nat):Obj:=⟨.type "dict",none,.dict es.toArray ep,#[]⟩
def nE(S:xB):Prop:=∀ i,i<S.n->(S.tree.get i).isSome=true
noncomputable def tick(S:xB)(k:Nat):xB:={ S with toks:=S.toks+k }
noncomputable def setO(S:xB)(d:Nat)(o:Obj):xB:={ S with tree:=S.tree.set d (fun _=>o) }
noncomputable def addO(S:xB)(o:Obj):xB:={ S with tree:=S.tree.ins S.n o,n:=S.n+1 }
theorem nE.tick{S:xB}(h:nE S)(k:Nat):nE (tick S k):=h
theorem nE.setO{S:xB}(h:nE S)(d:Nat)(o:Obj):nE (setO S d o):=fun i hi=>by
 show ((S.tree.set d _).get i).isSome=true
 rw [BT.get_set]
 split
 ·rename_i e;subst e;rw [Option.isSome_map];exact h _ hi
 ·exact h i hi
theorem nE.addO{S:xB}(h:nE S)(o:Obj):nE (addO S o):=fun i hi=>by
 have hn:=sS o S.tree S.n h
 show ((S.tree.ins S.n o).get i).isSome=true
 rw [BT.get_ins o S.tree S.n (by rw [hn];rfl)]
 split
 ·rfl
 ·have:i<S.n+1:=hi
  exact h i (DJ (dG this) ‹_›)
theorem ZJ{S:xB}{d:Nat}{o o':Obj}(g:S.tree.get d=some o')(i:Nat):(setO S d o).tree.get i=if i=d then some o else S.tree.get i:=by
 show (S.tree.set d _).get i=_
 rw [BT.get_set,g];rfl
theorem HL{S:xB}(h:nE S)(o:Obj)(i:Nat):(addO S o).tree.get i=if i=S.n then some o else S.tree.get i:=by
 have hn:=sS o S.tree S.n h
 exact BT.get_ins o S.tree S.n (by rw [hn];rfl) i
section
variable{p:pA}{w:eA}{n₀:Nat}{ann:Option dA}{S:xB}{q:Pos}
theorem wL(es:List pB)(ep:Nat):alive (dO es ep)=some (dO es ep):=rfl
theorem z0{f:Obj->Obj}{o:Obj}{t:BT}:∀ {d:Nat},t.get d=some o->t.set d f=t.set d (fun _=>f o):=by
 induction t with
 | nil=>exact fun _=>rfl
 | node v l r ihl ihr =>
  intro a h
  rcases iN a with rfl|⟨j,rfl⟩|⟨j,rfl⟩
  ·cases h;rfl
  ·rw [tS] at h;rw [UK,UK,ihl h]
  ·rw [uS] at h;rw [VK,VK,ihr h]
theorem gp{es:List pB}{h:Int}(hn:∀ e∈es,e.hash≠h):placesWithHash es.toArray.size (fun i=>es.toArray[i]?.map (·.hash)) h=[]:=by
 unfold placesWithHash
 rw [OM]
 intro i hi
 have hi':i<es.length:=by simpa using hi
 simp only [List.getElem?_toArray,sD hi',qR,beq_iff_eq,Option.some.injEq]
 exact hn _ (aL hi')
theorem RQ{d:Nat}{es:List pB}{ep:Nat}{part:Option dA}(hb:AD d S.n=true)(g:S.tree.get d=some (dO es ep)) :
  RT oB p w n₀ ann (dictEntries d part) S q 1 es.toArray S q:=by
 unfold dictEntries
 exact RT.bind (n:=1) (k:=0) (RT.load hb g (wL es ep)) RT.pure
theorem u4{d:Nat}{es:List pB}{ep:Nat}{k:Int}{t:Tok}{h:Int}(hb:AD d S.n=true)(g:S.tree.get d=some (dO es ep))(hn:∀ e∈es,e.hash≠h) :
  RT oB p w n₀ ann (dictFind d (.int k t) h) S q 1 none S q:=by
 unfold dictFind
 refine RT.holding (RT.bind (n:=1) (k:=0) (RQ hb g) ?_)
 dsimp only
 rw [gp hn]
 exact RT.pure
noncomputable def dD(es:List pB)(ep:Nat)(e:pB):Obj:=dO (es++[e]) (ep+1)
theorem D4{d:Nat}{es:List pB}{ep:Nat}{e:pB}{part:Option dA}(hd:BE n₀ d=true)(hb:AD d S.n=true)(g:S.tree.get d=some (dO es ep))(hz:es.length<2^24) :
  RT oB p w n₀ ann (updateDictKeys d (·.push e) part) S q 3 () (setO S d (dD es ep e)) q:=by
 unfold updateDictKeys
 have hs:S.tree.set d (Obj.mapDictKeys (·.push e))=S.tree.set d (fun _=>dD es ep e):=by
  rw [z0 g]
  show S.tree.set d (fun _=>(⟨.type "dict",none,.dict (es.toArray.push e) (ep+1),#[]⟩:Obj))=_
  rw [List.push_toArray];rfl
 refine RT.bind (n:=1) (k:=2) (RT.load hb g (wL es ep)) ?_
 show RT oB p w n₀ ann (updatePart d part _>>=fun _=>lookBehind d part) S q 2 () _ q
 refine RT.bind (n:=1) (k:=1) (RT.update hb g (wL es ep) hd) ?_
 rw [hs]
 unfold lookBehind
 have g2:(setO S d (dD es ep e)).tree.get d=some (dD es ep e):=by rw [ZJ g];simp
 refine RT.bind (n:=1) (k:=0) (RT.load (s:=setO S d (dD es ep e)) hb g2 rfl) ?_
 have hp:(Data.dict (es++[e]).toArray (ep+1)).pastItsLine=none:=pastItsLine_dict (by
  simp only [WG,QA,BD,uH,sizeLine];exact XG hz)
 show RT oB p w n₀ ann (match (Data.dict (es++[e]).toArray (ep+1)).pastItsLine with|some what=>unsupported what|x=>Pure.pure ()) _ q 0 () _ q
 rw [hp]
 exact RT.pure
theorem w4{d:Nat}{es:List pB}{ep:Nat}{k:Int}{t:Tok}{v:dA}(hd:BE n₀ d=true)(hb:AD d S.n=true)(g:S.tree.get d=some (dO es ep))(hz:es.length<2^24)(hn:∀ e∈es,e.hash≠ZC k) :
  RT oB p w n₀ ann (dictSet d (.int k t) v) S q 10 () (setO (tick S 1) d (dD es ep ⟨ZC k,.int k t,v⟩)) q:=by
 unfold dictSet
 refine RT.holding (RT.bind (n:=5) (k:=5) RT.pyHash_int ?_)
 unfold dictSetHashed
 refine RT.holding (RT.bind (n:=1) (k:=4) (u4 (S:=tick S 1) hb g hn) ?_)
 exact RT.bind (n:=1) (k:=3) RT.rule (D4 (S:=tick S 1) hd hb g hz)
noncomputable def NL(k:Int):Sem dA:=mkInt k
noncomputable def OL(x:Str)(pos:Pos):Sem dA:=do let x <- mkText x;standAt pos;Pure.pure x
noncomputable def xF(t:Nat)(k:Int)(x:Str):pB:=⟨ZC k,.int k t,.str x (t+1)⟩
noncomputable def ZA:Nat->List (Int×Str)->List pB
 | _,[]=>[]
 | t,(k,x)::r=>xF t k x::ZA (t+3) r
theorem tN:∀ (l:List (Int×Str)) (t:Nat),(ZA t l).length=l.length
 | [],_=>rfl
 | _::r,t=>by simp [ZA,tN r]
theorem sN:∀ (l:List (Int×Str)) (t:Nat) (e:pB),e∈ZA t l->∃ y∈l,e.hash=ZC y.1
 | [],_,_,h=>by cases h
 | y::r,t,e,h=>by
  rcases bB.mp h with rfl|h
  ·exact⟨y,.head _,rfl⟩
  ·obtain⟨z,hz,q⟩:=sN r _ e h;exact⟨z,.tail _ hz,q⟩
theorem fV{d:Nat}{o o' o'':Obj}(g:S.tree.get d=some o''):setO (setO S d o) d o'=setO S d o':=by
 unfold setO
 simp only [x9]
theorem cR{d:Nat}{o:Obj}{k:Nat}:tick (setO S d o) k=setO (tick S k) d o:=rfl
theorem dR{j k:Nat}:tick (tick S j) k=tick S (j+k):=by unfold tick;simp [UH]
noncomputable def BM(b:Int):List (Int×Str)->Bool
 | []=>true
 | (k,_)::r=>decide (b<k)&&decide (k<2^60)&&BM k r
theorem KZ{k:Int}(h0:0<=k)(h1:k<2^60):ZC k=k:=by
 have:rawHash k=k:=by
  have e:((k.natAbs:Int)%((2^61 - 1:Nat):Int))=k:=by
   have:(k.natAbs:Int)=k:=Int.natAbs_of_nonneg h0
   rw [this]
   exact Int.emod_eq_of_lt h0 (bL h1 (by decide))
  unfold rawHash
  simp only [e]
  rw [if_neg (show ¬ k<0 from pF.mpr h0),if_neg (by simp;exact PM h0)]
 unfold ZC
 rw [this,if_neg (by simp;exact PM h0)]
theorem gq{d:Nat}{es:List pB}{ep:Nat}{k:Int}{x:Str}{pos:Pos}(hd:BE n₀ d=true)(hb:AD d S.n=true)(g:S.tree.get d=some (dO es ep))(hz:es.length<2^24)(hn:∀ e∈es,e.hash≠ZC k) :
  RT oB p w n₀ ann (do let kv <- NL k;let vv <- holding [kv] (OL x pos);holding [kv,vv] (dictSet d kv vv)) S q 13 () (setO (tick S 3) d (dD es ep (xF S.toks k x))) pos:=by
 refine RT.bind (n:=1) (k:=12) (a:=.int k S.toks) (s₁:=tick S 1) (q₁:=q) ?_ ?_
 ·unfold NL mkInt;exact RT.bind (n:=1) (k:=0) RT.fresh RT.pure
 refine RT.bind (n:=2) (k:=10) (a:=.str x (S.toks+1)) (s₁:=tick S 2) (q₁:=pos) ?_ ?_
 ·refine RT.holding ?_
  unfold OL mkText
  refine RT.bind (n:=1) (k:=1) (a:=.str x (S.toks+1)) (s₁:=tick S 2) (q₁:=q) ?_ ?_
  ·exact RT.bind (n:=1) (k:=0) (RT.fresh (s:=tick S 1)) RT.pure
  ·exact RT.bind (n:=1) (k:=0) RT.at RT.pure
 refine RT.holding ?_
 exact w4 (S:=tick S 2) hd hb g hz hn
theorem y4{d:Nat}{pos:Pos}(hd:BE n₀ d=true):∀ (l:List (Int×Str)) (S:xB) (es:List pB) (ep:Nat) (q:Pos),AD d S.n=true->S.tree.get d=some (dO es ep)->es.length+l.length<2^24 ->
  (∀ e∈es,∀ y∈l,e.hash≠ZC y.1)->(l.Pairwise fun a b=>ZC a.1≠ZC b.1) ->
  RT oB p w n₀ ann (forIn (l.map fun y=>(NL y.1,OL y.2 pos)) PUnit.unit fun (kv:Sem dA×Sem dA) _=>do
   let k <- kv.1;let v <- holding [k] kv.2;holding [k,v] (dictSet d k v);Pure.pure (ForInStep.yield PUnit.unit)) S q (13*l.length) PUnit.unit (setO (tick S (3*l.length)) d (dO (es++ZA S.toks l) (ep+l.length))) (if l=[] then q else pos)
 | [],S,es,ep,q,hb,g,hz,h1,h2=>by
  have e:setO (tick S (3*0)) d (dO (es++ZA S.toks []) (ep+0))=S:=by
   unfold setO tick ZA
   simp only [bC,Nat.mul_zero,Nat.add_zero]
   have:=z0 (f:=fun x=>x) g
   rw [w9] at this
   rw [<-this]
  simp only [uH,LO,if_true]
  rw [e]
  exact RT.pure
 | (k,x)::r,S,es,ep,q,hb,g,hz,h1,h2=>by
  have h2':=EJ.mp h2
  simp only [BD] at hz
  rw [sB,VH,show 13*((k,x)::r).length=13+13*r.length by simp [MO];exact SE _ _]
  have s1:=gq (p:=p) (w:=w) (ann:=ann) (q:=q) (pos:=pos) hd hb g (iB (BB _ _) hz) (x:=x) (k:=k) (fun e he=>h1 e he (k,x) (.head _))
  refine RT.bind (a:=ForInStep.yield PUnit.unit) (s₁:=setO (tick S 3) d (dD es ep (xF S.toks k x))) (q₁:=pos) ?_ ?_
  ·have:=RT.bind s1 (f:=fun _=>Pure.pure (ForInStep.yield PUnit.unit)) (k:=0) RT.pure
   simpa only [bind_assoc] using this
  ·have ih:=y4 (pos:=pos) hd r (setO (tick S 3) d (dD es ep (xF S.toks k x))) (es++[xF S.toks k x]) (ep+1) pos hb (by rw [ZJ (S:=tick S 3) g];simp [dD]) (by simp;exact mP hz)
    (fun e he y hy=>by
     rcases GB.mp he with he|he
     ·exact h1 e he y (.tail _ hy)
     ·simp only [BA] at he;subst he;exact h2'.1 y hy) h2'.2
   have e1:setO (tick (setO (tick S 3) d (dD es ep (xF S.toks k x))) (3*r.length)) d (dO (es++[xF S.toks k x]++ZA (setO (tick S 3) d (dD es ep (xF S.toks k x))).toks r) (ep+1+r.length)) =
     setO (tick S (3*((k,x)::r).length)) d (dO (es++ZA S.toks ((k,x)::r)) (ep+((k,x)::r).length)):=by
    rw [cR,dR,fV (S:=tick S (3+3*r.length)) g]
    have:3+3*r.length=3*((k,x)::r).length:=by simp [MO];exact SE _ _
    rw [this,qB]
    have e2:ep+1+r.length=ep+((k,x)::r).length:=by simp;exact RE _ _ _
    rw [e2]
    rfl
   rw [<-e1]
   simpa using ih
theorem P4(hf:nE S)(o o':Obj):setO (addO S o) S.n o'=addO S o':=by
 unfold setO addO
 exact congrArg (fun t=>{ S with tree:=t,n:=S.n+1 }) (v9 o o' S.tree S.n hf)
noncomputable def JD(pos:Pos)(y:Int×Str):Sem dA×Sem dA:=(NL y.1,OL y.2 pos)
def OI(l:List (Int×Str)):Prop:=l.Pairwise fun a b=>ZC a.1≠ZC b.1
theorem b4(hf:nE S)(o:Obj):RT oB p w n₀ ann (alloc o) S q 1 S.n (addO S o) q:=RT.alloc (by rw [sS o S.tree S.n hf];rfl)
theorem C4{l:List (Int×Str)}{pos:Pos}(hf:nE S)(hn:BE n₀ S.n=true)(h15:15<l.length)(hz:l.length<2^24)(hd:OI l) :
  RT oB p w n₀ ann (subDict (l.map (JD pos))) S q (1+(1+13*l.length)) S.n (tick (addO S (dO (ZA S.toks l) l.length)) (3*l.length)) pos:=by
 unfold subDict
 refine RT.bind (b4 hf (dO [] 0)) ?_
 refine RT.bind (k:=0) (a:=()) (s₁:=tick (addO S (dO (ZA S.toks l) l.length)) (3*l.length)) (q₁:=pos) ?_ RT.pure
 refine RT.holding ?_
 rw [if_neg (by simp;exact h15)]
 refine RT.bind RT.rule ?_
 have hg:(addO S (dO [] 0)).tree.get S.n=some (dO [] 0):=by rw [HL hf];simp
 have:=y4 (p:=p) (w:=w) (ann:=ann) (pos:=pos) hn l (addO S (dO [] 0)) [] 0 q (by show AD S.n (S.n+1)=true;simp [rR]) hg (by simpa using hz) (by simp) hd
 rw [if_neg (by intro e;subst e;simp at h15)] at this
 simp only [qF,IF] at this
 have e:setO (tick (addO S (dO [] 0)) (3*l.length)) S.n (dO (ZA (addO S (dO [] 0)).toks l) l.length)=tick (addO S (dO (ZA S.toks l) l.length)) (3*l.length):=by
  rw [<-cR,P4 hf];rfl
 rw [e] at this
 exact RT.bind (k:=0) this RT.pure
noncomputable def YE:Nat->List (Int×Str)->List pB
 | _,[]=>[]
 | t,(k,x)::r=>xF t k x::YE (t+2) r
noncomputable def kvs:Nat->List (Int×Str)->List (dA×dA)
 | _,[]=>[]
 | t,(k,x)::r=>(.int k t,.str x (t+1))::kvs (t+2) r
theorem x4{pos:Pos}:∀ (l:List (Int×Str)) (S:xB) (q:Pos),RT oB p w n₀ ann (evalPairs (l.map (JD pos))) S q (3*l.length) (kvs S.toks l) (tick S (2*l.length)) (if l=[] then q else pos)
 | [],S,q=>RT.pure
 | (k,x)::r,S,q=>by
  rw [sB]
  show RT _ _ _ _ _ (do let kv <- NL k;let vv <- holding [kv] (OL x pos);return (kv,vv)::(<- holding [kv,vv] (evalPairs (r.map (JD pos))))) _ _ _ _ _ _
  rw [show 3*((k,x)::r).length=1+(2+(3*r.length+0)) by simp [MO];lia]
  refine RT.bind (a:=.int k S.toks) (s₁:=tick S 1) (q₁:=q) ?_ ?_
  ·unfold NL mkInt;exact RT.bind (n:=1) (k:=0) RT.fresh RT.pure
  refine RT.bind (a:=.str x (S.toks+1)) (s₁:=tick S 2) (q₁:=pos) ?_ ?_
  ·refine RT.holding ?_
   unfold OL mkText
   refine RT.bind (n:=1) (k:=1) (a:=.str x (S.toks+1)) (s₁:=tick S 2) (q₁:=q) ?_ ?_
   ·exact RT.bind (n:=1) (k:=0) (RT.fresh (s:=tick S 1)) RT.pure
   ·exact RT.bind (n:=1) (k:=0) RT.at RT.pure
  have ih:=x4 (pos:=pos) r (tick S 2) pos
  rw [ite_self] at ih
  rw [if_neg (by simp)]
  have e:tick (tick S 2) (2*r.length)=tick S (2*((k,x)::r).length):=by rw [dR];congr 1;simp [MO];exact SE _ _
  rw [e] at ih
  exact RT.bind (RT.holding ih) RT.pure
theorem B4{d:Nat}(hd:BE n₀ d=true):∀ (l:List (Int×Str)) (t:Nat) (S:xB) (es:List pB) (ep:Nat) (q:Pos),AD d S.n=true->S.tree.get d=some (dO es ep)->es.length+l.length<2^24 ->
  (∀ e∈es,∀ y∈l,e.hash≠ZC y.1)->OI l ->
  RT oB p w n₀ ann (forIn (kvs t l) PUnit.unit fun (kv:dA×dA) _=>do dictSet d kv.1 kv.2;Pure.pure (ForInStep.yield PUnit.unit)) S q (10*l.length) PUnit.unit
   (if l=[] then S else setO (tick S l.length) d (dO (es++YE t l) (ep+l.length))) q
 | [],t,S,es,ep,q,hb,g,hz,h1,h2=>RT.pure
 | (k,x)::r,t,S,es,ep,q,hb,g,hz,h1,h2=>by
  have h2':=EJ.mp h2
  simp only [BD] at hz
  rw [show kvs t ((k,x)::r)=(.int k t,.str x (t+1))::kvs (t+2) r from rfl,VH,show 10*((k,x)::r).length=10+10*r.length by simp [MO];exact SE _ _]
  have s1:=w4 (p:=p) (w:=w) (ann:=ann) (q:=q) hd hb g (iB (BB _ _) hz) (k:=k) (t:=t) (v:=.str x (t+1)) (fun e he=>h1 e he (k,x) (.head _))
  refine RT.bind (a:=ForInStep.yield PUnit.unit) (s₁:=setO (tick S 1) d (dD es ep (xF t k x))) (q₁:=q) ?_ ?_
  ·exact RT.bind s1 (f:=fun _=>Pure.pure (ForInStep.yield PUnit.unit)) (k:=0) RT.pure
  ·have ih:=B4 hd r (t+2) (setO (tick S 1) d (dD es ep (xF t k x))) (es++[xF t k x]) (ep+1) q hb (by rw [ZJ (S:=tick S 1) g];simp [dD]) (by simp;exact mP hz)
    (fun e he y hy=>by
     rcases GB.mp he with he|he
     ·exact h1 e he y (.tail _ hy)
     ·simp only [BA] at he;subst he;exact h2'.1 y hy) h2'.2
   rw [if_neg (by simp)]
   have e1:(if r=[] then setO (tick S 1) d (dD es ep (xF t k x)) else setO (tick (setO (tick S 1) d (dD es ep (xF t k x))) r.length) d (dO (es++[xF t k x]++YE (t+2) r) (ep+1+r.length))) =
     setO (tick S ((k,x)::r).length) d (dO (es++YE t ((k,x)::r)) (ep+((k,x)::r).length)):=by
    have e2:ep+1+r.length=ep+((k,x)::r).length:=by simp;exact RE _ _ _
    split
    ·rename_i hr;subst hr;rfl
    ·rw [cR,dR,fV (S:=tick S (1+r.length)) g,qB,e2]
     have:1+r.length=((k,x)::r).length:=by simp;exact SE _ _
     rw [this]
     rfl
   rw [e1] at ih
   exact ih
theorem iq{l:List (Int×Str)}{pos:Pos}(hf:nE S)(hn:BE n₀ S.n=true)(hne:l≠[])(h15:l.length<=15)(hd:OI l) :
  RT oB p w n₀ ann (subDict (l.map (JD pos))) S q (1+(3*l.length+10*l.length)) S.n (tick (addO S (dO (YE S.toks l) l.length)) (3*l.length)) pos:=by
 unfold subDict
 refine RT.bind (b4 hf (dO [] 0)) ?_
 refine RT.bind (k:=0) (a:=()) (s₁:=tick (addO S (dO (YE S.toks l) l.length)) (3*l.length)) (q₁:=pos) ?_ RT.pure
 refine RT.holding ?_
 rw [if_pos (by simpa using h15)]
 have e1:=x4 (p:=p) (w:=w) (n₀:=n₀) (ann:=ann) (pos:=pos) l (addO S (dO [] 0)) q
 rw [if_neg hne] at e1
 refine RT.bind e1 (RT.holding ?_)
 have hg:(tick (addO S (dO [] 0)) (2*l.length)).tree.get S.n=some (dO [] 0):=by show (addO S (dO [] 0)).tree.get S.n=_;rw [HL hf];simp
 have:=B4 (p:=p) (w:=w) (ann:=ann) hn l (addO S (dO [] 0)).toks (tick (addO S (dO [] 0)) (2*l.length)) [] 0 pos (by show AD S.n (S.n+1)=true;simp [rR]) hg (by simp;exact iB h15 (by decide)) (by simp) hd
 rw [if_neg hne] at this
 simp only [qF,IF] at this
 have e:setO (tick (tick (addO S (dO [] 0)) (2*l.length)) l.length) S.n (dO (YE (addO S (dO [] 0)).toks l) l.length)=tick (addO S (dO (YE S.toks l) l.length)) (3*l.length):=by
  rw [dR,show 2*l.length+l.length=3*l.length by lia,<- cR,P4 hf];rfl
 rw [e] at this
 exact RT.bind (k:=0) this RT.pure
theorem fq{α β:Type}{a:α}{f:α->Sem β}{n:Nat}{b:β}{S':xB}{q':Pos}(h:RT oB p w n₀ ann (f a) S q n b S' q'):RT oB p w n₀ ann ((Pure.pure a:Sem α)>>=f) S q n b S' q':=h
def JL(e:pB):Prop:=∃ k t,e.key = .int k t
theorem Zp{d:Nat}{es:List pB}{ep:Nat}{e:pB}(hk:JL e)(hd:BE n₀ d=true)(hb:AD d S.n=true)(g:S.tree.get d=some (dO es ep))(hz:es.length<2^24)(hn:∀ x∈es,x.hash≠e.hash) :
  RT oB p w n₀ ann (dictPut d e.hash e.key e.val) S q 4 () (setO S d (dD es ep e)) q:=by
 obtain⟨h,key,val⟩:=e
 obtain⟨k,t,hk⟩:=hk
 simp only at hk;subst hk
 unfold dictPut
 exact RT.bind (n:=1) (k:=3) (u4 hb g hn) (D4 hd hb g hz)
theorem j4{d:Nat}{es:List pB}{ep:Nat}{part:Option dA}(hb:AD d S.n=true)(g:S.tree.get d=some (dO es ep)) :
  RT oB p w n₀ ann (dictEpoch d part) S q 1 ep S q:=by
 unfold dictEpoch
 exact RT.bind (n:=1) (k:=0) (RT.load hb g (wL es ep)) RT.pure
theorem RT.onRaise_{α:Type}{m:Sem α}{h:dA->Sem Unit}{n:Nat}{a:α}{S':xB}{q':Pos}(r:RT oB p w n₀ ann m S q n a S' q'):RT oB p w n₀ ann (m.onRaise h) S q n a S' q':=fun K H gd lv c B=>by
 rw [Sem.onRaise_eq_wrap,Sem.wrap_wrap]
 exact r _ _ _ _ c B
theorem A4{d a:Nat}{E:List pB}{epa:Nat}(hd:BE n₀ d=true)(hda:a≠d):∀ (m:Nat) (i:Nat) (S:xB) (es:List pB) (ep:Nat),i+m=E.length->AD d S.n=true->AD a S.n=true->S.tree.get a=some (dO E epa) ->
  S.tree.get d=some (dO es ep)->es.length+m<2^24->(∀ x∈es,∀ e∈E.drop i,x.hash≠e.hash)->((E.drop i).Pairwise fun x y=>x.hash≠y.hash)->(∀ e∈E,JL e) ->
  RT oB p w n₀ ann (forIn (GI i m) PUnit.unit fun i (_:PUnit)=>do
   let __do_lift <- dictEntries a
   match __do_lift[i]? with
    | some e=>do
     holding [e.key,e.val] (dictPut d e.hash e.key e.val)
     let __do_lift <- dictEpoch a
     if (__do_lift != epa)=true then do
       unsupported "dict.changed-during-merge"
       Pure.pure (ForInStep.yield PUnit.unit)
      else Pure.pure (ForInStep.yield PUnit.unit)
    | x=>do
     unsupported "dict.changed-during-merge"
     Pure.pure (ForInStep.yield PUnit.unit)) S q (6*m) PUnit.unit (if m=0 then S else setO S d (dO (es++E.drop i) (ep+m))) q
 | 0,i,S,es,ep,hi,hb,hba,ga,g,hz,h1,h2,hk=>RT.pure
 | m+1,i,S,es,ep,hi,hb,hba,ga,g,hz,h1,h2,hk=>by
  have hlt:i<E.length:=HI (FV (NM m)) hi
  have hdr:E.drop i=E[i]::E.drop (i+1):=GV hlt
  rw [hdr] at h1 h2
  have h2':=EJ.mp h2
  rw [List.range'_succ,VH,show 6*(m+1)=6+6*m from SE _ _]
  refine RT.bind (a:=ForInStep.yield PUnit.unit) (s₁:=setO S d (dD es ep E[i])) (q₁:=q) ?_ ?_
  ·refine RT.bind (n:=1) (k:=5) (RQ hba ga) ?_
   have:E.toArray[i]? = some E[i]:=by simp [hlt]
   rw [this]
   refine RT.bind (n:=4) (k:=1) (RT.holding (Zp (hk _ (aL hlt)) hd hb g (iB (BB _ _) hz) (fun x hx=>h1 x hx _ (.head _)))) ?_
   refine RT.bind (n:=1) (k:=0) (j4 (S:=setO S d (dD es ep E[i])) hba (by rw [ZJ g,if_neg hda];exact ga)) ?_
   rw [if_neg (by simp)]
   exact RT.pure
  ·have ih:=A4 hd hda m (i+1) (setO S d (dD es ep E[i])) (es++[E[i]]) (ep+1) ((RE i 1 m).trans hi) hb hba (by rw [ZJ g,if_neg hda];exact ga) (by rw [ZJ g];simp [dD]) (by simp;exact mP hz)
    (fun x hx e he=>by
     rcases GB.mp hx with hx|hx
     ·exact h1 x hx e (.tail _ he)
     ·simp only [BA] at hx;subst hx;exact h2'.1 e he) h2'.2 hk
   rw [if_neg (tH _)]
   have e1:(if m=0 then setO S d (dD es ep E[i]) else setO (setO S d (dD es ep E[i])) d (dO (es++[E[i]]++E.drop (i+1)) (ep+1+m)))=setO S d (dO (es++E.drop i) (ep+(m+1))):=by
    rw [hdr]
    split
    ·rename_i hm
     subst hm
     have:E.drop (i+1)=[]:=HV (FB hi.symm)
     rw [this];rfl
    ·rw [fV g,qB,show ep+1+m=ep+(m+1) from RE _ _ _];rfl
   rw [e1] at ih
   exact ih
theorem bq{a:Nat}{E:List pB}{epa:Nat}(hba:AD a S.n=true)(ga:S.tree.get a=some (dO E epa)):RT oB p w n₀ ann (isInstance (.ref a) (.type "dict")) S q 1 true S q:=by
 unfold isInstance
 refine RT.bind (n:=1) (k:=0) (a:=.type "dict") (s₁:=S) (q₁:=q) ?_ ?_
 ·unfold typeOf
  exact RT.bind (n:=1) (k:=0) (RT.load hba ga (wL E epa)) RT.pure
 ·have:isSubtype (.type "dict") (.type "dict")=Pure.pure true:=by rw [isSubtype_type];kernel_rfl
  rw [this];exact RT.pure
theorem cq{a:Nat}{E:List pB}{epa:Nat}(hba:AD a S.n=true)(ga:S.tree.get a=some (dO E epa)):RT oB p w n₀ ann (specialOf (.ref a) "__iter__") S q 1 (some (.builtin "dict.__iter__")) S q:=by
 unfold specialOf
 refine RT.bind (n:=1) (k:=0) (a:=.type "dict") (s₁:=S) (q₁:=q) ?_ ?_
 ·unfold typeOf
  exact RT.bind (n:=1) (k:=0) (RT.load hba ga (wL E epa)) RT.pure
 ·have:typeLookup (.type "dict") "__iter__" = Pure.pure (some (.builtin "dict.__iter__")):=by rw [EF,wF];kernel_rfl
  rw [this];exact RT.pure
theorem dq{d a:Nat}{E:List pB}{epa:Nat}{es:List pB}{ep:Nat}(hd:BE n₀ d=true)(hda:a≠d)(hsys:a≠1)(hne:es≠[])(hE:E≠[])(hb:AD d S.n=true)(hba:AD a S.n=true)(ga:S.tree.get a=some (dO E epa))
  (g:S.tree.get d=some (dO es ep)) (hz:es.length+E.length<2^24) (h1:∀ x∈es,∀ e∈E,x.hash≠e.hash) (h2:E.Pairwise fun x y=>x.hash≠y.hash) (hk:∀ e∈E,JL e) :
  RT oB p w n₀ ann (mergeMapping d (.ref a) false) S q (5+6*E.length) () (setO S d (dO (es++E) (ep+E.length))) q:=by
 unfold mergeMapping
 rw [show 5+6*E.length=1+(1+(1+(1+(1+(6*E.length+0))))) by lia]
 refine RT.bind (bq hba ga) ?_
 dsimp only
 rw [if_pos rfl]
 refine RT.bind (cq hba ga) ?_
 refine fq ?_
 rw [show (some (dA.builtin "dict.__iter__")==some (dA.builtin "dict.__iter__"))=true from by simp]
 dsimp only
 rw [if_neg (by simp [cG];exact hsys)]
 refine RT.bind (RQ hb g) ?_
 rw [if_neg (by simp;exact hne)]
 refine RT.bind (RQ hba ga) ?_
 refine RT.bind (j4 hba ga) ?_
 have:=A4 (p:=p) (w:=w) (ann:=ann) (q:=q) (epa:=epa) hd hda E.length 0 S es ep (SE _ _) hb hba ga g hz (by simpa using h1) (by simpa using h2) hk
 rw [if_neg (by simpa using hE),cL] at this
 rw [WG,sR]
 exact RT.bind (k:=0) this RT.pure
abbrev PI:=Sem dA×Sem dA
abbrev DS:=Option cA×List PI
noncomputable def uC(y:PI):Option (Sem dA)×Sem dA:=(some y.1,y.2)
section
variable{f:Option (Sem dA)×Sem dA->DS->Sem (ForInStep DS)}{flush:List PI->Option cA->Sem (Option cA)}
theorem a0(F1:∀ y main run,(run++[y]).length≠17->f (uC y) (main,run)=Pure.pure (ForInStep.yield (main,run++[y]))):∀ (l:List PI) (main:Option cA) (run:List PI),run.length+l.length<17 ->
  forIn (l.map uC) (main,run) f=(Pure.pure (main,run++l):Sem DS)
 | [],main,run,_=>by simp
 | y::r,main,run,h=>by
  simp only [BD] at h
  rw [sB,VH,F1 y main run (by simp;exact Wj h),pure_bind]
  show forIn (r.map uC) (main,run++[y]) f=_
  rw [a0 F1 r main (run++[y]) (by simp;exact mP h),qB];rfl
theorem qT(F1:∀ y main run,(run++[y]).length≠17->f (uC y) (main,run)=Pure.pure (ForInStep.yield (main,run++[y])))
  (F2:∀ y main run,(run++[y]).length=17->f (uC y) (main,run)=(do let m <- flush (run++[y]) main;Pure.pure (ForInStep.yield (m,[])))) (rest:List (Option (Sem dA)×Sem dA)) :
  ∀ (l:List PI) (main:Option cA) (run:List PI),run.length+l.length=17->l≠[]->forIn (l.map uC++rest) (main,run) f=(flush (run++l) main>>=fun m=>forIn rest (m,[]) f)
 | [],_,_,_,h=>absurd rfl h
 | [y],main,run,h,_=>by
  simp only [BD,uH] at h
  rw [sB,LO,QM,qF,VH,F2 y main run (by simp;exact Nat.succ.inj h)]
  simp only [bind_assoc,pure_bind]
 | y::z::r,main,run,h,_=>by
  simp only [BD] at h
  rw [sB,QM,VH,F1 y main run (by simp;exact Xj h),pure_bind]
  show forIn ((z::r).map uC++rest) (main,run++[y]) f=_
  rw [qT F1 F2 rest (z::r) main (run++[y]) (by simp;exact (RE _ 1 _).trans h) (by simp),qB];rfl
end
noncomputable def aJ(run:List PI)(main:Option cA):Sem (Option cA) :=
 if run.isEmpty=true then Pure.pure main else
  match main with
  | none=>do return some (<- subDict run)
  | some d=>do
   let sub <- holding [.ref d] (subDict run)
   (holding [.ref d,.ref sub] (mergeMapping d (.ref sub) false)).onRaise fun x=>do let _ <- holding [.ref d,x] (runValue (.builtin "proto.let_go" {}))
   return some d
theorem PY:∀ (l:List (Int×Str)) (t:Nat) (e:pB),e∈ZA t l->JL e
 | [],_,_,h=>by cases h
 | y::r,t,e,h=>by
  rcases bB.mp h with rfl|h
  ·exact⟨_,_,rfl⟩
  ·exact PY r _ e h
theorem MY:∀ (l:List (Int×Str)) (t:Nat) (e:pB),e∈YE t l->JL e
 | [],_,_,h=>by cases h
 | y::r,t,e,h=>by
  rcases bB.mp h with rfl|h
  ·exact⟨_,_,rfl⟩
  ·exact MY r _ e h
theorem JS:∀ (l:List (Int×Str)) (t:Nat) (e:pB),e∈YE t l->∃ y∈l,e.hash=ZC y.1
 | [],_,_,h=>by cases h
 | y::r,t,e,h=>by
  rcases bB.mp h with rfl|h
  ·exact⟨y,.head _,rfl⟩
  ·obtain⟨z,hz,q⟩:=JS r _ e h;exact⟨z,.tail _ hz,q⟩
theorem NY:∀ (l:List (Int×Str)) (t:Nat),(YE t l).length=l.length
 | [],_=>rfl
 | _::r,t=>by simp [YE,NY r]
theorem OY:∀ (l:List (Int×Str)) (t:Nat),OI l->(ZA t l).Pairwise fun x y=>x.hash≠y.hash
 | [],_,_=>.nil
 | y::r,t,h=>by
  have h':=EJ.mp h
  exact EJ.mpr ⟨fun e he=>by obtain⟨z,hz,q⟩:=sN r _ e he;rw [q];exact h'.1 z hz,OY r _ h'.2⟩
theorem LY:∀ (l:List (Int×Str)) (t:Nat),OI l->(YE t l).Pairwise fun x y=>x.hash≠y.hash
 | [],_,_=>.nil
 | y::r,t,h=>by
  have h':=EJ.mp h
  exact EJ.mpr ⟨fun e he=>by obtain⟨z,hz,q⟩:=JS r _ e he;rw [q];exact h'.1 z hz,LY r _ h'.2⟩
noncomputable def qN(S:xB)(E:List pB)(m:Nat)(d:Nat)(es:List pB)(ep:Nat):xB:=setO (tick (addO S (dO E m)) (3*m)) d (dO (es++E) (ep+m))
theorem z4{d:Nat}{es:List pB}{ep:Nat}{l:List (Int×Str)}{pos:Pos}{E:List pB}{ns:Nat}(hd:BE n₀ d=true)(hf:nE S)(hn:BE n₀ S.n=true)(hS:1<S.n)(hdn:d<S.n)(g:S.tree.get d=some (dO es ep))(hne:es≠[])
  (hsub:RT oB p w n₀ ann (subDict (l.map (JD pos))) S q ns S.n (tick (addO S (dO E l.length)) (3*l.length)) pos) (hl:l≠[]) (hEl:E.length=l.length) (hz:es.length+l.length<2^24)
  (h1:∀ x∈es,∀ y∈l,x.hash≠ZC y.1) (hEh:∀ e∈E,∃ y∈l,e.hash=ZC y.1) (hEa:E.Pairwise fun x y=>x.hash≠y.hash) (hEk:∀ e∈E,JL e) :
  RT oB p w n₀ ann (aJ (l.map (JD pos)) (some d)) S q (ns+(5+6*l.length)) (some d) (qN S E l.length d es ep) pos:=by
 unfold aJ
 rw [if_neg (by simpa using hl)]
 dsimp only
 refine RT.bind (RT.holding hsub) ?_
 have hg1:(tick (addO S (dO E l.length)) (3*l.length)).tree.get S.n=some (dO E l.length):=by show (addO S (dO E l.length)).tree.get S.n=_;rw [HL hf];simp
 have hg2:(tick (addO S (dO E l.length)) (3*l.length)).tree.get d=some (dO es ep):=by show (addO S (dO E l.length)).tree.get d=_;rw [HL hf,if_neg (iD hdn)];exact g
 have hb1:AD d (S.n+1)=true:=by rw [rR];exact XG hdn
 have hb2:AD S.n (S.n+1)=true:=by rw [rR];exact jD _
 have:=dq (p:=p) (w:=w) (ann:=ann) (q:=pos) (S:=tick (addO S (dO E l.length)) (3*l.length)) hd (YG hdn) (YG hS) hne (by intro e;rw [e] at hEl;rcases l with ⟨⟩<;>simp at hEl hl) hb1 hb2 hg1 hg2 (hEl▸hz)
  (fun x hx e he=>by obtain⟨y,hy,qq⟩:=hEh e he;rw [qq];exact h1 x hx y hy) hEa hEk
 rw [hEl] at this
 exact RT.bind (k:=0) (RT.onRaise_ (RT.holding this)) RT.pure
noncomputable def pN(d:Nat):xB->List pB->Nat->List (List (Int×Str))->List (Int×Str)->xB
 | S,es,ep,[],l=>qN S (YE S.toks l) l.length d es ep
 | S,es,ep,c::cs,l=>pN d (qN S (ZA S.toks c) c.length d es ep) (es++ZA S.toks c) (ep+c.length) cs l
noncomputable def oN:List (List (Int×Str))->List (Int×Str)->Nat
 | [],l=>(1+(3*l.length+10*l.length))+(5+6*l.length)
 | c::cs,l=>((1+(1+13*c.length))+(5+6*c.length))+oN cs l
noncomputable def KY:DS->Sem dA:=fun s=>aJ s.2 s.1>>=fun m=>match m with|some d=>Pure.pure (.ref d)|none=>newDict
theorem d4{f:Option (Sem dA)×Sem dA->DS->Sem (ForInStep DS)}{d:Nat}{pos:Pos}{l:List (Int×Str)}
  (F1:∀ y main run,(run++[y]).length≠17->f (uC y) (main,run)=Pure.pure (ForInStep.yield (main,run++[y])))
  (F2:∀ y main run,(run++[y]).length=17->f (uC y) (main,run)=(do let m <- aJ (run++[y]) main;Pure.pure (ForInStep.yield (m,[]))))
  (hd:BE n₀ d=true) (hl:l≠[]) (hl15:l.length<=15):∀ (cs:List (List (Int×Str))) (S:xB) (es:List pB) (ep:Nat) (q:Pos),nE S->BE n₀ S.n=true->1<S.n->d<S.n->S.tree.get d=some (dO es ep)->es≠[] ->
   (∀ c∈cs,c.length=17)->es.length+17*cs.length+15<2^24->(∀ x∈es,∀ y∈cs.flatten++l,x.hash≠ZC y.1)->OI (cs.flatten++l) ->
   RT oB p w n₀ ann (forIn ((cs.flatten++l).map fun y=>uC (JD pos y)) (some d,[]) f>>=KY) S q (oN cs l) (.ref d) (pN d S es ep cs l) pos
 | [],S,es,ep,q,hf,hn,hS,hdn,g,hne,hcs,hz,h1,h2=>by
  rw [List.flatten_nil,qF] at h1 h2 ⊢
  have e:(l.map fun y=>uC (JD pos y))=(l.map (JD pos)).map uC:=by rw [jC];rfl
  rw [e,a0 F1 _ _ _ (by simp;exact iB hl15 (by decide)),pure_bind]
  show RT _ _ _ _ _ (aJ (l.map (JD pos)) (some d)>>=_) _ _ _ _ _ _
  have:=z4 (p:=p) (w:=w) (ann:=ann) (q:=q) hd hf hn hS hdn g hne (iq (pos:=pos) hf hn hl hl15 h2) hl (NY _ _) (iB (EC hl15 es.length) hz) h1 (JS l _) (LY l _ h2) (MY l _)
  exact RT.bind (k:=0) this RT.pure
 | c::cs,S,es,ep,q,hf,hn,hS,hdn,g,hne,hcs,hz,h1,h2=>by
  have hc:=hcs c (.head _)
  simp only [BD] at hz
  rw [NO,qB] at h1 h2 ⊢
  have h2':=List.pairwise_append.mp h2
  have e:((c++(cs.flatten++l)).map fun y=>uC (JD pos y))=(c.map (JD pos)).map uC++(cs.flatten++l).map fun y=>uC (JD pos y):=by rw [aB,jC];rfl
  have hcne:c≠[]:=by intro q;subst q;simp at hc
  rw [e,qT F1 F2 _ _ _ _ (by simp;exact hc) (by simpa using hcne),bind_assoc]
  have fl:=z4 (p:=p) (w:=w) (ann:=ann) (q:=q) hd hf hn hS hdn g hne (C4 (pos:=pos) (l:=c) hf hn (HI (by decide) hc.symm) (iB (FB hc) (by decide)) h2'.1) hcne (tN _ _) (ia hz hc)
   (fun x hx y hy=>h1 x hx y (MD _ hy)) (sN c _) (OY c _ h2'.1) (PY c _)
  refine RT.bind fl ?_
  have hdn':d<S.n+1:=XG hdn
  have gg:(tick (addO S (dO (ZA S.toks c) c.length)) (3*c.length)).tree.get d=some (dO es ep):=by show (addO S _).tree.get d=_;rw [HL hf,if_neg (iD hdn)];exact g
  exact d4 F1 F2 hd hl hl15 cs (qN S (ZA S.toks c) c.length d es ep) (es++ZA S.toks c) (ep+c.length) pos (((hf.addO _).tick _).setO _ _) (Nat.ble_eq_true_of_le (eE (LC hn))) (XG hS) hdn'
   (by unfold qN;rw [ZJ gg];simp) (by simp [hne]) (fun c' hc'=>hcs c' (.tail _ hc')) (by simp only [QA,tN];exact ja hz hc)
   (fun x hx y hy=>by
    rcases GB.mp hx with hx|hx
    ·exact h1 x hx y (DE _ hy)
    ·obtain⟨z,hz,qq⟩:=sN c _ x hx;rw [qq];exact h2'.2.2 z hz y hy) h2'.2.1
noncomputable def wN(S:xB)(c:List (Int×Str)):xB:=tick (addO S (dO (ZA S.toks c) c.length)) (3*c.length)
theorem aq{pos:Pos}{c:List (Int×Str)}{cs:List (List (Int×Str))}{l:List (Int×Str)}(hl:l≠[])(hl15:l.length<=15)(hf:nE S)(hn:BE n₀ S.n=true)(hS:1<S.n)(hc:c.length=17)(hcs:∀ c∈cs,c.length=17)(hz:cs.length<2^16)
  (h2:OI (c++(cs.flatten++l))) :
  RT oB p w n₀ ann (dictDisplay ((c++(cs.flatten++l)).map fun y=>uC (JD pos y))) S q ((1+(1+13*c.length))+oN cs l) (.ref S.n) (pN S.n (wN S c) (ZA S.toks c) c.length cs l) pos:=by
 unfold dictDisplay
 have h2':=List.pairwise_append.mp h2
 have e:((c++(cs.flatten++l)).map fun y=>uC (JD pos y))=(c.map (JD pos)).map uC++(cs.flatten++l).map fun y=>uC (JD pos y):=by rw [aB,jC];rfl
 have hcne:c≠[]:=by intro q;subst q;simp at hc
 rw [e]
 have key:∀ (f:Option (Sem dA)×Sem dA->DS->Sem (ForInStep DS)),(∀ y main run,(run++[y]).length≠17->f (uC y) (main,run)=Pure.pure (ForInStep.yield (main,run++[y]))) ->
   (∀ y main run,(run++[y]).length=17->f (uC y) (main,run)=(do let m <- aJ (run++[y]) main;Pure.pure (ForInStep.yield (m,[])))) ->
   RT oB p w n₀ ann (forIn ((c.map (JD pos)).map uC++(cs.flatten++l).map fun y=>uC (JD pos y)) ((none,[]):DS) f>>=KY) S q ((1+(1+13*c.length))+oN cs l) (.ref S.n) (pN S.n (wN S c) (ZA S.toks c) c.length cs l) pos:=by
  intro f F1 F2
  rw [qT F1 F2 _ _ _ _ (by simp;exact hc) (by simpa using hcne),bind_assoc]
  have fl:RT oB p w n₀ ann (aJ ([]++c.map (JD pos)) none) S q (1+(1+13*c.length)) (some S.n) (wN S c) pos:=by
   rw [qF]
   unfold aJ
   rw [if_neg (by simpa using hcne)]
   exact RT.bind (k:=0) (C4 (pos:=pos) (l:=c) hf hn (HI (by decide) hc.symm) (iB (FB hc) (by decide)) h2'.1) RT.pure
  refine RT.bind fl ?_
  exact d4 F1 F2 hn hl hl15 cs (wN S c) (ZA S.toks c) c.length pos ((hf.addO _).tick _) (Nat.ble_eq_true_of_le (eE (LC hn))) (XG hS) (jD _)
   (by show (addO S _).tree.get S.n=_;rw [HL hf];simp) (by intro q;have:=tN c S.toks;rw [q] at this;simp at this;lia) hcs (by rw [tN];lia)
   (fun x hx y hy=>by obtain⟨z,hz,qq⟩:=sN c _ x hx;rw [qq];exact h2'.2.2 z hz y hy) h2'.2.1
 refine key _ ?_ ?_
 ·intro y main run h
  show (if ((run++[y]).length==17)=true then _ else _)=_
  rw [if_neg (by simpa using h)]
 ·intro y main run h
  show (if ((run++[y]).length==17)=true then _ else _)=_
  rw [if_pos (by simpa using h)]
  rfl
end
end Mine
end
section
namespace Mine
abbrev pw:pA:=PySem.Challenge.pw_kl0260_04
noncomputable def lf:Life:={}
noncomputable def kE(P:lA)(s:Str)(t:Tok)(v:dA):pB:=⟨OA.keyHash P s,.str s t,v⟩
noncomputable def JE:List IA:=behindTheImports pw
noncomputable def stm(i:Nat):IA:=JE[i]?.getD (.Pass default)
noncomputable def meth(i j:Nat):IA:=match stm i with | .ClassDef _ _ _ b ..=>b[j]?.getD (.Pass default)|_=>.Pass default
noncomputable def fA:IA->Arguments | .FunctionDef _ a ..=>a|_=>⟨[],[],none,[],[],none,[]⟩
noncomputable def fB:IA->List IA | .FunctionDef _ _ b ..=>b|_=>[]
noncomputable def fS:IA->Scope | .FunctionDef _ _ _ _ _ _ s ..=>s|_=>default
noncomputable def gS:IA->List (Option Expr) | .Assign _ (.Dict ks _ _) _=>ks|_=>[]
noncomputable def kS:IA->List Expr | .Assign _ (.Dict _ vs _) _=>vs|_=>[]
noncomputable def nh:Option Expr->Int|some (.Constant (.int k) _ _)=>k|_=>0
noncomputable def Hs:Expr->Str | .Constant (.str s) _ _=>s|_=>Str.empty
noncomputable def nB:List (Int×Str):=((gS (stm 58)).map nh).zip ((kS (stm 58)).map Hs)
noncomputable def WA(c:dA)(a b:String)(S:IA)(g:Nat)(d k m r:dA):Obj:=⟨c,none,(.func { name:=(nA a),qualname:=(nA b),params:=fA S,body:=.stmts (fB S),scope:=fS S,globals:=g,closure:=[],defaults:=d,kwdefaults:=k,doc:=.none,pyModule:=m,annotations:=none,code:=r,closureTuple:=.none,builtins:=0 }),#[]⟩
noncomputable def QB(a:String)(t1:Nat)(b:String)(t2 t3:Nat)(i1 i2 i3 i4 i5:Int)(r1:Nat)(x:Bool)(r2:Nat)(v1 v2 v3 v4:dA)(i6 i7:Int)(t4:Nat):Obj:=⟨(.type "code"),none,(.fields #[(.str (nA a) t1),(.str (nA b) t2),(.str (nA "/claim/cut.py") t3),(.int i1 0),(.int i2 0),(.int i3 0),(.int i4 0),(.int i5 0),(.ref r1),(.bool x),(.int 276 0),(.ref r2),v1,v2,v3,v4,(.int i6 0),(.int i7 0),(.str (nA "/claim/cut.py") t4)]),#[]⟩
noncomputable def aA(P:lA)(a:String)(t:Tok)(v:dA):pB:=kE P (nA a) t v
noncomputable def tK(P:lA):Obj:=⟨(.type "dict"),none,(.dict #[(aA P "builtins" 162 (.ref 4)),(aA P "__main__" 163 (.ref 5)),(aA P "_sre" 244 (.ref 12))] 3),#[]⟩
noncomputable def oH(P:lA):Obj:=⟨.none,none,(.dict #[(aA P "im\x70ort.loaded._sre" 183 (.bool true)),(aA P "class._frozen_importlib.BuiltinImporter" 185 (.ref 14)),(aA P "watched.im\x70ort" 206 (.ref 18)),(aA P "class._frozen_importlib.ModuleSpec" 216 (.ref 22)),(aA P "sys.modules.booked-epoch" 245 (.int 3 0)),(aA P "im\x70ort.later-laid._sre" 270 (.bool true)),(aA P "watched.library" 272 (.ref 27)),(aA P "watched.library-objects" 0 (.str (FJ #[12]) 0)),(aA P "watched.library-deep._sre" 273 (.str (FJ #[4,0,0,11,4,0,0,11,4,0,0,3,4,0,0,11,8,4,100,105,99,116,2]) 0))] 9),#[]⟩
noncomputable def xU(P:lA):Obj:=⟨(.type "dict"),none,(.dict #[(aA P "__name__" 165 (.str (nA "__main__") 164)),(aA P "__doc__" 166 .none),(aA P "__package__" 167 .none),(aA P "__loader__" 168 (.builtin "__main__.__loader__#opaque")),(aA P "__spec__" 169 .none),(aA P "__annotations__" 170 (.ref 6)),(aA P "__builtins__" 171 (.ref 4)),(aA P "__file__" 173 (.str (nA "/claim/cut.py") 172)),(aA P "__cached__" 174 .none),(aA P "_sre" 275 (.ref 12))] 10),#[]⟩
noncomputable def kK(P:lA):Obj:=⟨(.type "dict"),none,(.dict #[(aA P "__name__" 247 (.str (nA "_sre") 246)),(aA P "__doc__" 248 .none),(aA P "__package__" 250 (.str (nA "") 249)),(aA P "__loader__" 251 (.builtin "off-the-table:_sre.__loader__:shared#opaque")),(aA P "__spec__" 252 (.builtin "off-the-table:_sre.__spec__:shared#opaque")),(aA P "compile" 253 (.builtin "_sre.compile")),(aA P "template" 254 (.builtin "off-the-table:_sre.template:shared#opaque")),(aA P "getcodesize" 255 (.builtin "off-the-table:_sre.getcodesize:shared#opaque")),(aA P "ascii_iscased" 256 (.builtin "off-the-table:_sre.ascii_iscased:shared#opaque")),(aA P "unicode_iscased" 257 (.builtin "off-the-table:_sre.unicode_iscased:shared#opaque")),(aA P "ascii_tolower" 258 (.builtin "off-the-table:_sre.ascii_tolower:shared#opaque")),(aA P "unicode_tolower" 259 (.builtin "off-the-table:_sre.unicode_tolower:shared#opaque")),(aA P "MAGIC" 261 (.int 20230612 260)),(aA P "CODESIZE" 263 (.int 4 262)),(aA P "MAXREPEAT" 265 (.int 4294967295 264)),(aA P "MAXGROUPS" 267 (.int 1073741823 266)),(aA P "copyright" 269 (.str (nA " SRE 2.2.2 Copyright (c) 1997-2002 by Secret Labs AB ") 268))] 17),#[]⟩
noncomputable def lK(P:lA):Obj:=⟨(.type "module"),(some 11),.plain,#[]⟩
noncomputable def mK(P:lA):Obj:=⟨(.type "dict"),none,(.dict #[(aA P "__module__" 189 (.str (nA "_frozen_importlib") 186)),(aA P "__firstlineno__" 190 (.int 971 187)),(aA P "__doc__" 191 (.builtin "_frozen_importlib.BuiltinImporter.__doc__:str#opaque")),(aA P "_ORIGIN" 192 (.str (nA "built-in") 188)),(aA P "find_spec" 193 (.builtin "_frozen_importlib.BuiltinImporter.find_spec#opaque")),(aA P "create_module" 194 (.builtin "_frozen_importlib.BuiltinImporter.create_module#opaque")),(aA P "exec_module" 195 (.builtin "_frozen_importlib.BuiltinImporter.exec_module#opaque")),(aA P "get_code" 196 (.builtin "_frozen_importlib.BuiltinImporter.get_code#opaque")),(aA P "get_source" 197 (.builtin "_frozen_importlib.BuiltinImporter.get_source#opaque")),(aA P "is_package" 198 (.builtin "_frozen_importlib.BuiltinImporter.is_package#opaque")),(aA P "load_module" 199 (.builtin "_frozen_importlib.BuiltinImporter.load_module#opaque")),(aA P "__static_attributes__" 200 (.ref 15)),(aA P "__dict__" 202 (.ref 16)),(aA P "__weakref__" 204 (.ref 17))] 14),#[]⟩
noncomputable def nK(P:lA):Obj:=⟨(.type "type"),none,(.cls { name:=(nA "BuiltinImporter"),bases:=[(.type "object")],mro:=[(.ref 14),(.type "object")],ns:=13,qualname:=(nA "BuiltinImporter"),hasDict:=true,slotNames:=[],subclasses:=[],abstract:=false,collection:=none,hasDel:=false }),#[]⟩
noncomputable def zA(P:lA):Obj:=⟨(.type "tuple"),none,(.seq #[] 0),#[]⟩
noncomputable def pK(P:lA):Obj:=⟨(.type "getset_descriptor"),none,(.fields #[(.str (nA "__dict__") 201),(.ref 14),(.builtin "function.__dict__"),(.builtin "function.__dict__#set")]),#[]⟩
noncomputable def qK(P:lA):Obj:=⟨(.type "getset_descriptor"),none,(.fields #[(.str (nA "__weakref__") 203),(.ref 14),(.builtin "ExceptionGroup.__weakref__"),.none]),#[]⟩
noncomputable def rK(P:lA):Obj:=⟨.none,none,(.seq #[(.int 13 0),(.str (FJ #[6,189,10,95,95,109,111,100,117,108,101,95,95,6,186,17,95,102,114,111,122,101,110,95,105,109,112,111,114,116,108,105,98,6,190,15,95,95,102,105,114,115,116,108,105,110,101,110,111,95,95,4,187,0,971,6,191,7,95,95,100,111,99,95,95,9,52,95,102,114,111,122,101,110,95,105,109,112,111,114,116,108,105,98,46,66,117,105,108,116,105,110,73,109,112,111,114,116,101,114,46,95,95,100,111,99,95,95,58,115,116,114,35,111,112,97,113,117,101,6,192,7,95,79,82,73,71,73,78,6,188,8,98,117,105,108,116,45,105,110,6,193,9,102,105,110,100,95,115,112,101,99,9,50,95,102,114,111,122,101,110,95,105,109,112,111,114,116,108,105,98,46,66,117,105,108,116,105,110,73,109,112,111,114,116,101,114,46,102,105,110,100,95,115,112,101,99,35,111,112,97,113,117,101,6,194,13,99,114,101,97,116,101,95,109,111,100,117,108,101,9,54,95,102,114,111,122,101,110,95,105,109,112,111,114,116,108,105,98,46,66,117,105,108,116,105,110,73,109,112,111,114,116,101,114,46,99,114,101,97,116,101,95,109,111,100,117,108,101,35,111,112,97,113,117,101,6,195,11,101,120,101,99,95,109,111,100,117,108,101,9,52,95,102,114,111,122,101,110,95,105,109,112,111,114,116,108,105,98,46,66,117,105,108,116,105,110,73,109,112,111,114,116,101,114,46,101,120,101,99,95,109,111,100,117,108,101,35,111,112,97,113,117,101,6,196,8,103,101,116,95,99,111,100,101,9,49,95,102,114,111,122,101,110,95,105,109,112,111,114,116,108,105,98,46,66,117,105,108,116,105,110,73,109,112,111,114,116,101,114,46,103,101,116,95,99,111,100,101,35,111,112,97,113,117,101,6,197,10,103,101,116,95,115,111,117,114,99,101,9,51,95,102,114,111,122,101,110,95,105,109,112,111,114,116,108,105,98,46,66,117,105,108,116,105,110,73,109,112,111,114,116,101,114,46,103,101,116,95,115,111,117,114,99,101,35,111,112,97,113,117,101,6,198,10,105,115,95,112,97,99,107,97,103,101,9,51,95,102,114,111,122,101,110,95,105,109,112,111,114,116,108,105,98,46,66,117,105,108,116,105,110,73,109,112,111,114,116,101,114,46,105,115,95,112,97,99,107,97,103,101,35,111,112,97,113,117,101,6,199,11,108,111,97,100,95,109,111,100,117,108,101,9,52,95,102,114,111,122,101,110,95,105,109,112,111,114,116,108,105,98,46,66,117,105,108,116,105,110,73,109,112,111,114,116,101,114,46,108,111,97,100,95,109,111,100,117,108,101,35,111,112,97,113,117,101,6,200,21,95,95,115,116,97,116,105,99,95,97,116,116,114,105,98,117,116,101,115,95,95,4,0,0,15,6,202,8,95,95,100,105,99,116,95,95,4,0,0,16,6,204,11,95,95,119,101,97,107,114,101,102,95,95,4,0,0,17]) 0),(.bool true),(.bool true),(.str (nA "") 205),(.int 21 0),(.str (FJ #[6,227,10,95,95,109,111,100,117,108,101,95,95,6,217,17,95,102,114,111,122,101,110,95,105,109,112,111,114,116,108,105,98,6,228,15,95,95,102,105,114,115,116,108,105,110,101,110,111,95,95,4,218,0,562,6,229,7,95,95,100,111,99,95,95,9,47,95,102,114,111,122,101,110,95,105,109,112,111,114,116,108,105,98,46,77,111,100,117,108,101,83,112,101,99,46,95,95,100,111,99,95,95,58,115,116,114,35,111,112,97,113,117,101,6,230,8,95,95,105,110,105,116,95,95,9,44,95,102,114,111,122,101,110,95,105,109,112,111,114,116,108,105,98,46,77,111,100,117,108,101,83,112,101,99,46,95,95,105,110,105,116,95,95,35,111,112,97,113,117,101,6,231,8,95,95,114,101,112,114,95,95,9,44,95,102,114,111,122,101,110,95,105,109,112,111,114,116,108,105,98,46,77,111,100,117,108,101,83,112,101,99,46,95,95,114,101,112,114,95,95,35,111,112,97,113,117,101,6,232,6,95,95,101,113,95,95,9,42,95,102,114,111,122,101,110,95,105,109,112,111,114,116,108,105,98,46,77,111,100,117,108,101,83,112,101,99,46,95,95,101,113,95,95,35,111,112,97,113,117,101,6,233,6,99,97,99,104,101,100,9,42,95,102,114,111,122,101,110,95,105,109,112,111,114,116,108,105,98,46,77,111,100,117,108,101,83,112,101,99,46,99,97,99,104,101,100,35,111,112,97,113,117,101,6,234,6,112,97,114,101,110,116,9,42,95,102,114,111,122,101,110,95,105,109,112,111,114,116,108,105,98,46,77,111,100,117,108,101,83,112,101,99,46,112,97,114,101,110,116,35,111,112,97,113,117,101,6,235,12,104,97,115,95,108,111,99,97,116,105,111,110,9,48,95,102,114,111,122,101,110,95,105,109,112,111,114,116,108,105,98,46,77,111,100,117,108,101,83,112,101,99,46,104,97,115,95,108,111,99,97,116,105,111,110,35,111,112,97,113,117,101,6,236,21,95,95,115,116,97,116,105,99,95,97,116,116,114,105,98,117,116,101,115,95,95,4,0,0,23,6,238,8,95,95,100,105,99,116,95,95,4,0,0,24,6,240,11,95,95,119,101,97,107,114,101,102,95,95,4,0,0,25,6,241,8,95,95,104,97,115,104,95,95,0]) 0),(.bool true),(.bool true),(.str (nA "") 242)] 1),#[]⟩
noncomputable def sK(P:lA):Obj:=⟨(.type "list"),none,(.seq #[] 0),#[]⟩
noncomputable def uK(P:lA):Obj:=⟨(.type "dict"),none,(.dict #[(aA P "name" 208 (.str (nA "_sre") 207)),(aA P "loader" 209 (.ref 14)),(aA P "origin" 210 (.str (nA "built-in") 184)),(aA P "loader_state" 211 .none),(aA P "submodule_search_locations" 212 .none),(aA P "_uninitialized_submodules" 213 (.ref 19)),(aA P "_set_fileattr" 214 (.bool false)),(aA P "_cached" 215 .none),(aA P "_initializing" 243 (.bool false))] 9),#[]⟩
noncomputable def vK(P:lA):Obj:=⟨(.type "dict"),none,(.dict #[(aA P "__module__" 227 (.str (nA "_frozen_importlib") 217)),(aA P "__firstlineno__" 228 (.int 562 218)),(aA P "__doc__" 229 (.builtin "_frozen_importlib.ModuleSpec.__doc__:str#opaque")),(aA P "__init__" 230 (.builtin "_frozen_importlib.ModuleSpec.__init__#opaque")),(aA P "__repr__" 231 (.builtin "_frozen_importlib.ModuleSpec.__repr__#opaque")),(aA P "__eq__" 232 (.builtin "_frozen_importlib.ModuleSpec.__eq__#opaque")),(aA P "cached" 233 (.builtin "_frozen_importlib.ModuleSpec.cached#opaque")),(aA P "parent" 234 (.builtin "_frozen_importlib.ModuleSpec.parent#opaque")),(aA P "has_location" 235 (.builtin "_frozen_importlib.ModuleSpec.has_location#opaque")),(aA P "__static_attributes__" 236 (.ref 23)),(aA P "__dict__" 238 (.ref 24)),(aA P "__weakref__" 240 (.ref 25)),(aA P "__hash__" 241 .none)] 13),#[]⟩
noncomputable def wK(P:lA):Obj:=⟨(.type "type"),none,(.cls { name:=(nA "ModuleSpec"),bases:=[(.type "object")],mro:=[(.ref 22),(.type "object")],ns:=21,qualname:=(nA "ModuleSpec"),hasDict:=true,slotNames:=[],subclasses:=[],abstract:=false,collection:=none,hasDel:=false }),#[]⟩
noncomputable def xK(P:lA):Obj:=⟨(.type "tuple"),none,(.seq #[(.str (nA "_cached") 219),(.str (nA "_set_fileattr") 220),(.str (nA "_uninitialized_submodules") 221),(.str (nA "loader") 222),(.str (nA "loader_state") 223),(.str (nA "name") 224),(.str (nA "origin") 225),(.str (nA "submodule_search_locations") 226)] 0),#[]⟩
noncomputable def yK(P:lA):Obj:=⟨(.type "getset_descriptor"),none,(.fields #[(.str (nA "__dict__") 237),(.ref 22),(.builtin "function.__dict__"),(.builtin "function.__dict__#set")]),#[]⟩
noncomputable def zK(P:lA):Obj:=⟨(.type "getset_descriptor"),none,(.fields #[(.str (nA "__weakref__") 239),(.ref 22),(.builtin "ExceptionGroup.__weakref__"),.none]),#[]⟩
noncomputable def BK(P:lA):Obj:=⟨(.ref 22),(some 20),.plain,#[]⟩
noncomputable def DK(P:lA):Obj:=⟨.none,none,(.seq #[(.int 11 0),(.str (FJ #[6,247,8,95,95,110,97,109,101,95,95,6,246,4,95,115,114,101,6,248,7,95,95,100,111,99,95,95,0,6,250,11,95,95,112,97,99,107,97,103,101,95,95,6,249,0,6,251,10,95,95,108,111,97,100,101,114,95,95,4,0,0,14,6,252,8,95,95,115,112,101,99,95,95,4,0,0,26,6,253,7,99,111,109,112,105,108,101,9,12,95,115,114,101,46,99,111,109,112,105,108,101,6,254,8,116,101,109,112,108,97,116,101,9,13,95,115,114,101,46,116,101,109,112,108,97,116,101,6,255,11,103,101,116,99,111,100,101,115,105,122,101,9,16,95,115,114,101,46,103,101,116,99,111,100,101,115,105,122,101,6,256,13,97,115,99,105,105,95,105,115,99,97,115,101,100,9,18,95,115,114,101,46,97,115,99,105,105,95,105,115,99,97,115,101,100,6,257,15,117,110,105,99,111,100,101,95,105,115,99,97,115,101,100,9,20,95,115,114,101,46,117,110,105,99,111,100,101,95,105,115,99,97,115,101,100,6,258,13,97,115,99,105,105,95,116,111,108,111,119,101,114,9,18,95,115,114,101,46,97,115,99,105,105,95,116,111,108,111,119,101,114,6,259,15,117,110,105,99,111,100,101,95,116,111,108,111,119,101,114,9,20,95,115,114,101,46,117,110,105,99,111,100,101,95,116,111,108,111,119,101,114,6,261,5,77,65,71,73,67,4,260,0,20230612,6,263,8,67,79,68,69,83,73,90,69,4,262,0,4,6,265,9,77,65,88,82,69,80,69,65,84,4,264,0,4294967295,6,267,9,77,65,88,71,82,79,85,80,83,4,266,0,1073741823,6,269,9,99,111,112,121,114,105,103,104,116,6,268,53,32,83,82,69,32,50,46,50,46,50,32,67,111,112,121,114,105,103,104,116,32,40,99,41,32,49,57,57,55,45,50,48,48,50,32,98,121,32,83,101,99,114,101,116,32,76,97,98,115,32,65,66,32]) 0),(.bool true),(.bool false),(.str (nA "_sre") 271)] 0),#[]⟩
noncomputable def jH(P:lA):Heap:=⟨#[boot_o_0 P,tK P,oH P,xU P,boot_o_4 P,boot_o_5 P,boot_o_6 P,boot_o_7 P,boot_o_8 P,boot_o_9 P,boot_o_10 P,kK P,lK P,mK P,nK P,zA P,pK P,qK P,rK P,sK P,uK P,vK P,wK P,xK P,yK P,zK P,BK P,DK P],lf⟩
noncomputable def EO(w:eA)(os:XD):iA:=⟨jH w.params,#[],⟨0,0,0,0⟩,276,os⟩
noncomputable def kB(P:lA):Obj:=⟨.none,none,(.fields #[]),#[]⟩
noncomputable def lM(P:lA):Obj:=QB "<module>" 277 "<module>" 278 279 1 0 0 0 0 28 false 29 .none .none .none .none 280 1 281
noncomputable def mM(P:lA):Obj:=⟨(.type "frame"),none,.plain,#[(some (.ref 30)),(some (.ref 3)),(some (.ref 3)),none,(some (.str (nA "__main__") 164)),none,(some (.ref 0))]⟩
noncomputable def uf(P:lA):Heap:=⟨#[boot_o_0 P,tK P,oH P,xU P,boot_o_4 P,boot_o_5 P,boot_o_6 P,boot_o_7 P,boot_o_8 P,boot_o_9 P,boot_o_10 P,kK P,lK P,mK P,nK P,zA P,pK P,qK P,rK P,sK P,uK P,vK P,wK P,xK P,yK P,zK P,BK P,DK P,zA P,kB P,lM P,mM P],lf⟩
noncomputable def Y4(w:eA)(os:XD):iA:=⟨uf w.params,#[],⟨0,0,0,0⟩,282,os⟩
noncomputable def fs(P:lA):BT:=(.node (boot_o_0 P) (.node (tK P) (.node (xU P) (.node (boot_o_7 P) (.node (zA P) (.node (mM P) .nil .nil) .nil) (.node (xK P) .nil .nil)) (.node (kK P) (.node (sK P) .nil .nil) (.node (DK P) .nil .nil))) (.node (boot_o_5 P) (.node (boot_o_9 P) (.node (qK P) .nil .nil) (.node (zK P) .nil .nil)) (.node (mK P) (.node (vK P) .nil .nil) (.node (kB P) .nil .nil)))) (.node (oH P) (.node (boot_o_4 P) (.node (boot_o_8 P) (.node (pK P) .nil .nil) (.node (yK P) .nil .nil)) (.node (lK P) (.node (uK P) .nil .nil) (.node (zA P) .nil .nil))) (.node (boot_o_6 P) (.node (boot_o_10 P) (.node (rK P) .nil .nil) (.node (BK P) .nil .nil)) (.node (nK P) (.node (wK P) .nil .nil) (.node (lM P) .nil .nil)))))
noncomputable def pV(w:eA)(os:XD):xB:=⟨fs w.params,32,lf,#[],⟨0,0,0,0⟩,282,os⟩
noncomputable def Ym(P:lA):Obj:=⟨(.type "dict"),none,(.dict #[(aA P "__name__" 165 (.str (nA "cpy313.stringprep") 502)),(aA P "__doc__" 166 .none),(aA P "__package__" 167 .none),(aA P "__loader__" 168 (.builtin "__main__.__loader__#opaque")),(aA P "__spec__" 169 .none),(aA P "__annotations__" 170 (.ref 6)),(aA P "__builtins__" 171 (.ref 4)),(aA P "__file__" 173 (.str (nA "/claim/cut.py") 172)),(aA P "__cached__" 174 .none),(aA P "_sre" 275 (.ref 12)),(aA P "ENDMARKER" 285 (.int 0 284)),(aA P "LPAR" 287 (.int 7 286)),(aA P "RPAR" 289 (.int 8 288)),(aA P "LSQB" 291 (.int 9 290)),(aA P "RSQB" 293 (.int 10 292)),(aA P "COLON" 295 (.int 11 294)),(aA P "COMMA" 297 (.int 12 296)),(aA P "SEMI" 299 (.int 13 298)),(aA P "PLUS" 301 (.int 14 300)),(aA P "MINUS" 303 (.int 15 302)),(aA P "STAR" 305 (.int 16 304)),(aA P "SLASH" 307 (.int 17 306)),(aA P "VBAR" 309 (.int 18 308)),(aA P "AMPER" 311 (.int 19 310)),(aA P "LESS" 313 (.int 20 312)),(aA P "GREATER" 315 (.int 21 314)),(aA P "EQUAL" 317 (.int 22 316)),(aA P "DOT" 319 (.int 23 318)),(aA P "PERCENT" 321 (.int 24 320)),(aA P "LBRACE" 323 (.int 25 322)),(aA P "RBRACE" 325 (.int 26 324)),(aA P "EQEQUAL" 327 (.int 27 326)),(aA P "NOTEQUAL" 329 (.int 28 328)),(aA P "LESSEQUAL" 331 (.int 29 330)),(aA P "GREATEREQUAL" 333 (.int 30 332)),(aA P "TILDE" 335 (.int 31 334)),(aA P "CIRCUMFLEX" 337 (.int 32 336)),(aA P "LEFTSHIFT" 339 (.int 33 338)),(aA P "RIGHTSHIFT" 341 (.int 34 340)),(aA P "DOUBLESTAR" 343 (.int 35 342)),(aA P "PLUSEQUAL" 345 (.int 36 344)),(aA P "MINEQUAL" 347 (.int 37 346)),(aA P "STAREQUAL" 349 (.int 38 348)),(aA P "SLASHEQUAL" 351 (.int 39 350)),(aA P "PERCENTEQUAL" 353 (.int 40 352)),(aA P "AMPEREQUAL" 355 (.int 41 354)),(aA P "VBAREQUAL" 357 (.int 42 356)),(aA P "CIRCUMFLEXEQUAL" 359 (.int 43 358)),(aA P "LEFTSHIFTEQUAL" 361 (.int 44 360)),(aA P "RIGHTSHIFTEQUAL" 363 (.int 45 362)),(aA P "DOUBLESTAREQUAL" 365 (.int 46 364)),(aA P "DOUBLESLASH" 367 (.int 47 366)),(aA P "DOUBLESLASHEQUAL" 369 (.int 48 368)),(aA P "AT" 371 (.int 49 370)),(aA P "ATEQUAL" 373 (.int 50 372)),(aA P "RARROW" 375 (.int 51 374)),(aA P "ELLIPSIS" 377 (.int 52 376)),(aA P "COLONEQUAL" 379 (.int 53 378)),(aA P "EXCLAMATION" 381 (.int 54 380)),(aA P "NT_OFFSET" 383 (.int 256 382)),(aA P "EXACT_TOKEN_TYPES" 480 (.ref 32)),(aA P "ISTERMINAL" 487 (.ref 41)),(aA P "ISNONTERMINAL" 494 (.ref 48)),(aA P "ISEOF" 501 (.ref 55))] 64),#[]⟩
noncomputable def N2(P:lA):Obj:=⟨.none,none,(.fields #[(.int 54 0),(.int 0 0),(.ref 40),(.int 56 0),(.int 0 0),(.ref 47),(.int 58 0),(.int 0 0),(.ref 54)]),#[]⟩
noncomputable def pH(P:lA):Obj:=⟨(.type "dict"),none,(.dict #[(aA P "!" 384 (.int 54 380)),(aA P "!=" 386 (.int 28 328)),(aA P "%" 388 (.int 24 320)),(aA P "%=" 390 (.int 40 352)),(aA P "&" 392 (.int 19 310)),(aA P "&=" 394 (.int 41 354)),(aA P "(" 396 (.int 7 286)),(aA P ")" 398 (.int 8 288)),(aA P "*" 400 (.int 16 304)),(aA P "**" 402 (.int 35 342)),(aA P "**=" 404 (.int 46 364)),(aA P "*=" 406 (.int 38 348)),(aA P "+" 408 (.int 14 300)),(aA P "+=" 410 (.int 36 344)),(aA P "," 412 (.int 12 296)),(aA P "-" 414 (.int 15 302)),(aA P "-=" 416 (.int 37 346)),(aA P "->" 418 (.int 51 374)),(aA P "." 420 (.int 23 318)),(aA P "..." 422 (.int 52 376)),(aA P "/" 424 (.int 17 306)),(aA P "//" 426 (.int 47 366)),(aA P "//=" 428 (.int 48 368)),(aA P "/=" 430 (.int 39 350)),(aA P ":" 432 (.int 11 294)),(aA P ":=" 434 (.int 53 378)),(aA P ";" 436 (.int 13 298)),(aA P "<" 438 (.int 20 312)),(aA P "<<" 440 (.int 33 338)),(aA P "<<=" 442 (.int 44 360)),(aA P "<=" 444 (.int 29 330)),(aA P "=" 446 (.int 22 316)),(aA P "==" 448 (.int 27 326)),(aA P ">" 450 (.int 21 314)),(aA P ">=" 452 (.int 30 332)),(aA P ">>" 453 (.int 34 340)),(aA P ">>=" 454 (.int 45 362)),(aA P "@" 455 (.int 49 370)),(aA P "@=" 456 (.int 50 372)),(aA P "[" 457 (.int 9 290)),(aA P "]" 458 (.int 10 292)),(aA P "^" 459 (.int 32 336)),(aA P "^=" 460 (.int 43 358)),(aA P "{" 461 (.int 25 322)),(aA P "|" 462 (.int 18 308)),(aA P "|=" 463 (.int 42 356)),(aA P "}" 464 (.int 26 324)),(aA P "~" 465 (.int 31 334))] 48),#[]⟩
noncomputable def IQ(P:lA):Obj:=⟨(.type "dict"),none,(.dict #[(aA P "->" 418 (.int 51 374)),(aA P "." 420 (.int 23 318)),(aA P "..." 422 (.int 52 376)),(aA P "/" 424 (.int 17 306)),(aA P "//" 426 (.int 47 366)),(aA P "//=" 428 (.int 48 368)),(aA P "/=" 430 (.int 39 350)),(aA P ":" 432 (.int 11 294)),(aA P ":=" 434 (.int 53 378)),(aA P ";" 436 (.int 13 298)),(aA P "<" 438 (.int 20 312)),(aA P "<<" 440 (.int 33 338)),(aA P "<<=" 442 (.int 44 360)),(aA P "<=" 444 (.int 29 330)),(aA P "=" 446 (.int 22 316)),(aA P "==" 448 (.int 27 326)),(aA P ">" 450 (.int 21 314))] 17),#[]⟩
noncomputable def JQ(P:lA):Obj:=⟨(.type "dict"),none,(.dict #[(aA P ">=" 452 (.int 30 332)),(aA P ">>" 453 (.int 34 340)),(aA P ">>=" 454 (.int 45 362)),(aA P "@" 455 (.int 49 370)),(aA P "@=" 456 (.int 50 372)),(aA P "[" 457 (.int 9 290)),(aA P "]" 458 (.int 10 292)),(aA P "^" 459 (.int 32 336)),(aA P "^=" 460 (.int 43 358)),(aA P "{" 461 (.int 25 322)),(aA P "|" 462 (.int 18 308)),(aA P "|=" 463 (.int 42 356)),(aA P "}" 464 (.int 26 324)),(aA P "~" 465 (.int 31 334))] 14),#[]⟩
noncomputable def jO(P:lA):Obj:=⟨(.type "tuple"),none,(.seq #[(.str (nA "x") 484)] 0),#[]⟩
noncomputable def kO(P:lA):Obj:=WA .none "ISTERMINAL" "ISTERMINAL" (stm 52) 0 .none .none .none .none
noncomputable def EK(P:lA):Obj:=QB "ISTERMINAL" 481 "ISTERMINAL" 482 483 54 1 0 0 3 35 true 36 .none (.ref 37) (.ref 38) (.ref 39) 485 54 486
noncomputable def qI(P:lA):Obj:=WA (.type "function") "ISTERMINAL" "ISTERMINAL" (stm 52) 3 .none .none (.str (nA "cpy313.token") 282) (.ref 40)
noncomputable def lO(P:lA):Obj:=⟨(.type "tuple"),none,(.seq #[(.str (nA "x") 491)] 0),#[]⟩
noncomputable def mO(P:lA):Obj:=WA .none "ISNONTERMINAL" "ISNONTERMINAL" (stm 53) 0 .none .none .none .none
noncomputable def FK(P:lA):Obj:=QB "ISNONTERMINAL" 488 "ISNONTERMINAL" 489 490 56 1 0 0 3 42 true 43 .none (.ref 44) (.ref 45) (.ref 46) 492 56 493
noncomputable def rI(P:lA):Obj:=WA (.type "function") "ISNONTERMINAL" "ISNONTERMINAL" (stm 53) 3 .none .none (.str (nA "cpy313.token") 282) (.ref 47)
noncomputable def nO(P:lA):Obj:=⟨(.type "tuple"),none,(.seq #[(.str (nA "x") 498)] 0),#[]⟩
noncomputable def oO(P:lA):Obj:=WA .none "ISEOF" "ISEOF" (stm 54) 0 .none .none .none .none
noncomputable def GK(P:lA):Obj:=QB "ISEOF" 495 "ISEOF" 496 497 58 1 0 0 3 49 true 50 .none (.ref 51) (.ref 52) (.ref 53) 499 58 500
noncomputable def sI(P:lA):Obj:=WA (.type "function") "ISEOF" "ISEOF" (stm 54) 3 .none .none (.str (nA "cpy313.token") 282) (.ref 54)
noncomputable def ls(P:lA):BT:=(.node (boot_o_0 P) (.node (tK P) (.node (Ym P) (.node (boot_o_7 P) (.node (zA P) (.node (mM P) .nil .nil) (.node (FK P) .nil .nil)) (.node (xK P) (.node (kO P) .nil .nil) (.node (sI P) .nil .nil))) (.node (kK P) (.node (sK P) (.node (zA P) .nil .nil) (.node (nO P) .nil .nil)) (.node (DK P) (.node (kB P) .nil .nil) .nil))) (.node (boot_o_5 P) (.node (boot_o_9 P) (.node (qK P) (.node (IQ P) .nil .nil) (.node (zA P) .nil .nil)) (.node (zK P) (.node (qI P) .nil .nil) .nil)) (.node (mK P) (.node (vK P) (.node (jO P) .nil .nil) (.node (oO P) .nil .nil)) (.node (N2 P) (.node (zA P) .nil .nil) .nil)))) (.node (oH P) (.node (boot_o_4 P) (.node (boot_o_8 P) (.node (pK P) (.node (pH P) .nil .nil) (.node (rI P) .nil .nil)) (.node (yK P) (.node (EK P) .nil .nil) .nil)) (.node (lK P) (.node (uK P) (.node (kB P) .nil .nil) (.node (zA P) .nil .nil)) (.node (zA P) (.node (lO P) .nil .nil) .nil))) (.node (boot_o_6 P) (.node (boot_o_10 P) (.node (rK P) (.node (JQ P) .nil .nil) (.node (kB P) .nil .nil)) (.node (BK P) (.node (zA P) .nil .nil) .nil)) (.node (nK P) (.node (wK P) (.node (zA P) .nil .nil) (.node (GK P) .nil .nil)) (.node (lM P) (.node (mO P) .nil .nil) .nil)))))
noncomputable def HM(w:eA)(os:XD):xB:=⟨ls w.params,56,lf,#[],⟨0,0,0,0⟩,504,os⟩
noncomputable def Zm(P:lA):Obj:=⟨(.type "dict"),none,(.dict #[(aA P "__name__" 165 (.str (nA "cpy313.stringprep") 502)),(aA P "__doc__" 166 .none),(aA P "__package__" 167 .none),(aA P "__loader__" 168 (.builtin "__main__.__loader__#opaque")),(aA P "__spec__" 169 .none),(aA P "__annotations__" 170 (.ref 6)),(aA P "__builtins__" 171 (.ref 4)),(aA P "__file__" 173 (.str (nA "/claim/cut.py") 172)),(aA P "__cached__" 174 .none),(aA P "_sre" 275 (.ref 12)),(aA P "ENDMARKER" 285 (.int 0 284)),(aA P "LPAR" 287 (.int 7 286)),(aA P "RPAR" 289 (.int 8 288)),(aA P "LSQB" 291 (.int 9 290)),(aA P "RSQB" 293 (.int 10 292)),(aA P "COLON" 295 (.int 11 294)),(aA P "COMMA" 297 (.int 12 296)),(aA P "SEMI" 299 (.int 13 298)),(aA P "PLUS" 301 (.int 14 300)),(aA P "MINUS" 303 (.int 15 302)),(aA P "STAR" 305 (.int 16 304)),(aA P "SLASH" 307 (.int 17 306)),(aA P "VBAR" 309 (.int 18 308)),(aA P "AMPER" 311 (.int 19 310)),(aA P "LESS" 313 (.int 20 312)),(aA P "GREATER" 315 (.int 21 314)),(aA P "EQUAL" 317 (.int 22 316)),(aA P "DOT" 319 (.int 23 318)),(aA P "PERCENT" 321 (.int 24 320)),(aA P "LBRACE" 323 (.int 25 322)),(aA P "RBRACE" 325 (.int 26 324)),(aA P "EQEQUAL" 327 (.int 27 326)),(aA P "NOTEQUAL" 329 (.int 28 328)),(aA P "LESSEQUAL" 331 (.int 29 330)),(aA P "GREATEREQUAL" 333 (.int 30 332)),(aA P "TILDE" 335 (.int 31 334)),(aA P "CIRCUMFLEX" 337 (.int 32 336)),(aA P "LEFTSHIFT" 339 (.int 33 338)),(aA P "RIGHTSHIFT" 341 (.int 34 340)),(aA P "DOUBLESTAR" 343 (.int 35 342)),(aA P "PLUSEQUAL" 345 (.int 36 344)),(aA P "MINEQUAL" 347 (.int 37 346)),(aA P "STAREQUAL" 349 (.int 38 348)),(aA P "SLASHEQUAL" 351 (.int 39 350)),(aA P "PERCENTEQUAL" 353 (.int 40 352)),(aA P "AMPEREQUAL" 355 (.int 41 354)),(aA P "VBAREQUAL" 357 (.int 42 356)),(aA P "CIRCUMFLEXEQUAL" 359 (.int 43 358)),(aA P "LEFTSHIFTEQUAL" 361 (.int 44 360)),(aA P "RIGHTSHIFTEQUAL" 363 (.int 45 362)),(aA P "DOUBLESTAREQUAL" 365 (.int 46 364)),(aA P "DOUBLESLASH" 367 (.int 47 366)),(aA P "DOUBLESLASHEQUAL" 369 (.int 48 368)),(aA P "AT" 371 (.int 49 370)),(aA P "ATEQUAL" 373 (.int 50 372)),(aA P "RARROW" 375 (.int 51 374)),(aA P "ELLIPSIS" 377 (.int 52 376)),(aA P "COLONEQUAL" 379 (.int 53 378)),(aA P "EXCLAMATION" 381 (.int 54 380)),(aA P "NT_OFFSET" 383 (.int 256 382)),(aA P "EXACT_TOKEN_TYPES" 480 (.ref 32)),(aA P "ISTERMINAL" 487 (.ref 41)),(aA P "ISNONTERMINAL" 494 (.ref 48)),(aA P "ISEOF" 501 (.ref 55)),(aA P "b1_set" 563 (.ref 63))] 65),#[]⟩
noncomputable def yU(P:lA):Obj:=⟨(.type "list"),none,(.seq #[(.int 173 504),(.int 847 505),(.int 6150 506),(.int 6155 507),(.int 6156 508),(.int 6157 509),(.int 8203 510),(.int 8204 511),(.int 8205 512),(.int 8288 513),(.int 65279 514)] 0),#[]⟩
noncomputable def zU(P:lA):Obj:=⟨(.type "range"),none,(.fields #[(.int 65024 515),(.int 65040 516),(.int 1 517)]),#[]⟩
noncomputable def AU(P:lA):Obj:=⟨(.type "list"),none,(.seq #[(.int 65024 520),(.int 65025 521),(.int 65026 522),(.int 65027 523),(.int 65028 524),(.int 65029 525),(.int 65030 526),(.int 65031 527),(.int 65032 528),(.int 65033 529),(.int 65034 530),(.int 65035 531),(.int 65036 532),(.int 65037 533),(.int 65038 534),(.int 65039 535)] 18),#[]⟩
noncomputable def BU(P:lA):Obj:=⟨(.type "range_iterator"),none,(.fields #[(.int 65040 0),(.int 0 0),(.int 1 0)]),#[]⟩
noncomputable def CU(P:lA):Obj:=⟨(.type "StopIteration"),none,(.fields #[(.ref 60),.none,.none,.none,(.bool false),.none]),#[]⟩
noncomputable def DU(P:lA):Obj:=⟨(.type "list"),none,(.seq #[(.int 173 504),(.int 847 505),(.int 6150 506),(.int 6155 507),(.int 6156 508),(.int 6157 509),(.int 8203 510),(.int 8204 511),(.int 8205 512),(.int 8288 513),(.int 65279 514),(.int 65024 520),(.int 65025 521),(.int 65026 522),(.int 65027 523),(.int 65028 524),(.int 65029 525),(.int 65030 526),(.int 65031 527),(.int 65032 528),(.int 65033 529),(.int 65034 530),(.int 65035 531),(.int 65036 532),(.int 65037 533),(.int 65038 534),(.int 65039 535)] 0),#[]⟩
noncomputable def xG(P:lA):Obj:=⟨(.type "set"),none,(.set #[(65024,(.int 65024 520)),(65025,(.int 65025 521)),(65026,(.int 65026 522)),(65027,(.int 65027 523)),(65028,(.int 65028 524)),(65029,(.int 65029 525)),(6150,(.int 6150 506)),(65030,(.int 65030 526)),(65031,(.int 65031 527)),(65032,(.int 65032 528)),(65033,(.int 65033 529)),(6155,(.int 6155 507)),(6156,(.int 6156 508)),(6157,(.int 6157 509)),(8203,(.int 8203 510)),(8204,(.int 8204 511)),(8205,(.int 8205 512)),(65034,(.int 65034 530)),(65035,(.int 65035 531)),(65036,(.int 65036 532)),(65037,(.int 65037 533)),(65038,(.int 65038 534)),(65039,(.int 65039 535)),(173,(.int 173 504)),(847,(.int 847 505)),(8288,(.int 8288 513)),(65279,(.int 65279 514))] 29 { mask:=127,place:=#[0,1,2,3,4,5,6,7,8,9,10,11,12,13,14,15,16,17,18,19,20,21,22,45,79,96,127],dummies:=#[],finger:=0,led:=(!P.followText "set-order"),moves:=2,plain:=true }),#[]⟩
noncomputable def EU(P:lA):Obj:=⟨(.type "list_iterator"),none,(.fields #[.none,(.int 27 0)]),#[]⟩
noncomputable def FU(P:lA):Obj:=⟨(.type "StopIteration"),none,(.fields #[(.ref 65),.none,.none,.none,(.bool false),.none]),#[]⟩
noncomputable def qs(P:lA):BT:=(.node (boot_o_0 P) (.node (tK P) (.node (Zm P) (.node (boot_o_7 P) (.node (zA P) (.node (mM P) (.node (xG P) .nil .nil) .nil) (.node (FK P) .nil .nil)) (.node (xK P) (.node (kO P) .nil .nil) (.node (sI P) .nil .nil))) (.node (kK P) (.node (sK P) (.node (zA P) .nil .nil) (.node (nO P) .nil .nil)) (.node (DK P) (.node (kB P) .nil .nil) (.node (BU P) .nil .nil)))) (.node (boot_o_5 P) (.node (boot_o_9 P) (.node (qK P) (.node (IQ P) (.node (zA P) .nil .nil) .nil) (.node (zA P) .nil .nil)) (.node (zK P) (.node (qI P) .nil .nil) (.node (zU P) .nil .nil))) (.node (mK P) (.node (vK P) (.node (jO P) .nil .nil) (.node (oO P) .nil .nil)) (.node (N2 P) (.node (zA P) .nil .nil) (.node (CU P) .nil .nil))))) (.node (oH P) (.node (boot_o_4 P) (.node (boot_o_8 P) (.node (pK P) (.node (pH P) (.node (EU P) .nil .nil) .nil) (.node (rI P) .nil .nil)) (.node (yK P) (.node (EK P) .nil .nil) (.node (yU P) .nil .nil))) (.node (lK P) (.node (uK P) (.node (kB P) .nil .nil) (.node (zA P) .nil .nil)) (.node (zA P) (.node (lO P) .nil .nil) (.node (zA P) .nil .nil)))) (.node (boot_o_6 P) (.node (boot_o_10 P) (.node (rK P) (.node (JQ P) (.node (FU P) .nil .nil) .nil) (.node (kB P) .nil .nil)) (.node (BK P) (.node (zA P) .nil .nil) (.node (AU P) .nil .nil))) (.node (nK P) (.node (wK P) (.node (zA P) .nil .nil) (.node (GK P) .nil .nil)) (.node (lM P) (.node (mO P) .nil .nil) (.node (DU P) .nil .nil))))))
noncomputable def DO(w:eA)(os:XD):xB:=⟨qs w.params,67,lf,#[],⟨0,0,0,0⟩,564,os⟩
noncomputable def P2(P:lA):Obj:=⟨(.type "dict"),none,(.dict #[(aA P "__name__" 165 (.str (nA "cpy313.stringprep") 502)),(aA P "__doc__" 166 .none),(aA P "__package__" 167 .none),(aA P "__loader__" 168 (.builtin "__main__.__loader__#opaque")),(aA P "__spec__" 169 .none),(aA P "__annotations__" 170 (.ref 6)),(aA P "__builtins__" 171 (.ref 4)),(aA P "__file__" 173 (.str (nA "/claim/cut.py") 172)),(aA P "__cached__" 174 .none),(aA P "_sre" 275 (.ref 12)),(aA P "ENDMARKER" 285 (.int 0 284)),(aA P "LPAR" 287 (.int 7 286)),(aA P "RPAR" 289 (.int 8 288)),(aA P "LSQB" 291 (.int 9 290)),(aA P "RSQB" 293 (.int 10 292)),(aA P "COLON" 295 (.int 11 294)),(aA P "COMMA" 297 (.int 12 296)),(aA P "SEMI" 299 (.int 13 298)),(aA P "PLUS" 301 (.int 14 300)),(aA P "MINUS" 303 (.int 15 302)),(aA P "STAR" 305 (.int 16 304)),(aA P "SLASH" 307 (.int 17 306)),(aA P "VBAR" 309 (.int 18 308)),(aA P "AMPER" 311 (.int 19 310)),(aA P "LESS" 313 (.int 20 312)),(aA P "GREATER" 315 (.int 21 314)),(aA P "EQUAL" 317 (.int 22 316)),(aA P "DOT" 319 (.int 23 318)),(aA P "PERCENT" 321 (.int 24 320)),(aA P "LBRACE" 323 (.int 25 322)),(aA P "RBRACE" 325 (.int 26 324)),(aA P "EQEQUAL" 327 (.int 27 326)),(aA P "NOTEQUAL" 329 (.int 28 328)),(aA P "LESSEQUAL" 331 (.int 29 330)),(aA P "GREATEREQUAL" 333 (.int 30 332)),(aA P "TILDE" 335 (.int 31 334)),(aA P "CIRCUMFLEX" 337 (.int 32 336)),(aA P "LEFTSHIFT" 339 (.int 33 338)),(aA P "RIGHTSHIFT" 341 (.int 34 340)),(aA P "DOUBLESTAR" 343 (.int 35 342)),(aA P "PLUSEQUAL" 345 (.int 36 344)),(aA P "MINEQUAL" 347 (.int 37 346)),(aA P "STAREQUAL" 349 (.int 38 348)),(aA P "SLASHEQUAL" 351 (.int 39 350)),(aA P "PERCENTEQUAL" 353 (.int 40 352)),(aA P "AMPEREQUAL" 355 (.int 41 354)),(aA P "VBAREQUAL" 357 (.int 42 356)),(aA P "CIRCUMFLEXEQUAL" 359 (.int 43 358)),(aA P "LEFTSHIFTEQUAL" 361 (.int 44 360)),(aA P "RIGHTSHIFTEQUAL" 363 (.int 45 362)),(aA P "DOUBLESTAREQUAL" 365 (.int 46 364)),(aA P "DOUBLESLASH" 367 (.int 47 366)),(aA P "DOUBLESLASHEQUAL" 369 (.int 48 368)),(aA P "AT" 371 (.int 49 370)),(aA P "ATEQUAL" 373 (.int 50 372)),(aA P "RARROW" 375 (.int 51 374)),(aA P "ELLIPSIS" 377 (.int 52 376)),(aA P "COLONEQUAL" 379 (.int 53 378)),(aA P "EXCLAMATION" 381 (.int 54 380)),(aA P "NT_OFFSET" 383 (.int 256 382)),(aA P "EXACT_TOKEN_TYPES" 480 (.ref 32)),(aA P "ISTERMINAL" 487 (.ref 41)),(aA P "ISNONTERMINAL" 494 (.ref 48)),(aA P "ISEOF" 501 (.ref 55)),(aA P "b1_set" 563 (.ref 63)),(aA P "in_table_b1" 570 (.ref 73))] 66),#[]⟩
noncomputable def O2(P:lA):Obj:=⟨.none,none,(.fields #[(.int 54 0),(.int 0 0),(.ref 40),(.int 56 0),(.int 0 0),(.ref 47),(.int 58 0),(.int 0 0),(.ref 54),(.int 62 0),(.int 0 0),(.ref 72)]),#[]⟩
noncomputable def GU(P:lA):Obj:=⟨(.type "tuple"),none,(.seq #[(.str (nA "code") 567)] 0),#[]⟩
noncomputable def HU(P:lA):Obj:=WA .none "in_table_b1" "in_table_b1" (stm 57) 0 .none .none .none .none
noncomputable def pO(P:lA):Obj:=QB "in_table_b1" 564 "in_table_b1" 565 566 62 1 0 0 3 67 true 68 .none (.ref 69) (.ref 70) (.ref 71) 568 62 569
noncomputable def HK(P:lA):Obj:=WA (.type "function") "in_table_b1" "in_table_b1" (stm 57) 3 .none .none (.str (nA "cpy313.stringprep") 502) (.ref 72)
noncomputable def As(P:lA):BT:=(.node (boot_o_0 P) (.node (tK P) (.node (P2 P) (.node (boot_o_7 P) (.node (zA P) (.node (mM P) (.node (xG P) .nil .nil) .nil) (.node (FK P) .nil .nil)) (.node (xK P) (.node (kO P) (.node (HU P) .nil .nil) .nil) (.node (sI P) .nil .nil))) (.node (kK P) (.node (sK P) (.node (zA P) (.node (zA P) .nil .nil) .nil) (.node (nO P) .nil .nil)) (.node (DK P) (.node (kB P) .nil .nil) (.node (BU P) .nil .nil)))) (.node (boot_o_5 P) (.node (boot_o_9 P) (.node (qK P) (.node (IQ P) (.node (zA P) .nil .nil) .nil) (.node (zA P) .nil .nil)) (.node (zK P) (.node (qI P) (.node (HK P) .nil .nil) .nil) (.node (zU P) .nil .nil))) (.node (mK P) (.node (vK P) (.node (jO P) (.node (GU P) .nil .nil) .nil) (.node (oO P) .nil .nil)) (.node (O2 P) (.node (zA P) .nil .nil) (.node (CU P) .nil .nil))))) (.node (oH P) (.node (boot_o_4 P) (.node (boot_o_8 P) (.node (pK P) (.node (pH P) (.node (EU P) .nil .nil) .nil) (.node (rI P) .nil .nil)) (.node (yK P) (.node (EK P) (.node (pO P) .nil .nil) .nil) (.node (yU P) .nil .nil))) (.node (lK P) (.node (uK P) (.node (kB P) (.node (kB P) .nil .nil) .nil) (.node (zA P) .nil .nil)) (.node (zA P) (.node (lO P) .nil .nil) (.node (zA P) .nil .nil)))) (.node (boot_o_6 P) (.node (boot_o_10 P) (.node (rK P) (.node (JQ P) (.node (FU P) .nil .nil) .nil) (.node (kB P) .nil .nil)) (.node (BK P) (.node (zA P) .nil .nil) (.node (AU P) .nil .nil))) (.node (nK P) (.node (wK P) (.node (zA P) (.node (zA P) .nil .nil) .nil) (.node (GK P) .nil .nil)) (.node (lM P) (.node (mO P) .nil .nil) (.node (DU P) .nil .nil))))))
noncomputable def IM(w:eA)(os:XD):xB:=⟨As w.params,74,lf,#[],⟨0,0,0,0⟩,571,os⟩
noncomputable def an(P:lA):Obj:=⟨(.type "dict"),none,(.dict #[(aA P "__name__" 165 (.str (nA "cpy313.stringprep") 502)),(aA P "__doc__" 166 .none),(aA P "__package__" 167 .none),(aA P "__loader__" 168 (.builtin "__main__.__loader__#opaque")),(aA P "__spec__" 169 .none),(aA P "__annotations__" 170 (.ref 6)),(aA P "__builtins__" 171 (.ref 4)),(aA P "__file__" 173 (.str (nA "/claim/cut.py") 172)),(aA P "__cached__" 174 .none),(aA P "_sre" 275 (.ref 12)),(aA P "ENDMARKER" 285 (.int 0 284)),(aA P "LPAR" 287 (.int 7 286)),(aA P "RPAR" 289 (.int 8 288)),(aA P "LSQB" 291 (.int 9 290)),(aA P "RSQB" 293 (.int 10 292)),(aA P "COLON" 295 (.int 11 294)),(aA P "COMMA" 297 (.int 12 296)),(aA P "SEMI" 299 (.int 13 298)),(aA P "PLUS" 301 (.int 14 300)),(aA P "MINUS" 303 (.int 15 302)),(aA P "STAR" 305 (.int 16 304)),(aA P "SLASH" 307 (.int 17 306)),(aA P "VBAR" 309 (.int 18 308)),(aA P "AMPER" 311 (.int 19 310)),(aA P "LESS" 313 (.int 20 312)),(aA P "GREATER" 315 (.int 21 314)),(aA P "EQUAL" 317 (.int 22 316)),(aA P "DOT" 319 (.int 23 318)),(aA P "PERCENT" 321 (.int 24 320)),(aA P "LBRACE" 323 (.int 25 322)),(aA P "RBRACE" 325 (.int 26 324)),(aA P "EQEQUAL" 327 (.int 27 326)),(aA P "NOTEQUAL" 329 (.int 28 328)),(aA P "LESSEQUAL" 331 (.int 29 330)),(aA P "GREATEREQUAL" 333 (.int 30 332)),(aA P "TILDE" 335 (.int 31 334)),(aA P "CIRCUMFLEX" 337 (.int 32 336)),(aA P "LEFTSHIFT" 339 (.int 33 338)),(aA P "RIGHTSHIFT" 341 (.int 34 340)),(aA P "DOUBLESTAR" 343 (.int 35 342)),(aA P "PLUSEQUAL" 345 (.int 36 344)),(aA P "MINEQUAL" 347 (.int 37 346)),(aA P "STAREQUAL" 349 (.int 38 348)),(aA P "SLASHEQUAL" 351 (.int 39 350)),(aA P "PERCENTEQUAL" 353 (.int 40 352)),(aA P "AMPEREQUAL" 355 (.int 41 354)),(aA P "VBAREQUAL" 357 (.int 42 356)),(aA P "CIRCUMFLEXEQUAL" 359 (.int 43 358)),(aA P "LEFTSHIFTEQUAL" 361 (.int 44 360)),(aA P "RIGHTSHIFTEQUAL" 363 (.int 45 362)),(aA P "DOUBLESTAREQUAL" 365 (.int 46 364)),(aA P "DOUBLESLASH" 367 (.int 47 366)),(aA P "DOUBLESLASHEQUAL" 369 (.int 48 368)),(aA P "AT" 371 (.int 49 370)),(aA P "ATEQUAL" 373 (.int 50 372)),(aA P "RARROW" 375 (.int 51 374)),(aA P "ELLIPSIS" 377 (.int 52 376)),(aA P "COLONEQUAL" 379 (.int 53 378)),(aA P "EXCLAMATION" 381 (.int 54 380)),(aA P "NT_OFFSET" 383 (.int 256 382)),(aA P "EXACT_TOKEN_TYPES" 480 (.ref 32)),(aA P "ISTERMINAL" 487 (.ref 41)),(aA P "ISNONTERMINAL" 494 (.ref 48)),(aA P "ISEOF" 501 (.ref 55)),(aA P "b1_set" 563 (.ref 63)),(aA P "in_table_b1" 570 (.ref 73)),(aA P "b3_exceptions" 2521 (.ref 74))] 67),#[]⟩
noncomputable def NH(P:lA):Obj:=⟨(.type "dict"),none,(.dict (ZA 571 ((nB.drop 0).take 647)++YE 2511 ((nB.drop 647).take 3)).toArray 650),#[]⟩
noncomputable def bn(P:lA):Obj:=⟨(.type "dict"),none,(.dict (ZA 622 ((nB.drop 17).take 17)).toArray 17),#[]⟩
noncomputable def cn(P:lA):Obj:=⟨(.type "dict"),none,(.dict (ZA 673 ((nB.drop 34).take 17)).toArray 17),#[]⟩
noncomputable def en(P:lA):Obj:=⟨(.type "dict"),none,(.dict (ZA 724 ((nB.drop 51).take 17)).toArray 17),#[]⟩
noncomputable def gn(P:lA):Obj:=⟨(.type "dict"),none,(.dict (ZA 775 ((nB.drop 68).take 17)).toArray 17),#[]⟩
noncomputable def jn(P:lA):Obj:=⟨(.type "dict"),none,(.dict (ZA 826 ((nB.drop 85).take 17)).toArray 17),#[]⟩
noncomputable def kn(P:lA):Obj:=⟨(.type "dict"),none,(.dict (ZA 877 ((nB.drop 102).take 17)).toArray 17),#[]⟩
noncomputable def ln(P:lA):Obj:=⟨(.type "dict"),none,(.dict (ZA 928 ((nB.drop 119).take 17)).toArray 17),#[]⟩
noncomputable def nn(P:lA):Obj:=⟨(.type "dict"),none,(.dict (ZA 979 ((nB.drop 136).take 17)).toArray 17),#[]⟩
noncomputable def pn(P:lA):Obj:=⟨(.type "dict"),none,(.dict (ZA 1030 ((nB.drop 153).take 17)).toArray 17),#[]⟩
noncomputable def qn(P:lA):Obj:=⟨(.type "dict"),none,(.dict (ZA 1081 ((nB.drop 170).take 17)).toArray 17),#[]⟩
noncomputable def rn(P:lA):Obj:=⟨(.type "dict"),none,(.dict (ZA 1132 ((nB.drop 187).take 17)).toArray 17),#[]⟩
noncomputable def sn(P:lA):Obj:=⟨(.type "dict"),none,(.dict (ZA 1183 ((nB.drop 204).take 17)).toArray 17),#[]⟩
noncomputable def tn(P:lA):Obj:=⟨(.type "dict"),none,(.dict (ZA 1234 ((nB.drop 221).take 17)).toArray 17),#[]⟩
noncomputable def un(P:lA):Obj:=⟨(.type "dict"),none,(.dict (ZA 1285 ((nB.drop 238).take 17)).toArray 17),#[]⟩
noncomputable def vn(P:lA):Obj:=⟨(.type "dict"),none,(.dict (ZA 1336 ((nB.drop 255).take 17)).toArray 17),#[]⟩
noncomputable def wn(P:lA):Obj:=⟨(.type "dict"),none,(.dict (ZA 1387 ((nB.drop 272).take 17)).toArray 17),#[]⟩
noncomputable def xn(P:lA):Obj:=⟨(.type "dict"),none,(.dict (ZA 1438 ((nB.drop 289).take 17)).toArray 17),#[]⟩
noncomputable def yn(P:lA):Obj:=⟨(.type "dict"),none,(.dict (ZA 1489 ((nB.drop 306).take 17)).toArray 17),#[]⟩
noncomputable def zn(P:lA):Obj:=⟨(.type "dict"),none,(.dict (ZA 1540 ((nB.drop 323).take 17)).toArray 17),#[]⟩
noncomputable def An(P:lA):Obj:=⟨(.type "dict"),none,(.dict (ZA 1591 ((nB.drop 340).take 17)).toArray 17),#[]⟩
noncomputable def Bn(P:lA):Obj:=⟨(.type "dict"),none,(.dict (ZA 1642 ((nB.drop 357).take 17)).toArray 17),#[]⟩
noncomputable def Cn(P:lA):Obj:=⟨(.type "dict"),none,(.dict (ZA 1693 ((nB.drop 374).take 17)).toArray 17),#[]⟩
noncomputable def Dn(P:lA):Obj:=⟨(.type "dict"),none,(.dict (ZA 1744 ((nB.drop 391).take 17)).toArray 17),#[]⟩
noncomputable def En(P:lA):Obj:=⟨(.type "dict"),none,(.dict (ZA 1795 ((nB.drop 408).take 17)).toArray 17),#[]⟩
noncomputable def Fn(P:lA):Obj:=⟨(.type "dict"),none,(.dict (ZA 1846 ((nB.drop 425).take 17)).toArray 17),#[]⟩
noncomputable def Zk(P:lA):Obj:=⟨(.type "dict"),none,(.dict (ZA 1897 ((nB.drop 442).take 17)).toArray 17),#[]⟩
noncomputable def dl(P:lA):Obj:=⟨(.type "dict"),none,(.dict (ZA 1948 ((nB.drop 459).take 17)).toArray 17),#[]⟩
noncomputable def el(P:lA):Obj:=⟨(.type "dict"),none,(.dict (ZA 1999 ((nB.drop 476).take 17)).toArray 17),#[]⟩
noncomputable def il(P:lA):Obj:=⟨(.type "dict"),none,(.dict (ZA 2050 ((nB.drop 493).take 17)).toArray 17),#[]⟩
noncomputable def jl(P:lA):Obj:=⟨(.type "dict"),none,(.dict (ZA 2101 ((nB.drop 510).take 17)).toArray 17),#[]⟩
noncomputable def kl(P:lA):Obj:=⟨(.type "dict"),none,(.dict (ZA 2152 ((nB.drop 527).take 17)).toArray 17),#[]⟩
noncomputable def ll(P:lA):Obj:=⟨(.type "dict"),none,(.dict (ZA 2203 ((nB.drop 544).take 17)).toArray 17),#[]⟩
noncomputable def nl(P:lA):Obj:=⟨(.type "dict"),none,(.dict (ZA 2254 ((nB.drop 561).take 17)).toArray 17),#[]⟩
noncomputable def ql(P:lA):Obj:=⟨(.type "dict"),none,(.dict (ZA 2305 ((nB.drop 578).take 17)).toArray 17),#[]⟩
noncomputable def rl(P:lA):Obj:=⟨(.type "dict"),none,(.dict (ZA 2356 ((nB.drop 595).take 17)).toArray 17),#[]⟩
noncomputable def tl(P:lA):Obj:=⟨(.type "dict"),none,(.dict (ZA 2407 ((nB.drop 612).take 17)).toArray 17),#[]⟩
noncomputable def ul(P:lA):Obj:=⟨(.type "dict"),none,(.dict (ZA 2458 ((nB.drop 629).take 17)).toArray 17),#[]⟩
noncomputable def wl(P:lA):Obj:=⟨(.type "dict"),none,(.dict (YE 2509 ((nB.drop 646).take 4)).toArray 4),#[]⟩
noncomputable def V5(P:lA):BT:=(.node (boot_o_0 P) (.node (tK P) (.node (an P) (.node (boot_o_7 P) (.node (zA P) (.node (mM P) (.node (xG P) .nil .nil) (.node (Bn P) .nil .nil)) (.node (FK P) (.node (jn P) .nil .nil) (.node (ul P) .nil .nil))) (.node (xK P) (.node (kO P) (.node (HU P) .nil .nil) (.node (il P) .nil .nil)) (.node (sI P) (.node (tn P) .nil .nil) .nil))) (.node (kK P) (.node (sK P) (.node (zA P) (.node (zA P) .nil .nil) (.node (Fn P) .nil .nil)) (.node (nO P) (.node (pn P) .nil .nil) .nil)) (.node (DK P) (.node (kB P) (.node (bn P) .nil .nil) (.node (nl P) .nil .nil)) (.node (BU P) (.node (xn P) .nil .nil) .nil)))) (.node (boot_o_5 P) (.node (boot_o_9 P) (.node (qK P) (.node (IQ P) (.node (zA P) .nil .nil) (.node (Dn P) .nil .nil)) (.node (zA P) (.node (ln P) .nil .nil) .nil)) (.node (zK P) (.node (qI P) (.node (HK P) .nil .nil) (.node (kl P) .nil .nil)) (.node (zU P) (.node (vn P) .nil .nil) .nil))) (.node (mK P) (.node (vK P) (.node (jO P) (.node (GU P) .nil .nil) (.node (dl P) .nil .nil)) (.node (oO P) (.node (rn P) .nil .nil) .nil)) (.node (O2 P) (.node (zA P) (.node (en P) .nil .nil) (.node (rl P) .nil .nil)) (.node (CU P) (.node (zn P) .nil .nil) .nil))))) (.node (oH P) (.node (boot_o_4 P) (.node (boot_o_8 P) (.node (pK P) (.node (pH P) (.node (EU P) .nil .nil) (.node (Cn P) .nil .nil)) (.node (rI P) (.node (kn P) .nil .nil) (.node (wl P) .nil .nil))) (.node (yK P) (.node (EK P) (.node (pO P) .nil .nil) (.node (jl P) .nil .nil)) (.node (yU P) (.node (un P) .nil .nil) .nil))) (.node (lK P) (.node (uK P) (.node (kB P) (.node (kB P) .nil .nil) (.node (Zk P) .nil .nil)) (.node (zA P) (.node (qn P) .nil .nil) .nil)) (.node (zA P) (.node (lO P) (.node (cn P) .nil .nil) (.node (ql P) .nil .nil)) (.node (zA P) (.node (yn P) .nil .nil) .nil)))) (.node (boot_o_6 P) (.node (boot_o_10 P) (.node (rK P) (.node (JQ P) (.node (FU P) .nil .nil) (.node (En P) .nil .nil)) (.node (kB P) (.node (nn P) .nil .nil) .nil)) (.node (BK P) (.node (zA P) (.node (NH P) .nil .nil) (.node (ll P) .nil .nil)) (.node (AU P) (.node (wn P) .nil .nil) .nil))) (.node (nK P) (.node (wK P) (.node (zA P) (.node (zA P) .nil .nil) (.node (el P) .nil .nil)) (.node (GK P) (.node (sn P) .nil .nil) .nil)) (.node (lM P) (.node (mO P) (.node (gn P) .nil .nil) (.node (tl P) .nil .nil)) (.node (DU P) (.node (An P) .nil .nil) .nil))))))
noncomputable def JM(w:eA)(os:XD):xB:=⟨V5 w.params,113,lf,#[],⟨0,0,0,0⟩,2522,os⟩
noncomputable def yB(P:lA):Obj:=⟨(.type "dict"),none,(.dict #[(aA P "__name__" 165 (.str (nA "law_kl0260_04") 2794)),(aA P "__doc__" 166 .none),(aA P "__package__" 167 .none),(aA P "__loader__" 168 (.builtin "__main__.__loader__#opaque")),(aA P "__spec__" 169 .none),(aA P "__annotations__" 170 (.ref 6)),(aA P "__builtins__" 171 (.ref 4)),(aA P "__file__" 173 (.str (nA "/claim/cut.py") 172)),(aA P "__cached__" 174 .none),(aA P "_sre" 275 (.ref 12)),(aA P "ENDMARKER" 285 (.int 0 284)),(aA P "LPAR" 287 (.int 7 286)),(aA P "RPAR" 289 (.int 8 288)),(aA P "LSQB" 291 (.int 9 290)),(aA P "RSQB" 293 (.int 10 292)),(aA P "COLON" 295 (.int 11 294)),(aA P "COMMA" 297 (.int 12 296)),(aA P "SEMI" 299 (.int 13 298)),(aA P "PLUS" 301 (.int 14 300)),(aA P "MINUS" 303 (.int 15 302)),(aA P "STAR" 305 (.int 16 304)),(aA P "SLASH" 307 (.int 17 306)),(aA P "VBAR" 309 (.int 18 308)),(aA P "AMPER" 311 (.int 19 310)),(aA P "LESS" 313 (.int 20 312)),(aA P "GREATER" 315 (.int 21 314)),(aA P "EQUAL" 317 (.int 22 316)),(aA P "DOT" 319 (.int 23 318)),(aA P "PERCENT" 321 (.int 24 320)),(aA P "LBRACE" 323 (.int 25 322)),(aA P "RBRACE" 325 (.int 26 324)),(aA P "EQEQUAL" 327 (.int 27 326)),(aA P "NOTEQUAL" 329 (.int 28 328)),(aA P "LESSEQUAL" 331 (.int 29 330)),(aA P "GREATEREQUAL" 333 (.int 30 332)),(aA P "TILDE" 335 (.int 31 334)),(aA P "CIRCUMFLEX" 337 (.int 32 336)),(aA P "LEFTSHIFT" 339 (.int 33 338)),(aA P "RIGHTSHIFT" 341 (.int 34 340)),(aA P "DOUBLESTAR" 343 (.int 35 342)),(aA P "PLUSEQUAL" 345 (.int 36 344)),(aA P "MINEQUAL" 347 (.int 37 346)),(aA P "STAREQUAL" 349 (.int 38 348)),(aA P "SLASHEQUAL" 351 (.int 39 350)),(aA P "PERCENTEQUAL" 353 (.int 40 352)),(aA P "AMPEREQUAL" 355 (.int 41 354)),(aA P "VBAREQUAL" 357 (.int 42 356)),(aA P "CIRCUMFLEXEQUAL" 359 (.int 43 358)),(aA P "LEFTSHIFTEQUAL" 361 (.int 44 360)),(aA P "RIGHTSHIFTEQUAL" 363 (.int 45 362)),(aA P "DOUBLESTAREQUAL" 365 (.int 46 364)),(aA P "DOUBLESLASH" 367 (.int 47 366)),(aA P "DOUBLESLASHEQUAL" 369 (.int 48 368)),(aA P "AT" 371 (.int 49 370)),(aA P "ATEQUAL" 373 (.int 50 372)),(aA P "RARROW" 375 (.int 51 374)),(aA P "ELLIPSIS" 377 (.int 52 376)),(aA P "COLONEQUAL" 379 (.int 53 378)),(aA P "EXCLAMATION" 381 (.int 54 380)),(aA P "NT_OFFSET" 383 (.int 256 382)),(aA P "EXACT_TOKEN_TYPES" 480 (.ref 32)),(aA P "ISTERMINAL" 487 (.ref 41)),(aA P "ISNONTERMINAL" 494 (.ref 48)),(aA P "ISEOF" 501 (.ref 55)),(aA P "b1_set" 563 (.ref 63)),(aA P "in_table_b1" 570 (.ref 73)),(aA P "b3_exceptions" 2521 (.ref 74)),(aA P "map_table_b3" 2529 (.ref 119)),(aA P "tspecials" 2565 (.ref 124)),(aA P "_name_disallowed_re" 2591 (.ref 129)),(aA P "_value_disallowed_re" 2625 (.ref 134)),(aA P "_formatparam" 2635 (.ref 142)),(aA P "Headers" 2793 (.ref 263)),(aA P "_law_form" 2804 (.ref 274)),(aA P "_law_nothing" 2811 (.ref 281)),(aA P "_law_spelled" 2817 (.ref 286)),(aA P "_law_net" 2832 (.ref 293)),(aA P "_law_ways" 2838 (.ref 298)),(aA P "_law_plan" 2844 (.ref 303)),(aA P "_law_alike" 2850 (.ref 308)),(aA P "_law_seen" 2856 (.ref 313)),(aA P "_law_rows" 2862 (.ref 318)),(aA P "_law_done" 2868 (.ref 323)),(aA P "_law_written" 2874 (.ref 328)),(aA P "law" 2880 (.ref 333))] 85),#[]⟩
noncomputable def xl(P:lA):Obj:=⟨(.type "tuple"),none,(.seq #[(.str (nA "code") 2525),(.str (nA "r") 2526)] 0),#[]⟩
noncomputable def yl(P:lA):Obj:=WA .none "map_table_b3" "map_table_b3" (stm 59) 0 .none .none .none .none
noncomputable def bU(P:lA):Obj:=QB "map_table_b3" 2522 "map_table_b3" 2523 2524 65 1 0 0 3 113 true 114 .none (.ref 115) (.ref 116) (.ref 117) 2527 65 2528
noncomputable def TN(P:lA):Obj:=WA (.type "function") "map_table_b3" "map_table_b3" (stm 59) 3 .none .none (.str (nA "cpy313.stringprep") 502) (.ref 118)
noncomputable def zl(P:lA):Obj:=⟨(.type "tuple"),none,(.seq #[(.int 14 0),(.int 14 0),(.int 4 0),(.int 1 0),(.int 1 0),(.int 9 0),(.int 0 0),(.int 4227896069 0),(.int 939524097 0),(.int 0 0),(.int 0 0),(.int 0 0),(.int 0 0),(.int 0 0),(.int 0 0),(.int 13 0),(.int 11 0),(.int 9 0),(.int 0 0),(.int 4227896069 0),(.int 939524097 0),(.int 0 0),(.int 0 0),(.int 0 0),(.int 0 0),(.int 0 0),(.int 0 0),(.int 1 0)] 0),#[]⟩
noncomputable def Al(P:lA):Obj:=⟨(.type "re.Pattern"),none,(.fields #[(.str (FJ #[91,32,92,40,92,41,60,62,64,44,59,58,92,92,34,47,92,91,92,93,92,63,61,93]) 2533),(.int 32 2564),(.int 0 0),.none,.none,(.ref 123),(.int 0 0)]),#[]⟩
noncomputable def dM(P:lA):Obj:=⟨(.type "tuple"),none,(.seq #[(.int 14 0),(.int 10 0),(.int 4 0),(.int 1 0),(.int 1 0),(.int 22 0),(.int 0 0),(.int 31 0),(.int 16 0),(.int 127 0),(.int 0 0),(.int 13 0),(.int 7 0),(.int 22 0),(.int 0 0),(.int 31 0),(.int 16 0),(.int 127 0),(.int 0 0),(.int 1 0)] 0),#[]⟩
noncomputable def G2(P:lA):Obj:=⟨(.type "re.Pattern"),none,(.fields #[(.str (FJ #[91,92,120,48,48,45,92,120,49,70,92,120,55,70,93]) 2567),(.int 32 2590),(.int 0 0),.none,.none,(.ref 128),(.int 0 0)]),#[]⟩
noncomputable def eM(P:lA):Obj:=⟨(.type "tuple"),none,(.seq #[(.int 14 0),(.int 14 0),(.int 4 0),(.int 1 0),(.int 1 0),(.int 9 0),(.int 4294966783 0),(.int 0 0),(.int 0 0),(.int 2147483648 0),(.int 0 0),(.int 0 0),(.int 0 0),(.int 0 0),(.int 0 0),(.int 13 0),(.int 11 0),(.int 9 0),(.int 4294966783 0),(.int 0 0),(.int 0 0),(.int 2147483648 0),(.int 0 0),(.int 0 0),(.int 0 0),(.int 0 0),(.int 0 0),(.int 1 0)] 0),#[]⟩
noncomputable def H2(P:lA):Obj:=⟨(.type "re.Pattern"),none,(.fields #[(.str (FJ #[91,92,120,48,48,45,92,120,48,56,92,120,48,65,45,92,120,49,70,92,120,55,70,93]) 2593),(.int 32 2624),(.int 0 0),.none,.none,(.ref 133),(.int 0 0)]),#[]⟩
noncomputable def Bl(P:lA):Obj:=⟨(.type "tuple"),none,(.seq #[.none,(.int 1 2626)] 0),#[]⟩
noncomputable def Cl(P:lA):Obj:=⟨(.type "tuple"),none,(.seq #[(.str (nA "param") 2630),(.str (nA "value") 2631),(.str (nA "quote") 2632)] 0),#[]⟩
noncomputable def Dl(P:lA):Obj:=WA .none "_formatparam" "_formatparam" (stm 64) 0 .none .none .none .none
noncomputable def El(P:lA):Obj:=QB "_formatparam" 2627 "_formatparam" 2628 2629 74 3 0 0 3 136 true 137 .none (.ref 138) (.ref 139) (.ref 140) 2633 74 2634
noncomputable def Gl(P:lA):Obj:=WA (.type "function") "_formatparam" "_formatparam" (stm 64) 3 (.ref 135) .none (.str (nA "cpy313.wsgiref.headers") 2530) (.ref 141)
noncomputable def UN(P:lA):Obj:=⟨(.type "tuple"),none,(.seq #[.none] 0),#[]⟩
noncomputable def Hl(P:lA):Obj:=⟨(.type "tuple"),none,(.seq #[(.str (nA "self") 2651),(.str (nA "headers") 2652),(.str (nA "k") 2653),(.str (nA "v") 2654)] 0),#[]⟩
noncomputable def Il(P:lA):Obj:=WA .none "__init__" "Headers.__init__" (meth 65 0) 0 .none .none .none .none
noncomputable def cU(P:lA):Obj:=QB "__init__" 2648 "Headers.__init__" 2649 2650 85 2 0 0 3 151 true 152 .none (.ref 153) (.ref 154) (.ref 155) 2655 85 2656
noncomputable def qJ(P:lA):Obj:=WA (.type "function") "__init__" "Headers.__init__" (meth 65 0) 3 (.ref 150) .none (.str (nA "cpy313.wsgiref.headers") 2530) (.ref 156)
noncomputable def Jl(P:lA):Obj:=⟨(.type "tuple"),none,(.seq #[(.str (nA "self") 2661),(.str (nA "value") 2662),(.str (nA "name") 2663),(.str (nA "regex") 2664)] 0),#[]⟩
noncomputable def Kl(P:lA):Obj:=WA .none "_convert_string_type" "Headers._convert_string_type" (meth 65 1) 0 .none .none .none .none
noncomputable def dU(P:lA):Obj:=QB "_convert_string_type" 2658 "Headers._convert_string_type" 2659 2660 95 2 0 1 3 158 true 159 .none (.ref 160) (.ref 161) (.ref 162) 2665 95 2666
noncomputable def oK(P:lA):Obj:=WA (.type "function") "_convert_string_type" "Headers._convert_string_type" (meth 65 1) 3 .none .none (.str (nA "cpy313.wsgiref.headers") 2530) (.ref 163)
noncomputable def Ll(P:lA):Obj:=⟨(.type "tuple"),none,(.seq #[(.str (nA "self") 2671)] 0),#[]⟩
noncomputable def Ml(P:lA):Obj:=WA .none "__len__" "Headers.__len__" (meth 65 2) 0 .none .none .none .none
noncomputable def Nl(P:lA):Obj:=QB "__len__" 2668 "Headers.__len__" 2669 2670 103 1 0 0 3 165 true 166 .none (.ref 167) (.ref 168) (.ref 169) 2672 103 2673
noncomputable def I2(P:lA):Obj:=WA (.type "function") "__len__" "Headers.__len__" (meth 65 2) 3 .none .none (.str (nA "cpy313.wsgiref.headers") 2530) (.ref 170)
noncomputable def Ol(P:lA):Obj:=⟨(.type "tuple"),none,(.seq #[(.str (nA "self") 2678),(.str (nA "name") 2679),(.str (nA "val") 2680)] 0),#[]⟩
noncomputable def Ql(P:lA):Obj:=WA .none "__setitem__" "Headers.__setitem__" (meth 65 3) 0 .none .none .none .none
noncomputable def Rl(P:lA):Obj:=QB "__setitem__" 2675 "Headers.__setitem__" 2676 2677 106 3 0 0 3 172 true 173 .none (.ref 174) (.ref 175) (.ref 176) 2681 106 2682
noncomputable def J2(P:lA):Obj:=WA (.type "function") "__setitem__" "Headers.__setitem__" (meth 65 3) 3 .none .none (.str (nA "cpy313.wsgiref.headers") 2530) (.ref 177)
noncomputable def Sl(P:lA):Obj:=WA .none "__delitem__" "Headers.__delitem__" (meth 65 4) 0 .none .none .none .none
noncomputable def Tl(P:lA):Obj:=QB "__delitem__" 2684 "Headers.__delitem__" 2685 2686 110 2 0 0 3 179 true 180 .none .none .none (.ref 181) 2687 110 2688
noncomputable def K2(P:lA):Obj:=WA (.type "function") "__delitem__" "Headers.__delitem__" (meth 65 4) 3 .none .none (.str (nA "cpy313.wsgiref.headers") 2530) (.ref 182)
noncomputable def Ul(P:lA):Obj:=⟨(.type "tuple"),none,(.seq #[(.str (nA "self") 2693),(.str (nA "name") 2694)] 0),#[]⟩
noncomputable def Vl(P:lA):Obj:=WA .none "__getitem__" "Headers.__getitem__" (meth 65 5) 0 .none .none .none .none
noncomputable def Wl(P:lA):Obj:=QB "__getitem__" 2690 "Headers.__getitem__" 2691 2692 114 2 0 0 3 184 true 185 .none (.ref 186) (.ref 187) (.ref 188) 2695 114 2696
noncomputable def Xl(P:lA):Obj:=WA (.type "function") "__getitem__" "Headers.__getitem__" (meth 65 5) 3 .none .none (.str (nA "cpy313.wsgiref.headers") 2530) (.ref 189)
noncomputable def Yl(P:lA):Obj:=⟨(.type "tuple"),none,(.seq #[(.str (nA "self") 2701),(.str (nA "name") 2702)] 0),#[]⟩
noncomputable def Zl(P:lA):Obj:=WA .none "__contains__" "Headers.__contains__" (meth 65 6) 0 .none .none .none .none
noncomputable def am(P:lA):Obj:=QB "__contains__" 2698 "Headers.__contains__" 2699 2700 117 2 0 0 3 191 true 192 .none (.ref 193) (.ref 194) (.ref 195) 2703 117 2704
noncomputable def bm(P:lA):Obj:=WA (.type "function") "__contains__" "Headers.__contains__" (meth 65 6) 3 .none .none (.str (nA "cpy313.wsgiref.headers") 2530) (.ref 196)
noncomputable def cm(P:lA):Obj:=WA .none "get_all" "Headers.get_all" (meth 65 7) 0 .none .none .none .none
noncomputable def eU(P:lA):Obj:=QB "get_all" 2706 "Headers.get_all" 2707 2708 120 2 0 0 3 198 true 199 .none .none .none (.ref 200) 2709 120 2710
noncomputable def fM(P:lA):Obj:=WA (.type "function") "get_all" "Headers.get_all" (meth 65 7) 3 .none .none (.str (nA "cpy313.wsgiref.headers") 2530) (.ref 201)
noncomputable def dm(P:lA):Obj:=⟨(.type "tuple"),none,(.seq #[(.str (nA "self") 2715),(.str (nA "name") 2716),(.str (nA "default") 2717),(.str (nA "k") 2718),(.str (nA "v") 2719)] 0),#[]⟩
noncomputable def em(P:lA):Obj:=WA .none "get" "Headers.get" (meth 65 8) 0 .none .none .none .none
noncomputable def fU(P:lA):Obj:=QB "get" 2712 "Headers.get" 2713 2714 124 3 0 0 3 204 true 205 .none (.ref 206) (.ref 207) (.ref 208) 2720 124 2721
noncomputable def rJ(P:lA):Obj:=WA (.type "function") "get" "Headers.get" (meth 65 8) 3 (.ref 203) .none (.str (nA "cpy313.wsgiref.headers") 2530) (.ref 209)
noncomputable def fm(P:lA):Obj:=WA .none "keys" "Headers.keys" (meth 65 9) 0 .none .none .none .none
noncomputable def gU(P:lA):Obj:=QB "keys" 2723 "Headers.keys" 2724 2725 131 1 0 0 3 211 true 212 .none .none .none (.ref 213) 2726 131 2727
noncomputable def gM(P:lA):Obj:=WA (.type "function") "keys" "Headers.keys" (meth 65 9) 3 .none .none (.str (nA "cpy313.wsgiref.headers") 2530) (.ref 214)
noncomputable def im(P:lA):Obj:=WA .none "values" "Headers.values" (meth 65 10) 0 .none .none .none .none
noncomputable def jm(P:lA):Obj:=QB "values" 2729 "Headers.values" 2730 2731 134 1 0 0 3 216 true 217 .none .none .none (.ref 218) 2732 134 2733
noncomputable def km(P:lA):Obj:=WA (.type "function") "values" "Headers.values" (meth 65 10) 3 .none .none (.str (nA "cpy313.wsgiref.headers") 2530) (.ref 219)
noncomputable def lm(P:lA):Obj:=⟨(.type "tuple"),none,(.seq #[(.str (nA "self") 2738)] 0),#[]⟩
noncomputable def mm(P:lA):Obj:=WA .none "items" "Headers.items" (meth 65 11) 0 .none .none .none .none
noncomputable def iU(P:lA):Obj:=QB "items" 2735 "Headers.items" 2736 2737 137 1 0 0 3 221 true 222 .none (.ref 223) (.ref 224) (.ref 225) 2739 137 2740
noncomputable def iM(P:lA):Obj:=WA (.type "function") "items" "Headers.items" (meth 65 11) 3 .none .none (.str (nA "cpy313.wsgiref.headers") 2530) (.ref 226)
noncomputable def om(P:lA):Obj:=⟨(.type "tuple"),none,(.seq #[(.str (nA "self") 2745)] 0),#[]⟩
noncomputable def qm(P:lA):Obj:=WA .none "__repr__" "Headers.__repr__" (meth 65 12) 0 .none .none .none .none
noncomputable def rm(P:lA):Obj:=QB "__repr__" 2742 "Headers.__repr__" 2743 2744 140 1 0 0 3 228 true 229 .none (.ref 230) (.ref 231) (.ref 232) 2746 140 2747
noncomputable def sm(P:lA):Obj:=WA (.type "function") "__repr__" "Headers.__repr__" (meth 65 12) 3 .none .none (.str (nA "cpy313.wsgiref.headers") 2530) (.ref 233)
noncomputable def tm(P:lA):Obj:=WA .none "__str__" "Headers.__str__" (meth 65 13) 0 .none .none .none .none
noncomputable def um(P:lA):Obj:=QB "__str__" 2749 "Headers.__str__" 2750 2751 143 1 0 0 3 235 true 236 .none .none .none (.ref 237) 2752 143 2753
noncomputable def vm(P:lA):Obj:=WA (.type "function") "__str__" "Headers.__str__" (meth 65 13) 3 .none .none (.str (nA "cpy313.wsgiref.headers") 2530) (.ref 238)
noncomputable def xm(P:lA):Obj:=⟨(.type "tuple"),none,(.seq #[(.str (nA "self") 2758)] 0),#[]⟩
noncomputable def ym(P:lA):Obj:=WA .none "__bytes__" "Headers.__bytes__" (meth 65 14) 0 .none .none .none .none
noncomputable def Am(P:lA):Obj:=QB "__bytes__" 2755 "Headers.__bytes__" 2756 2757 146 1 0 0 3 240 true 241 .none (.ref 242) (.ref 243) (.ref 244) 2759 146 2760
noncomputable def Bm(P:lA):Obj:=WA (.type "function") "__bytes__" "Headers.__bytes__" (meth 65 14) 3 .none .none (.str (nA "cpy313.wsgiref.headers") 2530) (.ref 245)
noncomputable def Cm(P:lA):Obj:=⟨(.type "tuple"),none,(.seq #[(.str (nA "self") 2765),(.str (nA "name") 2766),(.str (nA "value") 2767),(.str (nA "result") 2768)] 0),#[]⟩
noncomputable def Dm(P:lA):Obj:=WA .none "setdefault" "Headers.setdefault" (meth 65 15) 0 .none .none .none .none
noncomputable def jU(P:lA):Obj:=QB "setdefault" 2762 "Headers.setdefault" 2763 2764 149 3 0 0 3 247 true 248 .none (.ref 249) (.ref 250) (.ref 251) 2769 149 2770
noncomputable def jM(P:lA):Obj:=WA (.type "function") "setdefault" "Headers.setdefault" (meth 65 15) 3 .none .none (.str (nA "cpy313.wsgiref.headers") 2530) (.ref 252)
noncomputable def Em(P:lA):Obj:=⟨(.type "tuple"),none,(.seq #[(.str (nA "self") 2775),(.str (nA "_name") 2776),(.str (nA "_value") 2777),(.str (nA "_params") 2778),(.str (nA "parts") 2779),(.str (nA "k") 2780),(.str (nA "v") 2781)] 0),#[]⟩
noncomputable def Fm(P:lA):Obj:=WA .none "add_header" "Headers.add_header" (meth 65 16) 0 .none .none .none .none
noncomputable def kU(P:lA):Obj:=QB "add_header" 2772 "Headers.add_header" 2773 2774 157 3 0 0 11 254 true 255 .none (.ref 256) (.ref 257) (.ref 258) 2782 157 2783
noncomputable def AK(P:lA):Obj:=WA (.type "function") "add_header" "Headers.add_header" (meth 65 16) 3 .none .none (.str (nA "cpy313.wsgiref.headers") 2530) (.ref 259)
noncomputable def Gm(P:lA):Obj:=⟨(.type "tuple"),none,(.seq #[(.str (nA "_headers") 2785)] 0),#[]⟩
noncomputable def ZD(P:lA):Obj:=⟨(.type "dict"),none,(.dict #[(aA P "__module__" 2643 (.str (nA "cpy313.wsgiref.headers") 2530)),(aA P "__firstlineno__" 2647 (.int 83 2646)),(aA P "__init__" 2657 (.ref 157)),(aA P "_convert_string_type" 2667 (.ref 164)),(aA P "__len__" 2674 (.ref 171)),(aA P "__setitem__" 2683 (.ref 178)),(aA P "__delitem__" 2689 (.ref 183)),(aA P "__getitem__" 2697 (.ref 190)),(aA P "__contains__" 2705 (.ref 197)),(aA P "get_all" 2711 (.ref 202)),(aA P "get" 2722 (.ref 210)),(aA P "keys" 2728 (.ref 215)),(aA P "values" 2734 (.ref 220)),(aA P "items" 2741 (.ref 227)),(aA P "__repr__" 2748 (.ref 234)),(aA P "__str__" 2754 (.ref 239)),(aA P "__bytes__" 2761 (.ref 246)),(aA P "setdefault" 2771 (.ref 253)),(aA P "add_header" 2784 (.ref 260)),(aA P "__static_attributes__" 2786 (.ref 261)),(aA P "__dict__" 2788 (.ref 264)),(aA P "__weakref__" 2790 (.ref 265)),(aA P "__doc__" 2791 .none)] 4),#[]⟩
noncomputable def M2(P:lA):Obj:=⟨(.type "type"),none,(.cls { name:=(nA "Headers"),bases:=[(.type "object")],mro:=[(.ref 263),(.type "object")],ns:=262,qualname:=(nA "Headers"),hasDict:=true,slotNames:=[],subclasses:=[],abstract:=false,collection:=none,hasDel:=false }),#[none,none,(some (.str (nA "Headers") 2636)),(some (.str (nA "Headers") 2644)),(some (.builtin "object.__new__")),(some (.bool true))]⟩
noncomputable def Hm(P:lA):Obj:=⟨(.type "getset_descriptor"),none,(.fields #[(.str (nA "__dict__") 2787),(.ref 263),(.builtin "function.__dict__"),(.builtin "function.__dict__#set")]),#[]⟩
noncomputable def Im(P:lA):Obj:=⟨(.type "getset_descriptor"),none,(.fields #[(.str (nA "__weakref__") 2789),(.ref 263),(.builtin "ExceptionGroup.__weakref__"),.none]),#[]⟩
noncomputable def Jm(P:lA):Obj:=⟨(.type "tuple"),none,(.seq #[(.str (nA "letter") 2799),(.str (nA "k") 2800),(.str (nA "great") 2801)] 0),#[]⟩
noncomputable def Km(P:lA):Obj:=WA .none "_law_form" "_law_form" (stm 67) 0 .none .none .none .none
noncomputable def lU(P:lA):Obj:=QB "_law_form" 2796 "_law_form" 2797 2798 171 2 0 0 3 268 true 269 .none (.ref 270) (.ref 271) (.ref 272) 2802 171 2803
noncomputable def VN(P:lA):Obj:=WA (.type "function") "_law_form" "_law_form" (stm 67) 3 .none .none (.str (nA "law_kl0260_04") 2794) (.ref 273)
noncomputable def Lm(P:lA):Obj:=⟨(.type "tuple"),none,(.seq #[(.str (nA "n") 2808)] 0),#[]⟩
noncomputable def Mm(P:lA):Obj:=WA .none "_law_nothing" "_law_nothing" (stm 68) 0 .none .none .none .none
noncomputable def mU(P:lA):Obj:=QB "_law_nothing" 2805 "_law_nothing" 2806 2807 174 1 0 0 3 275 true 276 .none (.ref 277) (.ref 278) (.ref 279) 2809 174 2810
noncomputable def WN(P:lA):Obj:=WA (.type "function") "_law_nothing" "_law_nothing" (stm 68) 3 .none .none (.str (nA "law_kl0260_04") 2794) (.ref 280)
noncomputable def Nm(P:lA):Obj:=WA .none "_law_spelled" "_law_spelled" (stm 69) 0 .none .none .none .none
noncomputable def nU(P:lA):Obj:=QB "_law_spelled" 2812 "_law_spelled" 2813 2814 176 2 0 0 3 282 true 283 .none .none .none (.ref 284) 2815 176 2816
noncomputable def XN(P:lA):Obj:=WA (.type "function") "_law_spelled" "_law_spelled" (stm 69) 3 .none .none (.str (nA "law_kl0260_04") 2794) (.ref 285)
noncomputable def Om(P:lA):Obj:=⟨(.type "tuple"),none,(.seq #[(.str (nA "script") 2821),(.str (nA "numbers") 2822),(.str (nA "table") 2823),(.str (nA "roads") 2824),(.str (nA "values") 2825),(.str (nA "k") 2826),(.str (nA "x") 2827),(.str (nA "e") 2828),(.str (nA "word") 2829)] 0),#[]⟩
noncomputable def Pm(P:lA):Obj:=WA .none "_law_net" "_law_net" (stm 70) 0 .none .none .none .none
noncomputable def oU(P:lA):Obj:=QB "_law_net" 2818 "_law_net" 2819 2820 180 1 0 0 3 287 true 288 .none (.ref 289) (.ref 290) (.ref 291) 2830 180 2831
noncomputable def YN(P:lA):Obj:=WA (.type "function") "_law_net" "_law_net" (stm 70) 3 .none .none (.str (nA "law_kl0260_04") 2794) (.ref 292)
noncomputable def Qm(P:lA):Obj:=WA .none "_law_ways" "_law_ways" (stm 71) 0 .none .none .none .none
noncomputable def pU(P:lA):Obj:=QB "_law_ways" 2833 "_law_ways" 2834 2835 190 2 0 0 3 294 true 295 .none .none .none (.ref 296) 2836 190 2837
noncomputable def ZN(P:lA):Obj:=WA (.type "function") "_law_ways" "_law_ways" (stm 71) 3 .none .none (.str (nA "law_kl0260_04") 2794) (.ref 297)
noncomputable def Rm(P:lA):Obj:=WA .none "_law_plan" "_law_plan" (stm 72) 0 .none .none .none .none
noncomputable def qU(P:lA):Obj:=QB "_law_plan" 2839 "_law_plan" 2840 2841 198 2 0 0 3 299 true 300 .none .none .none (.ref 301) 2842 198 2843
noncomputable def aO(P:lA):Obj:=WA (.type "function") "_law_plan" "_law_plan" (stm 72) 3 .none .none (.str (nA "law_kl0260_04") 2794) (.ref 302)
noncomputable def Sm(P:lA):Obj:=WA .none "_law_alike" "_law_alike" (stm 73) 0 .none .none .none .none
noncomputable def rU(P:lA):Obj:=QB "_law_alike" 2845 "_law_alike" 2846 2847 212 2 0 0 3 304 true 305 .none .none .none (.ref 306) 2848 212 2849
noncomputable def bO(P:lA):Obj:=WA (.type "function") "_law_alike" "_law_alike" (stm 73) 3 .none .none (.str (nA "law_kl0260_04") 2794) (.ref 307)
noncomputable def Tm(P:lA):Obj:=WA .none "_law_seen" "_law_seen" (stm 74) 0 .none .none .none .none
noncomputable def sU(P:lA):Obj:=QB "_law_seen" 2851 "_law_seen" 2852 2853 220 1 0 0 3 309 true 310 .none .none .none (.ref 311) 2854 220 2855
noncomputable def cO(P:lA):Obj:=WA (.type "function") "_law_seen" "_law_seen" (stm 74) 3 .none .none (.str (nA "law_kl0260_04") 2794) (.ref 312)
noncomputable def Um(P:lA):Obj:=WA .none "_law_rows" "_law_rows" (stm 75) 0 .none .none .none .none
noncomputable def tU(P:lA):Obj:=QB "_law_rows" 2857 "_law_rows" 2858 2859 223 1 0 0 3 314 true 315 .none .none .none (.ref 316) 2860 223 2861
noncomputable def eO(P:lA):Obj:=WA (.type "function") "_law_rows" "_law_rows" (stm 75) 3 .none .none (.str (nA "law_kl0260_04") 2794) (.ref 317)
noncomputable def Vm(P:lA):Obj:=WA .none "_law_done" "_law_done" (stm 76) 0 .none .none .none .none
noncomputable def uU(P:lA):Obj:=QB "_law_done" 2863 "_law_done" 2864 2865 235 2 0 0 3 319 true 320 .none .none .none (.ref 321) 2866 235 2867
noncomputable def gO(P:lA):Obj:=WA (.type "function") "_law_done" "_law_done" (stm 76) 3 .none .none (.str (nA "law_kl0260_04") 2794) (.ref 322)
noncomputable def Wm(P:lA):Obj:=WA .none "_law_written" "_law_written" (stm 77) 0 .none .none .none .none
noncomputable def vU(P:lA):Obj:=QB "_law_written" 2869 "_law_written" 2870 2871 252 2 0 0 3 324 true 325 .none .none .none (.ref 326) 2872 252 2873
noncomputable def hO(P:lA):Obj:=WA (.type "function") "_law_written" "_law_written" (stm 77) 3 .none .none (.str (nA "law_kl0260_04") 2794) (.ref 327)
noncomputable def Xm(P:lA):Obj:=WA .none "law" "law" (stm 78) 0 .none .none .none .none
noncomputable def wU(P:lA):Obj:=QB "law" 2875 "law" 2876 2877 263 1 0 0 3 329 true 330 .none .none .none (.ref 331) 2878 263 2879
noncomputable def iO(P:lA):Obj:=WA (.type "function") "law" "law" (stm 78) 3 .none .none (.str (nA "law_kl0260_04") 2794) (.ref 332)
noncomputable def KF(P:lA):Frag:=[(0,boot_o_0 P),(2,oH P),(3,yB P),(32,pH P),(35,zA P),(36,kB P),(37,jO P),(38,zA P),(39,kO P),(40,EK P),(41,qI P),(42,zA P),(43,kB P),(44,lO P),(45,zA P),(46,mO P),(47,FK P),(48,rI P),(49,zA P),(50,kB P),(51,nO P),(52,zA P),(53,oO P),(54,GK P),(55,sI P),(63,xG P),(67,zA P),(68,kB P),(69,GU P),(70,zA P),(71,HU P),(72,pO P),(73,HK P),(74,NH P),(113,zA P),(114,kB P),(115,xl P),(116,zA P),(117,yl P),(118,bU P),(119,TN P),(123,zl P),(124,Al P),(128,dM P),(129,G2 P),(133,eM P),(134,H2 P),(135,Bl P),(136,zA P),(137,kB P),(138,Cl P),(139,zA P),(140,Dl P),(141,El P),(142,Gl P),(150,UN P),(151,zA P),(152,kB P),(153,Hl P),(154,zA P),(155,Il P),(156,cU P),(157,qJ P),(158,zA P),(159,kB P),(160,Jl P),(161,zA P),(162,Kl P),(163,dU P),(164,oK P),(165,zA P),(166,kB P),(167,Ll P),(168,zA P),(169,Ml P),(170,Nl P),(171,I2 P),(172,zA P),(173,kB P),(174,Ol P),(175,zA P),(176,Ql P),(177,Rl P),(178,J2 P),(179,zA P),(180,kB P),(181,Sl P),(182,Tl P),(183,K2 P),(184,zA P),(185,kB P),(186,Ul P),(187,zA P),(188,Vl P),(189,Wl P),(190,Xl P),(191,zA P),(192,kB P),(193,Yl P),(194,zA P),(195,Zl P),(196,am P),(197,bm P),(198,zA P),(199,kB P),(200,cm P),(201,eU P),(202,fM P),(203,UN P),(204,zA P),(205,kB P),(206,dm P),(207,zA P),(208,em P),(209,fU P),(210,rJ P),(211,zA P),(212,kB P),(213,fm P),(214,gU P),(215,gM P),(216,zA P),(217,kB P),(218,im P),(219,jm P),(220,km P),(221,zA P),(222,kB P),(223,lm P),(224,zA P),(225,mm P),(226,iU P),(227,iM P),(228,zA P),(229,kB P),(230,om P),(231,zA P),(232,qm P),(233,rm P),(234,sm P),(235,zA P),(236,kB P),(237,tm P),(238,um P),(239,vm P),(240,zA P),(241,kB P),(242,xm P),(243,zA P),(244,ym P),(245,Am P),(246,Bm P),(247,zA P),(248,kB P),(249,Cm P),(250,zA P),(251,Dm P),(252,jU P),(253,jM P),(254,zA P),(255,kB P),(256,Em P),(257,zA P),(258,Fm P),(259,kU P),(260,AK P),(261,Gm P),(262,ZD P),(263,M2 P),(264,Hm P),(265,Im P),(268,zA P),(269,kB P),(270,Jm P),(271,zA P),(272,Km P),(273,lU P),(274,VN P),(275,zA P),(276,kB P),(277,Lm P),(278,zA P),(279,Mm P),(280,mU P),(281,WN P),(282,zA P),(283,kB P),(284,Nm P),(285,nU P),(286,XN P),(287,zA P),(288,kB P),(289,Om P),(290,zA P),(291,Pm P),(292,oU P),(293,YN P),(294,zA P),(295,kB P),(296,Qm P),(297,pU P),(298,ZN P),(299,zA P),(300,kB P),(301,Rm P),(302,qU P),(303,aO P),(304,zA P),(305,kB P),(306,Sm P),(307,rU P),(308,bO P),(309,zA P),(310,kB P),(311,Tm P),(312,sU P),(313,cO P),(314,zA P),(315,kB P),(316,Um P),(317,tU P),(318,eO P),(319,zA P),(320,kB P),(321,Vm P),(322,uU P),(323,gO P),(324,zA P),(325,kB P),(326,Wm P),(327,vU P),(328,hO P),(329,zA P),(330,kB P),(331,Xm P),(332,wU P),(333,iO P)]
noncomputable def RR:List cA:=[0,2,3,32,35,36,37,38,39,40,41,42,43,44,45,46,47,48,49,50,51,52,53,54,55,63,67,68,69,70,71,72,73,74,113,114,115,116,117,118,119,123,124,128,129,133,134,135,136,137,138,139,140,141,142,150,151,152,153,154,155,156,157,158,159,160,161,162,163,164,165,166,167,168,169,170,171,172,173,174,175,176,177,178,179,180,181,182,183,184,185,186,187,188,189,190,191,192,193,194,195,196,197,198,199,200,201,202,203,204,205,206,207,208,209,210,211,212,213,214,215,216,217,218,219,220,221,222,223,224,225,226,227,228,229,230,231,232,233,234,235,236,237,238,239,240,241,242,243,244,245,246,247,248,249,250,251,252,253,254,255,256,257,258,259,260,261,262,263,264,265,268,269,270,271,272,273,274,275,276,277,278,279,280,281,282,283,284,285,286,287,288,289,290,291,292,293,294,295,296,297,298,299,300,301,302,303,304,305,306,307,308,309,310,311,312,313,314,315,316,317,318,319,320,321,322,323,324,325,326,327,328,329,330,331,332,333]
noncomputable def env:Env:={ scope:=pw.main.scope,locals:=mainNs,globals:=mainNs,cells:=[],code:=(.ref 30),frame:=some 31 }
abbrev cE:Code:=.body JE env
abbrev pG:List Frame:=[topFrame ⟨0,0,0,0⟩]
abbrev YD:Option dA:=(some (.ref 6))
theorem HS{α:Type}(l:List α)(a b:Nat)(h:a<=b):l.drop a=(l.drop a).take (b - a)++l.drop b:=by
 rw [show l.drop b=(l.drop a).drop (b - a) by rw [IV];congr 1;lia]
 exact (List.take_append_drop _ _).symm
noncomputable def aU:List Str:=importedModules pw.main.body
theorem Io(w:eA):(fencedOpening oB pw w 40000).map (fun s=>(s.heap,s.gens,s.drawn,s.toks))=some (jH w.params,#[],⟨0,0,0,0⟩,(EO w (start (opening pw)).1.os).toks):=by
 unfold fencedOpening
 rw [PySem.W.Fast.te10274390034422433532,PySem.W.Fast.te14289696077712309145,PySem.W.Fast.te14364793385576792824,PySem.W.Fast.te1435165496053646825]
 kernel_rfl
theorem vp(w:eA)(os:XD):topGo oB pw w 28 YD 12 (EO w os) (topStub pw)=some (Y4 w os,⟨denote oB cE,cE,⟨0,0,0,0⟩,pG⟩):=by kernel_rfl
theorem n9(w:eA)(os:XD):segRun oB pw w 28 YD 1 1 (Y4 w os) (blockOf JE env cE ⟨0,0,0,0⟩ pG)=some (.next,(pV w os).abs,cE,⟨0,0,0,0⟩):=by kernel_rfl
theorem ap(w:eA)(os:XD):segRunT oB pw w 28 YD 1 1534 (pV w os) ⟨(execs ((JE.drop 0).take (56 - 0)) env).wrap doneF deadEnd id id,cE,⟨0,0,0,0⟩,pG⟩=some (.next,HM w os,cE,⟨60,0,60,8⟩):=by
 rw [PySem.W.Fast.te10110043849684766642,PySem.W.Fast.te14364793385576792824,PySem.W.Fast.te12563942051412417395]
 refine byRow2 "special-get-raises" (P:=fun w=>PySem.W.Fast.tw10110043849684766642 PySem.W.Fast.tw14364793385576792824 pw w 28 YD 1 1534 (pV w os) ⟨(PySem.W.Fast.tw12563942051412417395 ((JE.drop 0).take (56 - 0)) env).wrap doneF deadEnd id id,cE,⟨0,0,0,0⟩,pG⟩=some (.next,HM w os,cE,⟨60,0,60,8⟩)) ?_ ?_ w
 ·intro w;kernel_rfl
 ·intro w;kernel_rfl
theorem cp(w:eA)(os:XD):segRunT oB pw w 28 YD 1 999 (HM w os) ⟨(execs ((JE.drop 56).take (57 - 56)) env).wrap doneF deadEnd id id,cE,⟨60,0,60,8⟩,pG⟩=some (.next,DO w os,cE,⟨61,0,61,6⟩):=by
 rw [PySem.W.Fast.te10110043849684766642,PySem.W.Fast.te14364793385576792824,PySem.W.Fast.te12563942051412417395]
 refine byRow2 "set-order" (P:=fun w=>PySem.W.Fast.tw10110043849684766642 PySem.W.Fast.tw14364793385576792824 pw w 28 YD 1 999 (HM w os) ⟨(PySem.W.Fast.tw12563942051412417395 ((JE.drop 56).take (57 - 56)) env).wrap doneF deadEnd id id,cE,⟨60,0,60,8⟩,pG⟩=some (.next,DO w os,cE,⟨61,0,61,6⟩)) ?_ ?_ w
 ·intro w
  refine byRow2 "special-get-raises" (P:=fun w'=>(fun w=>PySem.W.Fast.tw10110043849684766642 PySem.W.Fast.tw14364793385576792824 pw w 28 YD 1 999 (HM w os) ⟨(PySem.W.Fast.tw12563942051412417395 ((JE.drop 56).take (57 - 56)) env).wrap doneF deadEnd id id,cE,⟨60,0,60,8⟩,pG⟩=some (.next,DO w os,cE,⟨61,0,61,6⟩)) (w'.withFollow "set-order" false)) ?_ ?_ w
  ·intro w;kernel_rfl
  ·intro w;kernel_rfl
 ·intro w
  refine byRow2 "special-get-raises" (P:=fun w'=>(fun w=>PySem.W.Fast.tw10110043849684766642 PySem.W.Fast.tw14364793385576792824 pw w 28 YD 1 999 (HM w os) ⟨(PySem.W.Fast.tw12563942051412417395 ((JE.drop 56).take (57 - 56)) env).wrap doneF deadEnd id id,cE,⟨60,0,60,8⟩,pG⟩=some (.next,DO w os,cE,⟨61,0,61,6⟩)) (w'.withFollow "set-order" true)) ?_ ?_ w
  ·intro w;kernel_rfl
  ·intro w;kernel_rfl
theorem dp(w:eA)(os:XD):segRunT oB pw w 28 YD 1 30 (DO w os) ⟨(execs ((JE.drop 57).take (58 - 57)) env).wrap doneF deadEnd id id,cE,⟨61,0,61,6⟩,pG⟩=some (.next,IM w os,cE,⟨62,0,63,30⟩):=by rw [PySem.W.Fast.te10110043849684766642,PySem.W.Fast.te14364793385576792824,PySem.W.Fast.te12563942051412417395];kernel_rfl
noncomputable def jS:IA->Expr | .Assign [t] _ _=>t|_=>.Constant .none 0 default
noncomputable def xL:IA->Pos | .Assign _ (.Dict _ _ p) _=>p|_=>default
noncomputable def u7:IA->Pos | .Assign _ _ p=>p|_=>default
noncomputable def rX:Nat:=nB.length / 17
noncomputable def yL:List (Int×Str):=nB.take 17
noncomputable def dN:List (List (Int×Str)):=(UA (rX - 1)).map fun i=>(nB.drop (17*(i+1))).take 17
noncomputable def eN:List (Int×Str):=nB.drop (17*rX)
theorem W3:∀ (l:List (Int×Str)) (b:Int),BM b l=true->∀ y∈l,b<y.1/\y.1<2^60
 | [],_,_,_,h=>by cases h
 | (k,x)::r,b,h,y,hy=>by
  simp only [BM,KA,decide_eq_true_eq] at h
  rcases bB.mp hy with rfl|hy
  ·exact h.1
  ·have:=W3 r k h.2 y hy;lia
theorem DY:∀ (l:List (Int×Str)) (b:Int),0<=b+1->BM b l=true->OI l
 | [],_,_,_=>.nil
 | (k,x)::r,b,hb,h=>by
  simp only [BM,KA,decide_eq_true_eq] at h
  refine EJ.mpr ⟨fun y hy=>?_,DY r k (by lia) h.2⟩
  have:=W3 r k h.2 y hy
  show ZC k≠ZC y.1
  rw [KZ (by lia) (by lia),KZ (by lia) (by lia)]
  lia
theorem qX:nB=yL++(dN.flatten++eN):=by kernel_rfl
theorem E7:BM (-1) nB=true:=by kernel_rfl
theorem C7:yL.length=17/\dN.all (fun c=>c.length==17)=true/\(eN.isEmpty=false/\BE eN.length 15=true)/\AD dN.length 65536=true:=⟨by kernel_rfl,by kernel_rfl,⟨by kernel_rfl,by kernel_rfl⟩,by kernel_rfl⟩
theorem y7(w:eA)(os:XD):nE (IM w os):=fun i hi=>by
 have h:(UA 74).all (fun i=>((IM w os).tree.get i).isSome)=true:=by kernel_rfl
 exact YA.mp h i (gE.mpr hi)
theorem z7:((evalEachOpt (gS (stm 58)) env).zip ((evalEach (kS (stm 58)) env).map fun v=>do let x <- v;standAt (xL (stm 58));Pure.pure x))=nB.map fun y=>uC (JD (xL (stm 58)) y):=by kernel_rfl
noncomputable def ZT(w:eA)(os:XD):xB:={ JM w os with tree:=(V5 w.params).set 3 (fun _=>P2 w.params),toks:=2521 }
theorem D7(w:eA)(os:XD):pN 74 (wN (IM w os) yL) (ZA (IM w os).toks yL) yL.length dN eN=ZT w os:=by kernel_rfl
theorem A7(w:eA)(os:XD)(K:Flow->Sem Fin)(H:dA->Sem Fin)(gd:Bool->Bool)(lv:List dA->List dA)(c:Code)(B:List Frame) :
  qG oB pw w 28 YD 7 (ZT w os) ⟨(assignStores env (.ref 74) none [assign (jS (stm 58)) env]).wrap K H gd lv,c,xL (stm 58),B⟩=some (JM w os,⟨K .next,c,⟨64,0,64,13⟩,B⟩):=by kernel_rfl
theorem x7:exec (stm 58) env=(standAt (u7 (stm 58))>>=fun _=>(standAt (xL (stm 58))>>=fun _=>dictDisplay ((evalEachOpt (gS (stm 58)) env).zip ((evalEach (kS (stm 58)) env).map fun v=>do let x <- v;standAt (xL (stm 58));Pure.pure x)))>>=fun v=>assignStores env v none [assign (jS (stm 58)) env]):=by kernel_rfl
theorem B7(w:eA)(os:XD):RT oB pw w 28 YD (assignStores env (.ref 74) none [assign (jS (stm 58)) env]) (ZT w os) (xL (stm 58)) 7 .next (JM w os) ⟨64,0,64,13⟩:=A7 w os
@[irreducible] def iS:Nat:=1+((1+((1+(1+13*yL.length))+oN dN eN))+7)
theorem F7(w:eA)(os:XD):RT oB pw w 28 YD (exec (stm 58) env) (IM w os) ⟨62,0,63,30⟩ iS .next (JM w os) ⟨64,0,64,13⟩:=by
 rw [x7,z7,qX]
 rw [iS]
 obtain⟨h1,h2,⟨h3,h4⟩,h5⟩:=C7
 refine RT.bind RT.at (RT.bind (a:=.ref 74) (RT.bind RT.at ?_) (B7 w os))
 rw [<-D7]
 exact aq (by intro q;rw [q] at h3;cases h3) (LC h4) (y7 w os) (by rfl) (by show 1<74;lia) h1 (fun c hc=>by simpa using YA.mp h2 c hc) (LC h5) (qX▸DY _ _ (by lia) E7)
theorem w7:iS<=13000:=LC (by kernel_rfl)
theorem o9:JE.drop 58=stm 58::JE.drop 59:=by kernel_rfl
noncomputable def qv:pA:={ pw with main:={ pw.main with body:=[stm 78] } }
noncomputable def XL:List Str:=pw.boundNames.filter (fun n=>n != nA "law")
noncomputable def WR:iA->Bool:=fun _=>true
theorem K6(P:lA):RR=(KF P).map (·.1):=by kernel_rfl
abbrev KH:Hook:=kHook KF RR K6
noncomputable def xQ(w:eA)(S:iA):=((staticsOk aU (jH w.params) S.heap&&namesBound pw S.heap&&gensDone S&&laidKept (jH w.params) S.heap),openSeen qv XL aU WR true S,RR.map S.heap.get?)
noncomputable def UF(w:eA):=(true,openGood qv XL,(KF w.params).map fun p=>some p.2)
theorem Mp(w:eA)(os:XD):(segRunT oB pw w 28 YD 1 1363 (JM w os) ⟨(execs (JE.drop 59) env).wrap doneF deadEnd id id,cE,⟨64,0,64,13⟩,pG⟩).map (fun r=>(r.1,r.2.2.1,r.2.2.2,xQ w r.2.1.abs))=some (.next,cE,⟨263,0,282,83⟩,UF w):=by
 rw [PySem.W.Fast.te10110043849684766642,PySem.W.Fast.te14364793385576792824,PySem.W.Fast.te12563942051412417395]
 refine byRow2 "special-get-raises" (P:=fun w=>(PySem.W.Fast.tw10110043849684766642 PySem.W.Fast.tw14364793385576792824 pw w 28 YD 1 1363 (JM w os) ⟨(PySem.W.Fast.tw12563942051412417395 (JE.drop 59) env).wrap doneF deadEnd id id,cE,⟨64,0,64,13⟩,pG⟩).map (fun r=>(r.1,r.2.2.1,r.2.2.2,xQ w r.2.1.abs))=some (.next,cE,⟨263,0,282,83⟩,UF w)) ?_ ?_ w
 ·intro w;kernel_rfl
 ·intro w;kernel_rfl
theorem Iq(w:eA):(((jH w.params).isNs mainGlobals&&(#[]:Array GenState).size==0),(jH w.params).objs.size,(jH w.params).nsMap mainGlobals "__annotations__")=(true,28,YD):=by kernel_rfl
theorem Nc(w:eA)(s:iA)(p:Pos):topRun oB pw w 28 YD 2 s ⟨doneF .next,cE,p,pG⟩=some s:=by
 obtain⟨h,g,d,k,os⟩:=s
 kernel_rfl
theorem t9(X:Nat)(h:X<=13000):12+(1+(1534+(999+(30+(X+(1363+2))))))<=40000:=by lia
theorem kq(w:eA)(os:XD):∃ M r,M<=40000/\topRun oB pw w 28 YD M (EO w os) (topStub pw)=some r/\xQ w r=UF w:=by
 obtain⟨⟨f,S,c,q⟩,e1,e2⟩:=MC.mp (Mp w os)
 simp only [Prod.mk.injEq] at e2
 obtain⟨rfl,rfl,rfl,e3⟩:=e2
 have t:topRun oB pw w 28 YD 2 S.abs (restOf [] env cE ⟨263,0,282,83⟩ pG)=some S.abs:=piece_nil (Nc w S.abs _)
 have t:=piece_app (rest:=[]) (segRun_of e1) t
 rw [bC] at t
 have t:=RT.step_top (F7 w os) t
 rw [<-o9] at t
 have t:=piece_app (segRun_of (dp w os)) t
 rw [<-HS JE 57 58 (by lia)] at t
 have t:=piece_app (segRun_of (cp w os)) t
 rw [<-HS JE 56 57 (by lia)] at t
 have t:=piece_app (segRun_of (ap w os)) t
 rw [<-HS JE 0 56 (by lia)] at t
 rw [cL] at t
 have t:=piece_block (n9 w os) t
 have t:=go_top (vp w os) t
 exact⟨_,S.abs,t9 _ w7,t,e3⟩
theorem ai:LeftO pw qv XL WR KH.obs KH.val 40000:=fun w=>by
 obtain⟨⟨h,gs,d,k,os⟩,e,e'⟩:=MC.mp (Io w)
 simp only [Prod.mk.injEq] at e'
 obtain⟨rfl,rfl,rfl,rfl⟩:=e'
 obtain⟨M,r,hM,t,lk⟩:=kq w os
 have z:=Iq w
 simp only [Prod.mk.injEq] at z
 obtain⟨z1,z2,z3⟩:=z
 simp only [xQ,UF,Prod.mk.injEq] at lk
 obtain⟨l1,l2,l3⟩:=lk
 have t:=topRun_mono (40000 - M) _ _ _ _ t
 rw [show M+(40000 - M)=40000 by lia] at t
 unfold openEnds
 rw [e]
 have q:topFrom oB pw w 40000 ⟨jH w.params,#[],⟨0,0,0,0⟩,(EO w (start (opening pw)).1.os).toks,os⟩=some r:=by
  unfold topFrom
  dsimp only
  rw [z1,z2,z3]
  have t':topRun oB pw w 28 YD 40000 ⟨jH w.params,#[],⟨0,0,0,0⟩,(EO w (start (opening pw)).1.os).toks,os⟩ (topStub pw)=some r:=t
  rw [t']
  show (match staticsOk aU (jH w.params) r.heap&&namesBound pw r.heap&&gensDone r&&laidKept (jH w.params) r.heap with|true=>_|false=>_)=_
  rw [l1]
 show (topFrom oB pw w 40000 _).map _=_
 rw [q]
 exact congrArg some (Prod.ext l2 l3)
end Mine
end
section
namespace Mine
noncomputable def XI:DefRec:=⟨nA "law",fA (stm 78),fB (stm 78),fS (stm 78),match stm 78 with | .FunctionDef _ _ _ _ _ _ _ _ _ p=>p|_=>default⟩
theorem Qb:defOf qv PySem.Challenge.rw_kl0260_04.row.name=some (XI,[]):=by kernel_rfl
theorem Qr:PySem.Challenge.rw_kl0260_04.row.prog.theDef PySem.Challenge.rw_kl0260_04.row.name=some (XI.params,XI.body,XI.scope):=by kernel_rfl
theorem wh:kwWritten? XI.params.kwonlyargs XI.params.kw_defaults=some []:=by kernel_rfl
theorem mq:PySem.Challenge.rw_kl0260_04.wellSaid=true:=by kernel_rfl
theorem vf(call:WalkO qv XL (fun _ _=>True) KH.says PySem.Challenge.rw_kl0260_04.row.toRowW XI [] fun f vs=>PySem.call f vs):PySem.Challenge.rw_kl0260_04.Holds:=by
 refine holds_law mq fun said=>?_
 refine holds_open (r:=PySem.Challenge.rw_kl0260_04.row) (q:=qv) (loose:=XL) (Xt:=WR) (XP:=fun _ _=>True) (Yf:=KH.obs) (Ya:=KH.val) (YP:=KH.says) (N:=40000) ai (Hook.of KH) (Hook.keeps KH) (fun _ _=>trivial) (fun _ _ _ _ _=>trivial)
  Qb Qr wh (fun s e=>?a) (by rfl) ‹_› ?b ⟨rfl,rfl,rfl,rfl,rfl,by decide +kernel⟩ ?hw call
 case a=>exact recFacts_of (R:=[]) (by rfl)
 case b=>decide +kernel
 case hw=>exact⟨[.list [.int 3]],by decide +kernel,by decide +kernel⟩
end Mine
end
set_option backward.match.sparseCases false
set_option genInjectivity false
set_option genSizeOf false
section
namespace Ev
theorem Lr{x a b c n:Nat}(h:x<a)(q:1+a+b+c<n+1):x<n :=
 cC h (dG (iB (jA (jA (LD a 1) (BB _ b)) (BB _ c)) q))
theorem K3(a:Nat):0<1+a:=cC Nat.one_pos (BB 1 a)
theorem lp(a b:Nat):0<1+a+b:=cC (K3 a) (BB _ b)
theorem M3{x a b:Nat}(h:x<=a):x<1+a+b:=WH b (iB h (JV Nat.one_pos))
theorem PQ{x a b c:Nat}(h:x<=a):x<1+a+b+c:=WH c (M3 h)
theorem uM{x a b c:Nat}(h:x<=b):x<1+a+b+c:=WH c (iB h (JV (K3 a)))
theorem KK{x a b c d:Nat}(h:x<=a):x<1+a+b+c+d:=WH d (PQ h)
theorem LK{x a b c d:Nat}(h:x<=b):x<1+a+b+c+d:=WH d (uM h)
theorem wI{x a b c d:Nat}(h:x<=c):x<1+a+b+c+d:=WH d (iB h (JV (lp a b)))
theorem kg{a b:Int}:a<=if a<b then b else a:=by
 split
 ·rename_i h;exact vH h
 ·exact Int.le_refl a
theorem lg{a b:Int}:b<=if a<b then b else a:=by
 split
 ·exact Int.le_refl b
 ·rename_i h;exact pF.mp h
theorem gT{x:Int}(h:-65536000000<=x)(h':x<=65536000000):-2^63<=x/\x<2^63:=⟨rF (by decide) h,dL h' (by decide)⟩
theorem aQ{x:Int}(h:-65536<=x)(h':x<=65536):-2^63<=x/\x<2^63:=gT (rF (by decide) h) (rF h' (by decide))
theorem wZ{i:Int}(h:0<=i):-2^63<=i:=rF (by decide) h
theorem jj{i:Int}(h:¬ 0<=i):i<2^63:=uR (fL.mp h) (by decide)
theorem NT{n:Nat}{i:Int}(h:i<n)(h':n<=65536):i<2^63:=uR h (dL (CD.mpr h') (by decide))
theorem xZ{n:Nat}{i:Int}(h:-(n:Int)<=i)(h':n<=65536):-2^63<=i:=rF (rF (by decide) (Int.neg_le_neg (CD.mpr h'))) h
theorem kj{n:Nat}(h:n<=65536):(n:Int)<2^63 - 1:=dL (CD.mpr h) (by decide)
theorem xk{n:Nat}(h:n<=16777216):-2^63<=(n:Int)/\(n:Int)<2^63:=⟨wZ (vB n),dL (CD.mpr h) (by decide)⟩
theorem CY{a b:Int}(h:-65536<=a/\a<=65536 /\ -65536<=b/\b<=65536):(b - a).toNat<=16777216:=Int.toNat_le.mpr (rF (Int.sub_le_sub h.2.2.2 h.1) (by decide))
theorem Z5{u d e L:Nat}(hu:u+20<L)(h:d<=8):u+min d e<L :=
 iB (EC (jA (Nat.min_le_left d e) (jA h (by decide))) u) hu
theorem iR{u a b L:Nat}(hu:u+20<L)(h:b<=8):u+1+min a b<L:=by
 rw [UH]
 exact iB (EC (jA (EC (jA (GJ a b) h) 1) (by decide)) u) hu
theorem a6{u n L:Nat}(h:u+10*n+40<L):u+20<L:=by
 rw [UH] at h
 exact iB (EC (jA (by decide) (LD 40 (10*n))) u) h
theorem Np{d n R:Nat}(h:d+3*(n+1)<R):d+1+3*n<R:=by
 rw [UH]
 exact iB (EC (jA (FB (SE 1 _)) (EC (by decide) (3*n))) d) h
theorem Op{u n R:Nat}(h:u+10*(n+1)+40<R):u+3+10*n+40<R:=by
 refine iB (eG ?_ 40) h
 rw [UH]
 exact EC (jA (FB (SE 3 _)) (EC (by decide) (10*n))) u
theorem Pp{d n R:Nat}(h:d+3*(n+1)<R):d+1+3*n+1<R:=by
 rw [RE d 1]
 exact uD (jD (d+3*n+2)) h
theorem Qp{u n R:Nat}(h:u+10*(n+1)+40<R):u+1+10*n+43<R:=by
 rw [RE u 1]
 exact iB (EC (by decide:44<=50) (u+10*n)) h
theorem Dk{n i:Int}(h:-n<=i):0<=i+n:=by
 rw [<-Int.add_left_neg n]
 exact Int.add_le_add_right h n
theorem U1{n i:Int}(h:i<0):i+n<n:=bL (Int.add_lt_add_right h n) (Int.le_of_eq (Int.zero_add n))
theorem EQ{a:Int}(h:a.natAbs<2^30):-2^64<a/\a<2^64:=by
 have q:∀ b:Int,b.natAbs<2^30->b<2^64:=fun b h=>dL Int.le_natAbs (uR (kD.mpr h) (by decide))
 exact⟨Int.neg_lt_of_neg_lt (q (-a) (by rw [Int.natAbs_neg];exact h)),q a h⟩
theorem yr{m y x:Nat}(h:min y (m+1) - x=m+1):x=0:=by
 rcases x with _|x
 ·rfl
 ·have q:m+1<=m+1 - (x+1):=jA (FB h.symm) (Nat.sub_le_sub_right (GJ y _) _)
  rw [Nat.succ_sub_succ] at q
  exact absurd (jA q (wC m x)) (vR m)
theorem m1{n:Nat}:((-1:Int)+(n+1)).toNat=n:=by
 rw [Int.add_comm,Int.add_assoc]
 show ((n:Int)+0).toNat=n
 rw [Int.add_zero];rfl
theorem gI(k m:Int){n:Nat}(h:m=n)(hn:0<m):(k%m).toNat<n:=(FG (EE k (PM hn))).mpr (bL (wH k hn) (Int.le_of_eq h))
theorem JH:∀ y:Nat,y<4->y=0\/y=1\/y=2\/y=3:=by decide
theorem lj:∀ y:Nat,y<8->y=0\/y=1\/y=2\/y=3\/y=4\/y=5\/y=6\/y=7:=by decide
theorem Vr{a:Int}(h:0<=a)(n:Nat):(a - n).toNat=a.toNat - n:=by
 obtain⟨j,rfl⟩:=gL h
 exact Int.toNat_sub j n
theorem S5{a:Int}(h:2<=a):2<=a.toNat:=(Int.le_toNat (rF (by decide) h)).mpr h
theorem z9{a:Int}(h:0<=a):a=0\/a=1\/2<=a:=by
 obtain⟨j,rfl⟩:=gL h
 match j with
 | 0=>exact .inl rfl
 | 1=>exact .inr (.inl rfl)
 | j+2=>exact .inr (.inr (CD.mpr (LD 2 j)))
theorem XS{b:Nat}(hb:0<b){l:List Nat}(j:Nat)(h:l.all (fun x=>decide (x<b))=true):l.getD j 0<b:=by
 rw [FE]
 rcases e:l[j]? with _|x
 ·exact hb
 ·exact of_decide_eq_true (YA.mp h x (DD e))
theorem Yp(a b:Int):(if a<b then b - a else 0)=max (b - a) 0:=by
 by_cases h:a<b
 ·rw [if_pos h,Int.max_eq_left (OO (vH h))]
 ·rw [if_neg h,LV (Int.sub_nonpos_of_le (pF.mp h))]
theorem Wa{n k:Nat}{i:Int}(h:(k:Int)=max 0 (min i n))(hi:¬ i<0):min i.toNat n=k:=by
 obtain⟨j,rfl⟩:=gL (pF.mp hi)
 show min j n=k
 rcases Nat.le_total j n with q|q
 ·rw [Int.min_eq_left (CD.mpr q),LV (vB j)] at h
  rw [wR q];exact (xH.inj h).symm
 ·rw [Int.min_eq_right (CD.mpr q),LV (vB n)] at h
  rw [Nat.min_eq_right q];exact (xH.inj h).symm
theorem Va{n k:Nat}{i:Int}(h:(k:Int)=max 0 (min (i+n) n))(hi:i<0):(i+n).toNat=k:=by
 rw [Int.min_eq_left (vH (U1 hi)),Int.max_comm,<- Int.ofNat_toNat] at h
 exact (xH.inj h).symm
theorem sk{k m n:Nat}(h:k+(m+1)=n):k+1+m=n:=(Nat.succ_add k m).trans h
theorem U0{k m n:Nat}(h:k+(m+1)=n):k<n:=HI (FV (NM m)) h
theorem ci{k m n:Nat}(h:k+(m+1)=n+1):k<=n:=dG (U0 h)
theorem vq{a b c:Nat}(h1:c<=b)(h2:b<=a):a - (b - c)=a - b+c:=(Nat.sub_sub_right a h1).trans (Nat.sub_add_comm h2)
theorem G1{a b:Nat}(h:min a b=a):a<=b:=jA (FB h.symm) (GJ a b)
theorem ma{a b c d e:Nat}(h0:a<b)(h1:b<c)(h2:c<d)(h3:d<e):4<=e :=
 jA (XB (jA (XB (jA (XB (jA (XB (iE a)) h0)) h1)) h2)) h3
theorem N1(n:Nat):(if (1:Int)<(n:Int) then (n:Int) else 1)=((max 1 n:Nat):Int):=by
 by_cases h:1<n
 ·exact (if_pos (kD.mpr h:(1:Int)<n)).trans (congrArg Nat.cast (MV (kC h)).symm)
 ·exact (if_neg (fun q:(1:Int)<n=>h (kD.mp q))).trans (congrArg Nat.cast (Nat.max_eq_left (PO h)).symm)
theorem Sj(n:Nat):(0:Int)<((max 1 n:Nat):Int):=kD.mpr (cC Nat.one_pos (Nat.le_max_left 1 n))
theorem Vj(p n:Nat):((p:Int)+if (1:Int)<((n+1:Nat):Int) then ((n+1:Nat):Int) else 1)=((p+1+n:Nat):Int):=by
 rw [N1,MV (XB (iE n)),RE];rfl
theorem C2{a b:Nat}(h:b<=a):(a:Int) - b=((a - b:Nat):Int):=(Int.ofNat_sub h).symm
theorem zk{p n:Nat}:¬ (p:Int)=((p+(n+1):Nat):Int):=fun e=>iD (FV (NM n)) (xH.inj e)
theorem d8{k:Nat}:108+2*k<=108+2*(k+1):=EC (yH 2 (CB k)) 108
theorem d9{k:Nat}:108<=109+2*k:=jA (by decide) (BB 109 (2*k))
theorem d7{k:Nat}:109+2*k<108+2*(k+1):=iB (FB (RE 108 1 (2*k))) (jD (108+2*k+1))
theorem gK{x j:Nat}(h:x=107\/108<=x/\x<108+2*j):x<108+2*j:=h.elim (fun e=>cC (iB (FB e) (by decide)) (BB 108 _)) And.right
theorem X1{x j:Nat}(h:x=107\/108<=x/\x<108+2*j):x<109+2*j:=uD (gK h) (KO (by decide) _)
theorem Ss:∀ n,n<8->350 - 40*(n+1)+40=350 - 40*n:=by decide
theorem j6:∀ n,n<8->350 - 40*(n+1)+4+27 - 9*0+1+1<=350 - 40*n:=by decide
theorem W1{K m:Nat}(h:9*(m+1)<=K):K - 9*(m+1)+(1+2+4+2)<=K - 9*m/\9*m<=K :=
 ⟨FB ((congrArg (· + 9) (Nat.sub_add_eq K (9*m) 9)).trans (Nat.sub_add_cancel (Nat.le_sub_of_add_le' h))),jA (BB (9*m) 9) h⟩
theorem m6:∀ n,n<8->∀ m,m<4->350 - 40*(n+1)+(1+1+1+1)<=350 - 40*(n+1)+4+27 - 9*m/\9*m<=350 - 40*(n+1)+4+27:=by decide
theorem n6(a:Nat):350 - a<=60000:=jA (wC _ _) (by decide)
theorem Ts(a:Nat):350 - a+(1+1+1+1)<=60000:=jA (eG (wC _ _) _) (by decide)
theorem p6(a b:Nat):350 - a+4+27 - b<=381:=jA (wC _ _) (eG (wC 350 a) 31)
theorem Us:∀ n,n<8->350 - 40*(n+1)+4+27 - 9*0+1<=349:=by decide
theorem xp{x a b c d e:Nat}(h:x<=a):x<1+a+b+c+d+e:=WH e (KK h)
theorem yp{x a b c d e:Nat}(h:x<=b):x<1+a+b+c+d+e:=WH e (LK h)
theorem zp{x a b c d e:Nat}(h:x<=c):x<1+a+b+c+d+e:=WH e (wI h)
theorem A9:∀ c,c<114->107<=c->c - 107<7/\107+(c - 107)=c:=by decide
theorem CT{a b n:Nat}(h:a+(b+1)<=n):a+1+b<=n:=jA (FB (Nat.succ_add a b)) h
theorem D0{a b n:Nat}(h:a+(b+1)<=n):a+1<=n:=jA (XB (BB a b)) h
inductive V where
 | none|bool (b:Bool)|int (i:Int)|str (s:List Nat)
 | tup (vs:List V)|lst (vs:List V)
 | dct (ks:List (List Nat)) (vs:List V)
 | ref (i:Nat)|hd (i:Nat)
 | rng (a b:Int)
 | nod|noi
 | g (x:Str)|bi (id:String)|ty (n:String)
 | fn (x:Str)
 | m (o:V) (x:Str)
inductive O where
 | list (vs:List V)
abbrev St:=List O
abbrev mA(α:Type):=StateT St Option α
noncomputable def yA{α:Type}:mA α:=fun _=>.none
noncomputable def gt{α:Type}:Option α->mA α
 | .none=>yA
 | .some a=>pure a
noncomputable def V.isI(i:Int):V->Bool | .int j=>j==i|_=>false
noncomputable def V.isS(s:List Nat):V->Bool | .str t=>t==s|_=>false
noncomputable def V.int?:V->Option Int | .int i=>some i|_=>.none
noncomputable def V.str?:V->Option (List Nat) | .str s=>some s|_=>.none
noncomputable def V.g?:V->Option Str | .g x=>some x|_=>.none
noncomputable def cap:Nat:=65536
noncomputable def NN(vs:List V):Option V:=if vs.length<=cap then some (.lst vs) else .none
noncomputable def QH(s:List Nat):Option V:=if s.length<=cap then some (.str s) else .none
noncomputable def XJ{α:Type}(l:List α):Option Bool:=if l.length<=cap then some (decide (l.length≠0)) else .none
noncomputable def oF(st:St):V->Option Bool
 | .none=>some false
 | .bool b=>some b
 | .int i=>some (i != 0)
 | .str s=>XJ s
 | .tup vs=>XJ vs
 | .lst vs=>XJ vs
 | .ref i=>match st[i]? with
  | some (.list vs)=>XJ vs
  | _=>.none
 | _=>.none
noncomputable def binI(op:dC)(a b:Int):Option V:=match op with
 | .Add=>some (.int (a+b))
 | .Sub=>some (.int (a - b))
 | .Mult=>if a.natAbs<2^30\/b.natAbs<2^30 then some (.int (a*b)) else .none
 | .FloorDiv=>if b≠0/\b.natAbs<1073741824 then some (.int (a.fdiv b)) else .none
 | .Mod=>if b=0 then .none else some (.int (a.fmod b))
 | .Pow=>if 0<=b/\b<=1000000/\a.natAbs<2^64 then some (.int (a^b.toNat)) else .none
 | .LShift=>if 0<=b/\b<=1000000/\a.natAbs<2^64 then some (.int (a*2^b.toNat)) else .none
 | .RShift=>if 0<=b then some (.int (a.fdiv (2^b.toNat))) else .none
 | .BitAnd=>some (.int (Builtin.bitAnd a b))
 | .BitOr=>some (.int (Builtin.bitOr a b))
 | _=>.none
noncomputable def oP(op:dC)(a b:List Nat):Option V:=match op with | .Add=>QH (a++b)|_=>.none
noncomputable def fN(op:dC)(a b:V):Option V:=match a.int? with
 | some x=>b.int?.bind (binI op x)
 | .none=>a.str?.bind fun x=>b.str?.bind (oP op x)
noncomputable def S(l:List Nat):Str:=⟨l.toArray⟩
noncomputable def isIn(s xs:List Nat):Bool:=!(Builtin.Str.occurrences (S xs) (S s) 0 (S xs).length 1).isEmpty
noncomputable def PG(st:St):V->Option (List V)
 | .lst vs=>some vs
 | .ref i=>match st[i]? with
  | some (.list vs)=>some vs
  | _=>.none
 | _=>.none
noncomputable def GD(st:St)(op:dC)(a b:V):Option V:=match fN op a b with
 | some v=>some v
 | .none=>match op with
  | .Add=>do
   let x <- PG st a
   let y <- PG st b
   NN (x++y)
  | .Mult=>b.int?.bind fun n=>(PG st a).bind fun x=>if 0<=n/\n<=64/\x.length<=64 then some (.lst (NC n.toNat x).flatten) else .none
  | _=>.none
noncomputable def oX(op:dC)(a b:Int):Option V:=match op with
 | .Add=>some (.int (a+b))
 | .BitOr=>some (.int (Builtin.bitOr a b))
 | .BitAnd=>some (.int (Builtin.bitAnd a b))
 | _=>.none
noncomputable def hH(op:dC)(a b:V):Option V:=match a.int? with
 | some x=>b.int?.bind (oX op x)
 | .none=>a.str?.bind fun x=>b.str?.bind (oP op x)
noncomputable def jB(st:St):Nat->V->Option OA
 | k,v=>match v with
  | .none=>some .none
  | .bool b=>some (.bool b)
  | .int i=>some (.int i)
  | .str l=>some (.str ⟨l.toArray⟩)
  | .tup vs=>match k with
   | 0=>.none
   | n+1=>(vs.mapM (jB st n)).map .tuple
  | .lst vs=>match k with
   | 0=>.none
   | n+1=>(vs.mapM (jB st n)).map .list
  | .ref i=>match k with
   | 0=>.none
   | n+1=>match st[i]? with
    | some (.list vs)=>(vs.mapM (jB st n)).map .list
    | _=>.none
  | _=>.none
noncomputable def SJ(st:St)(a b:V):Option Bool:=do
 let x <- jB st 8 a
 let y <- jB st 8 b
 some (OA.eqv x y)
noncomputable def EN(st:St)(a b:V):Option Bool:=do
 let x <- jB st 8 a
 match <- jB st 8 b with
 | .list ys=>some (ys.any fun y=>OA.eqv y x)
 | .tuple ys=>some (ys.any fun y=>OA.eqv y x)
 | _=>.none
inductive uL where|none|bool (b:Bool)|ty (n:String)|obj
noncomputable def bR:V->Option uL
 | .none=>some .none
 | .bool b=>some (.bool b)
 | .str _ | .int _ | .ref _ | .lst _ | .tup _ | .g _=>some .obj
 | .ty a=>some (.ty a)
 | _=>.none
noncomputable def bg:uL->uL->Option Bool
 | .none,b=>match b with | .none=>some true | .ty _=>.none|_=>some false
 | .bool a,b=>match b with | .bool b=>some (a==b) | .none=>some false|_=>.none
 | .obj,b=>match b with | .none=>some false|_=>.none
 | .ty a,b=>match b with | .ty b=>if a = "Headers" \/ b = "Headers" then .none else some (a==b)|_=>.none
noncomputable def ML(a b:V):Option Bool:=(bR a).bind fun x=>(bR b).bind (bg x)
noncomputable def IL(gd:Str->Option (List (V×V)))(st:St)(b a:V):Option Bool:=match b with
 | .g x=>match a with
  | .int i=>if x=("b1_set":Str) then (gd x).map fun es=>es.any fun e=>e.1.isI i else .none
  | .str s=>if x=("EXACT_TOKEN_TYPES":Str) then (gd x).map fun es=>es.any fun e=>e.1.isS s else .none
  | _=>.none
 | .dct ks _=>a.str?.map fun s=>ks.contains s
 | _=>.none
noncomputable def bQ(gd:Str->Option (List (V×V)))(st:St)(a b:V):Option Bool:=match a.str?,b.str? with
 | some a,some b=>some (isIn a b)
 | _,_=>match IL gd st b a with
  | some t=>some t
  | .none=>EN st a b
noncomputable def FL(f:Int->Int->Bool)(a b:V):Option Bool:=a.int?.bind fun a=>b.int?.map (f a)
noncomputable def ID(gd:Str->Option (List (V×V)))(st:St)(op:JG)(a b:V):Option Bool:=match op with
 | .Eq=>SJ st a b
 | .NotEq=>(SJ st a b).map (!·)
 | .Lt=>FL (fun a b=>decide (a<b)) a b
 | .LtE=>FL (fun a b=>decide (a<=b)) a b
 | .Gt=>FL (fun a b=>decide (b<a)) a b
 | .GtE=>FL (fun a b=>decide (b<=a)) a b
 | .Is=>ML a b
 | .IsNot=>(ML a b).map (!·)
 | .In=>bQ gd st a b
 | .NotIn=>(bQ gd st a b).map (!·)
noncomputable def jR(st:St)(op:UnaryOp)(a:V):Option V:=match op with
 | .USub=>a.int?.map fun a=>.int (-a)
 | .Not=>(oF st a).map fun b=>.bool (!b)
 | _=>.none
noncomputable def aD(n:Nat)(i:Int):Option Nat :=
 if n<=cap then (if 0<=i then (if i<n then some i.toNat else .none) else (if -(n:Int)<=i then some (i+n).toNat else .none)) else .none
noncomputable def EH:List (List Nat)->List V->List Nat->Option V
 | k::ks,v::vs,s=>if k=s then some v else EH ks vs s
 | _,_,_=>.none
noncomputable def tJ(vs:List V)(i:V):Option V:=i.int?.bind fun i=>(aD vs.length i).bind fun k=>vs[k]?
noncomputable def CC(st:St)(v:V)(i:V):Option V:=match v with
 | .dct ks vs=>i.str?.bind fun s=>EH ks vs s
 | .str s=>i.int?.bind fun i=>(aD s.length i).bind fun k=>s[k]?.map fun c=>.str [c]
 | .tup vs=>tJ vs i
 | .lst vs=>tJ vs i
 | .ref r=>match st[r]? with
  | some (.list vs)=>tJ vs i
  | _=>.none
 | _=>.none
noncomputable def DH(n:Nat)(d:Int):V->Option Nat
 | .none=>some d.toNat
 | .int i=>some (if i<0 then (i+n).toNat else min i.toNat n)
 | _=>.none
noncomputable def gC{α:Type}(l:List α)(a b:V):Option (List α):=if cap<l.length then .none else do
 let x <- DH l.length 0 a
 let y <- DH l.length l.length b
 some ((l.take y).drop x)
noncomputable def V.isN:V->Bool | .none=>true|_=>false
noncomputable def RK(st:St)(v a b c:V):Option V:=match c with
 | .none=>match v.str? with
  | some s=>(gC s a b).map .str
  | .none=>(PG st v).bind fun vs=>(gC vs a b).map .lst
 | .int i=>if i = -1/\a.isN=true/\b.isN=true then (PG st v).map fun vs=>.lst vs.reverse else .none
 | _=>.none
noncomputable def cK(st:St):V->Option (List V)
 | .str s=>some (s.map fun c=>.str [c])
 | .tup vs=>some vs
 | .rng a b=>if -65536<=a/\a<=65536 /\ -65536<=b/\b<=65536 then some ((UA (b - a).toNat).map fun (i:Nat)=>.int (a+i)) else .none
 | .ref i=>match st[i]? with
  | some (.list vs)=>some vs
  | _=>.none
 | .noi=>some []
 | .dct ks _=>some (ks.map .str)
 | .lst vs=>some vs
 | _=>.none
noncomputable def V.bool?:V->Option Bool | .bool b=>some b|_=>.none
noncomputable def V.ref?:V->Option Nat | .ref i=>some i|_=>.none
noncomputable def V.hd?:V->Option Nat | .hd i=>some i|_=>.none
noncomputable def V.tup?:V->Option (List V) | .tup vs=>some vs|_=>.none
noncomputable def V.lst?:V->Option (List V) | .lst vs=>some vs|_=>.none
mutual
noncomputable def xJ:V->V->Bool
 | .none,b=>b.isN
 | .bool a,b=>b.bool? == some a
 | .int a,b=>b.int? == some a
 | .str a,b=>b.str? == some a
 | .tup a,b=>b.tup?.elim false (OH a)
 | .lst a,b=>b.lst?.elim false (OH a)
 | .ref a,b=>b.ref? == some a
 | .hd a,b=>b.hd? == some a
 | .g a,b=>b.g? == some a
 | _,_=>false
noncomputable def OH:List V->List V->Bool
 | [],b=>b.isEmpty
 | a::r,b=>match b with
  | []=>false
  | b::t=>xJ a b&&OH r t
end
noncomputable def wJ:O->O->Bool
 | .list a,.list b=>OH a b
structure Ctx where
 glob:Str->Option V
 call:V->List V->List (Str×V)->mA V
 meth:St->V->Str->Option V
 attr:V->Str->Option V
 keep:Pos->Bool
 gd:Str->Option (List (V×V))
 init:Option (List (Str×GA)×IA)
structure Fr where
 sc:List (Str×GA)
 vars:List (Str×V)
 out:Str->Option V
noncomputable def Fr.get(Γ:Ctx)(ρ:Fr)(x:Str):Option V:=match ρ.sc.lookup x with
 | some .local|some .cell=>ρ.vars.lookup x
 | some .free=>ρ.out x
 | some .globalImplicit=>Γ.glob x
 | _=>.none
noncomputable def Fr.seen(Γ:Ctx)(ρ:Fr)(x:Str):Option V:=match ρ.sc.lookup x with
 | some .cell=>ρ.vars.lookup x
 | some .free=>ρ.out x
 | _=>.none
noncomputable def TB(x:Str)(v:V):List (Str×V)->List (Str×V)
 | []=>[(x,v)]
 | (y,u)::r=>if y=x then (x,v)::r else (y,u)::TB x v r
noncomputable def Fr.set(ρ:Fr)(x:Str)(v:V):Option Fr:=match ρ.sc.lookup x with
 | some .local|some .cell=>some { ρ with vars:=TB x v ρ.vars }
 | _=>.none
noncomputable def Fr.inner(Γ:Ctx)(ρ:Fr)(sc:Scope):Fr:=⟨sc.names,[],ρ.seen Γ⟩
noncomputable def alloc(o:O):mA V:=fun st=>some (.ref st.length,st++[o])
noncomputable def vG(Γ:Ctx)(p:Pos)(vs:List V):mA V:=if vs.length<=cap then (if Γ.keep p then alloc (.list vs) else pure (.lst vs)) else yA
noncomputable def YL(Γ:Ctx)(p:Pos):V->mA V
 | .lst vs=>vG Γ p vs
 | v=>pure v
mutual
noncomputable def rB(nw:Bool)(st:St):Expr->V->Fr->Option Fr
 | .Name x _,v,ρ=>if nw&&(ρ.vars.lookup x).isSome then .none else ρ.set x v
 | .Tuple es _ _,v,ρ=>match v with
  | .tup vs=>PD nw st es vs ρ
  | .str s=>PD nw st es (s.map fun c=>.str [c]) ρ
  | _=>.none
 | _,_,_=>.none
noncomputable def PD(nw:Bool)(st:St):List Expr->List V->Fr->Option Fr
 | [],vs,ρ=>match vs with
  | []=>some ρ
  | _=>.none
 | e::es,vs,ρ=>match vs with
  | v::vs=>do
   let ρ' <- rB nw st e v ρ
   PD nw st es vs ρ'
  | _=>.none
end
noncomputable def GN:Expr->Bool
 | .Tuple ..=>true
 | _=>false
set_option backward.match.sparseCases true in
noncomputable def gQ:Expr->Bool
 | .Starred ..=>true
 | _=>false
set_option backward.match.sparseCases true in
noncomputable def Q1(K:Str->Bool)(line:Nat):Expr->Option Str
 | .Name id pos=>if K id&&pos.line==line then some id else .none
 | _=>.none
noncomputable def TG(ts:List Expr)(sc:List (Str×GA)):List Str:=ts.filterMap (Q1 (fun x=>sc.lookup x==some .local) ((ts.head?.map (·.pos.line)).getD 0))
noncomputable def JK(ts vs:List Expr)(sc:List (Str×GA)):Option (Option (List Str)) :=
 if !(ts.length==2||ts.length==3)||vs.length != ts.length then some .none
 else if vs.any gQ then some .none
 else if (TG ts sc).length != ts.length||(TG ts sc).eraseDups.length != (TG ts sc).length then some .none
 else if vs.all (foldedForSure 8) then some .none
 else if vs.all (constantsAlone 8) then .none
 else some (some (TG ts sc))
noncomputable def BI:List Str->List V->Fr->Option Fr
 | [],[],ρ=>some ρ
 | x::xs,v::vs,ρ=>do
  let ρ' <- ρ.set x v
  BI xs vs ρ'
 | _,_,_=>.none
noncomputable def oE(st:St)(t e:Expr)(v:V)(ρ:Fr):Option Fr:=match t with
 | .Tuple ts _ _=>match e with
  | .Tuple es _ _=>do
   match <- JK ts es ρ.sc with
   | some names=>match v with
    | .tup vs=>BI names.reverse vs.reverse ρ
    | _=>.none
   | .none=>rB false st t v ρ
  | _=>rB false st t v ρ
 | t=>rB false st t v ρ
noncomputable def rd{α:Type}(f:St->Option α):mA α:=fun st=>(f st).map (·,st)
noncomputable def same:List (Nat×O)->mA Unit
 | []=>pure ()
 | (i,o)::r=>do
  let p <- rd fun st=>st[i]?
  if wJ o p then same r else yA
noncomputable def zD(st:St)(v:V):Option (List V×List (Nat×O)):=match v with
 | .ref i=>do
  let xs <- cK st v
  let o <- st[i]?
  some (xs,[(i,o)])
 | v=>(cK st v).map (·,[])
noncomputable def fF(ws:List (Nat×O)):List V->(V->mA (List V))->mA (List V)
 | [],_=>pure []
 | x::r,f=>do
  let a <- f x
  same ws
  return a++(<- fF ws r f)
inductive Fl where
 | next
 | ret (v:V)
noncomputable def OE(ws:List (Nat×O)):List V->Fr->(V->Fr->mA (Fl×Fr))->mA (Fl×Fr)
 | [],ρ,_=>pure (.next,ρ)
 | x::r,ρ,f=>do
  match <- f x ρ with
  | (.next,ρ')=>do
   same ws
   OE ws r ρ' f
  | o=>pure o
noncomputable def setO(i:Nat)(o:O):mA Unit:=fun st=>if i<st.length then some ((),st.set i o) else .none
noncomputable def jJ(st:St)(r:Nat):Option (List V):=match st[r]? with
 | some (.list vs)=>some vs
 | _=>.none
noncomputable def WK(o i v:V):mA Unit:=do
 let r <- gt o.ref?
 let n <- gt i.int?
 let vs <- rd fun st=>jJ st r
 let k <- gt (if 0<=n then aD vs.length n else .none)
 setO r (.list (vs.set k v))
noncomputable def jF:List (Str×GA)->Bool
 | []=>true
 | (n,_)::r=>(r.lookup n).isNone&&jF r
noncomputable def tI(ρ:Fr)(sc:Scope):Bool :=
 sc.kind == .function&&jF sc.names&&sc.names.all fun x=>match x.2 with
  | .free=>x.1 != ("__classdict__":Str)&&(match ρ.sc.lookup x.1 with|some .cell|some .free=>true|_=>false)
  | .local | .cell | .globalImplicit=>true
  | _=>false
noncomputable def yE:Expr->Bool
 | .Set ..=>false
 | _=>true
noncomputable def uJ(g:uB):Bool:=g.is_async==0&&yE g.iter
noncomputable def SS(a k:Nat):Bool:=decide (a+k+(if k==0 then 0 else 1)<30)
noncomputable def tO:Expr->Bool
 | .Call (.Name _ _) [] [] _=>false
 | _=>true
noncomputable def gD(l:List Nat):Option V:=if l.all (· < 0x110000) then QH l else .none
noncomputable def IH:Expr->Option Str
 | .Constant c _ _=>match c with | .str a=>some a|_=>.none
 | _=>.none
noncomputable def vQ:Expr->Bool
 | .BinOp l _ _ _=>(IH l).isSome
 | _=>false
noncomputable def QQ(ov:V)(o:Expr)(args:List Expr)(kws:List YB):mA V:=match ov.str? with
 | some s=>match args.map IH with
  | [a,b]=>match a with
   | some a=>match b with
    | some b=>if vQ o=true/\kws.length=0/\a≠b/\s.length<=65536/\b.length<=14 then gt (gD (Txt.replace (S s) a b).cps.toList) else yA
    | _=>yA
   | _=>yA
  | _=>yA
 | _=>yA
noncomputable def dF:List V->Option (List (List Nat))
 | []=>some []
 | .str k::_::r=>(dF r).map (k :: ·)
 | _=>.none
noncomputable def BV:List V->List V
 | _::v::r=>v::BV r
 | _=>[]
noncomputable def KQ(xs:List V):Bool:=match dF xs with
 | some ks=>decide ks.Nodup&&decide (xs.length<=128)
 | .none=>false
noncomputable def DQ(xs:List V):mA V:=if KQ xs then gt ((dF xs).map fun ks=>.dct ks (BV xs)) else yA
noncomputable def nI:List (Option Expr)->Option (List (List Nat))
 | []=>some []
 | some (.Constant (.str s) _ _)::r=>if s.cps.all (· < 0x110000)&&s.cps.size<=cap then (nI r).map (s.cps.toList :: ·) else .none
 | _=>.none
noncomputable def RG:List (List Nat)->List V->List V
 | k::ks,v::vs=>.str k::v::RG ks vs
 | _,_=>[]
noncomputable def hJ(Γ:Ctx)(ρ:Fr):Expr->Bool
 | .Name f _=>match ρ.get Γ f with
  | some (.ty n)=>decide (n = "enumerate" /\ f≠("__debug__":Str))
  | _=>false
 | _=>false
mutual
noncomputable def evalE(Γ:Ctx):Expr->Fr->mA V
 | .Constant c _ _,_=>match c with
  | .none=>pure .none
  | .bool b=>pure (.bool b)
  | .int i=>pure (.int i)
  | .str s=>if s.cps.all (· < 0x110000)&&s.cps.size<=cap then pure (.str s.cps.toList) else yA
  | _=>yA
 | .Name x _,ρ=>if x=("__debug__":Str) then pure (.bool true) else gt (ρ.get Γ x)
 | .BinOp l op r _,ρ=>do
  let a <- evalE Γ l ρ
  let b <- evalE Γ r ρ
  rd fun st=>GD st op a b
 | .UnaryOp op x _,ρ=>do
  let a <- evalE Γ x ρ
  rd fun st=>jR st op a
 | .BoolOp op vs _,ρ=>uN Γ vs op ρ
 | .IfExp t b o _,ρ=>do if <- IB Γ t ρ (evalE Γ t ρ) then evalE Γ b ρ else evalE Γ o ρ
 | .Compare l ops cs _,ρ=>do
  let a <- evalE Γ l ρ
  return .bool (<- OS Γ cs ops a ρ)
 | .Call f args kws pos,ρ=>match f with
  | .Attribute o name apos=>do
   let ov <- evalE Γ o ρ
   if tO o&&apos.endLine==pos.line&&SS args.length kws.length then do
    if name=("replace":Str) then QQ ov o args kws else do
    let f <- rd fun st=>Γ.meth st ov name
    let vs <- FC Γ args ρ
    let ks <- nG Γ kws ρ
    Γ.call f vs ks
   else yA
  | f=>do
   let fv <- evalE Γ f ρ
   let vs <- FC Γ args ρ
   let ks <- nG Γ kws ρ
   Γ.call fv vs ks
 | .Attribute o name _,ρ=>do
  let ov <- evalE Γ o ρ
  if tO o then gt (Γ.attr ov name) else yA
 | .Subscript o i p,ρ=>match i with
  | .Slice l u s _=>do
   let ov <- evalE Γ o ρ
   let a <- oG Γ l ρ
   let b <- oG Γ u ρ
   let c <- oG Γ s ρ
   let r <- rd fun st=>RK st ov a b c
   YL Γ p r
  | i=>do
   let ov <- evalE Γ o ρ
   let iv <- evalE Γ i ρ
   rd fun st=>CC st ov iv
 | .List es p,ρ=>do vG Γ p (<- FC Γ es ρ)
 | .Tuple es _ _,ρ=>if es.length<=cap then do return .tup (<- FC Γ es ρ) else yA
 | .ListComp e gs sc p,ρ=>do
  if tI ρ sc&&gs.all uJ && !gs.isEmpty then do
   let xs <- TF Γ gs (fun ρ'=>do return [<-evalE Γ e ρ']) ρ (ρ.inner Γ sc)
   vG Γ p xs
  else yA
 | .Dict ks vs _,ρ=>do
  let k <- gt (nI ks)
  if ks.length=vs.length/\0<ks.length/\ks.length<=15 then do
   let xs <- FC Γ vs ρ
   DQ (RG k xs)
  else yA
 | .DictComp k v gs sc _,ρ=>do
  if tI ρ sc&&gs.all uJ && !gs.isEmpty then do
   let xs <- TF Γ gs (fun ρ'=>do
    let a <- evalE Γ k ρ'
    let b <- evalE Γ v ρ'
    return [a,b]) ρ (ρ.inner Γ sc)
   DQ xs
  else yA
 | _,_=>yA
noncomputable def IB(Γ:Ctx):Expr->Fr->mA V->mA Bool
 | .UnaryOp op x _,ρ,whole=>match op with
  | .Not=>do return !(<- IB Γ x ρ (evalE Γ x ρ))
  | _=>do
   let v <- whole
   rd fun st=>oF st v
 | .BoolOp op vs _,ρ,_=>MS Γ vs op ρ
 | .IfExp t b o _,ρ,_=>do if <- IB Γ t ρ (evalE Γ t ρ) then IB Γ b ρ (evalE Γ b ρ) else IB Γ o ρ (evalE Γ o ρ)
 | .Compare l ops cs _,ρ,_=>do
  let a <- evalE Γ l ρ
  OS Γ cs ops a ρ
 | _,_,whole=>do
  let v <- whole
  rd fun st=>oF st v
noncomputable def MS(Γ:Ctx):List Expr->BoolOp->Fr->mA Bool
 | [],op,_=>pure (op == .And)
 | x::r,op,ρ=>do
  let t <- IB Γ x ρ (evalE Γ x ρ)
  if t==(op == .Or) then pure t else MS Γ r op ρ
noncomputable def uN(Γ:Ctx):List Expr->BoolOp->Fr->mA V
 | [],_,_=>yA
 | x::r,op,ρ=>if r.isEmpty then evalE Γ x ρ else do
  let v <- evalE Γ x ρ
  let t <- rd fun st=>oF st v
  if t==(op == .Or) then pure v else uN Γ r op ρ
noncomputable def OS(Γ:Ctx):List Expr->List JG->V->Fr->mA Bool
 | [],_,_,_=>yA
 | e::r,ops,a,ρ=>if r.isEmpty&&ops.tail.isEmpty then do
   let b <- evalE Γ e ρ
   match ops with
   | op::_=>rd fun st=>ID Γ.gd st op a b
   | []=>yA
  else yA
noncomputable def FC(Γ:Ctx):List Expr->Fr->mA (List V)
 | [],_=>pure []
 | e::r,ρ=>do
  let v <- evalE Γ e ρ
  return v::(<- FC Γ r ρ)
noncomputable def oG(Γ:Ctx):Option Expr->Fr->mA V
 | .none,_=>pure .none
 | .some e,ρ=>evalE Γ e ρ
noncomputable def nG(Γ:Ctx):List YB->Fr->mA (List (Str×V))
 | [],_=>pure []
 | ⟨n,e,_⟩::r,ρ=>match n with
  | .some n=>do
   let v <- evalE Γ e ρ
   return (n,v)::(<- nG Γ r ρ)
  | .none=>yA
noncomputable def ZE(Γ:Ctx):List Expr->Fr->mA Bool
 | [],_=>pure true
 | e::r,ρ=>do
  if <- IB Γ e ρ (evalE Γ e ρ) then ZE Γ r ρ else pure false
noncomputable def TF(Γ:Ctx):List uB->(Fr->mA (List V))->Fr->Fr->mA (List V)
 | [],leaf,_,ρi=>leaf ρi
 | ⟨t,it,ifs,as⟩::gs,leaf,ρ,ρi=>do
  if as==0&&yE it then do
   let xs <- ME Γ t it (evalE Γ it ρ) ρ
   fF xs.2 xs.1 fun x=>do
    let ρ' <- rd fun st=>rB true st t x ρi
    if <- ZE Γ ifs ρ' then TF Γ gs leaf ρ' ρ' else pure []
  else yA
noncomputable def ME(Γ:Ctx):Expr->Expr->mA V->Fr->mA (List V×List (Nat×O))
 | t,it,whole,ρ=>match it with
  | .Call f args kws _=>if hJ Γ ρ f&&kws.isEmpty then do
    let vs <- FC Γ args ρ
    match vs with
    | [v]=>match v with
     | .lst xs=>if GN t then pure (xs.zipIdx.map fun x=>.tup [.int x.2,x.1],[]) else yA
     | _=>yA
    | _=>yA
   else do
    let v <- whole
    rd fun st=>zD st v
  | _=>do
   let v <- whole
   rd fun st=>zD st v
end
noncomputable def GH:Expr->Bool
 | .Call ..=>true
 | _=>false
noncomputable def w3(st:St)(e:Expr)(v:V)(ρ:Fr):List Expr->Option Fr
 | [t]=>oE st t e v ρ
 | _=>.none
noncomputable def dS(Γ:Ctx)(op:dC)(e:Expr)(ρ:Fr):Expr->mA (Fl×Fr)
 | .Name x _=>do
  let a <- gt (ρ.get Γ x)
  let b <- evalE Γ e ρ
  let c <- gt (hH op a b)
  let ρ' <- gt (ρ.set x c)
  pure (.next,ρ')
 | .Subscript o i _=>match i with
  | .Slice ..=>yA
  | i=>do
   let ov <- evalE Γ o ρ
   let iv <- evalE Γ i ρ
   let a <- rd fun st=>CC st ov iv
   let b <- evalE Γ e ρ
   let c <- gt (hH op a b)
   WK ov iv c
   pure (.next,ρ)
 | _=>yA
mutual
noncomputable def PB(Γ:Ctx):IA->Fr->mA (Fl×Fr)
 | .Expr e _,ρ=>if GH e then do
   let _ <- evalE Γ e ρ
   pure (.next,ρ)
  else yA
 | .Return e _,ρ=>match e with
  | .some e=>do
   let v <- evalE Γ e ρ
   pure (.ret v,ρ)
  | .none=>yA
 | .Assign ts e _,ρ=>do
  let v <- evalE Γ e ρ
  let ρ' <- rd fun st=>w3 st e v ρ ts
  pure (.next,ρ')
 | .AugAssign t op e _,ρ=>dS Γ op e ρ t
 | .If t body orelse _,ρ=>do
  if <- IB Γ t ρ (evalE Γ t ρ) then XA Γ body ρ else XA Γ orelse ρ
 | .For t it body orelse _,ρ=>if yE it&&orelse.isEmpty then do
   let xs <- ME Γ t it (evalE Γ it ρ) ρ
   OE xs.2 xs.1 ρ fun x ρ=>do
    let ρ' <- rd fun st=>rB false st t x ρ
    XA Γ body ρ'
  else yA
 | _,_=>yA
noncomputable def XA(Γ:Ctx):List IA->Fr->mA (Fl×Fr)
 | [],ρ=>pure (.next,ρ)
 | s::r,ρ=>do
  match <- PB Γ s ρ with
  | (.next,ρ')=>XA Γ r ρ'
  | o=>pure o
end
noncomputable def ZL:Expr->Bool
 | .Name ..=>true
 | _=>false
noncomputable def w5:Expr->Bool
 | .Subscript ..=>true
 | _=>false
theorem AC{α:Type _}{o:Option α}{G:Prop}{a:α}(t:o.elim True fun _=>G)(h:o=some a):G:=by rw [h] at t;exact t
theorem RF{α:Type _}{o:Option α}{G:α->Prop}{a:α}(t:o.elim True G)(h:o=some a):G a:=by rw [h] at t;exact t
theorem zB{α:Type _}{o:Option α}{G:Prop}(h:G):o.elim True fun _=>G:=by
 cases o
 ·exact True.intro
 ·exact h
theorem dc{α:Type _}{o:Option α}{G:α->Prop}(h:∀ a,G a):o.elim True G:=by
 cases o
 ·exact True.intro
 ·exact h _
theorem SF{α:Type _}{o:Option α}{G:α->Prop}(h:∀ a,o=some a->G a):o.elim True G:=by
 cases o
 ·exact True.intro
 ·exact h _ rfl
theorem DL{b:Bool}{G:Prop}(h:G):cond b G True:=by
 cases b
 ·exact True.intro
 ·exact h
theorem QD{b:Bool}{G H:Prop}(t:cond b G H)(h:b=true):G:=by rw [h] at t;exact t
theorem pE{b:Bool}{G H:Prop}(t:cond b G H)(h:b=false):H:=by rw [h] at t;exact t
theorem ZX{b:Bool}{G H:Prop}(t:cond b G H):G\/H:=by
 cases b
 ·exact .inr t
 ·exact .inl t
theorem dI{b:Bool}{G:Prop}(t:cond b G True):G\/b=false:=by
 cases b
 ·exact .inr rfl
 ·exact .inl t
theorem BP{b:Bool}{G:Prop}(t:cond b True G):b=true\/G:=by
 cases b
 ·exact .inr t
 ·exact .inl rfl
theorem wA{α:Type _}{a:α}{C:Prop}(h:(none:Option α)=some a):C:=by cases h
theorem VB{C:Prop}(h:false=true):C:=by cases h
theorem qC{α:Type _}{a b:α}(h:some a=some b):a=b:=by cases h;rfl
theorem WB{α β:Type _}{o:Option α}{f:α->Option β}{r:β}{C:Prop}(h:o.bind f=some r)(k:∀ a,o=some a->f a=some r->C):C:=by
 obtain⟨a,h1,h2⟩:=NV.mp h
 exact k a h1 h2
theorem EA{α β:Type}{m:mA α}{g:α->mA β}{st:St}{r:β×St}{C:Prop}(h:(m>>=g) st=some r)(k:∀ a st1,m st=some (a,st1)->g a st1=some r->C):C:=WB (o:=m st) (f:=fun p=>g p.1 p.2) h fun p h1 h2=>k p.1 p.2 h1 h2
theorem GO{β:Type}{o:Option O}{K:List V->Option β}{t:β}{C:Prop}(h:(match o with|some (.list vs)=>K vs|_=>.none)=some t)(k:∀ vs,o=some (.list vs)->K vs=some t->C):C:=by
 rcases o with _|u
 ·exact wA h
 ·cases u;exact k _ rfl h
theorem VF{α:Type}{c:Prop}[Decidable c]{x:Option α}{v:α}{C:Prop}(h:(if c then x else .none)=some v)(k:c->x=some v->C):C:=by
 by_cases q:c
 ·exact k q ((if_pos q).symm.trans h)
 ·exact wA ((if_neg q).symm.trans h)
theorem iC{α:Type}{c:Prop}[Decidable c]{x:mA α}{st:St}{r:α×St}{C:Prop}(h:(if c then x else yA) st=some r)(k:c->x st=some r->C):C:=by
 by_cases q:c
 ·rw [if_pos q] at h;exact k q h
 ·rw [if_neg q] at h;exact wA h
theorem rE{α β:Type}{o:Option α}{f:α->mA β}{st:St}{r:β×St}{C:Prop}(h:(gt o>>=f) st=some r)(k:∀ a,o=some a->f a st=some r->C):C:=by
 rcases o with _|a
 ·exact wA h
 ·exact k a rfl h
theorem MK{α β:Type}{g:St->Option α}{f:α->mA β}{st:St}{r:β×St}{C:Prop}(h:(rd g>>=f) st=some r)(k:∀ a,g st=some a->f a st=some r->C):C:=by
 have h:((g st).map (·,st)).bind (fun p=>f p.1 p.2)=some r:=h
 rcases q:g st with _|a
 ·rw [q] at h;exact wA h
 ·rw [q] at h;exact k a q h
end Ev
end
section
namespace Ev
noncomputable def cB(s:String):List Nat:=(nA s).cps.toList
noncomputable def DG:List V->Option (List (List Nat))
 | []=>some []
 | v::r=>v.str?.bind fun s=>(DG r).map (s :: ·)
noncomputable def zF:List V->Option (List Int)
 | []=>some []
 | v::r=>v.int?.bind fun s=>(zF r).map (s :: ·)
noncomputable def yF(s t:List Nat):Option Nat:=(Builtin.Str.occurrences (S s) (S t) 0 (S s).length 1).head?
noncomputable def lI(x:Int):List Int->List Int
 | []=>[x]
 | y::r=>if x<y then x::y::r else y::lI x r
noncomputable def CI(l:List Int):List Int:=l.foldl (fun a x=>lI x a) []
noncomputable def dK(s:List Nat)(xs:List (List Nat)):Option V:=if JoinOk (S s) (xs.map S) then gD (Txt.join (S s) (xs.map S)).cps.toList else .none
noncomputable def BQ:List Int->mA V
 | a::r=>pure (.int (r.foldl (fun a b=>if a<b then b else a) a))
 | []=>yA
noncomputable def lC(f:V->mA V)(g:V->V->mA V):List V->mA V
 | [a]=>f a
 | [a,b]=>g a b
 | _=>yA
noncomputable def QC(_ _:V):mA V:=yA
noncomputable def FN(f:Int->Int->V)(a b:V):mA V:=gt (a.int?.bind fun a=>b.int?.map (f a))
noncomputable def NE:V->mA V
 | .str s=>if s.length<=cap then pure (.int s.length) else yA
 | .lst vs=>if vs.length<=cap then pure (.int vs.length) else yA
 | .ref i=>do
  match <- rd fun st=>st[i]? with
  | .list vs=>if vs.length<=cap then pure (.int vs.length) else yA
 | _=>yA
noncomputable def NU:V->mA V
 | .str s=>match s with|[c]=>pure (.int c)|_=>yA
 | _=>yA
noncomputable def LL(v:V):Option (List Int):=v.lst?.bind zF
noncomputable def B5(v:V):mA V:=do
 let l <- gt (LL v)
 if l.length<=cap/\l.all (fun i=>decide (-1000000<=i/\i<=1000000)) then pure (.int l.sum) else yA
noncomputable def T4(v:V):mA V:=do
 let l <- gt (LL v)
 if l.length<64 then pure (.lst ((CI l).map .int)) else yA
noncomputable def eY(v:V):mA V:=do
 let i <- gt v.int?
 if 0<=i/\i<1114112 then pure (.str [i.toNat]) else yA
noncomputable def builtin(id:String)(vs:List V):mA V :=
 if id = "chr" then lC eY QC vs
 else if id = "ord" then lC NU QC vs
 else if id = "len" then lC NE QC vs
 else if id = "min" then lC (fun _=>yA) (FN fun a b=>.int (if b<a then b else a)) vs
 else if id = "max" then lC (fun v=>do BQ (<- gt (LL v))) (FN fun a b=>.int (if a<b then b else a)) vs
 else if id = "sum" then lC B5 QC vs
 else if id = "sorted" then lC T4 QC vs
 else yA
noncomputable def d5(v:V):mA V:=do
 let i <- gt v.int?
 if 0<=i/\i<1000000 then gt (gD (cB (toString i))) else yA
noncomputable def uQ:V->mA V
 | .rng a b=>do
  let xs <- rd fun st=>cK st (.rng a b)
  pure (.lst xs)
 | .str s=>if s.length<=cap then pure (.lst (s.map fun c=>.str [c])) else yA
 | _=>yA
noncomputable def bT(Γ:Ctx):V->mA V
 | .ref i=>do
  let p <- gt Γ.init
  match <- PB Γ p.2 ⟨p.1,[("self",.hd i),("headers",.ref i)],fun _=>.none⟩ with
  | (.next,_)=>pure (.hd i)
  | _=>yA
 | _=>yA
noncomputable def sf:mA V:=fun st=>some (.hd st.length,st++[.list []])
noncomputable def IP(Γ:Ctx)(n:String)(vs:List V):mA V :=
 if n = "str" then lC d5 QC vs
 else if n = "range" then lC (fun v=>do return .rng 0 (<- gt v.int?)) QC vs
 else if n = "list" then lC uQ QC vs
 else if n = "Headers" then (if vs.isEmpty then sf else lC (bT Γ) QC vs)
 else yA
noncomputable def PH(i:Nat)(vs:List V):mA V:=do
 if vs.length<=cap then setO i (.list vs) else yA
 pure .none
noncomputable def qP(v:V):V->mA V
 | .ref i=>do
  match <- rd fun st=>st[i]? with
  | .list xs=>PH i (xs++[v])
 | _=>yA
noncomputable def NP(v:V):V->mA V
 | .ref i=>do
  let ws <- gt v.lst?
  match <- rd fun st=>st[i]? with
  | .list xs=>PH i (xs++ws)
 | _=>yA
noncomputable def yS(k:Int)(v:V):mA V:=do
 let xs <- gt (LL v)
 if xs.length<=cap then pure (.int (xs.count k)) else yA
noncomputable def nQ:V->mA V
 | .nod=>pure .noi
 | _=>yA
noncomputable def cQ(t:List Nat):V->mA V
 | .str s=>do return .int (<- gt (yF s t))
 | .lst vs=>do
  let xs <- gt (DG vs)
  if vs.length<=cap/\t∈xs then pure (.int (xs.idxOf t)) else yA
 | _=>yA
noncomputable def rT(v:V)(o:V):mA V:=do
 let s <- gt o.str?
 let xs <- rd fun st=>(PG st v).bind DG
 gt (dK s xs)
noncomputable def AZ(gd:Str->Option (List (V×V)))(k:Int):V->mA V
 | .g x=>if x=("b3_exceptions":Str) then do
   let es <- gt (gd x)
   pure ((es.find? fun e=>e.1.isI k).elim .none (·.2))
   else yA
 | _=>yA
noncomputable def bF(gd:Str->Option (List (V×V)))(k:List Nat)(d:V):V->mA V
 | .g x=>if x=("EXACT_TOKEN_TYPES":Str) then do
   let es <- gt (gd x)
   pure ((es.find? fun e=>e.1.isS k).elim d (·.2))
   else yA
 | _=>yA
noncomputable def H4(s:List Nat):V->mA V
 | .g x=>if (x=("_name_disallowed_re":Str)\/x=("_value_disallowed_re":Str))/\s.any (fun c=>c<32&&(x=("_name_disallowed_re":Str)||c != 9)||c==127)=false then pure .none else yA
 | _=>yA
noncomputable def RI(f:mA V)(vs:List V):mA V:=if vs.isEmpty then f else yA
noncomputable def gF(gd:Str->Option (List (V×V)))(o:V)(name:Str)(vs:List V):mA V :=
 if name = "append" then lC (qP · o) QC vs
 else if name = "extend" then lC (NP · o) QC vs
 else if name = "count" then lC (fun v=>do yS (<- gt v.int?) o) QC vs
 else if name = "items" then RI (nQ o) vs
 else if name = "index" then lC (fun v=>do cQ (<- gt v.str?) o) QC vs
 else if name = "lower" then RI (do gt (gD (Txt.lower (S (<- gt o.str?))).cps.toList)) vs
 else if name = "upper" then RI (do gt (gD (Txt.upper (S (<- gt o.str?))).cps.toList)) vs
 else if name = "join" then lC (rT · o) QC vs
 else if name = "get" then lC (fun v=>do AZ gd (<- gt v.int?) o) (fun v d=>do bF gd (<- gt v.str?) d o) vs
 else if name = "search" then lC (fun v=>do H4 (<- gt v.str?) o) QC vs
 else yA
structure xD where
 params:List Str
 dflt:List V
 kwonly:List Str
 kwarg:Option Str
 body:List IA
 sc:Scope
noncomputable def Bb:Expr->V
 | .Constant (.int i) _ _=>.int i
 | .Constant (.str s) _ _=>.str s.cps.toList
 | .Constant (.bool b) _ _=>.bool b
 | _=>.none
noncomputable def lG(d:xD)(vs:List V)(ks:List (Str×V)):Option (List (Str×V)) :=
 let pos:=vs++d.dflt.drop (d.dflt.length - (d.params.length - vs.length))
 if vs.length<=d.params.length/\pos.length=d.params.length/\d.kwonly=ks.map (·.1) then some (d.params.zip pos++ks) else .none
noncomputable def LU:List Str->Bool
 | []=>true
 | x::r=>!r.contains x&&LU r
noncomputable def LQ(d:xD):Bool:=LU (d.params++d.kwonly++d.kwarg.toList)&&d.sc.kind == .function && !d.sc.isGenerator && !d.sc.isCoroutine&&jF d.sc.names&&d.sc.names.all (fun x=>x.2 == .local||x.2 == .cell||x.2 == .globalImplicit) &&
 (d.params++d.kwonly++d.kwarg.toList).all fun x=>match d.sc.names.lookup x with|some .local|some .cell=>true|_=>false
noncomputable def EG(d:xD)(b:List (Str×V)):List (Str×V):=match d.kwarg with | .none=>b|some x=>b++[(x,.nod)]
noncomputable def zI(Γ:Ctx)(d:xD)(vs:List V)(ks:List (Str×V)):mA V:=do
 let b <- gt (if LQ d then lG d vs ks else .none)
 match <- XA Γ d.body ⟨d.sc.names,EG d b,fun _=>.none⟩ with
 | (.ret v,_)=>pure v
 | (.next,_)=>pure .none
structure sC where
 fns:List (Str×xD)
 mths:List (Str×xD)
 glob:Str->Option V
 gd:Str->Option (List (V×V))
 keep:Pos->Bool
 prim:Str->Option (List V->mA V)
 init:Option (List (Str×GA)×IA)
noncomputable def fJ:List Str:=["__len__","__setitem__","__delitem__","_convert_string_type","get_all","get","keys","items","setdefault","add_header"]
noncomputable def dJ(y x:Str):Bool:=if y = "_name_disallowed_re" \/ y = "_value_disallowed_re" then x = "search" else if y = "b3_exceptions" \/ y = "EXACT_TOKEN_TYPES" then x = "get" else false
noncomputable def fK(st:St)(o:V)(x:Str):Option V:=match o with
 | .str _=>if x = "lower" || x = "upper" || x = "join" || x = "index" then some (.m o x) else .none
 | .lst _=>if x = "index" || x = "count" then some (.m o x) else .none
 | .nod=>if x = "items" then some (.m o x) else .none
 | .ref i=>match st[i]? with
  | some (.list _)=>if x = "append" || x = "extend" then some (.m o x) else .none
  | _=>.none
 | .g y=>if dJ y x then some (.m o x) else .none
 | .hd _=>if fJ.contains x then some (.m o x) else .none
 | _=>.none
noncomputable def rP(o:V)(x:Str):Option V:=match o with | .hd i=>if x = "_headers" then some (.ref i) else .none|_=>.none
noncomputable def HH(ks:List (Str×V))(t:mA V):mA V:=if ks.isEmpty then t else yA
noncomputable def mT:V->Bool | .str _=>true|_=>false
noncomputable def WI(P:sC)(Γ:Ctx)(f:V)(vs:List V)(ks:List (Str×V)):mA V:=match f with
 | .bi id=>HH ks (builtin id vs)
 | .ty n=>HH ks (if n = "type" /\ vs.length=1/\vs.all mT=true then pure (.ty "str") else IP Γ n vs)
 | .fn x=>match P.prim x with
  | some p=>HH ks (p vs)
  | .none=>do
   let d <- gt (P.fns.lookup x)
   zI Γ d vs ks
 | .m o x=>match o with
  | .hd i=>do
   let d <- gt (P.mths.lookup x)
   zI Γ d (.hd i::vs) ks
  | o=>HH ks (gF P.gd o x vs)
 | _=>yA
noncomputable def LA(P:sC):Nat->Ctx
 | 0=>⟨P.glob,fun _ _ _=>yA,fK,rP,P.keep,P.gd,P.init⟩
 | n+1=>⟨P.glob,WI P (LA P n),fK,rP,P.keep,P.gd,P.init⟩
end Ev
end
section
namespace Ev
structure CA where
 gA:cA
 bA:cA
 addr:Str->Option cA
 meth:Str->Option cA
 gadr:Str->Option cA
 cls:cA
 objs:Frag
 dk:Obj->List (Str×dA)->Prop
structure WM(C x d a:cA)(o o':Obj):Prop where
 cls:o.cls = .ref C
 nocls:∀ c,o.data ≠ .cls c
 dict:o.dict=some d
 ne:d≠x
 ns:∃ es ep,o'.data = .dict es ep/\StrKeys es/\UniqKeys es/\∀ name,TA es name=if name=("_headers":Str) then some (.ref a) else none
variable(B:CA)
mutual
inductive kA(h:Heap)(as:List cA)(F:cA->Prop):V->dA->Prop
 | none:kA h as F .none .none
 | bool (b):kA h as F (.bool b) (.bool b)
 | int (i t):kA h as F (.int i) (.int i t)
 | str (l t):(∀ c∈l,c<0x110000)->kA h as F (.str l) (.str (S l) t)
 | tup {vs xs a}:h.IsTuple a xs.toArray->a∉as->¬ F a->vA h as F vs xs->kA h as F (.tup vs) (.ref a)
 | lst {vs xs a}:jG h a xs.toArray->a∉as->¬ F a->vA h as F vs xs->kA h as F (.lst vs) (.ref a)
 | rng {a b r t u v}:IsRange h r a b 1 t u v->r∉as->¬ F r->kA h as F (.rng a b) (.ref r)
 | ref {i a}:as[i]? = some a->kA h as F (.ref i) (.ref a)
 | hd {i a x d o o'}:as[i]? = some a->h.get? x=some o->x∉as->¬ F x->h.get? d=some o'->WM B.cls x d a o o'->d∉as->¬ F d->kA h as F (.hd i) (.ref x)
 | nod {a n}:h.get? a=some { cls:=.type "dict",data:=.dict #[] n }->(a==cG)=false->a∉as->¬ F a->kA h as F .nod (.ref a)
 | noi {x a n}:h.get? x=some { cls:=.type "dict_items",data:=.fields #[.ref a] }->x∉as->¬ F x->h.get? a=some { cls:=.type "dict",data:=.dict #[] n }->(a==cG)=false->a∉as->¬ F a->kA h as F .noi (.ref x)
 | dct {ks vs kvs a o}:h.get? a=some o->B.dk o kvs->(a==cG)=false->a∉as->¬ F a->kvs.map (·.1)=ks.map S->(∀ k∈ks,∀ c∈k,c<0x110000)->vA h as F vs (kvs.map (·.2))->kA h as F (.dct ks vs) (.ref a)
 | g {x a}:B.gadr x=some a->kA h as F (.g x) (.ref a)
 | fn {x a}:B.addr x=some a->kA h as F (.fn x) (.ref a)
 | bi (id):kA h as F (.bi id) (.builtin id)
 | ty (n):n ≠ "Headers" -> kA h as F (.ty n) (.type n)
 | cls:kA h as F (.ty "Headers") (.ref B.cls)
inductive vA(h:Heap)(as:List cA)(F:cA->Prop):List V->List dA->Prop
 | nil:vA h as F [] []
 | cons {v x vs xs}:kA h as F v x->vA h as F vs xs->vA h as F (v::vs) (x::xs)
end
variable{B}
structure qA(G:cA->Prop)(h:Heap)(as:List cA)(h':Heap)(as':List cA):Prop where
 pre:as <+: as'
 new:∀ a∈as',a∈as\/h.get? a = .none
 keep:∀ a o,h.get? a=some o->a∉as->¬ G a->h'.get? a=some o
 live:∀ a o,h.get? a=some o->∃ o',h'.get? a=some o'
theorem qA.refl(G:cA->Prop)(h:Heap)(as:List cA):qA G h as h as:=⟨wB _,fun _ x=>.inl x,fun _ _ x _ _=>x,fun _ o x=>⟨o,x⟩⟩
theorem qA.trans{G:cA->Prop}{h₁ h₂ h₃:Heap}{as₁ as₂ as₃:List cA}(x:qA G h₁ as₁ h₂ as₂)(y:qA G h₂ as₂ h₃ as₃):qA G h₁ as₁ h₃ as₃ where
 pre:=x.pre.trans y.pre
 new:=fun a ha=>by
  rcases y.new a ha with h|h
  ·exact x.new a h
  ·rcases e:h₁.get? a with _|o
   ·exact .inr rfl
   ·obtain⟨o',e'⟩:=x.live a o e;rw [h] at e';exact wA e'
 keep:=fun a o e ha hG=>y.keep a o (x.keep a o e ha hG) (fun h=>by
  rcases x.new a h with h|h
  ·exact ha h
  ·rw [e] at h;contradiction) hG
 live:=fun a o e=>let ⟨o',e'⟩:=x.live a o e;y.live a o' e'
theorem zN{as as':List cA}(h:as <+: as'){i:Nat}{a:cA}(e:as[i]? = some a):as'[i]? = some a:=by
 obtain⟨t,rfl⟩:=h
 rw [OC]
 ·exact e
 ·exact (sF.mp e).1
theorem vA.ind{h:Heap}{as:List cA}{F:cA->Prop}{P:List V->List dA->Prop}(nil:P [] [])(cons:∀ {v x vs xs},kA B h as F v x->vA B h as F vs xs->P vs xs->P (v::vs) (x::xs)){vs:List V}{xs:List dA}(r:vA B h as F vs xs):P vs xs:=by
 refine vA.rec (motive_1:=fun _ _ _=>True) (motive_2:=fun vs xs _=>P vs xs) ?_ ?_ ?_ ?_ ?_ ?_ ?_ ?_ ?_ ?_ ?_ ?_ ?_ ?_ ?_ ?_ ?_ nil (fun a b _ ih=>cons a b ih) r<;>(intros;trivial)
theorem kA.mono{h h':Heap}{as as':List cA}{F F':cA->Prop}(hp:as <+: as')(hk:∀ a o,h.get? a=some o->a∉as->¬ F a->h'.get? a=some o/\a∉as'/\¬ F' a){v:V}{x:dA}(r:kA B h as F v x):kA B h' as' F' v x:=by
 refine kA.rec (motive_1:=fun v x _=>kA B h' as' F' v x) (motive_2:=fun vs xs _=>vA B h' as' F' vs xs) .none .bool .int .str ?_ ?_ ?_ (fun e=>.ref (zN hp e)) ?_ ?_ ?_ ?_ .g .fn .bi .ty .cls .nil (fun _ _ a b=>.cons a b) r
 ·rintro vs xs a ⟨o,ho,r⟩ ha hF _ hr
  have k:=hk _ _ ho ha hF
  exact .tup ⟨o,k.1,r⟩ k.2.1 k.2.2 hr
 ·rintro vs xs a ⟨o,n,ho,r⟩ ha hF _ hr
  have k:=hk _ _ ho ha hF
  exact .lst ⟨o,n,k.1,r⟩ k.2.1 k.2.2 hr
 ·intro a b r t u v ho ha hF
  have k:=hk _ _ ho ha hF
  exact .rng k.1 k.2.1 k.2.2
 ·intro i a x d o o' e ho ha hF hd ht hda hdF
  have k:=hk _ _ ho ha hF
  have l:=hk _ _ hd hda hdF
  exact .hd (zN hp e) k.1 k.2.1 k.2.2 l.1 ht l.2.1 l.2.2
 ·intro a n ho hs ha hF
  have k:=hk _ _ ho ha hF
  exact .nod k.1 hs k.2.1 k.2.2
 ·intro x a n ho ha hF hd hs hda hdF
  have k:=hk _ _ ho ha hF
  have l:=hk _ _ hd hda hdF
  exact .noi k.1 k.2.1 k.2.2 l.1 hs l.2.1 l.2.2
 ·intro ks vs kvs a o ho hd hs ha hF e hl _ rs
  have k:=hk _ _ ho ha hF
  exact .dct k.1 hd hs k.2.1 k.2.2 e hl rs
theorem vA.mono{h h':Heap}{as as':List cA}{F F':cA->Prop}(hp:as <+: as')(hk:∀ a o,h.get? a=some o->a∉as->¬ F a->h'.get? a=some o/\a∉as'/\¬ F' a){vs:List V}{xs:List dA}(r:vA B h as F vs xs):vA B h' as' F' vs xs :=
 r.ind .nil fun a _ ih=>.cons (a.mono hp hk) ih
theorem vA.app{h:Heap}{as:List cA}{F:cA->Prop}{vs ws:List V}{xs ys:List dA}(r:vA B h as F vs xs)(q:vA B h as F ws ys):vA B h as F (vs++ws) (xs++ys) :=
 r.ind (P:=fun vs xs=>vA B h as F (vs++ws) (xs++ys)) q fun a _ ih=>.cons a ih
theorem qA.rep{G F:cA->Prop}{h h':Heap}{as as':List cA}(x:qA G h as h' as')(hG:∀ a,G a->F a){v:V}{y:dA}(r:kA B h as F v y):kA B h' as' F v y :=
 r.mono (F':=F) x.pre fun a o e ha hF=>⟨x.keep a o e ha fun g=>hF (hG a g),(fun hm=>(x.new a hm).elim ha fun q=>by rw [e] at q;contradiction),hF⟩
inductive eH(h:Heap)(as:List cA)(F:cA->Prop)(a:cA):O->Prop
 | list {vs xs}:jG h a xs.toArray->vA B h as F vs xs->vs.length<=cap->eH h as F a (.list vs)
theorem eH.out{h:Heap}{as:List cA}{F:cA->Prop}{a:cA}{vs:List V}(r:eH (B:=B) h as F a (.list vs)):∃ xs,jG h a xs.toArray/\vA B h as F vs xs/\vs.length<=cap:=by
 cases r with
 | list hp rs hc=>exact⟨_,hp,rs,hc⟩
def jP(B:CA)(h:Heap)(as:List cA)(F:cA->Prop)(x:dA):V->Prop
 | .none=>x = .none
 | .bool b=>x = .bool b
 | .int i=>∃ t,x = .int i t
 | .str l=>∃ t,x = .str (S l) t/\∀ c∈l,c<0x110000
 | .tup vs=>∃ xs a,x = .ref a/\h.IsTuple a xs.toArray/\a∉as/\¬ F a/\vA B h as F vs xs
 | .lst vs=>∃ xs a,x = .ref a/\jG h a xs.toArray/\a∉as/\¬ F a/\vA B h as F vs xs
 | .rng a b=>∃ y t u v,x = .ref y/\IsRange h y a b 1 t u v/\y∉as/\¬ F y
 | .ref i=>∃ a,x = .ref a/\as[i]? = some a
 | .g y=>∃ a,x = .ref a/\B.gadr y=some a
 | .ty n=>(x = .type n/\n ≠ "Headers")\/(n = "Headers" /\ x = .ref B.cls)
 | .hd i=>∃ a y d o o',x = .ref y/\as[i]? = some a/\h.get? y=some o/\y∉as/\¬ F y/\h.get? d=some o'/\WM B.cls y d a o o'/\d∉as/\¬ F d
 | .nod=>∃ a n,x = .ref a/\h.get? a=some { cls:=.type "dict",data:=.dict #[] n }/\(a==cG)=false/\a∉as/\¬ F a
 | .noi=>∃ y a n,x = .ref y/\h.get? y=some { cls:=.type "dict_items",data:=.fields #[.ref a] }/\h.get? a=some { cls:=.type "dict",data:=.dict #[] n }/\a∉as/\¬ F a
 | .dct ks vs=>∃ kvs a o,x = .ref a/\h.get? a=some o/\B.dk o kvs/\(a==cG)=false/\a∉as/\¬ F a/\kvs.map (·.1)=ks.map S/\(∀ k∈ks,∀ c∈k,c<0x110000)/\vA B h as F vs (kvs.map (·.2))
 | .fn y=>∃ a,x = .ref a/\B.addr y=some a
 | .bi id=>x = .builtin id
 | .m _ _=>False
theorem kF{h:Heap}{as:List cA}{F:cA->Prop}{v:V}{x:dA}(r:kA B h as F v x):jP B h as F x v:=by
 cases r with
 | none=>exact rfl
 | bool b=>exact rfl
 | int i t=>exact⟨t,rfl⟩
 | str l t k=>exact⟨t,rfl,k⟩
 | tup a b c d=>exact⟨_,_,rfl,a,b,c,d⟩
 | lst a b c d=>exact⟨_,_,rfl,a,b,c,d⟩
 | rng a b c=>exact⟨_,_,_,_,rfl,a,b,c⟩
 | ref a=>exact⟨_,rfl,a⟩
 | g a=>exact⟨_,rfl,a⟩
 | ty n k=>exact .inl ⟨rfl,k⟩
 | cls=>exact .inr ⟨rfl,rfl⟩
 | hd e a b c d k l m=>exact⟨_,_,_,_,_,rfl,e,a,b,c,d,k,l,m⟩
 | nod a b c d=>exact⟨_,_,rfl,a,b,c,d⟩
 | noi a _ _ b _ c d=>exact⟨_,_,_,rfl,a,b,c,d⟩
 | dct a b c d e k l m=>exact⟨_,_,_,rfl,a,b,c,d,e,k,l,m⟩
 | fn a=>exact⟨_,rfl,a⟩
 | bi id=>exact rfl
theorem AM{h:Heap}{as:List cA}{F:cA->Prop}{xs:List dA}(r:vA B h as F [] xs):xs=[]:=by cases r;rfl
theorem zM{h:Heap}{as:List cA}{F:cA->Prop}{v:V}{vs:List V}{xs:List dA}(r:vA B h as F (v::vs) xs):∃ x ys,xs=x::ys/\kA B h as F v x/\vA B h as F vs ys:=by
 cases r with
 | cons a b=>exact⟨_,_,rfl,a,b⟩
theorem vM{h:Heap}{as:List cA}{F:cA->Prop}{y:dA}(r:kA B h as F .none y):y = .none:=kF r
theorem SU{h:Heap}{as:List cA}{F:cA->Prop}{b:Bool}{y:dA}(r:kA B h as F (.bool b) y):y = .bool b:=kF r
theorem DC{h:Heap}{as:List cA}{F:cA->Prop}{i:Int}{x:dA}(r:kA B h as F (.int i) x):∃ t,x = .int i t:=kF r
theorem pC{h:Heap}{as:List cA}{F:cA->Prop}{l:List Nat}{x:dA}(r:kA B h as F (.str l) x):∃ t,x = .str (S l) t/\∀ c∈l,c<0x110000:=kF r
theorem wM{h:Heap}{as:List cA}{F:cA->Prop}{vs:List V}{x:dA}(r:kA B h as F (.tup vs) x):∃ xs a,x = .ref a/\h.IsTuple a xs.toArray/\a∉as/\¬ F a/\vA B h as F vs xs:=kF r
theorem aG{h:Heap}{as:List cA}{F:cA->Prop}{vs:List V}{x:dA}(r:kA B h as F (.lst vs) x):∃ xs a,x = .ref a/\jG h a xs.toArray/\a∉as/\¬ F a/\vA B h as F vs xs:=kF r
theorem AG{h:Heap}{as:List cA}{F:cA->Prop}{i:Nat}{y:dA}(r:kA B h as F (.ref i) y):∃ a,y = .ref a/\as[i]? = some a:=kF r
theorem S3{h:Heap}{as:List cA}{F:cA->Prop}{a b:Int}{y:dA}(r:kA B h as F (.rng a b) y):∃ x t u v,y = .ref x/\IsRange h x a b 1 t u v/\x∉as/\¬ F x:=kF r
theorem TU{h:Heap}{as:List cA}{F:cA->Prop}{ks:List (List Nat)}{vs:List V}{x:dA}(r:kA B h as F (.dct ks vs) x):∃ kvs a o,x = .ref a/\h.get? a=some o/\B.dk o kvs/\(a==cG)=false/\a∉as/\¬ F a/\kvs.map (·.1)=ks.map S/\(∀ k∈ks,∀ c∈k,c<0x110000)/\vA B h as F vs (kvs.map (·.2)):=kF r
theorem R3{h:Heap}{as:List cA}{F:cA->Prop}{x:dA}(r:kA B h as F .nod x):∃ a n,x = .ref a/\h.get? a=some { cls:=.type "dict",data:=.dict #[] n }/\(a==cG)=false/\a∉as/\¬ F a:=kF r
theorem Dp{h:Heap}{as:List cA}{F:cA->Prop}{i:Nat}{x:dA}(r:kA B h as F (.hd i) x):∃ a y d o o',x = .ref y/\as[i]? = some a/\h.get? y=some o/\y∉as/\¬ F y/\h.get? d=some o'/\WM B.cls y d a o o'/\d∉as/\¬ F d:=kF r
theorem Ep{h:Heap}{as:List cA}{F:cA->Prop}{x:dA}(r:kA B h as F .noi x):∃ y a n,x = .ref y/\h.get? y=some { cls:=.type "dict_items",data:=.fields #[.ref a] }/\h.get? a=some { cls:=.type "dict",data:=.dict #[] n }/\a∉as/\¬ F a:=kF r
structure Inv(B:CA)(h:Heap)(as:List cA)(F:cA->Prop)(st:St):Prop where
 len:as.length=st.length
 nodup:as.Nodup
 at_:∀ (i:Nat) (a:cA) (o:O),as[i]? = some a->st[i]? = some o->eH (B:=B) h as F a o
 apart:∀ a∈as,¬ F a
 liveF:∀ a,F a->∃ o,h.get? a=some o
 base:∀ a o,B.objs.lookup a=some o->h.get? a=some o/\a∉as/\¬ F a
end Ev
end
section
namespace Ev
variable{B:CA}{prog:pA}{w:eA}{A:xA}{F:cA->Prop}
abbrev no:cA->Prop:=fun _=>False
noncomputable def vF{α β:Type}(B:CA)(prog:pA)(w:eA)(A:xA)(F G:cA->Prop)(R:Heap->List cA->α->β->Prop)(t:Sem β)(m:mA α)(s:iA)(as:List cA)(st:St):Prop :=
 ∀ v st',m st=some (v,st')->∀ (Q:β->iA->Prop) (E:dA->iA->Prop),
  (∀ x h' as' tk,R h' as' v x->Inv B h' as' F st'->qA G s.heap as h' as'->s.toks<=tk->Q x { s with heap:=h',toks:=tk })->oA (model prog w) A t Q E s
theorem FM{α β:Type}{m:mA α}{g:α->mA β}{st st':St}{v:β}(h:(m>>=g) st=some (v,st')):∃ a st₁,m st=some (a,st₁)/\g a st₁=some (v,st'):=by
 have h':(m st).bind (fun p=>g p.1 p.2)=some (v,st'):=h
 rcases hm:m st with _|p
 ·rw [hm] at h';exact wA h'
 ·rw [hm] at h';exact⟨p.1,p.2,rfl,h'⟩
end Ev
end
section
namespace Ev
abbrev M6(B:CA)(h:Heap)(as:List cA)(F:cA->Prop)(env:Env)(ρ:Fr):Prop:=∃ m,h.Ns env.locals m/\∀ x v,ρ.sc.lookup x=some .local->ρ.vars.lookup x=some v->∃ y,m x=some y/\kA B h as F v y
abbrev E6(B:CA)(h:Heap)(as:List cA)(F:cA->Prop)(env:Env)(ρ:Fr)(x:Str):Prop:=∃ c yo,env.cells.lookup x=some c/\h.IsCell c yo/\F c/\c≠env.locals/\∀ v,ρ.vars.lookup x=some v->∃ y,yo=some y/\kA B h as F v y
abbrev J6(B:CA)(h:Heap)(as:List cA)(F:cA->Prop)(env:Env)(ρ:Fr)(x:Str):Prop:=(env.kindOf x=some .cell\/env.kindOf x=some .free)/\(x==("__classdict__":Str))=false/\∃ c yo,env.cells.lookup x=some c/\h.IsCell c yo/\F c/\c≠env.locals /\
  (∀ x',ρ.sc.lookup x'=some .cell->env.cells.lookup x'≠some c)/\∀ v,ρ.out x=some v->∃ y,yo=some y/\kA B h as F v y
structure DA(B:CA)(h:Heap)(as:List cA)(F:cA->Prop)(env:Env)(ρ:Fr):Prop where
 kind:env.scope.kind = .function
 gl:env.globals=B.gA
 bl:env.builtins=B.bA
 loc:M6 B h as F env ρ
 kindL:∀ x,ρ.sc.lookup x=some .local->env.kindOf x=some .local
 kindN:∀ x,env.kindOf x=some .local->ρ.sc.lookup x=some .local
 kindC:∀ x,ρ.sc.lookup x=some .cell->env.kindOf x=some .cell
 kindG:∀ x,ρ.sc.lookup x=some .globalImplicit->env.kindOf x=some .globalImplicit
 cell:∀ x,ρ.sc.lookup x=some .cell->E6 B h as F env ρ x
 apart:∀ x x' c,ρ.sc.lookup x=some .cell->ρ.sc.lookup x'=some .cell->env.cells.lookup x=some c->env.cells.lookup x'=some c->x=x'
 free:∀ x,ρ.sc.lookup x=some .free->J6 B h as F env ρ x
 ownF:F env.locals
def JB(env:Env)(sc:List (Str×GA))(a:cA):Prop:=a=env.locals\/∃ x,sc.lookup x=some .cell/\env.cells.lookup x=some a
theorem DA.own{B:CA}{h as F env ρ}(f:DA B h as F env ρ):∀ a,JB env ρ.sc a->F a:=by
 rintro a (rfl|⟨x,hx,hc⟩)
 ·exact f.ownF
 ·obtain⟨c,_,hc',_,hF,_⟩:=f.cell x hx
  rw [hc] at hc';cases hc';exact hF
abbrev BW(h:Heap)(env:Env)(sc:List (Str×GA))(a:cA):Prop:=JB env sc a\/∃ y yo,sc.lookup y=some .free/\env.cells.lookup y=some a/\h.IsCell a yo
theorem DA.freeF{B:CA}{h as F env ρ}(f:DA B h as F env ρ){y:Str}{a:cA}(hy:ρ.sc.lookup y=some .free)(hc:env.cells.lookup y=some a):F a:=by
 obtain⟨_,_,c,_,hc',_,hF,_⟩:=f.free y hy
 rw [hc] at hc';cases hc';exact hF
theorem DA.placeF{B:CA}{h as F env ρ}(f:DA B h as F env ρ){a:cA}(q:BW h env ρ.sc a):F a:=q.elim (f.own a) fun⟨_,_,hy,hc,_⟩=>f.freeF hy hc
theorem DA.gen{B:CA}{h h':Heap}{as as':List cA}{F F':cA->Prop}{env:Env}{ρ:Fr}(f:DA B h as F env ρ)(hr:∀ {u z},kA B h as F u z->kA B h' as' F' u z)
  (hp:∀ a o,BW h env ρ.sc a->h.get? a=some o->h'.get? a=some o/\F' a):DA B h' as' F' env ρ where
 kind:=f.kind
 gl:=f.gl
 bl:=f.bl
 loc:=by
  obtain⟨m,⟨o,es,ep,ho,r⟩,hm⟩:=f.loc
  refine⟨m,⟨o,es,ep,(hp _ o (.inl (.inl rfl)) ho).1,r⟩,fun y v h1 h2=>?_⟩
  obtain⟨z,hz,q⟩:=hm y v h1 h2
  exact⟨z,hz,hr q⟩
 kindL:=f.kindL
 kindN:=f.kindN
 kindC:=f.kindC
 kindG:=f.kindG
 cell:=fun y hy=>by
  obtain⟨c,yo,hc,⟨o,ho,hd⟩,hFc,hl,hv⟩:=f.cell y hy
  have k:=hp c o (.inl (.inr ⟨y,hy,hc⟩)) ho
  refine⟨c,yo,hc,⟨o,k.1,hd⟩,k.2,hl,fun v hv'=>?_⟩
  obtain⟨z,hz,q⟩:=hv v hv'
  exact⟨z,hz,hr q⟩
 apart:=f.apart
 free:=fun y hy=>by
  obtain⟨hk,hn,c,yo,hc,⟨o,ho,hd⟩,hFc,hl,ha,hv⟩:=f.free y hy
  have k:=hp c o (.inr ⟨y,yo,hy,hc,o,ho,hd⟩) ho
  refine⟨hk,hn,c,yo,hc,⟨o,k.1,hd⟩,k.2,hl,ha,fun v hv'=>?_⟩
  obtain⟨z,hz,q⟩:=hv v hv'
  exact⟨z,hz,hr q⟩
 ownF:=by
  obtain⟨m,⟨o,es,ep,ho,r⟩,hm⟩:=f.loc
  exact (hp _ o (.inl (.inl rfl)) ho).2
theorem DA.ext{B:CA}{h h':Heap}{as as':List cA}{F:cA->Prop}{env:Env}{ρ:Fr}(f:DA B h as F env ρ)(hF:∀ a∈as,¬ F a)(x:qA no h as h' as'):DA B h' as' F env ρ :=
 f.gen (fun r=>x.rep (fun _ h=>h.elim) r) fun a o q e=>⟨x.keep a o e (fun h=>hF a h (f.placeF q)) id,f.placeF q⟩
structure gP(B:CA)(prog:pA)(w:eA)(Γ:Ctx):Prop where
 glob:∀ x v,Γ.glob x=some v->∀ (A:xA) (s:iA) (env:Env) (Q:dA->iA->Prop) (E:dA->iA->Prop),env.scope.kind = .function->env.kindOf x=some .globalImplicit ->
  env.globals=B.gA->env.builtins=B.bA->B.objs.In s.heap->(∀ y,(∀ h as F,kA B h as F v y)->Q y s)->oA (model prog w) A (loadName env x) Q E s
variable{B:CA}{prog:pA}{w:eA}{A:xA}{F:cA->Prop}
abbrev RV(B:CA)(F:cA->Prop):Heap->List cA->V->dA->Prop:=fun h as v y=>kA B h as F v y
theorem cF{α:Type}{o:Option α}{st st':St}{v:α}(h:gt o st=some (v,st')):o=some v/\st'=st:=by
 rcases o with _|a
 ·exact wA h
 ·cases h;exact⟨rfl,rfl⟩
theorem hV{Γ:Ctx}{env:Env}{ρ:Fr}{s:iA}{as:List cA}{st:St}{x:Str}(g:gP B prog w Γ)(f:DA B s.heap as F env ρ)(i:Inv B s.heap as F st) :
  vF B prog w A F no (RV B F) (loadName env x) (gt (ρ.get Γ x)) s as st:=by
 intro v st' hv Q E hQ
 obtain⟨hg,rfl⟩:=cF hv
 have fin:∀ y,kA B s.heap as F v y->Q y s:=fun y r=>hQ y s.heap as s.toks r i (qA.refl _ _ _) (sA _)
 replace hg:(match ρ.sc.lookup x with|some .local|some .cell=>ρ.vars.lookup x|some .free=>ρ.out x|some .globalImplicit=>Γ.glob x|_=>none)=some v:=hg
 rcases hx:ρ.sc.lookup x with _|k
 ·rw [hx] at hg;exact wA hg
 ·rw [hx] at hg
  cases k with
  | «local» =>
   obtain⟨m,hn,hm⟩:=f.loc
   obtain⟨y,hy,hr⟩:=hm x v hx hg
   exact wpAny_loadName_local f.kind (f.kindL x hx) hn hy (fin y hr)
  | cell =>
   obtain⟨c,yo,hc,hi,_,_,hm⟩:=f.cell x hx
   obtain⟨y,rfl,hr⟩:=hm v hg
   exact wpAny_loadName_cell f.kind (f.kindC x hx) hc hi (fin y hr)
  | free =>
   obtain⟨hk,hn,c,yo,hc,hi,_,_,_,hm⟩:=f.free x hx
   obtain⟨y,rfl,hr⟩:=hm v hg
   rcases hk with hk|hk
   ·exact wpAny_loadName_cell f.kind hk hc hi (fin y hr)
   ·exact wpAny_loadName_free f.kind hk hc hi (fin y hr) hn
  | globalImplicit=>exact g.glob x v hg A s env Q E f.kind (f.kindG x hx) f.gl f.bl (fun a o e=>(i.base a o e).1) fun y hy=>fin y (hy _ _ _)
  | _=>exact wA hg
theorem Hq{Γ:Ctx}{env:Env}{ρ:Fr}{s:iA}{as:List cA}{st:St}{x:Str}{pos:Pos}(g:gP B prog w Γ)(f:DA B s.heap as F env ρ)(i:Inv B s.heap as F st) :
  vF B prog w A F no (RV B F) (eval (.Name x pos) env) (evalE Γ (.Name x pos) ρ) s as st:=by
 intro v st' hv Q E hQ
 by_cases hx:x=("__debug__":Str)
 ·subst hx
  cases (congrFun (if_pos rfl) st).symm.trans hv
  show oA _ _ (do standAt pos;(do rule "name.__debug__";pure (dA.bool true))) _ _ _
  exact rA (VD (rA (MM (JA (hQ _ s.heap as s.toks (.bool true) i (qA.refl _ _ _) (sA _))))))
 ·exact wpAny_Name (hV g f i v st' ((congrFun (if_neg hx) st).symm.trans hv) Q E hQ) (by simpa using hx)
end Ev
end
section
namespace Ev
variable{B:CA}{prog:pA}{w:eA}{A:xA}{F:cA->Prop}
theorem DW(a b:List Nat):S a++S b=S (a++b):=by
 show (⟨a.toArray++b.toArray⟩:Str)=⟨(a++b).toArray⟩
 simp
theorem gH(a:List Nat):(S a).length=a.length:=by simp [S,Str.length]
theorem mG{n:Nat}(h:n<=cap):n<=sizeLine:=by rw [sizeLine_eq];exact jA h (by decide)
theorem xE{a:V}{i:Int}(h:a.int? = some i):a = .int i:=RF (G:=fun i=>a = .int i) (by clear h;rcases a with ⟨⟩<;>first|exact True.intro|exact rfl) h
theorem bG{a:V}{l:List Nat}(h:a.str? = some l):a = .str l:=RF (G:=fun l=>a = .str l) (by clear h;rcases a with ⟨⟩<;>first|exact True.intro|exact rfl) h
theorem pT{α:Type}{c:Prop}[Decidable c]{x:Option α}{v:α}(h:(if c then x else .none)=some v):c/\x=some v:=by
 by_cases q:c
 ·exact⟨q,(if_pos q).symm.trans h⟩
 ·exact nomatch (if_neg q).symm.trans h
theorem j5{l:List Nat}{v:V}(h:QH l=some v):l.length<=cap/\v = .str l:=by
 refine VF h fun h1 h2=>?_
 exact⟨h1,(Option.some.inj h2).symm⟩
theorem N3{a:V}{i:Nat}(h:a.ref? = some i):a = .ref i:=RF (G:=fun i=>a = .ref i) (by clear h;rcases a with ⟨⟩<;>first|exact True.intro|exact rfl) h
theorem bX{op:dC}{a b:V}{v:V}(h:(a.str?.bind fun x=>b.str?.bind (oP op x))=some v):∃ x y,op = .Add/\a = .str x/\b = .str y/\x.length+y.length<=cap/\v = .str (x++y):=by
 refine WB h fun x h1 h2=>?_
 refine WB h2 fun y h3 h4=>?_
 obtain rfl:op = .Add:=AC (o:=oP op x y) (by clear h4;rcases op with ⟨⟩<;>first|exact True.intro|exact zB rfl) h4
 obtain⟨h5,h6⟩:=j5 h4
 exact⟨x,y,rfl,bG h1,bG h3,QA▸h5,h6⟩
theorem E2{f:Int->Int->Option V}{g:Option V}{a b v:V}(h:(match a.int? with|some x=>b.int?.bind (f x) | .none=>g)=some v):(∃ x y,a = .int x/\b = .int y/\f x y=some v)\/g=some v:=by
 rcases q:a.int? with _|x
 ·rw [q] at h;exact .inr h
 ·rw [q] at h
  refine WB h fun y h1 h2=>?_
  exact .inl ⟨x,y,xE q,xE h1,h2⟩
theorem V8{op:dC}{a b v:V}(h:fN op a b=some v):(∃ x y,a = .int x/\b = .int y/\binI op x y=some v)\/(∃ x y,op = .Add/\a = .str x/\b = .str y/\x.length+y.length<=cap/\v = .str (x++y)) :=
 (E2 h).imp id bX
theorem W8{a b:Int}{t u:Tok}{v:V}{E:dA->iA->Prop}:∀ {op:dC}{Q:dA->iA->Prop},binI op a b=some v->(∀ i,v = .int i->Q (.int i s.toks) { s with toks:=s.toks+1 })->oA (model prog w) A (binaryOp op (.int a t) (.int b u)) Q E s:=by
 intro op Q hv hq
 cases op with
 | Add=>exact PyProof.Rows.add_int (hq _ (Option.some.inj hv).symm)
 | Sub=>exact PyProof.Rows.sub_int (hq _ (Option.some.inj hv).symm)
 | Mult =>
  refine VF hv fun hs hv=>?_
  refine PyProof.Rows.mul_int (hq _ (Option.some.inj hv).symm) ?_
  exact hs.elim (fun h=>IntMulOk.of_left (intBits_le_64 (EQ h).1 (EQ h).2)) fun h=>IntMulOk.of_right (intBits_le_64 (EQ h).1 (EQ h).2)
 | FloorDiv =>
  refine VF hv fun hs hv=>?_
  exact PyProof.Rows.floordiv_int hs.1 (hq _ (Option.some.inj hv).symm) (Or.inl (PyProof.noPylong_small hs.2))
 | Mod =>
  by_cases hs:b=0
  ·exact nomatch (if_pos hs).symm.trans hv
  ·exact PyProof.Rows.mod_int' hs (hq _ (Option.some.inj ((if_neg hs).symm.trans hv)).symm)
 | Pow =>
  refine VF hv fun hs hv=>?_
  exact PyProof.Rows.pow_int_small hs.1 hs.2.1 hs.2.2 (hq _ (Option.some.inj hv).symm)
 | LShift =>
  refine VF hv fun hs hv=>?_
  exact PyProof.Rows.lshift_int_small hs.1 hs.2.1 hs.2.2 (hq _ (Option.some.inj hv).symm)
 | RShift =>
  refine VF hv fun hs hv=>?_
  exact PyProof.Rows.rshift_int hs (hq _ (Option.some.inj hv).symm)
 | BitAnd=>exact PyProof.Rows.and_int (hq _ (Option.some.inj hv).symm)
 | BitOr=>exact PyProof.Rows.or_int (hq _ (Option.some.inj hv).symm)
 | _=>exact wA hv
theorem EW{l l':List Nat}(hl:∀ c∈l,c<0x110000)(hl':∀ c∈l',c<0x110000):∀ c∈l++l',c<0x110000:=fun c hc=>(GB.mp hc).elim (hl c) (hl' c)
theorem X8{op:dC}{a b v:V}{x y:dA}{s:iA}{as:List cA}(ra:kA B s.heap as F a x)(rb:kA B s.heap as F b y)(hv:fN op a b=some v)
  {Q:dA->iA->Prop}{E:dA->iA->Prop} (hQ:∀ z tk,s.toks<=tk->(∀ h as F,kA B h as F v z)->Q z { s with toks:=tk }):oA (model prog w) A (binaryOp op x y) Q E s:=by
 rcases V8 hv with ⟨i,j,rfl,rfl,h⟩|⟨l,l',rfl,rfl,rfl,h,rfl⟩
 ·obtain⟨t,rfl⟩:=DC ra
  obtain⟨u,rfl⟩:=DC rb
  exact W8 h fun k e=>hQ _ _ (CB _) fun _ _ _=>e ▸ .int k _
 ·obtain⟨t,rfl,hl⟩:=pC ra
  obtain⟨u,rfl,hl'⟩:=pC rb
  refine QE (n:=s.toks) (sA _) (PyProof.Rows.add_str (fun t' tk htk=>?_) (by rw [gH,gH];exact mG h))
  rw [DW]
  exact hQ _ _ htk fun _ _ _=>.str _ _ (EW hl hl')
end Ev
end
section
namespace Ev
variable{B:CA}{prog:pA}{w:eA}{A:xA}{F:cA->Prop}
theorem O6{l:List Nat}(h:∀ c∈l,c<0x110000):OA.strOk (S l)=true:=by
 unfold OA.strOk S
 simpa using h
def VM(h:Heap)(n:Nat)(y:dA)(d:OA):Prop:=∃ bs,Reads h y d bs/\d.canLay0=true/\d.depth<=n
def DatsOk(h:Heap)(n:Nat)(ys:List dA)(ds:List OA):Prop:=∃ bs,ReadsAll h ys ds bs/\OA.canLayAll0 ds=true/\OA.depthAll ds<=n
theorem Pb{h:Heap}{as:List cA}{st:St}{n:Nat}(ih:∀ v y d,kA B h as F v y->jB st n v=some d->VM h n y d){vs:List V}{xs:List dA}{ds:List OA}(r:vA B h as F vs xs)(hd:vs.mapM (jB st n)=some ds) :
  DatsOk h n xs ds:=by
 refine r.ind (P:=fun vs xs=>∀ ds,vs.mapM (jB st n)=some ds->DatsOk h n xs ds) (fun ds hd=>?_) (fun {v x vs xs} a _ ih2 ds hd=>?_) ds hd
 ·obtain rfl:[]=ds:=qC hd
  exact⟨[],.nil,rfl,iE _⟩
 ·rw [xR] at hd
  refine WB hd fun d h1 h2=>?_
  refine WB h2 fun es h3 h4=>?_
  obtain rfl:=qC h4
  obtain⟨b1,r1,c1,d1⟩:=ih _ _ _ a h1
  obtain⟨b2,r2,c2,d2⟩:=ih2 es h3
  refine⟨_,.cons r1 r2,?_,?_⟩
  ·show (_&&_)=true
   rw [c1,c2];rfl
  ·simp only [OA.depthAll];exact Nat.max_le.mpr ⟨d1,d2⟩
theorem GS{h:Heap}{as:List cA}{st:St}{n:Nat}{vs:List V}{xs:List dA}{a:cA}{d:OA}{T:String}{f:List OA->OA}(ih:∀ v y d,kA B h as F v y->jB st n v=some d->VM h n y d)
  (ho:∃ o,h.get? a=some o/\o.cls = .type T/\∃ k,o.data = .seq xs.toArray k) (hf:(T = "tuple" /\ f = .tuple)\/(T = "list" /\ f = .list)) (rs:vA B h as F vs xs) (hd:(vs.mapM (jB st n)).map f=some d):VM h (n+1) (.ref a) d:=by
 obtain⟨es,he,rfl⟩:=MC.mp hd
 obtain⟨bs,r1,c1,d1⟩:=Pb ih rs he
 obtain⟨o,ho,hc,k,hk⟩:=ho
 rcases hf with ⟨rfl,rfl⟩|⟨rfl,rfl⟩
 ·exact⟨_,.tuple ho hc hk r1,c1,by simp only [OA.depth];exact XB d1⟩
 ·exact⟨_,.list ho hc hk r1,c1,by simp only [OA.depth];exact XB d1⟩
theorem xY{h:Heap}{as:List cA}{st:St}{v:V}{y:dA}{d:OA}(r:kA B h as F v y)(hd:jB st 0 v=some d)(n:Nat):VM h n y d:=by
 rcases v with ⟨⟩<;>first|exact wA hd|skip
 ·obtain rfl:=vM r
  obtain rfl:=qC hd
  exact⟨_,.none,rfl,iE _⟩
 ·obtain rfl:=SU r
  obtain rfl:=qC hd
  exact⟨_,.bool _,rfl,iE _⟩
 ·obtain⟨t,rfl⟩:=DC r
  obtain rfl:=qC hd
  exact⟨_,.int _ _,rfl,iE _⟩
 ·obtain⟨t,rfl,hl⟩:=pC r
  obtain rfl:=qC hd
  exact⟨_,.str _ _,O6 hl,iE _⟩
theorem Nb{st:St}{n j:Nat}{d:OA}(hd:jB st (n+1) (.ref j)=some d):∃ vs,st[j]? = some (.list vs)/\(vs.mapM (jB st n)).map .list=some d:=by
 have hd:(match st[j]? with|some (O.list vs)=>(vs.mapM (jB st n)).map OA.list|_=>.none)=some d:=hd
 rcases ho:st[j]? with _|o
 ·rw [ho] at hd;exact wA hd
 ·rw [ho] at hd
  obtain⟨vs⟩:=o
  exact⟨vs,rfl,hd⟩
theorem RJ{h:Heap}{as:List cA}{st:St}(i:Inv B h as F st)(n:Nat):∀ (v:V) (y:dA) (d:OA),kA B h as F v y->jB st n v=some d->VM h n y d:=by
 induction n with
 | zero=>exact fun v y d r hd=>xY r hd 0
 | succ n ih =>
  intro v y d r hd
  rcases v with ⟨⟩<;>first|exact wA hd|exact xY (st:=st) r hd _|skip
  ·obtain⟨xs,a,rfl,ht,_,_,rs⟩:=wM r
   exact GS ih ht (.inl ⟨rfl,rfl⟩) rs hd
  ·obtain⟨xs,a,rfl,ht,_,_,rs⟩:=aG r
   exact GS ih ht.isList (.inr ⟨rfl,rfl⟩) rs hd
  ·obtain⟨a,rfl,e⟩:=AG r
   obtain⟨vs,ho,hd⟩:=Nb hd
   obtain⟨xs,hp,rs,_⟩:=(i.at_ _ a _ e ho).out
   exact GS ih hp.isList (.inr ⟨rfl,rfl⟩) rs hd
end Ev
namespace Ev
variable{B:CA}{prog:pA}{w:eA}{A:xA}{F:cA->Prop}{s:iA}{as:List cA}{st:St}
theorem RY{a b:V}{t:Bool}(h:SJ st a b=some t):∃ x y,jB st 8 a=some x/\jB st 8 b=some y/\t=OA.eqv x y:=by
 refine WB (show (jB st 8 a).bind (fun x=>(jB st 8 b).bind fun y=>some (OA.eqv x y))=some t from h) fun x h1 h2=>?_
 refine WB h2 fun y h3 h4=>?_
 exact⟨x,y,h1,h3,(qC h4).symm⟩
theorem ab{a b:V}{x y:dA}{t:Bool}(i:Inv B s.heap as F st)(hu:A.units+20<cLine)(ra:kA B s.heap as F a x)(rb:kA B s.heap as F b y)(h:SJ st a b=some t)
  {Q:dA->iA->Prop}{E:dA->iA->Prop} (hQ:Q (.bool t) s):oA (model prog w) A (compareOp .Eq x y) Q E s:=by
 obtain⟨d,d',h1,h2,rfl⟩:=RY h
 obtain⟨_,r1,c1,e1⟩:=RJ i _ _ _ _ ra h1
 obtain⟨_,r2,c2,e2⟩:=RJ i _ _ _ _ rb h2
 exact SeqAt.compareEq_reads r1 r2 c1 c2 (Z5 hu e1) hQ
theorem cb{a b:V}{x y:dA}{t:Bool}(i:Inv B s.heap as F st)(hu:A.units+20<cLine)(ra:kA B s.heap as F a x)(rb:kA B s.heap as F b y)(h:SJ st a b=some t)
  {Q:dA->iA->Prop}{E:dA->iA->Prop} (hQ:Q (.bool (!t)) s):oA (model prog w) A (compareOp .NotEq x y) Q E s:=by
 obtain⟨d,d',h1,h2,rfl⟩:=RY h
 obtain⟨_,r1,c1,e1⟩:=RJ i _ _ _ _ ra h1
 obtain⟨_,r2,c2,e2⟩:=RJ i _ _ _ _ rb h2
 exact SeqAt.compareNe_reads r1 r2 c1 c2 (Z5 hu e1) hQ
theorem Bf{a b:V}{t:Bool}(h:EN st a b=some t):∃ x ys,jB st 8 a=some x/\(jB st 8 b=some (.list ys)\/jB st 8 b=some (.tuple ys))/\(ys.any fun y=>OA.eqv y x)=t:=by
 refine WB (show (jB st 8 a).bind (fun x=>(jB st 8 b).bind fun y=>match y with | .list ys=>some (ys.any fun y=>OA.eqv y x) | .tuple ys=>some (ys.any fun y=>OA.eqv y x)|_=>.none)=some t from h) fun x h1 h2=>?_
 refine WB h2 fun y h3 h4=>?_
 rcases y with ⟨⟩<;>first|exact wA h4|skip
 ·exact⟨x,_,h1,.inl h3,qC h4⟩
 ·exact⟨x,_,h1,.inr h3,qC h4⟩
theorem bb{a b:V}{x y:dA}{t:Bool}(i:Inv B s.heap as F st)(hu:A.units+20<cLine)(ra:kA B s.heap as F a x)(rb:kA B s.heap as F b y)(h:EN st a b=some t)
  {Q:dA->iA->Prop}{E:dA->iA->Prop}:(Q (.bool t) s->oA (model prog w) A (compareOp .In x y) Q E s)/\(Q (.bool (!t)) s->oA (model prog w) A (compareOp .NotIn x y) Q E s):=by
 obtain⟨d,ys,h1,h2,rfl⟩:=Bf h
 obtain⟨_,r1,c1,e1⟩:=RJ i _ _ _ _ ra h1
 rcases h2 with h2|h2
 ·obtain⟨_,r2,c2,e2⟩:=RJ i _ _ _ _ rb h2
  have e3:OA.depthAll ys+1<=8:=e2
  exact⟨fun hQ=>SeqAt.in_list_reads r2 r1 c2 c1 (iR hu e1) hQ,fun hQ=>SeqAt.notIn_list_reads r2 r1 c2 c1 (iR hu e1) hQ⟩
 ·obtain⟨_,r2,c2,e2⟩:=RJ i _ _ _ _ rb h2
  have e3:OA.depthAll ys+1<=8:=e2
  exact⟨fun hQ=>SeqAt.in_tuple_reads r2 r1 c2 c1 (iR hu e1) hQ,fun hQ=>SeqAt.notIn_tuple_reads r2 r1 c2 c1 (iR hu e1) hQ⟩
end Ev
namespace Ev
variable{B:CA}{prog:pA}{w:eA}{A:xA}{F:cA->Prop}{s:iA}{as:List cA}{st:St}
def lP:uL->dA->Prop
 | .none,y=>y = .none
 | .bool b,y=>y = .bool b
 | .ty n,y=>n = "Headers" \/ y = .type n
 | .obj,y=>plainIs y .none=true/\plainIs .none y=true/\(y==dA.none)=false/\(dA.none==y)=false
theorem K5{t:uL}{x:dA}{a:cA}(h:x = .ref a):lP .obj x:=by subst h;exact⟨rfl,rfl,rfl,rfl⟩
theorem Nr{h:Heap}{x:dA}:∀ a:V,(bR a).elim True fun t=>jP B h as F x a->lP t x:=by
 intro a
 rcases a with ⟨⟩<;>first|exact True.intro|exact fun e=>e|exact fun⟨_,e,_⟩=>K5 (t:=.obj) e|exact fun⟨_,_,e,_⟩=>K5 (t:=.obj) e|exact fun e=>e.elim (fun e=>.inr e.1) (fun e=>.inl e.1)|(intro e;obtain⟨_,rfl⟩:=e;exact⟨rfl,rfl,rfl,rfl⟩)|(intro e;obtain⟨_,rfl,_⟩:=e;exact⟨rfl,rfl,rfl,rfl⟩)
theorem J5{h:Heap}{a:V}{x:dA}{t:uL}(r:kA B h as F a x)(ht:bR a=some t):lP t x:=RF (G:=fun t=>jP B h as F x a->lP t x) (Nr a) ht (kF r)
theorem WZ{a b:V}{x y:dA}{t:Bool}(ra:kA B s.heap as F a x)(rb:kA B s.heap as F b y)(h:ML a b=some t):plainIs x y=true/\(x==y)=t:=by
 refine WB h fun ta h1 h2=>?_
 refine WB h2 fun tb h3 h4=>?_
 have ka:=J5 ra h1
 have kb:=J5 rb h3
 cases ta with
 | none =>
  cases ka
  cases tb with
  | none=>cases kb;obtain rfl:=qC h4;exact⟨rfl,rfl⟩
  | bool c=>cases kb;obtain rfl:=qC h4;exact⟨rfl,rfl⟩
  | ty n=>exact wA h4
  | obj=>obtain rfl:=qC h4;exact⟨kb.2.1,kb.2.2.2⟩
 | bool c =>
  cases ka
  cases tb with
  | none=>cases kb;obtain rfl:=qC h4;exact⟨rfl,rfl⟩
  | bool d=>cases kb;obtain rfl:=qC h4;exact⟨rfl,by rw [OV];simp⟩
  | ty n=>exact wA h4
  | obj=>exact wA h4
 | obj =>
  cases tb with
  | none=>cases kb;obtain rfl:=qC h4;exact⟨ka.1,ka.2.2.1⟩
  | bool d=>exact wA h4
  | ty n=>exact wA h4
  | obj=>exact wA h4
 | ty n =>
  cases tb with
  | ty m =>
   by_cases q:n = "Headers" \/ m = "Headers"
   ·exact nomatch (if_pos q).symm.trans h4
   ·obtain rfl:=Option.some.inj ((if_neg q).symm.trans h4)
    rcases ka with ka|rfl
    ·exact absurd (.inl ka) q
    rcases kb with kb|rfl
    ·exact absurd (.inr kb) q
    exact⟨rfl,by rw [OV];simp⟩
  | none=>exact wA h4
  | bool _=>exact wA h4
  | obj=>exact wA h4
end Ev
end
section
namespace Ev
variable{B:CA}{prog:pA}{w:eA}{A:xA}{F:cA->Prop}{s:iA}{as:List cA}{st:St}
noncomputable def JJ(B:CA)(prog:pA)(w:eA)(gd:Str->Option (List (V×V))):Prop :=
 ∀ (A:xA) (F:cA->Prop) (s:iA) (as:List cA) (st:St) (a b:V) (x y:dA) (t:Bool),A.handled=none->A.units+20<cLine->Inv B s.heap as F st->kA B s.heap as F a x->kA B s.heap as F b y->IL gd st b a=some t ->
  ∀ (Q:dA->iA->Prop) (E:dA->iA->Prop),((∀ tk,s.toks<=tk->Q (.bool t) { s with toks:=tk })->oA (model prog w) A (compareOp .In x y) Q E s) /\
   ((∀ tk,s.toks<=tk->Q (.bool (!t)) { s with toks:=tk })->oA (model prog w) A (compareOp .NotIn x y) Q E s)
theorem JZ(gd:Str->Option (List (V×V)))(st:St)(a:V):∀ b:V,(IL gd st b a).elim True fun _=>(∃ ks vs,b = .dct ks vs)\/∃ y,b = .g y:=by
 intro b
 rcases b with ⟨⟩<;>first|exact True.intro|exact zB (.inl ⟨_,_,rfl⟩)|exact zB (.inr ⟨_,rfl⟩)
theorem IZ(gd:Str->Option (List (V×V)))(st:St)(y:Str):∀ a:V,(IL gd st (.g y) a).elim True fun _=>(∃ i,a = .int i)\/∃ l,a = .str l:=by
 intro a
 rcases a with ⟨⟩<;>first|exact True.intro|exact zB (.inl ⟨_,rfl⟩)|exact zB (.inr ⟨_,rfl⟩)
theorem Za{f:Int->Int->Bool}{a b:V}{t:Bool}(h:FL f a b=some t):∃ i j,a = .int i/\b = .int j/\t=f i j:=by
 refine WB h fun i h1 h2=>?_
 obtain⟨j,h3,h4⟩:=MC.mp h2
 exact⟨i,j,xE h1,xE h3,h4.symm⟩
theorem EP{f:Int->Int->Bool}{op:JG}{a b:V}{x y:dA}{t:Bool}(ra:kA B s.heap as F a x)(rb:kA B s.heap as F b y)(h:FL f a b=some t){Q:dA->iA->Prop}{E:dA->iA->Prop}
  (hQ:Q (.bool t) s) (k:∀ i j u v,Q (.bool (f i j)) s->oA (model prog w) A (compareOp op (.int i u) (.int j v)) Q E s):oA (model prog w) A (compareOp op x y) Q E s:=by
 obtain⟨i,j,rfl,rfl,rfl⟩:=Za h
 obtain⟨u,rfl⟩:=DC ra
 obtain⟨v,rfl⟩:=DC rb
 exact k i j u v hQ
theorem PZ{gd:Str->Option (List (V×V))}(hk:JJ B prog w gd)(hh:A.handled=none){a b:V}{x y:dA}{t:Bool}(i:Inv B s.heap as F st)(hu:A.units+20<cLine)
  (ra:kA B s.heap as F a x) (rb:kA B s.heap as F b y) (h:bQ gd st a b=some t) {Q:dA->iA->Prop}{E:dA->iA->Prop} :
  ((∀ tk,s.toks<=tk->Q (.bool t) { s with toks:=tk })->oA (model prog w) A (compareOp .In x y) Q E s)/\((∀ tk,s.toks<=tk->Q (.bool (!t)) { s with toks:=tk })->oA (model prog w) A (compareOp .NotIn x y) Q E s):=by
 have rest:(match IL gd st b a with|some t=>some t | .none=>EN st a b)=some t ->
   ((∀ tk,s.toks<=tk->Q (.bool t) { s with toks:=tk })->oA (model prog w) A (compareOp .In x y) Q E s)/\((∀ tk,s.toks<=tk->Q (.bool (!t)) { s with toks:=tk })->oA (model prog w) A (compareOp .NotIn x y) Q E s):=fun h=>by
  rcases he:IL gd st b a with _|u
  ·obtain⟨h1,h2⟩:=bb (prog:=prog) (w:=w) (Q:=Q) (E:=E) i hu ra rb (by rw [he] at h;exact h)
   exact⟨fun q=>h1 (q s.toks (sA _)),fun q=>h2 (q s.toks (sA _))⟩
  ·obtain rfl:u=t:=Option.some.inj (by rw [he] at h;exact h)
   exact hk A F s as st _ _ x y _ hh hu i ra rb he Q E
 unfold bQ at h
 rcases ha:a.str? with _|l
 ·exact rest (by rw [ha] at h;exact h)
 ·rcases hb:b.str? with _|l'
  ·exact rest (by rw [ha,hb] at h;exact h)
  ·rw [ha,hb] at h
   obtain rfl:=Option.some.inj h
   obtain rfl:=bG ha
   obtain rfl:=bG hb
   obtain⟨u,rfl,_⟩:=pC ra
   obtain⟨v,rfl,_⟩:=pC rb
   exact⟨fun q=>P.in_str (q s.toks (sA _)),fun q=>P.notIn_str (q s.toks (sA _))⟩
theorem jY{gd:Str->Option (List (V×V))}(hk:JJ B prog w gd)(hh:A.handled=none){a b:V}{x y:dA}(i:Inv B s.heap as F st)(hu:A.units+20<cLine)
  (ra:kA B s.heap as F a x) (rb:kA B s.heap as F b y) {E:dA->iA->Prop}:∀ {op:JG}{t:Bool}{Q:dA->iA->Prop},ID gd st op a b=some t ->
  (∀ tk,s.toks<=tk->Q (.bool t) { s with toks:=tk })->oA (model prog w) A (compareOp op x y) Q E s
 | .Eq,_,_,h,hQ=>ab i hu ra rb h (hQ s.toks (sA _))
 | .NotEq,_,_,h,hQ=>by
  obtain⟨u,h1,rfl⟩:=MC.mp h
  exact cb i hu ra rb h1 (hQ s.toks (sA _))
 | .Lt,_,_,h,hQ=>EP ra rb h (hQ s.toks (sA _)) fun _ _ _ _ q=>PyProof.Rows.lt_int q
 | .LtE,_,_,h,hQ=>EP ra rb h (hQ s.toks (sA _)) fun _ _ _ _ q=>P.le_int q
 | .Gt,_,_,h,hQ=>EP ra rb h (hQ s.toks (sA _)) fun _ _ _ _ q=>PyProof.Rows.gt_int q
 | .GtE,_,_,h,hQ=>EP ra rb h (hQ s.toks (sA _)) fun _ _ _ _ q=>P.ge_int q
 | .Is,_,_,h,hQ=>by
  obtain⟨h1,rfl⟩:=WZ ra rb h
  exact wpAny_is_plain h1 (hQ s.toks (sA _))
 | .IsNot,_,_,h,hQ=>by
  obtain⟨u,h1,rfl⟩:=MC.mp h
  obtain⟨h2,rfl⟩:=WZ ra rb h1
  exact wpAny_isNot_plain h2 (hQ s.toks (sA _))
 | .In,_,_,h,hQ=>(PZ hk hh i hu ra rb h).1 hQ
 | .NotIn,_,_,h,hQ=>by
  obtain⟨u,h1,rfl⟩:=MC.mp h
  exact (PZ hk hh i hu ra rb h1).2 hQ
end Ev
end
section
namespace Ev
variable{B:CA}{prog:pA}{w:eA}{A:xA}{F:cA->Prop}{s:iA}{as:List cA}{st:St}
theorem vA.length{h:Heap}{vs:List V}{xs:List dA}(r:vA B h as F vs xs):vs.length=xs.length:=r.ind (P:=fun vs xs=>vs.length=xs.length) rfl fun _ _ ih=>congrArg (· + 1) ih
theorem Kd{n:Nat}:((n:Int) != 0)=decide (n≠0):=by
 rcases n with _|n
 ·rfl
 ·exact (bne_iff_ne.mpr fun h=>tH n (xH.inj h)).trans (decide_eq_true (tH n)).symm
theorem tZ{xs:List dA}{n:Nat}(h:n=xs.length):(!xs.toArray.isEmpty)=decide (n≠0):=by
 subst h
 rcases xs with ⟨⟩<;>simp
theorem WS{α:Type}{l:List α}{t:Bool}(h:XJ l=some t):l.length<=cap/\decide (l.length≠0)=t:=by
 refine VF h fun h1 h2=>?_
 exact⟨h1,Option.some.inj h2⟩
theorem CL{n:Nat}(h:n<=cap):(n:Int)<2^63:=dL (CD.mpr h) (by decide)
theorem W5{vs:List V}{xs:List dA}{a:cA}{t:Bool}(hp:s.heap.IsList a xs.toArray)(rs:vA B s.heap as F vs xs)(h:XJ vs=some t){Q:Bool->iA->Prop}{E:dA->iA->Prop}(hQ:∀ tk,s.toks<=tk->Q t { s with toks:=tk }) :
  oA (model prog w) A (truthy (.ref a)) Q E s:=by
 obtain⟨h1,rfl⟩:=WS h
 refine wpAny_truthy_list hp (by rw [WG,<- rs.length];exact CL h1) ?_
 rw [tZ rs.length]
 exact hQ _ (eE (CB _))
theorem Bs{E:dA->iA->Prop}(i:Inv B s.heap as F st){x:dA}{Q:Bool->iA->Prop}:∀ a:V,(oF st a).elim True fun t=>kA B s.heap as F a x->(∀ tk,s.toks<=tk->Q t { s with toks:=tk })->oA (model prog w) A (truthy x) Q E s:=by
 intro a
 rcases a with ⟨⟩<;>first|exact True.intro|skip
 ·refine SF fun t h ra hQ=>?_
  obtain rfl:=vM ra
  obtain rfl:=Option.some.inj h
  exact PyProof.Rows.truthy_none (hQ s.toks (sA _))
 ·refine SF fun t h ra hQ=>?_
  obtain rfl:=SU ra
  obtain rfl:=Option.some.inj h
  exact wpAny_truthy_bool (hQ s.toks (sA _))
 ·refine SF fun t h ra hQ=>?_
  obtain⟨u,rfl⟩:=DC ra
  obtain rfl:=Option.some.inj h
  exact P.truthy_int (hQ s.toks (sA _))
 ·refine SF fun t h ra hQ=>?_
  obtain⟨u,rfl,_⟩:=pC ra
  obtain⟨h1,rfl⟩:=WS h
  refine P.truthy_str (by rw [gH];exact fL.mpr (CL h1)) ?_
  rw [gH,Kd]
  exact hQ _ (eE (CB _))
 ·refine SF fun t h ra hQ=>?_
  obtain⟨xs,a,rfl,ht,_,_,rs⟩:=wM ra
  obtain⟨h1,rfl⟩:=WS h
  refine PyProof.Rows.truthy_tuple ht (by rw [WG,<- rs.length];exact CL h1) ?_
  rw [tZ rs.length]
  exact hQ _ (eE (CB _))
 ·refine SF fun t h ra hQ=>?_
  obtain⟨xs,a,rfl,ht,_,_,rs⟩:=aG ra
  exact W5 ht.isList rs h hQ
 ·rename_i j
  refine SF fun t h ra hQ=>?_
  obtain⟨a,rfl,e⟩:=AG ra
  refine GO (o:=st[j]?) (K:=XJ) h fun vs ho h=>?_
  obtain⟨xs,hp,rs,_⟩:=(i.at_ j a _ e ho).out
  exact W5 hp.isList rs h hQ
theorem wV{E:dA->iA->Prop}(i:Inv B s.heap as F st){a:V}{x:dA}{t:Bool}{Q:Bool->iA->Prop}(ra:kA B s.heap as F a x)(h:oF st a=some t)
  (hQ:∀ tk,s.toks<=tk->Q t { s with toks:=tk }):oA (model prog w) A (truthy x) Q E s:=RF (G:=fun t=>kA B s.heap as F a x->(∀ tk,s.toks<=tk->Q t { s with toks:=tk })->oA (model prog w) A (truthy x) Q E s) (Bs i a) h ra hQ
end Ev
end
section
namespace Ev
variable{B:CA}{prog:pA}{w:eA}{A:xA}{F:cA->Prop}{s:iA}{as:List cA}{st:St}
theorem vA.get{h:Heap}{vs:List V}{xs:List dA}{k:Nat}{v:V}(r:vA B h as F vs xs)(e:vs[k]? = some v):∃ x,xs[k]? = some x/\kA B h as F v x:=by
 refine r.ind (P:=fun vs xs=>∀ k,vs[k]? = some v->∃ x,xs[k]? = some x/\kA B h as F v x) (fun k e=>wA (List.getElem?_nil.symm.trans e)) (fun {u x vs xs} a _ ih k e=>?_) k e
 rcases k with _|k
 ·obtain rfl:u=v:=qC e
  exact⟨x,rfl,a⟩
 ·exact ih k e
theorem mi{l:cA}{vs:List V}{xs:List dA}{i:Int}{t:Tok}{k:Nat}{v:V}(hl:s.heap.IsList l xs.toArray)(rs:vA B s.heap as F vs xs)(hi:aD vs.length i=some k)(hv:vs[k]? = some v)
  {Q:dA->iA->Prop}{E:dA->iA->Prop} (hQ:∀ x,kA B s.heap as F v x->Q x s):oA (model prog w) A (getItem (.ref l) (.int i t)) Q E s:=by
 obtain⟨x,hx,r⟩:=rs.get hv
 have hlen:=rs.length
 unfold aD cap at hi
 split at hi
 ·split at hi
  ·split at hi
   ·cases hi
    rename_i c1 c2 c3
    exact wpAny_getItem_list hl c2 (NT c3 c1) (by simpa using hx) (hQ x r)
   ·cases hi
  ·split at hi
   ·cases hi
    rename_i c1 c2 c3
    refine wpAny_getItem_list_neg hl (fL.mp c2) (by simp;rw [<-hlen];exact c3) (xZ c3 c1) ?_ (hQ x r)
    simp only [WG,List.getElem?_toArray]
    rw [<-hlen];exact hx
   ·exact wA hi
 ·exact wA hi
theorem K4{n k:Nat}{i:Int}(h:aD n i=some k):seqIndex? i n=some k /\ -(2^63:Int)<=i/\i<2^63:=by
 unfold aD cap at h
 unfold seqIndex?
 split at h
 ·split at h
  ·split at h
   ·cases h
    rename_i c1 c2 c3
    refine⟨?_,wZ c2,NT c3 c1⟩
    have e:(if i<0 then i+(n:Int) else i)=i:=if_neg (pF.mpr c2)
    simp only [e]
    rw [if_pos (by simp;exact⟨c2,c3⟩)]
   ·cases h
  ·split at h
   ·cases h
    rename_i c1 c2 c3
    refine⟨?_,xZ c3 c1,jj c2⟩
    have e:(if i<0 then i+(n:Int) else i)=i+n:=if_pos (fL.mp c2)
    simp only [e]
    rw [if_pos (by simp;exact⟨Dk c3,U1 (fL.mp c2)⟩)]
   ·exact wA h
 ·exact wA h
theorem Ds{l:cA}{vs:List V}{xs:List dA}{i:Int}{t:Tok}{k:Nat}{v:V}(hl:s.heap.IsTuple l xs.toArray)(rs:vA B s.heap as F vs xs)(hi:aD vs.length i=some k)(hv:vs[k]? = some v)
  {Q:dA->iA->Prop}{E:dA->iA->Prop} (hQ:∀ x,kA B s.heap as F v x->Q x s):oA (model prog w) A (getItem (.ref l) (.int i t)) Q E s:=by
 obtain⟨x,hx,r⟩:=rs.get hv
 obtain⟨h1,h2,h3⟩:=K4 hi
 exact PyProof.Rows.getItem_tuple hl h2 h3 (by simpa [rs.length] using h1) (by simpa using hx) (hQ x r)
theorem sr{l:List Nat}{i:Int}{t u:Tok}{k c:Nat}(hi:aD l.length i=some k)(hv:l[k]? = some c)
  {Q:dA->iA->Prop}{E:dA->iA->Prop} (hQ:Q (.str (S [c]) s.toks) { s with toks:=s.toks+1 }):oA (model prog w) A (getItem (.str (S l) u) (.int i t)) Q E s:=by
 obtain⟨h1,h2,h3⟩:=K4 hi
 refine PyProof.Rows.getItem_str (c:=c) (by simp;exact⟨h2,h3⟩) ?_ hQ
 rw [gH,h1]
 simpa [S] using hv
end Ev
end
section
namespace Ev
variable{B:CA}{prog:pA}{w:eA}{A:xA}{F:cA->Prop}{s:iA}{as:List cA}{st:St}
theorem Ro(n:Nat)(d:Int):∀ v:V,(DH n d v).elim True fun _=>v = .none\/∃ i,v = .int i:=by
 intro v
 rcases v with ⟨⟩<;>first|exact True.intro|exact zB (.inl rfl)|exact zB (.inr ⟨_,rfl⟩)
theorem rO{v:V}{x:dA}{n:Nat}{d:Int}{k:Nat}(r:kA B s.heap as F v x)(h:DH n d v=some k):∃ o:Option Int,IsPart x o/\k=o.elim d.toNat (clipAt n):=by
 rcases AC (o:=DH n d v) (G:=v = .none\/∃ i,v = .int i) (Ro n d v) h with rfl|⟨i,rfl⟩
 ·obtain rfl:=vM r
  obtain rfl:=Option.some.inj h
  exact⟨none,.none,rfl⟩
 ·obtain⟨t,rfl⟩:=DC r
  obtain rfl:=Option.some.inj h
  refine⟨some i,.int i t,?_⟩
  have:=clipAt_cast n i
  show _=clipAt n i
  split<;>rename_i hi
  ·rw [if_pos hi] at this;exact Va this hi
  ·rw [if_neg hi] at this;exact Wa this hi
theorem F3{α:Type}(l:List α)(x y:Nat):(l.drop x).take (y - x)=(l.take y).drop x:=by
 rw [List.drop_take]
end Ev
namespace Ev
variable{B:CA}{prog:pA}{w:eA}{A:xA}{F:cA->Prop}{s:iA}{as:List cA}{st:St}
theorem vA.drop{h:Heap}{vs:List V}{xs:List dA}(k:Nat)(r:vA B h as F vs xs):vA B h as F (vs.drop k) (xs.drop k):=by
 refine r.ind (P:=fun vs xs=>∀ k,vA B h as F (vs.drop k) (xs.drop k)) (fun k=>?_) (fun a r ih k=>?_) k
 ·rw [QO,QO];exact .nil
 ·rcases k with _|k
  ·exact .cons a r
  ·exact ih k
theorem vA.take{h:Heap}{vs:List V}{xs:List dA}(k:Nat)(r:vA B h as F vs xs):vA B h as F (vs.take k) (xs.take k):=by
 refine r.ind (P:=fun vs xs=>∀ k,vA B h as F (vs.take k) (xs.take k)) (fun k=>?_) (fun a r ih k=>?_) k
 ·rw [List.take_nil,List.take_nil];exact .nil
 ·rcases k with _|k
  ·exact .nil
  ·exact .cons a (ih k)
theorem ri{l sl:cA}{vs us:List V}{xs:List dA}{a b:V}{va vb:dA}(hl:s.heap.IsList l xs.toArray)(rs:vA B s.heap as F vs xs)(hs:s.heap.IsSliceOf sl va vb .none)
  (ra:kA B s.heap as F a va) (rb:kA B s.heap as F b vb) (hc:gC vs a b=some us)
  {Q:dA->iA->Prop}{E:dA->iA->Prop} (hQ:∀ ys,vA B s.heap as F us ys->Q (.ref s.heap.objs.size) { s with heap:=s.heap.push { cls:=.type "list",data:=.seq ys.toArray } }) :
  oA (model prog w) A (getItem (.ref l) (.ref sl)) Q E s:=by
 unfold gC at hc
 split at hc
 ·exact wA hc
 rename_i hcap
 rcases h1:DH vs.length 0 a with _|x
 ·rw [h1] at hc;exact wA hc
 ·rcases h2:DH vs.length vs.length b with _|y
  ·rw [h1,h2] at hc;exact wA hc
  ·rw [h1,h2] at hc
   cases hc
   obtain⟨o1,p1,e1⟩:=rO ra h1
   obtain⟨o2,p2,e2⟩:=rO rb h2
   refine wpAny_getItem_list_slice hl hs p1 p2 .none (by simp) ?_ (by simp;exact rs.length▸mG (CE.mp hcap))
   rw [slicePick_plain]
   have hn:xs.toArray.size=vs.length:=by simp [rs.length]
   rw [hn]
   have e1':o1.elim 0 (clipAt vs.length)=x:=by rcases o1 with ⟨⟩<;>simpa using e1.symm
   have e2':o2.elim vs.length (clipAt vs.length)=y:=by rcases o2 with ⟨⟩<;>simpa using e2.symm
   rw [e1',e2']
   simp only [F3]
   exact hQ _ (vA.drop x (vA.take y rs))
end Ev
namespace Ev
variable{B:CA}{prog:pA}{w:eA}{A:xA}{F:cA->Prop}{s:iA}{as:List cA}{st:St}
theorem vA.reverse{h:Heap}{vs:List V}{xs:List dA}(r:vA B h as F vs xs):vA B h as F vs.reverse xs.reverse:=by
 refine r.ind (P:=fun vs xs=>vA B h as F vs.reverse xs.reverse) .nil fun a _ ih=>?_
 rw [List.reverse_cons,List.reverse_cons]
 exact ih.app (.cons a .nil)
theorem qi{l sl:cA}{vs:List V}{xs:List dA}{t:Tok}(hl:s.heap.IsList l xs.toArray)(rs:vA B s.heap as F vs xs)(hs:s.heap.IsSliceOf sl .none .none (.int (-1) t))(hcap:vs.length<=cap)
  {Q:dA->iA->Prop}{E:dA->iA->Prop} (hQ:∀ ys,vA B s.heap as F vs.reverse ys->Q (.ref s.heap.objs.size) { s with heap:=s.heap.push { cls:=.type "list",data:=.seq ys.toArray } }) :
  oA (model prog w) A (getItem (.ref l) (.ref sl)) Q E s:=by
 refine wpAny_getItem_list_slice hl hs .none .none (.int _ _) (by simp) ?_ (by simp;exact rs.length▸mG hcap)
 rw [krv_pick]
 exact hQ _ rs.reverse
end Ev
end
section
namespace Ev
theorem ur(l:List Nat)(lo hi:Option Int) :
  ((Builtin.Str.strSliceIndices lo hi 1 l.length).filterMap ((S l).cps[·]?))=(l.take (hi.elim l.length (clipAt l.length))).drop (lo.elim 0 (clipAt l.length)):=by
 have e:Builtin.Str.strSliceIndices lo hi 1 l.length=sliceRange ((lo.elim 0 (clipAt l.length):Nat):Int) ((hi.elim l.length (clipAt l.length):Nat):Int) 1:=by
  rcases lo with ⟨⟩<;>rcases hi with ⟨⟩<;>simp [Builtin.Str.strSliceIndices,clipAt_cast]
 rw [e,sliceRange_one,pick_run,<- F3]
 simp [S]
end Ev
namespace Ev
variable{B:CA}{prog:pA}{w:eA}{A:xA}{F:cA->Prop}{s:iA}{as:List cA}{st:St}
theorem A3{v:V}{x:dA}{n:Nat}{d:Int}{k:Nat}(r:kA B s.heap as F v x)(h:DH n d v=some k):∃ o:Option (Int×Tok),x=partValue o/\k=(o.map (·.1)).elim d.toNat (clipAt n):=by
 obtain⟨o,p,e⟩:=rO r h
 cases p with
 | none=>exact⟨none,rfl,e⟩
 | int i t=>exact⟨some (i,t),rfl,e⟩
theorem vr{sl:cA}{l us:List Nat}{t:Tok}{a b:V}{va vb:dA}{o:Obj}(ho:s.heap.get? sl=some o)(hoc:o.cls = .type "slice")(hod:o.data = .fields #[va,vb,.none])
  (ra:kA B s.heap as F a va) (rb:kA B s.heap as F b vb) (hc:gC l a b=some us)
  {Q:dA->iA->Prop}{E:dA->iA->Prop} (hQ:∀ t' tk,s.toks<=tk->Q (.str (S us) t') { s with toks:=tk }) :
  oA (model prog w) A (getItem (.str (S l) t) (.ref sl)) Q E s:=by
 unfold gC at hc
 split at hc
 ·exact wA hc
 rename_i hcap
 rcases h1:DH l.length 0 a with _|x
 ·rw [h1] at hc;exact wA hc
 ·rcases h2:DH l.length l.length b with _|y
  ·rw [h1,h2] at hc;exact wA hc
  ·rw [h1,h2] at hc
   cases hc
   obtain⟨o1,rfl,e1⟩:=A3 ra h1
   obtain⟨o2,rfl,e2⟩:=A3 rb h2
   refine wpAny_getItem_str_slice (l:=o1) (u:=o2) (st:=none) ⟨o,ho,hoc,hod⟩ rfl ?_
   have e1':(o1.map (·.1)).elim 0 (clipAt l.length)=x:=by rcases o1 with ⟨⟩<;>simpa using e1.symm
   have e2':(o2.map (·.1)).elim l.length (clipAt l.length)=y:=by rcases o2 with ⟨⟩<;>simpa using e2.symm
   have hp:=ur l (o1.map (·.1)) (o2.map (·.1))
   rw [e1',e2'] at hp
   unfold sliceMade slicePicked
   rw [gH]
   have hlen:∀ o1 o2:Option Int,((Builtin.Str.strSliceIndices o1 o2 1 l.length).filterMap ((S l).cps[·]?)).length=(Builtin.Str.strSliceIndices o1 o2 1 l.length).length:=by
    intro o1 o2
    have e:Builtin.Str.strSliceIndices o1 o2 1 l.length=sliceRange ((o1.elim 0 (clipAt l.length):Nat):Int) ((o2.elim l.length (clipAt l.length):Nat):Int) 1:=by
     rcases o1 with ⟨⟩<;>rcases o2 with ⟨⟩<;>simp [Builtin.Str.strSliceIndices,clipAt_cast]
    have hb:o2.elim l.length (clipAt l.length)<=l.length:=by
     rcases o2 with _|i
     ·exact sA _
     ·have:=clipAt_cast l.length i;refine CD.mp ?_;rw [show (((some i).elim l.length (clipAt l.length):Nat):Int)=_ from this];split<;>exact Int.max_le.mpr ⟨vB _,Int.min_le_right _ _⟩
    rw [e,sliceRange_one,pick_run]
    simp [S]
    exact wR (Nat.sub_le_sub_right hb _)
   simp only [show ((none:Option (Int×Tok)).map (·.1)).getD 1=(1:Int) from rfl]
   by_cases hq:(((1:Int)==1&&(Builtin.Str.strSliceIndices (o1.map (·.1)) (o2.map (·.1)) 1 l.length).length==l.length)=true)
   ·rw [if_pos hq]
    have hl:((l.take y).drop x).length=l.length:=by rw [<-hp,hlen];simpa using hq
    have:(l.take y).drop x=l:=by
     have hx:x=0\/l=[]:=by
      rw [RM,RO] at hl
      rcases l with _|⟨c,r⟩
      ·exact Or.inr rfl
      ·left;simp at hl;exact yr hl
     rcases hx with rfl|rfl
     ·rw [cL] at hl ⊢
      exact List.take_of_length_le (by rw [RO] at hl;exact jA (FB hl.symm) (Nat.min_le_left _ _))
     ·simp
    rw [this] at hQ
    exact hQ t s.toks (sA _)
   ·rw [if_neg hq]
    show _/\_
    refine⟨?_,?_⟩
    ·show (List.toArray _).size<=_
     rw [hp]
     have:=mG (CE.mp hcap)
     simp;exact jA (GJ _ _) (jA this (BB _ _))
    ·rw [hp];exact hQ _ _ (CB _)
end Ev
end
section
namespace Ev
variable{B:CA}{prog:pA}{w:eA}{A:xA}{F:cA->Prop}{s:iA}{as:List cA}{st:St}
theorem eH.get{h:Heap}{a:cA}{o:O}(r:eH (B:=B) h as F a o):∃ x,h.get? a=some x:=by
 cases r with
 | list hp _ _=>obtain⟨o,n,hn,_⟩:=hp;exact⟨_,hn⟩
theorem Inv.live{h:Heap}(i:Inv B h as F st){a:cA}(ha:a∈as):∃ x,h.get? a=some x:=by
 obtain⟨k,hk,e⟩:=List.getElem_of_mem ha
 have hk':k<st.length:=i.len▸hk
 exact (i.at_ k a st[k] (by rw [sD hk,e]) (by rw [sD hk'])).get
theorem RC(h:Heap):h.get? h.objs.size=none:=by
 rcases e:h.get? h.objs.size with _|o
 ·rfl
 ·exact absurd (JF e) (yR _)
theorem Inv.fresh{h:Heap}(i:Inv B h as F st){a:cA}(ha:h.get? a=none):a∉as/\¬ F a :=
 ⟨fun hm=>(by obtain⟨x,hx⟩:=i.live hm;rw [ha] at hx;cases hx),fun hF=>(by obtain⟨x,hx⟩:=i.liveF _ hF;rw [ha] at hx;exact wA hx)⟩
theorem eH.mono{h h':Heap}{as as':List cA}{F F':cA->Prop}{a:cA}{o:O}(hp:as <+: as')(hk:∀ a o,h.get? a=some o->a∉as->¬ F a->h'.get? a=some o/\a∉as'/\¬ F' a)
  (hs:∀ x,h.get? a=some x->h'.get? a=some x) (r:eH (B:=B) h as F a o):eH (B:=B) h' as' F' a o:=by
 cases r with
 | list hp' rs hc=>obtain⟨o,n,hn,r⟩:=hp';exact .list ⟨o,n,hs _ hn,r⟩ (rs.mono hp hk) hc
theorem Inv.keeps{h h':Heap}(i:Inv B h as F st)(hk:∀ a o,h.get? a=some o->h'.get? a=some o):Inv B h' as F st where
 len:=i.len
 nodup:=i.nodup
 at_:=fun k a o e e'=>(i.at_ k a o e e').mono (wB _) (fun a o h1 h2 h3=>⟨hk a o h1,h2,h3⟩) (hk a)
 apart:=i.apart
 liveF:=fun a ha=>let ⟨o,ho⟩:=i.liveF a ha;⟨o,hk a o ho⟩
 base:=fun a o e=>let b:=i.base a o e;⟨hk _ _ b.1,b.2⟩
theorem qA.keeps{G:cA->Prop}{h h':Heap}(hk:∀ a o,h.get? a=some o->h'.get? a=some o):qA G h as h' as :=
 ⟨wB _,fun _ x=>.inl x,fun a o e _ _=>hk a o e,fun a o e=>⟨o,hk a o e⟩⟩
theorem qA.weak{G G':cA->Prop}{h h':Heap}{as':List cA}(x:qA G h as h' as')(hG:∀ a,G a->G' a):qA G' h as h' as' :=
 ⟨x.pre,x.new,fun a o e ha hg=>x.keep a o e ha fun g=>hg (hG a g),x.live⟩
theorem UC(h:Heap)(o:Obj):∀ a x,h.get? a=some x->(h.push o).get? a=some x:=fun _ _ e=>Heap.get?_push_of_some _ e
theorem Inv.push{h:Heap}(i:Inv B h as F st)(o:Obj):Inv B (h.push o) as F st:=i.keeps (UC h o)
theorem qA.push{G:cA->Prop}(h:Heap)(o:Obj):qA G h as (h.push o) as:=.keeps (UC h o)
theorem kA.keeps{h h':Heap}(hk:∀ a o,h.get? a=some o->h'.get? a=some o){v x}(r:kA B h as F v x):kA B h' as F v x :=
 r.mono (wB _) fun a o h1 h2 h3=>⟨hk a o h1,h2,h3⟩
theorem vA.keeps{h h':Heap}(hk:∀ a o,h.get? a=some o->h'.get? a=some o){v x}(r:vA B h as F v x):vA B h' as F v x :=
 r.mono (wB _) fun a o h1 h2 h3=>⟨hk a o h1,h2,h3⟩
theorem VU{h:Heap}(i:Inv B h as F st){vs:List V}{xs:List dA}(rs:vA B h as F vs xs) :
  kA B (h.push { cls:=.type "list",data:=.seq xs.toArray }) as F (.lst vs) (.ref h.objs.size) :=
 let f:=i.fresh (RC h)
 .lst ⟨_,_,vD _ rfl,rfl,rfl,rfl⟩ f.1 f.2 (rs.keeps (UC _ _))
theorem Gp{h:Heap}(i:Inv B h as F st){vs:List V}{xs:List dA}(rs:vA B h as F vs xs) :
  kA B (h.push { cls:=.type "tuple",data:=.seq xs.toArray }) as F (.tup vs) (.ref h.objs.size) :=
 let f:=i.fresh (RC h)
 .tup ⟨_,vD _ rfl,rfl,_,rfl⟩ f.1 f.2 (rs.keeps (UC _ _))
theorem qA.grow{G:cA->Prop}(h:Heap)(o:Obj):qA G h as (h.push o) (as++[h.objs.size]) :=
 ⟨⟨_,rfl⟩,fun a ha=>(GB.mp ha).imp id fun e=>by rw [BA.mp e];exact RC h,fun a x e _ _=>UC h o a x e,fun a x e=>⟨x,UC h o a x e⟩⟩
theorem aT{h:Heap}(o:Obj):∀ a x,h.get? a=some x->a∉as->¬ F a->(h.push o).get? a=some x/\a∉as++[h.objs.size]/\¬ F a:=fun a x e ha hF =>
 ⟨UC h o a x e,fun hm=>(GB.mp hm).elim ha fun q=>(by rw [BA.mp q,RC] at e;exact wA e),hF⟩
theorem Inv.grow{h:Heap}(i:Inv B h as F st){o:Obj}{v:O}(r:eH (B:=B) (h.push o) (as++[h.objs.size]) F h.objs.size v):Inv B (h.push o) (as++[h.objs.size]) F (st++[v]) where
 len:=by simp [i.len]
 nodup:=iL.mpr ⟨i.nodup,by simp,fun a ha b hb e=>by
  rw [BA.mp hb] at e;exact (i.fresh (RC h)).1 (e▸ha)⟩
 at_:=fun k a x e e'=>by
  by_cases hk:k<as.length
  ·rw [OC hk] at e
   rw [OC (i.len▸hk)] at e'
   exact (i.at_ k a x e e').mono ⟨_,rfl⟩ (aT o) (UC h o a)
  ·have hk':¬ k<st.length:=i.len▸hk
   rw [GG (PO hk)] at e
   rw [GG (PO hk')] at e'
   have h0:k - as.length=0:=by
    have:=(sF.mp e).1
    simpa using this
   have h1:k - st.length=0:=by rw [<-i.len];exact h0
   rw [h0] at e;rw [h1] at e'
   simp at e e'
   subst e;subst e'
   exact r
 apart:=fun a ha hF=>(GB.mp ha).elim (fun h=>i.apart a h hF) fun h=>(i.fresh (RC _)).2 (by rw [<-BA.mp h];exact hF)
 liveF:=fun a ha=>let ⟨x,hx⟩:=i.liveF a ha;⟨x,UC h o a x hx⟩
 base:=fun a x e=>let b:=i.base a x e;aT o a x b.1 b.2.1 b.2.2
theorem Inv.growList{h:Heap}(i:Inv B h as F st){vs:List V}{xs:List dA}(rs:vA B h as F vs xs)(hc:vs.length<=cap) :
  Inv B (h.push { cls:=.type "list",data:=.seq xs.toArray }) (as++[h.objs.size]) F (st++[.list vs]) :=
 i.grow (.list ⟨_,_,vD _ rfl,rfl,rfl,rfl⟩ (rs.mono ⟨_,rfl⟩ (aT _)) hc)
theorem y2:∀ {l:List cA}{i j:Nat}{a:cA},l.Nodup->l[i]? = some a->l[j]? = some a->i=j
 | [],_,_,_,_,h,_=>by simp at h
 | x::r,0,0,_,_,_,_=>rfl
 | x::r,0,j+1,a,hn,h,h'=>by
  simp at h h'
  exact absurd (h▸DD h') (zH.mp hn).1
 | x::r,i+1,0,a,hn,h,h'=>by
  simp at h h'
  exact absurd (h'▸DD h) (zH.mp hn).1
 | x::r,i+1,j+1,a,hn,h,h'=>by
  simp at h h'
  exact congrArg (· + 1) (y2 (zH.mp hn).2 h h')
theorem Inv.atS{h h':Heap}{a₀:cA}{r:Nat}{o₀:O}(i:Inv B h as F st)(hr:as[r]? = some a₀)(hk:∀ a o,a≠a₀->h.get? a=some o->h'.get? a=some o)
  (ho:eH (B:=B) h' as F a₀ o₀):Inv B h' as F (st.set r o₀) where
 len:=by simp [i.len]
 nodup:=i.nodup
 at_:=fun k a o e e'=>by
  by_cases q:k=r
  ·subst q
   rw [hr] at e;cases e
   rw [List.getElem?_set_self' ] at e'
   rcases hst:st[k]? with _|z
   ·rw [hst] at e';exact wA e'
   ·rw [hst] at e';cases e';exact ho
  ·rw [jE (Ne.symm q)] at e'
   have hne:a≠a₀:=fun x=>q (by
    subst x
    exact y2 i.nodup e hr)
   exact (i.at_ k a o e e').mono (wB _) (fun b x h1 h2 h3=>⟨hk b x (fun z=>h2 (z▸DD hr)) h1,h2,h3⟩) (fun x hx=>hk a x hne hx)
 apart:=i.apart
 liveF:=fun a ha=>let ⟨o,ho⟩:=i.liveF a ha;⟨o,hk a o (fun q=>i.apart a₀ (DD hr) (q▸ha)) ho⟩
 base:=fun a o e=>let b:=i.base a o e;⟨hk _ _ (fun q=>b.2.1 (q▸DD hr)) b.1,b.2⟩
theorem qA.atS{G:cA->Prop}{h h':Heap}{a₀:cA}{r:Nat}(hr:as[r]? = some a₀)(hk:∀ a o,a≠a₀->h.get? a=some o->h'.get? a=some o)(hl:∃ o,h'.get? a₀=some o):qA G h as h' as :=
 ⟨wB _,fun _ x=>.inl x,fun a o e ha _=>hk a o (fun q=>ha (q▸DD hr)) e,fun a o e=>by
  by_cases q:a=a₀
  ·exact q▸hl
  ·exact⟨o,hk a o q e⟩⟩
theorem vA.atS{h h':Heap}{a₀:cA}{r:Nat}(hr:as[r]? = some a₀)(hk:∀ a o,a≠a₀->h.get? a=some o->h'.get? a=some o){vs xs}(rs:vA B h as F vs xs):vA B h' as F vs xs :=
 rs.mono (wB _) fun a o h1 h2 h3=>⟨hk a o (fun z=>h2 (z▸DD hr)) h1,h2,h3⟩
theorem kA.atS{h h':Heap}{a₀:cA}{r:Nat}(hr:as[r]? = some a₀)(hk:∀ a o,a≠a₀->h.get? a=some o->h'.get? a=some o){v x}(rs:kA B h as F v x):kA B h' as F v x :=
 rs.mono (wB _) fun a o h1 h2 h3=>⟨hk a o (fun z=>h2 (z▸DD hr)) h1,h2,h3⟩
end Ev
end
section
namespace Ev
structure mB(A:xA)(n:Nat):Prop where
 hh:A.handled=none
 depth:A.depth+3*n<recursionLimit
 units:A.units+10*n+40<cLine
variable{B:CA}{prog:pA}{w:eA}{A:xA}{F:cA->Prop}{s:iA}{as:List cA}{st:St}{Γ:Ctx}{env:Env}{ρ:Fr}
noncomputable def iP{α β:Type}(B:CA)(prog:pA)(w:eA)(A:xA)(F:cA->Prop)(env:Env)(ρ:Fr)(R:Heap->List cA->α->β->Prop)(t:Sem β)(m:mA α):Prop :=
 ∀ s as st,DA B s.heap as F env ρ->Inv B s.heap as F st->vF B prog w A F no R t m s as st
abbrev VA(B:CA)(prog:pA)(w:eA)(A:xA)(F:cA->Prop)(env:Env)(ρ:Fr)(t:Sem dA)(m:mA V):Prop:=iP B prog w A F env ρ (RV B F) t m
abbrev RB:Heap->List cA->Bool->Bool->Prop:=fun _ _ a b=>a=b
theorem DA.on{h h':Heap}{as as':List cA}(f:DA B h as F env ρ)(i:Inv B h as F st)(x:qA no h as h' as'):DA B h' as' F env ρ:=f.ext (fun a ha=>i.apart a ha) x
theorem qA.repv{h h':Heap}{as as':List cA}(x:qA no h as h' as'){v:V}{y:dA}(r:kA B h as F v y):kA B h' as' F v y:=x.rep (fun _ f=>f.elim) r
theorem qA.reps{h h':Heap}{as as':List cA}(x:qA no h as h' as'){v:List V}{y:List dA}(r:vA B h as F v y):vA B h' as' F v y:=r.ind .nil fun a _ ih=>.cons (x.repv a) ih
theorem PE{α:Type}{f:St->Option α}{st st':St}{v:α}(h:rd f st=some (v,st')):f st=some v/\st'=st:=by
 unfold rd at h
 rcases hf:f st with _|a
 ·rw [hf] at h;exact wA h
 ·rw [hf] at h;cases h;exact⟨rfl,rfl⟩
theorem eB{α:Type}{a v:α}{st st':St}(h:(pure a:mA α) st=some (v,st')):a=v/\st'=st:=by
 cases h;exact⟨rfl,rfl⟩
theorem mQ{α:Type}{c:Prop}[Decidable c]{x:mA α}{st st':St}{v:α}(h:(if c then x else yA) st=some (v,st')):c/\x st=some (v,st'):=by
 by_cases q:c
 ·exact⟨q,(congrFun (if_pos q) st).symm.trans h⟩
 ·exact absurd ((congrFun (if_neg q) st).symm.trans h) nofun
theorem YC{α:Type}{v:α}{st st':St}(h:(yA:mA α) st=some (v,st')):False:=by exact wA h
theorem si(st:St):∀ a:V,(PG st a).elim True fun _=>(∃ vs,a = .lst vs)\/∃ j,a = .ref j:=by
 intro a
 rcases a with ⟨⟩<;>first|exact True.intro|exact zB (.inl ⟨_,rfl⟩)|exact zB (.inr ⟨_,rfl⟩)
theorem VL{h:Heap}(i:Inv B h as F st){x:dA}{vs:List V}{a:V}(ra:kA B h as F a x)(hv:PG st a=some vs):∃ ad xs,x = .ref ad/\h.IsList ad xs.toArray/\vA B h as F vs xs:=by
 rcases AC (si st a) hv with ⟨_,rfl⟩|⟨j,rfl⟩
 ·obtain rfl:=Option.some.inj hv
  obtain⟨xs,a,rfl,ht,_,_,rs⟩:=aG ra
  exact⟨_,_,rfl,ht.isList,rs⟩
 ·obtain⟨a,rfl,e⟩:=AG ra
  refine GO (o:=st[j]?) (K:=some) hv fun ws ho hv=>?_
  obtain⟨xs,hp,rs,_⟩:=(i.at_ j a _ e ho).out
  obtain rfl:=Option.some.inj hv
  exact⟨_,_,rfl,hp.isList,rs⟩
theorem fj{vs:List V}{v:V}(h:NN vs=some v):v = .lst vs/\vs.length<=cap:=by
 unfold NN at h;split at h
 ·rename_i hc;cases h;exact⟨rfl,hc⟩
 ·exact wA h
theorem li{l b:cA}{vs ws:List dA}{Q:dA->iA->Prop}{E:dA->iA->Prop}(hl:s.heap.IsList l vs.toArray)(hb:s.heap.IsList b ws.toArray)
  (h:Q (.ref s.heap.objs.size) { s with heap:=s.heap.push { cls:=.type "list",data:=.seq (vs++ws).toArray } }) (hsz:vs.length+ws.length<=sizeLine) :
  oA (model prog w) A (binaryOp .Add (.ref l) (.ref b)) Q E s:=by
 obtain⟨⟨cls,dd,data,sl⟩,ho,hc,n,hd⟩:=id hl
 obtain⟨⟨cls2,dd2,data2,sl2⟩,ho2,hc2,n2,hd2⟩:=id hb
 simp only at hc hd hc2 hd2
 subst hc hd hc2 hd2
 have e:vs.toArray++ws.toArray=(vs++ws).toArray:=by simp
 refine concat_meets ⟨_,ho,rfl⟩ ⟨_,ho2,rfl⟩ noFill_list_add seq_list_add PySem.F.slot_list_add PySem.F.entry_list_add (PySem.F.args_list_add_2 _ _) (list_addW l b vs.toArray ws.toArray n n2 dd dd2 sl sl2 (by simpa using hsz)) ⟨ho,ho2,?_⟩
 rw [e]
 exact h
structure ED(B:CA)(prog:pA)(w:eA):Prop where
 iff:∀ o kvs,B.dk o kvs ↔ o.IsDictOf (strKind prog w) kvs
 low:∃ a o,1<a/\B.objs.lookup a=some o
theorem ED.of{D:ED B prog w}{h:Heap}{a:cA}{o:Obj}{kvs:List (Str×dA)}(ho:h.get? a=some o)(hd:B.dk o kvs):h.DictOf (strKind prog w) a kvs:=zR.mpr ⟨o,ho,(D.iff o kvs).mp hd⟩
theorem kP{a b:List Nat}(h:S a=S b):a=b:=by
 have:=congrArg (fun x:Str=>x.cps.toList) h
 simpa [S] using this
theorem Rb{h:Heap}{l:List Nat}{v:V}:∀ {ks:List (List Nat)}{vs:List V}{kvs:List (Str×dA)},kvs.map (·.1)=ks.map S->vA B h as F vs (kvs.map (·.2))->EH ks vs l=some v->∃ y,valueAt kvs (S l)=some y/\kA B h as F v y:=by
 intro ks
 induction ks with
 | nil=>intro vs kvs _ _ hv;rcases vs with ⟨⟩<;>exact wA hv
 | cons k ks ih =>
  intro vs kvs e r hv
  rcases vs with _|⟨u,vs⟩
  ·exact wA hv
  rcases kvs with _|⟨p,kvs⟩
  ·contradiction
  obtain⟨x,y⟩:=p
  obtain⟨y',ys,e2,r,rs⟩:=zM r
  cases e2
  have hv:(if k=l then some u else EH ks vs l)=some v:=hv
  injection e with e1 e2
  by_cases q:k=l
  ·rw [if_pos q] at hv
   cases hv
   have e1:x=S k:=e1
   exact⟨y,by simp [valueAt,e1,q],r⟩
  ·rw [if_neg q] at hv
   obtain⟨z,hz,rz⟩:=ih e2 rs hv
   refine⟨z,?_,rz⟩
   have hne:¬ x=S l:=fun z=>q (kP (e1.symm.trans z))
   unfold valueAt at hz ⊢
   rw [SV,decide_eq_false hne]
   exact hz
theorem oi{l:cA}{vs:List dA}{k:Int}{u:Tok}{Q:dA->iA->Prop}{E:dA->iA->Prop}(hl:s.heap.IsList l vs.toArray)(h0:0<=k)(h1:k<=64)(h2:vs.length<=64)
  (h:Q (.ref s.heap.objs.size) { s with heap:=s.heap.push { cls:=.type "list",data:=.seq (NC k.toNat vs).flatten.toArray } }) :
  oA (model prog w) A (binaryOp .Mult (.ref l) (.int k u)) Q E s:=by
 obtain⟨⟨cls,dd,data,sl⟩,ho,hc,n,hd⟩:=id hl
 simp only at hc hd
 subst hc hd
 have hk:k.toNat<=64:=Int.toNat_le.mpr h1
 have hz:vs.toArray.size*k.toNat<=64*64:=Nat.mul_le_mul (by simpa using h2) hk
 have e:=listMul_foldl_if vs.toArray k.toNat
 have hf:Builtin.List.listTooLong (vs.toArray.size*k.toNat)=false:=by unfold Builtin.List.listTooLong sizeLine;exact decide_eq_false (CE.mpr (jA hz (by decide)))
 refine wpAny_binaryOp_repeat_ref (T:="list") (U:="int") (by decide) ⟨_,ho,rfl⟩ (fun s'=>typeIs_int s' k u) noFill_list_mul PySem.F.fills_int_mul PySem.F.slot_int_rmul repeat_list PySem.F.slot_int_index.lookup
  (call_meets PySem.F.slot_int_rmul (typeIs_int s k u) PySem.F.entry_int_rmul (PySem.F.args_int_rmul_2 _ _) (lm_int_rmul_list_any k u l vs.toArray n dd sl)
   ⟨ho,rfl,⟨_,ho,rfl⟩,call_meets PySem.F.slot_list_mul ⟨_,ho,rfl⟩ PySem.F.entry_list_mul (PySem.F.args_list_mul_2 _ _)
    (lm_list_mul_any l vs.toArray n dd sl k u (by simp [Builtin.List.listFitsIndex];lia) (by lia) (by rw [hf];decide))
    ⟨ho,?_⟩⟩)
 rw [e]
 exact h
theorem vA.rep{h:Heap}{vs:List V}{xs:List dA}(r:vA B h as F vs xs):∀ k:Nat,vA B h as F (NC k vs).flatten (NC k xs).flatten
 | 0=>.nil
 | k+1=>by
  rw [AR,AR,NO,NO]
  exact r.app (r.rep k)
theorem yX{op:dC}{a b v:V}{x y:dA}(i:Inv B s.heap as F st)(ra:kA B s.heap as F a x)(rb:kA B s.heap as F b y)(hv:GD st op a b=some v)
  {Q:dA->iA->Prop}{E:dA->iA->Prop} (hQ:∀ z h' tk,kA B h' as F v z->Inv B h' as F st->qA no s.heap as h' as->s.toks<=tk->Q z { s with heap:=h',toks:=tk }):oA (model prog w) A (binaryOp op x y) Q E s:=by
 unfold GD at hv
 rcases hb:fN op a b with _|v'
 ·rw [hb] at hv
  rcases op with ⟨⟩<;>first|exact wA hv|exact VB hv|exact VB hv.symm|(cases hv;done)|skip
  ·refine WB hv fun vs h1 hv=>?_
   refine WB hv fun ws h2 hv=>?_
   obtain⟨rfl,hc⟩:=fj hv
   obtain⟨l,xs,rfl,hl,rs⟩:=VL i ra h1
   obtain⟨l2,ys,rfl,hl2,rs2⟩:=VL i rb h2
   refine li hl hl2 ?_ (by rw [<-rs.length,<- rs2.length,<- QA];exact mG hc)
   exact hQ _ _ s.toks (VU i (rs.app rs2)) (i.push _) (qA.push _ _) (sA _)
  ·refine WB hv fun n h0 hw=>?_
   refine WB hw fun vs h1 hz=>?_
   obtain rfl:=xE h0
   obtain⟨t,rfl⟩:=DC rb
   obtain⟨l,xs,rfl,hl,rs⟩:=VL i ra h1
   by_cases hc:0<=n/\n<=64/\vs.length<=64
   ·rw [if_pos hc] at hz
    cases hz
    refine oi hl hc.1 hc.2.1 (by rw [<-rs.length];exact hc.2.2) ?_
    exact hQ _ _ s.toks (VU i (rs.rep _)) (i.push _) (qA.push _ _) (sA _)
   ·rw [if_neg hc] at hz
    exact wA hz
 ·rw [hb] at hv
  obtain rfl:=Option.some.inj hv
  exact X8 ra rb hb fun z tk ht hr=>hQ z s.heap tk (hr _ _ _) i (qA.refl _ _ _) ht
theorem Ls{a v:V}{x:dA}(i:Inv B s.heap as F st)(ra:kA B s.heap as F a x){E:dA->iA->Prop}:∀ {op:UnaryOp}{Q:dA->iA->Prop},jR st op a=some v ->
  (∀ z tk,kA B s.heap as F v z->s.toks<=tk->Q z { s with toks:=tk })->oA (model prog w) A (unaryOp op x) Q E s
 | .USub,_,hv,hQ=>by
  obtain⟨n,h1,rfl⟩:=MC.mp hv
  obtain rfl:=xE h1
  obtain⟨t,rfl⟩:=DC ra
  exact PyProof.Rows.neg_int (hQ _ _ (.int _ _) (CB _))
 | .Not,_,hv,hQ=>by
  obtain⟨t,h1,rfl⟩:=MC.mp hv
  exact PyProof.Rows.not_of (wV i ra h1 fun tk h=>hQ _ tk (.bool _) h)
 | .Invert,_,hv,_=>by exact wA hv
 | .UAdd,_,hv,_=>by exact wA hv
theorem n7{a b:Int}{t u:Tok}{v:V}{E:dA->iA->Prop}:∀ {op:dC}{Q:dA->iA->Prop},oX op a b=some v->(∀ i,v = .int i->Q (.int i s.toks) { s with toks:=s.toks+1 })->oA (model prog w) A (inplaceOp op (.int a t) (.int b u)) Q E s:=by
 intro op Q hv hq
 cases op with
 | Add=>exact PyProof.Rows.iadd_int (hq _ (Option.some.inj hv).symm)
 | BitOr=>exact PyProof.Rows.ior_int (hq _ (Option.some.inj hv).symm)
 | BitAnd=>exact PyProof.Rows.iand_int (hq _ (Option.some.inj hv).symm)
 | _=>exact wA hv
theorem pX{op:dC}{a b v:V}{x y:dA}(ra:kA B s.heap as F a x)(rb:kA B s.heap as F b y)(hv:hH op a b=some v)
  {Q:dA->iA->Prop}{E:dA->iA->Prop} (hQ:∀ z tk,s.toks<=tk->(∀ h as F,kA B h as F v z)->Q z { s with toks:=tk }):oA (model prog w) A (inplaceOp op x y) Q E s:=by
 rcases E2 hv with ⟨i,j,rfl,rfl,h⟩|h
 ·obtain⟨t,rfl⟩:=DC ra
  obtain⟨u,rfl⟩:=DC rb
  exact n7 h fun k e=>hQ _ _ (CB _) fun _ _ _=>e ▸ .int k _
 ·obtain⟨l,l',rfl,rfl,rfl,hc,rfl⟩:=bX h
  obtain⟨t,rfl,hl⟩:=pC ra
  obtain⟨u,rfl,hl'⟩:=pC rb
  refine QE (n:=s.toks) (sA _) (PyProof.Rows.iadd_str (fun t' tk htk=>?_) (by rw [gH,gH];exact mG hc))
  rw [DW]
  exact hQ _ _ htk fun _ _ _=>.str _ _ (EW hl hl')
theorem rL(x:Str):S x.cps.toList=x:=by cases x;simp [S]
theorem io{k:Nat}{pos:Pos}{c:Const}:VA B prog w A F env ρ (eval (.Constant c k pos) env) (evalE Γ (.Constant c k pos) ρ):=by
 intro s as st f i v st' hv Q E hQ
 cases c with
 | none =>
  obtain⟨rfl,rfl⟩:=eB hv
  exact fun _ _ _=>hQ _ s.heap as s.toks .none i (qA.refl _ _ _) (sA _)
 | bool b =>
  obtain⟨rfl,rfl⟩:=eB hv
  exact fun _ _ _=>hQ _ s.heap as s.toks (.bool _) i (qA.refl _ _ _) (sA _)
 | int b =>
  obtain⟨rfl,rfl⟩:=eB hv
  exact wpAny_Constant_int (hQ _ s.heap as _ (.int _ _) i (qA.refl _ _ _) (CB _))
 | str x =>
  refine iC hv fun hx hv=>?_
  obtain⟨rfl,rfl⟩:=eB hv
  refine Constant_str ?_
  have hl:∀ c∈x.cps.toList,c<0x110000:=fun c hc=>of_decide_eq_true (TV.mp ((KA _ _).mp hx).1 c (Array.mem_toList_iff.mp hc))
  exact hQ _ s.heap as _ ((rL x) ▸ .str x.cps.toList s.toks hl) i (qA.refl _ _ _) (CB _)
 | _=>exact (YC (st:=st) hv).elim
theorem Yn{l r:Expr}{op:dC}{pos:Pos}(hl:VA B prog w A F env ρ (eval l env) (evalE Γ l ρ))(hr:VA B prog w A F env ρ (eval r env) (evalE Γ r ρ)) :
  VA B prog w A F env ρ (eval (.BinOp l op r pos) env) (evalE Γ (.BinOp l op r pos) ρ):=by
 intro s as st f i v st' hv Q E hQ
 refine EA hv fun a st1 ha hv=>?_
 refine EA hv fun b st2 hb hv=>?_
 obtain⟨hv,rfl⟩:=PE hv
 refine wpAny_BinOp (hl s as st f i a st1 ha _ _ fun x h1 as1 tk1 ra i1 e1 ht1=>?_)
 refine hr _ as1 st1 (f.on i e1) i1 b _ hb _ _ fun y h2 as2 tk2 rb i2 e2 ht2=>?_
 exact yX i2 (e2.repv ra) rb hv fun z h' tk rz i3 e3 ht3=>hQ z h' as2 tk rz i3 ((e1.trans e2).trans e3) (jA ht1 (jA ht2 ht3))
theorem Bo{x:Expr}{op:UnaryOp}{pos:Pos}(hx:VA B prog w A F env ρ (eval x env) (evalE Γ x ρ)):VA B prog w A F env ρ (eval (.UnaryOp op x pos) env) (evalE Γ (.UnaryOp op x pos) ρ):=by
 intro s as st f i v st' hv Q E hQ
 refine EA hv fun a st1 ha hv=>?_
 obtain⟨hv,rfl⟩:=PE hv
 refine wpAny_UnaryOp (hx s as st f i a _ ha _ _ fun x h1 as1 tk1 ra i1 e1 ht1=>?_)
 exact Ls i1 ra hv fun z tk rz ht3=>hQ z h1 as1 tk rz i1 e1 (jA ht1 ht3)
abbrev lD(B:CA)(prog:pA)(w:eA)(A:xA)(F:cA->Prop)(env:Env)(ρ:Fr)(t:Sem Bool)(m:mA Bool):Prop:=iP B prog w A F env ρ RB t m
theorem qo{t b o:Expr}{pos:Pos}(ht:lD B prog w A F env ρ (isTrue t env (eval t env)) (IB Γ t ρ (evalE Γ t ρ)))
  (hb:VA B prog w A F env ρ (eval b env) (evalE Γ b ρ)) (ho:VA B prog w A F env ρ (eval o env) (evalE Γ o ρ)):VA B prog w A F env ρ (eval (.IfExp t b o pos) env) (evalE Γ (.IfExp t b o pos) ρ):=by
 intro s as st f i v st' hv Q E hQ
 refine EA hv fun c st1 hc hv=>?_
 refine wpAny_IfExp (ht s as st f i c st1 hc _ _ fun x h1 as1 tk1 rx i1 e1 ht1=>?_)
 have rx':c=x:=rx
 subst rx'
 rcases c with _|_
 ·exact ho _ as1 st1 (f.on i e1) i1 v st' hv _ _ fun y h2 as2 tk2 ry i2 e2 ht2=>hQ y h2 as2 tk2 ry i2 (e1.trans e2) (jA ht1 ht2)
 ·exact hb _ as1 st1 (f.on i e1) i1 v st' hv _ _ fun y h2 as2 tk2 ry i2 e2 ht2=>hQ y h2 as2 tk2 ry i2 (e1.trans e2) (jA ht1 ht2)
theorem Qn{x:Expr}{pos:Pos}{whole:Sem dA}{m:mA V}(hx:lD B prog w A F env ρ (isTrue x env (eval x env)) (IB Γ x ρ (evalE Γ x ρ))) :
  lD B prog w A F env ρ (isTrue (.UnaryOp .Not x pos) env whole) (IB Γ (.UnaryOp .Not x pos) ρ m):=by
 intro s as st f i v st' hv Q E hQ
 refine EA hv fun c st1 hc hv=>?_
 obtain⟨rfl,rfl⟩:=eB hv
 refine wpAny_isTrue_Not (hx s as st f i c _ hc _ _ fun x h1 as1 tk1 rx i1 e1 ht1=>?_)
 exact hQ _ h1 as1 tk1 (by have rx':c=x:=rx;rw [rx']) i1 e1 ht1
theorem Pn{t b o:Expr}{pos:Pos}{whole:Sem dA}{m:mA V}(ht:lD B prog w A F env ρ (isTrue t env (eval t env)) (IB Γ t ρ (evalE Γ t ρ)))
  (hb:lD B prog w A F env ρ (isTrue b env (eval b env)) (IB Γ b ρ (evalE Γ b ρ))) (ho:lD B prog w A F env ρ (isTrue o env (eval o env)) (IB Γ o ρ (evalE Γ o ρ))) :
  lD B prog w A F env ρ (isTrue (.IfExp t b o pos) env whole) (IB Γ (.IfExp t b o pos) ρ m):=by
 intro s as st f i v st' hv Q E hQ
 refine EA hv fun c st1 hc hv=>?_
 show oA _ _ (PySem.isTrue t env (eval t env)>>=fun c=>if c=true then PySem.isTrue b env (eval b env) else PySem.isTrue o env (eval o env)) Q E s
 refine rA (ht s as st f i c st1 hc _ _ fun x h1 as1 tk1 rx i1 e1 ht1=>?_)
 have rx':c=x:=rx
 subst rx'
 rcases c with _|_
 ·exact ho _ as1 st1 (f.on i e1) i1 v st' hv _ _ fun y h2 as2 tk2 ry i2 e2 ht2=>hQ y h2 as2 tk2 ry i2 (e1.trans e2) (jA ht1 ht2)
 ·exact hb _ as1 st1 (f.on i e1) i1 v st' hv _ _ fun y h2 as2 tk2 ry i2 e2 ht2=>hQ y h2 as2 tk2 ry i2 (e1.trans e2) (jA ht1 ht2)
theorem Sn{whole:Sem dA}{m:mA V}{p:Pos}(hw:VA B prog w A F env ρ whole m) :
  lD B prog w A F env ρ (do let v <- whole;standAt p;holding [v] (truthy v)) (do let v <- m;rd fun st=>oF st v):=by
 intro s as st f i v st' hv Q E hQ
 refine EA hv fun c st1 hc hv=>?_
 obtain⟨hv,rfl⟩:=PE hv
 refine rA (hw s as st f i c _ hc _ _ fun x h1 as1 tk1 rx i1 e1 ht1=>?_)
 refine rA (VD (HF ?_))
 exact wV i1 rx hv fun tk ht2=>hQ v h1 as1 tk rfl i1 e1 (jA ht1 ht2)
end Ev
end
section
namespace Ev
variable{B:CA}{prog:pA}{w:eA}{A:xA}{F:cA->Prop}{s:iA}{as:List cA}{st:St}{Γ:Ctx}{env:Env}{ρ:Fr}
noncomputable def Aq:Expr->Bool | .Set ..=>true|_=>false
theorem sj{op:JG}(e:Expr):behindInMarks op e=false\/∃ es k p,e = .Set es k p :=
 (ZX (b:=Aq e) (by rcases e with ⟨⟩<;>first|exact (Eq.refl false:false=false)|exact⟨_,_,_,rfl⟩)).symm
theorem Cq{es:List Expr}{k:Nat}{p:Pos}:evalE Γ (.Set es k p) ρ=yA:=rfl
theorem kY{ops:List JG}{cs:List Expr}{a:V}{st st':St}{t:Bool}(h:OS Γ cs ops a ρ st=some (t,st')) :
  ∃ e op b st1,cs=[e]/\ops=[op]/\behindInMarks op e=false/\evalE Γ e ρ st=some (b,st1)/\ID Γ.gd st1 op a b=some t/\st'=st1:=by
 rcases cs with _|⟨e,es⟩
 ·exact (YC (st:=st) h).elim
 ·refine iC (st:=st) h fun hc h=>?_
  refine EA h fun b st1 hb h'=>?_
  clear h
  rcases ops with _|⟨op,ops⟩
  ·exact (YC (st:=st1) h').elim
  ·obtain⟨h1,h2⟩:=(KA _ _).mp hc
   obtain rfl:=UV.mp h1
   obtain rfl:=UV.mp h2
   obtain⟨h,rfl⟩:=PE h'
   refine⟨e,op,b,_,rfl,rfl,?_,hb,h,rfl⟩
   rcases sj (op:=op) e with q|⟨es,k,p,rfl⟩
   ·exact q
   ·rw [Cq] at hb;exact (YC hb).elim
theorem eo{n:Nat}(hk:JJ B prog w Γ.gd)(hA:mB A n){l:Expr}{ops:List JG}{cs:List Expr}{pos:Pos}(hl:VA B prog w A F env ρ (eval l env) (evalE Γ l ρ))
  (hc:∀ e∈cs,VA B prog w A F env ρ (eval e env) (evalE Γ e ρ)):VA B prog w A F env ρ (eval (.Compare l ops cs pos) env) (evalE Γ (.Compare l ops cs pos) ρ):=by
 intro s as st f i v st' hv Q E hQ
 refine EA hv fun a st1 ha hv=>?_
 refine EA hv fun t st2 ht hv=>?_
 obtain⟨rfl,rfl⟩:=eB hv
 obtain⟨e,op,b,st3,rfl,rfl,hm,hb,h,rfl⟩:=kY ht
 refine wpAny_Compare1 (hl s as st f i a st1 ha _ _ fun x h1 as1 tk1 ra i1 e1 ht1=>?_) hm
 refine hc e (by simp) _ as1 st1 (f.on i e1) i1 b _ hb _ _ fun y h2 as2 tk2 rb i2 e2 ht2=>?_
 exact jY hk hA.hh i2 (a6 hA.units) (e2.repv ra) rb h fun tk ht3=>hQ _ h2 as2 tk (.bool _) i2 (e1.trans e2) (jA ht1 (jA ht2 ht3))
theorem On{n:Nat}(hk:JJ B prog w Γ.gd)(hA:mB A n){l:Expr}{ops:List JG}{cs:List Expr}{pos:Pos}{whole:Sem dA}{m:mA V}(hl:VA B prog w A F env ρ (eval l env) (evalE Γ l ρ))
  (hc:∀ e∈cs,VA B prog w A F env ρ (eval e env) (evalE Γ e ρ)):lD B prog w A F env ρ (PySem.isTrue (.Compare l ops cs pos) env whole) (IB Γ (.Compare l ops cs pos) ρ m):=by
 intro s as st f i v st' hv Q E hQ
 refine EA hv fun a st1 ha ht=>?_
 obtain⟨e,op,b,st3,rfl,rfl,hm,hb,h,rfl⟩:=kY ht
 refine wpAny_isTrue_Compare1 (hl s as st f i a st1 ha _ _ fun x h1 as1 tk1 ra i1 e1 ht1=>?_) hm
 refine hc e (by simp) _ as1 st1 (f.on i e1) i1 b _ hb _ _ fun y h2 as2 tk2 rb i2 e2 ht2=>?_
 exact jY hk hA.hh i2 (a6 hA.units) (e2.repv ra) rb h fun tk ht3=>wpAny_truthy_bool (hQ _ h2 as2 tk rfl i2 (e1.trans e2) (jA ht1 (jA ht2 ht3)))
theorem Rn{op:BoolOp}:∀ (vs:List Expr),(∀ e∈vs,lD B prog w A F env ρ (PySem.isTrue e env (eval e env)) (IB Γ e ρ (evalE Γ e ρ)))->lD B prog w A F env ρ (allTrue op vs env) (MS Γ vs op ρ):=by
 intro vs
 induction vs with
 | nil =>
  intro _ s as st f i v st' hv Q E hQ
  obtain⟨rfl,rfl⟩:=eB hv
  exact oR (show allTrue op [] env=pure (op == .And) from by rcases op with ⟨⟩<;>rfl) (hQ _ s.heap as s.toks rfl i (qA.refl _ _ _) (sA _))
 | cons e r ih =>
  intro h s as st f i v st' hv Q E hQ
  cases op with
  | And =>
   refine EA hv fun t st1 ht hv=>?_
   refine wpAny_allTrue_And_cons (h e HA s as st f i t st1 ht _ _ fun x h1 as1 tk1 rx i1 e1 ht1=>?_)
   cases (show t=x from rx)
   rcases t with _|_
   ·obtain⟨rfl,rfl⟩:=eB hv;exact hQ _ h1 as1 tk1 rfl i1 e1 ht1
   ·exact ih (fun e he=>h e (NA _ he)) _ as1 st1 (f.on i e1) i1 v st' hv _ _ fun y h2 as2 tk2 ry i2 e2 ht2=>hQ y h2 as2 tk2 ry i2 (e1.trans e2) (jA ht1 ht2)
  | Or =>
   refine EA hv fun t st1 ht hv=>?_
   refine wpAny_allTrue_Or_cons (h e HA s as st f i t st1 ht _ _ fun x h1 as1 tk1 rx i1 e1 ht1=>?_)
   cases (show t=x from rx)
   rcases t with _|_
   ·exact ih (fun e he=>h e (NA _ he)) _ as1 st1 (f.on i e1) i1 v st' hv _ _ fun y h2 as2 tk2 ry i2 e2 ht2=>hQ y h2 as2 tk2 ry i2 (e1.trans e2) (jA ht1 ht2)
   ·obtain⟨rfl,rfl⟩:=eB hv;exact hQ _ h1 as1 tk1 rfl i1 e1 ht1
theorem Nn{op:BoolOp}{vs:List Expr}{pos:Pos}{whole:Sem dA}{m:mA V}(h:∀ e∈vs,lD B prog w A F env ρ (PySem.isTrue e env (eval e env)) (IB Γ e ρ (evalE Γ e ρ))) :
  lD B prog w A F env ρ (PySem.isTrue (.BoolOp op vs pos) env whole) (IB Γ (.BoolOp op vs pos) ρ m):=by
 intro s as st f i v st' hv Q E hQ
 exact wpAny_isTrue_BoolOp (Rn vs h s as st f i v st' hv Q E hQ)
set_option backward.match.sparseCases true in
theorem Co{pos:Pos}{op:BoolOp}:∀ (vs:List Expr),(∀ e∈vs,VA B prog w A F env ρ (eval e env) (evalE Γ e ρ))->VA B prog w A F env ρ (boolOp pos op (evalEach vs env)) (uN Γ vs op ρ):=by
 intro vs
 induction vs with
 | nil=>exact fun _ _ _ st _ _ _ _ hv _ _ _=>(YC (st:=st) hv).elim
 | cons e r ih =>
  intro h s as st f i v st' hv Q E hQ
  rcases r with _|⟨e2,r⟩
  ·exact h e HA s as st f i v st' hv Q E hQ
  ·refine EA (m:=evalE Γ e ρ) (g:=fun v=>rd (fun st=>oF st v)>>=fun t=>if (t==(op == .Or))=true then pure v else uN Γ (e2::r) op ρ) hv fun a st1 ha hv=>?_
   refine EA hv fun t st2 ht hv=>?_
   obtain⟨ht,rfl⟩:=PE ht
   show oA _ _ (do let v <- eval e env;standAt pos;let t <- holding [v] (truthy v);(match op,t with | .And,false | .Or,true=>pure v|_,_=>boolOp pos op (evalEach (e2::r) env))) Q E s
   refine rA (h e HA s as st f i a _ ha _ _ fun x h1 as1 tk1 rx i1 e1 ht1=>?_)
   refine rA (VD (rA (HF (wV i1 rx ht fun tk ht2=>?_))))
   have rest:uN Γ (e2::r) op ρ st2=some (v,st')->oA (model prog w) A (boolOp pos op (evalEach (e2::r) env)) Q E { s with heap:=h1,toks:=tk }:=fun hv =>
    ih (fun e he=>h e (NA _ he)) _ as1 st2 (f.on i e1) i1 v st' hv _ _ fun y h3 as3 tk3 ry i3 e3 ht3=>hQ y h3 as3 tk3 ry i3 (e1.trans e3) (jA ht1 (jA ht2 ht3))
   have stop:(pure a:mA V) st2=some (v,st')->oA (model prog w) A (pure x) Q E { s with heap:=h1,toks:=tk }:=fun hv=>by
    obtain⟨rfl,rfl⟩:=eB hv
    exact JA (hQ x h1 as1 tk rx i1 e1 (jA ht1 ht2))
   rcases op with ⟨⟩<;>rcases t with ⟨⟩
   ·exact stop hv
   ·exact rest hv
   ·exact rest hv
   ·exact stop hv
theorem Zn{op:BoolOp}{vs:List Expr}{pos:Pos}(h:∀ e∈vs,VA B prog w A F env ρ (eval e env) (evalE Γ e ρ)) :
  VA B prog w A F env ρ (eval (.BoolOp op vs pos) env) (evalE Γ (.BoolOp op vs pos) ρ):=by
 intro s as st f i v st' hv Q E hQ
 exact Co vs h s as st f i v st' hv Q E hQ
end Ev
end
section
namespace Ev
variable{B:CA}{prog:pA}{w:eA}{A:xA}{F:cA->Prop}{s:iA}{as:List cA}{st:St}{Γ:Ctx}{env:Env}{ρ:Fr}
noncomputable def jr:Expr->Bool | .Starred ..=>true|_=>false
theorem a5(e:Expr)(r:List Expr)(env:Env):starEach (e::r) env=(false,eval e env)::starEach r env\/∃ x p,e = .Starred x p :=
 (ZX (b:=jr e) (by rcases e with ⟨⟩<;>first|exact rfl|exact⟨_,_,rfl⟩)).symm
abbrev N6(B:CA)(F:cA->Prop):Heap->List cA->List V->List dA->Prop:=fun h as vs xs=>vA B h as F vs xs
theorem qO{pos:Pos}:∀ (es:List Expr),(∀ e∈es,VA B prog w A F env ρ (eval e env) (evalE Γ e ρ))->iP B prog w A F env ρ (N6 B F) (spliced (backTo pos (starEach es env))) (FC Γ es ρ)
 | [],_=>by
  intro s as st f i v st' hv Q E hQ
  obtain⟨rfl,rfl⟩:=eB hv
  exact spliced_nil (hQ _ s.heap as s.toks .nil i (qA.refl _ _ _) (sA _))
 | e::r,h=>by
  intro s as st f i v st' hv Q E hQ
  refine EA hv fun a st1 ha hv=>?_
  refine EA hv fun vs st2 hvs hv=>?_
  obtain⟨rfl,rfl⟩:=eB hv
  rcases a5 e r env with q|⟨x,p,rfl⟩
  ·rw [q]
   show oA _ _ (spliced ((false,eval e env)::backTo pos (starEach r env))) Q E s
   refine spliced_cons (h e (by simp) s as st f i a st1 ha _ _ fun x h1 as1 tk1 rx i1 e1 ht1=>?_)
   refine qO r (fun e he=>h e (by simp [he])) _ as1 st1 (f.on i e1) i1 vs _ hvs _ _ fun xs h2 as2 tk2 rxs i2 e2 ht2=>?_
   exact hQ _ h2 as2 tk2 (.cons (e2.repv rx) rxs) i2 (e1.trans e2) (jA ht1 ht2)
  ·exact (YC (st:=st) ha).elim
theorem E1{p:Pos}{vs:List V}{xs:List dA}{v:V}{st':St}(i:Inv B s.heap as F st)(rs:vA B s.heap as F vs xs)(hv:vG Γ p vs st=some (v,st'))
  {Q:dA->iA->Prop} (hQ:∀ x h' as',kA B h' as' F v x->Inv B h' as' F st'->qA no s.heap as h' as'->Q x { s with heap:=h' }) :
  xs.length<=sizeLine/\Q (.ref s.heap.objs.size) { s with heap:=s.heap.push { cls:=.type "list",data:=.seq xs.toArray } }:=by
 refine iC (st:=st) hv fun hc hv=>?_
 refine⟨by rw [<-rs.length];exact mG hc,?_⟩
 rcases hk:Γ.keep p with _|_
 ·rw [hk] at hv
  obtain⟨rfl,rfl⟩:=eB (st:=st) hv
  exact hQ _ _ as (VU i rs) (i.push _) (qA.push _ _)
 ·rw [hk] at hv
  cases hv
  exact hQ _ _ (as++[s.heap.objs.size]) (.ref (by rw [<-i.len];exact ZG)) (i.growList rs hc) (qA.grow _ _)
theorem vo{es:List Expr}{pos:Pos}(h:∀ e∈es,VA B prog w A F env ρ (eval e env) (evalE Γ e ρ)):VA B prog w A F env ρ (eval (.List es pos) env) (evalE Γ (.List es pos) ρ):=by
 intro s as st f i v st' hv Q E hQ
 refine EA hv fun vs st1 h1 hv=>?_
 refine wpAny_List (qO es h s as st f i vs st1 h1 _ _ fun xs h1 as1 tk1 rxs i1 e1 ht1=>?_)
 exact E1 (s:={ s with heap:=h1,toks:=tk1 }) i1 rxs hv fun x h' as' rx i2 e2=>hQ x h' as' tk1 rx i2 (e1.trans e2) ht1
theorem Ao{es:List Expr}{k:Nat}{pos:Pos}(h:∀ e∈es,VA B prog w A F env ρ (eval e env) (evalE Γ e ρ)):VA B prog w A F env ρ (eval (.Tuple es k pos) env) (evalE Γ (.Tuple es k pos) ρ):=by
 intro s as st f i v st' hv Q E hQ
 refine iC (st:=st) hv fun hn hv=>?_
 refine EA hv fun vs st1 h1 hv=>?_
 have hl:∀ (es:List Expr) (vs:List V) (st st':St),FC Γ es ρ st=some (vs,st')->vs.length=es.length:=by
  intro es
  induction es with
  | nil=>intro vs st st' h;obtain⟨rfl,_⟩:=eB h;rfl
  | cons e r ih =>
   intro vs st st' h
   refine EA h fun a st1 ha h=>?_
   refine EA h fun b st2 hb h=>?_
   obtain⟨rfl,_⟩:=eB h
   simp [ih b _ _ hb]
 obtain⟨rfl,rfl⟩:=eB hv
 refine wpAny_Tuple (qO es h s as st f i vs _ h1 _ _ fun xs h2 as1 tk1 rxs i1 e1 ht1=>⟨?_,?_⟩)
 ·rw [<-rxs.length,hl es vs _ _ h1];exact mG hn
 ·exact hQ _ _ as1 tk1 (Gp i1 rxs) (i1.push _) (e1.trans (qA.push _ _)) ht1
theorem y5{M:Model}{value slice:Expr}{pos:Pos}{E:dA->iA->Prop}{Q:dA->iA->Prop}
  (hs:∀ o i,subscripted slice false o i=operate [o,i] (getItem o i)\/subscripted slice false o i=operate [i,o] (getItem o i))
  (h:oA (model prog w) A (eval value env) (fun o s₁=>oA (model prog w) A (eval slice env) (fun i s₂=>SubscriptOn (model prog w) A o i Q E s₂) E s₁) E s) :
  oA (model prog w) A (eval (.Subscript value slice pos) env) Q E s:=by
 rw [eval_Subscript]
 refine rA (VC h (fun o s₁ h₁=>rA (HF (VC h₁ (fun i s₂ h₂=>rA (VD ?_)) fun _ _ x=>x)))
  fun _ _ x=>x)
 obtain⟨T,id,hl,hT,hg⟩:=h₂
 refine rA ?_
 rw [getitemInPython_of_ne hT.not_modules]
 refine rA (wpAny_specialOf hT hl ?_)
 have tail:∀ vs,oA (model prog w) A (operate vs (getItem o i)) (fun r s₃=>oA (model prog w) A (letTemporaryGo value o r>>=fun _=>pure r) Q E s₃) E s₂:=fun vs =>
  wpAny_operate' (VC hg (fun r s₃ h₃=>rA (wpAny_letTemporaryGo (JA h₃))) fun _ _ x=>x)
 have fin:oA (model prog w) A (subscripted slice false o i) (fun r s₃=>oA (model prog w) A (letTemporaryGo value o r>>=fun _=>pure r) Q E s₃) E s₂:=by
  rcases hs o i with q|q<;>rw [q]<;>exact tail _
 first
  | exact JA (rA fin)
  | exact rA (JA (rA fin))
  | exact rA fin
theorem E3{vs:List V}{j v:V}(h:tJ vs j=some v):∃ n k,j = .int n/\aD vs.length n=some k/\vs[k]? = some v:=by
 refine WB h fun n h1 h2=>?_
 refine WB h2 fun k h3 h4=>?_
 exact⟨n,k,xE h1,h3,h4⟩
theorem YZ{vs:List V}{xs:List dA}{a:cA}{j v:V}{y:dA}(hp:s.heap.IsList a xs.toArray)(rs:vA B s.heap as F vs xs)(rb:kA B s.heap as F j y)(h:tJ vs j=some v){Q:dA->iA->Prop}{E:dA->iA->Prop}(hQ:∀ z,kA B s.heap as F v z->Q z s) :
  SubscriptOn (model prog w) A (.ref a) y Q E s:=by
 obtain⟨n,k,rfl,h1,h2⟩:=E3 h
 obtain⟨t,rfl⟩:=DC rb
 exact⟨"list",_,slot_list_getitem.lookup,hp.typeIs,mi hp rs h1 h2 hQ⟩
theorem og(st:St)(b:V):∀ a:V,(CC st a b).elim True fun _=>(∃ ks vs,a = .dct ks vs)\/(∃ l,a = .str l)\/(∃ vs,a = .tup vs)\/(∃ vs,a = .lst vs)\/∃ r,a = .ref r:=by
 intro a
 rcases a with ⟨⟩<;>first|exact True.intro|exact zB (.inl ⟨_,_,rfl⟩)|exact zB (.inr (.inl ⟨_,rfl⟩))|exact zB (.inr (.inr (.inl ⟨_,rfl⟩)))|exact zB (.inr (.inr (.inr (.inl ⟨_,rfl⟩))))|exact zB (.inr (.inr (.inr (.inr ⟨_,rfl⟩))))
theorem ZZ(hdk:ED B prog w){b v:V}{y:dA}(i:Inv B s.heap as F st)(rb:kA B s.heap as F b y){E:dA->iA->Prop}{a:V}{x:dA}{Q:dA->iA->Prop}(ra:kA B s.heap as F a x)(hv:CC st a b=some v)
  (hQ:∀ z tk,kA B s.heap as F v z->s.toks<=tk->Q z { s with toks:=tk }):SubscriptOn (model prog w) A x y Q E s:=by
 rcases AC (og st b a) hv with ⟨ks,vs,rfl⟩|⟨l,rfl⟩|⟨vs,rfl⟩|⟨vs,rfl⟩|⟨r,rfl⟩
 ·refine WB hv fun l h1 hv=>?_
  obtain rfl:=bG h1
  obtain⟨u,rfl,hl⟩:=pC rb
  obtain⟨kvs,ad,o,rfl,ho,hd,hs,ha,hF,hk,hks,rs⟩:=TU ra
  obtain⟨z,hz,rz⟩:=Rb hk rs hv
  have hm:=(ED.of (D:=hdk) ho hd).mapOf
  exact⟨"dict",_,slot_dict_getitem.lookup,hm.typeIs,wpAny_getItem_of (strKind_is prog w _ _) hm hz (hQ _ _ rz (CB _))⟩
 ·refine WB hv fun n h1 h2=>?_
  refine WB h2 fun k h3 h4=>?_
  obtain⟨c,h5,rfl⟩:=MC.mp h4
  obtain rfl:=xE h1
  obtain⟨t,rfl⟩:=DC rb
  obtain⟨u,rfl,hl⟩:=pC ra
  exact⟨"str",_,PySem.F.slot_str_getitem.lookup,rfl,sr h3 h5 (hQ _ _ (.str _ _ fun d hd=>by
   rw [BA.mp hd];exact hl c (DD h5)) (CB _))⟩
 ·obtain⟨n,k,rfl,h1,h2⟩:=E3 hv
  obtain⟨t,rfl⟩:=DC rb
  obtain⟨xs,a,rfl,hl,_,_,rs⟩:=wM ra
  exact⟨"tuple",_,PySem.F.slot_tuple_getitem.lookup,hl.typeIs,Ds hl rs h1 h2 fun z r=>hQ z s.toks r (sA _)⟩
 ·obtain⟨xs,a,rfl,hl,_,_,rs⟩:=aG ra
  exact YZ hl.isList rs rb hv fun z r=>hQ z s.toks r (sA _)
 ·obtain⟨a,rfl,e⟩:=AG ra
  refine GO (o:=st[r]?) (K:=fun vs=>tJ vs b) hv fun ws ho hv=>?_
  obtain⟨xs,hp,rs,_⟩:=(i.at_ r a _ e ho).out
  exact YZ hp.isList rs rb hv fun z r=>hQ z s.toks r (sA _)
noncomputable def zJ:Expr->Bool
 | .Slice ..=>true
 | _=>false
theorem Ar:∀ j:Expr,cond (zJ j) True (∀ o i:dA,subscripted j false o i=operate [o,i] (getItem o i)):=by
 intro j
 rcases j with ⟨⟩<;>first|exact True.intro|exact fun o i=>(Eq.refl (operate [o,i] (getItem o i)):operate [o,i] (getItem o i)=operate [o,i] (getItem o i))
theorem so(hdk:ED B prog w){o j:Expr}{pos:Pos}(hj:zJ j=false)(ho:VA B prog w A F env ρ (eval o env) (evalE Γ o ρ))(hi:VA B prog w A F env ρ (eval j env) (evalE Γ j ρ)) :
  VA B prog w A F env ρ (eval (.Subscript o j pos) env) (do let ov <- evalE Γ o ρ;let iv <- evalE Γ j ρ;rd fun st=>CC st ov iv):=by
 intro s as st f i v st' hv Q E hQ
 refine EA hv fun a st1 ha hv=>?_
 refine EA hv fun b st2 hb hv=>?_
 obtain⟨hv,rfl⟩:=PE hv
 refine y5 (M:=model prog w) (fun o i=>.inl ?_) (ho s as st f i a st1 ha _ _ fun x h1 as1 tk1 ra i1 e1 ht1=>?_)
 ·exact pE (Ar j) hj o i
 refine hi _ as1 st1 (f.on i e1) i1 b _ hb _ _ fun y h2 as2 tk2 rb i2 e2 ht2=>?_
 exact ZZ hdk i2 rb (e2.repv ra) hv fun z tk rz ht=>hQ z h2 as2 tk rz i2 (e1.trans e2) (jA ht1 (jA ht2 ht))
theorem wo(e:Option Expr)(h:∀ x,e=some x->VA B prog w A F env ρ (eval x env) (evalE Γ x ρ)):VA B prog w A F env ρ (valueOrNone (evalOpt e env)) (oG Γ e ρ):=by
 rcases e with _|x
 ·intro s as st f i v st' hv Q E hQ
  obtain⟨rfl,rfl⟩:=eB hv
  exact JA (hQ _ s.heap as s.toks .none i (qA.refl _ _ _) (sA _))
 ·intro s as st f i v st' hv Q E hQ
  exact h x rfl s as st f i v st' hv Q E hQ
end Ev
end
section
namespace Ev
variable{B:CA}{prog:pA}{w:eA}{A:xA}{F:cA->Prop}{s:iA}{as:List cA}{st:St}{Γ:Ctx}{env:Env}{ρ:Fr}
theorem lT{a:V}(h:a.isN=true):a = .none:=QD (H:=True) (by clear h;rcases a with ⟨⟩<;>first|exact True.intro|exact rfl) h
theorem Lb{α:Type}{l us:List α}{a b:V}(h:gC l a b=some us){d:α}(hd:d∈us):d∈l:=by
 unfold gC at h
 by_cases hc:cap<l.length
 ·rw [if_pos hc] at h;exact wA h
 ·rw [if_neg hc] at h
  refine WB h fun x _ h=>?_
  refine WB h fun y _ h=>?_
  obtain rfl:=Option.some.inj h
  exact List.mem_of_mem_take (List.mem_of_mem_drop hd)
theorem Kq{p:Pos}{o a b c u v:V}{x xa xb xc:dA}{sl:cA}{st':St}(i:Inv B s.heap as F st)(ro:kA B s.heap as F o x)(ra:kA B s.heap as F a xa)(rb:kA B s.heap as F b xb)(rc:kA B s.heap as F c xc)
  (hs:s.heap.get? sl=some { cls:=.type "slice",data:=.fields #[xa,xb,xc] }) (hu:RK st o a b c=some u)
  (hv:YL Γ p u st=some (v,st'))
  {Q:dA->iA->Prop}{E:dA->iA->Prop} (hQ:∀ z h' as' tk,kA B h' as' F v z->Inv B h' as' F st'->qA no s.heap as h' as'->s.toks<=tk->Q z { s with heap:=h',toks:=tk }) :
  SubscriptOn (model prog w) A x (.ref sl) Q E s:=by
 have lists:∀ {vs:List V}{ys:List dA},u = .lst vs->vA B s.heap as F vs ys->Q (.ref s.heap.objs.size) { s with heap:=s.heap.push { cls:=.type "list",data:=.seq ys.toArray } }:=fun {vs ys} e rs=>by
  subst e
  exact (E1 (Γ:=Γ) i rs hv fun z h' as' rz i2 e2=>hQ z h' as' s.toks rz i2 e2 (sA _)).2
 rcases c with ⟨⟩<;>first|exact wA hu|exact VB hu|exact VB hu.symm|(cases hu;done)|skip
 ·replace hu:(match o.str? with|some s=>(gC s a b).map V.str | .none=>(PG st o).bind fun vs=>(gC vs a b).map V.lst)=some u:=hu
  obtain rfl:=vM rc
  rcases ho:o.str? with _|l
  ·rw [ho] at hu
   refine WB hu fun vs h1 h2=>?_
   obtain⟨us,hc,h3⟩:=MC.mp h2
   obtain⟨ad,xs,rfl,hl,rs⟩:=VL i ro h1
   exact⟨"list",_,slot_list_getitem.lookup,hl.typeIs,ri hl rs ⟨_,hs,rfl,rfl⟩ ra rb hc fun ys rys=>lists h3.symm rys⟩
  ·obtain rfl:=bG ho
   obtain⟨us,hc,rfl⟩:=MC.mp hu
   obtain⟨t,rfl,hl⟩:=pC ro
   obtain⟨rfl,rfl⟩:=eB hv
   exact⟨"str",_,PySem.F.slot_str_getitem.lookup,rfl,vr hs rfl rfl ra rb hc fun t' tk htk=>hQ _ s.heap as tk (.str _ _ fun d hd=>hl d (Lb hc hd)) i (qA.refl _ _ _) htk⟩
 ·obtain⟨⟨rfl,ha,hb⟩,hu2⟩:=pT hu
  obtain⟨vs,h1,h3⟩:=MC.mp hu2
  clear hu hu2
  obtain rfl:=lT ha
  obtain rfl:=lT hb
  obtain rfl:=vM ra
  obtain rfl:=vM rb
  obtain⟨t,rfl⟩:=DC rc
  obtain⟨ad,xs,rfl,hl,rs⟩:=VL i ro h1
  have hcap:vs.length<=cap:=by
   subst h3
   refine iC (st:=st) (show vG Γ p vs.reverse st=_ from hv) fun h _=>?_
   simpa using h
  exact⟨"list",_,slot_list_getitem.lookup,hl.typeIs,qi hl rs ⟨_,hs,rfl,rfl⟩ hcap fun ys rys=>lists h3.symm rys⟩
theorem zo{o:Expr}{l u t:Option Expr}{sp pos:Pos}(ho:VA B prog w A F env ρ (eval o env) (evalE Γ o ρ))
  (hl:VA B prog w A F env ρ (valueOrNone (evalOpt l env)) (oG Γ l ρ)) (hu:VA B prog w A F env ρ (valueOrNone (evalOpt u env)) (oG Γ u ρ)) (ht:VA B prog w A F env ρ (valueOrNone (evalOpt t env)) (oG Γ t ρ)) :
  VA B prog w A F env ρ (eval (.Subscript o (.Slice l u t sp) pos) env) (evalE Γ (.Subscript o (.Slice l u t sp) pos) ρ):=by
 intro s as st f i v st' hv Q E hQ
 refine EA hv fun ov st1 h1 hv=>?_
 refine EA hv fun a st2 h2 hv=>?_
 refine EA hv fun b st3 h3 hv=>?_
 refine EA hv fun c st4 h4 hv4=>?_
 refine EA hv4 fun r st5 h5 hv5=>?_
 obtain⟨h5,rfl⟩:=PE h5
 refine y5 (M:=model prog w) (fun o i=>?_) (ho s as st f i ov st1 h1 _ _ fun x g1 as1 tk1 ro i1 e1 ht1=>?_)
 ·cases t
  ·exact .inr rfl
  ·exact .inl rfl
 refine wpAny_Slice ?_
 refine hl _ as1 st1 (f.on i e1) i1 a st2 h2 _ _ fun xa g2 as2 tk2 ra i2 e2 ht2=>?_
 refine hu _ as2 st2 ((f.on i e1).on i1 e2) i2 b st3 h3 _ _ fun xb g3 as3 tk3 rb i3 e3 ht3=>?_
 refine ht _ as3 st3 (((f.on i e1).on i1 e2).on i2 e3) i3 c _ h4 _ _ fun xc g4 as4 dE rc i4 e4 ht4=>?_
 have k:=UC g4 { cls:=.type "slice",data:=.fields #[xa,xb,xc] }
 refine Kq (Γ:=Γ) (p:=pos) (i4.push _) ((e4.repv (e3.repv (e2.repv ro))).keeps k) ((e4.repv (e3.repv ra)).keeps k) ((e4.repv rb).keeps k) (rc.keeps k) (vD _ rfl) h5 hv5 fun z h' as' tk rz i5 e5 ht5=>?_
 exact hQ z h' as' tk rz i5 (((((e1.trans e2).trans e3).trans e4).trans (qA.push _ _)).trans e5) (jA ht1 (jA ht2 (jA ht3 (jA ht4 ht5))))
end Ev
end
section
namespace Ev
variable{B:CA}{prog:pA}{w:eA}{A:xA}{F:cA->Prop}{s:iA}{as:List cA}{st:St}{Γ:Ctx}{env:Env}{ρ:Fr}
theorem VQ(x z:Str)(v:V):∀ l:List (Str×V),(TB x v l).lookup z=if z=x then some v else l.lookup z
 | []=>by
  show wD z [(x,v)]=_
  by_cases h:z=x
  ·subst h;simp [wD]
  ·have hb:(z==x)=false:=by simpa using h
   simp [wD,h,hb]
 | (y,u)::r=>by
  show (if y=x then (x,v)::r else (y,u)::TB x v r).lookup z=_
  split
  ·rename_i hy
   subst hy
   by_cases h:z=y
   ·subst h;simp [wD]
   ·have hb:(z==y)=false:=by simpa using h
    simp [wD,h,hb]
  ·rename_i hy
   have ih:=VQ x z v r
   by_cases h:z=y
   ·subst h
    simp [wD,hy]
   ·have hb:(z==y)=false:=by simpa using h
    simp only [wD,hb]
    exact ih
theorem Inv.atF{h h':Heap}{a₀:cA}(i:Inv B h as F st)(hF:F a₀)(hk:∀ a o,a≠a₀->h.get? a=some o->h'.get? a=some o)(hl:∃ o,h'.get? a₀=some o):Inv B h' as F st where
 len:=i.len
 nodup:=i.nodup
 at_:=fun k a o e e'=>(i.at_ k a o e e').mono (wB _) (fun a o h1 h2 h3=>⟨hk a o (fun e=>h3 (e▸hF)) h1,h2,h3⟩)
  fun x hx=>hk a x (fun q=>i.apart a (DD e) (q▸hF)) hx
 apart:=i.apart
 liveF:=fun a ha=>by
  by_cases q:a=a₀
  ·exact q▸hl
  ·obtain⟨o,ho⟩:=i.liveF a ha;exact⟨o,hk a o q ho⟩
 base:=fun a o e=>let b:=i.base a o e;⟨hk _ _ (fun q=>b.2.2 (q▸hF)) b.1,b.2⟩
theorem qA.atF{h h':Heap}{a₀:cA}(hk:∀ a o,a≠a₀->h.get? a=some o->h'.get? a=some o)(hl:∃ o,h'.get? a₀=some o):qA (· = a₀) h as h' as :=
 ⟨wB _,fun _ x=>.inl x,fun a o e _ hg=>hk a o hg e,fun a o e=>by
  by_cases q:a=a₀
  ·exact q▸hl
  ·exact⟨o,hk a o q e⟩⟩
theorem kA.atF{h h':Heap}{a₀:cA}(hF:F a₀)(hk:∀ a o,a≠a₀->h.get? a=some o->h'.get? a=some o){v x}(r:kA B h as F v x):kA B h' as F v x :=
 r.mono (wB _) fun a o h1 h2 h3=>⟨hk a o (fun e=>h3 (e▸hF)) h1,h2,h3⟩
theorem Fr.set_some{ρ ρ':Fr}{x:Str}{v:V}(h:ρ.set x v=some ρ'):(ρ.sc.lookup x=some .local\/ρ.sc.lookup x=some .cell)/\ρ'={ ρ with vars:=TB x v ρ.vars }:=by
 replace h:(match ρ.sc.lookup x with|some .local|some .cell=>some { ρ with vars:=TB x v ρ.vars }|_=>none)=some ρ':=h
 rcases q:ρ.sc.lookup x with _|k
 ·rw [q] at h;exact wA h
 ·rw [q] at h
  rcases k with ⟨⟩<;>first|exact wA h|exact⟨.inl rfl,(qC h).symm⟩|exact⟨.inr rfl,(qC h).symm⟩
theorem WQ{x:Str}{v:V}{y:dA}{ρ':Fr}(f:DA B s.heap as F env ρ)(i:Inv B s.heap as F st)(r:kA B s.heap as F v y)(hv:ρ.set x v=some ρ')
  {Q:Unit->iA->Prop}{E:dA->iA->Prop} (hQ:∀ h' tk,DA B h' as F env ρ'->Inv B h' as F st->qA (JB env ρ.sc) s.heap as h' as->s.toks<=tk->Q () { s with heap:=h',toks:=tk }) :
  oA (model prog w) A (storeName env x y) Q E s:=by
 obtain⟨hx,rfl⟩:=Fr.set_some hv
 have lk:∀ z,(TB x v ρ.vars).lookup z=if z=x then some v else ρ.vars.lookup z:=fun z=>VQ x z v _
 rcases hx with hx|hx
 ·obtain⟨m,hn,hm⟩:=f.loc
  refine wpAny_storeName_local (f.kindL x hx) hn (fun h' hn' hs'=>?_) (by rw [f.kind];rfl)
  have hk:∀ a o,a≠env.locals->s.heap.get? a=some o->h'.get? a=some o:=fun a o q e=>(hs'.2 a q).trans e
  have hl:∃ o,h'.get? env.locals=some o:=by obtain⟨o,_,_,ho,_⟩:=hn';exact⟨o,ho⟩
  have hr:∀ {u z},kA B s.heap as F u z->kA B h' as F u z:=fun r=>r.atF f.ownF hk
  refine hQ h' _ ?_ (i.atF f.ownF hk hl) ((qA.atF hk hl).weak fun a e=>.inl e) (CB _)
  exact {
   kind:=f.kind,gl:=f.gl,bl:=f.bl
   loc:=⟨_,hn',fun z u h1 h2=>by
    rw [show (Fr.mk ρ.sc (TB x v ρ.vars) ρ.out).vars.lookup z=_ from lk z] at h2
    by_cases q:z=x
    ·rw [if_pos q] at h2;cases h2;exact⟨y,by rw [if_pos q],hr r⟩
    ·rw [if_neg q] at h2
     obtain⟨w',hw,hrw⟩:=hm z u h1 h2
     exact⟨w',by rw [if_neg q];exact hw,hr hrw⟩⟩
   kindL:=f.kindL,kindN:=f.kindN,kindC:=f.kindC,kindG:=f.kindG
   cell:=fun z hz=>by
    obtain⟨c,yo,hc,⟨o,ho,hd⟩,hFc,hcl,hval⟩:=f.cell z hz
    refine⟨c,yo,hc,⟨o,hk _ _ hcl ho,hd⟩,hFc,hcl,fun u h2=>?_⟩
    rw [show (Fr.mk ρ.sc (TB x v ρ.vars) ρ.out).vars.lookup z=_ from lk z] at h2
    by_cases q:z=x
    ·subst q;rw [show ρ.sc.lookup z=some .local from hx] at hz;contradiction
    ·rw [if_neg q] at h2
     obtain⟨w',hw,hrw⟩:=hval u h2
     exact⟨w',hw,hr hrw⟩
   apart:=f.apart
   free:=fun z hz=>by
    obtain⟨h1,h2,c,yo,hc,⟨o,ho,hd⟩,hFc,hcl,hap,hval⟩:=f.free z hz
    refine⟨h1,h2,c,yo,hc,⟨o,hk _ _ hcl ho,hd⟩,hFc,hcl,hap,fun u hu=>?_⟩
    obtain⟨w',hw,hrw⟩:=hval u hu
    exact⟨w',hw,hr hrw⟩
   ownF:=f.ownF }
 ·obtain⟨c,yo,hc,hic,hFc,hcl,_⟩:=f.cell x hx
  refine wpAny_storeName_cell f.kind (f.kindC x hx) hc hic fun h' hi' hs'=>?_
  have hk:∀ a o,a≠c->s.heap.get? a=some o->h'.get? a=some o:=fun a o q e=>(hs'.2 a q).trans e
  have hl:∃ o,h'.get? c=some o:=by obtain⟨o,ho,_⟩:=hi';exact⟨o,ho⟩
  have hr:∀ {u z},kA B s.heap as F u z->kA B h' as F u z:=fun r=>r.atF hFc hk
  refine hQ h' s.toks ?_ (i.atF hFc hk hl) ((qA.atF hk hl).weak fun a e=>.inr ⟨x,hx,e▸hc⟩) (sA _)
  exact {
   kind:=f.kind,gl:=f.gl,bl:=f.bl
   loc:=by
    obtain⟨m,⟨o,es,ep,ho,rest⟩,hm⟩:=f.loc
    refine⟨m,⟨o,es,ep,hk _ _ (Ne.symm hcl) ho,rest⟩,fun z u h1 h2=>?_⟩
    rw [show (Fr.mk ρ.sc (TB x v ρ.vars) ρ.out).vars.lookup z=_ from lk z] at h2
    by_cases q:z=x
    ·subst q;rw [show ρ.sc.lookup z=some .local from h1] at hx;contradiction
    ·rw [if_neg q] at h2
     obtain⟨w',hw,hrw⟩:=hm z u h1 h2
     exact⟨w',hw,hr hrw⟩
   kindL:=f.kindL,kindN:=f.kindN,kindC:=f.kindC,kindG:=f.kindG
   cell:=fun z hz=>by
    by_cases q:z=x
    ·subst q
     refine⟨c,some y,hc,hi',hFc,hcl,fun u h2=>?_⟩
     rw [show (Fr.mk ρ.sc (TB z v ρ.vars) ρ.out).vars.lookup z=_ from lk z,if_pos rfl] at h2
     cases h2
     exact⟨y,rfl,hr r⟩
    ·obtain⟨c',yo',hc',⟨o,ho,hd⟩,hFc',hcl',hval⟩:=f.cell z hz
     have hne:c'≠c:=fun e=>q (f.apart z x c hz hx (e▸hc') hc)
     refine⟨c',yo',hc',⟨o,hk _ _ hne ho,hd⟩,hFc',hcl',fun u h2=>?_⟩
     rw [show (Fr.mk ρ.sc (TB x v ρ.vars) ρ.out).vars.lookup z=_ from lk z,if_neg q] at h2
     obtain⟨w',hw,hrw⟩:=hval u h2
     exact⟨w',hw,hr hrw⟩
   apart:=f.apart
   free:=fun z hz=>by
    obtain⟨h1,h2,c',yo',hc',⟨o,ho,hd⟩,hFc',hcl',hap,hval⟩:=f.free z hz
    have hne:c'≠c:=fun e=>hap x hx (e▸hc)
    refine⟨h1,h2,c',yo',hc',⟨o,hk _ _ hne ho,hd⟩,hFc',hcl',hap,fun u hu=>?_⟩
    obtain⟨w',hw,hrw⟩:=hval u hu
    exact⟨w',hw,hr hrw⟩
   ownF:=f.ownF }
end Ev
end
section
namespace Ev
variable{B:CA}{prog:pA}{w:eA}{A:xA}{F:cA->Prop}{s:iA}{as:List cA}{st:St}{Γ:Ctx}{env:Env}{ρ:Fr}
theorem zP{nw:Bool}{st:St}{e:Expr}{es:List Expr}{v:V}{vs:List V}{ρ ρ':Fr}(h:PD nw st (e::es) (v::vs) ρ=some ρ'):∃ ρ1,rB nw st e v ρ=some ρ1/\PD nw st es vs ρ1=some ρ':=NV.mp h
theorem GY{nw:Bool}{st:St}{e:Expr}{v:V}{ρ ρ':Fr}(h:rB nw st e v ρ=some ρ'){env:Env}{es:List Expr}:assignEach (e::es) env=(false,assign e env)::assignEach es env :=
 AC (by clear h;rcases e with ⟨⟩<;>first|exact True.intro|exact zB rfl) h
theorem yP{nw:Bool}{st:St}{env:Env}:∀ {es:List Expr}{vs:List V}{ρ ρ':Fr},PD nw st es vs ρ=some ρ'->assignEach es env=es.map (fun e=>(false,assign e env))/\es.length=vs.length:=by
 intro es
 induction es with
 | nil =>
  intro vs ρ ρ' h
  rcases vs with _|⟨_,_⟩
  ·exact⟨rfl,rfl⟩
  ·exact wA h
 | cons e es ih =>
  intro vs ρ ρ' h
  rcases vs with _|⟨v,vs⟩
  ·exact wA h
  ·obtain⟨ρ1,h1,h2⟩:=zP h
   obtain⟨i1,i2⟩:=ih h2
   refine⟨?_,congrArg (· + 1) i2⟩
   rw [GY h1,i1];rfl
theorem i9{nw:Bool}{st:St}{es:List Expr}{k:Nat}{p:Pos}{v:V}{ρ:Fr}{G:Fr->Prop}(h:∀ vs,(v = .tup vs\/∃ l,v = .str l/\vs=l.map fun c=>.str [c])->(PD nw st es vs ρ).elim True G):(rB nw st (.Tuple es k p) v ρ).elim True G:=by
 rcases v with ⟨⟩<;>first|exact True.intro|exact h _ (.inl rfl)|exact h _ (.inr ⟨_,rfl,rfl⟩)
theorem qS{nw:Bool}{st:St}{t:Expr}{v:V}{ρ ρ':Fr}(h:rB nw st t v ρ=some ρ'):(∃ x p,t = .Name x p/\(nw&&(ρ.vars.lookup x).isSome)=false/\ρ.set x v=some ρ')\/(∃ es k p vs,t = .Tuple es k p/\(v = .tup vs\/∃ l,v = .str l/\vs=l.map fun c=>.str [c])/\PD nw st es vs ρ=some ρ'):=by
 refine (RF (o:=rB nw st t v ρ) (G:=fun ρ'=>(∃ x p,t = .Name x p)\/∃ es k p vs,t = .Tuple es k p/\(v = .tup vs\/∃ l,v = .str l/\vs=l.map fun c=>.str [c])/\PD nw st es vs ρ=some ρ') ?_ h).elim ?_ .inr
 ·clear h
  rcases t with ⟨⟩<;>first|exact True.intro|exact dc fun _=>.inl ⟨_,_,rfl⟩|skip
  rename_i es k p
  refine i9 fun vs hv=>?_
  rcases q:PD nw st es vs ρ with _|ρ'
  ·exact True.intro
  ·exact .inr ⟨es,k,p,vs,rfl,hv,q⟩
 ·rintro⟨x,p,rfl⟩
  rcases q:(nw&&(ρ.vars.lookup x).isSome) with _|_
  ·exact .inl ⟨x,p,rfl,q,(if_neg (by rw [q];decide)).symm.trans h⟩
  ·exact nomatch (if_pos q).symm.trans h
theorem yV{P:Expr->Prop}(h:∀ t,(∀ es k p,t = .Tuple es k p->∀ e∈es,P e)->P t):∀ t,P t:=by
 have go:∀ (n:Nat) (t:Expr),sizeOf t<n->P t:=fun n=>by
  induction n with
  | zero=>exact fun t q=>absurd q (BR _)
  | succ n ih =>
   intro t q
   refine h t fun es k p e e' he=>ih e' ?_
   subst e
   have:=List.sizeOf_lt_of_mem he
   simp at q
   exact Lr this q
 exact fun t=>go _ t (jD _)
theorem EX{nw:Bool}{st:St}:∀ (es:List Expr),(∀ e∈es,∀ {v ρ ρ'},rB nw st e v ρ=some ρ'->ρ'.sc=ρ.sc)->∀ {vs:List V}{ρ ρ':Fr},PD nw st es vs ρ=some ρ'->ρ'.sc=ρ.sc
 | [],_,[],_,_,h=>by cases h;rfl
 | [],_,_::_,_,_,h=>by exact wA h
 | _::_,_,[],_,_,h=>by exact wA h
 | e::es,k,v::vs,ρ,ρ',h=>by
  obtain⟨ρ1,h1,h2⟩:=zP h
  exact (EX es (fun e he=>k e (NA _ he)) h2).trans (k e HA h1)
theorem xP{nw:Bool}{st:St}:∀ (t:Expr) {v:V}{ρ ρ':Fr},rB nw st t v ρ=some ρ'->ρ'.sc=ρ.sc :=
 yV (P:=fun t=>∀ {v:V}{ρ ρ':Fr},rB nw st t v ρ=some ρ'->ρ'.sc=ρ.sc) fun t ih v ρ ρ' h=>by
 rcases qS h with ⟨x,p,_,_,h⟩|⟨es,k,p,vs,e,_,h⟩
 ·obtain⟨_,rfl⟩:=Fr.set_some h;rfl
 ·exact EX es (ih es k p e) h
theorem DA.keeps{h h':Heap}(f:DA B h as F env ρ)(i:Inv B h as F st)(hk:∀ a o,h.get? a=some o->h'.get? a=some o):DA B h' as F env ρ:=f.on i (qA.keeps hk)
theorem EY{I:cA}{fp:List cA}{n:Nat}{P:Nat->dA->Prop}{St:Nat->Heap->Prop}{E:dA->iA->Prop}(W:Walks prog w A I fp [I] n P St):∀ (k i:Nat) (s:iA) (Q:List dA->iA->Prop),i+k=n->St i s.heap ->
  (∀ vs h' tk,vs.length=k->(∀ j v,vs[j]? = some v->P (i+j) v)->St n h'->(∀ b o,b∉[I]->s.heap.get? b=some o->h'.get? b=some o)->Q vs { s with heap:=h',toks:=tk })->oA (model prog w) A (draw (.ref I) k) Q E s
 | 0,i,s,Q,hk,hs,hQ=>by
  show oA _ _ (pure []) Q E s
  exact JA (hQ [] s.heap s.toks rfl (by simp) (by rw [<-hk];exact hs) fun _ _ _ e=>e)
 | k+1,i,s,Q,hk,hs,hQ=>by
  show oA _ _ (pyNext (.ref I)>>=_) Q E s
  refine rA (W.item i s _ _ (by lia) hs fun v h1 tk1 hv hs1 hk1=>?_)
  refine rA (HF (EY W k (i+1) _ _ (by lia) hs1 fun vs h2 tk2 hl hp hs2 hk2=>JA ?_))
  refine hQ (v::vs) h2 tk2 (by simp [hl]) (fun j u hj=>?_) hs2 fun b o hb e=>hk2 b o hb (hk1 b o hb e)
  rcases j with _|j
  ·cases hj;exact hv
  ·have:=hp j u (by simpa using hj);rwa [show i+(j+1)=i+1+j by lia]
theorem c7(hh:A.handled=none){elts:List Expr}{k:Nat}{pos:Pos}{l:List Nat}{u:Tok}{Q:Unit->iA->Prop}{E:dA->iA->Prop}
  (hn:(assignEach elts env).length=l.length) (hstar:(assignEach elts env).findIdx? (·.1)=none)
  (h:∀ vs h' tk,vs.length=l.length->(∀ j v,vs[j]? = some v->SignAt (S l) j v)->(∀ a o,s.heap.get? a=some o->h'.get? a=some o)->s.toks<=tk->oA (model prog w) A (assignInOrder ((assignEach elts env).map (·.2)) vs) Q E { s with heap:=h',toks:=tk }) :
  oA (model prog w) A (assign (.Tuple elts k pos) env (.str (S l) u)) Q E s:=by
 rw [arm_assign_Tuple]
 refine rA (VD ?_)
 unfold unpack
 rw [hstar,hn]
 refine rA (QE (n:=s.toks) (sA _) (HF ?_))
 unfold unpackItems
 refine rA ?_
 unfold notIterableAtAll
 refine rA (wpAny_specialOf (typeIs_str _ _ _) PySem.F.slot_str_iter.lookup ?_)
 refine JA ?_
 simp only [jL,if_false]
 obtain⟨fp,P,T,W,h0,hP⟩:∃ (fp:List cA) (P:Nat->dA->Prop) (T:Nat->Heap->Prop),Walks prog w A s.heap.objs.size fp [s.heap.objs.size] l.length P T/\T 0 (s.heap.push { cls:=.type (strIterType (S l)),data:=.fields #[.str (S l) u,.int 0 0] })/\∀ j v,P j v->SignAt (S l) j v:=by
  have e:(S l).cps.size=l.length:=by simp [S]
  cases ha:(S l).cps.all (· < 128)
  ·exact⟨_,_,_,e▸Walks.strWide hh s.heap.objs.size (S l) u,⟨_,vD _ rfl,by simp [strIterType,ha],rfl⟩,fun _ _ h=>h⟩
  ·exact⟨_,_,_,e▸Walks.strAscii hh s.heap.objs.size (S l) u,⟨_,vD _ rfl,by simp [strIterType,ha],rfl⟩,fun _ _ h=>h⟩
 refine rA (HF (wpAny_pyIter_strU ?_))
 refine rA (HF (EY W l.length 0 _ _ (SE _ _) h0 fun vs h1 tk1 hl hp hs1 hk1=>?_))
 rw [if_neg (by lia)]
 refine rA (HF (W.done _ _ _ hs1 fun h2 tk2 hk2=>?_))
 simp only [Option.isSome_none,jL,if_false]
 refine JA fun ht=>?_
 refine h vs h2 tk2 hl (fun j v hj=>hP _ _ (by have:=hp j v hj;rwa [IF] at this)) (fun a o e=>?_) ht
 have hne:a∉[s.heap.objs.size]:=fun q=>iD (JF e) (BA.mp q)
 exact hk2 a o hne (hk1 a o hne (Heap.get?_push_of_some _ e))
theorem WU{h:Heap}{l:List Nat}(hl:∀ c∈l,c<0x110000):∀ (m:List Nat) (k:Nat) (vs:List dA),(∀ j,l[k+j]? = m[j]?)->vs.length=m.length->(∀ j v,vs[j]? = some v->SignAt (S l) (k+j) v)->vA B h as F (m.map fun c=>V.str [c]) vs
 | [],_,[],_,_,_=>.nil
 | [],_,_::_,_,e,_=>by simp at e
 | _::_,_,[],_,e,_=>by simp at e
 | c::m,k,v::vs,hm,e,hp=>by
  refine .cons ?_ (WU hl m (k+1) vs (fun j=>?_) (by simpa using e) fun j v hj=>?_)
  ·obtain⟨d,u,h3,rfl⟩:=hp 0 v rfl
   simp [S] at h3
   have h4:=hm 0
   simp [h3] at h4
   subst h4
   exact .str _ _ fun x hx=>by rw [BA.mp hx];exact hl d (DD h3)
  ·have:=hm (j+1)
   rwa [show k+(j+1)=k+1+j by lia,u6] at this
  ·have:=hp (j+1) v (by simpa using hj)
   rwa [show k+(j+1)=k+1+j by lia] at this
noncomputable def PR(B:CA)(prog:pA)(w:eA)(A:xA)(F:cA->Prop)(env:Env)(as:List cA)(st:St)(nw:Bool)(st₀:St)(t:Expr):Prop :=
 ∀ {v:V}{y:dA}{ρ ρ':Fr}{s:iA},DA B s.heap as F env ρ->Inv B s.heap as F st->kA B s.heap as F v y->rB nw st₀ t v ρ=some ρ' ->
  ∀ {Q:Unit->iA->Prop}{E:dA->iA->Prop},(∀ h' tk,DA B h' as F env ρ'->Inv B h' as F st->qA (JB env ρ.sc) s.heap as h' as->s.toks<=tk->Q () { s with heap:=h',toks:=tk })->oA (model prog w) A (assign t env y) Q E s
theorem DX{nw:Bool}{st₀:St}:∀ (es:List Expr),(∀ e∈es,PR B prog w A F env as st nw st₀ e)->∀ {vs:List V}{xs:List dA}{ρ ρ':Fr}{s:iA},DA B s.heap as F env ρ->Inv B s.heap as F st->vA B s.heap as F vs xs->PD nw st₀ es vs ρ=some ρ' ->
  ∀ {Q:Unit->iA->Prop}{E:dA->iA->Prop},(∀ h' tk,DA B h' as F env ρ'->Inv B h' as F st->qA (JB env ρ.sc) s.heap as h' as->s.toks<=tk->Q () { s with heap:=h',toks:=tk }) ->
  oA (model prog w) A (assignInOrder ((assignEach es env).map (·.2)) xs) Q E s:=by
 intro es
 induction es with
 | nil =>
  intro _ vs xs ρ ρ' s f i rs h Q E hQ
  rcases vs with _|⟨_,_⟩
  ·cases h
   obtain rfl:=AM rs
   exact wpAny_assignInOrder_none (hQ s.heap s.toks f i (qA.refl _ _ _) (sA _))
  ·exact wA h
 | cons e es ih =>
  intro k vs xs ρ ρ' s f i rs h Q E hQ
  rcases vs with _|⟨v,vs⟩
  ·exact wA h
  ·have q:=(yP (env:=env) h).1
   obtain⟨ρ1,h1,h'⟩:=zP h
   have q':=(yP (env:=env) h').1
   rw [q]
   obtain⟨x,xs,rfl,r,rs⟩:=zM rs
   show oA _ _ (assignInOrder (assign e env::(es.map (fun e=>(false,assign e env))).map (·.2)) (x::xs)) Q E s
   rw [<-q']
   have scq:=xP e h1
   refine wpAny_assignInOrder_more (k e HA f i r h1 fun h2 tk f2 i2 e2 ht2=>?_)
   have e2F:∀ a,JB env ρ.sc a->F a:=f.own
   exact ih (fun e he=>k e (NA _ he)) (s:={ s with heap:=h2,toks:=tk }) f2 i2 (rs.mono e2.pre fun a o g1 g2 g3=>⟨e2.keep a o g1 g2 fun q=>g3 (e2F a q),g2,g3⟩) h' fun h3 tk3 f3 i3 e3 ht3=>hQ h3 tk3 f3 i3 (e2.trans (scq▸e3)) (jA ht2 ht3)
theorem rS(hh:A.handled=none){nw:Bool}{st₀:St}:∀ (t:Expr),PR B prog w A F env as st nw st₀ t :=
 yV (P:=fun t=>PR B prog w A F env as st nw st₀ t) fun t ih v y ρ ρ' s f i r h Q E hQ=>by
 rcases qS h with ⟨x,p,rfl,_,h⟩|⟨es,k,p,vs,rfl,rfl|⟨l,rfl,rfl⟩,h⟩
 ·exact wpAny_assign_Name (WQ f i r h hQ)
 ·obtain⟨xs,a,rfl,ht,_,_,rs⟩:=wM r
  obtain⟨e1,e2⟩:=yP (env:=env) h
  refine wpAny_assign_Tuple hh ht (by rw [e1,AA,WG,<- rs.length];exact e2) (by rw [e1];simp [w6]) fun h' he'=>?_
  have hk:∀ a o,s.heap.get? a=some o->h'.get? a=some o:=fun a o q=>he' a o (iD (JF q)) q
  exact DX es (ih es k p rfl) (f.keeps i hk) (i.keeps hk) (rs.keeps hk) h fun h2 tk f2 i2 e2 ht2=>hQ h2 tk f2 i2 ((qA.keeps hk).trans e2) ht2
 ·obtain⟨u,rfl,hl⟩:=pC r
  obtain⟨e1,e2⟩:=yP (env:=env) h
  refine c7 hh (by rw [e1,AA,e2,AA]) (by rw [e1];simp [w6]) fun vs h' tk hvl hsg hk ht=>?_
  exact DX es (ih es k p rfl) (s:={ s with heap:=h',toks:=tk }) (f.keeps i hk) (i.keeps hk) (WU hl l 0 vs (fun j=>by rw [IF]) hvl fun j v hj=>by rw [IF];exact hsg j v hj) h fun h2 tk2 f2 i2 e2 ht2=>hQ h2 tk2 f2 i2 ((qA.keeps hk).trans e2) (jA ht ht2)
end Ev
end
section
namespace Ev
variable{B:CA}{prog:pA}{w:eA}{A:xA}{F:cA->Prop}{s:iA}{as:List cA}{st:St}{Γ:Ctx}{env:Env}{ρ:Fr}
inductive ZM(B:CA)(h:Heap)(as:List cA)(F:cA->Prop):Fl->Flow->Prop
 | next:ZM B h as F .next .next
 | ret {v x}:kA B h as F v x->ZM B h as F (.ret v) (.ret x)
noncomputable def FW(B:CA)(prog:pA)(w:eA)(A:xA)(F:cA->Prop)(env:Env)(sc:List (Str×GA))(t:Sem Flow)(m:mA (Fl×Fr))(s:iA)(as:List cA)(st:St):Prop :=
 ∀ fl ρ' st',m st=some ((fl,ρ'),st')->∀ (Q:Flow->iA->Prop) (E:dA->iA->Prop),
  (∀ x h' as' tk,ZM B h' as' F fl x->ρ'.sc=sc->DA B h' as' F env ρ'->Inv B h' as' F st'->qA (JB env sc) s.heap as h' as'->s.toks<=tk->Q x { s with heap:=h',toks:=tk })->oA (model prog w) A t Q E s
noncomputable def yC(B:CA)(prog:pA)(w:eA)(A:xA)(F:cA->Prop)(env:Env)(ρ:Fr)(t:Sem Flow)(m:mA (Fl×Fr)):Prop :=
 ∀ s as st,DA B s.heap as F env ρ->Inv B s.heap as F st->FW B prog w A F env ρ.sc t m s as st
theorem qA.own{h h':Heap}{as':List cA}{sc:List (Str×GA)}(x:qA no h as h' as'):qA (JB env sc) h as h' as':=x.weak fun _ f=>f.elim
theorem R4{x:Str}{xs:List Str}{v:V}{vs:List V}{ρ ρ':Fr}(h:BI (x::xs) (v::vs) ρ=some ρ'):∃ ρ1,ρ.set x v=some ρ1/\BI xs vs ρ1=some ρ':=NV.mp h
theorem zq:∀ (xs:List Str) {vs:List V}{ys:List dA}{ρ ρ':Fr}{s:iA},DA B s.heap as F env ρ->Inv B s.heap as F st->vA B s.heap as F vs ys->BI xs vs ρ=some ρ' ->
  ∀ {Q:Unit->iA->Prop}{E:dA->iA->Prop},(∀ h' tk,ρ'.sc=ρ.sc->DA B h' as F env ρ'->Inv B h' as F st->qA (JB env ρ.sc) s.heap as h' as->s.toks<=tk->Q () { s with heap:=h',toks:=tk }) ->
  oA (model prog w) A (assignInOrder (xs.map fun n=>bindName env n) ys) Q E s:=by
 intro xs
 induction xs with
 | nil =>
  intro vs ys ρ ρ' s f i rs h Q E hQ
  rcases vs with _|⟨_,_⟩
  ·cases h
   obtain rfl:=AM rs
   exact wpAny_assignInOrder_none (hQ s.heap s.toks rfl f i (qA.refl _ _ _) (sA _))
  ·exact wA h
 | cons x xs ih =>
  intro vs ys ρ ρ' s f i rs h Q E hQ
  rcases vs with _|⟨v,vs⟩
  ·exact wA h
  ·obtain⟨ρ1,h1,h'⟩:=R4 h
   obtain⟨y,ys,rfl,r,rs⟩:=zM rs
   have scq:ρ1.sc=ρ.sc:=by obtain⟨_,rfl⟩:=Fr.set_some h1;rfl
   have e2F:∀ a,JB env ρ.sc a->F a:=f.own
   refine wpAny_assignInOrder_more ?_
   show oA _ _ (bindName env x y) _ _ _
   refine wpAny_bindName (WQ f i r h1 fun h2 tk f2 i2 e2 ht2=>?_)
   refine ih (s:={ s with heap:=h2,toks:=tk }) f2 i2 ?_ h' fun h3 tk3 sc3 f3 i3 e3 ht3=>?_
   ·exact rs.mono e2.pre fun a o g1 g2 g3=>⟨e2.keep a o g1 g2 fun q=>g3 (e2F a q),g2,g3⟩
   ·exact hQ h3 tk3 (sc3.trans scq) f3 i3 (e2.trans (scq▸e3)) (jA ht2 ht3)
theorem N4:∀ {xs:List Str}{vs:List V}{ρ ρ':Fr},BI xs vs ρ=some ρ'->xs.length=vs.length
 | [],[],_,_,_=>rfl
 | [],_::_,_,_,h=>by exact wA h
 | _::_,[],_,_,h=>by exact wA h
 | x::xs,v::vs,ρ,ρ',h=>by
  obtain⟨ρ1,h1,h'⟩:=R4 h
  simp [N4 h']
theorem uh{h:Heap}(f:DA B h as F env ρ)(x:Str):(env.kindOf x==some .local)=(ρ.sc.lookup x==some .local):=by
 by_cases q:ρ.sc.lookup x=some .local
 ·rw [q,f.kindL x q]
 ·have q':env.kindOf x≠some .local:=fun e=>q (f.kindN x e)
  have a1:(env.kindOf x==some .local)=false:=by simpa using q'
  have a2:(ρ.sc.lookup x==some .local)=false:=by simpa using q
  rw [a1,a2]
noncomputable def Er(ts vs:List Expr)(c:Bool)(N:List Str):Sem (Option (List Str)) :=
 if c=true then pure none
  else if (vs.any gQ)=true then pure none
  else if (N.length != ts.length||N.eraseDups.length != N.length)=true then pure none
  else if vs.all (foldedForSure 8)=true then pure none
  else if vs.all (constantsAlone 8)=true then (do unsupported "assign.tuple-of-constant-expressions:order-of-the-stores";pure (some N))
  else pure (some N)
theorem jp{h:Heap}(f:DA B h as F env ρ){ts vs:List Expr}{k k':Nat}{p p':Pos}{r:Option (List Str)}(hp:JK ts vs ρ.sc=some r):swappedStores [.Tuple ts k p] (.Tuple vs k' p') env=pure r:=by
 have hb:(env.blockKind != .function)=false:=by unfold Env.blockKind;rw [f.kind];rfl
 have e:swappedStores [.Tuple ts k p] (.Tuple vs k' p') env=Er ts vs (!(ts.length==2||ts.length==3)||vs.length != ts.length||env.blockKind != .function) (ts.filterMap (Q1 (fun x=>env.kindOf x==some .local) ((ts.head?.map (·.pos.line)).getD 0))):=rfl
 rw [e,hb,SO,show (fun x=>env.kindOf x==some .local)=fun x=>ρ.sc.lookup x==some .local from funext (uh f)]
 change (if (!(ts.length==2||ts.length==3)||vs.length != ts.length)=true then pure none
  else if (vs.any gQ)=true then pure none
  else if ((TG ts ρ.sc).length != ts.length||(TG ts ρ.sc).eraseDups.length != (TG ts ρ.sc).length)=true then pure none
  else if vs.all (foldedForSure 8)=true then pure none
  else if vs.all (constantsAlone 8)=true then (do unsupported "assign.tuple-of-constant-expressions:order-of-the-stores";pure (some (TG ts ρ.sc)))
  else pure (some (TG ts ρ.sc)):Sem (Option (List Str)))=pure r
 by_cases q1:(!(ts.length==2||ts.length==3)||vs.length != ts.length)=true
 ·rw [if_pos q1,Option.some.inj ((if_pos q1).symm.trans hp)]
 rw [if_neg q1];replace hp:=(if_neg q1).symm.trans hp;clear q1
 by_cases q1:(vs.any gQ)=true
 ·rw [if_pos q1,Option.some.inj ((if_pos q1).symm.trans hp)]
 rw [if_neg q1];replace hp:=(if_neg q1).symm.trans hp;clear q1
 by_cases q1:((TG ts ρ.sc).length != ts.length||(TG ts ρ.sc).eraseDups.length != (TG ts ρ.sc).length)=true
 ·rw [if_pos q1,Option.some.inj ((if_pos q1).symm.trans hp)]
 rw [if_neg q1];replace hp:=(if_neg q1).symm.trans hp;clear q1
 by_cases q1:vs.all (foldedForSure 8)=true
 ·rw [if_pos q1,Option.some.inj ((if_pos q1).symm.trans hp)]
 rw [if_neg q1];replace hp:=(if_neg q1).symm.trans hp;clear q1
 by_cases q1:vs.all (constantsAlone 8)=true
 ·cases (if_pos q1).symm.trans hp
 ·rw [if_neg q1,Option.some.inj ((if_neg q1).symm.trans hp)]
noncomputable def BJ:Expr->Bool
 | .Tuple ..=>true
 | _=>false
theorem xV(t:Expr):(∃ ts k p,t = .Tuple ts k p)\/BJ t=false:=dI (by rcases t with ⟨⟩<;>first|exact True.intro|exact⟨_,_,_,rfl⟩)
noncomputable def cM:Expr->Bool
 | .ListComp .. | .SetComp .. | .DictComp ..=>false
 | _=>true
theorem Kr:∀ e:Expr,cond (cM e) (∀ (t:Option Expr) (n:Nat) (env:Env),swapsWith e t n env=pure false) True:=by
 intro e
 rcases e with ⟨⟩<;>first|exact fun _ _ _=>(Eq.refl (pure false):(pure false:Sem Bool)=pure false)|exact True.intro
theorem aR{e:Expr}(h:cM e=true)(t:Option Expr)(n:Nat)(env:Env):swapsWith e t n env=pure false:=QD (Kr e) h t n env
theorem bc{st:St}{t:Expr}{v:V}{ρ ρ':Fr}(h:rB false st t v ρ=some ρ'):assignEach [t] env=[(false,assign t env)]:=GY h
noncomputable def Q5:Expr->Bool
 | .Tuple ..=>true
 | .List ..=>true
 | _=>false
theorem D5:∀ t:Expr,cond (Q5 t) True (∀ (e:Expr) (env:Env),swappedStores [t] e env=pure none):=by
 intro t
 rcases t with ⟨⟩<;>first|exact True.intro|exact fun _ _=>(Eq.refl (pure Option.none):(pure Option.none:Sem (Option (List Str)))=pure Option.none)
theorem E5:∀ e:Expr,cond (BJ e) True (∀ (ts:List Expr) (k:Nat) (p:Pos) (env:Env),swappedStores [.Tuple ts k p] e env=pure none/\swappedStores [.List ts p] e env=pure none):=by
 intro e
 rcases e with ⟨⟩<;>first|exact True.intro|exact fun _ _ _ _=>⟨(Eq.refl (pure Option.none):(pure Option.none:Sem (Option (List Str)))=pure Option.none),(Eq.refl (pure Option.none):(pure Option.none:Sem (Option (List Str)))=pure Option.none)⟩
theorem R5(t:Expr)(h:Q5 t=true):(∃ ts k p,t = .Tuple ts k p)\/∃ ts p,t = .List ts p:=QD (H:=True) (by clear h;rcases t with ⟨⟩<;>first|exact True.intro|exact .inl ⟨_,_,_,rfl⟩|exact .inr ⟨_,_,rfl⟩) h
theorem Gr{t e:Expr}(h:BJ e=false):swappedStores [t] e env=pure none:=by
 rcases BP (D5 t) with q|q
 ·rcases R5 t q with ⟨ts,k,p,rfl⟩|⟨ts,p,rfl⟩
  ·exact (pE (E5 e) h ts k p env).1
  ·exact (pE (E5 e) h ts 0 p env).2
 ·exact q e env
theorem Ir{st:St}{t e:Expr}{v:V}{ρ ρ':Fr}(h:BJ t=false)(hb:oE st t e v ρ=some ρ'):swappedStores [t] e env=pure none:=by
 rcases BP (D5 t) with q|q
 ·rcases R5 t q with ⟨ts,k,p,rfl⟩|⟨ts,p,rfl⟩
  ·exact VB h.symm
  ·exact wA hb
 ·exact q e env
theorem Y8:∀ t:Expr,cond (BJ t) True (∀ (st:St) (e:Expr) (v:V) (ρ:Fr),oE st t e v ρ=rB false st t v ρ):=by
 intro t
 rcases t with ⟨⟩<;>first|exact True.intro|exact fun _ _ _ _=>(Eq.refl Option.none:(Option.none:Option Fr)=Option.none)|exact fun _ _ _ _=>rfl
theorem Z8:∀ e:Expr,cond (BJ e) True (∀ (st:St) (ts:List Expr) (k:Nat) (p:Pos) (v:V) (ρ:Fr),oE st (.Tuple ts k p) e v ρ=rB false st (.Tuple ts k p) v ρ):=by
 intro e
 rcases e with ⟨⟩<;>first|exact True.intro|exact fun st ts k p v ρ=>(Eq.refl (rB false st (.Tuple ts k p) v ρ):rB false st (.Tuple ts k p) v ρ=rB false st (.Tuple ts k p) v ρ)
theorem zX{st:St}{t e:Expr}{v:V}{ρ:Fr}(h:BJ t=false):oE st t e v ρ=rB false st t v ρ:=pE (Y8 t) h st e v ρ
theorem b9{st:St}{t e:Expr}{v:V}{ρ:Fr}(h:BJ e=false):oE st t e v ρ=rB false st t v ρ:=by
 rcases xV t with ⟨ts,k,p,rfl⟩|q
 ·exact pE (Z8 e) h st ts k p v ρ
 ·exact zX q
theorem Hr{a:V}{f:List V->Option Fr}{ρ':Fr}(h:(match a with | .tup vs=>f vs|_=>.none)=some ρ'):∃ vs,a = .tup vs/\f vs=some ρ':=by
 rcases a with ⟨⟩<;>first|exact wA h|exact VB h|exact VB h.symm|(cases h;done)|exact⟨_,rfl,h⟩
theorem Y2(hh:A.handled=none){t e:Expr}{pos:Pos}(hn:swapsWith e (some t) pos.line env=pure false)(he:VA B prog w A F env ρ (eval e env) (evalE Γ e ρ)) :
  yC B prog w A F env ρ (exec (.Assign [t] e pos) env) (PB Γ (.Assign [t] e pos) ρ):=by
 intro s as st f i fl ρ' st' hv Q E hQ
 refine EA hv fun a st1 ha hv=>?_
 refine EA hv fun ρ1 st2 hb hv2=>?_
 obtain⟨hb,rfl⟩:=PE hb
 obtain⟨hv3,rfl⟩:=eB hv2
 cases hv3
 rw [PyProof.Rows.exec_Assign]
 refine rA (VD (rA ?_))
 rw [show swapsWithSole [t] e pos.line env=pure false from hn]
 refine JA ?_
 simp only [jL,if_false]
 refine rA (he s as st f i a _ ha _ _ fun y h1 as1 tk1 ry i1 e1 ht1=>?_)
 have f1:=f.on i e1
 have plain:∀ st0,swappedStores [t] e env=pure none->rB false st0 t a ρ=some ρ'->oA (model prog w) A (do let x <- swappedStores [t] e env;assignStores env y x (XH (fun x=>x.snd) (assignEach [t] env))) Q E { s with heap:=h1,toks:=tk1 }:=by
  intro st0 hs hbt
  rw [hs]
  refine rA (JA ?_)
  rw [bc hbt]
  show oA _ _ (do assign t env y;pure Flow.next) Q E _
  refine rA (rS hh t f1 i1 ry hbt fun h2 tk2 f2 i2 e2 ht2=>JA ?_)
  exact hQ .next h2 as1 tk2 .next (xP t hbt) f2 i2 (e1.own.trans e2) (jA ht1 ht2)
 have hb0:oE st' t e a ρ=some ρ':=hb
 rcases xV t with ⟨ts,k,p,rfl⟩|hne
 ·rcases xV e with ⟨es,k',p',rfl⟩|hne
  ·refine WB hb0 fun r hpl hb=>?_
   have hpo:=jp (k:=k) (k':=k') (p:=p) (p':=p') f1 hpl
   rcases r with _|names
   ·exact plain _ hpo hb
   ·obtain⟨vs,ea,hb⟩:=Hr hb
    rw [ea] at ry
    obtain⟨xs,ad,rfl,hta,_,_,rs⟩:=wM ry
    rw [hpo]
    refine rA (JA ?_)
    show oA _ _ (do rule "assign.swapped-stores";let items <- unpackItems (.ref ad) names.length none;assignInOrder (names.reverse.map fun n=>bindName env n) items.reverse;pure Flow.next) Q E _
    have hlen:names.length=xs.toArray.size:=by
     have:=N4 hb
     simp at this
     simp [this,rs.length]
    rw [hlen]
    refine rA (MM (rA (wpAny_unpackItems_tuple hh hta fun h' he'=>?_)))
    have hk:∀ a o,h1.get? a=some o->h'.get? a=some o:=fun a o q=>he' a o (iD (JF q)) q
    exact rA (zq (s:={ s with heap:=h',toks:=tk1 }) names.reverse (f1.keeps i1 hk) (i1.keeps hk) (rs.keeps hk).reverse hb fun h2 tk2 sc2 f2 i2 e2 ht2=>JA (hQ .next h2 as1 tk2 .next sc2 f2 i2 ((e1.own.trans (qA.keeps hk)).trans e2) (jA ht1 ht2)))
  ·exact plain st' (Gr hne) ((b9 hne).symm.trans hb0)
 ·exact plain st' (Ir hne hb0) ((zX hne).symm.trans hb0)
end Ev
end
section
namespace Ev
variable{B:CA}{prog:pA}{w:eA}{A:xA}{F:cA->Prop}{s:iA}{as:List cA}{st:St}{Γ:Ctx}{env:Env}{ρ:Fr}
theorem Bq{l:cA}{items:Array dA}{k:Int}{t:Tok}{v:dA}{Q:Unit->iA->Prop}{E:dA->iA->Prop}(hl:jG s.heap l items)
  (h0:0<=k) (hfit:k<2^63) (hn:k<items.size)
  (hQ:∀ h',jG h' l (items.setIfInBounds k.toNat v)->SM l s.heap h'->Q () { s with heap:=h' }) :
  oA (model prog w) A (setItem (.ref l) (.int k t) v) Q E s:=by
 obtain⟨o,ne,ho,hc,hdn,hd⟩:=id hl
 have hl':=hl.isList
 unfold setItem
 try with_reducible refine HF ?_
 first|refine rA (JA ?_)|skip
 refine rA (wpAny_sequenceKey hl'.typeIs (by decide) ?_)
 refine rA (wpAny_callSpecial?_slot (name:=nA "__setitem__") hl'.typeIs slot_list_setitem
  (nR slot_list_setitem hl'.typeIs entry_list_setitem ?_ (args_list_setitem _ _ _)))
 show oA _ _ (Builtin.List.listSubscript? (.int k t)>>=_) _ _ s
 refine rA (wpAny_listSubscript_int (fitsIndex_of h0 hfit) ?_)
 clear hfit
 obtain⟨j,rfl⟩:=gL h0
 have hj:j<items.size:=kD.mp (by assumption)
 have hx':items[j]? = some items[j]:=Array.getElem?_eq_getElem hj
 show oA _ _ ((seqItemAt l j>>=fun r=>pure (r.map (j,·)))>>=_) _ _ s
 refine rA (rA (wpAny_seqItemAt ho hd (JA ?_)))
 rw [hx']
 show oA _ _ (setSeqItemAt l j v>>=_) _ _ s
 obtain⟨n',hd'⟩:=Obj.data_mapSeq hd (·.setIfInBounds j v)
 have hfin:jG (s.heap.update l (Obj.mapSeq (·.setIfInBounds j v))) l (items.setIfInBounds j v):=by
  refine⟨_,n',Heap.get?_update_self _ ho (Obj.isFreed_of_seq hd'),(Obj.cls_mapSeq ..).trans hc,?_,hd'⟩
  obtain⟨c,d,dt,sl⟩:=o
  subst hd
  exact hdn
 refine rA (wpAny_setSeqItemAt ho hd ?_)
 first
  | exact rA (JA (JA ⟨.none,rfl,JA (hQ _ hfin (SM.update ..))⟩))
  | exact JA ⟨.none,rfl,JA (hQ _ hfin (SM.update ..))⟩
theorem vA.set{h:Heap}{vs:List V}{xs:List dA}(k:Nat){v:V}{x:dA}(r:vA B h as F vs xs)(q:kA B h as F v x):vA B h as F (vs.set k v) (xs.set k x):=by
 refine r.ind (P:=fun vs xs=>∀ k,vA B h as F (vs.set k v) (xs.set k x)) (fun _=>.nil) (fun a rs ih k=>?_) k
 rcases k with _|k
 ·exact .cons q rs
 ·exact .cons a (ih k)
theorem Q4{i:Nat}{o:O}{st st':St}(h:setO i o st=some ((),st')):i<st.length/\st'=st.set i o:=by
 refine VF h fun h1 h2=>?_
 cases h2
 exact⟨h1,rfl⟩
theorem S0{st:St}{r:Nat}{vs:List V}(h:jJ st r=some vs):st[r]? = some (.list vs):=by
 unfold jJ at h
 rcases q:st[r]? with _|o
 ·rw [q] at h;exact wA h
 ·rw [q] at h
  cases o
  cases h
  rfl
theorem qr{o j v:V}{st st':St}(h:WK o j v st=some ((),st')):∃ r n k vs,o = .ref r/\j = .int n/\st[r]? = some (.list vs)/\0<=n/\aD vs.length n=some k/\r<st.length/\st'=st.set r (.list (vs.set k v)):=by
 refine EA h fun r st1 h1 h2=>?_
 obtain⟨k1,rfl⟩:=cF h1
 refine EA h2 fun n st2 h3 h4=>?_
 obtain⟨k3,rfl⟩:=cF h3
 refine EA h4 fun vs st3 h5 h6=>?_
 obtain⟨k5,rfl⟩:=PE h5
 refine EA h6 fun k st4 h7 h8=>?_
 obtain⟨k7,rfl⟩:=cF h7
 refine VF k7 fun h9 h10=>?_
 obtain⟨h11,h12⟩:=Q4 h8
 exact⟨r,n,k,vs,N3 k1,xE k3,S0 k5,h9,h10,h11,h12⟩
theorem nr{o j v:V}{x y z:dA}{st':St}(i:Inv B s.heap as F st)(ro:kA B s.heap as F o x)(rj:kA B s.heap as F j y)(rv:kA B s.heap as F v z)(hv:WK o j v st=some ((),st'))
  {Q:Unit->iA->Prop}{E:dA->iA->Prop} (hQ:∀ h',Inv B h' as F st'->qA no s.heap as h' as->Q () { s with heap:=h' }):oA (model prog w) A (setItem x y z) Q E s:=by
 obtain⟨r,n,k,vs,rfl,rfl,h1,h0,hk,hr,rfl⟩:=qr hv
 obtain⟨ad,rfl,e⟩:=AG ro
 obtain⟨t,rfl⟩:=DC rj
 obtain⟨xs,hp,rs,hc⟩:=(i.at_ r ad _ e h1).out
 have hcap:vs.length<=65536:=hc
 unfold aD at hk
 rw [if_pos hc,if_pos h0] at hk
 refine VF hk fun hlt hk=>?_
 obtain rfl:=Option.some.inj hk
 refine Bq hp h0 (NT hlt hcap) (by rw [WG,<- rs.length];exact hlt) fun h' hp' hs'=>?_
 have hk:∀ a o,a≠ad->s.heap.get? a=some o->h'.get? a=some o:=fun a o q e=>(hs'.2 a q).trans e
 have e2:(xs.set n.toNat z).toArray=xs.toArray.setIfInBounds n.toNat z:=by simp
 refine hQ h' (i.atS e hk (.list (xs:=xs.set n.toNat z) (e2▸hp') ((rs.set _ rv).atS e hk) ((kL ..).symm▸hc))) (qA.atS e hk ?_)
 obtain⟨o,_,ho,_⟩:=hp'
 exact⟨o,ho⟩
theorem Y9{e:Expr}(h:GH e=true):cM e=true:=QD (H:=True) (by clear h;rcases e with ⟨⟩<;>first|exact True.intro|exact (Eq.refl true:true=true)) h
abbrev nX(Γ:Ctx)(op:dC)(o j e:Expr)(ρ:Fr):mA (Fl×Fr):=do
 let ov <- evalE Γ o ρ
 let iv <- evalE Γ j ρ
 let a <- rd fun st=>CC st ov iv
 let b <- evalE Γ e ρ
 let c <- gt (hH op a b)
 WK ov iv c
 pure (.next,ρ)
theorem p7(Γ:Ctx)(op:dC)(o e:Expr)(ρ:Fr)(sp:Pos):∀ j:Expr,cond (zJ j) True (dS Γ op e ρ (.Subscript o j sp)=nX Γ op o j e ρ):=by
 intro j
 rcases j with ⟨⟩<;>first|exact True.intro|exact rfl
theorem q7{op:dC}{o j e:Expr}{sp pos:Pos}{st st':St}{r:Fl×Fr}(h:PB Γ (.AugAssign (.Subscript o j sp) op e pos) ρ st=some (r,st')):(∀ l u t p,j ≠ .Slice l u t p)/\nX Γ op o j e ρ st=some (r,st'):=by
 rcases dI (b:=zJ j) (G:=∃ l u t p,j = .Slice l u t p) (by clear h;rcases j with ⟨⟩<;>first|exact True.intro|exact⟨_,_,_,_,rfl⟩) with ⟨_,_,_,_,rfl⟩|q
 ·exact (YC (st:=st) h).elim
 ·exact⟨fun _ _ _ _ e=>(by rw [e] at q;exact VB q.symm),(congrFun (pE (p7 Γ op o e ρ sp j) q) st).symm.trans h⟩
theorem ko{e:Expr}{pos:Pos}(hc:GH e=true->VA B prog w A F env ρ (eval e env) (evalE Γ e ρ)):yC B prog w A F env ρ (exec (.Expr e pos) env) (PB Γ (.Expr e pos) ρ):=by
 intro s as st f i fl ρ' st' hv Q E hQ
 refine iC (st:=st) hv fun hcall hv0=>?_
 refine EA hv0 fun a st1 ha hv1=>?_
 obtain⟨hv2,rfl⟩:=eB hv1
 cases hv2
 refine wpAny_Expr_any (hc hcall s as st f i a _ ha _ _ fun y h1 as1 tk1 ry i1 e1 ht1=>?_) ?_ ?_
 ·exact hQ .next h1 as1 tk1 .next rfl (f.on i e1) i1 e1.own ht1
 ·unfold interactive;rw [f.kind];rfl
 ·exact aR (Y9 hcall) _ _ _
theorem xo{e:Expr}{pos:Pos}(he:VA B prog w A F env ρ (eval e env) (evalE Γ e ρ)):yC B prog w A F env ρ (exec (.Return (some e) pos) env) (PB Γ (.Return (some e) pos) ρ):=by
 intro s as st f i fl ρ' st' hv Q E hQ
 refine EA hv fun a st1 ha hv1=>?_
 obtain⟨hv2,rfl⟩:=eB hv1
 cases hv2
 refine wpAny_Return_some (he s as st f i a _ ha _ _ fun y h1 as1 tk1 ry i1 e1 ht1=>?_)
 exact hQ _ h1 as1 tk1 (.ret ry) rfl (f.on i e1) i1 e1.own ht1
theorem Wn(g:gP B prog w Γ){x:Str}{np pos:Pos}{op:dC}{e:Expr}(he:VA B prog w A F env ρ (eval e env) (evalE Γ e ρ)) :
  yC B prog w A F env ρ (exec (.AugAssign (.Name x np) op e pos) env) (PB Γ (.AugAssign (.Name x np) op e pos) ρ):=by
 intro s as st f i fl ρ' st' hv Q E hQ
 refine EA hv fun a st1 ha hv1=>?_
 refine EA hv1 fun b st2 hb hv2=>?_
 refine EA hv2 fun c st3 hc hv3=>?_
 refine EA hv3 fun ρ1 st4 hr hv4=>?_
 obtain⟨hc',rfl⟩:=cF hc
 obtain⟨hr',rfl⟩:=cF hr
 obtain⟨hv5,rfl⟩:=eB hv4
 cases hv5
 refine wpAny_AugAssign_Name (hV g f i a st1 ha _ _ fun y h1 as1 tk1 ry i1 e1 ht1=>?_)
 have f1:=f.on i e1
 refine he _ as1 st1 f1 i1 b _ hb _ _ fun z h2 as2 tk2 rz i2 e2 ht2=>?_
 have f2:=f1.on i1 e2
 refine pX (e2.repv ry) rz hc' fun u tk3 ht3 ru=>?_
 refine WQ f2 i2 (ru _ _ _) hr' fun h3 dE f3 i3 e3 ht4=>?_
 have sc:ρ'.sc=ρ.sc:=by obtain⟨_,rfl⟩:=Fr.set_some hr';rfl
 exact hQ .next h3 as2 dE .next sc f3 i3 ((e1.trans e2).own.trans e3) (jA ht1 (jA ht2 (jA ht3 ht4)))
theorem s7(j:Expr):cond (zJ j) (∃ l u t p,j = .Slice l u t p) True:=by
 rcases j with ⟨⟩<;>first|exact True.intro|exact⟨_,_,_,_,rfl⟩
theorem r7:∀ j:Expr,cond (zJ j) True (∀ ov iv new:dA,augStore j ov iv new=(do holding [new,ov,iv] (setItem ov iv new);release [new,ov,iv] [];pure .next)):=by
 intro j
 rcases j with ⟨⟩<;>first|exact True.intro|exact fun _ _ _=>rfl
theorem Xn(hdk:ED B prog w){o j:Expr}{sp pos:Pos}{op:dC}{e:Expr}(ho:VA B prog w A F env ρ (eval o env) (evalE Γ o ρ))(hj:VA B prog w A F env ρ (eval j env) (evalE Γ j ρ))(he:VA B prog w A F env ρ (eval e env) (evalE Γ e ρ)) :
  yC B prog w A F env ρ (exec (.AugAssign (.Subscript o j sp) op e pos) env) (PB Γ (.AugAssign (.Subscript o j sp) op e pos) ρ):=by
 intro s as st f i fl ρ' st' hv Q E hQ
 obtain⟨hns,hv0⟩:=q7 hv
 clear hv
 refine EA hv0 fun ov st1 h1 hv1=>?_
 refine EA hv1 fun iv st2 h2 hv2=>?_
 refine EA hv2 fun a st3 h3 hv3=>?_
 refine EA hv3 fun b st4 h4 hv4=>?_
 refine EA hv4 fun c st5 h5 hv5=>?_
 refine EA hv5 fun u st6 h6 hv6=>?_
 obtain⟨h3',rfl⟩:=PE h3
 obtain⟨h5',rfl⟩:=cF h5
 obtain⟨hv7,rfl⟩:=eB hv6
 cases hv7
 refine wpAny_AugAssign_SubscriptAny (ho s as st f i ov st1 h1 _ _ fun x g1 as1 tk1 ro i1 e1 ht1=>?_) ?_
 ·have f1:=f.on i e1
  refine hj _ as1 st1 f1 i1 iv _ h2 _ _ fun y g2 as2 tk2 rj i2 e2 ht2=>?_
  have f2:=f1.on i1 e2
  obtain⟨T,id,_,_,hg⟩:=ZZ hdk (prog:=prog) (w:=w) (A:=A) (s:={ s with heap:=g2,toks:=tk2 }) (Q:=fun old s₃=>oA (model prog w) A (eval e env) (fun v s₄=>oA (model prog w) A (inplaceOp op old v) (fun new s₅=>oA (model prog w) A (setItem x y new) (fun x=>Q Flow.next) E s₅) E s₄) E s₃) (E:=E) i2 rj (e2.repv ro) h3' fun z tk3 rz ht3=>by
   refine he _ as2 _ f2 i2 b _ h4 _ _ fun q g3 as3 dE rq i3 e3 ht4=>?_
   have f3:=f2.on i2 e3
   refine pX (e3.repv rz) rq h5' fun u tk5 ht5 ru=>?_
   refine nr (s:={ s with heap:=g3,toks:=tk5 }) i3 ((e2.trans e3).repv ro) (e3.repv rj) (ru _ _ _) h6 fun h' i4 e4=>?_
   exact hQ .next h' as3 tk5 .next rfl (f3.on i3 e4) i4 (((e1.trans e2).trans e3).trans e4).own (jA ht1 (jA ht2 (jA ht3 (jA ht4 ht5))))
  exact hg
 ·intro ov iv new
  exact (dI (s7 j)).elim (fun⟨l,u,t,p,e⟩=>absurd e (hns l u t p)) fun q=>pE (r7 j) q ov iv new
theorem po{t:Expr}{body orelse:List IA}{pos:Pos}(ht:lD B prog w A F env ρ (PySem.isTrue t env (eval t env)) (IB Γ t ρ (evalE Γ t ρ)))
  (hb:yC B prog w A F env ρ (execs body env) (XA Γ body ρ)) (ho:yC B prog w A F env ρ (execs orelse env) (XA Γ orelse ρ)):yC B prog w A F env ρ (exec (.If t body orelse pos) env) (PB Γ (.If t body orelse pos) ρ):=by
 intro s as st f i fl ρ' st' hv Q E hQ
 refine EA hv fun c st1 hc hv1=>?_
 refine wpAny_If (ht s as st f i c st1 hc _ _ fun x h1 as1 tk1 rx i1 e1 ht1=>?_)
 have rx':c=x:=rx
 subst rx'
 rcases c with _|_
 ·exact ho _ as1 st1 (f.on i e1) i1 fl ρ' st' hv1 _ _ fun y h2 as2 tk2 ry sc f2 i2 e2 ht2=>hQ y h2 as2 tk2 ry sc f2 i2 (e1.own.trans e2) (jA ht1 ht2)
 ·exact hb _ as1 st1 (f.on i e1) i1 fl ρ' st' hv1 _ _ fun y h2 as2 tk2 ry sc f2 i2 e2 ht2=>hQ y h2 as2 tk2 ry sc f2 i2 (e1.own.trans e2) (jA ht1 ht2)
theorem Fo:yC B prog w A F env ρ (execs [] env) (XA Γ [] ρ):=by
 intro s as st f i fl ρ' st' hv Q E hQ
 obtain⟨hv,rfl⟩:=eB hv
 cases hv
 exact JA (hQ .next s.heap as s.toks .next rfl f i (qA.refl _ _ _) (sA _))
set_option backward.match.sparseCases true in
theorem Do{a:IA}{r:List IA}(ha:yC B prog w A F env ρ (exec a env) (PB Γ a ρ))(hr:∀ ρ',ρ'.sc=ρ.sc->yC B prog w A F env ρ' (execs r env) (XA Γ r ρ')):yC B prog w A F env ρ (execs (a::r) env) (XA Γ (a::r) ρ):=by
 intro s as st f i fl ρ' st' hv Q E hQ
 obtain⟨⟨fl1,ρ1⟩,st1,h1,hv1⟩:=FM hv
 show oA _ _ (do match <- exec a env with | .next=>execs r env|f=>pure f) Q E s
 refine rA (ha s as st f i fl1 ρ1 st1 h1 _ _ fun x g1 as1 tk1 rx sc1 f1 i1 e1 ht1=>?_)
 cases rx with
 | next =>
  refine hr ρ1 sc1 _ as1 st1 f1 i1 fl ρ' st' hv1 _ _ fun y h2 as2 tk2 ry sc f2 i2 e2 ht2=>?_
  exact hQ y h2 as2 tk2 ry (sc.trans sc1) f2 i2 (e1.trans (sc1▸e2)) (jA ht1 ht2)
 | ret r =>
  obtain⟨hv2,rfl⟩:=eB hv1
  cases hv2
  exact JA (hQ _ g1 as1 tk1 (.ret r) sc1 f1 i1 e1 ht1)
end Ev
end
section
namespace Ev
variable{B:CA}{prog:pA}{w:eA}{A:xA}{F:cA->Prop}{s:iA}{as:List cA}{st:St}{Γ:Ctx}{env:Env}{ρ:Fr}
noncomputable def OU:List String:=["enumerate","zip","dict_itemiterator","dict_reverseitemiterator","odict_iterator","itertools.zip_longest","itertools.pairwise"]
set_option backward.match.sparseCases true in
theorem I0{t:Expr}{I:cA}{y:dA}{o:Obj}{n:String}{Q:Unit->iA->Prop}{E:dA->iA->Prop}(ho:s.heap.get? I=some o)(hc:o.cls = .type n)(hn:OU.contains n=false)(hQ:Q () s) :
  oA (model prog w) A (letOwnedTupleGo t (.ref I) y) Q E s:=by
 have key:oA (model prog w) A (do
   let (.ref r,.ref a):=(dA.ref I,y)|return
   let o <- load r
   match o.cls,o.data with
   | .type n,.fields vs =>
    if OU.contains n&&vs[0]? == some (rawInt a) then
     rule "for.unpacks-the-owned-tuple"
     updateField r 0 .none
   | _,_=>pure ():Sem Unit) Q E s:=by
  rcases y with ⟨⟩<;>first|exact JA hQ|skip
  refine rA (wpAny_load ho ?_)
  rw [hc]
  rcases o.data with ⟨⟩<;>first|exact JA hQ|skip
  simp only [hn,TO,jL,if_false]
  exact JA hQ
 unfold letOwnedTupleGo
 rcases t with ⟨⟩<;>first|exact JA hQ|exact key
structure KG(B:CA)(prog:pA)(w:eA)(t:Expr)(I:cA)(L:List cA)(vs:List V)(ws:List (Nat×O))(P:Nat->Heap->List cA->(cA->Prop)->Prop):Prop where
 frame:∀ i h as F h' as' F',P i h as F->as <+: as'->(∀ a o,h.get? a=some o->a∉as->¬ F a->h'.get? a=some o/\a∉as'/\¬ F' a)->(∀ a∈L,∀ o,h.get? a=some o->h'.get? a=some o)->P i h' as' F'
 live:∀ i h as F,P i h as F->∀ a∈L,∃ o,h.get? a=some o
 item:∀ i v (A:xA) (s:iA) (as:List cA) (F:cA->Prop) (st:St) (Q:Option dA->iA->Prop) (E:dA->iA->Prop),A.handled=none->vs[i]? = some v->P i s.heap as F->Inv B s.heap as F st->(∀ a∈L,F a) ->
  (∀ p∈ws,st[p.1]? = some p.2) ->
  (∀ y h' tk,(∀ b o,b∉L->s.heap.get? b=some o->h'.get? b=some o)->(∀ a∈L,∃ o,h'.get? a=some o)->kA B h' as F v y->s.toks<=tk ->
   (∀ (Q':Unit->iA->Prop) (E':dA->iA->Prop),(∀ h'',(∀ b o,b∉L->h'.get? b=some o->h''.get? b=some o)->P (i+1) h'' as F->Q' () { s with heap:=h'',toks:=tk }) ->
    oA (model prog w) A (letOwnedTupleGo t (.ref I) y) Q' E' { s with heap:=h',toks:=tk })->Q (some y) { s with heap:=h',toks:=tk }) ->
  oA (model prog w) A (pyNext (.ref I)) Q E s
 done:∀ (A:xA) (s:iA) (as:List cA) (F:cA->Prop) (st:St) (Q:Option dA->iA->Prop) (E:dA->iA->Prop),A.handled=none->P vs.length s.heap as F->Inv B s.heap as F st->(∀ p∈ws,st[p.1]? = some p.2) ->
  (∀ h' tk,(∀ b o,b∉L->s.heap.get? b=some o->h'.get? b=some o)->s.toks<=tk->Q none { s with heap:=h',toks:=tk })->oA (model prog w) A (pyNext (.ref I)) Q E s
 self:∀ i (A:xA) (s:iA) (as:List cA) (F:cA->Prop) (Q:dA->iA->Prop) (E:dA->iA->Prop),A.handled=none->P i s.heap as F->Q (.ref I) s->oA (model prog w) A (pyIter (.ref I)) Q E s
theorem KG.ofWalks{t:Expr}{I:cA}{fp:List cA}{n:Nat}{Pi:Nat->dA->Prop}{St:Nat->Heap->Prop}{vs:List V}(W:∀ A:xA,A.handled=none->Walks prog w A I fp [I] n Pi St)(hn:n=vs.length)
  (hc:∀ i h,St i h->∃ o T,h.get? I=some o/\o.cls = .type T/\OU.contains T=false) :
  KG B prog w t I [I] vs [] (fun i h as F=>St i h/\(∀ b∈fp,b=I\/((∃ o,h.get? b=some o)/\b∉as/\¬ F b))/\∀ i v y,vs[i]? = some v->Pi i y->kA B h as F v y) where
 frame:=fun i h as F h' as' F' ⟨p1,p2,p3⟩ hp hk hL=>by
  refine⟨(W {} rfl).frame i h h' p1 fun b hb o ho=>?_,fun b hb=>?_,fun i v y h1 h2=>(p3 i v y h1 h2).mono hp hk⟩
  ·rcases p2 b hb with rfl|⟨_,q1,q2⟩
   ·exact hL b (by simp) o ho
   ·exact (hk b o ho q1 q2).1
  ·rcases p2 b hb with rfl|⟨⟨o,ho⟩,q1,q2⟩
   ·exact .inl rfl
   ·exact .inr ⟨⟨o,(hk b o ho q1 q2).1⟩,(hk b o ho q1 q2).2⟩
 live:=fun i h as F ⟨p1,_,_⟩ a ha=>by
  rw [BA.mp ha]
  obtain⟨o,_,ho,_⟩:=hc i h p1
  exact⟨o,ho⟩
 item:=fun i v A s as F st Q E hh hv ⟨p1,p2,p3⟩ inv hL _ hQ=>by
  have hi:i<n:=by rw [hn];exact (sF.mp hv).1
  refine QE (n:=s.toks) (sA _) ((W A hh).item i s _ _ hi p1 fun y h' tk hy p1' hk htk=>?_)
  have hk':∀ b o,b∉[I]->s.heap.get? b=some o->h'.get? b=some o:=hk
  obtain⟨oI,T,hoI,hcI,hTI⟩:=hc _ h' p1'
  have mono:∀ a o,s.heap.get? a=some o->a∉as->¬ F a->h'.get? a=some o/\a∉as/\¬ F a:=fun a o ho q1 q2=>⟨hk' a o (fun q=>q2 (hL a q)) ho,q1,q2⟩
  have p2':∀ b∈fp,b=I\/((∃ o,h'.get? b=some o)/\b∉as/\¬ F b):=fun b hb=>by
   rcases p2 b hb with rfl|⟨⟨o,ho⟩,q1,q2⟩
   ·exact .inl rfl
   ·exact .inr ⟨⟨o,(mono b o ho q1 q2).1⟩,q1,q2⟩
  have p3':∀ i v y,vs[i]? = some v->Pi i y->kA B h' as F v y:=fun i v y h1 h2=>(p3 i v y h1 h2).mono (wB _) mono
  refine hQ y h' tk hk' (fun a ha=>by rw [BA.mp ha];exact⟨_,hoI⟩) (p3' i v y hv hy) htk fun Q' E' hQ'=>?_
  exact I0 (s:={ s with heap:=h',toks:=tk }) hoI hcI hTI (hQ' h' (fun _ _ _ e=>e) ⟨p1',p2',p3'⟩)
 done:=fun A s as F st Q E hh ⟨p1,_,_⟩ inv _ hQ=>by
  refine QE (n:=s.toks) (sA _) ((W A hh).done s _ _ (hn▸p1) fun h' tk hk htk=>?_)
  exact hQ h' tk hk htk
 self:=fun i A s as F Q E hh ⟨p1,_,_⟩ hQ=>(W A hh).self i s Q E p1 hQ
end Ev
end
section
namespace Ev
variable{B:CA}{prog:pA}{w:eA}{A:xA}{F:cA->Prop}{s:iA}{as:List cA}{st:St}{Γ:Ctx}{env:Env}{ρ:Fr}
def Fu(F:cA->Prop)(L:List cA)(a:cA):Prop:=F a\/a∈L
noncomputable def iG(B:CA)(prog:pA)(w:eA)(t:Expr)(xs:List V)(ws:List (Nat×O))(F:cA->Prop)(as:List cA)(h h':Heap)(I:cA):Prop :=
 ∃ L P,KG B prog w t I L xs ws P/\P 0 h' as (Fu F L)/\(∀ a o,h.get? a=some o->h'.get? a=some o)/\(∀ a∈L,h.get? a=none)
theorem WL{h:Heap}{a:cA}{o:Obj}(e:h.get? a=some o):a≠h.objs.size:=iD (JF e)
theorem FQ{h:Heap}{a:cA}{o:Obj}(e:h.get? a=some o)(hF:¬ F a):¬ Fu F [h.objs.size] a:=fun q=>q.elim hF fun q=>WL e (BA.mp q)
theorem cH{h h':Heap}{L:List cA}(hk:∀ a o,h.get? a=some o->h'.get? a=some o)(hL:∀ a∈L,h.get? a=none):∀ a o,h.get? a=some o->a∉as->¬ F a->h'.get? a=some o/\a∉as/\¬ Fu F L a :=
 fun a o e h1 h2=>⟨hk a o e,h1,fun q=>q.elim h2 fun q=>by rw [hL a q] at e;exact wA e⟩
theorem O8{t:Expr}{vs:List V}{xs:List dA}{l:cA}(hl:s.heap.IsList l xs.toArray)(ha:l∉as)(hF:¬ F l)(rs:vA B s.heap as F vs xs) :
  iG B prog w t vs [] F as s.heap (s.heap.push { cls:=.type "list_iterator",data:=.fields #[.ref l,.int 0 0] }) s.heap.objs.size:=by
 have hl':=hl
 obtain⟨o,ho,_⟩:=hl'
 have hne:l≠s.heap.objs.size:=WL ho
 have hk:=UC s.heap { cls:=.type "list_iterator",data:=.fields #[.ref l,.int 0 0] }
 have hL:∀ a∈[s.heap.objs.size],s.heap.get? a=none:=fun a q=>by rw [BA.mp q];exact RC _
 refine⟨[s.heap.objs.size],_,KG.ofWalks (fun A hh=>Walks.list hh s.heap.objs.size l hne xs.toArray) (by simp [rs.length]) (fun i h p=>?_),⟨⟨⟨_,vD _ rfl,rfl,rfl⟩,hl.push _⟩,fun b hb=>?_,fun i v y h1 h2=>?_⟩,hk,hL⟩
 ·obtain⟨o,ho,hc,_⟩:=p.1;exact⟨o,_,ho,hc,by decide⟩
 ·rcases bB.mp hb with rfl|hb
  ·exact .inl rfl
  ·rw [BA.mp hb];exact .inr ⟨⟨o,hk _ _ ho⟩,ha,FQ ho hF⟩
 ·obtain⟨x,hx,r⟩:=rs.get h1
  simp at h2
  rw [hx] at h2;cases h2
  exact r.mono (wB _) (cH hk hL)
theorem S8{t:Expr}{vs:List V}{xs:List dA}{l:cA}(hl:s.heap.IsTuple l xs.toArray)(ha:l∉as)(hF:¬ F l)(rs:vA B s.heap as F vs xs) :
  iG B prog w t vs [] F as s.heap (s.heap.push { cls:=.type "tuple_iterator",data:=.fields #[.ref l,.int 0 0] }) s.heap.objs.size:=by
 have hl':=hl
 obtain⟨o,ho,_⟩:=hl'
 have hne:l≠s.heap.objs.size:=WL ho
 have hk:=UC s.heap { cls:=.type "tuple_iterator",data:=.fields #[.ref l,.int 0 0] }
 have hL:∀ a∈[s.heap.objs.size],s.heap.get? a=none:=fun a q=>by rw [BA.mp q];exact RC _
 refine⟨[s.heap.objs.size],_,KG.ofWalks (fun A hh=>Walks.tuple hh s.heap.objs.size l hne xs.toArray) (by simp [rs.length]) (fun i h p=>?_),⟨⟨⟨_,vD _ rfl,rfl,rfl⟩,hl.push _⟩,fun b hb=>?_,fun i v y h1 h2=>?_⟩,hk,hL⟩
 ·obtain⟨o,ho,hc,_⟩:=p.1;exact⟨o,_,ho,hc,by decide⟩
 ·rcases bB.mp hb with rfl|hb
  ·exact .inl rfl
  ·rw [BA.mp hb];exact .inr ⟨⟨o,hk _ _ ho⟩,ha,FQ ho hF⟩
 ·obtain⟨x,hx,r⟩:=rs.get h1
  simp at h2
  rw [hx] at h2;cases h2
  exact r.mono (wB _) (cH hk hL)
theorem Q8{t:Expr}{a b:Int}{n:Nat}(hn:n=(b - a).toNat) :
  iG B prog w t ((UA n).map fun (i:Nat)=>V.int (a+i)) [] F as s.heap (s.heap.push { cls:=.type "range_iterator",data:=.fields #[rawInt a,rawInt n,rawInt 1] }) s.heap.objs.size:=by
 have hk:=UC s.heap { cls:=.type "range_iterator",data:=.fields #[rawInt a,rawInt n,rawInt 1] }
 have hL:∀ a∈[s.heap.objs.size],s.heap.get? a=none:=fun a q=>by rw [BA.mp q];exact RC _
 refine⟨[s.heap.objs.size],_,KG.ofWalks (fun A hh=>Walks.range hh s.heap.objs.size a 1 n) (by simp) (fun i h p=>⟨_,_,p,rfl,by decide⟩),⟨?_,fun b hb=>.inl (BA.mp hb),fun i v y h1 h2=>?_⟩,hk,hL⟩
 ·show (s.heap.push _).get? _=some _
  rw [vD _ rfl]
  simp
 ·obtain⟨u,rfl⟩:=h2
  rw [UE] at h1
  obtain⟨k,hk1,rfl⟩:=MC.mp h1
  have hk2:k=i:=by
   obtain⟨h3,h4⟩:=sF.mp hk1
   rw [<-h4,List.getElem_range]
  subst hk2
  rw [Int.mul_one]
  exact .int _ _
theorem wX{t:Expr}{l:List Nat}{k:Tok}{T:String}(hl:∀ c∈l,c<0x110000)(hT:T = "str_ascii_iterator" \/ T = "str_iterator") :
  iG B prog w t (l.map fun c=>V.str [c]) [] F as s.heap (s.heap.push { cls:=.type T,data:=.fields #[.str (S l) k,.int 0 0] }) s.heap.objs.size:=by
 have hk:=UC s.heap { cls:=.type T,data:=.fields #[.str (S l) k,.int 0 0] }
 have hL:∀ a∈[s.heap.objs.size],s.heap.get? a=none:=fun a q=>by rw [BA.mp q];exact RC _
 have rep:∀ h as F i v y,(l.map fun c=>V.str [c])[i]? = some v->SignAt (S l) i y->kA B h as F v y:=by
  intro h as F i v y h1 h2
  obtain⟨c,u,h3,rfl⟩:=h2
  simp [S] at h3
  simp [h3] at h1
  subst h1
  exact .str _ _ fun d hd=>by rw [BA.mp hd];exact hl c (DD h3)
 rcases hT with rfl|rfl
 ·exact⟨[s.heap.objs.size],_,KG.ofWalks (fun A hh=>Walks.strAscii hh s.heap.objs.size (S l) k) (by simp [S]) (fun i h p=>by obtain⟨o,ho,hc,_⟩:=p;exact⟨o,_,ho,hc,by decide⟩),
   ⟨⟨_,vD _ rfl,rfl,rfl⟩,fun b hb=>.inl (BA.mp hb),fun i v y h1 h2=>rep _ _ _ i v y h1 h2⟩,hk,hL⟩
 ·exact⟨[s.heap.objs.size],_,KG.ofWalks (fun A hh=>Walks.strWide hh s.heap.objs.size (S l) k) (by simp [S]) (fun i h p=>by obtain⟨o,ho,hc,_⟩:=p;exact⟨o,_,ho,hc,by decide⟩),
   ⟨⟨_,vD _ rfl,rfl,rfl⟩,fun b hb=>.inl (BA.mp hb),fun i v y h1 h2=>rep _ _ _ i v y h1 h2⟩,hk,hL⟩
theorem M8{t:Expr}{ks:List (List Nat)}{kvs:List (Str×dA)}{d:cA}{ep:Nat}(hm:s.heap.DictAt (strKind prog w) d kvs ep)(ha:d∉as)(hF:¬ F d)(e:kvs.map (·.1)=ks.map S)(hl:∀ k∈ks,∀ c∈k,c<0x110000) :
  iG B prog w t (ks.map .str) [] F as s.heap (s.heap.push { cls:=.type "dict_keyiterator",data:=.fields #[.ref d,.int 0 0,.int kvs.length 0,.int ep 0] }) s.heap.objs.size:=by
 obtain⟨o,es,ho,hr⟩:=id hm
 have hne:d≠s.heap.objs.size:=WL ho
 have hk:=UC s.heap { cls:=.type "dict_keyiterator",data:=.fields #[.ref d,.int 0 0,.int kvs.length 0,.int ep 0] }
 have hL:∀ a∈[s.heap.objs.size],s.heap.get? a=none:=fun a q=>by rw [BA.mp q];exact RC _
 have hn:kvs.length=(ks.map V.str).length:=by have:=congrArg lL e;simpa using this
 refine⟨[s.heap.objs.size],_,KG.ofWalks (fun A hh=>Walks.dictKeys (knd:=strKind prog w) hh s.heap.objs.size d hne kvs ep) hn (fun i h p=>?_),⟨⟨⟨_,vD _ rfl,rfl,rfl⟩,hm.push _⟩,fun b hb=>?_,fun i v y h1 h2=>?_⟩,hk,hL⟩
 ·obtain⟨o,ho,hc,_⟩:=p.1;exact⟨o,_,ho,hc,by decide⟩
 ·rcases bB.mp hb with rfl|hb
  ·exact .inl rfl
  ·rw [BA.mp hb];exact .inr ⟨⟨o,hk _ _ ho⟩,ha,FQ ho hF⟩
 ·obtain⟨k,x,hx,hy⟩:=h2
  obtain⟨t,rfl⟩:=dA.isStrOf_shape (show dA.isStrOf k y=true from hy)
  rw [UE] at h1
  obtain⟨l,hl1,rfl⟩:=MC.mp h1
  have h3:(kvs.map (·.1))[i]? = some k:=by rw [UE,hx];rfl
  rw [e,UE,hl1] at h3
  cases h3
  exact .str _ _ (hl l (DD hl1))
theorem R8{t:Expr}{vs:List V}{r:Nat}{l:cA}(hr:as[r]? = some l)(hlive:∃ o,s.heap.get? l=some o) :
  iG B prog w t vs [(r,.list vs)] F as s.heap (s.heap.push { cls:=.type "list_iterator",data:=.fields #[.ref l,.int 0 0] }) s.heap.objs.size:=by
 obtain⟨o,ho⟩:=hlive
 have hne:l≠s.heap.objs.size:=WL ho
 have hk:=UC s.heap { cls:=.type "list_iterator",data:=.fields #[.ref l,.int 0 0] }
 have hL:∀ a∈[s.heap.objs.size],s.heap.get? a=none:=fun a q=>by rw [BA.mp q];exact RC _
 have at':∀ {s:iA}{as:List cA}{F:cA->Prop}{st:St},as[r]? = some l->Inv B s.heap as F st->(∀ p∈[(r,O.list vs)],st[p.1]? = some p.2)->∃ xs,s.heap.IsList l xs.toArray/\vA B s.heap as F vs xs:=by
  intro s as F st h1 inv hw
  have q:=inv.at_ r l _ h1 (hw _ HA)
  cases q with
  | list hp rs _=>exact⟨_,hp.isList,rs⟩
 refine⟨[s.heap.objs.size],fun i h as F=>h.IsListIter s.heap.objs.size l i/\as[r]? = some l,⟨?_,?_,?_,?_,?_⟩,⟨⟨_,vD _ rfl,rfl,rfl⟩,hr⟩,hk,hL⟩
 ·intro i h as F h' as' F' ⟨p1,p2⟩ hp hk hL
  exact⟨p1.at fun o e=>hL _ (by simp) o e,zN hp p2⟩
 ·intro i h as F ⟨p1,_⟩ a ha
  rw [BA.mp ha]
  obtain⟨o,ho,_⟩:=p1;exact⟨o,ho⟩
 ·intro i v A s' as F st Q E hh hv ⟨p1,p2⟩ inv hLF hw hQ
  obtain⟨xs,hl,rs⟩:=at' p2 inv hw
  obtain⟨x,hx,rx⟩:=rs.get hv
  refine wpAny_pyNext_list_item p1 hl (x:=x) (by simpa using hx) fun h' hit' hs'=>?_
  have hk':∀ b o,b∉[s.heap.objs.size]->s'.heap.get? b=some o->h'.get? b=some o:=fun b o hb e=>hs'.extBut b o (fun q=>hb (by simp [q])) e
  have p1':=hit'
  obtain⟨oI,hoI,hcI,_⟩:=p1'
  refine hQ x h' s'.toks hk' (fun a ha=>by rw [BA.mp ha];exact⟨_,hoI⟩) (rx.mono (wB _) fun a o e h1 h2=>⟨hk' a o (fun q=>h2 (hLF a q)) e,h1,h2⟩) (sA _) fun Q' E' hQ'=>?_
  exact I0 (s:={ s' with heap:=h',toks:=s'.toks }) hoI hcI (by decide) (hQ' h' (fun _ _ _ e=>e) ⟨hit',p2⟩)
 ·intro A s' as F st Q E hh ⟨p1,p2⟩ inv hw hQ
  obtain⟨xs,hl,rs⟩:=at' p2 inv hw
  refine wpAny_pyNext_list_end hh p1 hl (by simp [rs.length]) fun h' he'=>?_
  exact hQ h' s'.toks (fun b o hb e=>he' b o (fun q=>hb (by simp [q])) e) (sA _)
 ·intro i A s' as F Q E hh ⟨p1,_⟩ hQ
  exact wpAny_pyIter_listiter p1 hQ
end Ev
end
section
namespace Ev
variable{B:CA}{prog:pA}{w:eA}{A:xA}{F:cA->Prop}{s:iA}{as:List cA}{st:St}{Γ:Ctx}{env:Env}{ρ:Fr}
structure F6(B:CA)(e it l:cA)(vs:List V)(xs:List dA)(i:Nat)(h:Heap)(as:List cA)(F:cA->Prop):Prop where
 w:(∃ old,IsEnum h e it i old)/\h.IsListIter it l i/\h.IsList l xs.toArray
 na:l∉as
 nF:¬ F l
 rs:vA B h as F vs xs
theorem jt{vs:List V}{i:Nat}{v:V}(h:(vs.zipIdx.map fun x=>V.tup [.int x.2,x.1])[i]? = some v):∃ x,vs[i]? = some x/\v = .tup [.int i,x]:=by
 rw [UE] at h
 obtain⟨⟨x,k⟩,hk1,rfl⟩:=MC.mp h
 rw [List.getElem?_zipIdx] at hk1
 obtain⟨x',hx',hk2⟩:=MC.mp hk1
 cases hk2
 exact⟨x,hx',by rw [IF]⟩
theorem dg{t:Expr}(h:GN t=true):∃ es c p,t = .Tuple es c p:=QD (H:=True) (by clear h;rcases t with ⟨⟩<;>first|exact True.intro|exact⟨_,_,_,rfl⟩) h
theorem N8{t:Expr}(htup:GN t=true){vs:List V}{xs:List dA}{l e it:cA}{h h':Heap}(hl:h.IsList l xs.toArray)(ha:l∉as)(hF:¬ F l)(rs:vA B h as F vs xs)
  (he:IsEnum h' e it 0 .none) (hi:h'.IsListIter it l 0) (hk:∀ a o,h.get? a=some o->h'.get? a=some o) (h1:h.get? e=none) (h2:h.get? it=none) (h3:e≠it) :
  iG B prog w t (vs.zipIdx.map fun x=>V.tup [.int x.2,x.1]) [] F as h h' e:=by
 have hl':=hl
 obtain⟨o,ho,_⟩:=hl'
 have hle:l≠e:=fun q=>by rw [q,h1] at ho;exact wA ho
 have hlt:l≠it:=fun q=>by rw [q,h2] at ho;exact wA ho
 have hL:∀ a∈[e,it],h.get? a=none:=fun a q=>by
  rcases bB.mp q with rfl|q
  ·exact h1
  ·rw [BA.mp q];exact h2
 have W:∀ A:xA,A.handled=none->_:=fun A hh=>WalksT.enumerate (prog:=prog) (w:=w) hh e it l h3 hle hlt xs.toArray
 obtain⟨es,ec,ep,rfl⟩:=dg htup
 refine⟨[e,it],F6 B e it l vs xs,⟨?_,?_,?_,?_,?_⟩,⟨⟨⟨_,he⟩,hi,hl.at fun o e=>hk _ _ e⟩,ha,?_,rs.mono (wB _) (cH hk hL)⟩,hk,hL⟩
 ·intro i h as F h' as' F' ⟨p1,p2,p3,p4⟩ hp hk hL
  have lk:∀ o,h.get? l=some o->h'.get? l=some o:=fun o ho=>(hk l o ho p2 p3).1
  obtain⟨o,ho,_⟩:=id p1.2.2
  refine⟨(W {} rfl).frame i h h' p1 fun b hb o hb'=>?_,(hk l o ho p2 p3).2.1,(hk l o ho p2 p3).2.2,p4.mono hp hk⟩
  simp at hb
  rcases hb with rfl|rfl|rfl
  ·exact hL _ (by simp) o hb'
  ·exact hL _ (by simp) o hb'
  ·exact lk o hb'
 ·intro i h as F ⟨⟨⟨old,p1⟩,p2,_⟩,_,_,_⟩ a ha
  rcases bB.mp ha with rfl|ha
  ·exact⟨_,p1⟩
  ·rw [BA.mp ha];obtain⟨o,ho,_⟩:=p2;exact⟨o,ho⟩
 ·intro i v A s as F st Q E hh hv ⟨p1,p2,p3,p4⟩ inv hLF hw hQ
  obtain⟨x',hx',rfl⟩:=jt hv
  obtain⟨y,hy,ry⟩:=p4.get hx'
  have hi:i<xs.toArray.size:=by simp;exact (sF.mp hy).1
  refine QE (n:=s.toks) (sA _) ((W A hh).item i s _ _ hi p1 fun T vals h' tk hP hT hTup hMid hk htk=>?_)
  obtain⟨u,z,hz,rfl⟩:=hP
  simp at hz
  rw [hy] at hz;cases hz
  have hm:∀ a o,s.heap.get? a=some o->a∉as->¬ F a->h'.get? a=some o/\a∉as/\¬ F a:=fun a o ho q1 q2=>⟨hk a o (fun q=>q2 (hLF a q)) ho,q1,q2⟩
  have hTn:s.heap.get? T=none:=by
   rcases q:s.heap.get? T with _|o
   ·rfl
   ·exact absurd (JF q) (CE.mpr hT)
  have hTf:=inv.fresh hTn
  obtain⟨⟨z2,m1⟩,m2,m3,m4,m5⟩:=id hMid
  refine hQ (.ref T) h' tk hk (fun a ha=>?_) ?_ htk fun Q' E' hQ'=>?_
  ·rcases bB.mp ha with rfl|ha
   ·exact⟨_,m1⟩
   ·rw [BA.mp ha];obtain⟨o,ho,_⟩:=m2;exact⟨o,ho⟩
  ·refine .tup (xs:=[.int i u,y]) hTup hTf.1 hTf.2 (.cons ?_ (.cons (ry.mono (wB _) hm) .nil))
   exact .int _ _
  ·refine (W A hh).go es ec ep i T { s with heap:=h',toks:=tk } Q' E' hMid fun h'' hSt hk2=>?_
   refine hQ' h'' hk2 ⟨hSt,p2,p3,?_⟩
   have hm2:∀ a o,s.heap.get? a=some o->a∉as->¬ F a->h''.get? a=some o/\a∉as/\¬ F a:=fun a o ho q1 q2=>⟨hk2 a o (fun q=>q2 (hLF a q)) (hm a o ho q1 q2).1,q1,q2⟩
   exact p4.mono (wB _) hm2
 ·intro A s as F st Q E hh ⟨p1,p2,p3,p4⟩ inv hw hQ
  have hsz:xs.toArray.size=(vs.zipIdx.map fun x=>V.tup [.int x.2,x.1]).length:=by simp [p4.length]
  refine QE (n:=s.toks) (sA _) ((W A hh).done s _ _ (by rw [hsz];exact p1) fun h' tk hk htk=>hQ h' tk hk htk)
 ·intro i A s as F Q E hh ⟨p1,_,_,_⟩ hQ
  exact (W A hh).self i s Q E p1 hQ
 ·rintro (q|q)
  ·exact hF q
  ·rcases bB.mp q with rfl|q
   ·exact hle rfl
   ·exact hlt (BA.mp q)
namespace FF
theorem entry_dict_itemiterator_iter:entryFor table "dict_itemiterator.__iter__" = some Builtin.«dict_keyiterator.__iter__» :=
 entryFor_alias (id':="dict_keyiterator.__iter__") (by kernel_rfl) rfl (by decide +kernel) (by kernel_rfl)
theorem args_dict_itemiterator_iter_1(a:dA):argsOk "dict_itemiterator.__iter__" ⟨[a],[]⟩:=by unfold argsOk;kernel_rfl
end FF
theorem P8{t:Expr}{d:cA}{n:Nat}(hd:s.heap.get? d=some { cls:=.type "dict",data:=.dict #[] n })(ha:d∉as)(hF:¬ F d) :
  iG B prog w t [] [] F as s.heap (s.heap.push { cls:=.type "dict_itemiterator",data:=.fields #[.none,.bool false,.ref d,.int 0 0,.int 0 0,.int n 0,.none,.none] }) s.heap.objs.size:=by
 have hne:d≠s.heap.objs.size:=WL hd
 have hk:=UC s.heap { cls:=.type "dict_itemiterator",data:=.fields #[.none,.bool false,.ref d,.int 0 0,.int 0 0,.int n 0,.none,.none] }
 have hL:∀ a∈[s.heap.objs.size],s.heap.get? a=none:=fun a q=>by rw [BA.mp q];exact RC _
 refine⟨[s.heap.objs.size],fun i h as F=>i=0/\IsItemIter h s.heap.objs.size d 0 0 n .none .none/\h.get? d=some { cls:=.type "dict",data:=.dict #[] n }/\d∉as/\¬ F d,⟨?_,?_,?_,?_,?_⟩,⟨rfl,vD _ rfl,hk _ _ hd,ha,FQ hd hF⟩,hk,hL⟩
 ·intro i h as F h' as' F' ⟨p0,p1,p2,p3,p4⟩ hp hk hL
  exact⟨p0,hL _ (by simp) _ p1,hk _ _ p2 p3 p4⟩
 ·intro i h as F ⟨_,p1,_⟩ a ha
  rw [BA.mp ha];exact⟨_,p1⟩
 ·intro i v A s as F st Q E hh hv
  simp at hv
 ·intro A s as F st Q E hh ⟨_,p1,p2,_⟩ inv hw hQ
  have hm:s.heap.DictAt (strKind prog w) d [] n:=⟨_,#[],p2,⟨rfl,rfl,rfl⟩,rfl,fun _ h=>by simp at h,.nil,.nil⟩
  exact wpAny_pyNext_items_end (kvs:=[]) hh p1 hm rfl fun h' he'=>hQ h' s.toks (fun b o hb e=>he' b o (fun q=>hb (by simp [q])) e) (sA _)
 ·intro i A s as F Q E hh ⟨_,p1,_⟩ hQ
  have hT:s.TypeIs (.ref _) "dict_itemiterator":=⟨_,p1,rfl⟩
  refine wpAny_pyIter_slot hT PySem.F.slot_dict_itemiterator_iter (nR PySem.F.slot_dict_itemiterator_iter hT FF.entry_dict_itemiterator_iter ?_ (FF.args_dict_itemiterator_iter_1 _))
  show oA _ _ (ret (.ref _)) _ _ s
  exact JA ⟨_,rfl,"dict_itemiterator",_,hT,PySem.F.slot_dict_itemiterator_next.lookup,hQ⟩
theorem Xq{a b:Int}{xs:List V}{ws:List (Nat×O)}(h:zD st (.rng a b)=some (xs,ws)):(-65536<=a/\a<=65536 /\ -65536<=b/\b<=65536)/\xs=((UA (b - a).toNat).map fun (i:Nat)=>V.int (a+i))/\ws=[]:=by
 obtain⟨l,h1,h2⟩:=MC.mp (show (cK st (.rng a b)).map (·,([]:List (Nat×O)))=some (xs,ws) from h)
 refine VF h1 fun hc h3=>?_
 cases h2;exact⟨hc,(Option.some.inj h3).symm,rfl⟩
theorem Wq{j:Nat}{xs:List V}{ws:List (Nat×O)}(h:zD st (.ref j)=some (xs,ws)):st[j]? = some (.list xs)/\ws=[(j,.list xs)]:=by
 refine WB (show (cK st (.ref j)).bind (fun xs=>(st[j]?).bind fun o=>some (xs,[(j,o)]))=some (xs,ws) from h) fun l h1 h2=>?_
 refine GO (o:=st[j]?) (K:=some) h1 fun vs q h3=>?_
 obtain rfl:=Option.some.inj h3
 rw [q] at h2
 cases h2;exact⟨q,rfl⟩
theorem S4{a b:Int}(h:-65536<=a/\a<=65536 /\ -65536<=b/\b<=65536):Builtin.Range.rangeSize a b 1=((b - a).toNat:Int)/\Builtin.Range.small a b 1=true:=by
 have hn:Builtin.Range.rangeSize a b 1=((b - a).toNat:Int):=by
  unfold Builtin.Range.rangeSize
  simp
  exact Yp a b
 refine⟨hn,?_⟩
 unfold Builtin.Range.small
 rw [hn]
 simp only [Builtin.Range.rangeFitsLong,KA,II,decide_eq_true_eq]
 refine⟨⟨⟨⟨?_,?_⟩,?_⟩,?_⟩,.inr ?_⟩
 ·exact aQ h.1 h.2.1
 ·exact aQ h.2.2.1 h.2.2.2
 ·exact aQ (by decide) (by decide)
 ·exact xk (CY h)
 ·rw [if_pos (by decide)]
  simp only [KA,decide_eq_true_eq]
  rw [show (1:Int) - 1=0 from rfl,Int.add_zero];exact aQ h.2.2.1 h.2.2.2
theorem ug(hdk:ED B prog w)(t:Expr){x:dA}(i:Inv B s.heap as F st){Q:dA->iA->Prop}{E:dA->iA->Prop}:∀ v:V,(zD st v).elim True fun p=>kA B s.heap as F v x ->
  (∀ I h',iG B prog w t p.1 p.2 F as s.heap h' I->(∀ q∈p.2,st[q.1]? = some q.2)->Q (.ref I) { s with heap:=h' })->oA (model prog w) A (pyIter x) Q E s:=by
 intro v
 have hw:∀ p∈([]:List (Nat×O)),st[p.1]? = some p.2:=fun p hp=>by cases hp
 rcases v with ⟨⟩<;>first|exact True.intro|skip
 ·rename_i l
  refine SF fun p hs r hQ=>?_
  obtain⟨t,rfl,hl⟩:=pC r
  cases hs
  cases ha:(S l).cps.all (· < 128)
  ·exact wpAny_pyIter_wide ha (hQ _ _ (wX hl (.inr rfl)) hw)
  ·exact wpAny_pyIter_ascii ha (hQ _ _ (wX hl (.inl rfl)) hw)
 ·refine SF fun p hs r hQ=>?_
  obtain⟨_,_,rfl,ht,ha,hF,rs⟩:=wM r
  cases hs;exact wpAny_pyIter_tuple ht (hQ _ _ (S8 ht ha hF rs) hw)
 ·refine SF fun p hs r hQ=>?_
  obtain⟨_,_,rfl,ht,ha,hF,rs⟩:=aG r
  cases hs;exact wpAny_pyIter_list ht.isList (hQ _ _ (O8 ht.isList ha hF rs) hw)
 ·refine SF fun p hs r hQ=>?_
  obtain⟨_,_,_,rfl,ho,hd,hds,ha,hF,e,hl,rs⟩:=TU r
  cases hs
  obtain⟨ep,hm⟩:=(ED.of (D:=hdk) ho hd).dictAt
  exact wpAny_pyIter_dict hds hm (hQ _ _ (M8 hm ha hF e hl) hw)
 ·rename_i j
  refine SF fun p hs r hQ=>?_
  obtain⟨a,rfl,e⟩:=AG r
  obtain⟨xs,ws⟩:=p
  obtain⟨ho,rfl⟩:=Wq hs
  obtain⟨_,hp,_,_⟩:=(i.at_ _ a _ e ho).out
  exact wpAny_pyIter_list hp.isList (hQ _ _ (R8 e (hp.isList.imp fun o h=>h.1)) (fun p hp=>by rw [BA.mp hp];exact ho))
 ·refine SF fun p hs r hQ=>?_
  obtain⟨_,_,_,_,rfl,ho,ha,hF⟩:=S3 r
  obtain⟨xs,ws⟩:=p
  obtain⟨hc,rfl,rfl⟩:=Xq hs
  obtain⟨hn,hsm⟩:=S4 hc
  refine wpAny_pyIter_range ho hsm ?_
  rw [hn]
  exact hQ _ _ (Q8 rfl) hw
 ·refine SF fun p hs r hQ=>?_
  obtain⟨_,_,_,rfl,hx,hd,ha,hF⟩:=Ep r
  cases hs
  have hm:s.heap.DictAt (strKind prog w) _ [] _:=⟨_,#[],hd,⟨rfl,rfl,rfl⟩,rfl,fun _ h=>by simp at h,.nil,.nil⟩
  exact wpAny_pyIter_items (kvs:=[]) ⟨_,hx,rfl,rfl⟩ hm (hQ _ _ (P8 hd ha hF) hw)
theorem wg(hdk:ED B prog w){t:Expr}{v:V}{x:dA}{xs:List V}{ws:List (Nat×O)}(i:Inv B s.heap as F st)(r:kA B s.heap as F v x)(hs:zD st v=some (xs,ws)){Q:dA->iA->Prop}{E:dA->iA->Prop}
  (hQ:∀ I h',iG B prog w t xs ws F as s.heap h' I->(∀ p∈ws,st[p.1]? = some p.2)->Q (.ref I) { s with heap:=h' }):oA (model prog w) A (pyIter x) Q E s :=
 RF (G:=fun p=>kA B s.heap as F v x->(∀ I h',iG B prog w t p.1 p.2 F as s.heap h' I->(∀ q∈p.2,st[q.1]? = some q.2)->Q (.ref I) { s with heap:=h' })->oA (model prog w) A (pyIter x) Q E s) (ug hdk t i v) hs r hQ
end Ev
end
section
namespace Ev
variable{B:CA}{prog:pA}{w:eA}{A:xA}{F:cA->Prop}{s:iA}{as:List cA}{st:St}{Γ:Ctx}{env:Env}{ρ:Fr}
theorem DA.mono{h h':Heap}{as as':List cA}{F F':cA->Prop}(f:DA B h as F env ρ)(hp:as <+: as')(hk:∀ a o,h.get? a=some o->a∉as->¬ F a->h'.get? a=some o/\a∉as'/\¬ F' a)
  (hF:∀ a o,F a->h.get? a=some o->h'.get? a=some o/\F' a):DA B h' as' F' env ρ :=
 f.gen (fun r=>r.mono hp hk) fun a o q e=>hF a o (f.placeF q) e
theorem DA.re{h h' h₀:Heap}{as as₀:List cA}{L:List cA}{F':cA->Prop}{ρ₀:Fr}(f:DA B h as (Fu F L) env ρ)(f₀:DA B h₀ as₀ F env ρ₀)(hs:ρ.sc=ρ₀.sc)(hL:∀ a∈L,¬ F a)
  (hk:∀ b o,b∉L->h.get? b=some o->h'.get? b=some o) (h1:∀ a,F a->F' a) (h2:∀ a,F' a->Fu F L a):DA B h' as F' env ρ:=by
 have hm:∀ a o,h.get? a=some o->a∉as->¬ Fu F L a->h'.get? a=some o/\a∉as/\¬ F' a:=fun a o e q1 q2=>⟨hk a o (fun q=>q2 (.inr q)) e,q1,fun q=>q2 (h2 a q)⟩
 refine f.gen (fun r=>r.mono (wB _) hm) fun a o q e=>?_
 have hFa:F a:=q.elim (fun q=>f₀.own a (hs▸q)) fun⟨_,_,hy,hc,_⟩=>f₀.freeF (hs▸hy) hc
 exact⟨hk a o (fun r=>hL a r hFa) e,h1 a hFa⟩
theorem DA.drop{h h' h₀:Heap}{as as₀:List cA}{L:List cA}{ρ₀:Fr}(f:DA B h as (Fu F L) env ρ)(f₀:DA B h₀ as₀ F env ρ₀)(hs:ρ.sc=ρ₀.sc)(hL:∀ a∈L,¬ F a)
  (hk:∀ b o,b∉L->h.get? b=some o->h'.get? b=some o):DA B h' as F env ρ:=f.re f₀ hs hL hk (fun _ x=>x) fun _ x=>.inl x
theorem DA.onL{h h' h₀:Heap}{as as₀:List cA}{L:List cA}{ρ₀:Fr}(f:DA B h as (Fu F L) env ρ)(f₀:DA B h₀ as₀ F env ρ₀)(hs:ρ.sc=ρ₀.sc)(hL:∀ a∈L,¬ F a)
  (hk:∀ b o,b∉L->h.get? b=some o->h'.get? b=some o):DA B h' as (Fu F L) env ρ:=f.re f₀ hs hL hk (fun _ x=>.inl x) fun _ x=>x
theorem DA.more{h h':Heap}{L:List cA}(f:DA B h as F env ρ)(hk:∀ a o,h.get? a=some o->h'.get? a=some o)(hL:∀ a∈L,h.get? a=none):DA B h' as (Fu F L) env ρ :=
 f.mono (wB _) (cH hk hL) fun a o hF e=>⟨hk a o e,.inl hF⟩
theorem Inv.more{h h':Heap}{L:List cA}(i:Inv B h as F st)(hk:∀ a o,h.get? a=some o->h'.get? a=some o)(hL:∀ a∈L,h.get? a=none)(hl:∀ a∈L,∃ o,h'.get? a=some o):Inv B h' as (Fu F L) st where
 len:=i.len
 nodup:=i.nodup
 at_:=fun k a o e e'=>(i.at_ k a o e e').mono (wB _) (cH hk hL) (hk a)
 apart:=fun a ha q=>q.elim (i.apart a ha) fun q=>by obtain⟨o,ho⟩:=i.live ha;rw [hL a q] at ho;exact wA ho
 liveF:=fun a ha=>ha.elim (fun q=>let ⟨o,ho⟩:=i.liveF a q;⟨o,hk a o ho⟩) (hl a)
 base:=fun a o e=>let b:=i.base a o e;cH hk hL a o b.1 b.2.1 b.2.2
theorem Inv.onL{h h':Heap}{L:List cA}(i:Inv B h as (Fu F L) st)(hk:∀ b o,b∉L->h.get? b=some o->h'.get? b=some o)(hl:∀ a∈L,∃ o,h'.get? a=some o):Inv B h' as (Fu F L) st where
 len:=i.len
 nodup:=i.nodup
 at_:=fun k a o e e'=>(i.at_ k a o e e').mono (wB _) (fun b x h1 h2 h3=>⟨hk b x (fun q=>h3 (.inr q)) h1,h2,h3⟩) fun x hx=>hk a x (fun q=>i.apart a (DD e) (.inr q)) hx
 apart:=i.apart
 liveF:=fun a ha=>by
  by_cases q:a∈L
  ·exact hl a q
  ·obtain⟨o,ho⟩:=i.liveF a ha;exact⟨o,hk a o q ho⟩
 base:=fun a o e=>let b:=i.base a o e;⟨hk _ _ (fun q=>b.2.2 (.inr q)) b.1,b.2⟩
theorem Inv.drop{h h':Heap}{L:List cA}(i:Inv B h as (Fu F L) st)(hL:∀ a∈L,¬ F a)(hk:∀ b o,b∉L->h.get? b=some o->h'.get? b=some o):Inv B h' as F st where
 len:=i.len
 nodup:=i.nodup
 at_:=fun k a o e e'=>(i.at_ k a o e e').mono (wB _) (fun b x h1 h2 h3=>⟨hk b x (fun q=>h3 (.inr q)) h1,h2,fun q=>h3 (.inl q)⟩) fun x hx=>hk a x (fun q=>i.apart a (DD e) (.inr q)) hx
 apart:=fun a ha q=>i.apart a ha (.inl q)
 liveF:=fun a ha=>let ⟨o,ho⟩:=i.liveF a (.inl ha);⟨o,hk a o (fun q=>hL a q ha) ho⟩
 base:=fun a o e=>let b:=i.base a o e;⟨hk _ _ (fun q=>b.2.2 (.inr q)) b.1,b.2.1,fun q=>b.2.2 (.inl q)⟩
theorem kA.drop{h h':Heap}{L:List cA}(hk:∀ b o,b∉L->h.get? b=some o->h'.get? b=some o){v x}(r:kA B h as (Fu F L) v x):kA B h' as F v x :=
 r.mono (wB _) fun a o h1 h2 h3=>⟨hk a o (fun q=>h3 (.inr q)) h1,h2,fun q=>h3 (.inl q)⟩
theorem qA.thenL{G:cA->Prop}{h₁ h h':Heap}{as₁ as:List cA}{L:List cA}(x:qA (fun a=>G a\/a∈L) h₁ as₁ h as)(hk:∀ b o,b∉L->h.get? b=some o->h'.get? b=some o)(hL:∀ a∈L,h₁.get? a=none):qA G h₁ as₁ h' as where
 pre:=x.pre
 new:=x.new
 keep:=fun a o e ha hG=>by
  have hn:a∉L:=fun q=>by rw [hL a q] at e;exact wA e
  exact hk a o hn (x.keep a o e ha fun q=>q.elim hG hn)
 live:=fun a o e=>by
  have hn:a∉L:=fun q=>by rw [hL a q] at e;exact wA e
  obtain⟨o',e'⟩:=x.live a o e
  exact⟨o',hk a o' hn e'⟩
theorem qA.onL{G:cA->Prop}{h h':Heap}{L:List cA}(hk:∀ b o,b∉L->h.get? b=some o->h'.get? b=some o)(hl:∀ a∈L,∃ o,h'.get? a=some o):qA (fun a=>G a\/a∈L) h as h' as where
 pre:=wB _
 new:=fun a x=>.inl x
 keep:=fun a o e ha hG=>hk a o (fun q=>hG (.inr q)) e
 live:=fun a o e=>by
  by_cases q:a∈L
  ·exact hl a q
  ·exact⟨o,hk a o q e⟩
theorem JY{α:Type}{o:Option α}{f:α->Bool}(h:o.elim false f=true):∃ a,o=some a/\f a=true:=by
 rcases o with _|a
 ·exact VB h
 ·exact⟨a,rfl,h⟩
theorem Cs{a:V}{i:List V}(h:a.tup? = some i):a = .tup i:=RF (G:=fun i=>a = .tup i) (by clear h;rcases a with ⟨⟩<;>first|exact True.intro|exact rfl) h
theorem MN{a:V}{i:List V}(h:a.lst? = some i):a = .lst i:=RF (G:=fun i=>a = .lst i) (by clear h;rcases a with ⟨⟩<;>first|exact True.intro|exact rfl) h
theorem s9{a:V}{i:Bool}(h:a.bool? = some i):a = .bool i:=RF (G:=fun i=>a = .bool i) (by clear h;rcases a with ⟨⟩<;>first|exact True.intro|exact rfl) h
theorem rf{a:V}{i:Nat}(h:a.hd? = some i):a = .hd i:=RF (G:=fun i=>a = .hd i) (by clear h;rcases a with ⟨⟩<;>first|exact True.intro|exact rfl) h
theorem Md{a:V}{i:Str}(h:a.g? = some i):a = .g i:=RF (G:=fun i=>a = .g i) (by clear h;rcases a with ⟨⟩<;>first|exact True.intro|exact rfl) h
mutual
theorem oq:∀ {a b:V},xJ a b=true->a=b
 | .none,b,h=>(lT h).symm
 | .bool x,b,h=>(s9 (eq_of_beq h)).symm
 | .int x,b,h=>(xE (eq_of_beq h)).symm
 | .str x,b,h=>(bG (eq_of_beq h)).symm
 | .tup x,b,h=>by
  obtain⟨y,h1,h2⟩:=JY h
  rw [Cs h1,SQ h2]
 | .lst x,b,h=>by
  obtain⟨y,h1,h2⟩:=JY h
  rw [MN h1,SQ h2]
 | .ref x,b,h=>(N3 (eq_of_beq h)).symm
 | .hd x,b,h=>(rf (eq_of_beq h)).symm
 | .g x,b,h=>(Md (eq_of_beq h)).symm
 | .rng ..,b,h | .nod,b,h | .noi,b,h | .bi ..,b,h | .ty ..,b,h | .fn ..,b,h | .m ..,b,h=>by exact VB h
theorem SQ:∀ {a b:List V},OH a b=true->a=b
 | [],[],h=>rfl
 | [],_::_,h=>by exact VB h
 | _::_,[],h=>by exact VB h
 | x::r,y::t,h=>by
  obtain⟨h1,h2⟩:=(KA _ _).mp h
  rw [oq h1,SQ h2]
end
theorem nq:∀ {a b:O},wJ a b=true->a=b
 | .list a,.list b,h=>congrArg O.list (SQ h)
theorem cV:∀ {ws:List (Nat×O)}{st st':St},same ws st=some ((),st')->st'=st/\∀ p∈ws,st[p.1]? = some p.2
 | [],_,_,h=>by cases h;exact⟨rfl,fun p hp=>by cases hp⟩
 | (i,o)::r,st,st',h=>by
  refine EA h fun p st1 h1 h2=>?_
  obtain⟨h1',rfl⟩:=PE h1
  refine iC (st:=st1) h2 fun hs h3=>?_
  obtain⟨q1,q2⟩:=cV h3
  refine⟨q1,fun x hx=>?_⟩
  rcases bB.mp hx with rfl|hx
  ·rw [nq hs];exact h1'
  ·exact q2 x hx
end Ev
end
section
namespace Ev
variable{B:CA}{prog:pA}{w:eA}{A:xA}{F:cA->Prop}{s:iA}{as:List cA}{st:St}{Γ:Ctx}{env:Env}{ρ:Fr}
noncomputable def KJ(B:CA)(prog:pA)(w:eA)(A:xA)(F:cA->Prop)(Γ:Ctx)(t it:Expr)(env:Env)(ρ:Fr):Prop :=
 ∀ s as st,DA B s.heap as F env ρ->Inv B s.heap as F st->∀ xs ws st',ME Γ t it (evalE Γ it ρ) ρ st=some ((xs,ws),st') ->
  ∀ (Q:dA->iA->Prop) (E:dA->iA->Prop),(∀ I h₁ h' as' tk,qA no s.heap as h₁ as'->Inv B h₁ as' F st'->iG B prog w t xs ws F as' h₁ h' I->(∀ p∈ws,st'[p.1]? = some p.2)->s.toks<=tk ->
   Q (.ref I) { s with heap:=h',toks:=tk })->oA (model prog w) A (eval it env) (fun x s₁=>oA (model prog w) A (pyIter x) Q E s₁) E s
abbrev Fs(t:Expr)(g:Fr->mA (Fl×Fr))(x:V)(ρ:Fr):mA (Fl×Fr):=do
 let ρ' <- rd fun st=>rB false st t x ρ
 g ρ'
inductive uW(B:CA)(F:cA->Prop)(L:List cA)(P:Nat->Heap->List cA->(cA->Prop)->Prop)(env:Env)(sc:List (Str×GA))(ws:List (Nat×O))(xs:List V)(m:V->Fr->mA (Fl×Fr))(r:(Fl×Fr)×St)(h₁:Heap)(as₁:List cA)(s:iA):Nat->iA->Prop
 | mk {k:Nat}{ρ1:Fr}{as1:List cA}{st1:St}{h2:Heap}{tk:Nat}:s.toks<=tk->k<=xs.length->ρ1.sc=sc->P k h2 as1 (Fu F L)->Inv B h2 as1 (Fu F L) st1->DA B h2 as1 (Fu F L) env ρ1->(∀ p∈ws,st1[p.1]? = some p.2) ->
   qA (fun a=>JB env sc a\/a∈L) h₁ as₁ h2 as1->OE ws (xs.drop k) ρ1 m st1=some r->uW B F L P env sc ws xs m r h₁ as₁ s (xs.drop k).length { s with heap:=h2,toks:=tk }
theorem Zi{ws:List (Nat×O)}{x:V}{xs:List V}{m:V->Fr->mA (Fl×Fr)}{ρ:Fr}{st:St}{r:(Fl×Fr)×St}{C:Prop}(h:OE ws (x::xs) ρ m st=some r)
  (k:∀ fl2 ρ2 st1,m x ρ st=some ((fl2,ρ2),st1)->(fl2 = .next->(∀ p∈ws,st1[p.1]? = some p.2)/\OE ws xs ρ2 m st1=some r)->(∀ v,fl2 = .ret v->((.ret v,ρ2),st1)=r)->C):C:=by
 refine EA (show (m x ρ>>=fun o=>match o with|(.next,ρ')=>(do same ws;OE ws xs ρ' m)|o=>pure o) st=some r from h) fun o st1 h1 h2=>?_
 obtain⟨fl2,ρ2⟩:=o
 refine k fl2 ρ2 st1 h1 (fun e=>?_) fun v e=>?_
 ·subst e
  refine EA (show (same ws>>=fun _=>OE ws xs ρ2 m) st1=some r from h2) fun u st2 h3 h4=>?_
  obtain⟨rfl,hw⟩:=cV h3
  exact⟨hw,h4⟩
 ·subst e;exact qC h2
theorem bj{g:Fr->mA (Fl×Fr)}{n0:Nat}(hh:A.handled=none){t:Expr}{body:List IA}{I:cA}{L:List cA}{xs:List V}{ws:List (Nat×O)}{P:Nat->Heap->List cA->(cA->Prop)->Prop}(T:KG B prog w t I L xs ws P)
  {sc:List (Str×GA)} (hb:∀ ρ,ρ.sc=sc->∀ s as st,n0<=s.toks->DA B s.heap as (Fu F L) env ρ->Inv B s.heap as (Fu F L) st->FW B prog w A (Fu F L) env ρ.sc (execs body env) (g ρ) s as st)
  {h₁:Heap}{as₁:List cA} (hL:∀ a∈L,h₁.get? a=none) (hLF:∀ a∈L,¬ F a) {f₀:Fr}{as₀:List cA}{h₀:Heap} (F₀:DA B h₀ as₀ F env f₀) (hf₀:f₀.sc=sc)
  {fl:Fl}{ρ':Fr}{st':St}{s:iA}{R:NF->iA->Prop}
  (hR:∀ x h' as' tk,ZM B h' as' F fl x->ρ'.sc=sc->DA B h' as' F env ρ'->Inv B h' as' F st'->qA (JB env sc) h₁ as₁ h' as'->s.toks<=tk->R (.ok x) { s with heap:=h',toks:=tk })
  (hn0:n0<=s.toks) {ρ:Fr} (hsc:ρ.sc=sc) (hp:P 0 s.heap as (Fu F L)) (i:Inv B s.heap as (Fu F L) st) (f:DA B s.heap as (Fu F L) env ρ) (hw:∀ p∈ws,st[p.1]? = some p.2)
  (e:qA (fun a=>JB env sc a\/a∈L) h₁ as₁ s.heap as)
  (hv:OE ws xs ρ (fun x ρ=>do
   let ρ' <- rd fun st=>rB false st t x ρ
   g ρ') st=some ((fl,ρ'),st')) :
  codeAny (model prog w) A (.forLoop t (.ref I) body [] env) R s:=by
 refine codeAny_forLoop_any (I:=uW B F L P env sc ws xs (Fs t g) ((fl,ρ'),st') h₁ as₁ s) ?_ xs.length (.mk (k:=0) (sA _) (iE _) hsc hp i f hw e hv)
 intro n s2 hI
 clear hp i f hw hv e hsc
 cases hI with | @mk k ρ1 as1 st1 h2 tk htk hk hsc1 p1 i1 f1 hw1 e1 hv1=>?_
 by_cases hkl:k=xs.length
 ·subst hkl
  rw [VV] at hv1
  cases qC hv1
  refine T.done A { s with heap:=h2,toks:=tk } as1 (Fu F L) st' _ _ hh p1 i1 hw1 fun h' tk' hk' ht'=>?_
  refine JA ?_
  exact hR .next h' as1 tk' .next hsc1 (f1.drop F₀ (hsc1.trans hf₀.symm) hLF hk') (i1.drop hLF hk') (e1.thenL hk' hL) (jA htk ht')
 ·have hlt:k<xs.length:=DJ hk hkl
  have hx:xs[k]? = some xs[k]:=sD hlt
  rw [GV hlt] at hv1 ⊢
  refine Zi hv1 fun fl2 ρ2 st2 h3 hnx hrt=>?_
  refine MK h3 fun ρ3 h4' h5=>?_
  clear h3 hv1
  refine T.item k xs[k] A { s with heap:=h2,toks:=tk } as1 (Fu F L) _ _ _ hh hx p1 i1 (fun a ha=>.inr ha) hw1 fun y h' tk' hk' hl' ry ht' go=>?_
  refine go _ _ fun h'' hk2 p2=>?_
  have hl2:=T.live _ _ _ _ p2
  have hk3:∀ b o,b∉L->h2.get? b=some o->h''.get? b=some o:=fun b o q e=>hk2 b o q (hk' b o q e)
  have i2:Inv B h'' as1 (Fu F L) _:=i1.onL hk3 hl2
  have kp:∀ a o,h2.get? a=some o->a∉as1->¬ Fu F L a->h''.get? a=some o/\a∉as1/\¬ Fu F L a:=fun a o e q1 q2=>⟨hk3 a o (fun q=>q2 (.inr q)) e,q1,q2⟩
  have e2:qA (fun a=>JB env sc a\/a∈L) h₁ as₁ h'' as1:=e1.trans (qA.onL hk3 hl2)
  have f2:DA B h'' as1 (Fu F L) env ρ1:=f1.onL F₀ (hsc1.trans hf₀.symm) hLF hk3
  have ry2:kA B h'' as1 (Fu F L) xs[k] y:=ry.mono (wB _) fun a o e q1 q2=>⟨hk2 a o (fun q=>q2 (.inr q)) e,q1,q2⟩
  refine rS hh t (s:={ s with heap:=h'',toks:=tk' }) f2 i2 ry2 h4' fun h3' tk3 f3 i3 e3 ht3=>?_
  have sc3:ρ3.sc=sc:=(xP t h4').trans hsc1
  refine hb ρ3 sc3 { s with heap:=h3',toks:=tk3 } as1 _ (jA hn0 (jA htk (jA ht' ht3))) f3 i3 fl2 ρ2 st2 h5 _ _ fun x h4'' as4 dE rx sc4 f4 i4 e4 ht4=>?_
  have eAll:qA (fun a=>JB env sc a\/a∈L) h₁ as₁ h4'' as4:=(e2.trans ((hsc1▸e3).weak fun a q=>.inl q)).trans ((sc3▸e4).weak fun a q=>.inl q)
  have htks:s.toks<=dE:=jA htk (jA ht' (jA ht3 ht4))
  cases rx with
  | next =>
   obtain⟨hw5,h7⟩:=hnx rfl
   have keep4:∀ a∈L,∀ o,h''.get? a=some o->h4''.get? a=some o:=fun a ha o e=>by
    have hno:¬ JB env sc a:=fun q=>hLF a ha (F₀.own a (hf₀▸q))
    have hna:a∉as1:=fun q=>i2.apart a q (.inr ha)
    have q1:=e3.keep a o e hna (hsc1▸hno)
    have q2:=e4.keep a o q1 hna (sc3▸hno)
    exact q2
   have mono4:∀ a o,h''.get? a=some o->a∉as1->¬ Fu F L a->h4''.get? a=some o/\a∉as4/\¬ Fu F L a:=fun a o e q1 q2=>by
    have hno:¬ JB env sc a:=fun q=>q2 (.inl (F₀.own a (hf₀▸q)))
    have q3:=e3.keep a o e q1 (hsc1▸hno)
    have q4:=e4.keep a o q3 q1 (sc3▸hno)
    refine⟨q4,fun hm=>(e4.new a hm).elim q1 fun q=>?_,q2⟩
    have q':h3'.get? a=none:=q
    rw [q3] at q';contradiction
   exact⟨_,jD _,.mk htks hlt (sc4.trans sc3) (T.frame _ _ _ _ _ _ _ p2 e4.pre mono4 keep4) i4 f4 hw5 eAll h7⟩
  | ret r =>
   cases hrt _ rfl
   exact hR _ h4'' as4 dE (.ret (r.drop fun b o _ e=>e)) (sc4.trans sc3) (f4.drop F₀ (sc4.trans (sc3.trans hf₀.symm)) hLF fun b o _ e=>e) (i4.drop hLF fun b o _ e=>e) (eAll.thenL (fun b o _ e=>e) hL) htks
theorem aj(hh:A.handled=none){t:Expr}{body:List IA}{I:cA}{L:List cA}{xs:List V}{ws:List (Nat×O)}{P:Nat->Heap->List cA->(cA->Prop)->Prop}(T:KG B prog w t I L xs ws P)
  {sc:List (Str×GA)} (hb:∀ ρ,ρ.sc=sc->yC B prog w A (Fu F L) env ρ (execs body env) (XA Γ body ρ))
  {h₁:Heap}{as₁:List cA} (hL:∀ a∈L,h₁.get? a=none) (hLF:∀ a∈L,¬ F a) {f₀:Fr}{as₀:List cA}{h₀:Heap} (F₀:DA B h₀ as₀ F env f₀) (hf₀:f₀.sc=sc)
  {fl:Fl}{ρ':Fr}{st':St}{s:iA}{R:NF->iA->Prop}
  (hR:∀ x h' as' tk,ZM B h' as' F fl x->ρ'.sc=sc->DA B h' as' F env ρ'->Inv B h' as' F st'->qA (JB env sc) h₁ as₁ h' as'->s.toks<=tk->R (.ok x) { s with heap:=h',toks:=tk })
  {ρ:Fr} (hsc:ρ.sc=sc) (hp:P 0 s.heap as (Fu F L)) (i:Inv B s.heap as (Fu F L) st) (f:DA B s.heap as (Fu F L) env ρ) (hw:∀ p∈ws,st[p.1]? = some p.2)
  (e:qA (fun a=>JB env sc a\/a∈L) h₁ as₁ s.heap as)
  (hv:OE ws xs ρ (fun x ρ=>do
   let ρ' <- rd fun st=>rB false st t x ρ
   XA Γ body ρ') st=some ((fl,ρ'),st')) :
  codeAny (model prog w) A (.forLoop t (.ref I) body [] env) R s :=
 bj (g:=XA Γ body) (n0:=0) hh T (fun ρ hs s as st _ f i=>hb ρ hs s as st f i) hL hLF F₀ hf₀ hR (iE _) hsc hp i f hw e hv
theorem Dd:∀ it:Expr,cond (yE it) (∀ (env:Env) (x:dA),foldedSetIterable it env x=pure x) True:=by
 intro it
 rcases it with ⟨⟩<;>first|exact fun _ x=>(Eq.refl (pure x):(pure x:Sem dA)=pure x)|exact True.intro
theorem SP{it:Expr}(h:yE it=true)(x:dA):foldedSetIterable it env x=pure x:=QD (Dd it) h env x
theorem oo(hh:A.handled=none){t it:Expr}{body:List IA}{pos:Pos}(hi:KJ B prog w A F Γ t it env ρ)(hb:∀ L ρ',ρ'.sc=ρ.sc->yC B prog w A (Fu F L) env ρ' (execs body env) (XA Γ body ρ')) :
  yC B prog w A F env ρ (exec (.For t it body [] pos) env) (PB Γ (.For t it body [] pos) ρ):=by
 intro s as st f i fl ρ' st' hv Q E hQ
 refine iC (st:=st) hv fun hp hv0=>?_
 ·obtain⟨⟨xs,ws⟩,st1,h1,hv1⟩:=FM hv0
  refine wpAny_For (hi s as st f i xs ws st1 h1 _ _ fun I h₁ h' as' tk e1 i1 hbg hw ht=>?_) ?_
  ·obtain⟨L,P,T,p0,hk,hL⟩:=hbg
   have f1:=f.on i e1
   have hLF:∀ a∈L,¬ F a:=fun a ha=>(i1.fresh (hL a ha)).2
   refine aj hh T (hb L) (h₁:=h₁) (as₁:=as') hL hLF f1 rfl (s:={ s with heap:=h',toks:=tk }) (fun x h2 as2 tk2 rx sc f2 i2 e2 ht2=>?_) rfl p0 (i1.more hk hL (T.live _ _ _ _ p0)) (f1.more hk hL) hw (qA.keeps hk) hv1
   exact hQ x h2 as2 tk2 rx sc f2 i2 (e1.own.trans e2) (jA ht ht2)
  ·exact SP ((KA _ _).mp hp).1
end Ev
end
section
namespace Ev
variable{B:CA}{prog:pA}{w:eA}{A:xA}{F:cA->Prop}{s:iA}{as:List cA}{st:St}{Γ:Ctx}{env:Env}{ρ:Fr}{R:NF->iA->Prop}
inductive CK where
 | L (elt:Expr)
 | D (k v:Expr)
noncomputable def CK.e:CK->List uB->Scope->Pos->Expr
 | .L elt,gens,scope,pos=>.ListComp elt gens scope pos
 | .D k v,gens,scope,pos=>.DictComp k v gens scope pos
noncomputable def CK.ev(Γ:Ctx):CK->Fr->mA (List V)
 | .L elt=>fun ρ'=>do return [<-evalE Γ elt ρ']
 | .D k v=>fun ρ'=>do
  let a <- evalE Γ k ρ'
  let b <- evalE Γ v ρ'
  return [a,b]
def CK.ok:CK->List V->Prop
 | .L _,vs=>vs.length<=cap
 | .D ..,vs=>KQ vs=true
noncomputable def CK.o:CK->Obj
 | .L _=>{ cls:=.type "list",data:=.seq ([]:List dA).toArray }
 | .D ..=>{ cls:=.type "dict",data:=.dict #[] }
noncomputable def ZH(prog:pA)(w:eA)(A:xA)(c:CK)(gens:List uB)(scope:Scope)(pos:Pos)(d:Nat)(D:cA)(env:Env)(Q:iA->Prop)(E:dA->iA->Prop)(s:iA):Prop :=
 match gens[d]? with
 | some g'=>oA (model prog w) A (eval g'.iter env) (fun x s₁=>oA (model prog w) A (pyIter x) (fun it s₂ =>
   codeAny (model prog w) A (.compStart (c.e gens scope pos) d it (.ref D) env) (fun r s'=>match r with | .ok _=>Q s' | .error e=>cameBackBy (model prog w) A env E e s') s₂) E s₁) E s
 | none=>match c with
  | .L elt=>oA (model prog w) A (eval elt env) (fun x s₁=>oA (model prog w) A (call (.builtin "list.append") [.ref D,x]) (fun _ s₂=>Q s₂) E s₁) E s
  | .D k v=>oA (model prog w) A (eval k env) (fun x s₁=>oA (model prog w) A (eval v env) (fun y s₂=>oA (model prog w) A (dictSet D x y) (fun _ s₃=>Q s₃) E s₂) E s₁) E s
abbrev AJ(ifs:List Expr)(env:Env):Sem Bool:=forIn ifs true fun c r=>if r=true then do let ok <- PySem.isTrue c env (eval c env);pure (ForInStep.yield ok) else pure (ForInStep.yield r)
abbrev YK(prog:pA)(w:eA)(A:xA)(env:Env)(R:NF->iA->Prop):dA->iA->Prop:=notedBy (model prog w) A env fun e s'=>R (.error e) s'
abbrev Ur(prog:pA)(w:eA)(A:xA)(c:CK)(gens:List uB)(scope:Scope)(pos:Pos)(d:Nat)(D:cA)(env:Env)(R:NF->iA->Prop)(I:Nat->iA->Prop)(n:Nat):Bool->iA->Prop:=fun ok s₃ =>
 if ok=true then ZH prog w A c gens scope pos d D env (fun s₅=>∃ m,m<n/\I m s₅) (YK prog w A env R) s₃ else ∃ m,m<n/\I m s₃
abbrev Sr(prog:pA)(w:eA)(A:xA)(ifs:List Expr)(env:Env)(R:NF->iA->Prop)(K:Bool->iA->Prop):Unit->iA->Prop:=fun _ s₂=>oA (model prog w) A (AJ ifs env) K (YK prog w A env R) s₂
abbrev Rr(prog:pA)(w:eA)(A:xA)(target:Expr)(ifs:List Expr)(env:Env)(R:NF->iA->Prop)(K:Bool->iA->Prop)(v:dA):Unit->iA->Prop:=fun _ s₁=>oA (model prog w) A (assign target env v) (Sr prog w A ifs env R K) (YK prog w A env R) s₁
abbrev Tr(prog:pA)(w:eA)(A:xA)(target:Expr)(it:dA)(ifs:List Expr)(env:Env)(R:NF->iA->Prop)(K:Bool->iA->Prop):Option dA->iA->Prop:=fun r s₁=>match r with
 | none=>R (.ok .next) s₁
 | some v=>oA (model prog w) A (letOwnedTupleGo target it v) (Rr prog w A target ifs env R K v) (YK prog w A env R) s₁
theorem yb{c:CK}{gens:List uB}{scope:Scope}{pos:Pos}{d:Nat}{D:cA}{it:dA}{env:Env}{target iter:Expr}{ifs:List Expr}(hg:gens[d]? = some ⟨target,iter,ifs,0⟩)
  (hd:∀ g',gens[d+1]? = some g'->g'.is_async=0/\yE g'.iter=true)
  (I:Nat->iA->Prop)
  (turn:∀ n s,I n s->oA (model prog w) A (pyNext it) (Tr prog w A target it ifs env R (Ur prog w A c gens scope pos (d+1) D env R I n)) (YK prog w A env R) s)
  (n:Nat) (h:I n s):codeAny (model prog w) A (.compLoop (c.e gens scope pos) d it (.ref D) env) R s:=by
 cases c with
 | L elt =>
  refine codeAny_loop' rfl I (fun n s hI=>?_) n h
  show oA _ A ((compTurn _ d it (.ref D) env).onRaise (fun x=>do noteFrame x env;theTreesLotGoes x)) _ _ s
  refine wpAny_noted ?_
  unfold compTurn
  simp only [CK.e,hg]
  refine rA (VD ?_)
  rw [if_neg (by decide)]
  refine rA (VC (turn n s hI) (fun r s₁ h₁=>?_) fun _ _ h'=>h')
  rcases r with _|v
  ·exact JA h₁
  ·refine rA (VC h₁ (fun _ s₁' h₁'=>?_) fun _ _ h'=>h')
   refine rA (VC h₁' (fun _ s₂ h₂=>rA (VC h₂ (fun ok s₃ h₃=>?_) fun _ _ h'=>h')) fun _ _ h'=>h')
   rcases ok with _|_
   ·exact JA (.inl ⟨rfl,h₃⟩)
   ·simp only [if_true]
    have h₃:ZH prog w A _ gens scope pos (d+1) D env (fun s₅=>∃ m,m<n/\I m s₅) (YK prog w A env R) s₃:=h₃
    unfold ZH at h₃
    rcases hgd:gens[d+1]? with _|g'
    ·rw [hgd] at h₃
     refine rA (rA (VC h₃ (fun x s₄ h₄=>rA (VC h₄ (fun _ s₅ h₅=>?_) fun _ _ h'=>h')) fun _ _ h'=>h'))
     exact JA (JA (.inl ⟨rfl,h₅⟩))
    ·rw [hgd] at h₃
     obtain⟨t',it',ifs',as'⟩:=g'
     obtain⟨rfl,hpl⟩:=hd _ hgd
     refine rA (VC h₃ (fun x s₄ h₄=>rA (VD ?_)) fun _ _ h'=>h')
     rw [if_neg (by simp)]
     have hf:=SP (env:=env) hpl x
     refine rA (oR hf ?_)
     rw [if_neg (by simp)]
     refine rA (HF (VC h₄ (fun it2 s₅ h₅=>?_) fun _ _ h'=>h'))
     refine rA (wpAny_runOwn (codeAny_mono h₅ fun r s₆ h₆=>?_))
     cases r with
     | ok f=>exact JA (.inl ⟨rfl,h₆⟩)
     | error e=>exact h₆
 | D kx vx =>
  refine codeAny_loop' rfl I (fun n s hI=>?_) n h
  show oA _ A ((compTurn _ d it (.ref D) env).onRaise (fun x=>do noteFrame x env;theTreesLotGoes x)) _ _ s
  refine wpAny_noted ?_
  unfold compTurn
  simp only [CK.e,hg]
  refine rA (VD ?_)
  rw [if_neg (by decide)]
  refine rA (VC (turn n s hI) (fun r s₁ h₁=>?_) fun _ _ h'=>h')
  rcases r with _|v
  ·exact JA h₁
  ·refine rA (VC h₁ (fun _ s₁' h₁'=>?_) fun _ _ h'=>h')
   refine rA (VC h₁' (fun _ s₂ h₂=>rA (VC h₂ (fun ok s₃ h₃=>?_) fun _ _ h'=>h')) fun _ _ h'=>h')
   rcases ok with _|_
   ·exact JA (.inl ⟨rfl,h₃⟩)
   ·simp only [if_true]
    have h₃:ZH prog w A _ gens scope pos (d+1) D env (fun s₅=>∃ m,m<n/\I m s₅) (YK prog w A env R) s₃:=h₃
    unfold ZH at h₃
    rcases hgd:gens[d+1]? with _|g'
    ·rw [hgd] at h₃
     refine rA (rA (VC h₃ (fun kv s₄ h₄=>?_) fun _ _ h'=>h'))
     refine rA (HF (VC h₄ (fun vv s₅ h₅=>?_) fun _ _ h'=>h'))
     exact rA (VD (HF (VC h₅ (fun _ s₆ h₆=>JA (.inl ⟨rfl,h₆⟩)) fun _ _ h'=>h')))
    ·rw [hgd] at h₃
     obtain⟨t',it',ifs',as'⟩:=g'
     obtain⟨rfl,hpl⟩:=hd _ hgd
     refine rA (VC h₃ (fun x s₄ h₄=>rA (VD ?_)) fun _ _ h'=>h')
     rw [if_neg (by simp)]
     have hf:=SP (env:=env) hpl x
     refine rA (oR hf ?_)
     rw [if_neg (by simp)]
     refine rA (HF (VC h₄ (fun it2 s₅ h₅=>?_) fun _ _ h'=>h'))
     refine rA (wpAny_runOwn (codeAny_mono h₅ fun r s₆ h₆=>?_))
     cases r with
     | ok f=>exact JA (.inl ⟨rfl,h₆⟩)
     | error e=>exact h₆
theorem lY{c:CK}{gens:List uB}{scope:Scope}{pos:Pos}{d:Nat}{D:cA}{it:dA}{env:Env}{target iter:Expr}{ifs:List Expr}(hg:gens[d]? = some ⟨target,iter,ifs,0⟩)
  (h0:codeAny (model prog w) A (.compLoop (c.e gens scope pos) d it (.ref D) env) R s)
  (h:oA (model prog w) A (pyIter it) (fun it' s'=>codeAny (model prog w) A (.compLoop (c.e gens scope pos) d it' (.ref D) env) R s')
   (notedBy (model prog w) A env fun x s'=>R (.error x) s') s) :
  codeAny (model prog w) A (.compStart (c.e gens scope pos) d it (.ref D) env) R s:=by
 cases c with
 | L elt =>
  refine codeAny_of_tree ?_
  show oA _ A ((compStart _ d it (.ref D) env).onRaise (fun x=>do noteFrame x env;standAt theWindowsPlace)) _ _ s
  refine wpAny_notedAt ?_
  unfold compStart
  simp only [CK.e,show (clausesOf (Expr.ListComp elt gens scope pos))[d]? = some ⟨target,iter,ifs,0⟩ from hg]
  show oA _ _ (ask>>=_) _ _ s
  refine rA (wpAny_askSetting (wpAny_ite ?_))
  split
  ·first
    | exact rA (JA (JA (And.intro rfl h0)))
    | exact JA (And.intro rfl h0)
  ·first
    | exact rA (MM (rA (VD (rA (VC h (fun it' s' h'=>JA (And.intro rfl h')) fun _ _ x=>x)))))
    | (refine rA (MM ?_);show oA _ _ (standAt iter.pos>>=_) _ _ s;exact rA (VD (rA (VC h (fun it' s' h'=>JA (And.intro rfl h')) fun _ _ x=>x))))
 | D kx vx =>
  refine codeAny_of_tree ?_
  show oA _ A ((compStart _ d it (.ref D) env).onRaise (fun x=>do noteFrame x env;standAt theWindowsPlace)) _ _ s
  refine wpAny_notedAt ?_
  unfold compStart
  simp only [CK.e,show (clausesOf (Expr.DictComp kx vx gens scope pos))[d]? = some ⟨target,iter,ifs,0⟩ from hg]
  show oA _ _ (ask>>=_) _ _ s
  refine rA (wpAny_askSetting (wpAny_ite ?_))
  split
  ·first
    | exact rA (JA (JA (And.intro rfl h0)))
    | exact JA (And.intro rfl h0)
  ·first
    | exact rA (MM (rA (VD (rA (VC h (fun it' s' h'=>JA (And.intro rfl h')) fun _ _ x=>x)))))
    | (refine rA (MM ?_);show oA _ _ (standAt iter.pos>>=_) _ _ s;exact rA (VD (rA (VC h (fun it' s' h'=>JA (And.intro rfl h')) fun _ _ x=>x))))
end Ev
end
section
namespace Ev
variable{B:CA}{prog:pA}{w:eA}{A:xA}{F:cA->Prop}{s:iA}{as:List cA}{st:St}{Γ:Ctx}{env:Env}{ρ:Fr}{R:NF->iA->Prop}
theorem O5:∀ (ifs:List Expr) {Q:Bool->iA->Prop}{E:dA->iA->Prop},Q false s ->
  oA (model prog w) A (forIn ifs false fun c r=>if r=true then do let ok <- PySem.isTrue c env (eval c env);pure (ForInStep.yield ok) else pure (ForInStep.yield r)) Q E s
 | [],_,_,h=>JA h
 | c::r,_,_,h=>by
  rw [VH]
  rw [if_neg (by decide)]
  exact rA (JA (O5 r h))
theorem d3:∀ (ifs:List Expr),(∀ e∈ifs,lD B prog w A F env ρ (PySem.isTrue e env (eval e env)) (IB Γ e ρ (evalE Γ e ρ)))->lD B prog w A F env ρ (AJ ifs env) (ZE Γ ifs ρ):=by
 intro ifs
 induction ifs with
 | nil =>
  intro _ s as st f i v st' hv Q E hQ
  obtain⟨rfl,rfl⟩:=eB hv
  exact JA (hQ _ s.heap as s.toks rfl i (qA.refl _ _ _) (sA _))
 | cons c r ih =>
  intro h s as st f i v st' hv Q E hQ
  refine EA hv fun b st1 hb hv1=>?_
  show oA _ _ (forIn (c::r) true _) Q E s
  rw [VH,if_pos rfl]
  refine rA (rA (h c (by simp) s as st f i b st1 hb _ _ fun x h1 as1 tk1 rx i1 e1 ht1=>JA ?_))
  have rx':b=x:=rx
  subst rx'
  rcases b with _|_
  ·obtain⟨rfl,rfl⟩:=eB hv1
   exact O5 r (hQ _ h1 as1 tk1 rfl i1 e1 ht1)
  ·exact ih (fun e he=>h e (by simp [he])) _ as1 st1 (f.on i e1) i1 v st' hv1 _ _ fun y h2 as2 tk2 ry i2 e2 ht2=>hQ y h2 as2 tk2 ry i2 (e1.trans e2) (jA ht1 ht2)
def WD(B:CA)(c:CK)(h:Heap)(as:List cA)(F:cA->Prop)(D:cA)(vs:List V):Prop:=match c with
 | .L _=>∃ xs,jG h D xs.toArray/\vA B h as F vs xs
 | .D ..=>∃ ks us kvs o,vs=RG ks us/\ks.length=us.length/\h.get? D=some o/\B.dk o kvs/\kvs.map (·.1)=ks.map S/\(∀ k∈ks,∀ c∈k,c<0x110000)/\vA B h as F us (kvs.map (·.2))
def GC(env:Env)(sc:List (Str×GA))(D:cA)(a:cA):Prop:=JB env sc a\/a=D
theorem WD.mono{c:CK}{h h':Heap}{as as':List cA}{F F':cA->Prop}{D:cA}{vs:List V}(x:WD B c h as F D vs)(hp:as <+: as')(hD:∀ o,h.get? D=some o->h'.get? D=some o)
  (hk:∀ a o,h.get? a=some o->a∉as->¬ F a->h'.get? a=some o/\a∉as'/\¬ F' a):WD B c h' as' F' D vs:=by
 cases c with
 | L elt =>
  obtain⟨xs,⟨o,n,ho,r⟩,rs⟩:=x
  exact⟨xs,⟨o,n,hD o ho,r⟩,rs.mono hp hk⟩
 | D k v =>
  obtain⟨ks,us,kvs,o,h1,h2,ho,h3,h4,h5,rs⟩:=x
  exact⟨ks,us,kvs,o,h1,h2,hD o ho,h3,h4,h5,rs.mono hp hk⟩
theorem WD.ext{c:CK}{h h':Heap}{as as':List cA}{D:cA}{vs:List V}{G:cA->Prop}(x:WD B c h as F D vs)(e:qA G h as h' as')(hG:∀ a,G a->F a)(hD:F D)(hDG:¬ G D)(hDa:D∉as):WD B c h' as' F D vs :=
 x.mono e.pre (fun o ho=>e.keep D o ho hDa hDG) fun a o q1 q2 q3=>⟨e.keep a o q1 q2 fun g=>q3 (hG a g),fun hm=>(e.new a hm).elim q2 fun z=>(by rw [z] at q1;exact wA q1),q3⟩
theorem U2{xs:List V}(h:KQ xs=true):∃ ks,dF xs=some ks/\ks.Nodup/\xs.length<=128:=by
 unfold KQ at h
 split at h
 ·rename_i ks hk
  simp only [KA,decide_eq_true_eq] at h
  exact⟨ks,hk,h⟩
 ·exact VB h
theorem vT{ks:List (List Nat)}{us xs:List V}(h:ks.length=us.length):dF (RG ks us++xs)=(dF xs).map (ks ++ ·):=by
 induction ks generalizing us with
 | nil =>
  rcases us with _|⟨_,_⟩
  ·show dF xs=(dF xs).map ([] ++ ·)
   cases dF xs<;>rfl
  ·cases h
 | cons k ks ih =>
  rcases us with _|⟨u,us⟩
  ·cases h
  ·show (dF (RG ks us++xs)).map (k :: ·)=_
   rw [ih (Nat.succ.inj h)]
   cases dF xs<;>rfl
theorem Lj{ks:List (List Nat)}{us:List V}{k:List Nat}{u:V}(h:ks.length=us.length):RG ks us++[.str k,u]=RG (ks++[k]) (us++[u]):=by
 induction ks generalizing us with
 | nil =>
  rcases us with _|⟨_,_⟩
  ·rfl
  ·cases h
 | cons a ks ih =>
  rcases us with _|⟨b,us⟩
  ·contradiction
  ·exact congrArg (fun l=>V.str a::b::l) (ih (Nat.succ.inj h))
theorem ph(u:V)(r:List V):∀ v:V,(dF (v::u::r)).elim True fun _=>∃ k,v = .str k:=by
 intro v
 rcases v with ⟨⟩<;>first|exact True.intro|exact zB ⟨_,rfl⟩
theorem qh:∀ {v u:V}{r:List V}{ks:List (List Nat)},dF (v::u::r)=some ks->∃ k t,v = .str k/\ks=k::t:=by
 intro v u r ks h
 obtain⟨k,rfl⟩:=AC (ph u r v) h
 obtain⟨t,_,rfl⟩:=MC.mp h
 exact⟨_,t,rfl,rfl⟩
theorem DA.less{h:Heap}{ρ':Fr}(f:DA B h as F env ρ')(hs:ρ'.sc=ρ.sc)(ho:ρ'.out=ρ.out)(hv:∀ x v,ρ.vars.lookup x=some v->ρ'.vars.lookup x=some v):DA B h as F env ρ where
 kind:=f.kind
 gl:=f.gl
 bl:=f.bl
 loc:=by
  obtain⟨m,hn,hm⟩:=f.loc
  exact⟨m,hn,fun x v h1 h2=>hm x v (hs▸h1) (hv x v h2)⟩
 kindL:=fun x hx=>f.kindL x (hs▸hx)
 kindN:=fun x hx=>hs▸f.kindN x hx
 kindC:=fun x hx=>f.kindC x (hs▸hx)
 kindG:=fun x hx=>f.kindG x (hs▸hx)
 cell:=fun x hx=>by
  obtain⟨c,yo,h1,h2,h3,h4,h5⟩:=f.cell x (hs▸hx)
  exact⟨c,yo,h1,h2,h3,h4,fun v hv'=>h5 v (hv x v hv')⟩
 apart:=fun x x' c h1 h2=>f.apart x x' c (hs▸h1) (hs▸h2)
 free:=fun x hx=>by
  obtain⟨h1,h2,c,yo,h3,h4,h5,h6,h7,h8⟩:=f.free x (hs▸hx)
  exact⟨h1,h2,c,yo,h3,h4,h5,h6,fun x' hx'=>h7 x' (hs▸hx'),fun v hv'=>h8 v (ho▸hv')⟩
 ownF:=f.ownF
theorem f9{st:St}:∀ (es:List Expr),(∀ e∈es,∀ {v ρ ρ'},rB true st e v ρ=some ρ'->ρ'.out=ρ.out/\∀ x u,ρ.vars.lookup x=some u->ρ'.vars.lookup x=some u)->∀ {vs:List V}{ρ ρ':Fr},PD true st es vs ρ=some ρ'->ρ'.out=ρ.out/\∀ x u,ρ.vars.lookup x=some u->ρ'.vars.lookup x=some u:=by
 intro es
 induction es with
 | nil =>
  intro _ vs ρ ρ' h
  rcases vs with _|⟨_,_⟩
  ·obtain rfl:=qC h;exact⟨rfl,fun _ _ x=>x⟩
  ·exact wA h
 | cons e es ih =>
  intro k vs ρ ρ' h
  rcases vs with _|⟨v,vs⟩
  ·exact wA h
  ·obtain⟨ρ1,h1,h2⟩:=zP h
   obtain⟨a1,a2⟩:=k e HA h1
   obtain⟨b1,b2⟩:=ih (fun e he=>k e (NA _ he)) h2
   exact⟨b1.trans a1,fun x u q=>b2 x u (a2 x u q)⟩
theorem e9{st:St}:∀ (t:Expr) {v:V}{ρ ρ':Fr},rB true st t v ρ=some ρ'->ρ'.out=ρ.out/\∀ x u,ρ.vars.lookup x=some u->ρ'.vars.lookup x=some u :=
 yV (P:=fun t=>∀ {v:V}{ρ ρ':Fr},rB true st t v ρ=some ρ'->ρ'.out=ρ.out/\∀ x u,ρ.vars.lookup x=some u->ρ'.vars.lookup x=some u) fun t ih v ρ ρ' h=>by
 rcases qS h with ⟨x,p,_,hn,h⟩|⟨es,k,p,vs,e,_,h⟩
 ·obtain⟨_,rfl⟩:=Fr.set_some h
  refine⟨rfl,fun z u hz=>?_⟩
  show (TB x v ρ.vars).lookup z=some u
  rw [VQ]
  by_cases q:z=x
  ·subst q;rw [hz] at hn;exact VB hn.symm
  ·rw [if_neg q];exact hz
 ·exact f9 es (ih es k p e) h
noncomputable def aI(B:CA)(prog:pA)(w:eA)(A:xA)(Γ:Ctx)(F:cA->Prop)(c:CK)(gens:List uB)(scope:Scope)(pos:Pos)(d:Nat)(D:cA)(env:Env)(gs:List uB)(ρ:Fr):Prop :=
 ∀ pre s as st out st',DA B s.heap as F env ρ->Inv B s.heap as F st->WD B c s.heap as F D pre->TF Γ gs (c.ev Γ) ρ ρ st=some (out,st')->(∃ rest,c.ok (pre++out++rest)) ->
  ∀ (Q:iA->Prop) (E:dA->iA->Prop),(∀ h' as' tk,DA B h' as' F env ρ->Inv B h' as' F st'->WD B c h' as' F D (pre++out)->qA (GC env ρ.sc D) s.heap as h' as'->s.toks<=tk->Q { s with heap:=h',toks:=tk }) ->
  ZH prog w A c gens scope pos d D env Q E s
theorem DA.atD{h h':Heap}{D:cA}(f:DA B h as F env ρ)(hD:F D)(hDo:¬ JB env ρ.sc D)(hN:∀ v,¬ h.IsCell D v)(hk:∀ a o,a≠D->h.get? a=some o->h'.get? a=some o):DA B h' as F env ρ:=by
 refine f.gen (fun r=>r.atF hD hk) fun a o q e=>⟨hk a o (fun ha=>?_) e,f.placeF q⟩
 rcases q with q|⟨y,yo,hy,hc,o',ho',hd'⟩
 ·exact hDo (ha▸q)
 ·subst ha
  exact hN _ ⟨o',ho',hd'⟩
theorem q9(hdk:ED B prog w){c:CK}{gens:List uB}{scope:Scope}{pos:Pos}{d:Nat}{D:cA}(hD:F D)(hDo:¬ JB env ρ.sc D)(hd:gens[d]? = none)(he:match c with | .L elt=>VA B prog w A F env ρ (eval elt env) (evalE Γ elt ρ) | .D k v=>VA B prog w A F env ρ (eval k env) (evalE Γ k ρ)/\VA B prog w A F env ρ (eval v env) (evalE Γ v ρ)) :
  aI B prog w A Γ F c gens scope pos d D env [] ρ:=by
 intro pre s as st out st' f i acc hv hcap Q E hQ
 obtain⟨rest,hcap⟩:=hcap
 have hDa:D∉as:=fun q=>i.apart D q hD
 cases c with
 | L elt =>
  refine EA hv fun v st1 h1 hv1=>?_
  obtain⟨rfl,rfl⟩:=eB hv1
  unfold ZH
  rw [hd]
  refine he s as st f i v _ h1 _ _ fun x g1 as1 tk1 rx i1 e1 ht1=>?_
  obtain⟨xs,hpl,rs⟩:=acc.ext e1 (fun _ q=>q.elim) hD id hDa
  refine list_append_plainL hpl (fun h' hp' hs'=>?_) ?_
  ·have hk:∀ a o,a≠D->g1.get? a=some o->h'.get? a=some o:=fun a o q e=>(hs'.2 a q).trans e
   have hl:∃ o,h'.get? D=some o:=by obtain⟨o,_,ho,_⟩:=hp';exact⟨o,ho⟩
   have f1:=f.on i e1
   refine hQ h' as1 tk1 (f1.atD hD hDo (fun v hc=>?_) hk) (i1.atF hD hk hl) ⟨xs++[x],by simpa using hp',?_⟩ ?_ ht1
   ·obtain⟨o',ho',hc'⟩:=hc
    obtain⟨o,_,ho,_,_,hd'⟩:=hpl
    rw [ho] at ho';cases ho'
    rw [hd'] at hc';contradiction
   ·exact (rs.mono (wB _) fun a o h1 h2 h3=>⟨hk a o (fun e=>h3 (e▸hD)) h1,h2,h3⟩).app (.cons (rx.atF hD hk) .nil)
   ·exact (e1.weak fun _ q=>q.elim).trans ((qA.atF hk hl).weak fun a q=>.inr q)
  ·have:=rs.length
   simp
   rw [<-this]
   have hc:(pre++[v]++rest).length<=cap:=hcap
   have:=mG (n:=pre.length) (by simp at hc;exact CR hc)
   exact this
 | D kx vx =>
  refine EA hv fun a st1 h1 hv1=>?_
  refine EA hv1 fun b st2 h2 hv2=>?_
  obtain⟨rfl,rfl⟩:=eB hv2
  unfold ZH
  rw [hd]
  refine he.1 s as st f i a _ h1 _ _ fun x g1 as1 tk1 rx i1 e1 ht1=>?_
  have f1:=f.on i e1
  have acc1:=acc.ext e1 (fun _ q=>q.elim) hD id hDa
  refine he.2 _ as1 st1 f1 i1 b _ h2 _ _ fun y g2 as2 tk2 ry i2 e2 ht2=>?_
  have f2:=f1.on i1 e2
  obtain⟨ks,us,kvs,o,rfl,hlen,ho,hdo,hks,hkl,rs⟩:=acc1.ext e2 (fun _ q=>q.elim) hD id (fun q=>i1.apart D q hD)
  obtain⟨all,hall,hnd,hsz⟩:=U2 hcap
  rw [qB,vT hlen] at hall
  obtain⟨t,ht,rfl⟩:=MC.mp hall
  obtain⟨k,t,rfl,rfl⟩:=qh (show dF (a::b::rest)=some t from ht)
  have rx2:=e2.repv rx
  obtain⟨u,rfl,hu⟩:=pC rx2
  have hkn:S k∉kvs.map (·.1):=by
   rw [hks]
   intro q
   obtain⟨k',hk',e⟩:=rC.mp q
   rw [kP e] at hk'
   exact (iL.mp hnd).2.2 k hk' k HA rfl
  have hkvl:kvs.length<=128:=by
   have e1:kvs.length=ks.length:=by have:=congrArg lL hks;simpa using this
   have e2:∀ (ks:List (List Nat)) (us:List V),ks.length=us.length->(RG ks us).length=2*ks.length:=by
    intro ks
    induction ks with
    | nil=>intro us _;rcases us with ⟨⟩<;>rfl
    | cons k r ih =>
     intro us hu
     rcases us with _|⟨u,us⟩
     ·simp at hu
     ·exact congrArg (· + 2) (ih us (Nat.succ.inj hu))
   have e4:ks.length<=(RG ks us).length:=by rw [e2 ks us hlen];exact Nat.le_mul_of_pos_left _ (by decide)
   rw [e1]
   refine jA e4 (jA ?_ hsz)
   rw [qB,QA]
   exact BB _ _
  refine wpAny_dictSet_pairs (hsz:=by rw [sizeLine_eq];exact jA hkvl (LD _ _)) (strKind_is prog w _ _) (ED.of (D:=hdk) ho hdo) fun h' hm hs=>?_
  rw [stored_absent (valueAt_none_of_not_mem hkn)] at hm
  obtain⟨o',ho',hd'⟩:=zR.mp hm
  have hk:∀ a o,a≠D->g2.get? a=some o->h'.get? a=some o:=fun a o q e=>(hs.2 a q).trans e
  refine hQ h' as2 _ (f2.atD hD hDo (fun v hc=>?_) hk) (i2.atF hD hk ⟨_,ho'⟩) ⟨ks++[k],us++[b],kvs++[(S k,y)],o',Lj hlen,by simp [hlen],ho',(hdk.iff _ _).mpr hd',by simp [hks],fun k' hk'=>?_,?_⟩ ?_ (eE (jA ht1 ht2))
  ·obtain⟨o1,ho1,hc'⟩:=hc
   rw [ho] at ho1;cases ho1
   obtain⟨es,ep,_,hd1,_⟩:=(hdk.iff _ _).mp hdo
   rw [hd1] at hc';contradiction
  ·rcases GB.mp hk' with q|q
   ·exact hkl k' q
   ·rw [BA.mp q];exact hu
  ·rw [aB]
   exact (rs.mono (wB _) fun a o h1 h2 h3=>⟨hk a o (fun e=>h3 (e▸hD)) h1,h2,h3⟩).app (.cons (ry.atF hD hk) .nil)
  ·exact ((e1.trans e2).weak fun _ q=>q.elim).trans ((qA.atF hk ⟨_,ho'⟩).weak fun a q=>.inr q)
end Ev
end
section
namespace Ev
variable{B:CA}{prog:pA}{w:eA}{A:xA}{F:cA->Prop}{s:iA}{as:List cA}{st:St}{Γ:Ctx}{env:Env}{ρ:Fr}{R:NF->iA->Prop}
abbrev fR(Γ:Ctx)(t:Expr)(ifs:List Expr)(gs:List uB)(leaf:Fr->mA (List V))(ρi:Fr)(x:V):mA (List V):=do
 let ρ' <- rd fun st=>rB true st t x ρi
 if <- ZE Γ ifs ρ' then TF Γ gs leaf ρ' ρ' else pure []
inductive TR(B:CA)(c:CK)(F:cA->Prop)(L:List cA)(D:cA)(P:Nat->Heap->List cA->(cA->Prop)->Prop)(env:Env)(ρ:Fr)(ws:List (Nat×O))(xs:List V)(m:V->mA (List V))(pre out:List V)(st':St)(h₁:Heap)(as₁:List cA)(s:iA):Nat->iA->Prop
 | mk {k:Nat}{out1 out2:List V}{as1:List cA}{st1:St}{h2:Heap}{tk:Nat}:s.toks<=tk->k<=xs.length->out=out1++out2->P k h2 as1 (Fu F L)->Inv B h2 as1 (Fu F L) st1->DA B h2 as1 (Fu F L) env ρ->WD B c h2 as1 (Fu F L) D (pre++out1)->(∀ p∈ws,st1[p.1]? = some p.2) ->
   qA (fun a=>GC env ρ.sc D a\/a∈L) h₁ as₁ h2 as1->fF ws (xs.drop k) m st1=some (out2,st')->TR B c F L D P env ρ ws xs m pre out st' h₁ as₁ s (xs.drop k).length { s with heap:=h2,toks:=tk }
theorem qj{ws:List (Nat×O)}{x:V}{xs:List V}{m:V->mA (List V)}{st st':St}{out:List V}{C:Prop}(h:fF ws (x::xs) m st=some (out,st'))(k:∀ o1 st1 o2,m x st=some (o1,st1)->(∀ p∈ws,st1[p.1]? = some p.2)->fF ws xs m st1=some (o2,st')->out=o1++o2->C):C:=by
 refine EA (show (m x>>=fun a=>same ws>>=fun _=>fF ws xs m>>=fun b=>pure (a++b)) st=some (out,st') from h) fun o1 st1 h1 h2=>?_
 refine EA h2 fun u st2 h3 h4=>?_
 obtain⟨rfl,hw⟩:=cV h3
 refine EA h4 fun o2 st3 h5 h6=>?_
 obtain⟨rfl,rfl⟩:=eB h6
 exact k o1 _ o2 h1 hw h5 rfl
theorem Es{Γ:Ctx}{t:Expr}{ifs:List Expr}{gs:List uB}{leaf:Fr->mA (List V)}{ρ:Fr}{x:V}{st:St}{r:List V×St}{C:Prop}(h:fR Γ t ifs gs leaf ρ x st=some r)
  (k:∀ ρ3 b st4,rB true st t x ρ=some ρ3->ZE Γ ifs ρ3 st=some (b,st4)->(b=false->r=([],st4))->(b=true->TF Γ gs leaf ρ3 ρ3 st4=some r)->C):C:=by
 refine MK h fun ρ3 h1 h2=>?_
 refine EA h2 fun b st4 h3 h4=>?_
 refine k ρ3 b st4 h1 h3 (fun e=>?_) fun e=>?_
 ·subst e;exact (qC h4).symm
 ·subst e;exact h4
theorem Q0(hh:A.handled=none){c:CK}{gens:List uB}{scope:Scope}{pos:Pos}{d:Nat}{D:cA}{t it:Expr}{ifs:List Expr}{gs:List uB}
  (hg:gens[d]? = some ⟨t,it,ifs,0⟩) (hall:∀ g∈gens,g.is_async=0/\yE g.iter=true)
  {I:cA}{L:List cA}{xs:List V}{ws:List (Nat×O)}{P:Nat->Heap->List cA->(cA->Prop)->Prop} (T:KG B prog w t I L xs ws P)
  {h₁:Heap}{as₁:List cA} (hL:∀ a∈L,h₁.get? a=none) (hLF:∀ a∈L,¬ F a) (hD:F D) {ρ:Fr} (hDo:¬ JB env ρ.sc D) {as₀:List cA}{h₀:Heap} (F₀:DA B h₀ as₀ F env ρ)
  (hifs:∀ ρ',ρ'.sc=ρ.sc->lD B prog w A (Fu F L) env ρ' (AJ ifs env) (ZE Γ ifs ρ'))
  (hbody:∀ ρ',ρ'.sc=ρ.sc->aI B prog w A Γ (Fu F L) c gens scope pos (d+1) D env gs ρ')
  {pre out:List V}{st':St}{s:iA}{R:NF->iA->Prop}
  (hR:∀ h' as' tk,DA B h' as' F env ρ->Inv B h' as' F st'->WD B c h' as' F D (pre++out)->qA (GC env ρ.sc D) h₁ as₁ h' as'->s.toks<=tk->R (.ok .next) { s with heap:=h',toks:=tk })
  (hp:P 0 s.heap as (Fu F L)) (i:Inv B s.heap as (Fu F L) st) (f:DA B s.heap as (Fu F L) env ρ) (hacc:WD B c s.heap as (Fu F L) D pre) (hw:∀ p∈ws,st[p.1]? = some p.2) (hcap:∃ rest,c.ok (pre++out++rest))
  (e:qA (fun a=>GC env ρ.sc D a\/a∈L) h₁ as₁ s.heap as)
  (hv:fF ws xs (fR Γ t ifs gs (c.ev Γ) ρ) st=some (out,st')) :
  codeAny (model prog w) A (.compLoop (c.e gens scope pos) d (.ref I) (.ref D) env) R s:=by
 refine yb hg (fun g' hg'=>hall g' (DD hg')) (I:=TR B c F L D P env ρ ws xs (fR Γ t ifs gs (c.ev Γ) ρ) pre out st' h₁ as₁ s) ?_ xs.length
  (.mk (k:=0) (out1:=[]) (out2:=out) (sA _) (iE _) rfl hp i f ((bC pre).symm▸hacc) hw e hv)
 intro n s2 hI
 clear hp i f hacc hw hv e
 cases hI with | @mk k out1 out2 as1 st1 h2 tk htk hk ho p1 i1 f1 acc1 hw1 e1 hv1=>?_
 subst ho
 have hDL:D∉L:=fun q=>hLF D q hD
 have GF:∀ a,GC env ρ.sc D a->F a:=fun a q=>q.elim (fun q=>F₀.own a q) fun q=>q▸hD
 by_cases hkl:k=xs.length
 ·subst hkl
  rw [VV] at hv1
  obtain⟨rfl,rfl⟩:=eB hv1
  refine T.done A { s with heap:=h2,toks:=tk } as1 (Fu F L) _ _ _ hh p1 i1 hw1 fun h' tk' hk' ht'=>?_
  refine hR h' as1 tk' (f1.drop F₀ rfl hLF hk') (i1.drop hLF hk') ?_ (e1.thenL hk' hL) (jA htk ht')
  have:pre++(out1++[])=pre++out1:=by simp
  rw [this]
  exact acc1.mono (wB _) (fun o ho=>hk' D o hDL ho) fun a o q1 q2 q3=>⟨hk' a o (fun q=>q3 (.inr q)) q1,q2,fun q=>q3 (.inl q)⟩
 ·have hlt:k<xs.length:=DJ hk hkl
  have hx:xs[k]? = some xs[k]:=sD hlt
  rw [GV hlt] at hv1 ⊢
  refine qj hv1 fun o1 st2 o2 h3 hw5 h7 ho2=>?_
  subst ho2
  refine Es h3 fun ρ3 b st4 h4' hb hbf hbt=>?_
  clear h3 hv1
  refine T.item k xs[k] A { s with heap:=h2,toks:=tk } as1 (Fu F L) _ _ _ hh hx p1 i1 (fun a ha=>.inr ha) hw1 fun y h' tk' hk' hl' ry ht' go=>?_
  refine go _ _ fun h'' hk2 p2=>?_
  have hl2:=T.live _ _ _ _ p2
  have hk3:∀ b o,b∉L->h2.get? b=some o->h''.get? b=some o:=fun b o q e=>hk2 b o q (hk' b o q e)
  have i2:Inv B h'' as1 (Fu F L) _:=i1.onL hk3 hl2
  have e2:qA (fun a=>GC env ρ.sc D a\/a∈L) h₁ as₁ h'' as1:=e1.trans (qA.onL hk3 hl2)
  have f2:DA B h'' as1 (Fu F L) env ρ:=f1.onL F₀ rfl hLF hk3
  have acc2:WD B c h'' as1 (Fu F L) D (pre++out1):=acc1.mono (wB _) (fun o ho=>hk3 D o hDL ho) fun a o q1 q2 q3=>⟨hk3 a o (fun q=>q3 (.inr q)) q1,q2,q3⟩
  have ry2:kA B h'' as1 (Fu F L) xs[k] y:=ry.mono (wB _) fun a o e q1 q2=>⟨hk2 a o (fun q=>q2 (.inr q)) e,q1,q2⟩
  refine rS hh t (s:={ s with heap:=h'',toks:=tk' }) f2 i2 ry2 h4' fun h3' tk3 f3 i3 e3 ht3=>?_
  have sc3:ρ3.sc=ρ.sc:=xP t h4'
  obtain⟨new1,new2⟩:=e9 t h4'
  have acc3:WD B c h3' as1 (Fu F L) D (pre++out1):=acc2.ext e3 (fun a q=>.inl (F₀.own a q)) (.inl hD) hDo (fun q=>i2.apart D q (.inl hD))
  refine hifs ρ3 sc3 { s with heap:=h3',toks:=tk3 } as1 _ f3 i3 b st4 hb _ _ fun x h4'' as4 dE rx i4 e4 ht4=>?_
  have rx':b=x:=rx
  subst rx'
  have f4:=f3.on i3 e4
  have acc4:WD B c h4'' as4 (Fu F L) D (pre++out1):=acc3.ext e4 (fun a q=>q.elim) (.inl hD) id (fun q=>i3.apart D q (.inl hD))
  have e5:qA (GC env ρ.sc D) h'' as1 h4'' as4:=(e3.weak fun a q=>.inl q).trans (e4.weak fun a q=>q.elim)
  have fin:∀ h6 as6 tk6,qA (GC env ρ.sc D) h'' as1 h6 as6->Inv B h6 as6 (Fu F L) st2->DA B h6 as6 (Fu F L) env ρ3->WD B c h6 as6 (Fu F L) D (pre++(out1++o1))->dE<=tk6 ->
    ∃ m,m<(xs[k]::xs.drop (k+1)).length/\TR B c F L D P env ρ ws xs (fR Γ t ifs gs (c.ev Γ) ρ) pre (out1++(o1++o2)) st' h₁ as₁ s m { s with heap:=h6,toks:=tk6 }:=by
   intro h6 as6 tk6 e6 i6 f6 acc6 ht6
   have keep6:∀ a∈L,∀ o,h''.get? a=some o->h6.get? a=some o:=fun a ha o e =>
    e6.keep a o e (fun q=>i2.apart a q (.inr ha)) fun q=>hLF a ha (GF a q)
   have mono6:∀ a o,h''.get? a=some o->a∉as1->¬ Fu F L a->h6.get? a=some o/\a∉as6/\¬ Fu F L a:=fun a o e q1 q2 =>
    ⟨e6.keep a o e q1 fun q=>q2 (.inl (GF a q)),fun hm=>(e6.new a hm).elim q1 fun q=>(by rw [q] at e;exact wA e),q2⟩
   exact⟨_,jD _,.mk (jA htk (jA ht' (jA ht3 (jA ht4 ht6)))) hlt (qB ..).symm (T.frame _ _ _ _ _ _ _ p2 e6.pre mono6 keep6) i6 (f6.less sc3.symm.symm new1 new2) acc6 hw5 (e2.trans (e6.weak fun a q=>.inl q)) h7⟩
  rcases b with _|_
  ·cases hbf rfl
   exact fin h4'' as4 dE e5 i4 f4 ((bC out1).symm▸acc4) (sA _)
  ·refine hbody ρ3 sc3 (pre++out1) { s with heap:=h4'',toks:=dE } as4 st4 o1 _ f4 i4 acc4 (hbt rfl) ?_ _ _ fun h6 as6 tk6 f6 i6 acc6 e6 ht6=>?_
   ·obtain⟨rest,hr⟩:=hcap
    exact⟨o2++rest,by simpa using hr⟩
   ·exact fin h6 as6 tk6 (e5.trans (sc3▸e6)) i6 f6 (qB .. ▸ acc6) ht6
end Ev
end
section
namespace Ev
variable{B:CA}{prog:pA}{w:eA}{A:xA}{F:cA->Prop}{s:iA}{as:List cA}{st:St}{Γ:Ctx}{env:Env}{ρ:Fr}{R:NF->iA->Prop}
theorem p9(hh:A.handled=none){c:CK}{gens:List uB}{scope:Scope}{pos:Pos}{d:Nat}{D:cA}{t it:Expr}{ifs:List Expr}{gs:List uB}
  (hg:gens[d]? = some ⟨t,it,ifs,0⟩) (hall:∀ g∈gens,g.is_async=0/\yE g.iter=true) (hD:F D) (hDo:¬ JB env ρ.sc D)
  (JC:KJ B prog w A F Γ t it env ρ)
  (hifs:∀ L ρ',ρ'.sc=ρ.sc->lD B prog w A (Fu F L) env ρ' (AJ ifs env) (ZE Γ ifs ρ'))
  (hbody:∀ L ρ',ρ'.sc=ρ.sc->aI B prog w A Γ (Fu F L) c gens scope pos (d+1) D env gs ρ') :
  aI B prog w A Γ F c gens scope pos d D env (⟨t,it,ifs,0⟩::gs) ρ:=by
 intro pre s as st out st' f i acc hv hcap Q E hQ
 refine iC (st:=st) hv fun _ hv0=>?_
 ·obtain⟨⟨xs,ws⟩,st1,h1,hv1⟩:=FM hv0
  unfold ZH
  rw [hg]
  refine JC s as st f i xs ws st1 h1 _ _ fun I h₁ h' as' tk e1 i1 hbg hw ht=>?_
  obtain⟨L,P,T,p0,hk,hL⟩:=hbg
  have f1:=f.on i e1
  have hLF:∀ a∈L,¬ F a:=fun a ha=>(i1.fresh (hL a ha)).2
  have acc1:WD B c h₁ as' F D pre:=acc.ext e1 (fun _ q=>q.elim) hD id (fun q=>i.apart D q hD)
  have acc2:WD B c h' as' (Fu F L) D pre:=acc1.mono (wB _) (fun o ho=>hk _ _ ho) (cH hk hL)
  have loop:codeAny (model prog w) A (.compLoop (c.e gens scope pos) d (.ref I) (.ref D) env) (fun r s'=>match r with | .ok _=>Q s' | .error e=>cameBackBy (model prog w) A env E e s') { s with heap:=h',toks:=tk }:=by
   refine Q0 hh hg hall T (h₁:=h₁) (as₁:=as') hL hLF hD hDo f1 (hifs L) (hbody L) (s:={ s with heap:=h',toks:=tk }) (fun h2 as2 tk2 f2 i2 acc3 e2 ht2=>?_) p0 (i1.more hk hL (T.live _ _ _ _ p0)) (f1.more hk hL) acc2 hw hcap (qA.keeps hk) hv1
   exact hQ h2 as2 tk2 f2 i2 acc3 ((e1.weak fun _ q=>q.elim).trans e2) (jA ht ht2)
  exact lY hg loop (T.self 0 A { s with heap:=h',toks:=tk } as' (Fu F L) _ _ hh p0 loop)
noncomputable def PF(cells:List (Str×cA)):List (Str×GA)->List (Str×cA)->List (Str×cA)
 | [],acc=>acc
 | (name,kind)::r,acc=>if kind == .free then PF cells r ((name,(cells.lookup name).getD 0)::acc) else PF cells r acc
theorem Xa{scope:Scope}(h:∀ x∈scope.names,x.2 = .free->(env.cells.lookup x.1).isSome=true):closureFor scope env=pure (PF env.cells scope.names []):=by
 have go:∀ (f:Str×GA->List (Str×cA)->Sem (ForInStep (List (Str×cA)))) (hf:∀ n k cs,f (n,k) cs=if (k==GA.free)=true then (do let a <- cellOf env n;pure (ForInStep.yield ((n,a)::cs))) else pure (ForInStep.yield cs))
   (names:List (Str×GA)) (acc:List (Str×cA)),(∀ x∈names,x.2 = .free->(env.cells.lookup x.1).isSome=true) ->
   (forIn names acc f:Sem (List (Str×cA)))=pure (PF env.cells names acc):=by
  intro f hf names
  induction names with
  | nil=>intro acc _;rfl
  | cons x r ih =>
   intro acc hx
   obtain⟨n,k⟩:=x
   rw [VH,hf]
   rw [show PF env.cells ((n,k)::r) acc=if (k == .free)=true then PF env.cells r ((n,(env.cells.lookup n).getD 0)::acc) else PF env.cells r acc from rfl]
   rcases hk:k==GA.free with _|_
   ·simp only [jL,if_false]
    exact ih acc fun y hy=>hx y (NA _ hy)
   ·simp only [if_true]
    have hs:=hx (n,k) HA (by simpa using hk)
    obtain⟨c,hc⟩:=XV.mp hs
    have e:cellOf env n=pure c:=by
     unfold cellOf
     rw [show env.cells.lookup n=some c from hc]
    rw [e,show env.cells.lookup n=some c from hc]
    exact ih ((n,c)::acc) fun y hy=>hx y (NA _ hy)
 unfold closureFor
 exact (congrArg (fun m:Sem (List (Str×cA))=>m>>=fun cs=>pure cs) (go _ (fun _ _ _=>rfl) scope.names [] h)).trans rfl
theorem IK{n:Str}{k:GA}{r:List (Str×GA)}(h:jF ((n,k)::r)=true):r.lookup n=none/\jF r=true:=by
 obtain⟨h1,h2⟩:=(KA _ _).mp h
 exact⟨by simpa using h1,h2⟩
theorem bD{α:Type}{x n:Str}{v:α}{r:List (Str×α)}(h:x≠n):wD x ((n,v)::r)=r.lookup x:=by
 have:(x==n)=false:=by simpa using h
 simp [wD,this]
theorem qD{α:Type}{n:Str}{v:α}{r:List (Str×α)}:wD n ((n,v)::r)=some v:=by simp [wD]
theorem hY{cells:List (Str×cA)}{n:Str}{k:GA}{r:List (Str×GA)}{acc:List (Str×cA)}:PF cells ((n,k)::r) acc=if (k == .free)=true then PF cells r ((n,(cells.lookup n).getD 0)::acc) else PF cells r acc:=rfl
theorem DP{n:Str}{k:GA}{r:List (Str×GA)}{m:Nat}{acc:List (Str×cA)}:LE m ((n,k)::r) acc=if (k == .cell)=true then LE (m+1) r ((n,m)::acc) else LE m r acc:=rfl
theorem bM{α:Type}{o:Option α}{a:α}(h:o=none):o≠some a:=fun e=>wA (h.symm.trans e)
theorem B0{k j:GA}(h:some k≠some j):¬ (k==j)=true:=fun e=>h (congrArg some (eq_of_beq e))
theorem Ia{cells:List (Str×cA)}:∀ {names:List (Str×GA)}{acc:List (Str×cA)}{x:Str},jF names=true->names.lookup x≠some .free->(PF cells names acc).lookup x=acc.lookup x:=by
 intro names
 induction names with
 | nil=>intro _ _ _ _;rfl
 | cons p r ih =>
  intro acc x ho hx
  obtain⟨n,k⟩:=p
  obtain⟨h1,h2⟩:=IK ho
  rw [hY]
  by_cases q:x=n
  ·subst q
   rw [qD] at hx
   rw [if_neg (B0 hx)]
   exact ih h2 (bM h1)
  ·rw [bD q] at hx
   by_cases hk:(k==GA.free)=true
   ·rw [if_pos hk,ih h2 hx,bD q]
   ·rw [if_neg hk];exact ih h2 hx
theorem Ha{cells:List (Str×cA)}:∀ {names:List (Str×GA)}{acc:List (Str×cA)}{x:Str},jF names=true->names.lookup x=some .free->(PF cells names acc).lookup x=some ((cells.lookup x).getD 0):=by
 intro names
 induction names with
 | nil=>intro _ _ _ hx;exact wA hx
 | cons p r ih =>
  intro acc x ho hx
  obtain⟨n,k⟩:=p
  obtain⟨h1,h2⟩:=IK ho
  rw [hY]
  by_cases q:x=n
  ·subst q
   rw [qD] at hx
   cases hx
   rw [if_pos (beq_self_eq_true _),Ia h2 (bM h1),qD]
  ·rw [bD q] at hx
   by_cases hk:(k==GA.free)=true
   ·rw [if_pos hk];exact ih h2 hx
   ·rw [if_neg hk];exact ih h2 hx
theorem CP:∀ {names:List (Str×GA)}{m:Nat}{acc:List (Str×cA)}{x:Str},jF names=true->names.lookup x≠some .cell->(LE m names acc).lookup x=acc.lookup x:=by
 intro names
 induction names with
 | nil=>intro _ _ _ _ _;rfl
 | cons p r ih =>
  intro m acc x ho hx
  obtain⟨n,k⟩:=p
  obtain⟨h1,h2⟩:=IK ho
  rw [DP]
  by_cases q:x=n
  ·subst q
   rw [qD] at hx
   rw [if_neg (B0 hx)]
   exact ih h2 (bM h1)
  ·rw [bD q] at hx
   by_cases hk:(k==GA.cell)=true
   ·rw [if_pos hk,ih h2 hx,bD q]
   ·rw [if_neg hk];exact ih h2 hx
theorem wS:∀ {names:List (Str×GA)}{h:Heap}{acc:List (Str×cA)}{x:Str},jF names=true->names.lookup x=some .cell ->
  ∃ c,(LE h.objs.size names acc).lookup x=some c/\h.objs.size<=c/\(pushCells h names).IsCell c none:=by
 intro names
 induction names with
 | nil=>intro _ _ _ _ hx;exact wA hx
 | cons p r ih =>
  intro h acc x ho hx
  obtain⟨n,k⟩:=p
  obtain⟨h1,h2⟩:=IK ho
  rw [DP,show pushCells h ((n,k)::r)=if (k == .cell)=true then pushCells (h.push { cls:=.type "cell",data:=.cell none }) r else pushCells h r from rfl]
  by_cases q:x=n
  ·subst q
   rw [qD] at hx
   cases hx
   rw [if_pos (beq_self_eq_true _),if_pos (beq_self_eq_true _)]
   refine⟨h.objs.size,?_,sA _,?_⟩
   ·rw [CP h2 (bM h1),qD]
   ·exact⟨_,wO r _ _ _ (vD h rfl),rfl⟩
  ·rw [bD q] at hx
   by_cases hk:(k==GA.cell)=true
   ·rw [if_pos hk,if_pos hk]
    obtain⟨c,e1,e2,e3⟩:=ih (h:=h.push { cls:=.type "cell",data:=.cell none }) (acc:=(n,h.objs.size)::acc) h2 hx
    rw [mL] at e1 e2
    exact⟨c,e1,HG e2,e3⟩
   ·rw [if_neg hk,if_neg hk];exact ih h2 hx
theorem EL:∀ {names:List (Str×GA)}{m:Nat}{acc:List (Str×cA)}{z:Str}{c:cA},jF names=true->names.lookup z=some .cell->(LE m names acc).lookup z=some c->m<=c:=by
 intro names
 induction names with
 | nil=>intro _ _ _ _ _ hz _;exact wA hz
 | cons p r ih =>
  intro m acc z c ho hz hc
  obtain⟨n,k⟩:=p
  obtain⟨g1,g2⟩:=IK ho
  rw [DP] at hc
  by_cases q:z=n
  ·subst q
   rw [qD] at hz
   cases hz
   rw [if_pos (beq_self_eq_true _),CP g2 (bM g1),qD] at hc
   exact FB (qC hc)
  ·rw [bD q] at hz
   by_cases hk:(k==GA.cell)=true
   ·rw [if_pos hk] at hc
    exact HG (ih g2 hz hc)
   ·rw [if_neg hk] at hc
    exact ih g2 hz hc
theorem bY{r:List (Str×GA)}{m:Nat}{acc:List (Str×cA)}{x y:Str}{c:cA}(h1:r.lookup x=none)(h2:jF r=true)(hy:r.lookup y=some .cell)(cx:(LE (m+1) r ((x,m)::acc)).lookup x=some c)(cy:(LE (m+1) r ((x,m)::acc)).lookup y=some c):False:=by
 rw [CP h2 (bM h1),qD] at cx
 cases cx
 exact vR _ (EL h2 hy cy)
theorem aY:∀ {names:List (Str×GA)}{m:Nat}{acc:List (Str×cA)}{x y:Str}{c:cA},jF names=true->names.lookup x=some .cell->names.lookup y=some .cell ->
  (LE m names acc).lookup x=some c->(LE m names acc).lookup y=some c->x=y:=by
 intro names
 induction names with
 | nil=>intro _ _ _ _ _ _ hx _ _ _;exact wA hx
 | cons p r ih =>
  intro m acc x y c ho hx hy cx cy
  obtain⟨n,k⟩:=p
  obtain⟨h1,h2⟩:=IK ho
  rw [DP] at cx cy
  by_cases qx:x=n
  ·subst qx
   rw [qD] at hx
   cases hx
   by_cases qy:y=x
   ·exact qy.symm
   ·rw [bD qy] at hy
    rw [if_pos (beq_self_eq_true _)] at cx cy
    exact (bY h1 h2 hy cx cy).elim
  ·rw [bD qx] at hx
   by_cases qy:y=n
   ·subst qy
    rw [qD] at hy
    cases hy
    rw [if_pos (beq_self_eq_true _)] at cx cy
    exact (bY h1 h2 hx cy cx).elim
   ·rw [bD qy] at hy
    by_cases hk:(k==GA.cell)=true
    ·rw [if_pos hk] at cx cy
     exact ih h2 hx hy cx cy
    ·rw [if_neg hk] at cx cy
     exact ih h2 hx hy cx cy
end Ev
end
section
namespace Ev
variable{B:CA}{prog:pA}{w:eA}{A:xA}{F:cA->Prop}{s:iA}{as:List cA}{st:St}{Γ:Ctx}{env:Env}{ρ:Fr}{R:NF->iA->Prop}
theorem Bk{M:Model}{scope:Scope}{g:cA}{cl:List (Str×cA)}{qual:Str}{Q:Env->iA->Prop}{E:dA->iA->Prop}
  (hQ:Q (newEnv scope s.heap.objs.size g (LE (s.heap.objs.size+1) scope.names cl) qual none .none (some env) builtinsNs) { s with heap:=pushCells (s.heap.push { cls:=.type "dict",data:=.dict #[] }) scope.names }) :
  oA M A (newFunctionEnv scope g cl [] qual none .none (some env)) Q E s:=by
 simp only [newFunctionEnv,Option.isSome_some,if_true]
 refine rA (wpAny_alloc ?_)
 refine rA (wpAny_layCells _ (fun name kind cells=>by rcases hkc:kind==GA.cell with ⟨⟩<;>simp) _ _ _ _ ?_)
 rw [show ({ s with heap:=s.heap.push { cls:=.type "dict",data:=.dict #[] } }:iA).heap.objs.size=s.heap.objs.size+1 from mL ..]
 refine rA ?_
 rw [List.forIn_nil]
 exact JA (JA hQ)
theorem MQ:∀ {names:List (Str×GA)}{n:Str}{k:GA},jF names=true->(n,k)∈names->names.lookup n=some k:=by
 intro names
 induction names with
 | nil=>intro _ _ _ hm;cases hm
 | cons p r ih =>
  intro n k ho hm
  obtain⟨m,j⟩:=p
  obtain⟨h1,h2⟩:=IK ho
  rcases bB.mp hm with e|hm2
  ·cases e;exact qD
  ·have hne:n≠m:=fun q=>by
    subst q
    exact wA (h1.symm.trans (ih h2 hm2))
   rw [bD hne]
   exact ih h2 hm2
theorem Cp(scope:Scope)(env:Env)(x:Str):(relabel scope env).names.lookup x=(scope.names.lookup x).map fun k=>if (k == .free&&env.scope.kind == .function&&env.kindOf x==some .cell) then .cell else k:=by
 unfold relabel
 have:∀ names:List (Str×GA),(names.map fun (n,k)=>if (k==GA.free&&env.scope.kind == .function&&env.kindOf n==some .cell)=true then (n,GA.cell) else (n,k)).lookup x =
   (names.lookup x).map fun k=>if (k == .free&&env.scope.kind == .function&&env.kindOf x==some .cell) then .cell else k:=by
  intro names
  induction names with
  | nil=>rfl
  | cons p r ih =>
   obtain⟨n,k⟩:=p
   by_cases q:x=n
   ·subst q
    rw [qD]
    simp only [sB,qR]
    split
    ·rw [qD]
    ·rw [qD]
   ·rw [bD q,<- ih]
    simp only [sB]
    split
    ·rw [bD q]
    ·rw [bD q]
 exact this scope.names
noncomputable def qE(D:cA)(scope:Scope)(cl:List (Str×cA)):List cA :=
 D::(D+1)::scope.names.filterMap fun p=>if p.2 == .cell then (LE (D+2) scope.names cl).lookup p.1 else none
noncomputable def QF(c:CK)(h:Heap)(scope:Scope):Heap:=pushCells ((h.push c.o).push { cls:=.type "dict",data:=.dict #[] }) scope.names
noncomputable def PJ(D:cA)(scope:Scope)(cl:List (Str×cA))(env:Env):Env:={ newEnv scope (D+1) env.globals (LE (D+2) scope.names cl) env.qual none .none (some env) builtinsNs with scope:=relabel scope env }
theorem T2{sc:Scope}(h:tI ρ sc=true):sc.kind = .function/\jF sc.names=true/\∀ x∈sc.names,(x.2 = .free/\x.1≠("__classdict__":Str)/\(ρ.sc.lookup x.1=some .cell\/ρ.sc.lookup x.1=some .free))\/x.2 = .local\/x.2 = .cell\/x.2 = .globalImplicit:=by
 have ⟨h12,h3⟩:=(KA _ _).mp h
 have ⟨h1,h2⟩:=(KA _ _).mp h12
 refine⟨by simpa using h1,h2,fun x hx=>?_⟩
 have h4:=YA.mp h3 x hx
 obtain⟨n,k⟩:=x
 cases k with
 | free =>
  have ⟨h41,h5⟩:=(KA _ _).mp h4
  refine .inl ⟨rfl,by simpa using h41,?_⟩
  rcases q:ρ.sc.lookup n with _|j
  ·rw [q] at h5;exact VB h5
  ·rw [q] at h5;rcases j with ⟨⟩<;>first|exact VB h5|exact .inl rfl|exact .inr rfl
 | «local»=>exact .inr (.inl rfl)
 | cell=>exact .inr (.inr (.inl rfl))
 | globalImplicit=>exact .inr (.inr (.inr rfl))
 | globalExplicit=>exact VB h4
theorem cY(f:DA B s.heap as F env ρ){x:Str}(h:ρ.sc.lookup x=some .cell\/ρ.sc.lookup x=some .free) :
  ∃ c yo,env.cells.lookup x=some c/\s.heap.IsCell c yo/\F c/\∀ v,ρ.seen Γ x=some v->∃ y,yo=some y/\kA B s.heap as F v y:=by
 rcases h with h|h
 ·obtain⟨c,yo,h1,h2,h3,_,h5⟩:=f.cell x h
  refine⟨c,yo,h1,h2,h3,fun v hv=>h5 v ?_⟩
  replace hv:(match ρ.sc.lookup x with|some .cell=>ρ.vars.lookup x|some .free=>ρ.out x|_=>none)=some v:=hv
  rw [h] at hv;exact hv
 ·obtain⟨_,_,c,yo,h1,h2,h3,_,_,h5⟩:=f.free x h
  refine⟨c,yo,h1,h2,h3,fun v hv=>h5 v ?_⟩
  replace hv:(match ρ.sc.lookup x with|some .cell=>ρ.vars.lookup x|some .free=>ρ.out x|_=>none)=some v:=hv
  rw [h] at hv;exact hv
theorem CK.live(c:CK):c.o.isFreed=false:=by rcases c with ⟨⟩<;>rfl
theorem xS{c:CK}{sc:Scope}(f:DA B s.heap as F env ρ)(i:Inv B s.heap as F st)(hc:tI ρ sc=true) :
  let D:=s.heap.objs.size
  let cl:=PF env.cells sc.names []
  closureFor sc env=pure cl/\(∀ a o,s.heap.get? a=some o->(QF c s.heap sc).get? a=some o)/\(∀ a∈qE D sc cl,s.heap.get? a=none)/\(∀ a∈qE D sc cl,D<=a)/\(∀ a∈qE D sc cl,∃ o,(QF c s.heap sc).get? a=some o) /\
  (QF c s.heap sc).get? D=some c.o/\DA B (QF c s.heap sc) as (Fu F (qE D sc cl)) (PJ D sc cl env) (ρ.inner Γ sc):=by
 obtain⟨hkind,honce,hn⟩:=T2 hc
 intro D cl
 have sz1:(s.heap.push c.o).objs.size=D+1:=mL ..
 have sz2:((s.heap.push c.o).push { cls:=.type "dict",data:=.dict #[] }).objs.size=D+2:=by rw [mL,sz1]
 have keep:∀ a o,s.heap.get? a=some o->(QF c s.heap sc).get? a=some o:=fun a o e=>wO _ _ _ _ (UC _ _ _ _ (UC _ _ _ _ e))
 have fr:∀ x,sc.names.lookup x=some .free->x≠("__classdict__":Str)/\(ρ.sc.lookup x=some .cell\/ρ.sc.lookup x=some .free):=fun x hx=>by
  rcases hn (x,.free) (mem_of_lookup hx) with h|h|h|h
  ·exact h.2
  ·cases h
  ·cases h
  ·contradiction
 have cell:∀ x,sc.names.lookup x=some .cell->∃ z,(LE (D+2) sc.names cl).lookup x=some z/\D+2<=z/\(QF c s.heap sc).IsCell z none:=fun x hx=>by
  have:=wS (h:=(s.heap.push c.o).push { cls:=.type "dict",data:=.dict #[] }) (acc:=cl) honce hx
  rw [sz2] at this
  exact this
 have cl_free:∀ x,sc.names.lookup x=some .free->∃ c yo,(LE (D+2) sc.names cl).lookup x=some c/\env.cells.lookup x=some c/\s.heap.IsCell c yo/\F c/\∀ v,ρ.seen Γ x=some v->∃ y,yo=some y/\kA B s.heap as F v y:=fun x hx=>by
  obtain⟨c,yo,h1,h2,h3,h4⟩:=cY (Γ:=Γ) f (fr x hx).2
  refine⟨c,yo,?_,h1,h2,h3,h4⟩
  rw [CP honce (by rw [hx];simp),Ha honce hx,h1]
  rfl
 have memL:∀ a∈qE D sc cl,D<=a/\∃ o,(QF c s.heap sc).get? a=some o:=fun a ha=>by
  rcases bB.mp ha with rfl|ha
  ·exact⟨sA _,_,wO _ _ _ _ (UC _ _ _ _ (vD (o:=c.o) _ c.live))⟩
  ·rcases bB.mp ha with rfl|ha
   ·refine⟨CB _,⟨{ cls:=.type "dict",data:=.dict #[] },wO _ _ (D+1) _ ?_⟩⟩
    rw [<-sz1];exact vD _ rfl
   ·obtain⟨p,hp,hq⟩:=UO.mp ha
    split at hq
    ·rename_i hk
     have hk':p.2 = .cell:=by simpa using hk
     obtain⟨n,k⟩:=p
     cases hk'
     obtain⟨c,h1,h2,⟨o,ho,_⟩⟩:=cell n (MQ honce hp)
     rw [h1] at hq;cases hq
     exact⟨CR h2,o,ho⟩
    ·exact wA hq
 have none:∀ a,D<=a->s.heap.get? a=none:=fun a ha=>by
  rcases q:s.heap.get? a with _|o
  ·rfl
  ·exact absurd (JF q) (CE.mpr ha)
 refine⟨Xa fun x hx hk=>?_,keep,fun a ha=>none a (memL a ha).1,fun a ha=>(memL a ha).1,fun a ha=>(memL a ha).2,?_,?_⟩
 ·obtain⟨n,k⟩:=x
  cases hk
  obtain⟨c,yo,h1,_⟩:=cY (Γ:=Γ) f (fr n (MQ honce hx)).2
  show (env.cells.lookup n).isSome=true
  rw [h1];rfl
 ·exact wO _ _ _ _ (UC _ _ _ _ (vD _ c.live))
 ·have hL:∀ a∈qE D sc cl,s.heap.get? a=Option.none:=fun a ha=>none a (memL a ha).1
  have hkind':∀ x,(PJ D sc cl env).kindOf x=(sc.names.lookup x).map fun k=>if (k == .free&&env.scope.kind == .function&&env.kindOf x==some .cell) then .cell else k:=fun x=>Cp sc env x
  exact {
   kind:=hkind
   gl:=f.gl
   bl:=f.bl
   loc:=⟨fun _=>Option.none,(Heap.Ns.new (s.heap.push c.o) (.type "dict")).keeps (wO _ _) |> fun h=>by rw [sz1] at h;exact h,fun x v _ h=>by exact wA h⟩
   kindL:=fun x hx=>by rw [hkind',show sc.names.lookup x=some .local from hx];rfl
   kindN:=fun x hx=>by
    rw [hkind'] at hx
    show sc.names.lookup x=some .local
    rcases q:sc.names.lookup x with _|k
    ·rw [q] at hx;exact wA hx
    ·rw [q] at hx
     simp only [qR,Option.some.injEq] at hx
     split at hx
     ·contradiction
     ·rw [hx]
   kindC:=fun x hx=>by rw [hkind',show sc.names.lookup x=some .cell from hx];rfl
   kindG:=fun x hx=>by rw [hkind',show sc.names.lookup x=some .globalImplicit from hx];rfl
   cell:=fun x hx=>by
    obtain⟨c,h1,h2,h3⟩:=cell x hx
    refine⟨c,Option.none,h1,h3,.inr ?_,fun q=>YG (cC (jD (D+1)) h2) q,fun v h=>by exact wA h⟩
    refine NA _ (NA _ (UO.mpr ⟨(x,.cell),mem_of_lookup hx,?_⟩))
    simpa using h1
   apart:=fun x x' c hx hx' h1 h2=>aY honce hx hx' h1 h2
   free:=fun x hx=>by
    obtain⟨c,yo,h1,h2,⟨o,ho,hd⟩,hFc,hv⟩:=cl_free x hx
    have hlt:c<D:=JF ho
    refine⟨?_,by simpa using (fr x hx).1,c,yo,h1,⟨o,keep _ _ ho,hd⟩,.inl hFc,fun q=>iD (XG hlt) q,fun x' hx' q=>?_,fun v hv'=>?_⟩
    ·rw [hkind',show sc.names.lookup x=some .free from hx]
     simp only [qR]
     split
     ·exact .inl rfl
     ·exact .inr rfl
    ·have hlow:D+2<=c:=EL honce hx' q
     exact absurd hlt (CE.mpr (jA (BB D 2) hlow))
    ·obtain⟨y,hy,hr⟩:=hv v hv'
     exact⟨y,hy,hr.mono (wB _) (cH keep hL)⟩
   ownF:=.inr (by show D+1∈qE D sc cl;simp [qE]) }
end Ev
end
section
namespace Ev
variable{B:CA}{prog:pA}{w:eA}{A:xA}{F:cA->Prop}{s:iA}{as:List cA}{st:St}{Γ:Ctx}{env:Env}{ρ:Fr}{R:NF->iA->Prop}
theorem qW(F:cA->Prop)(L M:List cA):Fu (Fu F L) M=Fu (Fu F M) L:=by
 funext a
 unfold Fu
 exact propext ⟨fun h=>h.elim (fun h=>h.elim (fun x=>.inl (.inl x)) .inr) fun x=>.inl (.inr x),fun h=>h.elim (fun h=>h.elim (fun x=>.inl (.inl x)) .inr) fun x=>.inl (.inr x)⟩
theorem Inv.sub{h:Heap}{F F':cA->Prop}(i:Inv B h as F st)(hF:∀ a,F' a->F a):Inv B h as F' st where
 len:=i.len
 nodup:=i.nodup
 at_:=fun k a o e e'=>(i.at_ k a o e e').mono (wB _) (fun b x h1 h2 h3=>⟨h1,h2,fun q=>h3 (hF b q)⟩) fun x hx=>hx
 apart:=fun a ha q=>i.apart a ha (hF a q)
 liveF:=fun a ha=>i.liveF a (hF a ha)
 base:=fun a o e=>let b:=i.base a o e;⟨b.1,b.2.1,fun q=>b.2.2 (hF a q)⟩
theorem Inv.adopt{h:Heap}{F F':cA->Prop}{D:cA}{vs:List V}(i:Inv B h as F st)(hF:∀ a,F' a->F a)(hD:F D)(hD':¬ F' D)(acc:∃ xs,jG h D xs.toArray/\vA B h as F vs xs)(hc:vs.length<=cap):Inv B h (as++[D]) F' (st++[.list vs]):=by
 have hDa:D∉as:=fun q=>i.apart D q hD
 have mono:∀ a o,h.get? a=some o->a∉as->¬ F a->h.get? a=some o/\a∉as++[D]/\¬ F' a:=fun a o e h1 h2=>⟨e,fun q=>(GB.mp q).elim h1 fun q=>h2 (by rw [BA.mp q];exact hD),fun q=>h2 (hF a q)⟩
 exact {
  len:=by simp [i.len]
  nodup:=iL.mpr ⟨i.nodup,by simp,fun a ha b hb e=>by rw [BA.mp hb] at e;exact hDa (e▸ha)⟩
  at_:=fun k a x e e'=>by
   by_cases hk:k<as.length
   ·rw [OC hk] at e
    rw [OC (i.len▸hk)] at e'
    exact (i.at_ k a x e e').mono ⟨_,rfl⟩ mono fun _ q=>q
   ·have hk':¬ k<st.length:=i.len▸hk
    rw [GG (PO hk)] at e
    rw [GG (PO hk')] at e'
    have h0:k - as.length=0:=by
     have:=(sF.mp e).1
     simpa using this
    have h1:k - st.length=0:=by rw [<-i.len];exact h0
    rw [h0] at e;rw [h1] at e'
    simp at e e'
    subst e;subst e'
    obtain⟨xs,hp,rs⟩:=acc
    exact .list hp (rs.mono ⟨_,rfl⟩ mono) hc
  apart:=fun a ha q=>(GB.mp ha).elim (fun h=>i.apart a h (hF a q)) fun h=>hD' (by rw [<-BA.mp h];exact q)
  liveF:=fun a ha=>i.liveF a (hF a ha)
  base:=fun a o e=>let b:=i.base a o e;mono a o b.1 b.2.1 b.2.2 }
theorem qA.dropG{G:cA->Prop}{h h':Heap}{as':List cA}(x:qA G h as h' as')(hG:∀ a,G a->h.get? a=none):qA no h as h' as' where
 pre:=x.pre
 new:=x.new
 keep:=fun a o e ha _=>x.keep a o e ha fun g=>by rw [hG a g] at e;exact wA e
 live:=x.live
theorem D1{pos:Pos}{xs:List V}{v:V}{st1 st':St}(hm:vG Γ pos xs st1=some (v,st')):xs.length<=cap/\((v = .lst xs/\st'=st1)\/(v = .ref st1.length/\st'=st1++[.list xs])):=by
 refine iC (st:=st1) hm fun hc h=>⟨hc,?_⟩
 rcases hk:Γ.keep pos with _|_
 ·rw [hk] at h
  cases qC h
  exact .inl ⟨rfl,rfl⟩
 ·rw [hk] at h
  cases qC h
  exact .inr ⟨rfl,rfl⟩
noncomputable def CK.new:CK->Sem dA
 | .L _=>newList []
 | .D ..=>newDict
noncomputable def CK.mk(Γ:Ctx)(pos:Pos)(xs:List V):CK->mA V
 | .L _=>vG Γ pos xs
 | .D ..=>DQ xs
theorem Ck{c:CK}{Q:dA->iA->Prop}{E:dA->iA->Prop}(h:Q (.ref s.heap.objs.size) { s with heap:=s.heap.push c.o }):oA (model prog w) A c.new Q E s:=by
 cases c with
 | L e=>exact wpAny_newList h
 | D k v=>exact wpAny_newObj_type h
theorem g6{ks:List (List Nat)}{us:List V}(h:ks.length=us.length):BV (RG ks us)=us:=by
 induction ks generalizing us with
 | nil =>
  rcases us with _|⟨_,_⟩
  ·rfl
  ·contradiction
 | cons a ks ih =>
  rcases us with _|⟨b,us⟩
  ·contradiction
  ·exact congrArg (b :: ·) (ih (Nat.succ.inj h))
theorem Ga{c:CK}{pos:Pos}{xs:List V}{v:V}{st1 st':St}(hm:c.mk Γ pos xs st1=some (v,st')):c.ok xs:=by
 cases c with
 | L e=>exact (D1 hm).1
 | D k v=>exact iC (st:=st1) hm fun h _=>h
theorem zb{c:CK}{F' G:cA->Prop}{D:cA}{h0 h₁ h6:Heap}{as as' as6:List cA}{pos:Pos}{xs:List V}{v:V}{st1 st':St}(low:(D==cG)=false)(hm:c.mk Γ pos xs st1=some (v,st'))(hFD:F' D)(hD1:¬ G D)(hsub:∀ a,G a->F' a)(hD0:h₁.get? D=none)
  (i6:Inv B h6 as6 F' st1) (acc:WD B c h6 as6 F' D xs) (e1:qA no h0 as h₁ as') (e7:qA no h₁ as' h6 as6):∃ as'',kA B h6 as'' G v (.ref D)/\Inv B h6 as'' G st'/\qA no h0 as h6 as'':=by
 cases c with
 | L elt =>
  obtain⟨hc,h⟩:=D1 hm
  rcases h with ⟨rfl,rfl⟩|⟨rfl,rfl⟩
  ·obtain⟨zs,hp,rs⟩:=acc
   exact⟨as6,.lst hp (fun q=>i6.apart D q hFD) hD1 (rs.mono (wB _) fun a o q1 q2 q3=>⟨q1,q2,fun q=>q3 (hsub a q)⟩),i6.sub hsub,e1.trans e7⟩
  ·refine⟨as6++[D],.ref ?_,i6.adopt hsub hFD hD1 acc hc,e1.trans ⟨e7.pre.trans ⟨_,rfl⟩,fun a ha=>?_,e7.keep,e7.live⟩⟩
   ·rw [<-i6.len];exact ZG
   ·rcases GB.mp ha with q|q
    ·exact e7.new a q
    ·rw [BA.mp q];exact .inr hD0
 | D k v =>
  obtain⟨ks,us,kvs,o,rfl,hlen,ho,hdo,hks,hkl,rs⟩:=acc
  refine iC (st:=st1) hm fun _ hm=>?_
  have q:=vT (xs:=[]) hlen
  rw [bC] at q
  rw [show dF (RG ks us)=some ks from q.trans (congrArg some (bC ks)),g6 hlen] at hm
  obtain⟨hm',rfl⟩:=cF hm
  cases hm'
  exact⟨as6,.dct ho hdo low (fun q=>i6.apart D q hFD) hD1 hks hkl (rs.mono (wB _) fun a o q1 q2 q3=>⟨q1,q2,fun q=>q3 (hsub a q)⟩),i6.sub hsub,e1.trans e7⟩
theorem Mo{D:cA}{scope:Scope}{cl:List (Str×cA)}{a:cA}(q:JB (PJ D scope cl env) scope.names a):a∈qE D scope cl:=by
 rcases q with q|⟨x,hx,hcx⟩
 ·rw [q];exact NA _ HA
 ·refine NA _ (NA _ (UO.mpr ⟨(x,.cell),mem_of_lookup hx,?_⟩))
  exact (if_pos rfl).trans hcx
theorem No{D:cA}{scope:Scope}{cl:List (Str×cA)}(honce:jF scope.names=true):¬ JB (PJ D scope cl env) scope.names D:=fun q=>by
 rcases q with q|⟨x,hx,hcx⟩
 ·exact iD (jD D) q
 ·exact vR D (jA (CB _) (EL honce hx hcx))
theorem Ik{h h':Heap}{a:cA}(hk:∀ a o,h.get? a=some o->h'.get? a=some o)(h0:h'.get? a=none):h.get? a=none:=by
 rcases q:h.get? a with _|o
 ·rfl
 ·exact wA (h0.symm.trans (hk a o q))
theorem Jk{G:cA->Prop}{h h':Heap}{as as':List cA}{a:cA}(e:qA G h as h' as')(h0:h'.get? a=none):h.get? a=none:=by
 rcases q:h.get? a with _|o
 ·rfl
 ·obtain⟨o',ho'⟩:=e.live _ _ q
  exact wA (h0.symm.trans ho')
theorem mY(hdk:ED B prog w)(hh:A.handled=none){c:CK}{scope:Scope}{pos ppos:Pos}{t it:Expr}{ifs:List Expr}{gs:List uB}(hc:tI ρ scope=true)
  (hall:∀ g∈(⟨t,it,ifs,0⟩::gs:List uB),g.is_async=0/\yE g.iter=true)
  (JC:KJ B prog w A F Γ t it env ρ)
  (hifs:∀ F' env' ρ',lD B prog w A F' env' ρ' (AJ ifs env') (ZE Γ ifs ρ'))
  (hbody:∀ F' env' ρ' D,ρ'.sc=scope.names->F' D->¬ JB env' scope.names D->aI B prog w A Γ F' c (⟨t,it,ifs,0⟩::gs) scope pos 1 D env' gs ρ')
  {s:iA}{as:List cA}{st:St} (f:DA B s.heap as F env ρ) (i:Inv B s.heap as F st) {xs:List V}{v:V}{st1 st':St}
  (hv:TF Γ (⟨t,it,ifs,0⟩::gs) (c.ev Γ) ρ (ρ.inner Γ scope) st=some (xs,st1)) (hm:c.mk Γ pos xs st1=some (v,st'))
  {use:Option (dA->Sem Unit)}{Q:dA->iA->Prop}{E:dA->iA->Prop}
  (hpost:∀ D C h'' as'' tk m,kA B h'' as'' (Fu F [C]) v (.ref D)->Inv B h'' as'' (Fu F [C]) st'->qA no s.heap as h'' as''->s.heap.get? C=none->¬ F C->h''.Ns C m->s.toks<=tk ->
   compPost (model prog w) A E use Q (.ref D) C (.ok .next) { s with heap:=h'',toks:=tk }) :
  oA (model prog w) A (comprehension (c.e (⟨t,it,ifs,0⟩::gs) scope pos) scope env ppos c.new false (eval it env) use) Q E s:=by
 obtain⟨hkind,honce,hn⟩:=T2 hc
 have hok:=Ga hm
 refine iC (st:=st) hv fun _ hv=>?_
 obtain⟨⟨ys,ws⟩,st2,h1,hv1⟩:=FM hv
 have hclos:=(xS (c:=c) (Γ:=Γ) f i hc).1
 have hpl:yE it=true:=(hall _ HA).2
 refine wpAny_comprehension_free (e:=c.e (⟨t,it,ifs,0⟩::gs) scope pos) (by rcases c with ⟨⟩<;>rfl) (SP hpl) hclos hkind (fun x hx hl=>by
  obtain⟨n,k⟩:=x
  cases hl
  exact MQ honce hx) ?_
 refine JC s as st f i ys ws st2 h1 _ _ fun I h₁ h' as' tk e1 i1 hbg hw ht=>?_
 obtain⟨L,P,T,p0,hk,hL⟩:=hbg
 have f1:=f.on i e1
 have i2:Inv B h' as' F st2:=i1.keeps hk
 have f2:DA B h' as' F env ρ:=f1.on i1 (qA.keeps hk)
 have lvL:=T.live _ _ _ _ p0
 have i3:Inv B h' as' (Fu F L) st2:=i1.more hk hL lvL
 have f3:DA B h' as' (Fu F L) env ρ:=f1.more hk hL
 obtain⟨_,keep,hL0,hge,lv0,hplain,F0⟩:=xS (c:=c) (s:={ s with heap:=h',toks:=tk }) (Γ:=Γ) f2 i2 hc
 obtain⟨_,_,_,_,_,_,F1⟩:=xS (c:=c) (s:={ s with heap:=h',toks:=tk }) (Γ:=Γ) f3 i3 hc
 refine Ck ?_
 refine Bk ?_
 simp only [mL] at *
 generalize hcl:PF env.cells scope.names []=cl at *
 have low:(h'.objs.size==cG)=false:=by
  obtain⟨a,o,h1,h2⟩:=hdk.low
  have h3:(1:Nat)<h'.objs.size:=uD h1 (JF (i2.base a o h2).1)
  have h4:h'.objs.size≠1:=YG h3
  simpa [cG] using h4
 generalize hDD:h'.objs.size=D at *
 have mD:D∈qE D scope cl:=HA
 have mC:D+1∈qE D scope cl:=NA _ HA
 have i4:Inv B (QF c h' scope) as' (Fu (Fu F (qE D scope cl)) L) st2:=by
  rw [<-qW]
  exact i3.more keep hL0 lv0
 have f4:DA B (QF c h' scope) as' (Fu (Fu F (qE D scope cl)) L) (PJ D scope cl env) (ρ.inner Γ scope):=by
  rw [<-qW];exact F1
 have hLF:∀ a∈L,¬ Fu F (qE D scope cl) a:=fun a ha q=>by
  rcases q with q|q
  ·exact (i1.fresh (hL a ha)).2 q
  ·obtain⟨o,ho⟩:=lvL a ha
   rw [hL0 a q] at ho;exact wA ho
 have p4:P 0 (QF c h' scope) as' (Fu (Fu F (qE D scope cl)) L):=by
  refine T.frame _ _ _ _ _ _ _ p0 (wB _) (fun a o e q1 q2=>⟨keep a o e,q1,fun q=>?_⟩) fun a ha o e=>keep a o e
  rcases q with (q|q)|q
  ·exact q2 (.inl q)
  ·rw [hL0 a q] at e;exact wA e
  ·exact q2 (.inr q)
 have hFD:¬ F D:=(i2.fresh (hL0 D mD)).2
 have hFC:¬ F (D+1):=(i2.fresh (hL0 _ mC)).2
 have hDo:¬ JB (PJ D scope cl env) scope.names D:=No honce
 have acc0:WD B c (QF c h' scope) as' (Fu (Fu F (qE D scope cl)) L) D []:=by
  cases c with
  | L e=>exact⟨[],⟨_,_,hplain,rfl,rfl,rfl⟩,.nil⟩
  | D k v=>exact⟨[],[],[],_,rfl,rfl,hplain,(hdk.iff _ _).mpr ⟨#[],_,⟨rfl,rfl,rfl⟩,rfl,fun _ h=>by simp at h,.nil,.nil⟩,rfl,fun _ h=>by simp at h,.nil⟩
 have loop:codeAny (model prog w) A (.compLoop (c.e (⟨t,it,ifs,0⟩::gs) scope pos) 0 (.ref I) (.ref D) (PJ D scope cl env)) (compPost (model prog w) A E use Q (.ref D) (D+1)) { s with heap:=QF c h' scope,toks:=tk }:=by
  refine Q0 hh (d:=0) rfl hall T (h₁:=h₁) (as₁:=as') hL hLF (.inr mD) (ρ:=ρ.inner Γ scope) hDo F0 (fun ρ' hs=>hifs _ _ ρ') (fun ρ' hs=>hbody _ _ ρ' D hs (.inl (.inr mD)) hDo) (pre:=[]) (s:={ s with heap:=QF c h' scope,toks:=tk }) (fun h6 as6 tk6 f6 i6 acc6 e6 ht6=>?_) p4 i4 f4 acc0 hw ⟨[],(bC xs).symm▸hok⟩ (qA.keeps fun a o e=>keep a o (hk a o e)) hv1
  obtain⟨m,hns,_⟩:=f6.loc
  have none₁:∀ a∈qE D scope cl,h₁.get? a=none:=fun a ha=>Ik hk (hL0 a ha)
  have e7:qA no h₁ as' h6 as6:=e6.dropG fun a q=>none₁ a (q.elim Mo fun q=>q▸mD)
  have hsub:∀ a,Fu F [D+1] a->Fu F (qE D scope cl) a:=fun a q=>q.elim .inl fun q=>.inr (by rw [BA.mp q];exact mC)
  have hD1:¬ Fu F [D+1] D:=fun q=>q.elim hFD fun q=>iD (jD D) (BA.mp q)
  obtain⟨as'',r,i,e⟩:=zb low hm (.inr mD) hD1 hsub (none₁ D mD) i6 acc6 e1 e7
  exact hpost D (D+1) h6 as'' tk6 m r i e (Jk e1 (none₁ _ mC)) hFC hns (jA ht ht6)
 refine lY (d:=0) rfl loop (T.self 0 A { s with heap:=QF c h' scope,toks:=tk } as' _ _ _ hh p4 loop)
end Ev
end
section
namespace Ev
variable{B:CA}{prog:pA}{w:eA}{A:xA}{F:cA->Prop}{s:iA}{as:List cA}{st:St}{Γ:Ctx}{env:Env}{ρ:Fr}{R:NF->iA->Prop}
theorem JX{C:cA}{h h':Heap}(hs:SM C h h'):∀ b o,b∉[C]->h.get? b=some o->h'.get? b=some o:=fun b o hb e=>(hs.2 b (fun q=>hb (by simp [q]))).trans e
theorem CK.evalE{c:CK}{gs:List uB}{scope:Scope}{pos:Pos}:evalE Γ (c.e gs scope pos) ρ=(if tI ρ scope&&gs.all uJ && !gs.isEmpty then do
   let xs <- TF Γ gs (c.ev Γ) ρ (ρ.inner Γ scope)
   c.mk Γ pos xs
  else yA):=by rcases c with ⟨⟩<;>rfl
theorem CK.eval{c:CK}{scope:Scope}{pos:Pos}{t it:Expr}{ifs:List Expr}{gs:List uB}:PySem.eval (c.e (⟨t,it,ifs,0⟩::gs) scope pos) env=comprehension (c.e (⟨t,it,ifs,0⟩::gs) scope pos) scope env it.pos c.new false (PySem.eval it env) none:=by
 rcases c with ⟨⟩
 ·simp only [CK.e];rw [eval_ListComp];rfl
 ·simp only [CK.e];rw [arm_eval_DictComp];rfl
theorem CK.use{c:CK}{scope:Scope}{pos:Pos}{t it:Expr}{ifs:List Expr}{gs:List uB}{u:dA->Sem Unit}:evalThenUse (c.e (⟨t,it,ifs,0⟩::gs) scope pos) env u=(do let _ <- comprehension (c.e (⟨t,it,ifs,0⟩::gs) scope pos) scope env it.pos c.new false (PySem.eval it env) (some u)):=by
 rcases c with ⟨⟩<;>rfl
theorem Z2(hdk:ED B prog w)(hh:A.handled=none){c:CK}{scope:Scope}{pos:Pos}{t it:Expr}{ifs:List Expr}{as₀:Int}{gs:List uB}
  (JC:KJ B prog w A F Γ t it env ρ)
  (hifs:∀ F' env' ρ',lD B prog w A F' env' ρ' (AJ ifs env') (ZE Γ ifs ρ'))
  (hbody:(∀ g∈(⟨t,it,ifs,0⟩::gs:List uB),g.is_async=0/\yE g.iter=true)->∀ F' env' ρ' D,ρ'.sc=scope.names->F' D->¬ JB env' scope.names D->aI B prog w A Γ F' c (⟨t,it,ifs,0⟩::gs) scope pos 1 D env' gs ρ') :
  VA B prog w A F env ρ (eval (c.e (⟨t,it,ifs,as₀⟩::gs) scope pos) env) (evalE Γ (c.e (⟨t,it,ifs,as₀⟩::gs) scope pos) ρ):=by
 intro s as st f i v st' hv Q E hQ
 refine iC (st:=st) (CK.evalE (c:=c)▸hv) fun hc hv=>?_
 simp only [KA] at hc
 have hall:∀ g∈(⟨t,it,ifs,as₀⟩::gs:List uB),g.is_async=0/\yE g.iter=true:=fun g hg=>by
  have:=YA.mp hc.1.2 g hg
  simp only [uJ,KA] at this
  exact⟨by simpa using this.1,this.2⟩
 have h0:as₀=0:=(hall _ HA).1
 subst h0
 refine EA hv fun xs st1 h1 hv1=>?_
 rw [CK.eval]
 refine mY hdk hh hc.1.1 hall JC hifs (hbody hall) f i h1 hv1 fun D C h'' as'' tk m rv iv e hC hFC hns ht=>?_
 refine⟨m,hns,fun h' hs'=>?_⟩
 have hk:=JX hs'
 have hCF:∀ a∈[C],¬ F a:=fun a ha=>by rw [BA.mp ha];exact hFC
 refine hQ _ h' as'' tk (rv.drop hk) (iv.drop hCF hk) ?_ ht
 exact (e.weak (G':=fun a=>no a\/a∈[C]) fun _ q=>q.elim).thenL hk fun a ha=>by rw [BA.mp ha];exact hC
theorem F5:∀ t:Expr,cond (ZL t) True (∀ (e:Expr) (gens:List uB) (scope:Scope) (pos:Pos) (n:Nat) (env:Env),swapsWith (.ListComp e gens scope pos) (some t) n env=pure false/\∀ v,swapsWith (.DictComp e v gens scope pos) (some t) n env=pure false):=by
 intro t
 rcases t with ⟨⟩<;>first|exact True.intro|exact fun _ _ _ _ _ _=>⟨(Eq.refl (pure false):(pure false:Sem Bool)=pure false),fun _=>(Eq.refl (pure false):(pure false:Sem Bool)=pure false)⟩
theorem Jr{c:CK}{gens:List uB}{scope:Scope}{pos:Pos}{t:Expr}{n:Nat}:(swapsWith (c.e gens scope pos) (some t) n env=pure false)\/(swapsWith (c.e gens scope pos) (some t) n env=pure true/\∃ x p,t = .Name x p):=by
 rcases dI (b:=ZL t) (G:=∃ x p,t = .Name x p) (by rcases t with ⟨⟩<;>first|exact True.intro|exact⟨_,_,rfl⟩) with ⟨x,p,rfl⟩|q
 ·have e:swapsWith (c.e gens scope pos) (some (.Name x p)) n env=pure (env.blockKind == .function&&env.kindOf x==some .local&&p.line==(c.e gens scope pos).pos.line && !(scope.names.any fun (n,k)=>n==x&&(k == .local||k == .cell))):=by rcases c with ⟨⟩<;>rfl
  rw [e]
  cases (env.blockKind == .function&&env.kindOf x==some .local&&p.line==(c.e gens scope pos).pos.line && !(scope.names.any fun (n,k)=>n==x&&(k == .local||k == .cell)))
  ·exact .inl rfl
  ·exact .inr ⟨rfl,_,_,rfl⟩
 ·cases c with
  | L e=>exact .inl (pE (F5 t) q e gens scope pos n env).1
  | D a b=>exact .inl ((pE (F5 t) q a gens scope pos n env).2 b)
theorem Un(hdk:ED B prog w)(hh:A.handled=none){te:Expr}{apos:Pos}{c:CK}{scope:Scope}{pos:Pos}{t it:Expr}{ifs:List Expr}{as₀:Int}{gs:List uB}
  (JC:KJ B prog w A F Γ t it env ρ)
  (hifs:∀ F' env' ρ',lD B prog w A F' env' ρ' (AJ ifs env') (ZE Γ ifs ρ'))
  (hbody:(∀ g∈(⟨t,it,ifs,0⟩::gs:List uB),g.is_async=0/\yE g.iter=true)->∀ F' env' ρ' D,ρ'.sc=scope.names->F' D->¬ JB env' scope.names D->aI B prog w A Γ F' c (⟨t,it,ifs,0⟩::gs) scope pos 1 D env' gs ρ') :
  yC B prog w A F env ρ (exec (.Assign [te] (c.e (⟨t,it,ifs,as₀⟩::gs) scope pos) apos) env) (PB Γ (.Assign [te] (c.e (⟨t,it,ifs,as₀⟩::gs) scope pos) apos) ρ):=by
 rcases Jr (env:=env) (c:=c) (gens:=⟨t,it,ifs,as₀⟩::gs) (scope:=scope) (pos:=pos) (t:=te) (n:=apos.line) with hs|⟨hs,x,p,rfl⟩
 ·exact Y2 hh hs (Z2 hdk hh JC hifs hbody)
 intro s as st f i fl ρ' st' hv Q E hQ
 skip
 refine EA hv fun v st1 hv0 hv1=>?_
 refine EA hv1 fun ρ1 st2 hb hv2=>?_
 obtain⟨hb',rfl⟩:=PE hb
 obtain⟨hv3,rfl⟩:=eB hv2
 cases hv3
 refine iC (st:=st) (CK.evalE (c:=c)▸hv0) fun hc hv0=>?_
 simp only [KA] at hc
 have hall:∀ g∈(⟨t,it,ifs,as₀⟩::gs:List uB),g.is_async=0/\yE g.iter=true:=fun g hg=>by
  have:=YA.mp hc.1.2 g hg
  simp only [uJ,KA] at this
  exact⟨by simpa using this.1,this.2⟩
 have h0:as₀=0:=(hall _ HA).1
 subst h0
 refine EA hv0 fun xs st3 h1 hv4=>?_
 rw [exec_Assign_Name_used _ _ _ _ hs]
 refine rA (VD (rA ?_))
 rw [CK.use]
 refine rA (VC (mY hdk (Q:=fun _ s'=>Q .next s') (E:=E) hh hc.1.1 hall JC hifs (hbody hall) f i h1 hv4 fun D C h'' as'' tk m rv iv e hC hFC hns ht=>?_) (fun _ s' hq=>JA (JA hq)) fun _ _ e=>e)
 have hCF:∀ a∈[C],¬ F a:=fun a ha=>by rw [BA.mp ha];exact hFC
 have monoC:∀ a o,s.heap.get? a=some o->a∉as->¬ F a->h''.get? a=some o/\a∉as''/\¬ Fu F [C] a:=fun a o q1 q2 q3 =>
  ⟨e.keep a o q1 q2 id,fun hm=>(e.new a hm).elim q2 fun q=>(by rw [q] at q1;cases q1),fun q=>q.elim q3 fun q=>by rw [BA.mp q,hC] at q1;exact wA q1⟩
 have fC:DA B h'' as'' (Fu F [C]) env ρ:=f.mono e.pre monoC fun a o hF q=>⟨e.keep a o q (fun hm=>i.apart a hm hF) id,.inl hF⟩
 replace hb':ρ.set x v=some ρ':=hb'
 show oA _ A (assign (.Name x p) env (.ref D)) _ _ _
 refine wpAny_assign_Name (WQ (s:={ s with heap:=h'',toks:=tk }) fC iv rv hb' fun h3 tk3 f3 i3 e3 ht3=>?_)
 obtain⟨o,es,ep,ho,hr⟩:=hns
 have hCa:C∉as'':=fun q=>iv.apart C q (.inr (by simp))
 have hCo:¬ JB env ρ.sc C:=fun q=>hFC (f.own C q)
 refine⟨m,⟨o,es,ep,e3.keep C o ho hCa hCo,hr⟩,fun h4 hs4=>?_⟩
 have hk:=JX hs4
 have sc:ρ'.sc=ρ.sc:=by obtain⟨_,rfl⟩:=Fr.set_some hb';rfl
 refine hQ .next h4 as'' tk3 .next sc (f3.drop f sc hCF hk) (i3.drop hCF hk) ?_ (jA ht ht3)
 have e4:qA (fun a=>JB env ρ.sc a\/a∈[C]) s.heap as h3 as'':=(e.weak fun _ q=>q.elim).trans (e3.weak fun a q=>.inl q)
 exact e4.thenL hk fun a ha=>by rw [BA.mp ha];exact hC
end Ev
end
section
namespace Ev
variable{B:CA}{prog:pA}{w:eA}{A:xA}{F:cA->Prop}{s:iA}{as:List cA}{st:St}{Γ:Ctx}{env:Env}{ρ:Fr}
theorem xi(r:List (Option Expr)):∀ e:Expr,(nI (some e::r)).elim True fun _=>∃ c a b,e = .Constant c a b:=by
 intro e
 rcases e with ⟨⟩<;>first|exact True.intro|exact zB ⟨_,_,_,rfl⟩
theorem yi(r:List (Option Expr))(a:Nat)(b:Pos):∀ c:Const,(nI (some (.Constant c a b)::r)).elim True fun _=>∃ x,c = .str x:=by
 intro c
 rcases c with ⟨⟩<;>first|exact True.intro|exact zB ⟨_,rfl⟩
theorem L0{o:Option Expr}{r:List (Option Expr)}{ks:List (List Nat)}(h:nI (o::r)=some ks):∃ x a b t,o=some (.Constant (.str x) a b)/\(x.cps.all (· < 0x110000)&&x.cps.size<=cap)=true/\nI r=some t/\ks=x.cps.toList::t:=by
 rcases o with _|e
 ·exact wA h
 ·obtain⟨c,a,b,rfl⟩:=AC (xi r e) h
  obtain⟨x,rfl⟩:=AC (yi r a b c) h
  replace h:(if (x.cps.all (· < 0x110000)&&x.cps.size<=cap)=true then (nI r).map (x.cps.toList :: ·) else none)=some ks:=h
  by_cases q:(x.cps.all (· < 0x110000)&&x.cps.size<=cap)=true
  ·rw [if_pos q] at h
   obtain⟨t,h1,h2⟩:=MC.mp h
   exact⟨x,_,_,t,rfl,q,h1,h2.symm⟩
  ·rw [if_neg q] at h;exact wA h
noncomputable def OQ(env:Env)(pos:Pos):List (Option Expr)->List Expr->List (Sem dA×Sem dA)
 | o::ks,v::vs=>(eval (o.getD v) env,do let x <- eval v env;standAt pos;pure x)::OQ env pos ks vs
 | _,_=>[]
theorem wp{pos:Pos}:∀ {ks:List (Option Expr)}{vs:List Expr}{t:List (List Nat)},nI ks=some t->ks.length=vs.length ->
  (evalEachOpt ks env).zip ((evalEach vs env).map fun v=>do let x <- v;standAt pos;pure x)=(OQ env pos ks vs).map (fun p=>(some p.1,p.2))/\(OQ env pos ks vs).length=ks.length:=by
 intro ks
 induction ks with
 | nil =>
  intro vs t _ _
  exact⟨rfl,rfl⟩
 | cons o r ih =>
  intro vs t h hl
  rcases vs with _|⟨v,vs⟩
  ·cases hl
  ·obtain⟨x,a,b,t',rfl,_,h',_⟩:=L0 h
   obtain⟨i1,i2⟩:=ih h' (Nat.succ.inj hl)
   refine⟨?_,congrArg (· + 1) i2⟩
   show (some (eval (.Constant (.str x) a b) env),_)::List.zip (evalEachOpt r env) _=_
   rw [i1];rfl
theorem Qo{pos:Pos}:∀ (ks:List (Option Expr)) {vs:List Expr}{t:List (List Nat)},(∀ e∈vs,VA B prog w A F env ρ (eval e env) (evalE Γ e ρ))->nI ks=some t->ks.length=vs.length ->
  ∀ {s:iA}{as:List cA}{st:St}{xs:List V}{st':St},DA B s.heap as F env ρ->Inv B s.heap as F st->FC Γ vs ρ st=some (xs,st') ->
  ∀ {Q:List (dA×dA)->iA->Prop}{E:dA->iA->Prop},
   (∀ ps h' as' tk kvs,Carries (strKind prog w) ps kvs->kvs.map (·.1)=t.map S->(∀ k∈t,∀ c∈k,c<0x110000)->vA B h' as' F xs (kvs.map (·.2))->Inv B h' as' F st'->qA no s.heap as h' as'->s.toks<=tk->Q ps { s with heap:=h',toks:=tk }) ->
   oA (model prog w) A (evalPairs (OQ env pos ks vs)) Q E s:=by
 intro ks
 induction ks with
 | nil =>
  intro vs t he h hl s as st xs st' f i hv Q E hQ
  rcases vs with _|⟨_,_⟩
  ·obtain⟨rfl,rfl⟩:=eB hv
   obtain rfl:([]:List (List Nat))=t:=qC h
   exact evalPairs_nil (hQ [] s.heap as s.toks [] trivial rfl (fun _ h=>by cases h) .nil i (qA.refl _ _ _) (sA _))
  ·cases hl
 | cons o r ih =>
  intro vs t he h hl s as st xs st' f i hv Q E hQ
  rcases vs with _|⟨v,vs⟩
  ·contradiction
  ·obtain⟨x,a,b,t',rfl,hx,h',rfl⟩:=L0 h
   refine EA hv fun u st1 h1 hv=>?_
   refine EA hv fun us st2 h2 hv=>?_
   obtain⟨rfl,rfl⟩:=eB hv
   refine evalPairs_cons (Constant_str ?_)
   refine rA (he v HA { s with toks:=s.toks+1 } as st f i u st1 h1 _ _ fun y g1 as1 tk1 ry i1 e1 ht1=>rA (VD (JA ?_)))
   have hl':∀ c∈x.cps.toList,c<0x110000:=fun c hc=>of_decide_eq_true (TV.mp ((KA _ _).mp hx).1 c (Array.mem_toList_iff.mp hc))
   refine ih (fun e he'=>he e (NA _ he')) h' (Nat.succ.inj hl) (s:={ s with heap:=g1,toks:=tk1 }) (f.on i e1) i1 h2 fun ps h' as' tk kvs hc hk hkl rs i2 e2 ht2=>?_
   refine hQ _ h' as' tk ((S x.cps.toList,y)::kvs) ⟨?_,rfl,hc⟩ (congrArg (S x.cps.toList :: ·) hk) (fun k hm=>?_) (.cons (e2.repv ry) rs) i2 (e1.trans e2) (jA (eE (sA _)) (jA ht1 ht2))
   ·rw [rL];exact strKind_is prog w _ _
   ·rcases bB.mp hm with rfl|hm
    ·exact hl'
    ·exact hkl k hm
theorem jo(hdk:ED B prog w){ks:List (Option Expr)}{vs:List Expr}{pos:Pos}(h:∀ F e,e∈vs->VA B prog w A F env ρ (eval e env) (evalE Γ e ρ)):VA B prog w A F env ρ (eval (.Dict ks vs pos) env) (evalE Γ (.Dict ks vs pos) ρ):=by
 intro s as st f i v st' hv Q E hQ
 refine rE hv fun k hk hv=>?_
 refine iC (st:=st) hv fun hc hv=>?_
 refine EA hv fun xs st1 h1 hv=>?_
 refine iC (st:=st1) hv fun hok hv=>?_
 obtain⟨hv',rfl⟩:=cF hv
 obtain⟨ks',hks',rfl⟩:=MC.mp hv'
 obtain⟨ks2,hks2,hnd,_⟩:=U2 hok
 rw [hks'] at hks2
 obtain rfl:=qC hks2
 obtain⟨sh,hl⟩:=wp (env:=env) (pos:=pos) hk hc.1
 have i0:Inv B (s.heap.push { cls:=.type "dict",data:=.dict #[] }) as (Fu F [s.heap.objs.size]) st:=i.more (UC _ _) (fun a ha=>by rw [BA.mp ha];exact RC _) (fun a ha=>by rw [BA.mp ha];exact⟨_,vD _ rfl⟩)
 have f0:DA B (s.heap.push { cls:=.type "dict",data:=.dict #[] }) as (Fu F [s.heap.objs.size]) env ρ:=f.more (UC _ _) (fun a ha=>by rw [BA.mp ha];exact RC _)
 have hDF:Fu F [s.heap.objs.size] s.heap.objs.size:=.inr HA
 have low:(s.heap.objs.size==cG)=false:=by
  obtain⟨a,o,h1,h2⟩:=hdk.low
  have h3:(1:Nat)<s.heap.objs.size:=uD h1 (JF (i.base a o h2).1)
  have h4:s.heap.objs.size≠1:=YG h3
  simpa [cG] using h4
 refine wpAny_Dict_pairs (knd:=strKind prog w) sh (fun q=>by rw [q] at hl;exact absurd (hl▸hc.2.1) (yR _)) (hl▸hc.2.2) (Qo ks (fun e he=>h _ e he) hk hc.1 f0 i0 h1 fun ps h' as' tk kvs hcr hkv hkl rs i1 e1 ht=>⟨kvs,hcr,?_,fun h2 hm hs=>?_⟩)
 ·exact zR.mpr ⟨_,e1.keep _ _ (vD _ rfl) (fun q=>i0.apart _ q hDF) id,#[],_,⟨rfl,rfl,rfl⟩,rfl,fun _ h=>by simp at h,.nil,.nil⟩
 have hlen:k.length=xs.length:=by
  have a1:kvs.length=k.length:=by have:=congrArg lL hkv;simpa using this
  have a2:=rs.length
  simp only [AA] at a2
  exact a1.symm.trans a2.symm
 have e3:dF (RG k xs)=some k:=by
  have q:=vT (xs:=[]) hlen
  rw [bC] at q
  exact q.trans (congrArg some (bC k))
 rw [e3] at hks'
 obtain rfl:=qC hks'
 rw [g6 hlen] at hQ
 have hnd':(kvs.map (·.1)).Nodup:=by
  rw [hkv]
  exact List.pairwise_map.mpr (hnd.imp fun h e=>h (kP e))
 rw [merged_nil_of_nodup kvs hnd'] at hm
 obtain⟨o',ho',hd'⟩:=zR.mp hm
 have hkp:∀ a o,a≠s.heap.objs.size->h'.get? a=some o->h2.get? a=some o:=fun a o q e=>(hs.2 a q).trans e
 have hsub:∀ a,F a->Fu F [s.heap.objs.size] a:=fun a q=>.inl q
 have hD:=i.fresh (RC s.heap)
 have i2:=i1.atF hDF hkp ⟨_,ho'⟩
 refine hQ _ h2 as' _ (.dct ho' ((hdk.iff _ _).mpr hd') low (fun q=>i1.apart _ q hDF) hD.2 hkv hkl (rs.mono (wB _) fun a o q1 q2 q3=>⟨hkp a o (fun e=>q3 (e▸hDF)) q1,q2,fun q=>q3 (hsub a q)⟩)) (i2.sub hsub) ?_ (jA ht (BB _ _))
 have e4:qA (· = s.heap.objs.size) s.heap as h2 as':=((qA.push (as:=as) s.heap _).trans (e1.weak fun _ q=>q.elim)).trans (qA.atF hkp ⟨_,ho'⟩)
 exact e4.dropG fun a q=>by rw [q];exact RC _
theorem oh{l:List Nat}:∀ {kvs:List (Str×dA)}{ks:List (List Nat)},kvs.map (·.1)=ks.map S->(valueAt kvs (S l)).isSome=ks.contains l:=by
 intro kvs
 induction kvs with
 | nil =>
  intro ks h
  obtain rfl:ks=[]:=VO.mp h.symm
  rfl
 | cons p r ih =>
  intro ks h
  rcases ks with _|⟨k,ks⟩
  ·contradiction
  ·obtain⟨h1,h2⟩:=List.cons.inj h
   have ih:=ih h2
   rw [valueAt_isSome_eq_any] at ih ⊢
   rw [YV,ih,List.contains_cons]
   congr 1
   have h1:p.1=S k:=h1
   rw [h1]
   by_cases q:l=k
   ·subst q;simp
   ·have:¬ S k=S l:=fun e=>q (kP e).symm
    simp [q,this]
theorem AY(hdk:ED B prog w){ks:List (List Nat)}{vs:List V}{a:V}{x y:dA}{t:Bool}(ra:kA B s.heap as F a x)(rb:kA B s.heap as F (.dct ks vs) y)(h:(a.str?.map fun s=>ks.contains s)=some t)(Q:dA->iA->Prop)(E:dA->iA->Prop) :
  ((∀ tk,s.toks<=tk->Q (.bool t) { s with toks:=tk })->oA (model prog w) A (compareOp .In x y) Q E s)/\((∀ tk,s.toks<=tk->Q (.bool (!t)) { s with toks:=tk })->oA (model prog w) A (compareOp .NotIn x y) Q E s):=by
 obtain⟨l,h1,rfl⟩:=MC.mp h
 obtain rfl:=bG h1
 obtain⟨u,rfl,hl⟩:=pC ra
 obtain⟨kvs,ad,o,rfl,ho,hd,hs,ha,hF,hk,hks,rs⟩:=TU rb
 have hm:=(ED.of (D:=hdk) ho hd).mapOf
 rw [<-oh (l:=l) hk]
 exact⟨fun hQ=>wpAny_in_of (strKind_is prog w _ _) hs hm (hQ _ (CB _)),fun hQ=>wpAny_notIn_of (strKind_is prog w _ _) hs hm (hQ _ (CB _))⟩
end Ev
end
section
namespace Ev
variable{B:CA}{prog:pA}{w:eA}{A:xA}{F:cA->Prop}{s:iA}{as:List cA}{st:St}{Γ:Ctx}{env:Env}{ρ:Fr}
def VE(B:CA)(h:Heap)(as:List cA)(F:cA->Prop)(b:List (Str×V))(xs:List (Str×dA)):Prop:=xs.map (·.1)=b.map (·.1)/\vA B h as F (b.map (·.2)) (xs.map (·.2))
theorem VE.get{h:Heap}:∀ {b:List (Str×V)}{xs:List (Str×dA)}{x:Str}{v:V},VE B h as F b xs->b.lookup x=some v->∃ y,xs.lookup x=some y/\kA B h as F v y
 | [],_,_,_,_,h=>by simp at h
 | (n,u)::r,[],_,_,⟨h,_⟩,_=>by simp at h
 | (n,u)::r,(m,z)::t,x,v,⟨h1,h2⟩,hl=>by
  simp only [sB,List.cons.injEq] at h1
  obtain⟨rfl,h1⟩:=h1
  cases h2
  rename_i r1 r2
  by_cases q:x=m
  ·subst q
   rw [qD] at hl
   cases hl
   exact⟨z,qD,r1⟩
  ·rw [bD q] at hl
   rw [bD q]
   exact VE.get ⟨h1,r2⟩ hl
structure nC(B:CA)(prog:pA)(w:eA)(a:cA)(d:xD)(o:Obj)(fd:FuncData):Prop where
 look:B.objs.lookup a=some o
 data:o.data = .func fd
 body:fd.body = .stmts d.body
 scope:fd.scope=d.sc
 globals:fd.globals=B.gA
 builtins:fd.builtins=B.bA
 closure:fd.closure=[]
 code:∀ h,B.objs.In h->h.CodeRec fd.code fd.qualname
 bind:∀ (A:xA) (F:cA->Prop) (s:iA) (as:List cA) (st:St) vs xs ks kxs b,Inv B s.heap as F st->vA B s.heap as F vs xs->VE B s.heap as F ks kxs->lG d vs ks=some b ->
  ∀ (Q:List (Str×dA)->iA->Prop) (E:dA->iA->Prop),(∀ binds h',VE B h' as F (EG d b) binds->(∀ a o,s.heap.get? a=some o->h'.get? a=some o)->Q binds { s with heap:=h' }) ->
  oA (model prog w) A (bindArgs fd ⟨xs,kxs⟩) Q E s
theorem u3:∀ {l:List Str},LU l=true->l.Nodup
 | [],_=>.nil
 | x::r,h=>by
  have ⟨h1,h2⟩:=(KA _ _).mp h
  exact zH.mpr ⟨by simpa using h1,u3 h2⟩
theorem CX{k:Str->Option GA}:∀ {b:List (Str×dA)}{m:Str->Option dA}{x:Str},x∉b.map (·.1)->bindL k b m x=m x
 | [],_,_,_=>rfl
 | (n,v)::r,m,x,h=>by
  simp only [sB,bB,not_or] at h
  unfold bindL
  rw [CX h.2]
  split
  ·exact if_neg h.1
  ·rfl
theorem wP{k:Str->Option GA}:∀ {b:List (Str×dA)}{m:Str->Option dA}{x:Str}{y:dA},(b.map (·.1)).Nodup->b.lookup x=some y->k x=some .local->bindL k b m x=some y
 | [],_,_,_,_,h,_=>by simp at h
 | (n,v)::r,m,x,y,hn,h,hk=>by
  simp only [sB,zH] at hn
  unfold bindL
  by_cases q:x=n
  ·subst q
   rw [qD] at h
   cases h
   rw [CX hn.1,if_pos hk,if_pos rfl]
  ·rw [bD q] at h
   exact wP hn.2 h hk
theorem BX{k:Str->Option GA}:∀ {b:List (Str×dA)}{m:Str->Option dA}{x:Str},x∉b.map (·.1)->bindC k b m x=m x
 | [],_,_,_=>rfl
 | (n,v)::r,m,x,h=>by
  simp only [sB,bB,not_or] at h
  unfold bindC
  rw [BX h.2]
  split
  ·rfl
  ·exact if_neg h.1
theorem AX{k:Str->Option GA}:∀ {b:List (Str×dA)}{m:Str->Option dA}{x:Str}{y:dA},(b.map (·.1)).Nodup->b.lookup x=some y->k x≠some .local->bindC k b m x=some y
 | [],_,_,_,_,h,_=>by simp at h
 | (n,v)::r,m,x,y,hn,h,hk=>by
  simp only [sB,zH] at hn
  unfold bindC
  by_cases q:x=n
  ·subst q
   rw [qD] at h
   cases h
   rw [BX hn.1,if_neg hk,if_pos rfl]
  ·rw [bD q] at h
   exact AX hn.2 h hk
theorem g9{d:xD}{vs:List V}{ks b:List (Str×V)}(h:lG d vs ks=some b):b.map (·.1)=d.params++d.kwonly:=by
 unfold lG at h
 simp only at h
 split at h
 ·rename_i hc
  cases h
  rw [aB,hc.2.2,List.map_fst_zip]
  lia
 ·exact wA h
structure G6(d:xD):Prop where
 kind:d.sc.kind = .function
 gen:d.sc.isGenerator=false
 co:d.sc.isCoroutine=false
 once:jF d.sc.names=true
 names:∀ x∈d.sc.names,x.2 = .local\/x.2 = .cell\/x.2 = .globalImplicit
 pnames:∀ x∈d.params++d.kwonly++d.kwarg.toList,d.sc.names.lookup x=some .local\/d.sc.names.lookup x=some .cell
 ponce:(d.params++d.kwonly++d.kwarg.toList).Nodup
theorem Kn{d:xD}(h:LQ d=true):G6 d:=by
 have ⟨h,h6⟩:=(KA _ _).mp h
 have ⟨h,h5⟩:=(KA _ _).mp h
 have ⟨h,h4⟩:=(KA _ _).mp h
 have ⟨h,h3⟩:=(KA _ _).mp h
 have ⟨h,h2⟩:=(KA _ _).mp h
 have ⟨h0,h1⟩:=(KA _ _).mp h
 refine⟨by simpa using h1,by simpa using h2,by simpa using h3,h4,fun x hx=>?_,fun x hx=>?_,u3 h0⟩
 ·have:=YA.mp h5 x hx
  simp only [II,beq_iff_eq] at this
  rcases this with (q|q)|q
  ·exact .inl q
  ·exact .inr (.inl q)
  ·exact .inr (.inr q)
 ·have:=YA.mp h6 x hx
  rcases q:d.sc.names.lookup x with _|j
  ·rw [q] at this;exact VB this
  ·rw [q] at this;rcases j with ⟨⟩<;>first|exact VB this|exact .inl rfl|exact .inr rfl
noncomputable def WJ(L:cA)(sc:Scope):List cA:=L::sc.names.filterMap fun p=>if p.2 == .cell then (LE (L+1) sc.names []).lookup p.1 else none
noncomputable def E4(g:Fr->mA (Fl×Fr))(d:xD)(vs:List V)(ks:List (Str×V)):mA V:=do
 let b <- gt (if LQ d then lG d vs ks else .none)
 match <- g ⟨d.sc.names,EG d b,fun _=>.none⟩ with
 | (.ret v,_)=>pure v
 | (.next,_)=>pure .none
theorem Rc{n:Nat}{g:Fr->mA (Fl×Fr)}{a:cA}{d:xD}{o:Obj}{fd:FuncData}(K:nC B prog w a d o fd)(hlim:∀ h,B.objs.In h->h.NoLimit)(hA:mB A (n+1))
  (hbody:∀ A' F' env' ρ',mB A' n->yC B prog w A' F' env' ρ' (execs d.body env') (g ρ'))
  {vs:List V}{xs:List dA}{ks:List (Str×V)}{kxs:List (Str×dA)} (i:Inv B s.heap as F st) (rs:vA B s.heap as F vs xs) (rk:VE B s.heap as F ks kxs) :
  vF B prog w A F no (RV B F) (call (.ref a) xs kxs) (E4 g d vs ks) s as st:=by
 intro v st' hv Q E hQ
 unfold E4 at hv
 refine EA hv fun b st0 hb hv1=>?_
 obtain⟨hb',rfl⟩:=cF hb
 split at hb'
 case isFalse=>exact wA hb'
 rename_i hok
 have P:=Kn hok
 have look:=K.look
 refine QE (n:=s.toks) (sA _) (wpAny_call (codeAny_call_function (iB (BB _ _) hA.depth) ((i.base _ _ look).1) K.data (by rw [K.scope];exact P.co) (by rw [K.scope];exact P.gen) K.body (K.code _ fun a o e=>(i.base a o e).1) ?_))
 refine K.bind _ F s as _ vs xs ks kxs b i rs rk hb' _ _ fun binds h1 rb hk1=>?_
 generalize hbb:EG d b=b' at rb hv1
 have hbn:b'.map (·.1)=d.params++d.kwonly++d.kwarg.toList:=by
  have:=g9 hb'
  rw [<-hbb]
  unfold EG
  rcases d.kwarg with ⟨⟩<;>simp [this]
 have hbinds:binds.map (·.1)=d.params++d.kwonly++d.kwarg.toList:=rb.1.trans hbn
 have i1:Inv B h1 as F st0:=i.keeps hk1
 have hkind:∀ x∈binds,fd.scope.names.lookup x.1=some .local\/(fd.scope.names.lookup x.1=some .cell/\((LE (h1.objs.size+1) fd.scope.names []).lookup x.1).isSome=true):=fun x hx=>by
  rw [K.scope]
  have hm:x.1∈d.params++d.kwonly++d.kwarg.toList:=by rw [<-hbinds];exact rC.mpr ⟨x,hx,rfl⟩
  rcases P.pnames _ hm with q|q
  ·exact .inl q
  ·refine .inr ⟨q,?_⟩
   obtain⟨c,hc,_⟩:=wS (h:=h1.push { cls:=.type "frame",data:=.dict #[] }) (acc:=[]) P.once q
   rw [mL] at hc
   rw [hc];rfl
 rw [K.closure]
 refine wpAny_newFunctionEnv_cells (by rw [K.scope];exact P.kind) hkind fun env he s2 hin=>?_
 have eL:env.locals=h1.objs.size:=by rw [he];rfl
 have eC:env.cells=LE (h1.objs.size+1) d.sc.names []:=by rw [he,K.scope];rfl
 have eS:env.scope=d.sc:=by rw [he];exact K.scope
 obtain⟨h2,tk2,rfl⟩:=hin.toInCall.same
 have hk2:∀ a o,h1.get? a=some o->h2.get? a=some o:=hin.toInCall.keep
 have base2:B.objs.In h2:=fun a o e=>hk2 a o (i1.base a o e).1
 refine⟨hlim _ base2,codeAny_func ?_⟩
 have hge:∀ a∈WJ h1.objs.size d.sc,h1.objs.size<=a/\∃ o,h2.get? a=some o:=fun a ha=>by
  rcases bB.mp ha with rfl|ha
  ·obtain⟨o,_,_,ho,_⟩:=hin.toInCall.ns
   rw [eL] at ho
   exact⟨sA _,o,ho⟩
  ·obtain⟨p,hp,hq⟩:=UO.mp ha
   split at hq
   ·rename_i hk
    have hk':p.2 = .cell:=by simpa using hk
    obtain⟨m,k⟩:=p
    cases hk'
    have hlk:=MQ P.once hp
    have hlow:=EL P.once hlk hq
    obtain⟨o,ho,_⟩:=hin.cell m a (by rw [eC];exact hq)
    exact⟨HG hlow,o,ho⟩
   ·exact wA hq
 have hL:∀ a∈WJ h1.objs.size d.sc,h1.get? a=none:=fun a ha=>by
  rcases q:h1.get? a with _|o
  ·rfl
  ·exact absurd (JF q) (CE.mpr (hge a ha).1)
 have hLF:∀ a∈WJ h1.objs.size d.sc,¬ F a:=fun a ha=>(i1.fresh (hL a ha)).2
 have i2:Inv B h2 as (Fu F (WJ h1.objs.size d.sc)) st0:=i1.more hk2 hL fun a ha=>(hge a ha).2
 have kindOf:∀ x,env.kindOf x=d.sc.names.lookup x:=fun x=>by unfold Env.kindOf;rw [eS]
 have nod:(binds.map (·.1)).Nodup:=hbinds▸P.ponce
 have rep2:∀ {u y},kA B h1 as F u y->kA B h2 as (Fu F (WJ h1.objs.size d.sc)) u y:=fun r=>r.mono (wB _) (cH hk2 hL)
 have f2:DA B h2 as (Fu F (WJ h1.objs.size d.sc)) env ⟨d.sc.names,b',fun _=>.none⟩:={
  kind:=by rw [eS];exact P.kind
  gl:=by rw [he];exact K.globals
  bl:=by rw [he];exact K.builtins
  loc:=⟨_,hin.toInCall.ns,fun x u hx hu=>by
   obtain⟨y,hy,ry⟩:=rb.get hu
   exact⟨y,wP nod hy (by rw [kindOf];exact hx),rep2 ry⟩⟩
  kindL:=fun x hx=>by rw [kindOf];exact hx
  kindN:=fun x hx=>by rw [kindOf] at hx;exact hx
  kindC:=fun x hx=>by rw [kindOf];exact hx
  kindG:=fun x hx=>by rw [kindOf];exact hx
  cell:=fun x hx=>by
   have hx':d.sc.names.lookup x=some .cell:=hx
   obtain⟨c,hc,_⟩:=wS (h:=h1.push { cls:=.type "frame",data:=.dict #[] }) (acc:=[]) P.once hx'
   rw [mL] at hc
   have hc2:env.cells.lookup x=some c:=by rw [eC];exact hc
   have hlow:=EL P.once hx' hc
   refine⟨c,_,hc2,hin.cell x c hc2,.inr ?_,fun q=>?_,fun u hu=>?_⟩
   ·refine NA _ (UO.mpr ⟨(x,.cell),mem_of_lookup hx',?_⟩)
    simpa using hc
   ·rw [q,eL] at hlow;exact absurd hlow (vR _)
   ·obtain⟨y,hy,ry⟩:=rb.get hu
    exact⟨y,AX nod hy (by rw [kindOf,hx'];simp),rep2 ry⟩
  apart:=fun x x' c hx hx' h3 h4=>by
   rw [eC] at h3 h4
   exact aY P.once hx hx' h3 h4
  free:=fun x hx=>by
   have hx':d.sc.names.lookup x=some .free:=hx
   rcases P.names (x,.free) (mem_of_lookup hx') with q|q|q<;>contradiction
  ownF:=.inr (by rw [eL];exact HA) }
 obtain⟨⟨fl,ρ'⟩,st1,h5,hv2⟩:=FM hv1
 have hA':mB (A.deeper env) n:=⟨hA.hh,Np hA.depth,Op hA.units⟩
 have own:∀ a,JB env d.sc.names a->h1.get? a=none:=fun a q=>by
  rcases q with q|⟨x,hx,hc⟩
  ·rw [q,eL];exact RC _
  ·rw [eC] at hc
   have:=EL P.once hx hc
   rcases z:h1.get? a with _|o
   ·rfl
   ·exact absurd (JF z) (CE.mpr (HG this))
 refine hbody _ _ env _ hA' { s with heap:=h2,toks:=tk2 } as _ f2 i2 fl ρ' st1 h5 _ _ fun x h6 as6 tk6 rx sc6 f6 i6 e6 ht6=>?_
 have eAll:qA no s.heap as h6 as6:=by
  have e7:qA (fun a=>no a\/a∈WJ h1.objs.size d.sc) h1 as h6 as6:=((qA.keeps hk2).trans e6).dropG own |>.weak fun _ q=>q.elim
  exact (qA.keeps hk1).trans (e7.thenL (fun _ _ _ e=>e) hL)
 cases rx with
 | next =>
  obtain⟨rfl,rfl⟩:=eB hv2
  intro htk
  exact hQ .none h6 as6 tk6 .none (i6.drop hLF fun _ _ _ e=>e) eAll htk
 | ret r =>
  obtain⟨rfl,rfl⟩:=eB hv2
  intro htk
  exact hQ _ h6 as6 tk6 (r.drop fun _ _ _ e=>e) (i6.drop hLF fun _ _ _ e=>e) eAll htk
theorem jZ{n:Nat}{a:cA}{d:xD}{o:Obj}{fd:FuncData}(K:nC B prog w a d o fd)(hlim:∀ h,B.objs.In h->h.NoLimit)(hA:mB A (n+1))
  (hbody:∀ A' F' env' ρ',mB A' n->yC B prog w A' F' env' ρ' (execs d.body env') (XA Γ d.body ρ'))
  {vs:List V}{xs:List dA}{ks:List (Str×V)}{kxs:List (Str×dA)} (i:Inv B s.heap as F st) (rs:vA B s.heap as F vs xs) (rk:VE B s.heap as F ks kxs) :
  vF B prog w A F no (RV B F) (call (.ref a) xs kxs) (zI Γ d vs ks) s as st:=Rc (g:=XA Γ d.body) K hlim hA hbody i rs rk
end Ev
end
section
namespace Ev
variable{B:CA}{prog:pA}{w:eA}{A:xA}{F:cA->Prop}{s:iA}{as:List cA}{st:St}{Γ:Ctx}{env:Env}{ρ:Fr}
noncomputable def KC(o:V)(x:Str):Option String:=match o with
 | .str _=>if x = "lower" then some "str.lower" else if x = "upper" then some "str.upper" else if x = "join" then some "str.join" else if x = "index" then some "str.index" else .none
 | .lst _=>if x = "index" then some "list.index" else if x = "count" then some "list.count" else .none
 | .ref _=>if x = "append" then some "list.append" else if x = "extend" then some "list.extend" else .none
 | .nod=>if x = "items" then some "dict.items" else .none
 | .g _=>if x = "get" then some "dict.get" else if x = "search" then some "re.Pattern.search" else .none
 | _=>.none
inductive mE(B:CA)(h:Heap)(as:List cA)(F:cA->Prop):V->dA->List dA->Prop
 | bi (id):mE B h as F (.bi id) (.builtin id) []
 | ty (n):n ≠ "Headers" -> mE B h as F (.ty n) (.type n) []
 | cls:mE B h as F (.ty "Headers") (.ref B.cls) []
 | fn {x a}:B.addr x=some a->mE B h as F (.fn x) (.ref a) []
 | mb {o ov x id}:kA B h as F o ov->KC o x=some id->mE B h as F (.m o x) (.builtin id) [ov]
 | mf {i ov x a}:kA B h as F (.hd i) ov->B.meth x=some a->mE B h as F (.m (.hd i) x) (.ref a) [ov]
theorem mE.ext{h h':Heap}{as':List cA}{f:V}{fv:dA}{first:List dA}(c:mE B h as F f fv first)(e:qA no h as h' as'):mE B h' as' F f fv first:=by
 cases c with
 | bi=>exact .bi _
 | ty n hn=>exact .ty n hn
 | cls=>exact .cls
 | fn h=>exact .fn h
 | mb r h=>exact .mb (e.repv r) h
 | mf r h=>exact .mf (e.repv r) h
structure WE(B:CA)(prog:pA)(w:eA)(Γ:Ctx)(n:Nat):Prop where
 glob:gP B prog w Γ
 keys:JJ B prog w Γ.gd
 dk:ED B prog w
 keep:∀ a,(∃ x,B.addr x=some a)\/(∃ x,B.meth x=some a)\/a=B.cls->keepIn B.objs (.ref a)=true
 call:∀ (A:xA) (F:cA->Prop) (s:iA) (as:List cA) (st:St) f fv first vs xs ks kxs,mB A n->Inv B s.heap as F st->mE B s.heap as F f fv first->vA B s.heap as F vs xs->VE B s.heap as F ks kxs ->
  vF B prog w A F no (RV B F) (call fv (first++xs) kxs) (Γ.call f vs ks) s as st
 meth:∀ (A:xA) (F:cA->Prop) (s:iA) (as:List cA) (st:St) o ov x f,Inv B s.heap as F st->kA B s.heap as F o ov->Γ.meth st o x=some f->∀ (pl:Sem Bool) (Q:dA×List dA->iA->Prop) (E:dA->iA->Prop),
  (∀ fv first,mE B s.heap as F f fv first->Q (fv,first) s)->oA (model prog w) A (getMethod ov x pl) Q E s
 attr:∀ (A:xA) (F:cA->Prop) (s:iA) (as:List cA) (st:St) o ov x v,Inv B s.heap as F st->kA B s.heap as F o ov->Γ.attr o x=some v->∀ (Q:dA->iA->Prop) (E:dA->iA->Prop),
  (∀ y tk,kA B s.heap as F v y->s.toks<=tk->Q y { s with toks:=tk })->oA (model prog w) A (getAttr ov x true) Q E s
theorem eP{pos:Pos}:∀ {es:List Expr}{vs:List V}{st st':St},FC Γ es ρ st=some (vs,st')->backTo pos (starEach es env)=es.map fun e=>(false,eval e env)
 | [],_,_,_,_=>rfl
 | e::r,vs,st,st',h=>by
  refine EA h fun a st1 ha h1=>?_
  refine EA h1 fun b st2 hb _=>?_
  rcases a5 e r env with q|⟨x,p,rfl⟩
  ·rw [q]
   show (false,eval e env)::backTo pos (starEach r env)=_
   rw [eP hb];rfl
  ·exact (YC (st:=st) ha).elim
theorem sW:∀ {kws:List YB}{ks:List (Str×V)}{st st':St},nG Γ kws ρ st=some (ks,st')->(∀ k∈kws,∃ n e p,k=⟨some n,e,p⟩):=by
 intro kws
 induction kws with
 | nil=>intro _ _ _ _ k hk;cases hk
 | cons k0 r ih =>
  intro ks st st' h k hk
  obtain⟨n,e,p⟩:=k0
  rcases n with _|n
  ·exact (YC (st:=st) h).elim
  ·refine EA h fun a st1 ha h1=>?_
   refine EA h1 fun b st2 hb _=>?_
   rcases bB.mp hk with rfl|hk
   ·exact⟨n,e,p,rfl⟩
   ·exact ih hb k hk
theorem C0(k:YB)(r:List YB)(env:Env):keywordEach (k::r) env=(k.arg,eval k.value env)::keywordEach r env:=by cases k;rfl
theorem wT{pos:Pos}:∀ {kws:List YB},(∀ k∈kws,∃ n e p,k=⟨some n,e,p⟩)->(backToKw pos (keywordEach kws env)).all (·.1.isSome)=true
 | [],_=>rfl
 | k::r,h=>by
  obtain⟨n,e,p,rfl⟩:=h k HA
  rw [C0]
  show (true&&(backToKw pos (keywordEach r env)).all (·.1.isSome))=true
  rw [wT fun k hk=>h k (NA _ hk)];rfl
theorem uo{pos:Pos}:∀ (kws:List YB),(∀ k∈kws,VA B prog w A F env ρ (eval k.value env) (evalE Γ k.value ρ))->∀ (s:iA) (as:List cA) (st:St),DA B s.heap as F env ρ->Inv B s.heap as F st->∀ ks st',nG Γ kws ρ st=some (ks,st') ->
  ∀ (Q:List dA->iA->Prop) (E:dA->iA->Prop),(∀ xs h' as' tk,VE B h' as' F ks (((backToKw pos (keywordEach kws env)).filterMap (·.1)).zip xs)->Inv B h' as' F st'->qA no s.heap as h' as'->s.toks<=tk->Q xs { s with heap:=h',toks:=tk }) ->
  oA (model prog w) A (evalAll ((backToKw pos (keywordEach kws env)).map (·.2))) Q E s:=by
 intro kws
 induction kws with
 | nil =>
  intro _ s as st f i ks st' hv Q E hQ
  obtain⟨rfl,rfl⟩:=eB hv
  exact wpAny_evalAll_nil (hQ [] s.heap as s.toks ⟨rfl,.nil⟩ i (qA.refl _ _ _) (sA _))
 | cons k r ih =>
  intro h s as st f i ks st' hv Q E hQ
  obtain⟨n,e,p⟩:=k
  rcases n with _|n
  ·exact (YC (st:=st) hv).elim
  ·refine EA hv fun a st1 ha hv1=>?_
   refine EA hv1 fun b st2 hb hv2=>?_
   obtain⟨rfl,rfl⟩:=eB hv2
   show oA _ _ (evalAll ((do let v <- eval e env;standAt pos;pure v)::(backToKw pos (keywordEach r env)).map (·.2))) Q E s
   refine wpAny_evalAll_cons (rA (h _ HA s as st f i a st1 ha _ _ fun x h1 as1 tk1 rx i1 e1 ht1=>?_))
   refine rA (VD (JA ?_))
   refine ih (fun k hk=>h k (NA _ hk)) _ as1 st1 (f.on i e1) i1 b _ hb _ _ fun xs h2 as2 tk2 rb i2 e2 ht2=>?_
   refine hQ (x::xs) h2 as2 tk2 ?_ i2 (e1.trans e2) (jA ht1 ht2)
   show VE B h2 as2 F ((n,a)::b) ((n,x)::((backToKw pos (keywordEach r env)).filterMap (·.1)).zip xs)
   exact⟨by simp [rb.1],.cons (e2.repv rx) rb.2⟩
theorem NS{M:Model}{E:dA->iA->Prop}{f:dA}{es:List Expr}{keywords:List (Option Str×Sem dA)}{Q:Args->iA->Prop}(hall:keywords.all (·.1.isSome)=true)
  (h:oA M A (spliced (es.map fun e=>(false,eval e env))) (fun vs s₁=>oA M A (evalAll (keywords.map (·.2))) (fun ks s₂=>Q ⟨vs,(keywords.filterMap (·.1)).zip ks⟩ s₂) E s₁) E s) :
  oA M A (evalArgs f true (es.map fun e=>(false,eval e env)) keywords) Q E s:=by
 rcases es with _|⟨e,r⟩
 ·refine evalArgs_kw_nil hall ?_
  exact fun Γ p hΓ=>(h Γ p hΓ) Γ p hΓ
 ·exact evalArgs_kw hall h
theorem mE.keeper{M:Model}{n:Nat}(C:WE B prog w Γ n){h:Heap}{f:V}{fv:dA}{first:List dA}(c:mE B h as F f fv first) :
  ∀ h',B.objs.In h'->∃ k,(k=Keeper.frame\/k=Keeper.machine\/k=Keeper.boundFrame)/\Looks M h' (keeperOf fv) k:=by
 intro h' X
 cases c with
 | bi=>exact⟨.machine,.inr (.inl rfl),.now⟩
 | ty=>exact⟨.machine,.inr (.inl rfl),.now⟩
 | mb=>exact⟨.machine,.inr (.inl rfl),.now⟩
 | cls=>exact keeps_K (C.keep _ (.inr (.inr rfl))) h' X
 | fn e=>exact keeps_K (C.keep _ (.inl ⟨_,e⟩)) h' X
 | mf _ e=>exact keeps_K (C.keep _ (.inr (.inl ⟨_,e⟩))) h' X
theorem TX{n:Nat}(C:WE B prog w Γ n)(hA:mB A n){pos:Pos}{args:List Expr}{kws:List YB}(ha:∀ e∈args,VA B prog w A F env ρ (eval e env) (evalE Γ e ρ))(hk:∀ k∈kws,VA B prog w A F env ρ (eval k.value env) (evalE Γ k.value ρ))
  {s:iA}{as:List cA}{st:St} (f₀:DA B s.heap as F env ρ) (i:Inv B s.heap as F st) {f:V}{fv:dA}{first:List dA} (c:mE B s.heap as F f fv first) :
  vF B prog w A F no (RV B F) (callWith pos fv first (backTo pos (starEach args env)) (backToKw pos (keywordEach kws env))) (do let vs <- FC Γ args ρ;let ks <- nG Γ kws ρ;Γ.call f vs ks) s as st:=by
 intro v st' hv Q E hQ
 refine EA hv fun vs st1 h1 hv1=>?_
 refine EA hv1 fun ks st2 h2 hv2=>?_
 have ht:=eP (env:=env) (pos:=pos) h1
 have hks:=sW h2
 have hall:=wT (pos:=pos) (env:=env) hks
 have es:=qO (pos:=pos) args ha s as st f₀ i vs st1 h1
 rw [ht] at es ⊢
 refine callWith_of (P:=B.objs.In) ?_ (c.keeper C) (NS hall (es _ _ fun xs g1 as1 tk1 rs i1 e1 ht1=>?_))
 ·have h3:(args.map fun e=>(false,eval e env)).any (·.1)=false:=by simp
  have h4:(backToKw pos (keywordEach kws env)).any (·.1.isNone)=false:=by
   simp only [WO]
   intro x hx
   have:=YA.mp hall x hx
   rcases q:x.1 with _|_
   ·rw [q] at this;exact VB this
   ·simp
  rw [h3,h4];rfl
 ·refine uo kws hk _ as1 st1 (f₀.on i e1) i1 ks st2 h2 _ _ fun kxs g2 as2 tk2 rk i2 e2 ht2=>⟨fun a o q=>(i2.base a o q).1,?_⟩
  refine C.call A F _ as2 st2 f fv first vs xs ks _ hA i2 ((c.ext e1).ext e2) (e2.reps rs) rk v st' hv2 Q E fun y g3 as3 tk3 ry i3 e3 ht3=>?_
  exact hQ y g3 as3 tk3 ry i3 ((e1.trans e2).trans e3) (jA ht1 (jA ht2 ht3))
theorem V9(o:Expr)(h:GH o=true):∃ f args kws pos,o = .Call f args kws pos:=QD (H:=True) (by clear h;rcases o with ⟨⟩<;>first|exact True.intro|exact⟨_,_,_,_,rfl⟩) h
theorem qk(o:Expr)(h:ZL o=true):∃ x p,o = .Name x p:=QD (H:=True) (by clear h;rcases o with ⟨⟩<;>first|exact True.intro|exact⟨_,_,rfl⟩) h
theorem i8:∀ o:Expr,cond (GH o) True (∀ (name:Str) (env:Env) (whole:Sem dA),attributeBase o name env whole=whole):=by
 intro o
 rcases o with ⟨⟩<;>first|exact True.intro|exact fun _ _ w=>(Eq.refl w:w=w)
theorem j8:∀ f:Expr,cond (ZL f) True (∀ (args:List Expr) (kws:List YB) (pos:Pos) (name:Str) (env:Env) (whole:Sem dA),attributeBase (.Call f args kws pos) name env whole=whole):=by
 intro f
 rcases f with ⟨⟩<;>first|exact True.intro|exact fun _ _ _ _ _ w=>(Eq.refl w:w=w)
theorem mS{o:Expr}(h:tO o=true)(name:Str)(env:Env)(whole:Sem dA):attributeBase o name env whole=whole:=by
 rcases BP (i8 o) with q|q
 ·obtain⟨f,args,kws,pos,rfl⟩:=V9 o q
  rcases BP (j8 f) with r|r
  ·obtain⟨x,p,rfl⟩:=qk f r
   rcases args with ⟨⟩<;>first|rfl|skip
   rcases kws with ⟨⟩<;>first|rfl|exact VB h
  ·exact r args kws pos name env whole
 ·exact q name env whole
theorem C1{o:Expr}{env:Env}{apos pos:Pos}(h:(apos.endLine==pos.line)=true):methodCallPos true o env apos pos=pure pos:=by unfold methodCallPos;simp [h]
theorem VY(o:Expr)(name:Str)(apos:Pos)(args:List Expr)(kws:List YB)(pos:Pos)(env:Env):eval (.Call (.Attribute o name apos) args kws pos) env=(do
  let ov <- attributeBase o name env (eval o env)
  standAt apos.atName
  methodCall o name apos pos env ov (args.length+kws.length) (backTo pos (starEach args env)) (backToKw pos (keywordEach kws env))):=rfl
theorem vi{k:Nat}{p:Pos}:∀ c:Const,(IH (.Constant c k p)).elim True fun a=>c = .str a:=by
 intro c
 rcases c with ⟨⟩<;>first|exact True.intro|exact rfl
theorem wi:∀ e:Expr,(IH e).elim True fun a=>∃ k p,e = .Constant (.str a) k p:=by
 intro e
 rcases e with ⟨⟩<;>first|exact True.intro|skip
 rename_i c k p
 rcases q:IH (.Constant c k p) with _|a
 ·exact True.intro
 ·exact⟨k,p,by rw [show c = .str a from RF (G:=fun a=>c = .str a) (vi c) q]⟩
theorem FT{e:Expr}{a:Str}(h:IH e=some a):∃ k p,e = .Constant (.str a) k p:=RF (G:=fun a=>∃ k p,e = .Constant (.str a) k p) (wi e) h
theorem ui:∀ o:Expr,cond (vQ o) (∃ l op r bp,o = .BinOp l op r bp) True:=by
 intro o
 rcases o with ⟨⟩<;>first|exact True.intro|exact DL ⟨_,_,_,_,rfl⟩
theorem ti{o:Expr}(h:vQ o=true):∃ c k1 p1 op r bp,o = .BinOp (.Constant (.str c) k1 p1) op r bp:=by
 obtain⟨l,op,r,bp,rfl⟩:=QD (ui o) h
 obtain⟨c,hc⟩:=XV.mp h
 obtain⟨k,p,rfl⟩:=FT hc
 exact⟨_,_,_,_,_,_,rfl⟩
theorem Jp(o:Expr)(args:List Expr)(kws:List YB)(st:St):∀ ov:V,(QQ ov o args kws st).elim True fun _=>∃ s,ov = .str s:=by
 intro ov
 rcases ov with ⟨⟩<;>first|exact True.intro|exact zB ⟨_,rfl⟩
@[elab_as_elim] theorem Ip {ov:V}{o:Expr}{args:List Expr}{kws:List YB}{st st':St}{v:V}{C:V->Expr->List Expr->List YB->St->Prop} (h:QQ ov o args kws st=some (v,st'))
  (k:∀ s c k1 p1 op r bp a k2 p2 b k3 p3,a≠b->s.length<=65536->b.length<=14->gD (Txt.replace (S s) a b).cps.toList=some v->C (.str s) (.BinOp (.Constant (.str c) k1 p1) op r bp) [.Constant (.str a) k2 p2,.Constant (.str b) k3 p3] [] st):C ov o args kws st':=by
 obtain⟨s,rfl⟩:=AC (Jp o args kws st ov) h
 rcases args with _|⟨x,_|⟨y,_|⟨_,_⟩⟩⟩<;>first|exact wA h|skip
 replace h:(match IH x with
  | some a=>match IH y with
   | some b=>if vQ o=true/\kws.length=0/\a≠b/\s.length<=65536/\b.length<=14 then gt (gD (Txt.replace (S s) a b).cps.toList) else yA
   | _=>yA
  | _=>yA) st=some (v,st'):=h
 rcases hx:IH x with _|a
 ·rw [hx] at h;exact wA h
 ·rw [hx] at h
  rcases hy:IH y with _|b
  ·simp only [hy] at h;exact wA h
  ·simp only [hy] at h
   refine iC h fun⟨h1,h2,h3,h4,h5⟩ h6=>?_
   obtain⟨h7,rfl⟩:=cF h6
   obtain⟨k2,p2,rfl⟩:=FT hx
   obtain⟨k3,p3,rfl⟩:=FT hy
   obtain⟨c,k1,p1,op,r,bp,rfl⟩:=ti h1
   obtain rfl:=nL h2
   exact k s c k1 p1 op r bp a k2 p2 b k3 p3 h3 h4 h5 h7
theorem gR{l:List Nat}{v:V}(h:gD l=some v):v = .str l/\(∀ c∈l,c<0x110000)/\l.length<=cap:=by
 refine VF h fun h1 h2=>?_
 obtain⟨h3,h4⟩:=j5 h2
 exact⟨h4,fun c hc=>of_decide_eq_true (YA.mp h1 c hc),h3⟩
theorem Kp{o:Expr}{apos pos:Pos}{args:List Expr}{kws:List YB}(hbin:∀ l op r p,o = .BinOp l op r p->VA B prog w A F env ρ (eval r env) (evalE Γ r ρ))
  {s:iA}{as:List cA}{st:St} (f:DA B s.heap as F env ρ) (i:Inv B s.heap as F st) {ov v:V}{st1 st':St} (h1:evalE Γ o ρ st=some (ov,st1)) (hv:QQ ov o args kws st1=some (v,st')) (hl:(apos.endLine==pos.line)=true)
  {Q:dA->iA->Prop}{E:dA->iA->Prop} (hQ:∀ x h' as' tk,RV B F h' as' v x->Inv B h' as' F st'->qA no s.heap as h' as'->s.toks<=tk->Q x { s with heap:=h',toks:=tk }) :
  oA (model prog w) A (do
   let ov <- eval o env
   standAt apos.atName
   methodCall o "replace" apos pos env ov (args.length+kws.length) (backTo pos (starEach args env)) (backToKw pos (keywordEach kws env))) Q E s:=by
 revert hbin h1 hQ
 refine Ip hv ?_
 intro z c k1 p1 op r bp a k2 p2 b k3 p3 hab hz hb ht hbin h1 hQ
 obtain⟨rfl,hcode,hcap⟩:=gR ht
 refine EA h1 fun va st2 ha h2=>?_
 refine EA h2 fun vb st3 hb2 h3=>?_
 obtain⟨h3',rfl⟩:=PE h3
 refine iC (st:=st) ha fun hx ha2=>?_
 obtain⟨rfl,rfl⟩:=eB ha2
 refine rA (wpAny_BinOp (Constant_str ?_))
 have rc:kA B s.heap as F (.str c.cps.toList) (.str (S c.cps.toList) s.toks):=.str _ _ fun d hd=>by
  simp only [KA] at hx
  have:=TV.mp hx.1 d (by simpa using hd)
  simpa using this
 rw [rL] at rc
 refine hbin _ _ _ _ rfl { s with heap:=s.heap,toks:=s.toks+1 } as _ f i vb _ hb2 _ _ fun y g2 as2 tk2 rb i2 e2 ht2=>?_
 refine yX (s:={ s with heap:=g2,toks:=tk2 }) i2 (e2.repv rc) rb h3' fun x g3 tk3 rx i3 e3 ht3=>?_
 obtain⟨t3,rfl,hl3⟩:=pC rx
 refine rA (VD ?_)
 unfold methodCall
 refine rA (HF ?_)
 show oA _ _ (getMethod (.str (S z) t3) "replace" _) _ _ _
 refine PySem.GM.replace ?_
 refine rA (oR (C1 hl) ?_)
 refine callWith_of (P:=fun _=>True) rfl (fun h' X=>⟨.machine,.inr (.inl rfl),.now⟩) ?_
 refine NS (es:=[.Constant (.str a) k2 p2,.Constant (.str b) k3 p3]) (keywords:=[]) rfl ?_
 refine spliced_cons (Constant_str (spliced_cons (Constant_str (spliced_nil ?_))))
 refine wpAny_evalAll_nil ⟨trivial,?_⟩
 have h4:1<=tk3:=jA (jA (LD 1 s.toks) ht2) ht3
 show oA _ _ (call (.builtin "str.replace") [.str (S z) t3,.str a tk3,.str b (tk3+1)]) _ _ _
 refine QE (n:=tk3) (eE (CB _)) (PySem.SC.replace (YG h4) (tH _) (iD (jD _)) (by simpa using hab) ?_ fun t' k htk=>?_)
 ·rw [gH]
  exact jA (JI hz (Nat.mul_le_mul (XB hz) hb)) (by decide)
 ·have rr:kA B g3 as2 F (.str (Txt.replace (S z) a b).cps.toList) (.str (S (Txt.replace (S z) a b).cps.toList) t'):=.str _ _ hcode
  rw [rL] at rr
  exact hQ _ g3 as2 k rr i3 (e2.trans e3) (jA (jA (jA (CB _) ht2) ht3) htk)
theorem bo{n:Nat}(C:WE B prog w Γ n)(hA:mB A n){o:Expr}{name:Str}{apos pos:Pos}{args:List Expr}{kws:List YB}(ho:VA B prog w A F env ρ (eval o env) (evalE Γ o ρ))
  (hbin:∀ l op r p,o = .BinOp l op r p->VA B prog w A F env ρ (eval r env) (evalE Γ r ρ))
  (ha:∀ e∈args,VA B prog w A F env ρ (eval e env) (evalE Γ e ρ)) (hk:∀ k∈kws,VA B prog w A F env ρ (eval k.value env) (evalE Γ k.value ρ)) :
  VA B prog w A F env ρ (eval (.Call (.Attribute o name apos) args kws pos) env) (evalE Γ (.Call (.Attribute o name apos) args kws pos) ρ):=by
 intro s as st f i v st' hv Q E hQ
 refine EA hv fun ov st1 h1 hv1=>?_
 refine iC (st:=st1) hv1 fun hc hv1=>?_
 simp only [KA] at hc
 by_cases hname:name = "replace"
 ·subst hname
  rw [VY,mS hc.1.1]
  exact Kp hbin f i h1 ((congrFun (if_pos rfl) st1).symm.trans hv1) hc.1.2 hQ
 replace hv1:=(congrFun (if_neg hname) st1).symm.trans hv1
 refine EA hv1 fun g st2 h2 hv2=>?_
 obtain⟨h2',rfl⟩:=PE h2
 refine EA hv2 fun vs st3 h3 hv3=>?_
 refine EA hv3 fun ks st4 h4 hv4=>?_
 have ht:=eP (env:=env) (pos:=pos) h3
 have hks:=sW h4
 have hform:methodCallForm (args.length+kws.length) (backTo pos (starEach args env)) (backToKw pos (keywordEach kws env))=true:=by
  unfold methodCallForm
  have e1:(backTo pos (starEach args env)).all (fun x=>!x.1)=true:=by rw [ht];simp
  have e2:=wT (pos:=pos) (env:=env) hks
  have e3:(backToKw pos (keywordEach kws env)).isEmpty=kws.isEmpty:=by
   rcases kws with _|⟨k,r⟩
   ·rfl
   ·rw [C0];rfl
  rw [e1,e2,e3]
  have e4:=hc.2
  unfold SS at e4
  have e5:(kws.length==0)=kws.isEmpty:=by rcases kws with ⟨⟩<;>rfl
  rw [e5] at e4
  simpa using e4
 rw [VY,mS hc.1.1]
 refine rA (ho s as st f i ov _ h1 _ _ fun x g1 as1 tk1 ro i1 e1 ht1=>?_)
 refine rA (VD ?_)
 unfold methodCall
 rw [hform]
 refine rA (HF ?_)
 show oA _ _ (getMethod x name _) _ _ _
 refine C.meth A F { s with heap:=g1,toks:=tk1 } as1 _ ov x name g i1 ro h2' _ _ _ fun fv first c=>?_
 refine rA (oR (C1 hc.1.2) ?_)
 refine TX C hA ha hk (f.on i e1) i1 c v st' hv2 Q E fun y g3 as3 tk3 ry i3 e3 ht3=>?_
 exact hQ y g3 as3 tk3 ry i3 (e1.trans e3) (jA ht1 ht3)
theorem Vn{n:Nat}(C:WE B prog w Γ n){o:Expr}{name:Str}{pos:Pos}(ho:VA B prog w A F env ρ (eval o env) (evalE Γ o ρ)) :
  VA B prog w A F env ρ (eval (.Attribute o name pos) env) (evalE Γ (.Attribute o name pos) ρ):=by
 intro s as st f i v st' hv Q E hQ
 refine EA hv fun ov st1 h1 hv1=>?_
 refine iC (st:=st1) hv1 fun hc hv1=>?_
 obtain⟨hv2,rfl⟩:=cF hv1
 show oA _ _ (do let x <- attributeBase o name env (eval o env);standAt pos.atName;let r <- holding [x] (getAttr x name true);letTemporaryGo o x r;pure r) Q E s
 rw [mS hc]
 refine rA (ho s as st f i ov _ h1 _ _ fun x g1 as1 tk1 ro i1 e1 ht1=>?_)
 refine rA (VD (rA (HF ?_)))
 refine C.attr A F { s with heap:=g1,toks:=tk1 } as1 _ ov x name v i1 ro hv2 _ _ fun y tk ry ht2=>?_
 exact rA (wpAny_letTemporaryGo (JA (hQ y g1 as1 tk ry i1 e1 (jA ht1 ht2))))
noncomputable def iK:Expr->Bool
 | .Attribute ..=>false
 | _=>true
theorem tc:∀ f:Expr,cond (iK f) (∀ (args:List Expr) (kws:List YB) (pos:Pos) (env:Env),eval (.Call f args kws pos) env=(do
  callWith pos (<- eval f env) [] (backTo pos (starEach args env)) (backToKw pos (keywordEach kws env)))) True:=by
 intro f
 rcases f with ⟨⟩<;>first|exact True.intro|exact fun _ _ _ _=>rfl
theorem WY{f:Expr}(h:iK f=true)(args:List Expr)(kws:List YB)(pos:Pos)(env:Env):eval (.Call f args kws pos) env=(do
  callWith pos (<- eval f env) [] (backTo pos (starEach args env)) (backToKw pos (keywordEach kws env))):=QD (tc f) h args kws pos env
theorem qc:∀ f:Expr,cond (iK f) (∀ (args:List Expr) (kws:List YB) (pos:Pos),evalE Γ (.Call f args kws pos) ρ=(do
  let fv <- evalE Γ f ρ
  let vs <- FC Γ args ρ
  let ks <- nG Γ kws ρ
  Γ.call fv vs ks)) True:=by
 intro f
 rcases f with ⟨⟩<;>first|exact True.intro|exact fun _ _ _=>rfl
theorem pc{f:Expr}(h:iK f=true)(args:List Expr)(kws:List YB)(pos:Pos):evalE Γ (.Call f args kws pos) ρ=(do
  let fv <- evalE Γ f ρ
  let vs <- FC Γ args ρ
  let ks <- nG Γ kws ρ
  Γ.call fv vs ks):=QD (qc (Γ:=Γ) (ρ:=ρ) f) h args kws pos
theorem aa{h:Heap}{x:dA}:∀ g:V,cond (match g with | .bi _ | .ty _ | .fn _ | .m ..=>true|_=>false) (jP B h as F x g->mE B h as F g x []) True:=by
 intro g
 rcases g with ⟨⟩<;>first|exact True.intro|exact fun e=>e ▸ .bi _|exact fun e=>e.elim|exact fun⟨_,e,q⟩=>e ▸ .fn q|exact fun e=>e.elim (fun q=>q.1 ▸ .ty _ q.2) fun q=>q.1▸q.2 ▸ .cls
theorem ao{n:Nat}(C:WE B prog w Γ n)(hA:mB A n)(hcall:∀ f vs ks st r,Γ.call f vs ks st=some r->(match f with | .bi _ | .ty _ | .fn _ | .m ..=>true|_=>false)=true)
  {f:Expr}{pos:Pos}{args:List Expr}{kws:List YB} (hf:iK f=true) (ho:VA B prog w A F env ρ (eval f env) (evalE Γ f ρ))
  (ha:∀ e∈args,VA B prog w A F env ρ (eval e env) (evalE Γ e ρ)) (hk:∀ k∈kws,VA B prog w A F env ρ (eval k.value env) (evalE Γ k.value ρ)) :
  VA B prog w A F env ρ (eval (.Call f args kws pos) env) (evalE Γ (.Call f args kws pos) ρ):=by
 intro s as st fr i v st' hv Q E hQ
 rw [pc hf] at hv
 rw [WY hf]
 refine EA hv fun g st1 h1 hv1=>?_
 refine rA (ho s as st fr i g _ h1 _ _ fun x g1 as1 tk1 ro i1 e1 ht1=>?_)
 have hv1':=hv1
 refine EA hv1 fun vs st3 h3 hv3=>?_
 refine EA hv3 fun ks st4 h4 hv4=>?_
 have hm:=hcall _ _ _ _ _ hv4
 have c:mE B g1 as1 F g x []:=QD (aa g) hm (kF ro)
 refine TX C hA ha hk (fr.on i e1) i1 c v st' hv1' Q E fun y g3 as3 tk3 ry i3 e3 ht3=>?_
 exact hQ y g3 as3 tk3 ry i3 (e1.trans e3) (jA ht1 ht3)
end Ev
end
section
namespace Ev
variable{B:CA}{prog:pA}{w:eA}{A:xA}{F:cA->Prop}{s:iA}{as:List cA}{st:St}{Γ:Ctx}{env:Env}{ρ:Fr}
theorem Hp{h:Heap}{n:String}{y:dA}(r:kA B h as F (.ty n) y)(hn:n ≠ "Headers"):y = .type n:=by
 rcases kF r with q|q
 ·exact q.1
 ·exact absurd q.1 hn
theorem xg(hdk:ED B prog w){t it:Expr}(he:VA B prog w A F env ρ (eval it env) (evalE Γ it ρ)){s:iA}{as:List cA}{st:St}(f:DA B s.heap as F env ρ)(i:Inv B s.heap as F st){xs:List V}{ws:List (Nat×O)}{st':St}
  (hv:(do let v <- evalE Γ it ρ;rd fun st=>zD st v:mA (List V×List (Nat×O))) st=some ((xs,ws),st'))
  {Q:dA->iA->Prop}{E:dA->iA->Prop} (hQ:∀ I h₁ h' as' tk,qA no s.heap as h₁ as'->Inv B h₁ as' F st'->iG B prog w t xs ws F as' h₁ h' I->(∀ p∈ws,st'[p.1]? = some p.2)->s.toks<=tk->Q (.ref I) { s with heap:=h',toks:=tk }) :
  oA (model prog w) A (eval it env) (fun x s₁=>oA (model prog w) A (pyIter x) Q E s₁) E s:=by
 refine EA hv fun v st1 h1 hv1=>?_
 obtain⟨hv2,rfl⟩:=PE hv1
 refine he s as st f i v _ h1 _ _ fun x g1 as1 tk1 rx i1 e1 ht1=>?_
 exact wg hdk (t:=t) (s:={ s with heap:=g1,toks:=tk1 }) i1 rx hv2 fun I h' hb hw=>hQ I g1 h' as1 tk1 e1 i1 hb hw ht1
theorem gc(g:Str):∀ o:Option V,cond (match o with|some (.ty n)=>decide (n = "enumerate" /\ g≠("__debug__":Str))|_=>false) (o=some (.ty "enumerate")/\g≠("__debug__":Str)) True:=by
 intro o
 rcases o with _|u
 ·exact True.intro
 ·rcases u with ⟨⟩<;>first|exact True.intro|skip
  rename_i n
  by_cases q:n = "enumerate" /\ g≠("__debug__":Str)
  ·exact DL ⟨by rw [q.1],q.2⟩
  ·show cond (decide _) _ _
   rw [decide_eq_false q];exact True.intro
theorem ic{e:Expr}(h:hJ Γ ρ e=true):∃ g p,e = .Name g p/\ρ.get Γ g=some (.ty "enumerate")/\g≠("__debug__":Str):=by
 obtain⟨g,p,rfl⟩:=QD (H:=True) (b:=hJ Γ ρ e) (G:=∃ g p,e = .Name g p) (by clear h;rcases e with ⟨⟩<;>first|exact True.intro|exact DL ⟨_,_,rfl⟩) h
 have q:=QD (gc g (ρ.get Γ g)) h
 exact⟨g,p,rfl,q.1,q.2⟩
theorem vg(Γ:Ctx)(ρ:Fr)(t:Expr)(whole:mA V):∀ it:Expr,cond (GH it) True (ME Γ t it whole ρ=(do let v <- whole;rd fun st=>zD st v:mA (List V×List (Nat×O)))):=by
 intro it
 rcases it with ⟨⟩<;>first|exact True.intro|exact (Eq.refl (do let v <- whole;rd fun st=>zD st v):(do let v <- whole;rd fun st=>zD st v:mA (List V×List (Nat×O)))=_)
theorem sg{t it:Expr}{whole:mA V}{st st':St}{r:List V×List (Nat×O)}(h:ME Γ t it whole ρ st=some (r,st')):(do let v <- whole;rd fun st=>zD st v:mA (List V×List (Nat×O))) st=some (r,st') \/
  ∃ g p args pos xs,it = .Call (.Name g p) args [] pos/\ρ.get Γ g=some (.ty "enumerate")/\g≠("__debug__":Str)/\FC Γ args ρ st=some ([.lst xs],st')/\GN t=true/\r=(xs.zipIdx.map fun x=>.tup [.int x.2,x.1],[]):=by
 rcases dI (b:=GH it) (G:=∃ f args kws pos,it = .Call f args kws pos) (by clear h;rcases it with ⟨⟩<;>first|exact True.intro|exact⟨_,_,_,_,rfl⟩) with ⟨f,args,kws,pos,rfl⟩|q
 case inr=>exact .inl ((congrFun (pE (vg Γ ρ t whole it) q) st).symm.trans h)
 rcases q:(hJ Γ ρ f&&kws.isEmpty) with _|_
 ·exact .inl ((congrFun (if_neg (by rw [q];decide)) st).symm.trans h)
 ·obtain⟨h1,h2⟩:=(KA _ _).mp q
  obtain⟨g,p,rfl,hg,hd⟩:=ic h1
  obtain rfl:=UV.mp h2
  refine EA ((congrFun (if_pos q) st).symm.trans h) fun vs st1 h3 h4=>?_
  rcases vs with _|⟨v,r⟩
  ·exact (YC (st:=st1) h4).elim
  ·cases r with
   | cons _ _=>exact (YC (st:=st1) h4).elim
   | nil =>
    rcases v with ⟨⟩<;>first|exact (YC (st:=st1) h4).elim|skip
    refine iC (st:=st1) h4 fun ht h5=>?_
    obtain⟨rfl,rfl⟩:=eB h5
    exact .inr ⟨g,p,args,pos,_,rfl,hg,hd,h3,ht,rfl⟩
theorem JU{n:Nat}(C:WE B prog w Γ n)(hA:mB A n){t it:Expr}(he:VA B prog w A F env ρ (eval it env) (evalE Γ it ρ))
  (hargs:∀ f p args pos,it = .Call (.Name f p) args [] pos->∀ e∈args,VA B prog w A F env ρ (eval e env) (evalE Γ e ρ)):KJ B prog w A F Γ t it env ρ:=by
 intro s as st f i xs ws st' hv Q E hQ
 rcases sg hv with h|⟨g,p,args,pos,ys,rfl,hg,hdb,h1,htup,e⟩
 ·exact xg C.dk (t:=t) he f i h hQ
 cases e
 rw [WY (by rfl)]
 have hnm:(gt (ρ.get Γ g):mA V) st=some (.ty "enumerate",st):=by rw [hg];rfl
 refine rA (wpAny_Name (hV C.glob f i _ _ hnm _ _ fun y g1 as1 tk1 ry i1 e1 ht1=>?_) (by simpa using hdb))
 obtain rfl:y = .type "enumerate":=Hp ry (by decide)
 have ht:=eP (env:=env) (pos:=pos) h1
 have es:=qO (pos:=pos) args (hargs g p args pos rfl) { s with heap:=g1,toks:=tk1 } as1 _ (f.on i e1) i1 _ _ h1
 rw [ht] at es ⊢
 refine callWith_of (P:=B.objs.In) ?_ (fun h' X=>⟨.machine,.inr (.inl rfl),.now⟩) (NS (keywords:=[]) rfl (es _ _ fun zs g2 as2 tk2 rs i2 e2 ht2=>?_))
 ·have h3:(args.map fun e=>(false,eval e env)).any (·.1)=false:=by simp
  rw [h3];rfl
 ·refine wpAny_evalAll_nil ⟨fun a o q=>(i2.base a o q).1,?_⟩
  obtain⟨z,zs,rfl,r1,r2⟩:=zM rs
  obtain rfl:=AM r2
  obtain⟨xs,l,rfl,hl,ha,hF,rs⟩:=aG r1
  replace hl:=hl.isList
  show oA _ _ (call (.type "enumerate") [.ref l]) _ _ _
  refine call_enumerate_list (s:={ s with heap:=g2,toks:=tk2 }) hl fun h' hen JC hsz hk=>?_
  have h0:g2.get? (g2.objs.size+1)=none:=by
   rcases q:g2.get? (g2.objs.size+1) with _|o
   ·rfl
   ·exact absurd (JF q) (CE.mpr (CB _))
  have hb:=N8 (B:=B) (prog:=prog) (w:=w) (t:=t) htup (F:=F) (as:=as2) hl ha hF rs hen JC hk h0 (RC g2) (Nat.succ_ne_self _)
  obtain⟨L,P,T,p0,k1,k2⟩:=id hb
  refine T.self 0 A { s with heap:=h',toks:=tk2 } as2 (Fu F L) _ _ hA.hh p0 ?_
  exact hQ _ g2 h' as2 tk2 (e1.trans e2) i2 hb (fun p hp=>by cases hp) (jA ht1 ht2)
end Ev
end
section
namespace Ev
variable{B:CA}{prog:pA}{w:eA}{Γ:Ctx}{n:Nat}
def HE(B:CA)(prog:pA)(w:eA)(Γ:Ctx)(n:Nat)(e:Expr):Prop:=∀ A F env ρ,mB A n->VA B prog w A F env ρ (eval e env) (evalE Γ e ρ)
def MJ(B:CA)(prog:pA)(w:eA)(Γ:Ctx)(n:Nat)(e:Expr):Prop:=∀ A F env ρ,mB A n->lD B prog w A F env ρ (PySem.isTrue e env (eval e env)) (IB Γ e ρ (evalE Γ e ρ))
def pL(Γ:Ctx):Prop:=∀ f vs ks st r,Γ.call f vs ks st=some r->(match f with | .bi _ | .ty _ | .fn _ | .m ..=>true|_=>false)=true
def cP(B:CA)(prog:pA)(w:eA)(Γ:Ctx)(n:Nat):CK->Prop
 | .L e=>HE B prog w Γ n e
 | .D k v=>HE B prog w Γ n k/\HE B prog w Γ n v
theorem zZ(C:WE B prog w Γ n){A:xA}(hA:mB A n){c:CK}{gens:List uB}{scope:Scope}{pos:Pos}(he:cP B prog w Γ n c)(hall:∀ g∈gens,g.is_async=0/\yE g.iter=true) :
  ∀ (gs:List uB) (d:Nat),gens.drop d=gs->(∀ g∈gs,HE B prog w Γ n g.iter/\(∀ f p args pos,g.iter = .Call (.Name f p) args [] pos->∀ e∈args,HE B prog w Γ n e)/\∀ e∈g.ifs,MJ B prog w Γ n e) ->
   ∀ F env ρ D,F D->¬ JB env ρ.sc D->aI B prog w A Γ F c gens scope pos d D env gs ρ
 | [],d,hd,_,F,env,ρ,D,hD,hDo=>q9 C.dk hD hDo (by
   have:gens.length<=d:=by simpa using hd
   exact oL this) (match c,he with | .L _,he=>he A F env ρ hA | .D _ _,he=>⟨he.1 A F env ρ hA,he.2 A F env ρ hA⟩)
 | g::gs,d,hd,hg,F,env,ρ,D,hD,hDo=>by
  obtain⟨t,it,ifs,as₀⟩:=g
  have hget:gens[d]? = some ⟨t,it,ifs,as₀⟩:=by
   have:=List.getElem?_drop (xs:=gens) (i:=d) (j:=0)
   rw [hd] at this
   simpa using this.symm
  have h0:as₀=0:=(hall _ (DD hget)).1
  subst h0
  obtain⟨h1,h2,h3⟩:=hg _ HA
  have hd':gens.drop (d+1)=gs:=by
   have:gens.drop (d+1)=(gens.drop d).drop 1:=by rw [IV]
   rw [this,hd];rfl
  refine p9 hA.hh hget hall hD hDo (JU C hA (h1 A F env ρ hA) fun f p args pos e x hx=>h2 f p args pos e x hx A F env ρ hA) (fun L ρ' _=>d3 ifs fun e he=>h3 e he A _ env ρ' hA) fun L ρ' hs=>?_
  exact zZ C hA he hall gs (d+1) hd' (fun g hg'=>hg g (NA _ hg')) (Fu F L) env ρ' D (.inl hD) (hs▸hDo)
theorem oY(C:WE B prog w Γ n){A:xA}(hA:mB A n){c:CK}{scope:Scope}{pos:Pos}{t it:Expr}{ifs:List Expr}{as₀:Int}{gs:List uB}(he:cP B prog w Γ n c)
  (hg:∀ g∈(⟨t,it,ifs,as₀⟩::gs:List uB),HE B prog w Γ n g.iter/\(∀ f p args pos,g.iter = .Call (.Name f p) args [] pos->∀ e∈args,HE B prog w Γ n e)/\∀ e∈g.ifs,MJ B prog w Γ n e) :
  (∀ F env ρ,KJ B prog w A F Γ t it env ρ)/\(∀ F' env' ρ',lD B prog w A F' env' ρ' (AJ ifs env') (ZE Γ ifs ρ')) /\
  ((∀ g∈(⟨t,it,ifs,0⟩::gs:List uB),g.is_async=0/\yE g.iter=true)->∀ F' env' ρ' D,ρ'.sc=scope.names->F' D->¬ JB env' scope.names D->aI B prog w A Γ F' c (⟨t,it,ifs,0⟩::gs) scope pos 1 D env' gs ρ'):=by
 obtain⟨h1,h2,h3⟩:=hg _ HA
 refine⟨fun F env ρ=>JU C hA (h1 A F env ρ hA) fun f p args pos e x hx=>h2 f p args pos e x hx A F env ρ hA,fun F' env' ρ'=>d3 ifs fun e he=>h3 e he A F' env' ρ' hA,fun hall F' env' ρ' D hs hD hDo=>?_⟩
 exact zZ C hA he hall gs 1 rfl (fun g hg'=>hg g (NA _ hg')) F' env' ρ' D hD (hs▸hDo)
theorem uX{A:xA}{F:cA->Prop}{env:Env}{ρ:Fr}{α β:Type}{R:Heap->List cA->α->β->Prop}{t:Sem β}{m:mA α}(h:m=yA):iP B prog w A F env ρ R t m:=by
 intro s as st f i v st' hv
 rw [h] at hv;exact (YC hv).elim
theorem N5(he:HE B prog w Γ n e)(h1:∀ env,PySem.isTrue e env (eval e env)=(do let v <- eval e env;standAt e.pos;holding [v] (truthy v)))(h2:∀ ρ,IB Γ e ρ (evalE Γ e ρ)=(do let v <- evalE Γ e ρ;rd fun st=>oF st v)):MJ B prog w Γ n e:=by
 intro A F env ρ hA
 rw [h1,h2]
 exact Sn (he A F env ρ hA)
theorem MH{α:Type}[SizeOf α]{l:List α}{a:α}(h:a∈l):sizeOf a<sizeOf l:=List.sizeOf_lt_of_mem h
theorem Mr{a b m:Nat}(h:b<m+1)(k:a<b):a<m:=cC k (dG h)
noncomputable def B3:Expr->List Expr
 | .BinOp l _ r _=>[l,r]
 | .UnaryOp _ x _=>[x]
 | .BoolOp _ vs _=>vs
 | .IfExp t b o _=>[t,b,o]
 | .Compare l _ cs _=>l::cs
 | .Call f args kws _=>f::(args++kws.map (·.value))
 | .Attribute o _ _=>[o]
 | .Subscript o j _=>[o,j]
 | .Slice l u t _=>l.toList++(u.toList++t.toList)
 | .List es _=>es
 | .Tuple es _ _=>es
 | .ListComp e gs _ _=>e::gs.flatMap fun g=>g.iter::g.ifs
 | .Dict _ vs _=>vs
 | .DictComp k v gs _ _=>k::v::gs.flatMap fun g=>g.iter::g.ifs
 | _=>[]
theorem xh{ks:List YB}{x:Expr}(h:x∈ks.map (·.value)):sizeOf x<sizeOf ks:=by
 obtain⟨k,hk,rfl⟩:=rC.mp h
 have h1:=MH hk
 have h2:sizeOf k.value<sizeOf k:=by cases k;simp;exact uM (sA _)
 exact uD h2 h1
theorem yZ{gs:List uB}{x:Expr}(h:x∈gs.flatMap fun g=>g.iter::g.ifs):sizeOf x<sizeOf gs:=by
 obtain⟨g,hg,h⟩:=AH.mp h
 have h1:=MH hg
 obtain⟨t,it,ifs,as₀⟩:=g
 simp at h1
 rcases bB.mp h with rfl|h
 ·exact uD (LK (sA _)) h1
 ·have:=MH (show x∈ifs from h);exact uD (wI (kC this)) h1
theorem MU{o:Option Expr}{x:Expr}(h:x∈o.toList):sizeOf x<sizeOf o:=by
 rcases o with _|y
 ·cases h
 ·obtain rfl:x=y:=by simpa using h
  simp
theorem zV{x a b:Expr}(h:x∈[a,b]):x=a\/x=b:=by
 rcases bB.mp h with h|h
 ·exact .inl h
 ·exact .inr (BA.mp h)
theorem oC{e x:Expr}(h:x∈B3 e):sizeOf x<sizeOf e:=by
 cases e with
 | BinOp l op r p=>rcases zV h with rfl|rfl<;>(first|exact KK (sA _)|exact wI (sA _))
 | UnaryOp op y p =>
  obtain rfl:x=y:=BA.mp h
  exact uM (sA _)
 | BoolOp op vs p=>have:=MH (show x∈vs from h);simp;exact uM (kC this)
 | IfExp t b o p =>
  rcases bB.mp (show x∈[t,b,o] from h) with rfl|h
  ·exact KK (sA _)
  ·rcases zV h with rfl|rfl<;>(first|exact LK (sA _)|exact wI (sA _))
 | Compare l ops cs p =>
  rcases bB.mp (show x∈l::cs from h) with rfl|h
  ·simp;exact KK (sA _)
  ·have:=MH h;simp;exact wI (kC this)
 | Call f args kws p =>
  rcases bB.mp (show x∈f::(args++kws.map (·.value)) from h) with rfl|h
  ·simp;exact KK (sA _)
  ·rcases GB.mp h with h|h
   ·have:=MH h;simp;exact LK (kC this)
   ·have:=xh h;simp;exact wI (kC this)
 | Attribute o n p =>
  obtain rfl:x=o:=BA.mp h
  exact PQ (sA _)
 | Subscript o j p=>rcases zV h with rfl|rfl<;>(first|exact PQ (sA _)|exact uM (sA _))
 | Slice l u t p =>
  rcases GB.mp (show x∈l.toList++(u.toList++t.toList) from h) with h|h
  ·have:=MU h;simp;exact KK (kC this)
  ·rcases GB.mp h with h|h
   ·have:=MU h;simp;exact LK (kC this)
   ·have:=MU h;simp;exact wI (kC this)
 | List es p=>have:=MH (show x∈es from h);simp;exact M3 (kC this)
 | Tuple es k p=>have:=MH (show x∈es from h);simp;exact PQ (kC this)
 | ListComp e gs sc p =>
  rcases bB.mp (show x∈e::gs.flatMap (fun g=>g.iter::g.ifs) from h) with rfl|h
  ·simp;exact KK (sA _)
  ·have:=yZ h;simp;exact LK (kC this)
 | Dict ks vs p=>have:=MH (show x∈vs from h);simp;exact uM (kC this)
 | DictComp k v gs sc p =>
  rcases bB.mp (show x∈k::v::gs.flatMap (fun g=>g.iter::g.ifs) from h) with rfl|h
  ·simp;exact xp (sA _)
  ·rcases bB.mp h with rfl|h
   ·simp;exact yp (sA _)
   ·have:=yZ h;simp;exact zp (kC this)
 | _=>cases h
noncomputable def I3:Expr->Bool
 | .UnaryOp .. | .BoolOp .. | .IfExp .. | .Compare ..=>false
 | _=>true
abbrev IJ(B:CA)(prog:pA)(w:eA)(Γ:Ctx)(n:Nat)(e:Expr):Prop:=HE B prog w Γ n e/\MJ B prog w Γ n e
theorem J3{e:Expr}(h:I3 e=true):(∀ env,PySem.isTrue e env (eval e env)=(do let v <- eval e env;standAt e.pos;holding [v] (truthy v)))/\∀ ρ,IB Γ e ρ (evalE Γ e ρ)=(do let v <- evalE Γ e ρ;rd fun st=>oF st v):=by
 refine QD (H:=True) ?_ h
 clear h
 rcases e with ⟨⟩<;>first|exact True.intro|exact⟨fun _=>rfl,fun _=>rfl⟩
theorem plain{e:Expr}(h:I3 e=true)(he:HE B prog w Γ n e):IJ B prog w Γ n e:=⟨he,N5 he (J3 (Γ:=Γ) h).1 (J3 (Γ:=Γ) h).2⟩
theorem Ms{op:UnaryOp}{x:Expr}{pos:Pos}(hx:IJ B prog w Γ n x):IJ B prog w Γ n (.UnaryOp op x pos):=by
 have he:HE B prog w Γ n (.UnaryOp op x pos):=fun A F env ρ hA=>Bo (hx.1 A F env ρ hA)
 refine⟨he,?_⟩
 cases op with
 | Not=>exact fun A F env ρ hA=>Qn (hx.2 A F env ρ hA)
 | _=>exact N5 he (fun env=>rfl) fun ρ=>rfl
theorem zr{o j:Expr}{pos:Pos}{ρ:Fr}(h:zJ j=false):evalE Γ (.Subscript o j pos) ρ=(do let ov <- evalE Γ o ρ;let iv <- evalE Γ j ρ;rd fun st=>CC st ov iv):=by
 refine pE (G:=True) ?_ h
 clear h
 rcases j with ⟨⟩<;>first|exact rfl|exact True.intro
theorem Lq(j:Expr):(∃ l u t p,j = .Slice l u t p)\/zJ j=false:=dI (by rcases j with ⟨⟩<;>first|exact True.intro|exact⟨_,_,_,_,rfl⟩)
theorem l7{g:Expr}(h:iK g=false):∃ o name p,g = .Attribute o name p:=pE (G:=True) (by clear h;rcases g with ⟨⟩<;>first|exact True.intro|exact⟨_,_,_,rfl⟩) h
theorem nY(C:WE B prog w Γ n)(c:CK)(he:cP B prog w Γ n c){gens:List uB}{scope:Scope}{pos:Pos}(hg':∀ g∈gens,∀ x∈g.iter::g.ifs,HE B prog w Γ n x/\MJ B prog w Γ n x/\∀ y,sizeOf y<sizeOf x->HE B prog w Γ n y):HE B prog w Γ n (c.e gens scope pos):=by
 intro A F env ρ hA
 have hg:∀ g∈gens,HE B prog w Γ n g.iter/\(∀ f p args pos,g.iter = .Call (.Name f p) args [] pos->∀ e∈args,HE B prog w Γ n e)/\∀ e∈g.ifs,MJ B prog w Γ n e:=fun g hg =>
  ⟨(hg' g hg _ HA).1,fun f p args pos q e he=>(hg' g hg _ HA).2.2 e (q▸oC (NA _ (MD _ he))),fun e he=>(hg' g hg _ (NA _ he)).2.1⟩
 rcases gens with _|⟨g,gs⟩
 ·exact uX (CK.evalE.trans (if_neg (by rw [List.isEmpty_nil,XO,CJ];decide)))
 ·obtain⟨t,it,ifs,as₀⟩:=g
  obtain⟨h1,h2,h3⟩:=oY (scope:=scope) (pos:=pos) C hA he hg
  exact Z2 C.dk hA.hh (h1 F env ρ) h2 h3
theorem uc(C:WE B prog w Γ n)(hc:pL Γ):∀ (e:Expr),(∀ x,sizeOf x<sizeOf e->IJ B prog w Γ n x)->IJ B prog w Γ n e
 | .Constant c k pos,_=>plain rfl fun A F env ρ hA=>io
 | .Name x pos,_=>plain rfl fun A F env ρ hA s as st f i=>Hq C.glob f i
 | .BinOp l op r pos,ih=>plain rfl fun A F env ρ hA=>Yn ((ih l (oC (HA))).1 A F env ρ hA) ((ih r (oC (NA _ HA))).1 A F env ρ hA)
 | .UnaryOp op x pos,ih=>Ms (ih x (oC HA))
 | .BoolOp op vs pos,ih=>⟨fun A F env ρ hA=>Zn fun e he=>(ih e (oC he)).1 A F env ρ hA,fun A F env ρ hA=>Nn fun e he=>(ih e (oC he)).2 A F env ρ hA⟩
 | .IfExp t b o pos,ih=>by
  have ht:=ih t (oC HA)
  have hb:=ih b (oC (NA _ HA))
  have ho:=ih o (oC (NA _ (NA _ HA)))
  exact⟨fun A F env ρ hA=>qo (ht.2 A F env ρ hA) (hb.1 A F env ρ hA) (ho.1 A F env ρ hA),fun A F env ρ hA=>Pn (ht.2 A F env ρ hA) (hb.2 A F env ρ hA) (ho.2 A F env ρ hA)⟩
 | .Compare l ops cs pos,ih=>by
  have hl:=ih l (oC HA)
  have hs:∀ e∈cs,IJ B prog w Γ n e:=fun e he=>ih e (oC (NA _ he))
  exact⟨fun A F env ρ hA=>eo C.keys hA (hl.1 A F env ρ hA) fun e he=>(hs e he).1 A F env ρ hA,fun A F env ρ hA=>On C.keys hA (hl.1 A F env ρ hA) fun e he=>(hs e he).1 A F env ρ hA⟩
 | .Call g args kws pos,ih=>by
  refine plain rfl fun A F env ρ hA=>?_
  have ha:∀ e∈args,VA B prog w A F env ρ (eval e env) (evalE Γ e ρ):=fun e he=>(ih e (oC (NA _ (MD _ he)))).1 A F env ρ hA
  have hk:∀ k∈kws,VA B prog w A F env ρ (eval k.value env) (evalE Γ k.value ρ):=fun k hk=>(ih k.value (oC (NA _ (DE _ (TM hk))))).1 A F env ρ hA
  have hg:=oC (e:=.Call g args kws pos) (x:=g) HA
  rcases hn:iK g with _|_
  ·obtain⟨o,name,apos,rfl⟩:=l7 hn
   have h2:=oC (e:=.Attribute o name apos) (x:=o) HA
   refine bo C hA ((ih o (uD h2 hg)).1 A F env ρ hA) (fun l op r p q=>?_) ha hk
   subst q
   exact (ih r (uD (oC (NA _ HA)) (uD h2 hg))).1 A F env ρ hA
  ·exact ao C hA hc hn ((ih g hg).1 A F env ρ hA) ha hk
 | .Attribute o name pos,ih=>plain rfl fun A F env ρ hA=>Vn C ((ih o (oC HA)).1 A F env ρ hA)
 | .Subscript o j pos,ih=>by
  refine plain rfl fun A F env ρ hA=>?_
  have ho:=(ih o (oC HA)).1 A F env ρ hA
  have hj:=oC (e:=.Subscript o j pos) (x:=j) (NA _ HA)
  rcases Lq j with ⟨l,u,t,p,rfl⟩|hs
  ·have uC:∀ x:Option Expr,(∀ y∈x.toList,y∈B3 (.Slice l u t p))->VA B prog w A F env ρ (valueOrNone (evalOpt x env)) (oG Γ x ρ):=fun x hx=>wo x fun y hy=>(ih y (uD (oC (hx y (by rw [hy];exact HA))) hj)).1 A F env ρ hA
   exact zo ho (uC l fun y h=>MD _ h) (uC u fun y h=>DE _ (MD _ h)) (uC t fun y h=>DE _ (DE _ h))
  ·rw [zr hs]
   exact so C.dk hs ho ((ih j hj).1 A F env ρ hA)
 | .List es pos,ih=>plain rfl fun A F env ρ hA=>vo fun e he=>(ih e (oC he)).1 A F env ρ hA
 | .Tuple es k pos,ih=>plain rfl fun A F env ρ hA=>Ao fun e he=>(ih e (oC he)).1 A F env ρ hA
 | .ListComp elt gens scope pos,ih=>plain rfl (nY C (.L elt) (ih elt (oC HA)).1 fun g hg x hx=>ih x (oC (NA _ (AH.mpr ⟨g,hg,hx⟩))) |>.elim fun a b=>⟨a,b,fun y hy=>(ih y (uD hy (oC (NA _ (AH.mpr ⟨g,hg,hx⟩))))).1⟩)
 | .DictComp k v gens scope pos,ih=>plain rfl (nY C (.D k v) ⟨(ih k (oC HA)).1,(ih v (oC (NA _ HA))).1⟩ fun g hg x hx=>ih x (oC (NA _ (NA _ (AH.mpr ⟨g,hg,hx⟩)))) |>.elim fun a b=>⟨a,b,fun y hy=>(ih y (uD hy (oC (NA _ (NA _ (AH.mpr ⟨g,hg,hx⟩)))))).1⟩)
 | .Dict ks vs pos,ih=>plain rfl fun A F env ρ hA=>jo C.dk fun F' e he=>(ih e (oC he)).1 A F' env ρ hA
 | .Set ..,_ | .SetComp ..,_ | .GeneratorExp ..,_ | .Lambda ..,_ | .NamedExpr ..,_ | .Await ..,_ | .Yield ..,_ | .YieldFrom ..,_ | .FormattedValue ..,_ | .JoinedStr ..,_ | .Starred ..,_ | .Slice ..,_=>plain rfl fun A F env ρ hA=>uX rfl
theorem vN(C:WE B prog w Γ n)(hc:pL Γ):∀ (m:Nat) (e:Expr),sizeOf e<m->IJ B prog w Γ n e
 | 0,e,h=>absurd h (BR _)
 | m+1,e,h=>uc C hc e fun x hx=>vN C hc m x (Mr h hx)
end Ev
end
section
namespace Ev
variable{B:CA}{prog:pA}{w:eA}{Γ:Ctx}{n:Nat}
def IW(B:CA)(prog:pA)(w:eA)(Γ:Ctx)(n:Nat)(s:IA):Prop:=∀ A F env ρ,mB A n->yC B prog w A F env ρ (exec s env) (PB Γ s ρ)
def SR(B:CA)(prog:pA)(w:eA)(Γ:Ctx)(n:Nat)(l:List IA):Prop:=∀ A F env ρ,mB A n->yC B prog w A F env ρ (execs l env) (XA Γ l ρ)
theorem sP{A:xA}{F:cA->Prop}{env:Env}{ρ:Fr}{t:Sem Flow}{m:mA (Fl×Fr)}(h:m=yA):yC B prog w A F env ρ t m:=by
 intro s as st f i fl ρ' st' hv
 rw [h] at hv;exact (YC hv).elim
theorem ET:∀ (l:List IA),(∀ s∈l,IW B prog w Γ n s)->SR B prog w Γ n l
 | [],_=>fun A F env ρ hA=>Fo
 | a::r,h=>fun A F env ρ hA=>Do (h a HA A F env ρ hA) fun ρ' _=>ET r (fun s hs=>h s (NA _ hs)) A F env ρ' hA
theorem sX{A:xA}{F:cA->Prop}{env:Env}{ρ:Fr}{ts:List Expr}{e:Expr}{pos:Pos}(h:∀ st v,w3 st e v ρ ts=none):yC B prog w A F env ρ (exec (.Assign ts e pos) env) (PB Γ (.Assign ts e pos) ρ):=by
 intro s as st f i fl ρ' st' hv
 refine EA hv fun v st1 h1 h2=>?_
 refine EA h2 fun ρ1 st2 h3 h4=>?_
 obtain⟨h5,_⟩:=PE h3
 rw [h] at h5;exact wA h5
theorem tX{A:xA}{F:cA->Prop}{env:Env}{ρ:Fr}{ts:List Expr}{e:Expr}{pos:Pos}(h:evalE Γ e ρ=yA):yC B prog w A F env ρ (exec (.Assign ts e pos) env) (PB Γ (.Assign ts e pos) ρ):=by
 intro s as st f i fl ρ' st' hv
 refine EA hv fun v st1 h1 h2=>?_
 rw [h] at h1;exact (YC h1).elim
theorem Ab{e:Expr}(h:cM e=false):(∃ (c:CK) (gens:List uB) (scope:Scope) (p:Pos),e=c.e gens scope p)\/∀ Γ ρ,evalE Γ e ρ=yA:=by
 refine pE (G:=True) ?_ h
 clear h
 rcases e with ⟨⟩<;>first|exact True.intro|exact .inl ⟨.L _,_,_,_,rfl⟩|exact .inl ⟨.D _ _,_,_,_,rfl⟩|exact .inr fun _ _=>rfl
theorem o7(op:dC)(e:Expr)(ρ:Fr):∀ t:Expr,w5 t=false->ZL t=false->dS Γ op e ρ t=yA:=by
 intro t
 rcases t with ⟨⟩<;>first|exact fun _ _=>(Eq.refl yA:(yA:mA (Fl×Fr))=yA)|exact fun h=>VB h.symm|exact fun _ h=>VB h.symm
theorem m7{t e:Expr}{op:dC}{pos:Pos}{ρ:Fr}:(∃ o j p,t = .Subscript o j p)\/(∃ x p,t = .Name x p)\/PB Γ (.AugAssign t op e pos) ρ=yA:=by
 rcases dI (b:=w5 t) (G:=∃ o j p,t = .Subscript o j p) (by rcases t with ⟨⟩<;>first|exact True.intro|exact⟨_,_,_,rfl⟩) with h|h
 ·exact .inl h
 ·rcases dI (b:=ZL t) (G:=∃ x p,t = .Name x p) (by clear h;rcases t with ⟨⟩<;>first|exact True.intro|exact⟨_,_,rfl⟩) with h'|h'
  ·exact .inr (.inl h')
  ·exact .inr (.inr (o7 (Γ:=Γ) op e ρ t h h'))
theorem tV(C:WE B prog w Γ n)(hc:pL Γ):∀ (m:Nat) (s:IA),sizeOf s<m->IW B prog w Γ n s
 | 0,s,h=>absurd h (BR _)
 | m+1,s,h=>by
  have ih:=tV C hc m
  have ihl:∀ l:List IA,sizeOf l<=m->SR B prog w Γ n l:=fun l hs=>ET l fun s hs'=>ih s (cC (MH hs') hs)
  have ex:∀ e:Expr,HE B prog w Γ n e:=fun e=>(vN C hc _ e (jD _)).1
  have tx:∀ e:Expr,MJ B prog w Γ n e:=fun e=>(vN C hc _ e (jD _)).2
  cases s with
  | Expr e pos=>exact fun A F env ρ hA=>ko fun _=>ex e A F env ρ hA
  | Return v pos =>
   rcases v with _|e
   ·exact fun A F env ρ hA=>sP rfl
   ·exact fun A F env ρ hA=>xo (ex e A F env ρ hA)
  | Assign ts e pos =>
   rcases ts with _|⟨t,r⟩
   ·exact fun A F env ρ hA=>sX fun _ _=>rfl
   ·rcases r with _|⟨_,_⟩
    ·intro A F env ρ hA
     rcases hn:cM e with _|_
     ·rcases Ab hn with ⟨c,gens,scope,p,rfl⟩|hb
      ·rcases gens with _|⟨g,gs⟩
       ·exact tX (CK.evalE.trans (if_neg (by rw [List.isEmpty_nil,XO,CJ];decide)))
       ·obtain⟨t',it,ifs,as₀⟩:=g
        obtain⟨h1,h2,h3⟩:=oY (c:=c) (t:=t') (it:=it) (ifs:=ifs) (as₀:=as₀) (gs:=gs) (scope:=scope) (pos:=p) C hA (show cP B prog w Γ n c by rcases c with ⟨⟩;exact ex _;exact⟨ex _,ex _⟩) fun g _=>⟨ex g.iter,fun _ _ _ _ _ e _=>ex e,fun e _=>tx e⟩
        exact Un C.dk hA.hh (h1 F env ρ) h2 h3
      ·exact tX (hb Γ ρ)
     ·exact Y2 hA.hh (aR hn _ _ _) (ex e A F env ρ hA)
    ·exact fun A F env ρ hA=>sX fun _ _=>rfl
  | AugAssign t op e pos =>
   intro A F env ρ hA
   rcases m7 (Γ:=Γ) (t:=t) (e:=e) (op:=op) (pos:=pos) (ρ:=ρ) with ⟨o,j,p,rfl⟩|⟨x,p,rfl⟩|hb
   ·exact Xn C.dk (ex _ A F env ρ hA) (ex _ A F env ρ hA) (ex e A F env ρ hA)
   ·exact Wn C.glob (ex e A F env ρ hA)
   ·exact sP hb
  | If t body orelse pos =>
   simp at h
   exact fun A F env ρ hA=>po (tx t A F env ρ hA) (ihl body (dG (uD (LK (sA _)) h)) A F env ρ hA) (ihl orelse (dG (uD (wI (sA _)) h)) A F env ρ hA)
  | For t it body orelse pos =>
   simp at h
   rcases orelse with _|⟨a,b⟩
   ·exact fun A F env ρ hA=>oo hA.hh (JU C hA (ex it A F env ρ hA) fun _ _ _ _ _ e _=>ex e A F env ρ hA) fun L ρ' _=>ihl body (dG (uD (WH _ (wI (sA _))) h)) A (Fu F L) env ρ' hA
   ·exact fun A F env ρ hA=>sP (if_neg (by rw [List.isEmpty_cons,CJ];decide))
  | _=>exact fun A F env ρ hA=>sP rfl
theorem r9(C:WE B prog w Γ n)(hc:pL Γ)(l:List IA):SR B prog w Γ n l:=ET l fun s _=>tV C hc _ s (jD _)
end Ev
end
section
namespace Ev
theorem vc(l:cA)(items:Array dA)(n:Nat)(b:cA)(items2:Array dA)(n2:Nat)(sl sl2:Array (Option dA))(hc0:¬(!items.isEmpty&&Builtin.List.listTooLong (items.size+items2.size))=true)(hc1:items.size<=sizeLine)(hs2:items.size+items2.size<=sizeLine+1) :
  Meets (Builtin.«list.extend» ⟨[.ref l,.ref b],[]⟩) (fun _ R s=>s.heap.get? l=some { cls:=.type "list",dict:=none,data:=.seq items n,slots:=sl }/\s.heap.get? b=some { cls:=.type "list",dict:=none,data:=.seq items2 n2,slots:=sl2 }/\R (.ok (.ret dA.none)) { s with heap:=s.heap.update l (Obj.mapSeq fun x=>x++items2),toks:=s.toks }) :=
 .of_wp fun prog w A R s h=>by
  obtain⟨hp,g,d,tk,os⟩:=s;obtain⟨hl,hb,h⟩:=h;have f1:=AutoSeq1.idx_int;have f2:=AutoSeq1.sub_tuple_tuple;have f3:=AutoSeq1.sub_list_list;have f4:=AutoSeq1.sub_tuple_list;have f5:=AutoSeq1.sub_list_tuple
  have hz':(items++items2).size<=sizeLine+1:=by rw [Array.size_append];exact hs2
  wp_walk using (wpAny_updateSeq hl rfl (hz:=hc1) (_hz':=hz')),wpAny_loadPart' hl,wpAny_loadPart' hb;exact⟨_,rfl,h⟩
variable{prog:pA}{w:eA}{A:xA}{E:dA->iA->Prop}{s:iA}
theorem zc{l b:cA}{its its2:Array dA}{Q:dA->iA->Prop}(hl:jG s.heap l its)(hb:jG s.heap b its2)(hQ:∀ h',jG h' l (its++its2)->SM l s.heap h'->Q .none { s with heap:=h' })
  (hsz:its.size+its2.size<=sizeLine):oA (model prog w) A (call (.builtin "list.extend") [.ref l,.ref b]) Q E s:=by
 obtain⟨⟨c,d,dt,sl⟩,n,ho,hc,hdn,hd⟩:=id hl
 obtain⟨⟨c2,d2,dt2,sl2⟩,n2,ho2,hc2,hdn2,hd2⟩:=id hb
 simp only at hc hdn hd hc2 hdn2 hd2
 subst hc hdn hd hc2 hdn2 hd2
 obtain⟨n',hd'⟩:=Obj.data_mapSeq (o:={ cls:=.type "list",dict:=none,data:=.seq its n,slots:=sl }) rfl (· ++ its2)
 exact call_meets PySem.F.slot_list_extend hl.isList.typeIs PySem.F.entry_list_extend (PySem.F.args_list_extend_2 _ _) (vc l its n b its2 n2 sl sl2 (extend_door hsz) (jA (BB _ _) hsz) (eE hsz))
  ⟨ho,ho2,hQ _ ⟨_,n',Heap.get?_update_self _ ho (Obj.isFreed_of_seq hd'),Obj.cls_mapSeq ..,rfl,hd'⟩ (SM.update ..)⟩
theorem SZ(x:Int):∀ l:List Int,(lI x l).Perm (x::l):=by
 intro l
 induction l with
 | nil=>exact .refl _
 | cons y r ih =>
  show (if x<y then x::y::r else y::lI x r).Perm _
  by_cases q:x<y
  ·rw [if_pos q]
  ·rw [if_neg q];exact (ih.cons y).trans (.swap x y r)
theorem Xf(x:Int):∀ l:List Int,l.Pairwise (· <= ·)->(lI x l).Pairwise (· <= ·):=by
 intro l
 induction l with
 | nil=>exact fun _=>.cons (fun _ h=>by cases h) .nil
 | cons y r ih =>
  intro h
  show List.Pairwise (· <= ·) (if x<y then x::y::r else y::lI x r)
  cases h with|cons h1 h2=>?_
  by_cases q:x<y
  ·rw [if_pos q]
   exact .cons (fun z hz=>(bB.mp hz).elim (fun e=>e▸vH q) fun hz=>rF (vH q) (h1 z hz)) (.cons h1 h2)
  ·rw [if_neg q]
   exact .cons (fun z hz=>(bB.mp ((SZ x r).mem_iff.mp hz)).elim (fun e=>e▸pF.mp q) fun hz=>h1 z hz) (ih h2)
theorem Nq:∀ (l a:List Int),a.Pairwise (· <= ·)->(l.foldl (fun a x=>lI x a) a).Pairwise (· <= ·)/\(l.foldl (fun a x=>lI x a) a).Perm (l++a):=by
 intro l
 induction l with
 | nil=>exact fun a h=>⟨h,.refl _⟩
 | cons x r ih =>
  intro a h
  obtain⟨i1,i2⟩:=ih (lI x a) (Xf x a h)
  exact⟨i1,i2.trans (((SZ x a).append_left r).trans List.perm_middle)⟩
theorem Mq{l m:List Int}(hp:m.Perm l)(hs:m.Pairwise (· <= ·)):m=CI l:=by
 obtain⟨i1,i2⟩:=Nq l [] .nil
 rw [bC] at i2
 exact List.Perm.eq_of_pairwise (fun a b _ _=>DR) hs i1 (hp.trans i2.symm)
theorem iT:∀ arr:List (Int×Tok),IntsAre (arr.map fun p=>dA.int p.1 p.2) (arr.map (·.1))
 | []=>.nil
 | (x,t)::r=>.cons x t (iT r)
theorem jT{B:CA}{h:Heap}{as:List cA}{F:cA->Prop}:∀ {vs:List dA}{ns:List Int},IntsAre vs ns->vA B h as F (ns.map V.int) vs
 | _,_,.nil=>.nil
 | _,_,.cons n t r=>.cons (.int n t) (jT r)
end Ev
end
section
namespace Ev
variable{B:CA}{prog:pA}{w:eA}{A:xA}{F:cA->Prop}{s:iA}{as:List cA}{st:St}{Γ:Ctx}
theorem xM{h:Heap}{v:V}{xs:List dA}(r:vA B h as F [v] xs):∃ x,xs=[x]/\kA B h as F v x:=by obtain⟨x,ys,rfl,a,b⟩:=zM r;obtain rfl:=AM b;exact⟨_,rfl,a⟩
theorem yM{h:Heap}{v u:V}{xs:List dA}(r:vA B h as F [v,u] xs):∃ x y,xs=[x,y]/\kA B h as F v x/\kA B h as F u y:=by
 obtain⟨x,ys,rfl,a,b⟩:=zM r;obtain⟨y,rfl,hy⟩:=xM b;exact⟨_,_,rfl,a,hy⟩
theorem eQ{h:Heap}{vs:List V}{xs:List dA}{ns:List Int}(r:vA B h as F vs xs)(e:zF vs=some ns):∃ arr:List (Int×Tok),xs=arr.map (fun p=>.int p.1 p.2)/\ns=arr.map (·.1):=by
 refine r.ind (P:=fun vs xs=>∀ ns,zF vs=some ns->∃ arr:List (Int×Tok),xs=arr.map (fun p=>.int p.1 p.2)/\ns=arr.map (·.1)) (fun ns e=>⟨[],rfl,(qC e).symm⟩) (fun a _ ih ns e=>?_) ns e
 refine WB e fun i h1 h2=>?_
 obtain⟨ms,h3,rfl⟩:=MC.mp h2
 obtain⟨arr,rfl,rfl⟩:=ih ms h3
 obtain rfl:=xE h1
 obtain⟨t,rfl⟩:=DC a
 exact⟨(i,t)::arr,rfl,rfl⟩
theorem u5{h:Heap}{vs:List V}{xs:List dA}{ns:List (List Nat)}(r:vA B h as F vs xs)(e:DG vs=some ns):∃ arr:List (Str×Tok),xs=strValues arr/\ns.map S=arr.map (·.1):=by
 refine r.ind (P:=fun vs xs=>∀ ns,DG vs=some ns->∃ arr:List (Str×Tok),xs=strValues arr/\ns.map S=arr.map (·.1)) (fun ns e=>⟨[],rfl,by rw [<-qC e];rfl⟩) (fun a _ ih ns e=>?_) ns e
 refine WB e fun l h1 h2=>?_
 obtain⟨ms,h3,rfl⟩:=MC.mp h2
 obtain⟨arr,rfl,e2⟩:=ih ms h3
 obtain rfl:=bG h1
 obtain⟨t,rfl,_⟩:=pC a
 exact⟨(S l,t)::arr,rfl,congrArg (S l :: ·) e2⟩
theorem kZ:∀ (r:List Int) (a:Int),(r.foldl (fun a b=>if a<b then b else a) a∈a::r)/\∀ x∈a::r,x<=r.foldl (fun a b=>if a<b then b else a) a
 | [],a=>⟨by simp,fun x hx=>by simp at hx;subst hx;exact Int.le_refl _⟩
 | b::r,a=>by
  obtain⟨h1,h2⟩:=kZ r (if a<b then b else a)
  simp only [YO]
  refine⟨?_,fun x hx=>?_⟩
  ·rcases bB.mp h1 with q|q
   ·rw [q];split<;>simp
   ·exact NA _ (NA _ q)
  ·have h3:=h2 _ HA
   rcases bB.mp hx with rfl|hx
   ·exact rF kg h3
   ·rcases bB.mp hx with rfl|hx
    ·exact rF lg h3
    ·exact h2 _ (NA _ hx)
abbrev aC(B:CA)(prog:pA)(w:eA)(A:xA)(F:cA->Prop)(t:Sem dA)(m:mA V)(s:iA)(as:List cA)(st:St):Prop:=vF B prog w A F no (RV B F) t m s as st
theorem rH{c:Prop}[Decidable c]{t:Sem dA}{x y:mA V}(h1:c->aC B prog w A F t x s as st)(h2:¬ c->aC B prog w A F t y s as st):aC B prog w A F t (if c then x else y) s as st:=by
 by_cases q:c
 ·rw [if_pos q];exact h1 q
 ·rw [if_neg q];exact h2 q
theorem iI{v v':V}{st st':St}(i:Inv B s.heap as F st)(hv:(pure v:mA V) st=some (v',st')){Q:dA->iA->Prop}
  (hQ:∀ x h' as' tk,RV B F h' as' v' x->Inv B h' as' F st'->qA no s.heap as h' as'->s.toks<=tk->Q x { s with heap:=h',toks:=tk }) :
  ∀ x tk,kA B s.heap as F v x->s.toks<=tk->Q x { s with heap:=s.heap,toks:=tk }:=by
 obtain⟨rfl,rfl⟩:=eB hv
 exact fun x tk r ht=>hQ x s.heap as tk r i (qA.refl _ _ _) ht
theorem PP{v v':V}{st st':St}(i:Inv B s.heap as F st)(hv:(pure v:mA V) st=some (v',st')){Q:dA->iA->Prop}
  (hQ:∀ x h' as' tk,RV B F h' as' v' x->Inv B h' as' F st'->qA no s.heap as h' as'->s.toks<=tk->Q x { s with heap:=h',toks:=tk }) :
  ∀ x h' tk,kA B h' as F v x->(∀ a o,s.heap.get? a=some o->h'.get? a=some o)->s.toks<=tk->Q x { s with heap:=h',toks:=tk }:=by
 obtain⟨rfl,rfl⟩:=eB hv
 exact fun x h' tk r hk ht=>hQ x h' as tk r (i.keeps hk) (qA.keeps hk) ht
theorem ng{α:Type}{c:Prop}[Decidable c]{x y:mA α}{st:St}{r:α×St}(h:(if c then x else y) st=some r):(c/\x st=some r)\/y st=some r:=by
 by_cases q:c
 ·exact .inl ⟨q,(congrFun (if_pos q) st).symm.trans h⟩
 ·exact .inr ((congrFun (if_neg q) st).symm.trans h)
theorem AN{α β:Type}{o:Option α}{f:α->mA β}{st:St}{r:β×St}(h:(gt o>>=f) st=some r):∃ a,o=some a/\f a st=some r:=by
 rcases o with _|a
 ·cases h
 ·exact⟨a,rfl,h⟩
theorem Ap{α β:Type}{g:St->Option α}{f:α->mA β}{st:St}{r:β×St}(h:(rd g>>=f) st=some r):∃ a,g st=some a/\f a st=some r:=by
 obtain⟨a,st1,h1,h2⟩:=FM (st':=r.2) (v:=r.1) h
 obtain⟨h3,rfl⟩:=PE h1
 exact⟨a,h3,h2⟩
theorem cS{f:V->mA V}{g:V->V->mA V}{vs:List V}{st:St}{r:V×St}(h:lC f g vs st=some r):(∃ a,vs=[a]/\f a st=some r)\/(∃ a b,vs=[a,b]/\g a b st=some r):=by
 rcases vs with _|⟨a,t⟩
 ·cases h
 ·cases t with
  | nil=>exact .inl ⟨a,rfl,h⟩
  | cons b t=>cases t with
   | nil=>exact .inr ⟨a,b,rfl,h⟩
   | cons _ _=>exact wA h
theorem UG{f:V->mA V}{vs:List V}{st:St}{r:V×St}{B:CA}{h:Heap}{as:List cA}{F:cA->Prop}{xs:List dA}(hv:lC f QC vs st=some r)(rs:vA B h as F vs xs):∃ a x,xs=[x]/\kA B h as F a x/\f a st=some r:=by
 rcases cS hv with ⟨a,rfl,h⟩|⟨a,b,rfl,h⟩
 ·obtain⟨x,rfl,hx⟩:=xM rs
  exact⟨a,x,rfl,hx,h⟩
 ·cases h
theorem UZ{f:Int->Int->V}{a b:V}{st:St}{r:V×St}(h:FN f a b st=some r):∃ i j,a = .int i/\b = .int j/\r=(f i j,st):=by
 obtain⟨v,st'⟩:=r
 obtain⟨h1,rfl⟩:=cF h
 refine WB h1 fun i h2 h3=>?_
 obtain⟨j,h4,h5⟩:=MC.mp h3
 exact⟨i,j,xE h2,xE h4,by rw [h5]⟩
theorem T0{v:V}{l:List Int}(h:LL v=some l):∃ vs,v = .lst vs/\zF vs=some l:=by
 refine WB h fun vs h1 h2=>?_
 exact⟨vs,MN h1,h2⟩
abbrev QV(B:CA)(F:cA->Prop)(s:iA)(as:List cA)(v:V)(st':St)(Q:dA->iA->Prop):Prop:=∀ x h' as' tk,RV B F h' as' v x->Inv B h' as' F st'->qA no s.heap as h' as'->s.toks<=tk->Q x { s with heap:=h',toks:=tk }
theorem Ea{a:V}{x:dA}(i:Inv B s.heap as F st)(r:kA B s.heap as F a x):aC B prog w A F (call (.builtin "chr") [x] []) (eY a) s as st:=by
 intro v st' hv Q E hQ
 refine rE hv fun k h1 h2=>?_
 obtain rfl:=xE h1
 obtain⟨t,rfl⟩:=DC r
 refine iC h2 fun hc hv=>?_
 exact chr_of_range hc.1 (Int.le_of_lt_add_one hc.2) (iI i hv hQ _ _ (.str [k.toNat] _ fun c hc'=>by rw [BA.mp hc'];exact (FG hc.1).mpr hc.2) (CB _))
theorem Jo(st:St):∀ a:V,(NU a st).elim True fun _=>∃ l,a = .str l:=by
 intro a
 rcases a with ⟨⟩<;>first|exact True.intro|exact zB ⟨_,rfl⟩
theorem Ko{a:V}{x:dA}(i:Inv B s.heap as F st)(r:kA B s.heap as F a x):aC B prog w A F (call (.builtin "ord") [x] []) (NU a) s as st:=by
 intro v st' hv Q E hQ
 obtain⟨l,rfl⟩:=AC (Jo st a) hv
 obtain⟨t,rfl,_⟩:=pC r
 rcases l with _|⟨c,l⟩
 ·exact (YC (st:=st) hv).elim
 ·cases l with
  | cons _ _=>exact (YC (st:=st) hv).elim
  | nil=>exact P.ord_of_char (iI i hv hQ _ _ (.int _ _) (CB _))
theorem gi(st:St):∀ a:V,(NE a st).elim True fun _=>(∃ l,a = .str l)\/(∃ vs,a = .lst vs)\/∃ j,a = .ref j:=by
 intro a
 rcases a with ⟨⟩<;>first|exact True.intro|exact zB (.inl ⟨_,rfl⟩)|exact zB (.inr (.inl ⟨_,rfl⟩))|exact zB (.inr (.inr ⟨_,rfl⟩))
theorem ii{a:V}{x:dA}(i:Inv B s.heap as F st)(r:kA B s.heap as F a x):aC B prog w A F (call (.builtin "len") [x] []) (NE a) s as st:=by
 intro v st' hv Q E hQ
 rcases AC (gi st a) hv with ⟨_,rfl⟩|⟨us,rfl⟩|⟨j,rfl⟩
 ·obtain⟨t,rfl,_⟩:=pC r
  refine iC (st:=st) hv fun hc hv=>?_
  refine P.len_str (by rw [gH];exact fL.mpr (CL hc)) ?_
  rw [gH]
  exact iI i hv hQ _ _ (.int _ _) (eE (CB _))
 ·obtain⟨ys,ad,rfl,hl,_,_,rr⟩:=aG r
  refine iC (st:=st) hv fun hc hv=>?_
  have e:(ys.toArray.size:Int)=us.length:=by rw [WG,<- rr.length]
  refine call_len_list hl.isList (by rw [e];exact CL hc) ?_
  rw [e]
  exact iI i hv hQ _ _ (.int _ _) (eE (CB _))
 ·obtain⟨ad,rfl,e0⟩:=AG r
  refine MK hv fun p h1 hv1=>?_
  cases p with|list us=>?_
  refine iC (st:=st) hv1 fun hc hv=>?_
  obtain⟨ys,hl,rr,_⟩:=(i.at_ j ad _ e0 h1).out
  have e:(ys.toArray.size:Int)=us.length:=by rw [WG,<- rr.length]
  refine call_len_list hl.isList (by rw [e];exact CL hc) ?_
  rw [e]
  exact iI i hv hQ _ _ (.int _ _) (eE (CB _))
theorem Oq{a:V}{x:dA}(i:Inv B s.heap as F st)(r:kA B s.heap as F a x):aC B prog w A F (call (.builtin "sorted") [x] []) (T4 a) s as st:=by
 intro v st' hv Q E hQ
 refine rE hv fun ns h1 h2=>?_
 refine WB h1 fun us h3 h4=>?_
 obtain rfl:=MN h3
 refine iC h2 fun hc hv=>?_
 obtain⟨rfl,rfl⟩:=eB hv
 obtain⟨ys,ad,rfl,hl,_,_,rr⟩:=aG r
 obtain⟨arr,rfl,rfl⟩:=eQ rr h4
 refine sorted_ints hl.isList (iT arr) (by simpa using hc) fun out ns' a1 a2 a3=>?_
 obtain rfl:=Mq a2 a3
 obtain⟨c,hc'⟩:=sortedAll_at s.heap (arr.map fun p=>dA.int p.1 p.2) out
 have h0:s.heap.get? (s.heap.objs.size+1)=none:=by
  rcases q:s.heap.get? (s.heap.objs.size+1) with _|o
  ·rfl
  ·exact absurd (JF q) (CE.mpr (CB _))
 have f:=i.fresh h0
 exact hQ _ _ as s.toks (.lst (xs:=out.toList) ⟨_,c,hc',rfl,rfl,rfl⟩ f.1 f.2 (jT a1)) (i.keeps fun _ _=>sortedAll_old) (qA.keeps fun _ _=>sortedAll_old) (sA _)
theorem xj{n:Nat}(hA:mB A n){us:List V}{x:dA}{ns:List Int}(hn:zF us=some ns)(i:Inv B s.heap as F st)(r:kA B s.heap as F (.lst us) x):aC B prog w A F (call (.builtin "max") [x] []) (BQ ns) s as st:=by
 intro v st' hv1 Q E hQ
 obtain⟨ys,ad,rfl,hl,_,_,rr⟩:=aG r
 replace hl:=hl.isList
 obtain⟨arr,rfl,rfl⟩:=eQ rr hn
 rcases arr with _|⟨p,r⟩
 ·exact (YC (st:=st) hv1).elim
 ·have JC:((p::r).map (fun p=>dA.int p.1 p.2)).toArray=intItems (p::r).toArray:=by simp [intItems]
  rw [JC] at hl
  refine QE (n:=s.toks) (sA _) (max_intList hA.hh hl (by simp) fun v' h' tk hx hk htk=>?_)
  obtain⟨t,rfl⟩:=intItems_at hx
  obtain⟨g1,g2⟩:=argBest_gt (numAt (p::r).toArray) ((p::r).toArray.size - 1)
  obtain⟨m1,m2⟩:=kZ (r.map (·.1)) p.1
  have hsz:(p::r).toArray.size=r.length+1:=by simp
  have memM:numAt (p::r).toArray (argBest (fun i j=>decide (numAt (p::r).toArray i > numAt (p::r).toArray j)) ((p::r).toArray.size - 1))∈p.1::r.map (·.1):=by
   rw [numAt_eq];exact getD_mem (l:=p.1::r.map (·.1)) (by simp only [BD,AA];exact LI g1)
  have top:∀ a∈p.1::r.map (·.1),a<=numAt (p::r).toArray (argBest (fun i j=>decide (numAt (p::r).toArray i > numAt (p::r).toArray j)) ((p::r).toArray.size - 1)):=fun a ha=>by
   obtain⟨j,hj,e⟩:=mem_getD ha
   have:=g2 j (by simp at hj ⊢;first|exact hj|exact dG hj)
   rw [numAt_eq] at this
   simp only [sB] at this
   rw [e] at this
   exact this
  have e:=DR (top _ m1) (m2 _ memM)
  refine PP i hv1 hQ _ h' tk ?_ hk htk
  simp only [sB] at *
  rw [<-e];exact .int _ _
theorem Dr{n:Nat}(hA:mB A n){us:List V}{x:dA}{ns:List Int}(hn:zF us=some ns)(hc:ns.length<=cap/\ns.all (fun i=>decide (-1000000<=i/\i<=1000000))=true)(i:Inv B s.heap as F st)(r:kA B s.heap as F (.lst us) x):aC B prog w A F (call (.builtin "sum") [x] []) (pure (.int ns.sum)) s as st:=by
 intro v st' hv1 Q E hQ
 obtain⟨ys,ad,rfl,hl,_,_,rr⟩:=aG r
 replace hl:=hl.isList
 obtain⟨arr,rfl,rfl⟩:=eQ rr hn
 have JC:(arr.map (fun p=>dA.int p.1 p.2)).toArray=intItems arr.toArray:=by simp [intItems]
 rw [JC] at hl
 have bound:∀ j,j<arr.length -> -1000000<=(arr.map (·.1)).getD j 0/\(arr.map (·.1)).getD j 0<=1000000:=fun j hj=>by
  have:=YA.mp hc.2 _ (getD_mem (l:=arr.map (·.1)) (by simpa using hj))
  simpa using this
 have psum:∀ j,j<=arr.length -> -(1000000*(j:Int))<=preSum (numAt arr.toArray) j/\preSum (numAt arr.toArray) j<=1000000*(j:Int):=by
  intro j
  induction j with
  | zero=>intro _;simp [preSum]
  | succ j ih =>
   intro hj
   obtain⟨a1,a2⟩:=ih (HG hj)
   obtain⟨b1,b2⟩:=bound j hj
   simp only [preSum]
   rw [numAt_eq]
   simp only [ZV] at *
   push_cast
   exact⟨by rw [Int.mul_add,Int.neg_add];exact Int.add_le_add a1 b1,by rw [Int.mul_add];exact Int.add_le_add a2 b2⟩
 have hlen:arr.length<=65536:=by have:=hc.1;simpa [cap] using this
 refine QE (n:=s.toks) (sA _) (sum_intList hA.hh hl (fun j hj=>?_) fun h' tk t' hk htk=>?_)
 ·simp at hj
  obtain⟨b1,b2⟩:=bound j hj
  obtain⟨c1,c2⟩:=psum (j+1) hj
  refine⟨?_,?_⟩
  ·rw [numAt_eq];simp only [ZV];exact gT (rF (by decide) b1) (rF b2 (by decide))
  ·have h5:(1000000:Int)*((j+1:Nat):Int)<=65536000000:=rF (Int.mul_le_mul_of_nonneg_left (CD.mpr (jA hj hlen)) (by decide)) (show (1000000:Int)*((65536:Nat):Int)<=65536000000 by decide)
   exact gT (rF (Int.neg_le_neg h5) c1) (rF c2 h5)
 ·refine PP i hv1 hQ _ h' tk ?_ hk htk
  rw [preSum_eq]
  have:((arr.toArray.toList.map (·.1)).take arr.toArray.size)=arr.map (·.1):=by rw [List.take_of_length_le (by simp)]
  rw [this]
  exact .int _ _
theorem iV{t:List dA->Sem dA}{f:V->mA V}{g:V->V->mA V}{vs:List V}{xs:List dA}(rs:vA B s.heap as F vs xs)(h1:∀ a x,kA B s.heap as F a x->aC B prog w A F (t [x]) (f a) s as st)
  (h2:∀ a b x y,kA B s.heap as F a x->kA B s.heap as F b y->aC B prog w A F (t [x,y]) (g a b) s as st):aC B prog w A F (t xs) (lC f g vs) s as st:=by
 intro v st' hv
 rcases cS hv with ⟨a,rfl,h⟩|⟨a,b,rfl,h⟩
 ·obtain⟨x,rfl,r⟩:=xM rs
  exact h1 a x r v st' h
 ·obtain⟨x,y,rfl,r1,r2⟩:=yM rs
  exact h2 a b x y r1 r2 v st' h
theorem jV{t:Sem dA}:aC B prog w A F t yA s as st:=fun v st' hv=>(YC hv).elim
theorem AO{t:List dA->Sem dA}{f:V->mA V}{vs:List V}{xs:List dA}(rs:vA B s.heap as F vs xs)(h:∀ a x,kA B s.heap as F a x->aC B prog w A F (t [x]) (f a) s as st):aC B prog w A F (t xs) (lC f QC vs) s as st:=iV rs h fun _ _ _ _ _ _=>jV
theorem Kj{n:Nat}(hA:mB A n){a b:V}{x y:dA}(i:Inv B s.heap as F st)(r1:kA B s.heap as F a x)(r2:kA B s.heap as F b y):aC B prog w A F (call (.builtin "min") [x,y] []) (FN (fun a b=>.int (if b<a then b else a)) a b) s as st:=by
 intro v st' h Q E hQ
 obtain⟨k,l,rfl,rfl,e⟩:=UZ h
 cases e
 obtain⟨t,rfl⟩:=DC r1
 obtain⟨u,rfl⟩:=DC r2
 refine QE (n:=s.toks) (sA _) (min_two_ints hA.hh fun h' tk hk htk=>?_)
 refine PP i (show (pure _:mA V) _=_ from rfl) hQ _ h' tk ?_ hk htk
 split<;>exact .int _ _
theorem uj{n:Nat}(hA:mB A n){a b:V}{x y:dA}(i:Inv B s.heap as F st)(r1:kA B s.heap as F a x)(r2:kA B s.heap as F b y):aC B prog w A F (call (.builtin "max") [x,y] []) (FN (fun a b=>.int (if a<b then b else a)) a b) s as st:=by
 intro v st' h Q E hQ
 obtain⟨k,l,rfl,rfl,e⟩:=UZ h
 cases e
 obtain⟨t,rfl⟩:=DC r1
 obtain⟨u,rfl⟩:=DC r2
 refine QE (n:=s.toks) (sA _) (max_two_ints hA.hh fun h' tk hk htk=>?_)
 refine PP i (show (pure _:mA V) _=_ from rfl) hQ _ h' tk ?_ hk htk
 by_cases q:k<l
 ·rw [if_pos q,if_pos q];exact .int _ _
 ·rw [if_neg q,if_neg q];exact .int _ _
theorem tj{n:Nat}(hA:mB A n){a:V}{x:dA}(i:Inv B s.heap as F st)(r:kA B s.heap as F a x):aC B prog w A F (call (.builtin "max") [x] []) (gt (LL a)>>=BQ) s as st:=by
 intro v st' hv
 refine rE hv fun ns h1 h2=>?_
 obtain⟨us,rfl,h3⟩:=T0 h1
 exact xj hA h3 i r v st' h2
theorem Cr{n:Nat}(hA:mB A n){a:V}{x:dA}(i:Inv B s.heap as F st)(r:kA B s.heap as F a x):aC B prog w A F (call (.builtin "sum") [x] []) (B5 a) s as st:=by
 intro v st' hv
 refine rE hv fun ns h1 h2=>?_
 obtain⟨us,rfl,h3⟩:=T0 h1
 refine iC h2 fun hc h4=>?_
 exact Dr hA h3 hc i r v st' h4
theorem y9{n:Nat}(hA:mB A n){id:String}{vs:List V}{xs:List dA}(i:Inv B s.heap as F st)(rs:vA B s.heap as F vs xs):aC B prog w A F (call (.builtin id) xs []) (builtin id vs) s as st:=by
 refine rH (fun e=>?_) fun _=>rH (fun e=>?_) fun _=>rH (fun e=>?_) fun _=>rH (fun e=>?_) fun _=>rH (fun e=>?_) fun _=>rH (fun e=>?_) fun _=>rH (fun e=>?_) fun _=>jV
 ·exact e▸AO (t:=fun xs=>call (.builtin "chr") xs []) rs fun a x r=>Ea i r
 ·exact e▸AO (t:=fun xs=>call (.builtin "ord") xs []) rs fun a x r=>Ko i r
 ·exact e▸AO (t:=fun xs=>call (.builtin "len") xs []) rs fun a x r=>ii i r
 ·exact e▸iV (t:=fun xs=>call (.builtin "min") xs []) rs (fun _ _ _=>jV) fun a b x y r1 r2=>Kj hA i r1 r2
 ·exact e▸iV (t:=fun xs=>call (.builtin "max") xs []) rs (fun a x r=>tj hA i r) fun a b x y r1 r2=>uj hA i r1 r2
 ·exact e▸AO (t:=fun xs=>call (.builtin "sum") xs []) rs fun a x r=>Cr hA i r
 ·exact e▸AO (t:=fun xs=>call (.builtin "sorted") xs []) rs fun a x r=>Oq i r
theorem V3{h:Heap}{f:Nat->V}{P:Nat->dA->Prop}:∀ (n k:Nat) (xs:List dA),xs.length=n->(∀ j v,xs[j]? = some v->P (k+j) v)->(∀ j v,P j v->kA B h as F (f j) v)->vA B h as F ((GI k n).map f) xs
 | 0,k,xs,hl,_,_=>by
  have:xs=[]:=nL hl
  subst this;exact .nil
 | n+1,k,[],hl,_,_=>by simp at hl
 | n+1,k,x::xs,hl,hp,hf=>by
  rw [List.range'_succ,sB]
  refine .cons (hf k x (by simpa using hp 0 x rfl)) (V3 n (k+1) xs (by simpa using hl) (fun j v hj=>?_) hf)
  have:=hp (j+1) v (by simpa using hj)
  rwa [show k+1+j=k+(j+1) from RE k 1 j]
theorem tr{a:V}{x:dA}(i:Inv B s.heap as F st)(r:kA B s.heap as F a x):aC B prog w A F (call (.type "str") [x] []) (d5 a) s as st:=by
 intro v st' hv Q E hQ
 refine rE hv fun k h1 h2=>?_
 obtain rfl:=xE h1
 obtain⟨t,rfl⟩:=DC r
 refine iC h2 fun hc h3=>?_
 obtain⟨hv1,rfl⟩:=cF h3
 obtain⟨rfl,h1,_⟩:=gR hv1
 refine PySem.P.str_of_int ?_ ?_
 ·have h2:k.natAbs<2^20:=kD.mp (by rw [Int.natAbs_of_nonneg hc.1];exact bL hc.2 (by decide))
  rcases Nat.eq_zero_or_pos k.natAbs with h0|h0
  ·rw [h0];decide
  ·have:=(Nat.log2_lt (YG h0)).mpr h2
   exact uD this (by decide)
 ·have r2:kA B s.heap as F (.str (cB (toString k))) (.str (S (cB (toString k))) s.toks):=.str _ _ h1
  have e:S (cB (toString k))=nA (toString k):=rL _
  rw [e] at r2
  exact hQ _ s.heap as _ r2 i (qA.refl _ _ _) (CB _)
theorem Rp{a b:Int}{x:dA}{n:Nat}(hA:mB A n)(i:Inv B s.heap as F st)(r:kA B s.heap as F (.rng a b) x):aC B prog w A F (call (.type "list") [x] []) (uQ (.rng a b)) s as st:=by
 intro v st' hv Q E hQ
 refine MK hv fun ys h1' h2=>?_
 obtain⟨rfl,rfl⟩:=eB h2
 refine VF h1' fun hc h3=>?_
 obtain rfl:=Option.some.inj h3
 obtain⟨r0,t,u,w0,rfl,hr,ha,hF⟩:=S3 r
 obtain⟨hz,hsm⟩:=S4 hc
 refine QE (n:=s.toks) (sA _) (call_list_range hA.hh hr hsm hz (CY hc) fun h' tk acc c hk ho JC htk=>?_)
 have f:=i.fresh (RC s.heap)
 refine hQ _ h' as tk (.lst (xs:=acc.toList) ⟨_,c,ho,rfl,rfl,rfl⟩ f.1 f.2 ?_) (i.keeps hk) (qA.keeps hk) htk
 have hl:acc.toList.length=(b - a).toNat:=by simpa using JC.1
 have:=V3 (B:=B) (h:=h') (as:=as) (F:=F) (f:=fun (j:Nat)=>V.int (a+j)) (P:=fun j v=>∃ t,v=dA.int (a+j*1) t) (b - a).toNat 0 acc.toList hl (fun j v hj=>by
  obtain⟨t,e⟩:=JC.2 j v (by simpa using hj)
  exact⟨t,by rw [IF];exact e⟩) fun j v ⟨t,e⟩=>by rw [e,Int.mul_one];exact .int _ _
 rw [sR]
 exact this
theorem ij{l:List Nat}{x:dA}{n:Nat}(hA:mB A n)(i:Inv B s.heap as F st)(r:kA B s.heap as F (.str l) x):aC B prog w A F (call (.type "list") [x] []) (uQ (.str l)) s as st:=by
 intro v st' hv Q E hQ
 refine iC (st:=st) hv fun hc hv=>?_
 obtain⟨rfl,rfl⟩:=eB hv
 obtain⟨t,rfl,hl⟩:=pC r
 have e:(S l).cps.size=l.length:=by simp [S]
 refine QE (n:=s.toks) (sA _) (call_list_str hA.hh (S l) t (fun h' tk acc c hk ho JC htk=>?_) (by rw [e];exact mG hc))
 have f:=i.fresh (RC s.heap)
 have hsz:acc.toList.length=l.length:=by rw [Array.length_toList];exact JC.1.trans e
 refine hQ _ h' as tk (.lst (xs:=acc.toList) ⟨_,c,ho,rfl,rfl,rfl⟩ f.1 f.2 (WU hl l 0 acc.toList (fun j=>by rw [IF]) hsz fun j v hj=>?_)) (i.keeps hk) (qA.keeps hk) htk
 rw [IF]
 exact JC.2 j v (by simpa using hj)
theorem ni(st:St):∀ a:V,(uQ a st).elim True fun _=>(∃ x y,a = .rng x y)\/∃ l,a = .str l:=by
 intro a
 rcases a with ⟨⟩<;>first|exact True.intro|exact zB (.inl ⟨_,_,rfl⟩)|exact zB (.inr ⟨_,rfl⟩)
theorem Db{n:Nat}(hA:mB A n){nm:String}{vs:List V}{xs:List dA}(hn:nm ≠ "Headers")(i:Inv B s.heap as F st)(rs:vA B s.heap as F vs xs):aC B prog w A F (call (.type nm) xs []) (IP Γ nm vs) s as st:=by
 refine rH (fun e=>?_) fun _=>?_
 ·subst e
  intro v st' hv Q E hQ
  obtain⟨a,x,rfl,r,h⟩:=UG hv rs
  exact tr i r v st' h Q E hQ
 refine rH (fun e=>?_) fun _=>?_
 ·subst e
  intro v st' hv Q E hQ
  obtain⟨a,x,rfl,r,h⟩:=UG hv rs
  refine rE h fun k h1 h2=>?_
  obtain rfl:=xE h1
  obtain⟨t,rfl⟩:=DC r
  obtain⟨rfl,rfl⟩:=eB h2
  refine call_range_1 ?_
  have f:=i.fresh (RC s.heap)
  exact hQ _ _ as _ (.rng (vD _ rfl) f.1 f.2) (i.push _) (qA.push _ _) (eE (CB _))
 refine rH (fun e=>?_) fun _=>?_
 ·subst e
  intro v st' hv Q E hQ
  obtain⟨a,x,rfl,r,h⟩:=UG hv rs
  rcases AC (ni st a) h with ⟨x,y,rfl⟩|⟨l,rfl⟩
  ·exact Rp hA i r v st' h Q E hQ
  ·exact ij hA i r v st' h Q E hQ
 refine rH (fun e=>?_) fun _=>?_
 ·intro v st' hv Q E hQ
  exact absurd e hn
 exact fun v st' hv Q E hQ=>(YC hv).elim
theorem O4{j:Nat}{vs:List V}{v:V}{st st':St}(h:PH j vs st=some (v,st')):vs.length<=cap/\v = .none/\j<st.length/\st'=st.set j (.list vs):=by
 unfold PH at h
 by_cases hc:vs.length<=cap
 ·rw [if_pos hc] at h
  refine EA h fun u st1 h1 h2=>?_
  obtain⟨h3,rfl⟩:=Q4 h1
  obtain⟨rfl,rfl⟩:=eB h2
  exact⟨hc,rfl,h3,rfl⟩
 ·rw [if_neg hc] at h
  refine EA h fun u st1 h1 h2=>?_
  exact (YC h1).elim
theorem Fq{x:Str}(h:x.cps.toList.length<=cap):Builtin.Str.tooLong x.length=false:=by
 unfold Builtin.Str.tooLong
 have:=mG h
 have e:x.length=x.cps.toList.length:=by simp [Str.length]
 rw [e]
 simpa using this
theorem VR{a b:List Nat}(h:S a=S b):a=b:=by
 have:=congrArg (fun x:Str=>x.cps.toList) h
 simpa [S] using this
theorem s5:∀ arr:List (Str×Tok),StrsAre (strValues arr) (arr.map (·.1))
 | []=>.nil
 | (x,t)::r=>.cons x t (s5 r)
theorem S1{k:List Nat}:∀ {ns:List (List Nat)}{j:Nat},j<ns.idxOf k->∀ (h2:j<ns.length),(ns[j]==k)=false
 | n::r,0,h,_=>by
  by_cases e:n=k
  ·subst e;simp at h
  ·simpa using e
 | n::r,j+1,h,h2=>by
  by_cases e:n=k
  ·subst e;simp at h
  ·have hb:(n==k)=false:=by simpa using e
   have h':j<r.idxOf k:=by
    rw [List.idxOf_cons,hb] at h
    exact Nat.lt_of_succ_lt_succ h
   exact S1 h' (Nat.lt_of_succ_lt_succ h2)
noncomputable def uO(o:V):Bool:=match o with
 | .str _ | .lst _ | .ref _ | .nod=>true
 | _=>false
theorem p5{y:Str}{h:Heap}{t:Tok}(hl:∀ c∈y.cps.toList,c<0x110000):kA B h as F (.str y.cps.toList) (.str y t):=by
 have:kA B h as F (.str y.cps.toList) (.str (S y.cps.toList) t):=.str _ _ hl
 rwa [rL] at this
theorem Z6(st:St)(u:V):∀ o:V,(qP u o st).elim True fun _=>∃ j,o = .ref j:=by
 intro o
 rcases o with ⟨⟩<;>first|exact True.intro|exact zB ⟨_,rfl⟩
theorem a7{o u:V}{ov y:dA}(i:Inv B s.heap as F st)(ro:kA B s.heap as F o ov)(r:kA B s.heap as F u y):aC B prog w A F (call (.builtin "list.append") [ov,y] []) (qP u o) s as st:=by
 intro v st' hv Q E hQ
 obtain⟨j,rfl⟩:=AC (Z6 st u o) hv
 obtain⟨a,rfl,e⟩:=AG ro
 refine MK hv fun p h1' hv1=>?_
 cases p with
 | list ws =>
  obtain⟨hc,rfl,hj,rfl⟩:=O4 hv1
  obtain⟨zs,hp,rs',hcap⟩:=(i.at_ j a _ e h1').out
  refine list_append_plainL hp (fun h' hp' hs'=>?_) (by rw [WG,<- rs'.length];exact mG hcap)
  have hk:∀ a' o,a'≠a->s.heap.get? a'=some o->h'.get? a'=some o:=fun a' o q e=>(hs'.2 a' q).trans e
  refine hQ _ h' as s.toks .none (i.atS e hk (.list (xs:=zs++[y]) (by simpa using hp') ((rs'.atS e hk).app (.cons (r.atS e hk) .nil)) hc)) (qA.atS e hk ?_) (sA _)
  obtain⟨o,_,ho,_⟩:=hp';exact⟨o,ho⟩
theorem wc(st:St)(u:V):∀ o:V,(NP u o st).elim True fun _=>∃ j,o = .ref j:=by
 intro o
 rcases o with ⟨⟩<;>first|exact True.intro|exact zB ⟨_,rfl⟩
theorem yc{o u:V}{ov y:dA}(i:Inv B s.heap as F st)(ro:kA B s.heap as F o ov)(r:kA B s.heap as F u y):aC B prog w A F (call (.builtin "list.extend") [ov,y] []) (NP u o) s as st:=by
 intro v st' hv Q E hQ
 obtain⟨j,rfl⟩:=AC (wc st u o) hv
 obtain⟨a,rfl,e⟩:=AG ro
 refine rE hv fun us hu hv0=>?_
 obtain rfl:=MN hu
 obtain⟨ys,b,rfl,hb,_,_,rr⟩:=aG r
 refine MK hv0 fun p h1' hv1=>?_
 cases p with
 | list ws =>
  obtain⟨hc,rfl,hj,rfl⟩:=O4 hv1
  obtain⟨zs,hp,rs',hcap⟩:=(i.at_ j a _ e h1').out
  refine zc hp hb (fun h' hp' hs'=>?_) (by rw [WG,WG,<- rs'.length,<- rr.length,<- QA];exact mG hc)
  have hk:∀ a' o,a'≠a->s.heap.get? a'=some o->h'.get? a'=some o:=fun a' o q e=>(hs'.2 a' q).trans e
  refine hQ _ h' as s.toks .none (i.atS e hk (.list (xs:=zs++ys) (by simpa using hp') ((rs'.atS e hk).app (rr.atS e hk)) hc)) (qA.atS e hk ?_) (sA _)
  obtain⟨o,_,ho,_⟩:=hp';exact⟨o,ho⟩
theorem Cb{o:V}{k:Int}{ov y:dA}(i:Inv B s.heap as F st)(ro:kA B s.heap as F o ov)(r:kA B s.heap as F (.int k) y):aC B prog w A F (call (.builtin "list.count") [ov,y] []) (yS k o) s as st:=by
 intro v st' hv Q E hQ
 refine rE hv fun ns h1 h2=>?_
 refine WB h1 fun us h3 h4=>?_
 obtain rfl:=MN h3
 refine iC h2 fun hc hv=>?_
 obtain⟨ys,ad,rfl,hl,_,_,rr⟩:=aG ro
 obtain⟨arr,rfl,rfl⟩:=eQ rr h4
 obtain⟨t,rfl⟩:=DC r
 exact count_list_ints hl.isList (iT arr) (iI i hv hQ _ _ (.int _ _) (CB _))
theorem pg(st:St):∀ o:V,(nQ o st).elim True fun _=>o = .nod:=by
 intro o
 rcases o with ⟨⟩<;>first|exact True.intro|exact rfl
theorem rg{o:V}{ov:dA}(i:Inv B s.heap as F st)(ro:kA B s.heap as F o ov):aC B prog w A F (call (.builtin "dict.items") [ov] []) (nQ o) s as st:=by
 intro v st' hv Q E hQ
 obtain rfl:=AC (pg st o) hv
 obtain⟨a,k,rfl,ho,hs,ha,hF⟩:=R3 ro
 obtain⟨rfl,rfl⟩:=eB (st:=st) hv
 have hm:s.heap.DictAt (strKind prog w) a [] k:=⟨_,#[],ho,⟨rfl,rfl,rfl⟩,rfl,fun _ h=>by simp at h,.nil,.nil⟩
 refine call_meetsIn PySem.F.slot_dict_items hm.dictOf.typeIs PySem.F.entry_dict_items (PySem.F.args_dict_items_1 _) (meets_dict_items (strKind prog w) a hs) ⟨⟨[],hm.dictOf⟩,?_⟩
 have f:=i.fresh (RC s.heap)
 have kp:=UC s.heap { cls:=.type "dict_items",data:=.fields #[.ref a] }
 exact hQ _ _ as _ (.noi (vD _ rfl) f.1 f.2 (kp _ _ ho) hs ha hF) (i.push _) (qA.push _ _) (sA _)
theorem Jf{l l2:List Nat}{ov y:dA}(i:Inv B s.heap as F st)(ro:kA B s.heap as F (.str l) ov)(r:kA B s.heap as F (.str l2) y):aC B prog w A F (call (.builtin "str.index") [ov,y] []) (cQ l2 (.str l)) s as st:=by
 intro v st' hv Q E hQ
 obtain⟨t,rfl,_⟩:=pC ro
 obtain⟨u,rfl,_⟩:=pC r
 refine rE hv fun k h1' hv1=>?_
 unfold yF at h1'
 rcases ho:Builtin.Str.occurrences (S l) (S l2) 0 (S l).length 1 with _|⟨a,r⟩
 ·rw [ho] at h1';exact wA h1'
 ·rw [ho] at h1';cases h1'
  exact PySem.SC.index ho (iI i hv1 hQ _ _ (.int _ _) (CB _))
theorem Hf{us:List V}{l2:List Nat}{ov y:dA}(i:Inv B s.heap as F st)(ro:kA B s.heap as F (.lst us) ov)(r:kA B s.heap as F (.str l2) y):aC B prog w A F (call (.builtin "list.index") [ov,y] []) (cQ l2 (.lst us)) s as st:=by
 intro v st' hv Q E hQ
 obtain⟨zs,a,rfl,hl,_,_,rr⟩:=aG ro
 replace hl:=hl.isList
 obtain⟨u,rfl,_⟩:=pC r
 refine rE hv fun ns h1' hv1=>?_
 refine iC hv1 fun hc hv1=>?_
 obtain⟨arr,rfl,e⟩:=u5 rr h1'
 obtain⟨⟨cls,dd,data,sl⟩,ho,hcl,n',hd⟩:=id hl
 simp only at hcl hd
 subst hcl hd
 have hlen:ns.length=arr.length:=by have:=congrArg lL e;simpa using this
 have hus:us.length=arr.length:=by have:=rr.length;simpa [strValues] using this
 have hj:ns.idxOf l2<ns.length:=List.idxOf_lt_length_iff.mpr hc.2
 have hcap:us.length<=65536:=hc.1
 have at_:∀ j (h1:j<(strValues arr).toArray.size) (h2:j<ns.length),isStrOf (S l2) ((strValues arr).toArray[j])=(ns[j]==l2):=fun j h1 h2=>by
  have h3:j<arr.length:=HI h2 hlen
  have e2:S ns[j]=arr[j].1:=by
   have h4:(ns.map S)[j]? = (arr.map (·.1))[j]?:=by rw [e]
   rw [UE,UE,sD h2,sD h3] at h4
   exact Option.some.inj h4
  have e3:(strValues arr).toArray[j] = .str arr[j].1 arr[j].2:=by simp [strValues]
  rw [e3]
  show (arr[j].1==S l2)=_
  rw [<-e2]
  by_cases q:ns[j]=l2
  ·rw [q];simp
  ·have:S ns[j]≠S l2:=fun z=>q (VR z)
   rw [beq_eq_false_iff_ne.mpr this,beq_eq_false_iff_ne.mpr q]
 refine call_meets PySem.F.slot_list_index ⟨_,ho,rfl⟩ PySem.F.entry_list_index (PySem.F.args_list_index_2 _ _)
  (PySem.SeqAt.list_indexAt a (strValues arr).toArray n' dd sl (.str (S l2) u) (isStrOf (S l2)) (ns.idxOf l2) (by simp [strValues];exact HI hj hlen) (kj (jA (kC hj) (jA (FB (hlen.trans hus.symm)) hcap))) ?_ ?_) ⟨ho,fun y hy=>(eq_isStrOf (S l2) u (s5 arr) y (by simpa using hy)).at _ _,iI i hv1 hQ _ _ (.int _ _) (CB _)⟩
 ·rw [at_ _ _ hj];simpa using List.getElem_idxOf hj
 ·intro m hm hlt
  rw [at_ m hm (uD hlt hj)]
  exact S1 hlt _
theorem yg{o u:V}{ov y:dA}(i:Inv B s.heap as F st)(ro:kA B s.heap as F o ov)(r:kA B s.heap as F u y):aC B prog w A F (call (.builtin "str.join") [ov,y] []) (rT u o) s as st:=by
 intro v st' hv Q E hQ
 refine rE hv fun l h1 h2=>?_
 obtain rfl:=bG h1
 obtain⟨t,rfl,_⟩:=pC ro
 refine MK h2 fun ns h3 h4=>?_
 refine WB h3 fun ws hl h5=>?_
 obtain⟨a,zs,rfl,hla,rr⟩:=VL i r hl
 obtain⟨arr,rfl,e⟩:=u5 rr h5
 obtain⟨hv2,rfl⟩:=cF h4
 refine VF hv2 fun hj hv3=>?_
 obtain⟨rfl,h6,_⟩:=gR hv3
 refine QE (n:=s.toks) (sA _) (PySem.SC.join hla e.symm hj fun t' k htk=>?_)
 exact hQ _ s.heap as _ (p5 h6) i (qA.refl _ _ _) htk
theorem lX{f:mA V}{vs:List V}{r:V×St}(h:RI f vs st=some r):vs=[]/\f st=some r:=by
 rcases vs with _|⟨_,_⟩
 ·exact⟨rfl,h⟩
 ·exact wA h
theorem U3{h:Heap}{xs:List dA}(r:vA B h as F [] xs):xs=[]:=AM r
theorem QL{c:Prop}[Decidable c]{a:String}{y:Option String}{id:String}(h:(if c then some a else y)=some id):(c/\a=id)\/y=some id:=by
 by_cases q:c
 ·exact .inl ⟨q,Option.some.inj ((if_pos q).symm.trans h)⟩
 ·exact .inr ((if_neg q).symm.trans h)
theorem CN{b:Bool}{G:Prop}(h:G):cond b True G:=by
 rcases b with ⟨⟩
 ·exact h
 ·exact True.intro
theorem zf(x:Str):∀ o:V,cond (KC o x).isNone True (uO o=true->(∃ l,o = .str l)\/(∃ l,o = .lst l)\/(∃ l,o = .ref l)\/o = .nod):=by
 intro o
 rcases o with ⟨⟩<;>first|exact True.intro|exact CN VB|exact CN fun _=>.inl ⟨_,rfl⟩|exact CN fun _=>.inr (.inl ⟨_,rfl⟩)|exact CN fun _=>.inr (.inr (.inl ⟨_,rfl⟩))|exact CN fun _=>.inr (.inr (.inr rfl))
theorem yf{o:V}{x:Str}{id:String}(hp:uO o=true)(h:KC o x=some id):(∃ l,o = .str l/\((x = "lower" /\ "str.lower" = id)\/(x = "upper" /\ "str.upper" = id)\/(x = "join" /\ "str.join" = id)\/(x = "index" /\ "str.index" = id))) \/
  (∃ l,o = .lst l/\((x = "index" /\ "list.index" = id)\/(x = "count" /\ "list.count" = id)))\/(∃ l,o = .ref l/\((x = "append" /\ "list.append" = id)\/(x = "extend" /\ "list.extend" = id)))\/(o = .nod/\x = "items" /\ "dict.items" = id):=by
 have one:∀ {c:Prop} [Decidable c] {a:String},(if c then some a else none)=some id->c/\a=id:=fun {c} _ {a} h=>(QL h).elim (fun q=>q) nofun
 rcases pE (zf x o) (by rw [h];rfl) hp with ⟨_,rfl⟩|⟨_,rfl⟩|⟨_,rfl⟩|rfl
 ·refine .inl ⟨_,rfl,?_⟩
  exact (QL h).imp (fun q=>q) fun h=>(QL h).imp (fun q=>q) fun h=>(QL h).imp (fun q=>q) one
 ·exact .inr (.inl ⟨_,rfl,(QL h).imp (fun q=>q) one⟩)
 ·exact .inr (.inr (.inl ⟨_,rfl,(QL h).imp (fun q=>q) one⟩))
 ·exact .inr (.inr (.inr ⟨rfl,one h⟩))
section
variable{gd:Str->Option (List (V×V))}{o:V}{vs:List V}
theorem yj:gF gd o "append" vs=lC (qP · o) QC vs:=by kernel_rfl
theorem Aj:gF gd o "extend" vs=lC (NP · o) QC vs:=by kernel_rfl
theorem zj:gF gd o "count" vs=lC (fun v=>do yS (<- gt v.int?) o) QC vs:=by kernel_rfl
theorem Cj:gF gd o "items" vs=RI (nQ o) vs:=by kernel_rfl
theorem A1:gF gd o "index" vs=lC (fun v=>do cQ (<- gt v.str?) o) QC vs:=by kernel_rfl
theorem Ej:gF gd o "lower" vs=RI (do gt (gD (Txt.lower (S (<- gt o.str?))).cps.toList)) vs:=by kernel_rfl
theorem Gj:gF gd o "upper" vs=RI (do gt (gD (Txt.upper (S (<- gt o.str?))).cps.toList)) vs:=by kernel_rfl
theorem Dj:gF gd o "join" vs=lC (rT · o) QC vs:=by kernel_rfl
end
theorem YX{l:List Nat}{ov:dA}{vs:List V}{xs:List dA}{id:String}{g:Str->Str}(i:Inv B s.heap as F st)(ro:kA B s.heap as F (.str l) ov)(rs:vA B s.heap as F vs xs)
  (hg:∀ (x:Str) (t:Tok) (Q:dA->iA->Prop) (E:dA->iA->Prop),Builtin.Str.tooLong (g x).length=false->Q (.str (g x) s.toks) { s with toks:=s.toks+1 }->oA (model prog w) A (call (.builtin id) [.str x t]) Q E s) :
  aC B prog w A F (call (.builtin id) (ov::xs) []) (RI (do gt (gD (g (S (<- gt (V.str l).str?))).cps.toList)) vs) s as st:=by
 intro v st' hv Q E hQ
 obtain⟨rfl,h⟩:=lX hv
 obtain rfl:=U3 rs
 refine rE h fun _ h1 h2=>?_
 cases h1
 obtain⟨t,rfl,_⟩:=pC ro
 obtain⟨h3,rfl⟩:=cF h2
 obtain⟨rfl,h4,h5⟩:=gR h3
 exact hg _ _ _ _ (Fq h5) (hQ _ s.heap as _ (p5 h4) i (qA.refl _ _ _) (CB _))
theorem Jj{n:Nat}(hA:mB A n){gd:Str->Option (List (V×V))}{o:V}{ov:dA}{x:Str}{id:String}(hp:uO o=true)(hid:KC o x=some id){vs:List V}{xs:List dA}(i:Inv B s.heap as F st)(ro:kA B s.heap as F o ov)(rs:vA B s.heap as F vs xs) :
  aC B prog w A F (call (.builtin id) (ov::xs) []) (gF gd o x vs) s as st:=by
 rcases yf hp hid with ⟨l,rfl,h⟩|⟨l,rfl,⟨rfl,rfl⟩|⟨rfl,rfl⟩⟩|⟨l,rfl,⟨rfl,rfl⟩|⟨rfl,rfl⟩⟩|⟨rfl,rfl,rfl⟩
 ·rcases h with ⟨rfl,rfl⟩|⟨rfl,rfl⟩|⟨rfl,rfl⟩|⟨rfl,rfl⟩
  ·rw [Ej]
   exact YX i ro rs fun x t Q E h1 h2=>PySem.SC.lower h1 h2
  ·rw [Gj]
   exact YX i ro rs fun x t Q E h1 h2=>PySem.SC.upper h1 h2
  ·rw [Dj]
   intro v st' hv Q E hQ
   obtain⟨u,y,rfl,r,h⟩:=UG hv rs
   exact yg i ro r v st' h Q E hQ
  ·rw [A1]
   intro v st' hv Q E hQ
   obtain⟨u,y,rfl,r,h⟩:=UG hv rs
   refine rE h fun t h1 h2=>?_
   obtain rfl:=bG h1
   exact Jf i ro r v st' h2 Q E hQ
 ·rw [A1]
  intro v st' hv Q E hQ
  obtain⟨u,y,rfl,r,h⟩:=UG hv rs
  refine rE h fun t h1 h2=>?_
  obtain rfl:=bG h1
  exact Hf i ro r v st' h2 Q E hQ
 ·rw [zj]
  intro v st' hv Q E hQ
  obtain⟨u,y,rfl,r,h⟩:=UG hv rs
  refine rE h fun t h1 h2=>?_
  obtain rfl:=xE h1
  exact Cb i ro r v st' h2 Q E hQ
 ·rw [yj]
  intro v st' hv Q E hQ
  obtain⟨u,y,rfl,r,h⟩:=UG hv rs
  exact a7 i ro r v st' h Q E hQ
 ·rw [Aj]
  intro v st' hv Q E hQ
  obtain⟨u,y,rfl,r,h⟩:=UG hv rs
  exact yc i ro r v st' h Q E hQ
 ·rw [Cj]
  intro v st' hv Q E hQ
  obtain⟨rfl,h⟩:=lX hv
  obtain rfl:=U3 rs
  exact rg i ro v st' h Q E hQ
end Ev
end
section
namespace Ev
variable{B:CA}{prog:pA}{w:eA}{P:sC}
structure bP(B:CA)(prog:pA)(w:eA)(P:sC):Prop where
 glob:∀ x v,P.glob x=some v->∀ (A:xA) (s:iA) (env:Env) (Q:dA->iA->Prop) (E:dA->iA->Prop),env.scope.kind = .function->env.kindOf x=some .globalImplicit ->
  env.globals=B.gA->env.builtins=B.bA->B.objs.In s.heap->(∀ y,(∀ h as F,kA B h as F v y)->Q y s)->oA (model prog w) A (loadName env x) Q E s
 keys:JJ B prog w P.gd
 dk:ED B prog w
 keep:∀ a,(∃ x,B.addr x=some a)\/(∃ x,B.meth x=some a)\/a=B.cls->keepIn B.objs (.ref a)=true
 nolimit:∀ h,B.objs.In h->h.NoLimit
 fns:∀ x d a,P.prim x = .none->P.fns.lookup x=some d->B.addr x=some a->∃ o fd,nC B prog w a d o fd
 prims:∀ x p a,P.prim x=some p->B.addr x=some a->∀ (A:xA) (F:cA->Prop) (s:iA) (as:List cA) (st:St) vs xs,mB A 1->Inv B s.heap as F st->vA B s.heap as F vs xs->vF B prog w A F no (RV B F) (call (.ref a) xs []) (p vs) s as st
 mths:∀ x d a,P.mths.lookup x=some d->B.meth x=some a->∃ o fd,nC B prog w a d o fd
 getG:∀ (A:xA) (F:cA->Prop) (s:iA) (as:List cA) (st:St) y ov x id,Inv B s.heap as F st->kA B s.heap as F (.g y) ov->fK st (.g y) x=some (.m (.g y) x)->KC (.g y) x=some id->∀ (pl:Sem Bool) (Q:dA×List dA->iA->Prop) (E:dA->iA->Prop),
  Q (.builtin id,[ov]) s->oA (model prog w) A (getMethod ov x pl) Q E s
 callG:∀ (A:xA) (F:cA->Prop) (s:iA) (as:List cA) (st:St) y ov x id vs xs,mB A 0->Inv B s.heap as F st->kA B s.heap as F (.g y) ov->KC (.g y) x=some id->vA B s.heap as F vs xs->vF B prog w A F no (RV B F) (call (.builtin id) (ov::xs) []) (gF P.gd (.g y) x vs) s as st
 getH:∀ (A:xA) (F:cA->Prop) (s:iA) (as:List cA) (st:St) i ov x,Inv B s.heap as F st->kA B s.heap as F (.hd i) ov->fJ.contains x=true->∃ a,B.meth x=some a/\∀ (pl:Sem Bool) (Q:dA×List dA->iA->Prop) (E:dA->iA->Prop),
  Q (.ref a,[ov]) s->oA (model prog w) A (getMethod ov x pl) Q E s
 attr:∀ (A:xA) (F:cA->Prop) (s:iA) (as:List cA) (st:St) i ov,Inv B s.heap as F st->kA B s.heap as F (.hd i) ov->∀ (Q:dA->iA->Prop) (E:dA->iA->Prop),
  (∀ y tk,kA B s.heap as F (.ref i) y->s.toks<=tk->Q y { s with toks:=tk })->oA (model prog w) A (getAttr ov "_headers" true) Q E s
 new:∀ (n:Nat) (A:xA) (F:cA->Prop) (s:iA) (as:List cA) (st:St) vs xs,mB A (n+1)->(∀ t A' F' env' ρ',mB A' n->yC B prog w A' F' env' ρ' (exec t env') (PB (LA P n) t ρ'))->Inv B s.heap as F st->vA B s.heap as F vs xs->vF B prog w A F no (RV B F) (call (.ref B.cls) xs []) (IP (LA P n) "Headers" vs) s as st
theorem ba(P:sC)(Γ:Ctx)(vs:List V)(ks:List (Str×V))(st:St):∀ f:V,(WI P Γ f vs ks st).elim True fun _=>(match f with | .bi _ | .ty _ | .fn _ | .m ..=>true|_=>false)=true:=by
 intro f
 rcases f with ⟨⟩<;>first|exact True.intro|exact zB (Eq.refl true:true=true)
theorem XX(P:sC):∀ n,pL (LA P n)
 | 0=>fun f vs ks st r h=>by exact wA h
 | n+1=>fun f vs ks st r h=>by
  have h':WI P (LA P n) f vs ks st=some r:=h
  exact AC (ba P _ vs ks st f) h'
theorem cI{h:Heap}{as:List cA}{F:cA->Prop}{xs:List (Str×dA)}(r:VE B h as F [] xs):xs=[]:=by
 have:=r.1
 simpa using this
theorem XU{A:xA}{n m:Nat}(h:mB A n)(hm:m<=n):mB A m:=⟨h.hh,iB (EC (yH 3 hm) _) h.depth,iB (eG (EC (yH 10 hm) _) 40) h.units⟩
theorem Ks{A:xA}{F:cA->Prop}{s:iA}{as:List cA}{st:St}{l:List Nat}{xs:List dA}(i:Inv B s.heap as F st)(rs:vA B s.heap as F [.str l] xs) :
  vF B prog w A F no (RV B F) (call (.type "type") xs []) (pure (.ty "str")) s as st:=by
 intro v st' hv Q E hQ
 obtain⟨x,rfl,r⟩:=xM rs
 obtain⟨t,rfl,_⟩:=pC r
 exact call_type_of (typeIs_str _ _ _) (by decide) (iI i hv hQ _ s.toks (.ty _ (by decide)) (sA _))
theorem Nd{y x:Str}(h:dJ y x=true):∃ id,KC (.g y) x=some id:=by
 unfold dJ at h
 split at h
 ·have:x = "search":=by simpa using h
  subst this
  exact⟨"re.Pattern.search",by kernel_rfl⟩
 ·split at h
  ·have:x = "get":=by simpa using h
   subst this
   exact⟨"dict.get",by kernel_rfl⟩
  ·exact VB h
theorem aK{c:Prop}[Decidable c]{v f:V}(h:(if c then some v else none)=some f):c/\v=f:=by
 by_cases q:c
 ·exact⟨q,Option.some.inj ((if_pos q).symm.trans h)⟩
 ·exact nomatch (if_neg q).symm.trans h
theorem Ij(st:St)(x:Str):∀ o:V,(fK st o x).elim True fun _=>(∃ l,o = .str l)\/(∃ l,o = .lst l)\/(∃ i,o = .ref i)\/(∃ i,o = .hd i)\/o = .nod\/∃ y,o = .g y:=by
 intro o
 rcases o with ⟨⟩<;>first|exact True.intro|exact zB (.inl ⟨_,rfl⟩)|exact zB (.inr (.inl ⟨_,rfl⟩))|exact zB (.inr (.inr (.inl ⟨_,rfl⟩)))|exact zB (.inr (.inr (.inr (.inl ⟨_,rfl⟩))))|exact zB (.inr (.inr (.inr (.inr (.inl rfl)))))|exact zB (.inr (.inr (.inr (.inr (.inr ⟨_,rfl⟩)))))
theorem Hj{st:St}{o f:V}{x:Str}(h:fK st o x=some f):V.m o x=f/\((∃ l,o = .str l/\(x = "lower" \/ x = "upper" \/ x = "join" \/ x = "index"))\/(∃ l,o = .lst l/\(x = "index" \/ x = "count"))\/(o = .nod/\x = "items") \/
  (∃ i vs,o = .ref i/\st[i]? = some (.list vs)/\(x = "append" \/ x = "extend"))\/(∃ y,o = .g y/\dJ y x=true)\/(∃ i,o = .hd i/\fJ.contains x=true)):=by
 rcases AC (Ij st x o) h with ⟨_,rfl⟩|⟨_,rfl⟩|⟨i,rfl⟩|⟨_,rfl⟩|rfl|⟨_,rfl⟩
 ·obtain⟨h1,h2⟩:=aK h
  simp only [II,decide_eq_true_eq,or_assoc] at h1
  exact⟨h2,.inl ⟨_,rfl,h1⟩⟩
 ·obtain⟨h1,h2⟩:=aK h
  simp only [II,decide_eq_true_eq] at h1
  exact⟨h2,.inr (.inl ⟨_,rfl,h1⟩)⟩
 ·refine GO (o:=st[i]?) (K:=fun _=>if (x = "append" || x = "extend")=true then some (V.m (.ref i) x) else .none) h fun vs q h=>?_
  obtain⟨h1,h2⟩:=aK h
  simp only [II,decide_eq_true_eq] at h1
  exact⟨h2,.inr (.inr (.inr (.inl ⟨_,_,rfl,q,h1⟩)))⟩
 ·obtain⟨h1,h2⟩:=aK h
  exact⟨h2,.inr (.inr (.inr (.inr (.inr ⟨_,rfl,h1⟩))))⟩
 ·obtain⟨h1,h2⟩:=aK h
  exact⟨h2,.inr (.inr (.inl ⟨rfl,h1⟩))⟩
 ·obtain⟨h1,h2⟩:=aK h
  exact⟨h2,.inr (.inr (.inr (.inr (.inl ⟨_,rfl,h1⟩))))⟩
theorem Af{l:List Nat}:KC (.str l) "lower" = some "str.lower" /\ KC (.str l) "upper" = some "str.upper" /\ KC (.str l) "join" = some "str.join" /\ KC (.str l) "index" = some "str.index":=⟨by kernel_rfl,by kernel_rfl,by kernel_rfl,by kernel_rfl⟩
theorem BN{l:List V}{i:Nat}:KC (.lst l) "index" = some "list.index" /\ KC .nod "items" = some "dict.items" /\ KC (.ref i) "append" = some "list.append" /\ KC (.lst l) "count" = some "list.count" /\ KC (.ref i) "extend" = some "list.extend":=⟨by kernel_rfl,by kernel_rfl,by kernel_rfl,by kernel_rfl,by kernel_rfl⟩
theorem EZ(K:bP B prog w P){A:xA}{F:cA->Prop}{s:iA}{as:List cA}{st:St}{o:V}{ov:dA}{x:Str}{f:V}(i:Inv B s.heap as F st)(ro:kA B s.heap as F o ov)(hf:fK st o x=some f){pl:Sem Bool}{Q:dA×List dA->iA->Prop}{E:dA->iA->Prop}
  (hQ:∀ fv first,mE B s.heap as F f fv first->Q (fv,first) s):oA (model prog w) A (getMethod ov x pl) Q E s:=by
 obtain⟨rfl,h⟩:=Hj hf
 rcases h with ⟨l,rfl,h⟩|⟨l,rfl,h⟩|⟨rfl,rfl⟩|⟨j,vs,rfl,hst,h⟩|⟨y,rfl,hx⟩|⟨j,rfl,hx⟩
 ·obtain⟨t,rfl,_⟩:=pC ro
  obtain⟨i1,i2,i3,i4⟩:=Af (l:=l)
  rcases h with rfl|rfl|rfl|rfl
  ·exact PySem.GM.lower (hQ _ _ (.mb ro i1))
  ·exact PySem.GM.upper (hQ _ _ (.mb ro i2))
  ·exact PySem.GM.join (hQ _ _ (.mb ro i3))
  ·exact PySem.GM.index (hQ _ _ (.mb ro i4))
 ·obtain⟨xs,a,rfl,hl,_,_,_⟩:=aG ro
  obtain⟨o,k,ho,hc,hd,_⟩:=id hl
  rcases h with rfl|rfl
  ·exact YJ hl.isList.typeIs PySem.F.plainAttrs_list PySem.F.slot_list_index PySem.F.type_list_index (fun b e=>by cases e;exact⟨o,ho,hd⟩) (hQ _ _ (.mb ro (BN (l:=l) (i:=0)).1))
  ·exact YJ hl.isList.typeIs PySem.F.plainAttrs_list PySem.F.slot_list_count PySem.F.type_list_count (fun b e=>by cases e;exact⟨o,ho,hd⟩) (hQ _ _ (.mb ro (BN (l:=l) (i:=0)).2.2.2.1))
 ·have c:=hQ _ _ (.mb ro (BN (l:=[]) (i:=0)).2.1)
  obtain⟨a,k,rfl,ho,_⟩:=R3 ro
  exact YJ (T:="dict") ⟨_,ho,rfl⟩ PySem.F.plainAttrs_dict PySem.F.slot_dict_items PySem.F.type_dict_items (fun b e=>by cases e;exact⟨_,ho,rfl⟩) c
 ·obtain⟨a,rfl,e⟩:=AG ro
  obtain⟨xs,hp,_,_⟩:=(i.at_ _ a _ e hst).out
  obtain⟨o,k,ho,hc,hd,_⟩:=id hp
  rcases h with rfl|rfl
  ·exact getMethod_list_append ho hc hd (hQ _ _ (.mb ro (BN (l:=[]) (i:=j)).2.2.1))
  ·exact YJ hp.isList.typeIs PySem.F.plainAttrs_list PySem.F.slot_list_extend PySem.F.type_list_extend (fun b e=>by cases e;exact⟨o,ho,hd⟩) (hQ _ _ (.mb ro (BN (l:=[]) (i:=j)).2.2.2.2))
 ·obtain⟨id,hid⟩:=Nd hx
  exact K.getG A F s as st y ov x id i ro hf hid pl Q E (hQ _ _ (.mb ro hid))
 ·obtain⟨a,ha,hg⟩:=K.getH A F s as st j ov x i ro hx
  exact hg pl Q E (hQ _ _ (.mf ro ha))
theorem SL{ks:List (Str×V)}{t:mA V}{st:St}{r:V×St}(h:HH ks t st=some r):ks=[]/\t st=some r:=by
 rcases ks with _|⟨_,_⟩
 ·exact⟨rfl,h⟩
 ·exact wA h
theorem cg(a:V)(h:mT a=true):∃ l,a = .str l:=QD (H:=True) (by clear h;rcases a with ⟨⟩<;>first|exact True.intro|exact⟨_,rfl⟩) h
theorem Qk(P:sC)(Γ:Ctx)(x:Str)(vs:List V)(ks:List (Str×V)):∀ o:V,(KC o x).elim True fun _=>WI P Γ (.m o x) vs ks=HH ks (gF P.gd o x vs):=by
 intro o
 rcases o with ⟨⟩<;>first|exact True.intro|exact zB rfl
theorem Nk{P:sC}{Γ:Ctx}{o:V}{x:Str}{vs:List V}{ks:List (Str×V)}(h:(∃ id,KC o x=some id)):WI P Γ (.m o x) vs ks=HH ks (gF P.gd o x vs):=by
 obtain⟨id,h⟩:=h
 exact AC (Qk P Γ x vs ks o) h
theorem ip(x:Str):∀ o:V,(KC o x).elim True fun _=>uO o=true\/∃ y,o = .g y:=by
 intro o
 rcases o with ⟨⟩<;>first|exact True.intro|exact zB (.inl rfl)|exact zB (.inr ⟨_,rfl⟩)
theorem Z9(K:bP B prog w P){n:Nat}(body:∀ (d:xD) A' F' env' ρ',mB A' n->yC B prog w A' F' env' ρ' (execs d.body env') (XA (LA P n) d.body ρ'))(stm:∀ t A' F' env' ρ',mB A' n->yC B prog w A' F' env' ρ' (exec t env') (PB (LA P n) t ρ')){A:xA}{F:cA->Prop}{s:iA}{as:List cA}{st:St}{vs:List V}{xs:List dA}{ks:List (Str×V)}{kxs:List (Str×dA)}(hA:mB A (n+1))(i:Inv B s.heap as F st)(rs:vA B s.heap as F vs xs)(rk:VE B s.heap as F ks kxs) :
  ∀ {f:V}{fv:dA}{first:List dA},mE B s.heap as F f fv first->vF B prog w A F no (RV B F) (call fv (first++xs) kxs) (WI P (LA P n) f vs ks) s as st:=by
 intro f fv first c v st' hv Q E hQ
 cases c with
 | bi id =>
  obtain⟨rfl,hv⟩:=SL hv
  cases cI rk
  exact y9 hA i rs v st' hv Q E hQ
 | ty nm hn =>
  obtain⟨rfl,hv⟩:=SL hv
  cases cI rk
  rcases ng hv with ⟨⟨rfl,h1,h2⟩,hv⟩|hv
  ·rcases vs with _|⟨a,r⟩
   ·contradiction
   ·obtain rfl:=nL (Nat.succ.inj h1)
    obtain⟨l,rfl⟩:=cg a ((KA _ _).mp h2).1
    exact Ks i rs v st' hv Q E hQ
  ·exact Db (Γ:=LA P n) hA hn i rs v st' hv Q E hQ
 | cls =>
  obtain⟨rfl,hv2⟩:=SL hv
  cases cI rk
  have hn:¬ (("Headers":String) = "type" /\ vs.length=1/\vs.all mT=true):=fun h=>absurd h.1 (by decide)
  exact K.new n A F s as st vs xs hA stm i rs v st' ((congrFun (if_neg hn) st).symm.trans hv2) Q E hQ
 | @fn x a ha =>
  replace hv:(match P.prim x with|some p=>HH ks (p vs) | .none=>do let d <- gt (P.fns.lookup x);zI (LA P n) d vs ks) st=some (v,st'):=hv
  rcases hp:P.prim x with _|p
  ·rw [hp] at hv
   refine rE hv fun d h1 hv1=>?_
   obtain⟨o,fd,ok⟩:=K.fns x d a hp h1 ha
   exact jZ ok K.nolimit hA (body d) i rs rk v st' hv1 Q E hQ
  ·rw [hp] at hv
   obtain⟨rfl,hv⟩:=SL hv
   cases cI rk
   exact K.prims x p a hp ha A F s as st vs xs (XU hA (LD 1 n)) i rs v st' hv Q E hQ
 | @mb o ov x id ro hid =>
  rw [Nk ⟨id,hid⟩] at hv
  obtain⟨rfl,hm⟩:=SL hv
  cases cI rk
  have hp:uO o=true\/∃ y,o = .g y:=by
   exact AC (ip x o) hid
  rcases hp with hp|⟨y,rfl⟩
  ·exact Jj hA hp hid i ro rs v st' hm Q E hQ
  ·exact K.callG A F s as st y ov x id vs xs (XU hA (iE _)) i ro hid rs v st' hm Q E hQ
 | @mf j ov x a ro ha =>
  refine rE hv fun d h1 hv1=>?_
  obtain⟨o,fd,ok⟩:=K.mths x d a h1 ha
  exact jZ ok K.nolimit hA (body d) i (.cons ro rs) rk v st' hv1 Q E hQ
theorem mX{o v:V}{x:Str}(h:rP o x=some v):∃ i,o = .hd i/\x = "_headers" /\ V.ref i=v:=by
 obtain⟨i,rfl⟩:=AC (o:=rP o x) (G:=∃ i,o = .hd i) (by clear h;rcases o with ⟨⟩<;>first|exact True.intro|exact zB ⟨_,rfl⟩) h
 obtain⟨h1,h2⟩:=aK h
 exact⟨_,rfl,h1,h2⟩
theorem zS(K:bP B prog w P):∀ n,WE B prog w (LA P n) n
 | 0=>⟨⟨fun x v h=>K.glob x v h⟩,K.keys,K.dk,K.keep,fun A F s as st f fv first vs xs ks kxs hA i c rs rk v st' hv=>(by exact wA hv),fun A F s as st o ov x f i ro hf pl Q E hQ=>EZ K i ro hf hQ,fun A F s as st o ov x v i ro hv Q E hQ=>by
  obtain⟨j,rfl,rfl,rfl⟩:=mX hv
  exact K.attr A F s as st _ ov i ro Q E hQ⟩
 | n+1=>⟨⟨fun x v h=>K.glob x v h⟩,K.keys,K.dk,K.keep,fun A F s as st f fv first vs xs ks kxs hA i c rs rk=>Z9 K (fun d A' F' env' ρ' hA'=>r9 (zS K n) (XX P n) d.body A' F' env' ρ' hA') (fun t A' F' env' ρ' hA'=>tV (zS K n) (XX P n) _ t (jD _) A' F' env' ρ' hA') hA i rs rk c,
  fun A F s as st o ov x f i ro hf pl Q E hQ=>EZ K i ro hf hQ,fun A F s as st o ov x v i ro hv Q E hQ=>by
  obtain⟨j,rfl,rfl,rfl⟩:=mX hv
  exact K.attr A F s as st _ ov i ro Q E hQ⟩
end Ev
end
section
namespace Mine
open Ev
noncomputable def ND:List (Str×cA):=[("in_table_b1",73),("map_table_b3",119),("ISTERMINAL",41),("ISNONTERMINAL",48),("ISEOF",55),("_law_form",274),("_law_nothing",281),("_law_spelled",286),("_law_net",293),("_law_ways",298),("_law_plan",303),("_law_alike",308),("_law_seen",313),("_law_rows",318),("_law_done",323),("_law_written",328),("law",333)]
noncomputable def kI:List (Str×cA):=[("b1_set",63),("b3_exceptions",74),("EXACT_TOKEN_TYPES",32),("_name_disallowed_re",129),("_value_disallowed_re",134)]
noncomputable def wG:List (Str×cA):=[("__len__",171),("__setitem__",178),("__delitem__",183),("_convert_string_type",164),("get_all",202),("get",210),("keys",215),("items",227),("setdefault",253),("add_header",260)]
noncomputable def Bw(w:eA):CA:={ gA:=3,bA:=0,addr:=fun x=>ND.lookup x,meth:=fun x=>wG.lookup x,gadr:=fun x=>kI.lookup x,cls:=263,objs:=KF w.params,dk:=fun o kvs=>o.IsDictOf (PySem.strKind pw w) kvs }
noncomputable def Qc:List (Str×IA):=[("in_table_b1",stm 57),("map_table_b3",stm 59),("ISTERMINAL",stm 52),("ISNONTERMINAL",stm 53),("ISEOF",stm 54),("_law_form",stm 67),("_law_nothing",stm 68),("_law_spelled",stm 69),("_law_net",stm 70),("_law_ways",stm 71),("_law_plan",stm 72),("_law_alike",stm 73),("_law_seen",stm 74),("_law_rows",stm 75),("_law_done",stm 76),("_law_written",stm 77),("law",stm 78)]
noncomputable def Qj:List (Str×IA):=[("_convert_string_type",meth 65 1),("get_all",meth 65 7),("get",meth 65 8),("keys",meth 65 9),("items",meth 65 11),("setdefault",meth 65 15),("add_header",meth 65 16)]
noncomputable def uA(s:IA):xD:=⟨(fA s).args.map (·.arg),(fA s).defaults.map Bb,(fA s).kwonlyargs.map (·.arg),(fA s).kwarg.map (·.arg),fB s,fS s⟩
noncomputable def oS:List (Str×V×dA):=[("chr",.bi "chr",.builtin "chr"),("ord",.bi "ord",.builtin "ord"),("len",.bi "len",.builtin "len"),("min",.bi "min",.builtin "min"),("max",.bi "max",.builtin "max"),("sum",.bi "sum",.builtin "sum"),("sorted",.bi "sorted",.builtin "sorted"),("str",.ty "str",.type "str"),("list",.ty "list",.type "list"),("range",.ty "range",.type "range"),("enumerate",.ty "enumerate",.type "enumerate"),("type",.ty "type",.type "type")]
noncomputable def YS:List (Str×V×dA):=[("in_table_b1",.fn "in_table_b1",.ref 73),("map_table_b3",.fn "map_table_b3",.ref 119),("ISTERMINAL",.fn "ISTERMINAL",.ref 41),("ISNONTERMINAL",.fn "ISNONTERMINAL",.ref 48),("ISEOF",.fn "ISEOF",.ref 55),("_law_form",.fn "_law_form",.ref 274),("_law_nothing",.fn "_law_nothing",.ref 281),("_law_spelled",.fn "_law_spelled",.ref 286),("_law_net",.fn "_law_net",.ref 293),("_law_ways",.fn "_law_ways",.ref 298),("_law_plan",.fn "_law_plan",.ref 303),("_law_alike",.fn "_law_alike",.ref 308),("_law_seen",.fn "_law_seen",.ref 313),("_law_rows",.fn "_law_rows",.ref 318),("_law_done",.fn "_law_done",.ref 323),("_law_written",.fn "_law_written",.ref 328),("law",.fn "law",.ref 333),("b1_set",.g "b1_set",.ref 63),("b3_exceptions",.g "b3_exceptions",.ref 74),("EXACT_TOKEN_TYPES",.g "EXACT_TOKEN_TYPES",.ref 32),("_name_disallowed_re",.g "_name_disallowed_re",.ref 129),("_value_disallowed_re",.g "_value_disallowed_re",.ref 134),("Headers",.ty "Headers",.ref 263),("ENDMARKER",.int 0,.int 0 284),("NT_OFFSET",.int 256,.int 256 382)]
noncomputable def ZP(x:Str):Option V:=match YS.lookup x with
 | some p=>some p.1
 | none=>(oS.lookup x).map (·.1)
theorem IU(w:eA):(KF w.params).lookup 3=some (yB w.params):=by kernel_rfl
theorem Gn(w:eA):(KF w.params).lookup 0=some (boot_o_0 w.params):=by kernel_rfl
noncomputable def MA(o:Obj):Array pB:=match o.data with | .dict es _=>es|_=>#[]
noncomputable def oM(o:Obj):Bool:=match o.data with | .dict es _=>es.all (fun e=>match e.key with | .str _ _=>true|_=>false)|_=>false
theorem pJ{w:eA}{h:Heap}{a:cA}{o:Obj}(X:(KF w.params).In h)(e:(KF w.params).lookup a=some o)(ok:oM o=true):h.Ns a (fun x=>TA (MA o) x):=by
 have ho:=X a o e
 unfold oM at ok
 unfold MA
 cases hd:o.data with
 | dict es ep =>
  rw [hd] at ok
  refine⟨o,es,ep,ho,hd,fun e he=>?_,fun name=>rfl⟩
  have hx:=Array.all_eq_true_iff_forall_mem.mp ok e he
  rcases hk:e.key with ⟨⟩<;>rw [hk] at hx<;>first|exact⟨_,_,rfl⟩|exact VB hx
 | _=>rw [hd] at ok;exact VB ok
theorem B2(w:eA):oM (yB w.params)=true:=by kernel_rfl
theorem Rk(w:eA):oM (boot_o_0 w.params)=true:=by kernel_rfl
theorem ZW:ND.lookup ("in_table_b1":Str)=some 73:=by decide +kernel
theorem oe(w:eA):TA (MA (yB w.params)) "in_table_b1" = some (.ref 73):=by kernel_rfl
theorem aX:ND.lookup ("map_table_b3":Str)=some 119:=by decide +kernel
theorem pe(w:eA):TA (MA (yB w.params)) "map_table_b3" = some (.ref 119):=by kernel_rfl
theorem LW:ND.lookup ("ISTERMINAL":Str)=some 41:=by decide +kernel
theorem Td(w:eA):TA (MA (yB w.params)) "ISTERMINAL" = some (.ref 41):=by kernel_rfl
theorem KW:ND.lookup ("ISNONTERMINAL":Str)=some 48:=by decide +kernel
theorem Sd(w:eA):TA (MA (yB w.params)) "ISNONTERMINAL" = some (.ref 48):=by kernel_rfl
theorem JW:ND.lookup ("ISEOF":Str)=some 55:=by decide +kernel
theorem Rd(w:eA):TA (MA (yB w.params)) "ISEOF" = some (.ref 55):=by kernel_rfl
theorem OW:ND.lookup ("_law_form":Str)=some 274:=by decide +kernel
theorem Xd(w:eA):TA (MA (yB w.params)) "_law_form" = some (.ref 274):=by kernel_rfl
theorem QW:ND.lookup ("_law_nothing":Str)=some 281:=by decide +kernel
theorem Zd(w:eA):TA (MA (yB w.params)) "_law_nothing" = some (.ref 281):=by kernel_rfl
theorem VW:ND.lookup ("_law_spelled":Str)=some 286:=by decide +kernel
theorem de(w:eA):TA (MA (yB w.params)) "_law_spelled" = some (.ref 286):=by kernel_rfl
theorem PW:ND.lookup ("_law_net":Str)=some 293:=by decide +kernel
theorem Yd(w:eA):TA (MA (yB w.params)) "_law_net" = some (.ref 293):=by kernel_rfl
theorem WW:ND.lookup ("_law_ways":Str)=some 298:=by decide +kernel
theorem ee(w:eA):TA (MA (yB w.params)) "_law_ways" = some (.ref 298):=by kernel_rfl
theorem RW:ND.lookup ("_law_plan":Str)=some 303:=by decide +kernel
theorem ae(w:eA):TA (MA (yB w.params)) "_law_plan" = some (.ref 303):=by kernel_rfl
theorem MW:ND.lookup ("_law_alike":Str)=some 308:=by decide +kernel
theorem Vd(w:eA):TA (MA (yB w.params)) "_law_alike" = some (.ref 308):=by kernel_rfl
theorem UW:ND.lookup ("_law_seen":Str)=some 313:=by decide +kernel
theorem ce(w:eA):TA (MA (yB w.params)) "_law_seen" = some (.ref 313):=by kernel_rfl
theorem SW:ND.lookup ("_law_rows":Str)=some 318:=by decide +kernel
theorem be(w:eA):TA (MA (yB w.params)) "_law_rows" = some (.ref 318):=by kernel_rfl
theorem NW:ND.lookup ("_law_done":Str)=some 323:=by decide +kernel
theorem Wd(w:eA):TA (MA (yB w.params)) "_law_done" = some (.ref 323):=by kernel_rfl
theorem XW:ND.lookup ("_law_written":Str)=some 328:=by decide +kernel
theorem fe(w:eA):TA (MA (yB w.params)) "_law_written" = some (.ref 328):=by kernel_rfl
theorem aS:ND.lookup ("law":Str)=some 333:=by decide +kernel
theorem uZ(w:eA):TA (MA (yB w.params)) "law" = some (.ref 333):=by kernel_rfl
theorem YW:kI.lookup ("b1_set":Str)=some 63:=by decide +kernel
theorem ke(w:eA):TA (MA (yB w.params)) "b1_set" = some (.ref 63):=by kernel_rfl
theorem ZR:kI.lookup ("b3_exceptions":Str)=some 74:=by decide +kernel
theorem me(w:eA):TA (MA (yB w.params)) "b3_exceptions" = some (.ref 74):=by kernel_rfl
theorem nP:kI.lookup ("EXACT_TOKEN_TYPES":Str)=some 32:=by decide +kernel
theorem Pd(w:eA):TA (MA (yB w.params)) "EXACT_TOKEN_TYPES" = some (.ref 32):=by kernel_rfl
theorem XR:kI.lookup ("_name_disallowed_re":Str)=some 129:=by decide +kernel
theorem ie(w:eA):TA (MA (yB w.params)) "_name_disallowed_re" = some (.ref 129):=by kernel_rfl
theorem YR:kI.lookup ("_value_disallowed_re":Str)=some 134:=by decide +kernel
theorem je(w:eA):TA (MA (yB w.params)) "_value_disallowed_re" = some (.ref 134):=by kernel_rfl
theorem Qd(w:eA):TA (MA (yB w.params)) "Headers" = some (.ref 263):=by kernel_rfl
theorem Od(w:eA):TA (MA (yB w.params)) "ENDMARKER" = some (.int 0 284):=by kernel_rfl
theorem Ud(w:eA):TA (MA (yB w.params)) "NT_OFFSET" = some (.int 256 382):=by kernel_rfl
theorem Yj(w:eA):TA (MA (yB w.params)) "chr" = none:=by kernel_rfl
theorem G7(w:eA):TA (MA (boot_o_0 w.params)) "chr" = some (.builtin "chr"):=by kernel_rfl
theorem fk(w:eA):TA (MA (yB w.params)) "ord" = none:=by kernel_rfl
theorem N7(w:eA):TA (MA (boot_o_0 w.params)) "ord" = some (.builtin "ord"):=by kernel_rfl
theorem ak(w:eA):TA (MA (yB w.params)) "len" = none:=by kernel_rfl
theorem I7(w:eA):TA (MA (boot_o_0 w.params)) "len" = some (.builtin "len"):=by kernel_rfl
theorem ek(w:eA):TA (MA (yB w.params)) "min" = none:=by kernel_rfl
theorem M7(w:eA):TA (MA (boot_o_0 w.params)) "min" = some (.builtin "min"):=by kernel_rfl
theorem ck(w:eA):TA (MA (yB w.params)) "max" = none:=by kernel_rfl
theorem K7(w:eA):TA (MA (boot_o_0 w.params)) "max" = some (.builtin "max"):=by kernel_rfl
theorem kk(w:eA):TA (MA (yB w.params)) "sum" = none:=by kernel_rfl
theorem R7(w:eA):TA (MA (boot_o_0 w.params)) "sum" = some (.builtin "sum"):=by kernel_rfl
theorem ik(w:eA):TA (MA (yB w.params)) "sorted" = none:=by kernel_rfl
theorem P7(w:eA):TA (MA (boot_o_0 w.params)) "sorted" = some (.builtin "sorted"):=by kernel_rfl
theorem jk(w:eA):TA (MA (yB w.params)) "str" = none:=by kernel_rfl
theorem Q7(w:eA):TA (MA (boot_o_0 w.params)) "str" = some (.type "str"):=by kernel_rfl
theorem bk(w:eA):TA (MA (yB w.params)) "list" = none:=by kernel_rfl
theorem J7(w:eA):TA (MA (boot_o_0 w.params)) "list" = some (.type "list"):=by kernel_rfl
theorem gk(w:eA):TA (MA (yB w.params)) "range" = none:=by kernel_rfl
theorem O7(w:eA):TA (MA (boot_o_0 w.params)) "range" = some (.type "range"):=by kernel_rfl
theorem Zj(w:eA):TA (MA (yB w.params)) "enumerate" = none:=by kernel_rfl
theorem H7(w:eA):TA (MA (boot_o_0 w.params)) "enumerate" = some (.type "enumerate"):=by kernel_rfl
theorem nk(w:eA):TA (MA (yB w.params)) "type" = none:=by kernel_rfl
theorem S7(w:eA):TA (MA (boot_o_0 w.params)) "type" = some (.type "type"):=by kernel_rfl
def xC(w:eA)(x:Str)(v:V)(y:dA):Prop:=TA (MA (yB w.params)) x=some y/\∀ h as F,kA (Bw w) h as F v y
def LF(w:eA)(x:Str)(v:V)(y:dA):Prop:=TA (MA (yB w.params)) x=none/\TA (MA (boot_o_0 w.params)) x=some y/\∀ h as F,kA (Bw w) h as F v y
theorem cN{α:Type}{P:Str->α->Prop}:∀ {l:List (Str×α)},l.foldr (fun p r=>P p.1 p.2/\r) True->∀ x p,l.lookup x=some p->P x p
 | [],_,x,p,h=>by simp at h
 | (n,q)::r,hl,x,p,h=>by
  by_cases e:x=n
  ·subst e
   rw [qD] at h
   cases h;exact hl.1
  ·rw [bD e] at h
   exact cN hl.2 x p h
theorem Pe(w:eA):xC w "in_table_b1" (.fn "in_table_b1") (.ref 73):=⟨oe w,fun _ _ _=>kA.fn (B:=Bw w) ZW⟩
theorem Se(w:eA):xC w "map_table_b3" (.fn "map_table_b3") (.ref 119):=⟨pe w,fun _ _ _=>kA.fn (B:=Bw w) aX⟩
theorem xe(w:eA):xC w "ISTERMINAL" (.fn "ISTERMINAL") (.ref 41):=⟨Td w,fun _ _ _=>kA.fn (B:=Bw w) LW⟩
theorem we(w:eA):xC w "ISNONTERMINAL" (.fn "ISNONTERMINAL") (.ref 48):=⟨Sd w,fun _ _ _=>kA.fn (B:=Bw w) KW⟩
theorem ve(w:eA):xC w "ISEOF" (.fn "ISEOF") (.ref 55):=⟨Rd w,fun _ _ _=>kA.fn (B:=Bw w) JW⟩
theorem Be(w:eA):xC w "_law_form" (.fn "_law_form") (.ref 274):=⟨Xd w,fun _ _ _=>kA.fn (B:=Bw w) OW⟩
theorem De(w:eA):xC w "_law_nothing" (.fn "_law_nothing") (.ref 281):=⟨Zd w,fun _ _ _=>kA.fn (B:=Bw w) QW⟩
theorem He(w:eA):xC w "_law_spelled" (.fn "_law_spelled") (.ref 286):=⟨de w,fun _ _ _=>kA.fn (B:=Bw w) VW⟩
theorem Ce(w:eA):xC w "_law_net" (.fn "_law_net") (.ref 293):=⟨Yd w,fun _ _ _=>kA.fn (B:=Bw w) PW⟩
theorem Ie(w:eA):xC w "_law_ways" (.fn "_law_ways") (.ref 298):=⟨ee w,fun _ _ _=>kA.fn (B:=Bw w) WW⟩
theorem Ee(w:eA):xC w "_law_plan" (.fn "_law_plan") (.ref 303):=⟨ae w,fun _ _ _=>kA.fn (B:=Bw w) RW⟩
theorem ze(w:eA):xC w "_law_alike" (.fn "_law_alike") (.ref 308):=⟨Vd w,fun _ _ _=>kA.fn (B:=Bw w) MW⟩
theorem Ge(w:eA):xC w "_law_seen" (.fn "_law_seen") (.ref 313):=⟨ce w,fun _ _ _=>kA.fn (B:=Bw w) UW⟩
theorem Fe(w:eA):xC w "_law_rows" (.fn "_law_rows") (.ref 318):=⟨be w,fun _ _ _=>kA.fn (B:=Bw w) SW⟩
theorem Ae(w:eA):xC w "_law_done" (.fn "_law_done") (.ref 323):=⟨Wd w,fun _ _ _=>kA.fn (B:=Bw w) NW⟩
theorem Je(w:eA):xC w "_law_written" (.fn "_law_written") (.ref 328):=⟨fe w,fun _ _ _=>kA.fn (B:=Bw w) XW⟩
theorem Qe(w:eA):xC w "law" (.fn "law") (.ref 333):=⟨uZ w,fun _ _ _=>kA.fn (B:=Bw w) aS⟩
theorem Me(w:eA):xC w "b1_set" (.g "b1_set") (.ref 63):=⟨ke w,fun _ _ _=>kA.g (B:=Bw w) YW⟩
theorem Oe(w:eA):xC w "b3_exceptions" (.g "b3_exceptions") (.ref 74):=⟨me w,fun _ _ _=>kA.g (B:=Bw w) ZR⟩
theorem se(w:eA):xC w "EXACT_TOKEN_TYPES" (.g "EXACT_TOKEN_TYPES") (.ref 32):=⟨Pd w,fun _ _ _=>kA.g (B:=Bw w) nP⟩
theorem Ke(w:eA):xC w "_name_disallowed_re" (.g "_name_disallowed_re") (.ref 129):=⟨ie w,fun _ _ _=>kA.g (B:=Bw w) XR⟩
theorem Le(w:eA):xC w "_value_disallowed_re" (.g "_value_disallowed_re") (.ref 134):=⟨je w,fun _ _ _=>kA.g (B:=Bw w) YR⟩
theorem ue(w:eA):xC w "Headers" (.ty "Headers") (.ref 263):=⟨Qd w,fun _ _ _=>kA.cls (B:=Bw w)⟩
theorem qe(w:eA):xC w "ENDMARKER" (.int 0) (.int 0 284):=⟨Od w,fun _ _ _=>.int _ _⟩
theorem ye(w:eA):xC w "NT_OFFSET" (.int 256) (.int 256 382):=⟨Ud w,fun _ _ _=>.int _ _⟩
theorem T7(w:eA):LF w "chr" (.bi "chr") (.builtin "chr"):=⟨Yj w,G7 w,fun _ _ _=>.bi _⟩
theorem Z7(w:eA):LF w "ord" (.bi "ord") (.builtin "ord"):=⟨fk w,N7 w,fun _ _ _=>.bi _⟩
theorem V7(w:eA):LF w "len" (.bi "len") (.builtin "len"):=⟨ak w,I7 w,fun _ _ _=>.bi _⟩
theorem Y7(w:eA):LF w "min" (.bi "min") (.builtin "min"):=⟨ek w,M7 w,fun _ _ _=>.bi _⟩
theorem X7(w:eA):LF w "max" (.bi "max") (.builtin "max"):=⟨ck w,K7 w,fun _ _ _=>.bi _⟩
theorem e8(w:eA):LF w "sum" (.bi "sum") (.builtin "sum"):=⟨kk w,R7 w,fun _ _ _=>.bi _⟩
theorem b8(w:eA):LF w "sorted" (.bi "sorted") (.builtin "sorted"):=⟨ik w,P7 w,fun _ _ _=>.bi _⟩
theorem c8(w:eA):LF w "str" (.ty "str") (.type "str"):=⟨jk w,Q7 w,fun _ _ _=>.ty _ (by decide)⟩
theorem W7(w:eA):LF w "list" (.ty "list") (.type "list"):=⟨bk w,J7 w,fun _ _ _=>.ty _ (by decide)⟩
theorem a8(w:eA):LF w "range" (.ty "range") (.type "range"):=⟨gk w,O7 w,fun _ _ _=>.ty _ (by decide)⟩
theorem U7(w:eA):LF w "enumerate" (.ty "enumerate") (.type "enumerate"):=⟨Zj w,H7 w,fun _ _ _=>.ty _ (by decide)⟩
theorem f8(w:eA):LF w "type" (.ty "type") (.type "type"):=⟨nk w,S7 w,fun _ _ _=>.ty _ (by decide)⟩
theorem ef(w:eA):∀ x p,YS.lookup x=some p->xC w x p.1 p.2:=cN (P:=fun x (p:V×dA)=>xC w x p.1 p.2) ⟨Pe w,Se w,xe w,we w,ve w,Be w,De w,He w,Ce w,Ie w,Ee w,ze w,Ge w,Fe w,Ae w,Je w,Qe w,Me w,Oe w,se w,Ke w,Le w,ue w,qe w,ye w,trivial⟩
theorem U8(w:eA):∀ x p,oS.lookup x=some p->LF w x p.1 p.2:=cN (P:=fun x (p:V×dA)=>LF w x p.1 p.2) ⟨T7 w,Z7 w,V7 w,Y7 w,X7 w,e8 w,b8 w,c8 w,W7 w,a8 w,U7 w,f8 w,trivial⟩
theorem Po{w:eA}{p q:pA}{es:List pB}{kvs:List (Str×dA)}(h:Pairs (PySem.strKind p w) es kvs):Pairs (PySem.strKind q w) es kvs:=by
 induction h with
 | nil=>exact .nil
 | cons h1 h2 _ ih=>exact .cons h1 h2 ih
theorem BY{w:eA}{p q:pA}{o:Obj}{kvs:List (Str×dA)}(h:o.IsDictOf (PySem.strKind p w) kvs):o.IsDictOf (PySem.strKind q w) kvs:=by
 obtain⟨es,ep,h1,h2,h3,h4,h5⟩:=h
 exact⟨es,ep,h1,h2,h3,Po h4,h5⟩
theorem KP(w:eA){prog:pA}:ED (Bw w) prog w:=⟨fun _ _=>⟨BY,BY⟩,3,_,by decide,IU w⟩
theorem DZ(w:eA){prog:pA}:∀ x v,ZP x=some v->∀ (A:xA) (s:iA) (env:Env) (Q:dA->iA->Prop) (E:dA->iA->Prop),env.scope.kind = .function->env.kindOf x=some .globalImplicit ->
  env.globals=(Bw w).gA->env.builtins=(Bw w).bA->(Bw w).objs.In s.heap->(∀ y,(∀ h as F,kA (Bw w) h as F v y)->Q y s)->oA (model prog w) A (loadName env x) Q E s:=by
 intro x v hv A s env Q E hk hx hg hb X hQ
 have n3:s.heap.Ns env.globals (fun x=>TA (MA (yB w.params)) x):=by rw [hg];exact pJ X (IU w) (B2 w)
 have n0:s.heap.Ns env.builtins (fun x=>TA (MA (boot_o_0 w.params)) x):=by rw [hb];exact pJ X (Gn w) (Rk w)
 unfold loadName
 simp only [Env.blockKind,hk,hx,ScopeKind.isAnnotationScope,TO,jL,if_false]
 unfold ZP at hv
 rcases h1:YS.lookup x with _|p
 ·rw [h1] at hv
  rcases h2:oS.lookup x with _|p
  ·rw [h2] at hv;exact wA hv
  ·rw [h2] at hv
   cases hv
   obtain⟨e1,e2,r⟩:=U8 w x p h2
   exact loadGlobal_builtin n3 e1 n0 e2 (hQ _ r)
 ·rw [h1] at hv
  cases hv
  obtain⟨e,r⟩:=ef w x p h1
  exact loadGlobal_global n3 e (hQ _ r)
end Mine
end
section
namespace Mine
open Ev
abbrev PC(w:eA)(prog:pA)(d:xD)(fd:FuncData):Prop:=∀ (A:xA) (F:cA->Prop) (s:iA) (as:List cA) (st:Ev.St) vs xs ks kxs b,Ev.Inv (Bw w) s.heap as F st->vA (Bw w) s.heap as F vs xs->VE (Bw w) s.heap as F ks kxs->lG d vs ks=some b ->
  ∀ (Q:List (Str×dA)->iA->Prop) (E:dA->iA->Prop),(∀ binds h',VE (Bw w) h' as F (EG d b) binds->(∀ a o,s.heap.get? a=some o->h'.get? a=some o)->Q binds { s with heap:=h' }) ->
  oA (model prog w) A (bindArgs fd ⟨xs,kxs⟩) Q E s
theorem mt{w:eA}{h:Heap}{as:List cA}{F:cA->Prop}:∀ {ps:List Str}{vs:List V}{xs:List dA},ps.length=vs.length->vA (Bw w) h as F vs xs->VE (Bw w) h as F (ps.zip vs) (ps.zip xs):=by
 intro ps
 induction ps with
 | nil=>exact fun _ _=>⟨rfl,.nil⟩
 | cons p ps ih =>
  intro vs xs h rs
  rcases rs with _|⟨r,rs⟩
  ·contradiction
  ·obtain⟨h1,h2⟩:=ih (Nat.succ.inj h) rs
   exact⟨congrArg (p :: ·) h1,.cons r h2⟩
theorem HD{w:eA}{prog:pA}{d:xD}{fd:FuncData}(hd:d.dflt=[])(hk:d.kwonly=[])(hw:d.kwarg=none)(hb:∀ xs:List dA,xs.length=d.params.length->bindArgs fd ⟨xs,[]⟩=pure (d.params.zip xs)):PC w prog d fd:=by
 intro A F s as st vs xs ks kxs b i rs rk hv Q E hQ
 unfold lG at hv
 simp only [hd,hk,QO,bC] at hv
 split at hv
 ·rename_i hc
  cases hv
  have hks:ks=[]:=by simpa using hc.2.2.symm
  subst hks
  cases cI rk
  have hlen:xs.length=d.params.length:=by rw [<-rs.length];exact hc.2.1
  rw [hb xs hlen]
  refine JA (hQ _ s.heap ?_ fun _ _ e=>e)
  unfold EG
  rw [hw]
  simp only [bC]
  exact mt hc.2.1.symm rs
 ·exact wA hv
theorem NE{α:Type}{l:List α}(h:l.length=1):∃ x,l=[x]:=by
 rcases l with _|⟨x,r⟩
 ·cases h
 ·obtain rfl:=nL (Nat.succ.inj h)
  exact⟨x,rfl⟩
theorem kH{α:Type}{l:List α}(h:l.length=2):∃ x y,l=[x,y]:=by
 rcases l with _|⟨x,r⟩
 ·cases h
 ·obtain⟨y,rfl⟩:=NE (Nat.succ.inj h)
  exact⟨x,y,rfl⟩
theorem DT{α:Type}{l:List α}(h:l.length=3):∃ x y z,l=[x,y,z]:=by
 rcases l with _|⟨x,r⟩
 ·contradiction
 ·obtain⟨y,z,rfl⟩:=kH (Nat.succ.inj h)
  exact⟨x,y,z,rfl⟩
noncomputable def fdOf(o:Obj):FuncData:=match o.data with | .func fd=>fd|_=>default
theorem E8(w:eA){prog:pA}:PC w prog (uA (stm 57)) (fdOf (HK w.params)):=by
 refine HD (by kernel_rfl) (by kernel_rfl) (by kernel_rfl) fun xs h=>?_
 have h1:(uA (stm 57)).params.length=1:=by kernel_rfl
 rw [h1] at h
 obtain⟨x,rfl⟩:=NE h
 kernel_rfl
theorem Si(w:eA):(KF w.params).lookup 73=some (HK w.params):=by kernel_rfl
theorem Uh(w:eA):(KF w.params).lookup 72=some (pO w.params):=by kernel_rfl
theorem xd(w:eA){prog:pA}:nC (Bw w) prog w 73 (uA (stm 57)) (HK w.params) (fdOf (HK w.params)) where
 look:=Si w
 data:=rfl
 body:=rfl
 scope:=rfl
 globals:=rfl
 builtins:=rfl
 closure:=rfl
 code:=fun h X=>⟨72,pO w.params,_,_,rfl,X _ _ (Uh w),rfl,rfl⟩
 bind:=E8 w
theorem I8(w:eA){prog:pA}:PC w prog (uA (stm 59)) (fdOf (TN w.params)):=by
 refine HD (by kernel_rfl) (by kernel_rfl) (by kernel_rfl) fun xs h=>?_
 have h1:(uA (stm 59)).params.length=1:=by kernel_rfl
 rw [h1] at h
 obtain⟨x,rfl⟩:=NE h
 kernel_rfl
theorem Wi(w:eA):(KF w.params).lookup 119=some (TN w.params):=by kernel_rfl
theorem Yh(w:eA):(KF w.params).lookup 118=some (bU w.params):=by kernel_rfl
theorem Bd(w:eA){prog:pA}:nC (Bw w) prog w 119 (uA (stm 59)) (TN w.params) (fdOf (TN w.params)) where
 look:=Wi w
 data:=rfl
 body:=rfl
 scope:=rfl
 globals:=rfl
 builtins:=rfl
 closure:=rfl
 code:=fun h X=>⟨118,bU w.params,_,_,rfl,X _ _ (Yh w),rfl,rfl⟩
 bind:=I8 w
theorem n8(w:eA){prog:pA}:PC w prog (uA (stm 52)) (fdOf (qI w.params)):=by
 refine HD (by kernel_rfl) (by kernel_rfl) (by kernel_rfl) fun xs h=>?_
 have h1:(uA (stm 52)).params.length=1:=by kernel_rfl
 rw [h1] at h
 obtain⟨x,rfl⟩:=NE h
 kernel_rfl
theorem Ei(w:eA):(KF w.params).lookup 41=some (qI w.params):=by kernel_rfl
theorem Hh(w:eA):(KF w.params).lookup 40=some (EK w.params):=by kernel_rfl
theorem Xc(w:eA){prog:pA}:nC (Bw w) prog w 41 (uA (stm 52)) (qI w.params) (fdOf (qI w.params)) where
 look:=Ei w
 data:=rfl
 body:=rfl
 scope:=rfl
 globals:=rfl
 builtins:=rfl
 closure:=rfl
 code:=fun h X=>⟨40,EK w.params,_,_,rfl,X _ _ (Hh w),rfl,rfl⟩
 bind:=n8 w
theorem m8(w:eA){prog:pA}:PC w prog (uA (stm 53)) (fdOf (rI w.params)):=by
 refine HD (by kernel_rfl) (by kernel_rfl) (by kernel_rfl) fun xs h=>?_
 have h1:(uA (stm 53)).params.length=1:=by kernel_rfl
 rw [h1] at h
 obtain⟨x,rfl⟩:=NE h
 kernel_rfl
theorem Di(w:eA):(KF w.params).lookup 48=some (rI w.params):=by kernel_rfl
theorem Gh(w:eA):(KF w.params).lookup 47=some (FK w.params):=by kernel_rfl
theorem Wc(w:eA){prog:pA}:nC (Bw w) prog w 48 (uA (stm 53)) (rI w.params) (fdOf (rI w.params)) where
 look:=Di w
 data:=rfl
 body:=rfl
 scope:=rfl
 globals:=rfl
 builtins:=rfl
 closure:=rfl
 code:=fun h X=>⟨47,FK w.params,_,_,rfl,X _ _ (Gh w),rfl,rfl⟩
 bind:=m8 w
theorem l8(w:eA){prog:pA}:PC w prog (uA (stm 54)) (fdOf (sI w.params)):=by
 refine HD (by kernel_rfl) (by kernel_rfl) (by kernel_rfl) fun xs h=>?_
 have h1:(uA (stm 54)).params.length=1:=by kernel_rfl
 rw [h1] at h
 obtain⟨x,rfl⟩:=NE h
 kernel_rfl
theorem Ci(w:eA):(KF w.params).lookup 55=some (sI w.params):=by kernel_rfl
theorem Fh(w:eA):(KF w.params).lookup 54=some (GK w.params):=by kernel_rfl
theorem Vc(w:eA){prog:pA}:nC (Bw w) prog w 55 (uA (stm 54)) (sI w.params) (fdOf (sI w.params)) where
 look:=Ci w
 data:=rfl
 body:=rfl
 scope:=rfl
 globals:=rfl
 builtins:=rfl
 closure:=rfl
 code:=fun h X=>⟨54,GK w.params,_,_,rfl,X _ _ (Fh w),rfl,rfl⟩
 bind:=l8 w
theorem q8(w:eA){prog:pA}:PC w prog (uA (stm 67)) (fdOf (VN w.params)):=by
 refine HD (by kernel_rfl) (by kernel_rfl) (by kernel_rfl) fun xs h=>?_
 have h1:(uA (stm 67)).params.length=2:=by kernel_rfl
 rw [h1] at h
 obtain⟨x,y,rfl⟩:=kH h
 kernel_rfl
theorem Hi(w:eA):(KF w.params).lookup 274=some (VN w.params):=by kernel_rfl
theorem Kh(w:eA):(KF w.params).lookup 273=some (lU w.params):=by kernel_rfl
theorem bd(w:eA){prog:pA}:nC (Bw w) prog w 274 (uA (stm 67)) (VN w.params) (fdOf (VN w.params)) where
 look:=Hi w
 data:=rfl
 body:=rfl
 scope:=rfl
 globals:=rfl
 builtins:=rfl
 closure:=rfl
 code:=fun h X=>⟨273,lU w.params,_,_,rfl,X _ _ (Kh w),rfl,rfl⟩
 bind:=q8 w
theorem s8(w:eA){prog:pA}:PC w prog (uA (stm 68)) (fdOf (WN w.params)):=by
 refine HD (by kernel_rfl) (by kernel_rfl) (by kernel_rfl) fun xs h=>?_
 have h1:(uA (stm 68)).params.length=1:=by kernel_rfl
 rw [h1] at h
 obtain⟨x,rfl⟩:=NE h
 kernel_rfl
theorem Ji(w:eA):(KF w.params).lookup 281=some (WN w.params):=by kernel_rfl
theorem Mh(w:eA):(KF w.params).lookup 280=some (mU w.params):=by kernel_rfl
theorem jd(w:eA){prog:pA}:nC (Bw w) prog w 281 (uA (stm 68)) (WN w.params) (fdOf (WN w.params)) where
 look:=Ji w
 data:=rfl
 body:=rfl
 scope:=rfl
 globals:=rfl
 builtins:=rfl
 closure:=rfl
 code:=fun h X=>⟨280,mU w.params,_,_,rfl,X _ _ (Mh w),rfl,rfl⟩
 bind:=s8 w
theorem x8(w:eA){prog:pA}:PC w prog (uA (stm 69)) (fdOf (XN w.params)):=by
 refine HD (by kernel_rfl) (by kernel_rfl) (by kernel_rfl) fun xs h=>?_
 have h1:(uA (stm 69)).params.length=2:=by kernel_rfl
 rw [h1] at h
 obtain⟨x,y,rfl⟩:=kH h
 kernel_rfl
theorem Ni(w:eA):(KF w.params).lookup 286=some (XN w.params):=by kernel_rfl
theorem Qh(w:eA):(KF w.params).lookup 285=some (nU w.params):=by kernel_rfl
theorem od(w:eA){prog:pA}:nC (Bw w) prog w 286 (uA (stm 69)) (XN w.params) (fdOf (XN w.params)) where
 look:=Ni w
 data:=rfl
 body:=rfl
 scope:=rfl
 globals:=rfl
 builtins:=rfl
 closure:=rfl
 code:=fun h X=>⟨285,nU w.params,_,_,rfl,X _ _ (Qh w),rfl,rfl⟩
 bind:=x8 w
theorem r8(w:eA){prog:pA}:PC w prog (uA (stm 70)) (fdOf (YN w.params)):=by
 refine HD (by kernel_rfl) (by kernel_rfl) (by kernel_rfl) fun xs h=>?_
 have h1:(uA (stm 70)).params.length=1:=by kernel_rfl
 rw [h1] at h
 obtain⟨x,rfl⟩:=NE h
 kernel_rfl
theorem Ii(w:eA):(KF w.params).lookup 293=some (YN w.params):=by kernel_rfl
theorem Lh(w:eA):(KF w.params).lookup 292=some (oU w.params):=by kernel_rfl
theorem ed(w:eA){prog:pA}:nC (Bw w) prog w 293 (uA (stm 70)) (YN w.params) (fdOf (YN w.params)) where
 look:=Ii w
 data:=rfl
 body:=rfl
 scope:=rfl
 globals:=rfl
 builtins:=rfl
 closure:=rfl
 code:=fun h X=>⟨292,oU w.params,_,_,rfl,X _ _ (Lh w),rfl,rfl⟩
 bind:=r8 w
theorem y8(w:eA){prog:pA}:PC w prog (uA (stm 71)) (fdOf (ZN w.params)):=by
 refine HD (by kernel_rfl) (by kernel_rfl) (by kernel_rfl) fun xs h=>?_
 have h1:(uA (stm 71)).params.length=2:=by kernel_rfl
 rw [h1] at h
 obtain⟨x,y,rfl⟩:=kH h
 kernel_rfl
theorem Oi(w:eA):(KF w.params).lookup 298=some (ZN w.params):=by kernel_rfl
theorem Rh(w:eA):(KF w.params).lookup 297=some (pU w.params):=by kernel_rfl
theorem pd(w:eA){prog:pA}:nC (Bw w) prog w 298 (uA (stm 71)) (ZN w.params) (fdOf (ZN w.params)) where
 look:=Oi w
 data:=rfl
 body:=rfl
 scope:=rfl
 globals:=rfl
 builtins:=rfl
 closure:=rfl
 code:=fun h X=>⟨297,pU w.params,_,_,rfl,X _ _ (Rh w),rfl,rfl⟩
 bind:=y8 w
theorem u8(w:eA){prog:pA}:PC w prog (uA (stm 72)) (fdOf (aO w.params)):=by
 refine HD (by kernel_rfl) (by kernel_rfl) (by kernel_rfl) fun xs h=>?_
 have h1:(uA (stm 72)).params.length=2:=by kernel_rfl
 rw [h1] at h
 obtain⟨x,y,rfl⟩:=kH h
 kernel_rfl
theorem Ki(w:eA):(KF w.params).lookup 303=some (aO w.params):=by kernel_rfl
theorem Nh(w:eA):(KF w.params).lookup 302=some (qU w.params):=by kernel_rfl
theorem kd(w:eA){prog:pA}:nC (Bw w) prog w 303 (uA (stm 72)) (aO w.params) (fdOf (aO w.params)) where
 look:=Ki w
 data:=rfl
 body:=rfl
 scope:=rfl
 globals:=rfl
 builtins:=rfl
 closure:=rfl
 code:=fun h X=>⟨302,qU w.params,_,_,rfl,X _ _ (Nh w),rfl,rfl⟩
 bind:=u8 w
theorem o8(w:eA){prog:pA}:PC w prog (uA (stm 73)) (fdOf (bO w.params)):=by
 refine HD (by kernel_rfl) (by kernel_rfl) (by kernel_rfl) fun xs h=>?_
 have h1:(uA (stm 73)).params.length=2:=by kernel_rfl
 rw [h1] at h
 obtain⟨x,y,rfl⟩:=kH h
 kernel_rfl
theorem Fi(w:eA):(KF w.params).lookup 308=some (bO w.params):=by kernel_rfl
theorem Ih(w:eA):(KF w.params).lookup 307=some (rU w.params):=by kernel_rfl
theorem Yc(w:eA){prog:pA}:nC (Bw w) prog w 308 (uA (stm 73)) (bO w.params) (fdOf (bO w.params)) where
 look:=Fi w
 data:=rfl
 body:=rfl
 scope:=rfl
 globals:=rfl
 builtins:=rfl
 closure:=rfl
 code:=fun h X=>⟨307,rU w.params,_,_,rfl,X _ _ (Ih w),rfl,rfl⟩
 bind:=o8 w
theorem w8(w:eA){prog:pA}:PC w prog (uA (stm 74)) (fdOf (cO w.params)):=by
 refine HD (by kernel_rfl) (by kernel_rfl) (by kernel_rfl) fun xs h=>?_
 have h1:(uA (stm 74)).params.length=1:=by kernel_rfl
 rw [h1] at h
 obtain⟨x,rfl⟩:=NE h
 kernel_rfl
theorem Mi(w:eA):(KF w.params).lookup 313=some (cO w.params):=by kernel_rfl
theorem Ph(w:eA):(KF w.params).lookup 312=some (sU w.params):=by kernel_rfl
theorem md(w:eA){prog:pA}:nC (Bw w) prog w 313 (uA (stm 74)) (cO w.params) (fdOf (cO w.params)) where
 look:=Mi w
 data:=rfl
 body:=rfl
 scope:=rfl
 globals:=rfl
 builtins:=rfl
 closure:=rfl
 code:=fun h X=>⟨312,sU w.params,_,_,rfl,X _ _ (Ph w),rfl,rfl⟩
 bind:=w8 w
theorem v8(w:eA){prog:pA}:PC w prog (uA (stm 75)) (fdOf (eO w.params)):=by
 refine HD (by kernel_rfl) (by kernel_rfl) (by kernel_rfl) fun xs h=>?_
 have h1:(uA (stm 75)).params.length=1:=by kernel_rfl
 rw [h1] at h
 obtain⟨x,rfl⟩:=NE h
 kernel_rfl
theorem Li(w:eA):(KF w.params).lookup 318=some (eO w.params):=by kernel_rfl
theorem Oh(w:eA):(KF w.params).lookup 317=some (tU w.params):=by kernel_rfl
theorem ld(w:eA){prog:pA}:nC (Bw w) prog w 318 (uA (stm 75)) (eO w.params) (fdOf (eO w.params)) where
 look:=Li w
 data:=rfl
 body:=rfl
 scope:=rfl
 globals:=rfl
 builtins:=rfl
 closure:=rfl
 code:=fun h X=>⟨317,tU w.params,_,_,rfl,X _ _ (Oh w),rfl,rfl⟩
 bind:=v8 w
theorem p8(w:eA){prog:pA}:PC w prog (uA (stm 76)) (fdOf (gO w.params)):=by
 refine HD (by kernel_rfl) (by kernel_rfl) (by kernel_rfl) fun xs h=>?_
 have h1:(uA (stm 76)).params.length=2:=by kernel_rfl
 rw [h1] at h
 obtain⟨x,y,rfl⟩:=kH h
 kernel_rfl
theorem Gi(w:eA):(KF w.params).lookup 323=some (gO w.params):=by kernel_rfl
theorem Jh(w:eA):(KF w.params).lookup 322=some (uU w.params):=by kernel_rfl
theorem Zc(w:eA){prog:pA}:nC (Bw w) prog w 323 (uA (stm 76)) (gO w.params) (fdOf (gO w.params)) where
 look:=Gi w
 data:=rfl
 body:=rfl
 scope:=rfl
 globals:=rfl
 builtins:=rfl
 closure:=rfl
 code:=fun h X=>⟨322,uU w.params,_,_,rfl,X _ _ (Jh w),rfl,rfl⟩
 bind:=p8 w
theorem z8(w:eA){prog:pA}:PC w prog (uA (stm 77)) (fdOf (hO w.params)):=by
 refine HD (by kernel_rfl) (by kernel_rfl) (by kernel_rfl) fun xs h=>?_
 have h1:(uA (stm 77)).params.length=2:=by kernel_rfl
 rw [h1] at h
 obtain⟨x,y,rfl⟩:=kH h
 kernel_rfl
theorem Qi(w:eA):(KF w.params).lookup 328=some (hO w.params):=by kernel_rfl
theorem Sh(w:eA):(KF w.params).lookup 327=some (vU w.params):=by kernel_rfl
theorem qd(w:eA){prog:pA}:nC (Bw w) prog w 328 (uA (stm 77)) (hO w.params) (fdOf (hO w.params)) where
 look:=Qi w
 data:=rfl
 body:=rfl
 scope:=rfl
 globals:=rfl
 builtins:=rfl
 closure:=rfl
 code:=fun h X=>⟨327,vU w.params,_,_,rfl,X _ _ (Sh w),rfl,rfl⟩
 bind:=z8 w
theorem H8(w:eA){prog:pA}:PC w prog (uA (stm 78)) (fdOf (iO w.params)):=by
 refine HD (by kernel_rfl) (by kernel_rfl) (by kernel_rfl) fun xs h=>?_
 have h1:(uA (stm 78)).params.length=1:=by kernel_rfl
 rw [h1] at h
 obtain⟨x,rfl⟩:=NE h
 kernel_rfl
theorem Vi(w:eA):(KF w.params).lookup 333=some (iO w.params):=by kernel_rfl
theorem Xh(w:eA):(KF w.params).lookup 332=some (wU w.params):=by kernel_rfl
theorem Ad(w:eA){prog:pA}:nC (Bw w) prog w 333 (uA (stm 78)) (iO w.params) (fdOf (iO w.params)) where
 look:=Vi w
 data:=rfl
 body:=rfl
 scope:=rfl
 globals:=rfl
 builtins:=rfl
 closure:=rfl
 code:=fun h X=>⟨332,wU w.params,_,_,rfl,X _ _ (Xh w),rfl,rfl⟩
 bind:=H8 w
theorem D8(w:eA){prog:pA}:PC w prog (uA (meth 65 7)) (fdOf (fM w.params)):=by
 refine HD (by kernel_rfl) (by kernel_rfl) (by kernel_rfl) fun xs h=>?_
 have h1:(uA (meth 65 7)).params.length=2:=by kernel_rfl
 rw [h1] at h
 obtain⟨x,y,rfl⟩:=kH h
 kernel_rfl
theorem Ri(w:eA):(KF w.params).lookup 202=some (fM w.params):=by kernel_rfl
theorem Th(w:eA):(KF w.params).lookup 201=some (eU w.params):=by kernel_rfl
theorem vd(w:eA){prog:pA}:nC (Bw w) prog w 202 (uA (meth 65 7)) (fM w.params) (fdOf (fM w.params)) where
 look:=Ri w
 data:=rfl
 body:=rfl
 scope:=rfl
 globals:=rfl
 builtins:=rfl
 closure:=rfl
 code:=fun h X=>⟨201,eU w.params,_,_,rfl,X _ _ (Th w),rfl,rfl⟩
 bind:=D8 w
theorem F8(w:eA){prog:pA}:PC w prog (uA (meth 65 11)) (fdOf (iM w.params)):=by
 refine HD (by kernel_rfl) (by kernel_rfl) (by kernel_rfl) fun xs h=>?_
 have h1:(uA (meth 65 11)).params.length=1:=by kernel_rfl
 rw [h1] at h
 obtain⟨x,rfl⟩:=NE h
 kernel_rfl
theorem Ti(w:eA):(KF w.params).lookup 227=some (iM w.params):=by kernel_rfl
theorem Vh(w:eA):(KF w.params).lookup 226=some (iU w.params):=by kernel_rfl
theorem yd(w:eA){prog:pA}:nC (Bw w) prog w 227 (uA (meth 65 11)) (iM w.params) (fdOf (iM w.params)) where
 look:=Ti w
 data:=rfl
 body:=rfl
 scope:=rfl
 globals:=rfl
 builtins:=rfl
 closure:=rfl
 code:=fun h X=>⟨226,iU w.params,_,_,rfl,X _ _ (Vh w),rfl,rfl⟩
 bind:=F8 w
theorem J8(w:eA){prog:pA}:PC w prog (uA (meth 65 15)) (fdOf (jM w.params)):=by
 refine HD (by kernel_rfl) (by kernel_rfl) (by kernel_rfl) fun xs h=>?_
 have h1:(uA (meth 65 15)).params.length=3:=by kernel_rfl
 rw [h1] at h
 obtain⟨x,y,z,rfl⟩:=DT h
 kernel_rfl
theorem Xi(w:eA):(KF w.params).lookup 253=some (jM w.params):=by kernel_rfl
theorem Zh(w:eA):(KF w.params).lookup 252=some (jU w.params):=by kernel_rfl
theorem Cd(w:eA){prog:pA}:nC (Bw w) prog w 253 (uA (meth 65 15)) (jM w.params) (fdOf (jM w.params)) where
 look:=Xi w
 data:=rfl
 body:=rfl
 scope:=rfl
 globals:=rfl
 builtins:=rfl
 closure:=rfl
 code:=fun h X=>⟨252,jU w.params,_,_,rfl,X _ _ (Zh w),rfl,rfl⟩
 bind:=J8 w
theorem G8(w:eA){prog:pA}:PC w prog (uA (meth 65 9)) (fdOf (gM w.params)):=by
 refine HD (by kernel_rfl) (by kernel_rfl) (by kernel_rfl) fun xs h=>?_
 have h1:(uA (meth 65 9)).params.length=1:=by kernel_rfl
 rw [h1] at h
 obtain⟨x,rfl⟩:=NE h
 kernel_rfl
theorem Ui(w:eA):(KF w.params).lookup 215=some (gM w.params):=by kernel_rfl
theorem Wh(w:eA):(KF w.params).lookup 214=some (gU w.params):=by kernel_rfl
theorem zd(w:eA){prog:pA}:nC (Bw w) prog w 215 (uA (meth 65 9)) (gM w.params) (fdOf (gM w.params)) where
 look:=Ui w
 data:=rfl
 body:=rfl
 scope:=rfl
 globals:=rfl
 builtins:=rfl
 closure:=rfl
 code:=fun h X=>⟨214,gU w.params,_,_,rfl,X _ _ (Wh w),rfl,rfl⟩
 bind:=G8 w
end Mine
end
section
namespace Mine
open Ev
theorem u9{w:eA}{h:Heap}{as:List cA}{F:cA->Prop}{n:Str}{v:V}{kxs:List (Str×dA)}(r:VE (Bw w) h as F [(n,v)] kxs):∃ y,kxs=[(n,y)]/\kA (Bw w) h as F v y:=by
 obtain⟨h1,h2⟩:=r
 obtain⟨⟨m,y⟩,rfl,h3⟩:=x6.mp (show kxs.map (·.1)=[n] from h1)
 obtain rfl:m=n:=h3
 obtain⟨x,e,r⟩:=xM h2
 obtain rfl:y=x:=(List.cons.inj e).1
 exact⟨y,rfl,r⟩
theorem rp:(uA (meth 65 1)).params=([("self":Str),"value"]:List Str)/\(uA (meth 65 1)).kwonly=([("name":Str)]:List Str)/\(uA (meth 65 1)).dflt.length=0/\(uA (meth 65 1)).kwarg=none:=⟨by kernel_rfl,by kernel_rfl,by kernel_rfl,by kernel_rfl⟩
theorem B8(w:eA){prog:pA}:PC w prog (uA (meth 65 1)) (fdOf (oK w.params)):=by
 intro A F s as st vs xs ks kxs b i rs rk hv Q E hQ
 obtain⟨p1,p2,p3,p4⟩:=rp
 have p3':(uA (meth 65 1)).dflt=[]:=nL p3
 unfold lG at hv
 simp only [p1,p2,p3',QO,bC] at hv
 split at hv
 ·rename_i hc
  cases hv
  obtain⟨v1,v2,rfl⟩:=kH (l:=vs) hc.2.1
  obtain⟨x,y,rfl,r1,r2⟩:=yM rs
  obtain⟨⟨m,v⟩,rfl,hm⟩:=x6.mp (show ks.map (·.1)=[("name":Str)] from hc.2.2.symm)
  obtain rfl:m=("name":Str):=hm
  obtain⟨z,rfl,r3⟩:=u9 rk
  have e:bindArgs (fdOf (oK w.params)) ⟨[x,y],[(("name":Str),z)]⟩=pure [(("self":Str),x),("value",y),("name",z)]:=by kernel_rfl
  rw [e]
  refine JA (hQ _ s.heap ?_ fun _ _ e=>e)
  unfold EG
  rw [p4]
  exact⟨rfl,.cons r1 (.cons r2 (.cons r3 .nil))⟩
 ·cases hv
theorem tp:(uA (meth 65 8)).params=([("self":Str),"name","default"]:List Str)/\(uA (meth 65 8)).kwonly=[]/\(uA (meth 65 8)).dflt=[.none]/\(uA (meth 65 8)).kwarg=none:=⟨by kernel_rfl,by kernel_rfl,by kernel_rfl,by kernel_rfl⟩
theorem O0(w:eA):(KF w.params).lookup 203=some (UN w.params):=by kernel_rfl
theorem UQ{α:Type}{M:Model}{A:xA}{t t':Sem α}{Q:α->iA->Prop}{E:dA->iA->Prop}{s:iA}(e:t=t')(h:oA M A t' Q E s):oA M A t Q E s:=by rw [e];exact h
theorem cf(w:eA){s:iA}{o:Obj}{n:Nat}(ho:s.heap.get? 203=some o)(hs:o.data = .seq #[.none] n)(x y:dA) :
  BindsTo s (fdOf (rJ w.params)) ⟨[x,y],[]⟩ [("self",x),("name",y),("default",.none)]:=by
 intro M A E Q hq
 show oA M A (seqItems? (.ref 203)>>=_) Q E s
 refine rA (pR ho hs ?_)
 exact UQ (by kernel_rfl) (JA hq)
theorem bf(w:eA){s:iA}{o:Obj}{n:Nat}(ho:s.heap.get? 203=some o)(hs:o.data = .seq #[.none] n)(x y z:dA) :
  BindsTo s (fdOf (rJ w.params)) ⟨[x,y,z],[]⟩ [("self",x),("name",y),("default",z)]:=by
 intro M A E Q hq
 show oA M A (seqItems? (.ref 203)>>=_) Q E s
 refine rA (pR ho hs ?_)
 exact UQ (by kernel_rfl) (JA hq)
theorem ei:∀ n,n<=3->n+(1 - (1 - (3 - n)))=3->n=2\/n=3:=by decide
theorem C8(w:eA){prog:pA}:PC w prog (uA (meth 65 8)) (fdOf (rJ w.params)):=by
 intro A F s as st vs xs ks kxs b i rs rk hv Q E hQ
 obtain⟨p1,p2,p3,p4⟩:=tp
 unfold lG at hv
 simp only [p1,p2,p3] at hv
 split at hv
 ·rename_i hc
  cases hv
  have hks:ks=[]:=by simpa using hc.2.2.symm
  subst hks
  cases cI rk
  have hd:=(i.base 203 _ (O0 w)).1
  have hlen:vs.length=2\/vs.length=3:=by
   have h1:=hc.1
   have h2:=hc.2.1
   simp at h1 h2
   exact ei _ h1 h2
  rcases hlen with hl|hl
  ·obtain⟨v1,v2,rfl⟩:=kH hl
   obtain⟨x,y,rfl,r1,r2⟩:=yM rs
   refine cf w hd rfl x y _ A E Q (hQ _ s.heap ?_ fun _ _ e=>e)
   unfold EG
   rw [p4]
   exact⟨rfl,.cons r1 (.cons r2 (.cons .none .nil))⟩
  ·obtain⟨v1,v2,v3,rfl⟩:=DT hl
   cases rs with
   | cons r1 rs =>
    obtain⟨y,z,rfl,r2,r3⟩:=yM rs
    rename_i x
    refine bf w hd rfl x y z _ A E Q (hQ _ s.heap ?_ fun _ _ e=>e)
    unfold EG
    rw [p4]
    exact⟨rfl,.cons r1 (.cons r2 (.cons r3 .nil))⟩
 ·cases hv
theorem qp:(uA (meth 65 16)).params=([("self":Str),"_name","_value"]:List Str)/\(uA (meth 65 16)).kwonly=[]/\(uA (meth 65 16)).dflt.length=0/\(uA (meth 65 16)).kwarg=some ("_params":Str):=⟨by kernel_rfl,by kernel_rfl,by kernel_rfl,by kernel_rfl⟩
theorem A8(w:eA){prog:pA}:PC w prog (uA (meth 65 16)) (fdOf (AK w.params)):=by
 intro A F s as st vs xs ks kxs b i rs rk hv Q E hQ
 obtain⟨p1,p2,p3,p4⟩:=qp
 have p3':(uA (meth 65 16)).dflt=[]:=nL p3
 unfold lG at hv
 simp only [p1,p2,p3',QO,bC] at hv
 split at hv
 ·rename_i hc
  cases hv
  have hks:ks=[]:=by simpa using hc.2.2.symm
  subst hks
  cases cI rk
  obtain⟨v1,v2,v3,rfl⟩:=DT (l:=vs) hc.2.1
  cases rs with
  | cons r1 rs =>
   obtain⟨y,z,rfl,r2,r3⟩:=yM rs
   rename_i x
   have e:bindArgs (fdOf (AK w.params)) ⟨[x,y,z],[]⟩=(do let d <- alloc { cls:=.type "dict",data:=.dict #[] };pure [(("self":Str),x),("_name",y),("_value",z),("_params",.ref d)]):=by kernel_rfl
   rw [e]
   refine rA (wpAny_alloc (JA ?_))
   have f:=i.fresh (RC s.heap)
   have k:=UC s.heap { cls:=.type "dict",data:=.dict #[] }
   have hs:(s.heap.objs.size==cG)=false:=by
    have h1:=(i.base 203 _ (O0 w)).1
    have h2:203<s.heap.objs.size:=JF h1
    have:s.heap.objs.size≠1:=YG (uD (by decide) h2)
    simpa [cG] using this
   refine hQ _ _ ?_ k
   unfold EG
   rw [p4]
   exact⟨rfl,.cons (r1.keeps k) (.cons (r2.keeps k) (.cons (r3.keeps k) (.cons (.nod (vD _ rfl) hs f.1 f.2) .nil)))⟩
 ·exact wA hv
theorem N0(w:eA):(KF w.params).lookup 164=some (oK w.params)/\(KF w.params).lookup 163=some (dU w.params):=⟨by kernel_rfl,by kernel_rfl⟩
theorem P0(w:eA):(KF w.params).lookup 210=some (rJ w.params)/\(KF w.params).lookup 209=some (fU w.params):=⟨by kernel_rfl,by kernel_rfl⟩
theorem M0(w:eA):(KF w.params).lookup 260=some (AK w.params)/\(KF w.params).lookup 259=some (kU w.params):=⟨by kernel_rfl,by kernel_rfl⟩
theorem td(w:eA){prog:pA}:nC (Bw w) prog w 164 (uA (meth 65 1)) (oK w.params) (fdOf (oK w.params)) where
 look:=(N0 w).1
 data:=rfl
 body:=rfl
 scope:=rfl
 globals:=rfl
 builtins:=rfl
 closure:=rfl
 code:=fun h X=>⟨163,dU w.params,_,_,rfl,X _ _ (N0 w).2,rfl,rfl⟩
 bind:=B8 w
theorem ud(w:eA){prog:pA}:nC (Bw w) prog w 210 (uA (meth 65 8)) (rJ w.params) (fdOf (rJ w.params)) where
 look:=(P0 w).1
 data:=rfl
 body:=rfl
 scope:=rfl
 globals:=rfl
 builtins:=rfl
 closure:=rfl
 code:=fun h X=>⟨209,fU w.params,_,_,rfl,X _ _ (P0 w).2,rfl,rfl⟩
 bind:=C8 w
theorem sd(w:eA){prog:pA}:nC (Bw w) prog w 260 (uA (meth 65 16)) (AK w.params) (fdOf (AK w.params)) where
 look:=(M0 w).1
 data:=rfl
 body:=rfl
 scope:=rfl
 globals:=rfl
 builtins:=rfl
 closure:=rfl
 code:=fun h X=>⟨259,kU w.params,_,_,rfl,X _ _ (M0 w).2,rfl,rfl⟩
 bind:=A8 w
theorem Yi(w:eA):(KF w.params).lookup 2=some (oH w.params):=by kernel_rfl
theorem Sk(w:eA):oM (oH w.params)=true:=by kernel_rfl
theorem Hk(w:eA):TA (MA (oH w.params)) "sys.recursionlimit" = none:=by kernel_rfl
theorem A2(w:eA)(h:Heap)(X:(KF w.params).In h):h.NoLimit:=⟨_,pJ X (Yi w) (Sk w),Hk w⟩
end Mine
end
section
namespace Mine
open Ev
theorem LN(w:eA):(KF w.params).lookup 263=some (M2 w.params):=by kernel_rfl
theorem wQ(w:eA):(KF w.params).lookup 262=some (ZD w.params):=by kernel_rfl
theorem GQ(w:eA):oM (ZD w.params)=true:=by kernel_rfl
theorem TZ{w:eA}{h:Heap}{as:List cA}{F:cA->Prop}{i:Nat}{x:dA}(r:kA (Bw w) h as F (.hd i) x) :
  ∃ xa a,x = .ref xa/\as[i]? = some a/\h.Inst xa 263 (fun n=>if n = "_headers" then some (.ref a) else none):=by
 obtain⟨a,xa,d,o,o',rfl,e,ho,ha,hF,hd,ht,hda,hdF⟩:=Dp r
 obtain⟨es,ep,h1,h2,h3,h4⟩:=ht.ns
 exact⟨xa,a,rfl,e,o,ho,ht.cls,ht.nocls,.inr ⟨d,ht.dict,ht.ne,o',es,ep,hd,h1,h2,h3,h4⟩⟩
theorem j7(w:eA){prog:pA}(A:xA)(F:cA->Prop)(s:iA)(as:List cA)(st:Ev.St)(i:Nat)(ov:dA)(inv:Ev.Inv (Bw w) s.heap as F st)(r:kA (Bw w) s.heap as F (.hd i) ov)(Q:dA->iA->Prop)(E:dA->iA->Prop)
  (hQ:∀ y tk,kA (Bw w) s.heap as F (.ref i) y->s.toks<=tk->Q y { s with toks:=tk }):oA (model prog w) A (getAttr ov "_headers" true) Q E s:=by
 obtain⟨xa,a,rfl,e,I⟩:=TZ r
 have X:(KF w.params).In s.heap:=fun a o e=>(inv.base a o e).1
 have n:=pJ X (wQ w) (GQ w)
 obtain⟨h,g,d,t,os⟩:=s
 exact load_attr (X _ _ (LN w)) n (by kernel_rfl) (by kernel_rfl) (by rw [EF,wF];kernel_rfl) I (if_pos rfl) rfl (hQ _ _ (.ref e) (CB _))
end Mine
end
section
namespace Mine
open Ev
theorem E9(w:eA):TA (MA (ZD w.params)) "__getattribute__" = none:=by kernel_rfl
theorem H9(w:eA):TA (MA (ZD w.params)) "__getattr__" = none:=by kernel_rfl
def dH(w:eA)(x:Str)(a:cA):Prop:=TA (MA (ZD w.params)) x=some (.ref a)/\(∃ o,(KF w.params).lookup a=some o/\o.cls = .type "function")/\(∃ y,typeLookup (.type "object") x=pure y)/\x ≠ "_headers"
theorem c_len(w:eA):TA (MA (ZD w.params)) "__len__" = some (.ref 171):=by kernel_rfl
theorem Qa(w:eA):(KF w.params).lookup 171=some (I2 w.params):=by kernel_rfl
theorem sb:∃ y,typeLookup (.type "object") "__len__" = pure y:=⟨none,by rw [EF,wF];kernel_rfl⟩
theorem T6:wG.lookup ("__len__":Str)=some 171:=by decide +kernel
theorem za(w:eA):∃ a,(Bw w).meth "__len__" = some a/\dH w "__len__" a:=⟨171,T6,c_len w,⟨_,Qa w,rfl⟩,sb,by decide +kernel⟩
theorem T9(w:eA):TA (MA (ZD w.params)) "__setitem__" = some (.ref 178):=by kernel_rfl
theorem Ta(w:eA):(KF w.params).lookup 178=some (J2 w.params):=by kernel_rfl
theorem wb:∃ y,typeLookup (.type "object") "__setitem__" = pure y:=⟨none,by rw [EF,wF];kernel_rfl⟩
theorem U6:wG.lookup ("__setitem__":Str)=some 178:=by decide +kernel
theorem Ba(w:eA):∃ a,(Bw w).meth "__setitem__" = some a/\dH w "__setitem__" a:=⟨178,U6,T9 w,⟨_,Ta w,rfl⟩,wb,by decide +kernel⟩
theorem D9(w:eA):TA (MA (ZD w.params)) "__delitem__" = some (.ref 183):=by kernel_rfl
theorem La(w:eA):(KF w.params).lookup 183=some (K2 w.params):=by kernel_rfl
theorem jb:∃ y,typeLookup (.type "object") "__delitem__" = pure y:=⟨none,by rw [EF,wF];kernel_rfl⟩
theorem S6:wG.lookup ("__delitem__":Str)=some 183:=by decide +kernel
theorem qa(w:eA):∃ a,(Bw w).meth "__delitem__" = some a/\dH w "__delitem__" a:=⟨183,S6,D9 w,⟨_,La w,rfl⟩,jb,by decide +kernel⟩
theorem C9(w:eA):TA (MA (ZD w.params)) "_convert_string_type" = some (.ref 164):=by kernel_rfl
theorem Ka(w:eA):(KF w.params).lookup 164=some (oK w.params):=by kernel_rfl
theorem ib:∃ y,typeLookup (.type "object") "_convert_string_type" = pure y:=⟨none,by rw [EF,wF];kernel_rfl⟩
theorem eX:wG.lookup ("_convert_string_type":Str)=some 164:=by decide +kernel
theorem pa(w:eA):∃ a,(Bw w).meth "_convert_string_type" = some a/\dH w "_convert_string_type" a:=⟨164,eX,C9 w,⟨_,Ka w,rfl⟩,ib,by decide +kernel⟩
theorem G9(w:eA):TA (MA (ZD w.params)) "get_all" = some (.ref 202):=by kernel_rfl
theorem Na(w:eA):(KF w.params).lookup 202=some (fM w.params):=by kernel_rfl
theorem ob:∃ y,typeLookup (.type "object") "get_all" = pure y:=⟨none,by rw [EF,wF];kernel_rfl⟩
theorem gX:wG.lookup ("get_all":Str)=some 202:=by decide +kernel
theorem ua(w:eA):∃ a,(Bw w).meth "get_all" = some a/\dH w "get_all" a:=⟨202,gX,G9 w,⟨_,Na w,rfl⟩,ob,by decide +kernel⟩
theorem F9(w:eA):TA (MA (ZD w.params)) "get" = some (.ref 210):=by kernel_rfl
theorem Ma(w:eA):(KF w.params).lookup 210=some (rJ w.params):=by kernel_rfl
theorem nb:∃ y,typeLookup (.type "object") "get" = pure y:=⟨none,by rw [EF,wF];kernel_rfl⟩
theorem fX:wG.lookup ("get":Str)=some 210:=by decide +kernel
theorem sa(w:eA):∃ a,(Bw w).meth "get" = some a/\dH w "get" a:=⟨210,fX,F9 w,⟨_,Ma w,rfl⟩,nb,by decide +kernel⟩
theorem N9(w:eA):TA (MA (ZD w.params)) "keys" = some (.ref 215):=by kernel_rfl
theorem Pa(w:eA):(KF w.params).lookup 215=some (gM w.params):=by kernel_rfl
theorem qb:∃ y,typeLookup (.type "object") "keys" = pure y:=⟨none,by rw [EF,wF];kernel_rfl⟩
theorem iX:wG.lookup ("keys":Str)=some 215:=by decide +kernel
theorem ya(w:eA):∃ a,(Bw w).meth "keys" = some a/\dH w "keys" a:=⟨215,iX,N9 w,⟨_,Pa w,rfl⟩,qb,by decide +kernel⟩
theorem c_items(w:eA):TA (MA (ZD w.params)) "items" = some (.ref 227):=by kernel_rfl
theorem Oa(w:eA):(KF w.params).lookup 227=some (iM w.params):=by kernel_rfl
theorem pb:∃ y,typeLookup (.type "object") "items" = pure y:=⟨none,by rw [EF,wF];kernel_rfl⟩
theorem hX:wG.lookup ("items":Str)=some 227:=by decide +kernel
theorem wa(w:eA):∃ a,(Bw w).meth "items" = some a/\dH w "items" a:=⟨227,hX,c_items w,⟨_,Oa w,rfl⟩,pb,by decide +kernel⟩
theorem S9(w:eA):TA (MA (ZD w.params)) "setdefault" = some (.ref 253):=by kernel_rfl
theorem Sa(w:eA):(KF w.params).lookup 253=some (jM w.params):=by kernel_rfl
theorem ub:∃ y,typeLookup (.type "object") "setdefault" = pure y:=⟨none,by rw [EF,wF];kernel_rfl⟩
theorem jX:wG.lookup ("setdefault":Str)=some 253:=by decide +kernel
theorem Aa(w:eA):∃ a,(Bw w).meth "setdefault" = some a/\dH w "setdefault" a:=⟨253,jX,S9 w,⟨_,Sa w,rfl⟩,ub,by decide +kernel⟩
theorem B9(w:eA):TA (MA (ZD w.params)) "add_header" = some (.ref 260):=by kernel_rfl
theorem Ja(w:eA):(KF w.params).lookup 260=some (AK w.params):=by kernel_rfl
theorem gb:∃ y,typeLookup (.type "object") "add_header" = pure y:=⟨none,by rw [EF,wF];kernel_rfl⟩
theorem dX:wG.lookup ("add_header":Str)=some 260:=by decide +kernel
theorem oa(w:eA):∃ a,(Bw w).meth "add_header" = some a/\dH w "add_header" a:=⟨260,dX,B9 w,⟨_,Ja w,rfl⟩,gb,by decide +kernel⟩
theorem pf(w:eA){x:Str}(h:fJ.contains x=true):∃ a,(Bw w).meth x=some a/\dH w x a:=by
 have h':x∈fJ:=by simpa using h
 unfold fJ at h'
 simp only [bB,aH,or_false] at h'
 rcases h' with rfl|rfl|rfl|rfl|rfl|rfl|rfl|rfl|rfl|rfl
 ·exact za w
 ·exact Ba w
 ·exact qa w
 ·exact pa w
 ·exact ua w
 ·exact sa w
 ·exact ya w
 ·exact wa w
 ·exact Aa w
 ·exact oa w
theorem Xe(w:eA){prog:pA}(A:xA)(F:cA->Prop)(s:iA)(as:List cA)(st:Ev.St)(i:Nat)(ov:dA)(x:Str)(inv:Ev.Inv (Bw w) s.heap as F st)(r:kA (Bw w) s.heap as F (.hd i) ov)(hx:fJ.contains x=true) :
  ∃ a,(Bw w).meth x=some a/\∀ (pl:Sem Bool) (Q:dA×List dA->iA->Prop) (E:dA->iA->Prop),Q (.ref a,[ov]) s->oA (model prog w) A (getMethod ov x pl) Q E s:=by
 obtain⟨xa,a,rfl,e,I⟩:=TZ r
 have X:(KF w.params).In s.heap:=fun a o e=>(inv.base a o e).1
 have n:=pJ X (wQ w) (GQ w)
 obtain⟨f,hf,hm,⟨fo,hl,hc⟩,⟨y,hy⟩,hne⟩:=pf w hx
 refine⟨f,hf,fun pl Q E hQ=>?_⟩
 obtain⟨h,g,d,t,os⟩:=s
 exact method_of (X _ _ (LN w)) n (E9 w) (H9 w) hm (X _ _ hl) hc hy I (if_neg hne) hQ
end Mine
end
section
namespace Mine
open Ev
theorem lh(w:eA):(ND.map (fun (p:Str×cA)=>p.2)++wG.map (fun (p:Str×cA)=>p.2)++[263]).all (fun a=>keepIn (KF w.params) (.ref a))=true:=by kernel_rfl
theorem YT{α:Type}{x:Str}{a:α}:∀ {l:List (Str×α)},l.lookup x=some a->a∈l.map (·.2)
 | [],h=>by simp at h
 | (n,b)::r,h=>by
  by_cases q:x=n
  ·subst q
   rw [qD] at h
   cases h;simp
  ·rw [bD q] at h
   exact NA _ (YT h)
theorem u0(w:eA):∀ a,(∃ x,(Bw w).addr x=some a)\/(∃ x,(Bw w).meth x=some a)\/a=(Bw w).cls->keepIn (Bw w).objs (.ref a)=true:=by
 intro a h
 refine YA.mp (lh w) a ?_
 rcases h with ⟨x,h⟩|⟨x,h⟩|rfl
 ·exact MD _ (MD _ (YT h))
 ·exact MD _ (DE _ (YT h))
 ·exact DE _ HA
noncomputable def AV:V->mA V
 | .ref i=>do
  let _ <- rd fun st=>jJ st i
  pure (.ty "list")
 | _=>yA
noncomputable def vS(f:V)(vs:List V)(ks:List (Str×V)):mA V:=match f with
 | .ty n=>if n = "type" then HH ks (lC AV QC vs) else yA
 | _=>yA
noncomputable def ΓI:Ev.Ctx:=⟨ZP,vS,fun _ _ _=>.none,fun _ _=>.none,fun _=>true,fun _=>.none,.none⟩
theorem Js(st:Ev.St):∀ a:V,(AV a st).elim True fun _=>∃ j,a = .ref j:=by
 intro a
 rcases a with ⟨⟩<;>first|exact True.intro|exact zB ⟨_,rfl⟩
theorem pY(w:eA){prog:pA}(n:Nat):WE (Bw w) prog w ΓI n where
 glob:=⟨DZ w⟩
 keys:=fun A F s as st a b x y t hh hu i ra rb h Q E=>by
  rcases AC (JZ ΓI.gd st a b) h with ⟨ks,vs,rfl⟩|⟨gy,rfl⟩
  ·exact AY (KP w) ra rb h Q E
  rcases AC (IZ ΓI.gd st gy a) h with ⟨n,rfl⟩|⟨l,rfl⟩
  ·exact wA ((ite_self _).symm.trans h)
  ·exact wA ((ite_self _).symm.trans h)
 dk:=KP w
 keep:=u0 w
 call:=fun A F s as st f fv first vs xs ks kxs hA i c rs rk v st' hv Q E hQ=>by
  rcases c with ⟨⟩<;>first|exact (YC (st:=st) hv).elim|skip
  ·rename_i n hn
   obtain⟨rfl,hv1⟩:=mQ (st:=st) hv
   obtain⟨rfl,hv2⟩:=SL hv1
   cases cI rk
   obtain⟨a,x,rfl,r,h⟩:=UG hv2 rs
   obtain⟨j,rfl⟩:=AC (Js st a) h
   obtain⟨l,hst,h2⟩:=Ap h
   obtain⟨rfl,rfl⟩:=eB h2
   obtain⟨ad,rfl,e⟩:=AG r
   obtain⟨zs,hp,_,_⟩:=(i.at_ _ ad _ e (S0 hst)).out
   exact call_type_of hp.isList.typeIs (by decide) (hQ _ s.heap as s.toks (.ty _ (by decide)) i (qA.refl _ _ _) (sA _))
 meth:=fun _ _ _ _ _ _ _ _ _ _ _ h=>by exact wA h
 attr:=fun _ _ _ _ _ _ _ _ _ _ _ h=>by exact wA h
theorem X9(vs:List V)(ks:List (Str×V))(st:Ev.St):∀ f:V,(vS f vs ks st).elim True fun _=>(match f with | .bi _ | .ty _ | .fn _ | .m ..=>true|_=>false)=true:=by
 intro f
 rcases f with ⟨⟩<;>first|exact True.intro|exact zB (Eq.refl true:true=true)
theorem WX:pL ΓI:=fun f vs ks st r h=>by
 exact AC (X9 vs ks st f) h
noncomputable def SA(k:Nat):IA:=(fB (meth 65 0))[k]?.getD (.Pass default)
theorem Nf:fB (meth 65 0)=[SA 0,SA 1,SA 2,SA 3]:=by kernel_rfl
noncomputable def e0:Expr:=.Name "" default
noncomputable def DM:IA->List Expr×Expr×Pos | .Assign l e p=>(l,e,p)|_=>([],e0,default)
noncomputable def yO:IA->Expr×List IA×Pos | .If c b _ p=>(c,b,p)|_=>(e0,[],default)
noncomputable def FY:Expr->Expr×List Expr | .Compare l _ r _=>(l,r)|_=>(e0,[])
noncomputable def ac:Expr->Expr | .Attribute e _ _=>e|_=>e0
noncomputable def tA(s:IA):Pos:=(ac ((DM s).1.headD e0)).pos
noncomputable def tB(s:IA):Pos:=((DM s).1.headD e0).pos
noncomputable def tC(s:IA):Pos:=(DM s).2.1.pos
noncomputable def tD(s:IA):Pos:=(DM s).2.2
theorem Mf:SA 2 = .Assign [.Attribute (.Name "self" (tA (SA 2))) "_headers" (tB (SA 2))] (.Name "headers" (tC (SA 2))) (tD (SA 2)):=by kernel_rfl
noncomputable def aE:List (Str×GA):=(fS (meth 65 0)).names
noncomputable def ρH(v:V):Fr:=⟨aE,[("headers",v)],fun _=>.none⟩
noncomputable def vE(s:IA):Expr:=(DM s).2.1
noncomputable def vP(s:IA):Pos:=((DM s).1.headD e0).pos
theorem Kf:SA 0 = .Assign [.Name "headers" (vP (SA 0))] (vE (SA 0)) (tD (SA 0)):=by kernel_rfl
theorem yk:cM (vE (SA 0))=true:=by kernel_rfl
theorem kc(st:Ev.St):evalE ΓI (vE (SA 0)) (ρH .none) st=some (.ref st.length,st++[.list []]):=by kernel_rfl
theorem lc(st:Ev.St)(i:Nat):evalE ΓI (vE (SA 0)) (ρH (.ref i)) st=some (.ref i,st):=by kernel_rfl
theorem gN{α β:Type}{m:mA α}{f:α->mA β}{st st1:Ev.St}{a:α}(h:m st=some (a,st1)):(m>>=f) st=f a st1:=by
 show (m st).bind _=_
 rw [h];rfl
noncomputable def tT(s:IA):Expr:=(FY (yO s).1).1
noncomputable def tR(s:IA):List IA:=(yO s).2.1
noncomputable def tE(s:IA):Pos:=(yO s).1.pos
noncomputable def tF(s:IA):Pos:=(yO s).2.2
noncomputable def tG(s:IA):Pos:=((FY (yO s).1).2.headD e0).pos
theorem Lf:SA 1 = .If (.Compare (tT (SA 1)) [.IsNot] [.Name "list" (tG (SA 1))] (tE (SA 1))) (tR (SA 1)) [] (tF (SA 1)):=by kernel_rfl
theorem mc(st:Ev.St)(i:Nat):evalE ΓI (tT (SA 1)) (ρH (.ref i)) st=vS (.ty "type") [.ref i] [] st:=by kernel_rfl
theorem nc{st:Ev.St}{i:Nat}{l:List V}(h:st[i]? = some (.list l)):IB ΓI (.Compare (tT (SA 1)) [.IsNot] [.Name "list" (tG (SA 1))] (tE (SA 1))) (ρH (.ref i)) (evalE ΓI (.Compare (tT (SA 1)) [.IsNot] [.Name "list" (tG (SA 1))] (tE (SA 1))) (ρH (.ref i))) st=some (false,st):=by
 have h1:evalE ΓI (tT (SA 1)) (ρH (.ref i)) st=some (.ty "list",st):=by
  rw [mc]
  show AV (.ref i) st=_
  have e:jJ st i=some l:=by unfold jJ;rw [h]
  show ((jJ st i).map (·,st)).bind _=_
  rw [e];rfl
 exact (gN h1).trans (by kernel_rfl)
noncomputable def uF:IA->IA | .If _ (f::_) _ _=>f|_=>.Pass default
noncomputable def uT:IA->Expr | .If t _ _ _=>t|_=>.Name "" default
noncomputable def uE:IA->Pos | .If _ _ _ p=>p|_=>default
noncomputable def fT:IA->Expr | .For t _ _ _ _=>t|_=>.Name "" default
noncomputable def fI:IA->Pos | .For _ (.Name _ p) _ _ _=>p|_=>default
noncomputable def fO:IA->List IA | .For _ _ b _ _=>b|_=>[]
noncomputable def fE:IA->Pos | .For _ _ _ _ p=>p|_=>default
theorem RZ:SA 3 = .If (uT (SA 3)) [.For (fT (uF (SA 3))) (.Name "headers" (fI (uF (SA 3)))) (fO (uF (SA 3))) [] (fE (uF (SA 3)))] [] (uE (SA 3)):=by kernel_rfl
noncomputable def ρ2(i:Nat):Fr:=⟨aE,[("self",.hd i),("headers",.ref i)],fun _=>.none⟩
theorem oc{Γ:Ev.Ctx}{st:Ev.St}{i:Nat}(h:st[i]? = some (.list [])):PB Γ (SA 3) (ρ2 i) st=some ((.next,ρ2 i),st):=by
 rw [RZ]
 generalize fT (uF (SA 3))=t
 generalize fO (uF (SA 3))=body
 generalize fI (uF (SA 3))=p1
 generalize fE (uF (SA 3))=p2
 generalize uE (SA 3)=p4
 have h1:evalE Γ (.Name "headers" p1) (ρ2 i) st=some (.ref i,st):=by kernel_rfl
 have h2:ME Γ t (.Name "headers" p1) (evalE Γ (.Name "headers" p1) (ρ2 i)) (ρ2 i) st=some (([],[(i,.list [])]),st):=by
  refine (gN h1).trans ?_
  show (zD st (.ref i)).map (·,st)=_
  have hi:cK st (.ref i)=some []:=congrArg (fun o=>match o with|some (.list vs)=>some vs|_=>none) h
  show ((cK st (.ref i)).bind fun xs=>(st[i]?).bind fun o=>some (xs,[(i,o)])).map (·,st)=_
  rw [hi,h];rfl
 have h3:IB Γ (uT (SA 3)) (ρ2 i) (evalE Γ (uT (SA 3)) (ρ2 i)) st=some (true,st):=by kernel_rfl
 have h4:PB Γ (.For t (.Name "headers" p1) body [] p2) (ρ2 i) st=some ((.next,ρ2 i),st):=(gN h2).trans rfl
 exact (gN h3).trans ((gN h4).trans rfl)
theorem Rf(w:eA){s:iA}{o:Obj}{n:Nat}(ho:s.heap.get? 150=some o)(hs:o.data = .seq #[.none] n)(x:dA) :
  BindsTo s (fdOf (qJ w.params)) ⟨[x],[]⟩ [("self",x),("headers",.none)]:=by
 intro M A E Q hq
 show oA M A (seqItems? (.ref 150)>>=_) Q E s
 refine rA (pR ho hs ?_)
 exact UQ (by kernel_rfl) (JA hq)
theorem Sf(w:eA){s:iA}{o:Obj}{n:Nat}(ho:s.heap.get? 150=some o)(hs:o.data = .seq #[.none] n)(x y:dA) :
  BindsTo s (fdOf (qJ w.params)) ⟨[x,y],[]⟩ [("self",x),("headers",y)]:=by
 intro M A E Q hq
 show oA M A (seqItems? (.ref 150)>>=_) Q E s
 refine rA (pR ho hs ?_)
 exact UQ (by kernel_rfl) (JA hq)
theorem KT(w:eA):(KF w.params).lookup 157=some (qJ w.params)/\(KF w.params).lookup 156=some (cU w.params)/\(KF w.params).lookup 150=some (UN w.params):=⟨by kernel_rfl,by kernel_rfl,by kernel_rfl⟩
theorem TQ:(fS (meth 65 0)).kind = .function/\(fS (meth 65 0)).isCoroutine=false/\(fS (meth 65 0)).isGenerator=false/\aE.lookup ("self":Str)=some .local/\aE.lookup ("headers":Str)=some .local/\aE.all (fun x=>x.2 == .local||x.2 == .globalImplicit)=true :=
 ⟨by kernel_rfl,by kernel_rfl,by kernel_rfl,by kernel_rfl,by kernel_rfl,by kernel_rfl⟩
theorem AI{x:Str}{k:GA}(h:aE.lookup x=some k):k = .local\/k = .globalImplicit:=by
 have:=YA.mp TQ.2.2.2.2.2 _ (mem_of_lookup h)
 simpa using this
theorem oZ{w:eA}{h:Heap}{as:List cA}{F:cA->Prop}{env:Env}{m:Str->Option dA}{v:V}{y:dA}(hk:env.scope.kind = .function)(hg:env.globals=3)(hb:env.builtins=0)(hs:∀ x,env.kindOf x=aE.lookup x)
  (hn:h.Ns env.locals m) (hF:F env.locals) (hm:m "headers" = some y) (r:kA (Bw w) h as F v y):DA (Bw w) h as F env ⟨aE,[("headers",v)],fun _=>.none⟩ where
 kind:=hk
 gl:=hg
 bl:=hb
 loc:=⟨m,hn,fun x u _ hu=>by
  by_cases q:x=("headers":Str)
  ·subst q
   have:v=u:=by simpa using hu
   subst this
   exact⟨y,hm,r⟩
  ·have hu':wD x [(("headers":Str),v)]=some u:=hu
   rw [bD q] at hu'
   simp at hu'⟩
 kindL:=fun x hx=>by rw [hs];exact hx
 kindN:=fun x hx=>by rw [hs] at hx;exact hx
 kindC:=fun x hx=>by rcases AI hx with q|q<;>contradiction
 kindG:=fun x hx=>by rw [hs];exact hx
 cell:=fun x hx=>by rcases AI hx with q|q<;>contradiction
 apart:=fun x _ _ hx=>by rcases AI hx with q|q<;>contradiction
 free:=fun x hx=>by rcases AI hx with q|q<;>contradiction
 ownF:=hF
theorem Lo{w:eA}{env:Env}{h:Heap}{as:List cA}{F:cA->Prop}{a:cA}(q:JB env aE a):a=env.locals:=by
 rcases q with q|⟨x,hx,_⟩
 ·exact q
 ·rcases AI hx with q|q<;>contradiction
theorem ag{B:CA}{h h':Heap}{as:List cA}{F:cA->Prop}{st:Ev.St}(i:Ev.Inv B h as F st)(hk:∀ a o,¬ F a->h.get? a=some o->h'.get? a=some o)(hl:∀ a,F a->∃ o,h'.get? a=some o):Ev.Inv B h' as F st where
 len:=i.len
 nodup:=i.nodup
 at_:=fun k a o e e'=>(i.at_ k a o e e').mono (wB _) (fun b x h1 h2 h3=>⟨hk b x h3 h1,h2,h3⟩) (fun x hx=>hk a x (i.apart a (DD e)) hx)
 apart:=i.apart
 liveF:=hl
 base:=fun a o e=>let b:=i.base a o e;⟨hk a o b.2.2 b.1,b.2⟩
theorem R9(w:eA):TA (MA (ZD w.params)) "__setattr__" = none:=by kernel_rfl
theorem I9(w:eA):TA (MA (ZD w.params)) "_headers" = none:=by kernel_rfl
set_option backward.match.sparseCases true in
theorem step{M:Model}{A:xA}{env:Env}{t:IA}{r:List IA}{Q:Flow->iA->Prop}{E:dA->iA->Prop}{s:iA}(h:oA M A (exec t env) (fun fl s''=>fl = .next/\oA M A (execs r env) Q E s'') E s):oA M A (execs (t::r) env) Q E s:=by
 show oA _ _ (do match <- exec t env with | .next=>execs r env|f=>pure f) Q E s
 refine rA (VC h (fun fl s'' k=>?_) fun _ _ k=>k)
 obtain⟨rfl,k⟩:=k
 exact k
theorem Hd{w:eA}{h:Heap}{as:List cA}{F:cA->Prop}{env:Env}{m:Str->Option dA}{v u:V}{y z:dA}(hk:env.scope.kind = .function)(hg:env.globals=3)(hb:env.builtins=0)(hs:∀ x,env.kindOf x=aE.lookup x)
  (hn:h.Ns env.locals m) (hF:F env.locals) (hm:m "headers" = some y) (r:kA (Bw w) h as F v y) (hm2:m "self" = some z) (r2:kA (Bw w) h as F u z):DA (Bw w) h as F env ⟨aE,[("self",u),("headers",v)],fun _=>.none⟩ where
 kind:=hk
 gl:=hg
 bl:=hb
 loc:=⟨m,hn,fun x t _ hu=>by
  by_cases q:x=("self":Str)
  ·subst q
   have:u=t:=by simpa using hu
   subst this
   exact⟨z,hm2,r2⟩
  ·have hu':wD x [(("self":Str),u),(("headers":Str),v)]=some t:=hu
   rw [bD q] at hu'
   by_cases q:x=("headers":Str)
   ·subst q
    have:v=t:=by simpa using hu'
    subst this
    exact⟨y,hm,r⟩
   ·rw [bD q] at hu'
    simp at hu'⟩
 kindL:=fun x hx=>by rw [hs];exact hx
 kindN:=fun x hx=>by rw [hs] at hx;exact hx
 kindC:=fun x hx=>by rcases AI hx with q|q<;>contradiction
 kindG:=fun x hx=>by rw [hs];exact hx
 cell:=fun x hx=>by rcases AI hx with q|q<;>contradiction
 apart:=fun x _ _ hx=>by rcases AI hx with q|q<;>contradiction
 free:=fun x hx=>by rcases AI hx with q|q<;>contradiction
 ownF:=hF
abbrev sL(w:eA)(prog:pA)(n:Nat)(Γ:Ev.Ctx):Prop:=∀ t A' F' env' ρ',mB A' n->yC (Bw w) prog w A' F' env' ρ' (exec t env') (PB Γ t ρ')
abbrev Made(w:eA)(G:cA->Prop)(P:cA->Prop)(i:Nat)(x dx:cA)(st2:Ev.St)(s:iA)(as:List cA)(Q:iA->Prop):Prop :=
 ∀ h' as' tk a o' d',Ev.Inv (Bw w) h' as' G st2->qA (fun b=>(b=x\/b=dx)\/P b) s.heap as h' as'->as'[i]? = some a->h'.get? x=some o'->h'.get? dx=some d'->WM 263 x dx a o' d'->x∉as'->dx∉as'->Q { s with heap:=h',toks:=tk }
theorem Wf(w:eA){prog:pA}{n:Nat}{Γ:Ev.Ctx}(stm:sL w prog n Γ){A:xA}{F G:cA->Prop}{s:iA}{as:List cA}{st st2:Ev.St}{ρ':Fr}{i:Nat}{x dx a:cA}{env:Env}{m4:Str->Option dA}(hA':mB A n)
  (hk':env.scope.kind = .function) (hg':env.globals=3) (hb':env.builtins=0) (kindOf:∀ y,env.kindOf y=aE.lookup y) (hFx:F x) (hFd:F dx) (hGF:∀ a,G a->F a) (hGl:G env.locals) (hGx:¬ G x) (hGd:¬ G dx)
  (i5:Ev.Inv (Bw w) s.heap as F st) (hn5:s.heap.Ns env.locals m4) (ms4:m4 "self" = some (.ref x)) (mh4:m4 "headers" = some (.ref a)) (ha5:as[i]? = some a)
  {ox:Obj} (hx5:s.heap.get? x=some ox) (hxc:ox.cls = .ref 263) (hxn:∀ c,ox.data ≠ .cls c) (hxd:ox.dict=some dx) (hne:dx≠x) (hnd5:s.heap.Ns1 dx fun _=>none)
  (hv:PB Γ (SA 3) (ρ2 i) st=some ((.next,ρ'),st2)) {Q:Flow->iA->Prop}{E:dA->iA->Prop}
  (hQ:Made w G (· = env.locals) i x dx st2 s as (Q .next)) :
  oA (model prog w) A (execs [SA 2,SA 3] env) Q E s:=by
 obtain⟨sk,sco,sge,ss,sh,sall⟩:=TQ
 have hxl:x≠env.locals:=fun q=>hGx (q▸hGl)
 have hdl:dx≠env.locals:=fun q=>hGd (q▸hGl)
 refine step ?_
 rw [Mf]
 refine plainObj_wpAny_Assign_Attribute (wpAny_Name (wpAny_loadName_local hk' (by rw [kindOf];exact sh) hn5 mh4 ?_)) (aR (by rfl) _ _ _)
 refine wpAny_Name (wpAny_loadName_local hk' (by rw [kindOf];exact ss) hn5 ms4 ?_)
 have X5:(KF w.params).In s.heap:=fun a o e=>(i5.base a o e).1
 have I5:s.heap.Inst x 263 fun _=>none:=⟨ox,hx5,hxc,hxn,.inr ⟨dx,hxd,hne,hnd5⟩⟩
 refine store_attr PySem.F.store_object (X5 _ _ (LN w)) (pJ X5 (wQ w) (GQ w)) (R9 w) (I9 w) (by rw [EF,wF];kernel_rfl) (fun q=>(i5.base 263 _ (LN w)).2.2 (q▸hFx)) I5 fun h6 tk6 I6 hk6 hs6=>?_
 refine⟨rfl,?_⟩
 obtain⟨o6,ho6,hc6,hd6,_,hdd6⟩:=hs6 ox hx5
 have hdx6:=hdd6 dx hxd
 have keep6:∀ b o,b≠x->b≠dx->s.heap.get? b=some o->h6.get? b=some o:=fun b o q1 q2 e=>hk6 b o q1 (fun o₀ d' e1 e2=>by
  rw [hx5] at e1;cases e1;rw [hxd] at e2;cases e2;exact q2) e
 have hN6:∃ d6,h6.get? dx=some d6/\WM 263 x dx a o6 d6:=by
  obtain⟨o',e',_,_,hdd⟩:=I6
  rw [ho6] at e';cases e'
  rcases hdd with ⟨hn0,_⟩|⟨d',hd',_,⟨d6,es,ep,g1,g2,g3,g4,g5⟩⟩
  ·rw [hdx6] at hn0;contradiction
  ·rw [hdx6] at hd';cases hd'
   exact⟨d6,g1,hc6.trans hxc,fun c=>by rw [hd6];exact hxn c,hdx6,hne,es,ep,g2,g3,g4,g5⟩
 obtain⟨d6,hd6o,H6⟩:=hN6
 have live6:∀ b o,s.heap.get? b=some o->∃ o',h6.get? b=some o':=fun b o e=>by
  by_cases q1:b=x
  ·subst q1;exact⟨_,ho6⟩
  ·by_cases q2:b=dx
   ·subst q2;exact⟨_,hd6o⟩
   ·exact⟨o,keep6 b o q1 q2 e⟩
 have i6:Ev.Inv (Bw w) h6 as G st:=(ag i5 (fun b o hb e=>keep6 b o (fun q=>hb (q▸hFx)) (fun q=>hb (q▸hFd)) e) fun b hb=>by
  obtain⟨o,ho⟩:=i5.liveF b hb
  exact live6 b o ho).sub hGF
 have hxa:x∉as:=fun q=>i5.apart _ q hFx
 have hda:dx∉as:=fun q=>i5.apart _ q hFd
 have hn6:h6.Ns env.locals m4:=by
  obtain⟨o,es,ep,ho,r⟩:=hn5
  exact⟨o,es,ep,keep6 _ _ (Ne.symm hxl) (Ne.symm hdl) ho,r⟩
 refine step ?_
 refine stm (SA 3) _ _ _ _ hA' { s with heap:=h6,toks:=tk6 } as _ (Hd hk' hg' hb' kindOf hn6 hGl mh4 (.ref ha5) ms4 (.hd ha5 ho6 hxa hGx hd6o H6 hda hGd)) i6 _ _ _ hv _ _ fun y h7 as7 tk7 ry sc7 f7 i7 e7 ht7=>?_
 cases ry
 refine⟨rfl,?_⟩
 refine JA ?_
 have own:∀ b,JB env aE b->b=env.locals:=fun b q=>Lo (w:=w) (h:=h7) (as:=as) (F:=F) q
 refine hQ h7 as7 tk7 a o6 d6 i7 ?_ (zN e7.pre ha5) (e7.keep _ _ ho6 hxa fun q=>hxl (own _ q)) (e7.keep _ _ hd6o hda fun q=>hdl (own _ q)) H6 (fun q=>(e7.new x q).elim hxa fun q=>by rw [q] at ho6;cases ho6) (fun q=>(e7.new dx q).elim hda fun q=>by rw [q] at hd6o;exact wA hd6o)
 exact qA.trans (as₂:=as) (h₂:=h6) ⟨wB _,fun _ q=>.inl q,fun b o e _ hg=>keep6 b o (fun q=>hg (.inl (.inl q))) (fun q=>hg (.inl (.inr q))) e,live6⟩ (e7.weak fun b q=>.inr (own b q))
theorem X3{A:xA}{n:Nat}(h:mB A n):mB A 0:=XU h (iE n)
theorem Vf(w:eA){prog:pA}{n:Nat}{Γ:Ev.Ctx}(stm:sL w prog n Γ){A:xA}{F G:cA->Prop}{s:iA}{as:List cA}{st st2:Ev.St}{ρ':Fr}{i:Nat}{l:List V}{x dx a:cA}{env:Env}{m4:Str->Option dA}(hA':mB A n)
  (hk':env.scope.kind = .function) (hg':env.globals=3) (hb':env.builtins=0) (kindOf:∀ y,env.kindOf y=aE.lookup y) (hFx:F x) (hFd:F dx) (hGF:∀ a,G a->F a) (hGl:G env.locals) (hGx:¬ G x) (hGd:¬ G dx)
  (i4:Ev.Inv (Bw w) s.heap as F st) (hn4:s.heap.Ns env.locals m4) (ms4:m4 "self" = some (.ref x)) (mh4:m4 "headers" = some (.ref a)) (ha:as[i]? = some a) (hst:st[i]? = some (.list l))
  {ox:Obj} (hx:s.heap.get? x=some ox) (hxc:ox.cls = .ref 263) (hxn:∀ c,ox.data ≠ .cls c) (hxd:ox.dict=some dx) (hne:dx≠x) (hnd:s.heap.Ns1 dx fun _=>none)
  (hv:PB Γ (SA 3) (ρ2 i) st=some ((.next,ρ'),st2)) {Q:Flow->iA->Prop}{E:dA->iA->Prop}
  (hQ:Made w G (· = env.locals) i x dx st2 s as (Q .next)) :
  oA (model prog w) A (execs [SA 1,SA 2,SA 3] env) Q E s:=by
 have f4:DA (Bw w) s.heap as F env (ρH (.ref i)):=oZ hk' hg' hb' kindOf hn4 (hGF _ hGl) mh4 (.ref ha)
 refine step ?_
 rw [Lf]
 refine wpAny_If ((vN (pY w 0) WX _ _ (jD _)).2 _ _ _ _ (X3 hA') s as _ f4 i4 _ _ (nc hst) _ _ fun c h5 as5 tk5 rc i5 e5 ht5=>?_)
 cases (rc:false=c)
 rw [if_neg (by decide)]
 refine JA ⟨rfl,?_⟩
 have hn5:h5.Ns env.locals m4:=by
  obtain⟨o,es,ep,ho,r⟩:=hn4
  exact⟨o,es,ep,e5.keep _ _ ho (fun q=>i4.apart _ q (hGF _ hGl)) id,r⟩
 exact Wf w stm hA' hk' hg' hb' kindOf hFx hFd hGF hGl hGx hGd (s:={ s with heap:=h5,toks:=tk5 }) i5 hn5 ms4 mh4 (zN e5.pre ha) (e5.keep x ox hx (fun q=>i4.apart _ q hFx) id) hxc hxn hxd hne (by
   obtain⟨o,es,ep,ho,r⟩:=hnd
   exact⟨o,es,ep,e5.keep dx o ho (fun q=>i4.apart _ q hFd) id,r⟩) hv
  fun h7 as7 tk7 a' o6 d6 i7 e7=>hQ h7 as7 tk7 a' o6 d6 i7 ((e5.weak fun _ q=>q.elim).trans e7)
theorem Uf(w:eA){prog:pA}{n:Nat}{Γ:Ev.Ctx}(stm:sL w prog n Γ){A:xA}{F G:cA->Prop}{s:iA}{as:List cA}{st st1 st2:Ev.St}{ρ':Fr}{i:Nat}{l:List V}{v0:V}{y0:dA}{x dx:cA}{env:Env}{m0:Str->Option dA}(hA':mB A n)
  (hk':env.scope.kind = .function) (hg':env.globals=3) (hb':env.builtins=0) (kindOf:∀ y,env.kindOf y=aE.lookup y) (hFx:F x) (hFd:F dx) (hGF:∀ a,G a->F a) (hGl:G env.locals) (hGx:¬ G x) (hGd:¬ G dx)
  (i2:Ev.Inv (Bw w) s.heap as F st) (hn2:s.heap.Ns env.locals m0) (ms:m0 "self" = some (.ref x)) (mh:m0 "headers" = some y0) (r0:kA (Bw w) s.heap as F v0 y0)
  {ox:Obj} (hx:s.heap.get? x=some ox) (hxc:ox.cls = .ref 263) (hxn:∀ c,ox.data ≠ .cls c) (hxd:ox.dict=some dx) (hne:dx≠x) (hnd:s.heap.Ns1 dx fun _=>none)
  (hv0:evalE ΓI (vE (SA 0)) (ρH v0) st=some (.ref i,st1)) (hst:st1[i]? = some (.list l)) (hv:PB Γ (SA 3) (ρ2 i) st1=some ((.next,ρ'),st2)) {Q:Flow->iA->Prop}{E:dA->iA->Prop}
  (hQ:Made w G (· = env.locals) i x dx st2 s as (Q .next)) :
  oA (model prog w) A (execs [SA 0,SA 1,SA 2,SA 3] env) Q E s:=by
 obtain⟨sk,sco,sge,ss,sh,sall⟩:=TQ
 have hFl:=hGF _ hGl
 have hxl:x≠env.locals:=fun q=>hGx (q▸hGl)
 have hdl:dx≠env.locals:=fun q=>hGd (q▸hGl)
 have f2:DA (Bw w) s.heap as F env (ρH v0):=oZ hk' hg' hb' kindOf hn2 hFl mh r0
 refine step ?_
 rw [Kf]
 refine wpAny_Assign_Name ?_ (aR yk _ _ _)
 refine (vN (pY w 0) WX _ (vE (SA 0)) (jD _)).1 _ _ _ _ (X3 hA') s as st f2 i2 _ _ hv0 _ _ fun y h3 as3 tk3 ry i3 e3 ht3=>?_
 obtain⟨a,rfl,ha⟩:=AG ry
 have hn3:h3.Ns env.locals m0:=by
  obtain⟨o,es,ep,ho,r⟩:=hn2
  exact⟨o,es,ep,e3.keep _ _ ho (fun q=>i2.apart _ q hFl) id,r⟩
 refine wpAny_storeName_local (by rw [kindOf];exact sh) hn3 (fun h4 hn4 hs4=>?_) (by rw [hk'];rfl)
 refine⟨rfl,?_⟩
 have hk4:∀ a o,a≠env.locals->h3.get? a=some o->h4.get? a=some o:=fun a o q e=>(hs4.2 a q).trans e
 have hl4:∃ o,h4.get? env.locals=some o:=by obtain⟨o,_,_,ho,_⟩:=hn4;exact⟨o,ho⟩
 have ms4:(fun z=>if z=("headers":Str) then some (dA.ref a) else m0 z) "self" = some (.ref x):=by
  show (if ("self":Str)=("headers":Str) then some (dA.ref a) else m0 "self")=_
  rw [if_neg (by decide +kernel)];exact ms
 exact Vf w stm hA' hk' hg' hb' kindOf hFx hFd hGF hGl hGx hGd (s:={ s with heap:=h4,toks:=tk3+1 }) (i3.atF hFl hk4 hl4) hn4 ms4 (if_pos rfl) ha hst
  (hk4 _ _ hxl (e3.keep x ox hx (fun q=>i2.apart _ q hFx) id)) hxc hxn hxd hne (by
   obtain⟨o,es,ep,ho,r⟩:=hnd
   exact⟨o,es,ep,hk4 _ _ hdl (e3.keep dx o ho (fun q=>i2.apart _ q hFd) id),r⟩) hv
  fun h7 as7 tk7 a' o6 d6 i7 e7=>hQ h7 as7 tk7 a' o6 d6 i7 ((e3.weak fun _ q=>q.elim).trans (((qA.atF hk4 hl4).weak fun _ q=>.inr q).trans e7))
theorem Qf(w:eA){prog:pA}{n:Nat}{Γ:Ev.Ctx}(stm:sL w prog n Γ){A:xA}{F G:cA->Prop}{s:iA}{as:List cA}{st st1 st2:Ev.St}{ρ':Fr}{i:Nat}{l:List V}{v0:V}{y0:dA}{rest:List dA}{x dx:cA}(hh:A.handled=none)(hd:A.depth+3*n+1<recursionLimit)(hu:A.units+10*n+43<cLine)
  (i0:Ev.Inv (Bw w) s.heap as F st) (hFx:F x) (hFd:F dx) (hGF:∀ a,G a->F a) (hGx:¬ G x) (hGd:¬ G dx) (r0:kA (Bw w) s.heap as F v0 y0) (hb:BindsTo s (fdOf (qJ w.params)) ⟨.ref x::rest,[]⟩ [("self",.ref x),("headers",y0)])
  {ox:Obj} (hx:s.heap.get? x=some ox) (hxc:ox.cls = .ref 263) (hxn:∀ c,ox.data ≠ .cls c) (hxd:ox.dict=some dx) (hne:dx≠x) (hnd:s.heap.Ns1 dx fun _=>none)
  (hv0:evalE ΓI (vE (SA 0)) (ρH v0) st=some (.ref i,st1)) (hst:st1[i]? = some (.list l)) (hv:PB Γ (SA 3) (ρ2 i) st1=some ((.next,ρ'),st2)) {Q:dA->iA->Prop}{E:dA->iA->Prop}
  (hQ:Made w G (fun _=>False) i x dx st2 s as fun s'=>s.toks<=s'.toks->Q .none s') :
  oA (model prog w) A (call (.ref 157) (.ref x::rest)) Q E s:=by
 obtain⟨lk,lkc,lkd⟩:=KT w
 obtain⟨sk,sco,sge,ss,sh,sall⟩:=TQ
 have X:(KF w.params).In s.heap:=fun a o e=>(i0.base a o e).1
 have hd1:A.depth+1<recursionLimit:=iB (eG (BB _ _) 1) hd
 refine QE (n:=s.toks) (sA _) (wpAny_call (codeAny_call_function (Nat.lt_of_succ_lt hd1) (X _ _ lk) (o:=qJ w.params) (fd:=fdOf (qJ w.params)) rfl sco sge rfl ⟨156,cU w.params,_,_,rfl,X _ _ lkc,rfl,rfl⟩ ?_))
 refine hb _ _ _ _ ?_
 refine wpAny_newFunctionEnv_cells sk (fun p hp=>?_) fun env he s2 hin=>?_
 ·refine .inl ?_
  simp only [bB,aH,or_false] at hp
  rcases hp with rfl|rfl
  ·exact ss
  ·exact sh
 have eL:env.locals=s.heap.objs.size:=by rw [he];rfl
 have eS:env.scope=fS (meth 65 0):=by rw [he];rfl
 have kindOf:∀ y,env.kindOf y=aE.lookup y:=fun y=>by unfold Env.kindOf;rw [eS];rfl
 obtain⟨h2,tk2,rfl⟩:=hin.toInCall.same
 have hk2:∀ a o,s.heap.get? a=some o->h2.get? a=some o:=hin.toInCall.keep
 have X2:(KF w.params).In h2:=fun a o e=>hk2 a o (X a o e)
 refine⟨A2 w _ X2,codeAny_func ?_⟩
 have hL:∀ a∈[s.heap.objs.size],s.heap.get? a=none:=fun a ha=>by rw [BA.mp ha];exact RC _
 have hlive:∀ a∈[s.heap.objs.size],∃ o,h2.get? a=some o:=fun a ha=>by
  rw [BA.mp ha,<- eL]
  obtain⟨o,_,_,ho,_⟩:=hin.toInCall.ns
  exact⟨o,ho⟩
 have hLF:∀ a∈[s.heap.objs.size],¬ F a:=fun a ha=>(i0.fresh (hL a ha)).2
 have hLG:∀ a∈[s.heap.objs.size],¬ G a:=fun a ha q=>hLF a ha (hGF a q)
 have i2:Ev.Inv (Bw w) h2 as (Fu F [s.heap.objs.size]) st:=i0.more hk2 hL hlive
 have hk':env.scope.kind = .function:=by rw [eS];exact sk
 have hg':env.globals=3:=by rw [he];rfl
 have hb':env.builtins=0:=by rw [he];rfl
 have hLs:env.locals∈[s.heap.objs.size]:=by rw [eL];exact HA
 have nd:([("self":Str),"headers"]:List Str).Nodup:=by decide +kernel
 have hn2:=hin.toInCall.ns
 generalize hm0:bindL env.kindOf [(("self":Str),dA.ref x),("headers",y0)] (fun _=>none)=m0 at hn2
 have ms:m0 "self" = some (.ref x):=by rw [<-hm0];exact wP nd qD (by rw [kindOf];exact ss)
 have mh:m0 "headers" = some y0:=by rw [<-hm0];exact wP nd (by rw [bD (by decide +kernel)];exact qD) (by rw [kindOf];exact sh)
 have hA':mB (A.deeper env) n:=⟨hh,by show A.depth+1+3*n<_;rw [RE];exact hd,by show A.units+3+10*n+40<_;rw [RE A.units 3];exact hu⟩
 have r2:kA (Bw w) h2 as (Fu F [s.heap.objs.size]) v0 y0:=r0.mono (wB _) (cH hk2 hL)
 rw [show fB (meth 65 0)=[SA 0,SA 1,SA 2,SA 3] from Nf]
 refine Uf w (G:=Fu G [s.heap.objs.size]) stm hA' hk' hg' hb' kindOf (.inl hFx) (.inl hFd) (fun a q=>q.imp (hGF a) id) (.inr hLs) (fun q=>q.elim hGx fun q=>hLF x q hFx) (fun q=>q.elim hGd fun q=>hLF dx q hFd) (s:={ s with heap:=h2,toks:=tk2 }) i2 hn2 ms mh r2 (hk2 x ox hx) hxc hxn hxd hne (by
   obtain⟨o,es,ep,ho,r⟩:=hnd
   exact⟨o,es,ep,hk2 dx o ho,r⟩) hv0 hst hv fun h7 as7 tk7 a o6 d6 i7 e7 ha7 hx7 hd7 H6 q1 q2=>?_
 intro htk
 exact hQ h7 as7 tk7 a o6 d6 (i7.drop hLG fun _ _ _ e=>e) (((qA.keeps hk2).trans (e7.weak fun b q=>q.imp .inl fun q=>by rw [q];exact hLs)).thenL (fun _ _ _ e=>e) hL) ha7 hx7 hd7 H6 q1 q2 htk
end Mine
end
section
namespace Mine
open Ev
theorem K9(w:eA):TA (MA (ZD w.params)) "__init__" = some (.ref 157):=by kernel_rfl
theorem et(l:List dA):(Code.builtin "type.__call__" ⟨.ref 263::l,[]⟩).weight=1/\(Code.builtin "type.__call__" ⟨.ref 263::l,[]⟩).cUnits=1:=by constructor<;>kernel_rfl
theorem T1(w:eA){prog:pA}{n:Nat}{Γ:Ev.Ctx}(stm:sL w prog n Γ){A:xA}{F:cA->Prop}{s:iA}{as:List cA}{st st1 st2:Ev.St}{ρ':Fr}{j:Nat}{l:List V}{v0:V}{y0:dA}{rest:List dA}(hA:mB A (n+1))(i:Ev.Inv (Bw w) s.heap as F st)
  (r0:kA (Bw w) s.heap as F v0 y0) (hb:∀ x (s':iA),(KF w.params).In s'.heap->BindsTo s' (fdOf (qJ w.params)) ⟨.ref x::rest,[]⟩ [("self",.ref x),("headers",y0)])
  (hv0:evalE ΓI (vE (SA 0)) (ρH v0) st=some (.ref j,st1)) (hst:st1[j]? = some (.list l)) (hv:PB Γ (SA 3) (ρ2 j) st1=some ((.next,ρ'),st2)) {Q:dA->iA->Prop}{E:dA->iA->Prop} (hQ:QV (Bw w) F s as (.hd j) st2 Q) :
  oA (model prog w) A (call (.ref (Bw w).cls) rest) Q E s:=by
 obtain⟨hh,g,d,t,os⟩:=s
 have X:(KF w.params).In hh:=fun a o e=>(i.base a o e).1
 have hn:=pJ X (wQ w) (GQ w)
 refine QE (n:=t) (sA _) (wpAny_call_obj_init PySem.F.objNew (X _ _ (LN w)) hn (K9 w) (X _ _ (KT w).1) rfl fun h' x dx Mk=>?_)
 obtain⟨ox,hx,hcx,hncx,hdx⟩:=Mk.inst
 have hdd:=Mk.dict ox hx
 have hnsd:h'.Ns1 dx fun _=>none:=by
  rcases hdx with ⟨hn0,_⟩|⟨d',hd',_,hns'⟩
  ·rw [hn0] at hdd;exact wA hdd
  ·obtain rfl:=Option.some.inj (hd'.symm.trans hdd);exact hns'
 have hne:dx≠x:=by
  rcases hdx with ⟨hn0,_⟩|⟨d',hd',hne',_⟩
  ·rw [hn0] at hdd;exact wA hdd
  ·obtain rfl:=Option.some.inj (hd'.symm.trans hdd);exact hne'
 have hL:∀ a∈[x,dx],hh.get? a=none:=fun a ha=>by
  simp only [bB,aH,or_false] at ha
  rcases ha with rfl|rfl
  ·exact Mk.newX
  ·exact Mk.newD
 have hlive:∀ a∈[x,dx],∃ o,h'.get? a=some o:=fun a ha=>by
  simp only [bB,aH,or_false] at ha
  rcases ha with rfl|rfl
  ·exact⟨_,hx⟩
  ·obtain⟨o,_,_,e,_⟩:=hnsd;exact⟨o,e⟩
 have hLF:∀ a∈[x,dx],¬ F a:=fun a ha=>(i.fresh (hL a ha)).2
 have i1:Ev.Inv (Bw w) h' as (Fu F [x,dx]) st:=i.more Mk.keeps hL hlive
 obtain⟨w1,w2⟩:=et rest
 have hD:=hA.depth
 have hU:=hA.units
 refine Qf w stm (A:=A.under (.builtin "type.__call__" ⟨.ref (Bw w).cls::rest,[]⟩)) (s:=⟨h',g,d,t,os⟩) (F:=Fu F [x,dx]) (G:=F) (x:=x) (dx:=dx) hA.hh ?_ ?_ i1 (.inr (by simp)) (.inr (by simp)) (fun _=>.inl) (hLF x (by simp)) (hLF dx (by simp)) (r0.mono (wB _) (cH Mk.keeps hL)) (hb x _ fun a o e=>Mk.keeps a o (X a o e)) hx hcx hncx hdd hne hnsd hv0 hst hv fun h'' as' tk a o' d' i2 e2 ha hx2 hd2 H q1 q2 ht=>?_
 ·show A.depth+(Code.builtin "type.__call__" ⟨.ref 263::rest,[]⟩).weight+3*n+1<_
  rw [w1];exact Pp hD
 ·show A.units+(Code.builtin "type.__call__" ⟨.ref 263::rest,[]⟩).cUnits+10*n+43<_
  rw [w2];exact Qp hU
 refine⟨rfl,fun htk=>?_⟩
 have E0:qA (fun b=>no b\/b∈[x,dx]) hh as h'' as':=(qA.keeps Mk.keeps).trans (e2.weak fun b q=>.inr (by rcases q with (rfl|rfl)|q<;>first|exact (show False from q).elim|simp|exact (show False from q).elim))
 exact hQ (.ref x) h'' as' tk (.hd ha hx2 q1 (hLF x (by simp)) hd2 H q2 (hLF dx (by simp))) i2 (E0.thenL (fun _ _ _ e=>e) hL) htk
theorem tf(Γ:Ev.Ctx)(st:Ev.St):∀ a:V,(bT Γ a st).elim True fun _=>∃ j,a = .ref j:=by
 intro a
 rcases a with ⟨⟩<;>first|exact True.intro|exact zB ⟨_,rfl⟩
theorem Ak(w:eA){prog:pA}{n:Nat}{Γ:Ev.Ctx}(stm:sL w prog n Γ)(hi:Γ.init=some (aE,SA 3))(A:xA)(F:cA->Prop)(s:iA)(as:List cA)(st:Ev.St)(vs:List V)(xs:List dA)(hA:mB A (n+1))(i:Ev.Inv (Bw w) s.heap as F st)(rs:vA (Bw w) s.heap as F vs xs) :
  vF (Bw w) prog w A F no (RV (Bw w) F) (call (.ref (Bw w).cls) xs []) (IP Γ "Headers" vs) s as st:=by
 intro v st' hv Q E hQ
 have X:∀ {s':iA},(KF w.params).In s'.heap->s'.heap.get? 150=some (UN w.params):=fun X=>X _ _ (KT w).2.2
 rcases vs with _|⟨a,r⟩
 ·obtain rfl:=AM rs
  have h:some (V.hd st.length,st++[O.list []])=some (v,st'):=hv
  cases h
  exact T1 w stm hA i .none (fun x s' X'=>Rf w (X X') rfl (.ref x)) (kc st) ZG (oc ZG) hQ
 ·replace hv:lC (bT Γ) QC (a::r) st=some (v,st'):=hv
  obtain⟨a,y,rfl,ra,hv⟩:=UG hv rs
  obtain⟨j,rfl⟩:=AC (tf Γ st a) hv
  replace hv:(do let p <- gt Γ.init;match <- PB Γ p.2 ⟨p.1,[("self",.hd j),("headers",.ref j)],fun _=>.none⟩ with|(.next,_)=>pure (.hd j)|_=>yA:mA V) st=some (v,st'):=hv
  rw [hi] at hv
  refine EA (show (PB Γ (SA 3) (ρ2 j)>>=fun q=>match q with|(.next,_)=>pure (.hd j)|_=>yA:mA V) st=some (v,st') from hv) fun p st2 h1 h2=>?_
  obtain⟨fl,ρ'⟩:=p
  cases fl with
  | next =>
   obtain⟨rfl,rfl⟩:=eB h2
   obtain⟨ad,rfl,e⟩:=AG ra
   have hj:∃ l,st[j]? = some (.list l):=by
    rcases q:st[j]? with _|o
    ·have h3:=List.getElem?_eq_none_iff.mp q
     have h4:=(sF.mp e).1
     rw [i.len] at h4
     exact absurd h4 (CE.mpr h3)
    ·cases o;exact⟨_,rfl⟩
   obtain⟨l,hl⟩:=hj
   exact T1 w stm hA i ra (fun x s' X'=>Sf w (X X') rfl (.ref x) _) (lc st j) hl h1 hQ
  | _=>exact (YC (st:=st2) h2).elim
end Mine
end
section
namespace Mine
open Ev
noncomputable def BH:List Int:=[65024,65025,65026,65027,65028,65029,6150,65030,65031,65032,65033,6155,6156,6157,8203,8204,8205,65034,65035,65036,65037,65038,65039,173,847,8288,65279]
noncomputable def SI:List (Int×List Nat):=nB.map fun p=>(p.1,p.2.cps.toList)
noncomputable def mF:List (List Nat×Int):=[([33],54),([33,61],28),([37],24),([37,61],40),([38],19),([38,61],41),([40],7),([41],8),([42],16),([42,42],35),([42,42,61],46),([42,61],38),([43],14),([43,61],36),([44],12),([45],15),([45,61],37),([45,62],51),([46],23),([46,46,46],52),([47],17),([47,47],47),([47,47,61],48),([47,61],39),([58],11),([58,61],53),([59],13),([60],20),([60,60],33),([60,60,61],44),([60,61],29),([61],22),([61,61],27),([62],21),([62,61],30),([62,62],34),([62,62,61],45),([64],49),([64,61],50),([91],9),([93],10),([94],32),([94,61],43),([123],25),([124],18),([124,61],42),([125],26),([126],31)]
noncomputable def iH(x:Str):Option (List (V×V)) :=
 if x=("b1_set":Str) then some (BH.map fun n=>(.int n,.none))
 else if x=("b3_exceptions":Str) then some (SI.map fun p=>(.int p.1,.str p.2))
 else if x=("EXACT_TOKEN_TYPES":Str) then some (mF.map fun p=>(.str p.1,.int p.2))
 else .none
end Mine
end
section
namespace Mine
open PySem.Builtin.Re
theorem cX{m:Sre.M}(hc:∀ i,i<m.lim->∀ seen,∃ seen',Sre.inSet m.code (m.text.getD i 0) m.code.size 5 true seen = .ok (false,seen')) :
  ∀ (fuel s:Nat) (seen:Sre.Seen),∃ seen',Sre.M.admitted m fuel s seen = .ok (none,seen')
 | 0,s,seen=>⟨seen,rfl⟩
 | fuel+1,s,seen=>by
  by_cases h:s ≥ m.lim
  ·exact⟨seen,if_pos h⟩
  ·have ⟨seen',e⟩:=hc s (Nat.lt_of_not_le h) seen
   have ⟨t,q⟩:=cX hc fuel (s+1) seen'
   exact⟨t,(if_neg h).trans (by rw [e];exact q)⟩
def LJ(m:Sre.M):Prop:=m.answer=some false/\m.frames=[]/\m.outcome=none
theorem uq{m:Sre.M}(h1:m.frames=[])(h2:m.outcome=none):LJ (m.say false):=⟨rfl,h1,h2⟩
theorem g7(m:Sre.M)(hf:m.hasFirstSet=true)(hc:∀ i,i<m.lim->∀ seen,∃ seen',Sre.inSet m.code (m.text.getD i 0) m.code.size 5 true seen = .ok (false,seen'))(h1:m.frames=[])(h2:m.outcome=none):LJ (m.attemptFrom 0 true):=by
 unfold Sre.M.attemptFrom
 rw [hf]
 simp only [XO,jL,if_false]
 obtain⟨seen',e'⟩:=cX hc (m.lim+1 - 0) 0 m.seen
 rw [e']
 exact⟨rfl,h1,h2⟩
theorem wq{code text:Array Nat}{groups lim:Nat}(h1:∀ m:Sre.M,m.code=code->m.hasFirstSet=true)(hc:∀ i,i<lim->∀ seen,∃ seen',Sre.inSet code (text.getD i 0) code.size 5 true seen = .ok (false,seen')) :
  LJ (Sre.forSearch code text groups 0 lim false):=by
 unfold Sre.forSearch
 dsimp only
 split
 ·exact uq rfl rfl
 ·exact g7 _ (h1 _ rfl) hc rfl rfl
theorem lq{m:Sre.M}(h:LJ m):(m.runFor 4).outcome=some .failed:=by
 obtain⟨h1,h2,h3⟩:=h
 have e:m.step={ m with outcome:=some .failed }:=by
  unfold Sre.M.step
  simp [h1,h2,h3]
 have e2:m.runFor 4=m.step.runFor 3:=by
  show (if m.outcome.isSome then m else m.step.runFor 3)=_
  rw [h3];rfl
 rw [e2,e]
 rfl
theorem Sb{M:Model}{A:xA}{m:Sre.M}(h:LJ m){Q:Sre.M->iA->Prop}{E:dA->iA->Prop}{s:iA}(hQ:∀ m',m'.outcome=some .failed->Q m' s)(n:Nat):oA M A (reDrive (n+1) m) Q E s:=by
 show oA _ _ (let m:=m.runFor reTurnSteps;if m.outcome.isSome then pure m else do rule "sre.turn";reDrive n m) Q E s
 have e:=lq h
 show oA _ _ (if (m.runFor 4).outcome.isSome then pure (m.runFor 4) else do rule "sre.turn";reDrive n (m.runFor 4)) Q E s
 rw [if_pos (by rw [e];rfl)]
 exact JA (hQ _ e)
theorem aV{M:Model}{A:xA}{E:dA->iA->Prop}{s:iA}{p:Nat->Bool}{f:Nat->String}:∀ {l:List Nat}{Q:PUnit->iA->Prop},Q ⟨⟩ s->oA M A (forIn l PUnit.unit fun i r=>do
   if p i then rule (f i)
   pure (ForInStep.yield PUnit.unit)) Q E s
 | [],Q,h=>by
  rw [List.forIn_nil];exact JA h
 | i::l,Q,h=>by
  rw [VH]
  refine rA ?_
  split
  ·exact rA (MM (JA (aV h)))
  ·exact JA (aV h)
theorem jq{M:Model}{A:xA}{m:Sre.M}(h:LJ m){Q:Option Sre.M->iA->Prop}{E:dA->iA->Prop}{s:iA}(hQ:Q none s):oA M A (reRunToEnd m) Q E s:=by
 unfold reRunToEnd
 rw [show (2^64:Nat)=(2^64 - 1)+1 from by decide]
 refine rA (Sb h (fun m' e=>?_) _)
 refine rA (aV ?_)
 simp only [e]
 exact JA hQ
noncomputable def GP:Array Nat:=#[14,10,4,1,1,22,0,31,16,127,0,13,7,22,0,31,16,127,0,1]
noncomputable def HP:Array Nat:=#[14,14,4,1,1,9,4294966783,0,0,2147483648,0,0,0,0,0,13,11,9,4294966783,0,0,2147483648,0,0,0,0,0,1]
theorem Gf{code:Array Nat}{c fuel i:Nat}{yes:Bool}{seen:Sre.Seen}(h:code.getD (i+0) 0=22)(hn:(decide (code.getD (i+1) 0<=c)&&decide (c<=code.getD (i+2) 0))=false) :
  Sre.inSet code c (fuel+1) i yes seen=Sre.inSet code c fuel (i+3) yes (seen.add 22):=by
 conv=>lhs;whnf
 dsimp only
 rw [h,hn]
 rfl
theorem Ff{code:Array Nat}{c fuel i:Nat}{yes:Bool}{seen:Sre.Seen}(h:code.getD (i+0) 0=16)(hn:(c==code.getD (i+1) 0)=false) :
  Sre.inSet code c (fuel+1) i yes seen=Sre.inSet code c fuel (i+2) yes (seen.add 16):=by
 conv=>lhs;whnf
 dsimp only
 rw [h,hn]
 rfl
theorem Df{code:Array Nat}{c fuel i:Nat}{yes:Bool}{seen:Sre.Seen}(h:code.getD (i+0) 0=9)(hn:(decide (c<256)&&(code.getD (i+(1+c / 32)) 0).testBit (c%32))=false) :
  Sre.inSet code c (fuel+1) i yes seen=Sre.inSet code c fuel (i+9) yes (seen.add 9):=by
 conv=>lhs;whnf
 dsimp only
 rw [h,hn]
 rfl
theorem QZ{code:Array Nat}{c fuel i:Nat}{yes:Bool}{seen:Sre.Seen}(h:code.getD (i+0) 0=0):Sre.inSet code c (fuel+1) i yes seen = .ok (!yes,seen.add 0):=by
 conv=>lhs;whnf
 dsimp only
 rw [h]
 rfl
theorem uk{c:Nat}(h1:31<c)(h2:c≠127)(seen:Sre.Seen):∃ seen',Sre.inSet GP c GP.size 5 true seen = .ok (false,seen'):=by
 refine⟨_,(Gf (fuel:=19) rfl ?_).trans ((Ff (fuel:=18) rfl ?_).trans (QZ (fuel:=17) rfl))⟩
 ·have:decide (c<=GP.getD (5+2) 0)=false:=decide_eq_false (Nat.not_le.mpr h1)
  rw [this,CJ]
 ·exact beq_eq_false_iff_ne.mpr h2
theorem m9:∀ c:Fin 256,(c.val<32/\c.val≠9)\/c.val=127\/(HP.getD (5+(1+c.val / 32)) 0).testBit (c.val%32)=false:=by decide +kernel
theorem Rs{c:Nat}(h1:31<c\/c=9)(h2:c≠127)(seen:Sre.Seen):∃ seen',Sre.inSet HP c HP.size 5 true seen = .ok (false,seen'):=by
 refine⟨_,(Df (fuel:=27) rfl ?_).trans (QZ (fuel:=26) rfl)⟩
 by_cases h:c<256
 ·rcases m9 ⟨c,h⟩ with ⟨q1,q2⟩|q|q
  ·rcases h1 with h1|h1
   ·have:c<32:=q1
    exact absurd h1 (CE.mpr (dG this))
   ·exact absurd h1 q2
  ·exact absurd q h2
  ·rw [q,CJ]
 ·rw [decide_eq_false h,TO]
theorem Pc{code:Array Nat}(h1:code.getD 0 0=14)(h2:code.getD 2 0=4)(m:Sre.M)(h:m.code=code):m.hasFirstSet=true:=by
 unfold Sre.M.hasFirstSet
 rw [h,h1,h2]
 rfl
theorem H3:PlainAttrs "re.Pattern" :=
 ⟨⟨"object.__getattribute__",by rw [EF,wF];kernel_rfl,by decide +kernel⟩,by rw [EF,wF];kernel_rfl⟩
theorem Oo:Manifest.owners.lookup (String.ofList ['n','r','e','t','t','a','P','.','e','r'].reverse)=some Manifest.sig_re_Pattern:=by kernel_rfl
theorem b7(a b:dA):argsOk "re.Pattern.search" ⟨[a,b],[]⟩:=by
 unfold argsOk;rw [signature?_of (id:="re.Pattern.search") (n:=['h','c','r','a','e','s']) (o:=['n','r','e','t','t','a','P','.','e','r']) (by kernel_rfl) Oo];kernel_rfl
theorem mV:Slot "re.Pattern" "search" "re.Pattern.search" :=
 .of (owner:="re.Pattern") (n:="search") (by rw [EF,wF];kernel_rfl) (by decide +kernel) (by decide +kernel) (by decide +kernel)
  (by first|exact .inl (by decide +kernel)|exact .inr (by decide +kernel)) (by rw [isSubtype_type];kernel_rfl)
theorem Y5:typeOf (.builtin "re.Pattern.search")=pure (.type "method_descriptor"):=by show builtinType _=_;rw [builtinType_eq_fast];kernel_rfl
theorem fc:entryFor table "re.Pattern.search" = some Builtin.«re.Pattern.search»:=entryFor_of_tree (by kernel_rfl)
theorem wk(v:dA):reNamed "re.Pattern.search" "search" ["string","pos","endpos"] 1 [v] []=pure [some v,none,none]:=by kernel_rfl
theorem yq{α:Type}{M:Model}{A:xA}{t t':Sem α}{Q:α->iA->Prop}{E:dA->iA->Prop}{s:iA}(e:t=t')(h:oA M A t' Q E s):oA M A t Q E s:=by rw [e];exact h
theorem Bh{l:List Nat}{i:Nat}(h:i<l.length):(l.toArray).getD i 0∈l:=by
 simp [Array.getD,h]
theorem UX{prog:pA}{w:eA}{A:xA}{s:iA}{a l:cA}{p fl:dA}{o ol:Obj}{items:Array dA}{n:Nat}{code:Array Nat}{x:List Nat}{t:Tok}
  (ho:s.heap.get? a=some o) (hc:o.cls = .type "re.Pattern") (hd:o.data = .fields #[p,fl,.int 0 0,.none,.none,.ref l,.int 0 0]) (hl:s.heap.get? l=some ol) (hi:ol.data = .seq items n) (hcode:(items.map reRawOf).map (·.toNat)=code)
  (h1:code.getD 0 0=14) (h2:code.getD 2 0=4) (hx:∀ c∈x,∀ seen,∃ seen',Sre.inSet code c code.size 5 true seen = .ok (false,seen'))
  {Q:dA->iA->Prop}{E:dA->iA->Prop} (hQ:Q .none s):oA (model prog w) A (call (.builtin "re.Pattern.search") [.ref a,.str ⟨x.toArray⟩ t]) Q E s:=by
 refine nR mV ⟨o,ho,hc⟩ fc ?_ (b7 _ _)
 unfold Builtin.«re.Pattern.search» reTarget
 refine rA ?_
 show oA _ _ (reNamed "re.Pattern.search" "search" ["string","pos","endpos"] 1 [.str ⟨x.toArray⟩ t] []>>=_) _ E s
 rw [wk]
 refine rA (JA ?_)
 refine rA (JA ?_)
 refine rA (JA ?_)
 refine rA (wpAny_fieldsOf ho hd ?_)
 refine yq (t':=reRawItems (.ref l)>>=fun d=>pure (ReTarget.mk (.ref a) (.str ⟨x.toArray⟩ t) (d.map (·.toNat)) x.toArray 0 0 (min (Int.toNat 0) x.toArray.size) (min (2^63 - 1:Int).toNat x.toArray.size))) (by kernel_rfl) ?_
 unfold reRawItems
 refine rA (rA (pR hl hi (JA (JA ?_))))
 unfold reAnswer
 refine rA (jq ?_ ?_)
 ·show LJ (Sre.forSearch ((items.map reRawOf).map (·.toNat)) x.toArray 0 (min (Int.toNat 0) x.toArray.size) (min (2^63 - 1:Int).toNat x.toArray.size) false)
  rw [hcode,show min (Int.toNat 0) x.toArray.size=0 from Nat.zero_min _]
  refine wq (Pc h1 h2) fun i hi seen=>hx _ (Bh ?_) seen
  have:i<x.toArray.size:=cC hi (GJ _ _)
  simpa using this
 ·exact JA ⟨_,rfl,hQ⟩
end Mine
end
section
namespace Mine
open Ev
noncomputable def qM{α β:Type}(f:α->β->Bool):List α->List β->Bool
 | [],[]=>true
 | a::r,b::t=>f a b&&qM f r t
 | _,_=>false
noncomputable def pM(e:Int×dA)(k:Int):Bool:=match e.2 with
 | .int i _=>i==k&&e.1==ZC k
 | _=>false
theorem Mn(a k:Int):∀ v:dA,cond (pM (a,v) k) (∃ i u,v = .int i u) True:=by
 intro v
 rcases v with ⟨⟩<;>first|exact True.intro|exact DL ⟨_,_,rfl⟩
theorem Ln{e:Int×dA}{k:Int}(h:pM e k=true):∃ t,e=(ZC k,.int k t):=by
 obtain⟨a,v⟩:=e
 obtain⟨i,u,rfl⟩:=QD (H:=True) (Mn a k v) h
 obtain⟨h1,h2⟩:=(KA _ _).mp h
 obtain rfl:=eq_of_beq h1
 obtain rfl:=eq_of_beq h2
 exact⟨_,rfl⟩
theorem IY{prog:pA}{w:eA}:∀ {es:List (Int×dA)}{l:List Int},qM pM es l=true->ElemsOf (intKind prog w) es/\∀ k,(decide (k∈l)=true ↔ ∃ e∈es,(intKind prog w).is k e.2=true)
 | [],[],_=>⟨fun e he=>by simp at he,fun k=>by simp⟩
 | e::r,k::l,h=>by
  replace h:=(KA _ _).mp h
  obtain⟨t,rfl⟩:=Ln h.1
  obtain⟨h1,h2⟩:=IY (prog:=prog) (w:=w) h.2
  have hi:∀ j,((intKind prog w).is j (.int k t)=true) ↔ j=k:=fun j=>by
   show (k==j)=true ↔ _
   exact⟨fun q=>(by simpa using q:k=j).symm,fun q=>by simp [q]⟩
  refine⟨fun e he=>?_,fun j=>?_⟩
  ·rcases bB.mp he with rfl|he
   ·exact⟨⟨k,(hi k).mpr rfl,rfl⟩,rfl⟩
   ·exact h1 e he
  ·constructor
   ·intro hj
    have hj':j=k\/j∈l:=by simpa using hj
    rcases hj' with q|q
    ·exact⟨_,HA,(hi j).mpr q⟩
    ·obtain⟨e,he,hk⟩:=(h2 j).mp (by simpa using q)
     exact⟨e,NA _ he,hk⟩
   ·rintro⟨e,he,hk⟩
    have:j=k\/j∈l:=by
     rcases bB.mp he with rfl|he
     ·exact .inl ((hi j).mp hk)
     ·exact .inr (by simpa using (h2 j).mpr ⟨e,he,hk⟩)
    simpa using this
 | [],_::_,h=>by exact VB h
 | _::_,[],h=>by exact VB h
noncomputable def MP(o:Obj):Array (Int×dA):=match o.data with | .set es _ _=>es|_=>#[]
noncomputable def M5(o:Obj):SetTable:=match o.data with | .set _ _ t=>t|_=>default
noncomputable def jc(o:Obj):Nat:=match o.data with | .set _ n _=>n|_=>0
theorem Bi(w:eA):(KF w.params).lookup 63=some (xG w.params):=by kernel_rfl
theorem Vb(w:eA):(xG w.params).data = .set (MP (xG w.params)) (jc (xG w.params)) (M5 (xG w.params)):=by kernel_rfl
theorem cc(w:eA):qM pM (MP (xG w.params)).toList BH=true:=by kernel_rfl
theorem Jd(w:eA):(M5 (xG w.params)).fits (MP (xG w.params)).size=true:=by kernel_rfl
theorem G5(w:eA):(MP (xG w.params)).size=27:=by kernel_rfl
theorem M4(w:eA){prog:pA}{h:Heap}(X:(KF w.params).In h):h.SetOf (intKind prog w) 63 (fun k=>decide (k∈BH)) 27:=by
 obtain⟨h1,h2⟩:=IY (prog:=prog) (w:=w) (cc w)
 refine⟨_,_,_,_,X _ _ (Bi w),⟨rfl,rfl,rfl⟩,Vb w,h1,h2,?_,Jd w,G5 w⟩
 rw [G5];decide
noncomputable def nM(e:pB)(p:Int×List Nat):Bool:=match e.key,e.val with
 | .int k _,.str x _=>k==p.1&&x.cps.toList==p.2&&e.hash==ZC k&&p.2.all (· < 0x110000)
 | _,_=>false
theorem Hn(a:Int)(v:dA)(p:Int×List Nat):∀ k:dA,cond (nM ⟨a,k,v⟩ p) (∃ i u,k = .int i u) True:=by
 intro k
 rcases k with ⟨⟩<;>first|exact True.intro|exact DL ⟨_,_,rfl⟩
theorem Jn(a:Int)(i:Int)(u:Tok)(p:Int×List Nat):∀ v:dA,cond (nM ⟨a,.int i u,v⟩ p) (∃ x t,v = .str x t) True:=by
 intro v
 rcases v with ⟨⟩<;>first|exact True.intro|exact DL ⟨_,_,rfl⟩
theorem Q2{e:pB}{p:Int×List Nat}(h:nM e p=true):∃ t u,e=⟨ZC p.1,.int p.1 t,.str (S p.2) u⟩/\∀ c∈p.2,c<0x110000:=by
 obtain⟨a,k,v⟩:=e
 obtain⟨n,l⟩:=p
 obtain⟨k,t,rfl⟩:=QD (H:=True) (Hn a v (n,l) k) h
 obtain⟨x,u,rfl⟩:=QD (H:=True) (Jn a k t (n,l) v) h
 obtain⟨h0,h4⟩:=(KA _ _).mp h
 obtain⟨h1,h3⟩:=(KA _ _).mp h0
 obtain⟨h1,h2⟩:=(KA _ _).mp h1
 obtain rfl:=eq_of_beq h1
 obtain rfl:=eq_of_beq h2
 obtain rfl:=eq_of_beq h3
 exact⟨t,u,by unfold S;simp,fun c hc=>of_decide_eq_true (YA.mp h4 c hc)⟩
theorem A0{prog:pA}{w:eA}:∀ {es:List pB}{l:List (Int×List Nat)},qM nM es l=true->(∀ e∈es,∃ k,(intKind prog w).is k e.key=true/\e.hash=(intKind prog w).hash k)
 | [],[],_,e,he=>by simp at he
 | e::r,p::l,h,x,hx=>by
  replace h:=(KA _ _).mp h
  obtain⟨t,u,rfl,_⟩:=Q2 h.1
  rcases bB.mp hx with rfl|hx
  ·exact⟨p.1,by show (p.1==p.1)=true;simp,rfl⟩
  ·exact A0 h.2 x hx
 | [],_::_,h,_,_=>by exact VB h
 | _::_,[],h,_,_=>by exact VB h
theorem eZ{B:CA}{h:Heap}{as:List cA}{F:cA->Prop}(k:Int):∀ {es:List pB}{l:List (Int×List Nat)},qM nM es l=true ->
  kA B h as F (((l.map fun p=>((V.int p.1,V.str p.2):V×V)).find? fun e=>e.1.isI k).elim .none (·.2)) (((es.find? fun e=>dA.isInt k e.key).map (·.val)).getD .none)
 | [],[],_=>.none
 | e::r,p::l,hp=>by
  replace hp:=(KA _ _).mp hp
  obtain⟨t,u,rfl,hc⟩:=Q2 hp.1
  have ih:=eZ (B:=B) (h:=h) (as:=as) (F:=F) k hp.2
  have e1:V.isI k (V.int p.1)=(p.1==k):=rfl
  have e2:dA.isInt k (.int p.1 t)=(p.1==k):=rfl
  simp only [sB,SV,e1,e2]
  rcases q:p.1==k with _|_
  ·exact ih
  ·exact .str _ _ hc
 | [],_::_,h=>by exact VB h
 | _::_,[],h=>by exact VB h
theorem IT(w:eA):(KF w.params).lookup 74=some (NH w.params):=by kernel_rfl
theorem JT(w:eA):(KF w.params).lookup 32=some (pH w.params):=by kernel_rfl
noncomputable def QY(o:Obj):Nat:=match o.data with | .dict _ n=>n|_=>0
theorem Wb(w:eA):(NH w.params).data = .dict (MA (NH w.params)) (QY (NH w.params)):=by kernel_rfl
theorem HY(w:eA):qM nM (MA (NH w.params)).toList SI=true:=by kernel_rfl
theorem Xb(w:eA):(pH w.params).data = .dict (MA (pH w.params)) (QY (pH w.params)):=by kernel_rfl
noncomputable def xr(e:pB):List Nat×Tok×Int×Tok:=match e.key,e.val with
 | .str x t,.int i u=>(x.cps.toList,t,i,u)
 | _,_=>([],0,0,0)
noncomputable def VI(P:lA)(q:List Nat×Tok×Int×Tok):pB:=kE P (S q.1) q.2.1 (.int q.2.2.1 q.2.2.2)
noncomputable def dE(w:eA):List (List Nat×Tok×Int×Tok):=(MA (pH w.params)).toList.map xr
theorem UY(w:eA):(MA (pH w.params)).toList=(dE w).map (VI w.params):=by kernel_rfl
theorem P5(w:eA):(dE w).map (fun q=>(q.1,q.2.2.1))=mF:=by kernel_rfl
theorem VR{a b:List Nat}:(S a==S b)=(a==b):=by
 unfold S
 by_cases h:a=b
 ·subst h;simp
 ·rw [beq_eq_false_iff_ne.mpr h]
  exact beq_eq_false_iff_ne.mpr fun e=>h (by simpa using e)
theorem US{B:CA}{h:Heap}{as:List cA}{F:cA->Prop}{w:eA}(k:List Nat){d:V}{y:dA}(rd:kA B h as F d y):∀ {l:List (List Nat×Tok×Int×Tok)},
  kA B h as F ((((l.map fun q=>(q.1,q.2.2.1)).map fun p=>((V.str p.1,V.int p.2):V×V)).find? fun e=>e.1.isS k).elim d (·.2)) ((((l.map (VI w.params)).find? fun e=>dA.isStrOf (S k) e.key).map (·.val)).getD y) /\
   (((l.map (VI w.params)).find? fun e=>dA.isStrOf (S k) e.key).map (·.val)).isSome=(((l.map fun q=>(q.1,q.2.2.1)).map fun p=>((V.str p.1,V.int p.2):V×V)).any fun e=>e.1.isS k)
 | []=>⟨rd,rfl⟩
 | q::l=>by
  have ih:=US (w:=w) k rd (l:=l)
  have e1:V.isS k (V.str q.1)=(q.1==k):=rfl
  have e2:dA.isStrOf (S k) (VI w.params q).key=(q.1==k):=VR
  simp only [sB,SV,YV,e1,e2]
  rcases q.1==k with _|_
  ·exact⟨ih.1,by simpa using ih.2⟩
  ·exact⟨.int _ _,rfl⟩
theorem th{prog:pA}{w:eA}(l:List (List Nat×Tok×Int×Tok)):∀ e∈l.map (VI w.params),∃ k,(strKind prog w).is k e.key=true/\e.hash=(strKind prog w).hash k:=by
 intro e he
 obtain⟨q,_,rfl⟩:=rC.mp he
 exact⟨S q.1,by show (S q.1==S q.1)=true;simp,rfl⟩
theorem fZ{p:pB->Bool}(a:Array pB):a.find? p=a.toList.find? p:=by
 cases a;simp
theorem pj(w:eA){prog:pA}{h:Heap}(X:(KF w.params).In h):h.MapOf (intKind prog w) 74 (fun k=>((MA (NH w.params)).toList.find? fun e=>dA.isInt k e.key).map (·.val)) :=
 ⟨_,_,_,X _ _ (IT w),⟨rfl,rfl,rfl⟩,Wb w,fun e he=>A0 (HY w) e (by simpa using he),fun k=>by unfold findBy;rw [fZ];rfl⟩
theorem XT(w:eA){prog:pA}{h:Heap}(X:(KF w.params).In h):h.MapOf (strKind prog w) 32 (fun k=>(((dE w).map (VI w.params)).find? fun e=>dA.isStrOf k e.key).map (·.val)) :=
 ⟨_,_,_,X _ _ (JT w),⟨rfl,rfl,rfl⟩,Xb w,fun e he=>th (dE w) e (by rw [<-UY];simpa using he),fun k=>by unfold findBy;rw [fZ,UY];rfl⟩
theorem FH{x:Str}{a b:cA}(h:kI.lookup x=some a)(hb:kI.lookup x=some b):a=b:=by rw [h] at hb;cases hb;rfl
theorem UU{w:eA}{h:Heap}{as:List cA}{F:cA->Prop}{x:Str}{y:dA}(r:kA (Bw w) h as F (.g x) y):∃ a,y = .ref a/\kI.lookup x=some a:=by
 exact kF r
theorem Cf{i:Int}:(BH.map fun n=>((V.int n,V.none):V×V)).any (fun e=>e.1.isI i)=decide (i∈BH):=by
 generalize BH=l
 induction l with
 | nil=>rfl
 | cons n r ih =>
  have e1:V.isI i (V.int n)=(n==i):=rfl
  simp only [sB,YV,e1,ih,bB]
  by_cases q:n=i
  ·subst q;simp
  ·have:¬ i=n:=fun e=>q e.symm
   simp [q,this]
theorem Te:iH "b1_set" = some (BH.map fun n=>(.int n,.none)):=by unfold iH;rw [if_pos rfl]
theorem Ue:iH "b3_exceptions" = some (SI.map fun p=>(.int p.1,.str p.2)):=by unfold iH;rw [if_neg (by decide +kernel),if_pos rfl]
theorem vZ:iH "EXACT_TOKEN_TYPES" = some (mF.map fun p=>(.str p.1,.int p.2)):=by unfold iH;rw [if_neg (by decide +kernel),if_neg (by decide +kernel),if_pos rfl]
theorem rh(w:eA){prog:pA}:JJ (Bw w) prog w iH:=by
 intro A F s as st a b x y t hh hu i ra rb h Q E
 have X:(KF w.params).In s.heap:=fun a o e=>(i.base a o e).1
 rcases AC (JZ iH st a b) h with ⟨ks,vs,rfl⟩|⟨gy,rfl⟩
 ·exact AY (KP w) ra rb h Q E
 obtain⟨ad,rfl,e⟩:=UU rb
 rcases AC (IZ iH st gy a) h with ⟨n,rfl⟩|⟨l,rfl⟩
 ·obtain⟨u,rfl⟩:=DC ra
  obtain⟨rfl,h2⟩:=pT h
  cases FH YW e
  rw [Te] at h2
  have h':some ((BH.map fun n=>((V.int n,V.none):V×V)).any (fun e=>e.1.isI n))=some t:=h2
  rw [Cf] at h'
  cases h'
  have his:(intKind prog w).is n (.int n u)=true:=by show (n==n)=true;simp
  exact⟨fun hQ=>wpAny_inSet_of his rfl (M4 w X) (hQ _ (CB _)),fun hQ=>wpAny_notInSet_of his rfl (M4 w X) (hQ _ (CB _))⟩
 ·obtain⟨u,rfl,hl⟩:=pC ra
  obtain⟨rfl,h2⟩:=pT h
  cases FH nP e
  rw [vZ] at h2
  have h':some ((mF.map fun p=>((V.str p.1,V.int p.2):V×V)).any (fun e=>e.1.isS l))=some t:=h2
  rw [<-P5 w,<- (US (B:=Bw w) (h:=s.heap) (as:=as) (F:=F) (w:=w) l .none (l:=dE w)).2] at h'
  cases h'
  have his:(strKind prog w).is (S l) (.str (S l) u)=true:=by show (S l==S l)=true;simp
  exact⟨fun hQ=>wpAny_in_of his (by decide) (XT w X) (hQ _ (CB _)),fun hQ=>wpAny_notIn_of his (by decide) (XT w X) (hQ _ (CB _))⟩
end Mine
end
section
namespace Mine
open Ev
theorem GT(w:eA):(KF w.params).lookup 129=some (G2 w.params):=by kernel_rfl
theorem zi(w:eA):(KF w.params).lookup 128=some (dM w.params):=by kernel_rfl
theorem HT(w:eA):(KF w.params).lookup 134=some (H2 w.params):=by kernel_rfl
theorem Ai(w:eA):(KF w.params).lookup 133=some (eM w.params):=by kernel_rfl
noncomputable def iQ(o:Obj):Array dA:=match o.data with | .seq xs _=>xs|_=>#[]
noncomputable def nS(o:Obj):Nat:=match o.data with | .seq _ n=>n|_=>0
theorem ca(w:eA):((iQ (dM w.params)).map Builtin.Re.reRawOf).map (·.toNat)=GP:=by kernel_rfl
theorem da(w:eA):((iQ (eM w.params)).map Builtin.Re.reRawOf).map (·.toNat)=HP:=by kernel_rfl
theorem Tb(w:eA):(dM w.params).data = .seq (iQ (dM w.params)) (nS (dM w.params)):=by kernel_rfl
theorem Ub(w:eA):(eM w.params).data = .seq (iQ (eM w.params)) (nS (eM w.params)):=by kernel_rfl
theorem NZ{y:Str}{id:String}(h:KC (.g y) "get" = some id):id = "dict.get":=by
 have h':some "dict.get" = some id:=(show KC (.g y) "get" = some "dict.get" by kernel_rfl).symm.trans h
 cases h';rfl
theorem OZ{y:Str}{id:String}(h:KC (.g y) "search" = some id):id = "re.Pattern.search":=by
 have h':some "re.Pattern.search" = some id:=(show KC (.g y) "search" = some "re.Pattern.search" by kernel_rfl).symm.trans h
 cases h';rfl
theorem We(w:eA){prog:pA}(A:xA)(F:cA->Prop)(s:iA)(as:List cA)(st:Ev.St)(y:Str)(ov:dA)(x:Str)(id:String)(inv:Ev.Inv (Bw w) s.heap as F st)(r:kA (Bw w) s.heap as F (.g y) ov)
  (hm:fK st (.g y) x=some (.m (.g y) x)) (hid:KC (.g y) x=some id) (pl:Sem Bool) (Q:dA×List dA->iA->Prop) (E:dA->iA->Prop) (hQ:Q (.builtin id,[ov]) s):oA (model prog w) A (getMethod ov x pl) Q E s:=by
 obtain⟨a,rfl,ha⟩:=UU r
 have X:(KF w.params).In s.heap:=fun a o e=>(inv.base a o e).1
 have hg:dJ y x=true:=by
  have hm':(if dJ y x then some (V.m (.g y) x) else .none)=some (V.m (.g y) x):=hm
  split at hm'
  ·assumption
  ·exact wA hm'
 unfold dJ at hg
 split at hg
 ·rename_i hy
  have hx:x = "search":=by simpa using hg
  subst hx
  cases OZ hid
  rcases hy with rfl|rfl
  ·cases FH XR ha
   exact YJ ⟨_,X _ _ (GT w),rfl⟩ H3 mV Y5 (fun b e=>by cases e;exact⟨_,X _ _ (GT w),rfl⟩) hQ
  ·cases FH YR ha
   exact YJ ⟨_,X _ _ (HT w),rfl⟩ H3 mV Y5 (fun b e=>by cases e;exact⟨_,X _ _ (HT w),rfl⟩) hQ
 ·split at hg
  ·rename_i hy
   have hx:x = "get":=by simpa using hg
   subst hx
   cases NZ hid
   rcases hy with rfl|rfl
   ·cases FH ZR ha
    exact YJ (T:="dict") ⟨_,X _ _ (IT w),rfl⟩ PySem.F.plainAttrs_dict PySem.F.slot_dict_get PySem.F.type_dict_get (fun b e=>by cases e;exact⟨_,X _ _ (IT w),rfl⟩) hQ
   ·cases FH nP ha
    exact YJ (T:="dict") ⟨_,X _ _ (JT w),rfl⟩ PySem.F.plainAttrs_dict PySem.F.slot_dict_get PySem.F.type_dict_get (fun b e=>by cases e;exact⟨_,X _ _ (JT w),rfl⟩) hQ
  ·exact VB hg
theorem Lp{B:CA}{h:Heap}{as:List cA}{F:cA->Prop}{u v:V}{xs:List dA}(r:vA B h as F [u,v] xs):∃ x y,xs=[x,y]/\kA B h as F u x/\kA B h as F v y:=by
 exact yM r
theorem Ze(w:eA){prog:pA}{A:xA}{s:iA}(X:(KF w.params).In s.heap){k:Int}{t:Tok}{Q:dA->iA->Prop}{E:dA->iA->Prop}
  (hQ:Q ((((MA (NH w.params)).toList.find? fun e=>dA.isInt k e.key).map (·.val)).getD .none) { s with toks:=s.toks+1 }):oA (model prog w) A (call (.builtin "dict.get") [.ref 74,.int k t]) Q E s:=by
 have his:(intKind prog w).is k (.int k t)=true:=by show (k==k)=true;simp
 have hm:=pj w (prog:=prog) X
 refine nR PySem.F.slot_dict_get hm.typeIs PySem.F.entry_dict_get ?_ (PySem.F.args_dict_get_2 _ _)
 show oA _ _ (dictGet 74 (.int k t)>>=_) _ _ s
 refine rA (wpAny_dictGet_of his hm ?_)
 generalize ((MA (NH w.params)).toList.find? fun e=>dA.isInt k e.key).map (·.val)=f at hQ ⊢
 rcases f with _|v
 ·show oA _ _ (Builtin.Dict.missed 74 (.int k t)>>=_) _ _ _
  exact rA (wpAny_missed_other (by decide) (JA ⟨.none,rfl,hQ⟩))
 ·exact JA ⟨v,rfl,hQ⟩
theorem af(w:eA){prog:pA}{A:xA}{s:iA}(X:(KF w.params).In s.heap){k:Str}{t:Tok}{d:dA}{Q:dA->iA->Prop}{E:dA->iA->Prop}
  (hQ:Q (((((dE w).map (VI w.params)).find? fun e=>dA.isStrOf k e.key).map (·.val)).getD d) { s with toks:=s.toks+1 }):oA (model prog w) A (call (.builtin "dict.get") [.ref 32,.str k t,d]) Q E s:=by
 have his:(strKind prog w).is k (.str k t)=true:=by show (k==k)=true;simp
 have hm:=XT w (prog:=prog) X
 refine nR PySem.F.slot_dict_get hm.typeIs PySem.F.entry_dict_get ?_ (PySem.F.args_dict_get_3 _ _ _)
 show oA _ _ (dictGet 32 (.str k t)>>=_) _ _ s
 refine rA (wpAny_dictGet_of his hm ?_)
 generalize (((dE w).map (VI w.params)).find? fun e=>dA.isStrOf k e.key).map (·.val)=f at hQ ⊢
 rcases f with _|v
 ·show oA _ _ (Builtin.Dict.missed 32 (.str k t)>>=_) _ _ _
  exact rA (wpAny_missed_other (by decide) (JA ⟨d,rfl,hQ⟩))
 ·exact JA ⟨v,rfl,hQ⟩
theorem Bj{gd:Str->Option (List (V×V))}{o:V}{vs:List V}:gF gd o "get" vs=lC (fun v=>do AZ gd (<- gt v.int?) o) (fun v d=>do bF gd (<- gt v.str?) d o) vs:=by kernel_rfl
theorem Fj{gd:Str->Option (List (V×V))}{o:V}{vs:List V}:gF gd o "search" vs=lC (fun v=>do H4 (<- gt v.str?) o) QC vs:=by kernel_rfl
theorem W9(w:eA){prog:pA}(A:xA)(F:cA->Prop)(s:iA)(as:List cA)(st:Ev.St)(y:Str)(ov:dA)(x:Str)(id:String)(vs:List V)(xs:List dA)(hA:mB A 0)(inv:Ev.Inv (Bw w) s.heap as F st)(r:kA (Bw w) s.heap as F (.g y) ov)
  (hid:KC (.g y) x=some id) (rs:vA (Bw w) s.heap as F vs xs):vF (Bw w) prog w A F no (RV (Bw w) F) (call (.builtin id) (ov::xs) []) (gF iH (.g y) x vs) s as st:=by
 obtain⟨a,rfl,ha⟩:=UU r
 have X:(KF w.params).In s.heap:=fun a o e=>(inv.base a o e).1
 have hx:x = "get" \/ x = "search":=by
  by_cases h1:x=("get":Str)
  ·exact .inl h1
  ·by_cases h2:x=("search":Str)
   ·exact .inr h2
   ·exact wA ((show KC (.g y) x=none from (if_neg h1).trans (if_neg h2)).symm.trans hid)
 rcases hx with rfl|rfl
 ·cases NZ hid
  rw [Bj]
  intro v st' hv Q E hQ
  rcases cS hv with ⟨k,rfl,h⟩|⟨k,d,rfl,h⟩
  ·obtain⟨k,h1,h2⟩:=AN h
   obtain rfl:=xE h1
   obtain⟨rfl,h3⟩:=mQ (st:=st) h2
   cases FH ZR ha
   obtain⟨z,rfl,rz⟩:=xM rs
   obtain⟨t,rfl⟩:=DC rz
   obtain⟨es,h4,h5⟩:=AN h3
   rw [Ue] at h4
   obtain rfl:=Option.some.inj h4
   obtain⟨rfl,rfl⟩:=eB h5
   exact Ze w X (hQ _ s.heap as (s.toks+1) (eZ k (HY w)) inv (qA.refl _ _ _) (CB _))
  ·obtain⟨k,h1,h2⟩:=AN h
   obtain rfl:=bG h1
   obtain⟨rfl,h3⟩:=mQ (st:=st) h2
   cases FH nP ha
   obtain⟨z,q,rfl,rz,rq⟩:=Lp rs
   obtain⟨t,rfl,_⟩:=pC rz
   obtain⟨es,h4,h5⟩:=AN h3
   rw [vZ] at h4
   obtain rfl:=Option.some.inj h4
   obtain⟨rfl,rfl⟩:=eB h5
   refine af w X (hQ _ s.heap as (s.toks+1) ?_ inv (qA.refl _ _ _) (CB _))
   rw [<-P5 w]
   exact (US (w:=w) k rq (l:=dE w)).1
 ·cases OZ hid
  rw [Fj]
  intro v st' hv Q E hQ
  obtain⟨u,z,rfl,rz,h⟩:=UG hv rs
  obtain⟨l,h1,h2⟩:=AN h
  obtain rfl:=bG h1
  obtain⟨t,rfl,_⟩:=pC rz
  obtain⟨⟨hy,hs⟩,h3⟩:=mQ (st:=st) h2
  obtain⟨rfl,rfl⟩:=eB h3
  have hq:Q .none s:=hQ _ s.heap as s.toks .none inv (qA.refl _ _ _) (sA _)
  have hs':=WO.mp hs
  rcases hy with rfl|rfl
  ·cases FH XR ha
   refine UX (X _ _ (GT w)) rfl rfl (X _ _ (zi w)) (Tb w) (ca w) rfl rfl (fun c hc seen=>uk ?_ ?_ seen) hq
   ·have:=hs' c hc
    simp at this
    exact this.1
   ·have:=hs' c hc
    simp at this
    exact this.2
  ·cases FH YR ha
   have hne:decide (("_value_disallowed_re":Str)=("_name_disallowed_re":Str))=false:=by decide +kernel
   refine UX (X _ _ (HT w)) rfl rfl (X _ _ (Ai w)) (Ub w) (da w) rfl rfl (fun c hc seen=>Rs ?_ ?_ seen) hq
   ·have:=hs' c hc
    rw [hne] at this
    simp at this
    lia
   ·have:=hs' c hc
    rw [hne] at this
    simp at this
    exact this.2
end Mine
end
section
namespace Mine
open Ev
noncomputable def vh:List (Nat×Nat):=[(181,37),(181,93),(181,98),(181,102),(181,106),(181,110),(191,11),(193,20),(201,16),(213,11),(224,19),(224,20),(233,25),(236,44),(236,26),(253,28),(86,54),(158,16)]
noncomputable def ZB:sC:={ fns:=Qc.map fun p=>(p.1,uA p.2),mths:=Qj.map fun p=>(p.1,uA p.2),glob:=ZP,gd:=iH,keep:=fun p=>vh.contains (p.line,p.col),prim:=fun _=>.none,init:=some (aE,SA 3) }
def FnAt(w:eA)(prog:pA)(x:Str)(d:xD):Prop:=∀ a,ND.lookup x=some a->∃ o fd,nC (Bw w) prog w a d o fd
def wW(w:eA)(prog:pA)(x:Str)(d:xD):Prop:=∀ a,wG.lookup x=some a->∃ o fd,nC (Bw w) prog w a d o fd
theorem XC{l:List (Str×cA)}{x:Str}{b:cA}{Q:cA->Prop}(h:l.lookup x=some b)(q:Q b):∀ a,l.lookup x=some a->Q a:=fun a ha=>by rw [h] at ha;cases ha;exact q
theorem Uc(w:eA){prog:pA}:∀ x d,ZB.fns.lookup x=some d->FnAt w prog x d:=cN (P:=fun x d=>FnAt w prog x d) ⟨XC ZW ⟨_,_,xd w⟩,XC aX ⟨_,_,Bd w⟩,XC LW ⟨_,_,Xc w⟩,XC KW ⟨_,_,Wc w⟩,XC JW ⟨_,_,Vc w⟩,XC OW ⟨_,_,bd w⟩,XC QW ⟨_,_,jd w⟩,XC VW ⟨_,_,od w⟩,XC PW ⟨_,_,ed w⟩,XC WW ⟨_,_,pd w⟩,XC RW ⟨_,_,kd w⟩,XC MW ⟨_,_,Yc w⟩,XC UW ⟨_,_,md w⟩,XC SW ⟨_,_,ld w⟩,XC NW ⟨_,_,Zc w⟩,XC XW ⟨_,_,qd w⟩,XC aS ⟨_,_,Ad w⟩,trivial⟩
theorem Rj(w:eA){prog:pA}:∀ x d,ZB.mths.lookup x=some d->wW w prog x d:=cN (P:=fun x d=>wW w prog x d) ⟨XC eX ⟨_,_,td w⟩,XC gX ⟨_,_,vd w⟩,XC fX ⟨_,_,ud w⟩,XC iX ⟨_,_,zd w⟩,XC hX ⟨_,_,yd w⟩,XC jX ⟨_,_,Cd w⟩,XC dX ⟨_,_,sd w⟩,trivial⟩
theorem Tf(P:sC):∀ n,(LA P n).init=P.init
 | 0=>rfl
 | _+1=>rfl
theorem g8(w:eA){prog:pA}:bP (Bw w) prog w ZB where
 glob:=DZ w
 keys:=rh w
 dk:=KP w
 keep:=u0 w
 nolimit:=A2 w
 fns:=fun x d a _ h ha=>Uc w x d h a ha
 prims:=fun x p a hp ha=>by cases hp
 mths:=fun x d a h ha=>Rj w x d h a ha
 getG:=We w
 callG:=W9 w
 getH:=Xe w
 attr:=j7 w
 new:=fun n A F s as st vs xs hA stm i rs=>Ak w stm (Tf ZB n) A F s as st vs xs hA i rs
theorem Eb(w:eA){prog:pA}(n:Nat):WE (Bw w) prog w (LA ZB n) n:=zS (g8 w) n
end Mine
end
section
namespace Mine
open Ev
theorem Tk{h:Heap}{a:cA}{m m':Str->Option dA}(x:h.Ns a m)(y:h.Ns a m')(n:Str):m n=m' n:=by
 obtain⟨o,es,ep,h1,h2,_,h3⟩:=x
 obtain⟨o',es',ep',h1',h2',_,h3'⟩:=y
 rw [h1] at h1'
 cases h1'
 rw [h2] at h2'
 cases h2'
 rw [<-h3,h3']
theorem Zf{w:eA}{h:Heap}(X:(KF w.params).In h):Ev.Inv (Bw w) h [] no [] where
 len:=rfl
 nodup:=.nil
 at_:=fun i a o e=>by simp at e
 apart:=fun a ha=>by cases ha
 liveF:=fun a ha=>ha.elim
 base:=fun a o e=>⟨X a o e,by simp,fun h=>h⟩
theorem Up:mB callerA 8:=⟨rfl,by decide,by decide⟩
theorem Zs{P:lA}{h:Heap}{a:cA}{ds:List WData}{its:Array dA}(W:Well P h (.ref a) (.list ds))(hL:h.IsList a its):jG h a its:=by
 obtain⟨o,ho,hc,n,hd⟩:=hL
 cases W with
 | list e _=>rw [ho] at e;cases e;exact⟨_,_,ho,rfl,rfl,hd⟩
theorem Ws(T3:∀ script:List Int,script.length<=63->∃ st',(LA ZB 8).call (.fn "law") [.lst (script.map .int)] [] []=some (.bool true,st')) :
  WalkO qv XL (fun _ _=>True) KH.says PySem.Challenge.rw_kl0260_04.row.toRowW XI [] fun f vs=>PySem.call f vs:=by
 k_fill
 intro w s₀ s₁ mg mb G Y fa o pm cd doc dV kV ho hd hcd hD hmg hg args vals as hpre hlay hrd hwl hlo
 have KX:(KF w.params).In s₁.heap:=kIn_of Y
 refine Ground.open G ?_
 intro T B D TE TW
 have hfa:fa=333:=by
  have e:=Tk T.g (pJ KX (IU w) (B2 w)) "law"
  rw [show mg "law" = some (.ref fa) from hmg,uZ w] at e
  cases e;rfl
 subst hfa
 wrow_args hpre hlay hrd hwl hlo
 rename_i xs _ _ _ _ _ _ _ l its _ hL _ W _ hI _ hlen _
 have hp:=Zs W hL
 obtain⟨st',h3⟩:=T3 xs (by lia)
 have i0:Ev.Inv (Bw w) s₁.heap [] no []:=Zf KX
 have r0:vA (Bw w) s₁.heap [] no [.lst (xs.map .int)] [.ref l]:=.cons (.lst hp (by simp) (fun h=>h) (jT hI)) .nil
 refine (Eb w 8).call callerA no s₁ [] [] (.fn "law") (.ref 333) [] _ _ [] [] Up i0 (.fn aS) r0 ⟨rfl,.nil⟩ (.bool true) st' h3 _ _ fun y h' as' tk ry i' e' ht=>?_
 obtain rfl:=SU ry
 refine⟨.inl ⟨_,_,[],rfl,fun _=>rfl,ReadsW.bool true,?_,fun _=>⟨List.nodup_nil,fun _ hm=>(nomatch hm)⟩⟩,.of_keep fun b o hb=>e'.keep b o hb (by simp) (fun h=>h),rfl,.of_eq hg⟩
 first|rfl|wrow_post
end Mine
end
section
namespace Mt
open Ev
def W{α:Type}(t:mA α)(st:Ev.St)(Q:α->Ev.St->Prop):Prop:=∃ a s,t st=some (a,s)/\Q a s
theorem W.of{α:Type}{t:mA α}{st s:Ev.St}{a:α}{Q:α->Ev.St->Prop}(h:t st=some (a,s))(q:Q a s):W t st Q:=⟨a,s,h,q⟩
theorem W.mono{α:Type}{t:mA α}{st:Ev.St}{P Q:α->Ev.St->Prop}(h:W t st P)(k:∀ a s,P a s->Q a s):W t st Q:=by
 obtain⟨a,s,e,p⟩:=h
 exact⟨a,s,e,k a s p⟩
theorem W.bind{α β:Type}{t:mA α}{f:α->mA β}{st:Ev.St}{Q:β->Ev.St->Prop}(h:W t st fun a s=>W (f a) s Q):W (t>>=f) st Q:=by
 obtain⟨a,s,e,b,s',e',q⟩:=h
 refine⟨b,s',?_,q⟩
 show (t st).bind (fun p=>f p.1 p.2)=_
 rw [e];exact e'
theorem W.pure{α:Type}{a:α}{st:Ev.St}{Q:α->Ev.St->Prop}(q:Q a st):W (Pure.pure a:mA α) st Q:=⟨a,st,rfl,q⟩
theorem W.gt{α:Type}{o:Option α}{a:α}{st:Ev.St}{Q:α->Ev.St->Prop}(h:o=some a)(q:Q a st):W (Ev.gt o) st Q:=⟨a,st,by rw [h];rfl,q⟩
theorem W.rd{α:Type}{f:Ev.St->Option α}{a:α}{st:Ev.St}{Q:α->Ev.St->Prop}(h:f st=some a)(q:Q a st):W (Ev.rd f) st Q:=⟨a,st,by unfold Ev.rd;rw [h];rfl,q⟩
theorem W.eq{α:Type}{t t':mA α}{st:Ev.St}{Q:α->Ev.St->Prop}(e:t=t')(h:W t' st Q):W t st Q:=by rw [e];exact h
abbrev KV:=V->Ev.St->Prop
abbrev KB:=Bool->Ev.St->Prop
abbrev KL:=List V->Ev.St->Prop
abbrev KS:=List (Str×V)->Ev.St->Prop
abbrev KX:=Fl×Fr->Ev.St->Prop
abbrev KI:=List V×List (Nat×O)->Ev.St->Prop
abbrev Hg(op:dC)(a:V)(Q:KV):KV:=fun b s=>∃ v,GD s op a b=some v/\Q v s
abbrev Gg(Γ:Ev.Ctx)(r:Expr)(ρ:Fr)(op:dC)(Q:KV):KV:=fun a s=>W (evalE Γ r ρ) s (Hg op a Q)
abbrev jh(op:UnaryOp)(Q:KV):KV:=fun a s=>∃ v,jR s op a=some v/\Q v s
abbrev Og(Γ:Ev.Ctx)(a b:Expr)(ρ:Fr)(Q:KV):KB:=fun c s=>W (bif c then evalE Γ a ρ else evalE Γ b ρ) s Q
abbrev eh(Γ:Ev.Ctx)(op:JG)(a:V)(Q:KB):KV:=fun b s=>∃ c,ID Γ.gd s op a b=some c/\Q c s
abbrev kT(Γ:Ev.Ctx)(r:Expr)(ρ:Fr)(op:JG)(Q:KB):KV:=fun a s=>W (evalE Γ r ρ) s (eh Γ op a Q)
abbrev Ig(Q:KV):KB:=fun c s=>Q (.bool c) s
abbrev Dg(Γ:Ev.Ctx)(b:Expr)(ρ:Fr)(Q:KV):KV:=fun v s=>∃ t,oF s v=some t/\(bif t then W (evalE Γ b ρ) s Q else Q v s)
abbrev Jg(Γ:Ev.Ctx)(f:V)(vs:List V)(Q:KV):KS:=fun ks s=>W (Γ.call f vs ks) s Q
abbrev oQ(Γ:Ev.Ctx)(kws:List YB)(ρ:Fr)(f:V)(Q:KV):KL:=fun vs s=>W (nG Γ kws ρ) s (Jg Γ f vs Q)
abbrev d0(Γ:Ev.Ctx)(args:List Expr)(kws:List YB)(ρ:Fr)(s:Ev.St)(Q:KV):V->Prop:=fun f=>W (FC Γ args ρ) s (oQ Γ kws ρ f Q)
abbrev kM(Γ:Ev.Ctx)(name:Str)(args:List Expr)(kws:List YB)(ρ:Fr)(Q:KV):KV:=fun ov s=>∃ f,Γ.meth s ov name=some f/\d0 Γ args kws ρ s Q f
abbrev kN(Γ:Ev.Ctx)(args:List Expr)(kws:List YB)(ρ:Fr)(Q:KV):KV:=fun f s=>d0 Γ args kws ρ s Q f
abbrev Eg(Γ:Ev.Ctx)(name:Str)(Q:KV):KV:=fun ov s=>∃ v,Γ.attr ov name=some v/\Q v s
abbrev Vg(Γ:Ev.Ctx)(p:Pos)(s:Ev.St)(Q:KV):V->Prop:=fun r=>W (YL Γ p r) s Q
abbrev dh(Γ:Ev.Ctx)(p:Pos)(ov x y:V)(Q:KV):KV:=fun z s=>∃ r,RK s ov x y z=some r/\Vg Γ p s Q r
abbrev bh(Γ:Ev.Ctx)(c:Option Expr)(ρ:Fr)(p:Pos)(ov x:V)(Q:KV):KV:=fun y s=>W (oG Γ c ρ) s (dh Γ p ov x y Q)
abbrev ah(Γ:Ev.Ctx)(b c:Option Expr)(ρ:Fr)(p:Pos)(ov:V)(Q:KV):KV:=fun x s=>W (oG Γ b ρ) s (bh Γ c ρ p ov x Q)
abbrev Zg(Γ:Ev.Ctx)(a b c:Option Expr)(ρ:Fr)(p:Pos)(Q:KV):KV:=fun ov s=>W (oG Γ a ρ) s (ah Γ b c ρ p ov Q)
abbrev Rg(ov:V)(Q:KV):KV:=fun iv s=>∃ v,CC s ov iv=some v/\Q v s
abbrev Qg(Γ:Ev.Ctx)(i:Expr)(ρ:Fr)(Q:KV):KV:=fun ov s=>W (evalE Γ i ρ) s (Rg ov Q)
abbrev g0(Γ:Ev.Ctx)(p:Pos)(Q:KV):KL:=fun vs s=>W (vG Γ p vs) s Q
abbrev fh(Q:KV):KL:=fun vs s=>Q (.tup vs) s
abbrev Lg(v:V)(Q:KL):KL:=fun vs s=>Q (v::vs) s
abbrev Kg(Γ:Ev.Ctx)(es:List Expr)(ρ:Fr)(Q:KL):KV:=fun v s=>W (FC Γ es ρ) s (Lg v Q)
abbrev Ug(Q:KL):KV:=fun v s=>Q [v] s
abbrev Tg(n:Str)(v:V)(Q:KS):KS:=fun vs s=>Q ((n,v)::vs) s
abbrev Sg(Γ:Ev.Ctx)(n:Str)(ks:List YB)(ρ:Fr)(Q:KS):KV:=fun v s=>W (nG Γ ks ρ) s (Tg n v Q)
abbrev Wg(Γ:Ev.Ctx)(b:Expr)(ρ:Fr)(Q:KB):KB:=fun c s=>bif c then Q true s else W (IB Γ b ρ (evalE Γ b ρ)) s Q
abbrev b0(Γ:Ev.Ctx)(b:Expr)(ρ:Fr)(Q:KB):KB:=fun c s=>bif c then W (IB Γ b ρ (evalE Γ b ρ)) s Q else Q false s
abbrev gh(Q:KB):KV:=fun v s=>∃ t,oF s v=some t/\Q t s
abbrev sT(Γ:Ev.Ctx)(es:List Expr)(ρ:Fr)(Q:KB):KB:=fun c s=>bif c then W (ZE Γ es ρ) s Q else Q false s
abbrev Xg(ρ:Fr)(Q:KX):KV:=fun v s=>Q (.ret v,ρ) s
abbrev Mg(Γ:Ev.Ctx)(r:List IA)(ρ:Fr)(Q:KX):KV:=fun v s=>W (XA Γ r ρ) s Q
abbrev KN(Γ:Ev.Ctx)(t e:Expr)(r:List IA)(ρ:Fr)(Q:KX):KV:=fun v s=>∃ ρ',oE s t e v ρ=some ρ'/\W (XA Γ r ρ') s Q
abbrev Fg(Γ:Ev.Ctx)(x:Str)(op:dC)(a:V)(r:List IA)(ρ:Fr)(Q:KX):KV:=fun b s=>∃ c,hH op a b=some c/\∃ ρ',ρ.set x c=some ρ'/\W (XA Γ r ρ') s Q
abbrev kh(Γ:Ev.Ctx)(a b r:List IA)(ρ:Fr)(Q:KX):KB:=fun c s=>W (XA Γ ((bif c then a else b)++r) ρ) s Q
abbrev o0(Γ:Ev.Ctx)(r:List IA)(Q:KX):KX:=fun o s'=>match o.1 with | .next=>W (XA Γ r o.2) s' Q | .ret v=>Q (.ret v,o.2) s'
abbrev Yg(Q:KV):KX:=fun o s=>match o.1 with | .ret v=>Q v s | .next=>Q .none s
abbrev Pg(ws:List (Nat×O))(I:List V->Fr->Ev.St->Prop)(xs:List V):KX:=fun o s'=>o.1 = .next/\same ws s'=some ((),s')/\I xs o.2 s'
abbrev pQ(Q:KI):KV:=fun v s=>∃ r,zD s v=some r/\Q r s
abbrev RL{α:Type}(a:α)(s0:Ev.St):α->Ev.St->Prop:=fun r s=>r=a/\s=s0
variable{Γ:Ev.Ctx}{ρ:Fr}{st:Ev.St}{p:Pos}
section
variable{Q:V->Ev.St->Prop}
theorem w_none{a:Nat}(q:Q .none st):W (evalE Γ (.Constant .none a p) ρ) st Q:=⟨_,_,rfl,q⟩
theorem w_bool{a:Nat}{b:Bool}(q:Q (.bool b) st):W (evalE Γ (.Constant (.bool b) a p) ρ) st Q:=⟨_,_,rfl,q⟩
theorem w_int{a:Nat}{b:Int}(q:Q (.int b) st):W (evalE Γ (.Constant (.int b) a p) ρ) st Q:=⟨_,_,rfl,q⟩
noncomputable def pM(s:String):Bool:=(nA s).cps.all (· < 0x110000)&&(nA s).cps.size<=cap
theorem w_str{a:Nat}{s:String}(h:pM s=true)(q:Q (.str (cB s)) st):W (evalE Γ (.Constant (.str (nA s)) a p) ρ) st Q:=by
 refine⟨_,_,?_,q⟩
 have h':((nA s).cps.all (· < 0x110000)&&(nA s).cps.size<=cap)=true:=h
 exact congrFun (if_pos h') st
theorem w_Name{x:Str}{v:V}(hx:decide (x=("__debug__":Str))=false)(h:ρ.get Γ x=some v)(q:Q v st):W (evalE Γ (.Name x p) ρ) st Q:=by
 exact W.eq (if_neg (of_decide_eq_false hx)) (W.gt h q)
theorem w_BinOp{l r:Expr}{op:dC}(h:W (evalE Γ l ρ) st (Gg Γ r ρ op Q)):W (evalE Γ (.BinOp l op r p) ρ) st Q:=by
 exact W.bind (h.mono fun a s h=>W.bind (h.mono fun b s ⟨v,e,q⟩=>W.rd e q))
theorem w_UnaryOp{x:Expr}{op:UnaryOp}(h:W (evalE Γ x ρ) st (jh op Q)):W (evalE Γ (.UnaryOp op x p) ρ) st Q:=by
 exact W.bind (h.mono fun a s ⟨v,e,q⟩=>W.rd e q)
theorem w_IfExp{t a b:Expr}(h:W (IB Γ t ρ (evalE Γ t ρ)) st (Og Γ a b ρ Q)):W (evalE Γ (.IfExp t a b p) ρ) st Q:=by
 exact W.bind (h.mono fun c s h=>by rcases c with ⟨⟩<;>exact h)
theorem w_Compare{l:Expr}{op:JG}{r:Expr}(h:W (evalE Γ l ρ) st (kT Γ r ρ op (Ig Q))):W (evalE Γ (.Compare l [op] [r] p) ρ) st Q:=by
 refine W.bind (h.mono fun a s h=>?_)
 exact W.bind (W.bind (h.mono fun b s ⟨v,e,q⟩=>W.rd e (W.pure q)))
theorem w_And2{a b:Expr}(h:W (evalE Γ a ρ) st (Dg Γ b ρ Q)):W (evalE Γ (.BoolOp .And [a,b] p) ρ) st Q:=by
 refine W.bind (h.mono fun v s ⟨t,e,h⟩=>W.bind (W.rd e ?_))
 rcases t with ⟨⟩
 ·exact W.pure h
 ·exact h
noncomputable def G3(o:Expr)(name:Str)(apos pos:Pos)(a k:Nat):Bool:=(tO o&&apos.endLine==pos.line&&SS a k) && !decide (name=("replace":Str))
theorem w_CallM{o:Expr}{name:Str}{apos pos:Pos}{args:List Expr}{kws:List YB}(hc:G3 o name apos pos args.length kws.length=true)
  (h:W (evalE Γ o ρ) st (kM Γ name args kws ρ Q)):W (evalE Γ (.Call (.Attribute o name apos) args kws pos) ρ) st Q:=by
 unfold G3 at hc
 obtain⟨h1,h2⟩:=(KA _ _).mp hc
 refine W.bind (h.mono fun ov s ⟨f,e,h⟩=>?_)
 rw [if_pos h1,if_neg (by simpa using h2)]
 exact W.bind (W.rd e (W.bind (h.mono fun vs s h=>W.bind (h.mono fun ks s h=>h))))
theorem CV{x:Str}{p':Pos}{args:List Expr}{kws:List YB}(h:W (evalE Γ (.Name x p') ρ) st (kN Γ args kws ρ Q)) :
  W (evalE Γ (.Call (.Name x p') args kws p) ρ) st Q:=by
 have e:evalE Γ (.Call (.Name x p') args kws p) ρ=(do
  let fv <- evalE Γ (.Name x p') ρ
  let vs <- FC Γ args ρ
  let ks <- nG Γ kws ρ
  Γ.call fv vs ks):=rfl
 rw [e]
 exact W.bind (h.mono fun f s h=>W.bind (h.mono fun vs s h=>W.bind (h.mono fun ks s h=>h)))
theorem w_Attr{o:Expr}{name:Str}(hp:tO o=true)(h:W (evalE Γ o ρ) st (Eg Γ name Q)):W (evalE Γ (.Attribute o name p) ρ) st Q:=by
 exact W.bind (h.mono fun ov s ⟨v,e,q⟩=>by rw [if_pos hp];exact W.gt e q)
theorem w_Slice{o:Expr}{a b c:Option Expr}{p':Pos}(h:W (evalE Γ o ρ) st (Zg Γ a b c ρ p Q)) :
  W (evalE Γ (.Subscript o (.Slice a b c p') p) ρ) st Q:=by
 exact W.bind (h.mono fun ov s h=>W.bind (h.mono fun x s h=>W.bind (h.mono fun y s h=>W.bind (h.mono fun z s ⟨r,e,h⟩=>W.bind (W.rd e h)))))
noncomputable def fQ:Expr->Bool | .Slice ..=>true|_=>false
theorem w_Item{o i:Expr}(hi:fQ i=false)(h:W (evalE Γ o ρ) st (Qg Γ i ρ Q)):W (evalE Γ (.Subscript o i p) ρ) st Q:=by
 have e:evalE Γ (.Subscript o i p) ρ=(do
  let ov <- evalE Γ o ρ
  let iv <- evalE Γ i ρ
  Ev.rd fun st=>CC st ov iv):=by
  refine pE (G:=True) (b:=fQ i) ?_ hi
  clear hi h
  rcases i with ⟨⟩<;>first|exact True.intro|exact rfl
 rw [e]
 exact W.bind (h.mono fun f s h=>W.bind (h.mono fun vs s ⟨v,e,q⟩=>W.rd e q))
theorem w_List{es:List Expr}(h:W (FC Γ es ρ) st (g0 Γ p Q)):W (evalE Γ (.List es p) ρ) st Q:=by
 exact W.bind h
theorem w_Tuple{es:List Expr}{k:Nat}(hl:decide (es.length<=cap)=true)(h:W (FC Γ es ρ) st (fh Q)):W (evalE Γ (.Tuple es k p) ρ) st Q:=by
 exact W.eq (if_pos (of_decide_eq_true hl)) <| W.bind (h.mono fun vs s q=>W.pure q)
noncomputable def S2(ρ:Fr)(sc:Scope)(gs:List uB):Bool:=tI ρ sc&&gs.all uJ && !gs.isEmpty
theorem w_Comp{e:Expr}{gs:List uB}{sc:Scope}(hc:S2 ρ sc gs=true)(h:W (TF Γ gs (fun ρ'=>do return [<-evalE Γ e ρ']) ρ ⟨sc.names,[],ρ.seen Γ⟩) st (g0 Γ p Q)):W (evalE Γ (.ListComp e gs sc p) ρ) st Q:=by
 have hc':(tI ρ sc&&gs.all uJ && !gs.isEmpty)=true:=hc
 exact W.eq (if_pos hc') (W.bind h)
theorem w_mkV{vs:List V}(hl:vs.length<=cap)(hk:Γ.keep p=false)(q:Q (.lst vs) st):W (vG Γ p vs) st Q:=by
 unfold vG
 rw [if_pos hl,hk]
 exact W.pure q
theorem w_mkK{vs:List V}(hl:vs.length<=cap)(hk:Γ.keep p=true)(q:Q (.ref st.length) (st++[.list vs])):W (vG Γ p vs) st Q:=by
 unfold vG
 rw [if_pos hl,hk]
 exact⟨_,_,rfl,q⟩
theorem w_mkS{z:List Nat}(q:Q (.str z) st):W (YL Γ p (.str z)) st Q:=W.pure q
theorem w_mkL{vs:List V}(h:W (vG Γ p vs) st Q):W (YL Γ p (.lst vs)) st Q:=h
end
section
variable{Q:List V->Ev.St->Prop}
theorem w_nil(q:Q [] st):W (FC Γ [] ρ) st Q:=W.pure q
theorem w_cons{e:Expr}{es:List Expr}(h:W (evalE Γ e ρ) st (Kg Γ es ρ Q)):W (FC Γ (e::es) ρ) st Q:=by
 exact W.bind (h.mono fun v s h=>W.bind (h.mono fun vs s q=>W.pure q))
theorem w_leaf{e:Expr}(h:W (evalE Γ e ρ) st (Ug Q)):W (do return [<-evalE Γ e ρ]) st Q:=W.bind (h.mono fun v s q=>W.pure q)
end
section
variable{Q:List (Str×V)->Ev.St->Prop}
theorem w_knil(q:Q [] st):W (nG Γ [] ρ) st Q:=W.pure q
theorem w_kcons{e:Expr}{n:Str}{ks:List YB}(h:W (evalE Γ e ρ) st (Sg Γ n ks ρ Q)):W (nG Γ (⟨some n,e,p⟩::ks) ρ) st Q:=by
 exact W.bind (h.mono fun v s h=>W.bind (h.mono fun vs s q=>W.pure q))
end
section
variable{Q:V->Ev.St->Prop}
theorem w_on(q:Q .none st):W (oG Γ none ρ) st Q:=W.pure q
theorem w_os{e:Expr}(h:W (evalE Γ e ρ) st Q):W (oG Γ (some e) ρ) st Q:=h
end
section
variable{Q:Bool->Ev.St->Prop}{t0:mA V}
theorem w_tCmp{l:Expr}{op:JG}{r:Expr}(h:W (evalE Γ l ρ) st (kT Γ r ρ op Q)):W (IB Γ (.Compare l [op] [r] p) ρ t0) st Q:=by
 refine W.bind (h.mono fun a s h=>?_)
 exact W.bind (h.mono fun b s ⟨v,e,q⟩=>W.rd e q)
theorem w_tOr2{a b:Expr}(h:W (IB Γ a ρ (evalE Γ a ρ)) st (Wg Γ b ρ Q)):W (IB Γ (.BoolOp .Or [a,b] p) ρ t0) st Q:=by
 refine W.bind (h.mono fun c s h=>?_)
 cases c
 ·refine W.bind (W.mono h fun c s q=>?_)
  rcases c with ⟨⟩
  ·exact W.pure q
  ·exact W.pure q
 ·exact W.pure h
theorem w_tAnd2{a b:Expr}(h:W (IB Γ a ρ (evalE Γ a ρ)) st (b0 Γ b ρ Q)):W (IB Γ (.BoolOp .And [a,b] p) ρ t0) st Q:=by
 refine W.bind (h.mono fun c s h=>?_)
 cases c
 ·exact W.pure h
 ·refine W.bind (W.mono h fun c s q=>?_)
  rcases c with ⟨⟩
  ·exact W.pure q
  ·exact W.pure q
noncomputable def b6:Expr->Bool | .Name .. | .BinOp .. | .Call .. | .Subscript ..=>true|_=>false
theorem w_tVal{x:Expr}(hx:b6 x=true)(h:W t0 st (gh Q)):W (IB Γ x ρ t0) st Q:=by
 have e:IB Γ x ρ t0=(do
  let v <- t0
  Ev.rd fun st=>oF st v):=by
  refine QD (H:=True) (b:=b6 x) ?_ hx
  clear hx h
  rcases x with ⟨⟩<;>first|exact True.intro|exact rfl
 rw [e]
 exact W.bind (h.mono fun v s ⟨t,e,q⟩=>W.rd e q)
theorem w_inil(q:Q true st):W (ZE Γ [] ρ) st Q:=W.pure q
theorem w_icons{e:Expr}{es:List Expr}(h:W (IB Γ e ρ (evalE Γ e ρ)) st (sT Γ es ρ Q)):W (ZE Γ (e::es) ρ) st Q:=by
 refine W.bind (h.mono fun c s h=>?_)
 rcases c with ⟨⟩
 ·exact W.pure h
 ·exact h
end
end Mt
end
section
namespace Mt
open Ev
variable{Γ:Ev.Ctx}{ρ:Fr}{st:Ev.St}{p:Pos}
section
variable{Q:Fl×Fr->Ev.St->Prop}{r:List IA}
theorem x_nil(q:Q (.next,ρ) st):W (XA Γ [] ρ) st Q:=W.pure q
theorem ZK{s:IA}(h:W (PB Γ s ρ) st (o0 Γ r Q)):W (XA Γ (s::r) ρ) st Q:=by
 refine W.bind (h.mono fun o s' h=>?_)
 obtain⟨fl,ρ'⟩:=o
 cases fl
 ·exact h
 ·exact W.pure h
theorem x_Ret{e:Expr}(h:W (evalE Γ e ρ) st (Xg ρ Q)):W (XA Γ (.Return (some e) p::r) ρ) st Q:=by
 refine ZK ?_
 exact W.bind (h.mono fun v s q=>W.pure q)
theorem x_Expr{e:Expr}(hc:GH e=true)(h:W (evalE Γ e ρ) st (Mg Γ r ρ Q)):W (XA Γ (.Expr e p::r) ρ) st Q:=by
 refine ZK ?_
 exact W.eq (if_pos hc) (W.bind (h.mono fun v s q=>W.pure q))
theorem x_Assign{t e:Expr}(h:W (evalE Γ e ρ) st (KN Γ t e r ρ Q)):W (XA Γ (.Assign [t] e p::r) ρ) st Q:=by
 refine ZK ?_
 exact W.bind (h.mono fun v s ⟨ρ',e,h⟩=>W.bind (W.rd e (W.pure h)))
theorem x_AugN{x:Str}{p':Pos}{op:dC}{e:Expr}{a:V}(ha:ρ.get Γ x=some a)(h:W (evalE Γ e ρ) st (Fg Γ x op a r ρ Q)) :
  W (XA Γ (.AugAssign (.Name x p') op e p::r) ρ) st Q:=by
 refine ZK ?_
 exact W.bind (W.gt ha (W.bind (h.mono fun b s ⟨c,e1,ρ',e2,h⟩=>W.bind (W.gt e1 (W.bind (W.gt e2 (W.pure h)))))))
abbrev Cg(Γ:Ev.Ctx)(r:List IA)(ρ:Fr)(Q:KX):Unit->Ev.St->Prop:=fun _ s=>W (XA Γ r ρ) s Q
abbrev Bg(Γ:Ev.Ctx)(op:dC)(ov iv a:V)(r:List IA)(ρ:Fr)(Q:KX):KV:=fun b s=>∃ c,hH op a b=some c/\W (WK ov iv c) s (Cg Γ r ρ Q)
abbrev Ag(Γ:Ev.Ctx)(op:dC)(e:Expr)(ov:V)(r:List IA)(ρ:Fr)(Q:KX):KV:=fun iv s=>∃ a,CC s ov iv=some a/\W (evalE Γ e ρ) s (Bg Γ op ov iv a r ρ Q)
abbrev zg(Γ:Ev.Ctx)(op:dC)(i e:Expr)(r:List IA)(ρ:Fr)(Q:KX):KV:=fun ov s=>W (evalE Γ i ρ) s (Ag Γ op e ov r ρ Q)
theorem x_AugS{o i:Expr}{p':Pos}{op:dC}{e:Expr}(hi:fQ i=false)(h:W (evalE Γ o ρ) st (zg Γ op i e r ρ Q)) :
  W (XA Γ (.AugAssign (.Subscript o i p') op e p::r) ρ) st Q:=by
 refine ZK ?_
 have e:PB Γ (.AugAssign (.Subscript o i p') op e p) ρ=(do
   let ov <- evalE Γ o ρ
   let iv <- evalE Γ i ρ
   let a <- rd fun st=>CC st ov iv
   let b <- evalE Γ e ρ
   let c <- gt (hH op a b)
   WK ov iv c
   pure (.next,ρ)):=by
  refine pE (G:=True) (b:=fQ i) ?_ hi
  clear hi h
  rcases i with ⟨⟩<;>first|exact True.intro|exact rfl
 rw [e]
 exact W.bind (h.mono fun ov s h=>W.bind (h.mono fun iv s ⟨a,e1,h⟩=>W.bind (W.rd e1 (W.bind (h.mono fun b s ⟨c,e2,h⟩=>W.bind (W.gt e2 (W.bind (h.mono fun _ s h=>W.pure h))))))))
theorem XY{b:List IA}:∀ {a:List IA}{ρ:Fr},XA Γ (a++b) ρ=(do match <- XA Γ a ρ with
   | (.next,ρ')=>XA Γ b ρ'
   | o=>pure o)
 | [],ρ=>rfl
 | s::a,ρ=>by
  rw [QM]
  funext st
  show ((PB Γ s ρ st).bind _)=(((PB Γ s ρ st).bind _).bind _)
  rcases PB Γ s ρ st with _|o
  ·rfl
  ·obtain⟨⟨fl,ρ'⟩,s'⟩:=o
   rcases fl with ⟨⟩
   ·show XA Γ (a++b) ρ' s'=(XA Γ a ρ' s').bind _
    rw [XY];rfl
   ·rfl
theorem W.bind'{α β:Type}{t:mA α}{f:α->mA β}{st:Ev.St}{Q:β->Ev.St->Prop}(h:W (t>>=f) st Q):W t st fun a s=>W (f a) s Q:=by
 obtain⟨b,s',e,q⟩:=h
 have e':(t st).bind (fun p=>f p.1 p.2)=some (b,s'):=e
 rcases ht:t st with _|o
 ·rw [ht] at e';exact wA e'
 ·rw [ht] at e'
  exact⟨o.1,o.2,ht,b,s',e',q⟩
theorem x_If{t:Expr}{a b:List IA}(h:W (IB Γ t ρ (evalE Γ t ρ)) st (kh Γ a b r ρ Q)):W (XA Γ (.If t a b p::r) ρ) st Q:=by
 refine ZK ?_
 refine W.bind (h.mono fun c s h=>?_)
 have h:W (XA Γ ((bif c then a else b)++r) ρ) s Q:=h
 rw [XY] at h
 have h:=W.bind' h
 rcases c with ⟨⟩
 ·refine W.mono h fun o s' h=>?_
  obtain⟨fl,ρ'⟩:=o
  cases fl
  ·exact h
  ·obtain⟨_,_,e,q⟩:=h;cases e;exact q
 ·refine W.mono h fun o s' h=>?_
  obtain⟨fl,ρ'⟩:=o
  cases fl
  ·exact h
  ·obtain⟨_,_,e,q⟩:=h;cases e;exact q
noncomputable def TH(Γ:Ev.Ctx)(t:Expr)(body:List IA)(x:V)(ρ:Fr):mA (Fl×Fr):=do
 let ρ' <- rd fun st=>rB false st t x ρ
 XA Γ body ρ'
abbrev kFor(Γ:Ev.Ctx)(t:Expr)(body:List IA)(ρ:Fr)(Q:KX):KI:=fun xs s=>W (OE xs.2 xs.1 ρ (TH Γ t body)) s Q
theorem x_For{t it:Expr}{body:List IA}(hi:yE it=true)(h:W (ME Γ t it (evalE Γ it ρ) ρ) st (kFor Γ t body ρ (o0 Γ r Q))) :
  W (XA Γ (.For t it body [] p::r) ρ) st Q:=by
 refine ZK ?_
 exact W.eq (if_pos (by rw [hi];rfl)) (W.bind h)
theorem e_turn{α:Type}{P Q:α->Prop}{a:α}(h:P a)(k:Q a):∃ a,P a/\Q a:=⟨a,h,k⟩
theorem x_turn{t:Expr}{body:List IA}{x:V}{ρ':Fr}(hb:rB false st t x ρ=some ρ')(h:W (XA Γ body ρ') st Q):W (TH Γ t body x ρ) st Q:=W.bind (W.rd hb h)
theorem l_nil{ws:List (Nat×O)}{f:V->Fr->mA (Fl×Fr)}(q:Q (.next,ρ) st):W (OE ws [] ρ f) st Q:=W.pure q
theorem qQ{ws:List (Nat×O)}{f:V->Fr->mA (Fl×Fr)}{x:V}{xs:List V}(h:W (f x ρ) st fun o s=>match o.1 with | .next=>W (same ws) s fun _ s=>W (OE ws xs o.2 f) s Q | .ret v=>Q (.ret v,o.2) s):W (OE ws (x::xs) ρ f) st Q:=by
 refine W.bind (h.mono fun o s h=>?_)
 obtain⟨fl,ρ'⟩:=o
 cases fl
 ·exact W.bind (W.mono h fun _ s h=>h)
 ·exact W.pure h
theorem yh{f:V->Fr->mA (Fl×Fr)}{x:V}{xs:List V}(h:W (f x ρ) st fun o s=>match o.1 with | .next=>W (OE [] xs o.2 f) s Q | .ret v=>Q (.ret v,o.2) s):W (OE [] (x::xs) ρ f) st Q:=by
 refine qQ (h.mono fun o s h=>?_)
 obtain⟨fl,ρ'⟩:=o
 rcases fl with ⟨⟩
 ·exact⟨(),s,rfl,h⟩
 ·exact h
theorem G0{ws:List (Nat×O)}{f:V->Fr->mA (Fl×Fr)}(I:List V->Fr->Ev.St->Prop){Q:Fl×Fr->Ev.St->Prop}(hq:∀ ρ s,I [] ρ s->Q (.next,ρ) s)(hs:∀ x xs ρ s,I (x::xs) ρ s->W (f x ρ) s fun o s'=>match o.1 with | .next=>same ws s'=some ((),s')/\I xs o.2 s' | .ret v=>Q (.ret v,o.2) s') :
  ∀ (xs:List V) {ρ:Fr}{st:Ev.St},I xs ρ st->W (OE ws xs ρ f) st Q
 | [],ρ,st,i=>l_nil (hq ρ st i)
 | x::xs,ρ,st,i=>by
  refine qQ ((hs x xs ρ st i).mono fun o s' h=>?_)
  obtain⟨fl,ρ'⟩:=o
  rcases fl with ⟨⟩
  ·exact⟨(),s',h.1,G0 I hq hs xs h.2⟩
  ·exact h
theorem WF{ws:List (Nat×O)}{f:V->Fr->mA (Fl×Fr)}(I:List V->Fr->Ev.St->Prop){Q:Fl×Fr->Ev.St->Prop}(hq:∀ ρ s,I [] ρ s->Q (.next,ρ) s)(hs:∀ x xs ρ s,I (x::xs) ρ s->W (f x ρ) s (Pg ws I xs)) :
  ∀ (xs:List V) {ρ:Fr}{st:Ev.St},I xs ρ st->W (OE ws xs ρ f) st Q
 | [],ρ,st,i=>l_nil (hq ρ st i)
 | x::xs,ρ,st,i=>by
  refine qQ ((hs x xs ρ st i).mono fun o s' h=>?_)
  obtain⟨fl,ρ'⟩:=o
  obtain⟨h1,h2,h3⟩:=h
  cases h1
  exact⟨(),s',h2,WF I hq hs xs h3⟩
end
section
variable{Q:List V×List (Nat×O)->Ev.St->Prop}{t0:mA V}{t:Expr}
noncomputable def VZ:Expr->Bool
 | .Call f _ kws _=>(match f with | .Name ..=>true|_=>false)&&kws.isEmpty
 | _=>false
abbrev TK(t0:mA V):mA (List V×List (Nat×O)):=do
 let v <- t0
 Ev.rd fun st=>zD st v
theorem VX{f:Expr}{args:List Expr}{kws:List YB}(h:(hJ Γ ρ f&&kws.isEmpty)=false):ME Γ t (.Call f args kws p) t0 ρ=TK t0:=if_neg (by rw [h];decide)
theorem MZ{it:Expr}(e:ME Γ t it t0 ρ=TK t0)(h:W t0 st (pQ Q)):W (ME Γ t it t0 ρ) st Q :=
 W.eq e (W.bind (h.mono fun v s ⟨r,e,q⟩=>W.rd e q))
theorem Lk{f:Expr}(h:(match f with | .Name ..=>true|_=>false)=false):hJ Γ ρ f=false:=by
 refine pE (G:=True) ?_ h
 clear h
 rcases f with ⟨⟩<;>first|exact (Eq.refl false:false=false)|exact True.intro
theorem Uq(Γ:Ev.Ctx)(ρ:Fr)(t:Expr)(t0:mA V):∀ it:Expr,cond (GH it) True (ME Γ t it t0 ρ=TK t0):=by
 intro it
 rcases it with ⟨⟩<;>first|exact True.intro|exact (Eq.refl (TK t0):TK t0=TK t0)
theorem Vq{it:Expr}(hi:VZ it=false):ME Γ t it t0 ρ=TK t0:=by
 rcases dI (b:=GH it) (G:=∃ f args kws pos,it = .Call f args kws pos) (by clear hi;rcases it with ⟨⟩<;>first|exact True.intro|exact⟨_,_,_,_,rfl⟩) with ⟨f,args,kws,pos,rfl⟩|q
 case inr=>exact pE (Uq Γ ρ t t0 it) q
 refine VX ?_
 rcases (Bool.and_eq_false_iff).mp hi with h|h
 ·rw [Lk h];rfl
 ·rw [h,CJ]
theorem i_other{it:Expr}(hi:VZ it=false)(h:W t0 st (pQ Q)):W (ME Γ t it t0 ρ) st Q:=MZ (Vq hi) h
noncomputable def Kk:V->Bool | .ty n=>!decide (n = "enumerate")|_=>true
theorem wf{f:Str}{p':Pos}{args:List Expr}{v0:V}(hf:ρ.get Γ f=some v0)(hn:Kk v0=true)(h:W t0 st (pQ Q)):W (ME Γ t (.Call (.Name f p') args [] p) t0 ρ) st Q:=by
 refine MZ (VX ?_) h
 have e:hJ Γ ρ (.Name f p')=false:=by
  show (match ρ.get Γ f with|some (.ty n)=>decide (n = "enumerate" /\ f≠("__debug__":Str))|_=>false)=false
  rw [hf]
  rcases v0 with ⟨⟩<;>first|rfl|skip
  exact decide_eq_false fun h=>(of_decide_eq_false ((bH _).mp hn)) h.1
 rw [e];rfl
theorem xf{f:Str}{p':Pos}{args:List Expr}(hf:ρ.get Γ f=some (.ty "enumerate"))(hn:decide (f=("__debug__":Str))=false)(ht:GN t=true)(h:W (FC Γ args ρ) st fun vs s=>∃ xs,vs=[.lst xs]/\Q (xs.zipIdx.map fun x=>.tup [.int x.2,x.1],[]) s) :
  W (ME Γ t (.Call (.Name f p') args [] p) t0 ρ) st Q:=by
 have e:hJ Γ ρ (.Name f p')=true:=by
  show (match ρ.get Γ f with|some (.ty n)=>decide (n = "enumerate" /\ f≠("__debug__":Str))|_=>false)=true
  rw [hf]
  exact decide_eq_true ⟨rfl,of_decide_eq_false hn⟩
 refine W.eq (if_pos (by rw [e];rfl)) (W.bind (h.mono fun vs s ⟨xs,e,q⟩=>?_))
 subst e
 exact W.eq (if_pos ht) (W.pure q)
end
section
variable{Q:List V->Ev.St->Prop}
theorem VT{ws:List (Nat×O)}{f:V->mA (List V)}(q:Q [] st):W (fF ws [] f) st Q:=W.pure q
theorem ON{ws:List (Nat×O)}{f:V->mA (List V)}{x:V}{xs:List V}(h:W (f x) st fun a s=>W (same ws) s fun _ s=>W (fF ws xs f) s fun b s=>Q (a++b) s):W (fF ws (x::xs) f) st Q:=by
 exact W.bind (h.mono fun a s h=>W.bind (h.mono fun _ s h=>W.bind (h.mono fun b s q=>W.pure q)))
theorem WT{ws:List (Nat×O)}{f:V->mA (List V)}{α:Type}(h:α->V)(g:α->List V){st:Ev.St}(hw:same ws st=some ((),st))(l:List α)(hf:∀ a∈l,W (f (h a)) st (RL (g a) st)):W (fF ws (l.map h) f) st fun r s=>r=l.flatMap g/\s=st:=by
 induction l with
 | nil=>exact VT ⟨rfl,rfl⟩
 | cons a l ih =>
  refine ON ((hf a (HA ..)).mono fun r s h=>?_)
  obtain⟨h1,h2⟩:=h
  subst h1 h2
  refine⟨(),_,hw,(ih fun b hb=>hf b (NA _ hb)).mono fun r s h=>?_⟩
  obtain⟨h1,h2⟩:=h
  subst h1 h2
  exact⟨rfl,rfl⟩
noncomputable def sH(Γ:Ev.Ctx)(t:Expr)(ifs:List Expr)(gs:List uB)(leaf:Fr->mA (List V))(ρi:Fr)(x:V):mA (List V):=do
 let ρ' <- rd fun st=>rB true st t x ρi
 if <- ZE Γ ifs ρ' then TF Γ gs leaf ρ' ρ' else pure []
theorem g_nil{leaf:Fr->mA (List V)}{ρi:Fr}(h:W (leaf ρi) st Q):W (TF Γ [] leaf ρ ρi) st Q:=h
abbrev kG(Γ:Ev.Ctx)(t:Expr)(ifs:List Expr)(gs:List uB)(leaf:Fr->mA (List V))(ρi:Fr)(Q:KL):KI:=fun xs s=>W (fF xs.2 xs.1 (sH Γ t ifs gs leaf ρi)) s Q
abbrev Ng(Γ:Ev.Ctx)(gs:List uB)(leaf:Fr->mA (List V))(ρ':Fr)(Q:KL):KB:=fun c s=>bif c then W (TF Γ gs leaf ρ' ρ') s Q else Q [] s
theorem g_cons{leaf:Fr->mA (List V)}{ρi:Fr}{t it:Expr}{ifs:List Expr}{gs:List uB}(hp:yE it=true)(h:W (ME Γ t it (evalE Γ it ρ) ρ) st (kG Γ t ifs gs leaf ρi Q)) :
  W (TF Γ (⟨t,it,ifs,0⟩::gs) leaf ρ ρi) st Q:=by
 refine W.eq (if_pos (by rw [hp];rfl)) ?_
 exact W.bind h
theorem g_turn{leaf:Fr->mA (List V)}{ρi ρ':Fr}{t:Expr}{ifs:List Expr}{gs:List uB}{x:V}(hb:rB true st t x ρi=some ρ')(h:W (ZE Γ ifs ρ') st (Ng Γ gs leaf ρ' Q)) :
  W (sH Γ t ifs gs leaf ρi x) st Q:=by
 refine W.bind (W.rd hb (W.bind (h.mono fun c s h=>?_)))
 rcases c with ⟨⟩
 ·exact W.pure h
 ·exact h
end
theorem get_loc{vars:List (Str×V)}{sc:List (Str×GA)}{out:Str->Option V}{x:Str}{v:V}(hk:(sc.lookup x==some .local||sc.lookup x==some .cell)=true)(h:vars.lookup x=some v):(⟨sc,vars,out⟩:Fr).get Γ x=some v:=by
 unfold Ev.Fr.get
 show (match sc.lookup x with|some .local|some .cell=>vars.lookup x|some .free=>out x|some .globalImplicit=>Γ.glob x|_=>none)=_
 rcases (II _ _).mp hk with h1|h1<;>rw [eq_of_beq h1]<;>exact h
theorem get_free{vars:List (Str×V)}{sc:List (Str×GA)}{out:Str->Option V}{x:Str}{v:V}(hk:(sc.lookup x==some .free)=true)(h:out x=some v):(⟨sc,vars,out⟩:Fr).get Γ x=some v:=by
 unfold Ev.Fr.get
 show (match sc.lookup x with|some .local|some .cell=>vars.lookup x|some .free=>out x|some .globalImplicit=>Γ.glob x|_=>none)=_
 rw [eq_of_beq hk];exact h
theorem eJ{vars:List (Str×V)}{sc:List (Str×GA)}{out:Str->Option V}{x:Str}{v:V}(hk:(sc.lookup x==some .globalImplicit)=true)(h:Γ.glob x=some v):(⟨sc,vars,out⟩:Fr).get Γ x=some v:=by
 unfold Ev.Fr.get
 show (match sc.lookup x with|some .local|some .cell=>vars.lookup x|some .free=>out x|some .globalImplicit=>Γ.glob x|_=>none)=_
 rw [eq_of_beq hk];exact h
theorem i_callR{f:Str}{p':Pos}{args:List Expr}{vars:List (Str×V)}{sc:List (Str×GA)}{out:Str->Option V}{t0:mA V}(hk:(sc.lookup f==some .globalImplicit)=true)(hg:Γ.glob f=some (.ty "range"))(h:W t0 st (pQ Q)):W (ME Γ t (.Call (.Name f p') args [] p) t0 ⟨sc,vars,out⟩) st Q :=
 wf (eJ hk hg) (by kernel_rfl!) h
theorem seen_cell{vars:List (Str×V)}{sc:List (Str×GA)}{out:Str->Option V}{x:Str}{v:V}(hk:(sc.lookup x==some .cell)=true)(h:vars.lookup x=some v):(⟨sc,vars,out⟩:Fr).seen Γ x=some v:=by
 unfold Ev.Fr.seen
 show (match sc.lookup x with|some .cell=>vars.lookup x|some .free=>out x|_=>none)=_
 rw [eq_of_beq hk];exact h
theorem seen_free{vars:List (Str×V)}{sc:List (Str×GA)}{out:Str->Option V}{x:Str}{v:V}(hk:(sc.lookup x==some .free)=true)(h:out x=some v):(⟨sc,vars,out⟩:Fr).seen Γ x=some v:=by
 unfold Ev.Fr.seen
 show (match sc.lookup x with|some .cell=>vars.lookup x|some .free=>out x|_=>none)=_
 rw [eq_of_beq hk];exact h
theorem lk_hit{x:Str}{v:V}{l:List (Str×V)}:((x,v)::l).lookup x=some v:=by simp [wD]
theorem lk_skip{x y:Str}{v u:V}{l:List (Str×V)}(hn:decide (y=x)=false)(h:l.lookup x=some v):((y,u)::l).lookup x=some v:=by
 have h':(x==y)=false:=by
  have:=of_decide_eq_false hn
  exact beq_eq_false_iff_ne.mpr fun e=>this e.symm
 rw [wD,h'];exact h
theorem uV{x y:Str}{v:V}{l:List (Str×V)}:(TB x v l).lookup y=if y=x then some v else l.lookup y:=VQ x y v l
theorem sv_hit{x:Str}{v:V}{l:List (Str×V)}:(TB x v l).lookup x=some v:=by rw [uV,if_pos rfl]
theorem sv_skip{x y:Str}{v u:V}{l:List (Str×V)}(hn:decide (y=x)=false)(h:l.lookup x=some v):(TB y u l).lookup x=some v:=by
 rw [uV,if_neg (fun e=>of_decide_eq_false hn e.symm)];exact h
theorem lk_skip2{x a b:Str}{v t u:V}{l:List (Str×V)}(hn:(decide (a=x)||decide (b=x))=false)(h:l.lookup x=some v):((a,t)::(b,u)::l).lookup x=some v:=by
 obtain⟨h1,h2⟩:=Bool.or_eq_false_iff.mp hn
 exact lk_skip h1 (lk_skip h2 h)
theorem sv_skip2{x a b:Str}{v t u:V}{l:List (Str×V)}(hn:(decide (a=x)||decide (b=x))=false)(h:l.lookup x=some v):(TB a t (TB b u l)).lookup x=some v:=by
 obtain⟨h1,h2⟩:=Bool.or_eq_false_iff.mp hn
 exact sv_skip h1 (sv_skip h2 h)
theorem set_loc{vars:List (Str×V)}{sc:List (Str×GA)}{out:Str->Option V}{x:Str}{v:V}(hk:(sc.lookup x==some .local||sc.lookup x==some .cell)=true):(⟨sc,vars,out⟩:Fr).set x v=some ⟨sc,TB x v vars,out⟩:=by
 unfold Ev.Fr.set
 show (match sc.lookup x with|some .local|some .cell=>some _|_=>none)=_
 rcases (II _ _).mp hk with h1|h1<;>rw [eq_of_beq h1]
theorem bindA_Name{vars:List (Str×V)}{sc:List (Str×GA)}{out:Str->Option V}{x:Str}{v:V}{e:Expr}{p:Pos}(hk:(sc.lookup x==some .local||sc.lookup x==some .cell)=true):oE st (.Name x p) e v ⟨sc,vars,out⟩=some ⟨sc,TB x v vars,out⟩:=by
 unfold oE
 show rB false st (.Name x p) v _=_
 exact set_loc hk
theorem bindT_Name{vars:List (Str×V)}{sc:List (Str×GA)}{out:Str->Option V}{x:Str}{v:V}{p:Pos}(hk:(sc.lookup x==some .local||sc.lookup x==some .cell)=true):rB false st (.Name x p) v ⟨sc,vars,out⟩=some ⟨sc,TB x v vars,out⟩:=by
 exact set_loc hk
theorem bindG_Name{vars:List (Str×V)}{sc:List (Str×GA)}{out:Str->Option V}{x:Str}{v:V}{p:Pos}(hn:vars.lookup x=none)(hk:(sc.lookup x==some .local||sc.lookup x==some .cell)=true):rB true st (.Name x p) v ⟨sc,vars,out⟩=some ⟨sc,TB x v vars,out⟩:=by
 show (if true&&(vars.lookup x).isSome then _ else _)=_
 rw [hn]
 exact set_loc hk
noncomputable def sG(sc:List (Str×GA))(x:Str):Bool:=sc.lookup x==some .local||sc.lookup x==some .cell
theorem CH{nw:Bool}{e:Expr}{es:List Expr}{v:V}{vs:List V}{ρ ρ1 ρ2:Fr}(h1:rB nw st e v ρ=some ρ1)(h2:PD nw st es vs ρ1=some ρ2):PD nw st (e::es) (v::vs) ρ=some ρ2:=(congrArg (fun o=>Option.bind o fun ρ'=>PD nw st es vs ρ') h1).trans h2
theorem bindT_Tup2{vars:List (Str×V)}{sc:List (Str×GA)}{out:Str->Option V}{x y:Str}{a b:V}{p p1 p2:Pos}{k:Nat}(hk:(sG sc x&&sG sc y)=true):rB false st (.Tuple [.Name x p1,.Name y p2] k p) (.tup [a,b]) ⟨sc,vars,out⟩=some ⟨sc,TB y b (TB x a vars),out⟩:=by
 obtain⟨h1,h2⟩:=(KA _ _).mp hk
 exact CH (bindT_Name h1) (CH (bindT_Name h2) rfl)
theorem AL{es:List Expr}{vs:List V}{ρ ρ':Fr}{k:Nat}{p:Pos}(h:PD false st es vs ρ=some ρ'):rB false st (.Tuple es k p) (.tup vs) ρ=some ρ':=h
theorem zL{ρ:Fr}:PD false st [] [] ρ=some ρ:=rfl
theorem oD{vars:List (Str×V)}{sc:List (Str×GA)}{out:Str->Option V}{x:Str}{p:Pos}{es:List Expr}{v:V}{vs:List V}{ρ':Fr}(hk:(sc.lookup x==some .local||sc.lookup x==some .cell)=true)(h:PD false st es vs ⟨sc,TB x v vars,out⟩=some ρ'):PD false st (.Name x p::es) (v::vs) ⟨sc,vars,out⟩=some ρ':=by
 exact CH (bindT_Name hk) h
theorem pS{ts es:List Expr}{v:V}{ρ ρ':Fr}{k k':Nat}{p p':Pos}(hp:JK ts es ρ.sc=some none)(h:rB false st (.Tuple ts k p) v ρ=some ρ'):oE st (.Tuple ts k p) (.Tuple es k' p') v ρ=some ρ':=by
 show (JK ts es ρ.sc).bind _=_
 rw [hp];exact h
theorem bindA_TupB{vars:List (Str×V)}{sc:List (Str×GA)}{out:Str->Option V}{es:List Expr}{x y:Str}{a b:V}{k k':Nat}{p p' p1 p2:Pos}(hp:JK [.Name x p1,.Name y p2] es sc=some none)(hk:(sG sc x&&sG sc y)=true):oE st (.Tuple [.Name x p1,.Name y p2] k p) (.Tuple es k' p') (.tup [a,b]) ⟨sc,vars,out⟩=some ⟨sc,TB y b (TB x a vars),out⟩ :=
 pS hp (bindT_Tup2 hk)
theorem uP{ts:List Expr}{f:Expr}{args:List Expr}{kws:List YB}{v:V}{ρ ρ':Fr}{k:Nat}{p p':Pos}(h:rB false st (.Tuple ts k p) v ρ=some ρ'):oE st (.Tuple ts k p) (.Call f args kws p') v ρ=some ρ':=h
theorem bindA_TupP{vars:List (Str×V)}{sc:List (Str×GA)}{out:Str->Option V}{es:List Expr}{x y:Str}{a b:V}{k k':Nat}{p p' p1 p2:Pos}(hp:JK [.Name x p1,.Name y p2] es sc=some (some [x,y]))(hk:(sG sc x&&sG sc y)=true) :
  oE st (.Tuple [.Name x p1,.Name y p2] k p) (.Tuple es k' p') (.tup [a,b]) ⟨sc,vars,out⟩=some ⟨sc,TB x a (TB y b vars),out⟩:=by
 obtain⟨h1,h2⟩:=(KA _ _).mp hk
 show (JK [.Name x p1,.Name y p2] es sc).bind _=_
 rw [hp]
 show BI [y,x] [b,a] ⟨sc,vars,out⟩=_
 exact (congrArg (fun o=>Option.bind o fun ρ'=>BI [x] [a] ρ') (set_loc h2)).trans ((congrArg (fun o=>Option.bind o fun ρ'=>BI [] [] ρ') (set_loc h1)).trans rfl)
theorem bindG_Tup2{sc:List (Str×GA)}{out:Str->Option V}{x y:Str}{a b:V}{p p1 p2:Pos}{k:Nat}(hk:(sG sc x&&sG sc y && !decide (y=x))=true):rB true st (.Tuple [.Name x p1,.Name y p2] k p) (.tup [a,b]) ⟨sc,[],out⟩=some ⟨sc,[(x,a),(y,b)],out⟩:=by
 obtain⟨h0,h3⟩:=(KA _ _).mp hk
 obtain⟨h1,h2⟩:=(KA _ _).mp h0
 have h4:¬ y=x:=by simpa using h3
 have h4':(y==x)=false:=beq_eq_false_iff_ne.mpr h4
 have h5:¬ x=y:=fun e=>h4 e.symm
 refine CH (bindG_Name rfl h1) (CH (bindG_Name ?_ h2) ?_)
 ·show wD y [(x,a)]=none
  simp [wD,h4']
 ·show some (Fr.mk sc (if x=y then (y,b)::[] else (x,a)::TB y b []) out)=_
  rw [if_neg h5];rfl
end Mt
end
section
namespace Mt
open Ev
variable{Γ:Ev.Ctx}{ρ:Fr}{st:Ev.St}{p:Pos}
section
variable{Q:V->Prop}
theorem bS{op:dC}{a b v:V}(h:fN op a b=some v):GD st op a b=some v:=by unfold GD;rw [h]
theorem bI{op:dC}{a b:Int}{v:V}(h:binI op a b=some v):GD st op (.int a) (.int b)=some v:=bS h
theorem lb_add{a b:Int}(q:Q (.int (a+b))):∃ v,GD st .Add (.int a) (.int b)=some v/\Q v:=⟨_,rfl,q⟩
theorem lb_sub{a b:Int}(q:Q (.int (a - b))):∃ v,GD st .Sub (.int a) (.int b)=some v/\Q v:=⟨_,rfl,q⟩
theorem lb_mul{a b:Int}(h:decide (a.natAbs<2^30)=true)(q:Q (.int (a*b))):∃ v,GD st .Mult (.int a) (.int b)=some v/\Q v :=
 ⟨_,bI (if_pos (Or.inl (of_decide_eq_true h))),q⟩
theorem lb_mulR{a b:Int}(h:decide (b.natAbs<2^30)=true)(q:Q (.int (a*b))):∃ v,GD st .Mult (.int a) (.int b)=some v/\Q v :=
 ⟨_,bI (if_pos (Or.inr (of_decide_eq_true h))),q⟩
theorem lb_div{a b:Int}(h:decide (0<b/\b.natAbs<1073741824)=true)(q:Q (.int (a / b))):∃ v,GD st .FloorDiv (.int a) (.int b)=some v/\Q v:=by
 have h:=of_decide_eq_true h
 refine⟨_,?_,q⟩
 have h2:b≠0/\b.natAbs<1073741824:=⟨PM h.1,h.2⟩
 exact y6 a (vH h.1)▸bI (if_pos h2)
theorem lb_mod{a b:Int}(h:decide (0<b)=true)(q:Q (.int (a%b))):∃ v,GD st .Mod (.int a) (.int b)=some v/\Q v:=by
 have h:=of_decide_eq_true h
 refine⟨_,?_,q⟩
 have h2:¬ b=0:=PM h
 exact Int.fmod_eq_emod_of_nonneg a (vH h)▸bI (if_neg h2)
theorem lb_pow{a b:Int}(h:decide (0<=b/\b<=1000000/\a.natAbs<2^64)=true)(q:Q (.int (a^b.toNat))):∃ v,GD st .Pow (.int a) (.int b)=some v/\Q v :=
 ⟨_,bI (if_pos (of_decide_eq_true h)),q⟩
theorem TL{a b:Int}(h:0<=b/\b<=1000000/\a.natAbs<2^64)(q:Q (.int (a*2^b.toNat))):∃ v,GD st .LShift (.int a) (.int b)=some v/\Q v :=
 ⟨_,bI (if_pos h),q⟩
theorem rQ{a b:Int}(h:0<=b)(q:Q (.int (a / 2^b.toNat))):∃ v,GD st .RShift (.int a) (.int b)=some v/\Q v:=by
 have e:(0:Int)<=2^b.toNat:=vH (ER (by decide))
 exact⟨_,y6 a e▸bI (if_pos h),q⟩
theorem lb_and{a b:Int}(q:Q (.int (Builtin.bitAnd a b))):∃ v,GD st .BitAnd (.int a) (.int b)=some v/\Q v:=⟨_,rfl,q⟩
theorem eF{a b:List Nat}(h:(a++b).length<=cap)(q:Q (.str (a++b))):∃ v,GD st .Add (.str a) (.str b)=some v/\Q v :=
 ⟨_,bS (if_pos h),q⟩
theorem OG{a b:List V}(h:(a++b).length<=cap)(q:Q (.lst (a++b))):∃ v,GD st .Add (.lst a) (.lst b)=some v/\Q v:=by
 refine⟨_,?_,q⟩
 show NN (a++b)=_
 unfold NN
 rw [if_pos h]
theorem la_addi{a b:Int}(q:Q (.int (a+b))):∃ v,hH .Add (.int a) (.int b)=some v/\Q v:=⟨_,rfl,q⟩
theorem xT{a b:List Nat}(h:(a++b).length<=cap)(q:Q (.str (a++b))):∃ v,hH .Add (.str a) (.str b)=some v/\Q v:=⟨_,by show QH (a++b)=_;unfold QH;rw [if_pos h],q⟩
theorem lu_neg{a:Int}(q:Q (.int (-a))):∃ v,jR st .USub (.int a)=some v/\Q v:=⟨_,rfl,q⟩
theorem DN{n:Nat}{i:Int}(hn:n<=cap)(h0:0<=i)(h1:i<n):aD n i=some i.toNat:=by
 unfold aD;rw [if_pos hn,if_pos h0,if_pos h1]
theorem nT{vs:List V}{i:Int}{v:V}(hn:vs.length<=cap)(h0:0<=i)(h1:i<vs.length)(hv:vs[i.toNat]? = some v)(q:Q v):∃ v,CC st (.tup vs) (.int i)=some v/\Q v :=
 ⟨v,by show (aD vs.length i).bind _=_;rw [DN hn h0 h1];exact hv,q⟩
theorem kQ{vs:List V}{i:Int}{v:V}(hn:vs.length<=cap)(h0:0<=i)(h1:i<vs.length)(hv:vs[i.toNat]? = some v)(q:Q v):∃ v,CC st (.lst vs) (.int i)=some v/\Q v :=
 ⟨v,by show (aD vs.length i).bind _=_;rw [DN hn h0 h1];exact hv,q⟩
theorem IN{r:Nat}{vs:List V}{i:Int}{v:V}(hs:st[r]? = some (.list vs))(hn:vs.length<=cap)(h0:0<=i)(h1:i<vs.length)(hv:vs[i.toNat]? = some v)(q:Q v):∃ v,CC st (.ref r) (.int i)=some v/\Q v :=
 ⟨v,by show (match st[r]? with|some (.list vs)=>tJ vs (V.int i)|_=>none)=_;rw [hs];show (aD vs.length i).bind _=_;rw [DN hn h0 h1];exact hv,q⟩
theorem jg{vs:List Nat}{i:Int}{v:Nat}(hn:vs.length<=cap)(h0:0<=i)(h1:i<vs.length)(hv:vs[i.toNat]? = some v)(q:Q (.str [v])):∃ v,CC st (.str vs) (.int i)=some v/\Q v :=
 ⟨.str [v],by show (aD vs.length i).bind _=_;rw [DN hn h0 h1];show (vs[i.toNat]?).map _=_;rw [hv];rfl,q⟩
theorem mI{o i v:V}(h:CC st o i=some v)(q:Q v):∃ v,CC st o i=some v/\Q v:=⟨v,h,q⟩
end
section
variable{Q:Bool->Prop}{gd:Str->Option (List (V×V))}
theorem lc_lt{a b:Int}(q:Q (decide (a<b))):∃ c,ID gd st .Lt (.int a) (.int b)=some c/\Q c:=⟨_,rfl,q⟩
theorem lc_gt{a b:Int}(q:Q (decide (b<a))):∃ c,ID gd st .Gt (.int a) (.int b)=some c/\Q c:=⟨_,rfl,q⟩
theorem lc_ge{a b:Int}(q:Q (decide (b<=a))):∃ c,ID gd st .GtE (.int a) (.int b)=some c/\Q c:=⟨_,rfl,q⟩
theorem UR{a b:List Nat}:OA.eqv (.str ⟨a.toArray⟩) (.str ⟨b.toArray⟩)=decide (a=b):=by
 unfold OA.eqv
 by_cases h:a=b
 ·subst h;simp
 ·rw [decide_eq_false h]
  exact beq_eq_false_iff_ne.mpr fun e=>h (by injection e with e;simpa using congrArg Array.toList e)
theorem qL{a b:Int}:OA.eqv (.int a) (.int b)=decide (a=b):=by
 unfold OA.eqv
 by_cases h:a=b
 ·subst h;simp
 ·rw [decide_eq_false h];exact beq_eq_false_iff_ne.mpr h
theorem lc_eqi{a b:Int}(q:Q (decide (a=b))):∃ c,ID gd st .Eq (.int a) (.int b)=some c/\Q c:=⟨_,by show some (OA.eqv (.int a) (.int b))=_;rw [qL],q⟩
theorem lc_eqs{a b:List Nat}(q:Q (decide (a=b))):∃ c,ID gd st .Eq (.str a) (.str b)=some c/\Q c:=⟨_,by show some (OA.eqv (.str ⟨a.toArray⟩) (.str ⟨b.toArray⟩))=_;rw [UR],q⟩
theorem lc_nes{a b:List Nat}(q:Q (!decide (a=b))):∃ c,ID gd st .NotEq (.str a) (.str b)=some c/\Q c:=⟨_,by show some (!OA.eqv (.str ⟨a.toArray⟩) (.str ⟨b.toArray⟩))=_;rw [UR],q⟩
theorem UL{a b:V}{c:Bool}(h:ML a b=some c)(q:Q c):∃ c,ID gd st .Is a b=some c/\Q c:=⟨c,h,q⟩
theorem zT{a b:V}{c:Bool}(h:ML a b=some c)(q:Q (!c)):∃ c,ID gd st .IsNot a b=some c/\Q c:=⟨_,by show (ML a b).map _=_;rw [h];rfl,q⟩
theorem sQ{op:JG}{a b:V}{c:Bool}(h:ID gd st op a b=some c)(q:Q c):∃ c,ID gd st op a b=some c/\Q c:=⟨c,h,q⟩
theorem lt_bool{a:Bool}(q:Q a):∃ c,oF st (.bool a)=some c/\Q c:=⟨_,rfl,q⟩
theorem lt_int{a:Int}(q:Q (a != 0)):∃ c,oF st (.int a)=some c/\Q c:=⟨_,rfl,q⟩
theorem lt_none(q:Q false):∃ c,oF st .none=some c/\Q c:=⟨_,rfl,q⟩
end
section
theorem F4{r:Nat}{vs:List V}{n:Int}{v:V}{Q:Unit->Ev.St->Prop}(h:st[r]? = some (.list vs))(hc:vs.length<=cap)(h0:0<=n)(h1:n<vs.length)(q:Q () (st.set r (.list (vs.set n.toNat v)))):W (WK (.ref r) (.int n) v) st Q:=by
 have hi:r<st.length:=by
  rcases FR r st.length with h'|h'
  ·exact h'
  ·rw [oL h'] at h;exact wA h
 refine W.bind (W.gt (a:=r) rfl (W.bind (W.gt (a:=n) rfl (W.bind (W.rd (a:=vs) (by unfold jJ;rw [h]) ?_)))))
 refine W.bind (W.gt (a:=n.toNat) (by rw [if_pos h0];exact DN hc h0 h1) ?_)
 refine⟨(),st.set r (.list (vs.set n.toNat v)),?_,q⟩
 unfold setO
 rw [if_pos hi]
theorem w_bt{α:Type}{c:Bool}{a b:mA α}{Q:α->Ev.St->Prop}(h:c=true)(k:W a st Q):W (bif c then a else b) st Q:=by rw [h];exact k
theorem w_bf{α:Type}{c:Bool}{a b:mA α}{Q:α->Ev.St->Prop}(h:c=false)(k:W b st Q):W (bif c then a else b) st Q:=by rw [h];exact k
theorem x_bt{c:Bool}{a b r:List IA}{Q:Fl×Fr->Ev.St->Prop}(h:c=true)(k:W (XA Γ (a++r) ρ) st Q):W (XA Γ ((bif c then a else b)++r) ρ) st Q:=by rw [h];exact k
theorem x_bf{c:Bool}{a b r:List IA}{Q:Fl×Fr->Ev.St->Prop}(h:c=false)(k:W (XA Γ (b++r) ρ) st Q):W (XA Γ ((bif c then a else b)++r) ρ) st Q:=by rw [h];exact k
theorem x_app{s:IA}{a r:List IA}{Q:Fl×Fr->Ev.St->Prop}(k:W (XA Γ (s::(a++r)) ρ) st Q):W (XA Γ ((s::a)++r) ρ) st Q:=k
theorem x_app0{r:List IA}{Q:Fl×Fr->Ev.St->Prop}(k:W (XA Γ r ρ) st Q):W (XA Γ ([]++r) ρ) st Q:=k
theorem p_bt{c:Bool}{a b:Prop}(h:c=true)(k:a):(bif c then a else b):=by rw [h];exact k
theorem p_bf{c:Bool}{a b:Prop}(h:c=false)(k:b):(bif c then a else b):=by rw [h];exact k
theorem oT{vs:List V}{i:Int}{Q:V->Prop}(l:List Nat)(hv:vs=l.map fun (x:Nat)=>V.int x)(hn:decide (vs.length<=cap)=true)(h0:0<=i)(h1:i<l.length)(q:Q (.int (l.getD i.toNat 0:Nat))):∃ v,CC st (.tup vs) (.int i)=some v/\Q v:=by
 subst hv
 have hl:i.toNat<l.length:=(FG h0).mpr h1
 refine nT (of_decide_eq_true hn) h0 (by simpa using h1) ?_ q
 rw [UE,FE,sD hl]
 rfl
theorem PL{vs:List V}{i:Int}{Q:V->Prop}(l:List (List Nat))(hv:vs=l.map V.str)(hn:decide (vs.length<=cap)=true)(h0:0<=i)(h1:i<l.length)(q:Q (.str (l.getD i.toNat []))):∃ v,CC st (.tup vs) (.int i)=some v/\Q v:=by
 subst hv
 have hl:i.toNat<l.length:=(FG h0).mpr h1
 refine nT (of_decide_eq_true hn) h0 (by simpa using h1) ?_ q
 rw [UE,FE,sD hl]
 rfl
theorem iJ{l:List Nat}{i:Int}{Q:V->Prop}(hn:decide (l.length<=cap)=true)(h0:0<=i)(h1:i<l.length)(q:Q (.str [l.getD i.toNat 0])):∃ v,CC st (.str l) (.int i)=some v/\Q v:=by
 have hl:i.toNat<l.length:=(FG h0).mpr h1
 refine jg (of_decide_eq_true hn) h0 h1 ?_ q
 rw [FE,sD hl]
 rfl
end
section
variable{Q:List V×List (Nat×O)->Prop}
theorem ls_str{l:List Nat}(q:Q (l.map fun c=>V.str [c],[])):∃ r,zD st (.str l)=some r/\Q r:=⟨_,rfl,q⟩
theorem ls_lst{l:List V}(q:Q (l,[])):∃ r,zD st (.lst l)=some r/\Q r:=⟨_,rfl,q⟩
theorem ls_tup{l:List V}(q:Q (l,[])):∃ r,zD st (.tup l)=some r/\Q r:=⟨_,rfl,q⟩
theorem ls_noi(q:Q ([],[])):∃ r,zD st .noi=some r/\Q r:=⟨_,rfl,q⟩
theorem pI{i:Nat}{l:List V}(h:st[i]? = some (.list l))(q:Q (l,[(i,.list l)])):∃ r,zD st (.ref i)=some r/\Q r :=
 ⟨_,by
  show (match st[i]? with|some (O.list vs)=>some vs|_=>none).bind (fun xs=>(st[i]?).bind fun o=>some (xs,[(i,o)]))=_
  rw [h];rfl,q⟩
theorem MT{a:Int}(h:-65536<=a/\a<=65536)(q:Q ((UA a.toNat).map fun (i:Nat)=>V.int i,[])):∃ r,zD st (.rng 0 a)=some r/\Q r :=
 ⟨_,by
  show (if -65536<=(0:Int)/\(0:Int)<=65536 /\ -65536<=a/\a<=65536 then some ((UA (a - 0).toNat).map fun (i:Nat)=>V.int (0+i)) else none).map (·,[])=some _
  rw [if_pos ⟨by decide,by decide,h.1,h.2⟩,Int.sub_zero]
  rfl,by simpa using q⟩
theorem ls_rngD{a:Int}(h:decide (-65536<=a/\a<=65536)=true)(q:Q ((UA a.toNat).map fun (i:Nat)=>V.int i,[])):∃ r,zD st (.rng 0 a)=some r/\Q r:=MT (of_decide_eq_true h) q
end
section
variable{Q:List V->Ev.St->Prop}
theorem iZ{α:Type}(e:α->V):∀ l:List α,l.flatMap (fun a=>[e a])=l.map e
 | []=>rfl
 | a::l=>by rw [GE,iZ e l];rfl
theorem hZ{α:Type}(c:α->Bool)(e:α->V):∀ l:List α,l.flatMap (fun a=>bif c a then [e a] else [])=(l.filter c).map e
 | []=>rfl
 | a::l=>by rw [GE,hZ c e l,List.filter_cons];cases c a<;>rfl
theorem SD{ws:List (Nat×O)}{f:V->mA (List V)}{α:Type}(h:α->V)(e:α->V)(hw:same ws st=some ((),st))(l:List α)(hf:∀ a∈l,W (f (h a)) st (RL [e a] st))(q:Q (l.map e) st):W (fF ws (l.map h) f) st Q :=
 (WT h (fun a=>[e a]) hw l hf).mono fun r s ⟨h1,h2⟩=>by
  subst h1 h2
  rw [iZ];exact q
theorem W0{ws:List (Nat×O)}{f:V->mA (List V)}{α:Type}(h:α->V)(g:α->List V)(hw:same ws st=some ((),st))(l:List α)(hf:∀ a∈l,W (f (h a)) st (RL (g a) st))(q:Q (l.flatMap g) st):W (fF ws (l.map h) f) st Q :=
 (WT h g hw l hf).mono fun r s ⟨h1,h2⟩=>by
  subst h1 h2
  exact q
theorem lH{ws:List (Nat×O)}{f:V->mA (List V)}{α:Type}(h:α->V)(c:α->Bool)(e:α->V)(hw:same ws st=some ((),st))(l:List α)(hf:∀ a∈l,W (f (h a)) st (RL (bif c a then [e a] else []) st))(q:Q ((l.filter c).map e) st):W (fF ws (l.map h) f) st Q :=
 (WT h (fun a=>bif c a then [e a] else []) hw l hf).mono fun r s ⟨h1,h2⟩=>by
  subst h1 h2
  rw [hZ];exact q
end
section
theorem HN{r:Nat}{vs:List V}{v:V}{Q:V->Prop}(hs:st[r]? = some (.list (vs++[v])))(hn:vs.length+1<=cap)(q:Q v):∃ v,CC st (.ref r) (.int (-1))=some v/\Q v:=by
 refine⟨v,?_,q⟩
 show (match st[r]? with|some (.list vs)=>tJ vs (V.int (-1))|_=>none)=_
 rw [hs]
 show (aD (vs++[v]).length (-1)).bind (fun k=>(vs++[v])[k]?)=_
 have e:aD (vs++[v]).length (-1)=some vs.length:=by
  unfold aD
  rw [if_pos (by simpa using hn),if_neg (by decide),if_pos (by simp;exact z6 (vB _))]
  simp
  exact m1
 rw [e]
 show (vs++[v])[vs.length]? = _
 simp
theorem Gb{α:Type}{pre d:List α}{j:Nat}(h:pre.length+d.length<=cap):gC (pre++d) (.int pre.length) (.int (pre.length+j))=some (d.take j):=by
 unfold gC
 rw [if_neg (by simp;exact h)]
 show (some (if (pre.length:Int)<0 then ((pre.length:Int)+(pre++d).length).toNat else min (pre.length:Int).toNat (pre++d).length)).bind (fun x=>(some (if (pre.length+j:Int)<0 then ((pre.length+j:Int)+(pre++d).length).toNat else min (pre.length+j:Int).toNat (pre++d).length)).bind fun y=>some (((pre++d).take y).drop x))=_
 rw [if_neg (pF.mpr (vB _)),if_neg (pF.mpr (GR (vB _) (vB _)))]
 have e1:min (pre.length:Int).toNat (pre++d).length=pre.length:=by simp
 have e2:min (pre.length+j:Int).toNat (pre++d).length=pre.length+min j d.length:=by simp;exact Nat.add_min_add_left _ _ _
 rw [e1,e2]
 show some (((pre++d).take (pre.length+min j d.length)).drop pre.length)=_
 rw [List.take_length_add_append,List.drop_left]
 congr 1
 rw [List.take_eq_take_iff]
 exact wR (GJ _ _)
theorem AS{α:Type}{l pre d:List α}{x y:Int}(hl:l=pre++d)(j:Nat)(h:pre.length+d.length<=cap)(hx:x=pre.length)(hy:y=pre.length+j):gC l (.int x) (.int y)=some (d.take j):=by
 subst hl hx hy
 exact Gb h
theorem QK{l a:List Nat}{x y:V}{Q:V->Prop}(h:gC l x y=some a)(q:Q (.str a)):∃ r,RK st (.str l) x y .none=some r/\Q r:=⟨_,by show (gC l x y).map V.str=_;rw [h];rfl,q⟩
theorem XQ{l a:List V}{x y:V}{Q:V->Prop}(h:gC l x y=some a)(q:Q (.lst a)):∃ r,RK st (.lst l) x y .none=some r/\Q r:=⟨_,by show (some l).bind (fun vs=>(gC vs x y).map V.lst)=_;show (gC l x y).map V.lst=_;rw [h];rfl,q⟩
end
section
theorem FS(m:Nat):∀ l:List Int,((l.map V.int).mapM (jB st (m+1)))=some (l.map OA.int)
 | []=>rfl
 | i::l=>by
  rw [sB,xR,FS m l]
  rfl
theorem U9{P:sC}{n:Nat}{l:List Int}{Q:V->Ev.St->Prop}(hl:l.length<=cap)(hb:∀ i∈l,-1000000<=i/\i<=1000000)(q:Q (.int l.sum) st):W ((LA P (n+1)).call (.bi "sum") [.lst (l.map V.int)] []) st Q:=by
 have e1:∀ ys:List Int,zF (ys.map V.int)=some ys:=by
  intro ys
  induction ys with
  | nil=>rfl
  | cons y ys ih=>show (zF (ys.map V.int)).map (y :: ·)=_;rw [ih];rfl
 show W (do
  let l <- Ev.gt (zF (l.map V.int))
  if l.length<=cap/\l.all (fun i=>decide (-1000000<=i/\i<=1000000)) then pure (.int l.sum) else yA) st Q
 refine W.bind (W.gt (e1 l) ?_)
 rw [if_pos ⟨hl,by rw [YA];exact fun i hi=>decide_eq_true (hb i hi)⟩]
 exact W.pure q
theorem lV{i:Nat}{l a:List V}{x y:V}{Q:V->Prop}(hi:st[i]? = some (.list l))(h:gC l x y=some a)(q:Q (.lst a)):∃ r,RK st (.ref i) x y .none=some r/\Q r:=⟨_,by
 show (match st[i]? with|some (O.list vs)=>some vs|_=>none).bind (fun vs=>(gC vs x y).map V.lst)=_
 rw [hi];show (gC l x y).map V.lst=_;rw [h];rfl,q⟩
end
section
variable{Q:V->Ev.St->Prop}
theorem w_CallF{x:Str}{p':Pos}{args:List Expr}{kws:List YB}{vars:List (Str×V)}{sc:List (Str×GA)}{out:Str->Option V}(hx:decide (x=("__debug__":Str))=false)(hk:(sc.lookup x==some .globalImplicit)=true)(hg:Γ.glob x=some (.fn x))
  (h:W (FC Γ args ⟨sc,vars,out⟩) st (oQ Γ kws ⟨sc,vars,out⟩ (.fn x) Q)):W (evalE Γ (.Call (.Name x p') args kws p) ⟨sc,vars,out⟩) st Q :=
 CV (w_Name hx (eJ hk hg) h)
theorem w_CallB{x:String}{p':Pos}{args:List Expr}{kws:List YB}{vars:List (Str×V)}{sc:List (Str×GA)}{out:Str->Option V}(hx:decide (nA x=("__debug__":Str))=false)(hk:(sc.lookup (nA x)==some .globalImplicit)=true)(hg:Γ.glob (nA x)=some (.bi x))
  (h:W (FC Γ args ⟨sc,vars,out⟩) st (oQ Γ kws ⟨sc,vars,out⟩ (.bi x) Q)):W (evalE Γ (.Call (.Name (nA x) p') args kws p) ⟨sc,vars,out⟩) st Q :=
 CV (w_Name hx (eJ hk hg) h)
theorem w_CallT{x:String}{p':Pos}{args:List Expr}{kws:List YB}{vars:List (Str×V)}{sc:List (Str×GA)}{out:Str->Option V}(hx:decide (nA x=("__debug__":Str))=false)(hk:(sc.lookup (nA x)==some .globalImplicit)=true)(hg:Γ.glob (nA x)=some (.ty x))
  (h:W (FC Γ args ⟨sc,vars,out⟩) st (oQ Γ kws ⟨sc,vars,out⟩ (.ty x) Q)):W (evalE Γ (.Call (.Name (nA x) p') args kws p) ⟨sc,vars,out⟩) st Q :=
 CV (w_Name hx (eJ hk hg) h)
theorem w_NameG{x:Str}{vars:List (Str×V)}{sc:List (Str×GA)}{out:Str->Option V}(hx:decide (x=("__debug__":Str))=false)(hk:(sc.lookup x==some .globalImplicit)=true)(hg:Γ.glob x=some (.g x))
  (q:Q (.g x) st):W (evalE Γ (.Name x p) ⟨sc,vars,out⟩) st Q:=w_Name hx (eJ hk hg) q
theorem w_NameT{x:String}{vars:List (Str×V)}{sc:List (Str×GA)}{out:Str->Option V}(hx:decide (nA x=("__debug__":Str))=false)(hk:(sc.lookup (nA x)==some .globalImplicit)=true)(hg:Γ.glob (nA x)=some (.ty x))
  (q:Q (.ty x) st):W (evalE Γ (.Name (nA x) p) ⟨sc,vars,out⟩) st Q:=w_Name hx (eJ hk hg) q
theorem DV{x:Str}{v:V}{vars:List (Str×V)}{sc:List (Str×GA)}{out:Str->Option V}(hx:decide (x=("__debug__":Str))=false)(hk:(sc.lookup x==some .globalImplicit)=true)(hg:Γ.glob x=some v)
  (q:Q v st):W (evalE Γ (.Name x p) ⟨sc,vars,out⟩) st Q:=w_Name hx (eJ hk hg) q
end
section
variable{Q:V->Ev.St->Prop}{P:sC}{n:Nat}
theorem pD{d:xD}{vs:List V}{ks:List (Str×V)}(vars:List (Str×V))(ho:LQ d=true)(hb:(lG d vs ks).map (EG d)=some vars)(h:W (XA Γ d.body ⟨d.sc.names,vars,fun _=>.none⟩) st (Yg Q)):W (zI Γ d vs ks) st Q:=by
 unfold zI
 rcases hv:lG d vs ks with _|b
 ·rw [hv] at hb;exact wA hb
 ·rw [hv] at hb
  cases hb
  refine W.bind (W.gt (a:=b) (by rw [if_pos ho]) (W.bind (h.mono fun o s h=>?_)))
  obtain⟨fl,ρ'⟩:=o
  rcases fl with ⟨⟩
  ·exact W.pure h
  ·exact W.pure h
theorem KE{x:Str}{d:xD}{vs:List V}{ks:List (Str×V)}(hp:P.prim x=none)(hd:P.fns.lookup x=some d)(h:W (zI (LA P n) d vs ks) st Q):W ((LA P (n+1)).call (.fn x) vs ks) st Q:=by
 show W (match P.prim x with
  | some p=>HH ks (p vs)
  | .none=>do
   let d <- Ev.gt (P.fns.lookup x)
   zI (LA P n) d vs ks) st Q
 rw [hp]
 exact W.bind (W.gt hd h)
theorem BL{x:Str}{i:Nat}{d:xD}{vs:List V}{ks:List (Str×V)}(hd:P.mths.lookup x=some d)(h:W (zI (LA P n) d (.hd i::vs) ks) st Q):W ((LA P (n+1)).call (.m (.hd i) x) vs ks) st Q:=by
 show W (WI P (LA P n) (.m (.hd i) x) vs ks) st Q
 unfold WI
 exact W.bind (W.gt hd h)
theorem jN{i:Int}(h:0<=i/\i<1114112)(q:Q (.str [i.toNat]) st):W ((LA P (n+1)).call (.bi "chr") [.int i] []) st Q:=by
 show W (if 0<=i/\i<1114112 then _ else _) st Q
 rw [if_pos h];exact W.pure q
theorem c_ord{c:Nat}(q:Q (.int c) st):W ((LA P (n+1)).call (.bi "ord") [.str [c]] []) st Q:=W.pure q
theorem c_min{a b:Int}(q:Q (.int (if b<a then b else a)) st):W ((LA P (n+1)).call (.bi "min") [.int a,.int b] []) st Q:=W.pure q
theorem c_max{a b:Int}(q:Q (.int (if a<b then b else a)) st):W ((LA P (n+1)).call (.bi "max") [.int a,.int b] []) st Q:=W.pure q
theorem c_len{a:List Nat}(h:a.length<=cap)(q:Q (.int a.length) st):W ((LA P (n+1)).call (.bi "len") [.str a] []) st Q:=by
 show W (if a.length<=cap then _ else _) st Q
 rw [if_pos h];exact W.pure q
theorem OX{a:List V}(h:a.length<=cap)(q:Q (.int a.length) st):W ((LA P (n+1)).call (.bi "len") [.lst a] []) st Q:=by
 show W (if a.length<=cap then _ else _) st Q
 rw [if_pos h];exact W.pure q
theorem c_range{a:Int}(q:Q (.rng 0 a) st):W ((LA P (n+1)).call (.ty "range") [.int a] []) st Q:=W.pure q
theorem c_type{z:List Nat}(q:Q (.ty "str") st):W ((LA P (n+1)).call (.ty "type") [.str z] []) st Q:=W.pure q
theorem c_items(q:Q .noi st):W ((LA P (n+1)).call (.m .nod "items") [] []) st Q:=W.pure q
theorem mN{a b:List Nat}(h:gD (Txt.lower (S a)).cps.toList=some (.str b))(q:Q (.str b) st):W ((LA P (n+1)).call (.m (.str a) "lower") [] []) st Q:=W.gt h q
theorem SX{a b:List Nat}(h:gD (Txt.upper (S a)).cps.toList=some (.str b))(q:Q (.str b) st):W ((LA P (n+1)).call (.m (.str a) "upper") [] []) st Q:=W.gt h q
theorem MG{i:Nat}{xs:List V}{v:V}(h:st[i]? = some (.list xs))(hl:xs.length+1<=cap)(q:Q .none (st.set i (.list (xs++[v])))):W ((LA P (n+1)).call (.m (.ref i) "append") [v] []) st Q:=by
 show W (do
  match <- Ev.rd fun st=>st[i]? with
  | .list xs=>PH i (xs++[v])) st Q
 refine W.bind (W.rd h ?_)
 show W (PH i (xs++[v])) st Q
 unfold PH
 rw [if_pos (by simpa using hl)]
 have hi:i<st.length:=by
  rcases FR i st.length with h'|h'
  ·exact h'
  ·rw [oL h'] at h;exact wA h
 refine W.bind ⟨(),st.set i (.list (xs++[v])),?_,W.pure q⟩
 unfold setO
 rw [if_pos hi]
end
section
variable{Q:V->Prop}{P:sC}{n:Nat}
theorem me_str{a:List Nat}{x:Str}(h:(x=("lower":Str)||x=("upper":Str)||x=("join":Str)||x=("index":Str))=true)(q:Q (.m (.str a) x)):∃ f,(LA P (n+1)).meth st (.str a) x=some f/\Q f :=
 ⟨_,by show (if _ then some (V.m (.str a) x) else none)=_;rw [if_pos h],q⟩
theorem me_hd{i:Nat}{x:Str}(h:fJ.contains x=true)(q:Q (.m (.hd i) x)):∃ f,(LA P (n+1)).meth st (.hd i) x=some f/\Q f :=
 ⟨_,by show (if _ then some (V.m (.hd i) x) else none)=_;rw [if_pos h],q⟩
theorem me_app{i:Nat}{xs:List V}(h:st[i]? = some (.list xs))(q:Q (.m (.ref i) "append")):∃ f,(LA P (n+1)).meth st (.ref i) "append" = some f/\Q f :=
 ⟨_,by show (match st[i]? with|some (.list _)=>_|_=>none)=_;rw [h];rfl,q⟩
theorem me_nod(q:Q (.m .nod "items")):∃ f,(LA P (n+1)).meth st .nod "items" = some f/\Q f:=⟨_,rfl,q⟩
theorem la_hd{i:Nat}(q:Q (.ref i)):∃ v,(LA P (n+1)).attr (.hd i) "_headers" = some v/\Q v:=⟨_,rfl,q⟩
theorem me_g{y x:Str}(h:dJ y x=true)(q:Q (.m (.g y) x)):∃ f,(LA P (n+1)).meth st (.g y) x=some f/\Q f :=
 ⟨_,by show (if _ then some (V.m (.g y) x) else none)=_;rw [if_pos h],q⟩
end
end Mt
end
namespace Mt
open Mine Ev
local macro_rules | `(tactic| walk_at $z:str) => do
 let b:=fun (s:String)=>do
  let x:=Lean.Syntax.mkStrLit s
  `(by walk_at $x)
 let h <- `(?_)
 let A:=#[h,<- `(by kernel_rfl!),<- `(by assumption),<- b "get",<- b "len",<- b "tt",<- b "l"]
 let w:=z.getString
 let t:=if w == "l" then "lk_hit: sv_hit: :2 sv_skip2:16 lk_skip2:16 lk_skip:16 sv_skip:16 seen_cell:16 seen_free:16" else if w == "get" then "get_loc:16 get_free:16" else if w == "len" then "Nat.le_of_ble_eq_true:1" else if w == "tt" then ":2 decide_eq_true:2 decide_eq_false:2 :1" else "w_int:0 w_str:10 w_Name:130 w_BinOp:0 w_IfExp:0 w_CallM:10 w_CallF:1110 w_CallB:1110 w_CallT:1110 w_NameG:1110 w_NameT:1110 w_Compare:0 w_Item:10 w_Slice:0 w_Tuple:10 w_List:0 w_Comp:10 w_cons:0 w_nil:0 w_knil:0 w_kcons:0 w_tCmp:0 w_tNot:0 w_tOr2:0 w_tAnd2:0 w_tVal:10 w_leaf:0 w_on:0 w_os:0 w_none:0 w_bool:0 w_UnaryOp:0 w_And2:0 w_Attr:10 w_inil:0 w_icons:0 x_nil:0 x_Ret:0 x_Expr:10 x_Assign:0 x_AugN:30 x_AugS:10 x_If:0 x_For:10 g_nil:0 g_cons:10 i_callR:110 i_other:10 lb_add:0 w_mkV:410 w_mkK:410 w_mkS:0 w_mkL:0 lu_neg:0 ls_tup:0 lb_sub:0 la_addi:0 set_loc:1:e_turn lb_mul:10 lb_mulR:10 lb_div:10 lb_mod:10 lb_pow:10 lb_and:0 lb_or:0 lc_lt:0 lc_le:0 lc_gt:0 lc_ge:0 lc_eqi:0 lc_eqs:0 lc_nes:0 lt_bool:0 lt_int:0 c_ord:0 c_min:0 c_max:0 c_len:20 c_range:0 ls_str:0 ls_lst:0 ls_rngD:10 c_type:0 c_items:0 me_nod:0 la_hd:0 ls_noi:0 l_nil:0 lt_none:0 me_str:10 me_hd:10 me_g:10 me_app:20 w_bt:50 w_bf:50 x_bt:50 x_bf:50 p_bt:50 p_bf:50 x_app:0 x_app0:0 bindA_Name:1:e_turn bindA_TupP:11:e_turn bindA_TupB:11:e_turn bindG_Name:11:g_turn bindG_Tup2:1:g_turn bindT_Name:1:x_turn bindT_Tup2:1:x_turn"
 let us:Array Lean.Term:=((t.splitOn " ").map fun s =>
  let p:=s.splitOn ":"
  let g:=((p.getD 1 "").toList.map fun x=>A.getD (x.toNat - 48) h).toArray
  let e:=Lean.Syntax.mkApp (Lean.mkIdent (p.getD 0 "").toName) g
  if s.startsWith ":" then g.getD 0 e else if p.length==2 then e else Lean.Syntax.mkApp (Lean.mkIdent (p.getD 2 "").toName) #[e,h]).toArray
 let r <- `(tactic| with_reducible first $[| refine $us:term]*)
 if w == "w" then `(tactic| repeat $r:tactic) else pure r
noncomputable def iF(r:Nat):Nat:=if r<16 then 65024+r else [173,847,6150,6155,6156,6157,8203,8204,8205,8288,65279].getD (r - 16) 0
noncomputable def OD(r:Nat):Nat:=[172,174,846,848,6149,6151,6154,6158,8202,8206,8287,8289,65023,65040,65278,65280].getD r 0
noncomputable def TP(r:Nat):Nat:=[0,0,0,1,2,4,7,8,9,10,11,12].getD r 0
noncomputable def IC(c r:Nat):Nat:=if r=0 then c else if r=1 then c - 32 else 119711+52*TP r+c
theorem Ok(r:Nat):iF r<1114112:=by
 unfold iF
 split
 ·exact uD (HR (by assumption) _) (by decide)
 ·exact XS (by decide) _ (by decide)
theorem ZI{n:Nat}{k:Int}{st:Ev.St}{Q:V->Ev.St->Prop}(q:Q (.str [iF (k%27).toNat]) st):W ((LA ZB (n+2)).call (.fn "_law_nothing") [.int k] []) st Q:=by
 refine KE (d:=uA (stm 68)) (by kernel_rfl!) (by kernel_rfl!) (pD [("n",.int k)] (by kernel_rfl!) (by kernel_rfl!) ?_)
 conv=>arg 1;arg 2;whnf
 walk_at "w"
 have h0:0<=k%27/\k%27<27:=⟨EE _ (by decide),wH _ (by decide)⟩
 by_cases h:k%27<16
 ·walk_at "w"
  refine jN ⟨GR (by decide) h0.1,uR (Int.add_lt_add_left h _) (by decide)⟩ ?_
  have e:iF (k%27).toNat=(65024+k%27).toNat:=by unfold iF;rw [if_pos ((FG h0.1).mpr h)];exact (Int.toNat_add (show (0:Int)<=65024 by decide) h0.1).symm
  rw [<-e]
  exact q
 ·walk_at "w"
  refine oT [173,847,6150,6155,6156,6157,8203,8204,8205,8288,65279] rfl (by kernel_rfl!) (OO (pF.mp h)) (by simp;exact Int.sub_lt_sub_right h0.2 16) ?_
  walk_at "w"
  have e:[173,847,6150,6155,6156,6157,8203,8204,8205,8288,65279].getD (k%27 - 16).toNat 0=iF (k%27).toNat:=by
   unfold iF
   rw [if_neg (fun q=>h ((FG h0.1).mp q)),show (k%27 - 16).toNat=(k%27).toNat - 16 from Vr h0.1 16]
  rw [e]
  exact jN ⟨vB _,kD.mpr (Ok _)⟩ q
noncomputable def lets:List Nat:=[97,98,99,100,102,105,107,108,109,110,111,112,113,122]
theorem K0{c:Nat}(h:c∈lets):gD (Txt.upper (S [c])).cps.toList=some (.str [c - 32]):=by
 simp only [lets,bB,aH,or_false] at h
 rcases h with h|h|h|h|h|h|h|h|h|h|h|h|h|h<;>subst h<;>kernel_rfl
theorem Ed(r:Nat):TP r<13:=by
 unfold TP
 exact XS (by decide) _ (by decide)
theorem ji{c:Nat}(h:c∈lets):c<128:=of_decide_eq_true (YA.mp (show lets.all (fun c=>decide (c<128))=true by decide) c h)
theorem VJ{n c:Nat}{k:Int}{st:Ev.St}{Q:V->Ev.St->Prop}(hc:c∈lets)(q:Q (.str [IC c (k%12).toNat]) st):W ((LA ZB (n+2)).call (.fn "_law_form") [.str [c],.int k] []) st Q:=by
 refine KE (d:=uA (stm 67)) (by kernel_rfl!) (by kernel_rfl!) (pD [("letter",.str [c]),("k",.int k)] (by kernel_rfl!) (by kernel_rfl!) ?_)
 conv=>arg 1;arg 2;whnf
 walk_at "w"
 have h0:0<=k%12/\k%12<12:=⟨EE _ (by decide),wH _ (by decide)⟩
 refine oT [0,0,0,1,2,4,7,8,9,10,11,12] rfl (by kernel_rfl!) h0.1 (by simp;exact h0.2) ?_
 walk_at "w"
 have h1:=Ed (k%12).toNat
 have h2:=ji hc
 generalize hT:[0,0,0,1,2,4,7,8,9,10,11,12].getD (k%12).toNat 0=T
 have hT':TP (k%12).toNat=T:=hT
 rw [hT'] at h1
 refine jN ⟨vB (119711+52*T+c),kD.mpr (iB (JI (EC (yH 52 (kC h1)) 119711) (kC h2)) (by decide))⟩ ?_
 refine⟨_,bindA_Name (by kernel_rfl!),?_⟩
 walk_at "w"
 refine SX (K0 hc) ?_
 walk_at "w"
 have eg:(119711+52*(T:Int)+(c:Int)).toNat=119711+52*T+c:=by show (119711+52*(T:Int)+c).toNat=_;exact rfl
 rw [eg]
 refine PL [[c],[c - 32],[119711+52*T+c]] rfl (by kernel_rfl!) ?_ ?_ ?_
 ·split<;>first|exact vB _|exact h0.1
 ·simp only [BD,uH];split<;>first|decide|exact dL (pF.mp (by assumption)) (by decide)
 ·have e:[[c],[c - 32],[119711+52*T+c]].getD (if (2:Int)<k%12 then 2 else k%12).toNat []=[IC c (k%12).toNat]:=by
   unfold IC
   rw [hT']
   rcases z9 h0.1 with h|h|h
   ·rw [h];rfl
   ·rw [h];rfl
   ·have:(if (2:Int)<k%12 then 2 else k%12).toNat=2:=by split<;>first|rfl|exact congrArg Int.toNat (DR (pF.mp (by assumption)) h)
    rw [this,if_neg (fun q=>absurd (jA (S5 h) (FB q)) (by decide)),if_neg (fun q=>absurd (jA (S5 h) (FB q)) (by decide))];rfl
  rw [e]
  exact q
theorem NX{P:sC}{n:Nat}{st:Ev.St}{Q:V->Ev.St->Prop}{vs:List V}{xs:List (List Nat)}(hv:vs=xs.map V.str)(hl:xs.flatten.length+xs.length<=cap)(hc:xs.flatten.all (fun c=>decide (c<0x110000))=true)(q:Q (.str xs.flatten) st) :
  W ((LA P (n+1)).call (.m (.str []) "join") [.lst vs] []) st Q:=by
 subst hv
 have e1:∀ ys:List (List Nat),DG (ys.map V.str)=some ys:=by
  intro ys
  induction ys with
  | nil=>rfl
  | cons y ys ih=>show (DG (ys.map V.str)).map (y :: ·)=_;rw [ih];rfl
 have e2:∀ ys:List (List Nat),(Str.join (S []) (ys.map S)).cps.toList=ys.flatten:=by
  intro ys
  induction ys with
  | nil=>rfl
  | cons y ys ih =>
   rcases ys with _|⟨z,zs⟩
   ·show y.toArray.toList=_;simp
   ·show ((S y++S []++Str.join (S []) ((z::zs).map S)):Str).cps.toList=_
    show (y.toArray ++ #[]++(Str.join (S []) ((z::zs).map S)).cps).toList=_
    rw [Array.toList_append,Array.toList_append,ih];simp
 have e3:(Txt.join (S []) (xs.map S)).cps.toList=xs.flatten:=by
  show (Builtin.Str.glued (S []) (xs.map S)).cps.toList=_
  rw [StrLaws.glued_eq_join,e2]
 have hj:JoinOk (S []) (xs.map S)=true:=by
  refine joinOk_of_weight ?_ (by decide)
  have:((xs.map S).map (·.length)).sum=xs.flatten.length:=by
   rw [List.length_flatten,jC]
   congr 1
  rw [this,AA]
  unfold cap at hl
  exact jA hl (LD _ _)
 show W (do
   let ys <- Ev.rd fun st=>(PG st (.lst (xs.map V.str))).bind DG
   Ev.gt (dK [] ys)) st Q
 refine W.bind (W.rd (a:=xs) (e1 xs) (W.gt (a:=.str xs.flatten) ?_ q))
 unfold dK
 rw [if_pos hj,e3]
 unfold gD
 rw [if_pos hc]
 unfold QH
 rw [if_pos (CR hl)]
noncomputable def OF(c:Nat):Bool:=BH.any fun n=>n==(c:Int)
theorem Cc{n c:Nat}{st:Ev.St}{Q:V->Ev.St->Prop}(q:Q (.bool (OF c)) st):W ((LA ZB (n+2)).call (.fn "in_table_b1") [.str [c]] []) st Q:=by
 refine KE (d:=uA (stm 57)) (by kernel_rfl!) (by kernel_rfl!) (pD [("code",.str [c])] (by kernel_rfl!) (by kernel_rfl!) ?_)
 conv=>arg 1;arg 2;whnf
 walk_at "w"
 refine sQ (c:=OF c) ?_ q
 show some ((BH.map fun n=>((V.int n,V.none):V×V)).any fun e=>e.1.isI c)=_
 rw [List.any_map]
 rfl
noncomputable def LH(c:Nat):List Nat:=match SI.find? (fun p=>p.1==(c:Int)) with
 | some p=>p.2
 | none=>(Txt.lower (S [c])).cps.toList
theorem Dc{n c:Nat}{st:Ev.St}{Q:V->Ev.St->Prop}(hl:gD (Txt.lower (S [c])).cps.toList=some (.str (Txt.lower (S [c])).cps.toList))(q:Q (.str (LH c)) st):W ((LA ZB (n+2)).call (.fn "map_table_b3") [.str [c]] []) st Q:=by
 refine KE (d:=uA (stm 59)) (by kernel_rfl!) (by kernel_rfl!) (pD [("code",.str [c])] (by kernel_rfl!) (by kernel_rfl!) ?_)
 conv=>arg 1;arg 2;whnf
 walk_at "w"
 have e:((SI.map fun p=>((V.int p.1,V.str p.2):V×V)).find? fun e=>e.1.isI c)=(SI.find? (fun p=>p.1==(c:Int))).map fun p=>(V.int p.1,V.str p.2):=by
  rw [List.find?_map]
  rfl
 refine W.of (a:=((SI.map fun p=>((V.int p.1,V.str p.2):V×V)).find? fun e=>e.1.isI c).elim .none (·.2)) rfl ?_
 rw [e]
 unfold LH at q
 cases hf:SI.find? (fun p=>p.1==(c:Int)) with
 | none =>
  rw [hf] at q
  show ∃ ρ',oE st _ _ V.none _=some ρ'/\_
  refine⟨_,bindA_Name (by kernel_rfl!),?_⟩
  walk_at "w"
  refine zT (c:=true) rfl ?_
  walk_at "w"
  exact mN hl q
 | some p =>
  rw [hf] at q
  show ∃ ρ',oE st _ _ (V.str p.2) _=some ρ'/\_
  refine⟨_,bindA_Name (by kernel_rfl!),?_⟩
  walk_at "w"
  refine zT (c:=false) rfl ?_
  walk_at "w"
  exact q
noncomputable def CF(c:Nat):List Nat:=if OF c=true then [] else LH c
noncomputable def LT(c:Nat):Bool:=(Txt.lower (S [c])).cps.toList.all (· < 0x110000)&&decide ((Txt.lower (S [c])).cps.toList.length<=cap)
noncomputable def good(c:Nat):Bool:=OF c||(LT c&&decide ((LH c).length<=2)&&(LH c).all (· < 0x110000))
theorem cj{c:Nat}(h:LT c=true):gD (Txt.lower (S [c])).cps.toList=some (.str (Txt.lower (S [c])).cps.toList):=by
 unfold LT at h
 obtain⟨h1,h2⟩:=(KA _ _).mp h
 unfold gD QH
 rw [if_pos h1,if_pos (of_decide_eq_true h2)]
theorem eV:∀ {l:List Nat},l.all good=true->(l.flatMap CF).length<=2*l.length/\(l.flatMap CF).all (fun c=>decide (c<0x110000))=true
 | [],_=>⟨sA _,rfl⟩
 | c::l,h=>by
  rw [ZO] at h
  obtain⟨h1,h2⟩:=(KA _ _).mp h
  obtain⟨i1,i2⟩:=eV h2
  have h3:(CF c).length<=2/\(CF c).all (fun c=>decide (c<0x110000))=true:=by
   unfold CF
   unfold good at h1
   cases hb:OF c
   ·rw [hb,aW] at h1
    obtain⟨h3,h4⟩:=(KA _ _).mp h1
    rw [if_neg (by simp)]
    exact⟨of_decide_eq_true ((KA _ _).mp h3).2,h4⟩
   ·rw [if_pos rfl];exact⟨iE _,rfl⟩
  rw [GE]
  refine⟨?_,?_⟩
  ·rw [QA,BD];exact jA (JI h3.1 i1) (FB (SE 2 (2*l.length)))
  ·rw [List.all_append,h3.2,i2];rfl
theorem ZY{n:Nat}{text:List Nat}{st:Ev.St}{Q:V->Ev.St->Prop}(hg:text.all good=true)(hn:text.length<=10000)(q:Q (.str (text.flatMap CF)) st):W ((LA ZB (n+3)).call (.fn "_law_seen") [.str text] []) st Q:=by
 refine KE (d:=uA (stm 74)) (by kernel_rfl!) (by kernel_rfl!) (pD [("text",.str text)] (by kernel_rfl!) (by kernel_rfl!) ?_)
 conv=>arg 1;arg 2;whnf
 walk_at "w"
 refine SD (fun c=>V.str [c]) (fun c=>.tup [.bool (OF c),.str [c]]) rfl text (fun c hc=>?_) ?_
 ·refine g_turn (bindG_Name rfl (by kernel_rfl!)) ?_
  walk_at "w"
  refine Cc ?_
  walk_at "w"
  exact⟨rfl,rfl⟩
 ·refine w_mkV (by unfold cap;simp;exact jA hn (by decide)) (by kernel_rfl!) ?_
  refine⟨_,bindA_Name (by kernel_rfl!),?_⟩
  walk_at "w"
  refine SD (fun c=>.tup [.bool (OF c),.str [c]]) (fun c=>V.str (CF c)) rfl text (fun c hc=>?_) ?_
  ·refine g_turn (bindG_Tup2 (by kernel_rfl!)) ?_
   have hgc:good c=true:=YA.mp hg c hc
   unfold good at hgc
   unfold CF
   walk_at "w"
   cases hb:OF c
   ·refine UL (c:=false) rfl ?_
    walk_at "w"
    refine UL (c:=true) rfl ?_
    walk_at "w"
    rw [hb,aW] at hgc
    refine Dc (cj ((KA _ _).mp ((KA _ _).mp hgc).1).1) ?_
    exact⟨by rw [if_neg (by simp)],rfl⟩
   ·refine UL (c:=true) rfl ?_
    walk_at "w"
    exact⟨by rw [if_pos rfl];rfl,rfl⟩
  ·refine w_mkV (by unfold cap;simp;exact jA hn (by decide)) (by kernel_rfl!) ?_
   walk_at "w"
   obtain⟨h1,h2⟩:=eV hg
   have e:(text.map CF).flatten=text.flatMap CF:=rfl
   refine NX (xs:=text.map CF) (by rw [jC];rfl) ?_ ?_ ?_
   ·rw [e,AA];exact jA (JI (jA h1 (yH 2 hn)) hn) (by decide)
   ·rw [e];exact h2
   ·rw [e];exact q
noncomputable def uI(c:Nat):Bool:=good c&&(decide (32<=c)&&(c != 127&&decide (c<0x110000)))
theorem jf:(UA 27).all (fun r=>OF (iF r)&&uI (iF r))=true:=by decide +kernel
theorem ff:(UA 16).all (fun r=>!OF (OD r)&&(LH (OD r)==[OD r])&&uI (OD r))=true:=by decide +kernel
theorem gf:lets.all (fun c=>(UA 12).all fun r=>!OF (IC c r)&&(LH (IC c r)==[c])&&uI (IC c r))=true:=by decide +kernel
theorem kf:[126,60,62,59,61,38].all (fun c=>!OF c&&(LH c==[c])&&uI c)=true:=by decide +kernel
theorem ZS:OF 64257=false/\LH 64257=[102,105]/\uI 64257=true:=by decide +kernel
def Sp(k:Nat)(w l:List Nat):Prop:=l.length<=k/\l.all uI=true/\l.flatMap CF=w
theorem Sp.app{k m:Nat}{w u l r:List Nat}(a:Sp k w l)(b:Sp m u r):Sp (k+m) (w++u) (l++r) :=
 ⟨by rw [QA];exact JI a.1 b.1,by rw [List.all_append,a.2.1,b.2.1];rfl,by rw [List.flatMap_append,a.2.2,b.2.2]⟩
theorem Sp.le{k m:Nat}{w l:List Nat}(a:Sp k w l)(h:k<=m):Sp m w l:=⟨jA a.1 h,a.2⟩
theorem oV{c:Nat}{w:List Nat}(h:uI c=true)(e:CF c=w):Sp 1 w [c]:=⟨sA _,by rw [ZO,h];rfl,by rw [GE,e];simp⟩
theorem BO(k:Int):Sp 1 [] [iF (k%27).toNat]:=by
 have h0:(k%27).toNat<27:=(FG (EE _ (by decide))).mpr (wH _ (by decide))
 obtain⟨h1,h2⟩:=(KA _ _).mp (YA.mp jf _ (gE.mpr h0))
 exact oV h2 (if_pos h1)
theorem nV{c d:Nat}(h:(!OF c&&(LH c==[d])&&uI c)=true):Sp 1 [d] [c]:=by
 obtain⟨h1,h3⟩:=(KA _ _).mp h
 obtain⟨h1,h2⟩:=(KA _ _).mp h1
 exact oV h3 ((if_neg (by rw [(bH _).mp h1];decide)).trans (eq_of_beq h2))
theorem DI{c:Nat}(hc:c∈lets)(k:Int):Sp 1 [c] [IC c (k%12).toNat]:=by
 have h0:(k%12).toNat<12:=(FG (EE _ (by decide))).mpr (wH _ (by decide))
 exact nV (YA.mp (YA.mp gf c hc) _ (gE.mpr h0))
theorem Pq(k:Int):Sp 1 [OD (k%16).toNat] [OD (k%16).toNat]:=by
 have h0:(k%16).toNat<16:=(FG (EE _ (by decide))).mpr (wH _ (by decide))
 exact nV (YA.mp ff _ (gE.mpr h0))
theorem SK{c:Nat}(hc:c∈[126,60,62,59,61,38]):Sp 1 [c] [c]:=nV (YA.mp kf c hc)
theorem KU{c:Nat}(h:uI c=true):c<0x110000:=of_decide_eq_true ((KA _ _).mp ((KA _ _).mp ((KA _ _).mp h).2).2).2
theorem Sp.good{k:Nat}{w l:List Nat}(a:Sp k w l):l.all good=true:=YA.mpr fun c hc=>((KA _ _).mp (YA.mp a.2.1 c hc)).1
theorem AP{P:sC}{n:Nat}{st:Ev.St}{Q:V->Ev.St->Prop}{z:List Nat}{vs:List V}{xs:List (List Nat)}{r:List Nat}(hv:vs=xs.map V.str)(hj:JoinOk (S z) (xs.map S)=true)(hr:(Txt.join (S z) (xs.map S)).cps.toList=r)(hc:r.all (fun c=>decide (c<0x110000))=true)(hl:r.length<=cap)(q:Q (.str r) st) :
  W ((LA P (n+1)).call (.m (.str z) "join") [.lst vs] []) st Q:=by
 subst hv
 have e1:∀ ys:List (List Nat),DG (ys.map V.str)=some ys:=by
  intro ys
  induction ys with
  | nil=>rfl
  | cons y ys ih=>show (DG (ys.map V.str)).map (y :: ·)=_;rw [ih];rfl
 show W (do
   let ys <- Ev.rd fun st=>(PG st (.lst (xs.map V.str))).bind DG
   Ev.gt (dK z ys)) st Q
 refine W.bind (W.rd (a:=xs) (e1 xs) (W.gt (a:=.str r) ?_ q))
 unfold dK
 rw [if_pos hj,hr]
 unfold gD
 rw [if_pos hc]
 unfold QH
 rw [if_pos hl]
noncomputable def hB:List (List Nat):=[[],[102],[105],[102,105]]
theorem LM{w:List Nat}(h:w∈hB):w=[]\/w=[102]\/w=[105]\/w=[102,105]:=by
 simpa [hB] using h
theorem UP{c:Nat}(hc:c∈lets)(k:Int):IC c (k%12).toNat<0x110000:=KU (by simpa using (DI hc k).2.1)
theorem Pk(k:Int):iF (k%27).toNat<0x110000:=KU (by simpa using (BO k).2.1)
theorem Sq(e:Int):Sp 4 [] ([iF (e%27).toNat]++[]):=(BO e).le (by decide)
theorem W4{c:Nat}(hc:c∈lets)(e k:Int):Sp 4 [c] ([iF (e%27).toNat]++[IC c (k%12).toNat]):=((BO e).app (DI hc k)).le (by decide)
theorem Tq{c d:Nat}(hc:c∈lets)(hd:d∈lets)(e f k:Int):Sp 4 [c,d] ([iF (e%27).toNat]++([IC c (k%12).toNat]++([iF (f%27).toNat]++[IC d (k%12).toNat]))):=(BO e).app ((DI hc k).app ((BO f).app (DI hd k)))
theorem Qq:Sp 4 [102,105] [64257]:=(oV ZS.2.2 ((if_neg (by rw [ZS.1];decide)).trans ZS.2.1)).le (by decide)
theorem bZ{n:Nat}{w:List Nat}{e:Int}{st:Ev.St}{Q:V->Ev.St->Prop}(hw:w∈hB)(q:∀ l,Sp 4 w l->Q (.str l) st):W ((LA ZB (n+3)).call (.fn "_law_spelled") [.str w,.int e] []) st Q:=by
 refine KE (d:=uA (stm 69)) (by kernel_rfl!) (by kernel_rfl!) (pD [("word",.str w),("e",.int e)] (by kernel_rfl!) (by kernel_rfl!) ?_)
 conv=>arg 1;arg 2;whnf
 have hf:(102:Nat)∈lets:=by decide
 have hi:(105:Nat)∈lets:=by decide
 rcases LM hw with rfl|rfl|rfl|rfl
 ·walk_at "w"
  refine ZI ?_
  walk_at "w"
  refine ZI ?_
  walk_at "w"
  refine VT ?_
  refine w_mkV (LC rfl) (by kernel_rfl!) ?_
  walk_at "w"
  refine AP (xs:=[]) (r:=[]) rfl (by kernel_rfl!) (by kernel_rfl!) rfl (by decide) ?_
  walk_at "w"
  refine eF (LC rfl) ?_
  exact q _ (Sq e)
 ·walk_at "w"
  refine ZI ?_
  walk_at "w"
  refine ZI ?_
  walk_at "w"
  refine SD (fun c=>V.str [c]) (fun c=>V.str [IC c (e / 5%12).toNat]) rfl [102] (fun c hc=>?_) ?_
  ·have hc:c∈lets:=(BA.mp hc)▸hf
   walk_at "w"
   refine VJ hc ?_
   exact⟨rfl,rfl⟩
  refine w_mkV (LC rfl) (by kernel_rfl!) ?_
  walk_at "w"
  have h1:=UP hf (e / 5)
  refine AP (xs:=[[IC 102 (e / 5%12).toNat]]) (r:=[IC 102 (e / 5%12).toNat]) rfl (by kernel_rfl!) (by kernel_rfl!) (by rw [ZO,decide_eq_true h1];rfl) (LC rfl) ?_
  walk_at "w"
  refine eF (LC rfl) ?_
  exact q _ (W4 hf e (e / 5))
 ·walk_at "w"
  refine ZI ?_
  walk_at "w"
  refine ZI ?_
  walk_at "w"
  refine SD (fun c=>V.str [c]) (fun c=>V.str [IC c (e / 5%12).toNat]) rfl [105] (fun c hc=>?_) ?_
  ·have hc:c∈lets:=(BA.mp hc)▸hi
   walk_at "w"
   refine VJ hc ?_
   exact⟨rfl,rfl⟩
  refine w_mkV (LC rfl) (by kernel_rfl!) ?_
  walk_at "w"
  have h1:=UP hi (e / 5)
  refine AP (xs:=[[IC 105 (e / 5%12).toNat]]) (r:=[IC 105 (e / 5%12).toNat]) rfl (by kernel_rfl!) (by kernel_rfl!) (by rw [ZO,decide_eq_true h1];rfl) (LC rfl) ?_
  walk_at "w"
  refine eF (LC rfl) ?_
  exact q _ (W4 hi e (e / 5))
 ·walk_at "w"
  by_cases h2:e%2=0
  ·have h3:(e%2 != 0)=false:=by rw [h2];rfl
   walk_at "w"
   refine ZI ?_
   walk_at "w"
   refine ZI ?_
   walk_at "w"
   refine SD (fun c=>V.str [c]) (fun c=>V.str [IC c (e / 5%12).toNat]) rfl [102,105] (fun c hc=>?_) ?_
   ·have hc:c∈lets:=by
     rcases bB.mp hc with h|h
     ·exact h▸hf
     ·exact (BA.mp h)▸hi
    walk_at "w"
    refine VJ hc ?_
    exact⟨rfl,rfl⟩
   refine w_mkV (LC rfl) (by kernel_rfl!) ?_
   walk_at "w"
   have h1:=UP hf (e / 5)
   have h4:=UP hi (e / 5)
   have h5:=Pk (e / 2)
   refine AP (xs:=[[IC 102 (e / 5%12).toNat],[IC 105 (e / 5%12).toNat]]) (r:=[IC 102 (e / 5%12).toNat]++([iF (e / 2%27).toNat]++[IC 105 (e / 5%12).toNat])) rfl (by kernel_rfl!) (by kernel_rfl!) (by simp only [QM,qF,ZO,decide_eq_true h1,decide_eq_true h4,decide_eq_true h5];rfl) (LC rfl) ?_
   walk_at "w"
   refine eF (LC rfl) ?_
   exact q _ (Tq hf hi e (e / 2) (e / 5))
  ·have h3:(e%2 != 0)=true:=bne_iff_ne.mpr h2
   walk_at "w"
   refine jN (by decide) ?_
   walk_at "w"
   exact q _ Qq
theorem yQ{a:List Nat}(h:∀ c∈a,c<128)(hl:a.length<=cap):gD (Txt.lower (S a)).cps.toList=some (.str (a.map lo1)):=by
 have e:(Txt.lower (S a)).cps.toList=a.map lo1:=by
  rw [lower_ascii (x:=S a) (by simpa [S] using h)]
  simp [S]
 rw [e]
 unfold gD QH
 rw [if_pos,if_pos (by simpa using hl)]
 rw [List.all_map,YA]
 intro c hc
 have:=h c hc
 show decide (lo1 c<0x110000)=true
 unfold lo1
 split<;>first|exact decide_eq_true (uD this (by decide))|exact decide_eq_true (uD (KO this _) (by decide))
def clean(z:List Nat):Prop:=∀ c∈z,32<=c/\c≠127
theorem QX{P:sC}{n:Nat}{x:Str}{z:List Nat}{st:Ev.St}{Q:V->Ev.St->Prop}(hx:x=("_name_disallowed_re":Str)\/x=("_value_disallowed_re":Str))(hz:clean z)(q:Q .none st):W ((LA P (n+1)).call (.m (.g x) "search") [.str z] []) st Q:=by
 show W (if (x=("_name_disallowed_re":Str)\/x=("_value_disallowed_re":Str))/\z.any (fun c=>c<32&&(x=("_name_disallowed_re":Str)||c != 9)||c==127)=false then pure .none else yA) st Q
 rw [if_pos]
 ·exact W.pure q
 ·refine⟨hx,?_⟩
  rw [WO]
  intro c hc
  have:=hz c hc
  simp
  exact⟨fun q=>absurd this.1 (Nat.not_le.mpr q),this.2⟩
theorem YI{n i:Nat}{z:List Nat}{b:Bool}{st:Ev.St}{Q:V->Ev.St->Prop}(hz:clean z)(q:Q (.str z) st):W ((LA ZB (n+2)).call (.m (.hd i) "_convert_string_type") [.str z] [("name",.bool b)]) st Q:=by
 refine BL (d:=uA (meth 65 1)) (by kernel_rfl!) (pD [("self",.hd i),("value",.str z),("name",.bool b)] (by kernel_rfl!) (by kernel_rfl!) ?_)
 conv=>arg 1;arg 2;whnf
 walk_at "w"
 refine UL (c:=true) rfl ?_
 walk_at "w"
 cases b
 ·walk_at "w"
  refine QX (.inr rfl) hz ?_
  walk_at "w"
  exact q
 ·walk_at "w"
  refine QX (.inl rfl) hz ?_
  walk_at "w"
  exact q
noncomputable def UB(h:List Nat×List Nat):V:=.tup [.str h.1,.str h.2]
theorem M9{P:sC}{n r:Nat}{z v:List Nat}{st:Ev.St}{Q:V->Ev.St->Prop}(h:st[r]? = some (.list [.str v]))(hz:z.length<=16)(hv:v.length<=cap)(hc:v.all (fun c=>decide (c<0x110000))=true)(q:Q (.str v) st) :
  W ((LA P (n+1)).call (.m (.str z) "join") [.ref r] []) st Q:=by
 have hj:JoinOk (S z) [S v]=true:=joinOk_of_weight (by show v.toArray.size+0+1<=1048576;unfold cap at hv;simp;exact jA hv (LD _ _)) (by simpa [S,Str.length] using hz)
 show W (do
   let ys <- Ev.rd fun st=>(PG st (.ref r)).bind DG
   Ev.gt (dK z ys)) st Q
 refine W.bind (W.rd (a:=[v]) ?_ (W.gt (a:=.str v) ?_ q))
 ·show (match st[r]? with|some (O.list vs)=>some vs|_=>none).bind DG=_
  rw [h];rfl
 ·unfold dK
  rw [if_pos (show JoinOk (S z) ([v].map S)=true from hj)]
  show gD (v.toArray.toList)=_
  rw [ZV]
  unfold gD QH
  rw [if_pos hc,if_pos hv]
theorem Ac{n i:Nat}{nm v:List Nat}{xs:List V}{st:Ev.St}{Q:V->Ev.St->Prop}(hi:st[i]? = some (.list xs))(hx:xs.length+1<=cap)(hn:clean nm)(hv:clean v)(hvl:v.length<=cap)(hvc:v.all (fun c=>decide (c<0x110000))=true)
  (q:Q .none ((st++[O.list [.str v]]).set i (.list (xs++[UB (nm,v)])))):W ((LA ZB (n+3)).call (.m (.hd i) "add_header") [.str nm,.str v] []) st Q:=by
 refine BL (d:=uA (meth 65 16)) (by kernel_rfl!) (pD [("self",.hd i),("_name",.str nm),("_value",.str v),("_params",.nod)] (by kernel_rfl!) (by kernel_rfl!) ?_)
 conv=>arg 1;arg 2;whnf
 walk_at "w"
 refine zT (c:=false) rfl ?_
 walk_at "w"
 refine YI hv ?_
 walk_at "w"
 have hil:i<st.length:=by
  rcases FR i st.length with h'|h'
  ·exact h'
  ·rw [oL h'] at hi;cases hi
 refine me_app (xs:=[]) (by rw [GG (sA _)];simp) ?_
 walk_at "w"
 refine MG (xs:=[]) (by rw [GG (sA _)];simp) (by decide) ?_
 have e:(st++[O.list []]).set st.length (O.list ([]++[V.str v]))=st++[O.list [V.str v]]:=by
  rw [MI _ _ (sA _)];simp
 rw [e]
 have hi2:(st++[O.list [V.str v]])[i]? = some (.list xs):=by rw [OC hil];exact hi
 have hp2:(st++[O.list [V.str v]])[st.length]? = some (.list [.str v]):=by rw [GG (sA _)];simp
 walk_at "w"
 refine YI hn ?_
 walk_at "w"
 refine M9 hp2 (by decide +kernel) hvl hvc ?_
 walk_at "w"
 refine MG hi2 hx ?_
 walk_at "w"
 exact q
theorem bV{st:Ev.St}{i:Nat}{l:List (List Nat×List Nat)}(h:st[i]? = some (.list (l.map UB))):Ev.same [(i,.list (l.map UB))] st=some ((),st):=by
 have e:∀ l:List (List Nat×List Nat),OH (l.map UB) (l.map UB)=true:=by
  intro l
  induction l with
  | nil=>rfl
  | cons a l ih=>show ((a.1==a.1&&(a.2==a.2&&true))&&OH (l.map UB) (l.map UB))=true;rw [ih];simp
 show ((st[i]?).map (·,st)).bind (fun p=>(if wJ (.list (l.map UB)) p.1 then Ev.same [] else yA) p.2)=_
 rw [h]
 show (if wJ (.list (l.map UB)) (.list (l.map UB))=true then Ev.same [] else yA) st=_
 rw [if_pos (show wJ (.list (l.map UB)) (.list (l.map UB))=true from e l)]
 rfl
def nD(a:List Nat):Prop:=(∀ c∈a,32<=c/\c<127)/\a.length<=1000
theorem nD.lt{a:List Nat}(h:nD a):∀ c∈a,c<128:=fun c hc=>by have:=h.1 c hc;exact XG this.2
theorem nD.clean{a:List Nat}(h:nD a):clean a:=fun c hc=>⟨(h.1 c hc).1,iD (h.1 c hc).2⟩
theorem nD.low{a:List Nat}(h:nD a):nD (a.map lo1):=by
 refine⟨fun c hc=>?_,by rw [AA];exact h.2⟩
 obtain⟨d,hd,rfl⟩:=rC.mp hc
 have:=h.1 d hd
 unfold lo1
 split<;>first|exact this|(rename_i h;exact⟨LD _ _,iB (eG h.2 32) (by decide)⟩)
theorem nD.cap{a:List Nat}(h:nD a):a.length<=cap:=by have:=h.2;unfold Ev.cap;exact jA this (LD _ _)
theorem Fc{n i:Nat}{nm:List Nat}{hs:List (List Nat×List Nat)}{st:Ev.St}{Q:V->Ev.St->Prop}(hi:st[i]? = some (.list (hs.map UB)))(hn:nD nm)(ha:∀ h∈hs,nD h.1)(hl:hs.length<=1000)
  (q:Q (.lst ((hs.filter fun h=>decide (h.1.map lo1=nm.map lo1)).map fun h=>.str h.2)) st):W ((LA ZB (n+3)).call (.m (.hd i) "get_all") [.str nm] []) st Q:=by
 refine BL (d:=uA (meth 65 7)) (by kernel_rfl!) (pD [("self",.hd i),("name",.str nm)] (by kernel_rfl!) (by kernel_rfl!) ?_)
 conv=>arg 1;arg 2;whnf
 walk_at "w"
 refine mN (yQ hn.lt hn.cap) ?_
 walk_at "w"
 refine YI hn.low.clean ?_
 walk_at "w"
 refine pI hi ?_
 refine lH UB (fun h=>decide (h.1.map lo1=nm.map lo1)) (fun h=>.str h.2) (bV hi) hs (fun h hh=>?_) ?_
 ·obtain⟨a,b⟩:=h
  have haa:=ha _ hh
  show W (sH _ _ _ _ _ _ (.tup [.str a,.str b])) _ _
  walk_at "w"
  refine PL [a,b] rfl (by kernel_rfl!) (by decide) (by simp) ?_
  walk_at "w"
  refine mN (yQ haa.lt haa.cap) ?_
  walk_at "w"
  by_cases hc:a.map lo1=nm.map lo1
  ·show bif decide (a.map lo1=nm.map lo1) then _ else _
   rw [decide_eq_true hc]
   walk_at "w"
   refine PL [a,b] rfl (by kernel_rfl!) (by decide) (by simp) ?_
   exact⟨rfl,rfl⟩
  ·show bif decide (a.map lo1=nm.map lo1) then _ else _
   rw [decide_eq_false hc]
   walk_at "w"
   exact⟨rfl,rfl⟩
 ·have:=IG (fun h=>decide (h.1.map lo1=nm.map lo1)) hs
  refine w_mkV (by unfold cap;rw [AA];exact jA this (jA hl (by decide))) (by kernel_rfl!) ?_
  exact q
noncomputable def RD(hs:List (List Nat×List Nat))(nm:List Nat)(dv:V):V:=match hs.find? fun h=>decide (h.1.map lo1=nm) with|some h=>.str h.2|none=>dv
inductive rW(hs0:List (List Nat×List Nat))(nm:List Nat)(dv:V)(st:Ev.St)(sc:List (Str×GA)):List V->Fr->Ev.St->Prop
 | mk {xs:List V} (vars:List (Str×V)) (hs:List (List Nat×List Nat)) (hx:xs=hs.map UB) (v1:vars.lookup ("name":Str)=some (.str nm)) (v2:vars.lookup ("default":Str)=some dv) (ha:∀ h∈hs,nD h.1) (hg:RD hs nm dv=RD hs0 nm dv):rW hs0 nm dv st sc xs ⟨sc,vars,fun _=>none⟩ st
theorem YY{n i:Nat}{nm:List Nat}{vs:List V}{dv:V}(hb:(lG (uA (meth 65 8)) (.hd i::vs) []).map (EG (uA (meth 65 8)))=some [(("self":Str),V.hd i),("name",.str nm),("default",dv)]){hs:List (List Nat×List Nat)}{st:Ev.St}{Q:V->Ev.St->Prop}(hi:st[i]? = some (.list (hs.map UB)))(hn:nD nm)(ha:∀ h∈hs,nD h.1)(hl:hs.length<=1000)
  (q:Q (RD hs (nm.map lo1) dv) st):W ((LA ZB (n+3)).call (.m (.hd i) "get") vs []) st Q:=by
 refine BL (d:=uA (meth 65 8)) (by kernel_rfl!) (pD [("self",.hd i),("name",.str nm),("default",dv)] (by kernel_rfl!) hb ?_)
 conv=>arg 1;arg 2;whnf
 walk_at "w"
 refine mN (yQ hn.lt hn.cap) ?_
 walk_at "w"
 refine YI hn.low.clean ?_
 walk_at "w"
 refine pI hi ?_
 refine G0 (rW hs (nm.map lo1) dv st (uA (meth 65 8)).sc.names) ?_ ?_ _ ?_
 ·rintro _ _ ⟨vars,hs',hx,v1,v2,ha',hg⟩
  have:hs'=[]:=by simpa using hx.symm
  subst this
  show W (XA _ _ _) st _
  walk_at "w"
  rw [<-hg] at q
  exact q
 ·rintro x xs _ _ ⟨vars,hs',hx,v1,v2,ha',hg⟩
  rcases hs' with _|⟨h,hs'⟩
  ·cases hx
  ·rw [sB] at hx
   injection hx with hx1 hx2
   subst hx1
   obtain⟨a,b⟩:=h
   have haa:=ha' (a,b) (by simp)
   show W (TH _ _ _ (.tup [.str a,.str b]) _) _ _
   walk_at "w"
   refine mN (yQ haa.lt haa.cap) ?_
   walk_at "w"
   by_cases hc:a.map lo1=nm.map lo1
   ·walk_at "w"
    have e:RD ((a,b)::hs') (nm.map lo1) dv = .str b:=by
     unfold RD
     rw [List.find?_cons_of_pos (by simpa using hc)]
    rw [e] at hg
    rw [<-hg] at q
    exact q
   ·walk_at "w"
    refine⟨bV hi,_,hs',hx2,by walk_at "l",by walk_at "l",fun h hh=>ha' h (by simp [hh]),?_⟩
    rw [<-hg]
    unfold RD
    rw [bW (by simpa using hc)]
 ·exact⟨_,hs,rfl,by walk_at "l",by walk_at "l",ha,rfl⟩
theorem aZ{n i:Nat}{nm v:List Nat}{hs:List (List Nat×List Nat)}{st:Ev.St}{Q:V->Ev.St->Prop}(hi:st[i]? = some (.list (hs.map UB)))(hn:nD nm)(hv:clean v)(ha:∀ h∈hs,nD h.1)(hl:hs.length<=1000)
  (q1:∀ w,RD hs (nm.map lo1) .none = .str w->Q (.str w) st) (q2:RD hs (nm.map lo1) .none = .none->Q (.str v) (st.set i (.list ((hs++[(nm,v)]).map UB)))):W ((LA ZB (n+4)).call (.m (.hd i) "setdefault") [.str nm,.str v] []) st Q:=by
 refine BL (d:=uA (meth 65 15)) (by kernel_rfl!) (pD [("self",.hd i),("name",.str nm),("value",.str v)] (by kernel_rfl!) (by kernel_rfl!) ?_)
 conv=>arg 1;arg 2;whnf
 walk_at "w"
 refine YY (dv:=.none) (by kernel_rfl!) hi hn ha hl ?_
 have hg:RD hs (nm.map lo1) .none = .none\/∃ w,RD hs (nm.map lo1) .none = .str w:=by
  unfold RD
  generalize (hs.find? fun h=>decide (h.1.map lo1=nm.map lo1))=ozz
  rcases ozz with _|h
  ·exact .inl rfl
  ·exact .inr ⟨_,rfl⟩
 rcases hg with hg|⟨w,hg⟩
 ·rw [hg]
  walk_at "w"
  refine UL (c:=true) rfl ?_
  walk_at "w"
  refine YI hn.clean ?_
  walk_at "w"
  refine YI hv ?_
  walk_at "w"
  refine MG hi (by unfold cap;rw [AA];exact iB hl (by decide)) ?_
  walk_at "w"
  have:=q2 hg
  rw [aB] at this
  exact this
 ·rw [hg]
  walk_at "w"
  refine UL (c:=false) rfl ?_
  walk_at "w"
  exact q1 w hg
theorem Gc{n i:Nat}{hs:List (List Nat×List Nat)}{st:Ev.St}{Q:V->Ev.St->Prop}(hi:st[i]? = some (.list (hs.map UB)))(hl:hs.length<=1000)(q:Q (.lst (hs.map fun h=>.str h.1)) st):W ((LA ZB (n+2)).call (.m (.hd i) "keys") [] []) st Q:=by
 refine BL (d:=uA (meth 65 9)) (by kernel_rfl!) (pD [("self",.hd i)] (by kernel_rfl!) (by kernel_rfl!) ?_)
 conv=>arg 1;arg 2;whnf
 walk_at "w"
 refine pI hi ?_
 refine SD UB (fun h=>.str h.1) (bV hi) hs (fun h hh=>?_) ?_
 ·obtain⟨a,b⟩:=h
  show W (sH _ _ _ _ _ _ (.tup [.str a,.str b])) _ _
  walk_at "w"
  exact⟨rfl,rfl⟩
 ·refine w_mkV (by unfold cap;rw [AA];exact jA hl (by decide)) (by kernel_rfl!) ?_
  exact q
abbrev lB:=Nat×List Nat×Nat
noncomputable def TD(r:lB):V:=.tup [.int r.1,.str r.2.1,.int r.2.2]
abbrev Ld:=lB×List Nat×List Nat
structure XM(d:Ld):Prop where
 pl:d.1.1<4
 wd:d.1.2.1∈hB
 tg:d.1.2.2<4
 nm:d.2.1.map lo1=[97+d.1.1]
 asc:nD d.2.1
 sp:Sp 5 (d.1.2.1++[97+d.1.2.2]) d.2.2
theorem Sp.clean{k:Nat}{w l:List Nat}(a:Sp k w l):clean l:=fun c hc=>by
 obtain⟨_,h⟩:=(KA _ _).mp (YA.mp a.2.1 c hc)
 obtain⟨h1,h2⟩:=(KA _ _).mp h
 exact⟨of_decide_eq_true h1,bne_iff_ne.mp ((KA _ _).mp h2).1⟩
theorem Sp.cps{k:Nat}{w l:List Nat}(a:Sp k w l):l.all (fun c=>decide (c<0x110000))=true:=YA.mpr fun c hc=>decide_eq_true (KU (YA.mp a.2.1 c hc))
theorem Sp.cap{k:Nat}{w l:List Nat}(a:Sp k w l)(h:k<=60000):l.length<=cap:=jA a.1 (jA h (by decide))
noncomputable def AE(j:Nat)(ds:List Ld):List (List Nat):=(ds.filter fun d=>d.1.1==j).map (·.2.2)
structure YM(ds:List Ld)(s:Ev.St):Prop where
 hd:s[1]? = some (.list ((ds.map (·.2)).map UB))
 rd:s[2]? = some (.list ((ds.map (·.1)).map TD))
 vl:∀ j,j<4->s[3+j]? = some (.list ((AE j ds).map V.str))
 len:7<=s.length
theorem c6(j:Nat)(h:j<4):([V.ref 3,.ref 4,.ref 5,.ref 6]:List V)[j]? = some (.ref (3+j)):=by
 rcases JH j h with h|h|h|h<;>subst h<;>rfl
theorem aN:∀ j,j<4->(cB "abcd").getD j 0=97+j:=by decide +kernel
theorem D6:∀ j,j<8->(cB "abcdABCD").getD j 0=[97,98,99,100,65,66,67,68].getD j 0:=by decide +kernel
theorem vL:(cB "abcd").length=4/\(cB "abcdABCD").length=8:=by decide +kernel
theorem J0{j:Nat}(h:j<4):97+j∈lets:=by
 rcases JH j h with h|h|h|h<;>rw [h]<;>decide
theorem Z1(e:Int):(e%4+e / 128%2*4).toNat=(e%4).toNat+(e / 128%2).toNat*4:=by
 obtain⟨a,ha⟩:=gL (EE e (show (4:Int)≠0 by decide))
 obtain⟨b,hb⟩:=gL (EE (e / 128) (show (2:Int)≠0 by decide))
 rw [ha,hb];rfl
theorem Y1(e:Int):(e%4+e / 128%2*4).toNat<8:=by
 rw [Z1]
 exact cC (KO (gI e 4 rfl (by decide)) _) (EC (Nat.mul_le_mul_right 4 (dG (gI (e / 128) 2 rfl (by decide)))) 4)
theorem gK(e:Int):0<=e%4+e / 128%2*4:=GR (EE _ (by decide)) (Int.mul_nonneg (EE _ (by decide)) (by decide))
noncomputable def SN(e:Int):List Nat:=[[97,98,99,100,65,66,67,68].getD (e%4+e / 128%2*4).toNat 0]
theorem Ek:∀ a,a<4->∀ b,b<2->([[97,98,99,100,65,66,67,68].getD (a+b*4) 0].map lo1=[97+a]/\32<=[97,98,99,100,65,66,67,68].getD (a+b*4) 0/\[97,98,99,100,65,66,67,68].getD (a+b*4) 0<127):=by decide +kernel
theorem vk(e:Int):(SN e).map lo1=[97+(e%4).toNat]/\nD (SN e):=by
 unfold SN
 rw [Z1]
 obtain⟨h1,h2⟩:=Ek _ (gI e 4 rfl (by decide)) _ (gI (e / 128) 2 rfl (by decide))
 exact⟨h1,fun c hc=>by rw [BA.mp hc];exact h2,by simp⟩
noncomputable def mR(e:Int):List Nat:=[[],[102],[105],[],[102],[105],[102,105],[102]].getD (e / 16%8).toNat []
theorem ct(e:Int):mR e∈hB:=by
 unfold mR
 have h:(e / 16%8).toNat<8:=gI _ _ rfl (by decide)
 generalize (e / 16%8).toNat=j at h
 rcases lj j h with h|h|h|h|h|h|h|h<;>subst h<;>decide
theorem YM.step{ds:List Ld}{s:Ev.St}{d:Ld}(h:YM ds s)(hf:d.1.1<4)(o:O) :
  YM (ds++[d]) ((((s.set (3+d.1.1) (.list ((AE d.1.1 ds).map V.str++[.str d.2.2])))++[o]).set 1 (.list ((ds.map (·.2)).map UB++[UB d.2]))).set 2 (.list ((ds.map (·.1)).map TD++[TD d.1]))):=by
 have hl:=h.len
 constructor
 ·rw [jE (by decide),HJ (by simp;exact iB (LD _ _) hl)]
  simp
 ·rw [HJ (by simp;exact XG (cC (by decide) hl))]
  simp
 ·intro j hj
  rw [jE (iD (cC (by decide) (BB 3 j))),jE (iD (cC (by decide) (BB 3 j))),OC (by simp;exact cC (HR hj 3) hl)]
  by_cases hjf:d.1.1=j
  ·subst hjf
   rw [HJ (cC (HR hf 3) hl)]
   unfold AE
   rw [List.filter_append,aB,aB]
   simp
  ·rw [jE (fun q=>hjf (EV q)),h.vl j hj]
   unfold AE
   rw [List.filter_append,IR (by simpa using hjf),List.filter_nil,bC]
 ·simp;exact kC hl
inductive yW(st:Ev.St)(sc:List (Str×GA)):List V->Fr->Ev.St->Prop
 | mk {xs:List V}{s:Ev.St} (vars:List (Str×V)) (rest:List (Int×Nat)) (ns:List Int) (hx:xs=rest.map (fun p=>.tup [.int p.2,.int p.1])) (hs:s=O.list (ns.map V.int)::st) (hlen:ns.length=8) (hpos:∀ v∈ns,0<=v)
  (v1:vars.lookup ("numbers":Str)=some (.ref 0)) (v2:vars.lookup ("table":Str)=some (.hd 1)) (v3:vars.lookup ("roads":Str)=some (.ref 2)) (v4:vars.lookup ("values":Str)=some (.lst [.ref 3,.ref 4,.ref 5,.ref 6])):yW st sc xs ⟨sc,vars,fun _=>none⟩ s
inductive xW(n0:Int)(sc:List (Str×GA)):List V->Fr->Ev.St->Prop
 | mk {xs:List V}{s:Ev.St} (vars:List (Str×V)) (ds:List Ld) (rest:List Int) (l:List V) (hx:xs=rest.map V.int) (hd:∀ d∈ds,XM d) (hN:YM ds s) (hs0:s[0]? = some (.list (.int n0::l))) (hl6:l.length=7) (hd6:ds.length+rest.length=7)
  (v1:vars.lookup ("numbers":Str)=some (.ref 0)) (v2:vars.lookup ("table":Str)=some (.hd 1)) (v3:vars.lookup ("roads":Str)=some (.ref 2)) (v4:vars.lookup ("values":Str)=some (.lst [.ref 3,.ref 4,.ref 5,.ref 6])):xW n0 sc xs ⟨sc,vars,fun _=>none⟩ s
theorem kt(l:List Int)(k:Nat):((l.map V.int).zipIdx k).map (fun x=>V.tup [.int x.2,x.1])=(l.zipIdx k).map fun p=>V.tup [.int p.2,.int p.1]:=by
 induction l generalizing k with
 | nil=>rfl
 | cons a l ih=>simp only [sB,List.zipIdx_cons,ih]
theorem Ic{n:Nat}{script:List Int}{Q:V->Ev.St->Prop}(hsl:script.length<=63)
  (q:∀ n0 ds s,0<=n0->(∀ d∈ds,XM d)->ds.length=7->YM ds s->Q (.tup [.int n0,.hd 1,.ref 2,.lst [.ref 3,.ref 4,.ref 5,.ref 6]]) s) :
  W ((LA ZB (n+5)).call (.fn "_law_net") [.lst (script.map V.int)] []) [] Q:=by
 refine KE (d:=uA (stm 70)) (by kernel_rfl!) (by kernel_rfl!) (pD [("script",.lst (script.map V.int))] (by kernel_rfl!) (by kernel_rfl!) ?_)
 conv=>arg 1;arg 2;whnf
 walk_at "w"
 refine W.of (a:=.hd 1) (s:=[O.list [.int 1250,.int 20,.int 4257,.int 258,.int 583,.int 831,.int 1893,.int 2898],O.list []]) (by kernel_rfl!) ?_
 walk_at "w"
 refine⟨_,pS (by kernel_rfl!) (AL (oD (by kernel_rfl!) (oD (by kernel_rfl!) (oD (by kernel_rfl!) (oD (by kernel_rfl!) zL))))),?_⟩
 refine x_For (by kernel_rfl!) ?_
 refine xf (eJ (v:=.ty "enumerate") (by kernel_rfl!) (by kernel_rfl!)) (by kernel_rfl!) (by kernel_rfl!) ?_
 walk_at "w"
 have hcap:(script.map V.int).length<=cap:=by unfold cap;simp;exact jA hsl (LD _ _)
 refine XQ (a:=(script.take (min (60:Int).toNat script.length)).map V.int) ?_ ?_
 ·unfold gC
  rw [if_neg (CE.mpr hcap)]
  show (some (0:Int).toNat).bind (fun x=>(some (min (60:Int).toNat (script.map V.int).length)).bind fun y=>some (((script.map V.int).take y).drop x))=_
  show some (((script.map V.int).take _).drop 0)=_
  rw [AA,cL,List.map_take]
 have hl60':(script.take (min (60:Int).toNat script.length)).length<=63:=jA (List.length_take_le _ _) (jA (GJ _ _) hsl)
 generalize script.take (min (60:Int).toNat script.length)=l60 at *
 have hl60:(l60.map V.int).length<=cap:=by unfold cap;rw [AA];exact jA hl60' (LD _ _)
 refine w_mkL (w_mkV hl60 (by kernel_rfl!) ?_)
 walk_at "w"
 refine⟨_,rfl,?_⟩
 rw [kt]
 refine WF (yW [O.list [],O.list [],O.list [],O.list [],O.list [],O.list []] (uA (stm 70)).sc.names) ?_ ?_ _ ?_
 ·rintro _ s ⟨vars,rest,ns,hx,rfl,hlen,hpos,v1,v2,v3,v4⟩
  show W (XA _ _ _) _ _
  match ns,hlen with
  | n0::es,hlen =>
  have hlen':es.length=7:=by simpa using hlen
  walk_at "w"
  refine lV (a:=es.map V.int) rfl ?_ ?_
  ·unfold gC
   rw [if_neg (by unfold cap;simp;exact jA (FB hlen') (by decide))]
   show (some (min (1:Int).toNat ((n0::es).map V.int).length)).bind (fun x=>(some ((((n0::es).map V.int).length:Int)).toNat).bind fun y=>some ((((n0::es).map V.int).take y).drop x))=_
   have e1:min (1:Int).toNat ((n0::es).map V.int).length=1:=by simp
   rw [e1]
   show some ((((n0::es).map V.int).take ((((n0::es).map V.int).length:Int)).toNat).drop 1)=_
   rw [fG,List.take_length];rfl
  refine w_mkL (w_mkV (by unfold cap;simp;exact jA (FB hlen') (by decide)) (by kernel_rfl!) ?_)
  walk_at "w"
  refine WF (xW n0 (uA (stm 70)).sc.names) ?_ ?_ _ ?_
  ·rintro _ s ⟨vars,ds,rest,l,hx,hd,hN,hs0,hl6,hd6,v1,v2,v3,v4⟩
   have:rest=[]:=by simpa using hx.symm
   subst this
   show W (XA _ _ _) _ _
   walk_at "w"
   refine IN hs0 (by unfold cap;simp;exact jA (FB hl6) (by decide)) (by decide) (by simp) (v:=.int n0) rfl ?_
   walk_at "w"
   exact q n0 ds s (hpos n0 (by simp)) hd hd6 hN
  ·rintro x xs _ s ⟨vars,ds,rest,l,hx,hd,hN,hs0,hl6,hd6,v1,v2,v3,v4⟩
   rcases rest with _|⟨e,rest⟩
   ·cases hx
   ·rw [sB] at hx
    injection hx with hx1 hx2
    subst hx1
    have hfr:(e%4).toNat<4:=gI _ _ rfl (by decide)
    have hto:(e / 4%4).toNat<4:=gI _ _ rfl (by decide)
    have hsl:=hN.len
    have hdl:ds.length<=7:=jA (BB _ _) (FB hd6)
    walk_at "w"
    refine PL [[],[102],[105],[],[102],[105],[102,105],[102]] (by kernel_rfl!) (by kernel_rfl!) (EE _ (by decide)) (by simp;exact wH _ (by decide)) ?_
    show ∃ ρ',oE s _ _ (V.str (mR e)) _=some ρ'/\_
    have hw:=ct e
    generalize hwe:mR e=w at hw
    walk_at "w"
    have hfi:(e%4).toNat=(e%4).toNat:=rfl
    refine kQ (v:=.ref (3+(e%4).toNat)) (by decide) (EE _ (by decide)) (by simp;exact wH _ (by decide)) (c6 _ hfr) ?_
    have hv3:=hN.vl _ hfr
    walk_at "w"
    refine bZ hw fun l1 hl1=>?_
    walk_at "w"
    refine iJ (by kernel_rfl!) (EE _ (by decide)) (by rw [vL.1];exact wH _ (by decide)) ?_
    rw [show (cB "abcd").getD (e / 4%4).toNat 0=97+(e / 4%4).toNat from aN _ hto]
    walk_at "w"
    refine VJ (J0 hto) ?_
    have hval:=hl1.app (DI (J0 hto) (e / 768))
    refine eF (hval.cap (by decide)) ?_
    generalize l1++[IC (97+(e / 4%4).toNat) (e / 768%12).toNat]=v at hval ⊢
    walk_at "w"
    have hvl:(AE (e%4).toNat ds).length<=7:=by unfold AE;rw [AA];exact jA (IG _ _) hdl
    refine MG hv3 (by unfold cap;rw [AA];exact iB hvl (by decide)) ?_
    walk_at "w"
    refine iJ (by kernel_rfl!) (gK e) (by rw [vL.2];exact (FG (gK e)).mp (Y1 e)) ?_
    rw [show [(cB "abcdABCD").getD (e%4+e / 128%2*4).toNat 0]=SN e by rw [D6 _ (Y1 e)];rfl]
    obtain⟨nk1,nk2⟩:=vk e
    generalize SN e=nm at nk1 nk2 ⊢
    walk_at "w"
    refine kQ (v:=.ref (3+(e%4).toNat)) (by decide) (EE _ (by decide)) (by simp;exact wH _ (by decide)) (c6 _ hfr) ?_
    walk_at "w"
    refine HN (by rw [HJ (cC (HR hfr 3) hsl)]) (by unfold cap;rw [AA];exact iB hvl (by decide)) ?_
    walk_at "w"
    refine Ac (by rw [jE (YG (cC (by decide) (BB 3 _)))];exact hN.hd) (by unfold cap;simp;exact jA hdl (LD _ _)) nk2.clean hval.clean (hval.cap (by decide)) hval.cps ?_
    walk_at "w"
    have hr2:(((s.set (3+(e%4).toNat) (.list ((AE (e%4).toNat ds).map V.str++[.str v])))++[O.list [V.str v]]).set 1 (.list ((ds.map (·.2)).map UB++[UB (nm,v)])))[2]? = some (.list ((ds.map (·.1)).map TD)):=by
     rw [jE (by decide),OC (by simp;exact iB (LD _ _) hsl),jE (YG (cC (by decide) (BB 3 _)))]
     exact hN.rd
    refine me_app hr2 ?_
    walk_at "w"
    have e1:(V.tup [.int (e%4),.str w,.int (e / 4%4)])=TD ((e%4).toNat,w,(e / 4%4).toNat):=by
     unfold TD
     rw [Int.toNat_of_nonneg (EE _ (by decide)),Int.toNat_of_nonneg (EE _ (by decide))]
    rw [e1]
    refine MG hr2 (by unfold cap;simp;exact jA hdl (LD _ _)) ?_
    walk_at "w"
    have hok:XM (((e%4).toNat,w,(e / 4%4).toNat),nm,v):=⟨hfr,hw,hto,nk1,nk2,hval⟩
    refine⟨rfl,rfl,_,ds++[(((e%4).toNat,w,(e / 4%4).toNat),nm,v)],rest,l,hx2,fun d hd'=>?_,hN.step hfr _,?_,hl6,?_,by walk_at "l",by walk_at "l",by walk_at "l",by walk_at "l"⟩
    ·rcases GB.mp hd' with h|h
     ·exact hd d h
     ·rw [BA.mp h];exact hok
    ·rw [jE (by decide),jE (by decide),OC (by simp;exact iB (LD _ _) hsl),jE (YG (cC (by decide) (BB 3 _)))]
     exact hs0
    ·rw [QA,BD,uH,UH,SE (0+1)];exact hd6
  ·refine⟨_,[],es,es.map V.int,rfl,(fun _ h=>by cases h),?_,rfl,by simpa using hlen',by simpa using hlen',v1,v2,v3,v4⟩
   constructor
   ·rfl
   ·rfl
   ·intro j hj
    rcases JH j hj with h|h|h|h<;>subst h<;>rfl
   ·simp
 ·rintro x xs _ s ⟨vars,rest,ns,hx,rfl,hlen,hpos,v1,v2,v3,v4⟩
  rcases rest with _|⟨p,rest⟩
  ·cases hx
  ·rw [sB] at hx
   injection hx with hx1 hx2
   subst hx1
   obtain⟨x,k⟩:=p
   show W (TH _ _ _ (.tup [.int (k:Int),.int x]) _) _ _
   walk_at "w"
   have hk:((k:Int)%8).toNat<ns.length:=HI (gI _ _ rfl (by decide)) hlen.symm
   refine IN (v:=.int (ns[((k:Int)%8).toNat])) rfl (by unfold cap;simp;exact jA (FB hlen) (by decide)) (vB _) (by simp;exact kD.mpr hk) (by rw [UE,sD hk];rfl) ?_
   walk_at "w"
   refine F4 rfl (by unfold cap;simp;exact jA (FB hlen) (by decide)) (vB _) (by simp;exact kD.mpr hk) ?_
   walk_at "w"
   refine⟨rfl,rfl,_,rest,ns.set ((k:Int)%8).toNat (ns[((k:Int)%8).toNat]+x%10^(12:Int).toNat),hx2,?_,by rw [kL];exact hlen,?_,by walk_at "l",by walk_at "l",by walk_at "l",by walk_at "l"⟩
   ·rw [List.map_set];rfl
   ·intro v hv
    rcases A6 hv with hv|hv
    ·exact hpos v hv
    ·subst hv
     have h1:=hpos _ (aL hk)
     have h2:=EE x (show (10:Int)^(12:Int).toNat≠0 by decide)
     exact GR h1 h2
 ·exact⟨_,l60.zipIdx 0,[1250,20,4257,258,583,831,1893,2898],rfl,rfl,rfl,by decide,sv_skip (by kernel_rfl!) (sv_skip (by kernel_rfl!) (sv_skip (by kernel_rfl!) sv_hit)),sv_skip (by kernel_rfl!) (sv_skip (by kernel_rfl!) sv_hit),sv_skip (by kernel_rfl!) sv_hit,sv_hit⟩
theorem Ah{a b:Int}{Q:V->Prop}(q:Q (.int (Builtin.bitOr a b))):∃ v,hH .BitOr (.int a) (.int b)=some v/\Q v:=⟨_,rfl,q⟩
theorem zh{a b:Int}{Q:V->Prop}(q:Q (.int (Builtin.bitAnd a b))):∃ v,hH .BitAnd (.int a) (.int b)=some v/\Q v:=⟨_,rfl,q⟩
theorem Dh{st:Ev.St}{i:Nat}{l:List V}{n:Int}{Q:V->Prop}(h:st[i]? = some (.list l))(hn:0<=n/\n<=64/\l.length<=64)(q:Q (.lst (NC n.toNat l).flatten)):∃ v,GD st .Mult (.ref i) (.int n)=some v/\Q v:=by
 refine⟨_,?_,q⟩
 show (match st[i]? with|some (O.list vs)=>some vs|_=>none).bind (fun x=>if 0<=n/\n<=64/\x.length<=64 then some (V.lst (NC n.toNat x).flatten) else none)=_
 rw [h]
 exact if_pos hn
theorem BS{α:Type}{l:List α}{x:Int}(j:Nat)(hx:x=j)(h:l.length<=cap):gC l (.int x) .none=some (l.drop j):=by
 subst hx
 unfold gC
 rw [if_neg (CE.mpr h)]
 show (some (if (j:Int)<0 then ((j:Int)+l.length).toNat else min (j:Int).toNat l.length)).bind (fun x=>(some l.length).bind fun y=>some ((l.take y).drop x))=_
 rw [if_neg (pF.mpr (vB _))]
 show some ((l.take l.length).drop _)=_
 rw [List.take_length,fG]
 congr 1
 rcases Nat.le_total j l.length with hj|hj
 ·rw [wR hj]
 ·rw [Nat.min_eq_right hj,HV (sA _),HV hj]
theorem vY{α:Type}{l:List α}(j:Nat)(h:l.length<=cap):gC l .none (.int j)=some (l.take j):=by
 unfold gC
 rw [if_neg (CE.mpr h)]
 show (some 0).bind (fun x=>(some (if (j:Int)<0 then ((j:Int)+l.length).toNat else min (j:Int).toNat l.length)).bind fun y=>some ((l.take y).drop x))=_
 rw [if_neg (pF.mpr (vB _))]
 show some ((l.take (min j l.length)).drop 0)=_
 rw [cL,List.take_eq_take_min.symm]
def DB(R:List Nat):Prop:=R.length=4/\∀ m∈R,m<16
theorem y3:∀ a:Nat,a<16->∀ b:Nat,b<16->Builtin.bitOr (a:Int) (b:Int)=((a ||| b:Nat):Int)/\(a ||| b)<16:=by decide +kernel
theorem NJ:∀ a:Nat,a<16->∀ b:Nat,b<16->Builtin.bitAnd (a:Int) (b:Int)=((a &&& b:Nat):Int)/\(a &&& b)<16:=by decide +kernel
theorem DB.at{R:List Nat}(h:DB R){x:Nat}(hx:x<4):R.getD x 0<16:=by
 rw [FE,sD (by rw [h.1];exact hx)]
 exact h.2 _ (aL _)
theorem DB.set{R:List Nat}(h:DB R){x m:Nat}(hm:m<16):DB (R.set x m):=by
 refine⟨by rw [kL];exact h.1,fun k hk=>?_⟩
 rcases A6 hk with q|q
 ·exact h.2 k q
 ·rw [q];exact hm
structure OB(r:lB):Prop where
 pl:r.1<4
 wd:r.2.1∈hB
 tg:r.2.2<4
noncomputable def EB(w:List Nat)(n:Nat)(R:List (List Nat))(cur:List Nat)(r:lB):List Nat :=
 if (w.drop (w.length - n)).take r.2.1.length=r.2.1 then cur.set r.1 (cur.getD r.1 0 ||| ((R++[cur]).getD (n - r.2.1.length) []).getD r.2.2 0) else cur
noncomputable def rG(n:Nat):List Nat:=if n=0 then [1,2,4,8] else [0,0,0,0]
noncomputable def vJ(rs:List lB)(w:List Nat)(n:Nat)(R:List (List Nat)):List Nat:=((NC 4 rs).flatten).foldl (EB w n R) (rG n)
noncomputable def zE(rs:List lB)(w:List Nat):Nat->List (List Nat)
 | 0=>[]
 | n+1=>zE rs w n++[vJ rs w n (zE rs w n)]
noncomputable def RA(rs:List lB)(w:List Nat):List Nat:=vJ rs w w.length (zE rs w w.length)
theorem yI(rs:List lB)(w:List Nat):∀ n,(zE rs w n).length=n
 | 0=>rfl
 | n+1=>by show (zE rs w n++[_]).length=_;rw [QA,yI rs w n];rfl
theorem WP{α:Type}{R:List α}{c d:α}{k:Nat}(h:k<=R.length):(R++[c]).getD k d=if k=R.length then c else R.getD k d:=by
 rw [FE]
 by_cases q:k=R.length
 ·rw [if_pos q,q,ZG];rfl
 ·rw [if_neg q,OC (DJ h q),FE]
theorem ZU{R:List (List Nat)}(hR:∀ r∈R,DB r){cur:List Nat}(hc:DB cur){k:Nat}(hk:k<=R.length):DB ((R++[cur]).getD k []):=by
 rw [WP hk]
 split
 ·exact hc
 ·rename_i q
  rw [FE,sD (DJ hk q)]
  exact hR _ (aL _)
theorem FO{w:List Nat}{R:List (List Nat)}(hR:∀ r∈R,DB r){cur:List Nat}(hc:DB cur){r:lB}(hr:OB r):DB (EB w R.length R cur r):=by
 unfold EB
 split
 ·exact hc.set (y3 _ (hc.at hr.pl) _ ((ZU hR hc (wC _ _)).at hr.tg)).2
 ·exact hc
theorem gJ(n:Nat):DB (rG n):=by unfold rG;split<;>exact⟨rfl,by decide⟩
theorem bJ{w:List Nat}{R:List (List Nat)}(hR:∀ r∈R,DB r):∀ (l:List lB) {cur:List Nat},DB cur->(∀ r∈l,OB r)->DB (l.foldl (EB w R.length R) cur)
 | [],_,hc,_=>hc
 | r::l,_,hc,h=>bJ hR l (FO hR hc (h r HA)) fun r hr=>h r (NA _ hr)
theorem xO{rs:List lB}(h:∀ r∈rs,OB r):∀ r∈(NC 4 rs).flatten,OB r:=fun r hr=>by
 obtain⟨l,hl,hr⟩:=List.mem_flatten.mp hr
 rw [cW hl] at hr
 exact h r hr
theorem OK{rs:List lB}(h:∀ r∈rs,OB r)(w:List Nat):∀ n,∀ r∈zE rs w n,DB r
 | 0,r,hr=>by cases hr
 | n+1,r,hr=>by
  rcases GB.mp hr with q|q
  ·exact OK h w n r q
  ·rw [BA.mp q]
   have e:=yI rs w n
   have k:=bJ (w:=w) (OK h w n) _ (gJ n) (xO h)
   rw [e] at k
   exact k
noncomputable def xI(r:List Nat):O:=.list (r.map fun (m:Nat)=>V.int m)
noncomputable def BF(b n:Nat):List V:=(GI (b+1) n).map V.ref
noncomputable def stN(st:Ev.St)(R:List (List Nat)):Ev.St:=st++O.list (BF st.length R.length)::R.map xI
theorem rV{st:Ev.St}{R:List (List Nat)}:(stN st R)[st.length]? = some (O.list (BF st.length R.length)):=by
 unfold stN;rw [GG (sA _),NI];rfl
theorem sV{st:Ev.St}{R:List (List Nat)}{k:Nat}(h:k<R.length):(stN st R)[st.length+1+k]? = some (xI (R.getD k [])):=by
 unfold stN
 rw [GG (jA (BB _ 1) (BB _ k)),UH,JR,SE 1 k,u6,UE,sD h,FE,sD h];rfl
theorem er{st:Ev.St}{R:List (List Nat)}{c d:List Nat}:(stN st (R++[c])).set (st.length+1+R.length) (xI d)=stN st (R++[d]):=by
 unfold stN
 rw [MI _ _ (jA (BB _ 1) (BB _ _)),UH,JR,SE 1,List.set_cons_succ,aB,aB,MI _ _ (FB (AA _)),AA,NI,QA,QA]
 rfl
theorem P3(b n:Nat):BF b (n+1)=BF b n++[.ref (b+1+n)]:=by
 unfold BF;rw [List.range'_1_concat,aB];rfl
theorem dr{st:Ev.St}{R:List (List Nat)}{c:List Nat}:(stN st R++[xI c]).set st.length (O.list (BF st.length R.length++[V.ref (st.length+1+R.length)]))=stN st (R++[c]):=by
 unfold stN
 rw [<-P3,qB,MI _ _ (sA _),NI,QA,aB]
 rfl
theorem cr{st:Ev.St}{R:List (List Nat)}:(stN st R).length=st.length+1+R.length:=by
 unfold stN;rw [QA,BD,AA,UH,SE 1]
theorem XZ{st s:Ev.St}{i b m:Nat}{k:Int}{n:Nat}{Q:V->Prop}(h:s[i]? = some (O.list (BF b m)))(hk:k=n)(hn:n<m)(hm:m<=1000)(q:Q (.ref (b+1+n))):∃ v,CC s (.ref i) (.int k)=some v/\Q v:=by
 subst hk
 have hl:(BF b m).length=m:=by unfold BF;rw [AA,dW]
 refine IN (v:=.ref (b+1+n)) h (by rw [hl];exact jA hm (by decide)) (vB _) (by rw [hl];exact kD.mpr hn) ?_ q
 unfold BF
 rw [fG,UE,List.getElem?_range' hn]
 simp
theorem JN{s:Ev.St}{i x:Nat}{R:List Nat}{Q:V->Prop}(h:s[i]? = some (xI R))(hm:DB R)(hx:x<4)(q:Q (.int ((R.getD x 0:Nat):Int))):∃ v,CC s (.ref i) (.int x)=some v/\Q v:=by
 refine IN (v:=.int ((R.getD x 0:Nat):Int)) h (by rw [AA,hm.1];decide) (vB _) (by rw [AA,hm.1];exact kD.mpr hx) ?_ q
 rw [fG,UE,FE,sD (by rw [hm.1];exact hx)]
 rfl
inductive GW(st:Ev.St)(w:List Nat)(n:Nat)(R:List (List Nat))(fin:List Nat)(sc:List (Str×GA)):List V->Fr->Ev.St->Prop
 | mk {xs:List V}{s:Ev.St} (vars:List (Str×V)) (rest:List lB) (cur:List Nat) (hx:xs=rest.map TD) (hs:s=stN st (R++[cur])) (hm:DB cur) (hr:∀ r∈rest,OB r) (hf:rest.foldl (EB w n R) cur=fin)
  (v1:vars.lookup ("word":Str)=some (.str w)) (v2:vars.lookup ("rows":Str)=some (.ref st.length)) (v3:vars.lookup ("n":Str)=some (.int n)) (v4:vars.lookup ("roads":Str)=some (.ref 2)):GW st w n R fin sc xs ⟨sc,vars,fun _=>none⟩ s
inductive zW(st:Ev.St)(w:List Nat)(rs:List lB)(sc:List (Str×GA)):List V->Fr->Ev.St->Prop
 | mk {xs:List V}{s:Ev.St} (vars:List (Str×V)) (k m:Nat) (hk:k+m=w.length+1) (hx:xs=(GI k m).map fun (i:Nat)=>V.int i) (hs:s=stN st (zE rs w k))
  (v1:vars.lookup ("word":Str)=some (.str w)) (v2:vars.lookup ("rows":Str)=some (.ref st.length)) (v4:vars.lookup ("roads":Str)=some (.ref 2)):zW st w rs sc xs ⟨sc,vars,fun _=>none⟩ s
theorem JO{w:List Nat}(h:w∈hB):w.length<=2:=by rcases LM h with rfl|rfl|rfl|rfl<;>decide
theorem Of(n:Nat):(UA 4).map (fun (x:Nat)=>bif ((n:Int) != 0) then V.int 0 else .int (1*2^x))=(rG n).map fun (m:Nat)=>V.int m:=by
 rcases n with ⟨⟩<;>rfl
theorem OP{n:Nat}{w:List Nat}{rs:List lB}{st:Ev.St}{Q:V->Ev.St->Prop}(hw:w∈hB)(hi:st[2]? = some (.list (rs.map TD)))(h2:2<st.length)(hr:∀ r∈rs,OB r)(hl:rs.length<=64)
  (q:∀ ext j,(st++ext)[j]? = some (xI (RA rs w))->Q (.ref j) (st++ext)):W ((LA ZB (n+2)).call (.fn "_law_ways") [.ref 2,.str w] []) st Q:=by
 refine KE (d:=uA (stm 71)) (by kernel_rfl!) (by kernel_rfl!) (pD [("roads",.ref 2),("word",.str w)] (by kernel_rfl!) (by kernel_rfl!) ?_)
 conv=>arg 1;arg 2;whnf
 have hwl:=JO hw
 have hcap:w.length<=cap:=jA hwl (by decide)
 walk_at "w"
 refine MT ⟨vB _,CD.mpr (jA (XB hwl) (by decide))⟩ ?_
 have e0:((UA ((w.length:Int)+1).toNat).map fun (i:Nat)=>V.int i)=(GI 0 (w.length+1)).map fun (i:Nat)=>V.int i:=by
  rw [show ((w.length:Int)+1).toNat=w.length+1 from rfl,sR]
 rw [e0]
 refine WF (zW st w rs (uA (stm 71)).sc.names) ?_ ?_ _ ?_
 ·rintro _ _ ⟨vars,k,m,hk,hx,rfl,v1,v2,v4⟩
  have hm:m=0:=by
   rcases m with _|m
   ·rfl
   ·rw [List.range'_succ] at hx;cases hx
  subst hm
  show W (XA _ _ _) _ _
  walk_at "w"
  have e:=yI rs w
  have hk':k=w.length+1:=hk
  subst hk'
  refine HN (vs:=BF st.length w.length) (v:=.ref (st.length+1+w.length)) (by rw [rV,e,P3]) (by unfold BF;rw [AA,dW];exact jA (XB hwl) (by decide)) ?_
  walk_at "w"
  refine q _ _ ?_
  have h:=sV (st:=st) (R:=zE rs w (w.length+1)) (k:=w.length) (by rw [e];exact jD _)
  rw [show (zE rs w (w.length+1)).getD w.length []=RA rs w from (WP (FB (e _).symm)).trans (if_pos (e _).symm)] at h
  exact h
 ·rintro x xs _ _ ⟨vars,k,m,hk,hx,rfl,v1,v2,v4⟩
  rcases m with _|m
  ·cases hx
  rw [List.range'_succ,sB] at hx
  injection hx with hx1 hx2
  subst hx1
  have e:=yI rs w k
  have hkw:k<=w.length:=ci hk
  generalize hR:zE rs w k=R at e
  have hRm:∀ r∈R,DB r:=hR▸OK hr w k
  have hout:=rV (st:=st) (R:=R)
  have hlen:=cr (st:=st) (R:=R)
  have hroads:∀ R',(stN st R')[2]? = some (.list (rs.map TD)):=fun R'=>by unfold stN;rw [OC h2];exact hi
  walk_at "w"
  refine SD (fun (i:Nat)=>V.int i) (fun x=>bif ((k:Int) != 0) then V.int 0 else .int (1*2^x)) rfl (UA 4) (fun x hx=>?_) ?_
  ·have hx4:x<4:=by simpa using hx
   walk_at "w"
   cases hb:((k:Int) != 0)
   ·walk_at "w"
    refine TL ⟨vB _,CD.mpr (kC (cC hx4 (by decide))),by decide⟩ ?_
    exact⟨rfl,rfl⟩
   ·walk_at "w"
    exact⟨rfl,rfl⟩
  rw [Of]
  refine w_mkK (by rw [AA,(gJ k).1];decide) (by kernel_rfl!) ?_
  walk_at "w"
  have hout2:(stN st R++[xI (rG k)])[st.length]? = some (O.list (BF st.length R.length)):=by rw [OC (by rw [hlen];exact BB _ _)];exact hout
  refine MG hout2 (by unfold BF;rw [AA,dW,e];exact jA (XB (jA hkw hwl)) (by decide)) ?_
  have hpush:(stN st R++[O.list ((rG k).map fun (m:Nat)=>V.int m)]).set st.length (O.list (BF st.length R.length++[V.ref (st.length+1+R.length)]))=stN st (R++[rG k]):=dr
  rw [hlen,hpush]
  walk_at "w"
  refine Dh (hroads _) ⟨by decide,by decide,by rw [AA];exact hl⟩ ?_
  walk_at "w"
  rw [show (NC (4:Int).toNat (rs.map TD)).flatten=((NC 4 rs).flatten).map TD by rw [List.map_flatten,eW];rfl]
  refine WF (GW st w k R (vJ rs w k R) (uA (stm 71)).sc.names) ?_ ?_ _ ?_
  ·rintro _ _ ⟨vars,rest,cur,hx,rfl,hm,-,hf,v1,v2,v3,v4⟩
   have:rest=[]:=by simpa using hx.symm
   subst this
   have hf':cur=vJ rs w k R:=hf
   subst hf'
   show W (XA _ [] _) _ _
   walk_at "w"
   refine⟨rfl,rfl,_,k+1,m,sk hk,hx2,?_,v1,v2,v4⟩
   show _=stN st (zE rs w k++[vJ rs w k (zE rs w k)])
   rw [hR]
  ·rintro x xs _ _ ⟨vars,rest,cur,hx,rfl,hm,hrr,hf,v1,v2,v3,v4⟩
   rcases rest with _|⟨r,rest⟩
   ·cases hx
   rw [sB] at hx
   injection hx with hx1 hx2'
   subst hx1
   obtain⟨p,u,t⟩:=r
   obtain⟨hp,hu,ht⟩:=hrr _ HA
   have hul:=JO hu
   have hucap:u.length<=cap:=jA hul (by decide)
   show W (TH _ _ _ (.tup [.int (p:Int),.str u,.int (t:Int)]) _) _ _
   refine x_turn (AL (oD (by kernel_rfl!) (oD (by kernel_rfl!) (oD (by kernel_rfl!) zL)))) ?_
   walk_at "w"
   refine QK (BS (w.length - k) (C2 hkw) hcap) ?_
   walk_at "w"
   have hdl:(w.drop (w.length - k)).length=k:=by rw [RM];exact Nat.sub_sub_self hkw
   refine QK (vY u.length (by rw [hdl];exact jA hkw hcap)) ?_
   walk_at "w"
   by_cases hc:(w.drop (w.length - k)).take u.length=u
   ·have huk:u.length<=k:=by
     have h1:=congrArg lL hc
     rw [RO,hdl] at h1
     exact G1 h1
    rw [decide_eq_true hc]
    walk_at "w"
    have hout3:=rV (st:=st) (R:=R++[cur])
    have hl3:(R++[cur]).length=k+1:=by rw [QA,e];rfl
    rw [hl3] at hout3
    refine XZ (st:=st) hout3 rfl (jD k) (iB hkw (iB hwl (by decide))) ?_
    walk_at "w"
    have hrow:=sV (st:=st) (R:=R++[cur]) (k:=k) (by rw [hl3];exact jD k)
    rw [show (R++[cur]).getD k []=cur from (WP (FB e.symm)).trans (if_pos e.symm)] at hrow
    refine JN hrow hm hp ?_
    walk_at "w"
    refine XZ (st:=st) (n:=k - u.length) hout3 (C2 huk) (LI (wC _ _)) (iB hkw (iB hwl (by decide))) ?_
    walk_at "w"
    have hrow2:=sV (st:=st) (R:=R++[cur]) (k:=k - u.length) (by rw [hl3];exact LI (wC _ _))
    have hm2:=ZU hRm hm (k:=k - u.length) (by rw [e];exact wC _ _)
    refine JN hrow2 hm2 ht ?_
    refine Ah ?_
    obtain⟨ho1,ho2⟩:=y3 _ (hm.at hp) _ (hm2.at ht)
    rw [ho1]
    refine F4 hrow (by rw [AA,hm.1];decide) (vB _) (by rw [AA,hm.1];exact kD.mpr hp) ?_
    rw [fG,show (cur.map fun (m:Nat)=>V.int m).set p (.int ((cur.getD p 0 ||| ((R++[cur]).getD (k - u.length) []).getD t 0:Nat):Int))=(cur.set p (cur.getD p 0 ||| ((R++[cur]).getD (k - u.length) []).getD t 0)).map fun (m:Nat)=>V.int m from List.map_set.symm]
    have hset:=er (st:=st) (R:=R) (c:=cur) (d:=cur.set p (cur.getD p 0 ||| ((R++[cur]).getD (k - u.length) []).getD t 0))
    rw [e] at hset
    show W _ ((stN st (R++[cur])).set (st.length+1+k) (xI _)) _
    rw [hset]
    walk_at "w"
    refine⟨rfl,rfl,_,rest,_,hx2',rfl,hm.set ho2,fun r h=>hrr r (NA _ h),?_,by walk_at "l",by walk_at "l",by walk_at "l",by walk_at "l"⟩
    rw [<-hf]
    show _=rest.foldl (EB w k R) (EB w k R cur (p,u,t))
    rw [show EB w k R cur (p,u,t)=_ from if_pos hc]
   ·rw [decide_eq_false hc]
    walk_at "w"
    refine⟨rfl,rfl,_,rest,cur,hx2',rfl,hm,fun r h=>hrr r (NA _ h),?_,by walk_at "l",by walk_at "l",by walk_at "l",by walk_at "l"⟩
    rw [<-hf]
    show _=rest.foldl (EB w k R) (EB w k R cur (p,u,t))
    rw [show EB w k R cur (p,u,t)=_ from if_neg hc]
  ·exact⟨_,_,rG k,rfl,rfl,gJ k,xO hr,rfl,by walk_at "l",by walk_at "l",by walk_at "l",by walk_at "l"⟩
 ·exact⟨_,0,w.length+1,IF _,rfl,rfl,by walk_at "l",by walk_at "l",by walk_at "l"⟩
theorem dj{st:Ev.St}{ks:List (List Nat)}{vs:List V}{Q:List V×List (Nat×O)->Prop}(q:Q (ks.map .str,[])):∃ r,zD st (.dct ks vs)=some r/\Q r:=⟨_,rfl,q⟩
theorem jQ{st:Ev.St}{ks:List (List Nat)}{vs:List V}{k:List Nat}{v:V}{Q:V->Prop}(h:EH ks vs k=some v)(q:Q v):∃ v,CC st (.dct ks vs) (.str k)=some v/\Q v:=⟨v,h,q⟩
theorem lN{P:sC}{n i:Nat}{st:Ev.St}{xs ys:List V}{Q:V->Ev.St->Prop}(h:st[i]? = some (.list xs))(hl:(xs++ys).length<=cap)(q:Q .none (st.set i (.list (xs++ys)))):W ((LA P (n+1)).call (.m (.ref i) "extend") [.lst ys] []) st Q:=by
 show W (do
  let ws <- Ev.gt (some ys)
  match <- Ev.rd fun st=>st[i]? with
  | .list xs=>PH i (xs++ws)) st Q
 refine W.bind (W.gt rfl (W.bind (W.rd h ?_)))
 show W (PH i (xs++ys)) st Q
 unfold PH
 rw [if_pos hl]
 have hi:i<st.length:=by
  rcases FR i st.length with h'|h'
  ·exact h'
  ·rw [oL h'] at h;cases h
 refine W.bind ⟨(),st.set i (.list (xs++ys)),?_,W.pure q⟩
 unfold Ev.setO
 rw [if_pos hi]
theorem QN{P:sC}{n i:Nat}{st:Ev.St}{xs:List V}{Q:V->Prop}(h:st[i]? = some (.list xs))(q:Q (.m (.ref i) "extend")):∃ f,(LA P (n+1)).meth st (.ref i) "extend" = some f/\Q f :=
 ⟨_,by show (match st[i]? with|some (.list _)=>_|_=>none)=_;rw [h];rfl,q⟩
theorem O9{P:sC}{n i:Nat}{st:Ev.St}{xs:List V}{Q:V->Ev.St->Prop}(h:st[i]? = some (.list xs))(hl:xs.length<=cap)(q:Q (.int xs.length) st):W ((LA P (n+1)).call (.bi "len") [.ref i] []) st Q:=by
 show W (do
  match <- Ev.rd fun st=>st[i]? with
  | .list vs=>if vs.length<=cap then pure (.int vs.length) else yA) st Q
 refine W.bind (W.rd h ?_)
 show W (if xs.length<=cap then pure (.int xs.length) else yA) st Q
 rw [if_pos hl];exact W.pure q
theorem V1{gd:Str->Option (List (V×V))}{st:Ev.St}{t m:Nat}{Q:Bool->Prop}(q:Q (!(decide (t=0)||decide (t=m)))):∃ c,ID gd st .NotIn (.int t) (.tup [.int 0,.int m])=some c/\Q c:=by
 refine⟨_,?_,q⟩
 show some (!(OA.eqv (.int 0) (.int t)||(OA.eqv (.int m) (.int t)||false)))=_
 rw [qL,qL,SO]
 congr 3
 ·exact decide_eq_decide.mpr ⟨fun h=>xH.inj h.symm,fun h=>congrArg xH h.symm⟩
 ·exact decide_eq_decide.mpr ⟨fun h=>(xH.inj h).symm,fun h=>(congrArg xH h.symm)⟩
theorem C5:∀ l:List Nat,(l.map fun x=>(1:Int)*2^x).sum=(((l.map (2 ^ ·)).sum:Nat):Int)
 | []=>rfl
 | x::l=>by
  rw [sB,List.sum_cons,sB,List.sum_cons,C5 l,Int.natCast_add,Int.natCast_pow,Int.one_mul]
  rfl
theorem HO(f:Nat->Bool):(((UA 4).filter f).map (2 ^ ·)).sum<16:=by
 show (((KR f [0,1,2,3]).map (2 ^ ·)).sum)<16
 simp only [KR]
 cases f 0<;>cases f 1<;>cases f 2<;>cases f 3<;>decide
theorem PN{ws:List (Nat×O)}{f:V->mA (List V)}{st:Ev.St}{Q:List V->Ev.St->Prop}(c:Nat->Bool)(hw:Ev.same ws st=some ((),st))(hf:∀ a:Nat,a<4->W (f (.int a)) st (RL (bif c a then [V.int (1*2^a)] else []) st))
  (q:Q ((((UA 4).filter c).map fun x=>(1:Int)*2^x).map V.int) st):W (fF ws ((UA 4).map fun (i:Nat)=>V.int i) f) st Q:=by
 refine lH (fun (i:Nat)=>V.int i) c (fun y=>.int (1*2^y)) hw (UA 4) (fun a ha=>hf a (by simpa using ha)) ?_
 rw [jC] at q
 exact q
theorem nN{P:sC}{n:Nat}{st:Ev.St}{Q:V->Ev.St->Prop}(c:Nat->Bool)(q:Q (.int ((((UA 4).filter c).map (2 ^ ·)).sum:Nat)) st):W ((LA P (n+1)).call (.bi "sum") [.lst ((((UA 4).filter c).map fun x=>(1:Int)*2^x).map V.int)] []) st Q:=by
 have hl:((UA 4).filter c).length<=4:=jA (IG _ _) (by simp)
 refine U9 (by rw [AA];exact jA hl (by decide)) (fun i hi=>?_) (by rw [C5];exact q)
 obtain⟨y,hy,rfl⟩:=rC.mp hi
 have hx4:y<4:=by simpa using (YH.mp hy).1
 rcases JH y hx4 with h|h|h|h<;>subst h<;>decide
theorem vO(c:Nat->Bool):((((UA 4).filter c).map fun x=>(1:Int)*2^x).map V.int).length<=cap:=by
 rw [AA,AA]
 exact jA (jA (IG _ _) (FB List.length_range)) (by decide)
def LG(js:List V)(wy:List Nat->List Nat)(st:Ev.St):Prop:=∀ w∈hB,DB (wy w)/\∃ j,EH hB js w=some (.ref j)/\st[j]? = some (xI (wy w))
theorem LG.ext{js:List V}{wy:List Nat->List Nat}{st:Ev.St}(h:LG js wy st)(ext:List O):LG js wy (st++ext):=fun w hw=>by
 obtain⟨h1,j,h2,h3⟩:=h w hw
 refine⟨h1,j,h2,?_⟩
 rw [OC (sF.mp h3).1];exact h3
noncomputable def JC(row:List Nat)(goal x:Nat):Bool:=!decide (row.getD x 0 &&& goal=0)
noncomputable def LB(row:List Nat)(goal:Nat):Nat:=(((UA 4).filter (JC row goal)).map (2 ^ ·)).sum
abbrev dB:=Nat×Nat
noncomputable def NG(c:dB):V:=.tup [.str [c.1],.int c.2]
abbrev Fd:=Nat×List Nat×Nat×Nat×Nat
noncomputable def aF(f:Fd):V:=.tup [.str [f.1],.str f.2.1,.str [f.2.2.1],.int f.2.2.2.1,.int f.2.2.2.2]
noncomputable def VG(b:Nat)(c:dB):Bool:=!(decide (c.2 &&& b=0)||decide (c.2 &&& b=c.2))
noncomputable def jI(wy:List Nat->List Nat)(C:List dB)(w:List Nat)(g:dB):List Fd:=(C.filter (VG (LB (wy w) g.2))).map fun c=>(c.1,w,g.1,c.2 &&& LB (wy w) g.2,c.2)
noncomputable def QP(wy:List Nat->List Nat)(C:List dB)(w:List Nat):List Fd:=C.flatMap (jI wy C w)
noncomputable def HC(wy:List Nat->List Nat)(C:List dB):List Fd:=hB.flatMap (QP wy C)
noncomputable def lJ(m:Bool×List Nat):V:=.tup [.str (if m.1 then [126] else []),.str m.2]
abbrev HB:=Nat×Nat×List (Bool×List Nat)×Nat
noncomputable def EI(s:HB):V:=.tup [.str [s.1],.str [s.2.1],.lst (s.2.2.1.map lJ),.str [s.2.2.2]]
noncomputable def cD(wy:List Nat->List Nat)(C:List dB)(pk:Nat):List Fd:=((HC wy C).drop (pk%max 1 (HC wy C).length)).take 1
noncomputable def zG(n:Nat)(f:List Fd)(s:List dB×List HB):List dB×List HB:=match f with
 | []=>s
 | f::_=>((s.1.filter fun c=>!decide ([c.1]=[f.1]))++[(108+2*n,f.2.2.2.1),(109+2*n,f.2.2.2.2 - f.2.2.2.1)],s.2++[(108+2*n,f.1,[(false,f.2.1)],f.2.2.1),(109+2*n,f.1,[(true,f.2.1)],f.2.2.1)])
noncomputable def FA(wy:List Nat->List Nat)(pk:Nat):Nat->List dB×List HB
 | 0=>([(107,15)],[])
 | n+1=>zG n (cD wy (FA wy pk n).1 pk) (FA wy pk n)
theorem Wo(wy:List Nat->List Nat)(C:List dB)(pk:Nat):(cD wy C pk).length<=1:=by unfold cD;exact List.length_take_le _ _
theorem yN{wy:List Nat->List Nat}{C:List dB}{f:Fd}(h:f∈HC wy C):∃ w∈hB,∃ g∈C,∃ c∈C,VG (LB (wy w) g.2) c=true/\f=(c.1,w,g.1,c.2 &&& LB (wy w) g.2,c.2):=by
 obtain⟨w,hw,h⟩:=AH.mp h
 obtain⟨g,hg,h⟩:=AH.mp h
 obtain⟨c,hc,e⟩:=rC.mp h
 obtain⟨hc,hs⟩:=YH.mp hc
 exact⟨w,hw,g,hg,c,hc,hs,e.symm⟩
theorem sO{wy:List Nat->List Nat}{C:List dB}{pk:Nat}{f:Fd}(h:f∈cD wy C pk):f∈HC wy C:=List.mem_of_mem_drop (List.mem_of_mem_take h)
theorem xN{α β:Type}(m:Nat):∀ (l:List α) (f:α->List β),(∀ a∈l,(f a).length<=m)->(l.flatMap f).length<=m*l.length
 | [],_,_=>sA _
 | a::l,f,h=>by
  rw [GE,QA,BD]
  exact jA (JI (h a HA) (xN m l f fun b hb=>h b (NA _ hb))) (FB (SE m (m*l.length)))
theorem Sc{wy:List Nat->List Nat}{C:List dB}(h:C.length<=4):(HC wy C).length<=64:=by
 refine jA (xN 16 hB _ fun w _=>jA (xN 4 C _ fun g _=>?_) (yH 4 h)) (by decide)
 unfold jI
 rw [AA]
 exact jA (IG _ _) h
structure nt(C:List dB):Prop where
 ne:C≠[]
 len:C.length<=4
 lt:∀ c∈C,c.2<16
theorem Jb:∀ k:Nat,k<3->gC (cB "lmnopq") (.int (2*(k:Int))) (.int (2*(k:Int)+2))=some [108+2*k,109+2*k]:=by decide +kernel
theorem lS{a:Int}(h:0<=a):0<=Builtin.bitAnd a 3/\Builtin.bitAnd a 3<4:=by
 rw [bitAnd_pp h (by decide)]
 exact⟨vB _,kD.mpr (LI Nat.and_le_right)⟩
theorem a9{st:Ev.St}{vars:List (Str×V)}{sc:List (Str×GA)}{out:Str->Option V}{o i:Expr}{pp:Pos}{x y:Str}{a b:Nat}{k:Nat}{p p1 p2:Pos}(hk:(sG sc x&&sG sc y)=true) :
  oE st (.Tuple [.Name x p1,.Name y p2] k p) (.Subscript o i pp) (.str [a,b]) ⟨sc,vars,out⟩=some ⟨sc,TB y (.str [b]) (TB x (.str [a]) vars),out⟩:=by
 obtain⟨h1,h2⟩:=(KA _ _).mp hk
 exact CH (bindT_Name h1) (CH (bindT_Name h2) rfl)
theorem c9{st:Ev.St}{sc:List (Str×GA)}{out:Str->Option V}{x y z:Str}{a b c:V}{p p1 p2 p3:Pos}{k:Nat}(hk:(sG sc x&&sG sc y&&sG sc z&&(!decide (y=x)&&(!decide (z=x) && !decide (z=y))))=true):rB true st (.Tuple [.Name x p1,.Name y p2,.Name z p3] k p) (.tup [a,b,c]) ⟨sc,[],out⟩=some ⟨sc,TB z c (TB y b [(x,a)]),out⟩:=by
 obtain⟨h0,h3⟩:=(KA _ _).mp hk
 obtain⟨h0,hz⟩:=(KA _ _).mp h0
 obtain⟨hx,hy⟩:=(KA _ _).mp h0
 obtain⟨n1,h3⟩:=(KA _ _).mp h3
 obtain⟨n2,n3⟩:=(KA _ _).mp h3
 have n1:¬ y=x:=of_decide_eq_false ((bH _).mp n1)
 have n2:¬ z=x:=of_decide_eq_false ((bH _).mp n2)
 have n3:¬ z=y:=of_decide_eq_false ((bH _).mp n3)
 have e1:wD y [(x,a)]=none:=by rw [wD,beq_eq_false_iff_ne.mpr n1];rfl
 refine CH (bindG_Name rfl hx) (CH (bindG_Name (show wD y [(x,a)]=none from e1) hy) (CH (bindG_Name ?_ hz) rfl))
 show (TB y b [(x,a)]).lookup z=none
 rw [uV,if_neg n3,wD,beq_eq_false_iff_ne.mpr n2];rfl
structure PV(vars:List (Str×V))(js:List V)(pk k:Nat)(S:List dB×List HB):Prop where
 v1:vars.lookup ("ways":Str)=some (.dct hB js)
 v2:vars.lookup ("pick":Str)=some (.int pk)
 v3:vars.lookup ("classes":Str)=some (.lst (S.1.map NG))
 v4:vars.lookup ("plan":Str)=some (.lst (S.2.map EI))
 v5:k=3\/vars.lookup ("n":Str)=some (.int k)
inductive QR(s0:Ev.St)(fin:List Fd)(js:List V)(pk k:Nat)(S:List dB×List HB){α:Type}(g:α->List Fd)(h:α->V)(pr:α->Prop)(z:List (Str×V)->Prop)(sc:List (Str×GA)):List V->Fr->Ev.St->Prop
 | mk {xs:List V}{s:Ev.St} (vars:List (Str×V)) (rest:List α) (acc:List Fd) (hx:xs=rest.map h) (hs:s=s0++[O.list (acc.map aF)]) (hf:acc++rest.flatMap g=fin) (hv:PV vars js pk k S) (hfo:vars.lookup ("found":Str)=some (.ref s0.length)) (hz:z vars) (hp:∀ a∈rest,pr a):QR s0 fin js pk k S g h pr z sc xs ⟨sc,vars,fun _=>none⟩ s
inductive AW(st:Ev.St)(wy:List Nat->List Nat)(js:List V)(pk:Nat)(sc:List (Str×GA)):List V->Fr->Ev.St->Prop
 | mk {xs:List V}{s:Ev.St} (vars:List (Str×V)) (k m:Nat) (ext:List O) (hk:k+m=3) (hx:xs=(GI k m).map fun (i:Nat)=>V.int i) (hs:s=st++ext)
  (v1:vars.lookup ("ways":Str)=some (.dct hB js)) (v2:vars.lookup ("pick":Str)=some (.int pk)) (v3:vars.lookup ("classes":Str)=some (.lst ((FA wy pk k).1.map NG))) (v4:vars.lookup ("plan":Str)=some (.lst ((FA wy pk k).2.map EI))):AW st wy js pk sc xs ⟨sc,vars,fun _=>none⟩ s
theorem NQ(wy:List Nat->List Nat)(pk:Nat):∀ k,(FA wy pk k).2.length<=2*k
 | 0=>sA _
 | k+1=>by
  have h:=NQ wy pk k
  show (zG k _ _).2.length<=_
  unfold zG
  split
  ·exact jA h (BB _ _)
  ·rw [QA];exact eG h 2
theorem vI(wy:List Nat->List Nat)(pk:Nat):∀ k,k<=3->(FA wy pk k).1.length<=k+1/\(FA wy pk k).1≠[]/\∀ c∈(FA wy pk k).1,c.2<16
 | 0,_=>⟨sA _,nofun,fun c hc=>by obtain rfl:=BA.mp (show c∈[((107,15):dB)] from hc);decide⟩
 | k+1,hk=>by
  obtain⟨h1,h2,h3⟩:=vI wy pk k (HG hk)
  show (zG k (cD wy (FA wy pk k).1 pk) _).1.length<=_/\_
  generalize hp:cD wy (FA wy pk k).1 pk=ohpz
  rcases ohpz with _|⟨f,r⟩
  ·exact⟨jA h1 (CB _),by show (zG k (cD wy _ pk) _).1≠[];rw [hp];exact h2,by show ∀ c∈(zG k (cD wy _ pk) _).1,_;rw [hp];exact h3⟩
  ·obtain⟨w,hw,g,hg,c,hc,hs,rfl⟩:=yN (sO (show f∈cD wy (FA wy pk k).1 pk by rw [hp];exact HA))
   have hlt:((FA wy pk k).1.filter fun d=>!decide ([d.1]=[c.1])).length<(FA wy pk k).1.length:=by
    rw [List.length_filter_lt_length_iff_exists]
    exact⟨c,hc,by simp⟩
   refine⟨?_,?_,?_⟩
   ·show (_++_:List dB).length<=_
    rw [QA]
    exact jA (eG (dG (cC hlt h1)) 2) (sA _)
   ·show (zG k (cD wy _ pk) _).1≠[]
    rw [hp]
    exact fun e=>by cases (List.append_eq_nil_iff.mp e).2
   ·show ∀ d∈(zG k (cD wy _ pk) _).1,_
    rw [hp]
    intro d hd
    rcases GB.mp hd with q|q
    ·exact h3 d (YH.mp q).1
    ·have h16:=h3 c hc
     have h17:(c.2 &&& LB (wy w) g.2)<=c.2:=UM
     rcases bB.mp q with rfl|q
     ·exact iB h17 h16
     ·rw [BA.mp q];exact iB (wC _ _) h16
noncomputable def XF(pk k:Nat):Bool×List Nat:=(Builtin.bitAnd ((pk:Int) / 2^(3*k)) 1 != 0,[[],[102],[105],[102,105]].getD (Builtin.bitAnd ((pk:Int) / 2^(3*k+1)) 3).toNat [])
theorem Mj(pk k:Nat):(XF pk k).2∈hB:=by
 unfold XF
 have h:=lS (a:=(pk:Int) / 2^(3*k+1)) (fW (vB _) (vH (ER (by decide))))
 have h4:(Builtin.bitAnd ((pk:Int) / 2^(3*k+1)) 3).toNat<4:=(FG h.1).mpr h.2
 generalize (Builtin.bitAnd ((pk:Int) / 2^(3*k+1)) 3).toNat=j at h4
 show ([[],[102],[105],[102,105]]:List (List Nat)).getD j []∈hB
 rcases JH j h4 with h|h|h|h<;>subst h<;>decide
noncomputable def mW(pk:Nat)(C:List dB):HB:=(122,107,(UA 3).map (XF pk),(C.getD (pk / 512%C.length) (0,0)).1)
theorem Jc{n:Nat}{wy:List Nat->List Nat}{js:List V}{pk:Nat}{st:Ev.St}{Q:V->Ev.St->Prop}(hw:LG js wy st)
  (q:∀ ext,Q (.tup [.lst (((FA wy pk 3).2++[mW pk (FA wy pk 3).1]).map EI),.lst ((FA wy pk 3).1.map fun c=>V.str [c.1])]) (st++ext)):W ((LA ZB (n+2)).call (.fn "_law_plan") [.dct hB js,.int pk] []) st Q:=by
 refine KE (d:=uA (stm 72)) (by kernel_rfl!) (by kernel_rfl!) (pD [("ways",.dct hB js),("pick",.int pk)] (by kernel_rfl!) (by kernel_rfl!) ?_)
 conv=>arg 1;arg 2;whnf
 walk_at "w"
 rw [show ((UA (3:Int).toNat).map fun (i:Nat)=>V.int i)=(GI 0 3).map fun (i:Nat)=>V.int i from rfl]
 refine WF (AW st wy js pk (uA (stm 72)).sc.names) ?_ ?_ _ ?_
 ·rintro _ _ ⟨vars,k,m,ext,hk,hx,rfl,v1,v2,v3,v4⟩
  have hm:m=0:=by
   rcases m with _|m
   ·rfl
   ·rw [List.range'_succ] at hx;cases hx
  subst hm
  have hk':k=3:=hk
  subst hk'
  obtain⟨o1,o2,o3⟩:=vI wy pk 3 (sA _)
  have o4:=NQ wy pk 3
  have q:=q ext
  generalize FA wy pk 3=S at *
  show W (XA _ _ _) _ _
  walk_at "w"
  refine SD (fun (i:Nat)=>V.int i) (fun k=>lJ (XF pk k)) rfl (UA 3) (fun k hk=>?_) ?_
  ·have hk3:k<3:=by simpa using hk
   walk_at "w"
   refine rQ (Int.mul_nonneg (by decide) (vB _)) ?_
   walk_at "w"
   have e1:(3*(k:Int)).toNat=3*k:=rfl
   rw [e1]
   have e3:(3*(k:Int)+1).toNat=3*k+1:=rfl
   cases hb:(Builtin.bitAnd ((pk:Int) / 2^(3*k)) 1 != 0)
   ·walk_at "w"
    refine rQ (vB _) ?_
    walk_at "w"
    rw [e3]
    obtain⟨b1,b2⟩:=lS (a:=(pk:Int) / 2^(3*k+1)) (fW (vB _) (vH (ER (by decide))))
    refine PL [[],[102],[105],[102,105]] (by kernel_rfl!) (by kernel_rfl!) b1 (by simpa using b2) ?_
    walk_at "w"
    refine⟨?_,rfl⟩
    unfold lJ XF
    rw [hb];rfl
   ·walk_at "w"
    refine rQ (vB _) ?_
    walk_at "w"
    rw [e3]
    obtain⟨b1,b2⟩:=lS (a:=(pk:Int) / 2^(3*k+1)) (fW (vB _) (vH (ER (by decide))))
    refine PL [[],[102],[105],[102,105]] (by kernel_rfl!) (by kernel_rfl!) b1 (by simpa using b2) ?_
    walk_at "w"
    refine⟨?_,rfl⟩
    unfold lJ XF
    rw [hb];rfl
  refine w_mkV (LC rfl) (by kernel_rfl!) ?_
  have hpos:0<S.1.length:=List.length_pos_iff.mpr o2
  have hcl:(S.1.map NG).length<=cap:=by rw [AA];exact jA o1 (by decide)
  walk_at "w"
  refine OX hcl ?_
  refine lb_mod (decide_eq_true (by rw [AA];exact kD.mpr hpos)) ?_
  have hi:pk / 512%S.1.length<S.1.length:=Nat.mod_lt _ hpos
  rw [AA,show (pk:Int) / 512%(S.1.length:Int)=((pk / 512%S.1.length:Nat):Int) by rw [Int.natCast_emod,Int.natCast_ediv];rfl]
  refine kQ (v:=NG (S.1.getD (pk / 512%S.1.length) (0,0))) hcl (vB _) (by rw [AA];exact kD.mpr hi) (by rw [fG,UE,FE,sD hi];rfl) ?_
  walk_at "w"
  refine mI (v:=.str [(S.1.getD (pk / 512%S.1.length) (0,0)).1]) rfl ?_
  walk_at "w"
  refine OG (by rw [QA,AA];exact jA (eG o4 1) (by decide)) ?_
  walk_at "w"
  refine SD NG (fun c=>V.str [c.1]) rfl S.1 (fun c hc=>?_) ?_
  ·obtain⟨c1,c2⟩:=c
   show W (sH _ _ _ _ _ _ (.tup [.str [c1],.int (c2:Int)])) _ _
   walk_at "w"
   exact⟨rfl,rfl⟩
  refine w_mkV (by rw [AA];exact jA o1 (by decide)) (by kernel_rfl!) ?_
  walk_at "w"
  rw [aB] at q
  exact q
 ·rintro x xs _ _ ⟨vars,k,m,ext,hk,hx,rfl,v1,v2,v3,v4⟩
  rcases m with _|m
  ·cases hx
  rw [List.range'_succ,sB] at hx
  injection hx with hx1 hx2
  subst hx1
  have hk3:k<3:=U0 hk
  obtain⟨o1,o2,o3⟩:=vI wy pk k (kC hk3)
  have o1:(FA wy pk k).1.length<=4:=jA o1 (XG hk3)
  have o4:=NQ wy pk k
  have hw:=hw.ext ext
  generalize hs0:st++ext=s0 at *
  generalize hS:FA wy pk k=S at *
  have hfl:=Sc (wy:=wy) o1
  walk_at "w"
  refine dj ?_
  refine WF (QR s0 (HC wy S.1) js pk k S (QP wy S.1) V.str (· ∈ hB) (fun _=>True) (uA (stm 72)).sc.names) ?_ ?_ _ ?_
  ·rintro _ _ ⟨vars,rest,acc,hx,rfl,hf,⟨v1,v2,v3,v4,v5⟩,hfo,-,-⟩
   have:rest=[]:=by simpa using hx.symm
   subst this
   rw [LR,bC] at hf
   subst hf
   have v5:=v5.resolve_left (iD hk3)
   have hat:(s0++[O.list ((HC wy S.1).map aF)])[s0.length]? = some (.list ((HC wy S.1).map aF)):=ZG
   have hfc:((HC wy S.1).map aF).length<=cap:=by rw [AA];exact jA hfl (by decide)
   show W (XA _ _ _) _ _
   walk_at "w"
   refine O9 hat hfc ?_
   walk_at "w"
   have e1:(if (1:Int)<(((HC wy S.1).map aF).length:Int) then (((HC wy S.1).map aF).length:Int) else 1)=((max 1 (HC wy S.1).length:Nat):Int):=by
    rw [AA];exact N1 _
   rw [e1]
   refine lb_mod (decide_eq_true (Sj _)) ?_
   rw [show (pk:Int)%((max 1 (HC wy S.1).length:Nat):Int)=((pk%max 1 (HC wy S.1).length:Nat):Int) from (Int.natCast_emod _ _).symm]
   walk_at "w"
   refine lV hat (BS _ rfl hfc) ?_
   have hdl:(((HC wy S.1).map aF).drop (pk%max 1 (HC wy S.1).length)).length<=cap:=by rw [RM];exact jA (wC _ _) hfc
   refine w_mkL (w_mkV hdl (by kernel_rfl!) ?_)
   walk_at "w"
   refine XQ (vY 1 hdl) ?_
   rw [<-List.map_drop,<- List.map_take]
   show W (YL _ _ (.lst ((cD wy S.1 pk).map aF))) _ _
   have hpl:=Wo wy S.1 pk
   refine w_mkL (w_mkV (by rw [AA];exact jA hpl (by decide)) (by kernel_rfl!) ?_)
   walk_at "w"
   have hst:s0++[O.list ((HC wy S.1).map aF)]=st++(ext++[O.list ((HC wy S.1).map aF)]):=by rw [<-hs0,qB]
   have hS1:FA wy pk (k+1)=zG k (cD wy S.1 pk) S:=by show zG k (cD wy (FA wy pk k).1 pk) (FA wy pk k)=_;rw [hS]
   generalize hp:cD wy S.1 pk=ohpz
   rcases ohpz with _|⟨f,r⟩
   ·rw [hp] at hS1
    refine l_nil ?_
    walk_at "w"
    exact⟨rfl,rfl,_,k+1,m,_,sk hk,hx2,hst,v1,v2,by rw [hS1];exact v3,by rw [hS1];exact v4⟩
   rw [hp] at hpl hS1
   cases r with
   | cons _ _=>exact absurd hpl (by simp)
   | nil =>
   obtain⟨nm,w,o,p,mk⟩:=f
   refine yh ?_
   show W (TH _ _ _ (.tup [.str [nm],.str w,.str [o],.int (p:Int),.int (mk:Int)]) _) _ _
   refine x_turn (AL (oD (by kernel_rfl!) (oD (by kernel_rfl!) (oD (by kernel_rfl!) (oD (by kernel_rfl!) (oD (by kernel_rfl!) zL)))))) ?_
   walk_at "w"
   refine QK (Jb k hk3) ?_
   walk_at "w"
   refine⟨_,a9 (by kernel_rfl!),?_⟩
   walk_at "w"
   refine OG (by rw [QA,AA];exact jA (eG (jA o4 (yH 2 (kC hk3))) 2) (by decide)) ?_
   walk_at "w"
   refine lH NG (fun c=>!decide ([c.1]=[nm])) NG rfl S.1 (fun c hc=>?_) ?_
   ·obtain⟨c1,c2⟩:=c
    show W (sH _ _ _ _ _ _ (.tup [.str [c1],.int (c2:Int)])) _ _
    walk_at "w"
    refine mI (v:=.str [c1]) rfl ?_
    walk_at "w"
    by_cases hn:[c1]=[nm]
    ·show bif !decide ([c1]=[nm]) then _ else _
     rw [decide_eq_true hn]
     walk_at "w"
     exact⟨rfl,rfl⟩
    ·show bif !decide ([c1]=[nm]) then _ else _
     rw [decide_eq_false hn]
     walk_at "w"
     exact⟨rfl,rfl⟩
   have hfl2:((S.1.filter fun c=>!decide ([c.1]=[nm])).map NG).length<=4:=by rw [AA];exact jA (IG _ _) o1
   refine w_mkV (jA hfl2 (by decide)) (by kernel_rfl!) ?_
   walk_at "w"
   refine OG (by rw [QA];exact jA (eG hfl2 _) (LC rfl)) ?_
   walk_at "w"
   have hpm:(p:Int)<=mk:=by
    obtain⟨w',_,g,_,c,_,_,e⟩:=yN (sO (show (nm,w,o,p,mk)∈cD wy S.1 pk by rw [hp];exact HA))
    have e2:p=c.2 &&& LB (wy w') g.2:=congrArg (fun f:Fd=>f.2.2.2.1) e
    have e3:mk=c.2:=congrArg (fun f:Fd=>f.2.2.2.2) e
    rw [e2,e3]
    exact CD.mpr UM
   refine l_nil ?_
   walk_at "w"
   refine⟨rfl,rfl,_,k+1,m,_,sk hk,hx2,hst,by walk_at "l",by walk_at "l",?_,?_⟩
   ·rw [hS1]
    refine sv_hit.trans ?_
    show some (V.lst ((S.1.filter fun c=>!decide ([c.1]=[nm])).map NG++[.tup [.str [108+2*k],.int p],.tup [.str [109+2*k],.int (mk - p)]]))=some (V.lst (((S.1.filter fun c=>!decide ([c.1]=[nm]))++[((108+2*k,p):dB),(109+2*k,mk - p)]).map NG))
    rw [aB]
    have e:((mk - p:Nat):Int)=mk - p:=Int.ofNat_sub (CD.mp hpm)
    show _=some (V.lst (_++[.tup [.str [108+2*k],.int p],.tup [.str [109+2*k],.int ((mk - p:Nat):Int)]]))
    rw [e]
   ·rw [hS1]
    refine (sv_skip (by kernel_rfl!) sv_hit).trans ?_
    show _=some (V.lst ((S.2++[((108+2*k,nm,[(false,w)],o):HB),(109+2*k,nm,[(true,w)],o)]).map EI))
    rw [aB]
    rfl
  ·rintro x xs _ _ ⟨vars,rest,acc,hx,rfl,hf,⟨v1,v2,v3,v4,v5⟩,hfo,-,hpw⟩
   rcases rest with _|⟨w,rest⟩
   ·cases hx
   rw [sB] at hx
   injection hx with hx1 hx2'
   subst hx1
   have hwm:w∈hB:=hpw w HA
   walk_at "w"
   refine WF (QR s0 (acc++QP wy S.1 w) js pk k S (jI wy S.1 w) NG (·.2<16) (fun vars=>vars.lookup ("word":Str)=some (.str w)) (uA (stm 72)).sc.names) ?_ ?_ _ ?_
   ·rintro _ _ ⟨vars,rest2,acc2,hx,rfl,hf2,hv,hfo,-,-⟩
    have:rest2=[]:=by simpa using hx.symm
    subst this
    rw [LR,bC] at hf2
    subst hf2
    show W (XA _ [] _) _ _
    walk_at "w"
    refine⟨rfl,rfl,_,rest,_,hx2',rfl,?_,hv,hfo,trivial,fun a ha=>hpw a (NA _ ha)⟩
    rw [<-hf,GE,qB]
   ·rintro x xs _ _ ⟨vars,rest2,acc2,hx,rfl,hf2,⟨v1,v2,v3,v4,v5⟩,hfo,hwd,hpg⟩
    rcases rest2 with _|⟨g,rest2⟩
    ·cases hx
    rw [sB] at hx
    injection hx with hx1 hx3
    subst hx1
    obtain⟨go,gm⟩:=g
    have hgm:gm<16:=hpg (go,gm) HA
    obtain⟨wm,j,wj,wr⟩:=(hw.ext [O.list (acc2.map aF)]) w hwm
    show W (TH _ _ _ (.tup [.str [go],.int (gm:Int)]) _) _ _
    walk_at "w"
    refine PN (JC (wy w) gm) rfl (fun a ha=>?_) ?_
    ·walk_at "w"
     refine jQ wj ?_
     walk_at "w"
     refine JN wr wm ha ?_
     walk_at "w"
     rw [(NJ _ (wm.at ha) _ hgm).1]
     unfold JC
     by_cases h0:(wy w).getD a 0 &&& gm=0
     ·rw [decide_eq_true h0,h0]
      walk_at "w"
      exact⟨rfl,rfl⟩
     ·have hb:((((wy w).getD a 0 &&& gm:Nat):Int) != 0)=true:=bne_iff_ne.mpr fun e=>h0 (xH.inj e)
      rw [decide_eq_false h0]
      walk_at "w"
      refine TL ⟨vB _,CD.mpr (kC (cC ha (by decide))),by decide⟩ ?_
      exact⟨rfl,rfl⟩
    refine w_mkV (vO _) (by kernel_rfl!) ?_
    walk_at "w"
    refine nN _ ?_
    show KN _ _ _ _ _ _ (V.int ((LB (wy w) gm:Nat):Int)) _
    have hb16:LB (wy w) gm<16:=HO _
    generalize hbe:LB (wy w) gm=b at hb16 ⊢
    walk_at "w"
    have hat:(s0++[O.list (acc2.map aF)])[s0.length]? = some (.list (acc2.map aF)):=ZG
    refine QN hat ?_
    walk_at "w"
    refine lH NG (VG b) (fun c=>aF (c.1,w,go,c.2 &&& b,c.2)) rfl S.1 (fun c hc=>?_) ?_
    ·have hc16:=o3 c hc
     obtain⟨c1,c2⟩:=c
     show W (sH _ _ _ _ _ _ (.tup [.str [c1],.int (c2:Int)])) _ _
     walk_at "w"
     rw [(NJ _ hc16 _ hb16).1]
     refine V1 ?_
     show sT _ _ _ _ (VG b (c1,c2)) _
     cases hsb:VG b (c1,c2)
     ·walk_at "w"
      exact⟨rfl,rfl⟩
     ·walk_at "w"
      rw [(NJ _ hc16 _ hb16).1]
      exact⟨rfl,rfl⟩
    have e:(S.1.filter (VG b)).map (fun c=>aF (c.1,w,go,c.2 &&& b,c.2))=(jI wy S.1 w (go,gm)).map aF:=by
     unfold jI
     rw [hbe,jC];rfl
    rw [e]
    have hfin:(acc2++jI wy S.1 w (go,gm)).length<=64:=by
     refine jA ?_ hfl
     rw [<-hf,GE,<- qB,<- hf2,GE,<- qB]
     rw [QA,QA,QA,QA]
     exact jA (BB _ _) (BB _ _)
    have hgl:(jI wy S.1 w (go,gm)).length<=64:=jA (by rw [QA];exact LD _ _) hfin
    refine w_mkV (by rw [AA];exact jA hgl (by decide)) (by kernel_rfl!) ?_
    walk_at "w"
    refine lN hat (by rw [<-aB,AA];exact jA hfin (by decide)) ?_
    walk_at "w"
    refine⟨rfl,rfl,_,rest2,acc2++jI wy S.1 w (go,gm),hx3,?_,?_,⟨by walk_at "l",by walk_at "l",by walk_at "l",by walk_at "l",.inr (by have v5:=v5.resolve_left (iD hk3);walk_at "l")⟩,by walk_at "l",(by show wD _ _=_;walk_at "l"),fun a ha=>hpg a (NA _ ha)⟩
    ·rw [MI _ _ (sA _),NI,aB];rfl
    ·rw [<-hf2,GE,qB]
   ·exact⟨_,S.1,acc,rfl,rfl,rfl,⟨by walk_at "l",by walk_at "l",by walk_at "l",by walk_at "l",.inr (by have v5:=v5.resolve_left (iD hk3);walk_at "l")⟩,by walk_at "l",(by show wD _ _=_;walk_at "l"),o3⟩
  ·exact⟨_,hB,[],rfl,rfl,qF _,⟨by walk_at "l",by walk_at "l",by walk_at "l",by walk_at "l",.inr (by walk_at "l")⟩,by walk_at "l",trivial,fun _ h=>h⟩
 ·exact⟨_,0,3,[],rfl,rfl,(bC st).symm,by walk_at "l",by walk_at "l",by first|exact sv_skip (by kernel_rfl!) sv_hit|exact sv_hit,by first|exact sv_hit|exact sv_skip (by kernel_rfl!) sv_hit⟩
theorem zO{st:Ev.St}{i:Nat}{l:List V}(h:st[i]? = some (.list l))(e:OH l l=true):Ev.same [(i,.list l)] st=some ((),st):=by
 show ((st[i]?).map (·,st)).bind (fun p=>(if wJ (.list l) p.1 then Ev.same [] else yA) p.2)=_
 rw [h]
 show (if wJ (.list l) (.list l)=true then Ev.same [] else yA) st=_
 rw [if_pos (show wJ (.list l) (.list l)=true from e)]
 rfl
theorem EM{α:Type}{f:α->V}(h:∀ a,xJ (f a) (f a)=true):∀ l:List α,OH (l.map f) (l.map f)=true
 | []=>rfl
 | a::l=>by show (xJ (f a) (f a)&&OH (l.map f) (l.map f))=true;rw [h a,EM h l];rfl
theorem pq(i:Int):xJ (.int i) (.int i)=true:=by show (some i==some i)=true;simp
theorem dQ:∀ ys:List Int,zF (ys.map V.int)=some ys
 | []=>rfl
 | y::ys=>by show (zF (ys.map V.int)).map (y :: ·)=_;rw [dQ ys];rfl
theorem H0{gd:Str->Option (List (V×V))}{st:Ev.St}{l:List Int}{Q:Bool->Prop}(q:Q (decide (l=[]))):∃ c,ID gd st .Eq (.lst (l.map V.int)) (.lst [])=some c/\Q c:=by
 refine⟨_,?_,q⟩
 show SJ st (.lst (l.map V.int)) (.lst [])=_
 have e:jB st 8 (.lst (l.map V.int))=some (.list (l.map OA.int)):=by
  show ((l.map V.int).mapM (jB st 7)).map OA.list=_
  rw [FS];rfl
 have e2:SJ st (.lst (l.map V.int)) (.lst [])=some (OA.eqv (.list (l.map OA.int)) (.list [])):=by
  show (jB st 8 (.lst (l.map V.int))).bind (fun x=>(jB st 8 (.lst [])).bind fun y=>some (OA.eqv x y))=_
  rw [e];rfl
 rw [e2]
 rcases l with ⟨⟩<;>rfl
theorem B1{P:sC}{n:Nat}{st:Ev.St}{l:List V}{Q:V->Prop}(q:Q (.m (.lst l) "count")):∃ f,(LA P (n+1)).meth st (.lst l) "count" = some f/\Q f:=⟨_,rfl,q⟩
theorem LX{P:sC}{n:Nat}{st:Ev.St}{l:List Int}{k:Int}{Q:V->Ev.St->Prop}(hl:l.length<=cap)(q:Q (.int (l.count k)) st):W ((LA P (n+1)).call (.m (.lst (l.map V.int)) "count") [.int k] []) st Q:=by
 show W (do
  let xs <- Ev.gt (zF (l.map V.int))
  if xs.length<=cap then pure (.int (xs.count k)) else yA) st Q
 refine W.bind (W.gt (dQ l) ?_)
 rw [if_pos hl];exact W.pure q
noncomputable def CQ:List Int->Int
 | a::r=>r.foldl (fun a b=>if a<b then b else a) a
 | []=>0
theorem Q9{P:sC}{n:Nat}{st:Ev.St}{l:List Int}{Q:V->Ev.St->Prop}(hl:l≠[])(q:Q (.int (CQ l)) st):W ((LA P (n+1)).call (.bi "max") [.lst (l.map V.int)] []) st Q:=by
 show W (do BQ (<- Ev.gt (zF (l.map V.int)))) st Q
 refine W.bind (W.gt (dQ l) ?_)
 rcases l with _|⟨a,r⟩
 ·exact absurd rfl hl
 ·exact W.pure q
theorem RX{P:sC}{n:Nat}{st:Ev.St}{l:List Int}{Q:V->Ev.St->Prop}(hl:l.length<64)(q:Q (.lst ((Ev.CI l).map V.int)) st):W ((LA P (n+1)).call (.bi "sorted") [.lst (l.map V.int)] []) st Q:=by
 show W (do
  let l <- Ev.gt (zF (l.map V.int))
  if l.length<64 then pure (.lst ((Ev.CI l).map .int)) else yA) st Q
 refine W.bind (W.gt (dQ l) ?_)
 rw [if_pos hl];exact W.pure q
noncomputable def qH:List (List Nat):=(UA 2).flatMap fun b=>(UA (b+2)).flatMap fun c=>(UA (max b c+2)).map fun d=>[0,b,c,d]
noncomputable def PU(p:List Nat):V:=.tup (p.map fun (i:Nat)=>V.int i)
theorem rO:qH.all (fun p=>p.length==4&&p.all fun x=>decide (x<4))=true:=by decide +kernel
def tM(p:List Nat):Prop:=p.length=4/\∀ x∈p,x<4
theorem QU{p:List Nat}(h:p∈qH):tM p:=by
 obtain⟨h1,h2⟩:=(KA _ _).mp (YA.mp rO p h)
 exact⟨eq_of_beq h1,fun x hx=>of_decide_eq_true (YA.mp h2 x hx)⟩
theorem tM.at{p:List Nat}(h:tM p){x:Nat}(hx:x<4):p.getD x 0<4:=by
 rw [FE,sD (by rw [h.1];exact hx)]
 exact h.2 _ (aL _)
theorem lQ{st:Ev.St}{p:List Nat}{x:Nat}{Q:V->Prop}(h:tM p)(hx:x<4)(q:Q (.int ((p.getD x 0:Nat):Int))):∃ v,CC st (PU p) (.int x)=some v/\Q v :=
 nT (by rw [AA,h.1];decide) (vB _) (by rw [AA,h.1];exact kD.mpr hx) (by rw [fG,UE,FE,sD (by rw [h.1];exact hx)];rfl) q
noncomputable def SG(p:List Nat)(n:Nat):Nat:=(((UA 4).filter fun x=>decide (((p.getD x 0:Nat):Int)=(n:Int))).map (2 ^ ·)).sum
noncomputable def TC(p:List Nat):List Int:=(UA 4).map fun n=>((SG p n:Nat):Int)
noncomputable def YF(p:List Nat):V:=.lst ((TC p).map V.int)
noncomputable def OJ(wy:List Nat->List Nat)(p:List Nat)(r:lB)(y:Nat):Bool:=decide (((p.getD y 0:Nat):Int)=((p.getD r.1 0:Nat):Int))&&decide (((((wy r.2.1).getD y 0) &&& SG p (p.getD r.2.2 0):Nat):Int)=0)
noncomputable def TI(wy:List Nat->List Nat)(rs:List lB)(p:List Nat):List Int:=rs.flatMap fun r=>((UA 4).filter (OJ wy p r)).map fun (y:Nat)=>(y:Int)
noncomputable def UF(wy:List Nat->List Nat)(rs:List lB):List (List Nat):=qH.filter fun p=>decide (TI wy rs p=[])
noncomputable def RN(wy:List Nat->List Nat)(rs:List lB):Int:=CQ ((UF wy rs).map fun p=>(((TC p).count 0:Nat):Int))
noncomputable def CO(p:List Nat):List Int:=Ev.CI ((TC p).filter fun m=>m != 0)
noncomputable def bN(wy:List Nat->List Nat)(rs:List lB):List (List Int):=((UF wy rs).filter fun p=>decide ((((TC p).count 0:Nat):Int)=RN wy rs)).map CO
theorem M1(p:List Nat)(n:Nat):SG p n<16:=HO _
theorem ig{st:Ev.St}{p:List Nat}{x:Nat}{Q:V->Prop}(hx:x<4)(q:Q (.int ((SG p x:Nat):Int))):∃ v,CC st (YF p) (.int x)=some v/\Q v:=by
 refine kQ (v:=.int ((SG p x:Nat):Int)) (LC rfl) (vB _) (kD.mpr hx) ?_ q
 rw [fG]
 rcases JH x hx with h|h|h|h<;>subst h<;>rfl
theorem sq(p:List Nat):xJ (YF p) (YF p)=true:=EM pq _
theorem G4(r:lB):xJ (TD r) (TD r)=true:=by
 show ((some (r.1:Int)==some (r.1:Int))&&((some r.2.1==some r.2.1)&&((some (r.2.2:Int)==some (r.2.2:Int))&&true)))=true
 simp
inductive nW(st:Ev.St)(fin:List (List Nat))(wy:List Nat->List Nat)(rs:List lB)(js:List V)(sc:List (Str×GA)):List V->Fr->Ev.St->Prop
 | mk {xs:List V}{s:Ev.St} (vars:List (Str×V)) (rest acc:List (List Nat)) (hx:xs=rest.map PU) (hs:s=st++[O.list (acc.map YF)]) (hp:∀ p∈rest,tM p) (hf:acc++rest.filter (fun p=>decide (TI wy rs p=[]))=fin) (hn:acc.length+rest.length<=15)
  (v1:vars.lookup ("ways":Str)=some (.dct hB js)) (v2:vars.lookup ("roads":Str)=some (.ref 2)) (v3:vars.lookup ("good":Str)=some (.ref st.length)):nW st fin wy rs js sc xs ⟨sc,vars,fun _=>none⟩ s
theorem C3:qH.length=15:=by decide +kernel
theorem Bc{n:Nat}{wy:List Nat->List Nat}{js:List V}{rs:List lB}{st:Ev.St}{Q:V->Ev.St->Prop}(hw:LG js wy st)(hi:st[2]? = some (.list (rs.map TD)))(hr:∀ r∈rs,OB r)(hl:rs.length<=64)(hg:UF wy rs≠[])
  (q:∀ ext,Q (.lst ((bN wy rs).map fun l=>.lst (l.map V.int))) (st++ext)):W ((LA ZB (n+2)).call (.fn "_law_alike") [.ref 2,.dct hB js] []) st Q:=by
 refine KE (d:=uA (stm 73)) (by kernel_rfl!) (by kernel_rfl!) (pD [("roads",.ref 2),("ways",.dct hB js)] (by kernel_rfl!) (by kernel_rfl!) ?_)
 conv=>arg 1;arg 2;whnf
 walk_at "w"
 refine W.of (a:=qH.map PU) (s:=st++[O.list []]) (by kernel_rfl!) ?_
 refine w_mkV (by rw [AA,C3];decide) (by kernel_rfl!) ?_
 walk_at "w"
 have h2:2<st.length:=(sF.mp hi).1
 refine WF (nW st (UF wy rs) wy rs js (uA (stm 73)).sc.names) ?_ ?_ _ ?_
 ·rintro _ _ ⟨vars,rest,acc,hx,rfl,-,hf,hn,v1,v2,v3⟩
  have:rest=[]:=by simpa using hx.symm
  subst this
  rw [List.filter_nil,bC] at hf
  have hlen:acc.length<=15:=hn
  have hat:(st++[O.list (acc.map YF)])[st.length]? = some (.list (acc.map YF)):=ZG
  have hsm:=zO hat (EM sq acc)
  show W (XA _ _ _) _ _
  walk_at "w"
  refine pI hat ?_
  refine SD YF (fun p=>.int ((TC p).count 0:Nat)) hsm acc (fun p hp=>?_) ?_
  ·walk_at "w"
   refine B1 ?_
   walk_at "w"
   refine LX (LC rfl) ?_
   exact⟨rfl,rfl⟩
  refine w_mkV (by rw [AA];exact jA hlen (by decide)) (by kernel_rfl!) ?_
  walk_at "w"
  rw [show (acc.map fun p=>V.int ((TC p).count 0:Nat))=(acc.map fun p=>(((TC p).count 0:Nat):Int)).map V.int by rw [jC];rfl]
  refine Q9 (by rw [hf];exact fun e=>hg (VO.mp e)) ?_
  rw [show CQ (acc.map fun p=>(((TC p).count 0:Nat):Int))=RN wy rs by rw [hf];rfl]
  walk_at "w"
  refine pI hat ?_
  refine lH YF (fun p=>decide ((((TC p).count 0:Nat):Int)=RN wy rs)) (fun p=>.lst ((CO p).map V.int)) hsm acc (fun p hp=>?_) ?_
  ·walk_at "w"
   refine B1 ?_
   walk_at "w"
   refine LX (LC rfl) ?_
   walk_at "w"
   cases hb:decide ((((TC p).count 0:Nat):Int)=RN wy rs)
   ·walk_at "w"
    exact⟨rfl,rfl⟩
   ·walk_at "w"
    refine ls_lst (l:=(TC p).map V.int) ?_
    refine lH V.int (fun m=>m != 0) V.int rfl (TC p) (fun m hm=>?_) ?_
    ·walk_at "w"
     cases hm0:(m != 0)
     ·walk_at "w"
      exact⟨rfl,rfl⟩
     ·walk_at "w"
      exact⟨rfl,rfl⟩
    have hfl:((TC p).filter fun m=>m != 0).length<=4:=IG _ _
    refine w_mkV (by rw [AA];exact jA hfl (by decide)) (by kernel_rfl!) ?_
    walk_at "w"
    refine RX (iB hfl (by decide)) ?_
    exact⟨rfl,rfl⟩
  refine w_mkV (by rw [AA];exact jA (IG _ _) (jA hlen (by decide))) (by kernel_rfl!) ?_
  walk_at "w"
  have q:=q [O.list (acc.map YF)]
  unfold bN at q
  rw [jC,<- hf] at q
  rw [hf] at q ⊢
  exact q
 ·rintro x xs _ _ ⟨vars,rest,acc,hx,rfl,hp,hf,hn,v1,v2,v3⟩
  rcases rest with _|⟨p,rest⟩
  ·cases hx
  rw [sB] at hx
  injection hx with hx1 hx2
  subst hx1
  have hpp:=hp p HA
  have hlen:acc.length+1<=15:=by rw [BD] at hn;exact iB (BB _ _) hn
  have hat:(st++[O.list (acc.map YF)])[st.length]? = some (.list (acc.map YF)):=ZG
  have hroads:(st++[O.list (acc.map YF)])[2]? = some (.list (rs.map TD)):=by rw [OC h2];exact hi
  have hw:=hw.ext [O.list (acc.map YF)]
  walk_at "w"
  refine SD (fun (i:Nat)=>V.int i) (fun n=>.int ((SG p n:Nat):Int)) rfl (UA 4) (fun k hk=>?_) ?_
  ·have hk4:k<4:=by simpa using hk
   walk_at "w"
   refine PN (fun x=>decide (((p.getD x 0:Nat):Int)=(k:Int))) rfl (fun a ha=>?_) ?_
   ·walk_at "w"
    refine lQ hpp ha ?_
    walk_at "w"
    cases hb:decide (((p.getD a 0:Nat):Int)=(k:Int))
    ·walk_at "w"
     exact⟨rfl,rfl⟩
    ·walk_at "w"
     refine TL ⟨vB _,CD.mpr (kC (cC ha (by decide))),by decide⟩ ?_
     exact⟨rfl,rfl⟩
   refine w_mkV (vO _) (by kernel_rfl!) ?_
   walk_at "w"
   refine nN _ ?_
   exact⟨rfl,rfl⟩
  rw [show ((UA 4).map fun n=>V.int ((SG p n:Nat):Int))=(TC p).map V.int by unfold TC;rw [jC];rfl]
  refine w_mkV (LC rfl) (by kernel_rfl!) ?_
  show KN _ _ _ _ _ _ (YF p) _
  walk_at "w"
  refine pI hroads ?_
  refine W0 TD (fun r=>((UA 4).filter (OJ wy p r)).map fun (y:Nat)=>V.int y) (zO hroads (EM G4 rs)) rs (fun r hr'=>?_) ?_
  ·obtain⟨px,u,t⟩:=r
   obtain⟨hpx,hu,ht⟩:=hr _ hr'
   obtain⟨wm,j,wj,wr⟩:=hw u hu
   show W (sH _ _ _ _ _ _ (.tup [.int (px:Int),.str u,.int (t:Int)])) _ _
   refine g_turn (c9 (by kernel_rfl!)) ?_
   walk_at "w"
   refine lH (fun (i:Nat)=>V.int i) (OJ wy p (px,u,t)) (fun (i:Nat)=>V.int i) rfl (UA 4) (fun y hy=>?_) ?_
   ·have hy4:y<4:=by simpa using hy
    walk_at "w"
    refine lQ hpp hy4 ?_
    walk_at "w"
    refine lQ hpp hpx ?_
    walk_at "w"
    unfold OJ
    show b0 _ _ _ _ (decide (((p.getD y 0:Nat):Int)=((p.getD px 0:Nat):Int))) _
    cases hb:decide (((p.getD y 0:Nat):Int)=((p.getD px 0:Nat):Int))
    ·walk_at "w"
     exact⟨rfl,rfl⟩
    ·walk_at "w"
     refine jQ wj ?_
     walk_at "w"
     refine JN wr wm hy4 ?_
     walk_at "w"
     refine lQ hpp ht ?_
     walk_at "w"
     refine ig (hpp.at ht) ?_
     walk_at "w"
     rw [(NJ _ (wm.at hy4) _ (M1 p _)).1]
     show sT _ _ _ _ (decide (((((wy u).getD y 0) &&& SG p (p.getD t 0):Nat):Int)=0)) _
     cases hc:decide (((((wy u).getD y 0) &&& SG p (p.getD t 0):Nat):Int)=0)
     ·walk_at "w"
      exact⟨rfl,rfl⟩
     ·walk_at "w"
      exact⟨rfl,rfl⟩
   exact⟨rfl,rfl⟩
  rw [show (rs.flatMap fun r=>((UA 4).filter (OJ wy p r)).map fun (y:Nat)=>V.int y)=(TI wy rs p).map V.int by unfold TI;rw [List.map_flatMap];congr 1;funext r;rw [jC];rfl]
  have hbl:(TI wy rs p).length<=256:=by
   refine jA (xN 4 rs _ fun r _=>?_) (yH 4 hl)
   rw [AA]
   exact jA (IG _ _) (FB List.length_range)
  refine w_mkV (by rw [AA];exact jA hbl (by decide)) (by kernel_rfl!) ?_
  walk_at "w"
  refine H0 ?_
  cases hb:decide (TI wy rs p=[])
  ·walk_at "w"
   refine⟨rfl,rfl,_,rest,acc,hx2,rfl,fun p h=>hp p (NA _ h),?_,by rw [BD] at hn;exact kC hn,by walk_at "l",by walk_at "l",by walk_at "l"⟩
   rw [<-hf,IR (by rw [hb];decide)]
  ·walk_at "w"
   refine MG hat (by rw [AA];exact jA hlen (by decide)) ?_
   walk_at "w"
   refine⟨rfl,rfl,_,rest,acc++[p],hx2,?_,fun p h=>hp p (NA _ h),?_,by rw [QA];exact CT hn,by walk_at "l",by walk_at "l",by walk_at "l"⟩
   ·rw [MI _ _ (sA _),NI,aB];rfl
   ·rw [<-hf,gW (by rw [hb]),qB];rfl
 ·exact⟨_,qH,[],rfl,rfl,fun p h=>QU h,qF _,FB ((IF _).trans C3),by walk_at "l",by walk_at "l",by walk_at "l"⟩
theorem RS{n:Nat}{x:Int}{b:Bool}{st:Ev.St}{Q:V->Ev.St->Prop}(h:decide (x<256)=b)(q:Q (.bool b) st):W ((LA ZB (n+2)).call (.fn "ISTERMINAL") [.int x] []) st Q:=by
 subst h
 refine KE (d:=uA (stm 52)) (by kernel_rfl!) (by kernel_rfl!) (pD [("x",.int x)] (by kernel_rfl!) (by kernel_rfl!) ?_)
 conv=>arg 1;arg 2;whnf
 walk_at "w"
 refine DV (v:=.int 256) (by kernel_rfl!) (by kernel_rfl!) (by kernel_rfl!) ?_
 walk_at "w"
 exact q
theorem QS{n:Nat}{x:Int}{b:Bool}{st:Ev.St}{Q:V->Ev.St->Prop}(h:decide (256<=x)=b)(q:Q (.bool b) st):W ((LA ZB (n+2)).call (.fn "ISNONTERMINAL") [.int x] []) st Q:=by
 subst h
 refine KE (d:=uA (stm 53)) (by kernel_rfl!) (by kernel_rfl!) (pD [("x",.int x)] (by kernel_rfl!) (by kernel_rfl!) ?_)
 conv=>arg 1;arg 2;whnf
 walk_at "w"
 refine DV (v:=.int 256) (by kernel_rfl!) (by kernel_rfl!) (by kernel_rfl!) ?_
 walk_at "w"
 exact q
theorem PS{n:Nat}{x:Int}{b:Bool}{st:Ev.St}{Q:V->Ev.St->Prop}(h:decide (x=0)=b)(q:Q (.bool b) st):W ((LA ZB (n+2)).call (.fn "ISEOF") [.int x] []) st Q:=by
 subst h
 refine KE (d:=uA (stm 54)) (by kernel_rfl!) (by kernel_rfl!) (pD [("x",.int x)] (by kernel_rfl!) (by kernel_rfl!) ?_)
 conv=>arg 1;arg 2;whnf
 walk_at "w"
 refine DV (v:=.int 0) (by kernel_rfl!) (by kernel_rfl!) (by kernel_rfl!) ?_
 walk_at "w"
 exact q
noncomputable def vC(a:List Nat):Bool:=mF.any fun p=>p.1==a
noncomputable def SH(a:List Nat):Int:=match mF.find? (fun p=>p.1==a) with|some p=>p.2|none=>255
theorem T5{gd:Str->Option (List (V×V))}{st:Ev.St}{a:List Nat}{Q:Bool->Prop}(hg:gd "EXACT_TOKEN_TYPES" = some (mF.map fun p=>(.str p.1,.int p.2)))(q:Q (vC a)):∃ c,ID gd st .In (.str a) (.g "EXACT_TOKEN_TYPES")=some c/\Q c:=by
 refine sQ (c:=vC a) ?_ q
 show (match (if ("EXACT_TOKEN_TYPES":Str)=("EXACT_TOKEN_TYPES":Str) then (gd "EXACT_TOKEN_TYPES").map fun es=>es.any fun e=>e.1.isS a else none) with
  | some t=>some t
  | none=>EN st (.str a) (.g "EXACT_TOKEN_TYPES"))=_
 rw [if_pos rfl,hg]
 show some ((mF.map fun p=>((V.str p.1,V.int p.2):V×V)).any fun e=>e.1.isS a)=_
 rw [List.any_map]
 rfl
theorem Wr{n:Nat}{st:Ev.St}{a:List Nat}{Q:V->Ev.St->Prop}(q:Q (.int (SH a)) st):W ((LA ZB (n+1)).call (.m (.g "EXACT_TOKEN_TYPES") "get") [.str a,.int 255] []) st Q:=by
 have e:((mF.map fun p=>((V.str p.1,V.int p.2):V×V)).find? fun e=>e.1.isS a)=(mF.find? (fun p=>p.1==a)).map fun p=>(V.str p.1,V.int p.2):=by
  rw [List.find?_map]
  rfl
 refine W.of (a:=((mF.map fun p=>((V.str p.1,V.int p.2):V×V)).find? fun e=>e.1.isS a).elim (.int 255) (·.2)) rfl ?_
 rw [e]
 unfold SH at q
 generalize hf:mF.find? (fun p=>p.1==a)=ohfz
 rcases ohfz with _|p
 ·rw [hf] at q;exact q
 ·rw [hf] at q;exact q
noncomputable def UD(s:List (List Int)×List Int)(x:Int):List (List Int)×List Int:=if x=13 then (s.1++[s.2++[x]],[]) else (s.1,s.2++[x])
structure fH(base:Ev.St)(r:Nat)(refs:List Nat)(R:List (List Int))(st:Ev.St):Prop where
 out:st[r]? = some (.list (refs.map .ref))
 len:refs.length=R.length
 rows:∀ (k i:Nat) (row:List Int),refs[k]? = some i->R[k]? = some row->st[i]? = some (.list (row.map .int))
 nodup:refs.Nodup
 fresh:r∉refs
 lt:∀ i∈refs,i<st.length
 ge:∀ i∈refs,base.length<=i
 rge:base.length<=r
 pre:∀ i,i<base.length->st[i]? = base[i]?
 size:base.length<=st.length
theorem fH.push{base st:Ev.St}{r c:Nat}{refs:List Nat}{done:List (List Int)}{cur:List Int}{x:Int}(h:fH base r (refs++[c]) (done++[cur]) st) :
  st[c]? = some (.list (cur.map .int))/\fH base r (refs++[c]) (done++[cur++[x]]) (st.set c (O.list (cur.map V.int++[V.int x]))):=by
 have hl:refs.length=done.length:=by have:=h.len;simpa using this
 have hc:st[c]? = some (.list (cur.map .int)):=h.rows refs.length c cur (by simp) (by rw [hl];simp)
 have hcl:c<st.length:=h.lt c (by simp)
 have hrc:r≠c:=fun e=>h.fresh (by simp [e])
 refine⟨hc,?_⟩
 constructor
 ·rw [jE (fun e=>hrc e.symm)];exact h.out
 ·simpa using hl
 ·intro k i row h1 h2
  rcases Nat.lt_trichotomy k refs.length with hk|hk|hk
  ·have hi:i≠c:=by
    intro e
    subst e
    have hn:=h.nodup
    rw [iL] at hn
    have h1':refs[k]? = some i:=by rw [OC hk] at h1;exact h1
    exact hn.2.2 i (DD h1') i (by simp) rfl
   rw [jE (fun e=>hi e.symm)]
   refine h.rows k i row h1 ?_
   rw [OC (HI hk hl)] at h2 ⊢
   exact h2
  ·subst hk
   have:i=c:=by simpa using h1.symm
   subst this
   rw [hl] at h2
   have:row=cur++[x]:=by simpa using h2.symm
   subst this
   rw [HJ hcl,aB]
   rfl
  ·rw [oL (by simp;exact hk)] at h1
   cases h1
 ·exact h.nodup
 ·exact h.fresh
 ·intro i hi;rw [kL];exact h.lt i hi
 ·exact h.ge
 ·exact h.rge
 ·intro i hi
  have:c≠i:=fun e=>absurd (iB (h.ge c (by simp)) (iB (FB e) hi)) (yR _)
  rw [jE this];exact h.pre i hi
 ·rw [kL];exact h.size
theorem fH.more{base st:Ev.St}{r:Nat}{refs:List Nat}{R:List (List Int)}(h:fH base r refs R st)(hr:r<st.length):fH base r (refs++[st.length]) (R++[[]]) ((st++[O.list []]).set r (O.list (refs.map V.ref++[V.ref st.length]))):=by
 have hs:st.length∉refs:=fun e=>yR _ (h.lt _ e)
 have hl:=h.len
 constructor
 ·rw [HJ (by simp;exact XG hr),aB];rfl
 ·simpa using hl
 ·intro k i row h1 h2
  rcases Nat.lt_trichotomy k refs.length with hk|hk|hk
  ·rw [OC hk] at h1
   rw [OC (HI hk hl)] at h2
   have hi:=DD h1
   have hir:r≠i:=fun e=>h.fresh (e▸hi)
   rw [jE hir,OC (h.lt i hi)]
   exact h.rows k i row h1 h2
  ·subst hk
   have e1:i=st.length:=by simpa using h1.symm
   subst e1
   rw [hl] at h2
   have e2:row=[]:=by simpa using h2.symm
   subst e2
   rw [jE (iD hr)]
   simp
  ·rw [oL (by simp;exact hk)] at h1
   cases h1
 ·rw [iL]
  exact⟨h.nodup,by simp,fun a ha b hb=>by simp at hb;subst hb;exact fun e=>hs (e▸ha)⟩
 ·intro hm
  rcases GB.mp hm with hm|hm
  ·exact h.fresh hm
  ·simp at hm;exact iD hr hm
 ·intro i hi
  rw [kL,QA]
  rcases GB.mp hi with hi|hi
  ·have:=h.lt i hi;simp;exact XG this
  ·simp at hi;simp;exact LI (FB hi)
 ·intro i hi
  rcases GB.mp hi with hi|hi
  ·exact h.ge i hi
  ·simp at hi;have:=h.size;exact jA this (FB hi.symm)
 ·exact h.rge
 ·intro i hi
  have h1:=h.rge
  have h2:=h.size
  rw [jE (YG (cC hi h1)),OC (cC hi h2)]
  exact h.pre i hi
 ·have:=h.size;rw [kL,QA];exact eE this
noncomputable def bK(t:List Nat):Bool:=isIn t (cB "kfilmnopqz")
noncomputable def NB(t:List Nat):Int:=if bK t=true then 256+((yF (cB "kfilmnopqz") t).getD 0:Nat) else SH t
noncomputable def mH(l:List Nat):Nat:=if vC (l.take 3)=true then 3 else if vC (l.take 2)=true then 2 else 1
inductive WC:List Nat->List (List Nat)->Prop
 | nil:WC [] []
 | cons {t l:List Nat}{ts:List (List Nat)} (h0:t≠[]) (h1:(t++l).take (mH (t++l))=t) (h2:(bK t=true/\(yF (cB "kfilmnopqz") t).isSome=true/\NB t≠13/\256<=NB t)\/(bK t=false/\0<SH t/\SH t<256)) (h:WC l ts):WC (t++l) (t::ts)
noncomputable def CM(ts:List (List Nat)):List (List Int):=(((ts.map NB++[0]).foldl UD ([],[])).1++[((ts.map NB++[0]).foldl UD ([],[])).2])
theorem MX{P:sC}{n k:Nat}{a t:List Nat}{st:Ev.St}{Q:V->Ev.St->Prop}(h:yF a t=some k)(q:Q (.int k) st):W ((LA P (n+1)).call (.m (.str a) "index") [.str t] []) st Q:=by
 show W (do
  let t <- Ev.gt (some t)
  return .int (<- Ev.gt (yF a t))) st Q
 exact W.bind (W.gt rfl (W.bind (W.gt h (W.pure q))))
theorem gV{s:Ev.St}{i:Nat}{o:O}(h:s[i]? = some o):s.set i o=s:=by
 refine List.ext_getElem? fun j=>?_
 by_cases q:i=j
 ·subst q
  rw [HJ (sF.mp h).1,h]
 ·rw [jE q]
inductive CW(l:List Nat)(all:List (List Nat))(base:Ev.St)(sc:List (Str×GA)):List V->Fr->Ev.St->Prop
 | mk {xs:List V}{s:Ev.St} (vars:List (Str×V)) (r:Nat) (refs:List Nat) (c:Nat) (done:List (List Int)) (cur:List Int) (hs:vars.lookup ("seen":Str)=some (.str l)) (hr:vars.lookup ("rows":Str)=some (.ref r)) (hR:fH base r (refs++[c]) (done++[cur]) s)
  (h:(∃ pre skip d P ts,l=pre++(skip++d)/\xs=(GI pre.length ((skip++d).length+1)).map (fun (i:Nat)=>V.int i)/\vars.lookup ("place":Str)=some (.int ((pre.length+skip.length:Nat):Int))/\all=P++ts/\WC d ts/\(done,cur)=(P.map NB).foldl UD ([],[])/\done.length<=pre.length/\cur.length<=pre.length) \/
   (xs=[]/\(done,cur)=(all.map NB++[0]).foldl UD ([],[]))):CW l all base sc xs ⟨sc,vars,fun _=>none⟩ s
theorem P9{P:sC}{n:Nat}{l:List Nat}{st:Ev.St}{Q:V->Ev.St->Prop}(q:Q (.int ((mH l:Nat):Int)) st):W ((LA P (n+1)).call (.bi "max") [.lst ([.int 1]++(([2,3]:List Int).filter fun a=>bif decide (a=2) then vC (l.take 2) else vC (l.take 3)).map V.int)] []) st Q:=by
 unfold mH at q
 cases h2:vC (l.take 2)<;>cases h3:vC (l.take 3)<;>rw [h2,h3] at q<;>exact W.of (s:=st) (by kernel_rfl!) q
theorem mr(s:List (List Int)×List Int)(x:Int):(UD s x).1.length<=s.1.length+1/\(UD s x).2.length<=s.2.length+1:=by
 unfold UD
 split
 ·exact⟨by simp,iE _⟩
 ·exact⟨CB _,by simp⟩
theorem Kc{n:Nat}{l:List Nat}{ts:List (List Nat)}{st:Ev.St}{Q:V->Ev.St->Prop}(hn:l.length<=30000)(hc:WC l ts)
  (q:∀ r refs s,fH st r refs (CM ts) s->Q (.ref r) s):W ((LA ZB (n+3)).call (.fn "_law_rows") [.str l]  []) st Q:=by
 refine KE (d:=uA (stm 75)) (by kernel_rfl!) (by kernel_rfl!) (pD [("seen",.str l)] (by kernel_rfl!) (by kernel_rfl!) ?_)
 conv=>arg 1;arg 2;whnf
 have hlen:l.length<=cap:=by unfold cap;exact jA hn (LD _ _)
 walk_at "w"
 refine MT ⟨vB _,(CD.mpr (jA (XB hn) (by decide)):((l.length+1:Nat):Int)<=((65536:Nat):Int))⟩ ?_
 have e0:((UA ((l.length:Int)+1).toNat).map fun (i:Nat)=>V.int i)=(GI ([]:List Nat).length (l.length+1)).map fun (i:Nat)=>V.int i:=by
  rw [show ((l.length:Int)+1).toNat=l.length+1 from rfl,sR];rfl
 rw [e0]
 refine WF (CW l ts st (uA (stm 75)).sc.names) ?_ ?_ _ ?_
 ·rintro _ s ⟨vars,r,refs,c,done,cur,hseen,hrows,hR,h⟩
  rcases h with ⟨pre,skip,d,P,ts',-,hx,-⟩|⟨-,hd⟩
  ·rw [List.range'_succ] at hx;cases hx
  ·show W (XA _ _ _) s _
   walk_at "w"
   refine q r (refs++[c]) s ?_
   have:CM ts=done++[cur]:=by unfold CM;rw [<-hd]
   rw [this];exact hR
 ·rintro x xs _ s ⟨vars,r,refs,c,done,cur,hseen,hrows,hR,h⟩
  rcases h with ⟨pre,skip,d,P,ts',hl,hx,hplace,hall,hcut,hfold,hb1,hb2⟩|⟨hx,-⟩
  ·rw [List.range'_succ,sB] at hx
   injection hx with hx1 hx2
   subst hx1
   have hpl:pre.length<=30000:=jA (jA (BB _ (skip++d).length) (FB (by rw [hl];exact QA.symm))) hn
   have hrl:=hR.len
   simp only [QA,BD,uH] at hrl
   have hrl:refs.length=done.length:=Nat.add_right_cancel hrl
   cases skip with
   | cons ch skip =>
    have hne:decide ((pre.length:Int)=((pre.length+(ch::skip).length:Nat):Int))=false:=decide_eq_false (zk)
    walk_at "w"
    refine⟨rfl,rfl,_,r,refs,c,done,cur,by walk_at "l",by walk_at "l",hR,.inl ⟨pre++[ch],skip,d,P,ts',by rw [hl];simp,?_,?_,hall,hcut,hfold,by rw [QA];exact eE hb1,by rw [QA];exact eE hb2⟩⟩
    ·rw [hx2,show (pre++[ch]).length=pre.length+1 from QA];rfl
    ·rw [show (pre++[ch]).length+skip.length=pre.length+(ch::skip).length by simp only [QA,BD,uH];exact RE _ _ _]
     walk_at "l"
   | nil =>
   rw [qF] at hl hx2
   have hkk:decide ((pre.length:Int)=((pre.length+([]:List Nat).length:Nat):Int))=true:=decide_eq_true rfl
   have hdrop:l.drop pre.length=d:=by rw [hl,List.drop_left]
   have hcap:pre.length+d.length<=cap:=by rw [hl,QA] at hlen;exact hlen
   walk_at "w"
   refine lH V.int (fun a=>bif decide (a=2) then vC (d.take 2) else vC (d.take 3)) V.int rfl [2,3] (fun a ha=>?_) ?_
   ·walk_at "w"
    have ha':a=2\/a=3:=by simpa using ha
    rcases ha' with ha'|ha'
    ·refine QK (AS hl 2 hcap rfl (by rw [ha'];rfl)) ?_
     walk_at "w"
     refine T5 rfl ?_
     rw [show (bif decide (a=2) then vC (d.take 2) else vC (d.take 3))=vC (d.take 2) by rw [decide_eq_true ha'];rfl]
     cases vC (d.take 2)
     ·walk_at "w"
      exact⟨rfl,rfl⟩
     ·walk_at "w"
      exact⟨rfl,rfl⟩
    ·refine QK (AS hl 3 hcap rfl (by rw [ha'];rfl)) ?_
     walk_at "w"
     refine T5 rfl ?_
     rw [show (bif decide (a=2) then vC (d.take 2) else vC (d.take 3))=vC (d.take 3) by rw [ha'];rfl]
     cases vC (d.take 3)
     ·walk_at "w"
      exact⟨rfl,rfl⟩
     ·walk_at "w"
      exact⟨rfl,rfl⟩
   have hfl:((([2,3]:List Int).filter fun a=>bif decide (a=2) then vC (d.take 2) else vC (d.take 3)).map V.int).length<=2:=by rw [AA];exact IG _ _
   refine w_mkV (jA hfl (by decide)) (by kernel_rfl!) ?_
   walk_at "w"
   refine OG (by rw [QA];exact jA (EC hfl 1) (by decide)) ?_
   walk_at "w"
   refine P9 ?_
   walk_at "w"
   refine QK (AS hl (mH d) hcap rfl rfl) ?_
   have hp1:(d.take (mH d)).length<=cap:=by rw [RO];exact jA (GJ _ _) (jA (LD _ _) hcap)
   walk_at "w"
   cases hcut with
   | nil =>
    have hpush:=hR.push (x:=0)
    have hpc:=hpush.1
    have hout:s[r]? = some (.list (refs.map V.ref++[V.ref c])):=by rw [hR.out,aB];rfl
    walk_at "w"
    refine RS (b:=true) (by kernel_rfl!) ?_
    walk_at "w"
    refine QS (b:=false) (by kernel_rfl!) ?_
    walk_at "w"
    refine PS (b:=true) (by kernel_rfl!) ?_
    walk_at "w"
    refine W.of (a:=[.str [84],.str [70],.str [84]]) (s:=s) (by kernel_rfl!) ?_
    walk_at "w"
    refine W.of (a:=.str [84,70,84]) (s:=s) (by kernel_rfl!) ?_
    walk_at "w"
    refine HN (vs:=refs.map V.ref) (v:=.ref c) hout (by rw [AA,hrl];exact jA (XB (jA hb1 hpl)) (by decide)) ?_
    walk_at "w"
    refine MG hpush.1 (by rw [AA];exact jA (XB (jA hb2 hpl)) (by decide)) ?_
    walk_at "w"
    have hout2:=hpush.2.out
    refine QN hout2 ?_
    walk_at "w"
    refine lN hout2 (by rw [bC,AA,QA,hrl];exact jA (XB (jA hb1 hpl)) (by decide)) ?_
    rw [show XH V.ref (refs++[c])++[]=XH V.ref (refs++[c]) from bC _,gV hout2]
    walk_at "w"
    refine⟨rfl,rfl,_,r,refs,c,done,cur++[0],by walk_at "l",by walk_at "l",hpush.2,.inr ⟨hx2,?_⟩⟩
    rw [bC] at hall
    rw [hall,gG,<- hfold]
    rfl
   | @cons t l' ts'' h0 h1 h2 hcut' =>
    rw [h1]
    have ht0:decide (t=cB "")=false:=decide_eq_false (by rw [show cB "" = [] by decide +kernel];exact h0)
    have htl:1<=t.length:=by rcases t with _|⟨_,_⟩;exact absurd rfl h0;exact XB (iE _)
    obtain⟨ch,t',rfl⟩:∃ ch t',t=ch::t':=by rcases t with _|⟨a,b⟩;exact absurd rfl h0;exact⟨a,b,rfl⟩
    have hplace':((pre.length:Int)+if (1:Int)<(((ch::t'):List Nat).length:Int) then (((ch::t'):List Nat).length:Int) else 1)=((pre.length+1+t'.length:Nat):Int):=by
     exact Vj _ _
    rw [hplace']
    have hpush:=hR.push (x:=NB (ch::t'))
    have hpc:=hpush.1
    have hout:s[r]? = some (.list (refs.map V.ref++[V.ref c])):=by rw [hR.out,aB];rfl
    have hcl:refs.length+1<=cap:=by rw [hrl];exact jA (XB (jA hb1 hpl)) (by decide)
    have hcc:(cur.map V.int).length+1<=cap:=by rw [AA];exact jA (XB (jA hb2 hpl)) (by decide)
    have hout2:=hpush.2.out
    obtain⟨sl1,sl2⟩:=mr (done,cur) (NB (ch::t'))
    rcases h2 with ⟨g1,g2,g3,g4⟩|⟨g1,g2,g3⟩
    ·have hnum:NB (ch::t')=256+((yF (cB "kfilmnopqz") (ch::t')).getD 0:Nat):=if_pos g1
     walk_at "w"
     refine sQ (c:=true) (congrArg some g1) ?_
     walk_at "w"
     obtain⟨k,hk⟩:=XV.mp g2
     refine MX hk ?_
     rw [show (k:Int)=(((yF (cB "kfilmnopqz") (ch::t')).getD 0:Nat):Int) by rw [hk];rfl]
     walk_at "w"
     rw [<-hnum]
     refine RS (b:=false) (decide_eq_false (pF.mpr g4)) ?_
     walk_at "w"
     refine QS (b:=true) (decide_eq_true g4) ?_
     walk_at "w"
     refine PS (b:=false) (decide_eq_false fun e=>absurd (e▸g4) (by decide)) ?_
     walk_at "w"
     refine W.of (a:=[.str [70],.str [84],.str [70]]) (s:=s) (by kernel_rfl!) ?_
     walk_at "w"
     refine W.of (a:=.str [70,84,70]) (s:=s) (by kernel_rfl!) ?_
     walk_at "w"
     refine HN (vs:=refs.map V.ref) (v:=.ref c) hout (by rw [AA];exact hcl) ?_
     walk_at "w"
     refine MG hpush.1 hcc ?_
     walk_at "w"
     have h13:decide (NB (ch::t')=13)=false:=decide_eq_false g3
     refine QN hout2 ?_
     walk_at "w"
     refine lN hout2 (by rw [bC,AA,QA];exact hcl) ?_
     rw [show XH V.ref (refs++[c])++[]=XH V.ref (refs++[c]) from bC _,gV hout2]
     walk_at "w"
     have hst:UD (done,cur) (NB (ch::t'))=(done,cur++[NB (ch::t')]):=if_neg g3
     refine⟨rfl,rfl,_,r,refs,c,done,cur++[NB (ch::t')],by walk_at "l",by walk_at "l",hpush.2,.inl ⟨pre++[ch],t',l',P++[ch::t'],ts'',by rw [hl];simp,?_,?_,by rw [hall];simp,hcut',?_,by rw [QA];exact eE hb1,by rw [QA,QA];exact XB hb2⟩⟩
     ·rw [hx2,show (pre++[ch]).length=pre.length+1 from QA];rfl
     ·rw [show (pre++[ch]).length+t'.length=pre.length+1+t'.length by rw [QA];rfl]
      walk_at "l"
     ·rw [aB,gG,<- hfold];exact hst.symm
    ·have hnum:NB (ch::t')=SH (ch::t'):=if_neg (by rw [g1];decide)
     walk_at "w"
     refine sQ (c:=false) (congrArg some g1) ?_
     walk_at "w"
     refine Wr ?_
     walk_at "w"
     rw [<-hnum] at g2 g3 ⊢
     refine RS (b:=true) (decide_eq_true g3) ?_
     walk_at "w"
     refine QS (b:=false) (decide_eq_false (fL.mpr g3)) ?_
     walk_at "w"
     refine PS (b:=false) (decide_eq_false (PM g2)) ?_
     walk_at "w"
     refine W.of (a:=[.str [84],.str [70],.str [70]]) (s:=s) (by kernel_rfl!) ?_
     walk_at "w"
     refine W.of (a:=.str [84,70,70]) (s:=s) (by kernel_rfl!) ?_
     walk_at "w"
     refine HN (vs:=refs.map V.ref) (v:=.ref c) hout (by rw [AA];exact hcl) ?_
     walk_at "w"
     refine MG hpush.1 hcc ?_
     walk_at "w"
     by_cases h13:NB (ch::t')=13
     ·have h13':decide (NB (ch::t')=13)=true:=decide_eq_true h13
      have hrlt:r<s.length:=(sF.mp hout).1
      refine QN hout2 ?_
      walk_at "w"
      refine lN (xs:=(refs++[c]).map V.ref) (by rw [OC (by simpa using hrlt)];exact hout2) (by rw [QA,AA,QA];exact jA (XB (XB (by rw [hrl];exact jA hb1 hpl))) (by decide)) ?_
      have hmore:=hpush.2.more (by simpa using hrlt)
      walk_at "w"
      have hst:UD (done,cur) (NB (ch::t'))=(done++[cur++[NB (ch::t')]],[]):=if_pos h13
      refine⟨rfl,rfl,_,r,refs++[c],_,done++[cur++[NB (ch::t')]],[],by walk_at "l",by walk_at "l",hmore,.inl ⟨pre++[ch],t',l',P++[ch::t'],ts'',by rw [hl];simp,?_,?_,by rw [hall];simp,hcut',?_,by rw [QA,QA];exact XB hb1,iE _⟩⟩
      ·rw [hx2,show (pre++[ch]).length=pre.length+1 from QA];rfl
      ·rw [show (pre++[ch]).length+t'.length=pre.length+1+t'.length by rw [QA];rfl]
       walk_at "l"
      ·rw [aB,gG,<- hfold];exact hst.symm
     ·have h13':decide (NB (ch::t')=13)=false:=decide_eq_false h13
      refine QN hout2 ?_
      walk_at "w"
      refine lN hout2 (by rw [bC,AA,QA];exact hcl) ?_
      rw [show XH V.ref (refs++[c])++[]=XH V.ref (refs++[c]) from bC _,gV hout2]
      walk_at "w"
      have hst:UD (done,cur) (NB (ch::t'))=(done,cur++[NB (ch::t')]):=if_neg h13
      refine⟨rfl,rfl,_,r,refs,c,done,cur++[NB (ch::t')],by walk_at "l",by walk_at "l",hpush.2,.inl ⟨pre++[ch],t',l',P++[ch::t'],ts'',by rw [hl];simp,?_,?_,by rw [hall];simp,hcut',?_,by rw [QA];exact eE hb1,by rw [QA,QA];exact XB hb2⟩⟩
      ·rw [hx2,show (pre++[ch]).length=pre.length+1 from QA];rfl
      ·rw [show (pre++[ch]).length+t'.length=pre.length+1+t'.length by rw [QA];rfl]
       walk_at "l"
      ·rw [aB,gG,<- hfold];exact hst.symm
  ·cases hx
 ·refine⟨_,_,[],st.length,[],[],by walk_at "l",by walk_at "l",?_,.inl ⟨[],[],l,[],ts,rfl,rfl,by first|exact sv_hit|exact sv_skip (by kernel_rfl!) sv_hit,rfl,hc,rfl,sA _,sA _⟩⟩
  constructor
  ·rw [GG (sA _)];simp
  ·rfl
  ·intro k i row e1 e2
   match k,e1,e2 with
   | 0,e1,e2 =>
    cases e1;cases e2
    rw [OC (by simp),GG (sA _)];simp
   | k+1,e1,_=>simp at e1
  ·simp
  ·simp
  ·intro i hi;simp at hi;subst hi;simp
  ·intro i hi;simp at hi;exact FB hi.symm
  ·simp
  ·intro i hi
   rw [qB,OC hi]
  ·simp
theorem Jq{st:Ev.St}{l:List V}{Q:V->Prop}(q:Q (.lst l.reverse)):∃ r,RK st (.lst l) .none .none (.int (-1))=some r/\Q r:=⟨_,rfl,q⟩
theorem ft{Γ:Ev.Ctx}{t:IA}{ρ:Fr}{st:Ev.St}{Q:KX}(h:W (XA Γ [t] ρ) st Q):W (PB Γ t ρ) st Q:=by
 refine (W.bind' (show W (PB Γ t ρ>>=fun o=>match o with|(.next,ρ')=>XA Γ [] ρ'|o=>pure o) st Q from h)).mono fun o s h=>?_
 obtain⟨fl,ρ'⟩:=o
 cases fl
 ·obtain⟨_,_,e,q⟩:=h;cases e;exact q
 ·obtain⟨_,_,e,q⟩:=h;cases e;exact q
noncomputable def sE:List (List Nat×List Nat):=[([75],[97,98,99,100])]
theorem iY:clean [75]/\clean [97,98,99,100]:=⟨by unfold clean;decide,by unfold clean;decide⟩
theorem J9{n i:Nat}{st:Ev.St}{Q:V->Ev.St->Prop}(hi:st[i]? = some (.list (sE.map UB)))(q:Q (.hd i) st):W ((LA ZB (n+3)).call (.ty "Headers") [.ref i] []) st Q:=by
 show W (do
  let p <- Ev.gt (some (aE,SA 3))
  match <- PB (LA ZB (n+2)) p.2 ⟨p.1,[("self",.hd i),("headers",.ref i)],fun _=>.none⟩ with
  | (.next,_)=>pure (.hd i)
  | _=>yA) st Q
 refine W.bind (W.gt rfl (W.bind (W.mono (P:=fun o s=>o.1 = .next/\s=st) (ft ?_) fun o s h=>?_)))
 ·rw [RZ]
  refine x_If (W.of (a:=true) (s:=st) (by kernel_rfl!) ?_)
  conv=>arg 1;arg 2;whnf
  walk_at "w"
  refine pI hi ?_
  refine qQ ?_
  show W (TH _ _ _ (.tup [.str [75],.str [97,98,99,100]]) _) _ _
  walk_at "w"
  conv=>arg 1;arg 2;whnf
  walk_at "w"
  refine YI iY.1 ?_
  walk_at "w"
  refine YI iY.2 ?_
  walk_at "w"
  refine⟨(),st,zO hi rfl,?_⟩
  refine l_nil ?_
  walk_at "w"
  exact⟨rfl,rfl⟩
 ·obtain⟨fl,ρ'⟩:=o
  obtain⟨rfl,rfl⟩:=h
  exact W.pure q
noncomputable def bF(hs:List (List Nat×List Nat))(nm:List Nat):List Nat:=match hs.find? fun h=>decide (h.1.map lo1=nm) with|some h=>h.2|none=>[]
theorem Ye(hs:List (List Nat×List Nat))(nm:List Nat):RD hs nm (.str []) = .str (bF hs nm):=by
 unfold RD bF
 cases hs.find? fun h=>decide (h.1.map lo1=nm)<;>rfl
noncomputable def mJ(t:List Nat):Nat:=(((UA 4).filter fun x=>isIn [97+x] t).map (2 ^ ·)).sum
noncomputable def gB(v x:Nat):Bool:=v / 2^x%2==1
theorem j9:∀ a:Nat,a<16->∀ y:Nat,y<4->(Builtin.bitAnd ((a:Int) / 2^y) 1 != 0)=gB a y:=by decide +kernel
noncomputable def KD(v:Nat):List Nat:=((UA 4).filter (gB v)).map (97 + ·)
noncomputable def uG(n:Int):Nat:=[107,102,105,108,109,110,111,112,113,122].getD (n - 256).toNat 0
noncomputable def eD(wy:List Nat->List Nat)(hs:List (List Nat×List Nat))(s:Nat×List Nat)(n:Int):Nat×List Nat :=
 if n=31 then (15 - s.1,s.2) else if n=33 then (LB (wy s.2) s.1,[]) else if n=257 then (s.1,102::s.2) else if n=258 then (s.1,105::s.2) else if 255<n then (s.1 &&& mJ (bF hs [uG n]),s.2) else s
def yG:List Nat->List Int->Prop
 | _,[]=>True
 | w,n::l=>(n=33->w∈hB)/\n<266/\w.length<=2/\yG (if n=33 then [] else if n=257 then 102::w else if n=258 then 105::w else w) l
noncomputable def KM(wy:List Nat->List Nat)(hs:List (List Nat×List Nat))(row:List Int):Nat:=((row.drop 2).reverse.foldl (eD wy hs) (15,[])).1
noncomputable def AF(wy:List Nat->List Nat)(hs:List (List Nat×List Nat))(row:List Int):List (List Nat×List Nat):=hs++[([uG (row.getD 0 0) - 32],KD (KM wy hs row))]
inductive MF(wy:List Nat->List Nat):List (List Nat×List Nat)->List (List Int)->Prop
 | nil {hs}:MF wy hs []
 | cons {hs row rest} (h1:row.length<=1000/\1<=row.length) (h2:256<=row.getD 0 0/\row.getD 0 0<266) (h3:yG [] (row.drop 2).reverse) (h4:RD hs [uG (row.getD 0 0)] .none = .none) (h:MF wy (AF wy hs row) rest):MF wy hs (row::rest)
theorem R0:∀ k:Nat,k<10->([[107,102,105,108,109,110,111,112,113,122].getD k 0 - 32].map lo1=[[107,102,105,108,109,110,111,112,113,122].getD k 0]/\[[107,102,105,108,109,110,111,112,113,122].getD k 0].map lo1=[[107,102,105,108,109,110,111,112,113,122].getD k 0] /\
  32<=[107,102,105,108,109,110,111,112,113,122].getD k 0 - 32/\[107,102,105,108,109,110,111,112,113,122].getD k 0<127/\(cB "kfilmnopqz").getD k 0=[107,102,105,108,109,110,111,112,113,122].getD k 0/\(cB "KFILMNOPQZ").getD k 0=[107,102,105,108,109,110,111,112,113,122].getD k 0 - 32):=by decide +kernel
theorem di:(cB "kfilmnopqz").length=10/\(cB "KFILMNOPQZ").length=10/\cB "fi" = [102,105]/\cB "abcd" = [97,98,99,100]/\cB "K" = [75]:=by decide +kernel
theorem P1{n:Int}(h:256<=n)(h':n<266):(n - 256).toNat<10:=(FG (OO h)).mpr (iW (bL h' (by decide)))
theorem Pr:∀ v:Nat,v<16->((KD v).length<=4/\∀ c∈KD v,32<=c/\c<127):=by decide +kernel
theorem Yq{wy:List Nat->List Nat}{hs:List (List Nat×List Nat)}{s:Nat×List Nat}(h:s.1<16)(n:Int):(eD wy hs s n).1<16:=by
 unfold eD
 split
 ·exact iB (wC _ _) (by decide)
 ·split
  ·exact HO _
  ·split
   ·exact h
   ·split
    ·exact h
    ·split
     ·exact iB UM h
     ·exact h
theorem Zq(wy:List Nat->List Nat)(hs:List (List Nat×List Nat))(s:Nat×List Nat)(n:Int):(eD wy hs s n).2=(if n=33 then [] else if n=257 then 102::s.2 else if n=258 then 105::s.2 else s.2):=by
 unfold eD
 by_cases h1:n=31
 ·subst h1;rfl
 ·rw [if_neg h1]
  split
  ·rfl
  ·split
   ·rfl
   ·split
    ·rfl
    ·split<;>rfl
inductive oW(wy:List Nat->List Nat)(hs:List (List Nat×List Nat))(fin:Nat)(js:List V)(b:Nat)(row:V)(st:Ev.St)(sc:List (Str×GA)):List V->Fr->Ev.St->Prop
 | mk {xs:List V} (vars:List (Str×V)) (rest:List Int) (v:Nat) (w:List Nat) (hx:xs=rest.map V.int) (hv:v<16) (hw:yG w rest) (hf:(rest.foldl (eD wy hs) (v,w)).1=fin)
  (v1:vars.lookup ("ways":Str)=some (.dct hB js)) (v2:vars.lookup ("sets":Str)=some (.hd b)) (v3:vars.lookup ("laid":Str)=some (.ref (b+1))) (v4:vars.lookup ("value":Str)=some (.int v)) (v5:vars.lookup ("word":Str)=some (.str w)) (v6:vars.lookup ("row":Str)=some row):oW wy hs fin js b row st sc xs ⟨sc,vars,fun _=>none⟩ st
noncomputable def stH(st:Ev.St)(hs:List (List Nat×List Nat))(k:Nat):Ev.St:=st++[O.list (hs.map UB),O.list (NC k (V.bool true))]
inductive pW(wy:List Nat->List Nat)(fin:List (List Nat×List Nat))(tot:Nat)(js:List V)(st:Ev.St)(R:List (List Int))(sc:List (Str×GA)):List V->Fr->Ev.St->Prop
 | mk {xs:List V}{s:Ev.St} (vars:List (Str×V)) (hs:List (List Nat×List Nat)) (k:Nat) (refs:List Nat) (rest:List (List Int)) (hx:xs=refs.map .ref) (hl:refs.length=rest.length) (hrow:∀ (j i:Nat) (row:List Int),refs[j]? = some i->rest[j]? = some row->st[i]? = some (O.list (row.map V.int))) (hs':s=stH st hs k) (hd:MF wy hs rest) (hk:k+rest.length=tot) (hf:rest.foldl (AF wy) hs=fin) (ha:∀ h∈hs,nD h.1) (hhl:hs.length+rest.length<=900)
  (v1:vars.lookup ("ways":Str)=some (.dct hB js)) (v2:vars.lookup ("sets":Str)=some (.hd st.length)) (v3:vars.lookup ("laid":Str)=some (.ref (st.length+1))):pW wy fin tot js st R sc xs ⟨sc,vars,fun _=>none⟩ s
theorem X4{st:Ev.St}{hs:List (List Nat×List Nat)}{k:Nat}:(stH st hs k)[st.length]? = some (O.list (hs.map UB)):=by
 unfold stH;rw [GG (sA _),NI];rfl
theorem qV{st:Ev.St}{hs:List (List Nat×List Nat)}{k:Nat}:(stH st hs k)[st.length+1]? = some (O.list (NC k (V.bool true))):=by
 unfold stH;rw [GG (BB _ 1),JR];rfl
theorem YQ{st:Ev.St}{hs:List (List Nat×List Nat)}{k i:Nat}{o:O}(h:st[i]? = some o):(stH st hs k)[i]? = some o:=by
 unfold stH;rw [OC (sF.mp h).1];exact h
theorem br{st:Ev.St}{hs hs':List (List Nat×List Nat)}{k:Nat}:(stH st hs k).set st.length (O.list (hs'.map UB))=stH st hs' k:=by
 unfold stH;rw [MI _ _ (sA _),NI];rfl
theorem ar{st:Ev.St}{hs:List (List Nat×List Nat)}{k:Nat}:(stH st hs k).set (st.length+1) (O.list (NC k (V.bool true)++[V.bool true]))=stH st hs (k+1):=by
 unfold stH;rw [MI _ _ (BB _ 1),JR,List.replicate_succ'];rfl
theorem tq(i:Nat):xJ (.ref i) (.ref i)=true:=by show (some i==some i)=true;simp
theorem in_str{gd:Str->Option (List (V×V))}{st:Ev.St}{a b:List Nat}{Q:Bool->Prop}(q:Q (isIn a b)):∃ c,ID gd st .In (.str a) (.str b)=some c/\Q c:=⟨_,rfl,q⟩
theorem eT{gd:Str->Option (List (V×V))}{st:Ev.St}{t a b:Int}{Q:Bool->Prop}(q:Q (decide (a=t)||(decide (b=t)||false))):∃ c,ID gd st .In (.int t) (.tup [.int a,.int b])=some c/\Q c:=by
 refine⟨_,?_,q⟩
 show some (OA.eqv (.int a) (.int t)||(OA.eqv (.int b) (.int t)||false))=_
 rw [qL,qL]
theorem Ec{n r:Nat}{wy:List Nat->List Nat}{js:List V}{st:Ev.St}{refs:List Nat}{R:List (List Int)}{Q:V->Ev.St->Prop}(hw:LG js wy st)(hr:st[r]? = some (O.list (refs.map V.ref)))(hl:refs.length=R.length)(hrow:∀ (j i:Nat) (row:List Int),refs[j]? = some i->R[j]? = some row->st[i]? = some (O.list (row.map V.int)))
  (hd:MF wy sE R) (hR:R.length<=800) (q:Q (.tup [.hd st.length,.ref (st.length+1)]) (stH st (R.foldl (AF wy) sE) R.length)):W ((LA ZB (n+6)).call (.fn "_law_done") [.ref r,.dct hB js] []) st Q:=by
 refine KE (d:=uA (stm 76)) (by kernel_rfl!) (by kernel_rfl!) (pD [("rows",.ref r),("ways",.dct hB js)] (by kernel_rfl!) (by kernel_rfl!) ?_)
 conv=>arg 1;arg 2;whnf
 obtain⟨c1,c2,c3,c4,c5⟩:=di
 walk_at "w"
 have e0:st++[O.list [V.tup [V.str (cB "K"),V.str (cB "abcd")]]]=st++[O.list (sE.map UB)]:=by rw [c5,c4];rfl
 rw [e0]
 have h0:(st++[O.list (sE.map UB)])[st.length]? = some (O.list (sE.map UB)):=ZG
 refine J9 h0 ?_
 walk_at "w"
 have e1:(st++[O.list (sE.map UB)]).length=st.length+1:=by rw [QA];rfl
 have e2:st++[O.list (sE.map UB)]++[O.list []]=stH st sE 0:=by rw [qB];rfl
 rw [e1,e2]
 have hrt:=YQ (hs:=sE) (k:=0) hr
 refine pI hrt ?_
 refine WF (pW wy (R.foldl (AF wy) sE) R.length js st R (uA (stm 76)).sc.names) ?_ ?_ _ ?_
 ·rintro _ _ ⟨vars,hs,k,refs',rest,hx,hl',hrow',rfl,hd',hk,hf,ha,hhl,v1,v2,v3⟩
  have h1:refs'=[]:=by simpa using hx.symm
  subst h1
  obtain rfl:rest=[]:=nL hl'.symm
  have hf':hs=R.foldl (AF wy) sE:=hf
  have hk':k=R.length:=hk
  subst hf' hk'
  show W (XA _ _ _) _ _
  walk_at "w"
  exact q
 ·rintro x xs _ _ ⟨vars,hs,k,refs',rest,hx,hl',hrow',rfl,hd',hk,hf,ha,hhl,v1,v2,v3⟩
  rcases refs' with _|⟨c,refs'⟩
  ·cases hx
  cases hd' with
  | nil=>cases hl'
  | @cons _ row rest h1 h2 h3 h4 hd' =>
  rw [sB] at hx
  injection hx with hx1 hx2
  subst hx1
  have hrt':=hr
  have hrc:=YQ (hs:=hs) (k:=k) (hrow' 0 c row rfl rfl)
  have hrcap:(row.map V.int).length<=cap:=by rw [AA];exact jA h1.1 (by decide)
  have hw':LG js wy (stH st hs k):=by unfold stH;exact hw.ext _
  have hhd:=X4 (st:=st) (hs:=hs) (k:=k)
  have hld:=qV (st:=st) (hs:=hs) (k:=k)
  have hhl':hs.length<=1000:=jA (jA (BB _ _) hhl) (by decide)
  walk_at "w"
  refine lV hrc (BS 2 rfl hrcap) ?_
  rw [<-List.map_drop]
  have hdc:((row.drop 2).map V.int).length<=cap:=by rw [AA,RM];exact jA (wC _ _) (jA h1.1 (by decide))
  refine w_mkL (w_mkV hdc (by kernel_rfl!) ?_)
  walk_at "w"
  refine Jq ?_
  rw [<-List.map_reverse]
  refine w_mkL (w_mkV (by rw [AA,List.length_reverse,RM];exact jA (wC _ _) (jA h1.1 (by decide))) (by kernel_rfl!) ?_)
  walk_at "w"
  refine WF (oW wy hs (KM wy hs row) js st.length (.ref c) (stH st hs k) (uA (stm 76)).sc.names) ?_ ?_ _ ?_
  ·rintro _ _ ⟨vars,rest2,v,w,hx,hv,hok,hfv,v1,v2,v3,v4,v5,v6⟩
   have h5:rest2=[]:=by simpa using hx.symm
   subst h5
   have hfv':v=KM wy hs row:=hfv
   obtain⟨t1,t2⟩:=Pr v hv
   have hi10:=P1 h2.1 h2.2
   obtain⟨l1,l2,l3,l4,l5,l6⟩:=R0 _ hi10
   show W (XA _ _ _) _ _
   walk_at "w"
   refine lH (fun (i:Nat)=>V.int i) (gB v) (fun x=>.str [97+x]) rfl (UA 4) (fun x hx=>?_) ?_
   ·have hx4:x<4:=by simpa using hx
    walk_at "w"
    refine rQ (vB _) ?_
    walk_at "w"
    rw [fG,j9 v hv x hx4]
    cases hb:gB v x
    ·walk_at "w"
     exact⟨rfl,rfl⟩
    ·walk_at "w"
     refine iJ (by kernel_rfl!) (vB _) (by rw [vL.1];exact kD.mpr hx4) ?_
     rw [fG,aN x hx4]
     exact⟨rfl,rfl⟩
   have hfl:((UA 4).filter (gB v)).length<=4:=jA (IG _ _) (by simp)
   refine w_mkV (by rw [AA];exact jA hfl (by decide)) (by kernel_rfl!) ?_
   rw [show cB "" = [] by decide +kernel]
   walk_at "w"
   have ej:((((UA 4).filter (gB v)).map fun x=>[97+x]):List (List Nat)).flatten=KD v:=by
    unfold KD
    generalize (UA 4).filter (gB v)=L
    induction L with
    | nil=>rfl
    | cons a L ih=>rw [sB,sB,NO,ih];rfl
   refine NX (xs:=((UA 4).filter (gB v)).map fun x=>[97+x]) (by rw [jC];rfl) ?_ ?_ ?_
   ·rw [ej,AA];exact jA (JI t1 hfl) (by decide)
   ·rw [ej,YA];exact fun c hc=>decide_eq_true (uD (t2 c hc).2 (by decide))
   rw [ej]
   generalize hxt:KD v=tx at *
   walk_at "w"
   refine IN (v:=.int (row.getD 0 0)) hrc hrcap (by decide) (by rw [AA];exact kD.mpr h1.2) (by rw [UE,FE];rcases row with _|⟨a,b⟩;exact absurd h1.2 (by decide);rfl) ?_
   walk_at "w"
   refine iJ (by kernel_rfl!) (OO h2.1) (by rw [c2];exact iW (bL h2.2 (by decide))) ?_
   rw [l6]
   walk_at "w"
   refine aZ hhd ⟨fun c hc=>by rw [BA.mp hc];exact⟨l3,iB (wC _ _) l4⟩,by simp⟩ (fun c hc=>⟨(t2 c hc).1,iD (t2 c hc).2⟩) ha hhl' (fun w hg=>?_) fun _=>?_
   ·rw [l1] at hg
    exact nomatch hg.symm.trans h4
   rw [br]
   walk_at "w"
   rw [show decide (tx=tx)=true from decide_eq_true rfl]
   refine MG (xs:=NC k (.bool true)) qV (by rw [List.length_replicate];exact jA (D0 (jA (FB hk) hR)) (by decide)) ?_
   rw [ar]
   walk_at "w"
   refine⟨rfl,zO (YQ hrt') (EM tq refs),_,AF wy hs row,k+1,refs',rest,hx2,Nat.succ.inj hl',fun j i row h1 h2=>hrow' (j+1) i row h1 h2,?_,hd',sk hk,hf,?_,?_,by walk_at "l",by walk_at "l",by walk_at "l"⟩
   ·show stH st (hs++[_]) (k+1)=stH st (hs++[_]) (k+1)
    rw [<-hfv',hxt]
    rfl
   ·intro h hh
    rcases GB.mp hh with q|q
    ·exact ha h q
    ·rw [BA.mp q];exact⟨fun c hc=>by rw [BA.mp hc];exact⟨l3,iB (wC _ _) l4⟩,by simp⟩
   ·show (hs++[_]).length+rest.length<=900
    rw [QA];exact CT hhl
  ·rintro x xs _ _ ⟨vars,rest2,v,w,hx,hv,hok,hfv,v1,v2,v3,v4,v5,v6⟩
   rcases rest2 with _|⟨m,rest2⟩
   ·cases hx
   rw [sB] at hx
   injection hx with hx1 hx3
   subst hx1
   obtain⟨k1,k2,k3,k4⟩:=hok
   have hlt:=Yq (wy:=wy) (hs:=hs) (s:=(v,w)) hv m
   have hsw:=Zq wy hs (v,w) m
   rw [<-hsw] at k4
   have hfv2:(rest2.foldl (eD wy hs) (eD wy hs (v,w) m)).1=KM wy hs row:=hfv
   by_cases h31:m=31
   ·have e31:eD wy hs (v,w) m=(15 - v,w):=if_pos h31
    rw [e31] at hlt k4 hfv2
    have d31:decide (m=31)=true:=decide_eq_true h31
    walk_at "w"
    refine⟨rfl,rfl,_,rest2,15 - v,w,hx3,hlt,k4,hfv2,by walk_at "l",by walk_at "l",by walk_at "l",?_,by walk_at "l",by walk_at "l"⟩
    refine sv_hit.trans ?_
    rw [show ((15 - v:Nat):Int)=15 - v from Int.ofNat_sub (dG hv)]
   ·have d31:decide (m=31)=false:=decide_eq_false h31
    have e31:eD wy hs (v,w) m=_:=if_neg h31
    by_cases h33:m=33
    ·have e33:eD wy hs (v,w) m=(LB (wy w) v,[]):=e31.trans (if_pos h33)
     rw [e33] at hlt k4 hfv2
     have d33:decide (m=33)=true:=decide_eq_true h33
     obtain⟨wm,j,wj,wr⟩:=hw' w (k1 h33)
     walk_at "w"
     refine PN (JC (wy w) v) rfl (fun a ha=>?_) ?_
     ·walk_at "w"
      refine jQ wj ?_
      walk_at "w"
      refine JN wr wm ha ?_
      walk_at "w"
      rw [(NJ _ (wm.at ha) _ hv).1]
      unfold JC
      by_cases h0:(wy w).getD a 0 &&& v=0
      ·rw [decide_eq_true h0,h0]
       walk_at "w"
       exact⟨rfl,rfl⟩
      ·have hb:((((wy w).getD a 0 &&& v:Nat):Int) != 0)=true:=bne_iff_ne.mpr fun e=>h0 (xH.inj e)
       rw [decide_eq_false h0]
       walk_at "w"
       refine TL ⟨vB _,CD.mpr (kC (cC ha (by decide))),by decide⟩ ?_
       exact⟨rfl,rfl⟩
     refine w_mkV (vO _) (by kernel_rfl!) ?_
     walk_at "w"
     refine nN _ ?_
     walk_at "w"
     refine⟨rfl,rfl,_,rest2,LB (wy w) v,[],hx3,hlt,k4,hfv2,by walk_at "l",by walk_at "l",by walk_at "l",?_,?_,by walk_at "l"⟩
     ·first|exact sv_hit|exact sv_skip (by kernel_rfl!) sv_hit
     ·first|exact sv_hit|exact sv_skip (by kernel_rfl!) sv_hit
    ·have d33:decide (m=33)=false:=decide_eq_false h33
     have e33:eD wy hs (v,w) m=_:=e31.trans (if_neg h33)
     by_cases h257:m=257
     ·subst h257
      have ew:eD wy hs (v,w) 257=(v,102::w):=rfl
      rw [ew] at hlt k4 hfv2
      walk_at "w"
      refine eT ?_
      walk_at "w"
      refine mI (v:=.str [102]) (by rw [c3];rfl) ?_
      walk_at "w"
      refine eF (show ([102]++w).length<=cap from jA (XB k3) (by decide)) ?_
      walk_at "w"
      refine⟨rfl,rfl,_,rest2,v,102::w,hx3,hlt,k4,hfv2,by walk_at "l",by walk_at "l",by walk_at "l",by walk_at "l",sv_hit,by walk_at "l"⟩
     ·by_cases h258:m=258
      ·subst h258
       have ew:eD wy hs (v,w) 258=(v,105::w):=rfl
       rw [ew] at hlt k4 hfv2
       walk_at "w"
       refine eT ?_
       walk_at "w"
       refine mI (v:=.str [105]) (by rw [c3];rfl) ?_
       walk_at "w"
       refine eF (show ([105]++w).length<=cap from jA (XB k3) (by decide)) ?_
       walk_at "w"
       refine⟨rfl,rfl,_,rest2,v,105::w,hx3,hlt,k4,hfv2,by walk_at "l",by walk_at "l",by walk_at "l",by walk_at "l",sv_hit,by walk_at "l"⟩
      ·have e258:eD wy hs (v,w) m=if 255<m then (v &&& mJ (bF hs [uG m]),w) else (v,w):=e33.trans ((if_neg h257).trans (if_neg h258))
       walk_at "w"
       refine eT ?_
       rw [show (decide ((257:Int)=m)||(decide ((258:Int)=m)||false))=false by rw [decide_eq_false (fun e=>h257 e.symm),decide_eq_false (fun e=>h258 e.symm)];rfl]
       walk_at "w"
       by_cases h255:255<m
       ·have e255:eD wy hs (v,w) m=(v &&& mJ (bF hs [uG m]),w):=e258.trans (if_pos h255)
        rw [e255] at hlt k4 hfv2
        have hi10:=P1 (n:=m) h255 k2
        obtain⟨l1,l2,l3,l4,l5,l6⟩:=R0 _ hi10
        rw [decide_eq_true h255]
        walk_at "w"
        refine iJ (by kernel_rfl!) (OO h255) (by rw [c1];exact iW (bL k2 (by decide))) ?_
        rw [l5]
        walk_at "w"
        have hasc:nD [uG m]:=⟨fun c hc=>by rw [BA.mp hc];exact⟨jA l3 (wC _ _),l4⟩,by simp⟩
        refine YY (dv:=.str (cB "")) (by kernel_rfl!) hhd hasc ha hhl' ?_
        rw [show cB "" = [] by decide +kernel,show [uG m].map lo1=[uG m] from l2,Ye]
        walk_at "w"
        refine PN (fun x=>isIn [97+x] (bF hs [uG m])) rfl (fun a ha4=>?_) ?_
        ·walk_at "w"
         refine iJ (by kernel_rfl!) (vB _) (by rw [vL.1];exact kD.mpr ha4) ?_
         rw [fG,aN a ha4]
         walk_at "w"
         refine in_str ?_
         cases hb:isIn [97+a] (bF hs [uG m])
         ·walk_at "w"
          exact⟨rfl,rfl⟩
         ·walk_at "w"
          refine TL ⟨vB _,CD.mpr (kC (cC ha4 (by decide))),by decide⟩ ?_
          exact⟨rfl,rfl⟩
        refine w_mkV (vO _) (by kernel_rfl!) ?_
        walk_at "w"
        refine nN _ ?_
        refine zh ?_
        rw [(NJ _ hv _ (HO _)).1]
        walk_at "w"
        refine⟨rfl,rfl,_,rest2,v &&& mJ (bF hs [uG m]),w,hx3,hlt,k4,hfv2,by walk_at "l",by walk_at "l",by walk_at "l",sv_hit,by walk_at "l",by walk_at "l"⟩
       ·have e255:eD wy hs (v,w) m=(v,w):=e258.trans (if_neg h255)
        rw [e255] at hlt k4 hfv2
        rw [decide_eq_false h255]
        walk_at "w"
        exact⟨rfl,rfl,_,rest2,v,w,hx3,hlt,k4,hfv2,by walk_at "l",by walk_at "l",by walk_at "l",by walk_at "l",by walk_at "l",by walk_at "l"⟩
  ·refine⟨_,(row.drop 2).reverse,15,[],rfl,by decide,h3,rfl,by walk_at "l",by walk_at "l",by walk_at "l",?_,?_,by walk_at "l"⟩
   ·first|exact sv_hit|exact sv_skip (by kernel_rfl!) sv_hit
   ·first|exact sv_hit|exact sv_skip (by kernel_rfl!) sv_hit
 ·exact⟨_,sE,0,refs,R,rfl,hl,hrow,rfl,hd,IF _,rfl,by
   intro h hh
   rw [BA.mp hh]
   exact⟨fun c hc=>by rw [BA.mp hc];decide,by decide⟩,by show 1+R.length<=900;exact jA (EC hR _) (by decide),by walk_at "l",by walk_at "l",by walk_at "l"⟩
theorem PX{P:sC}{n:Nat}{l:List Nat}{st:Ev.St}{Q:V->Ev.St->Prop}(h:l.length<=cap)(q:Q (.lst (l.map fun c=>.str [c])) st):W ((LA P (n+1)).call (.ty "list") [.str l] []) st Q:=by
 show W (if l.length<=cap then pure (.lst (l.map fun c=>.str [c])) else yA) st Q
 rw [if_pos h];exact W.pure q
theorem Ef{gd:Str->Option (List (V×V))}{st:Ev.St}{ks:List (List Nat)}{vs:List V}{a:List Nat}{Q:Bool->Prop}(q:Q (ks.contains a)):∃ c,ID gd st .In (.str a) (.dct ks vs)=some c/\Q c:=⟨_,rfl,q⟩
noncomputable def BG:List (List Nat):=[[],[63],[61],[38],[126],[60,60],[62,62],[59]]
noncomputable def PK:List V:=[.int 0,.int 255,.int 22,.int 19,.int 31,.int 33,.int 34,.int 13]
noncomputable def PA(p:List Nat):Int:=match EH BG PK p with|some (.int i)=>i|_=>256+((yF (cB "kfilmnopqz") p).getD 0:Nat)
noncomputable def fD(s:HB):List (List Nat):=[[s.1],[61],[s.2.1],[38]]++s.2.2.1.flatMap (fun m=>((if m.1 then [126] else []:List Nat).map fun c=>[c])++[[60,60]]++(m.2.map fun c=>[c])++[[62,62]])++[[s.2.2.2]]
noncomputable def sJ(s:HB):List (List Nat):=fD s++(if s.1=122 then [[63],[]] else [[59]])
noncomputable def zC(s:HB):List Int:=(sJ s).map PA
noncomputable def SB:List Nat:=[107,108,109,110,111,112,113,122]
structure FD(s:HB):Prop where
 nw:s.1∈SB
 nm:s.2.1∈SB
 ot:s.2.2.2∈SB
 ml:s.2.2.1.length<=3
 mw:∀ m∈s.2.2.1,m.2∈hB
theorem oj:SB.all (fun c=>lets.contains c && !BG.contains [c]&&(yF (cB "kfilmnopqz") [c]).isSome)=true:=by decide +kernel
theorem kJ{c:Nat}(h:c∈SB):c∈lets:=by
 have:=YA.mp oj c h
 simp only [KA] at this
 simpa using this.1.1
noncomputable def sM:List (List Nat):=BG++(102::105::SB).map fun c=>[c]
theorem Zo:sM.all (fun p=>if BG.contains p then (match EH BG PK p with|some (.int i)=>i==PA p|_=>false) else (match yF (cB "kfilmnopqz") p with|some k=>PA p==256+k|none=>false))=true:=by decide +kernel
theorem Fa:cB "" = []/\cB "=" = [61]/\cB "&" = [38]/\cB "<<" = [60,60]/\cB ">>" = [62,62]/\cB ";" = [59]/\cB "?" = [63]/\cB "z" = [122]/\cB "~" = [126]:=by decide +kernel
noncomputable def CG(m:Bool×List Nat):List Nat:=(if m.1 then [126] else [])++([60,60]++(m.2++[62,62]))
noncomputable def DF(s:HB):List Nat:=[s.1,61,s.2.1,38]++(s.2.2.1.flatMap CG++[s.2.2.2,59])
theorem V4{c d:Nat}(hc:c∈[126,60,62,59,61,38])(hd:d∈[126,60,62,59,61,38]):Sp 2 [c,d] [c,d]:=(SK hc).app (SK hd)
theorem U4:Sp 0 [] []:=⟨sA _,rfl,rfl⟩
theorem Rq(b:Bool):Sp 1 (if b then [126] else []) (if b then [126] else []):=by cases b;exact U4.le (by decide);exact SK (by decide)
inductive vW(K:Nat)(fin:List Nat)(z:List (Str×V)->Prop)(st:Ev.St)(sc:List (Str×GA)):List V->Fr->Ev.St->Prop
 | mk {xs:List V} (vars:List (Str×V)) (rest:List (Bool×List Nat)) (u t:List Nat) (hx:xs=rest.map lJ) (hm:∀ m∈rest,m.2∈hB) (hS:Sp (K - 9*rest.length) u t) (hK:9*rest.length<=K) (hf:u++rest.flatMap CG=fin) (v1:vars.lookup ("text":Str)=some (.str t)) (hz:z vars):vW K fin z st sc xs ⟨sc,vars,fun _=>none⟩ st
structure WV(vars:List (Str×V))(b:Nat)(f:Int)(s:HB):Prop where
 v1:vars.lookup ("due":Str)=some (.ref b)
 v2:vars.lookup ("signs":Str)=some (.dct BG PK)
 v3:vars.lookup ("first":Str)=some (.int f)
 v4:vars.lookup ("new":Str)=some (.str [s.1])
 v5:vars.lookup ("name":Str)=some (.str [s.2.1])
 v6:vars.lookup ("marks":Str)=some (.lst (s.2.2.1.map lJ))
 v7:vars.lookup ("other":Str)=some (.str [s.2.2.2])
inductive HW(st:Ev.St)(f:Int)(fin:List Nat)(tot:List (List Int))(sc:List (Str×GA)):List V->Fr->Ev.St->Prop
 | mk {xs:List V}{s:Ev.St} (vars:List (Str×V)) (rest:List HB) (u t:List Nat) (D:List (List Int)) (hx:xs=rest.map EI) (hs:s=st++[O.list (D.map fun l=>V.lst (l.map V.int))]) (ho:∀ s∈rest,FD s) (hS:Sp (350 - 40*rest.length) u t) (hK:rest.length<=8) (hf:u++rest.flatMap DF=fin) (hD:D++rest.map zC=tot) (hl:D.length+rest.length<=8)
  (hend:rest≠[]\/∃ u' t',u=u'++[59]/\t=t'++[59]/\Sp 349 u' t') (v0:vars.lookup ("text":Str)=some (.str t)) (v1:vars.lookup ("due":Str)=some (.ref st.length)) (v2:vars.lookup ("signs":Str)=some (.dct BG PK)) (v3:vars.lookup ("first":Str)=some (.int f)):HW st f fin tot sc xs ⟨sc,vars,fun _=>none⟩ s
theorem T8(r:Nat):OD r<1114112:=by
 unfold OD
 exact Ev.XS (by decide) _ (by decide)
theorem Ib{l:List Nat}{c:Nat}(h:l.length+1<=cap):gC (l++[c]) .none (.int (-1))=some l:=by
 unfold gC
 rw [if_neg (by rw [QA];exact CE.mpr h)]
 show (some 0).bind (fun x=>(some (((-1:Int)+((l++[c]).length:Int)).toNat)).bind fun y=>some (((l++[c]).take y).drop x))=_
 have e:((-1:Int)+((l++[c]).length:Int)).toNat=l.length:=by rw [QA];exact m1
 rw [e]
 show some (((l++[c]).take l.length).drop 0)=_
 rw [jW,cL]
theorem Uk{p:List Nat}(h:p∈sM):(BG.contains p=true/\EH BG PK p=some (.int (PA p)))\/(BG.contains p=false/\∃ k:Nat,yF (cB "kfilmnopqz") p=some k/\PA p=256+k):=by
 have h1:=YA.mp Zo p h
 generalize hb:BG.contains p=ohbz
 rcases ohbz with _|_
 ·rw [hb,if_neg (by decide)] at h1
  refine .inr ⟨rfl,?_⟩
  generalize hd:yF (cB "kfilmnopqz") p=ohdz
  rcases ohdz with _|k
  ·rw [hd] at h1;cases h1
  ·rw [hd] at h1;exact⟨k,rfl,eq_of_beq h1⟩
 ·rw [hb,if_pos rfl] at h1
  refine .inl ⟨rfl,?_⟩
  generalize hd:EH BG PK p=ohdz
  rcases ohdz with _|v
  ·rw [hd] at h1;cases h1
  ·rw [hd] at h1
   rcases v with ⟨⟩<;>first|exact absurd (show false=true from h1) (by decide)|(rw [eq_of_beq h1])
noncomputable def MB(m:Bool×List Nat):List (List Nat):=(if m.1 then [126] else []:List Nat).map (fun c=>[c])++[[60,60]]++(m.2.map fun c=>[c])++[[62,62]]
theorem QT{c:Nat}(h:c∈SB):[c]∈sM:=DE _ (TM (NA _ (NA _ h)))
theorem Ys{w:List Nat}(h:w∈hB):∀ c∈w,[c]∈sM:=by
 rcases LM h with rfl|rfl|rfl|rfl<;>decide
theorem Oj{m:Bool×List Nat}(h:m.2∈hB):∀ p∈MB m,p∈sM:=by
 intro p hp
 unfold MB at hp
 rcases GB.mp hp with hp|hp
 ·rcases GB.mp hp with hp|hp
  ·rcases GB.mp hp with hp|hp
   ·generalize hm1:m.1=ohm1z
    rcases ohm1z with _|_
    ·rw [hm1] at hp;cases hp
    ·rw [hm1] at hp;rw [BA.mp hp];decide
   ·rw [BA.mp hp];decide
  ·obtain⟨c,hc,rfl⟩:=rC.mp hp
   exact Ys h c hc
 ·rw [BA.mp hp];decide
theorem Yo{s:HB}(h:FD s):∀ p∈sJ s,p∈sM:=by
 intro p hp
 rcases GB.mp hp with hp|hp
 ·rcases GB.mp hp with hp|hp
  ·rcases GB.mp hp with hp|hp
   ·simp only [bB,aH,or_false] at hp
    rcases hp with rfl|rfl|rfl|rfl
    ·exact QT h.nw
    ·decide
    ·exact QT h.nm
    ·decide
   ·obtain⟨m,hm,hp⟩:=AH.mp hp
    exact Oj (h.mw m hm) p hp
  ·rw [BA.mp hp];exact QT h.ot
 ·split at hp
  ·simp only [bB,aH,or_false] at hp
   rcases hp with rfl|rfl<;>decide
  ·rw [BA.mp hp];decide
theorem H1{m:Bool×List Nat}(h:m.2∈hB):(MB m).length<=5:=by
 have:=JO h
 unfold MB
 simp only [QA,AA,BD,uH]
 rcases m.1 with ⟨⟩<;>simp<;>first|exact jA (EC this _) (by decide)|exact EC this _
theorem D3{s:HB}(h:FD s):(sJ s).length<=30/\(s.2.2.1.flatMap MB).length<=15:=by
 have h1:(s.2.2.1.flatMap MB).length<=15:=jA (xN 5 _ _ fun m hm=>H1 (h.mw m hm)) (yH 5 h.ml)
 refine⟨?_,h1⟩
 show ([[s.1],[61],[s.2.1],[38]]++s.2.2.1.flatMap MB++[[s.2.2.2]]++_:List (List Nat)).length<=30
 simp only [QA,BD,uH]
 have h2:(if s.1=122 then [[63],[]] else [[59]]:List (List Nat)).length<=2:=by split<;>decide
 exact jA (JI (eG (EC h1 _) _) h2) (by decide)
theorem Lc{n:Nat}{pl:List HB}{f:Int}{st:Ev.St}{Q:V->Ev.St->Prop}(ho:∀ s∈pl,FD s)(hne:pl≠[])(hl:pl.length<=8)
  (q:∀ t u',pl.flatMap DF=u'++[59]->Sp 350 (u'++[OD (f%16).toNat]) t->Q (.tup [.str t,.ref st.length]) (st++[O.list ((pl.map zC).map fun l=>V.lst (l.map V.int))])) :
  W ((LA ZB (n+4)).call (.fn "_law_written") [.lst (pl.map EI),.int f] []) st Q:=by
 refine KE (d:=uA (stm 77)) (by kernel_rfl!) (by kernel_rfl!) (pD [("plan",.lst (pl.map EI)),("first",.int f)] (by kernel_rfl!) (by kernel_rfl!) ?_)
 conv=>arg 1;arg 2;whnf
 obtain⟨k1,k2,k3,k4,k5,k6,k7,k8,k9⟩:=Fa
 walk_at "w"
 refine W.of (a:=.dct BG PK) (s:=st++[O.list []]) (by kernel_rfl!) ?_
 walk_at "w"
 refine⟨_,pS (by kernel_rfl!) (AL (oD (by kernel_rfl!) (oD (by kernel_rfl!) (oD (by kernel_rfl!) zL)))),?_⟩
 walk_at "w"
 rw [k1]
 refine WF (HW st f (pl.flatMap DF) (pl.map zC) (uA (stm 77)).sc.names) ?_ ?_ _ ?_
 ·rintro _ _ ⟨vars,rest,u,t,D,hx,rfl,-,hS,-,hf,hD,-,hend,v0,v1,v2,v3⟩
  have:rest=[]:=by simpa using hx.symm
  subst this
  obtain⟨u',t',rfl,rfl,hS'⟩:=hend.resolve_left (by simp)
  rw [LR,bC] at hf
  rw [LO,bC] at hD
  subst hD
  show W (XA _ _ _) _ _
  walk_at "w"
  refine QK (Ib (jA (XB hS'.1) (by decide))) ?_
  walk_at "w"
  refine oT [172,174,846,848,6149,6151,6154,6158,8202,8206,8287,8289,65023,65040,65278,65280] rfl (by kernel_rfl!) (EE _ (by decide)) (by simp;exact wH _ (by decide)) ?_
  walk_at "w"
  refine jN ⟨vB _,kD.mpr (T8 (f%16).toNat)⟩ ?_
  have hq:=hS'.app (Pq f)
  refine eF (hq.cap (by decide)) ?_
  walk_at "w"
  exact q _ u' hf.symm hq
 ·rintro x xs _ _ ⟨vars,rest,u,t,D,hx,rfl,ho,hS,hK,hf,hD,hDl,hend,v0,v1,v2,v3⟩
  rcases rest with _|⟨s,rest⟩
  ·cases hx
  rw [sB] at hx
  injection hx with hx1 hx2
  subst hx1
  have hso:=ho s HA
  obtain⟨nw,nm,marks,ot⟩:=s
  obtain⟨o1,o2,o3,o4,o5⟩:=hso
  have hK':350 - 40*(rest.length+1)+40=350 - 40*rest.length:=Ss _ hK
  show W (TH _ _ _ (.tup [.str [nw],.str [nm],.lst (marks.map lJ),.str [ot]]) _) _ _
  refine x_turn (AL (oD (by kernel_rfl!) (oD (by kernel_rfl!) (oD (by kernel_rfl!) (oD (by kernel_rfl!) zL))))) ?_
  have hSc:=hS.cap (n6 _)
  walk_at "w"
  have p1:=(DI (kJ o1) (f+(t.length:Int))).app (SK (c:=61) (by decide))
  have p2:=p1.app (DI (kJ o2) f)
  have p3:=p2.app (SK (c:=38) (by decide))
  have h1:=hS.app p3
  refine VJ (kJ o1) ?_
  walk_at "w"
  rw [k2]
  refine eF (p1.cap (by decide)) ?_
  walk_at "w"
  refine VJ (kJ o2) ?_
  refine eF (p2.cap (by decide)) ?_
  walk_at "w"
  rw [k3]
  refine eF (p3.cap (by decide)) ?_
  refine xT (h1.cap (Ts _)) ?_
  generalize hu1:u++([nw]++[61]++[nm]++[38])=u1 at h1
  generalize t++([IC nw ((f+(t.length:Int))%12).toNat]++[61]++[IC nm (f%12).toNat]++[38])=t1 at h1 ⊢
  walk_at "w"
  refine WF (vW (350 - 40*(rest.length+1)+4+27) (u1++marks.flatMap CG) (fun vars=>WV vars st.length f (nw,nm,marks,ot)) (st++[O.list (D.map fun l=>V.lst (l.map V.int))]) (uA (stm 77)).sc.names) ?_ ?_ _ ?_
  ·rintro _ _ ⟨vars,rest2,u2,t2,hx,-,hS2,-,hf2,v0,⟨v1,v2,v3,v4,v5,v6,v7⟩⟩
   have:rest2=[]:=by simpa using hx.symm
   subst this
   rw [LR,bC] at hf2
   subst hf2
   show W (XA _ _ _) _ _
   walk_at "w"
   refine VJ (kJ o3) ?_
   walk_at "w"
   rw [k6]
   refine eF (((DI (kJ o3) (f / 3)).app (SK (c:=59) (by decide))).cap (by decide)) ?_
   have h3:=hS2.app (DI (kJ o3) (f / 3))
   have h4:=h3.app (SK (c:=59) (by decide))
   refine xT (by rw [<-qB];exact h4.cap (jA (j6 _ hK) (jA (n6 _) (sA _)))) ?_
   rw [<-qB]
   generalize ht3:t2++[IC ot (f / 3%12).toNat]=t3 at h3 h4 ⊢
   have hso:FD (nw,nm,marks,ot):=⟨o1,o2,o3,o4,o5⟩
   obtain⟨pl1,pl2⟩:=D3 hso
   have pl2:(marks.flatMap MB).length<=15:=pl2
   walk_at "w"
   refine W0 lJ (fun m=>(MB m).map V.str) rfl marks (fun m hm=>?_) ?_
   ·obtain⟨b,w⟩:=m
    have hw:w∈hB:=o5 _ hm
    have hwl:=JO hw
    have hml:=H1 (m:=(b,w)) hw
    show W (sH _ _ _ _ _ _ (.tup [.str (if b=true then [126] else []),.str w])) _ _
    walk_at "w"
    refine PX (by rcases b with ⟨⟩<;>decide) ?_
    walk_at "w"
    rw [k4]
    refine OG (by rcases b with ⟨⟩<;>decide) ?_
    walk_at "w"
    refine PX (jA hwl (by decide)) ?_
    refine OG (by rw [QA,AA];exact jA (JI (show _<=2 by rcases b with ⟨⟩<;>decide) hwl) (by decide)) ?_
    walk_at "w"
    rw [k5]
    have hsrc:(XH (fun c=>V.str [c]) (if b=true then [126] else [])++[V.str [60,60]]++XH (fun c=>V.str [c]) w++[V.str [62,62]])=(MB (b,w)).map V.str:=by
     unfold MB
     rw [aB,aB,aB,jC,jC];rfl
    refine OG (by rw [hsrc,AA];exact jA hml (by decide)) ?_
    rw [hsrc]
    refine ls_lst ?_
    refine SD V.str V.str rfl (MB (b,w)) (fun p hp=>?_) ⟨rfl,rfl⟩
    walk_at "w"
    exact⟨rfl,rfl⟩
   rw [show (marks.flatMap fun m=>(MB m).map V.str)=(marks.flatMap MB).map V.str from List.map_flatMap.symm]
   refine w_mkV (by rw [AA];exact jA pl2 (by decide)) (by kernel_rfl!) ?_
   walk_at "w"
   rw [k2,k3]
   refine OG (by rw [QA,AA];exact jA (EC pl2 4) (by decide)) ?_
   walk_at "w"
   refine OG (by rw [QA,QA,AA];exact jA (eG (EC pl2 4) 1) (by decide)) ?_
   have e5:([V.str [nw],V.str [61],V.str [nm],V.str [38]]++(marks.flatMap MB).map V.str++[V.str [ot]])=(fD (nw,nm,marks,ot)).map V.str:=by
    show _=([[nw],[61],[nm],[38]]++marks.flatMap MB++[[ot]]:List (List Nat)).map V.str
    rw [aB,aB];rfl
   rw [e5]
   have hat:(st++[O.list (D.map fun l=>V.lst (l.map V.int))])[st.length]? = some (.list (D.map fun l=>V.lst (l.map V.int))):=ZG
   have hpa:(sJ (nw,nm,marks,ot)).length<=30:=pl1
   have hpm:=Yo hso
   have hps:sJ (nw,nm,marks,ot)=fD (nw,nm,marks,ot)++(if nw=122 then [[63],[]] else [[59]]):=rfl
   have hdu:zC (nw,nm,marks,ot)=(sJ (nw,nm,marks,ot)).map PA:=rfl
   have htl:(fD (nw,nm,marks,ot)).length<=30:=by rw [hps,QA] at hpa;exact CR hpa
   generalize sJ (nw,nm,marks,ot)=P at *
   refine W.mono (P:=RL (.lst ((if nw=122 then [[63],[]] else [[59]]:List (List Nat)).map V.str)) (st++[O.list (D.map fun l=>V.lst (l.map V.int))])) ?_ ?_
   ·walk_at "w"
    rw [k8]
    by_cases hz:[nw]=[122]
    ·rw [decide_eq_true hz,if_pos (List.cons.inj hz).1]
     walk_at "w"
     rw [k1,k7]
     exact⟨rfl,rfl⟩
    ·rw [decide_eq_false hz,if_neg (fun e=>hz (by rw [e]))]
     walk_at "w"
     rw [k6]
     exact⟨rfl,rfl⟩
   rintro _ _ ⟨rfl,rfl⟩
   refine OG (by rw [<-aB,<- hps,AA];exact jA hpa (by decide)) ?_
   rw [<-aB,<- hps]
   walk_at "w"
   refine SD V.str (fun p=>V.int (PA p)) rfl P (fun p hp=>?_) ?_
   ·walk_at "w"
    refine Ef ?_
    rcases Uk (hpm p hp) with ⟨h1,h2⟩|⟨h1,k,h2,h3⟩
    ·rw [h1]
     walk_at "w"
     refine jQ h2 ?_
     exact⟨rfl,rfl⟩
    ·rw [h1]
     walk_at "w"
     refine MX h2 ?_
     walk_at "w"
     rw [h3]
     exact⟨rfl,rfl⟩
   refine w_mkV (by rw [AA];exact jA hpa (by decide)) (by kernel_rfl!) ?_
   rw [show (P.map fun p=>V.int (PA p))=(zC (nw,nm,marks,ot)).map V.int by rw [hdu,jC];rfl]
   walk_at "w"
   refine MG hat (by rw [AA];exact jA (D0 hDl) (by decide)) ?_
   walk_at "w"
   refine⟨rfl,rfl,_,rest,_,t3++[59],D++[zC (nw,nm,marks,ot)],hx2,?_,fun s h=>ho s (NA _ h),h4.le ?_,?_,?_,?_,?_,.inr ⟨_,t3,rfl,rfl,h3.le ?_⟩,by walk_at "l",by walk_at "l",by walk_at "l",by walk_at "l"⟩
   ·rw [MI _ _ (sA _),NI,aB];rfl
   ·exact j6 _ hK
   ·exact kC hK
   ·rw [<-hf,GE,<- hu1]
    show _=u++(([nw,61,nm,38]++(marks.flatMap CG++[ot,59]))++rest.flatMap DF)
    simp only [qB,QM,qF]
   ·rw [<-hD,qB];rfl
   ·rw [QA];exact CT hDl
   ·exact Us _ hK
  ·rintro x xs _ _ ⟨vars,rest2,u2,t2,hx,hm,hS2,hK2,hf2,v0,⟨v1,v2,v3,v4,v5,v6,v7⟩⟩
   rcases rest2 with _|⟨m,rest2⟩
   ·cases hx
   rw [sB] at hx
   injection hx with hx1 hx3
   subst hx1
   have hwm:=hm m HA
   obtain⟨b,w⟩:=m
   rw [BD] at hS2 hK2
   have hS2c:=hS2.cap (jA (p6 _ _) (by decide))
   show W (TH _ _ _ (.tup [.str (if b=true then [126] else []),.str w]) _) _ _
   have hb1:=Rq b
   generalize hbt:(if b=true then [126] else []:List Nat)=bt at hb1 ⊢
   walk_at "w"
   rw [k4]
   have q1:=hb1.app (V4 (c:=60) (d:=60) (by decide) (by decide))
   refine eF (q1.cap (by decide)) ?_
   walk_at "w"
   refine bZ hwm fun l1 hl1=>?_
   have q2:=q1.app hl1
   refine eF (q2.cap (by decide)) ?_
   walk_at "w"
   rw [k5]
   have q3:=q2.app (V4 (c:=62) (d:=62) (by decide) (by decide))
   refine eF (q3.cap (by decide)) ?_
   have q4:=hS2.app q3
   refine xT (q4.cap (jA (eG (p6 _ _) _) (by decide))) ?_
   walk_at "w"
   refine⟨rfl,rfl,_,rest2,_,_,hx3,fun m h=>hm m (NA _ h),q4.le (W1 hK2).1,(W1 hK2).2,?_,by walk_at "l",⟨by walk_at "l",by walk_at "l",by walk_at "l",by walk_at "l",by walk_at "l",by walk_at "l",by walk_at "l"⟩⟩
   rw [<-hf2,GE]
   show _=u2++(((if b=true then [126] else [])++([60,60]++(w++[62,62])))++rest2.flatMap CG)
   rw [hbt]
   simp only [qB,QM,qF]
  ·exact⟨_,marks,u1,t1,rfl,o5,h1.le (m6 _ hK _ (LI o4)).1,(m6 _ hK _ (LI o4)).2,rfl,by walk_at "l",⟨by walk_at "l",by walk_at "l",by walk_at "l",by walk_at "l",by walk_at "l",by walk_at "l",by walk_at "l"⟩⟩
 ·exact⟨_,pl,[],[],[],rfl,rfl,ho,U4.le (iE _),hl,qF _,qF _,(by rw [uH,IF];exact hl),.inl hne,by walk_at "l",by walk_at "l",by walk_at "l",by walk_at "l"⟩
noncomputable def XK(z:List Nat):OA:=.str ⟨z.toArray⟩
theorem yY{st:Ev.St}(m:Nat):∀ l:List (List Nat),((l.map V.str).mapM (jB st (m+1)))=some (l.map XK)
 | []=>rfl
 | i::l=>by
  rw [sB,xR,yY m l]
  rfl
theorem SY:∀ l:List OA,(∀ d∈l,OA.eqv d d=true)->OA.eqvAll l l=true
 | [],_=>by rw [OA.eqvAll]
 | d::l,h=>by rw [OA.eqvAll,h d (by simp),SY l fun e he=>h e (by simp [he])];rfl
theorem TJ{l:List OA}(h:∀ d∈l,OA.eqv d d=true):OA.eqv (.list l) (.list l)=true:=by rw [OA.eqv];exact SY l h
theorem LS(l:List (List Nat)):OA.eqv (.list (l.map XK)) (.list (l.map XK))=true:=TJ fun d hd=>by
 obtain⟨z,_,rfl⟩:=rC.mp hd
 unfold XK
 rw [UR];simp
theorem TY(l:List Int):OA.eqv (.list (l.map OA.int)) (.list (l.map OA.int))=true:=TJ fun d hd=>by
 obtain⟨z,_,rfl⟩:=rC.mp hd
 rw [qL];simp
theorem aM{gd:Str->Option (List (V×V))}{st:Ev.St}{a b:V}{d:OA}{Q:Bool->Prop}(ha:jB st 8 a=some d)(hb:jB st 8 b=some d)(hr:OA.eqv d d=true)(q:Q false):∃ c,ID gd st .NotEq a b=some c/\Q c:=by
 refine⟨false,?_,q⟩
 show ((jB st 8 a).bind (fun x=>(jB st 8 b).bind fun y=>some (OA.eqv x y))).map (!·)=_
 rw [ha,hb]
 show some (!OA.eqv d d)=_
 rw [hr];rfl
theorem rN{st:Ev.St}{m i:Nat}{l:List V}(h:st[i]? = some (.list l)):jB st (m+1) (.ref i)=jB st (m+1) (.lst l):=by
 show (match st[i]? with|some (O.list vs)=>(vs.mapM (jB st m)).map OA.list|_=>none)=_
 rw [h];rfl
theorem GL{st:Ev.St}{m:Nat}(l:List (List Nat)):jB st (m+2) (.lst (l.map V.str))=some (.list (l.map XK)):=by
 show ((l.map V.str).mapM (jB st (m+1))).map OA.list=_
 rw [yY];rfl
theorem JP{st:Ev.St}{m:Nat}(l:List Int):jB st (m+2) (.lst (l.map V.int))=some (.list (l.map OA.int)):=by
 show ((l.map V.int).mapM (jB st (m+1))).map OA.list=_
 rw [FS];rfl
theorem eI{st:Ev.St}{m:Nat}{α:Type}(h:α->V)(g:α->OA)(l:List α)(hh:∀ a∈l,jB st m (h a)=some (g a)):jB st (m+1) (.lst (l.map h))=some (.list (l.map g)):=by
 show ((l.map h).mapM (jB st m)).map OA.list=_
 have:∀ l:List α,(∀ a∈l,jB st m (h a)=some (g a))->(l.map h).mapM (jB st m)=some (l.map g):=by
  intro l
  induction l with
  | nil=>exact fun _=>rfl
  | cons a l ih =>
   intro hh
   rw [sB,xR,hh a (by simp),ih fun b hb=>hh b (by simp [hb])];rfl
 rw [this l hh];rfl
theorem B6{α β:Type}:∀ (a:List α) (b:List β),a.length=b.length->(a.zip b).map Prod.fst=a
 | [],[],_=>rfl
 | x::a,y::b,h=>by rw [List.zip_cons_cons,sB,B6 a b (by simpa using h)]
theorem C6{α β:Type}:∀ (a:List α) (b:List β),a.length=b.length->(a.zip b).map Prod.snd=b
 | [],[],_=>rfl
 | x::a,y::b,h=>by rw [List.zip_cons_cons,sB,C6 a b (by simpa using h)]
theorem fH.zip{base st:Ev.St}{r:Nat}{refs:List Nat}{R:List (List Int)}(h:fH base r refs R st):∀ p∈refs.zip R,st[p.1]? = some (.list (p.2.map V.int)):=by
 intro p hp
 obtain⟨k,hk,he⟩:=List.mem_iff_getElem.mp hp
 have hk1:k<refs.length:=by simp at hk;exact (Nat.lt_min.mp hk).1
 have hk2:k<R.length:=by simp at hk;exact (Nat.lt_min.mp hk).2
 rw [List.getElem_zip] at he
 subst he
 exact h.rows k _ _ (sD hk1) (sD hk2)
theorem Ob{base st:Ev.St}{r:Nat}{refs:List Nat}{R:List (List Int)}(h:fH base r refs R st):jB st 8 (.ref r)=some (.list (R.map fun row=>.list (row.map OA.int))):=by
 rw [rN h.out]
 have e1:refs.map V.ref=(refs.zip R).map fun p=>V.ref p.1:=by
  conv=>lhs;rw [<-B6 refs R h.len]
  rw [jC];rfl
 have e2:(R.map fun row=>OA.list (row.map OA.int))=(refs.zip R).map fun p=>OA.list (p.2.map OA.int):=by
  conv=>lhs;rw [<-C6 refs R h.len]
  rw [jC];rfl
 rw [e1,e2]
 exact eI _ _ _ fun p hp=>(rN (h.zip p hp)).trans (JP _)
theorem kR{Γ:Ev.Ctx}{k v:Expr}{ρ:Fr}{st:Ev.St}{Q:KL}(h:W (evalE Γ k ρ) st fun a s=>W (evalE Γ v ρ) s fun b s=>Q [a,b] s):W (do let a <- evalE Γ k ρ;let b <- evalE Γ v ρ;return [a,b]) st Q :=
 W.bind (h.mono fun a s h=>W.bind (h.mono fun b s q=>W.pure q))
theorem Vs{Γ:Ev.Ctx}{k v:Expr}{gs:List uB}{sc:Scope}{p:Pos}{ρ:Fr}{st:Ev.St}{Q:KV}(hc:S2 ρ sc gs=true)(h:W (TF Γ gs (fun ρ'=>do let a <- evalE Γ k ρ';let b <- evalE Γ v ρ';return [a,b]) ρ ⟨sc.names,[],ρ.seen Γ⟩) st fun xs s=>W (DQ xs) s Q):W (evalE Γ (.DictComp k v gs sc p) ρ) st Q:=by
 have hc':(tI ρ sc&&gs.all uJ && !gs.isEmpty)=true:=hc
 exact W.eq (if_pos hc') (W.bind h)
noncomputable def FI(j:Nat)(ds:List Ld):List (List Nat):=(ds.filter fun d=>d.1.1==j).map fun d=>d.1.2.1++[97+d.1.2.2]
theorem Yr{ds:List Ld}(h:∀ d∈ds,XM d)(j:Nat):(AE j ds).map (fun v=>v.flatMap CF)=FI j ds:=by
 unfold AE FI
 rw [jC]
 exact List.map_congr_left fun d hd=>(h d (YH.mp hd).1).sp.2.2
noncomputable def oJ(j:Nat):Nat:=[97,66,99,68].getD j 0
theorem Gk:∀ j:Nat,j<4->[oJ j].map lo1=[97+j]:=by decide +kernel
theorem Fk:∀ j:Nat,j<4->32<=oJ j/\oJ j<127:=by decide +kernel
theorem df{j:Nat}(hj:j<4){ds:List Ld}(h:∀ d∈ds,XM d):((ds.map (·.2)).filter fun h=>decide (h.1.map lo1=[oJ j].map lo1)).map (fun h=>V.str h.2)=(AE j ds).map V.str:=by
 rw [List.filter_map,jC]
 unfold AE
 rw [jC]
 have:(ds.filter ((fun h:List Nat×List Nat=>decide (h.1.map lo1=[oJ j].map lo1)) ∘ (·.2)))=ds.filter fun d=>d.1.1==j:=by
  refine List.filter_congr fun d hd=>?_
  show decide (d.2.1.map lo1=[oJ j].map lo1)=_
  rw [(h d hd).nm,Gk j hj,OV,decide_eq_true_eq,beq_iff_eq]
  constructor
  ·intro h;injection h with h;exact EV h
  ·intro h;rw [h]
 rw [this]
 rfl
theorem Zr(j:Nat)(ds:List Ld):(FI j ds).length<=ds.length:=by unfold FI;rw [AA];exact IG _ _
theorem Qs(j:Nat)(ds:List Ld):(AE j ds).length<=ds.length:=by unfold AE;rw [AA];exact IG _ _
theorem Tp{j:Nat}(ds:List Ld):(((ds.map (·.1)).filter fun r=>r.1==j).map fun r=>V.str (r.2.1++[97+r.2.2]))=(FI j ds).map V.str:=by
 rw [List.filter_map,jC]
 unfold FI
 rw [jC]
 rfl
noncomputable def yD(rs:List lB)(pk:Nat):List HB:=(FA (RA rs) pk 3).2++[mW pk (FA (RA rs) pk 3).1]
noncomputable def wE(rs:List lB)(pk:Nat):List (List Nat×List Nat):=((yD rs pk).map zC).foldl (AF (RA rs)) sE
structure tW(rs:List lB)(pk:Nat):Prop where
 stm:∀ s∈yD rs pk,FD s
 cuts:∀ u' b,(yD rs pk).flatMap DF=u'++[59]->b<16->∃ ts,WC (u'++[OD b]) ts/\CM ts=(yD rs pk).map zC
 dok:MF (RA rs) sE ((yD rs pk).map zC)
 asc:∀ h∈wE rs pk,nD h.1
 keys:(wE rs pk).map (·.1)=[75]::(yD rs pk).map fun s=>[s.1 - 32]
 ltrs:∀ c∈(FA (RA rs) pk 3).1,c.1∈SB
 held:∀ c∈(FA (RA rs) pk 3).1,RD (wE rs pk) ([c.1].map lo1) .none = .str (KD c.2)
 good:UF (RA rs) rs≠[]
 alk:bN (RA rs) rs=[Ev.CI ((FA (RA rs) pk 3).1.map fun c=>(c.2:Int))]
 uni:∃ zm,zm<16/\RD (wE rs pk) ([122].map lo1) .none = .str (KD zm)/\∀ c∈(FA (RA rs) pk 3).1,c.2 &&& zm=0\/c.2 &&& zm=c.2
theorem Y0:∀ v:Nat,v<16->(((UA 4).filter fun x=>isIn [97+x] (KD v)).map (2 ^ ·)).sum=v:=by decide +kernel
theorem LZ(wy:List Nat->List Nat):∀ (R:List (List Int)) (hs:List (List Nat×List Nat)),(R.foldl (AF wy) hs).length=hs.length+R.length
 | [],_=>rfl
 | r::R,hs=>by
  rw [YO,LZ wy R]
  show (hs++[_]).length+R.length=_
  rw [QA,BD,BD,uH];exact RE _ _ _
theorem LG.pre{js:List V}{wy:List Nat->List Nat}{st s:Ev.St}(h:LG js wy st)(hp:∀ i,i<st.length->s[i]? = st[i]?):LG js wy s:=fun w hw=>by
 obtain⟨h1,j,h2,h3⟩:=h w hw
 exact⟨h1,j,h2,(hp j (sF.mp h3).1).trans h3⟩
theorem Eh{st:Ev.St}{l:List V}{n:Int}{Q:V->Prop}(hn:0<=n/\n<=64/\l.length<=64)(q:Q (.lst (NC n.toNat l).flatten)):∃ v,GD st .Mult (.lst l) (.int n)=some v/\Q v:=⟨_,if_pos hn,q⟩
theorem Fp(n:Nat):(NC n [V.bool true]).flatten=NC n (V.bool true):=by
 induction n with
 | zero=>rfl
 | succ n ih=>rw [AR,NO,ih,AR];rfl
theorem zY{st:Ev.St}{m:Nat}(k:Nat):jB st (m+2) (.lst (NC k (V.bool true)))=some (.list (NC k (.bool true))):=by
 have h:=eI (st:=st) (m:=m+1) V.bool OA.bool (NC k true) fun a _=>rfl
 rw [eW,eW] at h
 exact h
theorem fg{st:Ev.St}{vs:List V}{v:V}(hn:vs.length+1<=cap):CC st (.lst (vs++[v])) (.int (-1))=some v:=by
 show (aD (vs++[v]).length (-1)).bind (fun k=>(vs++[v])[k]?)=_
 have e:aD (vs++[v]).length (-1)=some vs.length:=by
  unfold aD
  rw [if_pos (by simpa using hn),if_neg (by decide),if_pos (by simp;exact z6 (vB _))]
  simp
  exact m1
 rw [e]
 show (vs++[v])[vs.length]? = _
 simp
theorem ki{c:Nat}(h:c∈SB):gD (Txt.upper (S [c])).cps.toList=some (.str [c - 32]):=K0 (kJ h)
theorem rY{α:Type}{l:List α}{c:α}(h:l.length+1<=cap):gC (l++[c]) .none (.int (-1))=some l:=by
 unfold gC
 rw [if_neg (by rw [QA];exact CE.mpr h)]
 show (some 0).bind (fun x=>(some (((-1:Int)+((l++[c]).length:Int)).toNat)).bind fun y=>some (((l++[c]).take y).drop x))=_
 have e:((-1:Int)+((l++[c]).length:Int)).toNat=l.length:=by rw [QA];exact m1
 rw [e]
 show some (((l++[c]).take l.length).drop 0)=_
 rw [jW,cL]
theorem Hc(H:∀ (rs:List lB) (pk:Nat),(∀ r∈rs,OB r)->rs.length=7->tW rs pk){script:List Int}(hsl:script.length<=63):W ((LA ZB 8).call (.fn "law") [.lst (script.map V.int)] []) [] fun v _=>v = .bool true:=by
 refine KE (n:=7) (d:=uA (stm 78)) (by kernel_rfl!) (by kernel_rfl!) (pD [("script",.lst (script.map V.int))] (by kernel_rfl!) (by kernel_rfl!) ?_)
 conv=>arg 1;arg 2;whnf
 walk_at "w"
 refine Ic (n:=2) hsl fun n0 ds s h0 hds hlen hN=>?_
 obtain⟨pk,rfl⟩:=gL h0
 have hrd:∀ r∈ds.map (·.1),OB r:=fun r hr=>by
  obtain⟨d,hd,rfl⟩:=rC.mp hr
  exact⟨(hds d hd).pl,(hds d hd).wd,(hds d hd).tg⟩
 obtain⟨L1,L2,L3,L4,L5,L6,L7,L8,L9,zm,z1,z2,z3⟩:=H (ds.map (·.1)) pk hrd (by rw [AA];exact hlen)
 have hrl:(ds.map (·.1)).length<=64:=by rw [AA,hlen];decide
 walk_at "w"
 refine⟨_,uP (AL (oD (by kernel_rfl!) (oD (by kernel_rfl!) (oD (by kernel_rfl!) (oD (by kernel_rfl!) zL))))),?_⟩
 walk_at "w"
 rw [show (cB "aBcD").map (fun c=>V.str [c])=(UA 4).map fun j=>V.str [oJ j] by kernel_rfl!]
 have hasc:∀ h∈ds.map (·.2),nD h.1:=by
  intro h hh
  obtain⟨d,hd,rfl⟩:=rC.mp hh
  exact (hds d hd).asc
 refine SD (fun j=>V.str [oJ j]) (fun j=>.lst ((AE j ds).map V.str)) rfl (UA 4) (fun j hj=>?_) ?_
 ·have hj4:=gE.mp hj
  walk_at "w"
  refine Fc hN.hd ⟨fun c hc=>by simp at hc;subst hc;exact Fk j hj4,by simp⟩ hasc (by simp;exact jA (FB hlen) (by decide)) ?_
  rw [df hj4 hds]
  exact⟨rfl,rfl⟩
 refine w_mkV (by unfold cap;simp) (by kernel_rfl!) ?_
 walk_at "w"
 refine SD (fun j=>V.lst ((AE j ds).map V.str)) (fun j=>.lst ((FI j ds).map V.str)) rfl (UA 4) (fun j hj=>?_) ?_
 ·have hvl:=Qs j ds
  walk_at "w"
  refine SD V.str (fun v=>.str (v.flatMap CF)) rfl (AE j ds) (fun v hv=>?_) ?_
  ·walk_at "w"
   unfold AE at hv
   obtain⟨d,hd,rfl⟩:=rC.mp hv
   have hsp:=(hds d (YH.mp hd).1).sp
   refine ZY hsp.good (jA hsp.1 (by decide)) ?_
   exact⟨rfl,rfl⟩
  ·refine w_mkV (by unfold cap;rw [AA];exact jA hvl (jA (FB hlen) (by decide))) (by kernel_rfl!) ?_
   rw [<-Yr hds j,jC]
   exact⟨rfl,rfl⟩
 refine w_mkV (by unfold cap;simp) (by kernel_rfl!) ?_
 walk_at "w"
 refine aM (d:=.list ((UA 4).map fun j=>.list ((AE j ds).map XK))) (eI _ _ _ fun j _=>GL _) ?_ ?_ ?_
 ·show jB s 8 (.lst ((UA 4).map fun j=>V.ref (3+j)))=_
  exact eI _ _ _ fun j hj=>(rN (hN.vl j (gE.mp hj))).trans (GL _)
 ·refine TJ fun d hd=>?_
  obtain⟨j,_,rfl⟩:=rC.mp hd
  exact LS _
 walk_at "w"
 refine SD (fun (i:Nat)=>V.int i) (fun j=>.lst ((FI j ds).map V.str)) rfl (UA 4) (fun j hj=>?_) ?_
 ·have hj4:=gE.mp hj
  have htl:=Zr j ds
  walk_at "w"
  refine pI hN.rd ?_
  refine lH TD (fun r=>r.1==j) (fun r=>.str (r.2.1++[97+r.2.2])) (zO hN.rd (EM G4 _)) (ds.map (·.1)) (fun r hr=>?_) ?_
  ·obtain⟨hp,hw,ht⟩:=hrd r hr
   obtain⟨p,w,t⟩:=r
   have hwl:=JO hw
   show W (sH _ _ _ _ _ _ (.tup [.int (p:Int),.str w,.int (t:Int)])) _ _
   walk_at "w"
   refine mI (v:=.int (p:Int)) rfl ?_
   walk_at "w"
   by_cases hc:p=j
   ·rw [decide_eq_true (show (p:Int)=(j:Int) by rw [hc])]
    walk_at "w"
    refine mI (v:=.str w) rfl ?_
    walk_at "w"
    refine mI (v:=.int (t:Int)) rfl ?_
    refine iJ (by kernel_rfl!) (vB _) (by rw [vL.1];exact kD.mpr ht) ?_
    rw [fG,aN _ ht]
    refine eF (by rw [QA];exact jA (XB hwl) (by decide)) ?_
    exact⟨by rw [show (p==j)=true from beq_iff_eq.mpr hc];rfl,rfl⟩
   ·rw [decide_eq_false (show ¬ (p:Int)=(j:Int) from fun h=>hc (aP.mp h))]
    walk_at "w"
    exact⟨by rw [show (p==j)=false from beq_eq_false_iff_ne.mpr hc];rfl,rfl⟩
  ·rw [Tp]
   refine w_mkV (by unfold cap;rw [AA];exact jA htl (jA (FB hlen) (by decide))) (by kernel_rfl!) ?_
   exact⟨rfl,rfl⟩
 refine w_mkV (by unfold cap;simp) (by kernel_rfl!) ?_
 refine aM (d:=.list ((UA 4).map fun j=>.list ((FI j ds).map XK))) (eI _ _ _ fun j _=>GL _) (eI _ _ _ fun j _=>GL _) ?_ ?_
 ·refine TJ fun d hd=>?_
  obtain⟨j,_,rfl⟩:=rC.mp hd
  exact LS _
 walk_at "w"
 have hrd2:=hN.rd
 have hsl2:=hN.len
 generalize hrs:ds.map (·.1)=rs at *
 refine Vs (by kernel_rfl!) ?_
 walk_at "w"
 rw [show cB "" = [] by decide +kernel,show cB "f" = [102] by decide +kernel,show cB "i" = [105] by decide +kernel,show cB "fi" = [102,105] by decide +kernel]
 have up:∀ {s':Ev.St}{e:List O},s'[2]? = some (O.list (rs.map TD))->(s'++e)[2]? = some (O.list (rs.map TD)):=fun h=>by rw [OC (sF.mp h).1];exact h
 have lt2:∀ {s':Ev.St},s'[2]? = some (O.list (rs.map TD))->2<s'.length:=fun h=>(sF.mp h).1
 have keep:∀ {s':Ev.St}{e:List O}{j:Nat}{o:O},s'[j]? = some o->(s'++e)[j]? = some o:=fun h=>by rw [OC (sF.mp h).1];exact h
 refine ON ?_
 walk_at "w"
 refine kR ?_
 walk_at "w"
 refine OP (w:=[]) (by decide) hrd2 (lt2 hrd2) hrd hrl fun x0 j0 q0=>?_
 refine⟨(),_,rfl,?_⟩
 have r0:=up (e:=x0) hrd2
 refine ON ?_
 walk_at "w"
 refine kR ?_
 walk_at "w"
 refine OP (w:=[102]) (by decide) r0 (lt2 r0) hrd hrl fun x1 j1 q1=>?_
 refine⟨(),_,rfl,?_⟩
 have r1:=up (e:=x1) r0
 refine ON ?_
 walk_at "w"
 refine kR ?_
 walk_at "w"
 refine OP (w:=[105]) (by decide) r1 (lt2 r1) hrd hrl fun x2 j2 q2=>?_
 refine⟨(),_,rfl,?_⟩
 have r2:=up (e:=x2) r1
 refine ON ?_
 walk_at "w"
 refine kR ?_
 walk_at "w"
 refine OP (w:=[102,105]) (by decide) r2 (lt2 r2) hrd hrl fun x3 j3 q3=>?_
 refine⟨(),_,rfl,?_⟩
 have r3:=up (e:=x3) r2
 refine VT ?_
 have hwm:∀ w,DB (RA rs w):=fun w=>by
  have k:=bJ (w:=w) (OK hrd w w.length) _ (gJ w.length) (xO hrd)
  rw [yI] at k
  exact k
 have hW:LG [.ref j0,.ref j1,.ref j2,.ref j3] (RA rs) (s++x0++x1++x2++x3):=fun w hw=>by
  refine⟨hwm w,?_⟩
  rcases LM hw with rfl|rfl|rfl|rfl
  ·exact⟨j0,rfl,keep (keep (keep q0))⟩
  ·exact⟨j1,rfl,keep (keep q1)⟩
  ·exact⟨j2,rfl,keep q2⟩
  ·exact⟨j3,rfl,q3⟩
 refine W.of (a:=.dct hB [.ref j0,.ref j1,.ref j2,.ref j3]) (s:=s++x0++x1++x2++x3) (by kernel_rfl!) ?_
 clear q0 q1 q2 q3 r0 r1 r2
 generalize s++x0++x1++x2++x3=s1 at *
 generalize ([.ref j0,.ref j1,.ref j2,.ref j3]:List V)=js at *
 walk_at "w"
 refine Jc (pk:=pk) hW fun e1=>?_
 show KN _ _ _ _ _ _ (.tup [.lst ((yD rs pk).map EI),_]) _
 obtain⟨o1,o2,o3⟩:=vI (RA rs) pk 3 (sA _)
 have o4:=NQ (RA rs) pk 3
 have hpl7:(yD rs pk).length<=8:=by unfold yD;rw [QA];exact jA (XB o4) (by decide)
 have hplne:yD rs pk≠[]:=by unfold yD;exact fun e=>by cases (List.append_eq_nil_iff.mp e).2
 have hhl:(wE rs pk).length<=100:=by unfold wE;rw [LZ,AA];exact jA (EC hpl7 1) (by decide)
 have hW1:=hW.ext e1
 have r4:=up (e:=e1) r3
 generalize s1++e1=s2 at *
 refine⟨_,uP (bindT_Tup2 (by kernel_rfl!)),?_⟩
 walk_at "w"
 refine Lc (n:=3) L1 hplne hpl7 fun t u' hu hS=>?_
 refine⟨_,uP (bindT_Tup2 (by kernel_rfl!)),?_⟩
 walk_at "w"
 refine ZY (n:=4) hS.good (jA hS.1 (by decide)) ?_
 rw [hS.2.2]
 have hb16:((pk:Int)%16).toNat<16:=gI _ _ rfl (by decide)
 obtain⟨ts,hc1,hc2⟩:=L2 u' _ hu hb16
 have hul:(u'++[OD ((pk:Int)%16).toNat]).length<=30000:=by
  rw [<-hS.2.2]
  exact jA (eV hS.good).1 (jA (yH 2 hS.1) (by decide))
 walk_at "w"
 refine Kc (n:=4) hul hc1 fun r refs s3 hR=>?_
 rw [hc2] at hR
 have hW2:=(hW1.ext _).pre hR.pre
 have hdue:=(hR.pre s2.length (by rw [QA];exact jD _)).trans ZG
 have r5:=(hR.pre 2 (by rw [QA];exact XG (lt2 r4))).trans (up r4)
 walk_at "w"
 refine aM (Ob hR) ?_ ?_ ?_
 ·rw [rN hdue]
  exact eI _ _ _ fun l _=>JP _
 ·refine TJ fun d hd=>?_
  obtain⟨l,_,rfl⟩:=rC.mp hd
  exact TY _
 walk_at "w"
 refine Ec (n:=1) hW2 hR.out hR.len (fun j i row h1 h2=>hR.rows j i row h1 h2) L3 (by rw [AA];exact jA hpl7 (by decide)) ?_
 show KN _ _ _ _ _ _ _ (stH s3 (wE rs pk) _)
 rw [AA]
 have hhd:=X4 (st:=s3) (hs:=wE rs pk) (k:=(yD rs pk).length)
 have hld:=qV (st:=s3) (hs:=wE rs pk) (k:=(yD rs pk).length)
 have hW3:LG js (RA rs) (stH s3 (wE rs pk) (yD rs pk).length):=by unfold stH;exact hW2.ext _
 have r6:=YQ (hs:=wE rs pk) (k:=(yD rs pk).length) r5
 generalize stH s3 (wE rs pk) (yD rs pk).length=s4 at *
 refine⟨_,uP (bindT_Tup2 (by kernel_rfl!)),?_⟩
 walk_at "w"
 have hcs:∀ c∈(FA (RA rs) pk 3).1++[((122,zm):dB)],c.1∈SB/\c.2<16/\RD (wE rs pk) ([c.1].map lo1) .none = .str (KD c.2):=fun c hc=>by
  rcases GB.mp hc with q|q
  ·exact⟨L6 c q,o3 c q,L7 c q⟩
  ·rw [BA.mp q];exact⟨show (122:Nat)∈SB by decide,z1,z2⟩
 have hcl:((FA (RA rs) pk 3).1++[((122,zm):dB)]).length<=5:=by rw [QA];exact XB o1
 rw [show cB "z" = [122] by decide +kernel]
 refine OG (by rw [QA,AA];exact jA (XB o1) (by decide)) ?_
 rw [show (XH (fun c=>V.str [c.1]) (FA (RA rs) pk 3).1++[V.str [122]])=((FA (RA rs) pk 3).1++[((122,zm):dB)]).map fun c=>V.str [c.1] by rw [aB];rfl]
 walk_at "w"
 refine SD (fun c:dB=>V.str [c.1]) (fun c=>V.str (KD c.2)) rfl _ (fun c hc=>?_) ?_
 ·obtain⟨g1,g2,g3⟩:=hcs c hc
  have gl:∀ x∈SB,32<=x/\x<127:=by decide
  walk_at "w"
  refine aZ (n:=3) hhd ⟨fun d hd=>by rw [BA.mp hd];exact gl _ g1,by simp⟩ (by rw [show cB "?" = [63] by decide +kernel];exact fun d hd=>by rw [BA.mp hd];decide) L4 (jA hhl (by decide)) (fun w hg=>?_) fun hg=>?_
  ·rw [g3] at hg
   cases hg
   exact⟨rfl,rfl⟩
  ·exact nomatch g3.symm.trans hg
 refine w_mkV (by rw [AA];exact jA hcl (by decide)) (by kernel_rfl!) ?_
 walk_at "w"
 refine OX (by rw [AA];exact jA hpl7 (by decide)) ?_
 refine Eh ⟨vB _,by rw [AA];exact CD.mpr (jA hpl7 (by decide)),by decide⟩ ?_
 rw [AA,fG,Fp]
 refine aM (d:=.list (NC (yD rs pk).length (.bool true))) ((rN hld).trans (zY _)) (zY _) ?_ ?_
 ·exact TJ fun d hd=>by rw [cW hd];rfl
 walk_at "w"
 refine Gc (n:=5) hhd (jA hhl (by decide)) ?_
 walk_at "w"
 refine SD EI (fun s=>V.str [s.1 - 32]) rfl (yD rs pk) (fun s hs=>?_) ?_
 ·have g1:=(L1 s hs).nw
  walk_at "w"
  refine mI (v:=.str [s.1]) rfl ?_
  walk_at "w"
  refine SX (ki g1) ?_
  exact⟨rfl,rfl⟩
 refine w_mkV (by rw [AA];exact jA hpl7 (by decide)) (by kernel_rfl!) ?_
 rw [show cB "K" = [75] by decide +kernel]
 refine OG (by rw [QA,AA];exact jA (EC hpl7 1) (by decide)) ?_
 rw [show ([V.str [75]]++(yD rs pk).map fun s=>V.str [s.1 - 32])=((wE rs pk).map (·.1)).map V.str by rw [L5,sB,jC];rfl]
 rw [show ((wE rs pk).map fun h=>V.str h.1)=((wE rs pk).map (·.1)).map V.str by rw [jC];rfl]
 refine aM (GL _) (GL _) (LS _) ?_
 walk_at "w"
 refine SD (fun c:dB=>V.str (KD c.2)) (fun c=>V.int c.2) rfl ((FA (RA rs) pk 3).1++[((122,zm):dB)]) (fun c hc=>?_) ?_
 ·obtain⟨g1,g2,g3⟩:=hcs c hc
  walk_at "w"
  refine PN (fun x=>isIn [97+x] (KD c.2)) rfl (fun a ha4=>?_) ?_
  ·walk_at "w"
   refine iJ (by kernel_rfl!) (vB _) (by rw [vL.1];exact kD.mpr ha4) ?_
   rw [fG,aN a ha4]
   walk_at "w"
   refine in_str ?_
   cases hb:isIn [97+a] (KD c.2)
   ·walk_at "w"
    exact⟨rfl,rfl⟩
   ·walk_at "w"
    refine TL ⟨vB _,CD.mpr (kC (cC ha4 (by decide))),by decide⟩ ?_
    exact⟨rfl,rfl⟩
  refine w_mkV (vO _) (by kernel_rfl!) ?_
  walk_at "w"
  refine nN _ ?_
  rw [Y0 c.2 g2]
  exact⟨rfl,rfl⟩
 refine w_mkV (by rw [AA];exact jA hcl (by decide)) (by kernel_rfl!) ?_
 rw [show (((FA (RA rs) pk 3).1++[((122,zm):dB)]).map fun c=>V.int c.2)=((FA (RA rs) pk 3).1.map fun c=>(c.2:Int)).map V.int++[V.int zm] by rw [aB,jC];rfl]
 have hml:((FA (RA rs) pk 3).1.map fun c=>(c.2:Int)).length<=4:=by rw [AA];exact o1
 have hmc:(((FA (RA rs) pk 3).1.map fun c=>(c.2:Int)).map V.int).length+1<=cap:=by rw [AA];exact jA (XB hml) (by decide)
 walk_at "w"
 refine XQ (rY hmc) ?_
 refine w_mkL (w_mkV (HG hmc) (by kernel_rfl!) ?_)
 walk_at "w"
 refine RX (iB hml (by decide)) ?_
 walk_at "w"
 refine Bc (n:=5) hW3 r6 hrd hrl L8 fun e2=>?_
 rw [L9]
 refine aM (d:=.list [.list ((Ev.CI ((FA (RA rs) pk 3).1.map fun c=>(c.2:Int))).map OA.int)]) (eI (fun l:List Int=>V.lst (l.map V.int)) (fun l=>.list (l.map OA.int)) [_] fun l _=>JP _) (eI (fun l:List Int=>V.lst (l.map V.int)) (fun l=>.list (l.map OA.int)) [_] fun l _=>JP _) ?_ ?_
 ·exact TJ fun d hd=>by rw [BA.mp hd];exact TY _
 walk_at "w"
 refine XQ (rY hmc) ?_
 refine w_mkL (w_mkV (HG hmc) (by kernel_rfl!) ?_)
 walk_at "w"
 rw [jC]
 refine lH (V.int ∘ fun c:dB=>(c.2:Int)) (fun _=>false) (fun _=>.none) rfl (FA (RA rs) pk 3).1 (fun c hc=>?_) ?_
 ·have g1:=o3 c hc
  show W (sH _ _ _ _ _ _ (.int (c.2:Int))) _ _
  walk_at "w"
  rw [<-jC]
  refine mI (v:=V.int zm) (fg hmc) ?_
  walk_at "w"
  rw [(NJ _ g1 _ z1).1]
  walk_at "w"
  refine V1 ?_
  rw [show (!(decide (c.2 &&& zm=0)||decide (c.2 &&& zm=c.2)))=false by rcases z3 c hc with e|e;rw [decide_eq_true e];rfl;rw [decide_eq_true e,Bool.or_true];rfl]
  walk_at "w"
  exact⟨rfl,rfl⟩
 rw [show ((FA (RA rs) pk 3).1.filter fun _=>false)=[] from OM.mpr fun _ _=>by decide]
 refine w_mkV (LC rfl) (by kernel_rfl!) ?_
 walk_at "w"
 refine H0 (l:=[]) ?_
 walk_at "w"
 rfl
section
inductive IE(rs:List lB):List Nat->Nat->Nat->Prop
 | nil {x:Nat}:IE rs [] x x
 | cons {p t z:Nat}{u w:List Nat}:(p,u,t)∈rs->IE rs w t z->IE rs (u++w) p z
theorem l9:∀ a:Nat,a<16->∀ b:Nat,b<16->∀ y:Nat,y<4->gB (a ||| b) y=(gB a y||gB b y):=by decide +kernel
abbrev BC(R:List Nat)(x z:Nat):Bool:=gB (R.getD x 0) z
theorem Dq{R:List Nat}{p x m:Nat}(h:p<R.length):(R.set p m).getD x 0=if x=p then m else R.getD x 0:=by
 rw [FE,FE]
 by_cases q:x=p
 ·subst q;rw [if_pos rfl,HJ h];rfl
 ·rw [if_neg q,jE (Ne.symm q)]
theorem ZQ{w:List Nat}{R:List (List Nat)}(hR:∀ r∈R,DB r){cur:List Nat}(hc:DB cur){r:lB}(hr:OB r){x z:Nat}(hx:x<4)(hz:z<4) :
  BC (EB w R.length R cur r) x z=(BC cur x z||(decide ((w.drop (w.length - R.length)).take r.2.1.length=r.2.1/\x=r.1)&&BC ((R++[cur]).getD (R.length - r.2.1.length) []) r.2.2 z)):=by
 unfold EB
 by_cases h:(w.drop (w.length - R.length)).take r.2.1.length=r.2.1
 ·rw [if_pos h]
  show gB ((cur.set r.1 _).getD x 0) z=_
  rw [Dq (by rw [hc.1];exact hr.pl)]
  by_cases q:x=r.1
  ·rw [if_pos q,decide_eq_true ⟨h,q⟩,l9 _ (hc.at hr.pl) _ ((ZU hR hc (wC _ _)).at hr.tg) z hz,q];rfl
  ·rw [if_neg q,decide_eq_false (fun e=>q e.2),TO,SO]
 ·rw [if_neg h,decide_eq_false (fun e=>h e.1),TO,SO]
noncomputable def bE(w:List Nat)(n:Nat):List Nat:=w.drop (w.length - n)
theorem A5{w:List Nat}{n:Nat}(h:n<=w.length):(bE w n).length=n:=by unfold bE;rw [RM];exact Nat.sub_sub_self h
theorem z5{w u:List Nat}{n:Nat}(h:n<=w.length)(hu:(bE w n).take u.length=u):u.length<=n/\bE w n=u++bE w (n - u.length):=by
 have hl:u.length<=n:=by
  have h1:=congrArg lL hu
  rw [RO,A5 h] at h1
  exact G1 h1
 refine⟨hl,?_⟩
 have e:bE w (n - u.length)=(bE w n).drop u.length:=by
  unfold bE
  rw [IV]
  congr 1
  exact vq hl h
 rw [e]
 conv=>lhs;rw [<-List.take_append_drop u.length (bE w n),hu]
theorem Br{w u v:List Nat}{n:Nat}(h:n<=w.length)(e:u++v=bE w n):u.length<=n/\(bE w n).take u.length=u/\v=bE w (n - u.length):=by
 have h1:(bE w n).take u.length=u:=by rw [<-e,jW]
 obtain⟨h2,h3⟩:=z5 h h1
 exact⟨h2,h1,List.append_cancel_left (e.trans h3)⟩
theorem NK{R:List (List Nat)}{cur:List Nat}{n k:Nat}(hn:R.length=n)(hk:k<=n):(R++[cur]).getD k []=if k=n then cur else R.getD k []:=by
 subst hn;exact WP hk
def QI(rs:List lB)(w:List Nat)(n:Nat)(cur:List Nat):Prop:=∀ x z,x<4->z<4->BC cur x z=true->IE rs (bE w n) x z
theorem Pf(rs:List lB)(w:List Nat)(n:Nat):QI rs w n (rG n):=by
 intro x z hx hz h
 rcases n with _|n
 ·have e:x=z:=by
   have:∀ x,x<4->∀ z,z<4->BC (rG 0) x z=true->x=z:=by decide +kernel
   exact this x hx z hz h
  subst e
  have:bE w 0=[]:=by unfold bE;rw [Nat.sub_zero];exact VV
  rw [this];exact .nil
 ·have:∀ x,x<4->∀ z,z<4->BC [0,0,0,0] x z=true->False:=by decide +kernel
  exact (this x hx z hz h).elim
theorem ir{rs:List lB}{w:List Nat}{R:List (List Nat)}(hn:R.length<=w.length)(hR:∀ r∈R,DB r)(hS:∀ k,k<R.length->QI rs w k (R.getD k [])){cur:List Nat}(hc:DB cur)(h:QI rs w R.length cur){r:lB}(hr:OB r)(hm:r∈rs):QI rs w R.length (EB w R.length R cur r):=by
 intro x z hx hz hb
 rw [ZQ hR hc hr hx hz] at hb
 rcases (II _ _).mp hb with q|q
 ·exact h x z hx hz q
 ·obtain⟨q1,q2⟩:=(KA _ _).mp q
  obtain⟨q3,q4⟩:=of_decide_eq_true q1
  obtain⟨hl,e⟩:=z5 hn q3
  rw [e,q4]
  obtain⟨p,u,t⟩:=r
  refine .cons hm ?_
  rw [NK rfl (wC _ _)] at q2
  by_cases q5:R.length - u.length=R.length
  ·rw [if_pos q5] at q2
   rw [q5]
   exact h t z hr.tg hz q2
  ·rw [if_neg q5] at q2
   exact hS _ (DJ (wC _ _) q5) t z hr.tg hz q2
theorem mZ{rs:List lB}{w:List Nat}{R:List (List Nat)}(hn:R.length<=w.length)(hR:∀ r∈R,DB r)(hS:∀ k,k<R.length->QI rs w k (R.getD k [])):∀ (l:List lB) {cur:List Nat},DB cur->QI rs w R.length cur->(∀ r∈l,OB r/\r∈rs)->QI rs w R.length (l.foldl (EB w R.length R) cur)
 | [],_,_,h,_=>h
 | r::l,_,hc,h,hr=>mZ hn hR hS l (FO hR hc (hr r HA).1) (ir hn hR hS hc h (hr r HA).1 (hr r HA).2) fun a ha=>hr a (NA _ ha)
theorem Q3{rs:List lB}{r:lB}(h:r∈(NC 4 rs).flatten):r∈rs:=by
 obtain⟨l,hl,hr⟩:=List.mem_flatten.mp h
 rwa [cW hl] at hr
theorem Z3{rs:List lB}{w:List Nat}{n k:Nat}(h:k<n):(zE rs w n).getD k []=vJ rs w k (zE rs w k):=by
 induction n with
 | zero=>exact absurd h (BR _)
 | succ n ih =>
  show (zE rs w n++[_]).getD k []=_
  rw [NK (yI rs w n) (dG h)]
  by_cases q:k=n
  ·rw [if_pos q,q]
  ·rw [if_neg q,ih (DJ (dG h) q)]
theorem Xp{rs:List lB}(hr:∀ r∈rs,OB r)(w:List Nat):∀ n,n<=w.length->QI rs w n (vJ rs w n (zE rs w n)):=by
 intro n
 induction n using Nat.strongRecOn with
 | _ n ih =>
  intro hn
  have e:=yI rs w n
  have h:=mZ (rs:=rs) (w:=w) (R:=zE rs w n) (by rw [e];exact hn) (OK hr w n) (fun k hk=>by
   rw [e] at hk
   rw [Z3 hk]
   exact ih k hk (jA (kC hk) hn)) (NC 4 rs).flatten (cur:=rG n) (gJ n) (by rw [e];exact Pf rs w n) fun r h=>⟨hr r (Q3 h),Q3 h⟩
  rw [e] at h
  exact h
def UJ(z:Nat)(a b:List Nat):Prop:=∀ x,x<4->BC a x z=BC b x z
def tQ(z:Nat)(a b:List Nat):Prop:=∀ x,x<4->BC a x z=true->BC b x z=true
noncomputable def cnt(z:Nat)(a:List Nat):Nat:=(BC a 0 z).toNat+((BC a 1 z).toNat+((BC a 2 z).toNat+(BC a 3 z).toNat))
theorem db:∀ a b c d a' b' c' d':Bool,(a=true->a'=true)->(b=true->b'=true)->(c=true->c'=true)->(d=true->d'=true)->¬ (a=a'/\b=b'/\c=c'/\d=d')->a.toNat+(b.toNat+(c.toNat+d.toNat))<a'.toNat+(b'.toNat+(c'.toNat+d'.toNat)):=by decide
theorem eb:∀ a b c d:Bool,4<=a.toNat+(b.toNat+(c.toNat+d.toNat))->a=true/\b=true/\c=true/\d=true:=by decide
theorem FP{z:Nat}{a b:List Nat}(h:tQ z a b)(hn:¬ UJ z a b):cnt z a<cnt z b :=
 db _ _ _ _ _ _ _ _ (h 0 (by decide)) (h 1 (by decide)) (h 2 (by decide)) (h 3 (by decide)) fun⟨e0,e1,e2,e3⟩=>hn fun x hx=>by
  rcases JH x hx with q|q|q|q<;>subst q<;>assumption
theorem fb{z:Nat}{a:List Nat}(h:4<=cnt z a){x:Nat}(hx:x<4):BC a x z=true:=by
 obtain⟨e0,e1,e2,e3⟩:=eb _ _ _ _ h
 rcases JH x hx with q|q|q|q<;>subst q<;>assumption
variable{rs:List lB}{w:List Nat}{R:List (List Nat)}
def dP(rs:List lB)(w:List Nat)(R:List (List Nat))(z:Nat)(cur:List Nat):Prop:=∀ r∈rs,(w.drop (w.length - R.length)).take r.2.1.length=r.2.1->BC ((R++[cur]).getD (R.length - r.2.1.length) []) r.2.2 z=true->BC cur r.1 z=true
theorem Y3{z:Nat}{a b:List Nat}(h:UJ z a b)(k:Nat){t:Nat}(ht:t<4):BC ((R++[a]).getD (R.length - k) []) t z=BC ((R++[b]).getD (R.length - k) []) t z:=by
 rw [NK rfl (wC _ _),NK rfl (wC _ _)]
 split
 ·exact h t ht
 ·rfl
theorem Wp{z:Nat}{a b:List Nat}(h:tQ z a b)(k:Nat){t:Nat}(ht:t<4):BC ((R++[a]).getD (R.length - k) []) t z=true->BC ((R++[b]).getD (R.length - k) []) t z=true:=by
 rw [NK rfl (wC _ _),NK rfl (wC _ _)]
 split
 ·exact h t ht
 ·exact id
theorem gr(hR:∀ r∈R,DB r){cur:List Nat}(hc:DB cur){r:lB}(hr:OB r){z:Nat}(hz:z<4):tQ z cur (EB w R.length R cur r):=fun x hx h=>by
 rw [ZQ hR hc hr hx hz,h];rfl
theorem cJ(hR:∀ r∈R,DB r){z:Nat}(hz:z<4):∀ (l:List lB) {cur:List Nat},DB cur->(∀ r∈l,OB r)->tQ z cur (l.foldl (EB w R.length R) cur)
 | [],_,_,_=>fun _ _ h=>h
 | r::l,_,hc,hr=>fun x hx h=>cJ hR hz l (FO hR hc (hr r HA)) (fun a ha=>hr a (NA _ ha)) x hx (gr hR hc (hr r HA) hz x hx h)
theorem lZ(hR:∀ r∈R,DB r){z:Nat}(hz:z<4){c0:List Nat}(h0:dP rs w R z c0):∀ (l:List lB) {cur:List Nat},DB cur->(∀ r∈l,OB r/\r∈rs)->UJ z c0 cur->UJ z c0 (l.foldl (EB w R.length R) cur)
 | [],_,_,_,h=>h
 | r::l,cur,hc,hr,h=>by
  obtain⟨h1,h2⟩:=hr r HA
  refine lZ hR hz h0 l (FO hR hc h1) (fun a ha=>hr a (NA _ ha)) fun x hx=>?_
  rw [ZQ hR hc h1 hx hz,<- h x hx,<- Y3 h r.2.1.length h1.tg]
  generalize hd:decide ((w.drop (w.length - R.length)).take r.2.1.length=r.2.1/\x=r.1)=ohdz
  rcases ohdz with _|_
  ·simp
  ·obtain⟨d1,d2⟩:=of_decide_eq_true hd
   generalize hb:BC ((R++[c0]).getD (R.length - r.2.1.length) []) r.2.2 z=ohbz
   rcases ohbz with _|_
   ·simp
   ·rw [d2,h0 r h2 d1 hb];rfl
theorem RP(hR:∀ r∈R,DB r)(hr:∀ r∈rs,OB r){z:Nat}(hz:z<4){cur:List Nat}(hc:DB cur)(h:UJ z cur (rs.foldl (EB w R.length R) cur)):dP rs w R z (rs.foldl (EB w R.length R) cur):=by
 intro r hm h1 h2
 obtain⟨l1,l2,e⟩:=List.append_of_mem hm
 have hr1:∀ a∈l1,OB a:=fun a ha=>hr a (by rw [e];exact MD _ ha)
 have hr2:∀ a∈l2,OB a:=fun a ha=>hr a (by rw [e];exact DE _ (NA _ ha))
 have hm1:=bJ (w:=w) hR l1 hc hr1
 have hrr:=hr r hm
 rw [<-Y3 h _ hrr.tg] at h2
 have h3:=Wp (R:=R) (cJ (w:=w) hR hz l1 hc hr1) r.2.1.length hrr.tg h2
 have h4:BC (EB w R.length R (l1.foldl (EB w R.length R) cur) r) r.1 z=true:=by
  rw [ZQ hR hm1 hrr hrr.pl hz,decide_eq_true ⟨h1,rfl⟩,h3];simp
 have h5:=cJ (w:=w) hR hz l2 (FO hR hm1 hrr) hr2 r.1 hrr.pl h4
 rw [e,gG,YO]
 exact h5
theorem Vp(hR:∀ r∈R,DB r)(hr:∀ r∈rs,OB r){z:Nat}(hz:z<4){c0:List Nat}(hc:DB c0):dP rs w R z (((NC 4 rs).flatten).foldl (EB w R.length R) c0):=by
 have e:((NC 4 rs).flatten).foldl (EB w R.length R) c0=rs.foldl (EB w R.length R) (rs.foldl (EB w R.length R) (rs.foldl (EB w R.length R) (rs.foldl (EB w R.length R) c0))):=by
  show (rs++(rs++(rs++(rs++[])))).foldl _ _=_
  rw [bC,gG,gG,gG]
 rw [e]
 have m1:=bJ (w:=w) hR rs hc hr
 have m2:=bJ (w:=w) hR rs m1 hr
 have m3:=bJ (w:=w) hR rs m2 hr
 have l0:=cJ (w:=w) hR hz rs hc hr
 have l1:=cJ (w:=w) hR hz rs m1 hr
 have l2:=cJ (w:=w) hR hz rs m2 hr
 have l3:=cJ (w:=w) hR hz rs m3 hr
 have s0:=fun h=>RP (w:=w) hR hr hz hc h
 have s1:=fun h=>RP (w:=w) hR hr hz m1 h
 have s2:=fun h=>RP (w:=w) hR hr hz m2 h
 have s3:=fun h=>RP (w:=w) hR hr hz m3 h
 have nx:∀ {c:List Nat},DB c->dP rs w R z c->UJ z c (rs.foldl (EB w R.length R) c):=fun hc h=>lZ hR hz h rs hc (fun r h=>⟨hr r h,h⟩) fun _ _=>rfl
 by_cases q3:UJ z (rs.foldl (EB w R.length R) (rs.foldl (EB w R.length R) (rs.foldl (EB w R.length R) c0))) (rs.foldl (EB w R.length R) (rs.foldl (EB w R.length R) (rs.foldl (EB w R.length R) (rs.foldl (EB w R.length R) c0))))
 ·exact s3 q3
 ·have q2:=fun h=>q3 (nx m3 (s2 h))
  have q1:=fun h=>q2 (nx m2 (s1 h))
  have q0:=fun h=>q1 (nx m1 (s0 h))
  have c3:=FP l3 q3
  have c2:=FP l2 q2
  have c1:=FP l1 q1
  have c0':=FP l0 q0
  have h4:4<=cnt z (rs.foldl (EB w R.length R) (rs.foldl (EB w R.length R) (rs.foldl (EB w R.length R) (rs.foldl (EB w R.length R) c0)))):=ma c0' c1 c2 c3
  exact fun r hm _ _=>fb h4 (hr r hm).pl
theorem Uo(hr:∀ r∈rs,OB r){v:List Nat}{x z:Nat}(h:IE rs v x z):x<4->z<4->∀ n,n<=w.length->v=bE w n->BC (vJ rs w n (zE rs w n)) x z=true:=by
 induction h with
 | @nil x =>
  intro hx hz n hn e
  have h0:n=0:=by have:=congrArg lL e;rw [A5 hn] at this;exact this.symm
  subst h0
  have h1:=cJ (w:=w) (R:=[]) (fun _ h=>by cases h) hz ((NC 4 rs).flatten) (cur:=rG 0) (gJ 0) (xO hr) x hx (by
   have:∀ x,x<4->BC (rG 0) x x=true:=by decide +kernel
   exact this x hx)
  exact h1
 | @cons p t z u v' hm _ ih =>
  intro hx hz n hn e
  obtain⟨h1,h2,h3⟩:=Br hn e
  have hrr:=hr _ hm
  have hl:=yI rs w n
  have h4:=ih hrr.tg hz (n - u.length) (jA (wC _ _) hn) h3
  have hcl:=Vp (w:=w) (OK hr w n) hr hz (gJ n) (p,u,t) hm (by rw [hl];exact h2)
  rw [hl] at hcl
  refine hcl ?_
  rw [NK hl (wC _ _)]
  by_cases q:n - u.length=n
  ·rw [if_pos q];rw [q] at h4;exact h4
  ·rw [if_neg q,Z3 (DJ (wC _ _) q)];exact h4
theorem lR(hr:∀ r∈rs,OB r){x z:Nat}(hx:x<4)(hz:z<4):BC (RA rs w) x z=true ↔ IE rs w x z:=by
 have e:bE w w.length=w:=by unfold bE;rw [NI];rfl
 refine⟨fun h=>?_,fun h=>Uo hr h hx hz w.length (sA _) e.symm⟩
 have h1:=Xp hr w w.length (sA _) x z hx hz h
 rwa [e] at h1
end
section
theorem FX:∀ a:Nat,a<16->∀ b:Nat,b<16->∀ y:Nat,y<4->gB (a &&& b) y=(gB a y&&gB b y):=by decide +kernel
theorem GX:∀ a:Nat,a<16->∀ y:Nat,y<4->gB (15 - a) y = !gB a y:=by decide +kernel
theorem IX:∀ a:Nat,a<16->∀ b:Nat,b<16->∀ y:Nat,y<4->gB (a - (a &&& b)) y=(gB a y && !gB b y):=by decide +kernel
theorem W6:∀ a:Nat,a<16->∀ b:Nat,b<16->decide (a &&& b=0) = !((UA 4).any fun y=>gB a y&&gB b y):=by decide +kernel
theorem X6:∀ a:Nat,a<16->∀ b:Nat,b<16->decide (a &&& b=a)=((UA 4).all fun y=>!gB a y||gB b y):=by decide +kernel
theorem pP{a b:Nat}(ha:a<16)(hb:b<16):¬ a &&& b=0 ↔ ∃ y,y<4/\gB a y=true/\gB b y=true:=by
 have h:=W6 a ha b hb
 constructor
 ·intro q
  rw [decide_eq_false q] at h
  obtain⟨y,hy,h⟩:=MR.mp (show ((UA 4).any fun y=>gB a y&&gB b y)=true by simpa using h.symm)
  obtain⟨h1,h2⟩:=(KA _ _).mp h
  exact⟨y,gE.mp hy,h1,h2⟩
 ·rintro⟨y,hy,h1,h2⟩ q
  rw [decide_eq_true q] at h
  have:=(bH _).mp h.symm
  rw [WO] at this
  exact this y (gE.mpr hy) (by rw [h1,h2];rfl)
theorem kX{a b:Nat}(ha:a<16)(hb:b<16):a &&& b=a ↔ ∀ y,y<4->gB a y=true->gB b y=true:=by
 have h:=X6 a ha b hb
 constructor
 ·intro q y hy h1
  rw [decide_eq_true q] at h
  have:=YA.mp h.symm y (gE.mpr hy)
  rw [h1] at this
  exact this
 ·intro q
  refine of_decide_eq_true (h.trans (YA.mpr fun y hy=>?_))
  generalize hb:gB a y=ohbz
  rcases ohbz with _|_
  ·rfl
  ·rw [q y (gE.mp hy) hb];rfl
theorem HX(f:Nat->Bool){y:Nat}(hy:y<4):gB (((UA 4).filter f).map (2 ^ ·)).sum y=f y:=by
 show gB (((KR f [0,1,2,3]).map (2 ^ ·)).sum) y=_
 simp only [KR]
 rcases JH y hy with h|h|h|h<;>subst h<;>cases f 0<;>cases f 1<;>cases f 2<;>cases f 3<;>rfl
theorem UI(row:List Nat)(g:Nat):LB row g<16:=HO _
theorem K8{row:List Nat}(hm:DB row){g:Nat}(hg:g<16){x:Nat}(hx:x<4):gB (LB row g) x=true ↔ ∃ z,z<4/\BC row x z=true/\gB g z=true:=by
 unfold LB
 rw [HX _ hx]
 show (!decide (row.getD x 0 &&& g=0))=true ↔ _
 rw [bH,decide_eq_false_iff_not]
 exact pP (hm.at hx) hg
theorem q6{rs:List lB}(hr:∀ r∈rs,OB r)(w:List Nat):DB (RA rs w):=by
 have k:=bJ (w:=w) (OK hr w w.length) _ (gJ w.length) (xO hr)
 rw [yI] at k
 exact k
variable{rs:List lB}(hr:∀ r∈rs,OB r)
theorem rM(hr:∀ r∈rs,OB r){w:List Nat}{x z:Nat}(h:IE rs w x z):x<4->z<4:=by
 induction h with
 | nil=>exact id
 | cons hm _ ih=>exact fun _=>ih (hr _ hm).tg
theorem To{w v:List Nat}{x y z:Nat}(h:IE rs w x y)(k:IE rs v y z):IE rs (w++v) x z:=by
 induction h with
 | nil=>exact k
 | cons hm _ ih=>rw [qB];exact .cons hm (ih k)
theorem tP(hr:∀ r∈rs,OB r){w:List Nat}{g:Nat}(hg:g<16){x:Nat}(hx:x<4):gB (LB (RA rs w) g) x=true ↔ ∃ z,IE rs w x z/\gB g z=true:=by
 rw [K8 (q6 hr w) hg hx]
 constructor
 ·rintro⟨z,hz,h1,h2⟩
  exact⟨z,(lR hr hx hz).mp h1,h2⟩
 ·rintro⟨z,h1,h2⟩
  have hz:=rM hr h1 hx
  exact⟨z,hz,(lR hr hx hz).mpr h1,h2⟩
theorem K1{p:List Nat}{n x:Nat}(hx:x<4):gB (SG p n) x=decide (((p.getD x 0:Nat):Int)=(n:Int)):=HX _ hx
def Gd(rs:List lB)(p:List Nat):Prop:=∀ r∈rs,∀ y,y<4->p.getD y 0=p.getD r.1 0->∃ z,IE rs r.2.1 y z/\p.getD z 0=p.getD r.2.2 0
theorem HZ(hr:∀ r∈rs,OB r){p:List Nat}(hp:tM p):TI (RA rs) rs p=[] ↔ Gd rs p:=by
 have hb:∀ r∈rs,∀ y,y<4->(OJ (RA rs) p r y=false ↔ (p.getD y 0=p.getD r.1 0->∃ z,IE rs r.2.1 y z/\p.getD z 0=p.getD r.2.2 0)):=by
  intro r hm y hy
  obtain⟨h1,h2,h3⟩:=hr r hm
  have hw:=q6 hr r.2.1
  unfold OJ
  rw [Bool.and_eq_false_iff,decide_eq_false_iff_not,decide_eq_false_iff_not]
  have e1:(((p.getD y 0:Nat):Int)=((p.getD r.1 0:Nat):Int)) ↔ p.getD y 0=p.getD r.1 0:=aP
  have e2:(((((RA rs r.2.1).getD y 0) &&& SG p (p.getD r.2.2 0):Nat):Int)=0) ↔ ((RA rs r.2.1).getD y 0) &&& SG p (p.getD r.2.2 0)=0:=aP (n:=0)
  rw [e1,e2,pP (hw.at hy) (M1 p _)]
  constructor
  ·rintro (q|⟨z,hz,q1,q2⟩) e
   ·exact absurd e q
   ·rw [K1 hz] at q2
    exact⟨z,(lR hr hy hz).mp q1,aP.mp (of_decide_eq_true q2)⟩
  ·intro q
   by_cases e:p.getD y 0=p.getD r.1 0
   ·obtain⟨z,q1,q2⟩:=q e
    have hz:=rM hr q1 hy
    exact .inr ⟨z,hz,(lR hr hy hz).mpr q1,by rw [K1 hz];exact decide_eq_true (by rw [q2])⟩
   ·exact .inl e
 unfold TI
 rw [kW]
 constructor
 ·intro h r hm y hy e
  have h1:=VO.mp (h r hm)
  rw [OM] at h1
  exact (hb r hm y hy).mp (by simpa using h1 y (gE.mpr hy)) e
 ·intro h r hm
  rw [VO,OM]
  intro y hy
  have hy4:=gE.mp hy
  rw [(hb r hm y hy4).mpr (h r hm y hy4)]
  decide
def XE(p:List Nat)(m:Nat):Prop:=∀ x y,x<4->y<4->p.getD y 0=p.getD x 0->gB m x=true->gB m y=true
theorem Ve(hr:∀ r∈rs,OB r){p:List Nat}(hg:Gd rs p){w:List Nat}{x z:Nat}(h:IE rs w x z):∀ y,y<4->p.getD y 0=p.getD x 0->∃ z',IE rs w y z'/\p.getD z' 0=p.getD z 0:=by
 induction h with
 | nil=>exact fun y _ e=>⟨y,.nil,e⟩
 | @cons q t z u w hm _ ih =>
  intro y hy e
  obtain⟨t',h1,h2⟩:=hg _ hm y hy e
  obtain⟨z',h3,h4⟩:=ih t' (rM hr h1 hy) h2
  exact⟨z',To h1 h3,h4⟩
theorem vX(hr:∀ r∈rs,OB r){p:List Nat}(hg:Gd rs p){w:List Nat}{g:Nat}(h16:g<16)(hc:XE p g):XE p (LB (RA rs w) g):=by
 intro x y hx hy e hb
 obtain⟨z,h1,h2⟩:=(tP hr h16 hx).mp hb
 obtain⟨z',h3,h4⟩:=Ve hr hg h1 y hy e
 exact (tP hr h16 hy).mpr ⟨z',h3,hc z z' (rM hr h1 hx) (rM hr h3 hy) h4 h2⟩
noncomputable def Yk(ms:List Nat):List (List Nat):=(UA ms.length).flatMap fun i=>((UA 16).filter fun p=>!decide (p=0)&&(!decide (p=ms.getD i 0)&&decide (ms.getD i 0 &&& p=p))).map fun p=>ms.eraseIdx i++[p,ms.getD i 0 - p]
noncomputable def QG:Nat->List (List Nat)
 | 0=>[[15]]
 | n+1=>(QG n).flatMap Yk
noncomputable def nJ(C:List dB):List Nat:=C.map (·.2)
theorem cZ:∀ (C:List dB) (i:Nat) (c:dB),(C.map (·.1)).Nodup->C[i]? = some c->C.filter (fun d=>!decide ([d.1]=[c.1]))=C.eraseIdx i
 | [],_,_,_,h=>by cases h
 | d::C,0,c,hn,h=>by
  have hdc:d=c:=Option.some.inj h
  subst hdc
  have hn1:=(zH.mp hn).1
  rw [IR (by simp),List.eraseIdx_cons_zero]
  refine List.filter_eq_self.mpr fun e he=>?_
  have hne:e.1≠d.1:=fun q=>hn1 (rC.mpr ⟨e,he,q⟩)
  simpa using hne
 | d::C,i+1,c,hn,h=>by
  have hm:c∈C:=DD h
  have:=(zH.mp hn).1
  have hne:d.1≠c.1:=fun q=>this (rC.mpr ⟨c,hm,q.symm⟩)
  rw [gW (by simpa using hne),List.eraseIdx_cons_succ,cZ C i c (zH.mp hn).2 h]
theorem X0{α β:Type}(f:α->β):∀ (l:List α) (i:Nat),(l.eraseIdx i).map f=(l.map f).eraseIdx i
 | [],_=>rfl
 | _::_,0=>rfl
 | a::l,i+1=>congrArg (f a :: ·) (X0 f l i)
theorem Xo{wy:List Nat->List Nat}{C:List dB}{pk:Nat}(h:cD wy C pk=[]):HC wy C=[]:=by
 generalize hf:HC wy C=ohfz
 rcases ohfz with _|⟨a,l⟩
 ·rfl
 ·unfold cD at h
  rw [hf] at h
  rcases List.take_eq_nil_iff.mp h with q|q
  ·cases q
  ·have h1:=List.drop_eq_nil_iff.mp q
   have h2:pk%max 1 (a::l).length<(a::l).length:=by
    have e:max 1 (a::l).length=(a::l).length:=MV (XB (iE _))
    rw [e];exact Nat.mod_lt _ (NM _)
   exact absurd h1 (Nat.not_le.mpr h2)
structure P6(wy:List Nat->List Nat)(pk k:Nat):Prop where
 nd:((FA wy pk k).1.map (·.1)).Nodup
 lb:∀ c∈(FA wy pk k).1,c.1=107\/(108<=c.1/\c.1<108+2*k)
 or_:∃ j,j<=k/\nJ (FA wy pk k).1∈QG j/\(j=k\/HC wy (FA wy pk k).1=[])
theorem Y6:∀ a:Nat,a<16->∀ b:Nat,b<16->a &&& (a &&& b)=a &&& b:=by decide +kernel
theorem b5(wy:List Nat->List Nat)(pk:Nat):∀ k,k<=3->P6 wy pk k
 | 0,_=>⟨show [107].Nodup by decide,fun c hc=>.inl (by rw [BA.mp (show c∈[((107,15):dB)] from hc)]),0,sA _,show [15]∈[[15]] from BA.mpr rfl,.inl rfl⟩
 | k+1,hk=>by
  obtain⟨h1,h2,j,h3,h4,h5⟩:=b5 wy pk k (HG hk)
  obtain⟨_,_,o3⟩:=vI wy pk k (HG hk)
  have e:FA wy pk (k+1)=zG k (cD wy (FA wy pk k).1 pk) (FA wy pk k):=rfl
  generalize hp:cD wy (FA wy pk k).1 pk=ohpz
  rcases ohpz with _|⟨f,r⟩
  ·rw [hp] at e
   have e':FA wy pk (k+1)=FA wy pk k:=e
   refine⟨by rw [e'];exact h1,fun c hc=>?_,j,eE h3,by rw [e'];exact h4,.inr (by rw [e'];exact Xo hp)⟩
   rw [e'] at hc
   exact (h2 c hc).imp id fun q=>⟨q.1,cC q.2 d8⟩
  ·have hfm:f∈HC wy (FA wy pk k).1:=sO (pk:=pk) (by rw [hp];exact HA)
   have hjk:j=k:=h5.resolve_right fun q=>by rw [q] at hfm;cases hfm
   subst hjk
   rw [hp] at e
   obtain⟨w,hw,g,hg,c,hc,hs,rfl⟩:=yN hfm
   have e1:(FA wy pk (j+1)).1=((FA wy pk j).1.filter fun d=>!decide ([d.1]=[c.1]))++[(108+2*j,c.2 &&& LB (wy w) g.2),(109+2*j,c.2 - (c.2 &&& LB (wy w) g.2))]:=by rw [e];rfl
   obtain⟨i,hi,hci⟩:=List.mem_iff_getElem.mp hc
   have hci':(FA wy pk j).1[i]? = some c:=by rw [sD hi,hci]
   rw [cZ _ i c h1 hci'] at e1
   refine⟨?_,fun d hd=>?_,j+1,sA _,?_,.inl rfl⟩
   ·rw [e1,aB,iL]
    have hsub:((FA wy pk j).1.eraseIdx i).Sublist (FA wy pk j).1:=List.eraseIdx_sublist ..
    refine⟨(hsub.map _).nodup h1,by simp,fun a ha b hb=>?_⟩
    obtain⟨d,hd,rfl⟩:=rC.mp ha
    have:=h2 d (hsub.mem hd)
    simp only [sB,LO,bB,aH,or_false] at hb
    rcases hb with rfl|rfl
    ·exact iD (Ev.gK this)
    ·exact iD (Ev.X1 this)
   ·rw [e1] at hd
    rcases GB.mp hd with q|q
    ·exact (h2 d (List.mem_of_mem_eraseIdx q)).imp id fun q=>⟨q.1,cC q.2 d8⟩
    ·simp only [bB,aH,or_false] at q
     rcases q with rfl|rfl
     ·exact .inr ⟨by show 108<=108+2*j;exact BB _ _,by show 108+2*j<_;exact kC (jD _)⟩
     ·exact .inr ⟨d9,d7⟩
   ·refine AH.mpr ⟨nJ (FA wy pk j).1,h4,?_⟩
    have hl:(nJ (FA wy pk j).1).length=(FA wy pk j).1.length:=AA _
    have hgi:(nJ (FA wy pk j).1).getD i 0=c.2:=by
     unfold nJ
     rw [FE,UE,hci'];rfl
    refine AH.mpr ⟨i,gE.mpr (by rw [hl];exact hi),rC.mpr ⟨c.2 &&& LB (wy w) g.2,?_,?_⟩⟩
    ·rw [YH]
     have h16:=o3 c hc
     refine⟨gE.mpr (iB UM h16),?_⟩
     rw [hgi,Y6 _ h16 _ (UI _ _),decide_eq_true rfl,Bool.and_true]
     unfold VG at hs
     rw [Bool.not_or] at hs
     exact hs
    ·rw [hgi,e1]
     unfold nJ
     rw [aB,X0];rfl
end
section
noncomputable def dY(ms p:List Nat):Bool:=decide (CO p=Ev.CI (ms.map fun (m:Nat)=>(m:Int)))&&((UA 4).all (fun x=>(UA 4).all fun y=>(p.getD y 0==p.getD x 0)==ms.any fun m=>gB m x&&gB m y)&&ms.all fun m=>m != 0&&decide (m<16))
theorem Ca:(QG 0++(QG 1++(QG 2++QG 3))).all (fun ms=>qH.any (dY ms))=true:=by decide +kernel
theorem Ho:(QG 3).all (fun ms=>ms.all fun m=>[1,2,4,8].contains m)=true:=by decide +kernel
theorem Go:∀ b:Nat,b<16->[1,2,4,8].all (fun c=>!VG b (0,c))=true:=by decide +kernel
theorem gj{j:Nat}(h:j<=3){ms:List Nat}(hm:ms∈QG j):ms∈QG 0++(QG 1++(QG 2++QG 3)):=by
 rcases JH j (LI h) with q|q|q|q<;>subst q
 ·exact MD _ hm
 ·exact DE _ (MD _ hm)
 ·exact DE _ (DE _ (MD _ hm))
 ·exact DE _ (DE _ (DE _ hm))
structure fP(wy:List Nat->List Nat)(C:List dB)(p:List Nat):Prop where
 pp:p∈qH
 srt:CO p=Ev.CI ((nJ C).map fun (m:Nat)=>(m:Int))
 lk:∀ x y,x<4->y<4->(p.getD y 0=p.getD x 0 ↔ ∃ c∈C,gB c.2 x=true/\gB c.2 y=true)
 lt:∀ c∈C,c.2<16
 st:∀ w∈hB,∀ g∈C,∀ c∈C,VG (LB (wy w) g.2) c=false
theorem Tc{wy:List Nat->List Nat}{C:List dB}(h:HC wy C=[]):∀ w∈hB,∀ g∈C,∀ c∈C,VG (LB (wy w) g.2) c=false:=by
 intro w hw g hg c hc
 unfold HC at h
 rw [kW] at h
 have h1:=h w hw
 unfold QP at h1
 rw [kW] at h1
 have h2:=h1 g hg
 unfold jI at h2
 rw [VO,OM] at h2
 exact NR.mpr (h2 c hc)
theorem Mc(wy:List Nat->List Nat)(pk:Nat):∃ p,fP wy (FA wy pk 3).1 p:=by
 obtain⟨_,_,j,h3,h4,h5⟩:=b5 wy pk 3 (sA _)
 have h16:=(vI wy pk 3 (sA _)).2.2
 obtain⟨p,hp,hc⟩:=MR.mp (YA.mp Ca _ (gj h3 h4))
 unfold dY at hc
 obtain⟨c1,c2⟩:=(KA _ _).mp hc
 obtain⟨c2,_⟩:=(KA _ _).mp c2
 refine⟨p,hp,of_decide_eq_true c1,fun x y hx hy=>?_,h16,?_⟩
 ·have:=eq_of_beq (YA.mp (YA.mp c2 x (gE.mpr hx)) y (gE.mpr hy))
  constructor
  ·intro e
   rw [beq_iff_eq.mpr e] at this
   obtain⟨m,hm,hb⟩:=MR.mp this.symm
   obtain⟨c,hc,rfl⟩:=rC.mp hm
   exact⟨c,hc,(KA _ _).mp hb⟩
  ·rintro⟨c,hc,b1,b2⟩
   refine eq_of_beq (this.trans (MR.mpr ⟨c.2,TM hc,?_⟩))
   rw [b1,b2];rfl
 ·rcases h5 with q|q
  ·subst q
   intro w hw g hg c hc
   have h6:=YA.mp (YA.mp Ho _ h4) c.2 (TM hc)
   have h7:=YA.mp (Go _ (UI (wy w) g.2)) c.2 (List.contains_iff_mem.mp h6)
   exact (bH _).mp h7
  ·exact Tc q
variable{rs:List lB}(hr:∀ r∈rs,OB r){C:List dB}{p:List Nat}
theorem xq{b:Nat}(hb:b<16){c:dB}(hc:c.2<16)(h:VG b c=false){x y:Nat}(hx:x<4)(hy:y<4)(b1:gB c.2 x=true)(b2:gB b x=true)(b3:gB c.2 y=true):gB b y=true:=by
 unfold VG at h
 rw [Bool.not_eq_false',II,decide_eq_true_eq,decide_eq_true_eq] at h
 rcases h with q|q
 ·exact absurd q ((pP hc hb).mpr ⟨x,hx,b1,b2⟩)
 ·exact (kX hc hb).mp q y hy b3
theorem TS(hr:∀ r∈rs,OB r)(F:fP (RA rs) C p):Gd rs p:=by
 intro r hm y hy e
 obtain⟨h1,h2,h3⟩:=hr r hm
 obtain⟨g,hg,g1,_⟩:=(F.lk r.2.2 r.2.2 h3 h3).mp rfl
 obtain⟨c,hc,c1,c2⟩:=(F.lk r.1 y h1 hy).mp e
 have hp:IE rs r.2.1 r.1 r.2.2:=by
  have:IE rs (r.2.1++[]) r.1 r.2.2:=.cons hm .nil
  rwa [bC] at this
 have hb:=(tP hr (F.lt g hg) h1).mpr ⟨_,hp,g1⟩
 have hb2:=xq (UI _ _) (F.lt c hc) (F.st _ h2 g hg c hc) h1 hy c1 hb c2
 obtain⟨z,z1,z2⟩:=(tP hr (F.lt g hg) hy).mp hb2
 exact⟨z,z1,(F.lk _ z h3 (rM hr z1 hy)).mpr ⟨g,hg,g1,z2⟩⟩
theorem fY(p:List Nat):XE p 15:=fun x y hx hy e h=>by
 have:∀ y,y<4->gB 15 y=true:=by decide
 exact this y hy
theorem gY{p:List Nat}{a b:Nat}(ha:a<16)(hb:b<16)(h:XE p a)(k:XE p b):XE p (a &&& b):=fun x y hx hy e q=>by
 rw [FX a ha b hb x hx] at q
 rw [FX a ha b hb y hy]
 obtain⟨q1,q2⟩:=(KA _ _).mp q
 rw [h x y hx hy e q1,k x y hx hy e q2];rfl
theorem Ra{p:List Nat}{a:Nat}(ha:a<16)(h:XE p a):XE p (15 - a):=fun x y hx hy e q=>by
 rw [GX a ha x hx] at q
 rw [GX a ha y hy]
 generalize hb:gB a y=ohbz
 rcases ohbz with _|_
 ·rfl
 ·rw [h y x hy hx e.symm hb] at q;exact q
theorem Ua{p:List Nat}{a b:Nat}(ha:a<16)(hb:b<16)(h:XE p a)(k:XE p b):XE p (a - (a &&& b)):=fun x y hx hy e q=>by
 rw [IX a ha b hb x hx] at q
 rw [IX a ha b hb y hy]
 obtain⟨q1,q2⟩:=(KA _ _).mp q
 rw [h x y hx hy e q1]
 generalize hc:gB b y=ohcz
 rcases ohcz with _|_
 ·rfl
 ·rw [k y x hy hx e.symm hc] at q2;exact q2
theorem RU(hr:∀ r∈rs,OB r){p:List Nat}(hg:Gd rs p)(pk:Nat):∀ k,k<=3->∀ c∈(FA (RA rs) pk k).1,XE p c.2
 | 0,_=>fun c hc=>by
  have:c=(107,15):=BA.mp hc
  rw [this];exact fY p
 | k+1,hk=>by
  have ih:=RU hr hg pk k (HG hk)
  have h16:=(vI (RA rs) pk k (HG hk)).2.2
  have e:FA (RA rs) pk (k+1)=zG k (cD (RA rs) (FA (RA rs) pk k).1 pk) (FA (RA rs) pk k):=rfl
  generalize hp:cD (RA rs) (FA (RA rs) pk k).1 pk=ohpz
  rcases ohpz with _|⟨f,r⟩
  ·rw [hp] at e;rw [e];exact ih
  ·have hfm:f∈HC (RA rs) (FA (RA rs) pk k).1:=sO (pk:=pk) (by rw [hp];exact HA)
   rw [hp] at e
   obtain⟨w,hw,g,hg',c,hc,hs,rfl⟩:=yN hfm
   intro d hd
   rw [e] at hd
   have hb:=vX hr hg (w:=w) (h16 g hg') (ih g hg')
   rcases GB.mp hd with q|q
   ·exact ih d ((YH.mp q).1)
   ·simp only [bB,aH,or_false] at q
    rcases q with rfl|rfl
    ·exact gY (h16 c hc) (UI _ _) (ih c hc) hb
    ·exact Ua (h16 c hc) (UI _ _) (ih c hc) hb
noncomputable def O3(p' p:List Nat):Bool:=(UA 4).all fun x=>(UA 4).all fun y=>!(p'.getD y 0==p'.getD x 0)||(p.getD y 0==p.getD x 0)
theorem Da:qH.all (fun p'=>qH.all fun p=>!O3 p' p||(decide ((TC p').count 0<=(TC p).count 0)&&((p'==p) || !decide ((TC p').count 0=(TC p).count 0))))=true:=by decide +kernel
theorem So:qH.Nodup:=by decide +kernel
theorem y1:∀ (r:List Int) (a m:Int),m∈a::r->(∀ b∈a::r,b<=m)->r.foldl (fun a b=>if a<b then b else a) a=m
 | [],a,m,h,_=>(BA.mp h).symm
 | b::r,a,m,h,hl=>by
  rw [YO]
  have la:=hl a HA
  have lb:=hl b (NA _ HA)
  have lr:∀ c∈r,c<=m:=fun c hc=>hl c (NA _ (NA _ hc))
  refine y1 r _ m ?_ fun c hc=>?_
  ·rcases bB.mp h with q|q
   ·subst q
    rw [if_neg (pF.mpr lb)];exact HA
   ·rcases bB.mp q with q|q
    ·subst q
     by_cases h:a<m
     ·rw [if_pos h];exact HA
     ·rw [if_neg h,DR la (pF.mp h)];exact HA
    ·exact NA _ q
  ·rcases bB.mp hc with q|q
   ·subst q;split
    ·exact lb
    ·exact la
   ·exact lr c q
theorem vj{l:List Int}{m:Int}(h:m∈l)(hl:∀ b∈l,b<=m):CQ l=m:=by
 rcases l with _|⟨a,r⟩
 ·cases h
 ·exact y1 r a m h hl
theorem dZ{α:Type}{f:α->Bool}{p:α}:∀ {l:List α},l.Nodup->p∈l->(∀ q∈l,f q=true ↔ q=p)->l.filter f=[p]
 | a::l,hn,hm,h=>by
  obtain⟨n1,n2⟩:=zH.mp hn
  by_cases q:a=p
  ·subst q
   rw [gW ((h a HA).mpr rfl),OM.mpr fun b hb hf=>n1 ((h b (NA _ hb)).mp hf▸hb)]
  ·rw [IR (fun hf=>q ((h a HA).mp hf))]
   exact dZ n2 ((bB.mp hm).resolve_left fun e=>q e.symm) fun b hb=>h b (NA _ hb)
theorem R6(hr:∀ r∈rs,OB r){pk:Nat}(F:fP (RA rs) (FA (RA rs) pk 3).1 p):UF (RA rs) rs≠[]/\bN (RA rs) rs=[CO p]:=by
 have hgd:=TS hr F
 have hpI:=QU F.pp
 have hm:p∈UF (RA rs) rs:=YH.mpr ⟨F.pp,decide_eq_true ((HZ hr hpI).mpr hgd)⟩
 have hall:∀ q∈UF (RA rs) rs,(TC q).count 0<=(TC p).count 0/\((TC q).count 0=(TC p).count 0->q=p):=by
  intro q hq
  obtain⟨q1,q2⟩:=YH.mp hq
  have qg:=(HZ hr (QU q1)).mp (of_decide_eq_true q2)
  have h1:=YA.mp (YA.mp Da q q1) p F.pp
  have h2:O3 q p=true:=by
   refine YA.mpr fun x hx=>YA.mpr fun y hy=>?_
   have hx:=gE.mp hx
   have hy:=gE.mp hy
   by_cases e:q.getD y 0=q.getD x 0
   ·obtain⟨c,hc,c1,_⟩:=(F.lk x x hx hx).mp rfl
    have h3:=RU hr qg pk 3 (sA _) c hc x y hx hy e c1
    rw [beq_iff_eq.mpr ((F.lk x y hx hy).mpr ⟨c,hc,c1,h3⟩),Bool.or_true]
   ·rw [beq_eq_false_iff_ne.mpr e];rfl
  rw [h2,XO,aW] at h1
  obtain⟨h4,h5⟩:=(KA _ _).mp h1
  refine⟨of_decide_eq_true h4,fun e=>?_⟩
  rw [decide_eq_true e,XO,SO] at h5
  exact eq_of_beq h5
 refine⟨List.ne_nil_of_mem hm,?_⟩
 have hmost:RN (RA rs) rs=(((TC p).count 0:Nat):Int):=by
  refine vj (TM (f:=fun p=>(((TC p).count 0:Nat):Int)) hm) fun b hb=>?_
  obtain⟨q,hq,rfl⟩:=rC.mp hb
  exact CD.mpr (hall q hq).1
 have hnd:(UF (RA rs) rs).Nodup:=So.sublist List.filter_sublist
 unfold bN
 rw [hmost,dZ hnd hm fun q hq=>by
  rw [decide_eq_true_eq]
  exact⟨fun e=>(hall q hq).2 (aP.mp e),fun e=>by rw [e]⟩]
 rfl
theorem Os(F:fP (RA rs) C p){zm:Nat}(hz:zm<16)(h:XE p zm):∀ c∈C,c.2 &&& zm=0\/c.2 &&& zm=c.2:=by
 intro c hc
 by_cases q:c.2 &&& zm=0
 ·exact .inl q
 ·obtain⟨x,hx,x1,x2⟩:=(pP (F.lt c hc) hz).mp q
  exact .inr ((kX (F.lt c hc) hz).mpr fun y hy hb=>h x y hx hy ((F.lk x y hx hy).mpr ⟨c,hc,x1,hb⟩) x2)
end
section
noncomputable def hE(E:List dB):List (List Nat×List Nat):=E.map fun c=>([c.1 - 32],KD c.2)
structure tL(E:List dB):Prop where
 nd:(E.map (·.1)).Nodup
 lt:∀ c∈E,c.1∈SB/\c.2<16
theorem zQ:∀ c∈SB,[c - 32].map lo1=[c]/\[c].map lo1=[c]:=by decide +kernel
theorem nj:SB.all (fun c=>decide (256<=PA [c])&&(decide (PA [c]<266)&&(decide (PA [c]≠257)&&(decide (PA [c]≠258)&&decide (uG (PA [c])=c)))))=true:=by decide +kernel
theorem PT{c:Nat}(h:c∈SB):256<=PA [c]/\PA [c]<266/\PA [c]≠257/\PA [c]≠258/\uG (PA [c])=c:=by
 have:=YA.mp nj c h
 simpa using this
theorem VS:∀ {E:List dB},tL E->∀ {c:dB},c∈E->(hE E).find? (fun h=>decide (h.1.map lo1=[c.1]))=some ([c.1 - 32],KD c.2)
 | d::E,hT,c,hc=>by
  have hd:=(hT.lt d HA).1
  obtain⟨n1,n2⟩:=zH.mp hT.nd
  show List.find? _ (([d.1 - 32],KD d.2)::hE E)=_
  by_cases q:d.1=c.1
  ·have e:d=c:=(bB.mp hc).elim Eq.symm fun k=>absurd (rC.mpr ⟨c,k,q.symm⟩) n1
   subst e
   exact List.find?_cons_of_pos (by rw [decide_eq_true_eq];exact (zQ _ hd).1)
  ·rw [bW (by rw [decide_eq_true_eq,(zQ _ hd).1];intro k;injection k with k;exact q k)]
   exact VS ⟨n2,fun c h=>hT.lt c (NA _ h)⟩ ((bB.mp hc).resolve_left fun e=>q (by rw [e]))
theorem gZ:∀ {E:List dB},(∀ c∈E,c.1∈SB)->∀ {x:Nat},x∉E.map (·.1)->(hE E).find? (fun h=>decide (h.1.map lo1=[x]))=none
 | [],_,_,_=>rfl
 | d::E,hT,x,hx=>by
  show List.find? _ (([d.1 - 32],KD d.2)::hE E)=_
  rw [bW (by
   rw [decide_eq_true_eq,(zQ _ (hT d HA)).1]
   intro k;injection k with k
   exact hx (by rw [sB,k];exact HA))]
  exact gZ (fun c h=>hT c (NA _ h)) fun h=>hx (NA _ h)
theorem BZ{E:List dB}(hT:tL E){c:dB}(hc:c∈E):bF (hE E) [c.1]=KD c.2:=by
 unfold bF;rw [VS hT hc]
theorem CZ{E:List dB}(hT:tL E){c:dB}(hc:c∈E):RD (hE E) ([c.1].map lo1) .none = .str (KD c.2):=by
 rw [(zQ _ (hT.lt c hc).1).2]
 unfold RD;rw [VS hT hc]
noncomputable def lF(wy:List Nat->List Nat)(ms:List (Bool×List Nat))(v:Nat):Nat:=ms.foldr (fun m v=>bif m.1 then 15 - LB (wy m.2) v else LB (wy m.2) v) v
theorem Nj:[true,false].all (fun b=>hB.all fun u=>(MB (b,u)).map PA==((if b then [31] else [])++(33::((u.map fun c=>if c=102 then 257 else 258)++[34]))))=true:=by decide +kernel
theorem I1(b:Bool){u:List Nat}(h:u∈hB):(MB (b,u)).map PA=((if b then [31] else [])++(33::((u.map fun c=>if c=102 then 257 else 258)++[34]))) :=
 eq_of_beq (YA.mp (YA.mp Nj b (by rcases b with ⟨⟩<;>decide)) u h)
variable{wy:List Nat->List Nat}{hs:List (List Nat×List Nat)}
abbrev rD(wy:List Nat->List Nat)(hs:List (List Nat×List Nat))(n:Int)(s:Nat×List Nat):Nat×List Nat:=eD wy hs s n
theorem Pj{m:Bool×List Nat}(hm:m.2∈hB)(v:Nat):((MB m).map PA).foldr (rD wy hs) (v,[])=((bif m.1 then 15 - LB (wy m.2) v else LB (wy m.2) v),[]):=by
 obtain⟨b,u⟩:=m
 rw [I1 b hm]
 rcases LM hm with rfl|rfl|rfl|rfl<;>rcases b with ⟨⟩<;>rfl
theorem J1:∀ (ms:List (Bool×List Nat)),(∀ m∈ms,m.2∈hB)->∀ v,((ms.flatMap MB).map PA).foldr (rD wy hs) (v,[])=(lF wy ms v,[])
 | [],_,_=>rfl
 | m::ms,h,v=>by
  rw [GE,aB,List.foldr_append,J1 ms (fun m k=>h m (NA _ k)) v,Pj (h m HA)]
  rfl
theorem Tn{m:Bool×List Nat}(hm:m.2∈hB){rest:List Int}(h:yG [] rest):yG [] (((MB m).map PA).reverse++rest):=by
 obtain⟨b,u⟩:=m
 rw [I1 b hm]
 rcases LM hm with rfl|rfl|rfl|rfl<;>rcases b with ⟨⟩<;>simpa [yG,hB] using h
theorem W2:∀ (ms:List (Bool×List Nat)),(∀ m∈ms,m.2∈hB)->∀ {rest:List Int},yG [] rest->yG [] (((ms.flatMap MB).map PA).reverse++rest)
 | [],_,_,h=>h
 | m::ms,hm,rest,h=>by
  rw [GE,aB,List.reverse_append,qB]
  exact W2 ms (fun m k=>hm m (NA _ k)) (Tn (hm m HA) h)
noncomputable def RH(s:HB):List (List Nat):=if s.1=122 then [[63],[]] else [[59]]
theorem eR(s:HB):(RH s).map PA=if s.1=122 then [255,0] else [13]:=by
 unfold RH
 have:([[63],[]]:List (List Nat)).map PA=[255,0]/\([[59]]:List (List Nat)).map PA=[13]:=by decide +kernel
 split
 ·exact this.1
 ·exact this.2
theorem LP(s:HB):zC s=PA [s.1]::PA [61]::PA [s.2.1]::PA [38]::((s.2.2.1.flatMap MB).map PA++(PA [s.2.2.2]::(RH s).map PA)):=by
 show (fD s++RH s).map PA=_
 have e:fD s=[[s.1],[61],[s.2.1],[38]]++(s.2.2.1.flatMap MB++[[s.2.2.2]]):=qB _ _ _
 rw [e,aB,aB,aB,qB,qB]
 rfl
theorem D2:PA [38]=19:=by decide +kernel
theorem Z4{c:Nat}(h:c∈SB)(v:Nat):eD wy hs (v,[]) (PA [c])=(v &&& mJ (bF hs [c]),[]):=by
 obtain⟨h1,h2,h3,h4,h5⟩:=PT h
 unfold eD
 rw [if_neg (fun e=>absurd (e▸h1) (by decide)),if_neg (fun e=>absurd (e▸h1) (by decide)),if_neg h3,if_neg h4,if_pos (show 255<PA [c] from h1),h5]
theorem Ps{s:HB}(h:FD s):KM wy hs (zC s)=lF wy s.2.2.1 (15 &&& mJ (bF hs [s.2.2.2])) &&& mJ (bF hs [s.2.1]):=by
 unfold KM
 rw [LP,List.foldl_reverse]
 show (List.foldr (rD wy hs) (15,[]) (PA [s.2.1]::PA [38]::_)).1=_
 rw [lW,lW,List.foldr_append,lW]
 have e:((RH s).map PA).foldr (rD wy hs) (15,[])=(15,[]):=by
  rw [eR];split<;>rfl
 rw [e]
 show (eD wy hs (eD wy hs (List.foldr (rD wy hs) (eD wy hs (15,[]) (PA [s.2.2.2])) _) (PA [38])) (PA [s.2.1])).1=_
 rw [Z4 h.ot,J1 _ h.mw,D2]
 show (eD wy hs (_,[]) (PA [s.2.1])).1=_
 rw [Z4 h.nm]
theorem V2{c:Nat}(h:c∈SB){rest:List Int}(k:yG [] rest):yG [] (PA [c]::rest):=by
 obtain⟨h1,h2,h3,h4,h5⟩:=PT h
 refine⟨fun e=>by exact by decide,h2,by decide,?_⟩
 rw [if_neg (fun e=>absurd (e▸h1) (by decide)),if_neg h3,if_neg h4]
 exact k
theorem Eo{s:HB}(h:FD s):yG [] ((zC s).drop 2).reverse:=by
 rw [LP]
 show yG [] (PA [s.2.1]::PA [38]::((s.2.2.1.flatMap MB).map PA++(PA [s.2.2.2]::(RH s).map PA))).reverse
 have e:(PA [s.2.1]::PA [38]::((s.2.2.1.flatMap MB).map PA++(PA [s.2.2.2]::(RH s).map PA))).reverse=((RH s).map PA).reverse++(PA [s.2.2.2]::(((s.2.2.1.flatMap MB).map PA).reverse++(19::PA [s.2.1]::[]))):=by
  rw [D2];simp
 rw [e]
 have h1:yG [] (PA [s.2.2.2]::(((s.2.2.1.flatMap MB).map PA).reverse++(19::PA [s.2.1]::[]))):=V2 h.ot (W2 _ h.mw ⟨(fun e=>by cases e),by decide,by decide,V2 h.nm trivial⟩)
 rw [eR]
 split
 ·exact⟨(fun e=>by cases e),by decide,by decide,(fun e=>by cases e),by decide,by decide,h1⟩
 ·exact⟨(fun e=>by cases e),by decide,by decide,h1⟩
theorem Z0{v:Nat}(h:v<16):mJ (KD v)=v:=Y0 v h
theorem V6:∀ v:Nat,v<16->15 &&& v=v:=by decide
theorem IS(s:HB):(zC s).getD 0 0=PA [s.1]:=by rw [LP];rfl
theorem yT{E:List dB}(hT:tL E){s:HB}(h:FD s)(hn:s.1∉E.map (·.1)){mn mo:Nat}(h1:(s.2.1,mn)∈E)(h2:(s.2.2.2,mo)∈E) :
  AF wy (hE E) (zC s)=hE (E++[(s.1,lF wy s.2.2.1 mo &&& mn)])/\tL (E++[(s.1,lF wy s.2.2.1 mo &&& mn)])/\∀ R,MF wy (hE (E++[(s.1,lF wy s.2.2.1 mo &&& mn)])) R->MF wy (hE E) (zC s::R):=by
 have l1:=(hT.lt _ h1).2
 have l2:=(hT.lt _ h2).2
 obtain⟨n1,n2,n3,n4,n5⟩:=PT h.nw
 have e:AF wy (hE E) (zC s)=hE (E++[(s.1,lF wy s.2.2.1 mo &&& mn)]):=by
  unfold AF
  rw [IS,n5,Ps h,BZ hT h1,BZ hT h2,Z0 l1,Z0 l2,V6 _ l2]
  unfold hE
  rw [aB];rfl
 refine⟨e,⟨?_,fun c hc=>?_⟩,fun R hR=>?_⟩
 ·rw [aB,iL]
  refine⟨hT.nd,by simp,fun a ha b hb=>?_⟩
  have:b=s.1:=BA.mp hb
  subst this
  exact fun e=>hn (e▸ha)
 ·rcases GB.mp hc with q|q
  ·exact hT.lt c q
  ·rw [BA.mp q]
   exact⟨h.nw,iB Nat.and_le_right l1⟩
 ·refine .cons ?_ (by rw [IS];exact⟨n1,n2⟩) (Eo h) ?_ (by rw [e];exact hR)
  ·have:=(D3 h).1
   have e2:(zC s).length=(sJ s).length:=AA _
   rw [e2]
   refine⟨jA this (by decide),?_⟩
   rw [<-e2,LP]
   exact XB (iE _)
  ·rw [IS,n5]
   unfold RD
   rw [gZ (fun c k=>(hT.lt c k).1) hn]
theorem MF.app:∀ {R1 R2:List (List Int)}{hs:List (List Nat×List Nat)},MF wy hs R1->MF wy (R1.foldl (AF wy) hs) R2->MF wy hs (R1++R2)
 | [],_,_,_,k=>k
 | r::R1,R2,hs,h,k=>by
  cases h with
  | cons h1 h2 h3 h4 h=>exact .cons h1 h2 h3 h4 (MF.app h k)
structure Q6(wy:List Nat->List Nat)(pk k:Nat)(E:List dB):Prop where
 ok:tL E
 ks:E.map (·.1)=107::(FA wy pk k).2.map (·.1)
 sub:∀ c∈(FA wy pk k).1,c∈E
 dn:MF wy sE ((FA wy pk k).2.map zC)
 fo:((FA wy pk k).2.map zC).foldl (AF wy) sE=hE E
 st:∀ s∈(FA wy pk k).2,FD s/\s.1≠122
 lb:∀ c∈E,c.1=107\/(108<=c.1/\c.1<108+2*k)
 k0:(107,15)∈E
theorem eK{k c:Nat}(hk:k<=3)(h:c=107\/(108<=c/\c<108+2*k)):c∈SB/\c≠122:=by
 have:∀ j,j<7->107+j∈SB/\107+j≠122:=by decide
 have q:c<114:=cC (Ev.gK h) (EC (yH 2 hk) 108)
 have q':=A9 c q (h.elim (fun e=>FB e.symm) fun e=>jA (by decide) e.1)
 have h2:=this (c - 107) q'.1
 rwa [q'.2] at h2
theorem x5:∀ a:Nat,a<16->∀ b:Nat,b<16->(15 - b) &&& a=a - (a &&& b)/\b &&& a=a &&& b:=by decide +kernel
theorem H5(wy:List Nat->List Nat)(pk:Nat):∀ k,k<=3->∃ E,Q6 wy pk k E
 | 0,_=>⟨[(107,15)],⟨show [107].Nodup by decide,fun c h=>by rw [BA.mp h];decide⟩,rfl,fun _ h=>h,.nil,show sE=_ by decide +kernel,(fun _ h=>by cases h),fun c h=>.inl (by rw [BA.mp h]),BA.mpr rfl⟩
 | k+1,hk=>by
  have hk':=HG hk
  obtain⟨E,t1,t2,t3,t4,t5,t6,t7,t8⟩:=H5 wy pk k hk'
  have h16:=(vI wy pk k hk').2.2
  have e:FA wy pk (k+1)=zG k (cD wy (FA wy pk k).1 pk) (FA wy pk k):=rfl
  generalize hp:cD wy (FA wy pk k).1 pk=ohpz
  rcases ohpz with _|⟨f,r⟩
  ·rw [hp] at e
   have e':FA wy pk (k+1)=FA wy pk k:=e
   exact⟨E,t1,by rw [e'];exact t2,by rw [e'];exact t3,by rw [e'];exact t4,by rw [e'];exact t5,by rw [e'];exact t6,fun c h=>(t7 c h).imp id fun q=>⟨q.1,cC q.2 d8⟩,t8⟩
  ·have hfm:f∈HC wy (FA wy pk k).1:=sO (pk:=pk) (by rw [hp];exact HA)
   rw [hp] at e
   obtain⟨w,hw,g,hg,c,hc,hs,rfl⟩:=yN hfm
   have hcl:=(eK hk' (t7 c (t3 c hc))).1
   have hgl:=(eK hk' (t7 g (t3 g hg))).1
   have n1:=eK hk (c:=108+2*k) (.inr ⟨BB _ _,kC (jD _)⟩)
   have n2:=eK hk (c:=109+2*k) (.inr ⟨d9,d7⟩)
   have hb:=UI (wy w) g.2
   have c16:=h16 c hc
   have s1:FD (108+2*k,c.1,[(false,w)],g.1):=⟨n1.1,hcl,hgl,LC rfl,fun m hm=>by rw [BA.mp hm];exact hw⟩
   have s2:FD (109+2*k,c.1,[(true,w)],g.1):=⟨n2.1,hcl,hgl,LC rfl,fun m hm=>by rw [BA.mp hm];exact hw⟩
   have f1:(108+2*k)∉E.map (·.1):=fun q=>by
    obtain⟨d,hd,hq⟩:=rC.mp q
    exact iD (Ev.gK (t7 d hd)) hq
   obtain⟨a1,a2,a3⟩:=yT (wy:=wy) t1 s1 f1 (mn:=c.2) (mo:=g.2) (t3 c hc) (t3 g hg)
   have v1:lF wy [(false,w)] g.2 &&& c.2=c.2 &&& LB (wy w) g.2:=(x5 _ c16 _ hb).2
   rw [show (((108+2*k,c.1,[(false,w)],g.1):HB)).2.2.1=[(false,w)] from rfl,v1] at a1 a2 a3
   have f2:(109+2*k)∉(E++[((108+2*k,c.2 &&& LB (wy w) g.2):dB)]).map (·.1):=fun q=>by
    obtain⟨d,hd,hq⟩:=rC.mp q
    rcases GB.mp hd with q|q
    ·exact iD (Ev.X1 (t7 d q)) hq
    ·rw [BA.mp q] at hq
     exact absurd (Nat.add_right_cancel (show 108+2*k=109+2*k from hq)) (by decide)
   obtain⟨b1,b2,b3⟩:=yT (wy:=wy) a2 s2 f2 (mn:=c.2) (mo:=g.2) (MD _ (t3 c hc)) (MD _ (t3 g hg))
   have v2:lF wy [(true,w)] g.2 &&& c.2=c.2 - (c.2 &&& LB (wy w) g.2):=(x5 _ c16 _ hb).1
   rw [show (((109+2*k,c.1,[(true,w)],g.1):HB)).2.2.1=[(true,w)] from rfl,v2] at b1 b2 b3
   have e2:(FA wy pk (k+1)).2=(FA wy pk k).2++[(108+2*k,c.1,[(false,w)],g.1),(109+2*k,c.1,[(true,w)],g.1)]:=by rw [e];rfl
   have e1:(FA wy pk (k+1)).1=((FA wy pk k).1.filter fun d=>!decide ([d.1]=[c.1]))++[(108+2*k,c.2 &&& LB (wy w) g.2),(109+2*k,c.2 - (c.2 &&& LB (wy w) g.2))]:=by rw [e];rfl
   refine⟨E++[((108+2*k,c.2 &&& LB (wy w) g.2):dB)]++[((109+2*k,c.2 - (c.2 &&& LB (wy w) g.2)):dB)],b2,?_,fun d hd=>?_,?_,?_,fun s hs=>?_,fun d hd=>?_,MD _ (MD _ t8)⟩
   ·rw [e2,aB,aB,aB,t2,qB];rfl
   ·rw [e1] at hd
    rcases GB.mp hd with q|q
    ·exact MD _ (MD _ (t3 d (YH.mp q).1))
    ·rw [qB];exact DE _ q
   ·rw [e2,aB]
    refine t4.app ?_
    rw [t5]
    exact a3 _ (b3 _ .nil)
   ·rw [e2,aB,gG,t5]
    show AF wy (AF wy (hE E) _) _=_
    rw [a1,b1]
   ·rw [e2] at hs
    rcases GB.mp hs with q|q
    ·exact t6 s q
    ·simp only [bB,aH,or_false] at q
     rcases q with rfl|rfl
     ·exact⟨s1,n1.2⟩
     ·exact⟨s2,n2.2⟩
   ·rcases GB.mp hd with q|q
    ·rcases GB.mp q with q|q
     ·exact (t7 d q).imp id fun q=>⟨q.1,cC q.2 d8⟩
     ·rw [BA.mp q];exact .inr ⟨by show 108<=108+2*k;exact BB _ _,by show 108+2*k<_;exact kC (jD _)⟩
    ·rw [BA.mp q];exact .inr ⟨d9,d7⟩
end
section
noncomputable def nx(t:List Nat)(d:Nat):Bool:=mF.all fun p=>!(t++[d]).isPrefixOf p.1
theorem vV{t:List Nat}{d:Nat}(h:nx t d=true)(l:List Nat):vC (t++d::l)=false:=by
 unfold vC
 rw [WO]
 intro p hp e
 have h1:=(bH _).mp (YA.mp h p hp)
 rw [eq_of_beq e] at h1
 have h2:(t++[d]).isPrefixOf (t++d::l)=true:=OR.mpr ⟨l,by rw [qB];rfl⟩
 rw [h1] at h2
 cases h2
theorem O1{c d:Nat}{l:List Nat}(h:nx [c] d=true):([c]++d::l).take (mH ([c]++d::l))=[c]:=by
 have h1:vC (([c]++d::l).take 3)=false:=vV h (l.take 1)
 have h2:vC (([c]++d::l).take 2)=false:=vV h []
 unfold mH
 rw [h1,h2];rfl
theorem Tj{a b d:Nat}{l:List Nat}(h:nx [a,b] d=true)(k:vC [a,b]=true):([a,b]++d::l).take (mH ([a,b]++d::l))=[a,b]:=by
 have h1:vC (([a,b]++d::l).take 3)=false:=vV h []
 have h2:vC (([a,b]++d::l).take 2)=true:=k
 unfold mH
 rw [h1,h2];rfl
theorem Uj(c:Nat):([c]++[]).take (mH ([c]++[]))=[c]:=by
 unfold mH
 split
 ·rfl
 ·split<;>rfl
noncomputable def VP(c:Nat):Bool:=mF.all fun p=>match p.1 with
 | a::b::_=>!(a==c)||b==61
 | _=>true
noncomputable def pZ(c:Nat):Bool:=mF.all fun p=>match p.1 with
 | a::_::_=>!(a==c)
 | _=>true
theorem Wk{c d:Nat}(h:VP c=true)(hd:d≠61):nx [c] d=true:=by
 refine YA.mpr fun p hp=>?_
 have h1:=YA.mp h p hp
 rw [bH,NR]
 intro e
 obtain⟨r,hr⟩:=OR.mp e
 rw [<-hr] at h1
 have h2:(!(c==c)||d==61)=true:=h1
 rw [beq_self_eq_true,beq_eq_false_iff_ne.mpr hd] at h2
 cases h2
theorem Vk{c:Nat}(h:pZ c=true)(d:Nat):nx [c] d=true:=by
 refine YA.mpr fun p hp=>?_
 have h1:=YA.mp h p hp
 rw [bH,NR]
 intro e
 obtain⟨r,hr⟩:=OR.mp e
 rw [<-hr] at h1
 have h2:(!(c==c))=true:=h1
 rw [beq_self_eq_true] at h2
 cases h2
noncomputable def nZ(x y:Nat):Bool:=vC [x,y]&&mF.all fun p=>match p.1 with
 | a::b::d::_=>!(a==x&&b==y)||d==61
 | _=>true
theorem Xk{x y d:Nat}(h:nZ x y=true)(hd:d≠61):nx [x,y] d=true:=by
 refine YA.mpr fun p hp=>?_
 have h1:=YA.mp ((KA _ _).mp h).2 p hp
 rw [bH,NR]
 intro e
 obtain⟨r,hr⟩:=OR.mp e
 rw [<-hr] at h1
 have h2:(!(x==x&&y==y)||d==61)=true:=h1
 rw [beq_self_eq_true,beq_self_eq_true,beq_eq_false_iff_ne.mpr hd] at h2
 cases h2
noncomputable def jK(t:List Nat):Bool:=(bK t&&((yF (cB "kfilmnopqz") t).isSome&&(decide (NB t≠13)&&decide (256<=NB t))))||(!bK t&&(decide (0<SH t)&&decide (SH t<256)))
theorem HQ{t:List Nat}(h:jK t=true):(bK t=true/\(yF (cB "kfilmnopqz") t).isSome=true/\NB t≠13/\256<=NB t)\/(bK t=false/\0<SH t/\SH t<256):=by
 unfold jK at h
 simpa using h
theorem V0:(102::105::SB).all (fun c=>pZ c&&(VP c&&(jK [c]&&decide (NB [c]=PA [c]))))=true:=by decide +kernel
theorem Gq:[61,38,126,59].all (fun c=>VP c&&(jK [c]&&decide (NB [c]=PA [c])))=true:=by decide +kernel
theorem Gs:[60,62].all (fun c=>nZ c c&&(jK [c,c]&&decide (NB [c,c]=PA [c,c])))=true:=by decide +kernel
theorem xX:∀ b:Nat,b<16->(jK [OD b]&&(decide (NB [OD b]=255)&&decide (OD b≠61)))=true:=by decide +kernel
def ZF(l:List Nat):Prop:=∃ d l',l=d::l'/\d≠61
theorem QJ{c:Nat}(h:c∈102::105::SB\/c∈[61,38,126,59]){l:List Nat}{ts:List (List Nat)}(hl:ZF l)(hc:WC l ts):WC (c::l) ([c]::ts):=by
 obtain⟨d,l,rfl,hd⟩:=hl
 have h2:VP c=true/\jK [c]=true:=by
  rcases h with h|h
  ·have:=YA.mp V0 c h
   simp only [KA] at this
   exact⟨this.2.1,this.2.2.1⟩
  ·have:=YA.mp Gq c h
   simp only [KA] at this
   exact⟨this.1,this.2.1⟩
 exact .cons (by intro e;cases e) (O1 (Wk h2.1 hd)) (HQ h2.2) hc
theorem Fb{c:Nat}(h:c∈102::105::SB){d:Nat}{l:List Nat}{ts:List (List Nat)}(hc:WC (d::l) ts):WC (c::d::l) ([c]::ts):=by
 have:=YA.mp V0 c h
 simp only [KA] at this
 exact .cons (by intro e;cases e) (O1 (Vk this.1 d)) (HQ this.2.2.1) hc
theorem qY{c:Nat}(h:c∈[60,62]){l:List Nat}{ts:List (List Nat)}(hl:ZF l)(hc:WC l ts):WC (c::c::l) ([c,c]::ts):=by
 obtain⟨d,l,rfl,hd⟩:=hl
 have:=YA.mp Gs c h
 simp only [KA] at this
 exact .cons (t:=[c,c]) (by intro e;cases e) (Tj (Xk this.1 hd) ((KA _ _).mp this.1).1) (HQ this.2.1) hc
theorem nH{c:Nat}(h:c≠61)(l:List Nat):ZF (c::l):=⟨c,l,rfl,h⟩
theorem wY:∀ {u:List Nat},(∀ c∈u,c=102\/c=105)->∀ {l ts},ZF l->WC l ts->WC (u++l) ((u.map fun c=>[c])++ts)/\ZF (u++l)
 | [],_,_,_,hl,hc=>⟨hc,hl⟩
 | c::u,h,l,ts,hl,hc=>by
  obtain⟨h1,h2⟩:=wY (fun c k=>h c (NA _ k)) hl hc
  have hcc:=h c HA
  refine⟨QJ (.inl ?_) h2 h1,nH ?_ _⟩
  ·rcases hcc with rfl|rfl
   ·exact HA
   ·exact NA _ HA
  ·rcases hcc with rfl|rfl<;>decide
theorem Xs{w:List Nat}(h:w∈hB):∀ c∈w,c=102\/c=105:=by
 have:hB.all (fun w=>w.all fun c=>c==102||c==105)=true:=by decide
 intro c hc
 have h1:=YA.mp (YA.mp this w h) c hc
 simpa using h1
theorem Kb{m:Bool×List Nat}(hm:m.2∈hB){l:List Nat}{ts:List (List Nat)}(hl:ZF l)(hc:WC l ts):WC (CG m++l) (MB m++ts)/\ZF (CG m++l):=by
 obtain⟨b,u⟩:=m
 have h1:=qY (c:=62) (by decide) hl hc
 obtain⟨h2,h3⟩:=wY (Xs hm) (nH (by decide) (62::l)) h1
 have h4:=qY (c:=60) (by decide) h3 h2
 have e1:CG (b,u)++l=(if b then [126] else [])++(60::60::(u++62::62::l)):=by unfold CG;simp
 have e2:MB (b,u)++ts=(if b then [[126]] else [])++([60,60]::((u.map fun c=>[c])++[62,62]::ts)):=by unfold MB;rcases b with ⟨⟩<;>simp
 rw [e1,e2]
 rcases b with _|_
 ·exact⟨h4,nH (by decide) _⟩
 ·exact⟨QJ (.inr (by decide)) (nH (by decide) _) h4,nH (by decide) _⟩
theorem sY:∀ (ms:List (Bool×List Nat)),(∀ m∈ms,m.2∈hB)->∀ {l ts},ZF l->WC l ts->WC (ms.flatMap CG++l) (ms.flatMap MB++ts)/\ZF (ms.flatMap CG++l)
 | [],_,_,_,hl,hc=>⟨hc,hl⟩
 | m::ms,h,l,ts,hl,hc=>by
  obtain⟨h1,h2⟩:=sY ms (fun m k=>h m (NA _ k)) hl hc
  rw [GE,GE,qB,qB]
  exact Kb (h m HA) h2 h1
noncomputable def yJ(s:HB):List Nat:=[s.1,61,s.2.1,38]++(s.2.2.1.flatMap CG++[s.2.2.2])
theorem OT:∀ c∈SB,c≠61:=by decide
theorem AQ{c:Nat}(h:c∈SB):c∈102::105::SB:=NA _ (NA _ h)
theorem uY{s:HB}(h:FD s){l:List Nat}{ts:List (List Nat)}(hl:ZF l)(hc:WC l ts):WC (yJ s++l) (fD s++ts)/\ZF (yJ s++l):=by
 obtain⟨h1,h2⟩:=sY s.2.2.1 h.mw (nH (OT _ h.ot) l) (QJ (.inl (AQ h.ot)) hl hc)
 have h3:=QJ (c:=38) (.inr (by decide)) h2 h1
 have h4:=QJ (.inl (AQ h.nm)) (nH (by decide) _) h3
 have h5:=QJ (c:=61) (.inr (by decide)) (nH (OT _ h.nm) _) h4
 have h6:=Fb (AQ h.nw) h5
 have e1:yJ s++l=s.1::61::s.2.1::38::(s.2.2.1.flatMap CG++s.2.2.2::l):=by unfold yJ;simp
 have e2:fD s++ts=[s.1]::[61]::[s.2.1]::[38]::(s.2.2.1.flatMap MB++[s.2.2.2]::ts):=by
  show (([[s.1],[61],[s.2.1],[38]]++s.2.2.1.flatMap MB)++[[s.2.2.2]])++ts=_
  rw [qB,qB];rfl
 rw [e1,e2]
 exact⟨h6,nH (OT _ h.nw) _⟩
theorem tY:∀ (P:List HB),(∀ s∈P,FD s)->∀ {l ts},ZF l->WC l ts->WC (P.flatMap DF++l) (P.flatMap (fun s=>fD s++[[59]])++ts)/\ZF (P.flatMap DF++l)
 | [],_,_,_,hl,hc=>⟨hc,hl⟩
 | s::P,h,l,ts,hl,hc=>by
  obtain⟨h1,h2⟩:=tY P (fun s k=>h s (NA _ k)) hl hc
  have h3:=QJ (c:=59) (.inr (by decide)) h2 h1
  obtain⟨h4,h5⟩:=uY (h s HA) (nH (by decide) _) h3
  rw [GE,GE,qB,qB]
  have e:DF s++(P.flatMap DF++l)=yJ s++59::(P.flatMap DF++l):=by unfold DF yJ;simp
  rw [e,qB]
  exact⟨h4,h5⟩
theorem Hb{b:Nat}(h:b<16):WC [OD b] [[OD b]]/\ZF [OD b]:=by
 have:=xX b h
 simp only [KA] at this
 exact⟨.cons (l:=[]) (by intro e;cases e) (Uj _) (HQ this.1) .nil,nH (of_decide_eq_true this.2.2) _⟩
theorem YU:∀ (a:List Int),(∀ n∈a,n≠13)->∀ (R:List (List Int)) (cur:List Int),a.foldl UD (R,cur)=(R,cur++a)
 | [],_,R,cur=>by rw [bC];rfl
 | n::a,h,R,cur=>by
  rw [YO]
  have e:UD (R,cur) n=(R,cur++[n]):=if_neg (h n HA)
  rw [e,YU a (fun n k=>h n (NA _ k)),qB];rfl
theorem Vo:([[61],[38],[126],[60,60],[62,62]]++(102::105::SB).map fun c=>[c]).all (fun t=>decide (NB t=PA t)&&decide (PA t≠13))=true:=by decide +kernel
theorem Xr{s:HB}(h:FD s):∀ t∈fD s,t∈[[61],[38],[126],[60,60],[62,62]]++(102::105::SB).map fun c=>[c]:=by
 have lt:∀ c∈SB,[c]∈[[61],[38],[126],[60,60],[62,62]]++(102::105::SB).map fun c=>[c]:=fun c hc=>DE _ (TM (f:=fun c=>[c]) (AQ hc))
 intro t ht
 have ht:t∈[s.1]::[61]::[s.2.1]::[38]::(s.2.2.1.flatMap MB++[[s.2.2.2]]):=by
  have e:fD s=[s.1]::[61]::[s.2.1]::[38]::(s.2.2.1.flatMap MB++[[s.2.2.2]]):=qB _ _ _
  rwa [e] at ht
 simp only [bB,GB,AH,aH,or_false] at ht
 rcases ht with rfl|rfl|rfl|rfl|⟨m,hm,ht⟩|rfl
 ·exact lt _ h.nw
 ·exact MD _ (by decide)
 ·exact lt _ h.nm
 ·exact MD _ (by decide)
 ·have:[true,false].all (fun b=>hB.all fun u=>(MB (b,u)).all fun t=>([[61],[38],[126],[60,60],[62,62]]++(102::105::SB).map fun c=>[c]).contains t)=true:=by decide +kernel
  obtain⟨b,u⟩:=m
  exact List.contains_iff_mem.mp (YA.mp (YA.mp (YA.mp this b (by rcases b with ⟨⟩<;>decide)) u (h.mw _ hm)) t ht)
 ·exact lt _ h.ot
theorem U5{s:HB}(h:FD s):(fD s).map NB=(fD s).map PA/\∀ n∈(fD s).map PA,n≠13:=by
 have h1:=fun t ht=>YA.mp Vo t (Xr h t ht)
 refine⟨List.map_congr_left fun t ht=>of_decide_eq_true ((KA _ _).mp (h1 t ht)).1,fun n hn=>?_⟩
 obtain⟨t,ht,rfl⟩:=rC.mp hn
 exact of_decide_eq_true ((KA _ _).mp (h1 t ht)).2
theorem Zb{s:HB}(h:s.1≠122):zC s=(fD s).map PA++[13]:=by
 show (fD s++RH s).map PA=_
 rw [aB,eR,if_neg h]
theorem Yb{s:HB}(h:s.1=122):zC s=(fD s).map PA++[255,0]:=by
 show (fD s++RH s).map PA=_
 rw [aB,eR,if_pos h]
theorem a4:∀ (P:List HB),(∀ s∈P,FD s/\s.1≠122)->∀ R,((P.flatMap (fun s=>fD s++[[59]])).map NB).foldl UD (R,[])=(R++P.map zC,[])
 | [],_,R=>by rw [LO,bC];rfl
 | s::P,h,R=>by
  obtain⟨h1,h2⟩:=h s HA
  obtain⟨e1,e2⟩:=U5 h1
  have e3:[[59]].map NB=[13]:=by decide +kernel
  rw [GE,aB,aB,gG,gG,e1,YU _ e2,e3,qF]
  have e4:[13].foldl UD (R,(fD s).map PA)=(R++[zC s],[]):=by
   show UD (R,(fD s).map PA) 13=_
   unfold UD
   rw [if_pos rfl,Zb h2]
  rw [e4,a4 P (fun s k=>h s (NA _ k)),qB];rfl
theorem Mb{P:List HB}{z:HB}(hP:∀ s∈P,FD s/\s.1≠122)(hz:FD z)(hz2:z.1=122):∀ u' b,(P++[z]).flatMap DF=u'++[59]->b<16->∃ ts,WC (u'++[OD b]) ts/\CM ts=(P++[z]).map zC:=by
 intro u' b hu hb
 have e:(P++[z]).flatMap DF=(P.flatMap DF++yJ z)++[59]:=by
  rw [List.flatMap_append,qB]
  unfold yJ
  simp [DF]
 rw [e] at hu
 have hu:=List.append_cancel_right hu
 subst hu
 obtain⟨c1,c2⟩:=Hb hb
 obtain⟨c3,c4⟩:=uY hz c2 c1
 obtain⟨c5,_⟩:=tY P (fun s k=>(hP s k).1) c4 c3
 refine⟨_,by rw [qB];exact c5,?_⟩
 obtain⟨e1,e2⟩:=U5 hz
 have hb2:=xX b hb
 simp only [KA] at hb2
 have e3:NB [OD b]=255:=of_decide_eq_true hb2.2.1
 unfold CM
 have e5:((P.flatMap (fun s=>fD s++[[59]])++(fD z++[[OD b]])).map NB++[0]).foldl UD ([],[])=(P.map zC,zC z):=by
  rw [aB,aB,qB,qB,gG,a4 P hP,qF,gG,e1,YU _ e2,List.map_singleton,e3,qF,Yb hz2]
  show UD (UD (P.map zC,(fD z).map PA) 255) 0=_
  unfold UD
  rw [if_neg (by decide),if_neg (by decide),qB]
  rfl
 rw [e5,aB]
 rfl
end
section
theorem J4{wy:List Nat->List Nat}:∀ (ms:List (Bool×List Nat)) {v:Nat},v<16->lF wy ms v<16
 | [],_,h=>h
 | m::ms,v,h=>by
  show (bif m.1 then 15 - LB (wy m.2) (lF wy ms v) else LB (wy m.2) (lF wy ms v))<16
  cases m.1
  ·exact UI _ _
  ·exact LI (wC _ _)
theorem I4{rs:List lB}(hr:∀ r∈rs,OB r){p:List Nat}(hg:Gd rs p):∀ (ms:List (Bool×List Nat)) {v:Nat},v<16->XE p v->XE p (lF (RA rs) ms v)
 | [],_,_,h=>h
 | m::ms,v,h,hc=>by
  have h1:=vX hr hg (w:=m.2) (J4 (wy:=RA rs) ms h) (I4 hr hg ms h hc)
  show XE p (bif m.1 then 15 - LB (RA rs m.2) (lF (RA rs) ms v) else LB (RA rs m.2) (lF (RA rs) ms v))
  cases m.1
  ·exact h1
  ·exact Ra (UI _ _) h1
theorem mj:∀ c∈SB,nD [c - 32]:=by
 intro c hc
 have:∀ c∈SB,32<=c - 32/\c - 32<127:=by decide
 exact⟨fun d hd=>by rw [BA.mp hd];exact this c hc,LC rfl⟩
theorem Ch(rs:List lB)(pk:Nat)(hr:∀ r∈rs,OB r):tW rs pk:=by
 obtain⟨E,t1,t2,t3,t4,t5,t6,t7,t8⟩:=H5 (RA rs) pk 3 (sA _)
 obtain⟨p,F⟩:=Mc (RA rs) pk
 have hne:=(vI (RA rs) pk 3 (sA _)).2.1
 obtain⟨c,hc,hcz⟩:∃ c∈(FA (RA rs) pk 3).1,mW pk (FA (RA rs) pk 3).1=(122,107,(UA 3).map (XF pk),c.1):=by
  have hl:pk / 512%(FA (RA rs) pk 3).1.length<(FA (RA rs) pk 3).1.length:=Nat.mod_lt _ (List.length_pos_iff.mpr hne)
  refine⟨(FA (RA rs) pk 3).1.getD (pk / 512%(FA (RA rs) pk 3).1.length) (0,0),?_,rfl⟩
  rw [FE,sD hl]
  exact aL hl
 have hm:∀ m∈(UA 3).map (XF pk),m.2∈hB:=fun m hm=>by
  obtain⟨k,_,rfl⟩:=rC.mp hm
  exact Mj pk k
 have hz:FD (122,107,(UA 3).map (XF pk),c.1):=⟨show 122∈SB by decide,show 107∈SB by decide,(eK (sA _) (t7 c (t3 c hc))).1,by show ((UA 3).map (XF pk)).length<=3;rw [AA];decide,hm⟩
 have hf:122∉E.map (·.1):=fun q=>by
  obtain⟨d,hd,hq⟩:=rC.mp q
  exact (eK (sA _) (t7 d hd)).2 hq
 obtain⟨a1,a2,a3⟩:=yT (wy:=RA rs) t1 hz hf (mn:=15) (mo:=c.2) t8 (t3 c hc)
 have epl:yD rs pk=(FA (RA rs) pk 3).2++[(122,107,(UA 3).map (XF pk),c.1)]:=by unfold yD;rw [hcz]
 have ehs:wE rs pk=hE (E++[(122,lF (RA rs) ((UA 3).map (XF pk)) c.2 &&& 15)]):=by
  unfold wE
  rw [epl,aB,gG,t5]
  exact a1
 have hall:∀ s∈yD rs pk,FD s:=fun s hs=>by
  rw [epl] at hs
  rcases GB.mp hs with q|q
  ·exact (t6 s q).1
  ·rw [BA.mp q];exact hz
 obtain⟨g1,g2⟩:=R6 hr F
 have hcl:=RU hr (TS hr F) pk 3 (sA _) c hc
 have hlt:=J4 (wy:=RA rs) ((UA 3).map (XF pk)) (F.lt c hc)
 refine⟨hall,?_,?_,?_,?_,fun d hd=>(eK (sA _) (t7 d (t3 d hd))).1,?_,g1,?_,?_⟩
 ·rw [epl]
  exact Mb t6 hz rfl
 ·rw [epl,aB]
  refine t4.app ?_
  rw [t5]
  exact a3 _ .nil
 ·rw [ehs]
  intro h hh
  obtain⟨d,hd,rfl⟩:=rC.mp hh
  exact mj _ (a2.lt d hd).1
 ·rw [ehs,epl]
  have e:(hE (E++[((122,lF (RA rs) ((UA 3).map (XF pk)) c.2 &&& 15):dB)])).map (fun h=>h.1)=((E.map fun c:dB=>c.1)++[122]).map fun (c:Nat)=>[c - 32]:=by
   unfold hE
   rw [jC,aB,aB,jC];rfl
  rw [e,t2,aB,aB,sB,jC]
  rfl
 ·intro d hd
  rw [ehs]
  exact CZ a2 (MD _ (t3 d hd))
 ·rw [g2,F.srt]
  unfold nJ
  rw [jC];rfl
 ·refine⟨_,iB UM hlt,?_,Os F (iB UM hlt) (gY hlt (by decide) (I4 hr (TS hr F) _ (F.lt c hc) hcl) (fY p))⟩
  rw [ehs]
  exact CZ a2 (DE _ (BA.mpr rfl))
theorem T3:∀ script:List Int,script.length<=63->∃ st',(LA ZB 8).call (.fn "law") [.lst (script.map .int)] [] []=some (.bool true,st'):=by
 intro script h
 obtain⟨v,s,h1,h2⟩:=Hc (fun rs pk hr _=>Ch rs pk hr) h
 subst h2
 exact⟨s,h1⟩
end
end Mt
end Pl.Internal
theorem PySem.Challenge.cw_kl0260_04_holds : PySem.Challenge.rw_kl0260_04.Holds :=
 Pl.Internal.Mine.vf (Pl.Internal.Mine.Ws Pl.Internal.Mt.T3)
