import PyProof.Rows.All
import Wide.All
import OpenK.AllK
import Wide.FinOn
import PySem.Challenge.RW_wz0028_01
open List renaming length_map->aa,mem_cons_of_mem->ah,mem_cons->ai,map_map->aj,mem_cons_self->ak,length_cons->am,map_cons->ao,getElem?_eq_some_iff->au,getD_eq_getElem?_getD->aw,getElem?_eq_getElem->ax,mem_singleton->aA,length_append->aB,size_toArray->aF,mem_map->aG,range->aI,length_filter_le->aJ,not_mem_nil->aM,lookup_cons->aO,mem_append->aP,mem_of_getElem?->aQ,getElem?_map->aS,map_append->aT,mem_filter->aW,foldl_cons->bc,replicate->bd,all_eq_true->bj,append_assoc->bk,filter_eq_self->bu,nodup_cons->bH,length_take->bK,mem_of_mem_take->bQ,length_range->bZ,getElem?_cons_succ->b0,filter_cons_of_neg->b7,filter_cons_of_pos->b8,length_nil->ce,sum_cons->cg,map_nil->c6,foldl_append->c7,getElem?_append_right->c8,nodup_nil->c9,any_eq_true->dj,take_length->dk,filter_cons->dl,mem_append_left->du,forIn_cons->dI,nil_append->dJ,take_of_length_le->dM,getLastD_eq_getLast?->ee,map_congr_left->eP,length_drop->eV,mem_range->eW,getElem_mem->eX,take_succ->eY,getLast?_eq_some_getLast->fh,any_cons->fw,forIn_nil->gn,getElem?_of_mem->gq,cons_append->gD,mem_of_find?_eq_some->gX,take_succ_cons->gY,length_erase_of_mem->ib,find?_cons->iw,map_id->iP,find?_cons_of_pos->i4,find?_cons_of_neg->i7,nodup_append->i9,getElem?_eq_none->jJ,mem_append_right->jM,append_nil->kd,find?_some->kg,mem_map_of_mem->kS,take_zero->lP,getElem?_append_left->lS,reverse_cons->mJ,findIdx_cons->mL,flatMap_cons->mM,all_cons->mY,getElem?_take_of_lt->m0,mem_flatMap->nJ,any_toArray->nK,zipIdx_cons->nM,zipWith->ot,length_eq_one_iff->ou,length_pos_of_mem->oA,range_succ->pq,filter_nil->pr,length_singleton->pw,take_append_drop->pA,forall_mem_cons->qr,drop_eq_nil_iff->qv,getLast?_concat->qx
open PySem.Heap renaming get?_push_of_some->af,get?_push_size->ay,lt_size->aN,size_push->bL,SameBut->cI,get?_update_self->jK,get?_none_of_le->jZ,get?_update_ne->kR,get?_push_ne->mK,size_update->nN
open Bool renaming false_ne_true->av,and_eq_true->bf,false_eq_true->bU,or_eq_true_iff->eO,or_eq_true->fk,true_and->g9,false_or->ia,and_false->i8,not_true->jQ,not_eq_true'->mI,or_false->mZ,eq_iff_iff->pj,not_false->qt
open Nat renaming le_trans->aD,exists_eq_add_of_le'->aE,le_refl->aK,mod_lt->aY,ne_of_lt->be,zero_le->bz,le_add_right->bJ,lt_succ_of_lt->bM,zero_add->bS,not_lt->bT,le_add_left->bW,succ_le_succ->dm,not_lt_zero->dH,le_succ->dU,succ->gk,le_of_eq->gA,ne_of_gt->gB,lt_succ_self->gC,min_eq_left->iu,le_of_ble_eq_true->jL,le_total->kU,one_mul->mG,min_eq_right->nI,lt_of_succ_lt_succ->oz
open Int renaming zero_add->bF,sub_nonneg_of_le->bO,not_lt->d2,add_zero->eh,fmod->eT,sub_pos_of_lt->fN,fmod_eq_emod_of_nonneg->gp,one_mul->iN,le_refl->iO,zero_mul->i0,le_trans->ja,ofNat_le->kW,le_of_lt->kX,natCast_nonneg->lO,toNat_natCast->mH,eq_ofNat_of_zero_le->nL,le_of_eq->oB
open Array renaming length_toList->bG,getElem?_eq_getElem->cn
open Option renaming map_eq_some_iff->ci,map->cu,isSome_map->dE,getD_some->eU,isSome_iff_exists->hJ,map_some->pp,map_map->qw
open Exists renaming intro->ei
open PySem PySem.W PyProof.Rows
set_option Elab.async false
set_option maxRecDepth 100000
set_option maxHeartbeats 8000000
set_option tactic.hygienic false
set_option bootstrap.genMatcherCode false
set_option compiler.extract_closed false
set_option linter.all false
section
namespace Mine
section
universe u
@[elab_as_elim] theorem M2{α:Sort u}{a b:α}{p:α->Prop}(h:a=b)(k:p b):p a:=h▸k
@[elab_as_elim] theorem M1{α:Sort u}{a b:α}{p:α->Prop}(h:b=a)(k:p b):p a:=h▸k
end
section
universe u v w x y z s t r q
theorem xA{P:Prop}{Q:Prop}{C:Prop}(h:P/\Q)(k:P->Q->C):C:=k h.1 h.2
theorem xE{α:Sort u}{P:α->Prop}{C:Prop}(h:∃a,P a)(k:∀a,P a->C):C:=h.elim λa h0=>k a h0
theorem iQ{P:Prop}{Q:Prop}{R:Prop}{C:Prop}(h:P/\Q/\R)(k:P->Q->R->C):C:=k h.1 h.2.1 h.2.2
theorem bC{α:Sort u}{P:α->Prop}{Q:α->Prop}{C:Prop}(h:∃a,P a/\Q a)(k:∀a,P a->Q a->C):C:=h.elim λa h0=>k a h0.1 h0.2
theorem yo{α:Sort u}{β:Sort v}{P:α->β->Prop}{C:Prop}(h:∃a,∃b,P a b)(k:∀a,∀b,P a b->C):C:=h.elim λa h0=>(h0).elim λb h1=>k a b h1
theorem Gz{P:Prop}{Q:Prop}{R:Prop}{S:Prop}{C:Prop}(h:P/\Q/\R/\S)(k:P->Q->R->S->C):C:=k h.1 h.2.1 h.2.2.1 h.2.2.2
theorem CR{α:Sort u}{P:Prop}{Q:α->Prop}{R:α->Prop}{C:Prop}(h:P/\∃a,Q a/\R a)(k:P->∀a,Q a->R a->C):C:=(h.2).elim λa h0=>k h.1 a h0.1 h0.2
theorem fJ{α:Sort u}{P:α->Prop}{Q:α->Prop}{R:α->Prop}{C:Prop}(h:∃a,P a/\Q a/\R a)(k:∀a,P a->Q a->R a->C):C:=h.elim λa h0=>k a h0.1 h0.2.1 h0.2.2
theorem fL{α:Sort u}{β:Sort v}{P:α->β->Prop}{Q:α->β->Prop}{C:Prop}(h:∃a,∃b,P a b/\Q a b)(k:∀a,∀b,P a b->Q a b->C):C:=h.elim λa h0=>(h0).elim λb h1=>k a b h1.1 h1.2
theorem C2{α:Sort u}{β:Sort v}{γ:Sort w}{P:α->β->γ->Prop}{C:Prop}(h:∃a,∃b,∃c,P a b c)(k:∀a,∀b,∀c,P a b c->C):C:=h.elim λa h0=>(h0).elim λb h1=>(h1).elim λc h2=>k a b c h2
theorem FI{α:Sort u}{β:Sort v}{P:Prop}{Q:α->Prop}{R:α->β->Prop}{C:Prop}(h:P/\∃a,Q a/\∃b,R a b)(k:P->∀a,Q a->∀b,R a b->C):C:=(h.2).elim λa h0=>(h0.2).elim λb h1=>k h.1 a h0.1 b h1
theorem H7{α:Sort u}{P:α->Prop}{Q:α->Prop}{R:α->Prop}{S:α->Prop}{C:Prop}(h:∃a,P a/\Q a/\R a/\S a)(k:∀a,P a->Q a->R a->S a->C):C:=h.elim λa h0=>k a h0.1 h0.2.1 h0.2.2.1 h0.2.2.2
theorem qe{α:Sort u}{β:Sort v}{P:α->Prop}{Q:α->Prop}{R:α->β->Prop}{C:Prop}(h:∃a,P a/\Q a/\∃b,R a b)(k:∀a,P a->Q a->∀b,R a b->C):C:=h.elim λa h0=>(h0.2.2).elim λb h1=>k a h0.1 h0.2.1 b h1
theorem g7{α:Sort u}{β:Sort v}{P:α->Prop}{Q:α->β->Prop}{R:α->β->Prop}{C:Prop}(h:∃a,P a/\∃b,Q a b/\R a b)(k:∀a,P a->∀b,Q a b->R a b->C):C:=h.elim λa h0=>(h0.2).elim λb h1=>k a h0.1 b h1.1 h1.2
theorem kh{α:Sort u}{β:Sort v}{P:α->β->Prop}{Q:α->β->Prop}{R:α->β->Prop}{C:Prop}(h:∃a,∃b,P a b/\Q a b/\R a b)(k:∀a,∀b,P a b->Q a b->R a b->C):C:=h.elim λa h0=>(h0).elim λb h1=>k a b h1.1 h1.2.1 h1.2.2
theorem l9{α:Sort u}{β:Sort v}{γ:Sort w}{P:α->β->γ->Prop}{Q:α->β->γ->Prop}{C:Prop}(h:∃a,∃b,∃c,P a b c/\Q a b c)(k:∀a,∀b,∀c,P a b c->Q a b c->C):C:=h.elim λa h0=>(h0).elim λb h1=>(h1).elim λc h2=>k a b c h2.1 h2.2
theorem Dc{α:Sort u}{β:Sort v}{P:α->Prop}{Q:α->Prop}{R:α->Prop}{S:α->β->Prop}{C:Prop}(h:∃a,P a/\Q a/\R a/\∃b,S a b)(k:∀a,P a->Q a->R a->∀b,S a b->C):C:=h.elim λa h0=>(h0.2.2.2).elim λb h1=>k a h0.1 h0.2.1 h0.2.2.1 b h1
theorem bx{α:Sort u}{β:Sort v}{P:α->Prop}{Q:α->Prop}{R:α->β->Prop}{S:α->β->Prop}{C:Prop}(h:∃a,P a/\Q a/\∃b,R a b/\S a b)(k:∀a,P a->Q a->∀b,R a b->S a b->C):C:=h.elim λa h0=>(h0.2.2).elim λb h1=>k a h0.1 h0.2.1 b h1.1 h1.2
theorem n9{α:Sort u}{β:Sort v}{P:α->β->Prop}{Q:α->β->Prop}{R:α->β->Prop}{S:α->β->Prop}{C:Prop}(h:∃a,∃b,P a b/\Q a b/\R a b/\S a b)(k:∀a,∀b,P a b->Q a b->R a b->S a b->C):C:=h.elim λa h0=>(h0).elim λb h1=>k a b h1.1 h1.2.1 h1.2.2.1 h1.2.2.2
theorem C4{α:Sort u}{β:Sort v}{γ:Sort w}{P:α->β->γ->Prop}{Q:α->β->γ->Prop}{R:α->β->γ->Prop}{C:Prop}(h:∃a,∃b,∃c,P a b c/\Q a b c/\R a b c)(k:∀a,∀b,∀c,P a b c->Q a b c->R a b c->C):C:=h.elim λa h0=>(h0).elim λb h1=>(h1).elim λc h2=>k a b c h2.1 h2.2.1 h2.2.2
theorem I3{α:Sort u}{β:Sort v}{γ:Sort w}{δ:Sort x}{P:α->β->γ->δ->Prop}{Q:α->β->γ->δ->Prop}{C:Prop}(h:∃a,∃b,∃c,∃d,P a b c d/\Q a b c d)(k:∀a,∀b,∀c,∀d,P a b c d->Q a b c d->C):C:=h.elim λa h0=>(h0).elim λb h1=>(h1).elim λc h2=>(h2).elim λd h3=>k a b c d h3.1 h3.2
theorem vd{P:Prop}{Q:Prop}{R:Prop}{S:Prop}{T:Prop}{U:Prop}{V:Prop}{C:Prop}(h:P/\Q/\R/\S/\T/\U/\V)(k:P->Q->R->S->T->U->V->C):C:=k h.1 h.2.1 h.2.2.1 h.2.2.2.1 h.2.2.2.2.1 h.2.2.2.2.2.1 h.2.2.2.2.2.2
theorem jR{α:Sort u}{β:Sort v}{γ:Sort w}{P:Prop}{Q:α->β->γ->Prop}{R:α->β->γ->Prop}{S:α->β->γ->Prop}{C:Prop}(h:P/\∃a,∃b,∃c,Q a b c/\R a b c/\S a b c)(k:P->∀a,∀b,∀c,Q a b c->R a b c->S a b c->C):C:=(h.2).elim λa h0=>(h0).elim λb h1=>(h1).elim λc h2=>k h.1 a b c h2.1 h2.2.1 h2.2.2
theorem cK{α:Sort u}{β:Sort v}{P:α->Prop}{Q:α->Prop}{R:α->Prop}{S:α->β->Prop}{T:α->β->Prop}{C:Prop}(h:∃a,P a/\Q a/\R a/\∃b,S a b/\T a b)(k:∀a,P a->Q a->R a->∀b,S a b->T a b->C):C:=h.elim λa h0=>(h0.2.2.2).elim λb h1=>k a h0.1 h0.2.1 h0.2.2.1 b h1.1 h1.2
theorem pf{α:Sort u}{β:Sort v}{γ:Sort w}{P:α->Prop}{Q:α->β->γ->Prop}{R:α->β->γ->Prop}{S:α->β->γ->Prop}{C:Prop}(h:∃a,P a/\∃b,∃c,Q a b c/\R a b c/\S a b c)(k:∀a,P a->∀b,∀c,Q a b c->R a b c->S a b c->C):C:=h.elim λa h0=>(h0.2).elim λb h1=>(h1).elim λc h2=>k a h0.1 b c h2.1 h2.2.1 h2.2.2
theorem vn{α:Sort u}{β:Sort v}{γ:Sort w}{P:α->β->γ->Prop}{Q:α->β->γ->Prop}{R:α->β->γ->Prop}{S:α->β->γ->Prop}{C:Prop}(h:∃a,∃b,∃c,P a b c/\Q a b c/\R a b c/\S a b c)(k:∀a,∀b,∀c,P a b c->Q a b c->R a b c->S a b c->C):C:=h.elim λa h0=>(h0).elim λb h1=>(h1).elim λc h2=>k a b c h2.1 h2.2.1 h2.2.2.1 h2.2.2.2
theorem sy{α:Sort u}{β:Sort v}{γ:Sort w}{P:α->β->γ->Prop}{Q:α->β->γ->Prop}{R:α->β->γ->Prop}{S:α->β->γ->Prop}{T:α->β->γ->Prop}{C:Prop}(h:∃a,∃b,∃c,P a b c/\Q a b c/\R a b c/\S a b c/\T a b c)(k:∀a,∀b,∀c,P a b c->Q a b c->R a b c->S a b c->T a b c->C):C:=h.elim λa h0=>(h0).elim λb h1=>(h1).elim λc h2=>k a b c h2.1 h2.2.1 h2.2.2.1 h2.2.2.2.1 h2.2.2.2.2
theorem r9{α:Sort u}{β:Sort v}{P:α->β->Prop}{Q:α->β->Prop}{R:α->β->Prop}{S:α->β->Prop}{T:α->β->Prop}{U:α->β->Prop}{C:Prop}(h:∃a,∃b,P a b/\Q a b/\R a b/\S a b/\T a b/\U a b)(k:∀a,∀b,P a b->Q a b->R a b->S a b->T a b->U a b->C):C:=h.elim λa h0=>(h0).elim λb h1=>k a b h1.1 h1.2.1 h1.2.2.1 h1.2.2.2.1 h1.2.2.2.2.1 h1.2.2.2.2.2
theorem zB{α:Sort u}{P:α->Prop}{Q:α->Prop}{R:α->Prop}{S:α->Prop}{T:α->Prop}{C:Prop}(h:∃a,P a/\Q a/\R a/\S a/\T a)(k:∀a,P a->Q a->R a->S a->T a->C):C:=h.elim λa h0=>k a h0.1 h0.2.1 h0.2.2.1 h0.2.2.2.1 h0.2.2.2.2
theorem Ie{P:Prop}{Q:Prop}{R:Prop}{S:Prop}{T:Prop}{C:Prop}(h:P/\Q/\R/\S/\T)(k:P->Q->R->S->T->C):C:=k h.1 h.2.1 h.2.2.1 h.2.2.2.1 h.2.2.2.2
theorem Ft{P:Prop}{Q:Prop}{R:Prop}{S:Prop}{T:Prop}{U:Prop}{C:Prop}(h:P/\Q/\R/\S/\T/\U)(k:P->Q->R->S->T->U->C):C:=k h.1 h.2.1 h.2.2.1 h.2.2.2.1 h.2.2.2.2.1 h.2.2.2.2.2
theorem g0{α:Sort u}{β:Sort v}{γ:Sort w}{δ:Sort x}{ε:Sort y}{ζ:Sort z}{η:Sort s}{θ:Sort t}{ι:Sort r}{κ:Sort q}{P:α->β->γ->δ->ε->ζ->η->θ->ι->κ->Prop}{Q:α->β->γ->δ->ε->ζ->η->θ->ι->κ->Prop}{R:α->β->γ->δ->ε->ζ->η->θ->ι->κ->Prop}{S:α->β->γ->δ->ε->ζ->η->θ->ι->κ->Prop}{T:α->β->γ->δ->ε->ζ->η->θ->ι->κ->Prop}{U:α->β->γ->δ->ε->ζ->η->θ->ι->κ->Prop}{V:α->β->γ->δ->ε->ζ->η->θ->ι->κ->Prop}{W:α->β->γ->δ->ε->ζ->η->θ->ι->κ->Prop}{X:α->β->γ->δ->ε->ζ->η->θ->ι->κ->Prop}{Y:α->β->γ->δ->ε->ζ->η->θ->ι->κ->Prop}{Z:α->β->γ->δ->ε->ζ->η->θ->ι->κ->Prop}{C:Prop}(h:∃a,∃b,∃c,∃d,∃e,∃f,∃g,∃i,∃m,∃n,P a b c d e f g i m n/\Q a b c d e f g i m n/\R a b c d e f g i m n/\S a b c d e f g i m n/\T a b c d e f g i m n/\U a b c d e f g i m n/\V a b c d e f g i m n/\W a b c d e f g i m n/\X a b c d e f g i m n/\Y a b c d e f g i m n/\Z a b c d e f g i m n)(k:∀a,∀b,∀c,∀d,∀e,∀f,∀g,∀i,∀m,∀n,P a b c d e f g i m n->Q a b c d e f g i m n->R a b c d e f g i m n->S a b c d e f g i m n->T a b c d e f g i m n->U a b c d e f g i m n->V a b c d e f g i m n->W a b c d e f g i m n->X a b c d e f g i m n->Y a b c d e f g i m n->Z a b c d e f g i m n->C):C:=h.elim λa h0=>(h0).elim λb h1=>(h1).elim λc h2=>(h2).elim λd h3=>(h3).elim λe h4=>(h4).elim λf h5=>(h5).elim λg h6=>(h6).elim λi h7=>(h7).elim λm h8=>(h8).elim λn h9=>k a b c d e f g i m n h9.1 h9.2.1 h9.2.2.1 h9.2.2.2.1 h9.2.2.2.2.1 h9.2.2.2.2.2.1 h9.2.2.2.2.2.2.1 h9.2.2.2.2.2.2.2.1 h9.2.2.2.2.2.2.2.2.1 h9.2.2.2.2.2.2.2.2.2.1 h9.2.2.2.2.2.2.2.2.2.2
theorem ML{α:Sort u}{β:Sort v}{γ:Sort w}{δ:Sort x}{ε:Sort y}{ζ:Sort z}{η:Sort s}{θ:Sort t}{ι:Sort r}{P:α->β->γ->δ->ε->ζ->η->θ->ι->Prop}(a b c d e f g h i)(k:P a b c d e f g h i):∃a,∃b,∃c,∃d,∃e,∃f,∃g,∃h,∃i,P a b c d e f g h i:=⟨a,b,c,d,e,f,g,h,i,k⟩
theorem uB{α:Sort u}{β:Sort v}{γ:Sort w}{P:α->β->γ->Prop}{Q:α->β->γ->Prop}{R:α->β->γ->Prop}{S:α->β->γ->Prop}{T:α->β->γ->Prop}{U:α->β->γ->Prop}{C:Prop}(h:∃a,∃b,∃c,P a b c/\Q a b c/\R a b c/\S a b c/\T a b c/\U a b c)(k:∀a,∀b,∀c,P a b c->Q a b c->R a b c->S a b c->T a b c->U a b c->C):C:=h.elim λa h0=>(h0).elim λb h1=>(h1).elim λc h2=>k a b c h2.1 h2.2.1 h2.2.2.1 h2.2.2.2.1 h2.2.2.2.2.1 h2.2.2.2.2.2
theorem jE{α:Sort u}{β:Sort v}{γ:Sort w}{P:α->Prop}{Q:α->Prop}{R:α->β->Prop}{S:α->β->Prop}{T:α->β->Prop}{U:α->β->γ->Prop}{V:α->β->γ->Prop}{C:Prop}(h:∃a,P a/\Q a/\∃b,R a b/\S a b/\T a b/\∃c,U a b c/\V a b c)(k:∀a,P a->Q a->∀b,R a b->S a b->T a b->∀c,U a b c->V a b c->C):C:=h.elim λa h0=>(h0.2.2).elim λb h1=>(h1.2.2.2).elim λc h2=>k a h0.1 h0.2.1 b h1.1 h1.2.1 h1.2.2.1 c h2.1 h2.2
theorem lB{α:Sort u}{β:Sort v}{γ:Sort w}{δ:Sort x}{ε:Sort y}{P:α->β->γ->δ->ε->Prop}{Q:α->β->γ->δ->ε->Prop}{R:α->β->γ->δ->ε->Prop}{S:α->β->γ->δ->ε->Prop}{T:α->β->γ->δ->ε->Prop}{C:Prop}(h:∃a,∃b,∃c,∃d,∃e,P a b c d e/\Q a b c d e/\R a b c d e/\S a b c d e/\T a b c d e)(k:∀a,∀b,∀c,∀d,∀e,P a b c d e->Q a b c d e->R a b c d e->S a b c d e->T a b c d e->C):C:=h.elim λa h0=>(h0).elim λb h1=>(h1).elim λc h2=>(h2).elim λd h3=>(h3).elim λe h4=>k a b c d e h4.1 h4.2.1 h4.2.2.1 h4.2.2.2.1 h4.2.2.2.2
theorem mj{α:Sort u}{β:Sort v}{γ:Sort w}{δ:Sort x}{ε:Sort y}{ζ:Sort z}{P:α->β->γ->δ->Prop}{Q:α->β->γ->δ->Prop}{R:α->β->γ->δ->ε->Prop}{S:α->β->γ->δ->ε->Prop}{T:α->β->γ->δ->ε->ζ->Prop}{C:Prop}(h:∃a,∃b,∃c,∃d,P a b c d/\Q a b c d/\∃e,R a b c d e/\S a b c d e/\∃f,T a b c d e f)(k:∀a,∀b,∀c,∀d,P a b c d->Q a b c d->∀e,R a b c d e->S a b c d e->∀f,T a b c d e f->C):C:=h.elim λa h0=>(h0).elim λb h1=>(h1).elim λc h2=>(h2).elim λd h3=>(h3.2.2).elim λe h4=>(h4.2.2).elim λf h5=>k a b c d h3.1 h3.2.1 e h4.1 h4.2.1 f h5
theorem dp{α:Sort u}{β:Sort v}{γ:Sort w}{δ:Sort x}{ε:Sort y}{P:α->β->γ->δ->ε->Prop}{Q:α->β->γ->δ->ε->Prop}{R:α->β->γ->δ->ε->Prop}{S:α->β->γ->δ->ε->Prop}{T:α->β->γ->δ->ε->Prop}{U:α->β->γ->δ->ε->Prop}{V:α->β->γ->δ->ε->Prop}{C:Prop}(h:∃a,∃b,∃c,∃d,∃e,P a b c d e/\Q a b c d e/\R a b c d e/\S a b c d e/\T a b c d e/\U a b c d e/\V a b c d e)(k:∀a,∀b,∀c,∀d,∀e,P a b c d e->Q a b c d e->R a b c d e->S a b c d e->T a b c d e->U a b c d e->V a b c d e->C):C:=h.elim λa h0=>(h0).elim λb h1=>(h1).elim λc h2=>(h2).elim λd h3=>(h3).elim λe h4=>k a b c d e h4.1 h4.2.1 h4.2.2.1 h4.2.2.2.1 h4.2.2.2.2.1 h4.2.2.2.2.2.1 h4.2.2.2.2.2.2
end
set_option genSizeOf false
set_option genInjectivity false
inductive Tm where
 |v (i:Nat)
 |k (n:Nat)
 |ad (a b:Tm)
 |sb (a b:Tm)
 |ml (n:Nat) (a:Tm)
 |mn (a b:Tm)
 |mx (a b:Tm)
 |tn (a:Tm)
 |ng (a:Tm)
inductive Fm where
 |le (z:Bool) (a b:Tm)
 |lt (z:Bool) (a b:Tm)
 |eq (z:Bool) (a b:Tm)
 |an (a b:Fm)
 |or (a b:Fm)
 |nt (a:Fm)
noncomputable def Tm.d(N:List Nat)(Z:List Int):Tm->Nat×Int
 | .v i=>(N.getD i 0,Z.getD i 0)
 | .k n=>(n,n)
 | .ad a b=>((a.d N Z).1+(b.d N Z).1,(a.d N Z).2+(b.d N Z).2)
 | .sb a b=>((a.d N Z).1 - (b.d N Z).1,(a.d N Z).2 - (b.d N Z).2)
 | .ml n a=>(n * (a.d N Z).1,n * (a.d N Z).2)
 | .mn a b=>(min (a.d N Z).1 (b.d N Z).1,min (a.d N Z).2 (b.d N Z).2)
 | .mx a b=>(max (a.d N Z).1 (b.d N Z).1,max (a.d N Z).2 (b.d N Z).2)
 | .tn a=>((a.d N Z).2.toNat,(a.d N Z).1)
 | .ng a=>(0,-(a.d N Z).2)
noncomputable def Fm.d(N:List Nat)(Z:List Int):Fm->Prop
 | .le z a b=>cond z ((a.d N Z).2<=(b.d N Z).2) ((a.d N Z).1<=(b.d N Z).1)
 | .lt z a b=>cond z ((a.d N Z).2 < (b.d N Z).2) ((a.d N Z).1 < (b.d N Z).1)
 | .eq z a b=>cond z ((a.d N Z).2=(b.d N Z).2) ((a.d N Z).1=(b.d N Z).1)
 | .an a b=>a.d N Z/\b.d N Z
 | .or a b=>a.d N Z\/b.d N Z
 | .nt a=>¬a.d N Z
abbrev Li:=Int×List Int
noncomputable def Jz(a b:Int):List Int->List Int->List Int
 | [],m=>m.map (b * ·)
 |x::l,m=>(a * x+b * m.headD 0)::Jz a b l m.tail
noncomputable def H3(a:Int)(x:Li)(b:Int)(y:Li):Li:=(a * x.1+b * y.1,Jz a b x.2 y.2)
noncomputable def zK(x y:Li):Li:=H3 1 x (-1) y
noncomputable def IN(i:Nat):Li:=(0,bd i 0++[1])
noncomputable def Cw(ρ:Nat->Int):Nat->List Int->Int
 |_,[]=>0
 |i,c::l=>c * ρ i+Cw ρ (i+1) l
noncomputable def evC(ρ:Nat->Int)(i:Nat)(x:Li):Int:=x.1+Cw ρ i x.2
noncomputable def Tm.al:Bool->Tm->(Li->List Li->Bool)->List Li->Bool
 |z,.v i,q,C=>q (IN (cond z (2 * i+1) (2 * i))) C
 |_,.k n,q,C=>q (n,[]) C
 |z,.ad a b,q,C=>a.al z (λx=>b.al z λy=>q (H3 1 x 1 y)) C
 |z,.sb a b,q,C=>a.al z (λx=>b.al z λy C=>cond z (q (zK x y) C) (q (zK x y) (zK x y::C) && q (0,[]) (zK y x::C))) C
 |z,.ml n a,q,C=>a.al z (λx=>q (H3 n x 0 x)) C
 |z,.mn a b,q,C=>a.al z (λx=>b.al z λy C=>q x (zK y x::C) && q y (zK x y::C)) C
 |z,.mx a b,q,C=>a.al z (λx=>b.al z λy C=>q x (zK x y::C) && q y (zK y x::C)) C
 |z,.tn a,q,C=>a.al (!z) (λx C=>cond z (q x C) (q x (x::C) && q (0,[]) (H3 (-1) x 0 x::C))) C
 |z,.ng a,q,C=>a.al z (λx C=>cond z (q (H3 (-1) x 0 x) C) (q (0,[]) C)) C
noncomputable def Ky(x y:Li):Li:=H3 1 (zK y x) (-1) (1,[])
noncomputable def Fm.al:Bool->Fm->(List Li->Bool)->List Li->Bool
 |s,.le z a b,k,C=>a.al z (λx=>b.al z λy C=>k (cond s (zK y x) (Ky y x)::C)) C
 |s,.lt z a b,k,C=>a.al z (λx=>b.al z λy C=>k (cond s (Ky x y) (zK x y)::C)) C
 |s,.eq z a b,k,C=>a.al z (λx=>b.al z λy C=>cond s (k (zK x y::zK y x::C)) (k (Ky x y::C) && k (Ky y x::C))) C
 |s,.an a b,k,C=>cond s (a.al s (b.al s k) C) (a.al s k C && b.al s k C)
 |s,.or a b,k,C=>cond s (a.al s k C && b.al s k C) (a.al s (b.al s k) C)
 |s,.nt a,k,C=>a.al (!s) k C
noncomputable def Ld(x:Li):Li:=(x.1,x.2.tail)
noncomputable def elim(C:List Li):List Li:=(C.filter λx=>x.2.headD 0 == 0).map Ld ++
 (C.filter λx=>decide (0 < x.2.headD 0)).flatMap λx=>(C.filter λx=>decide (x.2.headD 0 < 0)).map λy=>H3 (-y.2.headD 0) (Ld x) (x.2.headD 0) (Ld y)
noncomputable def L1{α:Type}(i:Int)(k:Int->α):α:=match i with
 | .ofNat n=>(match n with
  |0=>k 0
  |m+1=>k (.ofNat (m+1)))
 | .negSucc n=>(match n with
  |0=>k (-1)
  |m+1=>k (.negSucc (m+1)))
noncomputable def LD{α:Type}:List Int->(List Int->α)->α
 | [],k=>k []
 |x::l,k=>L1 x λx=>LD l λl=>k (x::l)
noncomputable def Lm:List Li->(List Li->Bool)->Bool
 | [],k=>k []
 |x::C,k=>L1 x.1 λc=>LD x.2 λl=>Lm C λC=>k ((c,l)::C)
noncomputable def Ix:Nat->List Li->Bool
 |0,C=>C.any λx=>x.2.isEmpty && decide (x.1 < 0)
 |n+1,C=>Lm (elim C) (Ix n)
noncomputable def BS(N:List Nat)(Z:List Int)(p:Nat):Int:=cond (p % 2 == 0) (N.getD (p / 2) 0:Nat) (Z.getD (p / 2) 0)
section
variable{N:List Nat}{Z:List Int}
def B7(ρ:Nat->Int)(i:Nat)(C:List Li):Prop:=∀x∈C,0<=evC ρ i x
theorem Gq(ρ:Nat->Int)(b:Int)(l:List Int):∀i,Cw ρ i (l.map (b * ·))=b * Cw ρ i l:=by
 induction l with
 |nil=>exact λJ=>(Int.mul_zero b).symm
 |cons c l ih=>exact λi=>(congrArg (b * c * ρ i+·) (ih _)).trans (by rw[Int.mul_assoc,<- Int.mul_add];rfl)
theorem Ff(ρ:Nat->Int)(i:Nat)(l:List Int):Cw ρ i l=l.headD 0 * ρ i+Cw ρ (i+1) l.tail:=by
 cases l with
 |nil=>exact((eh _).trans (i0 _)).symm
 |cons c l=>rfl
theorem Gh(ρ:Nat->Int)(a b:Int)(l:List Int):∀i m,Cw ρ i (Jz a b l m)=a * Cw ρ i l+b * Cw ρ i m:=by
 induction l with
 |nil=>exact λi m=>(Gq ρ b m i).trans (by rw[show Cw ρ i []=0 from rfl,Int.mul_zero,bF])
 |cons c l ih=>
  intro i m;rw[Ff ρ i m];exact(congrArg ((a * c+b * m.headD 0) * ρ i+·) (ih _ _)).trans (by rw[show Cw ρ i (c::l)=c * ρ i+Cw ρ (i+1) l from rfl];grind)
theorem jh(ρ:Nat->Int)(i:Nat)(a b:Int)(x y:Li):evC ρ i (H3 a x b y)=a * evC ρ i x+b * evC ρ i y:=
 (congrArg (a * x.1+b * y.1+·) (Gh ρ a b x.2 i y.2)).trans (by unfold evC;grind)
theorem iU{ρ:Nat->Int}{x y:Li}{a b:Int}(hx:evC ρ 0 x=a)(hy:evC ρ 0 y=b):evC ρ 0 (zK x y)=a - b:=by
 rw[<- hx,<- hy];exact(jh ρ 0 1 (-1) x y).trans (by omega)
theorem vP{ρ:Nat->Int}{x y:Li}{a b:Int}(hx:evC ρ 0 x=a)(hy:evC ρ 0 y=b):evC ρ 0 (Ky x y)=b - a - 1:=by
 have:evC ρ 0 (1,[])=1:=rfl
 exact(jh ρ 0 1 (-1) (zK y x) (1,[])).trans (by rw[iU hy hx,this];omega)
theorem sB(ρ:Nat->Int):∀p i,evC ρ i (IN p)=ρ (i+p):=λp=>by
 induction p with
 |zero=>exact λi=>(bF _).trans ((eh _).trans (iN _))
 |succ p ih=>exact λi=>(congrArg (0+·) (congrArg (·+_) (i0 (ρ i)))).trans ((congrArg (0+·) (bF _)).trans ((ih (i+1)).trans (congrArg ρ (by omega))))
theorem B7.cons{ρ:Nat->Int}{i:Nat}{x:Li}{C:List Li}(h:0<=evC ρ i x)(k:B7 ρ i C):B7 ρ i (x::C):=qr.mpr ⟨h,k⟩
noncomputable def Sn(ρ:Nat->Int)(v:Int)(F:(Li->List Li->Bool)->List Li->Bool):Prop:=∀q C,F q C=true->B7 ρ 0 C->(∀x C',evC ρ 0 x=v->B7 ρ 0 C'->q x C'=true->False)->False
theorem lE{a b:Bool}(h:(a && b)=true):a=true/\b=true:=by
 cases a with
 |true=>exact⟨rfl,h⟩
 |false=>cases h
theorem HW(i:Nat):BS N Z (0+2 * i)=(N.getD i 0:Nat):=by
 unfold BS;rw[bS,Nat.mul_mod_right,Nat.mul_div_cancel_left i (by decide)];rfl
theorem Kh(i:Nat):BS N Z (0+(2 * i+1))=Z.getD i 0:=by
 unfold BS;rw[bS,show(2 * i+1) % 2=1 from by omega,show(2 * i+1) / 2=i from by omega];rfl
theorem HX{n:Nat}(h:n=0):(0:Int)=(n:Int):=by subst h;rfl
theorem Aw(t:Tm):Sn (BS N Z) (t.d N Z).1 (t.al false)/\Sn (BS N Z) (t.d N Z).2 (t.al true):=by
 induction t with
 |v i=>exact⟨λq C h ok f=>f _ C ((sB _ _ 0).trans (HW i)) ok h,λq C h ok f=>f _ C ((sB _ _ 0).trans (Kh i)) ok h⟩
 |k n=>exact⟨λq C h ok f=>f _ C (eh _) ok h,λq C h ok f=>f _ C (eh _) ok h⟩
 |ad a b iha ihb=>exact⟨λq C h ok f=>iha.1 _ C h ok λx C ex ok h=>ihb.1 _ C h ok λy C ey ok h=>f _ C ((jh _ 0 1 1 x y).trans (by rw[ex,ey,iN,iN];rfl)) ok h,
   λq C h ok f=>iha.2 _ C h ok λx C ex ok h=>ihb.2 _ C h ok λy C ey ok h=>f _ C ((jh _ 0 1 1 x y).trans (by rw[ex,ey,iN,iN];rfl)) ok h⟩
 |sb a b iha ihb=>
  refine⟨λq C h ok f=>iha.1 _ C h ok λx C ex ok h=>ihb.1 _ C h ok λy C ey ok h=>?_,λq C h ok f=>iha.2 _ C h ok λx C ex ok h=>ihb.2 _ C h ok λy C ey ok h=>f _ C (iU ex ey) ok h⟩;have e1:=iU ex ey;have e2:=iU ey ex;rcases kU (b.d N Z).1 (a.d N Z).1 with z|z
  ·exact f _ _ (e1.trans (Int.ofNat_sub z).symm) (.cons (by omega) ok) (lE h).1
  ·exact f (0,[]) _ (HX (Nat.sub_eq_zero_of_le z)) (.cons (by omega) ok) (lE h).2
 |ml n a ih=>exact⟨λq C h ok f=>ih.1 _ C h ok λx C ex ok h=>f _ C ((jh _ 0 n 0 x x).trans (by rw[ex,i0,eh];rfl)) ok h,λq C h ok f=>ih.2 _ C h ok λx C ex ok h=>f _ C ((jh _ 0 n 0 x x).trans (by rw[ex,i0,eh];rfl)) ok h⟩
 |mn a b iha ihb=>
  refine⟨λq C h ok f=>iha.1 _ C h ok λx C ex ok h=>ihb.1 _ C h ok λy C ey ok h=>?_,λq C h ok f=>iha.2 _ C h ok λx C ex ok h=>ihb.2 _ C h ok λy C ey ok h=>?_⟩
  all_goals
   have e1:=iU ex ey;have e2:=iU ey ex
  ·rcases kU (a.d N Z).1 (b.d N Z).1 with z|z
   ·exact f x _ (ex.trans (congrArg Int.ofNat (iu z).symm)) (.cons (by omega) ok) (lE h).1
   ·exact f y _ (ey.trans (congrArg Int.ofNat (nI z).symm)) (.cons (by omega) ok) (lE h).2
  ·rcases Int.le_total (a.d N Z).2 (b.d N Z).2 with z|z
   ·exact f x _ (ex.trans (Int.min_eq_left z).symm) (.cons (by omega) ok) (lE h).1
   ·exact f y _ (ey.trans (Int.min_eq_right z).symm) (.cons (by omega) ok) (lE h).2
 |mx a b iha ihb=>
  refine⟨λq C h ok f=>iha.1 _ C h ok λx C ex ok h=>ihb.1 _ C h ok λy C ey ok h=>?_,λq C h ok f=>iha.2 _ C h ok λx C ex ok h=>ihb.2 _ C h ok λy C ey ok h=>?_⟩
  all_goals
   have e1:=iU ex ey;have e2:=iU ey ex
  ·rcases kU (b.d N Z).1 (a.d N Z).1 with z|z
   ·exact f x _ (ex.trans (congrArg Int.ofNat (Nat.max_eq_left z).symm)) (.cons (by omega) ok) (lE h).1
   ·exact f y _ (ey.trans (congrArg Int.ofNat (Nat.max_eq_right z).symm)) (.cons (by omega) ok) (lE h).2
  ·rcases Int.le_total (b.d N Z).2 (a.d N Z).2 with z|z
   ·exact f x _ (ex.trans (Int.max_eq_left z).symm) (.cons (by omega) ok) (lE h).1
   ·exact f y _ (ey.trans (Int.max_eq_right z).symm) (.cons (by omega) ok) (lE h).2
 |tn a ih=>
  refine⟨λq C h ok f=>ih.2 _ C h ok λx C ex ok h=>?_,ih.1⟩;rcases Int.le_total 0 (a.d N Z).2 with z|z
  ·exact f x _ (ex.trans (Int.toNat_of_nonneg z).symm) (.cons (by omega) ok) (lE h).1
  ·exact f (0,[]) _ (HX (Int.toNat_of_nonpos z)) (.cons (by rw[jh,ex];omega) ok) (lE h).2
 |ng a ih=>exact⟨λq C h ok f=>ih.1 _ C h ok λx C ex ok h=>f _ C rfl ok h,λq C h ok f=>ih.2 _ C h ok λx C ex ok h=>f _ C ((jh _ 0 (-1) 0 x x).trans (by rw[ex,i0,eh,Int.neg_one_mul];rfl)) ok h⟩
noncomputable def Rf(ρ:Nat->Int)(P:Prop)(F:(List Li->Bool)->List Li->Bool):Prop:=∀q C,F q C=true->B7 ρ 0 C->P->(∀C',B7 ρ 0 C'->q C'=true->False)->False
theorem pE{z:Bool}{a b:Tm}{q:Li->Li->List Li->Bool}{C:List Li}(h:a.al z (λx=>b.al z λy=>q x y) C=true)(ok:B7 (BS N Z) 0 C)
  (k:∀x y C',evC (BS N Z) 0 x=cond z (a.d N Z).2 ((a.d N Z).1:Nat)->evC (BS N Z) 0 y=cond z (b.d N Z).2 ((b.d N Z).1:Nat)->B7 (BS N Z) 0 C'->q x y C'=true->False):False:=by
 cases z with
 |false=>exact(Aw a).1 _ C h ok λx C ex ok h=>(Aw b).1 _ C h ok λy C ey ok h=>k x y C ex ey ok h
 |true=>exact(Aw a).2 _ C h ok λx C ex ok h=>(Aw b).2 _ C h ok λy C ey ok h=>k x y C ex ey ok h
theorem H6(f:Fm):Rf (BS N Z) (f.d N Z) (f.al true)/\Rf (BS N Z) (¬f.d N Z) (f.al false):=by
 induction f with
 |le z a b=>
  refine⟨λq C h ok p f=>pE h ok λx y C ex ey ok h=>f _ (.cons ?_ ok) h,λq C h ok p f=>pE h ok λx y C ex ey ok h=>f _ (.cons ?_ ok) h⟩
  ·rw[cond,iU ey ex];cases z with
   |true=>exact bO p
   |false=>exact bO (kW.mpr p)
  ·rw[cond,vP ey ex];cases z with
   |true=>exact bO (fN (Int.not_le.mp p))
   |false=>exact bO (fN (Int.ofNat_lt.mpr (Nat.not_le.mp p)))
 |lt z a b=>
  refine⟨λq C h ok p f=>pE h ok λx y C ex ey ok h=>f _ (.cons ?_ ok) h,λq C h ok p f=>pE h ok λx y C ex ey ok h=>f _ (.cons ?_ ok) h⟩
  ·rw[cond,vP ex ey];cases z with
   |true=>exact bO (fN p)
   |false=>exact bO (fN (Int.ofNat_lt.mpr p))
  ·rw[cond,iU ex ey];cases z with
   |true=>exact bO (d2.mp p)
   |false=>exact bO (kW.mpr (bT.mp p))
 |eq z a b=>
  have e:(Fm.eq z a b).d N Z->(cond z (a.d N Z).2 ((a.d N Z).1:Nat):Int)=cond z (b.d N Z).2 ((b.d N Z).1:Nat):=λp=>by
   cases z with
   |true=>exact p
   |false=>exact congrArg Nat.cast p
  have e':¬(Fm.eq z a b).d N Z->(cond z (a.d N Z).2 ((a.d N Z).1:Nat):Int)≠cond z (b.d N Z).2 ((b.d N Z).1:Nat):=λp=>by
   cases z with
   |true=>exact p
   |false=>exact λr=>p (Int.ofNat.inj r)
  refine⟨λq C h ok p f=>pE h ok λx y C ex ey ok h=>f _ (.cons ?_ (.cons ?_ ok)) h,λq C h ok p f=>pE h ok λx y C ex ey ok h=>?_⟩
  ·rw[iU ex ey,e p,Int.sub_self];exact iO _
  ·rw[iU ey ex,e p,Int.sub_self];exact iO _
  ·rcases Int.lt_or_gt_of_ne (e' p) with r|r
   ·exact f _ (.cons (by rw[vP ex ey];exact bO (fN r)) ok) (lE h).1
   ·exact f _ (.cons (by rw[vP ey ex];exact bO (fN r)) ok) (lE h).2
 |an a b iha ihb=>
  refine⟨λq C h ok p f=>iha.1 _ C h ok p.1 λC ok h=>ihb.1 _ C h ok p.2 f,λq C h ok p f=>?_⟩;by_cases r:a.d N Z
  ·exact ihb.2 _ C (lE h).2 ok (λz=>p ⟨r,z⟩) f
  ·exact iha.2 _ C (lE h).1 ok r f
 |or a b iha ihb=>
  exact⟨λq C h ok p f=>p.elim (λp=>iha.1 _ C (lE h).1 ok p f) λp=>ihb.1 _ C (lE h).2 ok p f,
   λq C h ok p f=>iha.2 _ C h ok (λz=>p (.inl z)) λC ok h=>ihb.2 _ C h ok (λz=>p (.inr z)) f⟩
 |nt a ih=>exact⟨λq C h ok p f=>ih.2 _ C h ok p f,λq C h ok p f=>ih.1 _ C h ok (Classical.not_not.mp p) f⟩
theorem Fc(ρ:Nat->Int)(i:Nat)(x:Li):evC ρ i x=x.2.headD 0 * ρ i+evC ρ (i+1) (Ld x):=by
 unfold evC;rw[Ff ρ i x.2,Int.add_left_comm];rfl
theorem GD{ρ:Nat->Int}{i:Nat}{C:List Li}(h:B7 ρ i C):B7 ρ (i+1) (elim C):=λz hz=>by
 rcases aP.mp hz with hz|hz
 ·refine bC (aG.mp hz) ?_;intro x hx e
  refine xA (aW.mp hx) ?_;intro hx e2
  have:=h x hx
  rw[Fc,eq_of_beq e2,i0,bF]at this;exact e▸this
 ·refine bC (nJ.mp hz) ?_;intro x hx hz
  refine bC (aG.mp hz) ?_;intro y hy e;refine xA (aW.mp hx) ?_;intro hx px;refine xA (aW.mp hy) ?_;intro hy py;have px:=of_decide_eq_true px;have py:=of_decide_eq_true py;have h1:=h x hx;have h2:=h y hy;rw[Fc]at h1 h2;rw[<- e,jh];generalize y.2.headD 0=b at *
  generalize x.2.headD 0=a at *
  have q1:=Int.mul_nonneg (kX (Int.neg_pos_of_neg py)) h1;have q2:=Int.mul_nonneg (kX px) h2
  grind
theorem DQ{α:Type}(i:Int)(k:Int->α):L1 i k=k i:=by
 cases i with
 |_ n=>cases n<;>rfl
theorem JB{α:Type}(l:List Int):∀k:List Int->α,LD l k=k l:=by
 induction l with
 |nil=>exact λJ=>rfl
 |cons x l ih=>exact λk=>(DQ _ _).trans (ih _)
theorem EK(C:List Li):∀k:List Li->Bool,Lm C k=k C:=by
 induction C with
 |nil=>exact λJ=>rfl
 |cons x l ih=>exact λk=>(DQ _ _).trans ((JB _ _).trans (ih _))
theorem Gn{ρ:Nat->Int}:∀(n i:Nat) (C:List Li),Ix n C=true->B7 ρ i C->False:=λn=>by
 induction n with
 |zero=>
  intro i C h ok;refine bC (dj.mp h) ?_;intro x hx e;have e:=lE e
  have:=ok x hx
  unfold evC at this;rw[List.isEmpty_iff.mp e.1]at this;exact d2.mpr this ((eh x.1).symm▸of_decide_eq_true e.2)
 |succ n ih=>exact λi C h ok=>ih (i+1) _ ((EK _ _).symm.trans h) (GD ok)
noncomputable def t2(f:Tm->Tm->Tm)(ts:List Tm):List Tm:=f (ts.tail.headD (.k 0)) (ts.headD (.k 0))::ts.tail.tail
noncomputable def t1(f:Tm->Tm)(ts:List Tm):List Tm:=f (ts.headD (.k 0))::ts.tail
noncomputable def M0:Tm->Tm->Tm
 | .k n,b=>.ml n b
 |a,_=>a
noncomputable def MR(d:Nat)(ts:List Tm):List Tm:=cond (d == 0) (t2 .mn ts) (cond (d == 1) (t2 .mx ts) (cond (d == 2) (t1 .tn ts) (cond (d == 3) (t1 .ng ts) (t2 M0 ts))))
noncomputable def LV(d:Nat)(z:Bool)(a b:Tm):Fm:=cond (d == 0) (.le z a b) (cond (d == 1) (.lt z a b) (.eq z a b))
noncomputable def MQ(d:Nat)(z:Bool)(ts:List Tm):Fm:=LV d z (ts.tail.headD (.k 0)) (ts.headD (.k 0))
noncomputable def LB(d:Nat):List Fm->List Fm
 |b::fs=>cond (d == 2) (.nt b::fs) (match fs with
  |a::fs=>cond (d == 0) (.an a b) (.or a b)::fs
  | []=>[])
 | []=>[]
noncomputable def rd:Nat->Nat->List Tm->List Fm->List Fm
 |0,_,_,fs=>fs
 |f+1,n,ts,fs=>cond (n == 0) fs (cond (Nat.ble (n % 16) 7) (rd f (n / 16) (.v (n % 16)::ts) fs) (cond (n % 16 == 8) (rd f (n / 256) (.k (n / 16 % 16)::ts) fs)
  (cond (n % 16 == 9) (rd f (n / 256 / 256 ^ (n / 16 % 16)) (.k (n / 256 % 256 ^ (n / 16 % 16))::ts) fs) (cond (n % 16 == 10) (rd f (n / 16) (t2 .ad ts) fs) (cond (n % 16 == 11) (rd f (n / 16) (t2 .sb ts) fs)
   (cond (n % 16 == 12) (rd f (n / 256) (MR (n / 16 % 16) ts) fs) (cond (n % 16 == 15) (rd f (n / 256) ts (LB (n / 16 % 16) fs)) (rd f (n / 256) [] (MQ (n / 16 % 16) (n % 16 == 14) ts::fs)))))))))
noncomputable def Mb:List Fm->List Li->Bool
 | [],C=>Lm C (Ix 16)
 |f::r,C=>f.al true (Mb r) C
noncomputable def Kj:List Fm->Bool
 | []=>false
 |g::r=>g.al false (Mb r) ((aI 8).map λi=>IN (2 * i))
noncomputable def Jy(N:List Nat)(Z:List Int):List Fm->Prop->Prop
 | [],P=>P
 |f::r,P=>Jy N Z r (f.d N Z->P)
noncomputable def KJ(N:List Nat)(Z:List Int):List Fm->Prop
 | []=>True
 |g::r=>Jy N Z r (g.d N Z)
theorem Gw:∀(r:List Fm) {P:Prop},((∀f∈r,f.d N Z)->P)->Jy N Z r P:=λr=>by
 induction r with
 |nil=>exact λh=>h λJ q=>nomatch q
 |cons f r ih=>exact λh=>ih λhr hf=>h (qr.mpr ⟨hf,hr⟩)
theorem II:∀(r:List Fm) (C:List Li),Mb r C=true->B7 (BS N Z) 0 C->(∀f∈r,f.d N Z)->False:=λr=>by
 induction r with
 |nil=>exact λC h ok J=>Gn 16 0 C ((EK _ _).symm.trans h) ok
 |cons f r ih=>exact λC h ok a=>(H6 f).1 _ C h ok (a f (.head _)) λC ok h=>ih C h ok λf q=>a f (.tail _ q)
noncomputable def Lu(n:Nat):Bool:=Kj (rd 300 n [] [])
abbrev Kx(n:Nat):Prop:=Lu n=true
theorem pz(N:List Nat)(Z:List Int)(n:Nat)(h:Kx n:=by kernel_rfl):KJ N Z (rd 300 n [] []):=by
 have h:Kj (rd 300 n [] [])=true:=h;generalize rd 300 n [] []=l at *
 cases l with
 |nil=>trivial
 |cons g r=>
  refine Gw r λa=>Classical.byContradiction λq=>(H6 g).2 _ _ h (λx hx=>?_) q λC ok h=>II r C h ok a;refine bC (aG.mp hx) ?_;intro i _ e;rw[<- e,sB,HW];exact lO _
theorem pn(N:List Nat)(n:Nat)(h:Kx n:=by kernel_rfl):KJ N [] (rd 300 n [] []):=pz N [] n h
end
end Mine
end
open Lean in
local macro_rules
 | `(tactic|rw[$rs,*])=>do
  let mut ts:Array (TSyntax `tactic):=#[]
  for r in rs.getElems do
   match r with
   | `(Parser.Tactic.rwRule| <- $e:term)=>ts:=ts.push (<- `(tactic|first|refine Mine.M1 $e ?_|rewrite[<- $e]))
   | `(Parser.Tactic.rwRule| $e:term)=>ts:=ts.push (<- `(tactic|first|refine Mine.M2 $e ?_|rewrite[$e:term]))
   |_=>Macro.throwUnsupported
  ts:=ts.push (<- `(tactic|try with_reducible rfl))
  `(tactic|($[$ts]*))
section
namespace Mine
noncomputable section
noncomputable def gd{α:Type}(c:Bool)(x:Option α):Option α:=match c with
 |true=>x
 |false=>none
theorem io{α:Type}{c:Bool}{x:Option α}{b:α}{C:Prop}(h:gd c x=some b)(k:c=true->x=some b->C):C:=by
 cases c with
 |true=>exact k rfl h
 |false=>cases h
theorem kT{α:Type}{c:Bool}{x:Option α}(h:c=true):gd c x=x:=by subst h;rfl
theorem b9{α β:Type}{x:Option α}{f:α->Option β}{b:β}{C:Prop}(h:x.bind f=some b)(k:∀a,x=some a->f a=some b->C):C:=by
 cases x with
 |none=>cases h
 |some a=>exact k a rfl h
theorem di{α β:Type}{x:Option α}{f:α->Option β}{a:α}(h:x=some a):x.bind f=f a:=by subst h;rfl
theorem md{α β:Type}{x:Option α}{f:α->β}{b:β}{C:β->Prop}(h:x.map f=some b)(k:∀a,x=some a->C (f a)):C b:=by
 cases x with
 |none=>cases h
 |some a=>cases h;exact k a rfl
theorem Hn{α β:Type}{x:Option α}{f:α->β}{a:α}(h:x=some a):x.map f=some (f a):=by subst h;rfl
theorem nn{α:Type}{x:α}{C:Prop}(h:(none:Option α)=some x):C:=nomatch h
theorem bD{α:Type}{a b:α}(h:some a=some b):b=a:=by cases h;rfl
noncomputable def j8{α:Type}(l:List α):Option α:=match l with
 | []=>none
 |a::r=>match r with
  | []=>some a
  |_::_=>none
theorem fi{α:Type}{l:List α}{a:α}(h:j8 l=some a):l=[a]:=by
 match l,h with
 | [_],h=>cases h;rfl
noncomputable def Au{α:Type}(z:α)(f1:Str->Pos->α)(f2:List Expr->Nat->Pos->α)(f3:Option Expr->Option Expr->Option Expr->Pos->α)(f4:Expr->Str->Pos->α)(f5:Expr->List Expr->List Keyword->Pos->α)(f6:Expr->Expr->Pos->α)(f7:Expr->List Comprehension->Scope->Pos->α)(f8:Expr->Operator->Expr->Pos->α)(f9:Const->Nat->Pos->α)(f10:UnaryOp->Expr->Pos->α)(f11:BoolOp->List Expr->Pos->α)(f12:List (Option Expr)->List Expr->Pos->α):Expr->α
 | .Name a b=>f1 a b
 | .Tuple a b c=>f2 a b c
 | .Slice a b c d=>f3 a b c d
 | .Attribute a b c=>f4 a b c
 | .Call a b c d=>f5 a b c d
 | .Subscript a b c=>f6 a b c
 | .GeneratorExp a b c d=>f7 a b c d
 | .BinOp a b c d=>f8 a b c d
 | .Constant a b c=>f9 a b c
 | .UnaryOp a b c=>f10 a b c
 | .BoolOp a b c=>f11 a b c
 | .Dict a b c=>f12 a b c
 |_=>z
theorem gJ{α:Type}{f1:Str->Pos->Option α}{f2:List Expr->Nat->Pos->Option α}{f3:Option Expr->Option Expr->Option Expr->Pos->Option α}{f4:Expr->Str->Pos->Option α}{f5:Expr->List Expr->List Keyword->Pos->Option α}{f6:Expr->Expr->Pos->Option α}{f7:Expr->List Comprehension->Scope->Pos->Option α}{f8:Expr->Operator->Expr->Pos->Option α}{f9:Const->Nat->Pos->Option α}{f10:UnaryOp->Expr->Pos->Option α}{f11:BoolOp->List Expr->Pos->Option α}{f12:List (Option Expr)->List Expr->Pos->Option α}{x:α}{C:Expr->Prop}{e:Expr}(h:Au none f1 f2 f3 f4 f5 f6 f7 f8 f9 f10 f11 f12 e=some x)(k1:∀a b,f1 a b=some x->C (.Name a b))(k2:∀a b c,f2 a b c=some x->C (.Tuple a b c))(k3:∀a b c d,f3 a b c d=some x->C (.Slice a b c d))(k4:∀a b c,f4 a b c=some x->C (.Attribute a b c))(k5:∀a b c d,f5 a b c d=some x->C (.Call a b c d))(k6:∀a b c,f6 a b c=some x->C (.Subscript a b c))(k7:∀a b c d,f7 a b c d=some x->C (.GeneratorExp a b c d))(k8:∀a b c d,f8 a b c d=some x->C (.BinOp a b c d))(k9:∀a b c,f9 a b c=some x->C (.Constant a b c))(k10:∀a b c,f10 a b c=some x->C (.UnaryOp a b c))(k11:∀a b c,f11 a b c=some x->C (.BoolOp a b c))(k12:∀a b c,f12 a b c=some x->C (.Dict a b c)):C e:=by
 cases e with
 |Name a b=>exact k1 a b h
 |Tuple a b c=>exact k2 a b c h
 |Slice a b c d=>exact k3 a b c d h
 |Attribute a b c=>exact k4 a b c h
 |Call a b c d=>exact k5 a b c d h
 |Subscript a b c=>exact k6 a b c h
 |GeneratorExp a b c d=>exact k7 a b c d h
 |BinOp a b c d=>exact k8 a b c d h
 |Constant a b c=>exact k9 a b c h
 |UnaryOp a b c=>exact k10 a b c h
 |BoolOp a b c=>exact k11 a b c h
 |Dict a b c=>exact k12 a b c h
 |_=>exact nn h
noncomputable def dc:Expr->Option Str:=Au none (λx J=>some x) (λJ J J=>none) (λJ J J J=>none) (λJ J J=>none) (λJ J J J=>none) (λJ J J=>none) (λJ J J J=>none) (λJ J J J=>none) (λJ J J=>none) (λJ J J=>none) (λJ J J=>none) (λJ J J=>none)
theorem cz{e:Expr}{x:Str}(h:dc e=some x):∃q,e=.Name x q:=
 gJ (C:=λe=>∃q,e=.Name x q) h (λJ q h=>⟨q,by rw[bD h]⟩) (λJ J J h=>nn h) (λJ J J J h=>nn h) (λJ J J h=>nn h) (λJ J J J h=>nn h) (λJ J J h=>nn h) (λJ J J J h=>nn h) (λJ J J J h=>nn h) (λJ J J h=>nn h) (λJ J J h=>nn h) (λJ J J h=>nn h) (λJ J J h=>nn h)
noncomputable def qI:Expr->Option (Const×Nat×Pos):=Au none (λJ J=>none) (λJ J J=>none) (λJ J J J=>none) (λJ J J=>none) (λJ J J J=>none) (λJ J J=>none) (λJ J J J=>none) (λJ J J J=>none) (λc k p=>some (c,k,p)) (λJ J J=>none) (λJ J J=>none) (λJ J J=>none)
theorem yC{e:Expr}{x:Const×Nat×Pos}(h:qI e=some x):e=.Constant x.1 x.2.1 x.2.2:=
 gJ (C:=λe=>e=.Constant x.1 x.2.1 x.2.2) h (λJ J h=>nn h) (λJ J J h=>nn h) (λJ J J J h=>nn h) (λJ J J h=>nn h) (λJ J J J h=>nn h) (λJ J J h=>nn h) (λJ J J J h=>nn h) (λJ J J J h=>nn h) (λJ J J h=>by rw[bD h]) (λJ J J h=>nn h) (λJ J J h=>nn h) (λJ J J h=>nn h)
noncomputable def Jm:Expr->Option (List (Option Expr)×List Expr):=Au none (λJ J=>none) (λJ J J=>none) (λJ J J J=>none) (λJ J J=>none) (λJ J J J=>none) (λJ J J=>none) (λJ J J J=>none) (λJ J J J=>none) (λJ J J=>none) (λJ J J=>none) (λJ J J=>none) (λks vs J=>some (ks,vs))
noncomputable def Mc:Const->Option Str
 | .str x=>some x
 |_=>none
noncomputable def Mk:Const->Option Int
 | .int x=>some x
 |_=>none
noncomputable def Ir{α:Type}(z:α)(f1:Str->List Stmt->Scope->α)(f2:Str->List Stmt->α)(f3:List Expr->Expr->α):Stmt->α
 | .FunctionDef n _ b _ _ _ s _ _ _=>f1 n b s
 | .ClassDef n _ _ b _ _ _ _ _ _ _=>f2 n b
 | .Assign ts v _=>f3 ts v
 |_=>z
noncomputable def KC:Stmt->Option (List Expr×Expr):=Ir none (λJ J J=>none) (λJ J=>none) λts v=>some (ts,v)
noncomputable def CJ(x:Str)(l:List Stmt):Option (Scope×List Stmt):=l.findSome? (Ir none (λn b s=>if n == x then some (s,b) else none) (λJ J=>none) λJ J=>none)
noncomputable def I0(x:Str)(l:List Stmt):List Stmt:=(l.findSome? (Ir none (λJ J J=>none) (λn b=>if n == x then some b else none) λJ J=>none)).getD []
noncomputable def Hj:List Stmt:=PySem.Challenge.pw_wz0028_01.main.body
noncomputable def yB(x:Str):Scope×List Stmt:=(CJ x Hj).getD default
noncomputable def JX(c x:Str):Scope×List Stmt:=(CJ x (I0 c Hj)).getD default
noncomputable def HN:Nat->Scope×List Stmt
 |56=>yB "add_callers" |63=>yB "count_calls" |139=>yB "ISTERMINAL" |146=>yB "ISNONTERMINAL" |153=>yB "ISEOF"
 |158=>yB "_law_page" |163=>yB "_law_symbols" |168=>yB "_law_hang" |173=>yB "_law_farther" |178=>yB "_law_table" |183=>yB "_law_cut" |188=>yB "_law_tree" |193=>yB "_law_report" |200=>yB "_law_road" |205=>yB "law"
 |80=>JX "Whitespace" "__init__" |87=>JX "Whitespace" "longest_run_of_spaces" |94=>JX "Whitespace" "indent_level" |115=>JX "Whitespace" "less"
 |35=>JX "TupleComp" "__init__" |42=>JX "TupleComp" "compare"
 |_=>default
noncomputable def de(a:Addr):List Stmt:=(HN a).2
noncomputable def bg(a:Addr):Scope:=(HN a).1
noncomputable def Ih:Data->Option FuncData
 | .func fd=>some fd
 |_=>none
noncomputable def Ig:Data->Option (Array Value)
 | .fields vs=>some vs
 |_=>none
noncomputable def Kb:Value->Option Addr
 | .ref a=>some a
 |_=>none
noncomputable def Ku:Value->Option (Str×Tok)
 | .str s t=>some (s,t)
 |_=>none
theorem DM{d:Data}{x:FuncData}(h:Ih d=some x):d=.func x:=by
 cases d<;>first|exact nn h|rw[bD h]
theorem CK{d:Data}{x:Array Value}(h:Ig d=some x):d=.fields x:=by
 cases d<;>first|exact nn h|rw[bD h]
theorem GI{d:Value}{x:Addr}(h:Kb d=some x):d=.ref x:=by
 cases d<;>first|exact nn h|rw[bD h]
theorem Hi{d:Value}{x:Str×Tok}(h:Ku d=some x):d=.str x.1 x.2:=by
 cases d<;>first|exact nn h|rw[bD h]
noncomputable def qz(K:Frag)(a:Addr):Option FuncData:=(K.lookup a).bind λo=>Ih o.data
theorem HP{K:Frag}{a:Addr}{fd:FuncData}(h:qz K a=some fd):∃ob,K.lookup a=some ob/\ob.data=.func fd:=
 b9 h λob ho h=>⟨ob,ho,DM h⟩
noncomputable def FG(K:Frag)(fd:FuncData):Option Unit:=(Kb fd.code).bind λc=>(K.lookup c).bind λo=>(Ig o.data).bind λvs=>(vs[1]?).bind λv=>(Ku v).bind λq=>gd (q.1 == fd.qualname) (some ())
theorem GN{K:Frag}{h:Heap}(X:K.In h){fd:FuncData}(e:FG K fd=some ()):h.CodeRec fd.code fd.qualname:=
 b9 e λc hc e=>b9 e λo ho e=>b9 e λvs hd e=>b9 e λv hv e=>b9 e λq hq e=>io e λhe J=>⟨c,o,vs,q.2,GI hc,X _ _ ho,CK hd,by rw[hv,Hi hq,beq_iff_eq.mp he]⟩
noncomputable def ds(sc:List (Str×NameKind)):Bool:=sc.lookup ("new_callers":Str) == some .local
structure qE(K:Frag)(a:Addr)(params:List Str):Prop where
 keep:keepIn K (.ref a)=true
 fd:qz K a=some ((qz K a).getD default)
 code:FG K ((qz K a).getD default)=some ()
 at_:((qz K a).getD default).closure=[]/\((qz K a).getD default).globals=mainGlobals/\((qz K a).getD default).builtins=builtinsNs/\((qz K a).getD default).body=.stmts (de a)/\((qz K a).getD default).scope=bg a
 bind:∀vals:List Value,vals.length=params.length->bindArgs ((qz K a).getD default) ⟨vals,[]⟩=pure (params.zip vals)
 gen:ds (bg a).names=true->((qz K a).getD default).code=.ref 55
noncomputable def bB(K:Frag)(x:Str):Option Value:=match K.lookup 3 with
 |some ⟨_,_,Data.dict es _,_⟩=>nsFind es x
 |_=>none
noncomputable def ue(K:Frag):List DictEntry:=match K.lookup 130 with
 |some ⟨_,_,Data.dict es _,_⟩=>es.toList
 |_=>[]
noncomputable def HL{α:Type}(x:Str)(f:Expr->Option α)(s:Stmt):Option α:=(KC s).bind λq=>(j8 q.1).bind λt=>(dc t).bind λn=>gd (n == x) (f q.2)
noncomputable def Kd(x:Str)(l:List Stmt):Int:=(l.findSome? (HL x λv=>(qI v).bind λc=>Mk c.1)).getD 0
noncomputable def IF(ks:List (Option Expr))(vs:List Expr):List (Str×Int):=(ks.zip vs).filterMap λp=>p.1.bind λk=>(qI k).bind λc=>(Mc c.1).bind λx=>(dc p.2).map λn=>(x,Kd n Hj)
noncomputable def Jt(l:List Stmt):List (Str×Int):=((l.findSome? (HL "EXACT_TOKEN_TYPES" Jm)).map λq=>IF q.1 q.2).getD []
noncomputable def lI:List (Str×Int):=Jt Hj
noncomputable def Gm(a:Str):Bool:=a == ("raw":Str) ||a == ("n":Str) ||a == ("nt":Str) ||a == ("norm":Str) ||a == ("is_simple":Str)
noncomputable def qP(P:Params):List DictEntry->Prop
 | []=>True
 |e::r=>(∃x t,e.key=.str x t/\e.hash=PyData.keyHash P x)/\qP P r
noncomputable def jm:List DictEntry->List (Str×Value)
 | []=>[]
 |⟨_,.str x _,v⟩::r=>(x,v)::jm r
 |_::r=>jm r
noncomputable def mN(kvs:List (Str×Value))(t:List (Str×Int)):Prop:=kvs.map (λp=>(p.1,match p.2 with| .int i _=>some i|_=>none))=t.map λp=>(p.1,some p.2)
abbrev PT:Addr:=51
structure Kt(P:Params)(K:Frag):Prop where
 n3:∃c d es n sl,K.lookup 3=some ⟨c,d,Data.dict es n,sl⟩
 gfn:bB K "add_callers"=some (.ref 56)/\bB K "count_calls"=some (.ref 63)/\bB K "ISTERMINAL"=some (.ref 139)/\bB K "ISNONTERMINAL"=some (.ref 146)/\bB K "ISEOF"=some (.ref 153)
 gl1:bB K "_law_page"=some (.ref 158)/\bB K "_law_symbols"=some (.ref 163)/\bB K "_law_hang"=some (.ref 168)/\bB K "_law_farther"=some (.ref 173)/\bB K "_law_table"=some (.ref 178)
 gl2:bB K "_law_cut"=some (.ref 183)/\bB K "_law_tree"=some (.ref 188)/\bB K "_law_report"=some (.ref 193)/\bB K "_law_road"=some (.ref 200)/\bB K "law"=some (.ref 205)
 gval:bB K "ENDMARKER"=some (.int 0 362)/\bB K "NT_OFFSET"=some (.int 256 460)/\bB K "EXACT_TOKEN_TYPES"=some (.ref 130)/\bB K "Whitespace"=some (.ref 125)/\bB K "TupleComp"=some (.ref 45)
 non1:bB K "len"=none/\bB K "max"=none/\bB K "min"=none/\bB K "sum"=none/\bB K "str"=none/\bB K "ord"=none/\bB K "tuple"=none/\bB K "isinstance"=none
 non2:bB K "list"=none/\bB K "set"=none/\bB K "sorted"=none/\bB K "range"=none/\bB K "enumerate"=none/\bB K "zip"=none
 keep:keepIn K (.ref 125)=true/\keepIn K (.ref 45)=true
 f1:qE K 56 ["target","source"]/\qE K 63 ["callers"]/\qE K 139 ["x"]/\qE K 146 ["x"]/\qE K 153 ["x"]
 f2:qE K 158 ["script"]/\qE K 163 ["line","start"]/\qE K 168 ["spaces"]/\qE K 173 ["leads"]/\qE K 178 ["symbols","owners"]
 f3:qE K 183 ["table","side"]/\qE K 188 ["table","order","tie"]/\qE K 193 ["order","owners","pieces"]/\qE K 200 ["owners","node"]/\qE K 205 ["script"]
 f4:qE K 80 ["self","ws"]/\qE K 87 ["self"]/\qE K 94 ["self","tabsize"]/\qE K 115 ["self","other"]/\qE K 35 ["self","comp_select_list"]/\qE K 42 ["self","left","right"]
 p1:plainGet K 125 "longest_run_of_spaces"=true/\plainGet K 125 "indent_level"=true/\plainGet K 125 "less"=true/\plainGet K 45 "compare"=true
 p2:∀a,Gm a=true->plainGet K 125 a=true/\findIn K (.ref 125) a=some none/\takerIn K 125 a=some none
 p3:plainGet K 45 "comp_select_list"=true/\findIn K (.ref 45) "comp_select_list"=some none/\takerIn K 45 "comp_select_list"=some none
 m2:findIn K (.ref 125) "longest_run_of_spaces"=some (some (.ref 87))/\findIn K (.ref 125) "indent_level"=some (some (.ref 94))/\findIn K (.ref 125) "less"=some (some (.ref 115))/\findIn K (.ref 45) "compare"=some (some (.ref 42))/\findIn K (.ref 125) "__init__"=some (some (.ref 80))/\findIn K (.ref 45) "__init__"=some (some (.ref 35))
 m3:typeIn K (.ref 87)=some (.type "function")/\typeIn K (.ref 94)=some (.type "function")/\typeIn K (.ref 115)=some (.type "function")/\typeIn K (.ref 42)=some (.type "function")/\typeIn K (.ref 80)=some (.type "function")/\typeIn K (.ref 35)=some (.type "function")
 c1:makesIn K 125=true/\makesIn K 45=true/\hasDictIn K 125=true/\hasDictIn K 45=true/\plainOver K 125=true/\plainOver K 45=true/\readsIn K 125 (.type "type")=true
 c2:findIn K (.ref 125) "__setattr__"=some (some (.builtin "object.__setattr__"))/\findIn K (.ref 45) "__setattr__"=some (some (.builtin "object.__setattr__"))
 c5:(∃t,findCls K (.ref 125) (.type "type") "S"=some (.val (.str " " t)))/\∃t,findCls K (.ref 125) (.type "type") "T"=some (.val (.str "\t" t))
 t1:∃es n,K.lookup 130=some ⟨.type "dict",none,Data.dict es n,#[]⟩
 t2:qP P (ue K)
 t3:mN (jm (ue K)) lI
 t4:(jm (ue K)).map (·.1)=lI.map (·.1)
 q1:K.lookup PT=none
 q2:((qz K 56).getD default).code=.ref 55
 q3:(match K.lookup 55 with|some ⟨_,_,Data.fields vs,_⟩=>vs[11]? |_=>none)=some (.ref 51)
abbrev cF:=Str->Option Addr
structure GX(ag:Program)(w:World) where
 base:Heap
 mg:Str->Option Value
 mb:Str->Option Value
 cl:cF
 g:base.Ns mainGlobals mg
 b:base.Ns builtinsNs mb
 nolimit:base.NoLimit
 tab:base.TableAt 55 51 #[]
 code:base.IsCode 55 51 #[]
structure Wd where
 p:Program
 w:World
 G:GX p w
 K:Frag
def Fy(x:Wd):Prop:=Kt x.w.params x.K->x.K.In x.G.base->(∀y:Str,y≠"__name__"->x.G.mb y=bootBuiltins y)->(∃bm ob,x.G.mg "__builtins__"=some (.ref bm)/\bm≠builtinsNs/\x.G.base.get? bm=some ob/\ob.cls=.type "module"/\ob.dict=some builtinsNs/\ob.data=.plain)->x.G.cl ("Whitespace":Str)=some 125->x.G.cl ("TupleComp":Str)=some 45 ->
 ∀(s:Shared) (l:Addr) (ns:List Int),s.heap=x.G.base->ns.length<=63->Well x.w.params s.heap (.ref l) (ofPy (.list (ns.map .int))) ->
  wpAny (model x.p x.w) callerA (call (.ref 205) [.ref l]) (λv s'=>v=.bool true/\OldK s.heap s'.heap/\s'.os=s.os/\(AllBare s.gens->AllBare s'.gens)) (λJ J=>False) s
noncomputable def cV:Obj:=⟨.type "dict",none,.dict #[] 0,#[]⟩
noncomputable def Kr:Obj:={ cls:=.none,data:=.fields #[] }
noncomputable def CT:Obj:={ cls:=.type "code",data:=.fields #[.none,.none,.none,.none,.none,.none,.none,.int 0 0,.none,.bool true,.int 0 0,.ref 51,.none,.none,.none,.none,.none,.none,.str "" 0] }
noncomputable def wD:Heap:={ objs:=#[cV,cV,cV,cV,cV,cV,cV,cV,cV,cV,cV,cV,cV,cV,cV,cV,cV,cV,cV,cV,cV,cV,cV,cV,cV,cV,cV,cV,cV,cV,cV,cV,cV,cV,cV,cV,cV,cV,cV,cV,cV,cV,cV,cV,cV,cV,cV,cV,cV,cV,cV,Kr,cV,cV,cV,CT] }
theorem JY{a:Addr}(h:wD.get? a=some cV):wD.Ns a λJ=>none:=⟨cV,#[],0,h,rfl,(λJ q=>nomatch q),λJ=>rfl⟩
theorem MM:wD.TableAt 55 51 #[]:=⟨⟨CT,_,rfl,rfl,rfl,rfl⟩,rfl⟩
theorem MT:wD.IsCode 55 51 #[]:=⟨CT,_,_,_,_,_,_,_,_,Kr,rfl,rfl,rfl,rfl,rfl,rfl,rfl,rfl,rfl,trivial,by decide⟩
noncomputable def M5:Wd:=⟨default,⟨λJ J=>0,{ strHash:=λJ=>0,shareClass:=λJ=>0,mergeTok:=id,idOf:=λJ=>0,idOfShared:=λJ J=>0,followText:=λJ=>false,idOfImm:=λJ=>0 }⟩,⟨wD,λJ=>none,λJ=>none,λJ=>none,JY rfl,JY rfl,⟨_,JY rfl,rfl⟩,MM,MT⟩,[]⟩
noncomputable def wd:Wd:=@Classical.epsilon Wd ⟨M5⟩ λx=>¬Fy x
noncomputable def ag:Program:=wd.p
noncomputable def w:World:=wd.w
noncomputable def G:GX ag w:=wd.G
noncomputable def KF:Frag:=wd.K
def ki(h:Heap):Prop:=∃ps:Array Value,TriplesOk ps.toList/\h.get? PT=some { cls:=.none,data:=.fields ps }
theorem Ga(h:Fy wd)(x:Wd):Fy x:=Classical.byContradiction λq=>Classical.epsilon_spec (p:=λx=>¬Fy x) ⟨x,q⟩ h
end
end Mine
end
section
namespace Mine
set_option genSizeOf false
set_option genInjectivity false
inductive PV where
 |none
 |bool (b:Bool)
 |int (i:Int)
 |str (s:Str)
 |tup (l:List PV)
 |lst (l:List PV)
 |dct (l:List (Int×PV))
 |vals (l:List (Int×PV))
 |its (l:List (Int×PV))
 |typ (n:String)
 |obj (c:Str) (fs:List (Str×PV))
 deriving Inhabited
section
mutual
noncomputable def Rep(ag:Program)(w:World)(cl:cF)(h:Heap)(V:Addr->Prop):PV->Value->Prop
 | .none,v=>v=.none
 | .bool b,v=>v=.bool b
 | .int i,v=>∃t,v=.int i t
 | .str s,v=>∃t,v=.str s t
 | .tup l,v=>∃a,v=.ref a/\¬V a/\∃vs:List Value,h.IsTuple a vs.toArray/\RepL ag w cl h V l vs
 | .lst l,v=>∃a,v=.ref a/\¬V a/\∃vs:List Value,h.PlainList a vs.toArray/\RepL ag w cl h V l vs
 | .dct l,v=>∃a,v=.ref a/\¬V a/\(a == sysModules)=false/\∃kvs,h.DictOf (intKind ag w) a kvs/\RepD ag w cl h V l kvs
 | .vals l,v=>∃a,v=.ref a/\¬V a/\∃d,h.get? a=some { cls:=.type "dict_values",data:=.fields #[.ref d] }/\¬V d/\(d == sysModules)=false/\∃kvs,h.DictOf (intKind ag w) d kvs/\RepD ag w cl h V l kvs
 | .its l,v=>∃a,v=.ref a/\¬V a/\∃d,h.get? a=some { cls:=.type "dict_items",data:=.fields #[.ref d] }/\¬V d/\(d == sysModules)=false/\∃kvs,h.DictOf (intKind ag w) d kvs/\RepD ag w cl h V l kvs
 | .typ n,v=>v=.type n
 | .obj c fs,v=>∃a C d es ep,v=.ref a/\¬V a/\cl c=some C/\¬V d/\h.get? a=some { cls:=.ref C,dict:=some d,data:=.plain } /\
   h.get? d=some { cls:=.type "dict",data:=.dict es ep }/\RepF ag w cl h V fs es.toList
noncomputable def RepL(ag:Program)(w:World)(cl:cF)(h:Heap)(V:Addr->Prop):List PV->List Value->Prop
 | [],[]=>True
 |p::ps,v::vs=>Rep ag w cl h V p v/\RepL ag w cl h V ps vs
 |_,_=>False
noncomputable def RepD(ag:Program)(w:World)(cl:cF)(h:Heap)(V:Addr->Prop):List (Int×PV)->List (Int×Value)->Prop
 | [],[]=>True
 |(k,p)::ps,(k',v)::vs=>k=k'/\Rep ag w cl h V p v/\RepD ag w cl h V ps vs
 |_,_=>False
noncomputable def RepF(ag:Program)(w:World)(cl:cF)(h:Heap)(V:Addr->Prop):List (Str×PV)->List DictEntry->Prop
 | [],[]=>True
 |(k,p)::ps,e::es=>(∃t,e.key=.str k t)/\Rep ag w cl h V p e.val/\RepF ag w cl h V ps es
 |_,_=>False
end
def bI(U:Addr->Prop)(h h':Heap):Prop:=∀b o,¬U b->h.get? b=some o->h'.get? b=some o
theorem bI.refl(U:Addr->Prop)(h:Heap):bI U h h:=λJ J J e=>e
theorem bI.trans{U:Addr->Prop}{h h' h'':Heap}(x:bI U h h')(y:bI U h' h''):bI U h h'':=λb o n e=>y b o n (x b o n e)
theorem bI.mono{U U':Addr->Prop}{h h':Heap}(x:bI U h h')(m:∀a,U a->U' a):bI U' h h':=λb o n e=>x b o (λu=>n (m b u)) e
theorem u4{V:Addr->Prop}{h h':Heap}{a:Addr}{vs:Array Value}(k:bI V h h')(n:¬V a)(x:h.IsTuple a vs):h'.IsTuple a vs:=
 let⟨o,ho,r⟩:=x;⟨o,k _ _ n ho,r⟩
theorem sJ{V:Addr->Prop}{h h':Heap}{a:Addr}{vs:Array Value}(k:bI V h h')(n:¬V a)(x:h.PlainList a vs):h'.PlainList a vs:=
 let⟨m,ho⟩:=x;⟨m,k _ _ n ho⟩
theorem gf{V:Addr->Prop}{h h':Heap}{a:Addr}{kvs:List (Int×Value)}(k:bI V h h')(n:¬V a)(x:h.DictOf (intKind ag w) a kvs):h'.DictOf (intKind ag w) a kvs:=
 let⟨o,es,ep,ho,r⟩:=x;⟨o,es,ep,k _ _ n ho,r⟩
theorem rq{h:Heap}{a:Addr}{o:Obj}(e:h.get? a=some o):h.get? a≠none:=λq=>nomatch q.symm.trans e
theorem Dv{h:Heap}{a:Addr}{vs:Array Value}(t:h.IsTuple a vs):h.get? a≠none:=t.elim λJ q=>rq q.1
theorem xz{h:Heap}{a:Addr}{vs:Array Value}(t:h.PlainList a vs):h.get? a≠none:=t.elim λJ q=>rq q
theorem lU{h:Heap}{a:Addr}{kvs:List (Int×Value)}(t:h.DictOf (intKind ag w) a kvs):h.get? a≠none:=let⟨_,_,_,ho,_⟩:=t;rq ho
mutual
theorem Rep.keep{cl:cF}{h h':Heap}{V V':Addr->Prop}(k:bI V h h')(m:∀a,h.get? a≠none->V' a->V a):∀{p:PV}{v:Value},Rep ag w cl h V p v->Rep ag w cl h' V' p v:=λ{p v} x=>by
 cases p with
 |tup l=>refine bx x ?_;clear x;intro a e n vs t r;exact ei a ⟨e,λq=>n (m a (Dv t) q),vs,u4 k n t,RepL.keep k m r⟩
 |lst l=>refine bx x ?_;clear x;intro a e n vs t r;exact ei a ⟨e,λq=>n (m a (xz t) q),vs,sJ k n t,RepL.keep k m r⟩
 |dct l=>refine cK x ?_;clear x;intro a e n z vs t r;exact ei a ⟨e,λq=>n (m a (lU t) q),z,vs,gf k n t,RepD.keep k m r⟩
 |vals l=>refine jE x ?_;clear x;intro a e n d g nd z vs t r;exact ei a ⟨e,λq=>n (m a (rq g) q),d,k _ _ n g,λq=>nd (m d (lU t) q),z,vs,gf k nd t,RepD.keep k m r⟩
 |its l=>refine jE x ?_;clear x;intro a e n d g nd z vs t r;exact ei a ⟨e,λq=>n (m a (rq g) q),d,k _ _ n g,λq=>nd (m d (lU t) q),z,vs,gf k nd t,RepD.keep k m r⟩
 |obj c fs=>refine dp x ?_;clear x;intro a C d es ep e n q nd g gd r;exact ei a ⟨C,d,es,ep,e,λq=>n (m a (rq g) q),q,λq=>nd (m d (rq gd) q),k _ _ n g,k _ _ nd gd,RepF.keep k m r⟩
 |_=>exact x
theorem RepL.keep{cl:cF}{h h':Heap}{V V':Addr->Prop}(k:bI V h h')(m:∀a,h.get? a≠none->V' a->V a):∀{p:List PV}{v:List Value},RepL ag w cl h V p v->RepL ag w cl h' V' p v
 | [],v,x=>by cases v with
  |nil=>exact x
  |cons _ _=>exact x
 |p::ps,v,x=>by cases v with
  |nil=>exact x
  |cons _ _=>exact And.intro (Rep.keep k m x.1) (RepL.keep k m x.2)
theorem RepD.keep{cl:cF}{h h':Heap}{V V':Addr->Prop}(k:bI V h h')(m:∀a,h.get? a≠none->V' a->V a):∀{p:List (Int×PV)}{v:List (Int×Value)},RepD ag w cl h V p v->RepD ag w cl h' V' p v
 | [],v,x=>by cases v with
  |nil=>exact x
  |cons _ _=>exact x
 |(_,p)::ps,v,x=>by cases v with
  |nil=>exact x
  |cons u _=>exact And.intro x.1 ⟨Rep.keep k m x.2.1,RepD.keep k m x.2.2⟩
theorem RepF.keep{cl:cF}{h h':Heap}{V V':Addr->Prop}(k:bI V h h')(m:∀a,h.get? a≠none->V' a->V a):∀{p:List (Str×PV)}{v:List DictEntry},RepF ag w cl h V p v->RepF ag w cl h' V' p v
 | [],v,x=>by cases v with
  |nil=>exact x
  |cons _ _=>exact x
 |(_,p)::ps,v,x=>by cases v with
  |nil=>exact x
  |cons u _=>exact And.intro x.1 ⟨Rep.keep k m x.2.1,RepF.keep k m x.2.2⟩
end
end
end Mine
end
section
namespace Mine
abbrev SE:=List (Str×(Bool×PV))
abbrev Sc:=List (Str×NameKind)
noncomputable def SE.put:SE->Str->Bool×PV->SE
 | [],x,v=>[(x,v)]
 |(y,u)::r,x,v=>if y == x then(y,v)::r else(y,u)::SE.put r x v
noncomputable def jD(l:List (Int×PV))(k:Int)(v:PV):List (Int×PV):=
 if l.any (λkv=>kv.1=k) then l.map (λkv=>if kv.1=k then(kv.1,v) else kv) else l++[(k,v)]
noncomputable def eH(l:List (Int×PV))(k:Int):Option PV:=(l.find? λkv=>kv.1=k).map (·.2)
theorem Le{α:Type}{a b:α}{C:α->Prop}(h:some a=some b)(k:C a):C b:=by cases h;exact k
theorem fz{α:Type}{c:Prop}[Decidable c]{x:Option α}{b:α}{C:Prop}(h:(if c then x else none)=some b)(k:c->x=some b->C):C:=by
 by_cases q:c
 ·rw[if_pos q]at h;exact k q h
 ·rw[if_neg q]at h;cases h
theorem MI{α:Type}{x y:Option α}{b:α}{C:Prop}(h:x.or y=some b)(k:x=some b->C)(k':x=none->y=some b->C):C:=by
 cases x with
 |none=>exact k' rfl h
 |some a=>exact k h
theorem gw{a b:Bool}(h:(a && b)=true):a=true/\b=true:=by
 cases a with
 |true=>exact⟨rfl,h⟩
 |false=>cases h
noncomputable def cb:PV->Option Int
 | .int i=>some i
 |_=>none
noncomputable def my:PV->Option Bool
 | .bool i=>some i
 |_=>none
noncomputable def kB:PV->Option Str
 | .str i=>some i
 |_=>none
noncomputable def ju:PV->Option (List PV)
 | .lst i=>some i
 |_=>none
noncomputable def qq:PV->Option (List PV)
 | .tup i=>some i
 |_=>none
noncomputable def H0:PV->Option (List (Int×PV))
 | .dct i=>some i
 |_=>none
noncomputable def q0:PV->Option (Str×List (Str×PV))
 | .obj c fs=>some (c,fs)
 |_=>none
theorem jy{v:PV}{i:Int}(h:cb v=some i):v=.int i:=by
 cases v<;>first|exact nn h|(rw[bD h])
theorem pF{v:PV}{i:Bool}(h:my v=some i):v=.bool i:=by
 cases v<;>first|exact nn h|(rw[bD h])
theorem rA{v:PV}{i:Str}(h:kB v=some i):v=.str i:=by
 cases v<;>first|exact nn h|(rw[bD h])
theorem iH{v:PV}{i:List PV}(h:ju v=some i):v=.lst i:=by
 cases v<;>first|exact nn h|(rw[bD h])
theorem kq{v:PV}{i:List PV}(h:qq v=some i):v=.tup i:=by
 cases v<;>first|exact nn h|(rw[bD h])
theorem CV{v:PV}{i:List (Int×PV)}(h:H0 v=some i):v=.dct i:=by
 cases v<;>first|exact nn h|(rw[bD h])
theorem oK{v:PV}{c:Str×List (Str×PV)}(h:q0 v=some c):v=.obj c.1 c.2:=by
 cases v<;>first|exact nn h|(rw[bD h])
structure cS where
 fn:Str->List PV->Option PV
 bi:Str->List PV->Option PV
 mth:Str->Str->List PV->Option PV
 fld:Str->Str->Bool
 cattr:Str->Str->Option PV
 gval:Str->Option PV
 tab:Str->Option (List (Str×Int))
noncomputable def jj:PV->Bool
 | .none=>true
 |_=>false
noncomputable def cW{α β γ:Type}(f:α->β->Option γ)(x:Option α)(y:Option β):Option γ:=x.bind λa=>y.bind λb=>f a b
theorem bY{α β γ:Type}{f:α->β->Option γ}{x:Option α}{y:Option β}{c:γ}{C:Prop}(h:cW f x y=some c)(k:∀a b,x=some a->y=some b->f a b=some c->C):C:=
 b9 h λa ha h=>b9 h λb hb h=>k a b ha hb h
theorem gg{α β γ:Type}{f:α->β->Option γ}{x:Option α}{y:Option β}{a:α}{b:β}(ha:x=some a)(hb:y=some b):cW f x y=f a b:=by subst ha;subst hb;rfl
mutual
noncomputable def n0:Nat->PV->PV->Option Bool
 |0,_,_=>none
 |n+1,a,b=>match a with
  | .none=>gd (jj b) (some true)
  | .bool x=>(my b).map (x == ·)
  | .int x=>(cb b).map (x == ·)
  | .str x=>(kB b).map (x == ·)
  | .lst x=>(ju b).bind (v5 n x)
  | .tup x=>(qq b).bind (v5 n x)
  | .dct x=>(H0 b).bind λy=>if x.length=y.length then pG n x y else some false
  |_=>none
noncomputable def v5:Nat->List PV->List PV->Option Bool
 |0,_,_=>none
 |n+1,x,y=>match x with
  | []=>some y.isEmpty
  |a::as=>match y with
   | []=>some false
   |b::bs=>cW (λx y=>some (x && y)) (n0 n a b) (v5 n as bs)
noncomputable def pG:Nat->List (Int×PV)->List (Int×PV)->Option Bool
 |0,_,_=>none
 |n+1,x,bs=>match x with
  | []=>some true
  |ka::as=>match eH bs ka.1 with
   |none=>some false
   |some b=>cW (λx y=>some (x && y)) (n0 n ka.2 b) (pG n as bs)
end
noncomputable def small(i:Int):Bool:=decide (i.natAbs < 18446744073709551616)
noncomputable def rn(l:List PV):Option PV:=if l.length<=1048576 then some (.lst l) else none
noncomputable def IR(a b:PV):Option PV:=match a with
 | .int x=>(cb b).map λy=>.int (x+y)
 | .str x=>(kB b).bind λy=>if x.length<=1048576 && y.length<=1048576 then some (.str (x++y)) else none
 | .lst x=>(ju b).bind λy=>if x.length<=1048576 && y.length<=1048576 then some (.lst (x++y)) else none
 |_=>none
noncomputable def J7(a:PV)(y:Int):Option PV:=match a with
 | .int x=>if small x ||small y then some (.int (x * y)) else none
 | .lst x=>if x.length=1 && decide (0<=y) && decide (y<=1048576) then some (.lst ((bd y.toNat x).flatten)) else none
 |_=>none
noncomputable def EX(f:Int->Int->Option PV)(a b:PV):Option PV:=cW f (cb a) (cb b)
noncomputable def jW(op:Operator)(a b:PV):Option PV:=match op with
 | .Add=>IR a b
 | .Sub=>EX (λx y=>some (.int (x - y))) a b
 | .Mult=>(cb b).bind (J7 a)
 | .FloorDiv=>EX (λx y=>if small y && y != 0 then some (.int (Int.fdiv x y)) else none) a b
 | .Mod=>EX (λx y=>if y != 0 then some (.int (eT x y)) else none) a b
 | .Pow=>EX (λx y=>if small x && decide (0<=y) && decide (y<=4096) then some (.int (x ^ y.toNat)) else none) a b
 |_=>none
noncomputable def sr:PV->Bool
 | .bool _=>true
 | .int _=>true
 | .str _=>true
 | .tup _=>true
 | .lst _=>true
 |_=>false
noncomputable def Gv(a b:PV):Option Bool:=if jj a then(if jj b then some true else gd (sr b) (some false))
 else if jj b then gd (sr a) (some false)
 else cW (λx y=>some (x == y)) (my a) (my b)
noncomputable def j0(k:Int):List PV->Option Bool
 | []=>some false
 |a::r=>cW (λi b=>some (i == k ||b)) (cb a) (j0 k r)
noncomputable def kM(k:Int):List PV->Option Nat
 | []=>none
 |a::r=>(cb a).bind λi=>if i == k then(j0 k r).map λJ=>0 else(kM k r).map (·+1)
noncomputable def IW(x c:PV):Option Bool:=(cb x).bind λk=>match c with
 | .dct l=>some (eH l k).isSome
 | .lst l=>j0 k l
 | .tup l=>j0 k l
 |_=>none
noncomputable def oi(f:Int->Int->Bool)(a b c d:Int):Bool:=if a == c then(if b == d then false else f b d) else f a c
noncomputable def Ae(f:Int->Int->Bool)(a b:PV):Option Bool:=cW (λx y=>some (f x y)) (cb a) (cb b)
noncomputable def AJ(a:PV):Option (Int×Int):=(qq a).bind λl=>match l with
 | []=>none
 |x::l=>match l with
  | []=>none
  |y::l=>match l with
   | []=>cW (λi j=>some (i,j)) (cb x) (cb y)
   |_::_=>none
noncomputable def I9(f:Int->Int->Bool)(a b:PV):Option Bool:=match a with
 | .int x=>(cb b).map (f x)
 | .tup _=>cW (λp q=>some (oi f p.1 p.2 q.1 q.2)) (AJ a) (AJ b)
 |_=>none
noncomputable def Hc(n:Nat)(op:CmpOp)(a b:PV):Option Bool:=match op with
 | .Eq=>n0 n a b
 | .NotEq=>(n0 n a b).map (!·)
 | .Lt=>I9 (λx y=>decide (x < y)) a b
 | .LtE=>Ae (λx y=>decide (x<=y)) a b
 | .Gt=>I9 (λx y=>decide (x > y)) a b
 | .GtE=>Ae (λx y=>decide (x ≥ y)) a b
 | .Is=>Gv a b
 | .IsNot=>(Gv a b).map (!·)
 | .In=>IW a b
 | .NotIn=>(IW a b).map (!·)
noncomputable def eF(k:Int)(n:Nat):Option Nat:=
 if k < 0 then(if -(n:Int)<=k then some (k+n).toNat else none) else(if k < n then some k.toNat else none)
noncomputable def FQ(s:Str)(i:Nat):Str:=⟨#[s.cps[i]?.getD 0]⟩
noncomputable def item(c i:PV):Option PV:=(cb i).bind λk=>match c with
 | .lst l=>if l.length<=1048576 then(eF k l.length).bind (l[·]?) else none
 | .tup l=>if l.length<=1048576 then(eF k l.length).bind (l[·]?) else none
 | .dct l=>eH l k
 | .str s=>if s.length<=1048576 then(eF k s.length).map λi=>.str (FQ s i) else none
 |_=>none
noncomputable def cT(k:Int)(n:Nat):Nat:=if k < 0 then(k+n).toNat else min k.toNat n
noncomputable def qK{α:Type}(l:List α)(a b:Option Int):List α:=
 let lo:=(a.map (cT · l.length)).getD 0
 let hi:=(b.map (cT · l.length)).getD l.length
 (l.take hi).drop lo
noncomputable def jA(c:PV)(a b:Option Int):Option PV:=match c with
 | .lst l=>if l.length<=1048576 then some (.lst (qK l a b)) else none
 | .tup l=>gd a.isNone (b.bind λk=>if l.length<=1048576 && decide (0<=k) && decide (k < l.length) then some (.tup (l.take k.toNat)) else none)
 | .str s=>if s.length<=1048576 then some (.str ⟨(qK s.cps.toList a b).toArray⟩) else none
 |_=>none
noncomputable def qU(c:PV):Option (List PV):=match c with
 | .lst l=>if l.length<=1048576 then some l else none
 | .tup l=>if l.length<=1048576 then some l else none
 | .dct l=>if l.length<=1048576 then some (l.map λkv=>.int kv.1) else none
 | .vals l=>if l.length<=1048576 then some (l.map (·.2)) else none
 | .its l=>if l.length<=1048576 then some (l.map λkv=>.tup [.int kv.1,kv.2]) else none
 | .str s=>if s.length<=1048576 then some (s.cps.toList.map λc=>.str ⟨#[c]⟩) else none
 |_=>none
noncomputable def lW:List PV->List PV->List PV
 |a::as,b::bs=>.tup [a,b]::lW as bs
 |_,_=>[]
noncomputable def iE:Nat->List PV->List PV
 |_,[]=>[]
 |n,a::as=>.tup [.int n,a]::iE (n+1) as
noncomputable def ie(a b:Int):List PV:=(aI (b - a).toNat).map λ(i:Nat)=>.int (a+(i:Int))
noncomputable def cC(x:Str):Bool:=x != ("__debug__":Str) && x != ("__classdict__":Str)
noncomputable def bh(sc:Sc)(x:Str):Bool:=cC x && (sc.lookup x == some .local ||sc.lookup x == some .cell)
noncomputable def ip:Expr->Option (List Expr):=Au none (λJ J=>none) (λes J J=>some es) (λJ J J J=>none) (λJ J J=>none) (λJ J J J=>none) (λJ J J=>none) (λJ J J J=>none) (λJ J J J=>none) (λJ J J=>none) (λJ J J=>none) (λJ J J=>none) (λJ J J=>none)
theorem kN{e:Expr}{x:List Expr}(h:ip e=some x):∃k q,e=.Tuple x k q:=
 gJ (C:=λe=>∃k q,e=.Tuple x k q) h (λJ J h=>nn h) (λJ k q h=>⟨k,q,by rw[bD h]⟩) (λJ J J J h=>nn h) (λJ J J h=>nn h) (λJ J J J h=>nn h) (λJ J J h=>nn h) (λJ J J J h=>nn h) (λJ J J J h=>nn h) (λJ J J h=>nn h) (λJ J J h=>nn h) (λJ J J h=>nn h) (λJ J J h=>nn h)
noncomputable def mQ:Expr->Option (Option Expr×Option Expr×Bool):=Au none (λJ J=>none) (λJ J J=>none) (λa b c J=>some (a,b,c.isNone)) (λJ J J=>none) (λJ J J J=>none) (λJ J J=>none) (λJ J J J=>none) (λJ J J J=>none) (λJ J J=>none) (λJ J J=>none) (λJ J J=>none) (λJ J J=>none)
theorem zG{e:Expr}{x:Option Expr×Option Expr×Bool}(h:mQ e=some x):∃c q,e=.Slice x.1 x.2.1 c q/\c.isNone=x.2.2:=
 gJ (C:=λe=>∃c q,e=.Slice x.1 x.2.1 c q/\c.isNone=x.2.2) h (λJ J h=>nn h) (λJ J J h=>nn h) (λJ J c q h=>⟨c,q,by rw[bD h],by rw[bD h]⟩) (λJ J J h=>nn h) (λJ J J J h=>nn h) (λJ J J h=>nn h) (λJ J J J h=>nn h) (λJ J J J h=>nn h) (λJ J J h=>nn h) (λJ J J h=>nn h) (λJ J J h=>nn h) (λJ J J h=>nn h)
noncomputable def cj:List Expr->Option (List Str)
 | []=>some []
 |e::r=>cW (λx xs=>some (x::xs)) (dc e) (cj r)
noncomputable def dq(sc:Sc):List Str->List PV->SE->Option SE
 | [],vs,σ=>gd vs.isEmpty (some σ)
 |x::xs,vs,σ=>match vs with
  | []=>none
  |v::vs=>if bh sc x then dq sc xs vs (SE.put σ x (false,v)) else none
noncomputable def bindT(sc:Sc)(t:Expr)(v:PV)(σ:SE):Option SE:=match dc t with
 |some x=>dq sc [x] [v] σ
 |none=>cW (λxs vs=>if xs.length=vs.length then dq sc xs vs σ else none) ((ip t).bind cj) (qq v)
noncomputable def gR(t:Expr)(σ:SE):Bool:=match dc t with
 |some x=>(σ.lookup x).isNone
 |none=>match(ip t).bind cj with
  |some xs=>xs.all λx=>(σ.lookup x).isNone
  |none=>false
noncomputable def iA(e:Expr):Bool:=(ip e).isSome
noncomputable def J9:PV->Bool
 | .its _=>true
 |_=>false
noncomputable def ms(t:Expr)(v:PV):Option (List PV):=gd (iA t || !J9 v) (qU v)
noncomputable def jF(scope:Scope)(σ:SE):SE:=σ.filter λp=>scope.names.lookup p.1 == some .free
noncomputable def fO(sc:Sc)(scope:Scope):Bool:=
 !ds scope.names && scope.kind == .function && decide (scope.names.map (·.1)).Nodup &&
 scope.names.all λp=>p.2 == .local ||p.2 == .cell ||p.2 == .globalImplicit ||(p.2 == .free && (sc.lookup p.1 == some .cell ||sc.lookup p.1 == some .free))
noncomputable def bR(sc:Sc)(σ:SE)(x:Str):Bool:=cC x && sc.lookup x == some .globalImplicit && (σ.lookup x).isNone
noncomputable def dK{α β:Type}(f:α->Option β):List α->Option (List β)
 | []=>some []
 |a::as=>cW (λb bs=>some (b::bs)) (f a) (dK f as)
noncomputable def cD:List (PV×PV)->List (Int×PV)->Option (List (Int×PV))
 | [],acc=>some acc
 |kv::r,acc=>(cb kv.1).bind λk=>cD r (jD acc k kv.2)
noncomputable def qW:Const->Option PV
 | .none=>some .none
 | .bool b=>some (.bool b)
 | .int i=>some (.int i)
 | .str s=>some (.str s)
 |_=>none
noncomputable def fV(k:Int):Bool:=decide (-1048576<=k) && decide (k<=1048576)
noncomputable def l5:List PV->Option (List Str)
 | []=>some []
 |a::r=>cW (λs ss=>some (s::ss)) (kB a) (l5 r)
noncomputable def qA(args:List PV):Option PV:=match args with
 | []=>none
 |a::r=>match r with
  | []=>some a
  |_::_=>none
noncomputable def Iv(l:List PV)(a:PV):Option PV:=if l.length<=1048576 then(match a with
 | .int k=>(kM k l).map λ(i:Nat)=>.int (i:Int)
 |_=>none) else none
noncomputable def C8(c:PV)(name:Str)(args:List PV):Option PV:=match c with
 | .str s=>(qA args).bind λa=>if name == ("split":Str) then
   (kB a).bind λt=>(if s.length<=1048576 && decide (0 < t.length) && (Txt.split s t).length<=1048576 then some (.lst ((Txt.split s t).map .str)) else none)
  else gd (name == ("join":Str)) ((ju a).bind λl=>(l5 l).bind λss=>if JoinOk s ss then some (.str (Txt.join s ss)) else none)
 | .dct l=>gd args.isEmpty (if name == ("items":Str) then some (.its l) else gd (name == ("values":Str)) (some (.vals l)))
 | .lst l=>(qA args).bind λa=>gd (name == ("index":Str)) (Iv l a)
 |_=>none
noncomputable def dw:Expr->Bool:=Au true (λJ J=>true) (λJ J J=>true) (λJ J J J=>true) (λJ J J=>true) (λf as ks J=>!((dc f).isSome && as.isEmpty && ks.isEmpty)) (λJ J J=>true) (λJ J J J=>true) (λJ J J J=>true) (λJ J J=>true) (λJ J J=>true) (λJ J J=>true) (λJ J J=>true)
noncomputable def lM(sc:Sc)(σ:SE)(e:Expr):Option Str:=(dc e).bind λx=>gd (bR sc σ x) (some x)
noncomputable def d6(o:cS)(sc:Sc)(σ:SE)(e:Expr):Option (List (Str×Int)):=(lM sc σ e).bind o.tab
noncomputable def Fa(o:cS)(sc:Sc)(σ:SE)(x:Str):Option PV:=match σ.lookup x with
 |some (b,v)=>gd (!b) (some v)
 |none=>gd (sc.lookup x == some .globalImplicit) (o.gval x)
noncomputable def Lq(op:UnaryOp)(v:PV):Option PV:=match op with
 | .USub=>(cb v).map λi=>.int (-i)
 | .Not=>(my v).map λb=>.bool (!b)
 |_=>none
noncomputable def EI(vs:List PV):Option PV:=if vs.length<=1048576 then some (.tup vs) else none
noncomputable def uX(op:CmpOp):Bool:=op == .In ||op == .NotIn
noncomputable def GO(t:Option (List (Str×Int)))(n:Nat)(op:CmpOp)(a:PV)(xP x:Option PV):Option PV:=
 if uX op then(match t with
  |some t=>(kB a).map λs=>.bool ((t.lookup s).isSome == (op == .In))
  |none=>xP.bind λb=>(Hc n op a b).map .bool)
 else x.bind λb=>(Hc n op a b).map .bool
noncomputable def Aq(o:cS)(name:Str)(b:PV)(vs:List PV):Option PV:=match q0 b with
 |some c=>gd (c.2.lookup name).isNone (o.mth c.1 name (b::vs))
 |none=>C8 b name vs
noncomputable def J3(o:cS)(a:Str)(v:PV):Option PV:=(q0 v).bind λc=>gd (o.fld c.1 a) (c.2.lookup a)
noncomputable def Io(E:Expr->Option PV)(k:Option Expr):Option PV:=k.bind E
noncomputable def nX:Expr->Option (Expr×Str×Pos):=Au none (λJ J=>none) (λJ J J=>none) (λJ J J J=>none) (λob a p=>some (ob,a,p)) (λJ J J J=>none) (λJ J J=>none) (λJ J J J=>none) (λJ J J J=>none) (λJ J J=>none) (λJ J J=>none) (λJ J J=>none) (λJ J J=>none)
theorem p7{e:Expr}{x:Expr×Str×Pos}(h:nX e=some x):e=.Attribute x.1 x.2.1 x.2.2:=
 gJ (C:=λe=>e=.Attribute x.1 x.2.1 x.2.2) h (λJ J h=>nn h) (λJ J J h=>nn h) (λJ J J J h=>nn h) (λJ J J h=>by rw[bD h]) (λJ J J J h=>nn h) (λJ J J h=>nn h) (λJ J J J h=>nn h) (λJ J J J h=>nn h) (λJ J J h=>nn h) (λJ J J h=>nn h) (λJ J J h=>nn h) (λJ J J h=>nn h)
noncomputable def qY:Expr->Option (Expr×List Expr×List Keyword×Pos):=Au none (λJ J=>none) (λJ J J=>none) (λJ J J J=>none) (λJ J J=>none) (λf as ks p=>some (f,as,ks,p)) (λJ J J=>none) (λJ J J J=>none) (λJ J J J=>none) (λJ J J=>none) (λJ J J=>none) (λJ J J=>none) (λJ J J=>none)
theorem sV{e:Expr}{x:Expr×List Expr×List Keyword×Pos}(h:qY e=some x):e=.Call x.1 x.2.1 x.2.2.1 x.2.2.2:=
 gJ (C:=λe=>e=.Call x.1 x.2.1 x.2.2.1 x.2.2.2) h (λJ J h=>nn h) (λJ J J h=>nn h) (λJ J J J h=>nn h) (λJ J J h=>nn h) (λJ J J J h=>by rw[bD h]) (λJ J J h=>nn h) (λJ J J J h=>nn h) (λJ J J J h=>nn h) (λJ J J h=>nn h) (λJ J J h=>nn h) (λJ J J h=>nn h) (λJ J J h=>nn h)
noncomputable def Ib:Expr->Option (Expr×Expr×Pos):=Au none (λJ J=>none) (λJ J J=>none) (λJ J J J=>none) (λJ J J=>none) (λJ J J J=>none) (λc i p=>some (c,i,p)) (λJ J J J=>none) (λJ J J J=>none) (λJ J J=>none) (λJ J J=>none) (λJ J J=>none) (λJ J J=>none)
theorem E9{e:Expr}{x:Expr×Expr×Pos}(h:Ib e=some x):e=.Subscript x.1 x.2.1 x.2.2:=
 gJ (C:=λe=>e=.Subscript x.1 x.2.1 x.2.2) h (λJ J h=>nn h) (λJ J J h=>nn h) (λJ J J J h=>nn h) (λJ J J h=>nn h) (λJ J J J h=>nn h) (λJ J J h=>by rw[bD h]) (λJ J J J h=>nn h) (λJ J J J h=>nn h) (λJ J J h=>nn h) (λJ J J h=>nn h) (λJ J J h=>nn h) (λJ J J h=>nn h)
noncomputable def v6(e:Expr):Option (Str×List Expr):=(qY e).bind λq=>(dc q.1).bind λx=>gd q.2.2.1.isEmpty (some (x,q.2.1))
theorem dz{α:Type}:∀{l:List α},l.isEmpty=true->l=[]
 | [],_=>rfl
theorem uC{e:Expr}{x:Str×List Expr}(h:v6 e=some x):∃q p,e=.Call (.Name x.1 q) x.2 [] p:=by
 refine b9 h λq hq h1=>b9 h1 λy hy h2=>io h2 λhk h3=>?_;refine xE (cz hy) ?_;intro p hp;rw[sV hq,bD h3,hp,dz hk];exact⟨_,_,rfl⟩
noncomputable def yA(e:Expr):Bool:=e.ctorIdx == 7
noncomputable def H8:Expr->Option (Expr×List Comprehension×Scope×Pos):=Au none (λJ J=>none) (λJ J J=>none) (λJ J J J=>none) (λJ J J=>none) (λJ J J J=>none) (λJ J J=>none) (λe g s p=>some (e,g,s,p)) (λJ J J J=>none) (λJ J J=>none) (λJ J J=>none) (λJ J J=>none) (λJ J J=>none)
theorem D9{e:Expr}{x:Expr×List Comprehension×Scope×Pos}(h:H8 e=some x):e=.GeneratorExp x.1 x.2.1 x.2.2.1 x.2.2.2:=
 gJ (C:=λe=>e=.GeneratorExp x.1 x.2.1 x.2.2.1 x.2.2.2) h (λJ J h=>nn h) (λJ J J h=>nn h) (λJ J J J h=>nn h) (λJ J J h=>nn h) (λJ J J J h=>nn h) (λJ J J h=>nn h) (λJ J J J h=>by rw[bD h]) (λJ J J J h=>nn h) (λJ J J h=>nn h) (λJ J J h=>nn h) (λJ J J h=>nn h) (λJ J J h=>nn h)
noncomputable def DH:Expr->Option (Expr×Operator×Expr×Pos):=Au none (λJ J=>none) (λJ J J=>none) (λJ J J J=>none) (λJ J J=>none) (λJ J J J=>none) (λJ J J=>none) (λJ J J J=>none) (λl op r p=>some (l,op,r,p)) (λJ J J=>none) (λJ J J=>none) (λJ J J=>none) (λJ J J=>none)
theorem FN{e:Expr}{x:Expr×Operator×Expr×Pos}(h:DH e=some x):e=.BinOp x.1 x.2.1 x.2.2.1 x.2.2.2:=
 gJ (C:=λe=>e=.BinOp x.1 x.2.1 x.2.2.1 x.2.2.2) h (λJ J h=>nn h) (λJ J J h=>nn h) (λJ J J J h=>nn h) (λJ J J h=>nn h) (λJ J J J h=>nn h) (λJ J J h=>nn h) (λJ J J J h=>nn h) (λJ J J J h=>by rw[bD h]) (λJ J J h=>nn h) (λJ J J h=>nn h) (λJ J J h=>nn h) (λJ J J h=>nn h)
noncomputable def AT(scope:Scope)(a b:Str):Bool:=!scope.isCoroutine && scope.names.all (λp=>p.2 != .free && p.2 != .cell) && scope.names.lookup (".0":Str) == some NameKind.local && scope.names.lookup a == some .local && scope.names.lookup b == some .local && a != b && scope.kind == .function && cC a && cC b
noncomputable def qy(a:Expr):Option (Expr×Expr):=(H8 a).bind λq=>(j8 q.2.1).bind λg=>(DH q.1).bind λb=>cW (λi j=>gd (b.2.1 == .Add && g.ifs.isEmpty && decide (g.is_async=0) && AT q.2.2.1 i j)
 (((ip g.target).bind cj).bind λxs=>gd (xs == [i,j]) ((v6 g.iter).bind λc=>gd (c.1 == ("zip":Str)) (match c.2 with
  | []=>none
  |x::r=>(j8 r).bind λy=>some (x,y))))) (dc b.1) (dc b.2.2.1)
noncomputable def xg(l:List PV):Option (List Int):=dK cb l
noncomputable def zF(a b:PV):Option PV:=cW (λl m=>cW (λ(x y:List Int)=>if x.length=y.length/\x.length<=1048576 then some (.tup ((ot (·+·) x y).map .int)) else none) (xg l) (xg m)) (qq a) (qq b)
inductive TK where
 |not (x:Expr)
 |all (es:List Expr)
 |any (es:List Expr)
 |no
 |val
noncomputable def yP(e:Expr):TK:=if e.ctorIdx == 5 then .no else Au TK.val (λJ J=>TK.val) (λJ J J=>TK.val) (λJ J J J=>TK.val) (λJ J J=>TK.val) (λJ J J J=>TK.val) (λJ J J=>TK.val) (λJ J J J=>TK.val) (λJ J J J=>TK.val) (λJ J J=>TK.val) (λop x J=>match op with
  | .Not=>.not x
  |_=>.val) (λop es J=>match op with
  | .And=>.all es
  | .Or=>.any es) (λJ J J=>TK.val) e
noncomputable def nv(sc:Sc)(σ:SE)(e:Expr):Option (Str×List Expr):=(v6 e).bind λq=>gd (bR sc σ q.1 && (q.1 == ("range":Str) ||q.1 == ("enumerate":Str) ||q.1 == ("zip":Str))) (some q)
noncomputable def DN(vs:List PV):Option (List PV):=match vs with
 | []=>none
 |a::r=>(cb a).bind λi=>match r with
  | []=>if fV i then some (ie 0 i) else none
  |b::r=>match r with
   | []=>(cb b).bind λj=>if fV i && fV j then some (ie i j) else none
   |_::_=>none
noncomputable def HO:PV->Option (List PV)
 | .lst l=>some l
 | .dct l=>some (l.map λkv=>.int kv.1)
 |_=>none
noncomputable def AS(a:PV):Option (List PV):=(HO a).bind λl=>if l.length<=1048576 then some (iE 0 l) else none
noncomputable def Hy(vs:List PV):Option (List PV):=match vs with
 | []=>none
 |a::r=>(j8 r).bind λb=>cW (λl m=>if l.length<=1048576 && m.length<=1048576 then some (lW l m) else none) (ju a) (ju b)
noncomputable def FH(f:Str)(tup:Bool)(vs:List PV):Option (List PV):=
 if f == ("range":Str) then DN vs else gd tup (if f == ("enumerate":Str) then(j8 vs).bind AS else Hy vs)
mutual
noncomputable def ev(o:cS):Nat->Sc->SE->Expr->Option PV
 |0,_,_,_=>none
 |n+1,sc,σ,e=>match e with
  | .Constant c _ _=>qW c
  | .Name x _=>gd (cC x) (Fa o sc σ x)
  | .BinOp l op r _=>cW (jW op) (evP o n sc σ l) (ev o n sc σ r)
  | .UnaryOp op x _=>(ev o n sc σ x).bind (Lq op)
  | .IfExp t a b _=>(evT o n sc σ t).bind λc=>if c then ev o n sc σ a else ev o n sc σ b
  | .List es _=>(dK (ev o n sc σ) es).bind rn
  | .Tuple es _ _=>(dK (ev o n sc σ) es).bind EI
  | .Dict ks vs _=>gd (decide (ks.length=vs.length) && decide (ks.length<=8)) (cW (λa b=>(cD (a.zip b) []).map .dct) (dK (Io (ev o n sc σ)) ks) (dK (ev o n sc σ) vs))
  | .ListComp elt gens scope _=>gd (fO sc scope) (match gens with
    | []=>none
    |g::gs=>(evI o n sc σ g.target g.iter).bind λitems=>(lJ o n scope.names (jF scope σ) g items gs elt none).bind λrs=>rn (rs.map (·.2)))
  | .DictComp k v gens scope _=>gd (fO sc scope) ((j8 gens).bind λg=>
    (evI o n sc σ g.target g.iter).bind λitems=>(lJ o n scope.names (jF scope σ) g items [] v (some k)).bind λrs=>if rs.length<=1048576 then(cD rs []).map .dct else none)
  | .Compare l ops rs _=>cW (λop r=>(ev o n sc σ l).bind λa=>GO (d6 o sc σ r) n op a (evP o n sc σ r) (ev o n sc σ r)) (j8 ops) (j8 rs)
  | .Call f args ks cp=>gd ks.isEmpty (match nX f with
    |some q=>gd (dw q.1 && q.2.2.endLine == cp.line && decide (args.length<=8)) ((ev o n sc σ q.1).bind λb=>(dK (ev o n sc σ) args).bind (Aq o q.2.1 b))
    |none=>(lM sc σ f).bind λg=>match j8 args with
     |some a=>match qy a with
      |some q=>gd (g == ("tuple":Str) && ds sc && bR sc σ "zip") (cW zF (ev o n sc σ q.1) (ev o n sc σ q.2))
      |none=>(evP o n sc σ a).bind λv=>(o.bi g [v]).or ((ev o n sc σ a).bind λv=>o.fn g [v])
     |none=>(dK (ev o n sc σ) args).bind λvs=>(o.bi g vs).or (o.fn g vs))
  | .Attribute ob a _=>match lM sc σ ob with
    |some g=>o.cattr g a
    |none=>gd (dw ob) ((evP o n sc σ ob).bind (J3 o a))
  | .Subscript c i _=>match mQ i with
    |some q=>gd q.2.2 ((evP o n sc σ c).bind λb=>cW (jA b) (evO o n sc σ q.1) (evO o n sc σ q.2.1))
    |none=>match d6 o sc σ c with
     |some t=>(ev o n sc σ i).bind λk=>(kB k).bind λs=>(t.lookup s).map .int
     |none=>cW item (evP o n sc σ c) (ev o n sc σ i)
  |_=>none
noncomputable def evP(o:cS):Nat->Sc->SE->Expr->Option PV
 |0,_,_,_=>none
 |n+1,sc,σ,e=>match dc e with
  |some x=>(match σ.lookup x with
    |some q=>gd (cC x) (some q.2)
    |none=>ev o n sc σ e)
  |none=>ev o n sc σ e
noncomputable def evO(o:cS):Nat->Sc->SE->Option Expr->Option (Option Int)
 |0,_,_,_=>none
 |n+1,sc,σ,e=>match e with
  |none=>some none
  |some e=>(ev o n sc σ e).bind λv=>(cb v).map some
noncomputable def evT(o:cS):Nat->Sc->SE->Expr->Option Bool
 |0,_,_,_=>none
 |n+1,sc,σ,e=>match yP e with
  | .not x=>(evT o n sc σ x).map (!·)
  | .all es=>evAnd o n sc σ es
  | .any es=>evOr o n sc σ es
  | .no=>none
  | .val=>(ev o n sc σ e).bind my
noncomputable def evAnd(o:cS):Nat->Sc->SE->List Expr->Option Bool
 |0,_,_,_=>none
 |n+1,sc,σ,es=>match es with
  | []=>some true
  |e::r=>(evT o n sc σ e).bind λb=>if b then evAnd o n sc σ r else some false
noncomputable def evOr(o:cS):Nat->Sc->SE->List Expr->Option Bool
 |0,_,_,_=>none
 |n+1,sc,σ,es=>match es with
  | []=>some false
  |e::r=>(evT o n sc σ e).bind λb=>if b then some true else evOr o n sc σ r
noncomputable def evI(o:cS):Nat->Sc->SE->Expr->Expr->Option (List PV)
 |0,_,_,_,_=>none
 |n+1,sc,σ,t,e=>gd (!yA e) (match nv sc σ e with
  |some q=>(dK (ev o n sc σ) q.2).bind (FH q.1 (iA t))
  |none=>(ev o n sc σ e).bind (ms t))
noncomputable def lJ(o:cS):Nat->Sc->SE->Comprehension->List PV->List Comprehension->Expr->Option Expr->Option (List (PV×PV))
 |0,_,_,_,_,_,_,_=>none
 |n+1,sc,σ,g,items,gs,elt,key=>gd (decide (g.is_async=0) && gR g.target σ) (match items with
  | []=>some []
  |i::is=>(bindT sc g.target i σ).bind λaL=>(evAnd o n sc aL g.ifs).bind λb=>
    cW (λrs rest=>some (rs++rest)) (if b then(match gs with
      | []=>cW (λv kv=>some [(kv,v)]) (ev o n sc aL elt) (match key with
       |none=>some .none
       |some k=>ev o n sc aL k)
      |g'::gs'=>(evI o n sc aL g'.target g'.iter).bind λitems'=>lJ o n sc aL g' items' gs' elt key) else some [])
     (lJ o n sc σ g is gs elt key))
end
inductive Fl where
 |next
 |brk
 |ret (v:PV)
 deriving Inhabited
noncomputable def pe(e:Expr):Bool:=e.ctorIdx == 24 ||e.ctorIdx == 6 ||e.ctorIdx == 8 ||e.ctorIdx == 10
noncomputable def Jj:Expr->Bool:=Au false (λJ J=>false) (λJ J J=>false) (λJ J J J=>false) (λJ J J=>false) (λJ J J J=>false) (λJ J J=>false) (λJ J J J=>false) (λJ op J J=>op == .Add) (λJ J J=>false) (λJ J J=>false) (λJ J J=>false) (λJ J J=>false)
noncomputable def jt(e:Expr):Bool:=Jj e ||pe e
noncomputable def gM:PV->Bool
 | .lst _=>true
 | .dct _=>true
 |_=>false
noncomputable def J0(σ:SE):SE:=σ.map λp=>(p.1,(false,p.2.2))
noncomputable def jc(W:List Str)(sc:Sc):List Str->List (PV)->SE->Option SE
 | [],vs,σ=>gd vs.isEmpty (some σ)
 |x::xs,vs,σ=>match vs with
  | []=>none
  |v::vs=>if bh sc x && (!(W.contains x) ||gM v) then jc W sc xs vs (SE.put σ x (W.contains x,v)) else none
noncomputable def xD(W:List Str):List Str->List Expr->Bool
 | [],es=>es.isEmpty
 |x::xs,es=>match es with
  | []=>false
  |e::es=>(!(W.contains x) ||jt e) && xD W xs es
noncomputable def yY(l:List PV)(k:Int)(v:PV):Option (List PV):=
 if l.length<=1048576 then(eF k l.length).map λi=>l.set i v else none
noncomputable def kZ(c i v:PV):Option PV:=(cb i).bind λk=>match c with
 | .lst l=>if 0<=k then(yY l k v).map .lst else none
 | .dct l=>if l.length<=1048576 then some (.dct (jD l k v)) else none
 |_=>none
noncomputable def rR:List (Str×PV)->Str->PV->List (Str×PV)
 | [],a,v=>[(a,v)]
 |(k,u)::r,a,v=>if k == a then(k,v)::r else(k,u)::rR r a v
noncomputable def Fp(l:List Str):Bool:=decide l.Nodup
noncomputable def qC(σ:SE)(x:Str):Option PV:=(σ.lookup x).bind λq=>gd (q.1 && cC x) (some q.2)
noncomputable def pC(e:Expr):Option (Str×Expr):=(Ib e).bind λq=>(dc q.1).map λx=>(x,q.2.1)
theorem ud{e:Expr}{x:Str×Expr}(h:pC e=some x):∃q p,e=.Subscript (.Name x.1 q) x.2 p:=by
 refine b9 h λq hq h1=>?_;rw[E9 hq];refine md (C:=λx:Str×Expr=>∃p r,Expr.Subscript q.1 q.2.1 q.2.2=.Subscript (.Name x.1 p) x.2 r) h1 λy hy=>?_;refine xE (cz hy) ?_;intro p hp;rw[hp];exact⟨_,_,rfl⟩
noncomputable def qL(e:Expr):Option (Str×Str):=(nX e).bind λq=>(dc q.1).map λx=>(x,q.2.1)
theorem zT{e:Expr}{x:Str×Str}(h:qL e=some x):∃q p,e=.Attribute (.Name x.1 q) x.2 p:=by
 refine b9 h λq hq h1=>?_;rw[p7 hq];refine md (C:=λx:Str×Str=>∃p r,Expr.Attribute q.1 q.2.1 q.2.2=.Attribute (.Name x.1 p) x.2 r) h1 λy hy=>?_;refine xE (cz hy) ?_;intro p hp;rw[hp];exact⟨_,_,rfl⟩
noncomputable def Dr(e:Expr):Option PV:=(qI e).bind λq=>qW q.1
noncomputable def EH(e:Expr):Option (Expr×Str×Expr):=(qY e).bind λq=>cW (λr a=>gd (q.2.2.1.isEmpty && r.2.2.endLine == q.2.2.2.line) (some (r.1,r.2.1,a))) (nX q.1) (j8 q.2.1)
noncomputable def IU(W:List Str)(E:Expr->Option PV)(sc:Sc)(σ:SE)(x:Str)(v:Expr):Option SE:=
 gd (!(W.contains x && !(jt v))) ((E v).bind λp=>jc W sc [x] [p] σ)
noncomputable def GG(W:List Str)(E:Expr->Option PV)(sc:Sc)(σ:SE)(ts:List Expr)(v:Expr):Option SE:=(cj ts).bind λxs=>match ip v with
 |some vs=>gd (decide (ts.length=vs.length) && Fp xs && xD W xs vs && (vs.length == 2 ||vs.length == 3) && !(vs.all (constantsAlone 8))) ((dK E vs).bind λps=>jc W sc xs ps σ)
 |none=>gd (!(xs.any W.contains)) ((E v).bind λu=>(qq u).bind λps=>if xs.length=ps.length then dq sc xs ps σ else none)
noncomputable def E5(E:Expr->Option PV)(σ:SE)(x:Str)(i v:Expr):Option SE:=(qC σ x).bind λc=>cW (λp k=>(kZ c k p).map λc'=>SE.put σ x (true,c')) (E v) (E i)
noncomputable def DG(o:cS)(E:Expr->Option PV)(σ:SE)(x a:Str)(v:Expr):Option SE:=(qC σ x).bind λc=>(q0 c).bind λcf=>gd (o.fld cf.1 a && decide (cf.2.length<=100)) ((E v).map λp=>SE.put σ x (true,.obj cf.1 (rR cf.2 a p)))
noncomputable def Iw(o:cS)(W:List Str)(E:Expr->Option PV)(sc:Sc)(σ:SE)(t v:Expr):Option SE:=match dc t with
 |some x=>IU W E sc σ x v
 |none=>match ip t with
  |some ts=>GG W E sc σ ts v
  |none=>match pC t with
   |some q=>E5 E σ q.1 q.2 v
   |none=>(qL t).bind λq=>DG o E σ q.1 q.2 v
noncomputable def L2(W:List Str)(sc:Sc)(σ:SE)(ts:List Expr)(v:Expr):Option SE:=(cj ts).bind λxs=>gd (decide (xs.length=3) && !(xs.any W.contains)) ((Dr v).bind λp=>dq sc xs [p,p,p] σ)
noncomputable def LX(o:cS)(W:List Str)(E:Expr->Option PV)(sc:Sc)(σ:SE)(ts:List Expr)(v:Expr):Option SE:=match j8 ts with
 |some t=>Iw o W E sc σ t v
 |none=>L2 W sc σ ts v
noncomputable def IB(E:Expr->Option PV)(sc:Sc)(σ:SE)(x:Str)(v:Expr):Option SE:=(σ.lookup x).bind λq=>gd (!q.1) (cW (λa b=>dq sc [x] [.int (a+b)] σ) (cb q.2) ((E v).bind cb))
noncomputable def IV(E:Expr->Option PV)(σ:SE)(x:Str)(i v:Expr):Option SE:=(qC σ x).bind λc=>(E i).bind λk=>cW (λa b=>(kZ c k (.int (a+b))).map λc'=>SE.put σ x (true,c')) ((item c k).bind cb) ((E v).bind cb)
noncomputable def MG(E:Expr->Option PV)(sc:Sc)(σ:SE)(t:Expr)(op:Operator)(v:Expr):Option SE:=gd (op == .Add) (match dc t with
 |some x=>IB E sc σ x v
 |none=>(pC t).bind λq=>IV E σ q.1 q.2 v)
noncomputable def Es(E:Expr->Option PV)(σ:SE)(e:Expr):Option SE:=(EH e).bind λq=>(dc q.1).bind λx=>(qC σ x).bind λc=>(ju c).bind λl=>
 gd (q.2.1 == ("append":Str) && decide (l.length<=1048576)) ((E q.2.2).map λp=>SE.put σ x (true,.lst (l++[p])))
noncomputable def lH(σ:SE):Fl×SE:=(.next,σ)
mutual
noncomputable def ex(o:cS)(W:List Str):Nat->Sc->SE->Stmt->Option (Fl×SE)
 |0,_,_,_=>none
 |n+1,sc,σ,s=>match s with
  | .Assign ts v _=>(LX o W (ev o n sc σ) sc σ ts v).map lH
  | .AugAssign t op v _=>(MG (ev o n sc σ) sc σ t op v).map lH
  | .Expr e _=>(Es (ev o n sc σ) σ e).map lH
  | .If t b e _=>(evT o n sc σ t).bind λc=>if c then exs o W n sc σ b else exs o W n sc σ e
  | .For t it body els _=>gd els.isEmpty ((evI o n sc σ t it).bind λitems=>exF o W n sc σ t items body)
  | .Return e _=>e.bind λe=>(ev o n sc (J0 σ) e).map λv=>(.ret v,[])
  | .Break _=>some (.brk,σ)
  |_=>none
noncomputable def exs(o:cS)(W:List Str):Nat->Sc->SE->List Stmt->Option (Fl×SE)
 |0,_,_,_=>none
 |n+1,sc,σ,ss=>match ss with
  | []=>some (.next,σ)
  |s::r=>(ex o W n sc σ s).bind λq=>match q.1 with
   | .next=>exs o W n sc q.2 r
   | .brk=>some q
   | .ret _=>some q
noncomputable def exF(o:cS)(W:List Str):Nat->Sc->SE->Expr->List PV->List Stmt->Option (Fl×SE)
 |0,_,_,_,_,_=>none
 |n+1,sc,σ,t,items,body=>match items with
  | []=>some (.next,σ)
  |i::is=>(bindT sc t i σ).bind λaL=>(exs o W n sc aL body).bind λq=>match q.1 with
   | .next=>exF o W n sc q.2 t is body
   | .brk=>some (.next,q.2)
   | .ret _=>some q
end
noncomputable def zR(params:List Str)(scope:Scope)(args:List PV):Bool:=decide (params.length=args.length) && Fp params && scope.kind == .function && !scope.isGenerator && !scope.isCoroutine && decide (scope.names.map (·.1)).Nodup &&
   scope.names.all (λp=>p.2 == .local ||p.2 == .cell ||p.2 == .globalImplicit)
noncomputable def Lx(q:Fl×SE):Option PV:=match q.1 with
 | .ret v=>some v
 | .next=>some .none
 | .brk=>none
noncomputable def eE(o:cS)(W:List Str)(n:Nat)(params:List Str)(scope:Scope)(body:List Stmt)(args:List PV):Option PV:=
 gd (zR params scope args) ((dq scope.names params args []).bind λσ=>(exs o W n scope.names σ body).bind Lx)
end Mine
end
section
namespace Mine
section
abbrev GX.Rep(G:GX ag w):=Mine.Rep ag w G.cl
abbrev GX.RepL(G:GX ag w):=Mine.RepL ag w G.cl
abbrev GX.RepD(G:GX ag w):=Mine.RepD ag w G.cl
abbrev GX.RepF(G:GX ag w):=Mine.RepF ag w G.cl
structure GX.In(G:GX ag w)(h:Heap):Prop where
 old:∀a o,a≠PT->G.base.get? a=some o->h.get? a=some o
 tab:ki h
structure cR(U:Addr->Prop)(s s':Shared):Prop where
 heap:∀b o,¬U b->b≠PT->s.heap.get? b=some o->s'.heap.get? b=some o
 os:s'.os=s.os
 gens:AllBare s.gens->AllBare s'.gens
 tab:ki s.heap->ki s'.heap
abbrev Kp:=cR λJ=>False
theorem ki.keep{h h':Heap}(k:∀o,h.get? PT=some o->h'.get? PT=some o)(x:ki h):ki h':=let⟨m,t,e⟩:=x;⟨m,t,k _ e⟩
theorem cR.refl(U:Addr->Prop)(s:Shared):cR U s s:=⟨λJ J J J e=>e,rfl,id,id⟩
theorem cR.trans{U:Addr->Prop}{s s' s'':Shared}(x:cR U s s')(y:cR U s' s''):cR U s s'':=⟨λb o n p e=>y.heap b o n p (x.heap b o n p e),y.os.trans x.os,λg=>y.gens (x.gens g),λg=>y.tab (x.tab g)⟩
theorem cR.mono{U U':Addr->Prop}{s s':Shared}(x:cR U s s')(m:∀a,U a->U' a):cR U' s s':=⟨λb o n p e=>x.heap b o (λq=>n (m b q)) p e,x.os,x.gens,x.tab⟩
theorem Kp.keep{s s':Shared}(x:Kp s s'):∀b o,b≠PT->s.heap.get? b=some o->s'.heap.get? b=some o:=λb o p e=>x.heap b o id p e
theorem Kp.hk{s s':Shared}(x:Kp s s'){V:Addr->Prop}(pt:V PT:=by first|assumption|exact eu.pt ‹_› |exact bX.pt ‹_› |exact cX.pt ‹_› |exact cZ.pt ‹_›):bI V s.heap s'.heap:=λb o n e=>x.heap b o id (λq=>n (q▸pt)) e
theorem cR.hkU{U V:Addr->Prop}{s s':Shared}(k:cR U s s')(hx:∀b,U b->V b)(pt:V PT):bI V s.heap s'.heap:=λb o n e=>k.heap b o (λm=>n (hx b m)) (λq=>n (q▸pt)) e
theorem Kp.toU{s s':Shared}(x:Kp s s')(U:Addr->Prop):cR U s s':=x.mono λJ f=>f.elim
theorem Kp.of{s:Shared}{h':Heap}{tk:Nat}(k:∀b o,s.heap.get? b=some o->h'.get? b=some o):Kp s { s with heap:=h',toks:=tk }:=⟨λb o J J e=>k b o e,rfl,id,.keep λJ e=>k _ _ e⟩
theorem Kp.toks{s:Shared}{tk:Nat}:Kp s { s with toks:=tk }:=⟨λJ J J J e=>e,rfl,id,id⟩
theorem cR.of{U:Addr->Prop}{s:Shared}{h':Heap}{tk:Nat}(np:¬U PT)(k:∀b o,¬U b->s.heap.get? b=some o->h'.get? b=some o):cR U s { s with heap:=h',toks:=tk }:=⟨λb o n J e=>k b o n e,rfl,id,.keep λJ e=>k _ _ np e⟩
theorem GX.In.kp{s s':Shared}(i:G.In s.heap)(k:Kp s s'):G.In s'.heap:=⟨λa o p e=>k.keep a o p (i.old a o p e),k.tab i.tab⟩
theorem oQ{a:Addr}{o:Obj}(e:G.base.get? a=some o)(h:∀ps,o.data≠.fields ps):a≠PT:=λq=>h #[] (by rw[q,G.tab.2]at e;cases e;rfl)
theorem CM{a:Addr}{m:Str->Option Value}(x:G.base.Ns a m):a≠PT:=let⟨o,es,n,e,d,_⟩:=x;oQ e λps q=>nomatch d.symm.trans q
theorem mX:G.base.get? PT≠none:=λq=>nomatch G.tab.2.symm.trans q
theorem j6{s s':Shared}{V:Addr->Prop}{p:PV}{v:Value}(k:Kp s s')(r:G.Rep s.heap V p v)(pt:V PT:=by first|assumption|exact eu.pt ‹_› |exact bX.pt ‹_› |exact cX.pt ‹_› |exact cZ.pt ‹_›):G.Rep s'.heap V p v:=
 Rep.keep k.hk (λJ J x=>x) r
theorem qQ{s s':Shared}{V:Addr->Prop}{p:List PV}{v:List Value}(k:Kp s s')(r:G.RepL s.heap V p v)(pt:V PT:=by first|assumption|exact eu.pt ‹_› |exact bX.pt ‹_› |exact cX.pt ‹_› |exact cZ.pt ‹_›):G.RepL s'.heap V p v:=
 RepL.keep k.hk (λJ J x=>x) r
theorem ki.some{h:Heap}(x:ki h):h.get? PT≠none:=let⟨_,_,e⟩:=x;λq=>nomatch e.symm.trans q
theorem GX.In.none{h:Heap}(i:G.In h){a:Addr}(n:h.get? a=none):G.base.get? a=none:=by
 by_cases q:a=PT
 ·exact absurd (q▸n) i.tab.some
 ·cases e:G.base.get? a with
  |none=>rfl
  |some o=>rw[i.old a o q e]at n;cases n
structure eu(V:Addr->Prop)(h:Heap):Prop where
 ex:∀a,V a->a≠PT->h.get? a≠none
 tab:ki h
 pt:V PT
theorem eu.some{h:Heap}(l:eu V h){a:Addr}(v:V a):h.get? a≠none:=by
 by_cases q:a=PT
 ·rw[q];exact l.tab.some
 ·exact l.ex a v q
theorem eu.fresh{h:Heap}(l:eu V h):¬V h.objs.size:=λx=>l.some x (by
 cases e:h.get? h.objs.size with
 |none=>rfl
 |some o=>exact absurd (aN e) (Nat.lt_irrefl _))
theorem Kp.none{s s':Shared}(x:Kp s s'){a:Addr}(p:a≠PT)(n:s'.heap.get? a=none):s.heap.get? a=none:=by
 cases e:s.heap.get? a with
 |none=>rfl
 |some o=>rw[x.keep a o p e]at n;cases n
theorem Kp.non{s s':Shared}(x:Kp s s'){a:Addr}(n:s'.heap.get? a=Option.none)(t:ki s.heap:=by first|assumption|exact eu.tab (by assumption)|exact eu.tab (bX.low (by assumption))|exact eu.tab (bX.low (cX.ev (by assumption)))|exact eu.tab (bX.low (cX.ev (cZ.st (by assumption))))):s.heap.get? a=Option.none:=by
 by_cases p:a=PT
 ·exact absurd (p▸n) (x.tab t).some
 ·exact x.none p n
theorem ki.npt{h:Heap}(t:ki h){a:Addr}{o:Obj}(e:h.get? a=Option.some o)(d:∀ps,o.data≠.fields ps):a≠PT:=λq=>by
 obtain⟨m,_,z⟩:=t;rw[q,z]at e;cases e;exact d _ rfl
theorem eu.kp{s s':Shared}(l:eu V s.heap)(k:Kp s s'):eu V s'.heap:=⟨λa v p n=>l.ex a v p (k.none p n),k.tab l.tab,l.pt⟩
noncomputable def jN(G:GX ag w)(h:Heap)(V H:Addr->Prop):PV->Value->Prop
 | .lst l,v=>∃a,v=.ref a/\H a/\∃vs:List Value,h.PlainList a vs.toArray/\G.RepL h V l vs
 | .dct l,v=>∃a,v=.ref a/\H a/\(a == sysModules)=false/\∃kvs,h.DictOf (intKind ag w) a kvs/\G.RepD h V l kvs
 | .obj c fs,v=>∃a C d es ep,v=.ref a/\H a/\G.cl c=some C/\H d/\h.get? a=some { cls:=.ref C,dict:=some d,data:=.plain } /\
   h.get? d=some { cls:=.type "dict",data:=.dict es ep }/\G.RepF h V fs es.toList
 |_,_=>False
theorem jN.keep{h h':Heap}{V V' H:Addr->Prop}(k:bI V h h')(kH:∀a o,H a->h.get? a=some o->h'.get? a=some o)(m:∀a,h.get? a≠none->V' a->V a){p:PV}{v:Value}(x:jN G h V H p v):jN G h' V' H p v:=by
 cases p with
 |lst l=>
  refine bx x ?_;clear x;rintro a e n vs ⟨q,t⟩ r;exact⟨a,e,n,vs,⟨q,kH _ _ n t⟩,RepL.keep k m r⟩
 |dct l=>
  refine cK x ?_;clear x;rintro a e n z vs ⟨o,es,ep,t,q⟩ r;exact⟨a,e,n,z,vs,⟨o,es,ep,kH _ _ n t,q⟩,RepD.keep k m r⟩
 |obj c fs=>
  refine dp x ?_;clear x;intro a C d es ep e n q nd g gd r;exact⟨a,C,d,es,ep,e,n,q,nd,kH _ _ n g,kH _ _ nd gd,RepF.keep k m r⟩
 |_=>exact x.elim
def dD(env:Env)(h:Heap)(x:Str)(v:Value):Prop:=
 (env.kindOf x=some .local/\∃m,h.Ns env.locals m/\m x=some v) \/
 ((env.kindOf x=some .cell\/env.kindOf x=some .free)/\∃c,env.cells.lookup x=some c/\h.IsCell c (some v))
def fm(env:Env)(H:Addr->Prop)(a:Addr):Prop:=a=env.locals\/(∃x,env.cells.lookup x=some a)\/H a
theorem fm.own{env:Env}{H:Addr->Prop}{a:Addr}(h:H a):fm env H a:=.inr (.inr h)
theorem fm.loc{env:Env}{H:Addr->Prop}:fm env H env.locals:=.inl rfl
theorem fm.cell{env:Env}{H:Addr->Prop}{a:Addr}{x:Str}(h:env.cells.lookup x=some a):fm env H a:=.inr (.inl ⟨x,h⟩)
theorem dD.keep{env:Env}{H:Addr->Prop}{h h':Heap}{x:Str}{v:Value}(kH:∀a o,fm env H a->h.get? a=some o->h'.get? a=some o)(y:dD env h x v):dD env h' x v:=by
 rcases y with⟨a,m,hn,e⟩|⟨a,c,hc,o,ho,hd⟩
 ·exact .inl ⟨a,m,hn.at' λo=>kH _ o .loc,e⟩
 ·exact .inr ⟨a,c,hc,o,kH _ _ (.cell hc) ho,hd⟩
def jq(G:GX ag w)(h:Heap)(V H:Addr->Prop)(b:Bool)(p:PV)(v:Value):Prop:=if b then jN G h V H p v else G.Rep h V p v
structure bX(G:GX ag w)(env:Env)(sc:Sc)(σ:SE)(V H:Addr->Prop)(s:Shared):Prop where
 base:G.In s.heap
 kind:env.scope.kind=.function
 gl:env.globals=mainGlobals
 bi:env.builtins=builtinsNs
 ns:∃m,s.heap.Ns env.locals m
 glob:∀x,sc.lookup x=some .globalImplicit->env.kindOf x=some .globalImplicit
 loc:∀x,sc.lookup x=some .local->env.kindOf x=some .local
 cel:∀x,(sc.lookup x=some .cell\/sc.lookup x=some .free)->(env.kindOf x=some .cell\/env.kindOf x=some .free)/\∃c,env.cells.lookup x=some c/\∃v,s.heap.IsCell c v
 vars:∀x b p,σ.lookup x=some (b,p)->∃v,dD env s.heap x v/\jq G s.heap V H b p v
 hnb:∀a,fm env H a->G.base.get? a=none
 hex:∀a,fm env H a->s.heap.get? a≠none
 low:eu V s.heap
 cd:ds sc=true->env.code=.ref 55
theorem bX.pt{env:Env}{sc:Sc}{σ:SE}{V H:Addr->Prop}{s:Shared}(E:bX G env sc σ V H s):V PT:=E.low.pt
theorem bX.change{env:Env}{sc:Sc}{σ:SE}{V V' H:Addr->Prop}{s s':Shared}(E:bX G env sc σ V H s)(k:bI V s.heap s'.heap)(kH:∀a o,fm env H a->s.heap.get? a=some o->s'.heap.get? a=some o)
  (kb:G.In s'.heap) (m:∀a,s.heap.get? a≠none->V' a->V a) (lo:eu V' s'.heap):bX G env sc σ V' H s' where
 base:=kb
 kind:=E.kind
 gl:=E.gl
 bi:=E.bi
 ns:=let⟨m,h⟩:=E.ns;⟨m,h.at' λo=>kH _ o .loc⟩
 glob:=E.glob
 loc:=E.loc
 cel:=λx e=>let⟨a,c,hc,v,o,ho,hd⟩:=E.cel x e;⟨a,c,hc,v,o,kH _ _ (.cell hc) ho,hd⟩
 vars:=λx b p e=>by
  refine bC (E.vars x b p e) ?_;intro v hv hs;refine⟨v,hv.keep kH,?_⟩
  cases b with
  |true=>exact jN.keep k (λa o h=>kH a o (.own h)) m hs
  |false=>exact Rep.keep k m hs
 hnb:=E.hnb
 hex:=λa ha e=>by
  cases q:s.heap.get? a with
  |none=>exact E.hex a ha q
  |some o=>rw[kH a o ha q]at e;cases e
 low:=lo
 cd:=E.cd
theorem bX.npt{env:Env}{sc:Sc}{σ:SE}{V H:Addr->Prop}{s:Shared}(E:bX G env sc σ V H s){a:Addr}(h:fm env H a):a≠PT:=λq=>mX (q▸E.hnb a h)
theorem bX.kp{env:Env}{sc:Sc}{σ:SE}{V H:Addr->Prop}{s s':Shared}(E:bX G env sc σ V H s)(k:Kp s s'):bX G env sc σ V H s':=
 E.change (k.hk E.low.pt) (λa o h e=>k.keep a o (E.npt h) e) (E.base.kp k) (λJ J x=>x) (E.low.kp k)
def br(A:Around)(n:Nat):Prop:=A.handled=none/\A.depth+n < 1000/\A.units+10 * n < 9900
theorem br.le{A:Around}{n m:Nat}(r:br A n)(h:m<=n):br A m:=⟨r.1,by have:=r.2.1;exact(pn [_,_,_] 0x1D03E829A021D03E829A120D10) h this,by have:=r.2.2;exact(pn [_,_,_] 0x1D26AC29A4C0A821D26AC29A4C1A820D10) h this⟩
theorem br.deeper{A:Around}{n:Nat}{env:Env}(r:br A (n+1)):br (A.deeper env) n:=⟨r.1,by have:=r.2.1;show A.depth+1+n < 1000;exact(pn [_,_] 0x1D03E829A1A1801D03E829AA1810) this,by have:=r.2.2;show A.units+3+10 * n < 9900;exact(pn [_,_] 0x1D26AC29A4C1A8A3801D26AC29A4CA181A80) this⟩
theorem br.depth{A:Around}{n:Nat}(r:br A n):A.depth < recursionLimit:=by have:=r.2.1;unfold recursionLimit;exact(pn [_,_] 0x1D03E82901D03E829A10) this
def cq(G:GX ag w)(x:Str)(v:Value):Prop:=G.mg x=some v\/(G.mg x=none/\G.mb x=some v)
def ij(G:GX ag w)(f:Value):Prop:=∀h,G.In h->∃k,(k=Keeper.frame\/k=Keeper.machine\/k=Keeper.boundFrame)/\Looks (model ag w) h (keeperOf f) k
abbrev EF:Value->Shared->Prop:=λJ J=>False
noncomputable def ca(G:GX ag w)(V:Addr->Prop)(s:Shared)(p:PV):Value->Shared->Prop:=λv s'=>G.Rep s'.heap V p v/\Kp s s'
def ej(G:GX ag w)(h:Heap)(V:Addr->Prop)(p:PV)(v:Value):Prop:=G.Rep h V p v\/jN G h V (λa=>a≠PT) p v
noncomputable def uE(G:GX ag w)(h:Heap)(V:Addr->Prop):List PV->List Value->Prop
 | [],[]=>True
 |p::ps,v::vs=>ej G h V p v/\uE G h V ps vs
 |_,_=>False
def lh(G:GX ag w)(r:Nat)(f:Value)(args:List PV)(p:PV):Prop:=
 ∀(A:Around) (s:Shared) (V:Addr->Prop) (vs:List Value),br A r->G.In s.heap->eu V s.heap->G.RepL s.heap V args vs->wpAny (model ag w) A (call f vs) (ca G V s p) EF s
def jX(G:GX ag w)(r:Nat)(f:Value)(args:List PV)(p:PV):Prop:=
 ∀(A:Around) (s:Shared) (V:Addr->Prop) (vs:List Value),br A r->G.In s.heap->eu V s.heap->uE G s.heap V args vs->wpAny (model ag w) A (call f vs) (ca G V s p) EF s
def Jr:Prop:=∃bm ob,G.mg "__builtins__"=some (.ref bm)/\bm≠builtinsNs/\G.base.get? bm=some ob/\ob.cls=.type "module"/\ob.dict=some builtinsNs/\ob.data=.plain
structure gF(G:GX ag w)(o:cS)(r:Nat):Prop where
 fn:∀f args p,o.fn f args=some p->∃fv,cq G f fv/\ij G fv/\lh G r fv args p
 bi:∀f args p,o.bi f args=some p->∃fv,cq G f fv/\ij G fv/\jX G r fv args p
 mth:∀c m args p,o.mth c m args=some p->∃C f,G.cl c=some C/\ij G (.ref f)/\lh G r (.ref f) args p /\
  ∀(A:Around) (s:Shared) (a d:Addr) (es:Array DictEntry) (ep:Nat) (pl:Sem Bool) (Q:Value×List Value->Shared->Prop) (E:Value->Shared->Prop),G.In s.heap ->
   s.heap.get? a=some { cls:=.ref C,dict:=some d,data:=.plain }->s.heap.get? d=some { cls:=.type "dict",data:=.dict es ep } ->
   (es.toList.find? (·.key.isStr m)=none)->(es.toList.any (·.refKey)=false)->Q (.ref f,[.ref a]) s->wpAny (model ag w) A (getMethod (.ref a) m pl) Q E s
 fld:∀c a,o.fld c a=true->∃C,G.cl c=some C /\
  ∀(A:Around) (s:Shared) (x d:Addr) (es:Array DictEntry) (ep:Nat) (e:DictEntry) (Q:Value->Shared->Prop) (E:Value->Shared->Prop),G.In s.heap ->
   s.heap.get? x=some { cls:=.ref C,dict:=some d,data:=.plain }->s.heap.get? d=some { cls:=.type "dict",data:=.dict es ep } ->
   es.toList.find? (·.key.isStr a)=some e->handedIn e.val=true->(∀tk,Q e.val { s with toks:=tk })->wpAny (model ag w) A (getAttr (.ref x) a true) Q E s
 cattr:∀g a p,o.cattr g a=some p->∃C,cq G g C/\∀(A:Around) (s:Shared) (V:Addr->Prop),G.In s.heap->wpAny (model ag w) A (getAttr C a true) (ca G V s p) EF s
 gval:∀x p,o.gval x=some p->∃v,cq G x v/\∀h V,G.Rep h V p v
 tab:∀x t,o.tab x=some t->∃d,cq G x (.ref d)/\(d == sysModules)=false/\∃kvs,G.base.DictOf (strKind ag w) d kvs /\
  ∀y,match t.lookup y with|some i=>∃tk,valueAt kvs y=some (.int i tk)|none=>valueAt kvs y=none
 gen:cq G ("tuple":Str) (.type "tuple")/\cq G ("zip":Str) (.type "zip")/\Jr
end
end Mine
end
section
namespace Mine
section
variable{A:Around}{s:Shared}{V:Addr->Prop}
theorem bn:sizeLine=16777216:=by decide +kernel
theorem RepL.ind{cl:cF}{h:Heap}{C:List PV->List Value->Prop}(h0:C [] [])(h1:∀p v ps vs,Rep ag w cl h V p v->RepL ag w cl h V ps vs->C ps vs->C (p::ps) (v::vs)):∀{ps:List PV}{vs:List Value},RepL ag w cl h V ps vs->C ps vs:=λ{ps}=>by
 induction ps with
 |nil=>intro vs x;cases vs with
  |nil=>exact h0
  |cons v vs=>exact False.elim x
 |cons p ps ih=>intro vs x;cases vs with
  |nil=>exact False.elim x
  |cons v vs=>exact h1 _ _ _ _ x.1 x.2 (ih x.2)
theorem RepL.cons{cl:cF}{h:Heap}{p:PV}{v:Value}{ps:List PV}{vs:List Value}(r:Rep ag w cl h V p v)(x:RepL ag w cl h V ps vs):RepL ag w cl h V (p::ps) (v::vs):=⟨r,x⟩
theorem RepL.length{cl:cF}{h:Heap}{ps:List PV}{vs:List Value}(x:RepL ag w cl h V ps vs):ps.length=vs.length:=
 RepL.ind (C:=λps vs=>ps.length=vs.length) rfl (λJ J J J J J e=>congrArg gk e) x
theorem RepL.append{cl:cF}{h:Heap}{ps qs:List PV}{vs us:List Value}(x:RepL ag w cl h V ps vs)(y:RepL ag w cl h V qs us):RepL ag w cl h V (ps++qs) (vs++us):=
 RepL.ind (C:=λps vs=>RepL ag w cl h V (ps++qs) (vs++us)) y (λJ J J J r J e=>RepL.cons r e) x
theorem RepL.get{cl:cF}{h:Heap}{ps:List PV}{vs:List Value}{i:Nat}{p:PV}(x:RepL ag w cl h V ps vs)(e:ps[i]?=some p):∃v,vs[i]?=some v/\Rep ag w cl h V p v:=
 RepL.ind (C:=λps vs=>∀i,ps[i]?=some p->∃v,vs[i]?=some v/\Rep ag w cl h V p v) (λi e=>nn (List.getElem?_nil.symm.trans e))
  (λq v ps vs r J ih i=>by
   cases i with
   |zero=>intro e;exact⟨v,rfl,bD e▸r⟩
   |succ i=>exact ih i) x i e
theorem RepL.take{cl:cF}{h:Heap}{ps:List PV}{vs:List Value}(n:Nat)(x:RepL ag w cl h V ps vs):RepL ag w cl h V (ps.take n) (vs.take n):=
 RepL.ind (C:=λps vs=>∀n,RepL ag w cl h V (ps.take n) (vs.take n)) (λn=>by cases n<;>trivial)
  (λq v ps vs r J ih n=>by
   cases n with
   |zero=>trivial
   |succ i=>exact RepL.cons r (ih i)) x n
theorem RepL.drop{cl:cF}{h:Heap}{ps:List PV}{vs:List Value}(n:Nat)(x:RepL ag w cl h V ps vs):RepL ag w cl h V (ps.drop n) (vs.drop n):=
 RepL.ind (C:=λps vs=>∀n,RepL ag w cl h V (ps.drop n) (vs.drop n)) (λn=>by cases n<;>trivial)
  (λq v ps vs r x ih n=>by
   cases n with
   |zero=>exact RepL.cons r x
   |succ i=>exact ih i) x n
theorem RepL.set{cl:cF}{h:Heap}{p:PV}{v:Value}(r:Rep ag w cl h V p v){ps:List PV}{vs:List Value}(n:Nat)(x:RepL ag w cl h V ps vs):RepL ag w cl h V (ps.set n p) (vs.set n v):=
 RepL.ind (C:=λps vs=>∀n,RepL ag w cl h V (ps.set n p) (vs.set n v)) (λn=>trivial)
  (λq v ps vs r' x ih n=>by
   cases n with
   |zero=>exact RepL.cons r x
   |succ i=>exact RepL.cons r' (ih i)) x n
theorem rZ{h:Heap}{a:Addr}{vs:Array Value}(x:h.PlainList a vs):∃n,IsL h a vs n:=let⟨n,e⟩:=x;⟨n,e⟩
theorem bA{h:Heap}{i:Int}{v:Value}:G.Rep h V (.int i) v↔∃t,v=.int i t:=Iff.rfl
theorem df{h:Heap}{i:Str}{v:Value}:G.Rep h V (.str i) v↔∃t,v=.str i t:=Iff.rfl
theorem dB{h:Heap}{i:Bool}{v:Value}:G.Rep h V (.bool i) v↔v=.bool i:=Iff.rfl
theorem mr{h:Heap}{v:Value}:G.Rep h V .none v↔v=.none:=Iff.rfl
theorem dP{h:Heap}{l:List PV}{v:Value}:G.Rep h V (.lst l) v↔∃a,v=.ref a/\¬V a/\∃vs:List Value,h.PlainList a vs.toArray/\G.RepL h V l vs:=Iff.rfl
theorem ez{h:Heap}{l:List PV}{v:Value}:G.Rep h V (.tup l) v↔∃a,v=.ref a/\¬V a/\∃vs:List Value,h.IsTuple a vs.toArray/\G.RepL h V l vs:=Iff.rfl
theorem d5{h:Heap}{l:List (Int×PV)}{v:Value}:G.Rep h V (.dct l) v↔∃a,v=.ref a/\¬V a/\(a == sysModules)=false/\∃kvs,h.DictOf (intKind ag w) a kvs/\G.RepD h V l kvs:=Iff.rfl
theorem oJ{h:Heap}{i:Int}{v:Value}(x:ej G h V (.int i) v):∃t,v=.int i t:=x.elim (λx=>bA.mp x) λx=>x.elim
theorem kw{h:Heap}{i:Str}{v:Value}(x:ej G h V (.str i) v):∃t,v=.str i t:=x.elim (λx=>df.mp x) λx=>x.elim
theorem eB{h:Heap}{l:List PV}{v:Value}(x:ej G h V (.lst l) v):∃a,v=.ref a/\∃vs:List Value,h.PlainList a vs.toArray/\G.RepL h V l vs:=
 x.elim (λx=>let⟨a,e,_,r⟩:=dP.mp x;⟨a,e,r⟩) λx=>let⟨a,e,_,r⟩:=x;⟨a,e,r⟩
theorem kK{h:Heap}{l:List PV}{v:Value}(x:ej G h V (.tup l) v):∃a,v=.ref a/\∃vs:List Value,h.IsTuple a vs.toArray/\G.RepL h V l vs:=
 x.elim (λx=>let⟨a,e,_,r⟩:=ez.mp x;⟨a,e,r⟩) λx=>x.elim
theorem oV{h:Heap}{l:List (Int×PV)}{v:Value}(x:ej G h V (.dct l) v):∃a,v=.ref a/\(a == sysModules)=false/\∃kvs,h.DictOf (intKind ag w) a kvs/\G.RepD h V l kvs:=
 x.elim (λx=>let⟨a,e,_,r⟩:=d5.mp x;⟨a,e,r⟩) λx=>let⟨a,e,_,r⟩:=x;⟨a,e,r⟩
theorem dF{s:Shared}{o:Obj}{tk:Nat}:Kp s { s with heap:=s.heap.push o,toks:=tk }:=Kp.of λJ J e=>af _ e
theorem im{i:Int}{t:Tok}{tk:Nat}:ca G V s (.int i) (.int i t) { s with toks:=tk }:=⟨bA.mpr ⟨t,rfl⟩,Kp.toks⟩
theorem yX{b:Bool}:ca G V s (.bool b) (.bool b) s:=⟨dB.mpr rfl,cR.refl _ _⟩
theorem jr{l:List PV}{vs:List Value}{n:Nat}{tk:Nat}(lo:eu V s.heap)(r:G.RepL s.heap V l vs):
  ca G V s (.lst l) (.ref s.heap.objs.size) { s with heap:=s.heap.push { cls:=.type "list",data:=.seq vs.toArray n },toks:=tk }:=
 ⟨dP.mpr ⟨_,rfl,lo.fresh,vs,⟨n,ay _ rfl⟩,RepL.keep (λJ J J e=>af _ e) (λJ J x=>x) r⟩,dF⟩
theorem lY{l:List PV}{vs:List Value}{n:Nat}{tk:Nat}(lo:eu V s.heap)(r:G.RepL s.heap V l vs):
  ca G V s (.tup l) (.ref s.heap.objs.size) { s with heap:=s.heap.push { cls:=.type "tuple",data:=.seq vs.toArray n },toks:=tk }:=
 ⟨ez.mpr ⟨_,rfl,lo.fresh,vs,⟨_,ay _ rfl,rfl,n,rfl⟩,RepL.keep (λJ J J e=>af _ e) (λJ J x=>x) r⟩,dF⟩
theorem nP{i:Int}(h:small i=true):Builtin.Int.intBits i<=64:=by
 have:=of_decide_eq_true h
 exact intBits_le_64 (by lia) (by lia)
theorem uZ{x i:Int}(h:small i=true):Builtin.divisionGoesByPylong x i=false:=by
 have:=of_decide_eq_true h
 refine PyProof.noPylong_of_log2 ?_;by_cases h0:i.natAbs=0
 ·rw[h0];decide
 ·have:i.natAbs.log2 < 64:=(Nat.log2_lt h0).mpr (by lia)
  exact(pn [_] 0x1D23282901D40190) this
theorem yp(x:PV)(n:Nat):(bd n [x]).flatten=bd n x:=by
 induction n with
 |zero=>rfl
 |succ n ih=>rw[List.replicate_succ,List.flatten_cons,ih];rfl
theorem tT{α:Type}(x:α):∀(n:Nat) (acc:Array α),List.foldl (λa b=>a++b) acc (bd n #[x])=acc++(bd n x).toArray
 |0,acc=>by simp
 |n+1,acc=>by
  rw[List.replicate_succ,bc,tT x n,List.replicate_succ];apply Array.toList_inj.mp;simp
theorem mD{h:Heap}{p:PV}{v:Value}(r:G.Rep h V p v):∀n,G.RepL h V (bd n p) (bd n v)
 |0=>trivial
 |n+1=>RepL.cons r (mD r n)
theorem yz{l:Addr}{v:Value}{k:Int}{u:Tok}{n:Nat}{Q:Value->Shared->Prop}{E:Value->Shared->Prop}(hl:IsL s.heap l #[v] n)(h0:0<=k)(h1:k<=1048576)
  (h:Q (.ref s.heap.objs.size) { s with heap:=s.heap.push { cls:=.type "list",data:=.seq (bd k.toNat v).toArray } }) :
  wpAny (model ag w) A (binaryOp .Mult (.ref l) (.int k u)) Q E s:=by
 refine wpAny_binaryOp_repeat_ref (T:="list") (U:="int") (by decide) ⟨_,hl,rfl⟩ (λs'=>typeIs_int s' k u) noFill_list_mul F.fills_int_mul F.slot_int_rmul repeat_list F.slot_int_index.lookup ?_;refine call_meets F.slot_int_rmul (typeIs_int s k u) F.entry_int_rmul (F.args_int_rmul_2 _ _) (int___rmul___int_list k u l #[v] n) ⟨hl,rfl,⟨_,hl,rfl⟩,?_⟩;refine call_meets F.slot_list_mul ⟨_,hl,rfl⟩ F.entry_list_mul (F.args_list_mul_2 _ _)
  (AutoListH.list___mul___list_int_3 l #[v] n k u (by simp[Builtin.List.listFitsIndex];exact(pz [] [_] 0x0F1E80000000000000008900E03C8000000000000000890E1000003900E008) h0 h1) (by rw[show(#[v]:Array Value).size=1 from rfl,mG];lia) (by rw[show(#[v]:Array Value).size=1 from rfl,mG];simp[Builtin.List.listTooLong,bn];exact(pz [] [_] 0x0E010000004900E100000390) h1)) ⟨hl,?_⟩
 have e:(List.foldl (λx1 x2=>x1++x2) #[] (bd (if(#[v]:Array Value).isEmpty=true then 0 else k.toNat) #[v]))=(bd k.toNat v).toArray:=by
  rw[show(#[v]:Array Value).isEmpty=false from rfl];simp only[bU,if_false];rw[tT];simp
 rw[e];exact h
theorem j5{h:Heap}{b:PV}{y:Int}{v:Value}(e:cb b=some y)(r:G.Rep h V b v):∃t,v=.int y t:=bA.mp (jy e▸r)
theorem DD{h:Heap}{b:PV}{y:Str}{v:Value}(e:kB b=some y)(r:G.Rep h V b v):∃t,v=.str y t:=df.mp (rA e▸r)
theorem Gp{h:Heap}{b:PV}{y:Bool}{v:Value}(e:my b=some y)(r:G.Rep h V b v):v=.bool y:=dB.mp (pF e▸r)
theorem CU{h:Heap}{b:PV}{l:List PV}{v:Value}(e:ju b=some l)(r:G.Rep h V b v):∃a,v=.ref a/\¬V a/\∃vs:List Value,h.PlainList a vs.toArray/\G.RepL h V l vs:=dP.mp (iH e▸r)
theorem AY{h:Heap}{b:PV}{y:Int}{v:Value}(e:cb b=some y)(r:ej G h V b v):∃t,v=.int y t:=oJ (jy e▸r)
def tN(G:GX ag w)(A:Around)(s:Shared)(V:Addr->Prop)(op:Operator)(va vb:Value)(p:PV):Prop:=wpAny (model ag w) A (binaryOp op va vb) (ca G V s p) EF s
theorem lG{op:Operator}{f:Int->Int->Option PV}{a b p:PV}{va vb:Value}(e:EX f a b=some p)(ra:ej G s.heap V a va)(rb:G.Rep s.heap V b vb)
  (k:∀x y t u,f x y=some p->tN G A s V op (.int x t) (.int y u) p):tN G A s V op va vb p:=
 bY e λx y hx hy e=>by
  refine xE (AY hx ra) ?_;rintro t rfl;refine xE (j5 hy rb) ?_;rintro u rfl;exact k x y t u e
theorem zP{a b p:PV}{va vb:Value}(e:IR a b=some p)(ra:ej G s.heap V a va)(rb:G.Rep s.heap V b vb)(lo:eu V s.heap):tN G A s V .Add va vb p:=by
 cases a with
 |int x=>
  refine md (C:=tN G A s V .Add va vb) e λy hy=>?_;refine xE (oJ ra) ?_;rintro t rfl;refine xE (j5 hy rb) ?_;rintro u rfl;exact PyProof.Rows.add_int im
 |str x=>
  refine b9 e λy hy e=>fz e λhz e=>?_;refine xE (kw ra) ?_;rintro t rfl;refine xE (DD hy rb) ?_;rintro u rfl;rw[bD e];have hz:=gw hz;have h1:=of_decide_eq_true hz.1;have h2:=of_decide_eq_true hz.2;exact PyProof.Rows.add_str (λt' tk=>⟨df.mpr ⟨_,rfl⟩,Kp.toks⟩) (by clear e hz ra rb lo;rw[bn];lia)
 |lst x=>
  refine b9 e λy hy e=>fz e λhz e=>?_;refine g7 (eB ra) ?_;rintro l rfl vs hl r;refine bx (CU hy rb) ?_;rintro l' rfl _ us hl' r';rw[bD e];have hz:=gw hz;have h1:=of_decide_eq_true hz.1;have h2:=of_decide_eq_true hz.2;refine xE (rZ hl) ?_;intro n hl;refine xE (rZ hl') ?_;intro n' hl';refine PySem.P.add_list hl hl' ?_ (by rw[bn,aF,aF,<- RepL.length r,<- RepL.length r'];clear e hz ra rb lo hl hl' r r';lia);rw[List.append_toArray];exact jr (tk:=s.toks) lo (RepL.append r r')
 |_=>exact nn e
theorem yT{a p:PV}{y:Int}{u:Tok}{va:Value}(e:J7 a y=some p)(ra:ej G s.heap V a va)(lo:eu V s.heap):tN G A s V .Mult va (.int y u) p:=by
 cases a with
 |int x=>
  refine fz e λhz e=>?_;refine xE (oJ ra) ?_;rintro t rfl;rw[bD e];exact PyProof.Rows.mul_int im ((eO.mp hz).elim (λq=>IntMulOk.of_left (nP q)) λq=>IntMulOk.of_right (nP q))
 |lst x=>
  refine fz e λhz e=>?_;refine g7 (eB ra) ?_;rintro l rfl vs hl r;refine xA (gw hz) ?_;intro hz h3;refine xA (gw hz) ?_;intro h1 h2;have h1:=of_decide_eq_true h1;refine xE (ou.mp h1) ?_;rintro q rfl;refine xE (ou.mp ((RepL.length r).symm.trans h1)) ?_;rintro v rfl;refine xE (rZ hl) ?_;intro n hl;rw[bD e,yp];exact yz hl (of_decide_eq_true h2) (of_decide_eq_true h3) (jr (tk:=s.toks) lo (mD r.1 _))
 |_=>exact nn e
theorem GY{x y:Int}(h1:small x=true)(h2:0<=y)(h3:y<=4096):(Builtin.Int.intBits x:Int) * y<=64 * 4096:=
 Int.mul_le_mul (by have:=nP h1;exact(pn [_] 0x0E40192C00D40190) this) h3 h2 (pn [] 0x0E401908)
theorem wi{op:Operator}{a b p:PV}{va vb:Value}(e:jW op a b=some p)(ra:ej G s.heap V a va)(rb:G.Rep s.heap V b vb)(lo:eu V s.heap):tN G A s V op va vb p:=by
 cases op with
 |Add=>exact zP e ra rb lo
 |Sub=>exact lG e ra rb λx y t u e=>Le (C:=tN G A s V _ _ _) e (PyProof.Rows.sub_int im)
 |Mult=>
  refine b9 e λy hy e=>?_;refine xE (j5 hy rb) ?_;rintro u rfl;exact yT e ra lo
 |FloorDiv=>exact lG e ra rb λx y t u e=>fz e λhz e=>Le (C:=tN G A s V _ _ _) e (PyProof.Rows.floordiv_int (bne_iff_ne.mp (gw hz).2) im (.inl (uZ (gw hz).1)))
 |Mod=>exact lG e ra rb λx y t u e=>fz e λhz e=>Le (C:=tN G A s V _ _ _) e (PyProof.Rows.mod_int' (bne_iff_ne.mp hz) im)
 |Pow=>exact lG e ra rb λx y t u e=>fz e λhz e=>Le (C:=tN G A s V _ _ _) e (by
   have q:=gw hz;have q1:=gw q.1;have h3:=GY q1.1 (of_decide_eq_true q1.2) (of_decide_eq_true q.2);refine PyProof.Rows.pow_int (of_decide_eq_true q1.2) ?_ im;clear e hz q q1 ra rb lo
   lia)
 |_=>exact nn e
end
end Mine
end
section
namespace Mine
section
variable{A:Around}{s:Shared}{V:Addr->Prop}
open SeqAt (EqAt RcAt RcNeAt)
theorem uz{prog':Program}{w':World}{es:List DictEntry}{kvs:List (Int×Value)}(h:Pairs (intKind ag w) es kvs):Pairs (intKind prog' w') es kvs:=by
 induction h with
 |nil=>exact .nil
 |cons a b _ ih=>exact .cons a b ih
theorem lu{prog':Program}{w':World}{h:Heap}{a:Addr}{kvs:List (Int×Value)}(x:h.DictOf (intKind ag w) a kvs):h.DictOf (intKind prog' w') a kvs:=
 let⟨o,es,ep,ho,hx,hd,hk,hp,hn⟩:=x;⟨o,es,ep,ho,hx,hd,hk,uz hp,hn⟩
theorem A9{es:List DictEntry}{kvs kvs':List (Int×Value)}(x:Pairs (intKind ag w) es kvs)(y:Pairs (intKind ag w) es kvs'):kvs=kvs':=by
 induction x generalizing kvs' with
 |nil=>cases y;rfl
 | @cons e kv es kvs a b _ ih=>
  cases y with
  | @cons _ kv' _ kvs' a' b' c'=>
   have e1:kv.1=kv'.1:=(intKind ag w).inj _ _ _ a a';have e2:kv=kv':=by
    obtain⟨k,v⟩:=kv;obtain⟨k',v'⟩:=kv';simp only at e1 b b';rw[e1,<- b,<- b']
   rw[e2,ih c']
theorem r7{h:Heap}{a:Addr}{kvs kvs':List (Int×Value)}(x:h.DictOf (intKind ag w) a kvs)(y:h.DictOf (intKind ag w) a kvs'):kvs=kvs':=by
 refine uB x ?_;clear x;intro o es ep ho hx hd hk hp hn;refine uB y ?_;clear y;intro o' es' ep' ho' hx' hd' hk' hp' hn';rw[ho]at ho';cases ho';rw[hd]at hd';cases hd';exact A9 hp hp'
theorem vK{h:Heap}{a:Addr}{kvs:List (Int×Value)}(x:h.DictOf (intKind ag w) a kvs):(kvs.map (·.1)).Nodup:=
 let⟨_,_,_,_,_,_,_,_,hn⟩:=x;hn
theorem xl{h:Heap}{a:Addr}{vs us:Array Value}(x:h.IsTuple a vs)(y:h.IsTuple a us):vs=us:=by
 refine qe x ?_;clear x;intro o ho _ n hd;refine qe y ?_;clear y;intro o' ho' _ n' hd';rw[ho]at ho';cases ho';rw[hd]at hd';cases hd';rfl
theorem te{h:Heap}{a:Addr}{vs us:Array Value}(x:h.PlainList a vs)(y:h.PlainList a us):vs=us:=by
 refine xE x ?_;clear x;intro n ho;refine xE y ?_;clear y;intro n' ho';rw[ho]at ho';cases ho';rfl
theorem RepD.ind{cl:cF}{h:Heap}{C:List (Int×PV)->List (Int×Value)->Prop}(h0:C [] [])(h1:∀k p v ps vs,Rep ag w cl h V p v->RepD ag w cl h V ps vs->C ps vs->C ((k,p)::ps) ((k,v)::vs)):∀{ps:List (Int×PV)}{vs:List (Int×Value)},RepD ag w cl h V ps vs->C ps vs:=λ{ps}=>by
 induction ps with
 |nil=>intro vs x;cases vs with
  |nil=>exact h0
  |cons v vs=>exact False.elim x
 |cons p ps ih=>intro vs x;cases vs with
  |nil=>exact False.elim x
  |cons v vs=>
   obtain⟨k,p⟩:=p;obtain⟨k',v⟩:=v;have e:k=k':=x.1;subst e;exact h1 _ _ _ _ _ x.2.1 x.2.2 (ih x.2.2)
theorem RepD.cons{cl:cF}{h:Heap}{k:Int}{p:PV}{v:Value}{ps:List (Int×PV)}{vs:List (Int×Value)}(r:Rep ag w cl h V p v)(x:RepD ag w cl h V ps vs):RepD ag w cl h V ((k,p)::ps) ((k,v)::vs):=⟨rfl,r,x⟩
theorem RepD.keys{cl:cF}{h:Heap}{l:List (Int×PV)}{vs:List (Int×Value)}(x:RepD ag w cl h V l vs):l.map (·.1)=vs.map (·.1):=
 RepD.ind (C:=λl vs=>l.map (·.1)=vs.map (·.1)) rfl (λk J J J J J J e=>congrArg (k::·) e) x
theorem RepD.length{cl:cF}{h:Heap}{l:List (Int×PV)}{vs:List (Int×Value)}(x:RepD ag w cl h V l vs):l.length=vs.length:=
 RepD.ind (C:=λps vs=>ps.length=vs.length) rfl (λJ J J J J J J e=>congrArg gk e) x
noncomputable def HS(ag:Program)(w:World)(cl:cF)(h:Heap)(V:Addr->Prop)(vs:List (Int×Value))(k:Int):Option PV->Prop
 |some p=>∃v,valueAt vs k=some v/\Rep ag w cl h V p v
 |none=>valueAt vs k=none
theorem RepD.get{cl:cF}{h:Heap}{l:List (Int×PV)}{vs:List (Int×Value)}(k:Int)(x:RepD ag w cl h V l vs):HS ag w cl h V vs k (eH l k):=
 RepD.ind (C:=λl vs=>HS ag w cl h V vs k (eH l k)) rfl (λa p v l vs r J ih=>by
  unfold eH at *
  by_cases q:a=k
  ·rw[i4 (by simpa using q)]
   refine⟨v,?_,r⟩;unfold valueAt;rw[i4 (by simpa using q)];rfl
  ·rw[i7 (by simpa using q)]
   have e:valueAt ((a,v)::vs) k=valueAt vs k:=by
    unfold valueAt;rw[i7 (by simpa using q)]
   cases z:cu (λx=>x.2) (List.find? (λkv=>decide (kv.1=k)) l) with
   |none=>rw[z]at ih;exact e.trans ih
   |some p=>rw[z]at ih;refine bC ih ?_;clear ih;intro u hu ru;exact⟨u,e.trans hu,ru⟩) x
theorem rC{p:PV}(h:jj p=true):p=.none:=by
 cases p<;>first|rfl|exact nomatch (show false=true from h)
theorem Jf{n:Nat}{p q:PV}{b:Bool}{C:PV->PV->Bool->Prop}(e:n0 (n+1) p q=some b)(h0:C .none .none true)(h1:∀x y,C (.bool x) (.bool y) (x == y))(h2:∀x y,C (.int x) (.int y) (x == y))(h3:∀x y,C (.str x) (.str y) (x == y))
  (h4:∀x y,v5 n x y=some b->C (.lst x) (.lst y) b) (h5:∀x y,v5 n x y=some b->C (.tup x) (.tup y) b) (h6:∀x y,x.length=y.length->pG n x y=some b->C (.dct x) (.dct y) b) (h7:∀x y,x.length≠y.length->C (.dct x) (.dct y) false):C p q b:=by
 cases p with
 |none=>refine io e λhq e=>?_;rw[rC hq,bD e];exact h0
 |bool x=>exact md (C:=C (.bool x) q) e λy hy=>pF hy▸h1 x y
 |int x=>exact md (C:=C (.int x) q) e λy hy=>jy hy▸h2 x y
 |str x=>exact md (C:=C (.str x) q) e λy hy=>rA hy▸h3 x y
 |lst x=>exact b9 e λy hy e=>iH hy▸h4 x y e
 |tup x=>exact b9 e λy hy e=>kq hy▸h5 x y e
 |dct x=>
  refine b9 e λy hy e=>?_;rw[CV hy];by_cases z:x.length=y.length
  ·exact h6 x y z ((if_pos z).symm.trans e)
  ·rw[bD ((if_neg z).symm.trans e)];exact h7 x y z
 |_=>exact nn e
theorem H9{n:Nat}{k:Int}{a:PV}{as bs:List (Int×PV)}{b:Bool}{C:Bool->Prop}(e:pG (n+1) ((k,a)::as) bs=some b)(h1:eH bs k=none->C false)(h2:∀c x y,eH bs k=some c->n0 n a c=some x->pG n as bs=some y->C (x && y)):C b:=by
 have e:(match eH bs k with|none=>some false|some c=>cW (λx y=>some (x && y)) (n0 n a c) (pG n as bs))=some b:=e
 cases z:eH bs k with
 |none=>rw[z]at e;rw[bD e];exact h1 z
 |some c=>rw[z]at e;exact bY e λx y hx hy e=>by rw[bD e];exact h2 c x y z hx hy
theorem yv{k:Int}{v:Value}:∀{l:List (Int×Value)},(l.map (·.1)).Nodup->(k,v)∈l->valueAt l k=some v:=λ{l}=>by
 unfold valueAt
 induction l with
 |nil=>intro _ hm;cases hm
 |cons z l ih=>
  intro hn hm;rw[ao,bH]at hn;rcases ai.mp hm with rfl|hm
  ·rw[i4 (by simp)];rfl
  ·rw[i7 (by
    have:z.1≠k:=λq=>hn.1 (aG.mpr ⟨_,hm,q.symm⟩)
    simpa using this)]
   exact ih hn.2 hm
theorem wj{vs us:List Value}(h:vs.toArray=us.toArray):vs=us:=congrArg Array.toList h
theorem Eh{h:Heap}{V':Addr->Prop}:∀(n:Nat),(∀{p q:PV}{v:Value}{b:Bool},n0 n p q=some b->Rep ag w G.cl h V p v->Rep ag w G.cl h V' q v->b=true) /\
  (∀{p q:List PV}{v:List Value}{b:Bool},v5 n p q=some b->RepL ag w G.cl h V p v->RepL ag w G.cl h V' q v->b=true) /\
  (∀{p q:List (Int×PV)}{v u:List (Int×Value)}{b:Bool},(u.map (·.1)).Nodup->(∀k x,(k,x)∈v->(k,x)∈u)->RepD ag w G.cl h V p v->RepD ag w G.cl h V' q u->pG n p q=some b->b=true):=λn=>by
 induction n with
 |zero=>exact⟨λe=>nn e,λe=>nn e,λJ J J J e=>nn e⟩
 |succ n ih=>
  refine iQ ih ?_;clear ih;intro i1 i2 i3;refine⟨λ{p q v b} e=>?_,λ{p q v b} e x y=>?_,λ{p q v u b} nd sub x y e=>?_⟩
  ·refine Jf (C:=λp q b=>Rep ag w G.cl h V p v->Rep ag w G.cl h V' q v->b=true) e (λJ J=>rfl) (λx y r r'=>?_) (λx y r r'=>?_) (λx y r r'=>?_) (λx y e r r'=>?_) (λx y e r r'=>?_) (λx y z e r r'=>?_) λx y z r r'=>?_
   ·cases r.symm.trans r';exact beq_self_eq_true _
   ·refine xE r ?_;clear r;intro t e;refine xE r' ?_;clear r';intro u e';cases e.symm.trans e';exact beq_self_eq_true _
   ·refine xE r ?_;clear r;intro t e;refine xE r' ?_;clear r';intro u e';cases e.symm.trans e';exact beq_self_eq_true _
   ·refine bx r ?_;clear r;intro a e1 _ vs hl r
    refine bx r' ?_;clear r';intro a' e2 _ us hl' r'
    cases e1.symm.trans e2
    exact i2 e r (wj (te hl hl')▸r')
   ·refine bx r ?_;clear r;intro a e1 _ vs hl r
    refine bx r' ?_;clear r';intro a' e2 _ us hl' r'
    cases e1.symm.trans e2
    exact i2 e r (wj (xl hl hl')▸r')
   ·refine cK r ?_;clear r;intro a e1 _ _ vs hl r
    refine cK r' ?_;clear r';intro a' e2 _ _ us hl' r'
    cases e1.symm.trans e2
    exact i3 (vK hl) (λJ J h=>h) r (r7 hl hl'▸r') e
   ·refine cK r ?_;clear r;intro a e1 _ _ vs hl r
    refine cK r' ?_;clear r';intro a' e2 _ _ us hl' r'
    cases e1.symm.trans e2
    exact absurd (r.length.trans (r7 hl hl'▸r'.length.symm)) z
  ·cases p with
   |nil=>cases v with
    |nil=>cases q with
     |nil=>exact bD e
     |cons _ _=>exact False.elim y
    |cons _ _=>exact False.elim x
   |cons _ _=>cases v with
    |nil=>exact False.elim x
    |cons _ _=>cases q with
     |nil=>exact False.elim y
     |cons _ _=>exact bY e λb1 b2 e1 e2 e=>by rw[bD e,i1 e1 x.1 y.1,i2 e2 x.2 y.2];rfl
  ·cases p with
   |nil=>exact bD e
   |cons p as=>cases v with
    |nil=>exact False.elim x
    |cons kv vs=>
     obtain⟨k,a⟩:=p;obtain⟨k',v⟩:=kv;have x:k=k'/\Rep ag w G.cl h V a v/\RepD ag w G.cl h V as vs:=x;have hv:valueAt u k=some v:=x.1▸yv nd (sub k' v (.head _));have g:=RepD.get k y;refine H9 (C:=λb=>b=true) e (λhn=>?_) λc b1 b2 hc e1 e2=>?_
     ·rw[hn]at g;exact nn (g.symm.trans hv)
     ·rw[hc]at g
      refine bC g ?_;clear g;intro v' hv' r';rw[i1 e1 x.2.1 (Option.some.inj (hv'.symm.trans hv)▸r'),i3 nd (λk x hx=>sub k x (.tail _ hx)) x.2.2 y e2];rfl
theorem Ee{h:Heap}{V':Addr->Prop}(n:Nat){p q:PV}{v:Value}{b:Bool}(x:Rep ag w G.cl h V p v)(y:Rep ag w G.cl h V' q v)(e:n0 n p q=some b):b=true:=(Eh  n).1 e x y
theorem rW(n:Nat)(e:Nat->Bool):(aI (n+1)).all e=(e 0 && (aI n).all λj=>e (j+1)):=by
 rw[List.range_succ_eq_map,mY,List.all_map];rfl
def Jg(A:Around)(s:Shared)(vs us:List Value)(b:Bool):Prop:=
 ∃k:Nat->Bool,b=((aI (min vs.length us.length)).all k && (vs.length == us.length))/\∀j (h1:j < vs.length) (h2:j < us.length),EqAt A s vs[j] us[j] (k j)
theorem vo:∀{vs us:List Value},vs=[]\/us=[]->Jg A s vs us (vs.length == us.length)
 | [],_,_=>⟨λJ=>true,(g9 _).symm.trans (by rw[ce,Nat.zero_min];rfl),λj h=>absurd h (dH _)⟩
 |_::_,[],_=>⟨λJ=>true,(g9 _).symm.trans (by rw[ce,Nat.min_zero];rfl),λj J h=>absurd h (dH _)⟩
 |_::_,_::_,h=>h.elim (λh=>nomatch h) λh=>nomatch h
theorem CO{v u:Value}{vs us:List Value}{b1 b2:Bool}(z:EqAt A s v u b1)(x:Jg A s vs us b2):Jg A s (v::vs) (u::us) (b1 && b2):=by
 refine bC x ?_;clear x;intro k hk he;refine⟨λj=>Nat.rec b1 (λj J=>k j) j,?_,λj=>?_⟩
 ·rw[am,am,Nat.succ_min_succ,rW,hk,Bool.and_assoc]
  exact congrArg (λz=>b1 && ((aI (min vs.length us.length)).all k && z)) (by rw[pj,beq_iff_eq,beq_iff_eq,Nat.succ_inj])
 ·cases j with
  |zero=>exact λJ J=>z
  |succ j=>exact λh1 h2=>he j (oz h1) (oz h2)
theorem z9{vs us:List Value}{l l':Addr}{b:Bool}(x:Jg A.in1 s vs us b)(hl:s.heap.IsTuple l vs.toArray)(hl':s.heap.IsTuple l' us.toArray)(hu:A.units < cLine):RcAt A s (.ref l) (.ref l') b/\RcNeAt A s (.ref l) (.ref l') (!b):=by
 refine bC x ?_;clear x;rintro k rfl he;have z:=RcAt.tuples (A:=A) (e:=k) hl hl' hu (λj h1 h2=>he j h1 h2);have z':=RcNeAt.tuples (A:=A) (e:=k) hl hl' hu (λj h1 h2=>he j h1 h2);exact⟨z,z'⟩
theorem Ak{vs us:List Value}{l l':Addr}{b:Bool}(x:Jg A.in1 s vs us b)(hl:s.heap.PlainList l vs.toArray)(hl':s.heap.PlainList l' us.toArray)(hu:A.units < cLine):RcAt A s (.ref l) (.ref l') b/\RcNeAt A s (.ref l) (.ref l') (!b):=by
 refine bC x ?_;clear x;rintro k rfl he;by_cases hz:vs.length=us.length
 ·have e:((aI (min vs.length us.length)).all k && (vs.length == us.length))=(aI vs.length).all k:=by rw[<- hz,Nat.min_self,beq_self_eq_true,Bool.and_true]
  rw[e];exact⟨RcAt.lists (A:=A) (e:=k) hl.isList hl'.isList hz hu (λj h1 h2=>he j h1 h2),RcNeAt.lists (A:=A) (e:=k) hl.isList hl'.isList hz hu (λj h1 h2=>he j h1 h2)⟩
 ·rw[beq_eq_false_iff_ne.mpr hz,i8]
  exact⟨RcAt.lists_lengths (A:=A) hl.isList hl'.isList (bne_iff_ne.mpr hz) hu,RcNeAt.lists_lengths (A:=A) hl.isList hl'.isList (bne_iff_ne.mpr hz) hu⟩
def M3(G:GX ag w)(s:Shared)(V:Addr->Prop)(n:Nat):Prop:=∀{A:Around}{p q:PV}{va vb:Value}{b:Bool},n0 n p q=some b->A.units+n < cLine->G.Rep s.heap V p va->G.Rep s.heap V q vb->EqAt A s va vb b
def LL(G:GX ag w)(s:Shared)(V:Addr->Prop)(n:Nat):Prop:=∀{A:Around}{p q:List PV}{vs us:List Value}{b:Bool},v5 n p q=some b->A.units+n < cLine->G.RepL s.heap V p vs->G.RepL s.heap V q us->Jg A s vs us b
def Mi(G:GX ag w)(s:Shared)(V:Addr->Prop)(n:Nat):Prop:=∀{A:Around}{p q:List (Int×PV)}{vs us:List (Int×Value)}{b:Bool},pG n p q=some b->A.units+n < cLine->G.RepD s.heap V p vs->G.RepD s.heap V q us->KeqHits A s us vs b
theorem JW{A:Around}{n:Nat}(h:A.units+(n+1) < cLine):A.in1.units+n < cLine/\A.units < cLine/\A.units+n < cLine:=by
 show A.units+1+n < cLine/\_;generalize cLine=c at *
 exact(pn [_,_,_] 0x0F0F1D2A101D201D2A1A1801D2AA1810) h
theorem vk:∀(n:Nat),M3 G s V n/\LL G s V n/\Mi G s V n:=λn=>by
 induction n with
 |zero=>exact⟨λe=>nn e,λe=>nn e,λe=>nn e⟩
 |succ n ih=>
  refine iQ ih ?_;clear ih;intro i1 i2 i3;refine⟨λ{A p q va vb b} e hu=>?_,λ{A p q vs us b} e hu x y=>?_,λ{A p q vs us b} e hu x y=>?_⟩
  ·by_cases hs:va=vb
   ·subst hs
    intro x y;rw[Ee  (n+1) x y e];exact EqAt.same _
   ·refine iQ (JW hu) ?_;intro u1 u2 _
    refine Jf (C:=λp q b=>G.Rep s.heap V p va->G.Rep s.heap V q vb->EqAt A s va vb b) e (λr r'=>absurd (Eq.trans r (Eq.symm r')) hs) (λx y r r'=>?_) (λx y r r'=>?_) (λx y r r'=>?_) (λx y e r r'=>?_) (λx y e r r'=>?_) (λx y z e r r'=>?_) λx y z r r'=>?_
    ·rw[dB.mp r,dB.mp r'];exact EqAt.bool_bool _ _
    ·refine xE (bA.mp r) ?_;rintro t rfl
     refine xE (bA.mp r') ?_;rintro u rfl;exact EqAt.int_int _ _ _ _
    ·refine xE (df.mp r) ?_;rintro t rfl
     refine xE (df.mp r') ?_;rintro u rfl;exact(eqGives_str _ _ _ _).at _ _
    ·refine bx (dP.mp r) ?_;rintro l rfl _ vs hl r
     refine bx (dP.mp r') ?_;rintro l' rfl _ us hl' r';exact .of_refs (λq=>hs (congrArg _ q)) (Ak (i2 e u1 r r') hl hl' u2).1
    ·refine bx (ez.mp r) ?_;rintro l rfl _ vs hl r
     refine bx (ez.mp r') ?_;rintro l' rfl _ us hl' r';exact .of_refs (λq=>hs (congrArg _ q)) (z9 (i2 e u1 r r') hl hl' u2).1
    ·refine cK (d5.mp r) ?_;rintro l rfl _ z1 vs hl r
     refine cK (d5.mp r') ?_;rintro l' rfl _ z2 us hl' r';have e3:vs.length=us.length:=r.length.symm.trans (z.trans r'.length);refine .of_refs (λq=>hs (congrArg _ q)) λprog' w' E Q hq=>keq_eq z1 z2 (lu hl) (lu hl') (r:=b) u2 (λJ=>i3 e u1 r r') ?_;rw[e3,beq_self_eq_true,g9];exact hq
    ·refine cK (d5.mp r) ?_;rintro l rfl _ z1 vs hl r
     refine cK (d5.mp r') ?_;rintro l' rfl _ z2 us hl' r';refine .of_refs (λq=>hs (congrArg _ q)) λprog' w' E Q hq=>keq_eq z1 z2 (lu hl) (lu hl') (r:=false) u2 (λq=>absurd (r.length.trans (q.trans r'.length.symm)) z) ?_;rw[i8];exact hq
  ·cases p with
   |nil=>cases vs with
    |nil=>cases q with
     |nil=>cases us with
      |nil=>rw[bD e];exact vo (.inl rfl)
      |cons _ _=>exact False.elim y
     |cons _ _=>cases us with
      |nil=>exact False.elim y
      |cons _ _=>rw[bD e];exact vo (.inl rfl)
    |cons _ _=>exact False.elim x
   |cons a as=>cases vs with
    |nil=>exact False.elim x
    |cons v vs=>cases q with
     |nil=>cases us with
      |nil=>rw[bD e];exact vo (.inr rfl)
      |cons _ _=>exact False.elim y
     |cons c cs=>cases us with
      |nil=>exact False.elim y
      |cons u us=>exact bY e λb1 b2 e1 e2 e=>by rw[bD e];exact CO (i1 e1 (JW hu).2.2 x.1 y.1) (i2 e2 (JW hu).2.2 x.2 y.2)
  ·cases p with
   |nil=>cases vs with
    |nil=>rw[bD e];exact .nil
    |cons _ _=>exact False.elim x
   |cons ka as=>cases vs with
    |nil=>exact False.elim x
    |cons kv vs=>
     obtain⟨k,a⟩:=ka;obtain⟨k',v⟩:=kv;have x:k=k'/\G.Rep s.heap V a v/\G.RepD s.heap V as vs:=x;refine iQ x ?_;clear x;rintro rfl r x;have g:=RepD.get k y;refine H9 (C:=KeqHits A s us ((k,v)::vs)) e (λhn=>?_) λc b1 b2 hc e1 e2=>?_
     ·rw[hn]at g;exact .miss g
     ·rw[hc]at g
      refine bC g ?_;clear g;intro u hu' r';exact .hit hu' (i1 e1 (JW hu).2.2 r r') (i3 e2 (JW hu).2.2 x y)
theorem Df(n:Nat){p q:List (Int×PV)}{vs us:List (Int×Value)}{b:Bool}(e:pG n p q=some b)(x:G.RepD s.heap V p vs)(y:G.RepD s.heap V q us)(hu:A.units+n < cLine):KeqHits A s us vs b:=(vk n).2.2 e hu x y
theorem D8(n:Nat){p q:List PV}{vs us:List Value}{b:Bool}(e:v5 n p q=some b)(x:G.RepL s.heap V p vs)(y:G.RepL s.heap V q us)(hu:A.units+n < cLine):Jg A s vs us b:=(vk n).2.1 e hu x y
end
end Mine
end
section
namespace Mine
section
variable{A:Around}{s:Shared}{E:Value->Shared->Prop}
theorem qg{a b:Int}{t u:Tok}{Q:Value->Shared->Prop}(h:Q (.bool (decide (a < b))) s):wpAny (model ag w) A (richCompare .Lt (.int a t) (.int b u)) Q E s:=
 (show wpAny (model ag w) A (compareOp .Lt (.int a t) (.int b u)) Q E s from PyProof.Rows.lt_int h)
theorem qo{a b:Int}{t u:Tok}{Q:Value->Shared->Prop}(h:Q (.bool (decide (a > b))) s):wpAny (model ag w) A (richCompare .Gt (.int a t) (.int b u)) Q E s:=
 (show wpAny (model ag w) A (compareOp .Gt (.int a t) (.int b u)) Q E s from PyProof.Rows.gt_int h)
theorem xr{x y:Addr}{a b c d:Int}{t1 t2 t3 t4:Tok}{P:Fin->Shared->Prop}(hx:s.heap.IsTuple x #[.int a t1,.int b t2])(hy:s.heap.IsTuple y #[.int c t3,.int d t4])
  (h:P (.done (.ret (.bool (oi (λi j=>decide (i < j)) a b c d)))) s):wpAny (model ag w) A (Builtin.«tuple.__lt__» ⟨[.ref x,.ref y],[]⟩) P E s:=by
 refine qe hx ?_;clear hx;intro ox gx cx nx dx;refine qe hy ?_;clear hy;intro oy gy cy ny dy;show wpAny _ _ (isInstance (.ref y) (.type "tuple") >>= _) _ _ s;refine wpAny_bind (wpAny_isInstance (T:="tuple") ⟨oy,gy,cy⟩ isSubtype_tuple_tuple ?_);simp only[jQ,bU,if_false];refine wpAny_bind (wpAny_tupleItemsOf gx dx ?_);refine wpAny_bind (wpAny_tupleItemsOf gy dy ?_);show wpAny _ _ (forIn [(Value.int a t1,Value.int c t3),(Value.int b t2,Value.int d t4)] _ _ >>= _) _ _ s;unfold oi at h;rw[dI];refine wpAny_bind (wpAny_bind (wpAny_bind (wpAny_eqBool_int ?_)))
 cases e1:(a == c)
 ·rw[e1]at h
  simp only[qt,if_true];refine wpAny_bind (wpAny_rule ?_);refine wpAny_bind (qg ?_);exact wpAny_bind (wpAny_pure (wpAny_pure (wpAny_pure (wpAny_pure h))))
 ·rw[e1,if_pos rfl]at h
  simp only[jQ,bU,if_false];refine wpAny_pure ?_;dsimp only;rw[dI];refine wpAny_bind (wpAny_bind (wpAny_eqBool_int ?_))
  cases e2:(b == d)
  ·rw[e2]at h
   simp only[qt,if_true];refine wpAny_bind (wpAny_rule ?_);refine wpAny_bind (qg ?_);exact wpAny_bind (wpAny_pure (wpAny_pure (wpAny_pure (wpAny_pure h))))
  ·rw[e2,if_pos rfl]at h
   simp only[jQ,bU,if_false];refine wpAny_pure ?_;dsimp only;rw[gn];refine wpAny_pure (wpAny_pure h)
theorem xX{x y:Addr}{a b c d:Int}{t1 t2 t3 t4:Tok}{P:Fin->Shared->Prop}(hx:s.heap.IsTuple x #[.int a t1,.int b t2])(hy:s.heap.IsTuple y #[.int c t3,.int d t4])
  (h:P (.done (.ret (.bool (oi (λi j=>decide (i > j)) a b c d)))) s):wpAny (model ag w) A (Builtin.«tuple.__gt__» ⟨[.ref x,.ref y],[]⟩) P E s:=by
 refine qe hx ?_;clear hx;intro ox gx cx nx dx;refine qe hy ?_;clear hy;intro oy gy cy ny dy;show wpAny _ _ (isInstance (.ref y) (.type "tuple") >>= _) _ _ s;refine wpAny_bind (wpAny_isInstance (T:="tuple") ⟨oy,gy,cy⟩ isSubtype_tuple_tuple ?_);simp only[jQ,bU,if_false];refine wpAny_bind (wpAny_tupleItemsOf gx dx ?_);refine wpAny_bind (wpAny_tupleItemsOf gy dy ?_);show wpAny _ _ (forIn [(Value.int a t1,Value.int c t3),(Value.int b t2,Value.int d t4)] _ _ >>= _) _ _ s;unfold oi at h;rw[dI];refine wpAny_bind (wpAny_bind (wpAny_bind (wpAny_eqBool_int ?_)))
 cases e1:(a == c)
 ·rw[e1]at h
  simp only[qt,if_true];refine wpAny_bind (wpAny_rule ?_);refine wpAny_bind (qo ?_);exact wpAny_bind (wpAny_pure (wpAny_pure (wpAny_pure (wpAny_pure h))))
 ·rw[e1,if_pos rfl]at h
  simp only[jQ,bU,if_false];refine wpAny_pure ?_;dsimp only;rw[dI];refine wpAny_bind (wpAny_bind (wpAny_eqBool_int ?_))
  cases e2:(b == d)
  ·rw[e2]at h
   simp only[qt,if_true];refine wpAny_bind (wpAny_rule ?_);refine wpAny_bind (qo ?_);exact wpAny_bind (wpAny_pure (wpAny_pure (wpAny_pure (wpAny_pure h))))
  ·rw[e2,if_pos rfl]at h
   simp only[jQ,bU,if_false];refine wpAny_pure ?_;dsimp only;rw[gn];refine wpAny_pure (wpAny_pure h)
theorem wO{x y:Addr}{a b c d:Int}{t1 t2 t3 t4:Tok}{Q:Value->Shared->Prop}(hu:A.units < cLine)(hx:s.heap.IsTuple x #[.int a t1,.int b t2])(hy:s.heap.IsTuple y #[.int c t3,.int d t4])
  (h:Q (.bool (oi (λi j=>decide (i < j)) a b c d)) s):wpAny (model ag w) A (compareOp .Lt (.ref x) (.ref y)) Q E s:=by
 have Tx:s.TypeIs (.ref x) "tuple":=let⟨o,g,c,_⟩:=hx;⟨o,g,c⟩;have Ty:s.TypeIs (.ref y) "tuple":=let⟨o,g,c,_⟩:=hy;⟨o,g,c⟩;exact(show wpAny (model ag w) A (richCompare .Lt (.ref x) (.ref y)) Q E s from wpAny_richCompare_same_room (op:=.Lt) Tx Ty PySem.F.slot_tuple_lt
  (wpAny_call_entry PySem.F.slot_tuple_lt Tx PySem.F.entry_tuple_lt (xr hx hy ⟨_,rfl,(λe=>nomatch e),h⟩) (PySem.F.args_tuple_lt_2 _ _)) hu)
theorem xt{x y:Addr}{a b c d:Int}{t1 t2 t3 t4:Tok}{Q:Value->Shared->Prop}(hu:A.units < cLine)(hx:s.heap.IsTuple x #[.int a t1,.int b t2])(hy:s.heap.IsTuple y #[.int c t3,.int d t4])
  (h:Q (.bool (oi (λi j=>decide (i > j)) a b c d)) s):wpAny (model ag w) A (compareOp .Gt (.ref x) (.ref y)) Q E s:=by
 have Tx:s.TypeIs (.ref x) "tuple":=let⟨o,g,c,_⟩:=hx;⟨o,g,c⟩;have Ty:s.TypeIs (.ref y) "tuple":=let⟨o,g,c,_⟩:=hy;⟨o,g,c⟩;exact(show wpAny (model ag w) A (richCompare .Gt (.ref x) (.ref y)) Q E s from wpAny_richCompare_same_room (op:=.Gt) Tx Ty PySem.F.slot_tuple_gt
  (wpAny_call_entry PySem.F.slot_tuple_gt Tx PySem.F.entry_tuple_gt (xX hx hy ⟨_,rfl,(λe=>nomatch e),h⟩) (PySem.F.args_tuple_gt_2 _ _)) hu)
theorem rJ{h:Heap}{V:Addr->Prop}{a b:Int}{v:Value}(r:G.Rep h V (.tup [.int a,.int b]) v):∃x t u,v=.ref x/\h.IsTuple x #[.int a t,.int b u]:=by
 refine bx (ez.mp r) ?_;rintro c rfl _ us ht ru
 cases us with
 |nil=>exact False.elim ru
 |cons u1 us=>cases us with
  |nil=>exact False.elim ru.2
  |cons u2 us=>cases us with
   |cons _ _=>exact False.elim ru.2.2
   |nil=>
    refine xE (bA.mp ru.1) ?_;rintro t1 rfl;refine xE (bA.mp ru.2.1) ?_;rintro t2 rfl;exact⟨c,t1,t2,rfl,ht⟩
end
end Mine
end
section
namespace Mine
section
variable{A:Around}{s:Shared}{V:Addr->Prop}
open SeqAt (EqAt RcAt RcNeAt)
noncomputable def isInt(k:Int):Value->Bool
 | .int i _=>i == k
 |_=>false
theorem t6{k:Int}{t:Tok}{l:List PV}{vs:List Value}{b:Bool}(e:j0 k l=some b)(r:G.RepL s.heap V l vs):b=vs.any (isInt k)/\∀v∈vs,EqAt A s v (.int k t) (isInt k v):=
 RepL.ind (C:=λl vs=>∀b,j0 k l=some b->b=vs.any (isInt k)/\∀v∈vs,EqAt A s v (.int k t) (isInt k v)) (λb e=>⟨bD e,λJ h=>nomatch h⟩)
  (λp v l vs r J ih b e=>bY e λi c hi hc e=>by
   refine xE (j5  hi r) ?_;rintro u rfl;refine xA (ih c hc) ?_;intro h1 h2;refine⟨by rw[bD e,fw,h1];rfl,λx hx=>?_⟩;rcases ai.mp hx with rfl|hx
   ·exact EqAt.int_int _ _ _ _
   ·exact h2 x hx) r b e
noncomputable def wP(s:Shared)(b:Bool):Value->Shared->Prop:=λv s'=>v=.bool b/\Kp s s'
theorem nF{b:Bool}{tk:Nat}:wP s b (.bool b) { s with toks:=tk }:=⟨rfl,Kp.toks⟩
theorem eL{b:Bool}:wP s b (.bool b) s:=⟨rfl,cR.refl _ _⟩
def BF(ag:Program)(w:World)(A:Around)(s:Shared)(op op':CmpOp)(va vb:Value)(b:Bool):Prop:=wpAny (model ag w) A (compareOp op va vb) (wP s b) EF s/\wpAny (model ag w) A (compareOp op' va vb) (wP s (!b)) EF s
theorem jl{k:Int}{t:Tok}:(intKind ag w).is k (.int k t)=true:=by simp[intKind,Value.isInt]
theorem vI{vs:List Value}{y:Value}(h:y∈vs.toArray):y∈vs:=List.mem_toArray.mp h
theorem lg{a c:PV}{va vc:Value}{b:Bool}(e:IW a c=some b)(ra:G.Rep s.heap V a va)(rc:ej G s.heap V c vc):BF ag w A s .In .NotIn va vc b:=by
 refine b9 e λk hk e=>?_;refine xE (j5 hk ra) ?_;rintro t rfl
 cases c with
 |dct l=>
  rw[bD e];refine bx (oV rc) ?_;rintro d rfl z kvs hd r;have g:=RepD.get k r;have e1:(eH l k).isSome=(valueAt kvs k).isSome:=by
   cases q:eH l k with
   |none=>rw[q]at g;exact(congrArg Option.isSome g).symm
   |some p=>rw[q]at g;refine bC g ?_;clear g;intro v hv _;rw[hv];rfl
  rw[e1];exact⟨wpAny_in_of (knd:=intKind ag w) (k:=k) jl z hd.mapOf nF,wpAny_notIn_of (knd:=intKind ag w) (k:=k) jl z hd.mapOf nF⟩
 |lst l=>
  refine g7 (eB rc) ?_;rintro d rfl vs hd r;refine xA (t6 (A:=A.in1) (t:=t) e r) ?_;rintro rfl h2;exact⟨SeqAt.in_listAt (isInt k) hd.isList (λy hy=>h2 y (vI hy)) (by rw[nK];exact eL),SeqAt.notIn_listAt (isInt k) hd.isList (λy hy=>h2 y (vI hy)) (by rw[nK];exact eL)⟩
 |tup l=>
  refine g7 (kK rc) ?_;rintro d rfl vs hd r;refine xA (t6 (A:=A.in1) (t:=t) e r) ?_;rintro rfl h2;exact⟨SeqAt.in_tupleAt (isInt k) hd (λy hy=>h2 y (vI hy)) (by rw[nK];exact eL),SeqAt.notIn_tupleAt (isInt k) hd (λy hy=>h2 y (vI hy)) (by rw[nK];exact eL)⟩
 |_=>exact nn e
theorem oO{x y:Value}{b:Bool}(h:PySem.plainIs x y=true)(hb:(x == y)=b):BF ag w A s .Is .IsNot x y b:=by
 subst hb;exact⟨wpAny_is_plain h eL,wpAny_isNot_plain h eL⟩
theorem uP{h:Heap}{c:PV}{v:Value}(e:sr c=true)(r:G.Rep h V c v):(PySem.plainIs .none v=true/\PySem.plainIs v .none=true)/\(Value.none == v)=false/\(v == Value.none)=false:=by
 have ne:∀{v:Value},Value.none≠v->(Value.none == v)=false/\(v == Value.none)=false:=λh=>⟨beq_eq_false_iff_ne.mpr h,beq_eq_false_iff_ne.mpr (Ne.symm h)⟩
 cases c with
 |bool b=>rw[dB.mp r];exact⟨⟨rfl,rfl⟩,ne (λq=>nomatch q)⟩
 |int i=>refine xE (bA.mp r) ?_;rintro t rfl;exact⟨⟨rfl,rfl⟩,ne (λq=>nomatch q)⟩
 |str i=>refine xE (df.mp r) ?_;rintro t rfl;exact⟨⟨rfl,rfl⟩,ne (λq=>nomatch q)⟩
 |tup l=>refine bC r ?_;clear r;rintro a rfl _;exact⟨⟨rfl,rfl⟩,ne (λq=>nomatch q)⟩
 |lst l=>refine bC r ?_;clear r;rintro a rfl _;exact⟨⟨rfl,rfl⟩,ne (λq=>nomatch q)⟩
 |_=>exact nomatch (show false=true from e)
theorem Jb{h:Heap}{c:PV}{v:Value}(e:jj c=true)(r:G.Rep h V c v):v=.none:=mr.mp (rC e▸r)
theorem sI{a c:PV}{va vc:Value}{b:Bool}(e:Gv a c=some b)(ra:G.Rep s.heap V a va)(rc:G.Rep s.heap V c vc):BF ag w A s .Is .IsNot va vc b:=by
 unfold Gv at e;by_cases qa:jj a=true
 ·rw[if_pos qa]at e
  have ra:va=.none:=Jb qa ra;rw[ra];by_cases qc:jj c=true
  ·rw[if_pos qc]at e
   rw[bD e,Jb qc rc];exact oO rfl (beq_self_eq_true _)
  ·rw[if_neg qc]at e
   refine io e λq e=>?_;rw[bD e];have h:=uP q rc;exact oO h.1.1 h.2.1
 ·rw[if_neg qa]at e
  by_cases qc:jj c=true
  ·rw[if_pos qc]at e
   refine io e λq e=>?_;rw[bD e,Jb qc rc];have h:=uP q ra;exact oO h.1.2 h.2.2
  ·rw[if_neg qc]at e
   refine bY e λx y hx hy e=>?_;rw[bD e,Gp hx ra,Gp hy rc];exact oO rfl (by cases x<;>cases y<;>decide)
theorem uc{n:Nat}{p q:PV}{va vb:Value}{b:Bool}(e:n0 n p q=some b)(x:G.Rep s.heap V p va)(y:G.Rep s.heap V q vb)(hu:A.units+n < cLine):BF ag w A s .Eq .NotEq va vb b:=by
 cases n with
 |zero=>exact nn e
 |succ n=>
 have two:∀{x y:Value}{b:Bool},RcAt A s x y b/\RcNeAt A s x y (!b)->BF ag w A s .Eq .NotEq x y b:=λh=>⟨h.1 ag w EF _ eL,h.2 ag w EF _ eL⟩;refine iQ (JW hu) ?_;intro u1 u2 _;refine Jf (C:=λp q b=>G.Rep s.heap V p va->G.Rep s.heap V q vb->BF ag w A s .Eq .NotEq va vb b) e (λr r'=>?_) (λx y r r'=>?_) (λx y r r'=>?_) (λx y r r'=>?_) (λx y e r r'=>?_) (λx y e r r'=>?_) (λx y z e r r'=>?_) (λx y z r r'=>?_) x y
 ·rw[mr.mp r,mr.mp r']
  exact two ⟨λag w E Q h=>RcAt.none_none ag w E Q h,RcNeAt.none_none⟩
 ·rw[dB.mp r,dB.mp r']
  exact two ⟨RcAt.bool_bool _ _,RcNeAt.bool_bool _ _⟩
 ·refine xE (bA.mp r) ?_;rintro t rfl
  refine xE (bA.mp r') ?_;rintro u rfl;exact two ⟨RcAt.int_int _ _ _ _,RcNeAt.int_int _ _ _ _⟩
 ·refine xE (df.mp r) ?_;rintro t rfl
  refine xE (df.mp r') ?_;rintro u rfl;exact two ⟨RcAt.str_str _ _ _ _,RcNeAt.str_str _ _ _ _⟩
 ·refine bx (dP.mp r) ?_;rintro l rfl _ vs hl r
  refine bx (dP.mp r') ?_;rintro l' rfl _ us hl' r';exact two (Ak (D8 n e r r' u1) hl hl' u2)
 ·refine bx (ez.mp r) ?_;rintro l rfl _ vs hl r
  refine bx (ez.mp r') ?_;rintro l' rfl _ us hl' r';exact two (z9 (D8 n e r r' u1) hl hl' u2)
 ·refine cK (d5.mp r) ?_;rintro l rfl _ z1 vs hl r
  refine cK (d5.mp r') ?_;rintro l' rfl _ z2 us hl' r';have hb:(vs.length == us.length && b)=b:=by rw[r.length.symm.trans (z.trans r'.length),beq_self_eq_true,g9]
  exact⟨keq_eq z1 z2 hl hl' (r:=b) u2 (λJ=>Df n e r r' u1) (by rw[hb];exact eL),keq_ne z1 z2 hl hl' (r:=b) u2 (λJ=>Df n e r r' u1) (by rw[hb];exact eL)⟩
 ·refine cK (d5.mp r) ?_;rintro l rfl _ z1 vs hl r
  refine cK (d5.mp r') ?_;rintro l' rfl _ z2 us hl' r';exact⟨keq_eq z1 z2 hl hl' (r:=false) u2 (λq=>absurd (r.length.trans (q.trans r'.length.symm)) z) (by rw[i8];exact eL),
   keq_ne z1 z2 hl hl' (r:=false) u2 (λq=>absurd (r.length.trans (q.trans r'.length.symm)) z) (by rw[i8];exact eL)⟩
theorem oD{a:PV}{q:Int×Int}(e:AJ a=some q):a=.tup [.int q.1,.int q.2]:=by
 refine b9 e λl hl e=>?_;rw[kq hl]
 cases l with
 |nil=>exact nn e
 |cons x l=>cases l with
  |nil=>exact nn e
  |cons y l=>cases l with
   |nil=>exact bY e λi j hi hj e=>by rw[jy hi,jy hj,bD e]
   |cons _ _=>exact nn e
def rH(G:GX ag w)(A:Around)(s:Shared)(op:CmpOp)(va vb:Value)(b:Bool):Prop:=wpAny (model ag w) A (compareOp op va vb) (wP s b) EF s
theorem mw{op:CmpOp}{f:Int->Int->Bool}{a b:PV}{va vb:Value}{c:Bool}(e:Ae f a b=some c)(ra:G.Rep s.heap V a va)(rb:G.Rep s.heap V b vb)(k:∀x y t u,rH G A s op (.int x t) (.int y u) (f x y)):rH G A s op va vb c:=
 bY e λx y hx hy e=>by
  refine xE (j5 hx ra) ?_;rintro t rfl;refine xE (j5 hy rb) ?_;rintro u rfl;rw[bD e];exact k x y t u
theorem sm{op:CmpOp}{f:Int->Int->Bool}{a b:PV}{va vb:Value}{c:Bool}(e:I9 f a b=some c)(ra:G.Rep s.heap V a va)(rb:G.Rep s.heap V b vb)(k:∀x y t u,rH G A s op (.int x t) (.int y u) (f x y))
  (k2:∀(x y:Addr) (a b c d:Int) (t1 t2 u1 u2:Tok),s.heap.IsTuple x #[.int a t1,.int b t2]->s.heap.IsTuple y #[.int c u1,.int d u2]->rH G A s op (.ref x) (.ref y) (oi f a b c d)):rH G A s op va vb c:=by
 cases a with
 |int x=>exact mw (f:=f) (a:=.int x) (md (C:=λc=>Ae f (.int x) b=some c) e λy hy=>gg rfl hy) ra rb k
 |tup l=>
  refine bY e λp q hp hq e=>?_;refine l9 (rJ (oD hp▸ra)) ?_;rintro x t1 t2 rfl hx;refine l9 (rJ (oD hq▸rb)) ?_;rintro y u1 u2 rfl hy;rw[bD e];exact k2 _ _ _ _ _ _ _ _ _ _ hx hy
 |_=>exact nn e
theorem BC{n:Nat}{op:CmpOp}{p q:PV}{va vb:Value}{b:Bool}(e:Hc n op p q=some b)(x:G.Rep s.heap V p va)(y:G.Rep s.heap V q vb)(hu:A.units+n < cLine):rH G A s op va vb b:=by
 have hu':A.units < cLine:=Nat.lt_of_le_of_lt (bJ _ _) hu
 cases op with
 |Eq=>exact(uc e x y hu).1
 |NotEq=>exact md (C:=rH G A s .NotEq va vb) e λc hc=>(uc hc x y hu).2
 |Lt=>exact sm e x y (λJ J J J=>PyProof.Rows.lt_int eL) λJ J J J J J J J J J hx hy=>wO hu' hx hy eL
 |LtE=>exact mw e x y λJ J J J=>PyProof.Rows.le_int eL
 |Gt=>exact sm e x y (λJ J J J=>PyProof.Rows.gt_int eL) λJ J J J J J J J J J hx hy=>xt hu' hx hy eL
 |GtE=>exact mw e x y λJ J J J=>PyProof.Rows.ge_int eL
 |Is=>exact(sI e x y).1
 |IsNot=>exact md (C:=rH G A s .IsNot va vb) e λc hc=>(sI hc x y).2
 |In=>exact(lg e x (.inl y)).1
 |NotIn=>exact md (C:=rH G A s .NotIn va vb) e λc hc=>(lg hc x (.inl y)).2
end
end Mine
end
section
namespace Mine
section
variable{A:Around}{s:Shared}{V:Addr->Prop}
theorem vL{k:Int}{n i:Nat}{C:Prop}(e:eF k n=some i)(hn:k < 0->-(n:Int)<=k->i=(k+n).toNat->C)(hp:¬k < 0->k < n->i=k.toNat->C):C:=by
 by_cases q:k < 0
 ·exact fz ((if_pos q).symm.trans e) λh e=>hn q h (bD e)
 ·exact fz ((if_neg q).symm.trans e) λh e=>hp q h (bD e)
theorem lV{k:Int}{n i:Nat}(e:eF k n=some i):seqIndex? k n=some i/\i < n:=
 vL e (λh1 h2 h=>by rw[h];exact⟨seqIndex_neg h1 (by exact(pz [_] [_] 0x0E03C2C00E03C2C0) h2),by exact(pz [_] [_] 0x1D02CA2C000E03C2C01E080) h1 h2⟩) λh1 h2 h=>by rw[h];exact⟨seqIndex_of (by exact(pz [] [_] 0x0E0082F1E080) h1) h2,by exact(pz [_] [_] 0x1D02C01E2C002F1E080) h1 h2⟩
theorem nQ{k:Int}{n i:Nat}(e:eF k n=some i)(h:n<=1048576):-(2 ^ 63)<=k/\k < 2 ^ 63:=
 vL e (λh1 h2 J=>by lia) λh1 h2 J=>by lia
theorem DO{vs:List Value}{j:Nat}{v:Value}(h:vs[j]?=some v):vs.toArray[j]?=some v:=List.getElem?_toArray.trans h
def r6(G:GX ag w)(A:Around)(s:Shared)(V:Addr->Prop)(vc vi:Value)(p:PV):Prop:=wpAny (model ag w) A (getItem vc vi) (ca G V s p) EF s
theorem C7{l:List PV}{vc:Value}{k:Int}{t:Tok}{p:PV}(rc:ej G s.heap V (.lst l) vc)(e:(if l.length<=1048576 then(eF k l.length).bind (l[·]?) else none)=some p):r6 G A s V vc (.int k t) p:=by
 refine fz e λhz e=>b9 e λj hj hp=>?_;refine g7 (eB rc) ?_;rintro a rfl vs hl r;refine bC (RepL.get r hp) ?_;intro v hv rv;have e1:=RepL.length r;have fit:=nQ hj hz;have hq:ca G V s p v s:=⟨rv,cR.refl _ _⟩;refine vL hj (λh0 h1 h2=>?_) λh0 h1 h2=>?_
 ·exact wpAny_getItem_list_neg hl.isList h0 (by rw[aF,<- e1];exact h1) fit.1 (x:=v) (by rw[aF,<- e1,<- h2];exact DO hv) hq
 ·exact wpAny_getItem_list hl.isList (d2.mp h0) fit.2 (x:=v) (by rw[<- h2];exact DO hv) hq
theorem DV{l:List PV}{vc:Value}{k:Int}{t:Tok}{p:PV}(rc:ej G s.heap V (.tup l) vc)(e:(if l.length<=1048576 then(eF k l.length).bind (l[·]?) else none)=some p):r6 G A s V vc (.int k t) p:=by
 refine fz e λhz e=>b9 e λj hj hp=>?_;refine g7 (kK rc) ?_;rintro a rfl vs hl r;refine bC (RepL.get r hp) ?_;intro v hv rv;have fit:=nQ hj hz;exact PyProof.Rows.getItem_tuple (items:=vs.toArray) (j:=j) hl fit.1 fit.2 (by rw[aF,<- RepL.length r];exact(lV hj).1) (x:=v) (DO hv) ⟨rv,cR.refl _ _⟩
theorem DB{x:Str}{vc:Value}{k:Int}{t:Tok}{p:PV}(rc:ej G s.heap V (.str x) vc)(e:(if x.length<=1048576 then(eF k x.length).map λi=>.str (FQ x i) else none)=some p):r6 G A s V vc (.int k t) p:=by
 refine fz e λhz e=>md (C:=r6 G A s V vc (.int k t)) e λj hj=>?_;refine xE (kw rc) ?_;rintro t rfl;refine xA (lV hj) ?_;intro h1 h2;have fit:=nQ hj hz;have hc:x.cps[j]?=some x.cps[j]:=cn h2;refine PySem.P.getItem_str (c:=x.cps[j]) (by clear e hz hj h1 h2 hc;simp;lia) (by rw[h1];exact hc) ⟨df.mpr ⟨s.toks,?_⟩,Kp.toks⟩;unfold FQ;rw[hc];rfl
theorem CP{l:List (Int×PV)}{vc:Value}{k:Int}{t:Tok}{p:PV}(rc:ej G s.heap V (.dct l) vc)(e:eH l k=some p):r6 G A s V vc (.int k t) p:=by
 refine bx (oV rc) ?_;rintro a rfl _ kvs hd r;have g:=RepD.get k r;rw[e]at g;refine bC g ?_;clear g;intro v hv rv;exact wpAny_getItem_of (knd:=intKind ag w) (k:=k) jl hd.mapOf hv ⟨rv,Kp.toks⟩
theorem ni{c i p:PV}{vc vi:Value}(e:item c i=some p)(rc:ej G s.heap V c vc)(ri:G.Rep s.heap V i vi):r6 G A s V vc vi p:=by
 refine b9 e λk hk e=>?_;refine xE (j5 hk ri) ?_;rintro t rfl
 cases c with
 |lst l=>exact C7 rc e
 |tup l=>exact DV rc e
 |dct l=>exact CP rc e
 |str x=>exact DB rc e
 |_=>exact nn e
theorem Ca(jA:Expr)(o i:Value):∃l,subscripted jA false o i=operate l (getItem o i):=by
 cases jA with
 |Slice a b c p=>cases c<;>exact⟨_,rfl⟩
 |_=>exact⟨_,rfl⟩
set_option tactic.hygienic true in
theorem AZ{value jA:Expr}{o i:Value}{T id:String}{Q:Value->Shared->Prop}{E:Value->Shared->Prop}(hT:s.TypeIs o T)(hl:typeLookup (.type T) "__getitem__"=pure (some (.builtin id)))
  (h:wpAny (model ag w) A (getItem o i) Q E s):wpAny (model ag w) A (subscriptTail value jA o i) Q E s:=by
 unfold subscriptTail;refine wpAny_bind ?_;rw[getitemInPython_of_ne hT.not_modules];refine wpAny_bind (wpAny_specialOf hT hl ?_);have fin:wpAny (model ag w) A (subscripted jA false o i) (λr cE=>wpAny (model ag w) A (letTemporaryGo value o r >>= λJ=>pure r) Q E cE) E s:=by
  refine xE (Ca jA o i) ?_;intro l e;rw[e];exact wpAny_operating (wpAny_mono h (λr cE tQ=>wpAny_bind (wpAny_letTemporaryGo (wpAny_pure tQ))) λJ J x=>x)
 first
  |exact wpAny_pure (wpAny_bind fin)
  |exact wpAny_bind (wpAny_pure (wpAny_bind fin))
  |exact wpAny_bind fin
noncomputable def o4:PV->Bool
 | .lst _=>true
 | .tup _=>true
 | .dct _=>true
 | .str _=>true
 |_=>false
theorem G7{c:PV}{vc:Value}(rc:ej G s.heap V c vc)(hc:o4 c=true):∃T id,s.TypeIs vc T/\typeLookup (.type T) "__getitem__"=pure (some (.builtin id)):=by
 cases c with
 |str x=>refine xE (kw rc) ?_;rintro t rfl;exact⟨_,_,typeIs_str s _ t,F.slot_str_getitem.lookup⟩
 |tup l=>refine g7 (kK rc) ?_;rintro a rfl vs ⟨o,ho,hc,_⟩ _;exact⟨"tuple",_,⟨o,ho,hc⟩,slot_tuple_getitem.lookup⟩
 |lst l=>refine g7 (eB rc) ?_;rintro a rfl vs hl _;exact⟨_,_,hl.isList.typeIs,slot_list_getitem.lookup⟩
 |dct l=>refine bx (oV rc) ?_;rintro a rfl _ kvs hl _;exact⟨_,_,hl.mapOf.typeIs,slot_dict_getitem.lookup⟩
 |_=>exact nomatch (show false=true from hc)
theorem Dk{c:PV}{vc vi:Value}{value jA:Expr}{Q:Value->Shared->Prop}{E:Value->Shared->Prop}(rc:ej G s.heap V c vc)(h:wpAny (model ag w) A (getItem vc vi) Q E s)
  (hc:o4 c=true):wpAny (model ag w) A (subscriptTail value jA vc vi) Q E s:=by
 refine fL (G7 rc hc) ?_;intro T id hT hl;exact AZ hT hl h
theorem vj{α:Type}(l:List α)(a b:Option Int):qK l a b=(l.drop ((a.map (cT · l.length)).getD 0)).take ((b.map (cT · l.length)).getD l.length - (a.map (cT · l.length)).getD 0):=by
 unfold qK;rw[List.drop_take]
theorem mS(k:Int)(n:Nat):((cT k n:Nat):Int)=max 0 (min (if k < 0 then k+n else k) n):=by
 unfold cT;by_cases h:k < 0
 ·rw[if_pos h,if_pos h,Int.min_eq_left (by omega),Int.max_comm];exact Int.ofNat_toNat _
 ·rw[if_neg h,if_neg h]
  refine xE (nL (d2.mp h)) ?_;intro m e;rw[e,mH];have e2:((min m n:Nat):Int)=min (m:Int) (n:Int):=by
   rcases kU m n with q|q
   ·rw[iu q,Int.min_eq_left (kW.mpr q)]
   ·rw[nI q,Int.min_eq_right (kW.mpr q)]
  rw[<- e2];exact(Int.max_eq_right (lO _)).symm
theorem pR(a b:Option Int)(n:Nat):sliceBounds a b none n=((((a.map (cT · n)).getD 0:Nat):Int),(((b.map (cT · n)).getD n:Nat):Int),1):=by
 cases a with
 |none=>cases b with
  |none=>rfl
  |some b=>show((0:Int),_,(1:Int))=((0:Int),((cT b n:Nat):Int),1);rw[mS];rfl
 |some a=>cases b with
  |none=>show(_,(n:Int),(1:Int))=(((cT a n:Nat):Int),(n:Int),1);rw[mS];rfl
  |some b=>show(_,_,(1:Int))=(((cT a n:Nat):Int),((cT b n:Nat):Int),1);rw[mS,mS];rfl
theorem tO(items:Array Value)(a b:Option Int):slicePick items a b none=(qK items.toList a b).toArray:=by
 unfold slicePick;rw[pR,sliceRange_one,pick_run,vj];simp
theorem C9{h:Heap}{ps:List PV}{vs:List Value}(a b:Option Int)(r:G.RepL h V ps vs):G.RepL h V (qK ps a b) (qK vs a b):=by
 unfold qK;rw[<- RepL.length r];exact RepL.drop _ (RepL.take _ r)
theorem vm(x:Str)(a b:Option Int):((Builtin.Str.strSliceIndices a b 1 x.length).filterMap (x.cps[·]?))=qK x.cps.toList a b:=by
 have e:Builtin.Str.strSliceIndices a b 1 x.length=sliceRange (sliceBounds a b none x.length).1 (sliceBounds a b none x.length).2.1 1:=by
  unfold Builtin.Str.strSliceIndices sliceBounds
  cases a<;>cases b<;>simp
 rw[e,pR,sliceRange_one,pick_run,vj];simp[Str.length]
end
end Mine
end
section
namespace Mine
section
variable{A:Around}{s:Shared}{V:Addr->Prop}
theorem Jp(b:Option Int)(n:Nat):((b.map (cT · n)).getD n)<=n:=by
 cases b with
 |none=>simp
 |some k=>simp only[pp,eU,cT];split<;>lia
theorem Cr(a b:Option Int)(n:Nat):(Builtin.Str.strSliceIndices a b 1 n).length=(b.map (cT · n)).getD n - (a.map (cT · n)).getD 0:=by
 have e:Builtin.Str.strSliceIndices a b 1 n=sliceRange (sliceBounds a b none n).1 (sliceBounds a b none n).2.1 1:=by
  cases a<;>cases b<;>rfl
 rw[e,pR,sliceRange_one,aa,bZ]
theorem Av{α:Type}(l:List α)(a b:Option Int):(qK l a b).Sublist l:=by
 rw[vj];exact(List.take_sublist _ _).trans (List.drop_sublist _ _)
theorem EO{x:Str}{a b:Option Int}(h:(Builtin.Str.strSliceIndices a b 1 x.length).length=x.length):qK x.cps.toList a b=x.cps.toList:=by
 refine(Av _ a b).eq_of_length ?_;rw[Cr]at h;have hb:=Jp b x.length;have e:x.cps.toList.length=x.length:=bG;rw[vj,bK,eV,e];generalize(a.map (cT · x.length)).getD 0=lo at h;generalize(b.map (cT · x.length)).getD x.length=hi at h hb;exact(pn [_,_,_] 0x2D20CB12B100D202D2B10) h hb
set_option tactic.hygienic true in
theorem Cf{x:Str}{t:Tok}{sl:Addr}{l u:Option (Int×Tok)}(hz:x.length<=1048576)(hs:s.heap.IsSlice sl l u none):
  wpAny (model ag w) A (getItem (.str x t) (.ref sl)) (ca G V s (.str ⟨(qK x.cps.toList (l.map (·.1)) (u.map (·.1))).toArray⟩)) EF s:=by
 refine wpAny_getItem_str_slice hs rfl ?_;unfold sliceMade slicePicked;generalize l.map (·.1)=a;generalize u.map (·.1)=b;split
 ·rename_i hc
  rw[EO (eq_of_beq (Bool.and_eq_true_iff.mp hc).2)];exact⟨df.mpr ⟨t,rfl⟩,cR.refl _ _⟩
 ·show Made.post (.str ⟨((Builtin.Str.strSliceIndices a b 1 x.length).filterMap (x.cps[·]?)).toArray⟩) _ s
  rw[vm x a b];refine⟨?_,df.mpr ⟨s.toks,rfl⟩,Kp.toks⟩;rw[bn];refine aD (?_:(qK x.cps.toList a b).toArray.size<=_) (aD hz (by decide));rw[aF];exact aD (Av _ a b).length_le (gA bG)
theorem zy{l:List PV}{v:Value}{sl:Addr}{a b:Option Int}{va vb:Value}(lo:eu V s.heap)(hz:l.length<=1048576)(rc:ej G s.heap V (.lst l) v)(hs:s.heap.IsSliceOf sl va vb .none)(pa:IsPart va a)(pb:IsPart vb b):
  wpAny (model ag w) A (getItem v (.ref sl)) (ca G V s (.lst (qK l a b))) EF s:=by
 refine g7 (eB rc) ?_;rintro d rfl vs hl r;have e1:=RepL.length r;refine wpAny_getItem_list_slice hl.isList hs pa pb .none (by simp) ?_ (by rw[bn,aF];exact(pn [_,_] 0x0D010000004912D100D100000390) hz e1);rw[tO];exact jr (tk:=s.toks) lo (C9 a b r)
theorem ER{b n:Nat}(h:b<=n):Builtin.Slice.sliceAdjust none (some (b:Int)) 1 (n:Int)=(0,(b:Int)):=by
 unfold Builtin.Slice.sliceAdjust;have h2:¬((b:Int) < 0):=by exact pn [_] 0x2F1E082C0
 simp only[show ¬((1:Int) < 0) by decide,h2,if_false];congr 1;exact(pn [_,_] 0x2E2C00C2C12C00D10) h
theorem xm(b:Nat):Builtin.Slice.slicePlaces (0:Int) (b:Int) 1=b:=by
 unfold Builtin.Slice.slicePlaces;simp only[show(1:Int) > 0 by decide,if_true,Int.ediv_one];split<;>lia
theorem B8(vs:List Value)(b:Nat):((aI b).filterMap λ(k:Nat)=>vs.toArray[((0:Int)+(k:Int) * 1).toNat]?).toArray=(vs.take b).toArray:=by
 have e:(λ(k:Nat)=>vs.toArray[((0:Int)+(k:Int) * 1).toNat]?)=(λx=>vs.toArray[x]?) ∘ λx=>0+x:=by
  funext k;show vs.toArray[((0:Int)+(k:Int) * 1).toNat]?=vs.toArray[0+k]?;rw[show((0:Int)+(k:Int) * 1).toNat=0+k by lia]
 rw[e,<- List.filterMap_map,pick_run vs.toArray 0 b,List.drop_zero]
theorem Cl{l:List PV}{v:Value}{sl:Addr}{b:Nat}{t:Tok}(lo:eu V s.heap)(hz:l.length<=1048576)(hb:b < l.length)(rc:ej G s.heap V (.tup l) v)(hs:s.heap.IsSliceOf sl .none (.int b t) .none):
  wpAny (model ag w) A (getItem v (.ref sl)) (ca G V s (.tup (l.take b))) EF s:=by
 refine g7 (kK rc) ?_;rintro d rfl vs ht r;have e1:=RepL.length r;have ht:IsTup s.heap d vs.toArray:=ht;refine fJ (id hs) ?_;intro os hos hcs hds;have hTs:s.TypeIs (.ref sl) "slice":=⟨os,hos,hcs⟩;unfold getItem
 try with_reducible refine wpAny_holding ?_
 first|refine wpAny_bind (wpAny_pure ?_)|skip
 refine wpAny_bind (wpAny_sequenceKey ht.typeIs (by decide) ?_);refine wpAny_bind (wpAny_callSpecial?_slot (name:=Str.ofString "__getitem__") ht.typeIs slot_tuple_getitem
  (wpAny_call_entry slot_tuple_getitem ht.typeIs entry_tuple_getitem ?_ (args_tuple_getitem _ _)))
 show wpAny _ _ (Builtin.Tuple.tupleItemsOf (.ref d) >>= _) _ _ s;refine wpAny_bind (tupleItemsOf_ ht ?_);refine wpAny_bind (wpAny_typeOf hTs ?_);rw[if_pos (by decide)];have applied:∀{Q:Int×Int×Nat->Shared->Prop}{E:Value->Shared->Prop},Q (0,1,b) s->wpAny (model ag w) A.in1 (Builtin.Slice.sliceApplied (.ref sl) (pure (vs.toArray.size:Int))) Q E s:=by
  intro Q E h;unfold Builtin.Slice.sliceApplied Builtin.Slice.sliceFields;refine wpAny_bind (wpAny_bind (wpAny_field hos hds (x:=.none) rfl (wpAny_bind (wpAny_field hos hds (x:=.int b t) rfl (wpAny_bind (wpAny_field hos hds (x:=.none) rfl (wpAny_pure ?_)))))));refine wpAny_bind (slicePart_none ?_);show wpAny _ _ (if((1:Int) == 0)=true then _ else _) _ _ s;rw[if_neg (by decide)];refine wpAny_bind (slicePart_none (wpAny_bind (slicePart_int (wpAny_bind (wpAny_pure ?_)))));show wpAny _ _ (match Builtin.Slice.sliceAdjust none (some (b:Int)) 1 (vs.toArray.size:Int) with|(lo,hi)=>pure (lo,(1:Int),Builtin.Slice.slicePlaces lo hi 1)) _ _ s;have h1:Builtin.Slice.sliceAdjust none (some (b:Int)) 1 (vs.toArray.size:Int)=(0,(b:Int)):=ER (by rw[aF];exact(pn [_,_,_] 0x0D202D211D10) hb e1);rw[h1];show wpAny _ _ (pure ((0:Int),(1:Int),Builtin.Slice.slicePlaces (0:Int) (b:Int) 1)) _ _ s;have h2:=xm b;rw[h2];exact wpAny_pure h
 refine wpAny_bind (applied ?_);have hno:¬(((0:Int) == 0 && (1:Int) == 1 && b == vs.toArray.size)=true):=by
  have:(b == vs.toArray.size)=false:=by rw[beq_eq_false_iff_ne,aF];exact(pn [_,_,_] 0x2F2D202D211D10) hb e1
  rw[this];simp
 show wpAny _ _ (if((0:Int) == 0 && (1:Int) == 1 && b == vs.toArray.size)=true then _ else _) _ _ s;rw[if_neg hno];have hp:=B8 vs b;rw[hp];have hq:ca G V s (.tup (l.take b)) (.ref s.heap.objs.size) { s with heap:=s.heap.push { cls:=.type "tuple",data:=.seq (vs.take b).toArray } }:=lY (tk:=s.toks) lo (RepL.take _ r)
 have hsz:sizeOk (.seq (vs.take b).toArray):=by
  show(vs.take b).toArray.size<=sizeLine;rw[aF,bK,bn];exact(pn [_,_,_] 0x0D01000000490C212D201D010D100000390) hz hb e1
 first
  |exact wpAny_bind (m:=Builtin.Tuple.tupleExact _) (wpAny_newObj_type (wpAny_pure ⟨_,rfl,wpAny_pure hq⟩) hsz)
  |exact wpAny_bind (m:=Builtin.Tuple.tupleExact _) (wpAny_newObj_type (wpAny_bind (wpAny_pure (wpAny_pure ⟨_,rfl,wpAny_pure hq⟩))) hsz)
  |exact wpAny_bind (wpAny_bind (m:=Builtin.Tuple.tupleExact _) (wpAny_newObj_type (wpAny_pure (wpAny_pure ⟨_,rfl,wpAny_pure hq⟩)) hsz))
  |exact wpAny_bind (wpAny_bind (m:=Builtin.Tuple.tupleExact _) (wpAny_newObj_type (wpAny_pure ⟨_,rfl,wpAny_pure hq⟩) hsz))
end
end Mine
end
section
namespace Mine
section
variable{A:Around}{s:Shared}{V:Addr->Prop}
structure ku(G:GX ag w)(A:Around)(I:Addr)(wr:List Addr)(St:Nat->Heap->Prop)(V:Addr->Prop)(t:Expr)(items:List PV):Prop where
 sub:∀b∈wr,V b
 ex:∀i h,St i h->∀b∈wr,h.get? b≠none
 frame:∀i h h',St i h->(∀b o,(¬V b\/b∈wr)->h.get? b=some o->h'.get? b=some o)->St i h'
 item:∀(i:Nat) (s:Shared) (p:PV),items[i]?=some p->St i s.heap ->
  wpAny (model ag w) A (pyNext (.ref I)) (λr aH=>∃v,r=some v/\wpAny (model ag w) A (letOwnedTupleGo t (.ref I) v) (λJ s'=>(∀V':Addr->Prop,eu V' s.heap->(∀a,V' a->V a)->G.Rep s'.heap V' p v)/\St (i+1) s'.heap/\cR (·∈wr) s s') EF aH) EF s
 done:∀(s:Shared),St items.length s.heap->wpAny (model ag w) A (pyNext (.ref I)) (λr s'=>r=none/\cR (·∈wr) s s') EF s
 self:∀(i:Nat) (s:Shared),St i s.heap->wpAny (model ag w) A (pyIter (.ref I)) (λv s'=>v=.ref I/\s'=s) EF s
theorem ku.ofWalks{I:Addr}{fp wr:List Addr}{n:Nat}{P:Nat->Value->Prop}{St:Nat->Heap->Prop}{t:Expr}{items:List PV}(W:Walks ag w A I fp wr n P St)(R:Heap->Prop)
  (hn:items.length=n) (hw:∀b∈wr,V b) (hf:∀b∈fp,¬V b\/b∈wr) (fR:∀h h',R h->(∀b o,¬V b->h.get? b=some o->h'.get? b=some o)->R h')
  (rep:∀(i:Nat) (p:PV) (v:Value) (h:Heap),items[i]?=some p->P i v->R h->G.Rep h V p v)
  (go:∀(i:Nat) (s:Shared) (v:Value) (Q:Unit->Shared->Prop),P i v->St (i+1) s.heap->Q () s->wpAny (model ag w) A (letOwnedTupleGo t (.ref I) v) Q EF s)
  (ex:∀i h,St i h->∀b∈wr,h.get? b≠none) (np:PT ∉ wr) :
  ku G A I wr (λi h=>St i h/\R h) V t items where
 sub:=hw
 ex:=λi h x=>ex i h x.1
 frame:=λi h h' x k=>⟨W.frame i h h' x.1 λb hb o e=>k b o (hf b hb) e,fR h h' x.2 λb o nb e=>k b o (.inl nb) e⟩
 item:=λi s p hp x=>by
  have hi:i < n:=by rw[<- hn];exact(au.mp hp).1
  refine W.item i s _ _ hi x.1 λv h' tk hP st' hk=>⟨v,rfl,go i _ v _ hP st' ?_⟩;have hr:R h':=fR _ _ x.2 λb o nb e=>hk b o (λhb=>nb (hw b hb)) e;exact⟨λV' J m=>Rep.keep (bI.refl _ _) (λa J q=>m a q) (rep i p v h' hp hP hr),⟨st',hr⟩,cR.of np λb o nb e=>hk b o nb e⟩
 done:=λs x=>W.done s _ _ (hn▸x.1) λh' tk hk=>⟨rfl,cR.of np λb o nb e=>hk b o nb e⟩
 self:=λi s x=>W.self i s _ _ x.1 ⟨rfl,rfl⟩
theorem ku.ofPairs{I:Addr}{fp wr:List Addr}{n:Nat}{Pt:Nat->Array Value->Prop}{St:Nat->Heap->Prop}{Mid:Nat->Addr->Heap->Prop}{es:List Expr}{k:Nat}{pos:Pos}{items:List PV}(W:WalksT ag w A I fp wr n Pt St Mid)(R:Heap->Prop)
  (hn:items.length=n) (hw:∀b∈wr,V b) (hf:∀b∈fp,¬V b\/b∈wr) (fR:∀h h',R h->(∀b o,¬V b->h.get? b=some o->h'.get? b=some o)->R h')
  (rep:∀(i:Nat) (p:PV) (vs:Array Value) (h:Heap),items[i]?=some p->Pt i vs->R h->∃ps,p=.tup ps/\G.RepL h V ps vs.toList)
  (ex:∀i h,St i h->∀b∈wr,h.get? b≠none) (np:PT ∉ wr) :
  ku G A I wr (λi h=>St i h/\R h) V (.Tuple es k pos) items where
 sub:=hw
 ex:=λi h x=>ex i h x.1
 frame:=λi h h' x k=>⟨W.frame i h h' x.1 λb hb o e=>k b o (hf b hb) e,fR h h' x.2 λb o nb e=>k b o (.inl nb) e⟩
 item:=λi s p hp x=>by
  have hi:i < n:=by rw[<- hn];exact(au.mp hp).1
  refine W.item i s _ _ hi x.1 λT vs h' tk hP hTl hT mid hk=>⟨.ref T,rfl,?_⟩;refine W.go es k pos i T _ _ _ mid λh'' st' hk'=>?_;have hr:R h'':=fR _ _ (fR _ _ x.2 λb o nb e=>hk b o (λhb=>nb (hw b hb)) e) λb o nb e=>hk' b o (λhb=>nb (hw b hb)) e;refine bC (rep i p vs h'' hp hP hr) ?_;rintro ps rfl rps;have hTV:∀V':Addr->Prop,eu V' s.heap->¬V' T:=λV' lo hv=>lo.some hv (by
   cases e:s.heap.get? T with
   |none=>rfl
   |some o=>exact absurd (aN e) (bT.mpr hTl))
  have hTw:T ∉ wr:=W.apart i T h' mid;refine⟨λV' lo m=>ez.mpr ⟨T,rfl,hTV V' lo,vs.toList,?_,RepL.keep (bI.refl _ _) (λa J q=>m a q) rps⟩,⟨st',hr⟩,cR.of np λb o nb e=>hk' b o nb (hk b o nb e)⟩;refine bC hT ?_;clear hT;intro o ho r;exact⟨o,hk' _ _ hTw ho,r⟩
 done:=λs x=>W.done s _ _ (hn▸x.1) λh' tk hk=>⟨rfl,cR.of np λb o nb e=>hk b o nb e⟩
 self:=λi s x=>W.self i s _ _ x.1 ⟨rfl,rfl⟩
noncomputable def jg(G:GX ag w)(A:Around)(V:Addr->Prop)(t:Expr)(items:List PV)(s:Shared):Value->Shared->Prop:=λit aX=>
 ∃I wr,it=.ref I/\Kp s aX/\(∀b∈wr,s.heap.get? b=none/\aX.heap.get? b≠none) /\
  ∀U:Addr->Prop,(∀a,aX.heap.get? a≠none->U a->V a\/a∈wr)->(∀b∈wr,U b)->∃St,St 0 aX.heap/\ku G A I wr St U t items
theorem dn{l:List Value}{i:Nat}{v:Value}(e:l.toArray[i]?=some v):l[i]?=some v:=by simpa using e
theorem RepL.at{cl:cF}{h:Heap}{ps:List PV}{vs:List Value}{i:Nat}{p:PV}{v:Value}(r:RepL ag w cl h V ps vs)(hp:ps[i]?=some p)(hv:vs[i]?=some v):Rep ag w cl h V p v:=by
 refine bC (RepL.get r hp) ?_;intro v' a b;rw[hv]at a;cases a;exact b
theorem dC:s.heap.get? s.heap.objs.size=none:=by
 cases e:s.heap.get? s.heap.objs.size with
 |none=>rfl
 |some o=>exact absurd (aN e) (Nat.lt_irrefl _)
theorem ii{o:Obj}{t:Expr}{items:List PV}(lo:eu V s.heap)(hf:o.isFreed=false)
  (W:∀U:Addr->Prop,(∀a,s.heap.get? a≠none->U a->V a)->U s.heap.objs.size->PT ∉ [s.heap.objs.size]->∃St,St 0 (s.heap.push o)/\ku G A s.heap.objs.size [s.heap.objs.size] St U t items):jg G A V t items s (.ref s.heap.objs.size) { s with heap:=s.heap.push o }:=
 ⟨_,_,rfl,dF (tk:=s.toks),λb hb=>by
  rw[aA.mp hb];exact⟨dC,by show(s.heap.push o).get? _≠none;rw[ay _ hf];simp⟩,λU gr hU=>W U (λa e ua=>by
   refine(gr a ?_ ua).elim id λq=>absurd (aA.mp q▸dC) e
   cases g:s.heap.get? a with
   |none=>exact absurd g e
   |some o'=>show(s.heap.push o).get? a≠none;rw[af _ g];simp) (hU _ (.head _)) λq=>lo.tab.some (aA.mp q▸dC)⟩
theorem ve{U:Addr->Prop}{I d:Addr}(nU:¬U d):∀b∈[I,d],¬U b\/b∈[I]:=λb hb=>by
 rcases ai.mp hb with rfl|hb
 ·exact .inr (.head _)
 ·rw[aA.mp hb];exact .inl nU
theorem gQ{U:Addr->Prop}{I:Addr}(h:U I):∀b∈[I],U b:=λb hb=>by rw[aA.mp hb];exact h
theorem bw{h:Heap}{a:Addr}{o:Obj}(e:h.get? a=some o):h.get? a≠none:=by rw[e];simp
theorem Bd{l:List PV}{v:Value}{t:Expr}(hh:A.handled=none)(lo:eu V s.heap)(r:G.Rep s.heap V (.lst l) v):wpAny (model ag w) A (pyIter v) (jg G A V t l s) EF s:=by
 refine bx (dP.mp r) ?_;rintro a rfl nV vs hl r;refine wpAny_pyIter_list hl.isList ?_;have hlt:a < s.heap.objs.size:=by refine xE hl ?_;clear hl;intro n e;exact aN e
 have hne:a≠s.heap.objs.size:=be hlt;have hex:s.heap.get? a≠none:=by refine xE hl ?_;clear hl;intro n e;exact bw e
 refine ii lo rfl λU gr hU np=>⟨λi h=>(h.IsListIter s.heap.objs.size a i/\h.IsList a vs.toArray)/\G.RepL h U l vs,⟨⟨⟨_,ay _ rfl,rfl,rfl⟩,?_⟩,?_⟩,?_⟩
 ·refine bC hl.isList ?_;intro o ho q;exact⟨o,af _ ho,q⟩
 ·exact RepL.keep (λb o J e=>af _ e) gr r
 ·refine .ofWalks (Walks.list hh _ _ hne vs.toArray) _ (by rw[aF];exact RepL.length r) (gQ hU) (ve λq=>nV (gr _ hex q)) (λh h' x k=>RepL.keep (λb o n e=>k b o n e) (λJ J x=>x) x) (λi p v h hp hv hr=>RepL.at hr hp (dn hv)) (λi s' v Q J st q=>letGo_listiter st.1 q) (λi h x=>let⟨_,ho,_⟩:=x.1;gQ (U:=λb=>h.get? b≠none) (bw ho)) np
theorem Ev{l:List PV}{v:Value}{t:Expr}(hh:A.handled=none)(lo:eu V s.heap)(r:G.Rep s.heap V (.tup l) v):wpAny (model ag w) A (pyIter v) (jg G A V t l s) EF s:=by
 refine bx (ez.mp r) ?_;rintro a rfl nV vs hl r;refine wpAny_pyIter_tuple hl ?_;have hlt:a < s.heap.objs.size:=by refine bC hl ?_;clear hl;intro n e _;exact aN e
 have hne:a≠s.heap.objs.size:=be hlt;have hex:s.heap.get? a≠none:=by refine bC hl ?_;clear hl;intro n e _;exact bw e
 refine ii lo rfl λU gr hU np=>⟨λi h=>(h.IsTupleIter s.heap.objs.size a i/\h.IsTuple a vs.toArray)/\G.RepL h U l vs,⟨⟨⟨_,ay _ rfl,rfl,rfl⟩,?_⟩,?_⟩,?_⟩
 ·refine bC hl ?_;clear hl;intro o ho q;exact⟨o,af _ ho,q⟩
 ·exact RepL.keep (λb o J e=>af _ e) gr r
 ·refine .ofWalks (Walks.tuple hh _ _ hne vs.toArray) _ (by rw[aF];exact RepL.length r) (gQ hU) (ve λq=>nV (gr _ hex q)) (λh h' x k=>RepL.keep (λb o n e=>k b o n e) (λJ J x=>x) x) (λi p v h hp hv hr=>RepL.at hr hp (dn hv)) (λi s' v Q J st q=>letGo_tupleiter st.1 q) (λi h x=>let⟨_,ho,_⟩:=x.1;gQ (U:=λb=>h.get? b≠none) (bw ho)) np
end
end Mine
end
section
namespace Mine
section
variable{A:Around}{s:Shared}{V:Addr->Prop}
theorem ux{t:Expr}{I:Addr}{v:Value}{Q:Unit->Shared->Prop}{E:Value->Shared->Prop}(hv:∀a,v≠.ref a)(h:Q () s):wpAny (model ag w) A (letOwnedTupleGo t (.ref I) v) Q E s:=by
 unfold letOwnedTupleGo
 cases t<;>first
  |exact wpAny_pure h
  |(cases v<;>first
    |exact wpAny_pure h
    |exact absurd rfl (hv _))
theorem RepD.keep'{cl:cF}{h h':Heap}{l:List (Int×PV)}{vs:List (Int×Value)}(k:bI V h h')(x:RepD ag w cl h V l vs):RepD ag w cl h' V l vs:=RepD.keep k (λJ J x=>x) x
theorem RepD.at{cl:cF}{h:Heap}:∀{l:List (Int×PV)}{vs:List (Int×Value)}{i:Nat}{k:Int}{p:PV}{k':Int}{v:Value},RepD ag w cl h V l vs->l[i]?=some (k,p)->vs[i]?=some (k',v)->k=k'/\Rep ag w cl h V p v
 |(_,_)::_,(_,_)::_,0,_,_,_,_,x,e,e'=>by
  simp at e e';refine xA e ?_;clear e;rintro rfl rfl;refine xA e' ?_;clear e';rintro rfl rfl;exact⟨x.1,x.2.1⟩
 |(_,_)::_,(_,_)::_,i+1,_,_,_,_,x,e,e'=>by
  simp at e e';exact RepD.at x.2.2 e e'
 | [],[],_,_,_,_,_,_,e,_=>by simp at e
 | [],_::_,_,_,_,_,_,x,_,_=>False.elim x
 |_::_,[],_,_,_,_,_,x,_,_=>False.elim x
theorem pU{k:Int}{v:Value}(h:(intKind ag w).is k v=true):∃t,v=.int k t:=by
 cases v with
 |int i t=>
  have:i=k:=by simpa[intKind,Value.isInt] using h
  exact⟨t,by rw[this]⟩
 |_=>simp[intKind,Value.isInt]at h
theorem jV{h:Heap}{o:Obj}{d:Addr}{kvs:List (Int×Value)}{ep:Nat}(x:h.DictAt (intKind ag w) d kvs ep):(h.push o).DictAt (intKind ag w) d kvs ep:=
 let⟨q,es,ho,r⟩:=x;⟨q,es,af _ ho,r⟩
theorem D7{l:List (Int×PV)}{v:Value}{t:Expr}(hh:A.handled=none)(lo:eu V s.heap)(r:G.Rep s.heap V (.dct l) v):wpAny (model ag w) A (pyIter v) (jg G A V t (l.map λkv=>.int kv.1) s) EF s:=by
 refine cK (d5.mp r) ?_;rintro d rfl nV z kvs hd r;refine xE hd.dictAt ?_;intro ep ha;refine wpAny_pyIter_dict z ha ?_;have hlt:d < s.heap.objs.size:=by refine fL ha ?_;clear ha;intro o _ e _;exact aN e
 have hne:d≠s.heap.objs.size:=be hlt;have hex:s.heap.get? d≠none:=by refine fL ha ?_;clear ha;intro o _ e _;exact bw e
 refine ii lo rfl λU gr hU np=>⟨λi h=>(h.IsKeyIter s.heap.objs.size d i kvs.length ep/\h.DictAt (intKind ag w) d kvs ep)/\True,⟨⟨⟨_,ay _ rfl,rfl,rfl⟩,jV ha⟩,trivial⟩,?_⟩;refine .ofWalks (Walks.dictKeys hh _ _ hne kvs ep) (λJ=>True) (by rw[aa];exact RepD.length r) (gQ hU) (ve λq=>nV (gr _ hex q)) (λJ J J J=>trivial) (λi p v h hp hv J=>?_) (λi s' v Q hP st q=>letGo_keyiter st.1 q) (λi h x=>let⟨_,ho,_⟩:=x.1;gQ (U:=λb=>h.get? b≠none) (bw ho)) np;refine fL hv ?_;clear hv;intro k x hx hk;rw[aS]at hp;refine bC (ci.mp hp) ?_;rintro⟨k',q⟩ hq rfl;refine xE (pU hk) ?_;rintro u rfl;rw[(RepD.at r hq hx).1];exact bA.mpr ⟨u,rfl⟩
theorem Cm{l:List (Int×PV)}{v:Value}{t:Expr}(hh:A.handled=none)(lo:eu V s.heap)(r:G.Rep s.heap V (.vals l) v):wpAny (model ag w) A (pyIter v) (jg G A V t (l.map (·.2)) s) EF s:=by
 have r:Rep ag w G.cl s.heap V (.vals l) v:=r;refine jE r ?_;clear r;rintro a rfl nV d g nd z kvs hd r;refine xE hd.dictAt ?_;intro ep ha;refine wpAny_pyIter_values ⟨_,g,rfl,rfl⟩ ha ?_;have hlt:d < s.heap.objs.size:=by refine fL ha ?_;clear ha;intro o _ e _;exact aN e
 have hne:d≠s.heap.objs.size:=be hlt;have hex:s.heap.get? d≠none:=by refine fL ha ?_;clear ha;intro o _ e _;exact bw e
 refine ii lo rfl λU gr hU np=>⟨λi h=>(h.IsValIter s.heap.objs.size d i kvs.length ep/\h.DictAt (intKind ag w) d kvs ep)/\G.RepD h U l kvs,⟨⟨⟨_,ay _ rfl,rfl,rfl⟩,jV ha⟩,?_⟩,?_⟩
 ·exact RepD.keep (λb o J e=>af _ e) gr r
 ·refine .ofWalks (Walks.dictValues hh _ _ hne kvs ep) _ (by rw[aa];exact RepD.length r) (gQ hU) (ve λq=>nd (gr _ hex q)) (λh h' x k=>RepD.keep' (λb o n e=>k b o n e) x) (λi p v h hp hv hr=>?_) (λi s' v Q hP st q=>letGo_valiter st.1 q) (λi h x=>let⟨_,ho,_⟩:=x.1;gQ (U:=λb=>h.get? b≠none) (bw ho)) np
  refine xE hv ?_;clear hv;intro k hx;rw[aS]at hp;refine bC (ci.mp hp) ?_;rintro⟨k',q⟩ hq rfl;exact(RepD.at hr hq hx).2
theorem Eu{x:Str}{v:Value}{t:Expr}(hh:A.handled=none)(lo:eu V s.heap)(r:G.Rep s.heap V (.str x) v):wpAny (model ag w) A (pyIter v) (jg G A V t (x.cps.toList.map λc=>.str ⟨#[c]⟩) s) EF s:=by
 refine xE (df.mp r) ?_;rintro u rfl;refine wpAny_pyIter_strU ?_;have key:∀T:String,(∀I,Walks ag w A I [I] [I] x.cps.size (SignAt x) λi h=>h.IsStrIter I T x u i) ->
   jg G A V t (x.cps.toList.map λc=>.str ⟨#[c]⟩) s (.ref s.heap.objs.size) { s with heap:=s.heap.push { cls:=.type T,data:=.fields #[.str x u,.int 0 0] } }:=by
  intro T W;refine ii lo rfl λU gr hU np=>⟨λi h=>h.IsStrIter s.heap.objs.size T x u i/\True,⟨⟨_,ay _ rfl,rfl,rfl⟩,trivial⟩,?_⟩;refine .ofWalks (W _) (λJ=>True) (by simp) (gQ hU) (λb hb=>.inr hb) (λJ J J J=>trivial) (λi p v h hp hv J=>?_) (λi s' v Q hP st q=>?_) (λi h x=>let⟨_,ho,_⟩:=x;gQ (U:=λb=>h.get? b≠none) (bw ho)) np
  ·refine fL hv ?_;clear hv;rintro c u hc rfl
   have:p=.str ⟨#[c]⟩:=by
    rw[aS,Array.getElem?_toList,hc]at hp
    simpa using hp.symm
   rw[this];exact df.mpr ⟨u,rfl⟩
  ·refine fL hP ?_;clear hP;rintro c u hc rfl
   exact ux (λJ h=>nomatch h) q
 unfold strIterType;split
 ·exact key _ λI=>Walks.strAscii hh I x u
 ·exact key _ λI=>Walks.strWide hh I x u
theorem zM{a b:Int}{i:Nat}{p:PV}(e:(ie a b)[i]?=some p):p=.int (a+i):=by
 unfold ie at e;rw[aS]at e;refine bC (ci.mp e) ?_;rintro j hj rfl;rw[au]at hj;refine xE hj ?_;clear hj;rintro h rfl;simp
theorem sK{a b:Int}{R:Addr}{t u v:Tok}{tg:Expr}(hh:A.handled=none)(lo:eu V s.heap)(ha:fV a=true)(hb:fV b=true)(hr:IsRange s.heap R a b 1 t u v):
  wpAny (model ag w) A (pyIter (.ref R)) (jg G A V tg (ie a b) s) EF s:=by
 simp only[fV,bf,decide_eq_true_eq]at ha hb;have size:Builtin.Range.rangeSize a b 1=((b - a).toNat:Int):=by
  unfold Builtin.Range.rangeSize;simp only[show((1:Int) > 0)=True from by simp,if_true,Int.ediv_one];split<;>lia
 refine wpAny_pyIter_range hr ?_ ?_
 ·unfold Builtin.Range.small Builtin.Range.rangeFitsLong
  rw[size];simp;exact(pz [] [_,_] 0x0F1F0F1E80000000000000008910E13C8000000000000000892E081C08B010F0F1E8000000000000000891C08B010E1C08B013C8000000000000000890F0F1E80000000000000008910E13C8000000000000000890F1E80000000000000008900E03C8000000000000000890F0E1000003910E13C100000390F0E1000003900E03C10000039) ha hb
 ·refine ii lo rfl λU gr hU np=>⟨λi h=>IsRangeIter h s.heap.objs.size (a+(i:Nat) * 1) (((b - a).toNat:Int) - (i:Nat)) 1/\True,⟨?_,trivial⟩,?_⟩
  ·show(s.heap.push _).get? s.heap.objs.size=_
   rw[ay _ rfl,size];simp
  ·refine .ofWalks (Walks.range hh _ a 1 (b - a).toNat) (λJ=>True) (by simp[ie]) (gQ hU) (λb hb=>.inr hb) (λJ J J J=>trivial) (λi p v h hp hv J=>?_) (λi s' v Q hP st q=>?_) (λi h x=>gQ (U:=λb=>h.get? b≠none) (bw x)) np
   ·refine xE hv ?_;clear hv;rintro u rfl
    rw[zM hp,Int.mul_one];exact bA.mpr ⟨u,rfl⟩
   ·refine xE hP ?_;clear hP;rintro u rfl
    exact ux (λJ h=>nomatch h) q
end
end Mine
end
section
namespace Mine
section
variable{A:Around}{s:Shared}{V:Addr->Prop}
theorem na:entryFor table "dict_itemiterator.__iter__"=some Builtin.«dict_keyiterator.__iter__»:=
 entryFor_alias (id':="dict_keyiterator.__iter__") (by kernel_rfl) rfl (by decide +kernel) (by kernel_rfl)
theorem nY(a:Value):argsOk "dict_itemiterator.__iter__" ⟨[a],[]⟩:=by
 unfold argsOk;kernel_rfl
theorem Cu{a b:Addr}(h:a < b):@LT.lt Nat _ a b:=h
theorem xL{a n:Nat}:(a:Addr)∈([n+4,n+3,n,n+1]:List Addr)↔(@Eq Nat a (n+4)\/@Eq Nat a (n+3)\/@Eq Nat a n\/@Eq Nat a (n+1)):=by
 simp only[ai,aM,or_false]
theorem DL{l:List (Int×PV)}{v:Value}{es:List Expr}{k:Nat}{pos:Pos}(hh:A.handled=none)(lo:eu V s.heap)(r:G.Rep s.heap V (.its l) v):
  wpAny (model ag w) A (pyIter v) (jg G A V (.Tuple es k pos) (l.map λkv=>.tup [.int kv.1,kv.2]) s) EF s:=by
 have r:Rep ag w G.cl s.heap V (.its l) v:=r;refine jE r ?_;clear r;rintro a rfl nV d g nd z kvs hd r;refine xE hd.dictAt ?_;intro ep ha;refine wpAny_pyIter_items ⟨_,g,rfl,rfl⟩ ha ?_;have hlt:d < s.heap.objs.size:=by refine fL ha ?_;clear ha;intro o _ e _;exact aN e
 have hne:d≠s.heap.objs.size:=be hlt;generalize hI:s.heap.objs.size=I at hne;have e1:=RepD.length r;rw[<- hI];have hex:s.heap.get? d≠none:=by refine fL ha ?_;clear ha;intro o _ e _;exact bw e
 refine ii lo rfl λU gr hU np=>⟨λi h=>(∃ok ov,IsItemIter h s.heap.objs.size d i kvs.length ep ok ov)/\h.DictAt (intKind ag w) d kvs ep/\G.RepD h U l kvs,⟨⟨_,_,ay _ rfl⟩,jV ha,?_⟩,?_⟩
 ·exact RepD.keep (λb o J e=>af _ e) gr r
 ·rw[hI]at hU np ⊢
  have nd':¬U d:=λq=>nd (gr _ hex q);constructor
  ·exact gQ hU
  ·rintro i h ⟨⟨ok,ov,it⟩,_⟩;exact gQ (U:=λb=>h.get? b≠none) (bw it)
  ·intro i h h' x k
   refine iQ x ?_;clear x;rintro⟨ok,ov,it⟩ dA rD;refine⟨⟨ok,ov,k _ _ (.inr (.head _)) it⟩,?_,RepD.keep' (λb o n e=>k b o (.inl n) e) rD⟩;refine fL dA ?_;clear dA;intro o es ho q;exact⟨o,es,k _ _ (.inl nd') ho,q⟩
  ·intro i s' p hp x
   refine iQ x ?_;clear x;rintro⟨ok,ov,it⟩ dA rD;rw[aS]at hp;refine bC (ci.mp hp) ?_;rintro⟨k',q⟩ hq rfl;have hlt:i < kvs.length:=by rw[<- e1];exact(au.mp hq).1
   obtain⟨⟨k2,x2⟩,hx⟩:∃p,kvs[i]?=some p:=⟨kvs[i],by simp[hlt]⟩;refine wpAny_pyNext_items_item it dA hx λkey h' hk out hT hsz keep=>⟨_,rfl,?_⟩;refine wpAny_letOwnedTupleGo_items out λh'' it' sb=>?_;refine xE (pU hk) ?_;rintro u rfl;have hIlt:I < s'.heap.objs.size:=aN it;have hTI:s'.heap.objs.size≠I:=gB hIlt;have rD':G.RepD h'' U l kvs:=RepD.keep' (λb o n e=>sb.extBut b o (λq=>n (q▸hU)) (keep b o (λq=>n (q▸hU)) e)) rD;refine xA (RepD.at rD' hq hx) ?_;intro q1 q2;refine⟨λV' lo m=>ez.mpr ⟨_,rfl,lo.fresh,[.int k2 u,x2],?_,?_⟩,⟨⟨_,_,it'⟩,?_,rD'⟩,cR.of np λb o n e=>?_⟩
   ·exact⟨_,sb.extBut _ _ hTI hT,rfl,_,rfl⟩
   ·exact RepL.cons (bA.mpr ⟨u,by rw[q1]⟩) (RepL.cons (Rep.keep (bI.refl _ _) (λa J q=>m a q) q2) trivial)
   ·refine fL dA ?_;clear dA;intro o es ho q
    exact⟨o,es,sb.extBut _ _ hne (keep _ _ hne ho),q⟩
   ·have n':b≠I:=λq=>n (q▸.head _)
    exact sb.extBut b o n' (keep b o n' e)
  ·intro s' x
   refine iQ x ?_;clear x;rintro⟨ok,ov,it⟩ dA rD;rw[aa,e1]at it;refine wpAny_pyNext_items_end hh it dA (by simp) λh' k=>⟨rfl,cR.of np λb o n e=>k b o (λq=>n (q▸.head _)) e⟩
  ·intro i s' x
   refine iQ x ?_;clear x;rintro⟨ok,ov,it⟩ dA rD;have hT:s'.TypeIs (.ref I) "dict_itemiterator":=⟨_,it,rfl⟩;refine wpAny_pyIter_slot hT PySem.F.slot_dict_itemiterator_iter (wpAny_call_entry PySem.F.slot_dict_itemiterator_iter hT na ?_ (nY _));show wpAny _ _ (ret (.ref I)) _ _ s';exact wpAny_pure ⟨_,rfl,"dict_itemiterator",_,hT,PySem.F.slot_dict_itemiterator_next.lookup,rfl,rfl⟩
theorem wX:∀{l m:List PV}{i:Nat}{p:PV},(lW l m)[i]?=some p->∃a b,l[i]?=some a/\m[i]?=some b/\p=.tup [a,b]
 |a::l,b::m,0,p,e=>by simp[lW]at e;exact⟨a,b,rfl,rfl,e.symm⟩
 |a::l,b::m,i+1,p,e=>by simp[lW]at e;refine kh (wX e) ?_;intro x y h1 h2 h3;exact⟨x,y,by simpa using h1,by simpa using h2,h3⟩
 | [],_,_,_,e=>by simp[lW]at e
 |_::_,[],_,_,e=>by simp[lW]at e
theorem qm:∀(l m:List PV),(lW l m).length=min l.length m.length
 |a::l,b::m=>by simp[lW,qm l m]
 | [],_=>by simp[lW]
 |_::_,[]=>by simp[lW]
theorem p6:∀{l:List PV}{n i:Nat}{p:PV},(iE n l)[i]?=some p->∃a,l[i]?=some a/\p=.tup [.int ((n+i:Nat):Int),a]
 |a::l,n,0,p,e=>by simp[iE]at e;exact⟨a,rfl,e.symm⟩
 |a::l,n,i+1,p,e=>by
  simp[iE]at e;refine bC (p6 e) ?_;intro x h1 h2;exact⟨x,by simpa using h1,by rw[h2,show n+1+i=n+(i+1) by exact pn [_,_] 0x2DAA1810A1A180]⟩
 | [],_,_,_,e=>by simp[iE]at e
theorem lm:∀(l:List PV) (n:Nat),(iE n l).length=l.length
 |a::l,n=>by simp[iE,lm l]
 | [],_=>by simp[iE]
theorem Fz{l m:List PV}{va vb:Value}{es:List Expr}{k:Nat}{pos:Pos}(hh:A.handled=none)(lo:eu V s.heap)(ra:G.Rep s.heap V (.lst l) va)(rb:G.Rep s.heap V (.lst m) vb):
  wpAny (model ag w) A (call (.type "zip") [va,vb]) (λz aH=>wpAny (model ag w) A (pyIter z) (jg G A V (.Tuple es k pos) (lW l m) s) EF aH) EF s:=by
 refine bx (dP.mp ra) ?_;rintro l1 rfl n1 xs h1 r1;refine bx (dP.mp rb) ?_;rintro l2 rfl n2 ys h2 r2;refine call_zip_2 h1.isList h2.isList λh' hz hTI hTO i1 i2 hsz keep=>?_;refine wpAny_pyIter_zip hz ?_;have lt1:=Cu (show l1 < s.heap.objs.size by refine xE h1 ?_;clear h1;intro n e;exact aN e);have lt2:=Cu (show l2 < s.heap.objs.size by refine xE h2 ?_;clear h2;intro n e;exact aN e);have none_of:∀b:Nat,s.heap.objs.size<=b->s.heap.get? b=none:=λb hb=>by
  cases e:s.heap.get? b with
  |none=>rfl
  |some o=>exact absurd (Cu (aN e)) (bT.mpr hb)
 generalize hn:s.heap.objs.size=n at *
 have D:ZipApart (n+4) (n+2) (n+3) n (n+1) l1 l2:=by
  constructor<;>(show @Ne Nat _ _)<;>lia
 refine⟨n+4,[n+4,n+3,n,n+1],rfl,Kp.of (tk:=s.toks) keep,λb hb=>?_,λU gr0 hU=>?_⟩
 ·refine bC i1 ?_;clear i1;intro _ q1 _
  refine bC i2 ?_;clear i2;intro _ q2 _;refine⟨none_of _ (by have:=xL.mp hb;exact(pn [_,_] 0x0D011F1F1F2DA18102D102DA38102DA4810) this),?_⟩;show h'.get? _≠none;simp only[ai,aM,or_false]at hb;rcases hb with rfl|rfl|rfl|rfl
  ·rw[hz];simp
  ·rw[hTO];simp
  ·rw[q1];simp
  ·rw[q2];simp
 have gr:∀a,s.heap.get? a≠none->U a->V a:=λa e ua=>by
  refine(gr0 a ?_ ua).elim id λq=>?_
  ·show h'.get? a≠none
   cases g:s.heap.get? a with
   |none=>exact absurd g e
   |some o=>rw[keep a o g];simp
  ·exfalso
   refine e (none_of a ?_)
   have:=xL.mp q
   exact(pn [_,_] 0x0D011F1F1F2DA18102D102DA38102DA4810) this
 have r1':G.RepL h' U l xs:=RepL.keep (λb o J e=>keep b o e) gr r1;have r2':G.RepL h' U m ys:=RepL.keep (λb o J e=>keep b o e) gr r2;have e1:s.heap.get? l1≠none:=by refine xE h1 ?_;clear h1;intro n e;exact bw e
 have e2:s.heap.get? l2≠none:=by refine xE h2 ?_;clear h2;intro n e;exact bw e
 have nt:¬U (n+2):=λq=>by
  refine(gr0 (n+2) (by show h'.get? (n+2)≠none;rw[hTI];simp) q).elim (λq=>lo.some q (none_of _ (pn [_] 0x0DA2800))) λq=>?_
  have:=xL.mp q
  exact(pn [_] 0x2F1F1F1F2DA180A2802D0A2802DA380A2802DA480A280) this
 refine⟨_,?_,ku.ofPairs (WalksT.zip2 hh (n+4) (n+2) (n+3) n (n+1) l1 l2 D xs.toArray ys.toArray) (λh=>G.RepL h U l xs/\G.RepL h U m ys) ?_ hU (λb hb=>?_) ?_ ?_ ?_ ?_⟩
 ·refine⟨⟨hz,hTI,⟨_,_,hTO⟩,i1,i2,?_,?_⟩,r1',r2'⟩
  ·refine xE h1 ?_;clear h1;intro n e;exact⟨_,keep _ _ e,rfl,_,rfl⟩
  ·refine xE h2 ?_;clear h2;intro n e;exact⟨_,keep _ _ e,rfl,_,rfl⟩
 ·rw[qm,RepL.length r1,RepL.length r2,aF,aF]
 ·simp only[ai,aM,or_false]at hb
  rcases hb with rfl|rfl|rfl|rfl|rfl|rfl|rfl
  ·exact .inr (xL.mpr (by simp))
  ·exact .inl nt
  ·exact .inr (xL.mpr (by simp))
  ·exact .inr (xL.mpr (by simp))
  ·exact .inr (xL.mpr (by simp))
  ·exact .inl λq=>n1 (gr _ e1 q)
  ·exact .inl λq=>n2 (gr _ e2 q)
 ·exact λh h' x k=>⟨RepL.keep (λb o n e=>k b o n e) (λJ J x=>x) x.1,RepL.keep (λb o n e=>k b o n e) (λJ J x=>x) x.2⟩
 ·rintro i p vs h hp ⟨x,y,hx,hy,rfl⟩ ⟨q1,q2⟩
  refine kh (wX hp) ?_;rintro a b ha hb rfl;refine⟨_,rfl,?_⟩;show G.RepL h _ [a,b] [x,y];exact RepL.cons (RepL.at q1 ha (dn hx)) (RepL.cons (RepL.at q2 hb (dn hy)) trivial)
 ·rintro i h ⟨hz,hTI,⟨_,_,hTO⟩,⟨_,q1,_⟩,⟨_,q2,_⟩,_⟩ b hb
  simp only[ai,aM,or_false]at hb;rcases hb with rfl|rfl|rfl|rfl
  ·exact bw hz
  ·exact bw hTO
  ·exact bw q1
  ·exact bw q2
 ·intro q
  refine lo.tab.some (none_of _ ?_);rcases xL.mp q with e|e|e|e<;>first|exact gA e.symm|exact aD (bJ _ _) (gA e.symm)
theorem tI{a n:Nat}:(a:Addr)∈([n+1,n]:List Addr)↔(@Eq Nat a (n+1)\/@Eq Nat a n):=by
 simp only[ai,aM,or_false]
theorem BL{l:List PV}{va:Value}{es:List Expr}{k:Nat}{pos:Pos}(hh:A.handled=none)(lo:eu V s.heap)(ra:G.Rep s.heap V (.lst l) va):
  wpAny (model ag w) A (call (.type "enumerate") [va]) (λz aH=>wpAny (model ag w) A (pyIter z) (jg G A V (.Tuple es k pos) (iE 0 l) s) EF aH) EF s:=by
 refine bx (dP.mp ra) ?_;rintro l1 rfl n1 xs h1 r1;refine call_enumerate_list h1.isList λh' he hi hsz keep=>?_;refine wpAny_pyIter_enum he ?_;have lt1:=Cu (show l1 < s.heap.objs.size by refine xE h1 ?_;clear h1;intro n e;exact aN e);have none_of:∀b:Nat,s.heap.objs.size<=b->s.heap.get? b=none:=λb hb=>by
  cases e:s.heap.get? b with
  |none=>rfl
  |some o=>exact absurd (Cu (aN e)) (bT.mpr hb)
 generalize hn:s.heap.objs.size=n at *
 refine⟨n+1,[n+1,n],rfl,Kp.of (tk:=s.toks) keep,λb hb=>?_,λU gr0 hU=>?_⟩
 ·refine bC hi ?_;clear hi;intro _ q1 _
  refine⟨none_of _ (by have:=tI.mp hb;exact(pn [_,_] 0x0D011F2D102DA1810) this),?_⟩;show h'.get? _≠none;simp only[ai,aM,or_false]at hb;rcases hb with rfl|rfl
  ·rw[he];simp
  ·rw[q1];simp
 have gr:∀a,s.heap.get? a≠none->U a->V a:=λa e ua=>by
  refine(gr0 a ?_ ua).elim id λq=>?_
  ·show h'.get? a≠none
   cases g:s.heap.get? a with
   |none=>exact absurd g e
   |some o=>rw[keep a o g];simp
  ·exfalso
   refine e (none_of a ?_)
   have:=tI.mp q
   exact(pn [_,_] 0x0D011F2D102DA1810) this
 have r1':G.RepL h' U l xs:=RepL.keep (λb o J e=>keep b o e) gr r1;have e1:s.heap.get? l1≠none:=by refine xE h1 ?_;clear h1;intro n e;exact bw e
 refine⟨_,?_,ku.ofPairs (WalksT.enumerate hh (n+1) n l1 (show @Ne Nat _ _ by exact pn [_] 0x2F2D0A180) (show @Ne Nat _ _ by exact(pn [_,_] 0x2F2DA18101D10) lt1) (show @Ne Nat _ _ by exact(pn [_,_] 0x2F2D101D10) lt1) xs.toArray) (λh=>G.RepL h U l xs) ?_ hU (λb hb=>?_) ?_ ?_ ?_ ?_⟩
 ·refine⟨⟨⟨_,he⟩,hi,?_⟩,r1'⟩
  refine xE h1 ?_;clear h1;intro n e;exact⟨_,keep _ _ e,rfl,_,rfl⟩
 ·rw[lm,RepL.length r1,aF]
 ·simp only[ai,aM,or_false]at hb
  rcases hb with rfl|rfl|rfl
  ·exact .inr (tI.mpr (by simp))
  ·exact .inr (tI.mpr (by simp))
  ·exact .inl λq=>n1 (gr _ e1 q)
 ·exact λh h' x k=>RepL.keep (λb o n e=>k b o n e) (λJ J x=>x) x
 ·rintro i p vs h hp ⟨t,x,hx,rfl⟩ q1
  refine bC (p6 hp) ?_;rintro a ha rfl;refine⟨_,rfl,?_⟩;show G.RepL h _ [.int _,a] [_,x];exact RepL.cons (bA.mpr ⟨t,by simp⟩) (RepL.cons (RepL.at q1 ha (dn hx)) trivial)
 ·rintro i h ⟨⟨_,he⟩,⟨_,q1,_⟩,_⟩ b hb
  simp only[ai,aM,or_false]at hb;rcases hb with rfl|rfl
  ·exact bw he
  ·exact bw q1
 ·intro q
  refine lo.tab.some (none_of _ ?_);rcases tI.mp q with e|e<;>first|exact gA e.symm|exact aD (bJ _ _) (gA e.symm)
end
end Mine
end
section
namespace Mine
section
variable{A:Around}{s:Shared}{E:Value->Shared->Prop}
theorem Bu{it d:Addr}{i ep:Nat}{kvs:List (Int×Value)}{k:Int}{v:Value}{Q:Value->Shared->Prop}(hit:s.heap.IsKeyIter it d i kvs.length ep)
  (hm:s.heap.DictAt (intKind ag w) d kvs ep) (hx:kvs[i]?=some (k,v))
  (hQ:∀key h',(intKind ag w).is k key=true->h'.IsKeyIter it d (i+1) kvs.length ep->cI it s.heap h'->Q key { s with heap:=h' }) :
  wpAny (model ag w) A (Builtin.SmallTypes.nextOf (.ref it)) Q E s:=by
 refine fJ (id hit) ?_;intro o ho hc hd;refine r9 (id hm) ?_;intro od es hod hcd hdd hk hp hn;unfold Builtin.SmallTypes.nextOf;refine wpAny_bind (wpAny_callSpecial?_slot (name:=Str.ofString "__next__") hit.typeIs F.slot_dict_keyiterator_next
  (wpAny_call_entry F.slot_dict_keyiterator_next hit.typeIs F.entry_dict_keyiterator_next ?_ (F.args_dict_keyiterator_next_1 _)))
 refine wpAny_bind (wpAny_pure ?_);refine wpAny_bind ?_;refine wpAny_bind ?_
 first|refine wpAny_bind (wpAny_typeNameOfWhole_keyiter hit.typeIs (wpAny_pure ?_))|refine wpAny_bind (wpAny_typeNameOf_keyiter hit.typeIs (wpAny_pure ?_))
 refine wpAny_bind (wpAny_fieldsOf ho hd ?_);have hown:Builtin.Dict_items.ownsTuple "dict_keyiterator"=false:=by decide
 rw[hown,if_neg av];show wpAny _ _ (if(Value.ref d == Value.none)=true then _ else _) _ _ s;rw[if_neg (show ¬((Value.ref d == Value.none)=true) from av)];refine wpAny_bind (wpAny_pure ?_);refine wpAny_bind (wpAny_dictEntries hod hdd ?_);have hsz:es.size=kvs.length:=by rw[<- hp.length];simp
 rw[if_neg (by rw[hsz];simp)];refine wpAny_bind (wpAny_pure ?_);refine wpAny_bind (wpAny_dictEpoch hod hdd ?_);rw[if_neg (by simp)];refine wpAny_pure ?_;have hlt:i < kvs.length:=by
  rcases Nat.lt_or_ge i kvs.length with h|h
  ·exact h
  ·simp[jJ h]at hx
 have hlt':i < es.size:=by rw[hsz];exact hlt
 have hkey:(intKind ag w).is k es[i].key=true:=(hp.get? (e:=es[i]) (by simp[hlt']) hx).1;have hg:(if(i:Int) < 0 then none else es[(i:Int).toNat]?)=some es[i]:=(if_neg (d2.mpr (lO i))).trans (cn hlt');dsimp only;rw[hg];dsimp only;refine wpAny_bind ?_
 first|refine wpAny_bind (wpAny_typeNameOfWhole_keyiter hit.typeIs (wpAny_pure ?_))|refine wpAny_bind (wpAny_typeNameOf_keyiter hit.typeIs (wpAny_pure ?_))
 refine wpAny_bind (wpAny_isOneOf_keyiter hit.typeIs ?_);show wpAny _ _ (setField (.ref it) 1 (rawInt ((i:Int)+1)) >>= _) _ _ s;refine wpAny_bind (wpAny_setField ho hd (by simp) ?_);have hit':(s.heap.update it (Obj.mapFields (·.setIfInBounds 1 (rawInt ((i:Int)+1))))).IsKeyIter it d (i+1) kvs.length ep:=
  ⟨_,jK _ ho (Obj.isFreed_of_fields (Obj.data_mapFields hd _)),(Obj.cls_mapFields ..).trans hc,by rw[Obj.data_mapFields hd];simp[rawInt]⟩
 refine wpAny_bind (wpAny_holding ?_);refine wpAny_bind (wpAny_isOneOf_keyiter (s:={ s with heap:=s.heap.update it (Obj.mapFields (·.setIfInBounds 1 (rawInt ((i:Int)+1)))) }) hit'.typeIs ?_);show wpAny _ _ (pure es[i].key) _ _ _;exact wpAny_pure (wpAny_pure ⟨_,rfl,wpAny_pure (hQ _ _ hkey hit' (Heap.SameBut.update ..))⟩)
theorem tP{it d:Addr}{i ep:Nat}{kvs:List (Int×Value)}{Q:Value->Shared->Prop}(hh:A.handled=none)(hit:s.heap.IsKeyIter it d i kvs.length ep)
  (hm:s.heap.DictAt (intKind ag w) d kvs ep) (hx:kvs[i]?=none)
  (hE:∀h' e,Heap.ExtBut it s.heap h'->(∃o,h'.get? e=some o/\o.cls=.type "StopIteration")->E (.ref e) { s with heap:=h' }) :
  wpAny (model ag w) A (Builtin.SmallTypes.nextOf (.ref it)) Q E s:=by
 refine fJ (id hit) ?_;intro o ho hc hd;refine r9 (id hm) ?_;intro od es hod hcd hdd hk hp hn;unfold Builtin.SmallTypes.nextOf;refine wpAny_bind (wpAny_callSpecial?_slot (name:=Str.ofString "__next__") hit.typeIs F.slot_dict_keyiterator_next
  (wpAny_call_entry F.slot_dict_keyiterator_next hit.typeIs F.entry_dict_keyiterator_next ?_ (F.args_dict_keyiterator_next_1 _)))
 refine wpAny_bind (wpAny_pure ?_);refine wpAny_bind ?_;refine wpAny_bind ?_
 first|refine wpAny_bind (wpAny_typeNameOfWhole_keyiter hit.typeIs (wpAny_pure ?_))|refine wpAny_bind (wpAny_typeNameOf_keyiter hit.typeIs (wpAny_pure ?_))
 refine wpAny_bind (wpAny_fieldsOf ho hd ?_);have hown:Builtin.Dict_items.ownsTuple "dict_keyiterator"=false:=by decide
 rw[hown,if_neg av];show wpAny _ _ (if(Value.ref d == Value.none)=true then _ else _) _ _ s;rw[if_neg (show ¬((Value.ref d == Value.none)=true) from av)];refine wpAny_bind (wpAny_pure ?_);refine wpAny_bind (wpAny_dictEntries hod hdd ?_);have hsz:es.size=kvs.length:=by rw[<- hp.length];simp
 rw[if_neg (by rw[hsz];simp)];refine wpAny_bind (wpAny_pure ?_);refine wpAny_bind (wpAny_dictEpoch hod hdd ?_);rw[if_neg (by simp)];refine wpAny_pure ?_;have hge:es.size<=i:=by rw[hsz];simpa using hx
 have hg:(if(i:Int) < 0 then none else es[(i:Int).toNat]?)=none:=(if_neg (d2.mpr (lO i))).trans (Array.getElem?_eq_none hge);dsimp only;rw[hg];dsimp only;refine wpAny_bind ?_
 first|refine wpAny_bind (wpAny_typeNameOfWhole_keyiter hit.typeIs (wpAny_pure ?_))|refine wpAny_bind (wpAny_typeNameOf_keyiter hit.typeIs (wpAny_pure ?_))
 show wpAny _ _ (setField (.ref it) 0 .none >>= _) _ _ s;refine wpAny_bind (wpAny_setField ho hd (by simp) ?_);show wpAny _ _ (newExc (.type "StopIteration") [] >>= _) _ _ _;refine wpAny_bind ?_;simp only[newExc,newTuple];refine wpAny_bind (wpAny_newObj_type ?_ (by size_fits));refine wpAny_bind (m:=firstArgMember _ _) (wpAny_of_eq (a:=Value.none) (by first|rfl|(simp only[firstArgMember];rfl)) ?_);refine wpAny_newObj_type ?_ (by size_fits);dsimp only[raiseNew];refine wpAny_bind (wpAny_handled ?_)
 first|rw[show A.in1.handled=none from hh]|rw[hh]
 refine wpAny_bind (wpAny_pure (wpAny_throw ?_));exact hE _ _ (((Heap.SameBut.update ..).extBut.push _).push _) ⟨_,ay _ rfl,rfl⟩
theorem wJ(hh:A.handled=none)(it d:Addr)(hne:d≠it)(kvs:List (Int×Value))(ep:Nat):
  Draws ag w A it [it,d] kvs.length (λi x=>∃k v,kvs[i]?=some (k,v)/\(intKind ag w).is k x=true) (λi h=>h.IsKeyIter it d i kvs.length ep/\h.DictAt (intKind ag w) d kvs ep) where
 live:=λJ J st=>let⟨o,ho,_⟩:=st.1;⟨o,ho⟩
 frame:=λJ J J st hk=>let⟨o,ho,r⟩:=st.1;let⟨q,es,hq,r'⟩:=st.2;⟨⟨o,hk it (by simp) o ho,r⟩,q,es,hk d (by simp) q hq,r'⟩
 item:=λi s Q E hi st hQ=>by
  refine Bu st.1 st.2 (k:=kvs[i].1) (v:=kvs[i].2) (ax hi) λkey h' hk hit' hs'=>?_;exact hQ _ h' s.toks ⟨_,_,ax hi,hk⟩ ⟨hit',st.2.extBut hs'.extBut hne⟩ hs'
 done:=λs Q E st hE=>tP hh st.1 st.2 (by simp) hE
theorem BB{p':Program}{w':World}{h:Heap}{d:Addr}{kvs:List (Int×Value)}{ep:Nat}(x:h.DictAt (intKind ag w) d kvs ep):h.DictAt (intKind p' w') d kvs ep:=
 let⟨o,es,a,b,c,k,q,n⟩:=x;⟨o,es,a,b,c,k,uz q,n⟩
theorem sX{α:Type}{M:Model}{A:Around}{s:Shared}{a:α}{Q:α->Shared->Prop}{E:Value->Shared->Prop}(h:∀b,Q b s):wpAny M A (pure a) Q E s:=wpAny_pure (h a)
set_option tactic.hygienic true in
theorem xn(d:Addr)(kvs:List (Int×Value))(ep:Nat)(z:(d == sysModules)=false):
  Meets (Builtin.«enumerate.__new__» ⟨[.type "enumerate",.ref d],[]⟩) (λJ R s=>s.heap.DictAt (intKind ag w) d kvs ep /\
   R (.ok (.ret (.ref (s.heap.push { cls:=.type "dict_keyiterator",data:=.fields #[.ref d,.int 0 0,.int kvs.length 0,.int ep 0] }).objs.size)))
    { s with heap:=(s.heap.push { cls:=.type "dict_keyiterator",data:=.fields #[.ref d,.int 0 0,.int kvs.length 0,.int ep 0] }).push { cls:=.type "enumerate",data:=.fields #[.none,.bool false,.ref s.heap.objs.size,rawInt 0,.none,.none] } }):=
 .of_wp λprog' w' A R s h=>by
  obtain⟨hp,g,dd,tk,os⟩:=s;refine xA h ?_;clear h;intro hl h;have hsub:=sub_enumerate;have hL:Heap.DictAt (intKind prog' w') (Shared.heap ⟨hp,g,dd,tk,os⟩) d kvs ep:=BB hl
  wp_walk
  refine wpAny_stack_any λst=>sX λb=>?_
  cases b
  ·wp_walk using wpAny_pyIter_dict z hL
   exact⟨_,rfl,h⟩
  ·wp_walk using wpAny_pyIter_dict z hL
   exact⟨_,rfl,h⟩
theorem zC{d:Addr}{kvs:List (Int×Value)}{ep:Nat}{Q:Value->Shared->Prop}(z:(d == sysModules)=false)(hD:s.heap.DictAt (intKind ag w) d kvs ep)
  (h:∀h',IsEnum h' (s.heap.objs.size+1) s.heap.objs.size 0 .none->h'.IsKeyIter s.heap.objs.size d 0 kvs.length ep ->
   (∀b o,s.heap.get? b=some o->h'.get? b=some o)->Q (.ref (s.heap.objs.size+1)) { s with heap:=h' }) :
  wpAny (model ag w) A (call (.type "enumerate") [.ref d]) Q E s:=by
 refine callType_new F.called_enumerate (by decide) (F.typeCall_enumerate_1 _) (F.newCall_enumerate_1 _) (λobj=>F.args_object_init_2 obj _) F.entry_enumerate_new
  (xn d kvs ep z) ⟨hD,?_⟩
 show _/\_;rw[bL];have he:=ay (s.heap.push { cls:=.type "dict_keyiterator",data:=.fields #[.ref d,.int 0 0,.int kvs.length 0,.int ep 0] })
   (o:={ cls:=.type "enumerate",data:=.fields #[.none,.bool false,.ref s.heap.objs.size,rawInt 0,.none,.none] }) rfl
 rw[bL]at he;exact⟨⟨_,he,rfl⟩,h _ he ⟨_,af _ (ay _ rfl),rfl,rfl⟩ λb o x=>af _ (af _ x)⟩
variable{V:Addr->Prop}
theorem yD{l:List (Int×PV)}{va:Value}{es:List Expr}{k:Nat}{pos:Pos}(hh:A.handled=none)(lo:eu V s.heap)(ra:G.Rep s.heap V (.dct l) va):
  wpAny (model ag w) A (call (.type "enumerate") [va]) (λz aH=>wpAny (model ag w) A (pyIter z) (jg G A V (.Tuple es k pos) (iE 0 (l.map λkv=>.int kv.1)) s) EF aH) EF s:=by
 refine cK (d5.mp ra) ?_;rintro l1 rfl n1 z kvs hd r1;refine xE hd.dictAt ?_;intro ep ha;refine zC z ha λh' he hi keep=>?_;refine wpAny_pyIter_enum he ?_;have hex:s.heap.get? l1≠none:=by refine fL ha ?_;clear ha;intro o _ e _;exact bw e
 have lt1:=Cu (show l1 < s.heap.objs.size by refine fL ha ?_;clear ha;intro o _ e _;exact aN e);have none_of:∀b:Nat,s.heap.objs.size<=b->s.heap.get? b=none:=λb hb=>by
  cases e:s.heap.get? b with
  |none=>rfl
  |some o=>exact absurd (Cu (aN e)) (bT.mpr hb)
 generalize hn:s.heap.objs.size=n at *
 refine⟨n+1,[n+1,n],rfl,Kp.of (tk:=s.toks) keep,λb hb=>?_,λU gr0 hU=>?_⟩
 ·refine bC hi ?_;clear hi;intro _ q1 _
  refine⟨none_of _ (by have:=tI.mp hb;exact(pn [_,_] 0x0D011F2D102DA1810) this),?_⟩;show h'.get? _≠none;simp only[ai,aM,or_false]at hb;rcases hb with rfl|rfl
  ·rw[he];simp
  ·rw[q1];simp
 have gr:∀a,s.heap.get? a≠none->U a->V a:=λa e ua=>by
  refine(gr0 a ?_ ua).elim id λq=>?_
  ·show h'.get? a≠none
   cases g:s.heap.get? a with
   |none=>exact absurd g e
   |some o=>rw[keep a o g];simp
  ·exfalso
   refine e (none_of a ?_)
   have:=tI.mp q
   exact(pn [_,_] 0x0D011F2D102DA1810) this
 have nh:(n+1:Nat) ∉ ([n,l1]:List Addr):=λq=>by
  have lt1:@LT.lt Nat _ l1 n:=lt1;simp only[ai,aM,or_false]at q;rcases q with q|q
  ·exact absurd (show @Eq Nat _ _ from q) (Nat.succ_ne_self n)
  ·have q:@Eq Nat (n+1) l1:=q
   exact(pn [_,_] 0x2F2D0A1811D10) ‹_› ‹_›
 refine⟨_,?_,ku.ofPairs (WalksT.enumerateD (wJ (A:=A.in1) hh n l1 (be lt1) kvs ep) (n+1) (Nat.succ_ne_self n) nh (by simp)) (λh=>True) ?_ hU (λb hb=>?_) ?_ ?_ ?_ ?_⟩
 ·exact⟨⟨⟨_,he⟩,hi,let⟨q,es,ho,r⟩:=ha;⟨q,es,keep _ _ ho,r⟩⟩,trivial⟩
 ·rw[lm,aa];exact RepD.length r1
 ·simp only[ai,aM,or_false]at hb
  rcases hb with rfl|rfl|rfl
  ·exact .inr (tI.mpr (by simp))
  ·exact .inr (tI.mpr (by simp))
  ·exact .inl λq=>n1 (gr _ hex q)
 ·exact λJ J J J=>trivial
 ·rintro i p vs h hp ⟨t,x,⟨k',v',hx,hk⟩,rfl⟩ q1
  refine bC (p6 hp) ?_;rintro a ha' rfl;refine⟨_,rfl,?_⟩;rw[aS]at ha';refine bC (ci.mp ha') ?_;rintro⟨k2,q⟩ hq rfl;refine xE (pU hk) ?_;rintro u rfl;show G.RepL h _ [.int _,.int k2] [_,_];rw[(RepD.at r1 hq hx).1];exact RepL.cons (bA.mpr ⟨t,by simp⟩) (RepL.cons (bA.mpr ⟨u,rfl⟩) trivial)
 ·rintro i h ⟨⟨_,he⟩,⟨_,q1,_⟩,_⟩ b hb
  simp only[ai,aM,or_false]at hb;rcases hb with rfl|rfl
  ·exact bw he
  ·exact bw q1
 ·intro q
  refine lo.tab.some (none_of _ ?_);rcases tI.mp q with e|e<;>first|exact gA e.symm|exact aD (bJ _ _) (gA e.symm)
end
end Mine
end
section
namespace Mine
section
variable{A:Around}{s:Shared}{V H:Addr->Prop}{env:Env}{sc:Sc}{σ:SE}
theorem jq.peek{h:Heap}{b:Bool}{p:PV}{v:Value}(x:jq G h V H b p v)(np:∀a,H a->a≠PT):ej G h V p v:=by
 cases b with
 |false=>exact .inl x
 |true=>
  refine .inr ?_
  cases p with
  |lst l=>refine fJ x ?_;clear x;intro a e n r;exact⟨a,e,np a n,r⟩
  |dct l=>refine fJ x ?_;clear x;intro a e n r;exact⟨a,e,np a n,r⟩
  |obj c fs=>refine lB x ?_;clear x;intro a C d es ep e n q n' r;exact⟨a,C,d,es,ep,e,np a n,q,np d n',r⟩
  |_=>exact x.elim
theorem wL{x:Str}(h:cC x=true):(x == ("__debug__":Str))=false:=by
 unfold cC at h;simp only[bf,bne_iff_ne,ne_eq]at h;exact beq_eq_false_iff_ne.mpr h.1
theorem wF{x:Str}(h:cC x=true):(x == ("__classdict__":Str))=false:=by
 unfold cC at h;simp only[bf,bne_iff_ne,ne_eq]at h;exact beq_eq_false_iff_ne.mpr h.2
theorem jY{x:Str}{v:Value}{pos:Pos}{Q:Value->Shared->Prop}{E:Value->Shared->Prop}(hk:env.scope.kind=.function)(hx:cC x=true)(hv:dD env s.heap x v)(q:Q v s):
  wpAny (model ag w) A (eval (.Name x pos) env) Q E s:=by
 refine wpAny_Name ?_ (wL hx);rcases hv with⟨a,m,hn,e⟩|⟨a|a,c,hc,hd⟩
 ·exact wpAny_loadName_local hk a hn e q
 ·exact wpAny_loadName_cell hk a hc hd q
 ·exact wpAny_loadName_free hk a hc hd q (wF hx)
theorem BW{x:Str}{v:Value}{Q:Value->Shared->Prop}{E:Value->Shared->Prop}(hk:env.scope.kind=.function)(hx:cC x=true)(hv:dD env s.heap x v)(q:Q v s):
  wpAny (model ag w) A (loadName env x) Q E s:=by
 rcases hv with⟨a,m,hn,e⟩|⟨a|a,c,hc,hd⟩
 ·exact wpAny_loadName_local hk a hn e q
 ·exact wpAny_loadName_cell hk a hc hd q
 ·exact wpAny_loadName_free hk a hc hd q (wF hx)
theorem yi{h:Heap}(i:G.In h){a:Addr}{m:Str->Option Value}(x:G.base.Ns a m):h.Ns a m:=x.at' λo e=>i.old a o (CM x) e
theorem iC{x:Str}{v:Value}{pos:Pos}{Q:Value->Shared->Prop}{E:Value->Shared->Prop}(O:bX G env sc σ V H s)(hx:cC x=true)(hg:sc.lookup x=some .globalImplicit)(gv:cq G x v)(q:Q v s):
  wpAny (model ag w) A (eval (.Name x pos) env) Q E s:=by
 refine Calls.Name_function_global O.kind (O.glob x hg) ?_ (wL hx);have hG:s.heap.Ns env.globals G.mg:=by rw[O.gl];exact yi O.base G.g
 have hB:s.heap.Ns env.builtins G.mb:=by rw[O.bi];exact yi O.base G.b
 rcases gv with e|⟨e1,e2⟩
 ·exact Calls.loadGlobal_global hG e q
 ·exact Calls.loadGlobal_builtin hG e1 hB e2 q
theorem dS{x:Str}(h:bR sc σ x=true):cC x=true/\sc.lookup x=some .globalImplicit:=by
 unfold bR at h;simp only[bf,beq_iff_eq]at h;exact⟨h.1.1,h.1.2⟩
theorem ge{e:Expr}{r:List Expr}(h:∀x p,e≠.Starred x p):starEach (e::r) env=(false,eval e env)::starEach r env:=by
 cases e<;>first|rfl|exact absurd rfl (h _ _)
theorem fZ{pos:Pos}{t:Sem Value}{r:List (Bool×Sem Value)}:backTo pos ((false,t)::r)=(false,t)::backTo pos r:=rfl
theorem wS{pos:Pos}:∀{es:List Expr},(∀e∈es,∀x p,e≠.Starred x p)->(backTo pos (starEach es env)).any (·.1)=false
 | [],_=>rfl
 |e::r,h=>by
  rw[ge (h e (.head _)),fZ,fw,wS λx hx=>h x (.tail _ hx)];rfl
theorem xh{pos:Pos}:∀{es:List Expr},(∀e∈es,∀x p,e≠.Starred x p)->(backTo pos (starEach es env)).all (λx=>!x.1)=true
 | [],_=>rfl
 |e::r,h=>by
  rw[ge (h e (.head _)),fZ,mY,xh λx hx=>h x (.tail _ hx)];rfl
variable{o:cS}{r:Nat}
structure iY(G:GX ag w)(o:cS)(r n:Nat):Prop where
 ev:∀{A:Around}{env:Env}{sc:Sc}{σ:SE}{V H:Addr->Prop}{s:Shared}{e:Expr}{p:PV},br A (n+r)->ev o n sc σ e=some p->bX G env sc σ V H s->wpAny (model ag w) A (eval e env) (ca G V s p) EF s
 evP:∀{A:Around}{env:Env}{sc:Sc}{σ:SE}{V H:Addr->Prop}{s:Shared}{e:Expr}{p:PV},br A (n+r)->evP o n sc σ e=some p->bX G env sc σ V H s->wpAny (model ag w) A (eval e env) (λv s'=>ej G s'.heap V p v/\Kp s s') EF s
 evO:∀{A:Around}{env:Env}{sc:Sc}{σ:SE}{V H:Addr->Prop}{s:Shared}{e:Option Expr}{k:Option Int},br A (n+r)->evO o n sc σ e=some k->bX G env sc σ V H s->wpAny (model ag w) A (valueOrNone (evalOpt e env)) (λv s'=>IsPart v k/\Kp s s') EF s
 evT:∀{A:Around}{env:Env}{sc:Sc}{σ:SE}{V H:Addr->Prop}{s:Shared}{e:Expr}{b:Bool},br A (n+r)->evT o n sc σ e=some b->bX G env sc σ V H s->wpAny (model ag w) A (isTrue e env (eval e env)) (λc s'=>c=b/\Kp s s') EF s
 evAnd:∀{A:Around}{env:Env}{sc:Sc}{σ:SE}{V H:Addr->Prop}{s:Shared}{es:List Expr}{b:Bool},br A (n+r)->evAnd o n sc σ es=some b->bX G env sc σ V H s->wpAny (model ag w) A (allTrue .And es env) (λc s'=>c=b/\Kp s s') EF s
 evOr:∀{A:Around}{env:Env}{sc:Sc}{σ:SE}{V H:Addr->Prop}{s:Shared}{es:List Expr}{b:Bool},br A (n+r)->evOr o n sc σ es=some b->bX G env sc σ V H s->wpAny (model ag w) A (allTrue .Or es env) (λc s'=>c=b/\Kp s s') EF s
 evC:∀{A:Around}{env:Env}{sc:Sc}{σ:SE}{V H:Addr->Prop}{s:Shared}{l rt:Expr}{op:CmpOp}{pos:Pos}{p:PV},br A (n+r)->Mine.ev o n sc σ (.Compare l [op] [rt] pos)=some p->bX G env sc σ V H s ->
  behindInMarks op rt=false/\(∃b,p=.bool b)/\wpAny (model ag w) A (eval l env) (λa aH=>wpAny (model ag w) A (eval rt env) (λb aX=>wpAny (model ag w) A (compareOp op a b) (ca G V s p) EF aX) EF aH) EF s
 evI:∀{A:Around}{env:Env}{sc:Sc}{σ:SE}{V H:Addr->Prop}{s:Shared}{t e:Expr}{items:List PV},br A (n+r)->evI o n sc σ t e=some items->bX G env sc σ V H s ->
  (∀x,foldedSetIterable e env x=pure x)/\wpAny (model ag w) A (eval e env) (λx aH=>wpAny (model ag w) A (pyIter x) (jg G A V t items s) EF aH) EF s
theorem fT{n:Nat}{e:Expr}{p:PV}(h:ev o n sc σ e=some p):∀x q,e≠.Starred x q:=by
 rintro x q rfl
 cases n<;>exact nn h
theorem wp{n:Nat}{e:Expr}{p:PV}(h:evP o n sc σ e=some p):∀x q,e≠.Starred x q:=by
 cases n with
 |zero=>exact nn h
 |succ n=>
  rintro x q rfl;exact fT (n:=n) h x q rfl
theorem pM{α β:Type}{f:α->Option β}{a:α}{as:List α}{bs:List β}(h:dK f (a::as)=some bs):∃b r,f a=some b/\dK f as=some r/\bs=b::r:=
 bY h λb r h1 h2 h=>⟨b,r,h1,h2,bD h⟩
theorem fS{n:Nat}:∀{es:List Expr}{ps:List PV},dK (ev o n sc σ) es=some ps->∀e∈es,∀x q,e≠.Starred x q
 | [],_,_,_,h=>nomatch h
 |e::es,ps,h,e',he=>by
  refine kh (pM h) ?_;rintro b q h1 h2 rfl;rcases ai.mp he with rfl|he
  ·exact fT h1
  ·exact fS h2 e' he
theorem cH{n:Nat}(S:iY G o r n)(hr:br A (n+r)){pos:Pos}:∀{es:List Expr}{ps:List PV}{s:Shared},dK (ev o n sc σ) es=some ps->bX G env sc σ V H s ->
  wpAny (model ag w) A (spliced (backTo pos (starEach es env))) (λvs s'=>G.RepL s'.heap V ps vs/\Kp s s') EF s
 | [],ps,s,h,O=>by
  unfold dK at h;cases h;exact Calls.spliced_nil ⟨trivial,cR.refl _ _⟩
 |e::es,ps,s,h,O=>by
  refine kh (pM h) ?_;rintro p qs h1 h2 rfl;rw[ge (fT h1),fZ];refine Calls.spliced_cons (wpAny_mono (S.ev hr h1 O) (λv aH hv=>?_) λJ J x=>x);refine wpAny_mono (cH S hr h2 (O.kp hv.2)) (λvs aX hvs=>?_) λJ J x=>x;refine⟨?_,hv.2.trans hvs.2⟩;exact RepL.cons (j6 hvs.2 hv.1 O.low.pt) hvs.1
theorem RepL.one{cl:cF}{h:Heap}{p:PV}{vs:List Value}(x:RepL ag w cl h V [p] vs):∃v,vs=[v]/\Rep ag w cl h V p v:=by
 cases vs with
 |nil=>exact False.elim x
 |cons v vs=>cases vs with
  |nil=>exact⟨v,rfl,And.left x⟩
  |cons _ _=>exact False.elim (And.right x)
theorem RepL.two{cl:cF}{h:Heap}{p q:PV}{vs:List Value}(x:RepL ag w cl h V [p,q] vs):∃v u,vs=[v,u]/\Rep ag w cl h V p v/\Rep ag w cl h V q u:=by
 cases vs with
 |nil=>exact False.elim x
 |cons v vs=>refine bC (RepL.one (And.right x)) ?_;rintro u rfl r;exact⟨v,u,rfl,And.left x,r⟩
theorem cL{pos:Pos}{f:Value}{first:List Value}{es:List Expr}{Q:Value->Shared->Prop}(cf:ij G f)(ns:∀e∈es,∀x p,e≠.Starred x p)
  (h:wpAny (model ag w) A (spliced (backTo pos (starEach es env))) (λvs aH=>G.In aH.heap/\wpAny (model ag w) A (call f (first++vs)) Q EF aH) EF s) :
  wpAny (model ag w) A (callWith pos f first (backTo pos (starEach es env)) []) Q EF s:=by
 refine callWith_of (P:=G.In) (by rw[wS ns];rfl) (λh hi=>cf h hi) ?_
 cases es with
 |nil=>
  unfold evalArgs;show wpAny (model ag w) A (spliced [] >>= _) _ EF s;refine wpAny_bind (wpAny_mono h (λvs aH kP=>wpAny_bind (wpAny_pure ?_)) λJ J x=>x);refine wpAny_holding ?_;exact wpAny_bind (wpAny_pure (wpAny_bind (wpAny_pure (wpAny_pure kP))))
 |cons e es=>
  rw[ge (ns e (.head _)),fZ]at h ⊢;exact Calls.evalArgs_plain h
end
end Mine
end
section
namespace Mine
section
variable{A:Around}{s:Shared}{V H:Addr->Prop}{env:Env}{sc:Sc}{σ:SE}
variable{o:cS}{r n:Nat}
def rP(G:GX ag w)(r:Nat)(c:PV)(name:Str)(args:List PV)(p:PV):Prop:=∃T id,PlainAttrs T/\Slot T name id/\typeOf (.builtin id)=pure (.type "method_descriptor") /\
  ∀(A:Around) (s:Shared) (V:Addr->Prop) (v:Value),G.Rep s.heap V c v->s.TypeIs v T/\(∀a,v=.ref a->∃ob,s.heap.get? a=some ob/\ob.dict=none) /\
   ∀vs,G.RepL s.heap V args vs->br A r->eu V s.heap->wpAny (model ag w) A (call (.builtin id) (v::vs)) (ca G V s p) EF s
structure u3(G:GX ag w)(r:Nat):Prop where
 ok:∀c name args p,C8 c name args=some p->rP G r c name args p
theorem jz{s aH aX:Shared}{p:PV}{v:Value}(k:Kp s aH)(g:ca G V aH p v aX):ca G V s p v aX:=⟨g.1,k.trans g.2⟩
theorem rT{ob:Expr}{a:Str}{t:Sem Value}(h:dw ob=true):attributeBase ob a env t=t:=by
 cases ob with
 |Call f as ks p=>cases f with
  |Name x q=>cases as with
   |cons _ _=>rfl
   |nil=>cases ks with
    |cons _ _=>rfl
    |nil=>exact nomatch (show false=true from h)
  |_=>rfl
 |_=>rfl
theorem un{ob:Expr}{name:Str}{apos pos:Pos}{args:List Expr}{Q:Value->Shared->Prop}(hb:dw ob=true)(hl:(apos.endLine == pos.line)=true)(ha:args.length<=8)
  (ns:∀e∈args,∀x p,e≠.Starred x p)
  (h:wpAny (model ag w) A (eval ob env) (λov aH=>∀pl,wpAny (model ag w) A (getMethod ov name pl) (λfx aX=>wpAny (model ag w) A (callWith pos fx.1 fx.2 (backTo pos (starEach args env)) []) Q EF aX) EF aH) EF s) :
  wpAny (model ag w) A (eval (.Call (.Attribute ob name apos) args [] pos) env) Q EF s:=by
 rw[arm_eval_Call,rT hb];refine wpAny_bind (wpAny_mono h (λov aH kP=>?_) λJ J e=>e);refine wpAny_bind (wpAny_standAt ?_);have hform:methodCallForm (args.length+([]:List Keyword).length) (backTo pos (starEach args env)) (backToKw pos (keywordEach [] env))=true:=by
  unfold methodCallForm;rw[xh ns]
  have:args.length < 30:=by exact(pn [_] 0x1D1E1900D880) ha
  rw[show keywordEach [] env=[] from rfl];simp[backToKw,this]
 have hpos:methodCallPos true ob env apos pos=pure pos:=by unfold methodCallPos;simp[hl]
 unfold methodCall;rw[hform];refine wpAny_bind (wpAny_holding (wpAny_mono (kP _) (λfx aX mE=>?_) λJ J e=>e));exact wpAny_bind (wpAny_of_eq hpos mE)
theorem RepF.ind{cl:cF}{h:Heap}{C:List (Str×PV)->List DictEntry->Prop}(h0:C [] [])(h1:∀k p t e ps vs,e.key=.str k t->Rep ag w cl h V p e.val->RepF ag w cl h V ps vs->C ps vs->C ((k,p)::ps) (e::vs)):∀{ps:List (Str×PV)}{vs:List DictEntry},RepF ag w cl h V ps vs->C ps vs:=λ{ps}=>by
 induction ps with
 |nil=>intro vs x;cases vs with
  |nil=>exact h0
  |cons v vs=>exact False.elim x
 |cons p ps ih=>intro vs x;cases vs with
  |nil=>exact False.elim x
  |cons v vs=>
   refine iQ x ?_;clear x;rintro⟨t,e⟩ r y;exact h1 _ _ t _ _ _ e r y (ih y)
noncomputable def DI(ag:Program)(w:World)(cl:cF)(h:Heap)(V:Addr->Prop)(es:List DictEntry)(a:Str):Option PV->Prop
 |some p=>∃e,es.find? (·.key.isStr a)=some e/\Rep ag w cl h V p e.val
 |none=>es.find? (·.key.isStr a)=none
theorem EB{e:DictEntry}{k a:Str}{t:Tok}(h:e.key=.str k t):e.key.isStr a=(a == k):=by
 rw[h];show(k == a)=(a == k);rw[pj,beq_iff_eq,beq_iff_eq];exact eq_comm
theorem uG{cl:cF}{h:Heap}{a:Str}{fs:List (Str×PV)}{es:List DictEntry}(x:RepF ag w cl h V fs es):DI ag w cl h V es a (fs.lookup a):=
 RepF.ind (C:=λfs es=>DI ag w cl h V es a (fs.lookup a)) rfl (λk p t e fs es hk r J ih=>by
  have e1:=EB (a:=a) hk;rw[aO]
  cases hq:a == k with
  |true=>exact⟨e,i4 (e1.trans hq),r⟩
  |false=>
   have e2:(e::es).find? (·.key.isStr a)=es.find? (·.key.isStr a):=i7 (by rw[e1,hq];exact av)
   cases z:fs.lookup a with
   |none=>rw[z]at ih;exact e2.trans ih
   |some p=>rw[z]at ih;refine bC ih ?_;clear ih;intro u hu ru;exact⟨u,e2.trans hu,ru⟩) x
theorem uK{cl:cF}{h:Heap}{fs:List (Str×PV)}{es:List DictEntry}(x:RepF ag w cl h V fs es):es.any (·.refKey)=false:=
 RepF.ind (C:=λfs es=>es.any (·.refKey)=false) rfl (λk p t e fs es hk J J ih=>by rw[fw,ih,DictEntry.refKey,hk];rfl) x
theorem Ds{h:Heap}{c:Str}{fs:List (Str×PV)}{v:Value}(x:ej G h V (.obj c fs) v):∃a C d es ep,v=.ref a/\G.cl c=some C/\h.get? a=some { cls:=.ref C,dict:=some d,data:=.plain } /\
   h.get? d=some { cls:=.type "dict",data:=.dict es ep }/\G.RepF h V fs es.toList:=by
 rcases x with x|x
 ·have x:Rep ag w G.cl h V (.obj c fs) v:=x
  refine dp x ?_;clear x;intro a C d es ep e _ q _ g gd r;exact⟨a,C,d,es,ep,e,q,g,gd,r⟩
 ·refine dp x ?_;clear x;intro a C d es ep e _ q _ g gd r
  exact⟨a,C,d,es,ep,e,q,g,gd,r⟩
theorem yM{cl:cF}{h:Heap}{p:PV}{v:Value}(x:Rep ag w cl h V p v):handedIn v=true:=by
 cases p with
 |none=>rw[show v=.none from x];rfl
 |bool b=>rw[show v=.bool b from x];rfl
 |typ n=>rw[show v=.type n from x];rfl
 |obj c fs=>obtain⟨a,_,_,_,_,rfl,_⟩:=x;rfl
 |_=>refine xE x ?_;clear x;intro a e;first|(rw[e];rfl)|(rw[e.1];rfl)
theorem tB(OO:gF G o r){c a:Str}{fs:List (Str×PV)}{p:PV}{v:Value}(hf:o.fld c a=true)(hp:fs.lookup a=some p)(hi:G.In s.heap)(x:ej G s.heap V (.obj c fs) v):
  wpAny (model ag w) A (getAttr v a true) (ca G V s p) EF s:=by
 refine lB (Ds x) ?_;rintro b C d es ep rfl hc g gd rf;refine bC (OO.fld c a hf) ?_;intro C' hc' get;rw[hc]at hc';cases hc';have q:=uG (a:=a) rf;rw[hp]at q;refine bC q ?_;clear q;intro e he re;exact get A s b d es ep e _ _ hi g gd he (yM re) λtk=>⟨re,Kp.toks⟩
theorem tY{ob:Expr}{a:Str}{pos:Pos}{Q:Value->Shared->Prop}(hb:dw ob=true)
  (h:wpAny (model ag w) A (eval ob env) (λov aH=>wpAny (model ag w) A (getAttr ov a true) Q EF aH) EF s):wpAny (model ag w) A (eval (.Attribute ob a pos) env) Q EF s:=by
 rw[arm_eval_Attribute,rT hb];refine wpAny_bind (wpAny_mono h (λov aH kP=>wpAny_bind (wpAny_standAt (wpAny_bind (wpAny_holding (wpAny_mono kP (λrv aX mE=>?_) λJ J x=>x))))) λJ J x=>x);exact wpAny_bind (wpAny_letTemporaryGo (wpAny_pure mE))
theorem CF{h:Heap}{ps:List PV}{vs:List Value}(x:G.RepL h V ps vs):uE G h V ps vs:=
 RepL.ind (C:=λps vs=>uE G h V ps vs) trivial (λJ J J J r J ih=>And.intro (Or.inl r) ih) x
theorem yW{lower upper:Option Expr}{pos:Pos}{Q:Value->Shared->Prop}
  (h:wpAny (model ag w) A (valueOrNone (evalOpt lower env)) (λl aH=>wpAny (model ag w) A (valueOrNone (evalOpt upper env)) (λu aX=>
   Q (.ref aX.heap.objs.size) { aX with heap:=aX.heap.push { cls:=.type "slice",data:=.fields #[l,u,.none] } }) EF aH) EF s) :
  wpAny (model ag w) A (eval (.Slice lower upper none pos) env) Q EF s:=by
 rw[arm_eval_Slice];refine wpAny_bind (wpAny_mono h (λl aH kP=>wpAny_bind (wpAny_holding (wpAny_mono kP (λu aX mE=>wpAny_bind (wpAny_holding (wpAny_pure ?_))) λJ J x=>x))) λJ J x=>x);exact wpAny_newObj_type mE
theorem oF{s s':Shared}{p:PV}{v:Value}(k:Kp s s')(x:ej G s.heap V p v)(pt:V PT:=by first|assumption|exact eu.pt ‹_› |exact bX.pt ‹_› |exact cX.pt ‹_› |exact cZ.pt ‹_›):ej G s'.heap V p v:=by
 rcases x with x|x
 ·exact .inl (j6 k x)
 ·exact .inr (jN.keep k.hk (λa o h e=>k.keep a o h e) (λJ J x=>x) x)
theorem Ap{v:Value}{a:Option Int}(h:IsPart v a):∃l:Option (Int×Tok),v=partValue l/\l.map (·.1)=a:=by
 cases h with
 |none=>exact⟨none,rfl,rfl⟩
 |int i t=>exact⟨some (i,t),rfl,rfl⟩
theorem tH{c p:PV}{v:Value}{sl:Addr}{a b:Option Int}{va vb:Value}(lo:eu V s.heap)(e:jA c a b=some p)(rc:ej G s.heap V c v)(hs:s.heap.IsSliceOf sl va vb .none)(pa:IsPart va a)(pb:IsPart vb b):
  r6 G A s V v (.ref sl) p/\o4 c=true:=by
 cases c with
 |lst l=>exact fz e λhz e=>⟨by rw[bD e];exact zy lo hz rc hs pa pb,rfl⟩
 |tup l=>
  refine io e λha e1=>b9 e1 λk hk e2=>fz e2 λhz e3=>⟨?_,rfl⟩;refine xA (gw hz) ?_;intro hz h3;refine xA (gw hz) ?_;intro h1 h2;refine xE (nL (of_decide_eq_true h2)) ?_;rintro k rfl
  cases pa with
  |int i t=>exact nomatch (show false=true from ha)
  |none=>
   cases pb with
   |none=>exact nn hk
   |int i t=>rw[bD e3];exact Cl (b:=k) lo (of_decide_eq_true h1) (Int.ofNat_lt.mp (of_decide_eq_true h3)) rc (bD hk▸hs)
 |str x=>
  refine fz e λhz e=>⟨?_,rfl⟩;refine xE (kw rc) ?_;rintro t rfl;refine bC (Ap pa) ?_;rintro l rfl rfl;refine bC (Ap pb) ?_;rintro u rfl rfl;rw[bD e];exact Cf hz hs
 |_=>exact nn e
end
end Mine
end
section
namespace Mine
open Builtin Builtin.Str
section
variable{A:Around}{s:Shared}{V:Addr->Prop}
theorem rz{h:Heap}:∀(l:List (Str×Tok)),G.RepL h V ((l.map (·.1)).map .str) (strValues l)
 | []=>trivial
 |(x,t)::r=>RepL.cons (df.mpr ⟨t,rfl⟩) (rz r)
theorem w9{x y:Str}{t u:Tok}(lo:eu V s.heap)(hy:(y.length == 0)=false)(hsz:x.length<=sizeLine)(hsz2:(Txt.split x y).length<=sizeLine):
  wpAny (model ag w) A (call (.builtin "str.split") [.str x t,.str y u]) (ca G V s (.lst ((Txt.split x y).map .str))) EF s:=by
 have fin:∀(l:List (Str×Tok)) (tk:Nat),l.map (·.1)=Txt.split x y->ca G V s (.lst ((Txt.split x y).map .str)) (.ref s.heap.objs.size) { s with heap:=s.heap.push { cls:=.type "list",data:=.seq (strValues l).toArray },toks:=tk }:=λl tk e=>by
  rw[<- e];exact jr lo (rz l)
 cases h1:(decide (x.length < y.length) ||decide (Builtin.Str.strKind x < Builtin.Str.strKind y))
 ·cases hf:(occurrences x y 0 x.length (x.length+1)).isEmpty
  ·have e:Txt.split x y=partsBetween x (occurrences x y 0 x.length (x.length+1)) y.length:=(if_neg (ne_true_of_eq_false h1)).trans (if_neg (ne_true_of_eq_false hf))
   refine call_meets PySem.F.slot_str_split (typeIs_str _ _ _) PySem.F.entry_str_split (PySem.F.args_str_split_2 _ _) (meets_str_split_sep x y t u h1 hy hf hsz (by rw[<- e];exact hsz2)) ?_;show ca G V s _ _ { s with toks:=_,heap:=s.heap.push { cls:=.type "list",data:=.seq (strsFrom s.toks (partsBetween x (occurrences x y 0 x.length (x.length+1)) y.length)).toArray } }
   rw[strsFrom_eq];exact fin (numbered s.toks _) _ ((numbered_texts _ _).trans e.symm)
  ·exact call_meets PySem.F.slot_str_split (typeIs_str _ _ _) PySem.F.entry_str_split (PySem.F.args_str_split_2 _ _) (meets_str_split_not_found x y t u h1 hy hf)
    (fin [(x,t)] s.toks ((if_neg (ne_true_of_eq_false h1)).trans (if_pos hf)).symm)
 ·exact call_meets PySem.F.slot_str_split (typeIs_str _ _ _) PySem.F.entry_str_split (PySem.F.args_str_split_2 _ _) (meets_str_split_cannot_occur x y t u h1)
   (fin [(x,t)] s.toks (if_pos h1).symm)
theorem xB{l:List PV}{ss:List Str}{h:Heap}{vs:List Value}(e:l5 l=some ss)(r:G.RepL h V l vs):∃ps:List (Str×Tok),strValues ps=vs/\ps.map (·.1)=ss:=
 RepL.ind (C:=λl vs=>∀ss,l5 l=some ss->∃ps:List (Str×Tok),strValues ps=vs/\ps.map (·.1)=ss) (λss e=>⟨[],rfl,(bD e).symm⟩)
  (λp v l vs r J ih ss e=>bY e λx q hx hq e=>by
   refine bC (ih q hq) ?_;rintro ps rfl rfl;refine xE (DD  hx r) ?_;rintro t rfl;exact⟨(x,t)::ps,rfl,(bD e).symm⟩) r ss e
theorem y0{k:Int}:∀{r:List PV}{b:Bool},j0 k r=some b->∀p∈r,∃i,p=.int i:=λ{r}=>by
 induction r with
 |nil=>intro b _ p hp;cases hp
 |cons p r ih=>
  intro b h q hq;refine bY h λi c hi hc J=>?_;rcases ai.mp hq with rfl|hq
  ·exact⟨i,jy hi⟩
  ·exact ih hc q hq
theorem yb{k:Int}:∀{l:List PV}{j:Nat},kM k l=some j->(∀p∈l,∃i,p=.int i)/\l[j]?=some (.int k)/\∀m,m < j->l[m]?≠some (.int k):=λ{l}=>by
 induction l with
 |nil=>intro j h;exact nn h
 |cons p r ih=>
  intro j h;refine b9 h λi hi h=>?_;have e:=jy hi;by_cases q:i=k
  ·refine md (C:=λj=>(∀x∈p::r,∃i,x=.int i)/\(p::r)[j]?=some (.int k)/\∀m,m < j->(p::r)[m]?≠some (.int k)) ((if_pos (beq_iff_eq.mpr q)).symm.trans h) λb hb=>?_
   refine⟨λx hx=>(ai.mp hx).elim (λhx=>⟨i,hx.trans e⟩) (y0 hb x),by rw[e,q];rfl,λm hm=>absurd hm (dH _)⟩
  ·refine md (C:=λj=>(∀x∈p::r,∃i,x=.int i)/\(p::r)[j]?=some (.int k)/\∀m,m < j->(p::r)[m]?≠some (.int k)) ((if_neg (λh=>q (beq_iff_eq.mp h))).symm.trans h) λj' hj=>?_
   refine iQ (ih hj) ?_;intro h1 h2 h3;refine⟨λx hx=>(ai.mp hx).elim (λhx=>⟨i,hx.trans e⟩) (h1 x),h2,λm hm=>?_⟩
   cases m with
   |zero=>intro z;rw[e]at z;injection z with z;injection z with z;exact q z
   |succ m=>exact h3 m (oz hm)
theorem x4{l:List PV}{a:Addr}{vs:List Value}{k:PV}{kv:Value}{j:Nat}(e:Value->Bool)(pl:s.heap.PlainList a vs.toArray)(rl:G.RepL s.heap V l vs)(rk:G.Rep s.heap V k kv)(hz:l.length<=1048576)(hu:A.units+2 < cLine)
  (he:∀(m:Nat) (p:PV) (v:Value),l[m]?=some p->vs[m]?=some v->n0 1 p k=some (e v)) (hj:l[j]?=some k) (hk:n0 1 k k=some true) (hno:∀(m:Nat) (p:PV),m < j->l[m]?=some p->n0 1 p k=some false) :
  wpAny (model ag w) A (call (.builtin "list.index") [.ref a,kv]) (ca G V s (.int j)) EF s:=by
 have len:=RepL.length rl;refine xE pl ?_;clear pl;intro n ho;have hjl:j < l.length:=(au.mp hj).1;have at':∀m,m < vs.length->∃p v,l[m]?=some p/\vs[m]?=some v:=λm hm=>by
  have hm':m < l.length:=by exact(pn [_,_,_] 0x1D021D122D10) len hm
  exact⟨l[m],vs[m],by simp[hm'],by simp[hm]⟩
 refine call_meets PySem.F.slot_list_index ⟨_,ho,rfl⟩ PySem.F.entry_list_index (PySem.F.args_list_index_2 _ _)
  (SeqAt.list_indexAt a vs.toArray n none #[] kv e j (by rw[aF];exact(pn [_,_,_] 0x1D121D022D10) len hjl) (by lia) ?_ ?_) ⟨ho,λy hy=>?_,⟨bA.mpr ⟨_,rfl⟩,Kp.toks⟩⟩
 ·refine fL (at' j (by exact(pn [_,_,_] 0x1D121D022D10) len hjl)) ?_;intro p v h1 h2
  have:=he j p v h1 h2
  rw[hj]at h1;cases h1;rw[hk]at this;have hv:vs.toArray[j]'(by rw[aF];exact(pn [_,_,_] 0x1D121D022D10) len hjl)=v:=by
   have:=(au.mp h2)
   refine xE this ?_;clear this;intro _ q
   simpa using q
  rw[hv];exact(Option.some.inj this).symm
 ·intro m hm hmj
  rw[aF]at hm;refine fL (at' m hm) ?_;intro p v h1 h2;have q1:=he m p v h1 h2;rw[hno m p hmj h1]at q1;have hv:vs.toArray[m]'(by rw[aF];exact hm)=v:=by
   refine xE (au.mp h2) ?_;intro _ q
   simpa using q
  rw[hv];exact(Option.some.inj q1).symm
 ·have hy':y∈vs:=by simpa using hy
  obtain⟨m,hm,rfl⟩:=List.mem_iff_getElem.mp hy';refine fL (at' m hm) ?_;intro p v h1 h2;have hv:vs[m]=v:=by refine xE (au.mp h2) ?_;intro _ q;exact q
  rw[hv];refine bC (RepL.get rl h1) ?_;intro v' h3 rp;rw[h2]at h3;cases h3;exact(vk 1).1 (he m p v h1 h2) (by show A.units+1+1 < cLine;exact(pn [_,_] 0x1D1A18A1801D1A280) hu) rp rk
theorem qR{args:List PV}{a:PV}(h:qA args=some a):args=[a]:=by
 match args,h with
 | [_],h=>cases h;rfl
theorem FD{r:Nat}{x:Str}{a p:PV}(h:((kB a).bind λt=>(if x.length<=1048576 && decide (0 < t.length) && (Txt.split x t).length<=1048576 then some (.lst ((Txt.split x t).map .str)) else none))=some p):rP G r (.str x) "split" [a] p:=by
 refine b9 h λy hy h=>fz h λhc h=>?_;rw[bD h];refine xA (gw hc) ?_;intro hc h3;refine xA (gw hc) ?_;intro h1 h2;have h1:=of_decide_eq_true h1;have h2:=of_decide_eq_true h2;have h3:=of_decide_eq_true h3;clear h hc;refine⟨"str","str.split",PySem.F.plainAttrs_str,PySem.F.slot_str_split,PySem.F.type_str_split,λA s V v rv=>?_⟩;refine xE (df.mp rv) ?_;rintro t rfl;refine⟨typeIs_str _ _ _,(λJ e=>nomatch e),λvs rl hr lo=>?_⟩;refine bC (RepL.one rl) ?_;rintro u rfl ru;refine xE (DD  hy ru) ?_;rintro t' rfl;clear rl ru rv hr hy;exact w9 lo (beq_eq_false_iff_ne.mpr (gB h2)) (by rw[bn];lia) (by rw[bn];lia)
theorem Hp{r:Nat}{x:Str}{a p:PV}(h:((ju a).bind λl=>(l5 l).bind λss=>if JoinOk x ss then some (.str (Txt.join x ss)) else none)=some p):rP G r (.str x) "join" [a] p:=by
 refine b9 h λl hl h=>b9 h λss hs h=>fz h λhok h=>?_;rw[bD h];refine⟨"str","str.join",PySem.F.plainAttrs_str,PySem.F.slot_str_join,PySem.F.type_str_join,λA s V v rv=>?_⟩;refine xE (df.mp rv) ?_;rintro t rfl;refine⟨typeIs_str _ _ _,(λJ e=>nomatch e),λvs rl hr lo=>?_⟩;refine bC (RepL.one rl) ?_;rintro u rfl ru;refine bx (CU  hl ru) ?_;rintro a rfl _ us pl rl;refine bC (xB hs rl) ?_;rintro ps rfl e;exact SC.join pl.isList e hok λt' k=>⟨df.mpr ⟨_,rfl⟩,Kp.toks⟩
theorem xI{V:Addr->Prop}{T:String}{l:List (Int×PV)}{d:Addr}{kvs:List (Int×Value)}(lo:eu V s.heap)(nV:¬V d)(z:(d == sysModules)=false)(hd:s.heap.DictOf (intKind ag w) d kvs)(rd:G.RepD s.heap V l kvs):
  ∃a,Value.ref s.heap.objs.size=.ref a/\¬V a/\∃d',(s.heap.push { cls:=.type T,data:=.fields #[.ref d] }).get? a=some { cls:=.type T,data:=.fields #[.ref d'] }/\¬V d'/\(d' == sysModules)=false/\∃kvs,(s.heap.push { cls:=.type T,data:=.fields #[.ref d] }).DictOf (intKind ag w) d' kvs/\G.RepD (s.heap.push { cls:=.type T,data:=.fields #[.ref d] }) V l kvs:=
 ⟨_,rfl,lo.fresh,d,ay _ rfl,nV,z,kvs,hd.push _,RepD.keep (λb o J e=>af _ e) (λJ J x=>x) rd⟩
theorem C5{r:Nat}{l:List (Int×PV)}:rP G r (.dct l) "items" [] (.its l):=by
 refine⟨"dict","dict.items",PySem.F.plainAttrs_dict,PySem.F.slot_dict_items,PySem.F.type_dict_items,λA s V v rv=>?_⟩;refine cK (d5.mp rv) ?_;rintro d rfl nV z kvs hd rd;refine⟨hd.typeIs,λa e=>by cases e;exact hd.mapOf.noDict _ rfl,λvs rl hr lo=>?_⟩
 cases vs with
 |cons _ _=>exact False.elim rl
 |nil=>exact call_meetsIn PySem.F.slot_dict_items hd.typeIs PySem.F.entry_dict_items (PySem.F.args_dict_items_1 _) (meets_dict_items (intKind ag w) d z) ⟨⟨kvs,hd⟩,xI lo nV z hd rd,dF (tk:=s.toks)⟩
theorem B5{r:Nat}{l:List (Int×PV)}:rP G r (.dct l) "values" [] (.vals l):=by
 refine⟨"dict","dict.values",PySem.F.plainAttrs_dict,PySem.F.slot_dict_values,PySem.F.type_dict_values,λA s V v rv=>?_⟩;refine cK (d5.mp rv) ?_;rintro d rfl nV z kvs hd rd;refine⟨hd.typeIs,λa e=>by cases e;exact hd.mapOf.noDict _ rfl,λvs rl hr lo=>?_⟩
 cases vs with
 |cons _ _=>exact False.elim rl
 |nil=>exact call_meetsIn PySem.F.slot_dict_values hd.typeIs PySem.F.entry_dict_values (PySem.F.args_dict_values_1 _) (meets_dict_values (intKind ag w) d z) ⟨⟨kvs,hd⟩,xI lo nV z hd rd,dF (tk:=s.toks)⟩
theorem Er{r:Nat}{l:List PV}{k:PV}{j:Nat}(e:Value->Bool)(hz:l.length<=1048576)(he:∀(V:Addr->Prop) (h:Heap) (m:Nat) (p:PV) (v:Value),l[m]?=some p->G.Rep h V p v->n0 1 p k=some (e v))(hj:l[j]?=some k)(hk:n0 1 k k=some true)(hno:∀(m:Nat) (p:PV),m < j->l[m]?=some p->n0 1 p k=some false):rP G (r+1) (.lst l) "index" [k] (.int j):=by
 refine⟨"list","list.index",PySem.F.plainAttrs_list,PySem.F.slot_list_index,PySem.F.type_list_index,λA s V v rv=>?_⟩;refine bx (dP.mp rv) ?_;rintro a rfl nV us pl rl;refine⟨pl.isList.typeIs,λb e=>by cases e;refine xE pl ?_;clear pl;intro _ z;exact⟨_,z,rfl⟩,λvs rl' hr lo=>?_⟩;refine bC (RepL.one rl') ?_;rintro u rfl ru;refine x4 e pl rl ru hz (by have:=hr.2.2;clear rl rl' ru rv;unfold cLine;exact(pn [_,_] 0x1D26AC29A2801D26AC29A4CA181A80) this) (λm p v hp hv=>?_) hj hk hno;refine bC (RepL.get rl hp) ?_;intro v' hv' rp;exact he V s.heap m p v hp (bD (hv'.symm.trans hv)▸rp)
theorem Hm{r:Nat}:u3 G (r+1) where
 ok:=by
  intro c name args p h
  cases c with
  |str x=>
   refine b9 h λa ha h=>?_;rw[qR ha];by_cases q:(name == ("split":Str))=true
   ·rw[beq_iff_eq.mp q];exact FD ((if_pos q).symm.trans h)
   ·exact io ((if_neg q).symm.trans h) λhn h=>by rw[beq_iff_eq.mp hn];exact Hp h
  |dct l=>
   refine io h λha h=>?_;rw[dz ha];by_cases q:(name == ("items":Str))=true
   ·rw[beq_iff_eq.mp q,bD ((if_pos q).symm.trans h)];exact C5
   ·exact io ((if_neg q).symm.trans h) λhn h=>by rw[beq_iff_eq.mp hn,bD h];exact B5
  |lst l=>
   refine b9 h λa ha h=>io h λhn h=>fz h λhz h=>?_;rw[qR ha,beq_iff_eq.mp hn]
   cases a with
   |int k=>
    refine md (C:=rP G (r+1) (.lst l) "index" [.int k]) h λj hj=>?_;refine iQ (yb hj) ?_;intro h1 h2 h3;refine Er (isInt k) hz (λV h m p v hp rp=>?_) h2 (congrArg some (beq_self_eq_true k)) λm p hm hp=>?_
    ·refine xE (h1 p (aQ hp)) ?_;rintro i rfl
     refine xE (bA.mp rp) ?_;rintro t rfl;rfl
    ·refine xE (h1 p (aQ hp)) ?_;rintro i rfl
     exact congrArg some (beq_eq_false_iff_ne.mpr λe=>h3 m hm (e▸hp))
   |_=>exact nn h
  |_=>exact nn h
end
end Mine
end
section
namespace Mine
section
variable{A:Around}{s:Shared}{V:Addr->Prop}
noncomputable def iV:List PV->Option (List Int)
 | []=>some []
 |a::r=>cW (λi is=>some (i::is)) (cb a) (iV r)
noncomputable def Cv(l:List Int):Bool:=decide (l.length<=1048576) && l.all λi=>decide (i.natAbs<=1099511627776)
noncomputable def p5:List PV->Option (List (Int×Int))
 | []=>some []
 |a::r=>cW (λi is=>some (i::is)) (AJ a) (p5 r)
noncomputable def dX:Int->List Int->Int
 |m,[]=>m
 |m,i::r=>dX (if i < m then i else m) r
noncomputable def Ka(a:PV):Option PV:=match a with
 | .str s=>if s.length<=1048576 then some (.int (s.length:Int)) else none
 | .lst l=>if l.length<=1048576 then some (.int (l.length:Int)) else none
 | .tup l=>if l.length<=1048576 then some (.int (l.length:Int)) else none
 | .dct l=>if l.length<=1048576 then some (.int (l.length:Int)) else none
 |_=>none
noncomputable def G2(args:List PV):Option (PV×PV):=match args with
 | []=>none
 |a::r=>(qA r).map λb=>(a,b)
noncomputable def Kg(q:PV×PV):Option PV:=cW (λa b=>some (.int (if b > a then b else a))) (cb q.1) (cb q.2)
noncomputable def Kc(a:PV):Option PV:=(ju a).bind λl=>(iV l).bind λns=>match ns with
 | []=>none
 |i::r=>if r.length < 1048576 then some (.int (dX i r)) else none
noncomputable def KK(a:PV):Option PV:=match a with
 | .lst l=>(iV l).bind λns=>if Cv ns then some (.int ns.sum) else none
 | .vals l=>(iV (l.map (·.2))).bind λns=>if Cv ns then some (.int ns.sum) else none
 |_=>none
noncomputable def KM(a:PV):Option PV:=(cb a).bind λa=>if a.natAbs<=1099511627776 then some (.str (toString a)) else none
noncomputable def Kl(a:PV):Option PV:=(kB a).bind λs=>(j8 s.cps.toList).map λ(c:Nat)=>PV.int (c:Int)
noncomputable def J2(a:PV):Option PV:=(ju a).bind λl=>if l.length<=1048576 then some (.tup l) else none
noncomputable def Ic:PV->Option String
 | .typ n=>some n
 |_=>none
theorem Ek{v:PV}{i:String}(h:Ic v=some i):v=.typ i:=by
 cases v<;>first|exact nn h|(rw[bD h])
noncomputable def Ji:PV->Option Bool
 | .int _=>some false
 | .tup _=>some true
 |_=>none
noncomputable def Kz(q:PV×PV):Option PV:=(Ic q.2).bind λn=>gd (n == "tuple") ((Ji q.1).map .bool)
noncomputable def ME(f:Str)(args:List PV):Option PV:=
 if f == ("len":Str) then(qA args).bind Ka
 else if f == ("max":Str) then(G2 args).bind Kg
 else if f == ("min":Str) then(qA args).bind Kc
 else if f == ("sum":Str) then(qA args).bind KK
 else if f == ("str":Str) then(qA args).bind KM
 else if f == ("ord":Str) then(qA args).bind Kl
 else if f == ("tuple":Str) then(qA args).bind J2
 else if f == ("isinstance":Str) then(G2 args).bind Kz
 else none
structure sQ(G:GX ag w):Prop where
 len:cq G ("len":Str) (.builtin "len")
 max:cq G ("max":Str) (.builtin "max")
 min:cq G ("min":Str) (.builtin "min")
 sum:cq G ("sum":Str) (.builtin "sum")
 str:cq G ("str":Str) (.type "str")
 ord:cq G ("ord":Str) (.builtin "ord")
 tuple:cq G ("tuple":Str) (.type "tuple")
 isi:cq G ("isinstance":Str) (.builtin "isinstance")
theorem sj{n:String}(h:keeperOf (.builtin n)=pure .machine):ij G (.builtin n):=λJ J=>⟨.machine,.inr (.inl rfl),.of_pure h⟩
theorem y3{n:String}(h:keeperOf (.type n)=pure .machine):ij G (.type n):=λJ J=>⟨.machine,.inr (.inl rfl),.of_pure h⟩
theorem uA{h:Heap}{p:PV}{vs:List Value}(x:uE G h V [p] vs):∃v,vs=[v]/\ej G h V p v:=by
 cases vs with
 |nil=>exact x.elim
 |cons v vs=>cases vs with
  |nil=>exact⟨v,rfl,x.1⟩
  |cons _ _=>exact x.2.elim
theorem t0{h:Heap}{p q:PV}{vs:List Value}(x:uE G h V [p,q] vs):∃v u,vs=[v,u]/\ej G h V p v/\ej G h V q u:=by
 cases vs with
 |nil=>exact x.elim
 |cons v vs=>refine bC (uA x.2) ?_;rintro u rfl y;exact⟨v,u,rfl,x.1,y⟩
theorem sw{l:List PV}{ns:List Int}{h:Heap}{vs:List Value}(e:iV l=some ns)(r:G.RepL h V l vs):∃ps:List (Int×Tok),vs=ps.map (λp=>Value.int p.1 p.2)/\ps.map (·.1)=ns:=
 RepL.ind (C:=λl vs=>∀ns,iV l=some ns->∃ps:List (Int×Tok),vs=ps.map (λp=>Value.int p.1 p.2)/\ps.map (·.1)=ns) (λss e=>⟨[],rfl,(bD e).symm⟩)
  (λp v l vs r J ih ss e=>bY e λx q hx hq e=>by
   refine bC (ih q hq) ?_;rintro ps rfl rfl;refine xE (j5  hx r) ?_;rintro t rfl;exact⟨(x,t)::ps,rfl,(bD e).symm⟩) r ns e
theorem RepD.vals{cl:cF}{h:Heap}{l:List (Int×PV)}{kvs:List (Int×Value)}(x:RepD ag w cl h V l kvs):RepL ag w cl h V (l.map (·.2)) (kvs.map (·.2)):=by
 refine RepD.ind (C:=λl kvs=>RepL ag w cl h V (l.map Prod.snd) (kvs.map Prod.snd)) ?_ (λk p v ps vs r J ih=>?_) x
 ·trivial
 ·exact RepL.cons r ih
theorem qh{ps:List (Int×Tok)}:(ps.map λp=>Value.int p.1 p.2).toArray=intItems ps.toArray:=by simp[intItems]
theorem iI{ps:List (Int×Tok)}:∀j,j<=ps.length->preSum (numAt ps.toArray) j=((ps.map (·.1)).take j).sum
 |0,_=>by simp[preSum]
 |j+1,h=>by
  unfold preSum;rw[iI j (by exact(pn [_,_] 0x0D100D1A180) h),List.take_add_one,List.sum_append]
  have:(ps.map (·.1))[j]?=some (numAt ps.toArray j):=by
   unfold numAt;have hj:j < ps.length:=by exact(pn [_,_] 0x1D100D1A180) h
   simp[hj]
  rw[this];simp
theorem uJ:∀{l:List Int}{b:Int},0<=b->(∀i∈l,-b<=i/\i<=b)->-(b * l.length)<=l.sum/\l.sum<=b * l.length
 | [],b,_,_=>by simp
 |i::r,b,hb,h=>by
  have h1:=uJ hb λj hj=>h j (.tail _ hj);have h2:=h i (.head _);rw[cg,am]
  have:b * ((r.length+1:Nat):Int)=b * r.length+b:=by
   rw[Int.natCast_add,Int.mul_add];simp
  rw[this];exact(pz [] [_,_,_,_] 0x0F0EA20A130EA133CA200F0E230E33C20F0E010E13C0) h1 h2
theorem xY{ns:List Int}(h:Cv ns=true):∀m,m<=ns.length->InLong ((ns.take m).sum):=by
 intro m hm;unfold Cv at h;simp only[bf,decide_eq_true_eq,bj]at h;have hb:=uJ (l:=ns.take m) (b:=1099511627776) (by decide) λi hi=>by
  have:=h.2 i (bQ hi);lia
 have hl:((ns.take m).length:Int)<=1048576:=by rw[bK];have:=h.1;lia
 unfold InLong;have hz:(1099511627776:Int) * (ns.take m).length<=1099511627776 * 1048576:=Int.mul_le_mul_of_nonneg_left hl (by decide)
 lia
theorem Cd{ns:List Int}{a:Addr}{ps:List (Int×Tok)}(hh:A.handled=none)(hl:s.heap.IsList a (ps.map λp=>Value.int p.1 p.2).toArray)(e:ps.map (·.1)=ns)(hc:Cv ns=true):
  wpAny (model ag w) A (call (.builtin "sum") [.ref a]) (ca G V s (.int ns.sum)) EF s:=by
 rw[qh]at hl;have len:ps.length=ns.length:=by rw[<- e,aa]
 refine sum_intList hh hl (λj hj=>?_) λh' tk t' hk=>⟨bA.mpr ⟨t',?_⟩,Kp.of hk⟩
 ·have hj:j < ps.length:=by simpa using hj
  refine⟨?_,?_⟩
  ·have hx:numAt ps.toArray j∈ns:=by
    rw[<- e]
    have:(ps.map (·.1))[j]?=some (numAt ps.toArray j):=by unfold numAt;simp[hj]
    exact aQ this
   unfold Cv at hc;simp only[bf,decide_eq_true_eq,bj]at hc
   have:=hc.2 _ hx
   unfold InLong;lia
  ·rw[iI _ (by exact(pn [_,_] 0x0D1A1801D10) hj),e]
   exact xY hc _ (by exact(pn [_,_,_] 0x0D1A1821D022D10) len hj)
 ·rw[show ps.toArray.size=ps.length by simp,iI _ (aK _),e,len,dk]
theorem EC{l:List (Int×PV)}{ns:List Int}{v:Value}(hh:A.handled=none)(r:G.Rep s.heap V (.vals l) v)(e:iV (l.map (·.2))=some ns)(hc:Cv ns=true):
  wpAny (model ag w) A (call (.builtin "sum") [v]) (ca G V s (.int ns.sum)) EF s:=by
 refine jE r ?_;clear r;rintro a rfl nV d g nd z kvs hd rd;refine xE hd.dictAt ?_;intro ep ha;have hlt:d < s.heap.objs.size:=by refine fL ha ?_;clear ha;intro o _ e _;exact aN e
 have hne:d≠s.heap.objs.size:=be hlt;refine bC (sw  e rd.vals) ?_;intro ps h1 h2;have len:ps.length=ns.length:=by rw[<- h2,aa]
 have lenk:kvs.length=ps.length:=by have:=congrArg List.length h1;simpa using this
 refine call_sum_walk (wpAny_pyIter_values ⟨_,g,rfl,rfl⟩ ha ?_);refine⟨_,_,_,_,_,_,numAt ps.toArray,rfl,Walks.dictValues (A:=A.in1) hh _ _ hne kvs ep,⟨⟨_,ay _ rfl,rfl,rfl⟩,jV ha⟩,λb hb=>?_,λi v hv=>?_,λj hj=>?_,λh' tk t' hk=>⟨bA.mpr ⟨t',?_⟩,?_⟩⟩
 ·show b < (s.heap.push _).objs.size
  rw[bL];rcases ai.mp hb with rfl|hb
  ·exact gC _
  ·rw[aA.mp hb];exact bM hlt
 ·refine xE hv ?_;clear hv;intro k hx
  have:(kvs.map (·.2))[i]?=some v:=by rw[aS,hx];rfl
  rw[h1,aS]at this;refine bC (ci.mp this) ?_;rintro p hp rfl;exact⟨p.2,by unfold numAt;simp[hp]⟩
 ·rw[lenk]at hj
  refine⟨?_,?_⟩
  ·have hx:numAt ps.toArray j∈ns:=by
    rw[<- h2]
    have:(ps.map (·.1))[j]?=some (numAt ps.toArray j):=by unfold numAt;simp[hj]
    exact aQ this
   unfold Cv at hc;simp only[bf,decide_eq_true_eq,bj]at hc
   have:=hc.2 _ hx
   unfold InLong;lia
  ·rw[iI _ (by exact(pn [_,_] 0x0D1A1801D10) hj),h2]
   exact xY hc _ (by exact(pn [_,_,_] 0x0D1A1821D022D10) len hj)
 ·rw[lenk,iI _ (aK _),h2,len,dk]
 ·have hk':=λb o (e:s.heap.get? b=some o)=>hk b o (λhm=>by rw[aA.mp hm,dC]at e;cases e) (af _ e)
  exact⟨λb o J J e=>hk' b o e,rfl,id,.keep λo e=>hk' _ o e⟩
theorem B6{ps:List (Int×Tok)}{i:Int}{r:List Int}(e:ps.map (·.1)=i::r):∃t,(intItems ps.toArray)[argBest (λi j=>decide (numAt ps.toArray i < numAt ps.toArray j)) (ps.length - 1)]?=some (.int (dX i r) t):=by
 have num:∀j,j < (i::r).length->(i::r)[j]?=some (numAt ps.toArray j):=λj hj=>by
  rw[<- e];rw[<- e,aa]at hj;unfold numAt;simp[hj]
 have key:∀k,k<=r.length->argBest (λi j=>decide (numAt ps.toArray i < numAt ps.toArray j)) k<=k/\numAt ps.toArray (argBest (λi j=>decide (numAt ps.toArray i < numAt ps.toArray j)) k)=dX i (r.take k):=by
  intro k
  induction k with
  |zero=>
   intro _;refine⟨aK _,?_⟩
   have:=num 0 (by simp)
   simp only[List.getElem?_cons_zero,Option.some.injEq]at this;simp[argBest,dX,this]
  |succ k ih=>
   intro hk;refine xA (ih (by exact(pn [_,_] 0x0D100D1A180) hk)) ?_;intro h1 h2;have app:∀(m:Int) (a b:List Int),dX m (a++b)=dX (dX m a) b:=by
    intro m a
    induction a generalizing m with
    |nil=>intro b;rfl
    |cons x a ih=>intro b;show dX _ (a++b)=_;rw[ih];rfl
   have hn:=num (k+1) (by simp;exact(pn [_,_] 0x1D100D1A180) hk);rw[b0]at hn;rw[List.take_add_one,hn,app];unfold argBest;rw[h2];show _/\_=dX (dX i (r.take k)) [numAt ps.toArray (k+1)];have one:∀(m x:Int),dX m [x]=if x < m then x else m:=λJ J=>rfl
   rw[one];by_cases c:numAt ps.toArray (k+1) < dX i (r.take k)
   ·rw[if_pos (by simpa using c),if_pos c]
    exact⟨aK _,rfl⟩
   ·rw[if_neg (by simpa using c),if_neg c]
    exact⟨Nat.le_succ_of_le h1,h2⟩
 have len:ps.length=r.length+1:=by have:=congrArg List.length e;simpa using this
 refine xA (key r.length (aK _)) ?_;intro h1 h2;rw[dk]at h2;rw[len,Nat.add_sub_cancel];have hlt:argBest (λi j=>decide (numAt ps.toArray i < numAt ps.toArray j)) r.length < ps.length:=by exact(pn [_,_,_] 0x1D020D122DA1810) len h1
 refine⟨ps[argBest (λi j=>decide (numAt ps.toArray i < numAt ps.toArray j)) r.length].2,?_⟩;rw[<- h2];generalize argBest (λi j=>decide (numAt ps.toArray i < numAt ps.toArray j)) r.length=m at hlt;unfold intItems;rw[Array.getElem?_map];simp[hlt,numAt]
def gu(G:GX ag w)(r:Nat)(f:Str)(args:List PV)(p:PV):Prop:=∃fv,cq G f fv/\ij G fv/\jX G r fv args p
theorem GK{args:List PV}{q:PV×PV}(h:G2 args=some q):args=[q.1,q.2]:=by
 cases args with
 |nil=>exact nn h
 |cons a r=>exact md (C:=λq:PV×PV=>a::r=[q.1,q.2]) h λb hb=>by rw[qR hb]
theorem si{r:Nat}{n:String}{f:Str}{args:List PV}{p:PV}(g:cq G f (.builtin n))(h:keeperOf (.builtin n)=pure .machine)(k:jX G r (.builtin n) args p):gu G r f args p:=⟨_,g,sj h,k⟩
theorem HU{r:Nat}{n:String}{f:Str}{args:List PV}{p:PV}(g:cq G f (.type n))(h:keeperOf (.type n)=pure .machine)(k:jX G r (.type n) args p):gu G r f args p:=⟨_,g,y3 h,k⟩
theorem sh{r:Nat}{f:Value}{a p:PV}(k:∀(A:Around) (s:Shared) (V:Addr->Prop) (v:Value),br A r->eu V s.heap->ej G s.heap V a v->wpAny (model ag w) A (call f [v]) (ca G V s p) EF s):jX G r f [a] p:=λA s V vs hr J lo pk=>by
 refine bC (uA pk) ?_;rintro v rfl x;exact k A s V v hr lo x
theorem Bq{h:Heap}{n:List (Int×PV)}{v:Value}(x:ej G h V (.vals n) v):G.Rep h V (.vals n) v:=x.elim id λx=>False.elim x
theorem CL{h:Heap}{n:String}{v:Value}(x:ej G h V (.typ n) v):v=.type n:=x.elim id λx=>False.elim x
theorem p4{n:Nat}{t tk:Nat}:ca G V s (.int (n:Int)) (.int (n:Int) t) { s with toks:=tk }:=⟨bA.mpr ⟨_,rfl⟩,Kp.toks⟩
theorem ll{n:Nat}(h:n<=1048576):(n:Int) < 2 ^ 63:=by lia
theorem IZ{r:Nat}(B:sQ G){a p:PV}(h:Ka a=some p):gu G r "len" [a] p:=by
 refine si B.len rfl (sh λA s V v hr lo x=>?_)
 cases a with
 |str y=>
  refine fz h λhz h=>?_;rw[bD h];refine xE (kw x) ?_;rintro t rfl;exact P.len_str (Int.not_le.mpr (ll hz)) ⟨bA.mpr ⟨_,rfl⟩,Kp.toks⟩
 |lst l=>
  refine fz h λhz h=>?_;rw[bD h];refine g7 (eB x) ?_;rintro a rfl us pl rl;have len:=RepL.length rl;rw[len]at hz ⊢;exact Calls.call_len_list pl.isList (by rw[aF];exact ll hz) (p4 (t:=s.toks+1))
 |tup l=>
  refine fz h λhz h=>?_;rw[bD h];refine g7 (kK x) ?_;rintro a rfl us ht rl;have len:=RepL.length rl;rw[len]at hz ⊢;exact len_tuple ht (by rw[aF];exact ll hz) (p4 (t:=s.toks+1))
 |dct l=>
  refine fz h λhz h=>?_;rw[bD h];refine bx (oV x) ?_;rintro a rfl z kvs hd rd;have len:=RepD.length rd;rw[len]at hz ⊢;exact call_len_dict z hd (ll hz) (p4 (t:=s.toks+1))
 |_=>exact nn h
theorem IT{r:Nat}(B:sQ G){q:PV×PV}{p:PV}(h:Kg q=some p):gu G r "max" [q.1,q.2] p:=by
 refine si B.max rfl λA s V vs hr hin lo pk=>?_;refine kh (t0 pk) ?_;rintro v u rfl x y;refine bY h λa b ha hb h=>?_;refine xE (AY ha x) ?_;rintro t rfl;refine xE (AY hb y) ?_;rintro t' rfl;rw[bD h];refine max_two_ints hr.1 λh' tk hk=>⟨bA.mpr ?_,Kp.of hk⟩;by_cases c:b > a
 ·exact⟨t',by rw[if_pos c,if_pos c]⟩
 ·exact⟨t,by rw[if_neg c,if_neg c]⟩
theorem Ip{r:Nat}(B:sQ G){a p:PV}(h:Kc a=some p):gu G r "min" [a] p:=by
 refine si B.min rfl (sh λA s V v hr lo x=>?_);refine b9 h λl hl h=>b9 h λns hi h=>?_
 cases ns with
 |nil=>exact nn h
 |cons i r'=>
  refine fz h λhz h=>?_;rw[bD h];refine g7 (eB (iH hl▸x)) ?_;rintro a rfl us pl rl;refine bC (sw hi rl) ?_;rintro ps rfl e;have hl:=pl.isList;rw[qh]at hl;have len:ps.toArray.size=r'.length+1:=by rw[aF,<- aa (f:=(·.1)),e];rfl
  refine min_intList hr.1 hl (by clear x rl pl;rw[len];exact pn [_] 0x1DA18008) λv h' tk hv hk=>⟨?_,Kp.of hk⟩;refine xE (B6 e) ?_;intro t ht;rw[show ps.toArray.size=ps.length from aF ..,ht]at hv
  cases hv
  exact bA.mpr ⟨t,rfl⟩
theorem IQ{r:Nat}(B:sQ G){a p:PV}(h:KK a=some p):gu G r "sum" [a] p:=by
 refine si B.sum rfl (sh λA s V v hr lo x=>?_)
 cases a with
 |lst l=>
  refine b9 h λns hi h=>fz h λhc h=>?_;rw[bD h];refine g7 (eB x) ?_;rintro a rfl us pl rl;refine bC (sw hi rl) ?_;rintro ps rfl e;exact Cd hr.1 pl.isList e hc
 |vals l=>
  refine b9 h λns hi h=>fz h λhc h=>?_;rw[bD h];exact EC hr.1 (Bq x) hi hc
 |_=>exact nn h
theorem I7{r:Nat}(B:sQ G){a p:PV}(h:KM a=some p):gu G r "str" [a] p:=by
 refine HU B.str rfl (sh λA s V v hr lo x=>?_);refine b9 h λa ha h=>fz h λhz h=>?_;rw[bD h];refine xE (AY ha x) ?_;rintro t rfl;exact str_of_int_fit (N:=1099511627777) (by clear x h ha hr lo;split<;>lia) (by decide) λJ=>⟨df.mpr ⟨_,rfl⟩,Kp.toks⟩
theorem IE{r:Nat}(B:sQ G){a p:PV}(h:Kl a=some p):gu G r "ord" [a] p:=by
 refine si B.ord rfl (sh λA s V v hr lo x=>?_);refine b9 h λy hy h=>md (C:=λp=>wpAny (model ag w) A (call (.builtin "ord") [v]) (ca G V s p) EF s) h λc hc=>?_;refine xE (kw (rA hy▸x)) ?_;rintro t rfl
 have:y=⟨#[c]⟩:=congrArg Str.mk (Array.toList_inj.mp (fi hc))
 rw[this];exact P.ord_of_char ⟨bA.mpr ⟨_,rfl⟩,Kp.toks⟩
theorem Fo{r:Nat}(B:sQ G){a p:PV}(h:J2 a=some p):gu G r "tuple" [a] p:=by
 refine HU B.tuple rfl (sh λA s V v hr lo x=>?_);refine b9 h λl hl h=>fz h λhz h=>?_;rw[bD h];refine g7 (eB (iH hl▸x)) ?_;rintro a rfl us pl rl;rw[RepL.length rl]at hz;refine call_tuple_list pl.isList (λh' hk=>?_) (by clear x pl rl h;rw[aF,bn];exact(pn [_] 0x0D010000004900D100000390) hz);have k:Kp s { s with heap:=h' }:=Kp.of (tk:=s.toks) hk
 exact jz k (lY (s:={ s with heap:=h' }) (tk:=s.toks) (lo.kp k) (qQ k rl lo.pt))
theorem I5{r:Nat}(B:sQ G){q:PV×PV}{p:PV}(h:Kz q=some p):gu G r "isinstance" [q.1,q.2] p:=by
 refine si B.isi rfl λA s V vs hr hin lo pk=>?_;refine kh (t0 pk) ?_;rintro v u rfl x y;refine b9 h λn hn h=>io h λhc h=>md (C:=λp=>wpAny (model ag w) A (call (.builtin "isinstance") [v,u]) (ca G V s p) EF s) h λi hi=>?_;have y:u=.type n:=CL  (Ek hn▸y);rw[y,beq_iff_eq.mp hc];obtain⟨q1,q2⟩:=q
 cases q1 with
 |int k=>
  rw[bD (show some false=some i from hi)];refine xE (oJ x) ?_;rintro t rfl;exact IsiPair.int_tuple ⟨dB.mpr rfl,Kp.toks⟩
 |tup l=>
  rw[bD (show some true=some i from hi)];refine g7 (kK x) ?_;rintro a rfl us hu rl;obtain⟨o,ho,hc,_⟩:=hu;exact IsiPair.tuple_tuple ho hc ⟨dB.mpr rfl,cR.refl _ _⟩
 |_=>exact nn hi
theorem vN{f g:Str}{x y:Option PV}{p:PV}{C:Str->Prop}(h:(if(f == g)=true then x else y)=some p)(k1:x=some p->C g)(k2:y=some p->C f):C f:=by
 by_cases q:(f == g)=true
 ·rw[beq_iff_eq.mp q];exact k1 ((if_pos q).symm.trans h)
 ·exact k2 ((if_neg q).symm.trans h)
theorem zl{args:List PV}{g:PV->Option PV}{p:PV}{C:List PV->Prop}(h:(qA args).bind g=some p)(k:∀a,g a=some p->C [a]):C args:=
 b9 h λa ha h=>by rw[qR ha];exact k a h
theorem HM{args:List PV}{g:PV×PV->Option PV}{p:PV}{C:List PV->Prop}(h:(G2 args).bind g=some p)(k:∀a,g a=some p->C [a.1,a.2]):C args:=
 b9 h λa ha h=>by rw[GK ha];exact k a h
theorem Kk{r:Nat}(B:sQ G):∀f args p,ME f args=some p->gu G r f args p:=λf args p h=>
 vN (C:=λf=>gu G r f args p) h (λh=>zl (C:=λargs=>gu G r _ args p) h λJ=>IZ B) λh=>
 vN (C:=λf=>gu G r f args p) h (λh=>HM (C:=λargs=>gu G r _ args p) h λJ=>IT B) λh=>
 vN (C:=λf=>gu G r f args p) h (λh=>zl (C:=λargs=>gu G r _ args p) h λJ=>Ip B) λh=>
 vN (C:=λf=>gu G r f args p) h (λh=>zl (C:=λargs=>gu G r _ args p) h λJ=>IQ B) λh=>
 vN (C:=λf=>gu G r f args p) h (λh=>zl (C:=λargs=>gu G r _ args p) h λJ=>I7 B) λh=>
 vN (C:=λf=>gu G r f args p) h (λh=>zl (C:=λargs=>gu G r _ args p) h λJ=>IE B) λh=>
 vN (C:=λf=>gu G r f args p) h (λh=>zl (C:=λargs=>gu G r _ args p) h λJ=>Fo B) λh=>
 vN (C:=λf=>gu G r f args p) h (λh=>HM (C:=λargs=>gu G r _ args p) h λJ=>I5 B) λh=>nn h
end
end Mine
end
section
namespace Mine
section
variable{A:Around}{s:Shared}{V:Addr->Prop}
theorem AE{h:Heap}:∀{l:List PV}{vs:List Value},vs.length=l.length->(∀(i:Nat) p v,l[i]?=some p->vs[i]?=some v->G.Rep h V p v)->G.RepL h V l vs:=λ{l}=>by
 induction l with
 |nil=>intro vs e _;cases vs with
  |nil=>trivial
  |cons _ _=>cases e
 |cons p l ih=>intro vs e r;cases vs with
  |nil=>cases e
  |cons v vs=>exact RepL.cons (r 0 p v rfl rfl) (ih (Nat.succ.inj e) λi p v h1 h2=>r (i+1) p v h1 h2)
end
end Mine
end
section
namespace Mine
section
variable{A:Around}{s:Shared}{E:Value->Shared->Prop}
theorem xi{it t:Addr}{i:Nat}{items:Array Value}{x:Value}{Q:Value->Shared->Prop}(hit:s.heap.IsTupleIter it t i)(ht:s.heap.IsTuple t items)(hx:items[i]?=some x)
  (hQ:∀h',h'.IsTupleIter it t (i+1)->cI it s.heap h'->Q x { s with heap:=h' }):wpAny (model ag w) A (Builtin.SmallTypes.nextOf (.ref it)) Q E s:=by
 refine fJ (id hit) ?_;intro o ho hc hd;refine qe ht ?_;clear ht;intro ol hol _ nl hdl;unfold Builtin.SmallTypes.nextOf;refine wpAny_bind (wpAny_callSpecial?_slot (name:=Str.ofString "__next__") hit.typeIs F.slot_tuple_iterator_next
  (wpAny_call_entry F.slot_tuple_iterator_next hit.typeIs F.entry_tuple_iterator_next ?_ (F.args_tuple_iterator_next_1 _)))
 show wpAny _ _ (field (.ref it) 0 >>= _) _ _ s;refine wpAny_bind (wpAny_field ho hd (x:=.ref t) rfl ?_);show wpAny _ _ (if(Value.ref t == Value.none)=true then _ else _) _ _ s;rw[if_neg (show ¬((Value.ref t == Value.none)=true) from av)];show wpAny _ _ (field (.ref it) 1 >>= _) _ _ s;refine wpAny_bind (wpAny_field ho hd (x:=.int i 0) rfl ?_);show wpAny _ _ (seqItems? (.ref t) >>= _) _ _ s;refine wpAny_bind (wpAny_seqItems hol hdl ?_);simp only[mH,hx];refine wpAny_bind (wpAny_setField ho hd (by simp) (wpAny_pure ⟨x,rfl,wpAny_pure (hQ _ ?_ (Heap.SameBut.update ..))⟩));exact⟨_,jK _ ho (Obj.isFreed_of_fields (Obj.data_mapFields hd _)),(Obj.cls_mapFields ..).trans hc,by rw[Obj.data_mapFields hd];simp[rawInt]⟩
theorem vB{it t:Addr}{i:Nat}{items:Array Value}{Q:Value->Shared->Prop}(hh:A.handled=none)(hit:s.heap.IsTupleIter it t i)(ht:s.heap.IsTuple t items)(hx:items[i]?=none)
  (hE:∀h' e,Heap.ExtBut it s.heap h'->(∃o,h'.get? e=some o/\o.cls=.type "StopIteration")->E (.ref e) { s with heap:=h' }):wpAny (model ag w) A (Builtin.SmallTypes.nextOf (.ref it)) Q E s:=by
 refine fJ (id hit) ?_;intro o ho hc hd;refine qe ht ?_;clear ht;intro ol hol _ nl hdl;unfold Builtin.SmallTypes.nextOf;refine wpAny_bind (wpAny_callSpecial?_slot (name:=Str.ofString "__next__") hit.typeIs F.slot_tuple_iterator_next
  (wpAny_call_entry F.slot_tuple_iterator_next hit.typeIs F.entry_tuple_iterator_next ?_ (F.args_tuple_iterator_next_1 _)))
 show wpAny _ _ (field (.ref it) 0 >>= _) _ _ s;refine wpAny_bind (wpAny_field ho hd (x:=.ref t) rfl ?_);show wpAny _ _ (if(Value.ref t == Value.none)=true then _ else _) _ _ s;rw[if_neg (show ¬((Value.ref t == Value.none)=true) from av)];show wpAny _ _ (field (.ref it) 1 >>= _) _ _ s;refine wpAny_bind (wpAny_field ho hd (x:=.int i 0) rfl ?_);show wpAny _ _ (seqItems? (.ref t) >>= _) _ _ s;refine wpAny_bind (wpAny_seqItems hol hdl ?_);simp only[mH,hx];refine wpAny_bind (wpAny_rule (wpAny_bind (wpAny_setField ho hd (by simp) ?_)));show wpAny _ _ (newExc (.type "StopIteration") [] >>= _) _ _ _;refine wpAny_bind ?_;simp only[newExc,newTuple];refine wpAny_bind (wpAny_newObj_type ?_ (by size_fits));refine wpAny_bind (m:=firstArgMember _ _) (wpAny_of_eq (a:=Value.none) (by first|rfl|(simp only[firstArgMember];rfl)) ?_);refine wpAny_newObj_type ?_ (by size_fits);dsimp only[raiseNew];refine wpAny_bind (wpAny_handled ?_)
 first|rw[show A.in1.handled=none from hh]|rw[hh]
 refine wpAny_bind (wpAny_pure (wpAny_throw ?_));exact hE _ _ (((Heap.SameBut.update ..).extBut.push _).push _) ⟨_,ay _ rfl,rfl⟩
theorem B3{z TI TO i1 i2 l1 l2:Addr}{k1 k2:Nat}{xs ys:Array Value}{x y a b:Value}{Q:Value->Shared->Prop}(D:ZipApart z TI TO i1 i2 l1 l2)
  (hz:IsZip s.heap z TI TO .none) (hTI:IsPair s.heap TI (.ref i1) (.ref i2)) (hTO:IsPair s.heap TO a b)
  (h1:s.heap.IsTupleIter i1 l1 k1) (h2:s.heap.IsTupleIter i2 l2 k2) (hl1:s.heap.IsTuple l1 xs) (hl2:s.heap.IsTuple l2 ys) (hx:xs[k1]?=some x) (hy:ys[k2]?=some y)
  (hQ:∀h',IsZip h' z TI TO (rawInt s.heap.objs.size)->IsPair h' TO x y->h'.IsTupleIter i1 l1 (k1+1)->h'.IsTupleIter i2 l2 (k2+1)->IsPair h' s.heap.objs.size x y->h'.objs.size=s.heap.objs.size+1 ->
   (∀c o,c≠z->c≠TO->c≠i1->c≠i2->s.heap.get? c=some o->h'.get? c=some o)->Q (.ref s.heap.objs.size) { s with heap:=h' }) :
  wpAny (model ag w) A (Builtin.«zip.__next__» ⟨[.ref z],[]⟩) (λfin s'=>∃v,fin=.done (.ret v)/\Q v s') E s:=by
 show wpAny _ _ (field (.ref z) 2 >>= _) _ _ _;refine wpAny_bind (wpAny_field hz rfl (x:=.bool false) rfl ?_);show wpAny _ _ (field (.ref z) 3 >>= _) _ _ _;refine wpAny_bind (wpAny_field hz rfl (x:=.ref TI) rfl ?_);refine wpAny_bind (wpAny_seqItems hTI rfl ?_);show wpAny _ _ (Builtin.SmallTypes.ownedTupleIsFree (.ref z) >>= _) _ _ _;refine wpAny_bind ?_;unfold Builtin.SmallTypes.ownedTupleIsFree;refine wpAny_bind (wpAny_field hz rfl (x:=.none) rfl (wpAny_pure ?_));simp only[if_true];refine wpAny_bind (wpAny_rule ?_);refine wpAny_bind (wpAny_field hz rfl (x:=.ref TO) rfl ?_);refine wpAny_bind (wpAny_setField_rec hz (by simp) λJG zU om=>?_);have zU:IsZip JG z TI TO .ellipsis:=zU;refine wpAny_bind ?_;simp only[nM,List.zipIdx_nil,dI,gn];refine wpAny_bind (wpAny_bind (wpAny_onRaise ?_));show wpAny _ _ (Builtin.SmallTypes.nextOf (.ref i1) >>= _) _ _ _;refine wpAny_bind (xi (h1.extBut om.extBut D.i1z) (hl1.extBut om.extBut D.l1z) hx λFR Ml s0=>wpAny_pure ?_);have KS:IsPair FR TO a b:=s0.extBut _ _ D.TOi1 (om.extBut _ _ D.TOz hTO);refine wpAny_bind (wpAny_seqItems KS rfl ?_);refine wpAny_bind (wpAny_updateSeq_pair KS λJH JI v7=>?_);have JI:IsPair JH TO x b:=JI;refine wpAny_bind (wpAny_letGo (wpAny_pure ?_));refine wpAny_bind (wpAny_bind (wpAny_onRaise ?_));show wpAny _ _ (Builtin.SmallTypes.nextOf (.ref i2) >>= _) _ _ _;refine wpAny_bind (xi (((h2.extBut om.extBut D.i2z).extBut s0.extBut D.i12.symm).extBut v7.extBut D.TOi2.symm)
  (((hl2.extBut om.extBut D.l2z).extBut s0.extBut D.l2i1).extBut v7.extBut D.l2TO) hy λMm Mn ir=>wpAny_pure ?_)
 have KT:IsPair Mm TO x b:=ir.extBut _ _ D.TOi2 JI;refine wpAny_bind (wpAny_seqItems KT rfl ?_);refine wpAny_bind (wpAny_updateSeq_pair KT λon HE FS=>?_);have HE:IsPair on TO x y:=HE;refine wpAny_bind (wpAny_letGo (wpAny_pure (wpAny_pure ?_)));refine wpAny_bind (wpAny_seqItems HE rfl ?_);refine wpAny_bind (wpAny_newTuple ?_);have sz:on.objs.size=s.heap.objs.size:=by rw[FS.1,ir.1,v7.1,s0.1,om.1]
 have KU:IsZip on z TI TO .ellipsis:=FS.extBut _ _ D.TOz.symm (ir.extBut _ _ D.i2z.symm (v7.extBut _ _ D.TOz.symm (s0.extBut _ _ D.i1z.symm zU)));have yj:∀c o,c≠z->c≠TO->c≠i1->c≠i2->s.heap.get? c=some o->on.get? c=some o:=λc o c1 c2 c3 c4 e=>
  FS.extBut _ _ c2 (ir.extBut _ _ c4 (v7.extBut _ _ c2 (s0.extBut _ _ c3 (om.extBut _ _ c1 e))))
 have j1:on.IsTupleIter i1 l1 (k1+1):=((Ml.extBut v7.extBut D.TOi1.symm).extBut ir.extBut D.i12).extBut FS.extBut D.TOi1.symm;have j2:on.IsTupleIter i2 l2 (k2+1):=Mn.extBut FS.extBut D.TOi2.symm;have zlt:z < on.objs.size:=aN KU;show wpAny _ _ (Builtin.SmallTypes.ownedTupleHandOut (.ref z) (.ref on.objs.size) >>= _) _ _ _;refine wpAny_bind ?_;unfold Builtin.SmallTypes.ownedTupleHandOut;have Mo:IsZip (on.push { cls:=.type "tuple",data:=.seq #[x,y] }) z TI TO .ellipsis:=af _ KU;refine wpAny_bind (wpAny_setField_rec Mo (by simp) λMp JJ JK=>?_);have JJ:IsZip Mp z TI TO (rawInt on.objs.size):=JJ;refine wpAny_setField_rec JJ (by simp) λFT HF JL=>?_;have HF:IsZip FT z TI TO (rawInt on.objs.size):=HF;have up:∀c o,c≠z->on.get? c=some o->FT.get? c=some o:=λc o c1 e=>JL.extBut _ _ c1 (JK.extBut _ _ c1 (af _ e));have KV:IsPair FT on.objs.size x y:=JL.extBut _ _ (gB zlt) (JK.extBut _ _ (gB zlt) (ay _ rfl));have KW:FT.objs.size=on.objs.size+1:=by rw[JL.1,JK.1,bL]
 rw[sz]at HF KV KW;refine wpAny_pure ⟨_,rfl,?_⟩;show Q (.ref on.objs.size) _;rw[sz];exact hQ FT HF (up _ _ D.TOz HE) (j1.at λo e=>up _ o D.i1z e) (j2.at λo e=>up _ o D.i2z e) KV KW λc o c1 c2 c3 c4 e=>up c o c1 (yj c o c1 c2 c3 c4 e)
theorem Fb{z TI TO i1 i2 l1 l2:Addr}{k1:Nat}{xs:Array Value}{a b:Value}{Q:Fin->Shared->Prop}(hh:A.handled=none)(D:ZipApart z TI TO i1 i2 l1 l2)
  (hz:IsZip s.heap z TI TO .none) (hTI:IsPair s.heap TI (.ref i1) (.ref i2)) (hTO:IsPair s.heap TO a b)
  (h1:s.heap.IsTupleIter i1 l1 k1) (hl1:s.heap.IsTuple l1 xs) (hend:xs[k1]?=none)
  (hE:∀h' e,(∀c o,c≠z->c≠i1->s.heap.get? c=some o->h'.get? c=some o)->(∃o,h'.get? e=some o/\o.cls=.type "StopIteration")->E (.ref e) { s with heap:=h' }) :
  wpAny (model ag w) A (Builtin.«zip.__next__» ⟨[.ref z],[]⟩) Q E s:=by
 show wpAny _ _ (field (.ref z) 2 >>= _) _ _ _;refine wpAny_bind (wpAny_field hz rfl (x:=.bool false) rfl ?_);show wpAny _ _ (field (.ref z) 3 >>= _) _ _ _;refine wpAny_bind (wpAny_field hz rfl (x:=.ref TI) rfl ?_);refine wpAny_bind (wpAny_seqItems hTI rfl ?_);show wpAny _ _ (Builtin.SmallTypes.ownedTupleIsFree (.ref z) >>= _) _ _ _;refine wpAny_bind ?_;unfold Builtin.SmallTypes.ownedTupleIsFree;refine wpAny_bind (wpAny_field hz rfl (x:=.none) rfl (wpAny_pure ?_));simp only[if_true];refine wpAny_bind (wpAny_rule ?_);refine wpAny_bind (wpAny_field hz rfl (x:=.ref TO) rfl ?_);refine wpAny_bind (wpAny_setField_rec hz (by simp) λJG zU om=>?_);have zU:IsZip JG z TI TO .ellipsis:=zU;refine wpAny_bind ?_;simp only[nM,List.zipIdx_nil,dI,gn];refine wpAny_bind (wpAny_bind (wpAny_onRaise ?_));show wpAny _ _ (Builtin.SmallTypes.nextOf (.ref i1) >>= _) _ _ _;refine wpAny_bind (vB hh (h1.extBut om.extBut D.i1z) (hl1.extBut om.extBut D.l1z) hend λFR e s0 he=>?_);refine bC he ?_;clear he;intro oe hoe hce;have KY:IsZip FR z TI TO .ellipsis:=s0 _ _ D.i1z.symm zU;have hez:e≠z:=λx=>by subst x;rw[KY]at hoe;cases hoe;simp at hce
 exact wpAny_setField_rec KY (by simp) λJH J v7=>hE JH e (λc o c1 c3 x=>v7.extBut _ _ c1 (s0 _ _ c3 (om.extBut _ _ c1 x))) ⟨oe,v7.extBut _ _ hez hoe,hce⟩
noncomputable def L5(h:Heap)(l1 l2:Addr):Heap:=(h.push { cls:=.type "tuple_iterator",data:=.fields #[.ref l1,.int 0 0] }).push { cls:=.type "tuple_iterator",data:=.fields #[.ref l2,.int 0 0] }
noncomputable def Ia(h:Heap)(l1 l2:Addr):Heap:=(((L5 h l1 l2).push { cls:=.type "tuple",data:=.seq #[.ref h.objs.size,.ref (h.objs.size+1)] }).push { cls:=.type "tuple",data:=.seq #[.none,.none] }).push
 { cls:=.type "zip",data:=.fields #[.none,.bool false,.bool false,.ref (h.objs.size+2),.ref (h.objs.size+3)] }
theorem yZ(l1 l2:Addr)(xs ys:Array Value):
  Meets (Builtin.«zip.__new__» ⟨[.type "zip",.ref l1,.ref l2],[]⟩) (λJ R s=>s.heap.IsTuple l1 xs/\s.heap.IsTuple l2 ys /\
   R (.ok (.ret (.ref (s.heap.objs.size+4)))) { s with heap:=Ia s.heap l1 l2 }):=
 .of_wp λag w A R s h=>by
  obtain⟨hp,g,d,tk,os⟩:=s;refine iQ h ?_;clear h;intro hl1 hl2 h;have hsub:=sub_zip;have hL1:Heap.IsTuple (Shared.heap ⟨hp,g,d,tk,os⟩) l1 xs:=hl1;have hL2:Heap.IsTuple (Shared.heap ⟨hp.push { cls:=.type "tuple_iterator",data:=.fields #[.ref l1,.int 0 0] },g,d,tk,os⟩) l2 ys:=Heap.IsTuple.push hl2 _
  wp_walk using wpAny_pyIter_tuple hL1,wpAny_pyIter_tuple hL2
  simp only[bL];exact⟨_,rfl,h⟩
theorem Ba{l1 l2:Addr}{xs ys:Array Value}{Q:Value->Shared->Prop}(hl1:s.heap.IsTuple l1 xs)(hl2:s.heap.IsTuple l2 ys)
  (h:∀h',IsZip h' (s.heap.objs.size+4) (s.heap.objs.size+2) (s.heap.objs.size+3) .none->IsPair h' (s.heap.objs.size+2) (.ref s.heap.objs.size) (.ref (s.heap.objs.size+1)) ->
   IsPair h' (s.heap.objs.size+3) .none .none->h'.IsTupleIter s.heap.objs.size l1 0->h'.IsTupleIter (s.heap.objs.size+1) l2 0->h'.objs.size=s.heap.objs.size+5 ->
   (∀c o,s.heap.get? c=some o->h'.get? c=some o)->Q (.ref (s.heap.objs.size+4)) { s with heap:=h' }) :
  wpAny (model ag w) A (call (.type "zip") [.ref l1,.ref l2]) Q E s:=by
 refine callType_new F.called_zip (by decide) (F.typeCall_zip_2 _ _) (F.newCall_zip_2 _ _) (λobj=>F.args_object_init_3 obj _ _) F.entry_zip_new (yZ l1 l2 xs ys) ⟨hl1,hl2,?_⟩;have z2:(L5 s.heap l1 l2).objs.size=s.heap.objs.size+2:=by unfold L5;rw[bL,bL]
 have g5:(Ia s.heap l1 l2).get? _=some _:=ay _ rfl;have g4:(Ia s.heap l1 l2).get? _=some _:=af _ (ay _ rfl);have g3:(Ia s.heap l1 l2).get? _=some _:=af _ (af _ (ay _ rfl));have g2:(Ia s.heap l1 l2).get? _=some _:=af _ (af _ (af _ (ay _ rfl)));have g1:(Ia s.heap l1 l2).get? s.heap.objs.size=some _:=af _ (af _ (af _ (af _ (ay _ rfl))));have z5:(Ia s.heap l1 l2).objs.size=s.heap.objs.size+5:=by unfold Ia;rw[bL,bL,bL,z2]
 simp only[bL,z2]at g5 g4 g3 g2;show _/\_;exact⟨⟨_,g5,rfl⟩,h _ g5 g3 g4 ⟨_,g1,rfl,rfl⟩ ⟨_,g2,rfl,rfl⟩ z5 λc o x=>
  af _ (af _ (af _ (af _ (af _ x))))⟩
def KI(z TI TO i1 i2 l1 l2:Addr)(xs ys:Array Value)(v:Value)(k:Nat)(h:Heap):Prop:=
 IsZip h z TI TO v/\IsPair h TI (.ref i1) (.ref i2)/\(∃p:Value×Value,IsPair h TO p.1 p.2)/\(h.IsTupleIter i1 l1 k/\h.IsTupleIter i2 l2 k)/\h.IsTuple l1 xs/\h.IsTuple l2 ys
theorem KI.frame{z TI TO i1 i2 l1 l2:Addr}{xs ys:Array Value}{v:Value}{k:Nat}{h h':Heap}(q:KI z TI TO i1 i2 l1 l2 xs ys v k h)(hk:∀c∈[z,TI,TO,i1,i2,l1,l2],∀o,h.get? c=some o->h'.get? c=some o):KI z TI TO i1 i2 l1 l2 xs ys v k h':=by
 simp only[qr]at hk;refine vd hk ?_;intro k1 k2 k3 k4 k5 k6 k7;exact⟨k1 _ q.1,k2 _ q.2.1,q.2.2.1.imp λJ e=>k3 _ e,⟨q.2.2.2.1.1.at λo e=>k4 o e,q.2.2.2.1.2.at λo e=>k5 o e⟩,q.2.2.2.2.1.at λo e=>k6 o e,q.2.2.2.2.2.at λo e=>k7.1 o e⟩
theorem uL(hh:A.handled=none)(z TI TO i1 i2 l1 l2:Addr)(D:ZipApart z TI TO i1 i2 l1 l2)(xs ys:Array Value)(hn:xs.size=ys.size):
  WalksU ag w A z [z,TI,TO,i1,i2,l1,l2] [z,TO,i1,i2] xs.size
   (λi vals=>∃x y,xs[i]?=some x/\ys[i]?=some y/\vals=#[x,y]) (KI z TI TO i1 i2 l1 l2 xs ys .none)
   (λi T h=>KI z TI TO i1 i2 l1 l2 xs ys (rawInt T) (i+1) h/\T ∉ [z,TO,i1,i2]) where
 sub:=λc hc=>by simp at hc ⊢;rcases hc with rfl|rfl|rfl|rfl<;>simp
 frame:=λJ J J q hk=>q.frame hk
 item:=λi s Q E hi q hQ=>by
  have hT:s.TypeIs (.ref z) "zip":=⟨_,q.1,rfl⟩;have lt:∀{c o},s.heap.get? c=some o->s.heap.objs.size≠c:=λe=>gB (aN e);refine xE q.2.2.1 ?_;intro p hTO;unfold pyNext;refine wpAny_bind (wpAny_attempt (wpAny_callSpecial?_slot (name:=Str.ofString "__next__") hT F.slot_zip_next
   (wpAny_call_entry F.slot_zip_next hT F.entry_zip_next (B3 D q.1 q.2.1 hTO q.2.2.2.1.1 q.2.2.2.1.2 q.2.2.2.2.1 q.2.2.2.2.2 (cn hi) (cn (hn▸hi)) λh' a1 a2 a3 a4 a5 a6 hk=>wpAny_pure ?_) (F.args_zip_next_1 _))))
  refine hQ s.heap.objs.size #[xs[i],ys[i]] h' s.toks ⟨_,_,cn hi,cn (hn▸hi),rfl⟩ ⟨_,a5,rfl,_,rfl⟩
   ⟨⟨a1,hk _ _ D.TIz D.TITO D.TIi1 D.TIi2 q.2.1,⟨(_,_),a2⟩,⟨a3,a4⟩,q.2.2.2.2.1.at λo e=>hk _ o D.l1z D.l1TO D.l1i1 D.l1i2 e,q.2.2.2.2.2.at λo e=>hk _ o D.l2z D.l2TO D.l2i1 D.l2i2 e⟩,?_⟩
   λc o hc e=>?_
  ·simp only[ai,aM,or_false,not_or]
   exact⟨lt q.1,lt hTO,q.2.2.2.1.1.elim λJ e=>lt e.1,q.2.2.2.1.2.elim λJ e=>lt e.1⟩
  ·simp only[ai,aM,or_false,not_or]at hc
   exact hk c o hc.1 hc.2.1 hc.2.2.1 hc.2.2.2 e
 go:=λelts k pos i T s Q E q hQ=>
  wpAny_letOwnedTupleGo_zip q.1.1 λh' hz' hs'=>hQ h' ⟨hz',hs'.extBut _ _ D.TIz q.1.2.1,q.1.2.2.1.imp λJ e=>hs'.extBut _ _ D.TOz e,⟨q.1.2.2.2.1.1.extBut hs'.extBut D.i1z,q.1.2.2.2.1.2.extBut hs'.extBut D.i2z⟩,
   q.1.2.2.2.2.1.extBut hs'.extBut D.l1z,q.1.2.2.2.2.2.extBut hs'.extBut D.l2z⟩ λc o hc e=>hs'.extBut _ _ (λx=>hc (x▸ak)) e
 apart:=λi T h q hT=>q.2 hT
 done:=λs Q E q hQ=>by
  have hT:s.TypeIs (.ref z) "zip":=⟨_,q.1,rfl⟩;refine xE q.2.2.1 ?_;intro p hTO;unfold pyNext;refine wpAny_bind (wpAny_attempt (wpAny_callSpecial?_slot (name:=Str.ofString "__next__") hT F.slot_zip_next
   (wpAny_call_entry F.slot_zip_next hT F.entry_zip_next (Fb hh D q.1 q.2.1 hTO q.2.2.2.1.1 q.2.2.2.2.1 (Array.getElem?_eq_none (aK _)) λh' e hk he=>?_) (F.args_zip_next_1 _))))
  refine bC he ?_;clear he;intro o ho hc;refine wpAny_bind (wpAny_isInstance (T:="StopIteration") (b:=true) ⟨o,ho,hc⟩ isSubtype_stop ?_);refine wpAny_pure (hQ h' s.toks λc o hc e=>?_);simp only[ai,aM,or_false,not_or]at hc;exact hk c o hc.1 hc.2.2.1 e
 self:=λi s Q E hst hQ=>wpAny_pyIter_zip hst.1 hQ
end
end Mine
end
section
namespace Mine
section
variable{A:Around}{s:Shared}{V:Addr->Prop}{env:Env}
theorem IM{h:Heap}(i:G.In h):∃ps:Array Value,h.IsCode 55 51 ps/\h.TableAt 55 51 ps:=by
 refine bC i.tab ?_;intro ps tr e;refine g0 G.code ?_;intro o vs file tf flags tg inF text tt op a1 a2 a3 a4 a5 a6 a7 a8 a9 a10 a11;refine xA G.tab ?_;rintro⟨o2,vs2,b1,b2,b3,b4⟩ b5;have n:(55:Addr)≠PT:=by decide
 exact⟨ps,⟨o,vs,file,tf,flags,tg,inF,text,tt,_,i.old _ _ n a1,a2,a3,a4,a5,a6,a7,e,rfl,tr,n⟩,⟨⟨o2,vs2,i.old _ _ n b1,b2,b3,b4⟩,e⟩⟩
theorem Fv{pos:Pos}{q:Str}{scope:Scope}{Q:Value->Shared->Prop}{E:Value->Shared->Prop}(i:G.In s.heap)(hc:env.code=.ref 55)
  (hQ:∀code h' tk,(∀b o,b≠PT->s.heap.get? b=some o->h'.get? b=some o)->ki h'->s.heap.objs.size<=h'.objs.size->Q code { s with heap:=h',toks:=tk }) :
  wpAny (model ag w) A (genexprCode env pos q scope) Q E s:=by
 refine bC (IM i) ?_;intro ps ic tb
 cases hf:codeAmong pos ps.toList with
 |some c=>exact wpAny_genexprCode_hit hc ic hf (hQ c s.heap s.toks (λJ J J e=>e) i.tab (aK _))
 |none=>
  refine wpAny_genexprCodeX hc ic tb hf λc' h' tk hk h1 h2 ic' J tb' J=>hQ _ h' tk (λb o n e=>hk b o n e) ?_ (aD h1 (Nat.le_of_lt h2));refine g0 ic' ?_;clear ic';intro o vs file tf flags tg inF text tt op a1 a2 a3 a4 a5 a6 a7 a8 a9 a10 a11;exact⟨_,a10,tb'.2⟩
def yL(xs:Array Value)(as:List Int):Prop:=xs.size=as.length/\∀(j:Nat) (v:Value),xs[j]?=some v->∃k t,as[j]?=some k/\v=.int k t
theorem Lp{m:Str->Option Value}{xa xb:Str}{p1 p2 p3:Pos}{x y:Int}{tx ty:Tok}{E:Value->Shared->Prop}(hk:env.scope.kind=.function)(ha:env.kindOf xa=some .local)(hb:env.kindOf xb=some .local)(oa:cC xa=true)(ob:cC xb=true)
  (hn:s.heap.Ns env.locals m) (h1:m xa=some (.int x tx)) (h2:m xb=some (.int y ty)) :
  wpAny (model ag w) A (eval (.BinOp (.Name xa p1) .Add (.Name xb p2) p3) env) (λv s'=>(∃t,v=.int (x+y) t)/\Keeps s s') E s:=
 wpAny_BinOp (jY hk oa (.inl ⟨ha,m,hn,h1⟩) (jY hk ob (.inl ⟨hb,m,hn,h2⟩) (PyProof.Rows.add_int ⟨⟨_,rfl⟩,s.heap,_,rfl,λJ J e=>e⟩)))
structure HZ(scope:Scope)(xa xb:Str):Prop where
 co:scope.isCoroutine=false
 free:∀x∈scope.names,x.2≠.free
 cell:∀x∈scope.names,x.2≠.cell
 h0:scope.names.lookup (".0":Str)=some NameKind.local
 la:scope.names.lookup xa=some .local
 lb:scope.names.lookup xb=some .local
 ab:xa≠xb
 kind:scope.kind=.function
 oa:cC xa=true
 ob:cC xb=true
structure It(s aH:Shared)(xv:Value)(as bs:List Int)(fb:Shared)(h':Heap)(t1 t2:Addr)(xs ys:Array Value):Prop where
 k:Kp s fb
 st:aH={ fb with heap:=h' }
 v:xv=.ref (fb.heap.objs.size+4)
 q1:fb.heap.IsTuple t1 xs
 q2:fb.heap.IsTuple t2 ys
 i1:yL xs as
 i2:yL ys bs
 z1:IsZip h' (fb.heap.objs.size+4) (fb.heap.objs.size+2) (fb.heap.objs.size+3) .none
 z2:IsPair h' (fb.heap.objs.size+2) (.ref fb.heap.objs.size) (.ref (fb.heap.objs.size+1))
 z3:IsPair h' (fb.heap.objs.size+3) .none .none
 z4:h'.IsTupleIter fb.heap.objs.size t1 0
 z5:h'.IsTupleIter (fb.heap.objs.size+1) t2 0
 sz:h'.objs.size=fb.heap.objs.size+5
 keep:∀c o,fb.heap.get? c=some o->h'.get? c=some o
theorem HQ{h:Heap}(i:G.In h):h.NoLimit:=by
 refine bC G.nolimit ?_;intro mc hn e;exact⟨mc,yi i hn,e⟩
theorem wg(n:Nat):passing (λJ=>true) n 0=aI n:=by
 unfold passing;rw[List.drop_zero];exact bu.mpr λJ J=>rfl
theorem A6{h:Heap}{xs:Array Value}(t:ki h){a:Addr}(x:h.IsTuple a xs):a≠PT:=let⟨_,e,_,_,d⟩:=x;t.npt e λJ q=>nomatch d.symm.trans q
theorem Cp{scope:Scope}{iter:Expr}{xa xb:Str}{p1 p2 p3 pa pb pt pos:Pos}{kt:Nat}{as bs:List Int}(hh:A.handled=none)(hroom:A.depth < recursionLimit)(lo:eu V s.heap)(i:G.In s.heap)(hgl:env.globals=mainGlobals)(hc:env.code=.ref 55)(BM:Jr)
  (S:HZ scope xa xb) (hl:as.length=bs.length) (hz:as.length<=1048576)
  (he:∀Q:Value->Shared->Prop,(∀xv aH fb h' t1 t2 xs ys,It s aH xv as bs fb h' t1 t2 xs ys->Q xv aH)->wpAny (model ag w) A (eval iter env) Q EF s) (hs:∀x,genFold iter env x=pure x) :
  wpAny (model ag w) A (eval (.GeneratorExp (.BinOp (.Name xa p1) .Add (.Name xb p2) p3) [⟨.Tuple [.Name xa pa,.Name xb pb] kt pt,iter,[],0⟩] scope pos) env)
   (λv jG=>G.In jG.heap/\wpAny (model ag w) A (call (.type "tuple") [v]) (ca G V s (.tup ((ot (·+·) as bs).map .int))) EF jG) EF s:=by
 refine wpAny_GeneratorExp_walksQT hh S.co (closureFor_none S.free) S.cell S.h0 S.la S.lb S.ab S.kind hroom (he _ λxv aH fb h' t1 t2 xs ys Z=>?_) hs;obtain⟨k,rfl,rfl,T1,T2,I1,I2,z1,z2,z3,z4,z5,sz,keep⟩:=Z;refine wpAny_pyIter_zip z1 ?_;have FU:=i.kp k;have kz:Kp fb { fb with heap:=h' }:=Kp.of (tk:=fb.toks) keep
 have JM:G.In h':=FU.kp kz;refine⟨HQ JM,Fv JM hc λcode tQ tk₃ fu KZ Ij=>?_⟩;have HG:G.In tQ:=⟨λa o p e=>fu a o p (JM.old a o p e),KZ⟩;refine r9 BM ?_;clear BM;intro bm ob b1 b2 b3 b4 b5 b6;refine wpAny_builtinsFor (hgl▸yi HG G.g) b1 b2 (HG.old _ _ (oQ b3 λps e=>nomatch b6.symm.trans e) b3) b4 b5 b6 ?_;have lt1:=Cu (show t1 < fb.heap.objs.size from let⟨_,e,_⟩:=T1;aN e);have lt2:=Cu (show t2 < fb.heap.objs.size from let⟨_,e,_⟩:=T2;aN e);have ltp:=Cu (show PT < fb.heap.objs.size from by
  refine bC FU.tab ?_;intro ps _ e;exact aN e)
 have n1:=A6 FU.tab T1;have n2:=A6 FU.tab T2;have none_of:∀b:Nat,fb.heap.objs.size<=b->fb.heap.get? b=none:=λb hb=>by
  cases e:fb.heap.get? b with
  |none=>rfl
  |some o=>exact absurd (Cu (aN e)) (bT.mpr hb)
 generalize hn:fb.heap.objs.size=n at *
 have D:ZipApart (n+4) (n+2) (n+3) n (n+1) t1 t2:=by
  constructor<;>(show @Ne Nat _ _)<;>lia
 have ne:∀b:Nat,n<=b->b≠PT:=λb h q=>absurd ltp (bT.mpr (q▸h));have W0:=uL (A:=A) hh (n+4) (n+2) (n+3) n (n+1) t1 t2 D xs ys (by rw[I1.1,I2.1,hl]);have FV:=W0.frame 0 h' tQ ⟨z1,z2,⟨(_,_),z3⟩,⟨z4,z5⟩,T1.at λo e=>keep _ o e,T2.at λo e=>keep _ o e⟩ λb hb o e=>fu b o (by
  simp only[ai,aM,or_false]at hb;rcases hb with rfl|rfl|rfl|rfl|rfl|rfl|rfl
  ·exact ne _ (bJ _ _)
  ·exact ne _ (bJ _ _)
  ·exact ne _ (bJ _ _)
  ·exact ne _ (aK _)
  ·exact ne _ (bJ _ _)
  ·exact n1
  ·exact n2) e
 refine ML (n+4) _ _ xs.size _ _ _ (λJ=>true) (λj v=>∃x y t,as[j]?=some x/\bs[j]?=some y/\v=.int (x+y) t) ⟨rfl,λA' hA=>uL hA _ _ _ _ _ _ _ D xs ys (by rw[I1.1,I2.1,hl]),?_,FV,?_,HQ HG,?_,?_,?_⟩
 ·rintro j vals ⟨x,y,_,_,rfl⟩;exact⟨x,y,rfl⟩
 ·intro b hb
  have:(b:Nat) < n+5:=by
   simp only[ai,aM,or_false]at hb;rcases hb with rfl|rfl|rfl|rfl|rfl|rfl|rfl<;>(show @LT.lt Nat _ _ _)<;>lia
  exact Nat.lt_of_lt_of_le this (sz▸Ij)
 ·intro hb
  simp only[ai,aM,or_false]at hb
  have:(cStatics:Nat) < PT:=by decide
  rcases hb with e|e|e|e<;>exact absurd (Nat.lt_trans this ltp) (by rw[e];first|exact bT.mpr (bJ _ _)|exact Nat.lt_irrefl _)
 ·intro href _
  refine⟨λA' E' j va vb aX FR J J J J J J=>?_,λA' E' j va vb aX FR J hp J hm ha hb J=>?_⟩
  ·rw[gn]
   exact wpAny_pure ⟨rfl,aX.heap,aX.toks,rfl,λJ J e=>e⟩
  ·obtain⟨x,y,hx,hy,e⟩:=hp
   cases e
   refine fL (I1.2 j _ hx) ?_;rintro x' t hx' rfl;refine fL (I2.2 j _ hy) ?_;rintro y' t' hy' rfl;exact wpAny_mono (Lp S.kind S.la S.lb S.oa S.ob hm ha hb) (λv cE q=>⟨let⟨t,e⟩:=q.1;⟨x',y',t,hx',hy',e⟩,q.2⟩) λJ J x=>x
 ·intro a tR tk gs hgb hlt K0 yj W hat
  have K1:ki tR:=KZ.keep λo e=>yj _ o e;have Mq:G.In tR:=⟨λb o p e=>yj b o (HG.old b o p e),K1⟩;refine⟨Mq,?_⟩;have sz4:(n+5:Nat)<=tQ.objs.size:=sz▸Ij;have hlt:@LT.lt Nat _ tQ.objs.size a:=hlt;have pn:(passing (λJ=>true) xs.size 0).length=as.length:=by rw[wg,bZ,I1.1]
  refine call_tuple_gen W.in4_3 (λj s' st=>st.1.typeIs) hat (λb hb=>?_) (.head _) (λs' acc hm hacc=>?_) (by rw[pn,bn];exact aD hz (by decide))
  ·show b < tR.objs.size
   rw[K0];rcases ai.mp hb with rfl|hb
   ·exact gC _
   ·rcases ai.mp hb with rfl|hb
    ·exact bM hlt
    ·exact bM (Nat.lt_trans (eW.mp hb) hlt)
  ·have out:∀b o,fb.heap.get? b=some o->b ∉ [tQ.objs.size,n+4,n+3,n,n+1]:=λb o e hb=>by
    have lt:@LT.lt Nat _ b n:=hn▸Cu (aN e);simp only[ai,aM,or_false]at hb;rcases hb with rfl|rfl|rfl|rfl|rfl
    ·exact absurd lt (bT.mpr (aD (bJ _ 5) sz4))
    ·exact absurd lt (bT.mpr (bJ _ _))
    ·exact absurd lt (bT.mpr (bJ _ _))
    ·exact Nat.lt_irrefl _ lt
    ·exact absurd lt (bT.mpr (bJ _ _))
   have kk:Kp fb s':=⟨λb o J p e=>hm.heap b o (out b o e) (yj b o (fu b o p (keep b o e))),hm.os,λg=>hm.gens.bare (λy hy=>(Array.mem_push.mp hy).elim (g y) λe=>e▸hgb),
    λJ=>K1.keep λo e=>hm.heap _ o (let⟨_,_,e'⟩:=FU.tab;out _ _ e') e⟩
   have k':Kp s s':=k.trans kk;have len:acc.size=as.length:=hacc.1.trans pn;refine⟨ez.mpr ⟨s'.heap.objs.size,rfl,(lo.kp k').fresh,acc.toList,by rw[Array.toArray_toList];exact⟨_,ay _ rfl,rfl,_,rfl⟩,AE (by rw[bG,aa,List.length_zipWith,<- hl,Nat.min_self,len]) λj p v h1 h2=>?_⟩,k'.trans (dF (tk:=s'.toks))⟩;rw[Array.getElem?_toList]at h2;obtain⟨i',hi,x,y,t,hx,hy,rfl⟩:=hacc.2 j v h2;rw[wg]at hi;have e:i'=j:=by
    have:=au.mp hi
    refine xE this ?_;clear this;intro _ e;rw[List.getElem_range]at e;exact e.symm
   subst e;rw[aS,List.getElem?_zipWith,hx,hy]at h1
   cases h1
   exact bA.mpr ⟨t,rfl⟩
end
end Mine
end
section
namespace Mine
section
variable{A:Around}{s:Shared}{V H:Addr->Prop}{env:Env}{sc:Sc}{σ:SE}
variable{o:cS}{r n:Nat}
def uu(G:GX ag w)(A:Around)(V:Addr->Prop)(s:Shared)(env:Env)(e:Expr)(p:PV):Prop:=wpAny (model ag w) A (eval e env) (ca G V s p) EF s
theorem cG{α:Type}{s:Shared}{m:Sem α}{Q Q':α->Shared->Prop}(h:wpAny (model ag w) A m Q EF s)(k:∀v s',Q v s'->Q' v s'):wpAny (model ag w) A m Q' EF s:=wpAny_mono h k λJ J x=>x
theorem cY{s aH:Shared}{p:PV}{m:Sem Value}(k:Kp s aH)(h:wpAny (model ag w) A m (ca G V aH p) EF aH):wpAny (model ag w) A m (ca G V s p) EF aH:=
 cG h λJ J g=>jz k g
theorem qn{c:Const}{p:PV}{k:Nat}{pos:Pos}(e:qW c=some p):uu G A V s env (.Constant c k pos) p:=by
 cases c with
 |none=>rw[bD e];exact wpAny_Constant_none ⟨mr.mpr rfl,cR.refl _ _⟩
 |bool b=>rw[bD e];exact wpAny_Constant_bool ⟨dB.mpr rfl,cR.refl _ _⟩
 |int i=>rw[bD e];exact wpAny_Constant_int ⟨bA.mpr ⟨_,rfl⟩,Kp.toks⟩
 |str x=>rw[bD e];exact wpAny_Constant_str ⟨df.mpr ⟨_,rfl⟩,Kp.toks⟩
 |_=>exact nn e
theorem so{ps:List PV}{vs:List Value}(hz:ps.length<=1048576)(x:G.RepL s.heap V ps vs):sizeOk (.seq vs.toArray):=by
 show vs.toArray.size<=sizeLine;rw[aF,<- RepL.length x,bn];exact aD hz (by decide)
theorem tv{ps:List PV}{vs:List Value}{p:PV}(lo:eu V s.heap)(e:rn ps=some p)(x:G.RepL s.heap V ps vs):wpAny (model ag w) A (newList vs) (ca G V s p) EF s:=
 fz e λhz e=>by rw[bD e];exact wpAny_newObj_type (jr (tk:=s.toks) lo x) (so hz x)
theorem rK{ps:List PV}{vs:List Value}{p:PV}(lo:eu V s.heap)(e:EI ps=some p)(x:G.RepL s.heap V ps vs):wpAny (model ag w) A (newTuple vs) (ca G V s p) EF s:=
 fz e λhz e=>by rw[bD e];exact wpAny_newObj_type (lY (tk:=s.toks) lo x) (so hz x)
theorem l8{c:Expr}{x:Str}(h:lM sc σ c=some x):(∃q,c=.Name x q)/\bR sc σ x=true:=
 b9 h λy hy h=>io h λhg h=>by rw[bD h];exact⟨cz hy,hg⟩
theorem nk{c:Expr}{t:List (Str×Int)}(h:d6 o sc σ c=some t):∃x q,c=.Name x q/\bR sc σ x=true/\o.tab x=some t:=
 b9 h λx hx h=>by refine xA (l8 hx) ?_;rintro⟨q,e⟩ hg;exact⟨x,q,e,hg,h⟩
theorem rF(x:Str)(t:Tok):(PySem.strKind ag w).is x (.str x t)=true:=by simp[PySem.strKind,Value.isStrOf]
theorem rI{h:Heap}(i:G.In h){d:Addr}{kvs:List (Str×Value)}(x:G.base.DictOf (PySem.strKind ag w) d kvs):h.DictOf (PySem.strKind ag w) d kvs:=
 let⟨o,es,ep,ho,q⟩:=x;⟨o,es,ep,i.old _ _ (oQ ho λps e=>nomatch q.2.1.symm.trans e) ho,q⟩
theorem qk(OO:gF G o r)(S:iY G o r n)(hr:br A (n+r))(O:bX G env sc σ V H s){f:Str}{fp pos:Pos}{args:List Expr}{p:PV}(hg:bR sc σ f=true){vs:List PV}(hv:dK (ev o n sc σ) args=some vs)(h:o.bi f vs=some p\/o.fn f vs=some p):
  uu G A V s env (.Call (.Name f fp) args [] pos) p:=by
 refine xA (dS hg) ?_;intro hx hl;refine wpAny_Call_ofName ?_;have rr:br A r:=hr.le (bW _ _);rcases h with h|h
 ·refine fJ (OO.bi f vs p h) ?_;intro fv gv cf co
  exact iC O hx hl gv (cL cf (fS hv) (cG (cH S hr hv O) λus aH q=>⟨O.base.kp q.2,cY q.2 (co A aH V us rr (O.base.kp q.2) (O.low.kp q.2) (CF q.1))⟩))
 ·refine fJ (OO.fn f vs p h) ?_;intro fv gv cf co
  exact iC O hx hl gv (cL cf (fS hv) (cG (cH S hr hv O) λus aH q=>⟨O.base.kp q.2,cY q.2 (co A aH V us rr (O.base.kp q.2) (O.low.kp q.2) q.1)⟩))
theorem xS(OO:gF G o r)(S:iY G o r n)(hr:br A (n+r))(O:bX G env sc σ V H s){f:Str}{fp pos:Pos}{a:Expr}{p v:PV}(hg:bR sc σ f=true)(hv:evP o n sc σ a=some v)(h:o.bi f [v]=some p):
  uu G A V s env (.Call (.Name f fp) [a] [] pos) p:=by
 refine xA (dS hg) ?_;intro hx hl;refine fJ (OO.bi f [v] p h) ?_;intro fv gv cf co;have ns:∀e∈[a],∀x q,e≠.Starred x q:=λe he=>by rw[aA.mp he];exact wp hv
 refine wpAny_Call_ofName (iC O hx hl gv (cL cf ns ?_));rw[ge (ns a (.head _)),fZ];exact Calls.spliced_cons (cG (S.evP hr hv O) λu aH q=>Calls.spliced_nil ⟨O.base.kp q.2,cY q.2 (co A aH V [u] (hr.le (bW _ _)) (O.base.kp q.2) (O.low.kp q.2) ⟨q.1,trivial⟩)⟩)
theorem tM{c i p:PV}(h:item c i=some p):o4 c=true:=
 b9 h λk J h=>by cases c<;>first|rfl|exact nn h
theorem nZ{op:CmpOp}{e:Expr}(h:∀a b c,e≠.Set a b c):behindInMarks op e=false:=by
 cases e with
 |Set a b c=>exact absurd rfl (h _ _ _)
 |_=>rfl
theorem ut{e:Expr}{p:PV}(h:ev o n sc σ e=some p):∀a b c,e≠.Set a b c:=by
 rintro a b c rfl
 cases n<;>exact nn h
theorem zm{e:Expr}{p:PV}(h:evP o n sc σ e=some p):∀a b c,e≠.Set a b c:=by
 cases n with
 |zero=>exact nn h
 |succ n=>
  rintro a b c rfl;exact ut (n:=n) h a b c rfl
def KP(G:GX ag w)(A:Around)(V:Addr->Prop)(s:Shared)(env:Env)(l:Expr)(op:CmpOp)(rt:Expr)(p:PV):Prop:=
 wpAny (model ag w) A (eval l env) (λa aH=>wpAny (model ag w) A (eval rt env) (λb aX=>wpAny (model ag w) A (compareOp op a b) (ca G V s p) EF aX) EF aH) EF s
theorem qi{fb s:Shared}{op:CmpOp}{a b:Value}{c:Bool}(k:Kp fb s)(h:rH G A s op a b c):wpAny (model ag w) A (compareOp op a b) (ca G V fb (.bool c)) EF s:=
 cG h λv cE g=>by rw[g.1];exact⟨dB.mpr rfl,k.trans g.2⟩
theorem yJ{op:CmpOp}(h:uX op=true):op=.In\/op=.NotIn:=by
 cases op<;>first|exact .inl rfl|exact .inr rfl|exact nomatch (show false=true from h)
theorem G5{x:Str}{kvs:List (Str×Value)}{q:Option Int}(nF:match q with|some i=>∃tk,valueAt kvs x=some (.int i tk)|none=>valueAt kvs x=none):q.isSome=(valueAt kvs x).isSome:=by
 cases q with
 |none=>exact(congrArg Option.isSome (show valueAt kvs x=none from nF)).symm
 |some i=>refine xE nF ?_;clear nF;intro tk h;rw[h];rfl
theorem Iz(OO:gF G o r)(S:iY G o r n){l:Expr}{op:CmpOp}{t:List (Str×Int)}{x:Str}{q:Pos}{a:PV}{y:Str}(hr:br A (n+r))(hop:op=.In\/op=.NotIn)(hg:bR sc σ x=true)(htab:o.tab x=some t)(ha:ev o n sc σ l=some a)(hy:kB a=some y)(O:bX G env sc σ V H s):
  KP G A V s env l op (.Name x q) (.bool ((t.lookup y).isSome == (op == .In))):=by
 refine xA (dS hg) ?_;intro hx hl;refine bx (OO.tab x t htab) ?_;intro d gv hd kvs dO nF;refine cG (S.ev hr ha O) λva aH q=>?_;refine xE (DD hy q.1) ?_;rintro u rfl;refine iC (O.kp q.2) hx hl gv ?_;have hm:=(rI (O.kp q.2).base dO).mapOf;rw[G5 (nF y)];rcases hop with rfl|rfl
 ·exact wpAny_in_of (rF y u) hd hm (jz q.2 ⟨dB.mpr (by cases(valueAt kvs y).isSome<;>rfl),Kp.toks⟩)
 ·exact wpAny_notIn_of (rF y u) hd hm (jz q.2 ⟨dB.mpr (by cases(valueAt kvs y).isSome<;>rfl),Kp.toks⟩)
theorem E8{A:Around}{m:Nat}(hr:br A (m+r)):A.units+m < cLine:=by have:=hr.2.2;unfold cLine;exact(pn [_,_,_] 0x1D26AC29A101D26AC29A4CA21A80) this
theorem wG(OO:gF G o r)(S:iY G o r n){l rt:Expr}{op:CmpOp}{pos:Pos}{p:PV}(hr:br A (n+1+r))(h:ev o (n+1) sc σ (.Compare l [op] [rt] pos)=some p)(O:bX G env sc σ V H s):
  behindInMarks op rt=false/\(∃b,p=.bool b)/\KP G A V s env l op rt p:=by
 have hr':br A (n+r):=hr.le (pn [_,_] 0x0DA1A180A10);have hc:=E8 hr';have h:((ev o n sc σ l).bind λa=>GO (d6 o sc σ rt) n op a (evP o n sc σ rt) (ev o n sc σ rt))=some p:=h;refine b9 h λa ha h=>?_;by_cases hop:uX op=true
 ·have h:=(if_pos hop).symm.trans h
  have hop':=yJ hop
  cases ht:d6 o sc σ rt with
  |some t=>
   rw[ht]at h;refine kh (nk ht) ?_;rintro x q rfl hg htab;refine md (C:=λp=>behindInMarks op (.Name x q)=false/\(∃b,p=.bool b)/\KP G A V s env l op (.Name x q) p) h λy hy=>?_;exact⟨nZ (λJ J J e=>nomatch e),⟨_,rfl⟩,Iz OO S hr' hop' hg htab ha hy O⟩
  |none=>
   rw[ht]at h;refine b9 h λb hb h=>md (C:=λp=>behindInMarks op rt=false/\(∃b,p=.bool b)/\KP G A V s env l op rt p) h λc hc=>?_;refine⟨nZ (zm hb),⟨_,rfl⟩,cG (S.ev hr' ha O) λva aH q=>cG (S.evP hr' hb (O.kp q.2)) λvb aX q'=>qi (q.2.trans q'.2) ?_⟩;have ra:=j6 q'.2 q.1;rcases hop' with rfl|rfl
   ·exact(lg hc ra q'.1).1
   ·exact md (C:=rH G A aX .NotIn va vb) hc λc' hc'=>(lg hc' ra q'.1).2
 ·have h:=(if_neg hop).symm.trans h
  refine b9 h λb hb h=>md (C:=λp=>behindInMarks op rt=false/\(∃b,p=.bool b)/\KP G A V s env l op rt p) h λc hcm=>?_;exact⟨nZ (ut hb),⟨_,rfl⟩,cG (S.ev hr' ha O) λva aH q=>cG (S.ev hr' hb (O.kp q.2)) λvb aX q'=>qi (q.2.trans q'.2) (BC hcm (j6 q'.2 q.1) q'.1 hc)⟩
theorem jx{ts:List Expr}{x:Str}{xs:List Str}(h:cj ts=some (x::xs)):∃p r,ts=.Name x p::r/\cj r=some xs:=by
 cases ts with
 |nil=>cases h
 |cons e r=>
  refine bY h λy ys hy hys e2=>?_
  cases e2
  refine xE (cz hy) ?_;intro p e3;exact⟨p,r,by rw[e3],hys⟩
theorem uO{ts:List Expr}(h:cj ts=some []):ts=[]:=by
 cases ts with
 |nil=>rfl
 |cons e r=>exact bY h λJ J J J e=>by cases e
theorem Gj{t:Expr}{xs:List Str}{i j:Str}(h:(ip t).bind cj=some xs)(hx:(xs == [i,j])=true):∃pa pb k p,t=.Tuple [.Name i pa,.Name j pb] k p:=by
 rw[beq_iff_eq.mp hx]at h;refine b9 h λts hts hns=>?_;refine yo (kN hts) ?_;intro k p e;refine fL (jx hns) ?_;intro pa r e1 h1;refine fL (jx h1) ?_;intro pb r' e2 h2;exact⟨pa,pb,k,p,by rw[e,e1,e2,uO h2]⟩
theorem IC {t:Expr}{c:Str×List Expr}{q:Expr×Expr}(h:v6 t=some c) (hz:(c.1 == ("zip":Str))=true) (hf:(match c.2 with
  | []=>none
  |x::r=>(j8 r).bind λy=>some (x,y))=some q):∃zq zp,t=.Call (.Name "zip" zq) [q.1,q.2] [] zp:=by
 refine yo (uC h) ?_;intro zq zp e;rw[e,beq_iff_eq.mp hz];clear h hz e
 cases hc:c.2 with
 |nil=>rw[hc]at hf;cases hf
 |cons x r=>
  rw[hc]at hf;refine b9 hf λy hy hf=>?_
  cases hf
  exact⟨zq,zp,by rw[fi hy]⟩
theorem IP{e:Expr}{b:Expr×Operator×Expr×Pos}{i j:Str}(h:DH e=some b)(h1:dc b.1=some i)(h2:dc b.2.2.1=some j)(ho:(b.2.1 == .Add)=true):∃p1 p2 p3,e=.BinOp (.Name i p1) .Add (.Name j p2) p3:=by
 refine xE (cz h1) ?_;intro p1 e1;refine xE (cz h2) ?_;intro p2 e2;exact⟨p1,p2,b.2.2.2,by rw[FN h,e1,e2,beq_iff_eq.mp ho]⟩
abbrev LO:=(Str×Str)×(Pos×Pos×Pos)×(Pos×Pos×Nat×Pos)×(Pos×Pos)×Scope×Pos
noncomputable def KG(P:LO)(q:Expr×Expr):Expr:=.GeneratorExp (.BinOp (.Name P.1.1 P.2.1.1) .Add (.Name P.1.2 P.2.1.2.1) P.2.1.2.2) [⟨.Tuple [.Name P.1.1 P.2.2.1.1,.Name P.1.2 P.2.2.1.2.1] P.2.2.1.2.2.1 P.2.2.1.2.2.2,.Call (.Name "zip" P.2.2.2.1.1) [q.1,q.2] [] P.2.2.2.1.2,[],0⟩] P.2.2.2.2.1 P.2.2.2.2.2
theorem Hs{c:Comprehension}{t i:Expr}(h1:c.target=t)(h2:c.iter=i)(h3:c.ifs=[])(h4:c.is_async=0):c=⟨t,i,[],0⟩:=by
 cases c;cases h1;cases h2;cases h3;cases h4;rfl
theorem zf{a:Expr}{q:Expr×Expr}(h:qy a=some q):∃P,a=KG P q/\AT P.2.2.2.2.1 P.1.1 P.1.2=true:=by
 refine b9 h λg hg h=>b9 h λc hc h=>b9 h λb hb h=>bY h λi j hi hj h=>io h λhcc h=>b9 h λxs hxs h=>io h λhx h=>b9 h λcl hcl h=>io h λhz hfin=>?_;refine xA (gw hcc) ?_;intro hcc hsc;refine xA (gw hcc) ?_;intro hcc has;refine xA (gw hcc) ?_;intro hop hif;refine C2 (IP hb hi hj hop) ?_;intro p1 p2 p3 e1;refine C2 (Gj hxs hx) ?_;intro pa pb kt e2;refine xE e2 ?_;intro pt e2;refine yo (IC hcl hz hfin) ?_;intro zq zp e3;refine⟨((i,j),(p1,p2,p3),(pa,pb,kt,pt),(zq,zp),g.2.2.1,g.2.2.2),?_,hsc⟩;rw[D9 hg,fi hc,e1,Hs e2 e3 (dz hif) (of_decide_eq_true has)];rfl
theorem xT{scope:Scope}{i j:Str}(h:AT scope i j=true):HZ scope i j:=by
 unfold AT at h;simp only[bf,mI,bj,beq_iff_eq,bne_iff_ne]at h;refine xA h ?_;clear h;rintro⟨⟨⟨⟨⟨⟨⟨h1,h2⟩,h3⟩,h4⟩,h5⟩,h6⟩,h7⟩,h8⟩ h9;exact⟨h1,λx hx=>(h2 x hx).1,λx hx=>(h2 x hx).2,h3,h4,h5,h6,h7,h8,h9⟩
theorem wM{h:Heap}{l:List PV}{as:List Int}{vs:List Value}(e:xg l=some as)(r:G.RepL h V l vs):yL vs.toArray as:=by
 unfold xg at e
 induction l generalizing as vs with
 |nil=>rw[bD e];cases vs with
  |nil=>exact⟨rfl,λj v q=>by simp at q⟩
  |cons _ _=>exact r.elim
 |cons p l ih=>
  refine kh (pM e) ?_;rintro k ks hk hks rfl
  cases vs with
  |nil=>exact r.elim
  |cons v vs=>
   refine xE (j5 hk r.1) ?_;rintro t rfl;refine xA (ih hks r.2) ?_;intro z1 z2;refine⟨congrArg gk z1,λj v q=>?_⟩
   cases j with
   |zero=>cases q;exact⟨k,t,rfl,rfl⟩
   |succ j=>exact z2 j v (by simpa using q)
theorem CQ(OO:gF G o r)(S:iY G o r n)(hr:br A (n+r))(O:bX G env sc σ V H s){a:Expr}{q:Expr×Expr}{fp pos:Pos}{p:PV}(hq:qy a=some q)(ht:bR sc σ "tuple"=true)(hg:ds sc=true)(hz:bR sc σ "zip"=true)
  (h:cW zF (ev o n sc σ q.1) (ev o n sc σ q.2)=some p):uu G A V s env (.Call (.Name "tuple" fp) [a] [] pos) p:=by
 refine bC (zf hq) ?_;intro P e hsc;rw[e];refine iQ OO.gen ?_;intro gt gz bm;refine xA (dS ht) ?_;intro hx hl;refine xA (dS hz) ?_;intro hx' hl';refine bY h λu v hu hv h=>bY h λl m hlm hmm h=>bY h λas bs has hbs h=>fz h λhc h=>?_;rw[bD h];have ns:∀e∈[q.1,q.2],∀x p,e≠.Starred x p:=λe he=>by
  rcases ai.mp he with rfl|he
  ·exact fT hu
  ·rw[aA.mp he];exact fT hv
 have hvs:dK (ev o n sc σ) [q.1,q.2]=some [u,v]:=gg hu (gg hv rfl);have JY:∀e∈[KG P q],∀x p,e≠.Starred x p:=λe he x p z=>by rw[aA.mp he]at z;exact nomatch z
 refine wpAny_Call_ofName (iC O hx hl gt (cL (λJ J=>⟨.machine,.inr (.inl rfl),.of_pure rfl⟩) JY ?_));rw[ge (JY _ (.head _)),fZ];refine Calls.spliced_cons (wpAny_mono (Cp (as:=as) (bs:=bs) hr.1 hr.depth O.low O.base O.gl (O.cd hg) bm (xT hsc) hc.1 hc.2 (λQ hQ=>?_) λJ=>rfl) (λv jG z=>Calls.spliced_nil z) λJ J x=>x);refine wpAny_Call_ofName (iC O hx' hl' gz (cL (λJ J=>⟨.machine,.inr (.inl rfl),.of_pure rfl⟩) ns (cG (cH S hr hvs O) λus aH z=>⟨O.base.kp z.2,?_⟩)));refine xA z ?_;clear z;intro z1 k;refine kh (RepL.two z1) ?_;rintro v1 v2 rfl r1 r2;refine bx (ez.mp (kq hlm▸r1)) ?_;rintro t1 rfl _ us1 T1 R1;refine bx (ez.mp (kq hmm▸r2)) ?_;rintro t2 rfl _ us2 T2 R2;exact Ba T1 T2 λh' a1 a2 a3 a4 a5 a6 a7=>hQ _ _ aH h' t1 t2 _ _ ⟨k,rfl,rfl,T1,T2,wM has R1,wM hbs R2,a1,a2,a3,a4,a5,a6,a7⟩
section steps
variable(OO:gF G o r)(MO:u3 G r)(S:iY G o r n){p:PV}{pos:Pos}(hr:br A (n+r))(O:bX G env sc σ V H s)
include O
omit A in
theorem A8{A:Around}(OO:gF G o r){x:Str}(h:gd (cC x) (Fa o sc σ x)=some p):uu G A V s env (.Name x pos) p:=by
 refine io h λhx h=>?_;unfold Fa at h
 cases hs:σ.lookup x with
 |some q=>
  rw[hs]at h;obtain⟨b,u⟩:=q
  cases b with
  |true=>exact nn h
  |false=>
   refine bC (O.vars _ _ _ hs) ?_;intro v hv hok;rw[bD h];exact jY O.kind hx hv ⟨hok,cR.refl _ _⟩
 |none=>
  rw[hs]at h;refine io h λhg h=>?_;refine bC (OO.gval _ _ h) ?_;intro v gv rp;exact iC O hx (beq_iff_eq.mp hg) gv ⟨rp _ _,cR.refl _ _⟩
include S hr
theorem ET{l rt:Expr}{op:Operator}(h:cW (jW op) (evP o n sc σ l) (ev o n sc σ rt)=some p):uu G A V s env (.BinOp l op rt pos) p:=
 bY h λa b ha hb h=>wpAny_BinOp (cG (S.evP hr ha O) λva aH q=>cG (S.ev hr hb (O.kp q.2)) λvb aX q'=>cY (q.2.trans q'.2) (wi h (oF q'.2 q.1) q'.1 ((O.low.kp q.2).kp q'.2)))
theorem F9{x:Expr}{op:UnaryOp}(h:(ev o n sc σ x).bind (Lq op)=some p):uu G A V s env (.UnaryOp op x pos) p:=by
 refine b9 h λv hv h=>?_
 cases op with
 |USub=>
  refine md (C:=uu G A V s env _) h λi hi=>wpAny_UnaryOp (cG (S.ev hr hv O) λv aH q=>?_);refine xE (j5 hi q.1) ?_;rintro t rfl;exact PyProof.Rows.neg_int (jz q.2 im)
 |Not=>
  refine md (C:=uu G A V s env _) h λi hi=>wpAny_UnaryOp (cG (S.ev hr hv O) λv aH q=>?_);rw[Gp hi q.1];exact PyProof.Rows.not_of (wpAny_truthy_bool (jz q.2 yX))
 |_=>exact nn h
theorem Gl{t a b:Expr}(h:((evT o n sc σ t).bind λc=>if c then ev o n sc σ a else ev o n sc σ b)=some p):uu G A V s env (.IfExp t a b pos) p:=by
 refine b9 h λc hc h=>wpAny_IfExp (cG (S.evT hr hc O) λc' aH q=>?_);refine xA q ?_;clear q;rintro rfl q
 cases c' with
 |true=>exact cY q (S.ev hr h (O.kp q))
 |false=>exact cY q (S.ev hr h (O.kp q))
theorem BU{es:List Expr}(h:(dK (ev o n sc σ) es).bind rn=some p):uu G A V s env (.List es pos) p:=
 b9 h λps hps h=>PyProof.Rows.List_ (cG (cH S hr hps O) λvs aH q=>cY q.2 (tv (O.low.kp q.2) h q.1))
theorem yU{es:List Expr}{k:Nat}(h:(dK (ev o n sc σ) es).bind EI=some p):uu G A V s env (.Tuple es k pos) p:=
 b9 h λps hps h=>PyProof.Rows.Tuple_ (cG (cH S hr hps O) λvs aH q=>cY q.2 (rK (O.low.kp q.2) h q.1))
include OO
theorem Cb{ob:Expr}{a:Str}(h:(match lM sc σ ob with|some g=>o.cattr g a|none=>gd (dw ob) ((evP o n sc σ ob).bind (J3 o a)))=some p):uu G A V s env (.Attribute ob a pos) p:=by
 cases hg:lM sc σ ob with
 |some g=>
  rw[hg]at h;refine xA (l8 hg) ?_;rintro⟨q,e⟩ hg';refine xA (dS hg') ?_;intro hx hl;refine bC (OO.cattr _ _ _ h) ?_;intro C gv get;rw[e];exact tY rfl (iC O hx hl gv (get A s V O.base))
 |none=>
  rw[hg]at h;refine io h λhb h=>b9 h λv hv h=>b9 h λc hc h=>io h λhf h=>tY hb (cG (S.evP hr hv O) λu aH q=>?_);exact cY q.2 (tB OO hf h (O.base.kp q.2) (oK hc▸q.1))
theorem El {c i:Expr}(h:(match mQ i with
    |some q=>gd q.2.2 ((evP o n sc σ c).bind λb=>cW (jA b) (evO o n sc σ q.1) (evO o n sc σ q.2.1))
    |none=>match d6 o sc σ c with
     |some t=>(ev o n sc σ i).bind λk=>(kB k).bind λs=>(t.lookup s).map .int
     |none=>cW item (evP o n sc σ c) (ev o n sc σ i))=some p):uu G A V s env (.Subscript c i pos) p:=by
 cases hs:mQ i with
 |some q=>
  rw[hs]at h;refine fL (zG hs) ?_;intro st sp hi he;refine io h λhn h=>b9 h λb hb h=>bY h λl u hlo hhi h=>?_;have hst:st=none:=by
   cases st with
   |none=>rfl
   |some _=>exact nomatch he.trans hn
  rw[hi,hst];refine PyProof.Rows.Subscript_ (cG (S.evP hr hb O) λv aH q=>?_);have mF:=O.kp q.2;refine yW (cG (S.evO hr hlo mF) λvl aX ql=>?_);have HH:=mF.kp ql.2;refine cG (S.evO hr hhi HH) λvu cE qu=>?_;have kk:Kp aH { cE with heap:=cE.heap.push { cls:=.type "slice",data:=.fields #[vl,vu,.none] } }:=(ql.2.trans qu.2).trans (dF (tk:=cE.toks))
  refine xA (tH (A:=A) ((HH.kp qu.2).low.kp (dF (tk:=cE.toks))) h (oF kk q.1) (Heap.IsSliceOf.new ..) ql.1 qu.1) ?_;intro gi hi;exact Dk (oF kk q.1) (cY (q.2.trans kk) gi) hi
 |none=>
  rw[hs]at h
  cases ht:d6 o sc σ c with
  |some t=>
   rw[ht]at h;refine kh (nk ht) ?_;rintro x q rfl hg htab;refine xA (dS hg) ?_;intro hx hl;refine bx (OO.tab x t htab) ?_;intro d gv hd kvs dO nF;refine b9 h λk hk h=>b9 h λy hy h=>md (C:=uu G A V s env _) h λi hi=>?_;refine PyProof.Rows.Subscript_ (iC O hx hl gv (cG (S.ev hr hk O) λva aH q=>?_));refine xE (DD hy q.1) ?_;rintro u rfl;have hm:=(rI (O.kp q.2).base dO).mapOf
   have:=nF y
   rw[hi]at this;refine xE this ?_;clear this;intro tk hk;exact AZ hm.typeIs slot_dict_getitem.lookup (wpAny_getItem_of (rF y u) hm hk (jz q.2 ⟨bA.mpr ⟨_,rfl⟩,Kp.toks⟩))
  |none=>
   rw[ht]at h;refine bY h λb k hb hk h=>PyProof.Rows.Subscript_ (cG (S.evP hr hb O) λv aH q=>cG (S.ev hr hk (O.kp q.2)) λvi aX q'=>?_);have pk:=oF q'.2 q.1;exact Dk pk (cY (q.2.trans q'.2) (ni h pk q'.1)) (tM h)
include MO
theorem Bw{ob:Expr}{name:Str}{ap cp:Pos}{args:List Expr}(hc:(dw ob && ap.endLine == cp.line && decide (args.length<=8))=true)(h:((ev o n sc σ ob).bind λb=>(dK (ev o n sc σ) args).bind (Aq o name b))=some p):uu G A V s env (.Call (.Attribute ob name ap) args [] cp) p:=by
 have rr:br A r:=hr.le (bW _ _);refine xA (gw hc) ?_;intro hc hlen;refine xA (gw hc) ?_;intro hb hl;refine b9 h λb hb' h=>b9 h λvs hvs h=>un hb hl (of_decide_eq_true hlen) (fS hvs) (cG (S.ev hr hb' O) λov aH q pl=>?_);have mF:=O.kp q.2;unfold Aq at h
 cases hob:q0 b with
 |some c=>
  rw[hob]at h;refine io h λhnone h=>?_;have hln:c.2.lookup name=none:=Option.isNone_iff_eq_none.mp hnone;refine n9 (OO.mth c.1 name _ p h) ?_;intro C f hC cf co gm;obtain⟨a,C',d,es,ep,rfl,nV,hC',nd,g,gd,rf⟩:G.Rep aH.heap V (.obj c.1 c.2) ov:=oK hob▸q.1;rw[hC]at hC';cases hC';have hq:=uG (a:=name) rf;rw[hln]at hq;refine gm A aH a d es ep pl _ _ mF.base g gd hq (uK rf) ?_;exact cL cf (fS hvs) (cG (cH S hr hvs mF) λus aX q'=>⟨mF.base.kp q'.2,cY (q.2.trans q'.2) (co A aX V _ rr (mF.base.kp q'.2) (mF.low.kp q'.2) (RepL.cons (j6 q'.2 q.1) q'.1))⟩)
 |none=>
  rw[hob]at h;refine n9 (MO.ok b name vs p h) ?_;intro T id pa slot hty run;refine iQ (run A aH V ov q.1) ?_;intro hT hnd _;refine getMethod_builtin hT pa slot hty hnd ?_;exact cL (λh J=>⟨.machine,.inr (.inl rfl),.of_pure rfl⟩) (fS hvs) (cG (cH S hr hvs mF) λus aX q'=>⟨mF.base.kp q'.2,cY (q.2.trans q'.2) ((run A aX V ov (j6 q'.2 q.1)).2.2 us q'.1 rr (mF.low.kp q'.2))⟩)
theorem BZ {f:Expr}{args:List Expr}{ks:List Keyword}(h:gd ks.isEmpty (match nX f with
    |some q=>gd (dw q.1 && q.2.2.endLine == pos.line && decide (args.length<=8)) ((ev o n sc σ q.1).bind λb=>(dK (ev o n sc σ) args).bind (Aq o q.2.1 b))
    |none=>(lM sc σ f).bind λg=>match j8 args with
     |some a=>match qy a with
      |some q=>gd (g == ("tuple":Str) && ds sc && bR sc σ "zip") (cW zF (ev o n sc σ q.1) (ev o n sc σ q.2))
      |none=>(evP o n sc σ a).bind λv=>(o.bi g [v]).or ((ev o n sc σ a).bind λv=>o.fn g [v])
     |none=>(dK (ev o n sc σ) args).bind λvs=>(o.bi g vs).or (o.fn g vs))=some p):uu G A V s env (.Call f args ks pos) p:=by
 refine io h λhk h=>?_;rw[dz hk]
 cases hf:nX f with
 |some q=>
  rw[hf]at h;rw[p7 hf];exact io h λhc h=>Bw OO MO S hr O hc h
 |none=>
  rw[hf]at h;refine b9 h λg hg h1=>?_;refine xA (l8 hg) ?_;rintro⟨q,e⟩ hg';rw[e]
  cases ha:j8 args with
  |some a=>
   rw[ha]at h1;rw[fi ha]
   replace h1:(match qy a with
      |some q=>gd (g == ("tuple":Str) && ds sc && bR sc σ "zip") (cW zF (ev o n sc σ q.1) (ev o n sc σ q.2))
      |none=>(evP o n sc σ a).bind λv=>(o.bi g [v]).or ((ev o n sc σ a).bind λv=>o.fn g [v]))=some p:=h1
   cases hq:qy a with
   |some q=>
    rw[hq]at h1;refine io h1 λhc h1=>?_;refine xA (gw hc) ?_;intro hc hz;refine xA (gw hc) ?_;intro ht hg2;rw[beq_iff_eq.mp ht]at hg' ⊢;exact CQ OO S hr O hq hg' hg2 hz h1
   |none=>
   rw[hq]at h1;refine b9 h1 λv hv h2=>MI h2 (λh3=>xS OO S hr O hg' hv h3) λJ h4=>b9 h4 λv' hv' h5=>?_;exact qk OO S hr O hg' (vs:=[v']) (gg hv' rfl) (.inr h5)
  |none=>
   rw[ha]at h1;exact b9 h1 λvs hvs h2=>qk OO S hr O hg' hvs (MI h2 .inl λJ h=>.inr h)
end steps
theorem GF(OO:gF G o r)(MO:u3 G r)(S:iY G o r n)
  (hC:∀{A:Around}{env:Env}{sc:Sc}{σ:SE}{V H:Addr->Prop}{s:Shared}{p:PV}{e:Expr},pe e=true->br A (n+1+r)->ev o (n+1) sc σ e=some p->bX G env sc σ V H s->uu G A V s env e p)
  {e:Expr}{p:PV}(hr:br A (n+1+r)) (h:ev o (n+1) sc σ e=some p) (O:bX G env sc σ V H s):uu G A V s env e p:=by
 have hr':br A (n+r):=hr.le (pn [_,_] 0x0DA1A180A10)
 cases e with
 |Constant c k pos=>exact qn h
 |Name x pos=>exact A8 O OO h
 |BinOp l op rt pos=>exact ET S hr' O h
 |UnaryOp op x pos=>exact F9 S hr' O h
 |IfExp t a b pos=>exact Gl S hr' O h
 |List es pos=>exact BU S hr' O h
 |Tuple es k pos=>exact yU S hr' O h
 |Dict ks vs pos=>exact hC rfl hr h O
 |ListComp elt gens scope pos=>exact hC rfl hr h O
 |DictComp k v gens scope pos=>exact hC rfl hr h O
 |Compare l ops rs pos=>
  refine bY (f:=λop r=>(ev o n sc σ l).bind λa=>GO (d6 o sc σ r) n op a (evP o n sc σ r) (ev o n sc σ r)) h λop rt h1 h2 J=>?_;have e1:=fi h1;have e2:=fi h2;subst e1;subst e2;refine iQ (wG OO S hr h O) ?_;intro h1 _ h2;exact wpAny_Compare1 h2 h1
 |Call f args ks cp=>exact BZ OO MO S hr' O h
 |Attribute ob a pos=>exact Cb OO S hr' O h
 |Subscript c i pos=>exact El OO S hr' O h
 |_=>exact nn h
end
end Mine
end
section
namespace Mine
section
variable{A:Around}{s:Shared}{V H:Addr->Prop}{env:Env}{sc:Sc}{σ:SE}
variable{o:cS}{r n:Nat}
theorem RepD.any{cl:cF}{h:Heap}(k:Int){l:List (Int×PV)}{vs:List (Int×Value)}(x:RepD ag w cl h V l vs):(l.any λkv=>kv.1=k)=(vs.any λkv=>kv.1=k):=by
 refine RepD.ind (C:=λ(l:List (Int×PV)) (vs:List (Int×Value))=>(l.any λkv=>kv.1=k)=(vs.any λkv=>kv.1=k)) rfl (λa p v ps vs r J ih=>?_) x;rw[fw,fw,ih]
theorem RepD.mapAt{cl:cF}{h:Heap}(k:Int){p:PV}{v:Value}(rp:Rep ag w cl h V p v){l:List (Int×PV)}{vs:List (Int×Value)}(x:RepD ag w cl h V l vs):
  RepD ag w cl h V (l.map λkv=>if kv.1=k then(kv.1,p) else kv) (vs.map λkv=>if kv.1=k then(kv.1,v) else kv):=by
 refine RepD.ind (C:=λ(l:List (Int×PV)) (vs:List (Int×Value))=>RepD ag w cl h V (l.map λkv=>if kv.1=k then(kv.1,p) else kv) (vs.map λkv=>if kv.1=k then(kv.1,v) else kv)) trivial (λa q u ps vs r J ih=>?_) x;rw[ao,ao];dsimp only;by_cases e:a=k
 ·rw[if_pos e,if_pos e];exact RepD.cons rp ih
 ·rw[if_neg e,if_neg e];exact RepD.cons r ih
theorem RepD.snoc{cl:cF}{h:Heap}(k:Int){p:PV}{v:Value}(rp:Rep ag w cl h V p v){l:List (Int×PV)}{vs:List (Int×Value)}(x:RepD ag w cl h V l vs):RepD ag w cl h V (l++[(k,p)]) (vs++[(k,v)]):=
 RepD.ind (C:=λ(l:List (Int×PV)) (vs:List (Int×Value))=>RepD ag w cl h V (l++[(k,p)]) (vs++[(k,v)])) (RepD.cons rp trivial) (λJ J J J J r J ih=>RepD.cons r ih) x
theorem RepD.stored{cl:cF}{h:Heap}{k:Int}{p:PV}{v:Value}(rp:Rep ag w cl h V p v){l:List (Int×PV)}{vs:List (Int×Value)}(x:RepD ag w cl h V l vs):
  RepD ag w cl h V (jD l k p) (PySem.stored vs k v):=by
 unfold jD PySem.stored;rw[RepD.any k x];split
 ·exact RepD.mapAt k rp x
 ·exact RepD.snoc k rp x
theorem zd{h:Heap}:∀{a b:List PV}{vs:List (Value×Value)}{acc:List (Int×PV)}{kvs:List (Int×Value)}{res:List (Int×PV)},G.RepL h V a (vs.map (·.1))->G.RepL h V b (vs.map (·.2)) ->
  G.RepD h V acc kvs->cD (a.zip b) acc=some res->∃more,Carries (intKind ag w) vs more/\G.RepD h V res (merged kvs more):=λ{a}=>by
 induction a with
 |nil=>
  intro b vs acc kvs res ra rb rd e
  cases vs with
  |nil=>rw[bD e];exact⟨[],trivial,rd⟩
  |cons _ _=>exact False.elim ra
 |cons x a ih=>
  intro b vs acc kvs res ra rb rd e
  cases vs with
  |nil=>exact False.elim ra
  |cons q vs=>
   obtain⟨u,v⟩:=q
   cases b with
   |nil=>exact False.elim rb
   |cons y b=>
    refine b9 (x:=cb x) (f:=λk=>cD (a.zip b) (jD acc k y)) e λk hk e=>?_;refine xE (j5 hk ra.1) ?_;intro t ht;have ht:u=.int k t:=ht;subst ht;refine bC (ih ra.2 rb.2 (RepD.stored (k:=k) rb.1 rd) e) ?_;intro more c q;exact⟨(k,v)::more,⟨jl,rfl,c⟩,q⟩
theorem bX.push{o:Obj}{V:Addr->Prop}(O:bX G env sc σ V H s)(hf:o.isFreed=false):bX G env sc σ (λa=>V a\/a=s.heap.objs.size) H { s with heap:=s.heap.push o }:=
 O.change (λb o J e=>af _ e) (λa o J e=>af _ e) (O.base.kp (dF (tk:=s.toks)))
  (λa e q=>q.elim id λq=>absurd (q▸dC) e) ⟨λa q J=>q.elim (λv=>(O.low.kp (dF (tk:=s.toks))).some v) λq=>by
   show(s.heap.push o).get? a≠none;rw[q,ay _ hf];simp,(O.low.kp (dF (o:=o) (tk:=s.toks))).tab,.inl O.low.pt⟩
theorem xN{α β:Type}{f:α->Option β}:∀{as:List α}{bs:List β},dK f as=some bs->as.length=bs.length:=λ{as}=>by
 induction as with
 |nil=>intro bs h;rw[bD h];rfl
 |cons a as ih=>intro bs h;exact bY h λb r J h2 h=>by rw[bD h];exact congrArg gk (ih h2)
theorem xR(S:iY G o r n)(hr:br A (n+r)){pos:Pos}:∀{ks:List (Option Expr)}{vs:List Expr}{a b:List PV}{s:Shared},
  dK (Io (ev o n sc σ)) ks=some a->dK (ev o n sc σ) vs=some b->ks.length=vs.length->bX G env sc σ V H s ->
  wpAny (model ag w) A (evalPairs (pairTrees ks vs env pos)) (λus s'=>G.RepL s'.heap V a (us.map (·.1))/\G.RepL s'.heap V b (us.map (·.2))/\Kp s s') EF s:=λ{ks}=>by
 induction ks with
 |nil=>
  intro vs a b s ha hb hl O
  cases vs with
  |nil=>rw[bD ha,bD hb];exact pairTrees_nil_walk ⟨trivial,trivial,cR.refl _ _⟩
  |cons _ _=>cases hl
 |cons k ks ih=>
  intro vs a b s ha hb hl O
  cases vs with
  |nil=>cases hl
  |cons v vs=>
   refine bY ha λka as h1 h2 e1=>bY hb λvb bs h3 h4 e2=>?_;rw[bD e1,bD e2]
   cases k with
   |none=>exact nn h1
   |some k=>
    refine pairTrees_cons_walk (cG (S.ev hr h1 O) λkv aH v8=>cG (S.ev hr h3 (O.kp v8.2)) λvv aX yk=>cG (ih h2 h4 (Nat.succ.inj hl) ((O.kp v8.2).kp yk.2)) λus cE FW=>?_);exact⟨RepL.cons (j6 (yk.2.trans FW.2.2) v8.1) FW.1,RepL.cons (j6 FW.2.2 yk.1) FW.2.1,(v8.2.trans yk.2).trans FW.2.2⟩
theorem Bp{f:Option Expr->Option PV}(hf:f none=none):∀{ks:List (Option Expr)}{a:List PV},dK f ks=some a->ks.all (·.isSome)=true:=λ{ks}=>by
 induction ks with
 |nil=>intro _ _;rfl
 |cons k ks ih=>
  intro a h;refine bY h λb r h1 h2 J=>?_;rw[mY,ih h2]
  cases k with
  |none=>exact nn (hf.symm.trans h1)
  |some k=>rfl
theorem A7{h:Heap}(i:G.In h):(h.objs.size == sysModules)=false:=by
 refine l9 G.g ?_;intro o _ _ ho _;have lt:=aN (i.old _ _ (CM G.g) ho);have le:sysModules<=mainGlobals:=by decide
 exact beq_eq_false_iff_ne.mpr (gB (Nat.lt_of_le_of_lt le lt))
theorem BR(S:iY G o r n){ks:List (Option Expr)}{vs:List Expr}{pos:Pos}{p:PV}{Q:Value->Shared->Prop}(hr:br A (n+r))(h:ev o (n+1) sc σ (.Dict ks vs pos)=some p)(O:bX G env sc σ V H s)
  (hQ:∀(l:List (Int×PV)) (kvs:List (Int×Value)) (s':Shared),p=.dct l->s'.heap.DictOf (intKind ag w) s.heap.objs.size kvs->G.RepD s'.heap (λa=>V a\/a=s.heap.objs.size) l kvs->Kp s s'->Q (.ref s.heap.objs.size) s') :
  wpAny (model ag w) A (eval (.Dict ks vs pos) env) Q EF s:=by
 have h:gd (decide (ks.length=vs.length) && decide (ks.length<=8)) (cW (λa b=>(cD (a.zip b) []).map PV.dct) (dK (Io (ev o n sc σ)) ks) (dK (ev o n sc σ) vs))=some p:=h;refine io h λhc h=>bY h λa b ha hb h=>?_;refine xA (gw hc) ?_;intro hl hlen;have hl:=of_decide_eq_true hl;have hlen:=of_decide_eq_true hlen;obtain⟨res,hres,hp⟩:∃res,cD (a.zip b) []=some res/\p=.dct res:=md (C:=λp=>∃res,cD (a.zip b) []=some res/\p=.dct res) h λres hres=>⟨res,hres,rfl⟩;by_cases e0:ks=[]
 ·subst e0
  have:vs=[]:=List.length_eq_zero_iff.mp hl.symm
  subst this;rw[bD ha]at hres;have hres:=bD (show some []=some res from hres);exact wpAny_Dict_empty (hQ [] [] { s with heap:=s.heap.push { cls:=.type "dict",data:=.dict #[] } } (hres▸hp) (Heap.DictOf.new _) trivial (dF (tk:=s.toks)))
 ·refine wpAny_Dict_walk (knd:=intKind ag w) (Bp rfl ha) hl e0 (by clear hQ O h;lia) ?_
  have O':=O.push (o:={ cls:=.type "dict",data:=.dict #[] }) rfl;refine cG (xR S hr ha hb hl O') λus aH q=>?_;refine bC (zd q.1 q.2.1 (kvs:=[]) (acc:=[]) trivial hres) ?_;intro more c rd;have nD:s.heap.objs.size≠PT:=λq=>O.low.fresh (q▸O.low.pt);have hD:aH.heap.DictOf (intKind ag w) s.heap.objs.size []:=gf (V:=(·=PT)) (q.2.2.hk rfl) nD (Heap.DictOf.new s.heap);refine⟨more,c,hD,λh' hd sb=>hQ res _ _ hp hd (RepD.keep (λb o n e=>sb.extBut b o (λq=>n (.inr q)) e) (λJ J x=>x) rd) ⟨λb o J p e=>?_,q.2.2.os,q.2.2.gens,λt=>.keep (λo e=>sb.extBut _ o nD.symm e) (q.2.2.tab (t.keep λJ e=>af _ e))⟩⟩;exact sb.extBut b o (be (aN e)) (q.2.2.keep _ _ p (af _ e))
theorem FF(S:iY G o r n){e:Option Expr}{k:Option Int}(hr:br A (n+1+r))(h:evO o (n+1) sc σ e=some k)(O:bX G env sc σ V H s):
  wpAny (model ag w) A (valueOrNone (evalOpt e env)) (λv s'=>IsPart v k/\Kp s s') EF s:=by
 cases e with
 |none=>rw[bD (show some none=some k from h)];exact wpAny_pure ⟨.none,cR.refl _ _⟩
 |some e=>
  refine b9 (x:=ev o n sc σ e) (f:=λv=>(cb v).map some) h λv hv h=>cG (S.ev (hr.le (pn [_,_] 0x0DA1A180A10)) hv O) λv aH q=>⟨?_,q.2⟩;refine md (C:=λk=>IsPart v k) h λi hi=>?_;refine xE (j5 hi q.1) ?_;rintro t rfl;exact .int _ _
theorem Ea(OO:gF G o r)(S:iY G o r n){e:Expr}{p:PV}(hr:br A (n+1+r))(h:evP o (n+1) sc σ e=some p)(O:bX G env sc σ V H s):
  wpAny (model ag w) A (eval e env) (λv s'=>ej G s'.heap V p v/\Kp s s') EF s:=by
 have gen:ev o n sc σ e=some p->wpAny (model ag w) A (eval e env) (λv s'=>ej G s'.heap V p v/\Kp s s') EF s:=
  λh=>cG (S.ev (hr.le (pn [_,_] 0x0DA1A180A10)) h O) λJ J q=>⟨.inl q.1,q.2⟩
 have h:(match dc e with
  |some x=>(match σ.lookup x with
    |some q=>gd (cC x) (some q.2)
    |none=>ev o n sc σ e)
  |none=>ev o n sc σ e)=some p:=h
 cases hx:dc e with
 |none=>rw[hx]at h;exact gen h
 |some x=>
  have h:(match σ.lookup x with
    |some q=>gd (cC x) (some q.2)
    |none=>ev o n sc σ e)=some p:=by rw[hx]at h;exact h
  cases hs:σ.lookup x with
  |none=>rw[hs]at h;exact gen h
  |some q=>
   rw[hs]at h;obtain⟨b,u⟩:=q;refine io h λho h=>?_;refine xE (cz hx) ?_;intro qp he;refine bC (O.vars _ _ _ hs) ?_;intro v hv hok;rw[bD h,he];exact jY O.kind ho hv ⟨hok.peek λa h=>O.npt (.own h),cR.refl _ _⟩
def Mf(ag:Program)(w:World)(A:Around)(s:Shared)(env:Env)(e:Expr)(b:Bool):Prop:=wpAny (model ag w) A (isTrue e env (eval e env)) (λc s'=>c=b/\Kp s s') EF s
noncomputable def FO(e:Expr):Bool:=e.ctorIdx == 15
theorem FK{e:Expr}(h:FO e=true):∃l ops rs p,e=.Compare l ops rs p:=by
 cases e<;>first|exact⟨_,_,_,_,rfl⟩|exact nomatch (show false=true from h)
theorem yn{e:Expr}(h:yP e=.val)(hc:FO e=false)(t:Sem Value):isTrue e env t=(do let v <- t;standAt e.pos;holding [v] (truthy v)):=by
 cases e with
 |UnaryOp op x p=>cases op with
  |Not=>exact nomatch (show TK.not x=TK.val from h)
  |_=>rfl
 |BoolOp op es p=>cases op with
  |And=>exact nomatch (show TK.all es=TK.val from h)
  |Or=>exact nomatch (show TK.any es=TK.val from h)
 |IfExp a b c d=>exact nomatch (show TK.no=TK.val from h)
 |Compare a b c d=>exact nomatch (show true=false from hc)
 |_=>rfl
theorem Iy{e x:Expr}(h:yP e=.not x):∃p,e=.UnaryOp .Not x p:=by
 cases e with
 |UnaryOp op y p=>cases op with
  |Not=>injection (show TK.not y=TK.not x from h) with h;exact⟨p,by rw[h]⟩
  |_=>exact nomatch (show TK.val=TK.not x from h)
 |BoolOp op es p=>cases op<;>nomatch h
 |IfExp a b c d=>nomatch h
 |_=>exact nomatch (show TK.val=TK.not x from h)
theorem Jv{e:Expr}{es:List Expr}(h:yP e=.all es):∃p,e=.BoolOp .And es p:=by
 cases e with
 |BoolOp op y p=>cases op with
  |And=>injection (show TK.all y=TK.all es from h) with h;exact⟨p,by rw[h]⟩
  |Or=>nomatch h
 |UnaryOp op y p=>cases op<;>nomatch h
 |IfExp a b c d=>nomatch h
 |_=>exact nomatch (show TK.val=TK.all es from h)
theorem JF{e:Expr}{es:List Expr}(h:yP e=.any es):∃p,e=.BoolOp .Or es p:=by
 cases e with
 |BoolOp op y p=>cases op with
  |Or=>injection (show TK.any y=TK.any es from h) with h;exact⟨p,by rw[h]⟩
  |And=>nomatch h
 |UnaryOp op y p=>cases op<;>nomatch h
 |IfExp a b c d=>nomatch h
 |_=>exact nomatch (show TK.val=TK.any es from h)
theorem Dy(S:iY G o r n){l rt:Expr}{op:CmpOp}{pos:Pos}{b:Bool}(hr:br A (n+r))(h:ev o n sc σ (.Compare l [op] [rt] pos)=some (.bool b))(O:bX G env sc σ V H s):Mf ag w A s env (.Compare l [op] [rt] pos) b:=by
 refine iQ (S.evC hr h O) ?_;intro h1 _ h2;refine wpAny_isTrue_Compare1 (cG h2 λa aH kP=>cG kP λb aX mE=>cG mE λc cE q=>?_) h1;rw[dB.mp q.1];exact wpAny_truthy_bool ⟨rfl,q.2⟩
theorem Du(S:iY G o r n){e:Expr}{b:Bool}(hr:br A (n+1+r))(h:evT o (n+1) sc σ e=some b)(O:bX G env sc σ V H s):Mf ag w A s env e b:=by
 have hr':br A (n+r):=hr.le (pn [_,_] 0x0DA1A180A10);have h:(match yP e with
  | .not x=>(evT o n sc σ x).map (!·)
  | .all es=>evAnd o n sc σ es
  | .any es=>evOr o n sc σ es
  | .no=>none
  | .val=>(ev o n sc σ e).bind my)=some b:=h
 cases hk:yP e with
 |not x=>
  rw[hk]at h;refine xE (Iy hk) ?_;intro p he;rw[he];exact md (C:=Mf ag w A s env _) h λc hc=>wpAny_isTrue_Not (cG (S.evT hr' hc O) λJ J q=>⟨by rw[q.1],q.2⟩)
 |all es=>
  rw[hk]at h;refine xE (Jv hk) ?_;intro p he;rw[he];exact wpAny_isTrue_BoolOp (S.evAnd hr' h O)
 |any es=>
  rw[hk]at h;refine xE (JF hk) ?_;intro p he;rw[he];exact wpAny_isTrue_BoolOp (S.evOr hr' h O)
 |no=>rw[hk]at h;exact nn h
 |val=>
  rw[hk]at h;refine b9 h λv ht h2=>?_;clear h;by_cases hc:FO e=true
  ·obtain⟨l,ops,rs,p,he⟩:=FK hc
   subst he;have hv:=pF h2;subst hv
   cases n with
   |zero=>exact nn ht
   |succ m=>
    refine bY (f:=λop r=>(ev o m sc σ l).bind λa=>GO (d6 o sc σ r) m op a (evP o m sc σ r) (ev o m sc σ r)) ht λop rt h1 h2 J=>?_;have e1:=fi h1;have e2:=fi h2;subst e1;subst e2;exact Dy S hr' ht O
  ·refine wpAny_isTrue_value (cG (S.ev hr' ht O) λv aH q=>?_) (yn hk (Bool.eq_false_iff.mpr hc) _)
   rw[Gp h2 q.1];exact wpAny_truthy_bool ⟨rfl,q.2⟩
theorem zw(S:iY G o r n){es:List Expr}{b:Bool}(hr:br A (n+1+r))(h:evAnd o (n+1) sc σ es=some b)(O:bX G env sc σ V H s):
  wpAny (model ag w) A (allTrue .And es env) (λc s'=>c=b/\Kp s s') EF s:=by
 have hr':br A (n+r):=hr.le (pn [_,_] 0x0DA1A180A10)
 cases es with
 |nil=>rw[bD (show some true=some b from h)];exact wpAny_allTrue_And_nil ⟨rfl,cR.refl _ _⟩
 |cons e es=>
  refine b9 (x:=evT o n sc σ e) (f:=λb=>if b=true then evAnd o n sc σ es else some false) h λt ht h=>wpAny_allTrue_And_cons (cG (S.evT hr' ht O) λc aH q=>?_);rw[q.1]
  cases t with
  |true=>exact cG (S.evAnd hr' h (O.kp q.2)) λJ J g=>⟨g.1,q.2.trans g.2⟩
  |false=>rw[bD (show some false=some b from h)];exact⟨rfl,q.2⟩
theorem Br(S:iY G o r n){es:List Expr}{b:Bool}(hr:br A (n+1+r))(h:evOr o (n+1) sc σ es=some b)(O:bX G env sc σ V H s):
  wpAny (model ag w) A (allTrue .Or es env) (λc s'=>c=b/\Kp s s') EF s:=by
 have hr':br A (n+r):=hr.le (pn [_,_] 0x0DA1A180A10)
 cases es with
 |nil=>rw[bD (show some false=some b from h)];exact wpAny_allTrue_Or_nil ⟨rfl,cR.refl _ _⟩
 |cons e es=>
  refine b9 (x:=evT o n sc σ e) (f:=λb=>if b=true then some true else evOr o n sc σ es) h λt ht h=>wpAny_allTrue_Or_cons (cG (S.evT hr' ht O) λc aH q=>?_);rw[q.1]
  cases t with
  |false=>exact cG (S.evOr hr' h (O.kp q.2)) λJ J g=>⟨g.1,q.2.trans g.2⟩
  |true=>rw[bD (show some true=some b from h)];exact⟨rfl,q.2⟩
end
end Mine
end
section
namespace Mine
section
variable{A:Around}{s:Shared}{V H:Addr->Prop}{env:Env}{sc:Sc}{σ:SE}
theorem en{x y:Str}{v:Bool×PV}:∀{σ:SE},(SE.put σ x v).lookup y=if y=x then some v else σ.lookup y
 | []=>by
  unfold SE.put;rw[aO];by_cases h:y=x
  ·subst h;simp
  ·rw[beq_eq_false_iff_ne.mpr h,if_neg h]
 |(z,u)::r=>by
  unfold SE.put;by_cases hz:z=x
  ·subst hz
   rw[if_pos (by simp)];rw[aO,aO];by_cases h:y=z
   ·subst h;simp
   ·rw[beq_eq_false_iff_ne.mpr h,if_neg h]
  ·rw[if_neg (by simpa using hz),aO,aO,en (σ:=r)]
   by_cases h:y=z
   ·subst h;simp[hz]
   ·rw[beq_eq_false_iff_ne.mpr h]
theorem Dn{h:Heap}{a:Addr}{m m':Str->Option Value}(x:h.Ns a m)(y:h.Ns a m'):m=m':=by
 refine vn x ?_;clear x;intro o es ep ho hd _ hm;refine vn y ?_;clear y;intro o' es' ep' ho' hd' _ hm';rw[ho]at ho';cases ho';rw[hd]at hd';cases hd';funext n;rw[<- hm n,<- hm' n]
def lR(env:Env)(sc:Sc)(a:Addr):Prop:=a=env.locals\/(∃x,sc.lookup x=some .cell/\env.cells.lookup x=some a)
def j9(env:Env)(sc:Sc)(H:Addr->Prop)(a:Addr):Prop:=lR env sc a\/H a
structure cX(G:GX ag w)(env:Env)(sc:Sc)(σ:SE)(V H:Addr->Prop)(s:Shared):Prop where
 ev:bX G env sc σ V H s
 vl:V env.locals
 vc:∀x c,sc.lookup x=some .cell->env.cells.lookup x=some c->V c
 nl:∀x c,env.cells.lookup x=some c->c≠env.locals
 nc:∀x y c,sc.lookup x=some .cell->env.cells.lookup x=some c->env.cells.lookup y=some c->y=x
 hl:¬H env.locals
 hc:∀x c,sc.lookup x=some .cell->env.cells.lookup x=some c->¬H c
 kc:∀x,sc.lookup x=some .cell->env.kindOf x=some .cell
theorem cX.pt(T:cX G env sc σ V H s):V PT:=T.ev.pt
theorem cX.loc{a:Addr}(T:cX G env sc σ V H s)(o:lR env sc a):V a:=by
 rcases o with rfl|⟨x,h1,h2⟩
 ·exact T.vl
 ·exact T.vc x a h1 h2
theorem cX.own{a:Addr}(T:cX G env sc σ V H s)(hv:∀a,H a->V a)(o:j9 env sc H a):V a:=o.elim T.loc (hv a)
theorem j9.held{a:Addr}(o:j9 env sc H a):fm env H a:=by
 rcases o with(rfl|⟨x,h1,h2⟩)|h
 ·exact .loc
 ·exact .cell h2
 ·exact .own h
theorem cX.kp{s':Shared}(T:cX G env sc σ V H s)(k:Kp s s'):cX G env sc σ V H s':=⟨T.ev.kp k,T.vl,T.vc,T.nl,T.nc,T.hl,T.hc,T.kc⟩
theorem cX.sub{aL:SE}(T:cX G env sc σ V H s)(h:∀x q,aL.lookup x=some q->σ.lookup x=some q):cX G env sc aL V H s:=
 ⟨{ T.ev with vars:=λx b p e=>T.ev.vars x b p (h x _ e) },T.vl,T.vc,T.nl,T.nc,T.hl,T.hc,T.kc⟩
theorem cX.grow{N M:Addr->Prop}{s':Shared}(T:cX G env sc σ V H s)(k:Kp s s')(hN:∀a,N a->s.heap.get? a=none/\s'.heap.get? a≠none)(hM:∀a,M a->s.heap.get? a=none/\s'.heap.get? a≠none):cX G env sc σ (λa=>V a\/M a) (λa=>H a\/N a) s':=by
 have base:=T.ev.base.kp k;have pt:=T.ev.low.pt;have held:∀a,fm env (λa=>H a\/N a) a->fm env H a\/N a:=λa h=>by
  rcases h with h|h|h|h
  ·exact .inl (.inl h)
  ·exact .inl (.inr (.inl h))
  ·exact .inl (.inr (.inr h))
  ·exact .inr h
 have grow:∀a,s.heap.get? a≠none->(V a\/M a)->V a:=λa e q=>q.elim id λq=>absurd (hM a q).1 e;refine⟨⟨base,T.ev.kind,T.ev.gl,T.ev.bi,?_,T.ev.glob,T.ev.loc,?_,?_,?_,?_,?_,T.ev.cd⟩,.inl T.vl,λx c h1 h2=>.inl (T.vc x c h1 h2),T.nl,T.nc,?_,?_,T.kc⟩
 ·refine xE T.ev.ns ?_;intro m h;exact⟨m,h.at' λo e=>k.keep _ _ (T.ev.npt .loc) e⟩
 ·exact λx e=>let⟨a,c,hc,v,o,ho,hd⟩:=T.ev.cel x e;⟨a,c,hc,v,o,k.keep _ _ (T.ev.npt (.cell hc)) ho,hd⟩
 ·intro x b p e
  refine bC (T.ev.vars x b p e) ?_;intro v hv hs;refine⟨v,hv.keep (H:=H) λa o h e=>k.keep _ _ (T.ev.npt h) e,?_⟩
  cases b with
  |true=>
   have q:jN G s'.heap (λa=>V a\/M a) H p v:=jN.keep k.hk (λa o h e=>k.keep _ _ (T.ev.npt (.own h)) e) grow hs;show jN G s'.heap _ _ p v
   cases p with
   |lst l=>refine fJ q ?_;clear q;intro a e n r;exact⟨a,e,.inl n,r⟩
   |dct l=>refine fJ q ?_;clear q;intro a e n r;exact⟨a,e,.inl n,r⟩
   |obj c fs=>refine lB q ?_;clear q;intro a C d es ep e n q nd r;exact⟨a,C,d,es,ep,e,.inl n,q,.inl nd,r⟩
   |_=>exact q.elim
  |false=>exact Rep.keep k.hk grow hs
 ·intro a h
  rcases held a h with h|h
  ·exact T.ev.hnb a h
  ·exact T.ev.base.none (hN a h).1
 ·intro a h
  rcases held a h with h|h
  ·intro q;exact T.ev.hex a h (k.none (T.ev.npt h) q)
  ·exact(hN a h).2
 ·refine⟨λa h J=>?_,(T.ev.low.kp k).tab,.inl pt⟩
  rcases h with h|h
  ·exact(T.ev.low.kp k).some h
  ·exact(hM a h).2
 ·rintro(h|h)
  ·exact T.hl h
  ·exact T.ev.hex _ .loc (hN _ h).1
 ·rintro x c e' e (h|h)
  ·exact T.hc x c e' e h
  ·exact T.ev.hex c (.cell e) (hN _ h).1
theorem L8{s s':Shared}{a:Addr}(o:lR env sc a)(sb:cI a s.heap s'.heap)(os:s'.os=s.os)(g:s'.gens=s.gens)(np:a≠PT):cR (lR env sc) s s':=
 ⟨λb ob n J e=>sb.extBut b ob (λq=>n (q▸o)) e,os,λx=>by rw[g];exact x,.keep λo e=>sb.extBut _ o np.symm e⟩
theorem cX.changed{aL:SE}{s':Shared}(T:cX G env sc σ V H s)(k:cR (j9 env sc H) s s')(ns:∃m,s'.heap.Ns env.locals m)(cel:∀x c,env.cells.lookup x=some c->(∃v,s.heap.IsCell c v)->∃v,s'.heap.IsCell c v)
  (hex:∀a,H a->s'.heap.get? a≠none) (vars:∀x b p,aL.lookup x=some (b,p)->∃v,dD env s'.heap x v/\jq G s'.heap V H b p v):cX G env sc aL V H s':=by
 have kb:∀a o,¬j9 env sc H a->a≠PT->s.heap.get? a=some o->s'.heap.get? a=some o:=λa o n p e=>k.heap a o n p e;have ex:∀a,s.heap.get? a≠none->s'.heap.get? a≠none:=λa e=>by
  by_cases p:a=PT
  ·rw[p];exact(k.tab T.ev.low.tab).some
  by_cases q:j9 env sc H a
  ·rcases q with(rfl|⟨x,h1,h2⟩)|h
   ·refine I3 ns ?_;clear ns;intro m o _ _ ho _;rw[ho];simp
   ·obtain⟨_,c,hc,v,o,ho,hd⟩:=T.ev.cel x (.inl h1)
    rw[h2]at hc;cases hc;refine fL (cel x a h2 ⟨v,o,ho,hd⟩) ?_;intro v' o' ho' _;rw[ho'];simp
   ·exact hex a h
  ·cases g:s.heap.get? a with
   |none=>exact absurd g e
   |some o=>rw[kb a o q p g];simp
 refine⟨⟨?_,T.ev.kind,T.ev.gl,T.ev.bi,ns,T.ev.glob,T.ev.loc,?_,vars,T.ev.hnb,λa h=>ex a (T.ev.hex a h),⟨λa h J=>ex a (T.ev.low.some h),k.tab T.ev.low.tab,T.ev.low.pt⟩,T.ev.cd⟩,T.vl,T.vc,T.nl,T.nc,T.hl,T.hc,T.kc⟩
 ·refine⟨λa o p e=>?_,k.tab T.ev.base.tab⟩
  refine kb a o (λq=>?_) p (T.ev.base.old a o p e);rw[T.ev.hnb a q.held]at e;cases e
 ·intro x e
  refine FI (T.ev.cel x e) ?_;intro h1 c hc v hcell;exact⟨h1,c,hc,cel x c hc ⟨v,hcell⟩⟩
theorem sU{x:Str}{b:Bool}{p:PV}{v:Value}(T:cX G env sc σ V H s)(hm:bh sc x=true)(r:jq G s.heap V H b p v):
  wpAny (model ag w) A (storeName env x v) (λJ s'=>(cX G env sc (SE.put σ x (b,p)) V H s'/\cR (lR env sc) s s')/\dD env s'.heap x v/\∀y u,y≠x->dD env s.heap y u->dD env s'.heap y u) EF s:=by
 unfold bh at hm;simp only[bf,fk,beq_iff_eq]at hm;refine xA hm ?_;clear hm;intro hx hm;have finish:∀(a:Addr) (s':Shared),lR env sc a->¬H a->cI a s.heap s'.heap->s'.os=s.os->s'.gens=s.gens->(∃m,s'.heap.Ns env.locals m)->(∀x c,env.cells.lookup x=some c->(∃v,s.heap.IsCell c v)->∃v,s'.heap.IsCell c v) ->
   dD env s'.heap x v->(∀y u,y≠x->dD env s.heap y u->dD env s'.heap y u)->(cX G env sc (SE.put σ x (b,p)) V H s'/\cR (lR env sc) s s')/\dD env s'.heap x v/\∀y u,y≠x->dD env s.heap y u->dD env s'.heap y u:=by
  intro a s' oa nH sb os g ns cel vx vy;have np:=T.ev.npt (j9.held (H:=H) (.inl oa));have k:=L8 oa sb os g np;have hkeep:bI V s.heap s'.heap:=λc o n e=>k.heap c o (λq=>n (T.loc q)) (λq=>n (q▸T.ev.low.pt)) e;have kH:∀c o,H c->s.heap.get? c=some o->s'.heap.get? c=some o:=λc o h e=>sb.extBut c o (λq=>nH (q▸h)) e;have slot:∀{b:Bool}{p:PV}{v:Value},jq G s.heap V H b p v->jq G s'.heap V H b p v:=by
   intro b p v q
   cases b with
   |true=>exact jN.keep hkeep kH (λJ J x=>x) q
   |false=>exact Rep.keep hkeep (λJ J x=>x) q
  refine⟨⟨T.changed (k.mono λJ q=>.inl q) ns cel (λc h=>?_) λy b' p' e=>?_,k⟩,vx,vy⟩
  ·cases e:s.heap.get? c with
   |none=>exact absurd e (T.ev.hex c (.own h))
   |some o=>rw[kH c o h e];simp
  ·rw[en]at e
   by_cases q:y=x
   ·rw[if_pos q]at e;cases e;rw[q];exact⟨v,vx,slot r⟩
   ·rw[if_neg q]at e
    refine bC (T.ev.vars y b' p' e) ?_;intro u hu hs;exact⟨u,vy y u q hu,slot hs⟩
 rcases hm with hl|hc
 ·have hk:=T.ev.loc x hl
  refine xE T.ev.ns ?_;intro m hn;refine wpAny_storeName_local hk hn (λh' hn' sb=>finish env.locals _ (.inl rfl) T.hl sb rfl rfl ⟨_,hn'⟩ (λy c e ⟨u,q⟩=>⟨u,q.sameBut sb (T.nl y c e)⟩) (.inl ⟨hk,_,hn',by simp⟩) λy u ne hy=>?_) (by rw[T.ev.kind];rfl);rcases hy with⟨a,m',hm',e⟩|⟨a,c,hc,hd⟩
  ·refine .inl ⟨a,_,hn',?_⟩
   rw[if_neg ne];rw[<- e];exact congrFun (Dn hn hm') y
  ·exact .inr ⟨a,c,hc,hd.sameBut sb (T.nl y c hc)⟩
 ·have hk:=T.kc x hc
  refine FI (T.ev.cel x (.inl hc)) ?_;intro _ c hcx v0 hcell;refine wpAny_storeName_cell T.ev.kind hk hcx hcell λh' hc' sb=>finish c _ (.inr ⟨x,hc,hcx⟩) (T.hc x c hc hcx) sb rfl rfl ?_ (λy c' e ⟨u,q⟩=>?_) (.inr ⟨.inl hk,c,hcx,hc'⟩) λy u ne hy=>?_
  ·refine xE T.ev.ns ?_;intro m hn;exact⟨m,hn.sameBut sb (Ne.symm (T.nl x c hcx))⟩
  ·by_cases q':c'=c
   ·subst q';exact⟨_,hc'⟩
   ·exact⟨u,q.sameBut sb q'⟩
  ·rcases hy with⟨a,m',hm',e⟩|⟨a,c',hc2,hd⟩
   ·exact .inl ⟨a,m',hm'.sameBut sb (Ne.symm (T.nl x c hcx)),e⟩
   ·exact .inr ⟨a,c',hc2,hd.sameBut sb λq=>ne (T.nc x y c hc hcx (q▸hc2))⟩
theorem yd{x:Str}{b:Bool}{p:PV}{v:Value}(T:cX G env sc σ V H s)(hm:bh sc x=true)(r:jq G s.heap V H b p v):
  wpAny (model ag w) A (storeName env x v) (λJ s'=>cX G env sc (SE.put σ x (b,p)) V H s'/\cR (lR env sc) s s') EF s:=wpAny_mono (sU T hm r) (λJ J g=>g.1) λJ J x=>x
theorem cR.loc{s s':Shared}(k:cR (lR env sc) s s')(T:cX G env sc σ V H s):bI V s.heap s'.heap:=λc o n e=>k.heap c o (λq=>n (T.loc q)) (λq=>n (q▸T.ev.low.pt)) e
theorem sx{x:Str}{pos:Pos}{b:Bool}{p:PV}{v:Value}(T:cX G env sc σ V H s)(hm:bh sc x=true)(r:jq G s.heap V H b p v):
  wpAny (model ag w) A (assign (.Name x pos) env v) (λJ s'=>cX G env sc (SE.put σ x (b,p)) V H s'/\cR (lR env sc) s s') EF s:=
 wpAny_assign_Name (yd T hm r)
theorem oh:∀{ts:List Expr}{xs:List Str},cj ts=some xs->(assignEach ts env).findIdx? (·.1)=none/\(assignEach ts env).length=xs.length:=λ{ts}=>by
 induction ts with
 |nil=>intro xs h;rw[bD h];exact⟨rfl,rfl⟩
 |cons t ts ih=>
  intro xs h;refine bY h λx ys hx hys h3=>?_;refine xE (cz hx) ?_;rintro q rfl;refine xA (ih hys) ?_;intro h1 h2;rw[bD h3];show(((false,assign (.Name x q) env)::assignEach ts env).findIdx? (·.1)=none/\_=_);rw[List.findIdx?_cons,if_neg (by simp),h1];exact⟨rfl,congrArg gk h2⟩
theorem q9:∀{xs:List Str}{ps:List PV}{σ aL:SE},dq sc xs ps σ=some aL->xs.length=ps.length:=λ{xs}=>by
 induction xs with
 |nil=>intro ps σ aL h;exact io h λhp J=>by rw[dz hp];rfl
 |cons x xs ih=>
  intro ps σ aL h
  cases ps with
  |nil=>exact nn h
  |cons p ps=>exact fz h λJ h=>congrArg gk (ih h)
theorem y9:∀{ts:List Expr}{xs:List Str}{ps:List PV}{vs:List Value}{σ aL:SE}{s:Shared},cj ts=some xs->dq sc xs ps σ=some aL->cX G env sc σ V H s->G.RepL s.heap V ps vs ->
  wpAny (model ag w) A (assignInOrder ((assignEach ts env).map (·.2)) vs) (λJ s'=>cX G env sc aL V H s'/\cR (lR env sc) s s') EF s:=λ{ts}=>by
 induction ts with
 |nil=>
  intro xs ps vs σ aL s hn hb T r;rw[bD hn]at hb;refine io hb λhp hb=>?_;rw[dz hp]at r
  cases vs with
  |cons v vs=>exact False.elim r
  |nil=>rw[bD hb];exact wpAny_assignInOrder_none ⟨T,cR.refl _ _⟩
 |cons t ts ih=>
  intro xs ps vs σ aL s hn hb T r;refine bY hn λx ys hx hys h3=>?_;refine xE (cz hx) ?_;rintro q rfl;rw[bD h3]at hb
  cases ps with
  |nil=>exact nn hb
  |cons p ps=>
   refine fz hb λhm hb=>?_
   cases vs with
   |nil=>exact False.elim r
   |cons v vs=>
    refine wpAny_assignInOrder_more (cG (sx T hm (b:=false) r.1) λJ aH g=>?_);exact cG (ih hys hb g.1 (RepL.keep (g.2.loc T) (λJ J x=>x) r.2)) λJ J g'=>⟨g'.1,g.2.trans g'.2⟩
theorem yR{t:Expr}{p:PV}{aL:SE}{C:Prop}(hb:bindT sc t p σ=some aL)(k1:∀x q,t=.Name x q->bh sc x=true->aL=SE.put σ x (false,p)->C)
  (k2:∀ts k q xs vs,t=.Tuple ts k q->cj ts=some xs->p=.tup vs->dq sc xs vs σ=some aL->C):C:=by
 unfold bindT at hb
 cases hx:dc t with
 |some x=>
  rw[hx]at hb;refine xE (cz hx) ?_;intro q e;exact fz hb λhm hb=>k1 x q e hm (bD hb)
 |none=>
  rw[hx]at hb;refine bY hb λxs vs h1 h2 hb=>b9 h1 λts h3 h4=>fz hb λJ hb=>?_;refine yo (kN h3) ?_;intro k q e;exact k2 ts k q xs vs e h4 (kq h2) hb
theorem xF{t:Expr}{p:PV}{v:Value}{aL:SE}(hh:A.handled=none)(T:cX G env sc σ V H s)(hb:bindT sc t p σ=some aL)(r:G.Rep s.heap V p v):
  wpAny (model ag w) A (assign t env v) (λJ s'=>cX G env sc aL V H s'/\cR (lR env sc) s s') EF s:=by
 refine yR hb (λx q e hm h=>?_) λts k q xs vs e hxs hp hb=>?_
 ·rw[e,h];exact sx T hm r
 ·rw[e]
  refine bx (ez.mp (hp▸r)) ?_;rintro a rfl nV us ht ru;have ec:=oh (env:=env) hxs;refine wpAny_assign_Tuple hh ht (by rw[ec.2,q9 hb,RepL.length ru];rfl) ec.1 λh' eb=>?_;have k:Kp s { s with heap:=h' }:=Kp.of (tk:=s.toks) λb o e=>eb b o (be (aN e)) e
  exact cG (y9 hxs hb (T.kp k) (vs:=us) (qQ k ru)) λJ J g=>⟨g.1,(k.toU _).trans g.2⟩
end
end Mine
end
section
namespace Mine
section
variable{A:Around}{s:Shared}{V H:Addr->Prop}{env:Env}{sc:Sc}{σ:SE}
theorem da:∀(names:List (Str×NameKind)) (n:Nat) (acc:List (Str×Addr)),cellsFrom n names acc=cellsFrom n names []++acc
 | [],_,_=>rfl
 |(x,k)::r,n,acc=>by
  unfold cellsFrom;split
  ·rw[da r (n+1) ((x,n)::acc),da r (n+1) [(x,n)],bk];rfl
  ·exact da r n acc
set_option tactic.hygienic true in
theorem iB:∀{names:List (Str×NameKind)}{n:Nat}{x:Str}{c:Addr},(x,c)∈cellsFrom n names []->(x,NameKind.cell)∈names
 |(y,k)::r,n,x,c,h=>by
  unfold cellsFrom at h;split at h
  ·rename_i hk
   rw[da]at h;rcases aP.mp h with h|h
   ·exact .tail _ (iB h)
   ·rw[aA]at h;cases h
    rw[show k=.cell by simpa using hk];exact .head _
  ·exact .tail _ (iB h)
theorem lf{α:Type}{x:Str}:∀{l m:List (Str×α)},(l++m).lookup x=match l.lookup x with|some a=>some a|none=>m.lookup x
 | [],m=>rfl
 |(y,a)::l,m=>by
  rw[gD,aO,aO]
  cases x == y with
  |true=>rfl
  |false=>exact lf
theorem lj{α:Type}{x:Str}{a:α}:∀{l:List (Str×α)},(x,a)∈l->∃b,l.lookup x=some b
 |(y,b)::l,h=>by
  rw[aO]
  cases e:x == y with
  |true=>exact⟨_,rfl⟩
  |false=>
   rcases ai.mp h with h|h
   ·cases h;rw[beq_self_eq_true]at e;cases e
   ·exact lj h
theorem fF:∀{names:List (Str×NameKind)}{n:Nat}{x:Str},(x,NameKind.cell)∈names->∃c,(x,c)∈cellsFrom n names []
 |(y,k)::r,n,x,h=>by
  unfold cellsFrom;rcases ai.mp h with h|h
  ·cases h
   rw[if_pos (by rfl),da];exact⟨n,aP.mpr (.inr (.head _))⟩
  ·split
   ·rw[da]
    refine xE (fF (n:=n+1) h) ?_;intro c hc;exact⟨c,aP.mpr (.inl hc)⟩
   ·exact fF h
theorem gW{α:Type}{x:Str}{a:α}:∀{l:List (Str×α)},(l.map (·.1)).Nodup->(x,a)∈l->l.lookup x=some a
 |(y,b)::l,hn,h=>by
  rw[ao,bH]at hn;rw[aO];rcases ai.mp h with h1|h1
  ·cases h1;rw[beq_self_eq_true]
  ·have:x≠y:=by
    rintro rfl;exact hn.1 (aG.mpr ⟨(x,a),h1,rfl⟩)
   rw[beq_eq_false_iff_ne.mpr this];exact gW hn.2 h1
theorem og{env:Env}:∀(names:List (Str×NameKind)) (acc:List (Str×Addr)),(∀x,(x,NameKind.free)∈names->∃c,env.cells.lookup x=some c) ->
  ∃cl,(forIn names acc λx r=>(match x with|(name,kind)=>if(kind == NameKind.free)=true then(do let c <- cellOf env name;pure (ForInStep.yield ((name,c)::r))) else pure (ForInStep.yield r):Sem (ForInStep (List (Str×Addr)))))=pure cl /\
   (∀x,(x,NameKind.free)∈names->cl.lookup x=env.cells.lookup x)/\(∀x,(x,NameKind.free) ∉ names->cl.lookup x=acc.lookup x)
 | [],acc,_=>⟨acc,rfl,λJ h=>(nomatch h),λJ J=>rfl⟩
 |(n,k)::r,acc,h=>by
  rw[dI];by_cases hk:k=.free
  ·subst hk
   refine xE (h n (.head _)) ?_;intro c hc;refine fJ (og r ((n,c)::acc) λx hx=>h x (.tail _ hx)) ?_;intro cl e h1 h2;refine⟨cl,?_,λx hx=>?_,λx hx=>?_⟩
   ·rw[<- e]
    have:cellOf env n=pure c:=by unfold cellOf;rw[hc]
    simp only[this];rfl
   ·by_cases hr:(x,NameKind.free)∈r
    ·exact h1 x hr
    ·rcases ai.mp hx with q|q
     ·cases q;rw[h2 _ hr,aO,beq_self_eq_true,hc]
     ·exact absurd q hr
   ·rw[h2 x λq=>hx (.tail _ q),aO]
    have:x≠n:=by rintro rfl;exact hx (.head _)
    rw[beq_eq_false_iff_ne.mpr this]
  ·refine fJ (og r acc λx hx=>h x (.tail _ hx)) ?_;intro cl e h1 h2
   refine⟨cl,?_,λx hx=>?_,λx hx=>h2 x λq=>hx (.tail _ q)⟩
   ·rw[<- e]
    have:(k == NameKind.free)=false:=by simpa using hk
    simp only[this];rfl
   ·rcases ai.mp hx with q|q
    ·cases q;exact absurd rfl hk
    ·exact h1 x q
theorem td{scope:Scope}(h:∀x,(x,NameKind.free)∈scope.names->∃c,env.cells.lookup x=some c):
  ∃cl,closureFor scope env=pure cl/\(∀x,(x,NameKind.free)∈scope.names->cl.lookup x=env.cells.lookup x)/\(∀x,(x,NameKind.free) ∉ scope.names->cl.lookup x=none):=by
 refine fJ (og (env:=env) scope.names [] h) ?_;intro cl e h1 h2;refine⟨cl,?_,h1,λx hx=>h2 x hx⟩;unfold closureFor;simp only[];rw[<- e];simp only[bind_pure]
theorem Hh{M:Model}{E:Value->Shared->Prop}{scope:Scope}{globals:Addr}{cl:List (Str×Addr)}{qual:Str}{outer:Env}{Q:Env->Shared->Prop}
  (h:Q { scope,locals:=s.heap.objs.size,globals,cells:=cellsFrom (s.heap.objs.size+1) scope.names cl,qual,func:=none,code:=outer.code,frame:=outer.frame,builtins:=outer.builtins }
   { s with heap:=pushCells (s.heap.push { cls:=.type "dict",data:=.dict #[] }) scope.names }) :
  wpAny M A (newFunctionEnv scope globals cl [] qual none .none (some outer)) Q E s:=by
 simp only[newFunctionEnv,Option.isSome_some,if_true];refine wpAny_bind (wpAny_alloc ?_);refine wpAny_bind (wpAny_layCells _ (λname kind cells=>by cases kind == NameKind.cell<;>simp) _ _ _ _ ?_);rw[show({ s with heap:=s.heap.push { cls:=.type "dict",data:=.dict #[] } }:Shared).heap.objs.size=s.heap.objs.size+1 from bL ..];exact wpAny_bind (wpAny_pure (wpAny_pure h))
theorem q8{scope:Scope}{env:Env}{x:Str}:(relabel scope env).names.lookup x=(scope.names.lookup x).map λk=>if(k == .free && env.scope.kind == .function && env.kindOf x == some .cell) then .cell else k:=by
 show(scope.names.map λ(n,k)=>if(k == .free && env.scope.kind == .function && env.kindOf n == some .cell) then(n,.cell) else(n,k)).lookup x=_;generalize scope.names=names
 induction names with
 |nil=>rfl
 |cons p r ih=>
  obtain⟨n,k⟩:=p;have e1:(if(k == NameKind.free && env.scope.kind == .function && env.kindOf n == some .cell)=true then(n,NameKind.cell) else(n,k))=(n,if(k == NameKind.free && env.scope.kind == .function && env.kindOf n == some .cell)=true then NameKind.cell else k):=by split<;>rfl
  show List.lookup x ((if(k == NameKind.free && env.scope.kind == .function && env.kindOf n == some .cell)=true then(n,NameKind.cell) else(n,k))::r.map _)=_;rw[e1,aO,aO];by_cases hx:x=n
  ·subst hx;simp only[beq_self_eq_true];rfl
  ·rw[beq_eq_false_iff_ne.mpr hx];exact ih
theorem lF{scope:Scope}{x:Str}{q:Bool×PV}:∀{σ:SE},(jF scope σ).lookup x=some q->scope.names.lookup x=some .free/\∃q',σ.lookup x=some q'/\q'=q
 | [],h=>by cases h
 |(y,u)::r,h=>by
  unfold jF at h;rw[dl]at h;by_cases hy:(scope.names.lookup y == some .free)=true
  ·rw[if_pos hy,aO]at h
   by_cases e:x=y
   ·subst e
    rw[beq_self_eq_true]at h
    cases h
    refine⟨beq_iff_eq.mp hy,_,?_,rfl⟩;rw[aO,beq_self_eq_true]
   ·rw[beq_eq_false_iff_ne.mpr e]at h
    rw[aO,beq_eq_false_iff_ne.mpr e];exact lF (scope:=scope) h
  ·rw[if_neg hy]at h
   refine CR (lF (scope:=scope) h) ?_;intro h1 q' h2 h3;refine⟨h1,q',?_,h3⟩;have e:x≠y:=by rintro rfl;exact hy (by rw[h1];rfl)
   rw[aO,beq_eq_false_iff_ne.mpr e];exact h2
noncomputable def eM(scope:Scope)(env:Env)(L:Addr)(cl:List (Str×Addr)):Env:=
 { scope:=relabel scope env,locals:=L,globals:=env.globals,cells:=cellsFrom (L+1) scope.names cl,qual:=env.qual,func:=none,code:=env.code,frame:=env.frame,builtins:=env.builtins }
theorem x9{scope:Scope}(h:fO sc scope=true):ds scope.names=false:=mI _ |>.mp (gw (gw (gw h).1).1).1
theorem nj{scope:Scope}(h:fO sc scope=true):scope.kind=.function/\(scope.names.map (·.1)).Nodup /\
  (∀x k,(x,k)∈scope.names->k=.local\/k=.cell\/k=.globalImplicit\/(k=.free/\(sc.lookup x=some .cell\/sc.lookup x=some .free))):=by
 unfold fO at h;simp only[bf,decide_eq_true_eq,bj,beq_iff_eq]at h;refine⟨h.1.1.2,h.1.2,λx k hx=>?_⟩
 have:=h.2 (x,k) hx
 simp only[fk,bf,beq_iff_eq]at this;rcases this with((q|q)|q)|q
 ·exact .inl q
 ·exact .inr (.inl q)
 ·exact .inr (.inr (.inl q))
 ·exact .inr (.inr (.inr q))
theorem Bx{names:List (Str×NameKind)}{h:Heap}(cl:List (Str×Addr))(hn:(names.map (·.1)).Nodup):
  (∀x,names.lookup x=some .cell->∃c,(cellsFrom h.objs.size names cl).lookup x=some c/\h.objs.size<=c/\(pushCells h names).IsCell c none) /\
  (∀x,names.lookup x≠some .cell->(cellsFrom h.objs.size names cl).lookup x=cl.lookup x) /\
  (∀x y c,names.lookup x=some .cell->names.lookup y=some .cell->(cellsFrom h.objs.size names cl).lookup x=some c->(cellsFrom h.objs.size names cl).lookup y=some c->x=y):=by
 have ok:=cellsFrom_ok names h h.objs.size [] ⟨λJ J hm=>(nomatch hm),List.Pairwise.nil⟩ (aK _);have own:∀x,names.lookup x=some .cell->∃c,(cellsFrom h.objs.size names []).lookup x=some c/\(x,c)∈cellsFrom h.objs.size names []:=λx hx=>by
  refine xE (fF (n:=h.objs.size) (mem_of_lookup hx)) ?_;intro c hc;refine xE (lj hc) ?_;intro b hb;exact⟨b,hb,mem_of_lookup hb⟩
 have fst:∀x,names.lookup x=some .cell->∀c,(cellsFrom h.objs.size names cl).lookup x=some c->(x,c)∈cellsFrom h.objs.size names []:=λx hx c e=>by
  refine bC (own x hx) ?_;intro b hb hm;rw[da,lf,hb]at e
  cases e;exact hm
 refine⟨λx hx=>?_,λx hx=>?_,λx y c hx hy e1 e2=>name_of_addr ok.apart (fst x hx c e1) (fst y hy c e2)⟩
 ·refine bC (own x hx) ?_;intro c hc hm
  refine⟨c,?_,(ok.empty x c hm).2,(ok.empty x c hm).1⟩;rw[da,lf,hc]
 ·rw[da,lf]
  cases e:(cellsFrom h.objs.size names []).lookup x with
  |none=>rfl
  |some c=>exact absurd (gW hn (iB (mem_of_lookup e))) hx
theorem y5{scope:Scope}{cl:List (Str×Addr)}{V':Addr->Prop}(O:bX G env sc σ V H s)(hs:fO sc scope=true)
  (hcl:∀x,(x,NameKind.free)∈scope.names->cl.lookup x=env.cells.lookup x) (hcl':∀x,(x,NameKind.free) ∉ scope.names->cl.lookup x=none)
  (gr:∀a,s.heap.get? a≠none->V' a->V a) (up:∀a,s.heap.objs.size<=a->(pushCells (s.heap.push { cls:=.type "dict",data:=.dict #[] }) scope.names).get? a≠none->V' a)
  (lo:eu V' (pushCells (s.heap.push { cls:=.type "dict",data:=.dict #[] }) scope.names)) :
  cX G (eM scope env s.heap.objs.size cl) scope.names (jF scope σ) V' H { s with heap:=pushCells (s.heap.push { cls:=.type "dict",data:=.dict #[] }) scope.names } /\
  (∀a,lR (eM scope env s.heap.objs.size cl) scope.names a->s.heap.objs.size<=a) /\
  (∀a,fm (eM scope env s.heap.objs.size cl) H a->s.heap.objs.size<=a\/fm env H a):=by
 refine iQ (nj hs) ?_;intro hk hn hall;generalize hP:s.heap.push { cls:=.type "dict",data:=.dict #[] }=P at up lo ⊢;have hsz:P.objs.size=s.heap.objs.size+1:=by rw[<- hP,bL]
 have keepP:∀b o,s.heap.get? b=some o->P.get? b=some o:=λb o e=>by rw[<- hP];exact af _ e
 have keep:∀b o,s.heap.get? b=some o->(pushCells P scope.names).get? b=some o:=λb o e=>pushCells_keeps _ _ b o (keepP b o e);have k:Kp s { s with heap:=pushCells P scope.names }:=Kp.of (tk:=s.toks) keep
 refine iQ (Bx (names:=scope.names) (h:=P) cl hn) ?_;intro own1 own2 own3;rw[hsz]at own1 own2 own3;have kindOf:∀x,(eM scope env s.heap.objs.size cl).kindOf x=(scope.names.lookup x).map λk=>if(k == .free && env.scope.kind == .function && env.kindOf x == some .cell) then .cell else k:=λx=>q8
 have cells:∀x,(eM scope env s.heap.objs.size cl).cells.lookup x=(cellsFrom (s.heap.objs.size+1) scope.names cl).lookup x:=λJ=>rfl;have freeCell:∀x,scope.names.lookup x=some .free->∃c,env.cells.lookup x=some c/\(eM scope env s.heap.objs.size cl).cells.lookup x=some c/\(env.kindOf x=some .cell\/env.kindOf x=some .free)/\∃v,s.heap.IsCell c v:=λx hx=>by
  have hm:=mem_of_lookup hx;have hq:sc.lookup x=some .cell\/sc.lookup x=some .free:=by
   rcases hall x _ hm with q|q|q|q
   ·cases q
   ·cases q
   ·cases q
   ·exact q.2
  refine FI (O.cel x hq) ?_;intro hk c hc v hv;refine⟨c,hc,?_,hk,v,hv⟩;rw[cells,own2 x (by rw[hx];simp),hcl x hm,hc]
 have cellsAt:∀x c,(eM scope env s.heap.objs.size cl).cells.lookup x=some c->(scope.names.lookup x=some .cell/\s.heap.objs.size+1<=c/\(pushCells P scope.names).IsCell c none)\/(scope.names.lookup x=some .free/\env.cells.lookup x=some c/\∃v,s.heap.IsCell c v):=λx c e=>by
  by_cases hx:scope.names.lookup x=some .cell
  ·refine fJ (own1 x hx) ?_;intro c' h1 h2 h3
   rw[cells,h1]at e;cases e;exact .inl ⟨hx,h2,h3⟩
  ·by_cases hf:scope.names.lookup x=some .free
   ·refine H7 (freeCell x hf) ?_;intro c' h1 h2 _ h3
    rw[h2]at e;cases e;exact .inr ⟨hf,h1,h3⟩
   ·rw[cells,own2 x hx,hcl' x (λq=>hf (gW hn q))]at e;cases e
 have kcell:∀x,scope.names.lookup x=some .cell->(eM scope env s.heap.objs.size cl).kindOf x=some .cell:=λx hx=>by
  rw[kindOf,hx];rfl
 have kfree:∀x,scope.names.lookup x=some .free->(eM scope env s.heap.objs.size cl).kindOf x=some .cell\/(eM scope env s.heap.objs.size cl).kindOf x=some .free:=λx hx=>by
  rw[kindOf,hx];show some (if _ then NameKind.cell else NameKind.free)=_\/some (if _ then NameKind.cell else NameKind.free)=_;split
  ·exact .inl rfl
  ·exact .inr rfl
 have hL:(pushCells P scope.names).Ns s.heap.objs.size (λJ=>none):=by
  have:P.Ns s.heap.objs.size (λJ=>none):=by rw[<- hP];exact Heap.Ns.new s.heap (.type "dict")
  exact this.keeps (pushCells_keeps _ _)
 have lt_of:∀c v,s.heap.IsCell c v->c < s.heap.objs.size:=λc v h=>h.lt;have exs:∀a,s.heap.objs.size<=a->s.heap.get? a=none:=λa h=>by
  cases e:s.heap.get? a with
  |none=>rfl
  |some o=>exact absurd (aN e) (bT.mpr h)
 have heldc:∀a,fm (eM scope env s.heap.objs.size cl) H a->(s.heap.objs.size<=a/\(pushCells P scope.names).get? a≠none)\/fm env H a:=λa h=>by
  rcases h with rfl|⟨x,h⟩|h
  ·refine l9 hL ?_;clear hL;intro o _ _ ho _
   exact .inl ⟨aK _,by show(pushCells P scope.names).get? s.heap.objs.size≠none;rw[ho];simp⟩
  ·rcases cellsAt x a h with⟨_,h1,o,ho,_⟩|⟨_,h1,_⟩
   ·exact .inl ⟨aD (dU _) h1,by rw[ho];simp⟩
   ·exact .inr (.cell h1)
  ·exact .inr (.own h)
 refine⟨⟨⟨O.base.kp k,hk,O.gl,O.bi,⟨_,hL⟩,?_,?_,?_,?_,?_,?_,lo,λq=>nomatch (x9 hs).symm.trans q⟩,?_,?_,?_,?_,?_,?_,kcell⟩,?_,λa h=>(heldc a h).imp (λh=>h.1) id⟩
 ·intro x hx;rw[kindOf,hx];rfl
 ·intro x hx;rw[kindOf,hx];rfl
 ·rintro x (hx|hx)
  ·refine fJ (own1 x hx) ?_;intro c h1 h2 h3
   exact⟨.inl (kcell x hx),c,h1,_,h3⟩
  ·refine Dc (freeCell x hx) ?_;intro c h1 h2 _ v h3
   exact⟨kfree x hx,c,h2,v,h3.keeps keep⟩
 ·intro x b p e
  refine CR (lF e) ?_;rintro hf q h1 rfl;refine bC (O.vars x b p h1) ?_;intro v hv hs;refine Dc (freeCell x hf) ?_;intro c h1 h2 hk' v' h3;refine⟨v,.inr ⟨kfree x hf,c,h2,?_⟩,?_⟩
  ·rcases hv with⟨a,_⟩|⟨_,c',hc',hd⟩
   ·rcases hk' with q|q<;>(rw[q]at a;cases a)
   ·rw[h1]at hc';cases hc'
    exact hd.keeps keep
  ·cases b with
   |true=>exact jN.keep (λb o J e=>keep b o e) (λb o J e=>keep b o e) gr hs
   |false=>exact Rep.keep (λb o J e=>keep b o e) gr hs
 ·intro a h
  rcases heldc a h with h|h
  ·exact O.base.none (exs a h.1)
  ·exact O.hnb a h
 ·intro a h
  rcases heldc a h with h|h
  ·exact h.2
  ·cases e:s.heap.get? a with
   |none=>exact absurd e (O.hex a h)
   |some o=>show(pushCells P scope.names).get? a≠none;rw[keep a o e];simp
 ·refine up _ (aK _) ?_
  refine l9 hL ?_;clear hL;intro o _ _ ho _;show(pushCells P scope.names).get? s.heap.objs.size≠none;rw[ho];simp
 ·intro x c hx e
  rcases cellsAt x c e with⟨_,h1,o,ho,_⟩|⟨h1,_⟩
  ·exact up _ (aD (dU _) h1) (by rw[ho];simp)
  ·rw[hx]at h1;cases h1
 ·intro x c e
  rcases cellsAt x c e with⟨_,h1,_⟩|⟨_,_,v,h1⟩
  ·exact gB h1
  ·exact be (lt_of _ _ h1)
 ·intro x y c hx e1 e2
  rcases cellsAt y c e2 with⟨hy,_⟩|⟨_,_,v,h1⟩
  ·exact own3 y x c hy hx e2 e1
  ·rcases cellsAt x c e1 with⟨_,h2,_⟩|⟨h2,_⟩
   ·exact absurd (lt_of _ _ h1) (bT.mpr (aD (dU _) h2))
   ·rw[hx]at h2;cases h2
 ·intro h
  exact O.hex _ (.own h) (exs _ (aK _))
 ·intro x c hx e h
  rcases cellsAt x c e with⟨_,h2,_⟩|⟨h2,_⟩
  ·exact O.hex _ (.own h) (exs _ (aD (dU _) h2))
  ·rw[hx]at h2;cases h2
 ·rintro a (rfl|⟨x,hx,e⟩)
  ·exact aK _
  ·rcases cellsAt x a e with⟨_,h2,_⟩|⟨h2,_⟩
   ·exact aD (dU _) h2
   ·rw[hx]at h2;cases h2
end
end Mine
end
section
namespace Mine
noncomputable def uh(e:Expr)(gens:List Comprehension)(emit:Sem Unit)(depth:Nat)(it acc:Value)(env:Env):Sem Fin:=do
 let some g:=gens[depth]? |unsupported "internal:comprehension-depth"
 standAt (if g.is_async != 0 then e.pos else g.iter.pos)
 match <- if g.is_async != 0 then asyncNext it else pyNext it with
 |none=>pure (.done .next)
 |some v=>
  letOwnedTupleGo g.target it v
  assign g.target env v
  let mut ok:=true
  for c in g.ifs do
   if ok then ok <- isTrue c env (eval c env)
  if ok then
   match gens[depth+1]? with
   |some g'=>
    let x <- eval g'.iter env
    standAt g'.iter.pos
    let x <- if g'.is_async != 0 then foldedIterable g'.iter x else foldedSetIterable g'.iter env x
    let _ <- runOwn (.compStart e (depth+1) (<- holding [x] (if g'.is_async != 0 then asyncIter x else pyIter x)) acc env) env
   |none=>emit
  again (.compLoop e depth it acc env)
structure zZ(ag:Program)(w:World)(A:Around)(e:Expr)(gens:List Comprehension)(emit:Sem Unit)(acc:Value)(env:Env):Prop where
 cl:clausesOf e=gens
 under1:∀d it,A.under (.compLoop e d it acc env)=A
 under2:∀d it,A.under (.compStart e d it acc env)=A
 den1:∀d it,(model ag w).den (.compLoop e d it acc env)=(uh e gens emit d it acc env).onRaise (λx=>do noteFrame x env;theTreesLotGoes x)
 den2:∀d it,(model ag w).den (.compStart e d it acc env)=(compStart e d it acc env).onRaise (λx=>do noteFrame x env;standAt theWindowsPlace)
 quiet:∀d it,(Code.compLoop e d it acc env).quiet=true
 mark:A.mark none=A
section
variable{A:Around}
theorem zQ{elt:Expr}{gens:List Comprehension}{scope:Scope}{pos:Pos}{acc:Value}{env:Env}:
  zZ ag w A (.ListComp elt gens scope pos) gens (do let _ <- call (.builtin "list.append") [acc,<- eval elt env]) acc env:=
 ⟨rfl,λJ J=>rfl,λJ J=>rfl,λJ J=>rfl,λJ J=>rfl,λJ J=>rfl,rfl⟩
theorem yO{k v:Expr}{gens:List Comprehension}{scope:Scope}{pos:Pos}{D:Addr}{env:Env}:
  zZ ag w A (.DictComp k v gens scope pos) gens (do
    let kv <- eval k env
    let vv <- holding [kv] (eval v env)
    standAt { k.pos with endLine:=v.pos.endLine,endCol:=v.pos.endCol }
    holding [kv,vv] (dictSet D kv vv)) (.ref D) env:=
 ⟨rfl,λJ J=>rfl,λJ J=>rfl,λJ J=>rfl,λJ J=>rfl,λJ J=>rfl,rfl⟩
end
section
variable{A:Around}{s:Shared}{V H:Addr->Prop}{env:Env}{sc:Sc}{σ:SE}
variable{o:cS}{r n:Nat}
theorem cX.upd{W V':Addr->Prop}{s':Shared}(T:cX G env sc σ V H s)(k:cR W s s')(hW:∀b,W b->V b/\¬fm env H b/\G.base.get? b=none)
  (m:∀a,s.heap.get? a≠none->V' a->V a) (ex:eu V' s'.heap) (vl:V' env.locals) (vc:∀x c,sc.lookup x=some .cell->env.cells.lookup x=some c->V' c):cX G env sc σ V' H s':=
 ⟨T.ev.change (k.hkU (λb m=>(hW b m).1) T.ev.low.pt) (λb o h e=>k.heap b o (λq=>(hW b q).2.1 h) (T.ev.npt h) e)
  ⟨λa o p e=>k.heap a o (λq=>by rw[(hW a q).2.2]at e;cases e) p (T.ev.base.old a o p e),k.tab T.ev.base.tab⟩ m ex,vl,vc,T.nl,T.nc,T.hl,T.hc,T.kc⟩
theorem qf{env:Env}:∀(ifs:List Expr) (s:Shared),wpAny (model ag w) A (forIn ifs false λc r=>if r=true then do let ok <- isTrue c env (eval c env);pure (ForInStep.yield ok) else pure (ForInStep.yield r)) (λok s'=>ok=false/\s'=s) EF s
 | [],s=>by rw[gn];exact wpAny_pure ⟨rfl,rfl⟩
 |c::r,s=>by
  rw[dI];exact wpAny_bind (wpAny_pure (qf r s))
theorem wm:∀(n:Nat) {ifs:List Expr}{b:Bool}{s:Shared},(∀m,m < n->iY G o r m)->br A (n+r)->evAnd o n sc σ ifs=some b->bX G env sc σ V H s ->
  wpAny (model ag w) A (forIn ifs true λc r=>if r=true then do let ok <- isTrue c env (eval c env);pure (ForInStep.yield ok) else pure (ForInStep.yield r)) (λok s'=>ok=b/\Kp s s') EF s:=λn=>by
 induction n with
 |zero=>intro _ _ _ _ _ h;exact nn h
 |succ n ih=>
  intro ifs b s S hr h O
  cases ifs with
  |nil=>
   rw[bD (show some true=some b from h),gn];exact wpAny_pure ⟨rfl,cR.refl _ _⟩
  |cons c rs=>
   refine b9 (x:=evT o n sc σ c) (f:=λb=>if b=true then evAnd o n sc σ rs else some false) h λt ht h=>?_;rw[dI,if_pos rfl];refine wpAny_bind (wpAny_bind (cG ((S n (gC _)).evT (hr.le (pn [_,_] 0x0DA1A180A10)) ht O) λc' aH q=>wpAny_pure ?_));refine xA q ?_;clear q;rintro rfl q
   cases c' with
   |true=>exact cG (ih (λm hm=>S m (bM hm)) (hr.le (pn [_,_] 0x0DA1A180A10)) h (O.kp q)) λJ J g=>⟨g.1,q.trans g.2⟩
   |false=>
    rw[bD (show some false=some b from h)];exact cG (qf rs aH) λJ J g=>⟨g.1,by rw[g.2];exact q⟩
theorem wW{xs:List Str}:∀{ys:List Str}{ps:List PV}{σ aL:SE},dq sc ys ps σ=some aL->(∀y∈ys,y∈xs)->∀x,x ∉ xs->aL.lookup x=σ.lookup x:=λ{ys}=>by
 induction ys with
 |nil=>intro ps σ aL h _ x _;exact io h λJ h=>by rw[bD h]
 |cons y ys ih=>
  intro ps σ aL h m x hx
  cases ps with
  |nil=>exact nn h
  |cons p ps=>
   refine fz h λJ h=>?_;rw[ih h (λz hz=>m z (.tail _ hz)) x hx,en,if_neg];rintro rfl;exact hx (m _ (.head _))
theorem Bk{t:Expr}{p:PV}{σ aL:SE}(hf:gR t σ=true)(hb:bindT sc t p σ=some aL):∀x q,σ.lookup x=some q->aL.lookup x=some q:=by
 intro x q e;unfold gR at hf;refine yR hb (λy q' et hm h=>?_) λts k q' xs vs et hxs hp hb2=>?_
 ·subst et
  have hf:(σ.lookup y).isNone=true:=hf;rw[h,en,if_neg,e];rintro rfl;rw[e]at hf;cases hf
 ·subst et
  have hf:(match cj ts with|some xs=>xs.all λx=>(σ.lookup x).isNone|none=>false)=true:=hf;rw[hxs]at hf;rw[wW hb2 (λJ h=>h),e];intro hx
  have:=bj.mp hf x hx
  rw[e]at this;cases this
structure qZ(G:GX ag w)(D:Addr)(Acc:(Addr->Prop)->List (PV×PV)->Heap->Prop)(Gd:List (PV×PV)->Prop):Prop where
 keep:∀V V' rows h h',Acc V rows h->h.get? D≠none->(∀o,h.get? D=some o->h'.get? D=some o)->bI V h h'->(∀a,h.get? a≠none->V' a->V a)->Acc V' rows h'
 ex:∀V rows h,Acc V rows h->h.get? D≠none
 pre:∀a b,Gd (a++b)->Gd a
noncomputable def Ex(o:cS)(n:Nat)(sc:Sc)(σ:SE)(kv:PV):Option Expr->Prop
 |none=>kv=.none
 |some k=>ev o n sc σ k=some kv
noncomputable def sa(G:GX ag w)(o:cS)(r:Nat)(A:Around)(env:Env)(sc:Sc)(H:Addr->Prop)(D:Addr)(Acc:(Addr->Prop)->List (PV×PV)->Heap->Prop)(Gd:List (PV×PV)->Prop)(elt:Expr)(key:Option Expr)(emit:Sem Unit)(n:Nat):Prop:=
 ∀(s:Shared) (V:Addr->Prop) (σ:SE) (rows:List (PV×PV)) (kv v:PV),bX G env sc σ V H s->V D->Acc V rows s.heap->Gd (rows++[(kv,v)])->ev o n sc σ elt=some v->Ex o n sc σ kv key->br A (n+r) ->
  wpAny (model ag w) A emit (λJ s'=>Acc V (rows++[(kv,v)]) s'.heap/\cR (·=D) s s') EF s
theorem u8{X U:Addr->Prop}{s s':Shared}(lo:eu X s.heap)(k:cR U s s')(ex:∀a,U a->s'.heap.get? a≠none):eu X s'.heap:=by
 refine⟨λa va p q=>?_,k.tab lo.tab,lo.pt⟩;by_cases m:U a
 ·exact ex a m q
 ·cases e:s.heap.get? a with
  |none=>exact lo.some va e
  |some o=>rw[k.heap a o m p e]at q;cases q
theorem eJ{h:Heap}(i:G.In h){a:Addr}(n:h.get? a=none):G.base.get? a=none:=i.none n
structure vQ(G:GX ag w)(o:cS)(r:Nat)(A:Around)(env:Env)(sc:Sc)(H:Addr->Prop)(D:Addr)(e:Expr)(gens:List Comprehension)(emit:Sem Unit)(acc:Value)(elt:Expr)(key:Option Expr)(Acc:(Addr->Prop)->List (PV×PV)->Heap->Prop)(Gd:List (PV×PV)->Prop):Prop where
 K:zZ ag w A e gens emit acc env
 AK:qZ G D Acc Gd
 hh:A.handled=none
 hD:¬fm env H D/\G.base.get? D=none
structure m9(G:GX ag w)(A:Around)(env:Env)(sc:Sc)(V H:Addr->Prop)(D:Addr)(Acc:(Addr->Prop)->List (PV×PV)->Heap->Prop)(t:Expr)(all:List PV)(I:Addr)(wr:List Addr)(St:Nat->Heap->Prop)(i:Nat)(σ:SE)(rows:List (PV×PV))(s:Shared):Prop where
 T:cX G env sc σ (λb=>V b\/b∈wr) H s
 st:St i s.heap
 acc:Acc (λb=>V b\/b∈wr) rows s.heap
structure lN(G:GX ag w)(A:Around)(env:Env)(sc:Sc)(V H:Addr->Prop)(D:Addr)(t:Expr)(all:List PV)(I:Addr)(wr:List Addr)(St:Nat->Heap->Prop):Prop where
 vD:V D
 pt:V PT
 vl:V env.locals
 vc:∀x c,sc.lookup x=some .cell->env.cells.lookup x=some c->V c
 hwr:∀b∈wr,¬V b/\¬fm env H b/\G.base.get? b=none/\b≠D
 W:ku G A I wr St (λb=>V b\/b∈wr) t all
theorem lN.np{env:Env}{sc:Sc}{V H:Addr->Prop}{D:Addr}{t:Expr}{all:List PV}{I:Addr}{wr:List Addr}{St:Nat->Heap->Prop}(F:lN G A env sc V H D t all I wr St){b:Addr}(q:¬(V b\/b∈wr)\/b∈wr):b≠PT:=
 λz=>q.elim (λq=>q (.inl (z▸F.pt))) λq=>(F.hwr b q).1 (z▸F.pt)
section turn
variable{e:Expr}{gens:List Comprehension}{emit:Sem Unit}{D:Addr}{acc:Value}{elt:Expr}{key:Option Expr}{Acc:(Addr->Prop)->List (PV×PV)->Heap->Prop}{Gd:List (PV×PV)->Prop}
variable{t:Expr}{all:List PV}{I:Addr}{wr:List Addr}{St:Nat->Heap->Prop}{i:Nat}{rows:List (PV×PV)}
theorem o8(L:vQ G o r A env sc H D e gens emit acc elt key Acc Gd){X X' U:Addr->Prop}{s s':Shared}(a:Acc X rows s.heap)(k:cR U s s')(nD:¬U D)(hx:∀b,U b->X b)(m:∀a,s.heap.get? a≠none->X' a->X a)(pt:X PT):Acc X' rows s'.heap:=
 L.AK.keep _ _ _ _ _ a (L.AK.ex _ _ _ a) (λo e=>k.heap D o nD (λq=>mX (q▸L.hD.2)) e) (k.hkU hx pt) m
theorem CI(L:vQ G o r A env sc H D e gens emit acc elt key Acc Gd)(F:lN G A env sc V H D t all I wr St)(X:m9 G A env sc V H D Acc t all I wr St i σ rows s){s':Shared}(k:cR (·∈wr) s s'):
  cX G env sc σ V H s'/\Acc V rows s'.heap/\cR (λb=>lR env sc b\/b∈wr\/b=D) s s':=by
 refine⟨?_,o8 L X.acc k (λm=>(F.hwr D m).2.2.2 rfl) (λb m=>.inr m) (λJ J x=>.inl x) (.inl F.pt),k.mono λb hb=>.inr (.inl hb)⟩;refine X.T.upd k (λb hb=>⟨.inr hb,(F.hwr b hb).2.1,(F.hwr b hb).2.2.1⟩) (λJ J x=>.inl x) ⟨λa va p q=>?_,k.tab X.T.ev.low.tab,F.pt⟩ F.vl F.vc;have m:a ∉ wr:=λm=>(F.hwr a m).1 va
 cases e:s.heap.get? a with
 |none=>exact X.T.ev.low.some (.inl va) e
 |some o=>rw[k.heap a o m p e]at q;cases q
theorem Eb(L:vQ G o r A env sc H D e gens emit acc elt key Acc Gd)(F:lN G A env sc V H D t all I wr St)(X:m9 G A env sc V H D Acc t all I wr St i σ rows s){x:PV}(hx:all[i]?=some x){aL:SE}(hb:bindT sc t x σ=some aL){Q:Unit->Shared->Prop}
  (hQ:∀cE,m9 G A env sc V H D Acc t all I wr St (i+1) aL rows cE->cR (λb=>lR env sc b\/b∈wr\/b=D) s cE->Q () cE) :
  wpAny (model ag w) A (pyNext (.ref I)) (λq aH=>∃v,q=some v/\wpAny (model ag w) A (letOwnedTupleGo t (.ref I) v) (λJ aX=>wpAny (model ag w) A (assign t env v) Q EF aX) EF aH) EF s:=by
 refine cG (F.W.item i s x hx X.st) λq aH kP=>?_;refine bC kP ?_;clear kP;intro v e kP;refine⟨v,e,cG kP λJ aX mE=>?_⟩;refine iQ mE ?_;clear mE;intro rep yl fe;have JN:cX G env sc σ (λb=>V b\/b∈wr) H aX:=X.T.upd fe (λb hb=>⟨.inr hb,(F.hwr b hb).2.1,(F.hwr b hb).2.2.1⟩) (λJ J x=>x) (u8 X.T.ev.low fe (F.W.ex _ _ yl)) (.inl F.vl) λx c h1 h2=>.inl (F.vc x c h1 h2);have JO:Acc (λb=>V b\/b∈wr) rows aX.heap:=o8 L X.acc fe (λm=>(F.hwr D m).2.2.2 rfl) (λb m=>.inr m) (λJ J x=>x) (.inl F.pt);refine cG (xF L.hh JN hb (rep _ X.T.ev.low λJ q=>q)) λJ cE tQ=>?_;refine xA tQ ?_;clear tQ;intro Mr fu;refine hQ cE ⟨Mr,F.W.frame _ _ _ yl λb o q e=>fu.heap b o (λl=>q.elim (λq=>q (JN.loc l)) λq=>(F.hwr b q).2.1 (j9.held (H:=H) (.inl l))) (F.np q) e,?_⟩ ((fe.mono λb hb=>.inr (.inl hb)).trans (fu.mono λb hb=>.inl hb));exact o8 L JO fu (λq=>L.hD.1 (j9.held (H:=H) (.inl q))) (λb q=>JN.loc q) (λJ J x=>x) (.inl F.pt)
theorem m9.kp(L:vQ G o r A env sc H D e gens emit acc elt key Acc Gd)(F:lN G A env sc V H D t all I wr St)(X:m9 G A env sc V H D Acc t all I wr St i σ rows s){s':Shared}(k:Kp s s'):m9 G A env sc V H D Acc t all I wr St i σ rows s':=
 ⟨X.T.kp k,F.W.frame _ _ _ X.st λb o q e=>k.keep b o (F.np q) e,o8 L X.acc k id (λJ q=>q.elim) (λJ J x=>x) (.inl F.pt)⟩
theorem m9.more(L:vQ G o r A env sc H D e gens emit acc elt key Acc Gd)(F:lN G A env sc V H D t all I wr St)(X:m9 G A env sc V H D Acc t all I wr St i σ rows s){s':Shared}{aL:SE}{rows':List (PV×PV)}(T:cX G env sc aL (λb=>V b\/b∈wr) H s')(hs:∀x q,σ.lookup x=some q->aL.lookup x=some q)(k:cR (λb=>lR env sc b\/b=D) s s')(a:Acc (λb=>V b\/b∈wr) rows' s'.heap):
  m9 G A env sc V H D Acc t all I wr St i σ rows' s':=by
 refine⟨T.sub hs,F.W.frame _ _ _ X.st λb o q e=>k.heap b o (λl=>?_) (F.np q) e,a⟩;rcases l with l|rfl
 ·exact q.elim (λq=>q (X.T.loc l)) λq=>(F.hwr b q).2.1 (j9.held (H:=H) (.inl l))
 ·exact q.elim (λq=>q (.inl F.vD)) λq=>(F.hwr _ q).2.2.2 rfl
theorem m9.emitted(L:vQ G o r A env sc H D e gens emit acc elt key Acc Gd)(F:lN G A env sc V H D t all I wr St)(X:m9 G A env sc V H D Acc t all I wr St i σ rows s){s':Shared}{rows':List (PV×PV)}(k:cR (·=D) s s')(a:Acc (λb=>V b\/b∈wr) rows' s'.heap):cX G env sc σ (λb=>V b\/b∈wr) H s':=
 X.T.upd k (λb hb=>by rw[hb];exact⟨.inl F.vD,L.hD.1,L.hD.2⟩) (λJ J x=>x) (u8 X.T.ev.low k λb hb=>by rw[hb];exact L.AK.ex _ _ _ a) (.inl F.vl) λx c h1 h2=>.inl (F.vc x c h1 h2)
theorem Ce(L:vQ G o r A env sc H D e gens emit acc elt key Acc Gd)(F:lN G A env sc V H D t all I wr St)(X:m9 G A env sc V H D Acc t all I wr St i σ rows s){t':Expr}{items:List PV}{s':Shared}{it:Value}(h:jg G A (λb=>V b\/b∈wr) t' items s it s'):
  ∃I' wr' St',it=.ref I'/\lN G A env sc (λb=>V b\/b∈wr) H D t' items I' wr' St'/\m9 G A env sc (λb=>V b\/b∈wr) H D Acc t' items I' wr' St' 0 σ rows s'/\Kp s s'/\∀b∈wr',s.heap.get? b=none:=by
 refine n9 h ?_;clear h;intro I' wr' e' zV hwr' mk;refine bC (mk (λb=>(V b\/b∈wr)\/b∈wr') (λa J x=>x) λb hb=>.inr hb) ?_;intro St' st' W';refine⟨I',wr',St',e',⟨.inl F.vD,.inl F.pt,.inl F.vl,λx c h1 h2=>.inl (F.vc x c h1 h2),λb hb=>⟨λq=>X.T.ev.low.some q (hwr' b hb).1,λq=>X.T.ev.hex b q (hwr' b hb).1,eJ X.T.ev.base (hwr' b hb).1,λq=>L.AK.ex _ _ _ X.acc (q▸(hwr' b hb).1)⟩,W'⟩,⟨?_,st',?_⟩,zV,λb hb=>(hwr' b hb).1⟩
 ·exact X.T.upd (W:=λJ=>False) zV (λJ q=>q.elim) (λa e q=>q.elim id λq=>absurd (hwr' a q).1 e) ⟨λa q J=>q.elim (λq=>(X.T.ev.low.kp zV).some q) λq=>(hwr' a q).2,(X.T.ev.low.kp zV).tab,.inl (.inl F.pt)⟩ (.inl (.inl F.vl)) λx c h1 h2=>.inl (.inl (F.vc x c h1 h2))
 ·exact o8 L X.acc zV id (λJ q=>q.elim) (λa e q=>q.elim id λq=>absurd (hwr' a q).1 e) (.inl F.pt)
theorem CW{wr':List Addr}{s s' s'':Shared}(k:Kp s s')(k':cR (λb=>lR env sc b\/b∈wr'\/b=D) s' s'')(n:∀b∈wr',s.heap.get? b=none):cR (λb=>lR env sc b\/b=D) s s'':=
 ⟨λb o nb p e=>k'.heap b o (λq=>by
  rcases q with q|q|q
  ·exact nb (.inl q)
  ·exact nomatch (n b q).symm.trans e
  ·exact nb (.inr q)) p (k.keep b o p e),k'.os.trans k.os,λq=>k'.gens (k.gens q),λt=>k'.tab (k.tab t)⟩
end turn
theorem vh{n:Nat}{g:Comprehension}{gs:List Comprehension}{items:List PV}{elt:Expr}{key:Option Expr}{rs:List (PV×PV)}(h:lJ o n sc σ g items gs elt key=some rs):g.is_async=0:=by
 cases n with
 |zero=>exact nn h
 |succ m=>exact io (c:=decide (g.is_async=0) && gR g.target σ) h λhc J=>of_decide_eq_true (gw hc).1
theorem zo{g:Comprehension}(h:g.is_async=0):(g.is_async != 0)=false:=by rw[h];rfl
theorem pN{α:Type}{l is:List α}{x:α}{i:Nat}(h:l.drop i=x::is):l[i]?=some x/\l.drop (i+1)=is/\i+1<=l.length:=by
 have hx:l[i]?=some x:=by
  have:=congrArg (·[0]?) h
  simpa using this
 exact⟨hx,by rw[<- List.drop_drop,h];rfl,(au.mp hx).1⟩
noncomputable def HV(G:GX ag w)(o:cS)(A:Around)(env:Env)(sc:Sc)(H:Addr->Prop)(D:Addr)(e:Expr)(gens:List Comprehension)(acc:Value)(elt:Expr)(key:Option Expr)(Acc:(Addr->Prop)->List (PV×PV)->Heap->Prop)(Gd:List (PV×PV)->Prop)(n:Nat):Prop:=
 ∀{d:Nat}{g:Comprehension}{gs:List Comprehension}{items all:List PV}{i:Nat}{I:Addr}{wr:List Addr}{St:Nat->Heap->Prop}{V:Addr->Prop}{σ:SE}{rows new:List (PV×PV)}{s:Shared}{R:Result->Shared->Prop},
  gens[d]?=some g->gens.drop (d+1)=gs->lJ o n sc σ g items gs elt key=some new ->
  lN G A env sc V H D g.target all I wr St->m9 G A env sc V H D Acc g.target all I wr St i σ rows s->all.drop i=items->i<=all.length->Gd (rows++new) ->
  (∀s',cX G env sc σ V H s'->Acc V (rows++new) s'.heap->cR (λb=>lR env sc b\/b∈wr\/b=D) s s'->R (.ok .next) s') ->
  codeAny (model ag w) A (.compLoop e d (.ref I) acc env) R s
section
variable{e:Expr}{gens:List Comprehension}{emit:Sem Unit}{D:Addr}{acc:Value}{elt:Expr}{key:Option Expr}{Acc:(Addr->Prop)->List (PV×PV)->Heap->Prop}{Gd:List (PV×PV)->Prop}
theorem zN{n d:Nat}{g:Comprehension}{gs:List Comprehension}{all:List PV}{i:Nat}{I:Addr}{wr:List Addr}{St:Nat->Heap->Prop}{V:Addr->Prop}{σ:SE}{rows rs:List (PV×PV)}{s:Shared}{R:Result->Shared->Prop}
  (L:vQ G o r A env sc H D e gens emit acc elt key Acc Gd) (Sn:iY G o r n) (En:sa G o r A env sc H D Acc Gd elt key emit n) (IH:HV G o A env sc H D e gens acc elt key Acc Gd n) (hr:br A (n+r)) (hgs:gens.drop (d+1)=gs)
  (hrs:(match(generalizing:=false) gs with
      | []=>cW (λv kv=>some [(kv,v)]) (ev o n sc σ elt) (match(generalizing:=false) key with
       |none=>some .none
       |some k=>ev o n sc σ k)
      |g'::gs'=>(evI o n sc σ g'.target g'.iter).bind λitems'=>lJ o n sc σ g' items' gs' elt key)=some rs)
  (F:lN G A env sc V H D g.target all I wr St) (X:m9 G A env sc V H D Acc g.target all I wr St i σ rows s) (gd:Gd (rows++rs))
  (goOn:∀jG,cX G env sc σ (λb=>V b\/b∈wr) H jG->Acc (λb=>V b\/b∈wr) (rows++rs) jG.heap->cR (λb=>lR env sc b\/b=D) s jG->codeAny (model ag w) A (.compLoop e d (.ref I) acc env) R jG) :
  wpAny (model ag w) A (do
    match gens[d+1]? with
    |some g'=>
     let x <- eval g'.iter env
     standAt g'.iter.pos
     let x <- if g'.is_async != 0 then foldedIterable g'.iter x else foldedSetIterable g'.iter env x
     let _ <- runOwn (.compStart e (d+1) (<- holding [x] (if g'.is_async != 0 then asyncIter x else pyIter x)) acc env) env
    |none=>emit
    again (.compLoop e d (.ref I) acc env)) (λfin s'=>match fin with| .done f=>R (.ok f) s'| .again c'=>c'.quiet=true/\codeAny (model ag w) A c' R s') EF s:=by
 have fin:∀jG,codeAny (model ag w) A (.compLoop e d (.ref I) acc env) R jG->wpAny (model ag w) A (again (.compLoop e d (.ref I) acc env)) (λfin s'=>match fin with| .done f=>R (.ok f) s'| .again c'=>c'.quiet=true/\codeAny (model ag w) A c' R s') EF jG:=λjG h=>wpAny_pure ⟨L.K.quiet _ _,h⟩
 cases gs with
 |nil=>
  have hn2:gens[d+1]?=none:=List.getElem?_eq_none_iff.mpr (qv.mp hgs);rw[hn2];refine bY hrs λv' kv hv' hk h=>?_;have h:=bD h;subst h;have hkr:Ex o n sc σ kv key:=by
   cases key with
   |none=>exact bD hk
   |some k=>exact hk
  refine wpAny_bind (cG (En s _ σ rows kv v' X.T.ev (.inl F.vD) X.acc gd hv' hkr hr) λJ jG tR=>fin jG ?_);exact goOn jG (X.emitted L F tR.2 tR.1) tR.1 (tR.2.mono λb hb=>.inr hb)
 |cons g' gs'=>
  refine iQ (pN hgs) ?_;intro hg' hgs' _;rw[hg'];refine b9 hrs λitems' hit hrs=>?_;have has2':=zo (vh hrs);show wpAny _ _ (eval g'.iter env >>= _) _ _ _;refine xA (Sn.evI (t:=g'.target) hr hit X.T.ev) ?_;intro hfs hev;refine wpAny_bind (cG hev λxv jG tR=>?_);simp only[has2',bU,if_false];refine wpAny_bind (wpAny_standAt (wpAny_bind (wpAny_of_eq (hfs xv) ?_)));refine wpAny_bind (wpAny_holding (cG tR λit JP Mt=>?_));refine sy (Ce L F X Mt) ?_;rintro I' wr' St' rfl F' X' zV Mu;have key1:codeAny (model ag w) A (.compLoop e (d+1) (.ref I') acc env) (λrr s'=>rr=.ok .next/\codeAny (model ag w) A (.compLoop e d (.ref I) acc env) R s') JP:=
   IH hg' hgs' hrs F' X' rfl (bz _) gd λs' T' a' k'=>⟨rfl,goOn s' T' a' (CW zV k' Mu)⟩
  refine wpAny_bind (wpAny_runOwn (h:=none) ?_);rw[L.K.mark];refine codeAny_of_tree ?_;rw[L.K.under2,L.K.den2];refine wpAny_notedAt ?_;refine wpAny_mono (E:=EF) ?_ (λJ J x=>x) λJ J x=>x.elim;unfold compStart;rw[L.K.cl,hg',show(Option.elim (some g') false λx=>x.is_async != 0)=false from has2'];have key2:codeAny (model ag w) A (.compLoop e (d+1) (.ref I') acc env) (λrr s'=>match rr with| .ok _=>wpAny (model ag w) A (again (.compLoop e d (.ref I) acc env)) (λfin s'=>match fin with| .done f=>R (.ok f) s'| .again c'=>c'.quiet=true/\codeAny (model ag w) A c' R s') EF s'| .error e=>cameBackBy (model ag w) A env EF e s') JP:=
   codeAny_mono key1 λrr s' q=>by rw[q.1];exact fin s' q.2
  refine wpAny_bind (wpAny_askSetting ?_);split
  ·exact wpAny_pure ⟨L.K.quiet _ _,key2⟩
  ·refine wpAny_bind (wpAny_rule (wpAny_bind (wpAny_standAt (wpAny_bind (cG (F'.W.self 0 JP X'.st) λit' s' q=>?_)))))
   rw[q.1,q.2];exact wpAny_pure ⟨L.K.quiet _ _,key2⟩
theorem zu(L:vQ G o r A env sc H D e gens emit acc elt key Acc Gd):∀(n:Nat),(∀m,m < n->iY G o r m/\sa G o r A env sc H D Acc Gd elt key emit m)->br A (n+r)->HV G o A env sc H D e gens acc elt key Acc Gd n:=by
 intro n
 induction n with
 |zero=>intro _ _ d g gs items all i I wr St V σ rows new s R _ _ h;exact nn h
 |succ n ih=>
  intro S hr d g gs items all i I wr St V σ rows new s R hg hgs h F X hall hi gd hR;have hr':br A (n+r):=hr.le (pn [_,_] 0x0DA1A180A10);have IH:=@ih (λm hm=>S m (bM hm)) hr';have has':=zo (vh h);refine io (c:=decide (g.is_async=0) && gR g.target σ) h λhc h=>?_;have hfr:=(gw hc).2;refine codeAny_of_tree ?_;rw[L.K.under1,L.K.den1];refine wpAny_noted ?_;refine wpAny_mono (E:=EF) ?_ (λJ J x=>x) λJ J x=>x.elim;unfold uh;rw[hg];show wpAny _ _ (standAt (if(g.is_async != 0)=true then e.pos else g.iter.pos) >>= _) _ _ _;simp only[has',bU,if_false];refine wpAny_bind (wpAny_standAt ?_)
  cases items with
  |nil=>
   have h:=bD (show some []=some new from h);subst h;rw[Nat.le_antisymm hi (qv.mp hall)]at X;refine wpAny_bind (cG (F.W.done s X.st) λq s' h'=>?_);refine xA h' ?_;clear h';rintro rfl k;refine iQ (CI L F X k) ?_;intro h1 h2 h3;refine wpAny_pure (hR s' h1 ?_ h3);rw[kd];exact h2
  |cons x is=>
   refine iQ (pN hall) ?_;intro hx hnext hi';refine b9 (x:=bindT sc g.target x σ) (f:=λaL=>(evAnd o n sc aL g.ifs).bind λb=>
    cW (λrs rest=>some (rs++rest)) (if b=true then(match gs with
      | []=>cW (λv kv=>some [(kv,v)]) (ev o n sc aL elt) (match key with
       |none=>some .none
       |some k=>ev o n sc aL k)
      |g'::gs'=>(evI o n sc aL g'.target g'.iter).bind λitems'=>lJ o n sc aL g' items' gs' elt key) else some [])
     (lJ o n sc σ g is gs elt key)) h λaL hb h=>b9 h λb hifs h=>bY h λrs rest hrs hrest h=>?_
   have h:=bD h;subst h
   refine' wpAny_bind (cG (Eb L F X hx hb ?h3) ?h4)
   case h4=>
    rintro q aH ⟨v,rfl,kP⟩;exact wpAny_bind (cG kP λJ aX mE=>wpAny_bind mE)
   intro cE K2 fu;refine wpAny_bind (cG (wm (sc:=sc) n (λm hm=>(S m (bM hm)).1) hr' hifs K2.T.ev) λok jk tS=>?_);refine xA tS ?_;clear tS;rintro rfl jH;have HI:=K2.kp L F jH;have gd1:Gd (rows++rs):=L.AK.pre _ rest (by rw[bk];exact gd);have goOn:∀jG,cX G env sc aL (λb=>V b\/b∈wr) H jG->Acc (λb=>V b\/b∈wr) (rows++rs) jG.heap->cR (λb=>lR env sc b\/b=D) jk jG ->
     codeAny (model ag w) A (.compLoop e d (.ref I) acc env) R jG:=λjG K3 FX yj=>by
    have Mv:m9 G A env sc V H D Acc g.target all I wr St (i+1) σ (rows++rs) jG:=⟨K3.sub (Bk hfr hb),(HI.more L F K3 (λJ J h=>h) yj FX).st,FX⟩;refine IH hg hgs hrest F Mv hnext hi' (by rw[bk];exact gd) λs' T' a' k'=>?_;exact hR s' T' (by rw[<- bk];exact a') (((fu.trans (jH.toU _)).trans (yj.mono λb hb=>hb.elim .inl λq=>.inr (.inr q))).trans k')
   cases ok with
   |false=>
    have hrs:=bD (show some []=some rs from hrs);subst hrs;exact wpAny_pure ⟨L.K.quiet _ _,goOn jk HI.T (by rw[kd];exact HI.acc) (cR.refl _ _)⟩
   |true=>exact zN L (S n (gC _)).1 (S n (gC _)).2 IH hr' hgs ((if_pos rfl).symm.trans hrs) F HI gd1 goOn
end
end
end Mine
end
section
namespace Mine
section
variable{A:Around}{s:Shared}{V H:Addr->Prop}{env:Env}{sc:Sc}{σ:SE}
variable{o:cS}{r n:Nat}
theorem cR.keep{s s':Shared}(x:cR (λJ=>False) s s'):∀b o,b≠PT->s.heap.get? b=some o->s'.heap.get? b=some o:=λb o p e=>x.heap b o id p e
def Made(G:GX ag w)(V:Addr->Prop)(s:Shared)(p:PV)(v:Value)(s':Shared):Prop:=
 ∃N:Addr->Prop,(∀a,N a->s.heap.get? a=none/\s'.heap.get? a≠none)/\jN G s'.heap (λa=>V a\/N a) N p v/\Kp s s'
theorem yQ{p:PV}{v:Value}{s':Shared}(lo:eu V s.heap)(m:Made G V s p v s'):ca G V s p v s':=by
 refine fJ m ?_;clear m;intro N hN t k;have nV:∀a,N a->¬V a:=λa h q=>lo.some q (hN a h).1;refine⟨?_,k⟩
 cases p with
 |lst l=>
  refine bx t ?_;clear t;intro a e n vs q r;exact dP.mpr ⟨a,e,nV a n,vs,q,RepL.keep (bI.refl _ _) (λJ J x=>.inl x) r⟩
 |dct l=>
  refine cK t ?_;clear t;intro a e n z kvs q r;exact d5.mpr ⟨a,e,nV a n,z,kvs,q,RepD.keep (bI.refl _ _) (λJ J x=>.inl x) r⟩
 |obj c fs=>
  refine dp t ?_;clear t;intro a C d es ep e n q nd g gd r;exact ei a ⟨C,d,es,ep,e,nV a n,q,nV d nd,g,gd,RepF.keep (bI.refl _ _) (λJ J x=>.inl x) r⟩
 |_=>exact t.elim
theorem A1{p:PV}{v:Value}{aH aX:Shared}(k:Kp s aH)(m:Made G V aH p v aX)(t:ki s.heap:=by first|assumption|exact eu.tab (by assumption)|exact eu.tab (bX.low (by assumption))|exact eu.tab (bX.low (cX.ev (by assumption)))|exact eu.tab (bX.low (cX.ev (cZ.st (by assumption))))):Made G V s p v aX:=by
 refine fJ m ?_;clear m;intro N hN t k';exact⟨N,λa h=>⟨k.non (hN a h).1,(hN a h).2⟩,t,k.trans k'⟩
noncomputable def D2(G:GX ag w)(D:Addr)(V:Addr->Prop)(rows:List (PV×PV))(h:Heap):Prop:=∃vs:List Value,h.PlainList D vs.toArray/\G.RepL h V (rows.map (·.2)) vs
noncomputable def CG(G:GX ag w)(D:Addr)(V:Addr->Prop)(rows:List (PV×PV))(h:Heap):Prop:=∃kvs l,h.DictOf (intKind ag w) D kvs/\cD rows []=some l/\G.RepD h V l kvs
noncomputable def JS(rows:List (PV×PV)):Prop:=rows.length<=1048576
noncomputable def Ly(rows:List (PV×PV)):Prop:=rows.length<=1048576/\∃l,cD rows []=some l
theorem nW:∀(a b:List (PV×PV)) (acc:List (Int×PV)),cD (a++b) acc=(cD a acc).bind (cD b):=λa b=>by
 induction a with
 |nil=>intro acc;rfl
 |cons kv a ih=>
  intro acc;show((cb kv.1).bind λk=>cD (a++b) (jD acc k kv.2))=((cb kv.1).bind λk=>cD a (jD acc k kv.2)).bind (cD b)
  cases cb kv.1 with
  |none=>rfl
  |some k=>exact ih _
theorem x5(l:List (Int×PV))(k:Int)(v:PV):(jD l k v).length<=l.length+1:=by
 unfold jD;split
 ·rw[aa];exact pn [_] 0x0DA1800
 ·rw[aB];exact aK _
theorem tE:∀{a:List (PV×PV)}{acc l:List (Int×PV)},cD a acc=some l->l.length<=acc.length+a.length:=λ{a}=>by
 induction a with
 |nil=>intro acc l h;rw[bD h];exact aK _
 |cons kv a ih=>
  intro acc l h;refine b9 (x:=cb kv.1) (f:=λk=>cD a (jD acc k kv.2)) h λk hk h=>?_;have h1:=ih h;have h2:=x5 acc k kv.2;rw[am];exact(pn [_,_,_,_] 0x0DAA182300DA18310DA210) h1 h2
theorem BJ{D:Addr}:qZ G D (D2 G D) JS where
 keep:=λV V' rows h h' ⟨vs,⟨n,q⟩,rl⟩ _ kD k m=>⟨vs,⟨n,kD _ q⟩,RepL.keep k m rl⟩
 ex:=λV rows h ⟨vs,⟨n,q⟩,_⟩=>bw q
 pre:=λa b h=>by unfold JS at *;rw[aB]at h;exact(pn [_,_] 0x0D1000003900D10000039A10) h
theorem Bs{D:Addr}:qZ G D (CG G D) Ly where
 keep:=λV V' rows h h' ⟨kvs,l,⟨o,es,ep,q,z⟩,e,rd⟩ _ kD k m=>⟨kvs,l,⟨o,es,ep,kD _ q,z⟩,e,RepD.keep k m rd⟩
 ex:=λV rows h ⟨kvs,l,⟨o,es,ep,q,z⟩,_⟩=>bw q
 pre:=λa b ⟨h1,l,h2⟩=>by
  rw[aB]at h1;rw[nW]at h2;refine bC (Option.bind_eq_some_iff.mp h2) ?_;intro l' h3 _;exact⟨by exact(pn [_,_] 0x0D1000003900D10000039A10) h1,l',h3⟩
theorem RepL.snoc{cl:cF}{h:Heap}{ps:List PV}{vs:List Value}{p:PV}{v:Value}(x:RepL ag w cl h V ps vs)(y:Rep ag w cl h V p v):RepL ag w cl h V (ps++[p]) (vs++[v]):=
 RepL.append x (RepL.cons y trivial)
theorem Kf{D:Addr}{elt:Expr}{n:Nat}(S:iY G o r n):sa G o r A env sc H D (D2 G D) JS elt none (do let _ <- call (.builtin "list.append") [.ref D,<- eval elt env]) n:=by
 intro s V σ rows kv v O vD acc gd hv hk hr
 cases hk
 refine wpAny_bind (wpAny_mono (S.ev hr hv O) (λx aH q=>?_) λJ J x=>x);refine bC acc ?_;clear acc;rintro vs ⟨n,pl⟩ rl;have len:=RepL.length rl;have nD:=O.low.tab.npt pl λJ=>nofun;have K4:aH.heap.PlainList D vs.toArray:=⟨n,q.2.keep _ _ nD pl⟩;have hz:vs.toArray.size<=sizeLine:=by
  unfold JS at gd;rw[aB]at gd;rw[aa]at len;rw[aF,bn];exact(pn [_,_,_] 0x0D010000004922D200D10000039A10) gd len
 refine wpAny_bind (wpAny_list_append_plain K4 (hsz:=hz) λh' pl' sb=>wpAny_pure ⟨⟨vs++[x],?_,?_⟩,?_⟩)
 ·have:(vs++[x]).toArray=vs.toArray.push x:=by simp
  rw[this];exact pl'
 ·rw[aT]
  have hk:bI V aH.heap h':=λb ob nb e=>sb.extBut b ob (λe=>nb (e▸vD)) e;exact RepL.snoc (RepL.keep hk (λJ J x=>x) (qQ q.2 rl)) (Rep.keep hk (λJ J x=>x) q.1)
 ·exact⟨λb ob nb p e=>sb.extBut b ob nb (q.2.keep _ _ p e),q.2.os,q.2.gens,λt=>.keep (λo e=>sb.extBut _ o nD.symm e) (q.2.tab t)⟩
theorem Kv{D:Addr}{k v:Expr}{p:Pos}{n:Nat}(S:iY G o r n):sa G o r A env sc H D (CG G D) Ly v (some k) (do
    let kv <- eval k env
    let vv <- holding [kv] (eval v env)
    standAt p
    holding [kv,vv] (dictSet D kv vv)) n:=by
 intro s V σ rows kv vp O vD acc gd hv hk hr;have hk:ev o n sc σ k=some kv:=hk;refine kh acc ?_;clear acc;intro kvs l dO e rd;obtain⟨h1,l2,h2⟩:=gd;rw[nW,e]at h2;refine b9 (x:=cb kv) (f:=λi=>some (jD l i vp)) h2 λi hi h2=>?_;refine wpAny_bind (cG (S.ev hr hk O) λkx aH v8=>wpAny_bind (wpAny_holding (cG (S.ev hr hv (O.kp v8.2)) λvx aX yk=>wpAny_bind (wpAny_standAt (wpAny_holding ?_)))));refine xE (j5 hi v8.1) ?_;rintro t rfl;have kk:=v8.2.trans yk.2;have nD:D≠PT:=let⟨_,_,_,ho,q⟩:=dO;O.low.tab.npt ho λJ e=>nomatch q.2.1.symm.trans e;have K5:aX.heap.DictOf (intKind ag w) D kvs:=gf (V:=(·=PT)) (Kp.hk kk rfl) nD dO;have hz:kvs.length<=sizeLine:=by
  have q1:=tE e;have q2:=RepD.length rd;rw[aB]at h1;rw[ce,bS]at q1;rw[bn];clear dO K5 rd v8 yk O;exact(pn [_,_,_,_] 0x0D010000004932D320D020D10000039A10) h1 q1 q2
 refine wpAny_dictSet_pairs (hsz:=hz) jl K5 λh' d' sb=>⟨⟨_,jD l i vp,d',?_,?_⟩,⟨λb ob nb p e=>sb.extBut b ob nb (kk.keep _ _ p e),kk.os,kk.gens,λt=>.keep (λo e=>sb.extBut _ o nD.symm e) (kk.tab t)⟩⟩
 ·rw[nW,e]
  show(cb kv).bind _=_;rw[hi];rfl
 ·have hk:bI V aX.heap h':=λb ob nb e=>sb.extBut b ob (λe=>nb (e▸vD)) e
  exact RepD.stored (Rep.keep hk (λJ J x=>x) yk.1) (RepD.keep hk (λJ J x=>x) (RepD.keep (Kp.hk kk) (λJ J x=>x) rd))
theorem ui{e:Expr}{gens gs:List Comprehension}{g:Comprehension}{emit:Value->Env->Sem Unit}{elt:Expr}{key:Option Expr}{Acc:Addr->(Addr->Prop)->List (PV×PV)->Heap->Prop}{Gd:List (PV×PV)->Prop}
  {scope:Scope}{pos:Pos}{newAcc:Sem Value}{nob:Obj}{use:Option (Value->Sem Unit)}{items:List PV}{new:List (PV×PV)}{Q:Value->Shared->Prop}
  (hA:∀(s:Shared) (Q:Value->Shared->Prop),Q (.ref s.heap.objs.size) { s with heap:=s.heap.push nob }->wpAny (model ag w) A newAcc Q EF s) (hf:nob.isFreed=false)
  (K:∀(D:Addr) (cenv:Env),zZ ag w A e gens (emit (.ref D) cenv) (.ref D) cenv) (AK:∀D,qZ G D (Acc D) Gd) (hgens:gens=g::gs)
  (S:∀m,m<=n->iY G o r m) (EM:∀m,m<=n->∀(D:Addr) (cenv:Env),sa G o r A cenv scope.names H D (Acc D) Gd elt key (emit (.ref D) cenv) m)
  (first:∀(h:Heap) (V:Addr->Prop),Acc h.objs.size V [] (h.push nob)) (gd:Gd new)
  (hr:br A (n+r)) (hok:fO sc scope=true) (hit:evI o n sc σ g.target g.iter=some items) (hg:lJ o n scope.names (jF scope σ) g items gs elt key=some new)
  (O:bX G env sc σ V H s)
  (hQ:∀(D C:Addr) (s':Shared),Kp s s'->s.heap.get? D=none->s'.heap.get? D≠none->(D == sysModules)=false->s.heap.get? C=none->D≠C->(∃m,s'.heap.Ns C m)->Acc D (λa=>V a\/a=D\/a=C) new s'.heap->compPost (model ag w) A EF use Q (.ref D) C (.ok .next) s') :
  wpAny (model ag w) A (comprehension e scope env pos newAcc false (eval g.iter env) use) Q EF s:=by
 refine iQ (nj hok) ?_;intro hkf hnd hall;refine xA ((S n (aK _)).evI (t:=g.target) hr hit O) ?_;intro hfs hev;obtain⟨cl,hcl,hcl1,hcl2⟩:=td (scope:=scope) (env:=env) λx hx=>by
  rcases hall x _ hx with q|q|q|q
  ·cases q
  ·cases q
  ·cases q
  ·refine CR (O.cel x q.2) ?_;intro _ c hc _
   exact⟨c,hc⟩
 have has:g.is_async=0:=vh hg;have hcls:clausesOf e=g::gs:=by rw[(K 0 env).cl,hgens]
 refine wpAny_comprehension_free hcls hfs hcl hkf (λx hx hl=>by obtain⟨a,b⟩:=x;cases hl;exact gW hnd hx) (wpAny_mono hev (λxv aH kP=>wpAny_mono kP (λit aX mE=>?_) λJ J x=>x) λJ J x=>x);refine n9 mE ?_;clear mE;rintro I wr rfl fe hwr mk;refine hA aX _ (Hh ?_);dsimp only;generalize hD:aX.heap.objs.size=D;have HH:=O.kp fe;have nD:aX.heap.get? D=none:=hD▸dC;have fu:Kp aX { aX with heap:=aX.heap.push nob }:=dF (tk:=aX.toks)
 have exD:(aX.heap.push nob).get? D≠none:=by rw[<- hD,ay _ hf];simp
 have sz:(aX.heap.push nob).objs.size=D+1:=by rw[bL,hD]
 rw[sz];have noneOf:∀a,D<=a->aX.heap.get? a=none:=λa h=>by
  cases e:aX.heap.get? a with
  |none=>rfl
  |some o=>exact absurd (aN e) (bT.mpr (hD▸h))
 have FY:bX G env sc σ (λa=>(V a\/a=D)\/a∈wr) H { aX with heap:=aX.heap.push nob }:=
  O.change (Kp.hk (fe.trans fu)) (λb o h e=>(fe.trans fu).keep b o (O.npt h) e) (O.base.kp (fe.trans fu))
   (λa e q=>q.elim (λq=>q.elim id λq=>absurd (fe.non (q▸nD)) e) λq=>absurd (hwr a q).1 e)
   ⟨λa q J=>q.elim (λq=>q.elim (λq=>(O.low.kp (fe.trans fu)).some q) λq=>q▸exD) λq x=>(hwr a q).2 (fu.non x),(O.low.kp (fe.trans fu)).tab,.inl (.inl O.low.pt)⟩
 generalize hs3:({ aX with heap:=aX.heap.push nob }:Shared)=cE at FY fu;have sz3:cE.heap.objs.size=D+1:=by rw[<- hs3];exact sz
 have h3:aX.heap.push nob=cE.heap:=by rw[<- hs3]
 have e4:({ aX with heap:=pushCells ((aX.heap.push nob).push { cls:=.type "dict",data:=.dict #[] }) scope.names }:Shared)={ cE with heap:=pushCells (cE.heap.push { cls:=.type "dict",data:=.dict #[] }) scope.names }:=by rw[<- hs3]
 generalize hh4:pushCells (cE.heap.push { cls:=.type "dict",data:=.dict #[] }) scope.names=tS;have k4f:∀b o,cE.heap.get? b=some o->tS.get? b=some o:=λb o e=>hh4▸pushCells_keeps _ _ b o (af _ e);have jH:Kp cE { cE with heap:=tS }:=Kp.of (tk:=cE.toks) k4f
 have kk:=fu.trans jH
 let zW:Addr->Prop:=λa=>(V a\/a=D)\/(D+1<=a/\tS.get? a≠none)
 have CE:=y5 (V':=λb=>zW b\/b∈wr) FY hok hcl1 hcl2
  (λa e q=>by
   rcases q with(q|q)|q
   ·exact .inl q
   ·refine absurd (show cE.heap.get? a=none from ?_) e
    cases e:cE.heap.get? a with
    |none=>rfl
    |some o=>have:=aN e;rw[sz3]at this;exact absurd this (bT.mpr q.1)
   ·exact .inr q)
  (λa h e=>by rw[sz3]at h;rw[hh4]at e;exact .inl (.inr ⟨h,e⟩))
  (by
   rw[hh4];refine⟨λa q J=>?_,(FY.low.kp jH).tab,.inl (.inl (.inl O.low.pt))⟩;rcases q with(q|q)|q
   ·exact(FY.low.kp jH).some (.inl q)
   ·exact q.2
   ·exact(FY.low.kp jH).some (.inr q))
 rw[hh4,sz3]at CE;refine iQ CE ?_;clear CE;intro T locs helds;obtain⟨St,st,W⟩:=mk (λb=>zW b\/b∈wr) (λa e q=>by
  rcases q with((q|q)|q)|q
  ·exact .inl q
  ·exact absurd (q▸nD) e
  ·exact absurd (noneOf a (aD (dU _) q.1)) e
  ·exact .inr q) λb hb=>.inr hb
 have Ik:St 0 tS:=W.frame _ _ _ st λb o J e=>k4f b o (h3▸af _ e);have L4:D+1=(eM scope env (D+1) cl).locals:=rfl;have JQ:Acc D (λb=>zW b\/b∈wr) [] tS:=by
  have a0:=first aX.heap (λb=>zW b\/b∈wr);rw[hD,h3]at a0;exact(AK D).keep _ _ _ _ _ a0 ((AK D).ex _ _ _ a0) (λo e=>k4f D o e) (λb o n e=>k4f b o e) λJ J x=>x
 have eJ:∀a,s.heap.get? a=none->G.base.get? a=none:=λa h=>eJ O.base h;have ltD:∀a,aX.heap.get? a≠none->@LT.lt Nat _ a D:=λa e=>by
  cases q:aX.heap.get? a with
  |none=>exact absurd q e
  |some o=>have:=aN q;rw[hD]at this;exact this
 have hwr':∀b∈wr,¬zW b/\¬fm (eM scope env (D+1) cl) H b/\G.base.get? b=none/\b≠D:=λb hb=>by
  have lt:=ltD b (hwr b hb).2;refine⟨?_,λq=>?_,eJ b (hwr b hb).1,be lt⟩
  ·rintro((q|q)|q)
   ·exact O.low.some q (hwr b hb).1
   ·exact be lt q
   ·exact bT.mpr q.1 (bM lt)
  ·rcases helds b q with q|q
   ·exact bT.mpr q (bM lt)
   ·exact O.hex b q (hwr b hb).1
 have hD':¬fm (eM scope env (D+1) cl) H D/\G.base.get? D=none:=by
  refine⟨λq=>?_,eJ D (fe.non nD)⟩;rcases helds D q with q|q
  ·exact Nat.not_succ_le_self _ q
  ·exact O.hex D q (fe.non nD)
 have hrow:codeAny (model ag w) A (.compLoop e 0 (.ref I) (.ref D) (eM scope env (D+1) cl)) (compPost (model ag w) A EF use Q (.ref D) (D+1)) { cE with heap:=tS }:=by
  have F:lN G A (eM scope env (D+1) cl) scope.names zW H D g.target items I wr St:=⟨.inl (.inr rfl),.inl (.inl O.low.pt),T.vl.elim id λq=>absurd fm.loc (hwr' _ q).2.1,λx c h1 h2=>(T.vc x c h1 h2).elim id λq=>absurd (fm.cell h2) (hwr' _ q).2.1,hwr',W⟩;refine zu (s:={ cE with heap:=tS }) (V:=zW) ⟨K D (eM scope env (D+1) cl),AK D,hr.1,hD'⟩ n (λm hm=>⟨S m (Nat.le_of_lt hm),EM m (Nat.le_of_lt hm) D _⟩) hr (by rw[hgens];rfl) (by rw[hgens];rfl) hg F ⟨T,Ik,JQ⟩ rfl (bz _) gd λs' T' acc' k'=>?_
  ·have kA:Kp s s':=by
    refine⟨λb o J p e=>k'.heap b o (λq=>?_) p (kk.keep b o p (fe.keep b o p e)),k'.os.trans (kk.os.trans fe.os),λq=>k'.gens (kk.gens (fe.gens q)),λt=>k'.tab (kk.tab (fe.tab t))⟩;have lt:=ltD b (by rw[fe.keep b o p e];simp);rcases q with q|q|q
    ·exact bT.mpr (locs b q) (bM lt)
    ·rw[(hwr b q).1]at e;cases e
    ·exact be lt q
   refine hQ D (D+1) s' kA (fe.non nD) ((AK D).ex _ _ _ acc') (hD▸A7 HH.base) (fe.non (noneOf _ (dU _))) (be (gC _)) T'.ev.ns ?_;refine(AK D).keep _ _ _ _ _ acc' ((AK D).ex _ _ _ acc') (λJ e=>e) (bI.refl _ _) λa e q=>?_;rcases q with q|q|q
   ·exact .inl (.inl q)
   ·exact .inl (.inr q)
   ·refine q▸?_
    exact T'.vl
 have cls0:(clausesOf e)[0]?=some g:=by rw[hcls];rfl
 have asy:(Option.elim (some g) false λx=>x.is_async != 0)=false:=by show(g.is_async != 0)=false;rw[has];rfl
 show codeAny (model ag w) A (.compStart e 0 (.ref I) (.ref D) (eM scope env (D+1) cl)) (compPost (model ag w) A EF use Q (.ref D) (D+1)) { aX with heap:=pushCells ((aX.heap.push nob).push { cls:=.type "dict",data:=.dict #[] }) scope.names }
 rw[e4,hh4];refine codeAny_of_tree ?_;rw[(K D _).under2,(K D _).den2];refine wpAny_notedAt ?_;refine wpAny_mono (E:=EF) ?_ (λJ J x=>x) λJ J x=>x.elim;unfold compStart;rw[cls0,asy];simp only[bU,if_false];refine wpAny_bind (wpAny_askSetting ?_);split
 ·exact wpAny_pure ⟨(K D _).quiet _ _,hrow⟩
 ·refine wpAny_bind (wpAny_rule (wpAny_bind (wpAny_standAt (wpAny_bind (wpAny_mono (W.self 0 _ Ik) (λit' s' q=>?_) λJ J x=>x)))))
  rw[q.1,q.2];exact wpAny_pure ⟨(K D _).quiet _ _,hrow⟩
end
end Mine
end
section
namespace Mine
section
variable{A:Around}{s:Shared}{V H:Addr->Prop}{env:Env}{sc:Sc}{σ:SE}
variable{o:cS}{r n:Nat}
theorem eu.push{h:Heap}{o:Obj}(l:eu V h):eu V (h.push o):=by
 refine⟨λa v p n=>?_,l.tab.keep λJ e=>af _ e,l.pt⟩
 cases e:h.get? a with
 |none=>exact l.ex a v p e
 |some ob=>exact nomatch (af _ e).symm.trans n
structure rE(G:GX ag w):Prop where
 range:cq G ("range":Str) (.type "range")
 enum:cq G ("enumerate":Str) (.type "enumerate")
 zip:cq G ("zip":Str) (.type "zip")
theorem xO{n:String}(h:keeperOf (.type n)=pure .machine):ij G (.type n):=λJ J=>⟨.machine,.inr (.inl rfl),.of_pure h⟩
theorem lC{t:Expr}(h:iA t=true):∃es k pos,t=.Tuple es k pos:=by
 refine xE (hJ.mp h) ?_;intro es he;refine yo (kN he) ?_;intro k q e;exact⟨es,k,q,e⟩
theorem xH{t:Expr}{p:PV}{v:Value}{items:List PV}(hh:A.handled=none)(lo:eu V s.heap)(h:ms t p=some items)(x:G.Rep s.heap V p v):wpAny (model ag w) A (pyIter v) (jg G A V t items s) EF s:=by
 refine io h λhc h=>?_
 cases p with
 |its l=>
  refine C2 (lC (t:=t) ((mZ _).symm.trans hc)) ?_;rintro es k pos rfl;exact fz h λJ h=>by rw[bD h];exact DL hh lo x
 |lst l=>exact fz h λJ h=>by rw[bD h];exact Bd hh lo x
 |tup l=>exact fz h λJ h=>by rw[bD h];exact Ev hh lo x
 |dct l=>exact fz h λJ h=>by rw[bD h];exact D7 hh lo x
 |vals l=>exact fz h λJ h=>by rw[bD h];exact Cm hh lo x
 |str x'=>exact fz h λJ h=>by rw[bD h];exact Eu hh lo x
 |_=>exact nn h
theorem AV{t:Expr}{items:List PV}{s aH aX:Shared}{v:Value}(k:Kp s aH)(x:jg G A V t items aH v aX)(tb:ki s.heap:=by first|assumption|exact eu.tab (by assumption)|exact eu.tab (bX.low (by assumption))|exact eu.tab (bX.low (cX.ev (by assumption)))|exact eu.tab (bX.low (cX.ev (cZ.st (by assumption))))):jg G A V t items s v aX:=by
 refine n9 x ?_;clear x;intro I wr e k' hw m;exact⟨I,wr,e,k.trans k',λb hb=>⟨k.non (hw b hb).1,(hw b hb).2⟩,m⟩
theorem xK{e:Expr}(h:yA e=false):∀x,foldedSetIterable e env x=pure x:=λx=>by
 cases e with
 |Set a b c=>exact nomatch (show true=false from h)
 |_=>rfl
def Lv(G:GX ag w)(A:Around)(V:Addr->Prop)(s:Shared)(env:Env)(t e:Expr)(items:List PV):Prop:=wpAny (model ag w) A (eval e env) (λx aH=>wpAny (model ag w) A (pyIter x) (jg G A V t items s) EF aH) EF s
theorem pX{t:Expr}{items:List PV}{s aH:Shared}{m:Sem Value}(k:Kp s aH)(h:wpAny (model ag w) A m (jg G A V t items aH) EF aH)(tb:ki s.heap:=by first|assumption|exact eu.tab (by assumption)|exact eu.tab (bX.low (by assumption))|exact eu.tab (bX.low (cX.ev (by assumption)))|exact eu.tab (bX.low (cX.ev (cZ.st (by assumption))))):wpAny (model ag w) A m (jg G A V t items s) EF aH:=cG h λJ J g=>AV k g
theorem pO(S:iY G o r n){t:Expr}{f:Str}{tn:String}{items:List PV}{vs:List PV}{fp p:Pos}{args:List Expr}(hr:br A (n+r))(O:bX G env sc σ V H s)(hg:bR sc σ f=true)(gl:cq G f (.type tn))(kp:keeperOf (.type tn)=pure .machine)(hv:dK (ev o n sc σ) args=some vs)
  (h:∀us aH,bX G env sc σ V H aH->G.RepL aH.heap V vs us->wpAny (model ag w) A (call (.type tn) us) (λx aX=>wpAny (model ag w) A (pyIter x) (jg G A V t items aH) EF aX) EF aH):Lv G A V s env t (.Call (.Name f fp) args [] p) items:=by
 refine xA (dS hg) ?_;intro hx hl;refine wpAny_Call_ofName (iC O hx hl gl (cL (xO kp) (fS hv) (cG (cH S hr hv O) λus aH q=>⟨O.base.kp q.2,?_⟩)));exact cG (h us aH (O.kp q.2) q.1) λx aX g=>cG g λJ J z=>AV q.2 z
theorem EU{t:Expr}{vs:List PV}{items:List PV}{us:List Value}{aH:Shared}(hh:A.handled=none)(lo:eu V aH.heap)(h:DN vs=some items)(ru:G.RepL aH.heap V vs us):wpAny (model ag w) A (call (.type "range") us) (λx aX=>wpAny (model ag w) A (pyIter x) (jg G A V t items aH) EF aX) EF aH:=by
 cases vs with
 |nil=>exact nn h
 |cons a vs=>cases us with
  |nil=>exact False.elim ru
  |cons ua us=>
   refine b9 (x:=cb a) (f:=λi=>match vs with
  | []=>if fV i=true then some (ie 0 i) else none
  |b::r=>match r with
   | []=>(cb b).bind λj=>if(fV i && fV j)=true then some (ie i j) else none
   |_::_=>none) h λi hi h=>?_
   refine xE (j5  hi ru.1) ?_;rintro u rfl
   cases vs with
   |nil=>cases us with
    |cons _ _=>exact False.elim ru.2
    |nil=>exact fz h λhb h=>by rw[bD h];exact call_range_1 (pX dF (sK hh lo.push (by decide) hb (IsRange.new _ _ _ _ _ _ _)))
   |cons b vs=>cases us with
    |nil=>exact False.elim ru.2
    |cons ub us=>cases vs with
     |cons _ _=>exact nn h
     |nil=>cases us with
      |cons _ _=>exact False.elim ru.2.2
      |nil=>
       refine b9 (x:=cb b) h λj hj h=>fz h λhb h=>?_;refine xE (j5  hj ru.2.1) ?_;rintro u' rfl;rw[bD h];exact call_range_2 (pX dF (sK hh lo.push (gw hb).1 (gw hb).2 (IsRange.new _ _ _ _ _ _ _)))
theorem Dj{a:PV}{l:List PV}(h:HO a=some l):a=.lst l\/∃d,a=.dct d/\l=d.map λkv=>.int kv.1:=by
 cases a<;>first|exact nn h|exact .inl (congrArg PV.lst (Option.some.inj h))|exact .inr ⟨_,rfl,(Option.some.inj h).symm⟩
theorem GE{es:List Expr}{k:Nat}{pos:Pos}{vs:List PV}{items:List PV}{us:List Value}{aH:Shared}(hh:A.handled=none)(lo:eu V aH.heap)(h:(j8 vs).bind AS=some items)(ru:G.RepL aH.heap V vs us):wpAny (model ag w) A (call (.type "enumerate") us) (λx aX=>wpAny (model ag w) A (pyIter x) (jg G A V (.Tuple es k pos) items aH) EF aX) EF aH:=by
 refine b9 h λa ha h=>b9 h λl hl h=>fz h λJ h=>?_;rw[fi ha]at ru;refine bC (RepL.one ru) ?_;rintro v rfl rv;rw[bD h];rcases Dj hl with e|⟨d,e,e'⟩
 ·rw[e]at rv;exact BL hh lo rv
 ·rw[e]at rv;rw[e'];exact yD hh lo rv
theorem Ja{es:List Expr}{k:Nat}{pos:Pos}{vs:List PV}{items:List PV}{us:List Value}{aH:Shared}(hh:A.handled=none)(lo:eu V aH.heap)(h:Hy vs=some items)(ru:G.RepL aH.heap V vs us):wpAny (model ag w) A (call (.type "zip") us) (λx aX=>wpAny (model ag w) A (pyIter x) (jg G A V (.Tuple es k pos) items aH) EF aX) EF aH:=by
 cases vs with
 |nil=>exact nn h
 |cons a vs=>
  have h:(j8 vs).bind (λb=>cW (λ(l m:List PV)=>if l.length<=1048576 && m.length<=1048576 then some (lW l m) else none) (ju a) (ju b))=some items:=h;refine b9 h λb hb h=>bY h λl m hl hm h=>fz h λJ h=>?_;rw[fi hb]at ru;refine kh (RepL.two ru) ?_;rintro v v' rfl rv rv';rw[bD h];exact Fz hh lo (iH hl▸rv) (iH hm▸rv')
theorem xC{e:Expr}{q:Str×List Expr}(h:nv sc σ e=some q):(∃fp p,e=.Call (.Name q.1 fp) q.2 [] p)/\bR sc σ q.1=true/\(q.1="range"\/q.1="enumerate"\/q.1="zip"):=by
 refine b9 h λq' hq h=>io h λhc h=>?_;rw[bD h];refine xA (gw hc) ?_;intro h1 h2;refine⟨uC hq,h1,?_⟩;rcases eO.mp h2 with h2|h2
 ·rcases eO.mp h2 with h2|h2
  ·exact .inl (beq_iff_eq.mp h2)
  ·exact .inr (.inl (beq_iff_eq.mp h2))
 ·exact .inr (.inr (beq_iff_eq.mp h2))
theorem wZ(IO:rE G)(S:iY G o r n){t:Expr}{f:Str}{vs items:List PV}{fp p:Pos}{args:List Expr}(hr:br A (n+r))(O:bX G env sc σ V H s)(hg:bR sc σ f=true)(hf:f="range"\/f="enumerate"\/f="zip")(hv:dK (ev o n sc σ) args=some vs)
  (h:FH f (iA t) vs=some items):Lv G A V s env t (.Call (.Name f fp) args [] p) items:=by
 rcases hf with rfl|rfl|rfl
 ·exact pO S hr O hg IO.range rfl hv λus aH mF ru=>EU hr.1 mF.low h ru
 ·have h:gd (iA t) ((j8 vs).bind AS)=some items:=h
  refine io h λht h=>?_;refine C2 (lC ht) ?_;rintro es k pos rfl;exact pO S hr O hg IO.enum rfl hv λus aH mF ru=>GE hr.1 mF.low h ru
 ·have h:gd (iA t) (Hy vs)=some items:=h
  refine io h λht h=>?_;refine C2 (lC ht) ?_;rintro es k pos rfl;exact pO S hr O hg IO.zip rfl hv λus aH mF ru=>Ja hr.1 mF.low h ru
theorem D1(IO:rE G)(S:iY G o r n){t e:Expr}{items:List PV}(hr:br A (n+1+r))(h:evI o (n+1) sc σ t e=some items)(O:bX G env sc σ V H s):
  (∀x,foldedSetIterable e env x=pure x)/\Lv G A V s env t e items:=by
 have hr':br A (n+r):=hr.le (pn [_,_] 0x0DA1A180A10);have h:gd (!yA e) (match nv sc σ e with
  |some q=>(dK (ev o n sc σ) q.2).bind (FH q.1 (iA t))
  |none=>(ev o n sc σ e).bind (ms t))=some items:=h
 refine io h λhn h=>⟨xK (by simpa using hn),?_⟩
 cases hk:nv sc σ e with
 |some q=>
  rw[hk]at h;refine iQ (xC hk) ?_;rintro⟨fp,p,e'⟩ hg hf;rw[e'];exact b9 h λvs hv h=>wZ IO S hr' O hg hf hv h
 |none=>
  rw[hk]at h;exact b9 h λp hp h=>cG (S.ev hr' hp O) λv aH q=>pX q.2 (xH hr.1 (O.low.kp q.2) h q.1)
theorem JE(h:Heap)(V:Addr->Prop):D2 G h.objs.size V [] (h.push { cls:=.type "list",data:=.seq ([]:List Value).toArray }):=
 ⟨[],⟨_,ay _ rfl⟩,trivial⟩
theorem IY(h:Heap)(V:Addr->Prop):CG G h.objs.size V [] (h.push { cls:=.type "dict",data:=.dict #[] }):=
 ⟨[],[],Heap.DictOf.new _,rfl,trivial⟩
theorem LS(s:Shared)(Q:Value->Shared->Prop)(h:Q (.ref s.heap.objs.size) { s with heap:=s.heap.push { cls:=.type "list",data:=.seq ([]:List Value).toArray } }):wpAny (model ag w) A (newList []) Q EF s:=
 wpAny_newObj_type h (by show([]:List Value).toArray.size<=sizeLine;simp)
theorem LF(s:Shared)(Q:Value->Shared->Prop)(h:Q (.ref s.heap.objs.size) { s with heap:=s.heap.push { cls:=.type "dict",data:=.dict #[] } }):wpAny (model ag w) A newDict Q EF s:=by
 unfold newDict newObj;exact wpAny_bind (wpAny_alloc (wpAny_pure h))
def yc(G:GX ag w)(V:Addr->Prop)(D C:Addr)(p:PV)(h:Heap):Prop:=jN G h (λa=>(V a\/a=C)\/a=D) (·=D) p (.ref D)
theorem LE{D C:Addr}{new:List (PV×PV)}{h h':Heap}(ne:D≠C)(a:D2 G D (λa=>V a\/a=D\/a=C) new h)(sb:cI C h h'):yc G V D C (.lst (new.map (·.2))) h':=by
 refine bC a ?_;clear a;rintro vs ⟨n,q⟩ rl;exact⟨D,rfl,rfl,vs,⟨n,(sb.2 D ne).trans q⟩,RepL.keep (λb o n e=>sb.extBut b o (λq=>n (.inr (.inr q))) e) (λa J x=>x.elim (λx=>x.elim .inl λx=>.inr (.inr x)) λx=>.inr (.inl x)) rl⟩
theorem Ln{D C:Addr}{new:List (PV×PV)}{l:List (Int×PV)}{h h':Heap}(z:(D == sysModules)=false)(ne:D≠C)(a:CG G D (λa=>V a\/a=D\/a=C) new h)
  (hl:cD new []=some l) (sb:cI C h h'):yc G V D C (.dct l) h':=by
 refine kh a ?_;clear a;rintro kvs l' ⟨ob,es,ep,q,zz⟩ e rd;rw[hl]at e;cases e;exact⟨D,rfl,rfl,z,kvs,⟨ob,es,ep,(sb.2 D ne).trans q,zz⟩,RepD.keep (λb o n e=>sb.extBut b o (λq=>n (.inr (.inr q))) e) (λa J x=>x.elim (λx=>x.elim .inl λx=>.inr (.inr x)) λx=>.inr (.inl x)) rd⟩
theorem Ed{D C:Addr}{p:PV}{s':Shared}{h':Heap}(k:Kp s s')(nD:s.heap.get? D=none)(eD:s'.heap.get? D≠none)(nC:s.heap.get? C=none)(ne:D≠C)(sb:cI C s'.heap h')(t:yc G V D C p h'):Made G V s p (.ref D) { s' with heap:=h' }:=by
 refine⟨(·=D),λa e=>?_,jN.keep (bI.refl _ _) (λJ J J e=>e) (λa J x=>x.elim (λx=>.inl (.inl x)) .inr) t,?_⟩
 ·subst e
  refine⟨nD,?_⟩;show h'.get? a≠none;rw[sb.2 a ne];exact eD
 ·exact⟨λb o J p e=>sb.extBut b o (λq=>by rw[q,nC]at e;cases e) (k.keep b o p e),k.os,k.gens,λt=>.keep (λo e=>sb.extBut _ o (λq=>t.some (by rw[q];exact nC)) e) (k.tab t)⟩
theorem rM{g:Comprehension}{gs:List Comprehension}:firstIter (g::gs) env=eval g.iter env:=by
 obtain⟨a,b,c,d⟩:=g;rfl
theorem H4{h:Heap}{C:Addr}(x:∃m,h.Ns C m):h.get? C≠none:=let⟨_,_,_,_,e,_⟩:=x;bw e
theorem t9{g:Comprehension}{gs:List Comprehension}{items:List PV}{elt:Expr}{key:Option Expr}{rs:List (PV×PV)}{scN:Sc}{σ:SE}(h:lJ o n scN σ g items gs elt key=some rs):firstAsync (g::gs)=false:=by
 have:=zo (vh h)
 obtain⟨a,b,c,d⟩:=g;exact this
noncomputable def AU(G:GX ag w)(A:Around)(V:Addr->Prop)(s:Shared)(p:PV)(use:Option (Value->Sem Unit))(Q:Value->Shared->Prop):Prop:=
 ∀(D C:Addr) (s':Shared),Kp s s'->s.heap.get? D=none->s'.heap.get? D≠none->s.heap.get? C=none->D≠C->s'.heap.get? C≠none->(∃m,s'.heap.Ns C m)->(∀h',cI C s'.heap h'->yc G V D C p h')->compPost (model ag w) A EF use Q (.ref D) C (.ok .next) s'
theorem uM{elt:Expr}{gens:List Comprehension}{scope:Scope}{pos:Pos}{p:PV}{use:Option (Value->Sem Unit)}{Q:Value->Shared->Prop}(S:∀m,m<=n->iY G o r m)(hr:br A (n+r))(O:bX G env sc σ V H s)(hQ:AU G A V s p use Q)(h:ev o (n+1) sc σ (.ListComp elt gens scope pos)=some p):
  wpAny (model ag w) A (comprehension (.ListComp elt gens scope pos) scope env (firstIterPos gens pos) (newList []) (firstAsync gens) (firstIter gens env) use) Q EF s:=by
 have h:gd (fO sc scope) (match gens with
    | []=>none
    |g::gs=>(evI o n sc σ g.target g.iter).bind λitems=>(lJ o n scope.names (jF scope σ) g items gs elt none).bind λrs=>rn (rs.map (·.2)))=some p:=h
 refine io h λhok h=>?_
 cases gens with
 |nil=>exact nn h
 |cons g gs=>
  refine b9 h λitems hit h=>b9 h λrs hrs h=>fz h λhz h=>?_;have h:=bD h;subst h;rw[t9 hrs,rM];refine ui (n:=n) (g:=g) (gs:=gs) (Acc:=D2 G) (Gd:=JS) (emit:=λacc cenv=>do let _ <- call (.builtin "list.append") [acc,<- eval elt cenv]) (elt:=elt) (key:=none) LS rfl (λD cenv=>zQ) (λD=>BJ) rfl S (λm hm D cenv=>Kf (S m hm)) JE ?_ hr hok hit hrs O ?_
  ·unfold JS;rw[aa]at hz;exact hz
  ·exact λD C s' k nD eD J nC ne hns acc=>hQ D C s' k nD eD nC ne (H4 hns) hns λh' sb=>LE ne acc sb
theorem uI{kx v:Expr}{gens:List Comprehension}{scope:Scope}{pos:Pos}{p:PV}{use:Option (Value->Sem Unit)}{Q:Value->Shared->Prop}(S:∀m,m<=n->iY G o r m)(hr:br A (n+r))(O:bX G env sc σ V H s)(hQ:AU G A V s p use Q)(h:ev o (n+1) sc σ (.DictComp kx v gens scope pos)=some p):
  wpAny (model ag w) A (comprehension (.DictComp kx v gens scope pos) scope env (firstIterPos gens pos) newDict (firstAsync gens) (firstIter gens env) use) Q EF s:=by
 have h:gd (fO sc scope) ((j8 gens).bind λg=>
    (evI o n sc σ g.target g.iter).bind λitems=>(lJ o n scope.names (jF scope σ) g items [] v (some kx)).bind λrs=>if rs.length<=1048576 then(cD rs []).map PV.dct else none)=some p:=h
 refine io h λhok h=>b9 h λg hg1 h=>b9 h λitems hit h=>b9 h λrs hrs h=>fz h λhz h=>?_;obtain⟨l,hl,hp⟩:∃l,cD rs []=some l/\p=.dct l:=md (C:=λp=>∃l,cD rs []=some l/\p=.dct l) h λl hl=>⟨l,hl,rfl⟩;have hg2:=fi hg1;subst hg2;subst hp;rw[t9 hrs,rM];refine ui (n:=n) (g:=g) (gs:=[]) (Acc:=CG G) (Gd:=Ly) (emit:=λacc cenv=>match acc with
   | .ref D=>do
    let kv <- eval kx cenv
    let vv <- holding [kv] (eval v cenv)
    standAt { kx.pos with endLine:=v.pos.endLine,endCol:=v.pos.endCol }
    holding [kv,vv] (dictSet D kv vv)
   |_=>pure ()) (elt:=v) (key:=some kx) LF rfl (λD cenv=>yO) (λD=>Bs) rfl S (λm hm D cenv=>Kv (S m hm)) IY ⟨hz,l,hl⟩ hr hok hit hrs O ?_
 exact λD C s' k nD eD z nC ne hns acc=>hQ D C s' k nD eD nC ne (H4 hns) hns λh' sb=>Ln z ne acc hl sb
theorem DR{p:PV}:AU G A V s p none (Made G V s p):=λD C s' k nD eD nC ne eC hns mk=>by
 refine xE hns ?_;clear hns;intro m hm;exact⟨m,hm,λh' sb=>Ed k nD eD nC ne sb (mk h' sb)⟩
end
end Mine
end
section
namespace Mine
section
variable{A:Around}{s:Shared}{V H:Addr->Prop}{env:Env}{sc:Sc}{σ:SE}
variable{o:cS}{r n:Nat}
theorem BQ{ps:List PV}{vs:List Value}{p:PV}(e:rn ps=some p)(x:G.RepL s.heap V ps vs):wpAny (model ag w) A (newList vs) (Made G V s p) EF s:=by
 refine fz e λhz e=>?_;rw[bD e];refine wpAny_newObj_type ?_ (so hz x);refine⟨(·=s.heap.objs.size),λa e=>?_,⟨_,rfl,rfl,vs,⟨_,ay _ rfl⟩,?_⟩,dF (tk:=s.toks)⟩
 ·subst e
  exact⟨dC,by show(s.heap.push _).get? _≠none;rw[ay _ rfl];simp⟩
 ·exact RepL.keep (λb o J e=>af _ e) (λa e q=>q.elim id λq=>absurd (q▸dC) e) x
theorem rL(S:∀m,m<=n->iY G o r m){e:Expr}{p:PV}(hm:pe e=true)(hr:br A (n+r))(h:ev o (n+1) sc σ e=some p)(O:bX G env sc σ V H s):wpAny (model ag w) A (eval e env) (Made G V s p) EF s:=by
 have Sn:=S n (aK _)
 cases e with
 |List es pos=>exact b9 (x:=dK (ev o n sc σ) es) (f:=rn) h λps hps h=>PyProof.Rows.List_ (cG (cH Sn hr hps O) λvs aH q=>cG (BQ h q.1) λJ J g=>A1 q.2 g)
 |Dict ks vs pos=>
  refine BR Sn hr h O λl kvs s' e hd rd k=>?_;rw[e];refine⟨(·=s.heap.objs.size),λa e=>?_,⟨_,rfl,rfl,A7 O.base,kvs,hd,rd⟩,k⟩;rw[show a=s.heap.objs.size from e];exact⟨dC,lU hd⟩
 |ListComp=>exact uM S hr O DR h
 |DictComp=>exact uI S hr O DR h
 |_=>exact nomatch (show false=true from hm)
theorem GR(OO:gF G o r)(MO:u3 G r)(IO:rE G):∀n,iY G o r n:=by
 intro n
 induction n using Nat.strongRecOn with
 |ind n ih=>
  cases n with
  |zero=>exact⟨λJ h=>nn h,λJ h=>nn h,λJ h=>nn h,λJ h=>nn h,λJ h=>nn h,λJ h=>nn h,λJ h=>nn h,λJ h=>nn h⟩
  |succ n=>
   have S:∀m,m<=n->iY G o r m:=λm hm=>ih m (Nat.lt_succ_of_le hm);have Sn:=S n (aK _);exact⟨GF OO MO Sn λhm hr h O=>cG (rL S hm (hr.le (pn [_,_] 0x0DA1A180A10)) h O) λJ J m=>yQ O.low m,Ea OO Sn,FF Sn,Du Sn,zw Sn,Br Sn,wG OO Sn,D1 IO Sn⟩
theorem CN(S:∀m,iY G o r m){e:Expr}{p:PV}(hm:pe e=true)(hr:br A (n+r))(h:ev o n sc σ e=some p)(O:bX G env sc σ V H s):wpAny (model ag w) A (eval e env) (Made G V s p) EF s:=by
 cases n with
 |zero=>exact nn h
 |succ n=>exact rL (λm J=>S m) hm (hr.le (pn [_,_] 0x0DA1A180A10)) h O
end
end Mine
end
section
namespace Mine
section
variable{A:Around}{s:Shared}{V H:Addr->Prop}{env:Env}{sc:Sc}{σ:SE}
variable{o:cS}{r n:Nat}{tag:Addr->Str}{P:Str->Value->Prop}
theorem Bo{vs:List Value}{ps:List PV}{k:Nat}{tk:Nat}(x:G.RepL s.heap V ps vs):
  Made G V s (.lst ps) (.ref s.heap.objs.size) { s with heap:=s.heap.push { cls:=.type "list",data:=.seq vs.toArray k },toks:=tk }:=by
 refine⟨(·=s.heap.objs.size),λa e=>?_,⟨_,rfl,rfl,vs,⟨_,ay _ rfl⟩,?_⟩,dF⟩
 ·subst e
  exact⟨dC,by show(s.heap.push _).get? _≠none;rw[ay _ rfl];simp⟩
 ·exact RepL.keep (λb o J e=>af _ e) (λa e q=>q.elim id λq=>absurd (q▸dC) e) x
theorem EQ{a b:PV}{p:PV}{va vb:Value}(e:jW .Add a b=some p)(ho:gM p=true)(ra:ej G s.heap V a va)(rb:G.Rep s.heap V b vb):
  wpAny (model ag w) A (binaryOp .Add va vb) (Made G V s p) EF s:=by
 have e:IR a b=some p:=e
 cases a with
 |int x=>exact md (C:=λp=>gM p=true->wpAny (model ag w) A (binaryOp .Add va vb) (Made G V s p) EF s) e (λy J h=>nomatch (show false=true from h)) ho
 |str x=>refine b9 e λy J e=>fz e λJ e=>?_;rw[bD e]at ho;exact nomatch (show false=true from ho)
 |lst x=>
  refine b9 e λy hy e=>fz e λhz e=>?_;refine g7 (eB ra) ?_;rintro l rfl vs hl r;refine bx (CU hy rb) ?_;rintro l' rfl _ us hl' r';rw[bD e];have h1:=of_decide_eq_true (gw hz).1;have h2:=of_decide_eq_true (gw hz).2;refine xE (rZ hl) ?_;intro n hl;refine xE (rZ hl') ?_;intro n' hl';refine PySem.P.add_list hl hl' ?_ (by rw[bn,aF,aF,<- RepL.length r,<- RepL.length r'];clear e hz ra rb hl hl' r r' ho;exact(pn [_,_] 0x0D0100000049A100D1000003910D100000390) h1 h2);rw[List.append_toArray];exact Bo (tk:=s.toks) (RepL.append r r')
 |_=>exact nn e
theorem xk(S:∀m,iY G o r m){e:Expr}{p:PV}(hm:jt e=true)(ho:gM p=true)(hr:br A (n+r))(h:ev o n sc σ e=some p)(O:bX G env sc σ V H s):wpAny (model ag w) A (eval e env) (Made G V s p) EF s:=by
 rcases eO.mp hm with hm|hm
 ·cases e with
  |BinOp l op rt pos=>
   have hop:op=.Add:=beq_iff_eq.mp hm;subst hop
   cases n with
   |zero=>exact nn h
   |succ n=>
    have hr':br A (n+r):=hr.le (pn [_,_] 0x0DA1A180A10);refine bY (f:=jW .Add) (x:=evP o n sc σ l) (y:=ev o n sc σ rt) h λa b ha hb h=>wpAny_BinOp (cG ((S n).evP hr' ha O) λva aH q=>cG ((S n).ev hr' hb (O.kp q.2)) λvb aX q'=>?_);exact cG (EQ h ho (oF q'.2 q.1) q'.1) λJ J g=>A1 (q.2.trans q'.2) g
  |_=>exact nomatch (show false=true from hm)
 ·exact CN S hm hr h O
structure cZ(G:GX ag w)(P:Str->Value->Prop)(env:Env)(sc:Sc)(σ:SE)(V H:Addr->Prop)(tag:Addr->Str)(s:Shared):Prop where
 st:cX G env sc σ V H s
 hv:∀a,H a->V a
 sep:∀x p,σ.lookup x=some (true,p)->∃v,dD env s.heap x v/\jN G s.heap V (λa=>H a/\tag a=x) p v
 fc:∀x c,env.cells.lookup x=some c->¬H c
 pin:∀x v,P x v->dD env s.heap x v
 np:∀x v,P x v->bh sc x=false
theorem cZ.pt{P:Str->Value->Prop}{env:Env}{sc:Sc}{σ:SE}{V H:Addr->Prop}{tag:Addr->Str}{s:Shared}(T:cZ G P env sc σ V H tag s):V PT:=T.st.pt
theorem kC{h:Heap}{x:Str}{v u:Value}(a:dD env h x v)(b:dD env h x u):v=u:=by
 rcases a with⟨k,m,hm,e⟩|⟨k,c,hc,ob,ho,hd⟩<;>rcases b with⟨k',m',hm',e'⟩|⟨k',c',hc',ob',ho',hd'⟩
 ·rw[Dn hm hm',e']at e;cases e;rfl
 ·rcases k' with q|q<;>(rw[k]at q;cases q)
 ·rcases k with q|q<;>(rw[k']at q;cases q)
 ·rw[hc]at hc';cases hc'
  rw[ho]at ho';cases ho';rw[hd]at hd';cases hd';rfl
theorem jN.mono{h:Heap}{V H H':Addr->Prop}(m:∀a,H a->H' a){p:PV}{v:Value}(x:jN G h V H p v):jN G h V H' p v:=by
 cases p with
 |lst l=>refine fJ x ?_;clear x;intro a e n q;exact⟨a,e,m a n,q⟩
 |dct l=>refine fJ x ?_;clear x;intro a e n q;exact⟨a,e,m a n,q⟩
 |obj c fs=>refine lB x ?_;clear x;intro a C d es ep e n q nd q2;exact⟨a,C,d,es,ep,e,m a n,q,m d nd,q2⟩
 |_=>exact x.elim
theorem cZ.notLoc{a:Addr}(W:cZ G P env sc σ V H tag s)(h:H a):¬lR env sc a:=by
 rintro(rfl|⟨x,h1,h2⟩)
 ·exact W.st.hl h
 ·exact W.st.hc x a h1 h2 h
theorem cZ.kp{s':Shared}(W:cZ G P env sc σ V H tag s)(k:Kp s s'):cZ G P env sc σ V H tag s':=
 ⟨W.st.kp k,W.hv,λx p e=>by
  refine bC (W.sep x p e) ?_;intro v hv t;exact⟨v,hv.keep (H:=H) λa o h e=>k.keep _ _ (W.st.ev.npt h) e,jN.keep (Kp.hk k) (λa o h e=>k.keep _ _ (W.st.ev.npt (.own h.1)) e) (λJ J x=>x) t⟩,W.fc,λx v q=>(W.pin x v q).keep (H:=H) λa o h e=>k.keep _ _ (W.st.ev.npt h) e,W.np⟩
theorem cZ.sub{aL:SE}(W:cZ G P env sc σ V H tag s)(h:∀x q,aL.lookup x=some q->σ.lookup x=some q):cZ G P env sc aL V H tag s:=
 ⟨W.st.sub h,W.hv,λx p e=>W.sep x p (h x _ e),W.fc,W.pin,W.np⟩
def gN(G:GX ag w)(h:Heap)(V H:Addr->Prop)(tag:Addr->Str)(x:Str)(b:Bool)(p:PV)(v:Value):Prop:=if b then jN G h V (λa=>H a/\tag a=x) p v else G.Rep h V p v
theorem gN.slot{h:Heap}{x:Str}{b:Bool}{p:PV}{v:Value}(z:gN G h V H tag x b p v):jq G h V H b p v:=by
 cases b with
 |true=>exact jN.mono (λJ q=>q.1) (z:jN G h V _ p v)
 |false=>exact z
theorem gN.keep{h h':Heap}{x:Str}{b:Bool}{p:PV}{v:Value}(k:bI V h h')(kH:∀a o,H a->h.get? a=some o->h'.get? a=some o)(z:gN G h V H tag x b p v):gN G h' V H tag x b p v:=by
 cases b with
 |true=>exact jN.keep k (λa o h=>kH a o h.1) (λJ J x=>x) (z:jN G h V _ p v)
 |false=>exact Rep.keep k (λJ J x=>x) (z:G.Rep h V p v)
theorem cZ.store{x:Str}{b:Bool}{p:PV}{v:Value}(W:cZ G P env sc σ V H tag s)(hm:bh sc x=true)(r:gN G s.heap V H tag x b p v):
  wpAny (model ag w) A (storeName env x v) (λJ s'=>cZ G P env sc (SE.put σ x (b,p)) V H tag s'/\cR (lR env sc) s s') EF s:=by
 refine wpAny_mono (sU W.st hm r.slot) (λJ s' g=>⟨⟨g.1.1,W.hv,λy q e=>?_,W.fc,λy u q=>g.2.2 y u (λe=>by have:=W.np y u q;rw[e,hm]at this;cases this) (W.pin y u q),W.np⟩,g.1.2⟩) λJ J x=>x;have kH:∀a o,H a->s.heap.get? a=some o->s'.heap.get? a=some o:=λa o h e=>g.1.2.heap a o (W.notLoc h) (W.st.ev.npt (.own h)) e;rw[en]at e;by_cases hy:y=x
 ·subst hy
  rw[if_pos rfl]at e;cases e;exact⟨v,g.2.1,(r.keep (g.1.2.loc W.st) kH:gN G s'.heap V H tag y true _ v)⟩
 ·rw[if_neg hy]at e
  refine bC (W.sep y q e) ?_;intro u hu t;exact⟨u,g.2.2 y u hy hu,jN.keep (g.1.2.loc W.st) (λa o h e=>kH a o h.1 e) (λJ J x=>x) t⟩
theorem cZ.name{x:Str}{pos:Pos}{b:Bool}{p:PV}{v:Value}(W:cZ G P env sc σ V H tag s)(hm:bh sc x=true)(r:gN G s.heap V H tag x b p v):
  wpAny (model ag w) A (assign (.Name x pos) env v) (λJ s'=>cZ G P env sc (SE.put σ x (b,p)) V H tag s'/\cR (lR env sc) s s') EF s:=
 wpAny_assign_Name (W.store hm r)
open Classical in
theorem cZ.grow{N:Addr->Prop}{x:Str}{s':Shared}(W:cZ G P env sc σ V H tag s)(k:Kp s s')(hN:∀a,N a->s.heap.get? a=none/\s'.heap.get? a≠none):
  cZ G P env sc σ (λa=>V a\/N a) (λa=>H a\/N a) (λa=>if N a then x else tag a) s':=by
 refine⟨W.st.grow k hN hN,λa h=>h.imp (W.hv a) id,λy q e=>?_,λy c e h=>h.elim (W.fc y c e) λh=>W.st.ev.hex c (.cell e) (hN c h).1,λy u q=>(W.pin y u q).keep (H:=H) λa o h e=>k.keep _ _ (W.st.ev.npt h) e,W.np⟩;refine bC (W.sep y q e) ?_;intro u hu t;refine⟨u,hu.keep (H:=H) λa o h e=>k.keep _ _ (W.st.ev.npt h) e,jN.mono (H:=λa=>H a/\tag a=y) (λa h=>⟨.inl h.1,?_⟩) (jN.keep (Kp.hk k) (λa o h e=>k.keep _ _ (W.st.ev.npt (.own h.1)) e) (λa e q=>q.elim id λq=>absurd (hN a q).1 e) t)⟩;rw[if_neg]
 ·exact h.2
 ·intro hn
  exact W.st.ev.hex a (.own h.1) (hN a hn).1
structure ky(V H V' H':Addr->Prop)(s:Shared):Prop where
 v:∀a,V a->V' a
 v':∀a,V' a->V a\/s.heap.get? a=none
 h:∀a,H a->H' a
 h':∀a,H' a->H a\/s.heap.get? a=none
theorem ky.refl:ky V H V H s:=⟨λJ x=>x,λJ x=>.inl x,λJ x=>x,λJ x=>.inl x⟩
def Nx(G:GX ag w)(P:Str->Value->Prop)(env:Env)(sc:Sc)(V H:Addr->Prop)(aL:SE)(s s':Shared):Prop:=
 ∃V' H' tag',cZ G P env sc aL V' H' tag' s'/\ky V H V' H' s/\cR (j9 env sc H) s s'
noncomputable def dg(G:GX ag w)(P:Str->Value->Prop)(env:Env)(sc:Sc)(V H:Addr->Prop)(s:Shared):Fl->SE->Flow->Shared->Prop
 | .next,aL,f,s'=>f=.next/\Nx G P env sc V H aL s s'
 | .brk,aL,f,s'=>f=.brk/\Nx G P env sc V H aL s s'
 | .ret p,_,f,s'=>∃v,f=.ret v/\∃V' H':Addr->Prop,ky V H V' H' s/\G.Rep s'.heap (λa=>V' a/\¬H' a) p v/\cR (j9 env sc H) s s'
theorem cR.locOwn{s s':Shared}(k:cR (lR env sc) s s'):cR (j9 env sc H) s s':=k.mono λJ q=>.inl q
theorem ky.trans{V' H' V'' H'':Addr->Prop}{aL:SE}{tag':Addr->Str}{s':Shared}(W:cZ G P env sc σ V H tag s)(x:ky V H V' H' s)(W':cZ G P env sc aL V' H' tag' s')(k:cR (j9 env sc H) s s')(y:ky V' H' V'' H'' s'):ky V H V'' H'' s:=by
 have ex:∀a,s'.heap.get? a=none->s.heap.get? a=none:=λa e=>by
  cases q:s.heap.get? a with
  |none=>rfl
  |some ob=>
   by_cases p:a=PT
   ·exact absurd (p▸e) W'.st.ev.low.tab.some
   by_cases oa:j9 env sc H a
   ·exact absurd e (W'.st.ev.low.some (x.v a (W.st.own W.hv oa)))
   ·rw[k.heap a ob oa p q]at e;cases e
 exact⟨λa q=>y.v a (x.v a q),λa q=>(y.v' a q).elim (x.v' a) λq=>.inr (ex a q),λa q=>y.h a (x.h a q),λa q=>(y.h' a q).elim (x.h' a) λq=>.inr (ex a q)⟩
theorem uk{V' H':Addr->Prop}{s' s'':Shared}(x:ky V H V' H' s)(k:cR (j9 env sc H) s s')(k':cR (j9 env sc H') s' s''):cR (j9 env sc H) s s'':=
 ⟨λb ob n p e=>k'.heap b ob (λq=>q.elim (λq=>n (.inl q)) λq=>(x.h' b q).elim (λq=>n (.inr q)) λq=>by rw[q]at e;cases e) p (k.heap b ob n p e),k'.os.trans k.os,λg=>k'.gens (k.gens g),λt=>k'.tab (k.tab t)⟩
theorem Nx.trans{V' H':Addr->Prop}{aL iL:SE}{tag':Addr->Str}{s' s'':Shared}(W:cZ G P env sc σ V H tag s)(x:ky V H V' H' s)(W':cZ G P env sc aL V' H' tag' s')(k:cR (j9 env sc H) s s')(y:Nx G P env sc V' H' iL s' s''):Nx G P env sc V H iL s s'':=by
 refine C4 y ?_;clear y;intro V2 H2 tag2 w2 e2 k2;exact⟨V2,H2,tag2,w2,ky.trans W x W' k e2,uk x k k2⟩
theorem dg.trans{V' H':Addr->Prop}{aL iL:SE}{tag':Addr->Str}{s' s'':Shared}{fl:Fl}{f:Flow}(W:cZ G P env sc σ V H tag s)(x:ky V H V' H' s)(W':cZ G P env sc aL V' H' tag' s')(k:cR (j9 env sc H) s s')(y:dg G P env sc V' H' s' fl iL f s''):dg G P env sc V H s fl iL f s'':=by
 cases fl with
 |next=>exact⟨y.1,Nx.trans W x W' k y.2⟩
 |brk=>exact⟨y.1,Nx.trans W x W' k y.2⟩
 |ret p=>
  refine pf y ?_;clear y;intro v e V2 H2 e2 rp k2;exact⟨v,e,V2,H2,ky.trans W x W' k e2,rp,uk x k k2⟩
theorem dg.kp{aL:SE}{aH s':Shared}{fl:Fl}{f:Flow}(W:cZ G P env sc σ V H tag s)(k:Kp s aH)(y:dg G P env sc V H aH fl aL f s'):dg G P env sc V H s fl aL f s':=
 dg.trans W ky.refl (W.kp k) (k.toU _) y
theorem yH{x:Str}{pos:Pos}{p:PV}{v:Value}{aH:Shared}(W:cZ G P env sc σ V H tag s)(hm:bh sc x=true)(g:ca G V s p v aH):
  wpAny (model ag w) A (assign (.Name x pos) env v) (λJ s'=>Nx G P env sc V H (SE.put σ x (false,p)) s s') EF aH:=
 wpAny_mono ((W.kp g.2).name hm (b:=false) g.1) (λJ J q=>⟨V,H,tag,q.1,ky.refl,(g.2.toU _).trans q.2.locOwn⟩) λJ J x=>x
open Classical in
theorem BK{x:Str}{pos:Pos}{p:PV}{v:Value}{aH:Shared}(W:cZ G P env sc σ V H tag s)(hm:bh sc x=true)(g:Made G V s p v aH):
  wpAny (model ag w) A (assign (.Name x pos) env v) (λJ s'=>Nx G P env sc V H (SE.put σ x (true,p)) s s') EF aH:=by
 refine fJ g ?_;clear g;intro N hN t k;have W':=W.grow (x:=x) k hN;refine wpAny_mono (W'.name hm (b:=true) ?_) (λJ s' q=>⟨_,_,_,q.1,⟨λa h=>.inl h,λa h=>h.imp id λh=>(hN a h).1,λa h=>.inl h,λa h=>h.imp id λh=>(hN a h).1⟩,(k.toU _).trans q.2.locOwn⟩) λJ J x=>x;exact jN.mono (H:=N) (λa h=>⟨.inr h,if_pos h⟩) t
end
end Mine
end
section
namespace Mine
section
variable{A:Around}{s:Shared}{V H:Addr->Prop}{env:Env}{sc:Sc}{σ:SE}
variable{o:cS}{r n:Nat}{tag:Addr->Str}{P:Str->Value->Prop}
theorem qb(its:Array Value)(n j:Nat)(x:Value):
  ∃n',Obj.mapSeq (·.setIfInBounds j x) { cls:=.type "list",data:=.seq its n }={ cls:=.type "list",data:=.seq (its.setIfInBounds j x) n' }:=by
 simp[Obj.mapSeq]
theorem tm{l:Addr}{items:Array Value}{k:Int}{t:Tok}{v:Value}{Q:Unit->Shared->Prop}{E:Value->Shared->Prop}(hl:s.heap.PlainList l items)
  (h0:0<=k) (hfit:k < 2 ^ 63) (hn:k < items.size)
  (hQ:∀h',h'.PlainList l (items.setIfInBounds k.toNat v)->cI l s.heap h'->Q () { s with heap:=h' }) :
  wpAny (model ag w) A (setItem (.ref l) (.int k t) v) Q E s:=by
 refine xE (id hl) ?_;intro ne ho;have hL:=hl.isList;unfold setItem
 try with_reducible refine wpAny_holding ?_
 first|refine wpAny_bind (wpAny_pure ?_)|skip
 refine wpAny_bind (wpAny_sequenceKey hL.typeIs (by decide) ?_);refine wpAny_bind (wpAny_callSpecial?_slot (name:=Str.ofString "__setitem__") hL.typeIs slot_list_setitem
  (wpAny_call_entry slot_list_setitem hL.typeIs entry_list_setitem ?_ (args_list_setitem _ _ _)))
 show wpAny _ _ (Builtin.List.listSubscript? (.int k t) >>= _) _ _ s;refine wpAny_bind (wpAny_listSubscript_int (fitsIndex_of h0 hfit) ?_);clear hfit;refine xE (nL h0) ?_;rintro j rfl;have hj:j < items.size:=by exact(pn [_,_] 0x1D101E2C12C0) hn
 have hx':items[j]?=some items[j]:=cn hj;show wpAny _ _ ((seqItemAt l j >>= λr=>pure (r.map (j,·))) >>= _) _ _ s;refine wpAny_bind (wpAny_bind (wpAny_seqItemAt ho rfl (wpAny_pure ?_)));rw[hx'];show wpAny _ _ (setSeqItemAt l j v >>= _) _ _ s;refine xE (qb items ne j v) ?_;intro n' e';have hfin:(s.heap.update l (Obj.mapSeq (·.setIfInBounds j v))).PlainList l (items.setIfInBounds j v):=
  ⟨n',by rw[jK _ ho (by rw[e'];rfl),e']⟩
 refine wpAny_bind (wpAny_setSeqItemAt ho rfl ?_)
 first
  |exact wpAny_bind (wpAny_pure (wpAny_pure ⟨.none,rfl,wpAny_pure (hQ _ hfin (Heap.SameBut.update ..))⟩))
  |exact wpAny_pure ⟨.none,rfl,wpAny_pure (hQ _ hfin (Heap.SameBut.update ..))⟩
theorem cZ.mutate{x:Str}{p':PV}{v:Value}{s':Shared}(W:cZ G P env sc σ V H tag s)(hv:dD env s.heap x v)
  (k:cR (λa=>H a/\tag a=x) s s') (t:jN G s'.heap V (λa=>H a/\tag a=x) p' v) (ex:∀a,H a->tag a=x->s'.heap.get? a≠none) :
  cZ G P env sc (SE.put σ x (true,p')) V H tag s'/\cR (j9 env sc H) s s':=by
 have hk:bI V s.heap s'.heap:=k.hkU (λb q=>W.hv b q.1) W.st.ev.low.pt;have keepF:∀a o,fm env (λJ=>False) a->s.heap.get? a=some o->s'.heap.get? a=some o:=λa o h e=>k.heap a o (λq=>by
  rcases h with rfl|⟨y,h⟩|h
  ·exact W.st.hl q.1
  ·exact W.fc y a h q.1
  ·exact h) (W.st.ev.npt (h.imp id λh=>h.imp id False.elim)) e
 have va:∀{y u},dD env s.heap y u->dD env s'.heap y u:=λh=>h.keep keepF;have kO:cR (j9 env sc H) s s':=k.mono λb q=>.inr q.1;have sepAll:∀y q,(SE.put σ x (true,p')).lookup y=some (true,q)->∃u,dD env s'.heap y u/\jN G s'.heap V (λa=>H a/\tag a=y) q u:=λy q e=>by
  rw[en]at e;by_cases hy:y=x
  ·rw[if_pos hy]at e;cases e
   rw[hy];exact⟨v,va hv,t⟩
  ·rw[if_neg hy]at e
   refine bC (W.sep y q e) ?_;intro u hu tu;exact⟨u,va hu,jN.keep hk (λa o h e=>k.heap a o (λz=>hy (h.2.symm.trans z.2)) (W.st.ev.npt (.own h.1)) e) (λJ J x=>x) tu⟩
 refine⟨⟨W.st.changed kO ?_ (λy c e q=>?_) (λa h=>?_) λy b q e=>?_,W.hv,sepAll,W.fc,λy u q=>va (W.pin y u q),W.np⟩,kO⟩
 ·refine xE W.st.ev.ns ?_;intro m hm;exact⟨m,hm.at' λo e=>keepF _ o .loc e⟩
 ·refine fL q ?_;clear q;intro u ob ho hd;exact⟨u,ob,keepF c ob (.cell e) ho,hd⟩
 ·by_cases ht:tag a=x
  ·exact ex a h ht
  ·cases e:s.heap.get? a with
   |none=>exact absurd e (W.st.ev.hex a (.own h))
   |some ob=>rw[k.heap a ob (λz=>ht z.2) (W.st.ev.npt (.own h)) e];simp
 ·cases b with
  |true=>
   refine bC (sepAll y q e) ?_;intro u hu tu;exact⟨u,hu,jN.mono (λJ z=>z.1) tu⟩
  |false=>
   rw[en]at e;by_cases hy:y=x
   ·rw[if_pos hy]at e;cases e
   ·rw[if_neg hy]at e
    refine bC (W.st.ev.vars y false q e) ?_;intro u hu tu;exact⟨u,va hu,Rep.keep hk (λJ J x=>x) (tu:G.Rep s.heap V q u)⟩
theorem nu{x:Str}{c i p c':PV}{iv v:Value}(W:cZ G P env sc σ V H tag s)(hx:σ.lookup x=some (true,c))(e:kZ c i p=some c')(ri:G.Rep s.heap V i iv)(rv:G.Rep s.heap V p v){cv:Value}(hc:dD env s.heap x cv):
  wpAny (model ag w) A (setItem cv iv v) (λJ s'=>cZ G P env sc (SE.put σ x (true,c')) V H tag s'/\cR (j9 env sc H) s s') EF s:=by
 refine bC (W.sep x c hx) ?_;intro cv' hc' t
 cases kC hc' hc
 have fin:∀{a:Addr}{s':Shared},H a/\tag a=x->cI a s.heap s'.heap->s'.os=s.os->s'.gens=s.gens->s'.heap.get? a≠none->jN G s'.heap V (λa=>H a/\tag a=x) c' cv ->
   cZ G P env sc (SE.put σ x (true,c')) V H tag s'/\cR (j9 env sc H) s s':=λ{a s'} ha sb os g ea t'=>
  W.mutate hc' ⟨λb o n J e=>sb.extBut b o (λq=>n (q▸ha)) e,os,λq=>by rw[g];exact q,.keep λo e=>sb.extBut _ o (W.st.ev.npt (.own ha.1)).symm e⟩ t' λb hb ht=>by
   by_cases q:b=a
   ·rw[q];exact ea
   ·rw[sb.2 b q];exact W.st.ev.hex b (.own hb)
 refine b9 e λk hk e=>?_;refine xE (j5 hk ri) ?_;rintro u rfl
 cases c with
 |lst l=>
  refine fz e λh0 e=>?_;obtain⟨j,hz,hj,hc2⟩:∃j,l.length<=1048576/\eF k l.length=some j/\c'=.lst (l.set j p):=
   md (C:=λc'=>∃j,l.length<=1048576/\eF k l.length=some j/\c'=.lst (l.set j p)) e λl' h=>fz h λhz h=>md (C:=λl'=>∃j,l.length<=1048576/\eF k l.length=some j/\PV.lst l'=.lst (l.set j p)) h λj hj=>⟨j,hz,hj,rfl⟩
  subst hc2;refine bx t ?_;clear t;rintro a rfl ha vs pl rl;have len:=RepL.length rl;refine vL hj (λh J J=>absurd h (d2.mpr h0)) λJ hk2 hj2=>?_;subst hj2;refine tm pl h0 (by clear rl pl W fin;lia) (by rw[aF,<- len];exact hk2) λh' pl' sb=>fin ha sb rfl rfl (by refine xE pl' ?_;clear pl';intro _ q;exact bw q) ⟨a,rfl,ha,vs.set k.toNat v,?_,?_⟩
  ·have:(vs.set k.toNat v).toArray=vs.toArray.setIfInBounds k.toNat v:=by simp
   rw[this];exact pl'
  ·have hk:bI V s.heap h':=λb o n e=>sb.extBut b o (λq=>n (q▸W.hv a ha.1)) e
   exact RepL.set (Rep.keep hk (λJ J x=>x) rv) _ (RepL.keep hk (λJ J x=>x) rl)
 |dct l=>
  refine fz e λhz e=>?_;have e:=bD e;subst e;refine cK t ?_;clear t;rintro a rfl ha z kvs d rd;refine wpAny_setItem_pairs (hsz:=by rw[bn,<- RepD.length rd];clear rd d W fin;exact(pn [_] 0x0D010000004900D100000390) hz) jl d λh' d' sb=>fin ha sb rfl rfl (by refine l9 d' ?_;clear d';intro _ _ _ q _;exact bw q) ⟨a,rfl,ha,z,_,d',?_⟩;have hk:bI V s.heap h':=λb o n e=>sb.extBut b o (λq=>n (q▸W.hv a ha.1)) e;exact RepD.stored (Rep.keep hk (λJ J x=>x) rv) (RepD.keep hk (λJ J x=>x) rd)
 |_=>exact nn e
structure rX(G:GX ag w)(o:cS):Prop where
 set:∀c a,o.fld c a=true->∃C,G.cl c=some C /\
  ∀(A:Around) (s:Shared) (x d:Addr) (es:Array DictEntry) (ep:Nat) (v:Value) (Q:Unit->Shared->Prop),G.In s.heap->A.handled=none ->
   s.heap.get? x=some { cls:=.ref C,dict:=some d,data:=.plain }->s.heap.get? d=some { cls:=.type "dict",data:=.dict es ep }->es.size<=100 ->
   (∀V (fs:List (Str×PV)),G.RepF s.heap V fs es.toList ->
    (∀h' tk es' ep',cI d s.heap h'->h'.get? d=some { cls:=.type "dict",data:=.dict es' ep' }->(∀V p,G.RepF h' V fs es.toList->G.Rep h' V p v->G.RepF h' V (rR fs a p) es'.toList)->Q () { s with heap:=h',toks:=tk }) ->
    wpAny (model ag w) A (setAttr (.ref x) a v) Q EF s)
theorem RepF.length{cl:cF}{h:Heap}{fs:List (Str×PV)}{es:List DictEntry}(x:RepF ag w cl h V fs es):fs.length=es.length:=
 RepF.ind (C:=λfs es=>fs.length=es.length) rfl (λJ J J J J J J J J ih=>congrArg gk ih) x
theorem tA(SO:rX G o){x a c:Str}{fs:List (Str×PV)}{p:PV}{v:Value}(hh:A.handled=none)(W:cZ G P env sc σ V H tag s)(hx:σ.lookup x=some (true,.obj c fs))(hf:o.fld c a=true)(hz:fs.length<=100)(rv:G.Rep s.heap V p v){cv:Value}(hc:dD env s.heap x cv):
  wpAny (model ag w) A (setAttr cv a v) (λJ s'=>cZ G P env sc (SE.put σ x (true,.obj c (rR fs a p))) V H tag s'/\cR (j9 env sc H) s s') EF s:=by
 refine bC (W.sep x _ hx) ?_;intro cv' hc' t
 cases kC hc' hc
 refine dp t ?_;clear t;rintro ad C d es ep rfl ha hC hd g gd rf;refine bC (SO.set c a hf) ?_;intro C' hC' set;rw[hC]at hC';cases hC';refine set A s ad d es ep v _ W.st.ev.base hh g gd (aD (gA ((bG).symm.trans (RepF.length rf).symm)) hz) V fs rf λh' tk es' ep' sb gd' rf'=>?_;have nad:ad≠d:=by rintro rfl;rw[g]at gd;cases gd
 have hk:bI V s.heap h':=λb o n e=>sb.extBut b o (λq=>n (q▸W.hv d hd.1)) e;refine W.mutate hc' (s':={ s with heap:=h',toks:=tk }) ⟨λb o n J e=>sb.extBut b o (λq=>n (q▸hd)) e,rfl,id,.keep λo e=>sb.extBut _ o (W.st.ev.npt (.own hd.1)).symm e⟩ ⟨ad,C,d,es',ep',rfl,ha,hC,hd,(sb.2 ad nad).trans g,gd',?_⟩ λb hb ht=>?_
 ·exact rf' V p (RepF.keep hk (λJ J x=>x) rf) (Rep.keep hk (λJ J x=>x) rv)
 ·show h'.get? b≠none
  by_cases q:b=d
  ·rw[q,gd'];simp
  ·rw[sb.2 b q];exact W.st.ev.hex b (.own hb)
theorem vw{x:Str}{l:List PV}{p:PV}{v:Value}(W:cZ G P env sc σ V H tag s)(hx:σ.lookup x=some (true,.lst l))(hz:l.length<=1048576)(rv:G.Rep s.heap V p v){cv:Value}(hc:dD env s.heap x cv):
  wpAny (model ag w) A (call (.builtin "list.append") [cv,v]) (λu s'=>u=.none/\cZ G P env sc (SE.put σ x (true,.lst (l++[p]))) V H tag s'/\cR (j9 env sc H) s s') EF s:=by
 refine bC (W.sep x _ hx) ?_;intro cv' hc' t
 cases kC hc' hc
 refine bx t ?_;clear t;rintro a rfl ha vs pl rl;have len:=RepL.length rl;refine wpAny_list_append_plain pl (hsz:=by rw[bn,aF];exact(pn [_,_] 0x0D010000004912D100D100000390) hz len) λh' pl' sb=>⟨rfl,?_⟩;have hk:bI V s.heap h':=λb o n e=>sb.extBut b o (λq=>n (q▸W.hv a ha.1)) e;refine W.mutate hc' (s':={ s with heap:=h' }) ⟨λb o n J e=>sb.extBut b o (λq=>n (q▸ha)) e,rfl,id,.keep λo e=>sb.extBut _ o (W.st.ev.npt (.own ha.1)).symm e⟩ ⟨a,rfl,ha,vs++[v],?_,?_⟩ λb hb ht=>?_
 ·have:(vs++[v]).toArray=vs.toArray.push v:=by simp
  rw[this];exact pl'
 ·exact RepL.snoc (RepL.keep hk (λJ J x=>x) rl) (Rep.keep hk (λJ J x=>x) rv)
 ·show h'.get? b≠none
  by_cases q:b=a
  ·rw[q];refine xE pl' ?_;clear pl';intro _ z;exact bw z
  ·rw[sb.2 b q];exact W.st.ev.hex b (.own hb)
theorem cZ.freeze(W:cZ G P env sc σ V H tag s):bX G env sc (J0 σ) (λa=>V a/\¬H a) (λJ=>False) s:=by
 have E:=W.st.ev;refine⟨E.base,E.kind,E.gl,E.bi,E.ns,E.glob,E.loc,E.cel,λx b p e=>?_,λa h=>E.hnb a ?_,λa h=>E.hex a ?_,⟨λa h J=>E.low.some h.1,E.low.tab,⟨E.low.pt,λh=>E.npt (.own h) rfl⟩⟩,E.cd⟩
 ·have:∃b',σ.lookup x=some (b',p)/\b=false:=by
   clear W E
   induction σ with
   |nil=>cases e
   |cons q r ih=>
    obtain⟨y,b1,p1⟩:=q;unfold J0 at e;rw[ao,aO]at e;rw[aO]
    cases hy:x == y with
    |true=>rw[hy]at e;cases e;exact⟨b1,rfl,rfl⟩
    |false=>rw[hy]at e;exact ih e
  refine bC this ?_;clear this;rintro b' hb rfl;refine bC (E.vars x b' p hb) ?_;intro v hv hs;refine⟨v,hv,?_⟩;show G.Rep s.heap _ p v;have keepAll:bI V s.heap s.heap:=bI.refl _ _
  cases b' with
  |false=>exact Rep.keep keepAll (λJ J x=>x.1) (hs:G.Rep s.heap V p v)
  |true=>
   have hs:jN G s.heap V H p v:=hs
   cases p with
   |lst l=>
    refine bx hs ?_;clear hs;intro a e n vs q r;exact dP.mpr ⟨a,e,λz=>z.2 n,vs,q,RepL.keep keepAll (λJ J x=>x.1) r⟩
   |dct l=>
    refine cK hs ?_;clear hs;intro a e n z kvs q r;exact d5.mpr ⟨a,e,λz=>z.2 n,z,kvs,q,RepD.keep keepAll (λJ J x=>x.1) r⟩
   |obj c fs=>
    refine dp hs ?_;clear hs;intro a C d es ep e n q nd g gd r;exact ei a ⟨C,d,es,ep,e,λz=>z.2 n,q,λz=>z.2 nd,g,gd,RepF.keep keepAll (λJ J x=>x.1) r⟩
   |_=>exact hs.elim
 ·rcases h with h|h|h
  ·exact .inl h
  ·exact .inr (.inl h)
  ·exact h.elim
 ·rcases h with h|h|h
  ·exact .inl h
  ·exact .inr (.inl h)
  ·exact h.elim
end
end Mine
end
section
namespace Mine
section
variable{A:Around}{s:Shared}{V H:Addr->Prop}{env:Env}{sc:Sc}{σ:SE}
variable{o:cS}{r n:Nat}{tag:Addr->Str}{P:Str->Value->Prop}
theorem cZ.upd{U V':Addr->Prop}{s':Shared}(W:cZ G P env sc σ V H tag s)(k:cR U s s')(hU:∀b,U b->V b/\¬fm env H b/\G.base.get? b=none)
  (m:∀a,s.heap.get? a≠none->V' a->V a) (ex:eu V' s'.heap) (vl:V' env.locals) (vc:∀x c,sc.lookup x=some .cell->env.cells.lookup x=some c->V' c) (hv:∀a,H a->V' a):cZ G P env sc σ V' H tag s':=
 ⟨W.st.upd k hU m ex vl vc,hv,λx p e=>by
  refine bC (W.sep x p e) ?_;intro v va t;exact⟨v,va.keep (H:=H) λa o h e=>k.heap a o (λq=>(hU a q).2.1 h) (W.st.ev.npt h) e,jN.keep (k.hkU (λb q=>(hU b q).1) W.st.ev.low.pt) (λa o h e=>k.heap a o (λq=>(hU a q).2.1 (.own h.1)) (W.st.ev.npt (.own h.1)) e) m t⟩,W.fc,λy u q=>(W.pin y u q).keep (H:=H) λa o h e=>k.heap a o (λq=>(hU a q).2.1 h) (W.st.ev.npt h) e,W.np⟩
open Classical in
theorem cZ.grow2{N M:Addr->Prop}{x:Str}{s':Shared}(W:cZ G P env sc σ V H tag s)(k:Kp s s')(hM:∀a,M a->s.heap.get? a=none/\s'.heap.get? a≠none)(nm:∀a,N a->M a):
  cZ G P env sc σ (λa=>V a\/M a) (λa=>H a\/N a) (λa=>if N a then x else tag a) s':=by
 refine⟨W.st.grow k (λa h=>hM a (nm a h)) hM,λa h=>h.imp (W.hv a) (nm a),λy q e=>?_,λy c e h=>h.elim (W.fc y c e) λh=>W.st.ev.hex c (.cell e) (hM c (nm c h)).1,λy u q=>(W.pin y u q).keep (H:=H) λa o h e=>k.keep _ _ (W.st.ev.npt h) e,W.np⟩;refine bC (W.sep y q e) ?_;intro u hu t;refine⟨u,hu.keep (H:=H) λa o h e=>k.keep _ _ (W.st.ev.npt h) e,jN.mono (H:=λa=>H a/\tag a=y) (λa h=>⟨.inl h.1,?_⟩) (jN.keep (Kp.hk k) (λa o h e=>k.keep _ _ (W.st.ev.npt (.own h.1)) e) (λa e q=>q.elim id λq=>absurd (hM a q).1 e) t)⟩;show(if N a then x else tag a)=y;rw[if_neg]
 ·exact h.2
 ·intro hn
  exact W.st.ev.hex a (.own h.1) (hM a (nm a hn)).1
def Lg(ag:Program)(w:World)(A:Around)(env:Env)(x:Str)(act:Value->Sem Unit):Prop:=∀(s:Shared) (v:Value) (Q:Unit->Shared->Prop),wpAny (model ag w) A (storeName env x v) Q EF s->wpAny (model ag w) A (act v) Q EF s
theorem wy{x:Str}{q:Pos}:Lg ag w A env x (assign (.Name x q) env):=λJ J J h=>wpAny_assign_Name h
theorem Dw{x:Str}:Lg ag w A env x (λv=>bindName env x v):=λJ J J h=>wpAny_bindName h
inductive el (G:GX ag w) (A:Around) (env:Env) (sc:Sc) (V H:Addr->Prop) (tag:Addr->Str) (h:Heap):List (Str×Bool×PV)->List (Value->Sem Unit)->List Value->Prop
 |nil:el G A env sc V H tag h [] [] []
 |cons {x:Str}{b:Bool}{p:PV}{v:Value}{act:Value->Sem Unit}{L acts vs}:bh sc x=true->gN G h V H tag x b p v->Lg ag w A env x act->el G A env sc V H tag h L acts vs->el G A env sc V H tag h ((x,b,p)::L) (act::acts) (v::vs)
theorem el.keep{h h':Heap}(k:bI V h h')(kH:∀a o,H a->h.get? a=some o->h'.get? a=some o){L acts vs}(x:el G A env sc V H tag h L acts vs):el G A env sc V H tag h' L acts vs:=by
 induction x with
 |nil=>exact .nil
 |cons a b c _ ih=>exact .cons a (b.keep k kH) c ih
theorem el.append{h:Heap}{L acts vs L' acts' vs'}(x:el G A env sc V H tag h L acts vs)(y:el G A env sc V H tag h L' acts' vs'):el G A env sc V H tag h (L++L') (acts++acts') (vs++vs'):=by
 induction x with
 |nil=>exact y
 |cons a b c _ ih=>exact .cons a b c ih
theorem el.reverse{h:Heap}{L acts vs}(x:el G A env sc V H tag h L acts vs):el G A env sc V H tag h L.reverse acts.reverse vs.reverse:=by
 induction x with
 |nil=>exact .nil
 |cons a b c _ ih=>rw[mJ,mJ,mJ];exact ih.append (.cons a b c .nil)
theorem el.length{h:Heap}{L acts vs}(x:el G A env sc V H tag h L acts vs):acts.length=vs.length:=by
 induction x with
 |nil=>rfl
 |cons _ _ _ _ ih=>exact congrArg gk ih
noncomputable def putL(σ:SE)(L:List (Str×Bool×PV)):SE:=L.foldl (λσ q=>SE.put σ q.1 q.2) σ
theorem lz:∀{L acts vs}{σ:SE}{s:Shared},el G A env sc V H tag s.heap L acts vs->cZ G P env sc σ V H tag s ->
  wpAny (model ag w) A (assignInOrder acts vs) (λJ s'=>cZ G P env sc (putL σ L) V H tag s'/\cR (lR env sc) s s') EF s:=λ{L}=>by
 induction L with
 |nil=>intro acts vs σ s x W;cases x with
  |nil=>exact wpAny_assignInOrder_none ⟨W,cR.refl _ _⟩
 |cons q L ih=>intro acts vs σ s x W;cases x with
  |cons hm sl ac rest=>
   refine wpAny_assignInOrder_more (ac _ _ _ (cG (W.store hm sl) λJ aH g=>?_));exact cG (ih (rest.keep (g.2.loc W.st) λa o h e=>g.2.heap a o (W.notLoc h) (W.st.ev.npt (.own h)) e) g.1) λJ J g'=>⟨g'.1,g.2.trans g'.2⟩
theorem jp{y:Str}:∀{L:List (Str×Bool×PV)}{σ:SE},(∀q∈L,q.1≠y)->(putL σ L).lookup y=σ.lookup y
 | [],_,_=>rfl
 |(x,u)::L,σ,h=>by
  show(putL (SE.put σ x u) L).lookup y=_;rw[jp λq hq=>h q (.tail _ hq),en,if_neg];exact λe=>h _ (.head _) e.symm
theorem oE{y:Str}{u:Bool×PV}:∀{L:List (Str×Bool×PV)}{σ:SE},(L.map (·.1)).Nodup->(y,u)∈L->(putL σ L).lookup y=some u
 |(x,v)::L,σ,hn,h=>by
  rw[ao,bH]at hn;show(putL (SE.put σ x v) L).lookup y=_;rcases ai.mp h with h1|h1
  ·cases h1
   rw[jp,en,if_pos rfl];rintro q hq rfl;exact hn.1 (aG.mpr ⟨q,hq,rfl⟩)
  ·exact oE hn.2 h1
theorem uU{L:List (Str×Bool×PV)}(hn:(L.map (·.1)).Nodup)(y:Str):(putL σ L.reverse).lookup y=(putL σ L).lookup y:=by
 have hr:(L.reverse.map (·.1)).Nodup:=by rw[List.map_reverse];unfold List.Nodup at *;exact List.pairwise_reverse.mpr (hn.imp λh=>Ne.symm h)
 by_cases h:∃u,(y,u)∈L
 ·refine xE h ?_;clear h;intro u hu
  rw[oE hn hu,oE hr (List.mem_reverse.mpr hu)]
 ·have no:∀q∈L,q.1≠y:=λq hq e=>h ⟨q.2,by rw[<- e];exact hq⟩
  rw[jp no,jp λq hq=>no q (List.mem_reverse.mp hq)]
noncomputable def dG(xs:List Str)(ps:List PV):List (Str×Bool×PV):=(xs.zip ps).map λq=>(q.1,false,q.2)
theorem vq:∀{ts:List Expr}{xs:List Str}{ps:List PV}{vs:List Value}{σ aL:SE},cj ts=some xs->dq sc xs ps σ=some aL->G.RepL s.heap V ps vs ->
  el G A env sc V H tag s.heap (dG xs ps) ((assignEach ts env).map (·.2)) vs/\aL=putL σ (dG xs ps):=λ{ts}=>by
 induction ts with
 |nil=>
  intro xs ps vs σ aL hn hb r;rw[bD hn]at hb ⊢;refine io hb λhp hb=>?_;rw[dz hp]at r
  cases vs with
  |cons v vs=>exact False.elim r
  |nil=>rw[bD hb];exact⟨.nil,rfl⟩
 |cons t ts ih=>
  intro xs ps vs σ aL hn hb r;refine bY hn λx ys hx hys h3=>?_;refine xE (cz hx) ?_;rintro q rfl;rw[bD h3]at hb ⊢
  cases ps with
  |nil=>exact nn hb
  |cons p ps=>
   refine fz hb λhm hb=>?_
   cases vs with
   |nil=>exact False.elim r
   |cons v vs=>
    refine xA (ih hys hb r.2) ?_;intro h1 h2;exact⟨.cons hm (b:=false) r.1 wy h1,h2⟩
theorem oZ{xs:List Str}{ts:List Expr}{k:Nat}{q:Pos}{ps:List PV}{v:Value}{aL:SE}(hh:A.handled=none)(W:cZ G P env sc σ V H tag s)(hn:cj ts=some xs)(hb:dq sc xs ps σ=some aL)(r:G.Rep s.heap V (.tup ps) v):
  wpAny (model ag w) A (assign (.Tuple ts k q) env v) (λJ s'=>cZ G P env sc aL V H tag s'/\cR (lR env sc) s s') EF s:=by
 refine bx (ez.mp r) ?_;rintro a rfl nV us ht ru;refine xA (vq (A:=A) (H:=H) (tag:=tag) hn hb ru (env:=env)) ?_;intro h1 h2;have len:=h1.length;rw[aa]at len;refine wpAny_assign_Tuple hh ht (by rw[len];rfl) (oh (env:=env) hn).1 λh' eb=>?_;have k:Kp s { s with heap:=h' }:=Kp.of (tk:=s.toks) λb o e=>eb b o (be (aN e)) e
 rw[h2];exact cG (lz (h1.keep (Kp.hk k) (λb o h e=>k.keep b o (W.st.ev.npt (.own h)) e)) (W.kp k)) λJ J g=>⟨g.1,(k.toU _).trans g.2⟩
theorem cZ.bindT{t:Expr}{p:PV}{v:Value}{aL:SE}(hh:A.handled=none)(W:cZ G P env sc σ V H tag s)(hb:bindT sc t p σ=some aL)(r:G.Rep s.heap V p v):
  wpAny (model ag w) A (assign t env v) (λJ s'=>cZ G P env sc aL V H tag s'/\cR (lR env sc) s s') EF s:=
 yR hb (λx q e hm h=>by rw[e,h];exact W.name hm (b:=false) r) λts k q xs vs e hxs hp hb=>by rw[e];exact oZ hh W hxs hb (hp▸r)
noncomputable def vE(e:Expr):Bool:=e.ctorIdx == 8 ||e.ctorIdx == 9 ||e.ctorIdx == 10
theorem AA{v:Expr}(h:vE v=false)(t:Expr)(l:Nat):swapsWithSole [t] v l env=pure false:=by
 cases v with
 |ListComp a b c d=>exact nomatch (show true=false from h)
 |DictComp a b c d e=>exact nomatch (show true=false from h)
 |SetComp a b c d=>exact nomatch (show true=false from h)
 |_=>rfl
theorem nw{t v:Expr}{l:Nat}(h:dc t=none):swapsWithSole [t] v l env=pure false:=by
 by_cases hc:vE v=true
 ·cases v with
  |ListComp a b c d=>cases t<;>first|rfl|exact nn h.symm
  |DictComp a b c d e=>cases t<;>first|rfl|exact nn h.symm
  |SetComp a b c d=>cases t<;>first|rfl|exact nn h.symm
  |_=>exact nomatch (show false=true from hc)
 ·exact AA (Bool.eq_false_iff.mpr hc) t l
theorem By{x:Str}{q:Pos}{b:Bool}{p:PV}{D C:Addr}{s':Shared}(W:cZ G P env sc σ V H tag s)(hm:bh sc x=true)(k:Kp s s')(nD:s.heap.get? D=none)(eD:s'.heap.get? D≠none)(nC:s.heap.get? C=none)(ne:D≠C)(eC:s'.heap.get? C≠none)
  (hns:∃m,s'.heap.Ns C m) (t:yc G V D C p s'.heap) (hb:b=true\/b=false) :
  wpAny (model ag w) A (assign (.Name x q) env (.ref D)) (λJ s''=>∃m,s''.heap.Ns C m/\∀h',cI C s''.heap h'->Nx G P env sc V H (SE.put σ x (b,p)) s { s'' with heap:=h' }) EF s':=by
 have nLoc:¬lR env sc C:=λl=>W.st.ev.hex C (j9.held (H:=H) (.inl l)) nC;have baseC:G.base.get? C=none:=W.st.ev.base.none nC;have cP:C≠PT:=λq=>W.st.ev.low.tab.some (q▸nC);have nVC:¬V C:=λz=>W.st.ev.low.some z nC;have nVD:¬V D:=λz=>W.st.ev.low.some z nD;have nsKeep:∀{s'':Shared},cR (lR env sc) s' s''->∃m,s''.heap.Ns C m:=λ{s''} g=>by
  refine xE hns ?_;clear hns;intro m hm;exact⟨m,hm.at' λo e=>g.heap C o nLoc cP e⟩
 have kAll:∀{s'':Shared}{h':Heap},cR (lR env sc) s' s''->cI C s''.heap h'->cR (j9 env sc H) s { s'' with heap:=h' }:=λ{s'' h'} g sb=>
  ⟨λb o n p e=>sb.extBut b o (λz=>by rw[z,nC]at e;cases e) (g.heap b o (λl=>n (.inl l)) p (k.keep b o p e)),g.os.trans k.os,λz=>g.gens (k.gens z),λt=>.keep (λo e=>sb.extBut _ o cP.symm e) (g.tab (k.tab t))⟩
 cases b with
 |true=>
  have W':=W.grow2 (N:=(·=D)) (M:=λa=>a=D\/a=C) (x:=x) k (λa (h:a=D\/a=C)=>by rcases h with h|h<;>rw[h];exact⟨nD,eD⟩;exact⟨nC,eC⟩) λa h=>.inl h;refine wpAny_mono (W'.name hm (b:=true) (p:=p) ?_) (λJ s'' g=>?_) λJ J x=>x
  ·refine jN.mono (H:=(·=D)) (λa h=>⟨.inr h,if_pos h⟩) ?_
   exact jN.keep (V:=λa=>(V a\/a=C)\/a=D) (bI.refl _ _) (λJ J J e=>e) (λa J z=>z.elim (λz=>.inl (.inl z)) λz=>z.elim .inr λz=>.inl (.inr z)) t
  ·refine xE (nsKeep g.2) ?_;intro m hm'
   refine⟨m,hm',λh' sb=>⟨λa=>V a\/a=D,_,_,g.1.upd (U:=(·=C)) (s':={ s'' with heap:=h' }) ⟨λb o n J e=>sb.extBut b o n e,rfl,id,.keep λo e=>sb.extBut _ o cP.symm e⟩ (λb hb=>?_) (λa J z=>z.imp id .inl) ⟨λa z J=>?_,.keep (λo e=>sb.extBut _ o cP.symm e) g.1.st.ev.low.tab,.inl W.st.ev.low.pt⟩ (.inl W.st.vl) (λy c h1 h2=>.inl (W.st.vc y c h1 h2)) (λa z=>z.imp (W.hv a) id),?_,kAll g.2 sb⟩⟩
   ·subst hb
    refine⟨.inr (.inr rfl),?_,baseC⟩;rintro(z|z|z|z)
    ·exact nLoc (.inl z)
    ·refine xE z ?_;clear z;intro y z;exact W.st.ev.hex b (.cell z) nC
    ·exact nVC (W.hv _ z)
    ·exact ne z.symm
   ·have aC:a≠C:=by
     rintro rfl;exact z.elim nVC λz=>ne z.symm
    show h'.get? a≠none;rw[sb.2 a aC];exact g.1.st.ev.low.some (z.imp id .inl)
   ·exact⟨λa h=>.inl h,λa h=>h.imp id λ(h:a=D)=>by rw[h];exact nD,λa h=>.inl h,λa h=>h.imp id λ(h:a=D)=>by rw[h];exact nD⟩
 |false=>
  have W':=W.grow2 (N:=λJ=>False) (M:=(·=C)) (x:=x) k (λa h=>by have h:a=C:=h;rw[h];exact⟨nC,eC⟩) λa (h:False)=>h.elim;have rp:G.Rep s'.heap (λa=>V a\/a=C) p (.ref D):=by
   have nd:¬(V D\/D=C):=λz=>z.elim nVD ne;have km:∀a,s'.heap.get? a≠none->(V a\/a=C)->((V a\/a=C)\/a=D):=λa J z=>.inl z
   cases p with
   |lst l=>refine bx t ?_;clear t;intro a e n vs z r;exact dP.mpr ⟨a,e,n▸nd,vs,z,RepL.keep (bI.refl _ _) km r⟩
   |dct l=>refine cK t ?_;clear t;intro a e n z0 vs z r;exact d5.mpr ⟨a,e,n▸nd,z0,vs,z,RepD.keep (bI.refl _ _) km r⟩
   |obj c fs=>
    refine dp t ?_;clear t;intro a C' d es ep e n z n2 g gd r;exact ei a ⟨C',d,es,ep,e,n▸nd,z,n2▸nd,g,gd,RepF.keep (bI.refl _ _) km r⟩
   |_=>exact t.elim
  refine wpAny_mono (W'.name hm (b:=false) (p:=p) rp) (λJ s'' g=>?_) λJ J x=>x;refine xE (nsKeep g.2) ?_;intro m hm';refine⟨m,hm',λh' sb=>⟨V,_,_,g.1.upd (U:=(·=C)) (s':={ s'' with heap:=h' }) ⟨λb o n J e=>sb.extBut b o n e,rfl,id,.keep λo e=>sb.extBut _ o cP.symm e⟩ (λb hb=>?_) (λa J z=>.inl z) ⟨λa z J=>?_,.keep (λo e=>sb.extBut _ o cP.symm e) g.1.st.ev.low.tab,W.st.ev.low.pt⟩ W.st.vl W.st.vc (λa z=>z.elim (W.hv a) λz=>z.elim),?_,kAll g.2 sb⟩⟩
  ·subst hb
   refine⟨.inr rfl,?_,baseC⟩;rintro(z|z|z|z)
   ·exact nLoc (.inl z)
   ·refine xE z ?_;clear z;intro y z;exact W.st.ev.hex b (.cell z) nC
   ·exact nVC (W.hv _ z)
   ·exact z
  ·have aC:a≠C:=by rintro rfl;exact nVC z
   show h'.get? a≠none;rw[sb.2 a aC];exact g.1.st.ev.low.some (.inl z)
  ·exact⟨λa h=>h,λa h=>.inl h,λa h=>.inl h,λa h=>h.elim .inl λz=>z.elim⟩
theorem BD{x:Str}{q:Pos}{v:Expr}:swappedStores [.Name x q] v env=pure none:=by cases v<;>rfl
def tw(G:GX ag w)(A:Around)(P:Str->Value->Prop)(env:Env)(sc:Sc)(V H:Addr->Prop)(s:Shared)(ts:List Expr)(v:Expr)(pos:Pos)(aL:SE):Prop:=wpAny (model ag w) A (exec (.Assign ts v pos) env) (dg G P env sc V H s .next aL) EF s
theorem ul(S:∀m,iY G o r m){x:Str}{b:Bool}{q pos:Pos}{v:Expr}{p:PV}(hr:br A (n+r))(W:cZ G P env sc σ V H tag s)(hm:bh sc x=true)(ho:b=true->jt v=true/\gM p=true)
  (hv:ev o n sc σ v=some p) (h1:swapsWithSole [.Name x q] v pos.line env=pure false):tw G A P env sc V H s [.Name x q] v pos (SE.put σ x (b,p)):=by
 refine wpAny_Assign_stores ?_ h1 BD;show wpAny _ _ (eval v env) (λv aH=>wpAny _ _ (assign (.Name x q) env v) (λJ s'=>dg G P env sc V H s .next _ .next s') EF aH) EF s
 cases b with
 |true=>exact cG (xk S (ho rfl).1 (ho rfl).2 hr hv W.st.ev) λu aH g=>cG (BK W hm g) λJ J z=>⟨rfl,z⟩
 |false=>exact cG ((S n).ev hr hv W.st.ev) λu aH g=>cG (yH W hm g) λJ J z=>⟨rfl,z⟩
theorem KD{x:Str}{q:Pos}{b:Bool}{p:PV}(W:cZ G P env sc σ V H tag s)(hm:bh sc x=true):AU G A V s p (some λv=>assignAll v ((assignEach [.Name x q] env).map (·.2))) (λJ s'=>Nx G P env sc V H (SE.put σ x (b,p)) s s'):=
 λD C s' k nD eD nC ne eC hns mk=>By (q:=q) W hm k nD eD nC ne eC hns (mk s'.heap (Heap.SameBut.refl _ _)) (by cases b;exact .inr rfl;exact .inl rfl)
theorem Dp(S:∀m,iY G o r m){x:Str}{b:Bool}{q pos:Pos}{v:Expr}{p:PV}(hr:br A (n+1+r))(W:cZ G P env sc σ V H tag s)(hm:bh sc x=true)
  (hv:ev o (n+1) sc σ v=some p) (h1:swapsWithSole [.Name x q] v pos.line env=pure true) (hc:vE v=true):tw G A P env sc V H s [.Name x q] v pos (SE.put σ x (b,p)):=by
 have hr':br A (n+r):=hr.le (pn [_,_] 0x0DA1A180A10);show wpAny _ _ _ _ _ _;rw[exec_Assign_arm,h1];refine wpAny_bind (wpAny_standAt (wpAny_bind (wpAny_pure ?_)));rw[if_pos rfl];have U:=KD (A:=A) (q:=q) (b:=b) (p:=p) W hm
 cases v with
 |ListComp elt gens scope cpos=>
  show wpAny _ _ ((comprehension _ scope env (firstIterPos gens cpos) (newList []) (firstAsync gens) (firstIter gens env) _ >>= λJ=>pure ()) >>= λJ=>pure Flow.next) _ _ _;exact wpAny_bind (wpAny_bind (cG (uM (λm J=>S m) hr' W.st.ev U hv) λJ s' z=>wpAny_pure (wpAny_pure ⟨rfl,z⟩)))
 |DictComp kx vx gens scope cpos=>
  show wpAny _ _ ((comprehension _ scope env (firstIterPos gens cpos) newDict (firstAsync gens) (firstIter gens env) _ >>= λJ=>pure ()) >>= λJ=>pure Flow.next) _ _ _;exact wpAny_bind (wpAny_bind (cG (uI (λm J=>S m) hr' W.st.ev U hv) λJ s' z=>wpAny_pure (wpAny_pure ⟨rfl,z⟩)))
 |SetComp=>exact nn hv
 |_=>exact nomatch (show false=true from hc)
theorem zD{x:Str}{q:Pos}{v:Expr}{l:Nat}:∃b,swapsWithSole [.Name x q] v l env=pure b:=by
 cases v<;>exact⟨_,rfl⟩
theorem xu(S:∀m,iY G o r m){Wn:List Str}{x:Str}{q pos:Pos}{v:Expr}{aL:SE}(hr:br A (n+r))(W:cZ G P env sc σ V H tag s)(h:IU Wn (ev o n sc σ) sc σ x v=some aL):tw G A P env sc V H s [.Name x q] v pos aL:=by
 refine io h λhown h=>b9 h λp hv h=>?_;have h:(if(bh sc x && (!Wn.contains x ||gM p))=true then some (SE.put σ x (Wn.contains x,p)) else none)=some aL:=h;refine fz h λhc h=>?_;refine xA (gw hc) ?_;intro hm ho;rw[bD h];have own:Wn.contains x=true->jt v=true/\gM p=true:=λhw=>by
  rw[hw]at hown ho;exact⟨by simpa using hown,ho⟩
 by_cases hc:vE v=true
 ·refine xE (zD (env:=env) (x:=x) (q:=q) (v:=v) (l:=pos.line)) ?_;intro b hb
  cases b with
  |false=>exact ul S hr W hm own hv hb
  |true=>
   cases n with
   |zero=>exact nn hv
   |succ n=>exact Dp S hr W hm hv hb hc
 ·exact ul S hr W hm own hv (AA (Bool.eq_false_iff.mpr hc) _ _)
end
end Mine
end
section
namespace Mine
section
variable{A:Around}{s:Shared}{V H:Addr->Prop}{env:Env}{sc:Sc}{σ:SE}
variable{o:cS}{r n:Nat}{tag:Addr->Str}{P:Str->Value->Prop}
noncomputable def oP(env:Env)(line:Nat):Expr->Option Str
 | .Name id pos=>if env.kindOf id == some .local && pos.line == line then some id else none
 |_=>none
theorem uQ{env:Env}{line:Nat}:∀{ts:List Expr}{xs:List Str},cj ts=some xs->(ts.filterMap (oP env line)).length<=ts.length/\((ts.filterMap (oP env line)).length=ts.length->ts.filterMap (oP env line)=xs):=by
 intro ts
 induction ts with
 |nil=>intro xs h;rw[bD h];exact⟨aK _,λJ=>rfl⟩
 |cons t ts ih=>
  intro xs h;refine bY h λx ys hx hys h3=>?_;refine xE (cz hx) ?_;rintro q rfl;refine xA (ih hys) ?_;intro h1 h2;rw[bD h3];by_cases hc:(env.kindOf x == some .local && q.line == line)=true
  ·rw[List.filterMap_cons_some (b:=x) (show oP env line (.Name x q)=some x from if_pos hc)]
   exact⟨dm h1,λe=>congrArg (x::·) (h2 (Nat.succ.inj e))⟩
  ·rw[List.filterMap_cons_none (show oP env line (.Name x q)=none from if_neg hc)]
   exact⟨Nat.le_succ_of_le h1,λe=>absurd (e▸h1) (Nat.not_succ_le_self _)⟩
set_option tactic.hygienic true in
theorem tC{ts vs:List Expr}{xs:List Str}{k k':Nat}{p p':Pos}(hn:cj ts=some xs)(hc:vs.all (constantsAlone 8)=false):
  swappedStores [.Tuple ts k p] (.Tuple vs k' p') env=pure none\/swappedStores [.Tuple ts k p] (.Tuple vs k' p') env=pure (some xs):=by
 unfold swappedStores;dsimp only;split
 ·exact .inl rfl
 ·split
  ·exact .inl rfl
  ·split
   ·exact .inl rfl
   ·rename_i h1 h2 h3
    split
    ·exact .inl rfl
    ·rw[hc]
     right
     have fl:=uQ (env:=env) (line:=(ts.head?.map (·.pos.line)).getD 0) hn;simp only[fk,not_or,bne_iff_ne,ne_eq,Decidable.not_not]at h3;rw[if_neg (by decide)];exact congrArg (λl=>(pure (some l):Sem (Option (List Str)))) (fl.2 h3.1)
inductive fW (G:GX ag w) (V H:Addr->Prop) (tag:Addr->Str) (h:Heap):List (Str×Bool×PV)->List Value->Prop
 |nil:fW G V H tag h [] []
 |cons {x:Str}{b:Bool}{p:PV}{v:Value}{L vs}:gN G h V H tag x b p v->fW G V H tag h L vs->fW G V H tag h ((x,b,p)::L) (v::vs)
theorem fW.keep{h h':Heap}(k:bI V h h')(kH:∀a o,H a->h.get? a=some o->h'.get? a=some o){L vs}(x:fW G V H tag h L vs):fW G V H tag h' L vs:=by
 induction x with
 |nil=>exact .nil
 |cons b _ ih=>exact .cons (b.keep k kH) ih
theorem fW.length{h:Heap}{L vs}(x:fW G V H tag h L vs):L.length=vs.length:=by
 induction x with
 |nil=>rfl
 |cons _ _ ih=>exact congrArg gk ih
noncomputable def o5(Wn:List Str)(xs:List Str)(ps:List PV):List (Str×Bool×PV):=(xs.zip ps).map λq=>(q.1,Wn.contains q.1,q.2)
theorem xf{Wn:List Str}:∀{xs:List Str}{ps:List PV}{σ aL:SE},jc Wn sc xs ps σ=some aL->aL=putL σ (o5 Wn xs ps)/\(∀x∈xs,bh sc x=true)/\(∀q∈xs.zip ps,Wn.contains q.1=true->gM q.2=true)/\xs.length=ps.length:=λ{xs}=>by
 induction xs with
 |nil=>
  intro ps σ aL h;refine io h λhp h=>?_;rw[dz hp,bD h];exact⟨rfl,λJ h=>(nomatch h),λJ h=>(nomatch h),rfl⟩
 |cons x xs ih=>
  intro ps σ aL h
  cases ps with
  |nil=>exact nn h
  |cons p ps=>
   refine fz h λhc h=>?_;refine xA (gw hc) ?_;intro hm ho;refine Gz (ih h) ?_;intro h1 h2 h3 h4;refine⟨h1,λy hy=>(ai.mp hy).elim (λe=>e▸hm) (h2 y),λq hq hw=>?_,congrArg gk h4⟩;rcases ai.mp hq with rfl|hq
   ·rw[hw]at ho;exact ho
   ·exact h3 q hq hw
theorem Bj{N:Addr->Prop}{x:Str}{s':Shared}(k:Kp s s')(hN:∀a,N a->s.heap.get? a=none/\s'.heap.get? a≠none){y:Str}{b:Bool}{q:PV}{u:Value}{tag':Addr->Str}(ht:∀a,¬N a->tag' a=tag a)(pt:V PT)(nH:∀a,H a->a≠PT)(hs:gN G s.heap V H tag y b q u):
  gN G s'.heap (λa=>V a\/N a) (λa=>H a\/N a) tag' y b q u:=by
 have gr:∀a,s.heap.get? a≠none->(V a\/N a)->V a:=λa e q=>q.elim id λq=>absurd (hN a q).1 e;have k1:bI V s.heap s'.heap:=Kp.hk k;have hn:∀{a:Addr},s.heap.get? a≠none->H a/\tag a=y->(H a\/N a)/\tag' a=y:=λe h=>⟨.inl h.1,(ht _ λn=>e (hN _ n).1).trans h.2⟩
 cases b with
 |false=>exact Rep.keep k1 gr (hs:G.Rep s.heap V q u)
 |true=>
  have hs:jN G s.heap V (λa=>H a/\tag a=y) q u:=hs;show jN G s'.heap _ (λa=>(H a\/N a)/\tag' a=y) q u
  cases q with
  |lst l=>refine bx hs ?_;clear hs;intro a e n vs z r;exact⟨a,e,hn (xz z) n,vs,by refine xE z ?_;clear z;intro m z;exact⟨m,k.keep _ _ (nH _ n.1) z⟩,RepL.keep k1 gr r⟩
  |dct l=>refine cK hs ?_;clear hs;intro a e n z0 vs z r;exact⟨a,e,hn (lU z) n,z0,vs,gf (V:=(·=PT)) (Kp.hk k rfl) (nH _ n.1) z,RepD.keep k1 gr r⟩
  |obj c fs=>refine dp hs ?_;clear hs;intro a C' d es ep e n z n2 g gd r;exact⟨a,C',d,es,ep,e,hn (bw g) n,z,hn (bw gd) n2,k.keep _ _ (nH _ n.1) g,k.keep _ _ (nH _ n2.1) gd,RepF.keep k1 gr r⟩
  |_=>exact hs.elim
noncomputable def rU(G:GX ag w)(P:Str->Value->Prop)(env:Env)(sc:Sc)(σ:SE)(V H:Addr->Prop)(tag:Addr->Str)(s:Shared)(L:List (Str×Bool×PV))(vs:List Value)(s':Shared):Prop:=
 ∃V' H' tag',cZ G P env sc σ V' H' tag' s'/\ky V H V' H' s/\Kp s s'/\(∀x b p v,gN G s.heap V H tag x b p v->gN G s'.heap V' H' tag' x b p v)/\fW G V' H' tag' s'.heap L vs
theorem rU.step{s7 FZ:Addr->Prop}{v9:Addr->Str}{aH s':Shared}{x:Str}{b:Bool}{p:PV}{v:Value}{L:List (Str×Bool×PV)}{vs:List Value}(W:cZ G P env sc σ V H tag s)(jI:cZ G P env sc σ s7 FZ v9 aH)(om:ky V H s7 FZ s)(HJ:Kp s aH)(Mw:∀x b p v,gN G s.heap V H tag x b p v->gN G aH.heap s7 FZ v9 x b p v)
  (sl:gN G aH.heap s7 FZ v9 x b p v) (g:rU G P env sc σ s7 FZ v9 aH L vs s'):rU G P env sc σ V H tag s ((x,b,p)::L) (v::vs) s':=by
 refine sy g ?_;clear g;intro Mx My JR kQ s0 fe K6 ss;exact⟨Mx,My,JR,kQ,ky.trans W om jI (HJ.toU _) s0,HJ.trans fe,λx b p v h=>K6 _ _ _ _ (Mw _ _ _ _ h),.cons (K6 _ _ _ _ sl) ss⟩
open Classical in
theorem wv(S:∀m,iY G o r m)(hr:br A (n+r)){Wn:List Str}{pos:Pos}:∀{es:List Expr}{xs:List Str}{ps:List PV}{V H:Addr->Prop}{tag:Addr->Str}{s:Shared},xD Wn xs es=true->dK (ev o n sc σ) es=some ps ->
  (∀q∈xs.zip ps,Wn.contains q.1=true->gM q.2=true)->cZ G P env sc σ V H tag s ->
  wpAny (model ag w) A (spliced (backTo pos (starEach es env))) (rU G P env sc σ V H tag s (o5 Wn xs ps)) EF s:=λ{es}=>by
 induction es with
 |nil=>
  intro xs ps V H tag s ho hp _ W;rw[bD hp]
  cases xs with
  |cons x xs=>exact nomatch (show false=true from ho)
  |nil=>exact Calls.spliced_nil ⟨V,H,tag,W,ky.refl,cR.refl _ _,λJ J J J h=>h,.nil⟩
 |cons e es ih=>
  intro xs ps V H tag s ho hp hown W;refine bY hp λp qs h1 h2 h3=>?_;have h3:=bD h3;subst h3
  cases xs with
  |nil=>exact nomatch (show false=true from ho)
  |cons x xs=>
   refine xA (gw ho) ?_;intro hoe ho2;have hown':∀q∈xs.zip qs,Wn.contains q.1=true->gM q.2=true:=λq hq=>hown q (.tail _ hq);rw[ge (fT h1),fZ];show wpAny _ _ _ (rU G P env sc σ V H tag s ((x,Wn.contains x,p)::o5 Wn xs qs)) _ _
   cases hw:Wn.contains x with
   |true=>
    have hmo:jt e=true:=by rw[hw]at hoe;exact hoe
    refine Calls.spliced_cons (cG (xk S hmo (hown (x,p) (.head _) hw) hr h1 W.st.ev) λv aH g=>?_);refine fJ g ?_;clear g;intro N hN t k;have jI:=W.grow (x:=x) k hN;refine cG (ih ho2 h2 hown' jI) λvs aX g=>rU.step W jI ⟨λa h=>.inl h,λa h=>h.imp id λh=>(hN a h).1,λa h=>.inl h,λa h=>h.imp id λh=>(hN a h).1⟩ k (λy b q u hs=>Bj (x:=x) k hN (λa n=>if_neg n) W.st.ev.low.pt (λa h=>W.st.ev.npt (.own h)) hs) ?_ g;exact jN.mono (H:=N) (λa h=>⟨.inr h,if_pos h⟩) t
   |false=>
    refine Calls.spliced_cons (cG ((S n).ev hr h1 W.st.ev) λv aH g=>?_);have jI:=W.kp g.2;exact cG (ih ho2 h2 hown' jI) λvs aX g'=>rU.step W jI ky.refl g.2 (λy b q u hs=>hs.keep (Kp.hk g.2) λa o h e=>g.2.keep a o (W.st.ev.npt (.own h)) e) g.1 g'
theorem vz{h:Heap}{Wn:List Str}(hm:∀x∈(xs:List Str),bh sc x=true)(act:Str->Value->Sem Unit)(ha:∀x,Lg ag w A env x (act x)):∀{ps:List PV}{vs:List Value},xs.length=ps.length->fW G V H tag h (o5 Wn xs ps) vs->el G A env sc V H tag h (o5 Wn xs ps) (xs.map act) vs:=by
 induction xs with
 |nil=>
  intro ps vs hl sl
  cases ps with
  |cons _ _=>cases hl
  |nil=>cases sl;exact .nil
 |cons x xs ih=>
  intro ps vs hl sl
  cases ps with
  |nil=>cases hl
  |cons p ps=>
   have sl2:fW G V H tag h ((x,Wn.contains x,p)::o5 Wn xs ps) vs:=sl
   cases sl2 with
   |cons s1 rest=>exact .cons (hm _ (.head _)) s1 (ha _) (ih (λy hy=>hm y (.tail _ hy)) (Nat.succ.inj hl) rest)
theorem tj{h:Heap}{Wn:List Str}:∀{ts:List Expr}{xs:List Str}{ps:List PV}{vs:List Value},cj ts=some xs->(∀x∈(xs:List Str),bh sc x=true)->xs.length=ps.length->fW G V H tag h (o5 Wn xs ps) vs ->
  el G A env sc V H tag h (o5 Wn xs ps) ((assignEach ts env).map (·.2)) vs:=λ{ts}=>by
 induction ts with
 |nil=>
  intro xs ps vs hn _ hl sl;rw[bD hn]at hl sl ⊢
  cases ps with
  |cons _ _=>cases hl
  |nil=>cases sl;exact .nil
 |cons t ts ih=>
  intro xs ps vs hn hm hl sl;refine bY hn λx ys hx hys h3=>?_;refine xE (cz hx) ?_;rintro q rfl;have h3:=bD h3;subst h3
  cases ps with
  |nil=>cases hl
  |cons p ps=>
   have sl2:fW G V H tag h ((x,Wn.contains x,p)::o5 Wn ys ps) vs:=sl
   cases sl2 with
   |cons s1 rest=>exact .cons (hm _ (.head _)) s1 wy (ih hys (λy hy=>hm y (.tail _ hy)) (Nat.succ.inj hl) rest)
theorem vO(S:∀m,iY G o r m){Wn:List Str}{xs:List Str}{ts vs:List Expr}{k k':Nat}{p p' pos:Pos}{ps:List PV}{aL:SE}(hr:br A (n+r))(W:cZ G P env sc σ V H tag s)(hn:cj ts=some xs)(hl:ts.length=vs.length)(hnd:xs.Nodup)
  (ho:xD Wn xs vs=true) (h8:vs.length=2\/vs.length=3) (hc:vs.all (constantsAlone 8)=false) (hv:dK (ev o n sc σ) vs=some ps) (hb:jc Wn sc xs ps σ=some aL) :
  wpAny (model ag w) A (exec (.Assign [.Tuple ts k p] (.Tuple vs k' p') pos) env) (dg G P env sc V H s .next aL) EF s:=by
 refine Gz (xf hb) ?_;intro hb1 hm how hlen;rw[exec_Assign_arm];refine wpAny_bind (wpAny_standAt ?_);rw[nw rfl];refine wpAny_bind (wpAny_pure ?_);rw[if_neg (by decide)];refine wpAny_bind ?_;refine PyProof.Rows.Tuple_ (wpAny_mono (wv S hr ho hv how W) (λus aH g=>?_) λJ J x=>x);refine sy g ?_;clear g;intro V' H' tag' jI om HJ _ sl;have lenU:=sl.length;have psz:us.length<=3:=by
  rw[<- lenU];unfold o5;rw[aa,List.length_zip]
  have:=xN hv
  exact(pn [_,_,_] 0x0D380C212D202D211F2D3802D280) h8 hlen this
 refine wpAny_newObj_type ?_ (by show us.toArray.size<=sizeLine;rw[aF,bn];exact(pn [_] 0x0D010000004900D380) psz);generalize hT:aH.heap.objs.size=T;have fe:Kp aH { aH with heap:=aH.heap.push { cls:=.type "tuple",data:=.seq us.toArray } }:=dF (tk:=aH.toks)
 have ht:(aH.heap.push { cls:=.type "tuple",data:=.seq us.toArray }).IsTuple T us.toArray:=hT▸⟨_,ay _ rfl,rfl,_,rfl⟩;generalize K7:({ aH with heap:=aH.heap.push { cls:=.type "tuple",data:=.seq us.toArray } }:Shared)=aX at fe;have hh2:aH.heap.push { cls:=.type "tuple",data:=.seq us.toArray }=aX.heap:=by rw[<- K7]
 rw[hh2]at ht;have kQ:=jI.kp fe;have Il:fW G V' H' tag' aX.heap (o5 Wn xs ps) us:=sl.keep (Kp.hk fe jI.st.ev.low.pt) λb o h e=>fe.keep b o (jI.st.ev.npt (.own h)) e;have lus:us.length=xs.length:=by
  rw[<- lenU];unfold o5;rw[aa,List.length_zip];exact(pn [_,_] 0x2D00C102D10) hlen
 have done:∀{cE s':Shared}{L:List (Str×Bool×PV)},Kp aX cE->cZ G P env sc (putL σ L) V' H' tag' s'->cR (lR env sc) cE s'->(∀y,(putL σ L).lookup y=(putL σ (o5 Wn xs ps)).lookup y)->dg G P env sc V H s .next aL .next s':=λ{cE s' L} fu W' kl hl=>by
  refine⟨rfl,V',H',tag',W'.sub (λx q e=>?_),om,?_⟩
  ·rw[hl x,<- hb1];exact e
  ·exact(Kp.toU ((HJ.trans fe).trans fu) _).trans kl.locOwn
 rcases tC (env:=env) (k:=k) (k':=k') (p:=p) (p':=p') hn hc with hsw|hsw
 ·rw[hsw]
  refine wpAny_bind (wpAny_pure ?_);show wpAny _ A (assign (.Tuple ts k p) env (.ref T) >>= λJ=>pure Flow.next) _ _ _;have st:=tj (A:=A) (env:=env) hn hm hlen Il;have hstar:=(oh (env:=env) hn).1;have l2:=st.length;rw[aa]at l2;refine wpAny_bind (wpAny_assign_Tuple hr.1 ht (by rw[l2];simp) hstar λh' eb=>?_);have fu:Kp aX { aX with heap:=h' }:=Kp.of (tk:=aX.toks) λb o e=>eb b o (be (aN e)) e
  exact wpAny_mono (lz (st.keep (Kp.hk fu kQ.st.ev.low.pt) (λb o h e=>fu.keep b o (kQ.st.ev.npt (.own h)) e)) (kQ.kp fu)) (λJ s' g=>wpAny_pure (done fu g.1 g.2 λJ=>rfl)) λJ J x=>x
 ·rw[hsw]
  refine wpAny_bind (wpAny_pure ?_);show wpAny _ A (rule "assign.swapped-stores" >>= λJ=>unpackItems (.ref T) xs.length none >>= λitems=>assignInOrder (xs.reverse.map λn=>bindName env n) items.reverse >>= λJ=>pure Flow.next) _ _ _;refine wpAny_bind (wpAny_rule (wpAny_bind ?_));rw[show xs.length=us.toArray.size by rw[aF,lus]];refine wpAny_unpackItems_tuple hr.1 ht λh' eb=>?_;have fu:Kp aX { aX with heap:=h' }:=Kp.of (tk:=aX.toks) λb o e=>eb b o (be (aN e)) e
  have st:=(vz (A:=A) (env:=env) (xs:=xs) hm (λx v=>bindName env x v) (λx=>Dw) hlen Il).reverse;rw[<- List.map_reverse]at st;refine wpAny_bind (wpAny_mono (lz (st.keep (Kp.hk fu kQ.st.ev.low.pt) (λb o h e=>fu.keep b o (kQ.st.ev.npt (.own h)) e)) (kQ.kp fu)) (λJ s' g=>wpAny_pure (done fu g.1 g.2 λy=>uU ?_ y)) λJ J x=>x);unfold o5;rw[aj];show(List.map (λq:Str×PV=>q.1) (xs.zip ps)).Nodup;rw[List.map_fst_zip (by exact(pn [_,_,_] 0x0D102D022D10) hlen lus)];exact hnd
end
end Mine
end
section
namespace Mine
section
variable{A:Around}{s:Shared}{V H:Addr->Prop}{env:Env}{sc:Sc}{σ:SE}
variable{o:cS}{r n:Nat}{tag:Addr->Str}{P:Str->Value->Prop}{Wn:List Str}
noncomputable def GQ(e:Expr):Bool:=e.ctorIdx == 24
theorem Co{t v:Expr}(h:ip v=none)(hl:GQ t=false):swappedStores [t] v env=pure none:=by
 cases t with
 |Tuple ts k p=>cases v with
  |Tuple vs k p=>exact nn h.symm
  |_=>rfl
 |List ts p=>exact nomatch (show true=false from hl)
 |_=>rfl
theorem nT{t v:Expr}{pos:Pos}{Q:Flow->Shared->Prop}(h1:dc t=none)(h2:swappedStores [t] v env=pure none)(h3:(assignEach [t] env).map (·.2)=[assign t env])
  (h:wpAny (model ag w) A (eval v env) (λu aH=>wpAny (model ag w) A (assign t env u) (λJ aX=>Q .next aX) EF aH) EF s):wpAny (model ag w) A (exec (.Assign [t] v pos) env) Q EF s:=by
 refine wpAny_Assign_stores ?_ (nw h1) h2;rw[h3];exact h
theorem tK(S:∀m,iY G o r m){xs:List Str}{ts:List Expr}{v:Expr}{k:Nat}{p pos:Pos}{ps:List PV}{aL:SE}(hr:br A (n+r))(W:cZ G P env sc σ V H tag s)(hn:cj ts=some xs)(hnt:ip v=none)
  (hv:ev o n sc σ v=some (.tup ps)) (hb:dq sc xs ps σ=some aL):tw G A P env sc V H s [.Tuple ts k p] v pos aL:=by
 refine nT rfl (Co hnt rfl) rfl (cG ((S n).ev hr hv W.st.ev) λu aH g=>?_);exact cG (oZ hr.1 (W.kp g.2) hn hb g.1) λJ s' q=>⟨rfl,V,H,tag,q.1,ky.refl,(Kp.toU g.2 _).trans q.2.locOwn⟩
theorem pd{x:Str}{c:PV}(h:qC σ x=some c):σ.lookup x=some (true,c)/\cC x=true:=
 b9 h λq hq h=>io h λhc h=>by
  obtain⟨b,u⟩:=q;refine xA (gw hc) ?_;intro h1 h2;rw[bD h,hq,show b=true from h1];exact⟨rfl,h2⟩
theorem yG(S:∀m,iY G o r m){x:Str}{i v:Expr}{q pi pos:Pos}{aL:SE}(hr:br A (n+r))(W:cZ G P env sc σ V H tag s)(h:E5 (ev o n sc σ) σ x i v=some aL):tw G A P env sc V H s [.Subscript (.Name x q) i pi] v pos aL:=by
 refine b9 h λc hc h=>bY h λp k hv hi h=>md (C:=tw G A P env sc V H s _ v pos) h λc' hp=>?_;refine xA (pd hc) ?_;intro hx hok;refine nT rfl rfl rfl (cG ((S n).ev hr hv W.st.ev) λu aH g=>?_);have jI:=W.kp g.2;rw[arm_assign_Subscript];refine bC (jI.sep x c hx) ?_;intro cv hcv _;refine wpAny_bind (wpAny_holding (jY jI.st.ev.kind hok hcv (wpAny_bind (wpAny_holding (cG ((S n).ev hr hi jI.st.ev) λiv aX iM=>?_)))));have kQ:=jI.kp iM.2;refine wpAny_bind (wpAny_standAt (wpAny_bind (wpAny_holding (cG (nu kQ hx hp iM.1 (j6 iM.2 g.1) (hcv.keep (H:=H) λa o h e=>iM.2.keep a o (W.st.ev.npt h) e)) λJ cE nf=>wpAny_release ?_))));exact⟨rfl,V,H,tag,nf.1,ky.refl,(Kp.toU (g.2.trans iM.2) _).trans nf.2⟩
theorem xw(S:∀m,iY G o r m)(SO:rX G o){x a:Str}{v:Expr}{q pi pos:Pos}{aL:SE}(hr:br A (n+r))(W:cZ G P env sc σ V H tag s)(h:DG o (ev o n sc σ) σ x a v=some aL):tw G A P env sc V H s [.Attribute (.Name x q) a pi] v pos aL:=by
 refine b9 h λc hc h=>b9 h λcf hcf h=>io h λhg h=>md (C:=tw G A P env sc V H s _ v pos) h λp hv=>?_;refine xA (pd hc) ?_;intro hx hok;rw[oK hcf]at hx;refine nT rfl rfl rfl (cG ((S n).ev hr hv W.st.ev) λu aH g=>?_);have jI:=W.kp g.2;rw[arm_assign_Attribute];refine bC (jI.sep x _ hx) ?_;intro cv hcv _;refine wpAny_bind (wpAny_holding (jY jI.st.ev.kind hok hcv (wpAny_bind (wpAny_standAt (wpAny_bind (wpAny_holding (cG (tA SO hr.1 jI hx (gw hg).1 (of_decide_eq_true (gw hg).2) g.1 hcv) λJ cE nf=>wpAny_release ?_)))))));exact⟨rfl,V,H,tag,nf.1,ky.refl,(Kp.toU g.2 _).trans nf.2⟩
theorem vS{x y z:Str}{q1 q2 q3 cp pos:Pos}{c:Const}{k:Nat}{p:PV}{aL:SE}(W:cZ G P env sc σ V H tag s)(hc:qW c=some p)(hb:dq sc [x,y,z] [p,p,p] σ=some aL):tw G A P env sc V H s [.Name x q1,.Name y q2,.Name z q3] (.Constant c k cp) pos aL:=by
 refine wpAny_Assign_three (cG (qn hc:uu G A V s env _ p) λv aH g=>?_);refine fz hb λh1 hb=>fz hb λh2 hb=>fz hb λh3 hb=>?_;rw[bD (show some _=some aL from hb)];have jI:=W.kp g.2;refine cG (jI.name h1 (b:=false) g.1) λJ aX iM=>?_;have K8:G.Rep aX.heap V p v:=Rep.keep (iM.2.loc jI.st) (λJ J x=>x) g.1;refine cG (iM.1.name h2 (b:=false) K8) λJ cE nf=>?_;refine cG (nf.1.name h3 (b:=false) (Rep.keep (nf.2.loc iM.1.st) (λJ J x=>x) K8)) λJ jk oo=>?_;exact⟨rfl,V,H,tag,oo.1,ky.refl,(Kp.toU g.2 _).trans ((iM.2.trans nf.2).trans oo.2).locOwn⟩
def IA(G:GX ag w)(A:Around)(P:Str->Value->Prop)(env:Env)(sc:Sc)(V H:Addr->Prop)(s:Shared)(t v:Expr)(pos:Pos)(aL:SE):Prop:=wpAny (model ag w) A (exec (.AugAssign t .Add v pos) env) (dg G P env sc V H s .next aL) EF s
theorem CA(S:∀m,iY G o r m){x:Str}{v:Expr}{q pos:Pos}{aL:SE}(hr:br A (n+r))(W:cZ G P env sc σ V H tag s)(h:IB (ev o n sc σ) sc σ x v=some aL):IA G A P env sc V H s (.Name x q) v pos aL:=by
 refine b9 h λq' hx h1=>io h1 λhq h2=>bY h2 λa b ha hv0 h3=>b9 hv0 λpv hv hb=>fz h3 λhm h4=>?_;obtain⟨ow,u₀⟩:=q';have hq:ow=false:=by simpa using hq
 subst hq;rw[bD (show some _=some aL from h4)];have hok:cC x=true:=(gw hm).1;refine bC (W.st.ev.vars x _ _ hx) ?_;intro u hu ru;refine xE (j5  ha ru) ?_;rintro t rfl;refine wpAny_AugAssign_Name (BW W.st.ev.kind hok hu (cG ((S n).ev hr hv W.st.ev) λu aH g=>?_));refine xE (j5 hb g.1) ?_;rintro t' rfl;refine PyProof.Rows.iadd_int ?_;have k:Kp aH { aH with toks:=aH.toks+1 }:=Kp.toks
 exact cG (((W.kp g.2).kp k).store hm (b:=false) (p:=.int (a+b)) (show G.Rep _ V _ _ from bA.mpr ⟨_,rfl⟩)) λJ s' z=>⟨rfl,V,H,tag,z.1,ky.refl,(Kp.toU (g.2.trans k) _).trans z.2.locOwn⟩
theorem yr{n:Nat}{e:Expr}{p:PV}(h:ev o n sc σ e=some p):∀a b c q,e≠.Slice a b c q:=by
 rintro a b c q rfl
 cases n<;>exact nn h
theorem Hl(S:∀m,iY G o r m){x:Str}{i v:Expr}{q pi pos:Pos}{aL:SE}(hr:br A (n+r))(W:cZ G P env sc σ V H tag s)(h:IV (ev o n sc σ) σ x i v=some aL):IA G A P env sc V H s (.Subscript (.Name x q) i pi) v pos aL:=by
 refine b9 h λc hc h=>b9 h λk hi h=>bY h λa b hit hv h=>b9 hv λpv hv hb=>b9 hit λpa hit ha=>md (C:=IA G A P env sc V H s _ v pos) h λc' hp=>?_;refine xA (pd hc) ?_;intro hx hok;refine bC (W.sep x c hx) ?_;intro cv hcv tc;refine wpAny_AugAssign_SubscriptAny (jY W.st.ev.kind hok hcv (cG ((S n).ev hr hi W.st.ev) λiv aX iM=>?_)) (λov iv new=>by
  cases i with
  |Slice a b c p=>exact absurd rfl (yr hi _ _ _ _)
  |_=>rfl)
 have kQ:=W.kp iM.2;have pk:ej G aX.heap V c cv:=by
  refine bC (kQ.sep x c hx) ?_;intro cv' hcv' t'
  have:=kC hcv' (hcv.keep (H:=H) λa o h e=>iM.2.keep a o (W.st.ev.npt h) e)
  subst this;exact jq.peek (H:=λa=>H a/\tag a=x) (b:=true) t' λa h=>W.st.ev.npt (.own h.1)
 refine cG (ni hit pk iM.1) λold cE nf=>?_;have oq:=kQ.kp nf.2;refine cG ((S n).ev hr hv oq.st.ev) λu jk oo=>?_;refine xE (j5 ha nf.1) ?_;rintro t rfl;refine xE (j5 hb oo.1) ?_;rintro t' rfl;refine PyProof.Rows.iadd_int ?_;have k:Kp jk { jk with toks:=jk.toks+1 }:=Kp.toks
 have kk:=(nf.2.trans oo.2).trans k;have Mz:=(oq.kp oo.2).kp k;refine cG (nu Mz hx hp (j6 kk iM.1) (bA.mpr ⟨_,rfl⟩) (hcv.keep (H:=H) λa o h e=>kk.keep a o (W.st.ev.npt h) (iM.2.keep a o (W.st.ev.npt h) e))) λJ s' z=>?_;exact⟨rfl,V,H,tag,z.1,ky.refl,(Kp.toU (iM.2.trans kk) _).trans z.2⟩
theorem wH(S:∀m,iY G o r m){x:Str}{e:Expr}{q ap cp pos:Pos}{l:List PV}{p:PV}(hr:br A (n+r))(W:cZ G P env sc σ V H tag s)(hx:σ.lookup x=some (true,.lst l))(hok:cC x=true)(hl:(ap.endLine == cp.line)=true)(hz:l.length<=1048576)(he:ev o n sc σ e=some p):
  wpAny (model ag w) A (exec (.Expr (.Call (.Attribute (.Name x q) ("append":Str) ap) [e] [] cp) pos) env) (dg G P env sc V H s .next (SE.put σ x (true,.lst (l++[p])))) EF s:=by
 have hi:interactive env=false:=by
  unfold interactive;rw[W.st.ev.kind];rfl
 have ns:∀e'∈[e],∀x p,e'≠.Starred x p:=λe' h=>by rw[aA.mp h];exact fT he
 refine wpAny_Expr ?_ hi rfl;refine bC (W.sep x _ hx) ?_;intro cv hcv tc;refine un rfl hl (by simp) ns (jY W.st.ev.kind hok hcv λpl=>?_);refine bx tc ?_;clear tc;rintro a rfl ha vs pl' rl;have hT:s.TypeIs (.ref a) "list":=pl'.isList.typeIs;refine getMethod_builtin hT PySem.F.plainAttrs_list PySem.F.slot_list_append PySem.F.type_list_append (λb hb=>?_) ?_
 ·cases hb;refine xE pl' ?_;clear pl';intro _ z;exact⟨_,z,rfl⟩
 refine cL  (λh J=>⟨.machine,.inr (.inl rfl),.of_pure rfl⟩) ns ?_;rw[ge (ns e (.head _)),fZ];refine Calls.spliced_cons (wpAny_mono ((S n).ev hr he W.st.ev) (λu aH g=>Calls.spliced_nil ⟨W.st.ev.base.kp g.2,?_⟩) λJ J x=>x);refine wpAny_mono (vw (W.kp g.2) hx hz g.1 (hcv.keep (H:=H) λa o h e=>g.2.keep a o (W.st.ev.npt h) e)) (λu' aX iM=>?_) λJ J x=>x;refine iQ iM ?_;clear iM;rintro rfl kQ fe;exact⟨rfl,V,H,tag,kQ,ky.refl,(Kp.toU g.2 _).trans fe⟩
theorem xM(S:∀m,iY G o r m){e:Expr}{pos:Pos}{aL:SE}(hr:br A (n+r))(W:cZ G P env sc σ V H tag s)(h:Es (ev o n sc σ) σ e=some aL):wpAny (model ag w) A (exec (.Expr e pos) env) (dg G P env sc V H s .next aL) EF s:=by
 refine b9 h λm hm h=>b9 h λx hx h=>b9 h λc hc h=>b9 h λl hl h=>io h λhg h=>md (C:=λaL=>wpAny (model ag w) A (exec (.Expr e pos) env) (dg G P env sc V H s .next aL) EF s) h λp he=>?_;refine b9 hm λq hq hm=>bY hm λr a hr' ha hm=>io hm λhk hm=>?_;refine xA (pd hc) ?_;intro h1 h2;refine xA (gw hk) ?_;intro hk1 hk2;refine xA (gw hg) ?_;intro hg1 hg2;have hm:=bD hm;subst hm;refine xE (cz hx) ?_;intro qp hx;rw[iH hl]at h1;rw[sV hq,p7 hr',fi ha,dz hk1,hx,beq_iff_eq.mp hg1];exact wH S hr W h1 h2 hk2 (of_decide_eq_true hg2) he
theorem ya(S:∀m,iY G o r m){e:Expr}{pos:Pos}{p:PV}(hr:br A (n+r))(W:cZ G P env sc σ V H tag s)(he:ev o n sc (J0 σ) e=some p):
  wpAny (model ag w) A (exec (.Return (some e) pos) env) (dg G P env sc V H s (.ret p) []) EF s:=
 wpAny_Return_some (wpAny_mono ((S n).ev hr he W.freeze) (λv aH g=>⟨v,rfl,V,H,ky.refl,g.1,Kp.toU g.2 _⟩) λJ J x=>x)
end
end Mine
end
section
namespace Mine
section
variable{A:Around}{s:Shared}{V H:Addr->Prop}{env:Env}{sc:Sc}{σ:SE}
variable{o:cS}{r n:Nat}{tag:Addr->Str}{P:Str->Value->Prop}{Wn:List Str}
noncomputable def x3(G:GX ag w)(P:Str->Value->Prop)(env:Env)(sc:Sc)(X V H:Addr->Prop)(s:Shared):Fl->SE->Flow->Shared->Prop
 | .next,aL,f,s'=>f=.next/\∃V' H' tag',cZ G P env sc aL V' H' tag' s'/\ky V H V' H' s/\cR (λb=>j9 env sc H b\/X b) s s'
 | .brk,aL,f,s'=>f=.brk/\∃V' H' tag',cZ G P env sc aL V' H' tag' s'/\ky V H V' H' s/\cR (λb=>j9 env sc H b\/X b) s s'
 | .ret p,_,f,s'=>∃v,f=.ret v/\∃V' H':Addr->Prop,ky V H V' H' s/\G.Rep s'.heap (λa=>V' a/\¬H' a) p v/\cR (λb=>j9 env sc H b\/X b) s s'
structure F4(G:GX ag w)(o:cS)(r:Nat)(Wn:List Str)(n:Nat):Prop where
 ex:∀{A:Around}{env:Env}{sc:Sc}{σ aL:SE}{V H:Addr->Prop}{tag:Addr->Str}{P:Str->Value->Prop}{s:Shared}{st:Stmt}{fl:Fl},br A (n+r)->ex o Wn n sc σ st=some (fl,aL)->cZ G P env sc σ V H tag s->wpAny (model ag w) A (exec st env) (dg G P env sc V H s fl aL) EF s
 exs:∀{A:Around}{env:Env}{sc:Sc}{σ aL:SE}{V H:Addr->Prop}{tag:Addr->Str}{P:Str->Value->Prop}{s:Shared}{ss:List Stmt}{fl:Fl},br A (n+r)->exs o Wn n sc σ ss=some (fl,aL)->cZ G P env sc σ V H tag s->wpAny (model ag w) A (execs ss env) (dg G P env sc V H s fl aL) EF s
 exF:∀{A:Around}{env:Env}{sc:Sc}{σ aL:SE}{V H U:Addr->Prop}{tag:Addr->Str}{P:Str->Value->Prop}{s:Shared}{t:Expr}{items all:List PV}{i:Nat}{I:Addr}{wr:List Addr}{St:Nat->Heap->Prop}{body:List Stmt}{fl:Fl}{R:Result->Shared->Prop},br A (n+r) ->
  exF o Wn n sc σ t items body=some (fl,aL)->cZ G P env sc σ V H tag s->ku G A I wr St U t all->all.drop i=items->i<=all.length->St i s.heap ->
  (∀b∈wr,V b/\¬fm env H b/\G.base.get? b=none)->(∀a,V a->U a)->(∀a,s.heap.get? a=none->U a) ->
  (∀f s',x3 G P env sc (·∈wr) (λa=>V a/\a ∉ wr) H s fl aL f s'->R (.ok f) s')->codeAny (model ag w) A (.forLoop t (.ref I) body [] env) R s
theorem D6(X:F4 G o r Wn n){aL:SE}{ss:List Stmt}{fl:Fl}(hr:br A (n+1+r))(h:exs o Wn (n+1) sc σ ss=some (fl,aL))(W:cZ G P env sc σ V H tag s):
  wpAny (model ag w) A (execs ss env) (dg G P env sc V H s fl aL) EF s:=by
 have hr':br A (n+r):=hr.le (pn [_,_] 0x0DA1A180A10)
 cases ss with
 |nil=>
  have h:some (Fl.next,σ)=some (fl,aL):=h
  cases h
  exact wpAny_execs_nil ⟨rfl,V,H,tag,W,ky.refl,cR.refl _ _⟩
 |cons st ss=>
  refine wpAny_execs_cons (b9 (x:=ex o Wn n sc σ st) (f:=λq=>match q.1 with
   | .next=>exs o Wn n sc q.2 ss
   | .brk=>some q
   | .ret _=>some q) h λq h1 h=>?_)
  obtain⟨f,nG⟩:=q
  cases f with
  |next=>
   refine cG (X.ex hr' h1 W) λf aH g=>?_;refine jR g ?_;clear g;rintro rfl V' H' tag' W' e' k';exact cG (X.exs hr' h W') λf aX g=>dg.trans W e' W' k' g
  |brk=>
   have h:some (Fl.brk,nG)=some (fl,aL):=h
   cases h
   refine cG (X.ex hr' h1 W) λf aH g=>?_;refine xA g ?_;clear g;rintro rfl g;exact⟨rfl,g⟩
  |ret v=>
   have h:some (Fl.ret v,nG)=some (fl,aL):=h
   cases h
   refine cG (X.ex hr' h1 W) λf aH g=>?_;refine bC g ?_;clear g;rintro u rfl g;exact⟨u,rfl,g⟩
theorem Ej{X V' H':Addr->Prop}{aL:SE}{tag':Addr->Str}{s':Shared}(W':cZ G P env sc aL V' H' tag' s')(k:cR X s s')(hx:∀a,X a->V' a):∀a,s'.heap.get? a=none->s.heap.get? a=none:=λa e=>by
 cases q:s.heap.get? a with
 |none=>rfl
 |some ob=>
  by_cases p:a=PT
  ·exact absurd (p▸e) W'.st.ev.low.tab.some
  by_cases xa:X a
  ·exact absurd e (W'.st.ev.low.some (hx a xa))
  ·rw[k.heap a ob xa p q]at e;cases e
theorem cZ.drop{wr:List Addr}(W:cZ G P env sc σ V H tag s)(hwr:∀b∈wr,V b/\¬fm env H b/\G.base.get? b=none){s':Shared}(k:cR (·∈wr) s s'):cZ G P env sc σ (λa=>V a/\a ∉ wr) H tag s':=by
 refine W.upd k (λb hb=>hwr b hb) (λa J q=>q.1) ⟨λa q p e=>?_,k.tab W.st.ev.low.tab,W.st.ev.low.pt,λm=>mX (hwr _ m).2.2⟩ ⟨W.st.vl,λm=>(hwr _ m).2.1 .loc⟩ (λx c h1 h2=>⟨W.st.vc x c h1 h2,λm=>(hwr _ m).2.1 (.cell h2)⟩) λa h=>⟨W.hv a h,λm=>(hwr _ m).2.1 (.own h)⟩
 cases z:s.heap.get? a with
 |none=>exact W.st.ev.low.some q.1 z
 |some ob=>rw[k.heap a ob q.2 p z]at e;cases e
theorem uf{wr:List Addr}{fl:Fl}{s8:SE}{qF pg:Addr->Prop}{f:Flow}{cE jk s':Shared}(k03:cR (λb=>j9 env sc H b\/b∈wr) s cE)(m03:∀a,cE.heap.get? a=none->s.heap.get? a=none)
  (ir:ky V H qF pg cE) (jH:cR (j9 env sc H) cE jk) (m34:∀a,jk.heap.get? a=none->cE.heap.get? a=none) (g:x3 G P env sc (·∈wr) (λa=>qF a/\a ∉ wr) pg jk fl s8 f s'):x3 G P env sc (·∈wr) (λa=>V a/\a ∉ wr) H s fl s8 f s':=by
 have ext:∀{V' H':Addr->Prop},ky (λa=>qF a/\a ∉ wr) pg V' H' jk->ky (λa=>V a/\a ∉ wr) H V' H' s:=λ{V' H'} e=>
  ⟨λa q=>e.v a ⟨ir.v a q.1,q.2⟩,λa q=>(e.v' a q).elim (λz=>(ir.v' a z.1).imp (λy=>⟨y,z.2⟩) (m03 a)) λz=>.inr (m03 a (m34 a z)),λa q=>e.h a (ir.h a q),λa q=>(e.h' a q).elim (λz=>(ir.h' a z).imp id (m03 a)) λz=>.inr (m03 a (m34 a z))⟩
 have kk:cR (λb=>j9 env sc pg b\/b∈wr) jk s'->cR (λb=>j9 env sc H b\/b∈wr) s s':=λk'=>by
  refine⟨λb ob n p e=>k'.heap b ob (λq=>?_) p (jH.heap b ob (λq=>n (.inl q)) p (k03.heap b ob n p e)),k'.os.trans (jH.os.trans k03.os),λq=>k'.gens (jH.gens (k03.gens q)),λt=>k'.tab (jH.tab (k03.tab t))⟩;rcases q with(q|q)|q
  ·exact n (.inl (.inl q))
  ·exact(ir.h' b q).elim (λz=>n (.inl (.inr z))) λz=>nomatch (m03 b z).symm.trans e
  ·exact n (.inr q)
 cases fl with
 |next=>refine jR g ?_;clear g;intro a V' H' t' W' e' k';exact⟨a,V',H',t',W',ext e',kk k'⟩
 |brk=>refine jR g ?_;clear g;intro a V' H' t' W' e' k';exact⟨a,V',H',t',W',ext e',kk k'⟩
 |ret p=>refine pf g ?_;clear g;intro v a V' H' e' rp k';exact⟨v,a,V',H',ext e',rp,kk k'⟩
theorem r0{wr:List Addr}{qF pg:Addr->Prop}{nG s8:SE}{wa:Addr->Str}{cE jk:Shared}(hwr:∀b∈wr,V b/\¬fm env H b/\G.base.get? b=none)(oq:cZ G P env sc nG V H tag cE)(zX:cZ G P env sc s8 qF pg wa jk)(ir:ky V H qF pg cE)(jH:cR (j9 env sc H) cE jk):
  (∀b∈wr,qF b/\¬fm env pg b/\G.base.get? b=none)/\(∀a,jk.heap.get? a=none->cE.heap.get? a=none):=by
 refine⟨λb hb=>⟨ir.v b (hwr b hb).1,?_,(hwr b hb).2.2⟩,Ej zX jH λa q=>ir.v a (oq.st.own oq.hv q)⟩;rintro(q|q|q)
 ·exact(hwr b hb).2.1 (.inl q)
 ·exact(hwr b hb).2.1 (.inr (.inl q))
 ·exact(ir.h' b q).elim (λz=>(hwr b hb).2.1 (.own z)) λz=>oq.st.ev.low.some (hwr b hb).1 z
structure MK(G:GX ag w)(A:Around)(P:Str->Value->Prop)(env:Env)(sc:Sc)(V H U:Addr->Prop)(tag:Addr->Str)(t:Expr)(all:List PV)(I:Addr)(wr:List Addr)(St:Nat->Heap->Prop)(i:Nat)(σ:SE)(s:Shared):Prop where
 W:cZ G P env sc σ V H tag s
 B:ku G A I wr St U t all
 st:St i s.heap
 hwr:∀b∈wr,V b/\¬fm env H b/\G.base.get? b=none
 hU:∀a,V a->U a
 hF:∀a,s.heap.get? a=none->U a
theorem BH{U:Addr->Prop}{t:Expr}{all:List PV}{i:Nat}{I:Addr}{wr:List Addr}{St:Nat->Heap->Prop}(hh:A.handled=none)(F:MK G A P env sc V H U tag t all I wr St i σ s){x:PV}(hx:all[i]?=some x){nG:SE}(hb:bindT sc t x σ=some nG){Q:Unit->Shared->Prop}
  (hQ:∀cE,cZ G P env sc nG V H tag cE->St (i+1) cE.heap->cR (λb=>j9 env sc H b\/b∈wr) s cE->(∀a,cE.heap.get? a=none->s.heap.get? a=none)->Q () cE) :
  wpAny (model ag w) A (pyNext (.ref I)) (λq aH=>∃v,q=some v/\wpAny (model ag w) A (letOwnedTupleGo t (.ref I) v) (λJ aX=>wpAny (model ag w) A (assign t env v) Q EF aX) EF aH) EF s:=by
 refine cG (F.B.item i s x hx F.st) λq aH g=>?_;refine bC g ?_;clear g;intro v e g;refine⟨v,e,cG g λJ aX iM=>?_⟩;refine iQ iM ?_;clear iM;intro rep yl fe;have kQ:cZ G P env sc σ V H tag aX:=F.W.upd fe F.hwr (λJ J q=>q) (u8 F.W.st.ev.low fe (F.B.ex _ _ yl)) F.W.st.vl F.W.st.vc F.W.hv;refine cG (kQ.bindT hh hb (rep V F.W.st.ev.low F.hU)) λJ cE nf=>?_;refine xA nf ?_;clear nf;intro oq fu;have k03:cR (λb=>j9 env sc H b\/b∈wr) s cE:=(fe.mono λb hb=>.inr hb).trans (fu.mono λb hb=>.inl (.inl hb));exact hQ cE oq (F.B.frame _ _ _ yl λb o q e=>fu.heap b o (λl=>q.elim (λq=>q (F.hU b (kQ.st.loc l))) λq=>(F.hwr b q).2.1 (j9.held (H:=H) (.inl l))) (λz=>q.elim (λq=>q (F.hU b (z▸F.W.st.ev.low.pt))) λq=>mX (z▸(F.hwr b q).2.2)) e) k03 (Ej oq k03 λa q=>q.elim (F.W.st.own F.W.hv) λq=>(F.hwr a q).1)
theorem DK(X:F4 G o r Wn n){aL:SE}{U:Addr->Prop}{t:Expr}{items all:List PV}{i:Nat}{I:Addr}{wr:List Addr}{St:Nat->Heap->Prop}{body:List Stmt}{fl:Fl}{R:Result->Shared->Prop}(hr:br A (n+1+r))
  (h:exF o Wn (n+1) sc σ t items body=some (fl,aL)) (W:cZ G P env sc σ V H tag s) (B:ku G A I wr St U t all) (hall:all.drop i=items) (hi:i<=all.length) (st:St i s.heap)
  (hwr:∀b∈wr,V b/\¬fm env H b/\G.base.get? b=none) (hU:∀a,V a->U a) (hF:∀a,s.heap.get? a=none->U a)
  (hR:∀f s',x3 G P env sc (·∈wr) (λa=>V a/\a ∉ wr) H s fl aL f s'->R (.ok f) s'):codeAny (model ag w) A (.forLoop t (.ref I) body [] env) R s:=by
 have hr':br A (n+r):=hr.le (pn [_,_] 0x0DA1A180A10);refine codeAny_of_tree ?_;show wpAny _ A ((forTurn t (.ref I) body [] env).onRaise (λx=>do noteFrame x env;theTreesLotGoes x)) _ _ s;refine wpAny_noted ?_;refine wpAny_mono (E:=EF) ?_ (λJ J x=>x) λJ J x=>x.elim;unfold forTurn;refine wpAny_bind (wpAny_standAt (wpAny_bind (wpAny_onRaise ?_)))
 cases items with
 |nil=>
  have h:some (Fl.next,σ)=some (fl,aL):=h
  cases h
  have hlen:i=all.length:=Nat.le_antisymm hi (qv.mp hall);subst hlen;refine wpAny_mono (B.done s st) (λq aH g=>?_) λJ J x=>x.elim;refine xA g ?_;clear g;rintro rfl k;exact wpAny_pure ⟨rfl,codeAny_block (wpAny_execs_nil (hR _ _ ⟨rfl,_,H,tag,W.drop hwr k,ky.refl,k.mono λb hb=>.inr hb⟩))⟩
 |cons x is=>
  refine iQ (pN hall) ?_;intro hx hnext hi';refine b9 (x:=bindT sc t x σ) (f:=λnG=>(exs o Wn n sc nG body).bind λq=>match q.1 with
   | .next=>exF o Wn n sc q.2 t is body
   | .brk=>some (.next,q.2)
   | .ret _=>some q) h λnG hb h=>b9 h λq hbody h=>?_
  have F:MK G A P env sc V H U tag t all I wr St i σ s:=⟨W,B,st,hwr,hU,hF⟩
  refine' wpAny_mono (BH hr.1 F hx hb ?h3) ?h4 λJ J x=>x.elim
  case h4=>
   rintro q aH ⟨v,rfl,kP⟩;exact wpAny_bind (cG kP λJ aX mE=>wpAny_bind mE)
  intro cE oq FV k03 m03;obtain⟨F0,s8⟩:=q
  cases F0 with
  |next=>
   refine wpAny_bind (cG (X.exs hr' hbody oq) λf jk oo=>?_);refine jR oo ?_;clear oo;rintro rfl qF pg wa zX ir jH;refine xA (r0 hwr oq zX ir jH) ?_;intro zY m34;refine wpAny_pure ⟨rfl,X.exF hr' h zX B hnext hi' ?_ zY (λa q=>(ir.v' a q).elim (hU a) λz=>hF a (m03 a z)) (λa q=>hF a (m03 a (m34 a q))) λf s' g=>hR f s' (uf k03 m03 ir jH m34 g)⟩;exact B.frame _ _ _ FV λb o q e=>jH.heap b o (λl=>q.elim (λq=>q (hU b (W.st.own W.hv l))) λq=>(hwr b q).2.1 l.held) (λz=>q.elim (λq=>q (hU b (z▸W.st.ev.low.pt))) λq=>mX (z▸(hwr b q).2.2)) e
  |brk=>
   have h:some (Fl.next,s8)=some (fl,aL):=h
   cases h
   refine wpAny_bind (cG (X.exs hr' hbody oq) λf jk oo=>?_);refine jR oo ?_;clear oo;rintro rfl qF pg wa zX ir jH;refine xA (r0 hwr oq zX ir jH) ?_;intro zY m34;exact wpAny_pure (hR .next jk (uf k03 m03 ir jH m34 (⟨rfl,_,pg,wa,zX.drop zY (cR.refl _ _),ky.refl,cR.refl _ _⟩:x3 G P env sc (·∈wr) (λa=>qF a/\a ∉ wr) pg jk .next _ .next jk)))
  |ret p=>
   have h:some (Fl.ret p,s8)=some (fl,aL):=h
   cases h
   refine wpAny_bind (cG (X.exs hr' hbody oq) λf jk oo=>?_);refine pf oo ?_;clear oo;rintro v rfl qF pg ir rp jH;refine wpAny_pure (hR (.ret v) jk ⟨v,rfl,λa=>qF a/\a ∉ wr,pg,⟨λa q=>⟨ir.v a q.1,q.2⟩,λa q=>(ir.v' a q.1).imp (λy=>⟨y,q.2⟩) (m03 a),ir.h,λa q=>(ir.h' a q).imp id (m03 a)⟩,?_,k03.trans (jH.mono λb q=>.inl q)⟩);exact Rep.keep (bI.refl _ _) (λa J q=>⟨q.1.1,q.2⟩) rp
end
end Mine
end
section
namespace Mine
section
variable{A:Around}{s:Shared}{V H:Addr->Prop}{env:Env}{sc:Sc}{σ:SE}
variable{o:cS}{r n:Nat}{tag:Addr->Str}{P:Str->Value->Prop}{Wn:List Str}
theorem Dz(S:∀m,iY G o r m)(X:F4 G o r Wn n){aL:SE}{t it:Expr}{body:List Stmt}{pos:Pos}{items:List PV}{fl:Fl}(hr:br A (n+r))(W:cZ G P env sc σ V H tag s)(hi:evI o n sc σ t it=some items)(h:exF o Wn n sc σ t items body=some (fl,aL)):
  wpAny (model ag w) A (exec (.For t it body [] pos) env) (dg G P env sc V H s fl aL) EF s:=by
 refine xA ((S n).evI (t:=t) hr hi W.st.ev) ?_;intro hfs hev;refine wpAny_For (wpAny_mono hev (λx aH g=>wpAny_mono g (λiv aX iM=>?_) λJ J x=>x) λJ J x=>x) hfs;refine n9 iM ?_;clear iM;rintro I wr rfl k hwr mk;refine bC (mk (λa=>(V a\/a∈wr)\/aX.heap.get? a=none) (λa e q=>q.elim id λq=>absurd q e) λb hb=>.inl (.inr hb)) ?_;intro St st B;have none_of:∀a,aX.heap.get? a=none->s.heap.get? a=none:=λa e=>k.non e;have eJ:∀a,s.heap.get? a=none->G.base.get? a=none:=λa h=>eJ W.st.ev.base h;have kQ:cZ G P env sc σ (λa=>V a\/a∈wr) H tag aX:=by
  refine(W.upd (U:=λJ=>False) (V':=λa=>V a\/a∈wr) k (λJ q=>q.elim) (λa e q=>q.elim id λq=>absurd (hwr a q).1 e) ⟨λa q J=>q.elim (λq=>(W.st.ev.low.kp k).some q) λq=>(hwr a q).2,(W.st.ev.low.kp k).tab,.inl W.st.ev.low.pt⟩ (.inl W.st.vl) (λx c h1 h2=>.inl (W.st.vc x c h1 h2)) λa h=>.inl (W.hv a h))
 refine X.exF hr h kQ B rfl (bz _) st (λb hb=>⟨.inr hb,λq=>W.st.ev.hex b q (hwr b hb).1,eJ b (hwr b hb).1⟩) (λa q=>.inl q) (λa q=>.inr q) λf s' g=>?_;have ext:∀{V' H':Addr->Prop},ky (λa=>(V a\/a∈wr)/\a ∉ wr) H V' H' aX->ky V H V' H' s:=λ{V' H'} e=>
  ⟨λa q=>e.v a ⟨.inl q,λm=>W.st.ev.low.some q (hwr a m).1⟩,λa q=>(e.v' a q).elim (λz=>z.1.elim .inl λm=>absurd m z.2) λz=>.inr (none_of a z),e.h,λa q=>(e.h' a q).imp id (none_of a)⟩
 have kk:cR (λb=>j9 env sc H b\/b∈wr) aX s'->cR (j9 env sc H) s s':=λk'=>
  ⟨λb ob n p e=>k'.heap b ob (λq=>q.elim n λq=>by rw[(hwr b q).1]at e;cases e) p (k.keep b ob p e),k'.os.trans k.os,λq=>k'.gens (k.gens q),λt=>k'.tab (k.tab t)⟩
 cases fl with
 |next=>refine jR g ?_;clear g;intro a V' H' t' W' e' k';exact⟨a,V',H',t',W',ext e',kk k'⟩
 |brk=>refine jR g ?_;clear g;intro a V' H' t' W' e' k';exact⟨a,V',H',t',W',ext e',kk k'⟩
 |ret p=>refine pf g ?_;clear g;intro v a V' H' e' rp k';exact⟨v,a,V',H',ext e',rp,kk k'⟩
theorem xV{ts:List Expr}{xs:List Str}(h:cj ts=some xs)(h3:xs.length=3):∃x y z q1 q2 q3,ts=[.Name x q1,.Name y q2,.Name z q3]/\xs=[x,y,z]:=by
 match xs,h3 with
 | [x,y,z],_=>
  refine fL (jx h) ?_;intro q1 r e h;refine fL (jx h) ?_;intro q2 r e2 h;refine fL (jx h) ?_;intro q3 r e3 h;exact⟨x,y,z,q1,q2,q3,by rw[e,e2,e3,uO h],rfl⟩
theorem Ey(S:∀m,iY G o r m)(SO:rX G o){aL:SE}{ts:List Expr}{v:Expr}{pos:Pos}(hr:br A (n+r))(W:cZ G P env sc σ V H tag s)(h:LX o Wn (ev o n sc σ) sc σ ts v=some aL):tw G A P env sc V H s ts v pos aL:=by
 unfold LX at h
 cases h1:j8 ts with
 |none=>
  rw[h1]at h;refine b9 h λxs hn h=>io h λhc h=>b9 h λp hp hb=>b9 hp λq hq hp=>?_;obtain⟨x,y,z,q1,q2,q3,rfl,rfl⟩:=xV hn (of_decide_eq_true (gw hc).1);rw[yC hq];exact vS W hp hb
 |some t=>
  rw[h1]at h;rw[fi h1];have h:Iw o Wn (ev o n sc σ) sc σ t v=some aL:=h;unfold Iw at h
  cases hx:dc t with
  |some x=>
   rw[hx]at h;refine xE (cz hx) ?_;intro q e;rw[e];exact xu S hr W h
  |none=>
   rw[hx]at h;have h:(match ip t with
    |some ts=>GG Wn (ev o n sc σ) sc σ ts v
    |none=>match pC t with
     |some q=>E5 (ev o n sc σ) σ q.1 q.2 v
     |none=>(qL t).bind λq=>DG o (ev o n sc σ) σ q.1 q.2 v)=some aL:=h
   cases ht:ip t with
   |some ts=>
    rw[ht]at h;refine yo (kN ht) ?_;intro k q e;rw[e];refine b9 (x:=cj ts) h λxs hn h=>?_
    cases hv:ip v with
    |some vs=>
     rw[hv]at h;refine yo (kN hv) ?_;intro k' q' e';rw[e'];refine io h λhc h=>b9 h λps hps hb=>?_;refine xA (gw hc) ?_;intro hc h5;refine xA (gw hc) ?_;intro hc h4;refine xA (gw hc) ?_;intro hc h3;refine xA (gw hc) ?_;intro hc h2;exact vO S hr W hn (of_decide_eq_true hc) (of_decide_eq_true h2) h3 ((eO.mp h4).imp beq_iff_eq.mp beq_iff_eq.mp) (by simpa using h5) hps hb
    |none=>
     rw[hv]at h;refine io h λJ h=>b9 h λu hu h=>b9 h λps hps h=>fz h λJ hb=>?_;exact tK S hr W hn hv (kq hps▸hu) hb
   |none=>
    rw[ht]at h;have h:(match pC t with
     |some q=>E5 (ev o n sc σ) σ q.1 q.2 v
     |none=>(qL t).bind λq=>DG o (ev o n sc σ) σ q.1 q.2 v)=some aL:=h
    cases hs:pC t with
    |some q=>
     rw[hs]at h;refine yo (ud hs) ?_;intro q1 q2 e;rw[e];exact yG S hr W h
    |none=>
     rw[hs]at h;refine b9 h λq hq h=>?_;refine yo (zT hq) ?_;intro q1 q2 e;rw[e];exact xw S SO hr W h
theorem C1(S:∀m,iY G o r m){aL:SE}{t v:Expr}{op:Operator}{pos:Pos}(hr:br A (n+r))(W:cZ G P env sc σ V H tag s)(h:MG (ev o n sc σ) sc σ t op v=some aL):wpAny (model ag w) A (exec (.AugAssign t op v pos) env) (dg G P env sc V H s .next aL) EF s:=by
 refine io h λhop h9=>?_;have hop:=beq_iff_eq.mp hop;subst hop
 cases hx:dc t with
 |some x=>
  rw[hx]at h9;refine xE (cz hx) ?_;intro q e;rw[e];exact CA S hr W h9
 |none=>
  rw[hx]at h9;refine b9 h9 λq hq h8=>?_;refine yo (ud hq) ?_;intro q1 q2 e;rw[e];exact Hl S hr W h8
theorem CH{x:Option SE}{fl:Fl}{aL:SE}{C:Prop}(h:x.map lH=some (fl,aL))(k:x=some aL->fl=.next->C):C:=by
 cases x with
 |none=>cases h
 |some a=>cases h;exact k rfl rfl
theorem GM(S:∀m,iY G o r m)(SO:rX G o)(X:F4 G o r Wn n){aL:SE}{st:Stmt}{fl:Fl}(hr:br A (n+1+r))(h:ex o Wn (n+1) sc σ st=some (fl,aL))(W:cZ G P env sc σ V H tag s):
  wpAny (model ag w) A (exec st env) (dg G P env sc V H s fl aL) EF s:=by
 have hr':br A (n+r):=hr.le (pn [_,_] 0x0DA1A180A10)
 cases st with
 |Assign ts v pos=>exact CH h λh e=>by rw[e];exact Ey S SO hr' W h
 |AugAssign t op v pos=>exact CH h λh e=>by rw[e];exact C1 S hr' W h
 |Expr e pos=>exact CH h λh e=>by rw[e];exact xM S hr' W h
 |If t b e pos=>
  refine b9 (x:=evT o n sc σ t) (f:=λc=>if c=true then exs o Wn n sc σ b else exs o Wn n sc σ e) h λc hc h=>wpAny_If (cG ((S n).evT hr' hc W.st.ev) λb aH g=>?_);refine xA g ?_;clear g;rintro rfl k
  cases b with
  |true=>exact cG (X.exs hr' h (W.kp k)) λJ J g=>dg.kp W k g
  |false=>exact cG (X.exs hr' h (W.kp k)) λJ J g=>dg.kp W k g
 |For t it body els pos=>
  refine io (x:=(evI o n sc σ t it).bind λitems=>exF o Wn n sc σ t items body) h λhe h=>b9 h λitems hi h=>?_;rw[dz he];exact Dz S X hr' W hi h
 |Return e pos=>
  refine b9 (x:=e) (f:=λe=>(ev o n sc (J0 σ) e).map λv=>(Fl.ret v,[])) h λe he h=>?_;refine bC (ci.mp h) ?_;intro v hv h
  cases h
  rw[he];exact ya S hr' W hv
 |Break pos=>
  have h:some (Fl.brk,σ)=some (fl,aL):=h
  cases h
  rw[arm_exec_Break];exact wpAny_bind (wpAny_standAt (wpAny_pure ⟨rfl,V,H,tag,W,ky.refl,cR.refl _ _⟩))
 |_=>exact nn h
theorem Hz(S:∀m,iY G o r m)(SO:rX G o)(Wn:List Str):∀n,F4 G o r Wn n:=by
 intro n
 induction n with
 |zero=>exact⟨λJ h=>nn h,λJ h=>nn h,λJ h=>nn h⟩
 |succ n ih=>exact⟨GM S SO ih,D6 ih,DK ih⟩
end
end Mine
end
section
namespace Mine
section
variable{A:Around}{s:Shared}{V H:Addr->Prop}{env:Env}{sc:Sc}{σ:SE}
variable{o:cS}{r n:Nat}{tag:Addr->Str}{P:Str->Value->Prop}{Wn:List Str}
theorem sD{kindOf:Str->Option NameKind}:∀(binds:List (Str×Value)) (m cm:Str->Option Value),(binds.map (·.1)).Nodup ->
  (∀x v,(x,v)∈binds->(kindOf x=some .local->bindL kindOf binds m x=some v)/\(kindOf x≠some .local->bindC kindOf binds cm x=some v)) /\
  (∀x,(∀q∈binds,q.1≠x)->bindL kindOf binds m x=m x/\bindC kindOf binds cm x=cm x)
 | [],m,cm,_=>⟨λJ J h=>(nomatch h),λJ J=>⟨rfl,rfl⟩⟩
 |(n,v)::r,m,cm,hn=>by
  rw[ao,bH]at hn;have no:∀q∈r,q.1≠n:=λq hq e=>hn.1 (aG.mpr ⟨q,hq,e⟩);by_cases hk:kindOf n=some .local
  ·refine xA (sD (kindOf:=kindOf) r (λy=>if y=n then some v else m y) cm hn.2) ?_;intro h1 h2
   refine⟨λx u hx=>?_,λx hx=>?_⟩
   ·unfold bindL bindC
    rw[if_pos hk,if_pos hk];rcases ai.mp hx with q|q
    ·cases q
     refine⟨λJ=>?_,λh=>absurd hk h⟩;rw[(h2 _ no).1,if_pos rfl]
    ·exact h1 x u q
   ·unfold bindL bindC
    rw[if_pos hk,if_pos hk];refine xA (h2 x λq hq=>hx q (.tail _ hq)) ?_;intro a b;exact⟨by rw[a,if_neg (λe=>hx (n,v) (.head _) e.symm)],b⟩
  ·refine xA (sD (kindOf:=kindOf) r m (λy=>if y=n then some v else cm y) hn.2) ?_;intro h1 h2
   refine⟨λx u hx=>?_,λx hx=>?_⟩
   ·unfold bindL bindC
    rw[if_neg hk,if_neg hk];rcases ai.mp hx with q|q
    ·cases q
     refine⟨λh=>absurd h hk,λJ=>?_⟩;rw[(h2 _ no).2,if_pos rfl]
    ·exact h1 x u q
   ·unfold bindL bindC
    rw[if_neg hk,if_neg hk];refine xA (h2 x λq hq=>hx q (.tail _ hq)) ?_;intro a b;exact⟨a,by rw[b,if_neg (λe=>hx (n,v) (.head _) e.symm)]⟩
theorem fW.at{h:Heap}{L:List (Str×Bool×PV)}{vs:List Value}(sl:fW G V H tag h L vs)(x:Str)(b:Bool)(p:PV)(hm:(x,b,p)∈L):∃v,(x,v)∈(L.map (·.1)).zip vs/\gN G h V H tag x b p v:=by
 induction sl with
 |nil=>cases hm
 |cons s1 _ ih=>
  rw[ao,List.zip_cons_cons];rcases ai.mp hm with q|q
  ·cases q;exact⟨_,.head _,s1⟩
  ·refine bC (ih q) ?_;intro v h1 h2
   exact⟨v,.tail _ h1,h2⟩
theorem wR:∀{L:List (Str×Bool×PV)}{σ:SE}{x:Str}{u:Bool×PV},(L.map (·.1)).Nodup->(putL σ L).lookup x=some u->(x,u)∈L\/σ.lookup x=some u:=by
 intro L σ x u hn h;by_cases hx:∃v,(x,v)∈L
 ·refine xE hx ?_;clear hx;intro v hv
  rw[oE hn hv]at h
  cases h
  exact .inl hv
 ·rw[jp λq hq e=>hx ⟨q.2,by rw[<- e];exact hq⟩]at h
  exact .inr h
theorem E0{scope:Scope}{env:Env}{L:List (Str×Bool×PV)}{vals:List Value}{s aH:Shared}(hin:G.In s.heap)(lo:eu V s.heap)(hk:scope.kind=.function)(hnd:(scope.names.map (·.1)).Nodup)
  (hall:∀x k,(x,k)∈scope.names->k=.local\/k=.cell\/k=.globalImplicit)
  (esc:env.scope=scope) (egl:env.globals=mainGlobals) (ebi:env.builtins=builtinsNs) (eloc:env.locals=s.heap.objs.size) (ecel:env.cells=cellsFrom (s.heap.objs.size+1) scope.names [])
  (x:InCallC s env.locals (bindL env.kindOf ((L.map (·.1)).zip vals) λJ=>none) env.cells (bindC env.kindOf ((L.map (·.1)).zip vals) λJ=>none) aH)
  (hL:(L.map (·.1)).Nodup) (hlen:L.length=vals.length) (hms:∀q∈L,bh scope.names q.1=true) (sl:fW G V H tag s.heap L vals) (hH:∀a,H a->V a/\G.base.get? a=none) (hge:ds scope.names=true->env.code=.ref 55) :
  cZ G (λJ J=>False) env scope.names (putL [] L) (λa=>V a\/(s.heap.get? a=none/\aH.heap.get? a≠none)) H tag aH/\Kp s aH/\(∀a,lR env scope.names a->s.heap.get? a=none):=by
 refine fL x.toInCall.done ?_;intro h' tk same keep;have k:Kp s aH:=by rw[same];exact Kp.of keep
 have noneOf:∀a,s.heap.objs.size<=a->s.heap.get? a=none:=λa h=>by
  cases e:s.heap.get? a with
  |none=>rfl
  |some o=>exact absurd (aN e) (bT.mpr h)
 have kindOf:∀y,env.kindOf y=scope.names.lookup y:=λy=>by unfold Env.kindOf;rw[esc]
 have cellMem:∀y c,env.cells.lookup y=some c->scope.names.lookup y=some .cell/\s.heap.objs.size < c:=λy c e=>by
  have m:=mem_of_lookup e;refine⟨gW hnd (iB (ecel▸m)),?_⟩
  have:=x.above y c m
  rw[eloc]at this;exact this
 have gr:∀a,s.heap.get? a≠none->(V a\/(s.heap.get? a=none/\aH.heap.get? a≠none))->V a:=λa e q=>q.elim id λq=>absurd q.1 e;have names:(((L.map (·.1)).zip vals).map (·.1))=L.map (·.1):=List.map_fst_zip (by rw[aa];exact(pn [_,_] 0x0D102D10) hlen);refine xA (sD (kindOf:=env.kindOf) ((L.map (·.1)).zip vals) (λJ=>none) (λJ=>none) (by rw[names];exact hL)) ?_;intro bv _;have cellAt:∀y,scope.names.lookup y=some .cell->∃c,env.cells.lookup y=some c:=λy hy=>by
  refine xE (fF (n:=s.heap.objs.size+1) (mem_of_lookup hy)) ?_;intro c hc;refine xE (lj hc) ?_;intro b hb;exact⟨b,by rw[ecel];exact hb⟩
 have varAt:∀y v,(y,v)∈(L.map (·.1)).zip vals->bh scope.names y=true->dD env aH.heap y v:=λy v hy hm=>by
  unfold bh at hm;simp only[bf,fk,beq_iff_eq]at hm;rcases hm.2 with hl|hc
  ·exact .inl ⟨by rw[kindOf];exact hl,_,x.toInCall.ns,(bv y v hy).1 (by rw[kindOf];exact hl)⟩
  ·refine xE (cellAt y hc) ?_;intro c hcl
   refine .inr ⟨.inl (by rw[kindOf];exact hc),c,hcl,?_⟩
   have:=x.cell y c hcl
   rw[(bv y v hy).2 (by rw[kindOf,hc];simp)]at this;exact this
 have Im:∀a,s.heap.get? a≠none->aH.heap.get? a≠none:=λa e q=>e (k.non q);have locEx:aH.heap.get? env.locals≠none:=by refine l9 x.toInCall.ns ?_;intro o _ _ ho _;exact bw ho
 have slotAt:∀y b p,(y,b,p)∈L->∃v,dD env aH.heap y v/\gN G aH.heap (λa=>V a\/(s.heap.get? a=none/\aH.heap.get? a≠none)) H tag y b p v:=λy b p hm=>by
  refine bC (sl.at y b p hm) ?_;intro v h1 h2;refine⟨v,varAt y v h1 (hms _ hm),?_⟩
  cases b with
  |true=>exact jN.keep (Kp.hk k lo.pt) (λb o h e=>k.keep b o (λq=>mX (q▸(hH b h.1).2)) e) gr (h2:jN G s.heap V _ p v)
  |false=>exact Rep.keep (Kp.hk k lo.pt) gr (h2:G.Rep s.heap V p v)
 have locNone:s.heap.get? env.locals=none:=noneOf _ (by rw[eloc];exact aK _);have cellNone:∀y c,env.cells.lookup y=some c->s.heap.get? c=none:=λy c e=>noneOf _ (Nat.le_of_lt (cellMem y c e).2);have baseNone:∀a,s.heap.get? a=none->G.base.get? a=none:=λa h=>eJ hin h;have cellEx:∀y c,env.cells.lookup y=some c->aH.heap.get? c≠none:=λy c e=>by
  refine bC (x.cell y c e) ?_;intro o ho _;exact bw ho
 refine⟨⟨⟨⟨hin.kp k,by rw[esc];exact hk,egl,ebi,⟨_,x.toInCall.ns⟩,λy e=>by rw[kindOf];exact e,λy e=>by rw[kindOf];exact e,?_,?_,?_,?_,?_,hge⟩,.inr ⟨locNone,locEx⟩,λy c J e=>.inr ⟨cellNone y c e,cellEx y c e⟩,?_,?_,?_,?_,λy e=>by rw[kindOf];exact e⟩,λa h=>.inl (hH a h).1,?_,?_,λJ J q=>q.elim,λJ J q=>q.elim⟩,k,?_⟩
 ·intro y hy
  rcases hy with hy|hy
  ·refine xE (cellAt y hy) ?_;intro c hc
   exact⟨.inl (by rw[kindOf];exact hy),c,hc,_,x.cell y c hc⟩
  ·rcases hall y _ (mem_of_lookup hy) with q|q|q<;>cases q
 ·intro y b p e
  rcases wR hL e with hm|hm
  ·refine bC (slotAt y b p hm) ?_;intro v hv hs
   exact⟨v,hv,hs.slot⟩
  ·cases hm
 ·intro a h
  rcases h with rfl|⟨y,h⟩|h
  ·exact baseNone _ locNone
  ·exact baseNone _ (cellNone y a h)
  ·exact(hH a h).2
 ·intro a h
  rcases h with rfl|⟨y,h⟩|h
  ·exact locEx
  ·exact cellEx y a h
  ·exact Im a (lo.some (hH a h).1)
 ·exact⟨λa h J=>h.elim (λh=>Im a (lo.some h)) λh=>h.2,k.tab lo.tab,.inl lo.pt⟩
 ·intro y c e
  have:=(cellMem y c e).2
  rw[eloc];exact gB this
 ·intro y z c _ e1 e2
  exact name_of_addr x.apart (mem_of_lookup e2) (mem_of_lookup e1)
 ·intro h
  exact lo.some (hH _ h).1 locNone
 ·intro y c _ e h
  exact lo.some (hH _ h).1 (cellNone y c e)
 ·intro y p e
  rcases wR hL e with hm|hm
  ·exact slotAt y true p hm
  ·cases hm
 ·intro y c e h
  exact lo.some (hH _ h).1 (cellNone y c e)
 ·rintro a (rfl|⟨y,_,h⟩)
  ·exact locNone
  ·exact cellNone y a h
structure zL(G:GX ag w)(f:Addr)(params:List Str)(scope:Scope)(body:List Stmt):Prop where
 ok:∃ob fd,G.base.get? f=some ob/\ob.data=.func fd/\G.base.CodeRec fd.code fd.qualname/\fd.body=.stmts body/\fd.closure=[]/\fd.globals=mainGlobals/\fd.builtins=builtinsNs/\fd.scope=scope /\
  ∀vals:List Value,vals.length=params.length->bindArgs fd ⟨vals,[]⟩=pure (params.zip vals)
 gen:∀ob fd,G.base.get? f=some ob->ob.data=.func fd->ds scope.names=true->fd.code=.ref 55
theorem wC:∀{xs:List Str}{ps:List PV}{σ aL:SE},dq sc xs ps σ=some aL->aL=putL σ (dG xs ps)/\(∀x∈xs,bh sc x=true):=λ{xs}=>by
 induction xs with
 |nil=>intro ps σ aL h;exact io h λhp h=>by rw[dz hp,bD h];exact⟨rfl,λJ h=>nomatch h⟩
 |cons x xs ih=>
  intro ps σ aL h
  cases ps with
  |nil=>exact nn h
  |cons p ps=>
   refine fz h λhm h=>?_;refine xA (ih h) ?_;intro h1 h2;exact⟨h1,λy hy=>(ai.mp hy).elim (λe=>e▸hm) (h2 y)⟩
theorem nr{h:Heap}:∀{xs:List Str}{ps:List PV}{vs:List Value},xs.length=ps.length->G.RepL h V ps vs->fW G V H tag h (dG xs ps) vs:=λ{xs}=>by
 induction xs with
 |nil=>
  intro ps vs hl r
  cases ps with
  |cons _ _=>cases hl
  |nil=>cases vs with
   |nil=>exact .nil
   |cons v vs=>exact False.elim r
 |cons x xs ih=>
  intro ps vs hl r
  cases ps with
  |nil=>cases hl
  |cons p ps=>cases vs with
   |nil=>exact False.elim r
   |cons v vs=>exact .cons (b:=false) r.1 (ih (Nat.succ.inj hl) r.2)
theorem iz{xs:List Str}{ps:List PV}(hl:xs.length=ps.length):(dG xs ps).map (·.1)=xs:=by
 unfold dG;rw[aj];show List.map (λq:Str×PV=>q.1) (xs.zip ps)=xs;exact List.map_fst_zip (by exact(pn [_,_] 0x0D102D10) hl)
theorem yS{h:Heap}(i:G.In h):h.NoLimit:=by
 refine bC G.nolimit ?_;intro mc hn e;exact⟨mc,yi i hn,e⟩
theorem GB{ps:Array Value}{q:Str}{t:Tok}(h:TriplesOk ps.toList)(v:ps[1]?=some (.str q t)):False:=by
 obtain⟨l⟩:=ps;have v:l[1]?=some (.str q t):=by simpa using v
 have h:TriplesOk l:=h
 cases l with
 |nil=>cases v
 |cons a l=>cases l with
  |nil=>cases v
  |cons b l=>cases v;cases a<;>exact False.elim h
theorem zt{h:Heap}(i:G.In h){cd:Value}{q:Str}(x:G.base.CodeRec cd q):h.CodeRec cd q:=by
 obtain⟨c,ob,vs,t,e,g,d,v⟩:=x;refine⟨c,ob,vs,t,e,i.old _ _ (λz=>?_) g,d,v⟩;obtain⟨o1,v1,fl,tf,fg,tg,inf,tx,tt,op,_,_,_,_,_,_,_,hop,hpd,htr,_⟩:=G.code;rw[z,hop]at g;cases g;rw[hpd]at d;cases d;exact GB htr v
theorem t5{f:Addr}{params:List Str}{scope:Scope}{body:List Stmt}{L:List (Str×Bool×PV)}{vals:List Value}{Q:Value->Shared->Prop}(F:zL G f params scope body)(hr:br A (n+1))(hin:G.In s.heap)(lo:eu V s.heap)
  (hk:scope.kind=.function) (hg:scope.isGenerator=false) (hco:scope.isCoroutine=false) (hnd:(scope.names.map (·.1)).Nodup) (hall:∀x k,(x,k)∈scope.names->k=.local\/k=.cell\/k=.globalImplicit)
  (hp:L.map (·.1)=params) (hpn:params.Nodup) (hlen:L.length=vals.length) (hms:∀q∈L,bh scope.names q.1=true) (sl:fW G V H tag s.heap L vals) (hH:∀a,H a->V a/\G.base.get? a=none)
  (h:∀(A':Around) (env:Env) (aH:Shared),br A' n->cZ G (λJ J=>False) env scope.names (putL [] L) (λa=>V a\/(s.heap.get? a=none/\aH.heap.get? a≠none)) H tag aH->Kp s aH->(∀a,lR env scope.names a->s.heap.get? a=none) ->
   wpAny (model ag w) A' (execs body env) (λfl s'=>Q (match fl with| .ret v=>v|_=>.none) s') EF aH) :
  codeAny (model ag w) A (.call (.ref f) ⟨vals,[]⟩) (λr s'=>match r with| .ok (.ret v)=>Q v s'| .ok _=>False| .error _=>False) s:=by
 obtain⟨ob,fd,ho,hdata,hcd,hbody,hclo,hgl,hbi,hsc,hbind⟩:=F.ok;subst hsc;have hpl:vals.length=params.length:=by rw[<- hp,aa,hlen]
 refine codeAny_call_cells (R:=λr s'=>match r with| .ok (.ret v)=>Q v s'| .ok _=>False| .error _=>False) hr.depth (hin.old _ _ (oQ ho λps e=>nomatch hdata.symm.trans e) ho) hdata (yS hin) (zt hin hcd) hbody (hbind vals hpl) hclo ?_ ?_ hco hg hk
 ·intro y hy
  obtain⟨y,v⟩:=y;have hy':y∈params:=(List.of_mem_zip hy).1;rw[<- hp]at hy';refine bC (aG.mp hy') ?_;rintro q hq rfl
  have:=hms q hq
  unfold bh at this;simp only[bf,fk,beq_iff_eq]at this;rcases this.2 with z|z
  ·exact .inl z
  ·refine .inr ⟨z,?_⟩
   refine xE (fF (n:=s.heap.objs.size+1) (mem_of_lookup z)) ?_;intro c hc;refine xE (lj hc) ?_;intro b hb;show((cellsFrom (s.heap.objs.size+1) fd.scope.names []).lookup q.1).isSome=true;rw[hb];rfl
 ·intro aH x
  rw[<- hp]at x;have fo:=E0 (env:=callEnvC fd s.heap.objs.size f) hin lo hk hnd hall rfl hgl hbi rfl rfl x (by rw[hp];exact hpn) hlen hms sl hH (F.gen ob fd ho hdata);exact wpAny_mono (h (A.deeper (callEnvC fd s.heap.objs.size f)) _ aH hr.deeper fo.1 fo.2.1 fo.2.2) (λfl s' z=>z) λJ J x=>x.elim
theorem rG{params:List Str}{scope:Scope}{args:List PV}(h:zR params scope args=true):params.length=args.length/\params.Nodup/\scope.kind=.function/\scope.isGenerator=false/\scope.isCoroutine=false/\(scope.names.map (·.1)).Nodup/\∀x k,(x,k)∈scope.names->k=.local\/k=.cell\/k=.globalImplicit:=by
 unfold zR at h;simp only[bf,decide_eq_true_eq,beq_iff_eq,mI,bj,fk]at h;refine xA h ?_;clear h;rintro⟨⟨⟨⟨⟨h1,h2⟩,h3⟩,h4⟩,h5⟩,h6⟩ h7;exact⟨h1,of_decide_eq_true h2,h3,h4,h5,h6,λx k hx=>(h7 (x,k) hx).elim (λq=>q.imp id .inl) λq=>.inr (.inr q)⟩
theorem mq{xs:List Str}{ps:List PV}{vs:List Value}(h1:xs.length=ps.length)(h2:ps.length=vs.length):(dG xs ps).length=vs.length:=by
 unfold dG;rw[aa,List.length_zip,h1,Nat.min_self,h2]
theorem nA{xs:List Str}{ps:List PV}(hl:xs.length=ps.length)(hms:∀x∈xs,bh sc x=true):∀q∈dG xs ps,bh sc q.1=true:=λq hq=>hms _ (by rw[<- iz hl];exact aG.mpr ⟨q,hq,rfl⟩)
theorem uW(X:∀n,F4 G o r Wn n){f:Addr}{params:List Str}{scope:Scope}{body:List Stmt}{args:List PV}{p:PV}(F:zL G f params scope body)(h:eE o Wn n params scope body args=some p):lh G (n+r+1) (.ref f) args p:=by
 intro A s V vs hr hin lo rl;refine io h λhc h=>b9 h λσ hb h=>b9 h λq hx h=>?_;refine vd (rG hc) ?_;intro h1 hpn h3 h4 h5 h6 h7;refine xA (wC hb) ?_;intro e hms;subst e;refine wpAny_call (t5 (L:=dG params args) (H:=λJ=>False) (tag:=λJ=>⟨#[]⟩) F hr hin lo h3 h4 h5 h6 h7 (iz h1) hpn (mq h1 (RepL.length rl)) (nA h1 hms) (nr h1 rl) (λa h=>h.elim) λA' env aH hr' W k hloc=>?_);have kk:∀{s':Shared},cR (j9 env scope.names λJ=>False) aH s'->Kp s s':=λ{s'} k'=>
  ⟨λb ob J p e=>k'.heap b ob (λq=>q.elim (λq=>nomatch (hloc b q).symm.trans e) id) p (k.keep b ob p e),k'.os.trans k.os,λg=>k'.gens (k.gens g),λt=>k'.tab (k.tab t)⟩
 obtain⟨F0,aL⟩:=q
 cases F0 with
 |ret v=>
  have h:=bD (show some v=some p from h);subst h;refine cG ((X n).exs hr' hx W) λfl s' g=>?_;refine pf g ?_;clear g;rintro u rfl V' H' e' rp k';exact⟨Rep.keep (bI.refl _ _) (λa J q=>⟨e'.v a (.inl q),λhq=>(e'.h' a hq).elim id λz=>lo.some q (k.non z)⟩) rp,kk k'⟩
 |next=>
  have h:=bD (show some PV.none=some p from h);subst h;refine cG ((X n).exs hr' hx W) λfl s' g=>?_;refine jR g ?_;clear g;rintro rfl V' H' tag' W' e' k';exact⟨mr.mpr rfl,kk k'⟩
 |brk=>exact nn h
end
end Mine
end
section
namespace Mine
section
variable{A:Around}{s:Shared}{V H:Addr->Prop}{K:Frag}{C:Addr}
variable{o:cS}{r n:Nat}{Wn:List Str}
theorem qM{h:Heap}{x d:Addr}{es:Array DictEntry}{ep:Nat}(g:h.get? x=some { cls:=.ref C,dict:=some d,data:=.plain })(gd:h.get? d=some { cls:=.type "dict",data:=.dict es ep }):
  InstAt h x { cls:=.ref C,dict:=some d,data:=.plain } C (some { cls:=.type "dict",data:=.dict es ep }):=⟨g,rfl,rfl,gd⟩
structure HD(K:Frag):Prop where
 at_:K.In G.base
 np:K.lookup PT=none
theorem F3(KB:HD K){h:Heap}(i:G.In h):K.In h:=λa ob e=>i.old a ob (λq=>by rw[q,KB.np]at e;cases e) (KB.at_ a ob e)
theorem su(KB:HD K){a:Str}{attr:Option Value}(hg:plainGet K C a=true)(hh:hasDictIn K C=true)(ha:findIn K (.ref C) a=some attr)(hn:noGet K attr=true)
  {x d:Addr}{es:Array DictEntry}{ep:Nat}{e:DictEntry}{Q:Value->Shared->Prop}{E:Value->Shared->Prop}(i:G.In s.heap)
  (g:s.heap.get? x=some { cls:=.ref C,dict:=some d,data:=.plain }) (gd:s.heap.get? d=some { cls:=.type "dict",data:=.dict es ep }) (he:es.toList.find? (·.key.isStr a)=some e) (hv:handedIn e.val=true) (q:∀tk,Q e.val { s with toks:=tk }) :
  wpAny (model ag w) A (getAttr (.ref x) a true) Q E s:=by
 refine get_value (F3 KB i) (qM g gd) (plainGet_of hg).1 (findObj_own hh ha hn ?_) hv (q _);unfold lookIn;dsimp only;rw[he]
theorem yy(KB:HD K){m:Str}{f:Addr}(hg:plainGet K C m=true)(hf:findIn K (.ref C) m=some (some (.ref f)))(ht:typeIn K (.ref f)=some (.type "function"))
  {x d:Addr}{es:Array DictEntry}{ep:Nat}{pl:Sem Bool}{Q:Value×List Value->Shared->Prop}{E:Value->Shared->Prop}(i:G.In s.heap)
  (g:s.heap.get? x=some { cls:=.ref C,dict:=some d,data:=.plain }) (gd:s.heap.get? d=some { cls:=.type "dict",data:=.dict es ep }) (h1:es.toList.find? (·.key.isStr m)=none) (h2:es.toList.any (·.refKey)=false) (q:Q (.ref f,[.ref x]) s) :
  wpAny (model ag w) A (getMethod (.ref x) m pl) Q E s:=by
 refine method_fn (F3 KB i) (qM g gd) (plainGet_of hg).1 (plainGet_of hg).2 hf ht ?_ q;unfold shadowIn lookIn;simp only[h1,h2];rfl
theorem Fx{h:Heap}{V:Addr->Prop}{a:Str}{p:PV}{v:Value}{hsh:Int}{t:Tok}(rp:G.Rep h V p v){fs:List (Str×PV)}{es:List DictEntry}(x:G.RepF h V fs es):G.RepF h V (rR fs a p) (PySem.W.putL a hsh (.str a t) v es):=
 RepF.ind (C:=λfs es=>G.RepF h V (rR fs a p) (PySem.W.putL a hsh (.str a t) v es)) (And.intro ⟨t,rfl⟩ ⟨rp,trivial⟩) (λk u t' e fs es hk ru x ih=>by
  have e1:e.key.isStr a=(k == a):=by rw[hk];rfl
  show G.RepF h V (if(k == a)=true then(k,p)::fs else(k,u)::rR fs a p) (if e.key.isStr a=true then { e with val:=v }::es else e::PySem.W.putL a hsh (.str a t) v es);rw[e1];by_cases q:(k == a)=true
  ·rw[if_pos q,if_pos q];exact And.intro ⟨t',hk⟩ ⟨rp,x⟩
  ·rw[if_neg q,if_neg q];exact And.intro ⟨t',hk⟩ ⟨ru,ih⟩) x
theorem sW(KB:HD K){a:Str}{v:Value}(hs:findIn K (.ref C) "__setattr__"=some (some (.builtin "object.__setattr__")))(hp:plainOver K C=true)(ht:takerIn K C a=some none)(hh:hasDictIn K C=true)
  {x d:Addr}{es:Array DictEntry}{ep:Nat}{Q:Unit->Shared->Prop}(i:G.In s.heap)
  (g:s.heap.get? x=some { cls:=.ref C,dict:=some d,data:=.plain }) (gd:s.heap.get? d=some { cls:=.type "dict",data:=.dict es ep }) (hz:es.size<=100) {fs:List (Str×PV)}{V:Addr->Prop}(rf:G.RepF s.heap V fs es.toList)
  (q:∀h' tk es' ep',cI d s.heap h'->h'.get? d=some { cls:=.type "dict",data:=.dict es' ep' }->(∀V p,G.RepF h' V fs es.toList->G.Rep h' V p v->G.RepF h' V (rR fs a p) es'.toList)->Q () { s with heap:=h',toks:=tk }) :
  wpAny (model ag w) A (setAttr (.ref x) a v) Q EF s:=by
 obtain⟨hp0,gs0,dr0,tk0,os0⟩:=s;dsimp only at i g gd rf q;refine set_plain (F3 KB i) (qM g gd) hs ?_;refine osa_open (s:=⟨hp0,gs0,dr0,tk0+1,os0⟩) (F3 KB i) (qM g gd) hp ht λb=>?_;refine bC (any_some hh) ?_;intro cd hc hd';have keys:=uK rf;refine wpAny_bind (wpAny_pure (wpAny_bind (wpAny_bind (wpAny_loadPart g (wpAny_bind ((looks_clsIn (F3 KB i) hc).here ?_))))));rw[hd'];refine wpAny_pure (a:=some d) (wpAny_bind (wpAny_pure (wpAny_bind ?_)));unfold nsSet;refine wpAny_bind (wpAny_bind (wpAny_askSetting (wpAny_pure (wpAny_bind (wpAny_mkText (wpAny_bind (wpAny_loadPart gd ?_)))))));dsimp only;have c:(!es.any (·.key.isStr a) && es.any (·.refKey))=false:=by
  rw[<- Array.any_toList,<- Array.any_toList,keys,i8]
 rw[aRefKeyMayBeTheName_at,c];have ed:(⟨Value.type "dict",none,Data.dict es ep,#[]⟩:Obj)=dictOf es.toList ep:=by unfold dictOf;simp
 have pnq:∀hsh key,Obj.putName a hsh key v ⟨Value.type "dict",none,Data.dict es ep,#[]⟩=dictOf (PySem.W.putL a hsh key v es.toList) (putN a es.toList ep):=λhsh key=>by rw[ed,putName_dict]
 refine wpAny_updatePart gd ?_;have D':(hp0.update d (Obj.putName a (PyData.keyHash w.params a) (.str a (tk0+1)) v)).get? d=some (dictOf (PySem.W.putL a (PyData.keyHash w.params a) (.str a (tk0+1)) v es.toList) (putN a es.toList ep)):=by
  rw[jK _ gd (by rw[pnq];rfl),pnq]
 have plen:∀{hsh key} (l:List DictEntry),(PySem.W.putL a hsh key v l).length<=l.length+1:=by
  intro hsh key l
  induction l with
  |nil=>simp[PySem.W.putL]
  |cons e r ih=>
   unfold PySem.W.putL;split
   ·simp
   ·simp only[am];exact(pn [_,_] 0x0DA18A181A1800DA1810) ih
 have esz:es.toList.length=es.size:=bG;refine wpAny_bind (wpAny_lookBehind D' (pastItsLine_dict (by
  have:=plen (hsh:=PyData.keyHash w.params a) (key:=.str a (tk0+1)) es.toList
  rw[aF,bn];exact(pn [_,_,_] 0x0DA18010000004920DA18122D010D64190) hz esz this)) ?_)
 refine wpAny_pure ?_;refine q _ _ _ _ (Heap.SameBut.update ..) D' λV p rf' rp=>?_;show G.RepF _ V (rR fs a p) (PySem.W.putL a _ _ v es.toList).toArray.toList;rw[List.toList_toArray];exact Fx rp rf'
noncomputable def Ko(self c:Str)(q:Fl×SE):Option PV:=match q.1 with
 | .next=>(qC q.2 self).bind λu=>(q0 u).bind λcf=>gd (cf.1 == c) (some (.obj c cf.2))
 | .brk=>none
 | .ret _=>none
noncomputable def lv(o:cS)(W:List Str)(n:Nat)(params:List Str)(scope:Scope)(body:List Stmt)(c:Str)(args:List PV):Option PV:=match params with
 |self::ps=>
  gd (zR (self::ps) scope (.none::args) && (self::ps).all (bh scope.names))
   ((exs o W n (scope.names.filter λq=>q.1 != self) (putL [] ((self,true,.obj c [])::dG ps args)) body).bind (Ko self c))
 | []=>none
end
end Mine
end
section
namespace Mine
section
variable{A:Around}{s:Shared}{V H:Addr->Prop}{K:Frag}{C:Addr}
variable{o:cS}{r n:Nat}{Wn:List Str}{env:Env}{sc:Sc}{σ:SE}{tag:Addr->Str}
theorem cZ.narrow{sc':Sc}{P:Str->Value->Prop}(W:cZ G (λJ J=>False) env sc σ V H tag s)(sub:∀x k,sc'.lookup x=some k->sc.lookup x=some k)(pin:∀x v,P x v->dD env s.heap x v)(np:∀x v,P x v->bh sc' x=false):
  cZ G P env sc' σ V H tag s:=by
 have T:=W.st;have E:=T.ev;exact⟨⟨⟨E.base,E.kind,E.gl,E.bi,E.ns,λx e=>E.glob x (sub x _ e),λx e=>E.loc x (sub x _ e),λx e=>E.cel x (e.imp (sub x _) (sub x _)),E.vars,E.hnb,E.hex,E.low,λq=>E.cd (beq_iff_eq.mpr (sub _ _ (beq_iff_eq.mp q)))⟩,T.vl,λx c e=>T.vc x c (sub x _ e),T.nl,
  λx y c e=>T.nc x y c (sub x _ e),T.hl,λx c e=>T.hc x c (sub x _ e),λx e=>T.kc x (sub x _ e)⟩,W.hv,W.sep,W.fc,pin,np⟩
theorem fC{self x:Str}{k:NameKind}:∀{l:Sc},(l.filter λq=>q.1 != self).lookup x=some k->x≠self/\l.lookup x=some k
 | [],h=>by cases h
 |(y,j)::r,h=>by
  rw[dl]at h;by_cases hy:(y != self)=true
  ·rw[if_pos hy,aO]at h
   rw[aO]
   cases e:x == y with
   |true=>
    rw[e]at h
    have:x=y:=by simpa using e
    subst this;exact⟨by simpa using hy,h⟩
   |false=>rw[e]at h;exact fC h
  ·rw[if_neg hy]at h
   refine xA (fC h) ?_;intro h1 h2;refine⟨h1,?_⟩
   have:x≠y:=by
    rintro rfl;exact hy (by simpa using h1)
   rw[aO,beq_eq_false_iff_ne.mpr this];exact h2
theorem Cg{args:List Value}(h:br A (n+1)):br (A.under (.builtin "type.__call__" ⟨.ref C::args,[]⟩)) n:=by
 refine⟨h.1,?_,?_⟩
 ·have:=h.2.1
  show A.depth+(Code.builtin "type.__call__" ⟨.ref C::args,[]⟩).weight+n < 1000;have e:(Code.builtin "type.__call__" ⟨.ref C::args,[]⟩).weight<=1:=jL rfl;exact(pn [_,_,_] 0x1D03E829A1A200D1821D03E829AA1810) this e
 ·have:=h.2.2
  show A.units+(Code.builtin "type.__call__" ⟨.ref C::args,[]⟩).cUnits+10 * n < 9900;have e:(Code.builtin "type.__call__" ⟨.ref C::args,[]⟩).cUnits<=10:=jL rfl;exact(pn [_,_,_] 0x1D26AC29A4C1A8A200DA821D26AC29A4CA181A80) this e
structure nE(G:GX ag w)(V:Addr->Prop)(C:Addr)(c:Str)(s aX:Shared):Prop where
 k0:Kp s aX
 gdx:aX.heap.get? s.heap.objs.size=some emptyDict
 gx:aX.heap.get? (s.heap.objs.size+1)=some (instObj C s.heap.objs.size)
def sO(n:Addr)(a:Addr):Prop:=a=n\/a=n+1
theorem oC{h:Heap}{a:Addr}(q:sO h.objs.size a):h.get? a=none:=
 q.elim (λq=>q▸jZ (aK _)) λq=>q▸jZ (dU _)
theorem yE{hp:Heap}{gs dr tk os}:nE G V C c ⟨hp,gs,dr,tk,os⟩ ⟨(hp.push emptyDict).push (instObj C hp.objs.size),gs,dr,tk,os⟩:=
 ⟨⟨λb ob J J e=>af _ (af _ e),rfl,id,.keep λJ e=>af _ (af _ e)⟩,af _ (ay _ rfl),by
  have:=ay (hp.push emptyDict) (o:=instObj C hp.objs.size) rfl
  rwa [bL]at this⟩
theorem nE.low{c:Str}{aX:Shared}(F:nE G V C c s aX)(lo:eu V s.heap):eu (λa=>V a\/sO s.heap.objs.size a) aX.heap:=by
 refine⟨λa q J=>?_,F.k0.tab lo.tab,.inl lo.pt⟩;rcases q with q|q|q
 ·exact(lo.kp F.k0).some q
 ·rw[q,F.gdx];exact λq=>nomatch q
 ·rw[q,F.gx];exact λq=>nomatch q
theorem nE.slots{c self:Str}{aX:Shared}{ps:List Str}{args:List PV}{vs:List Value}(F:nE G V C c s aX)(lo:eu V s.heap)(hC:G.cl c=some C)(h1:ps.length=args.length)(rl:G.RepL s.heap V args vs):
  fW G (λa=>V a\/sO s.heap.objs.size a) (sO s.heap.objs.size) (λJ=>self) aX.heap ((self,true,.obj c [])::dG ps args) (.ref (s.heap.objs.size+1)::vs):=by
 refine .cons ?_ (nr h1 (RepL.keep (Kp.hk F.k0) (λa e q=>q.elim id λq=>absurd (oC q) e) rl));show jN G aX.heap _ _ (.obj c []) _;exact⟨_,C,s.heap.objs.size,#[],0,rfl,⟨.inr rfl,rfl⟩,hC,⟨.inl rfl,rfl⟩,F.gx,F.gdx,trivial⟩
theorem nE.self{c self:Str}{aX aH:Shared}{ps:List Str}{args:List PV}{sc:Sc}{s7:Addr->Prop}(F:nE G V C c s aX)(hC:G.cl c=some C)(hpn:(self::ps).Nodup)(h1:ps.length=args.length)(k:Kp aX aH)(t:ki s.heap)(W:cZ G (λJ J=>False) env sc (putL [] ((self,true,PV.obj c [])::dG ps args)) s7 (sO s.heap.objs.size) (λJ=>self) aH):
  cZ G (λy v=>y=self/\v=.ref (s.heap.objs.size+1)) env (sc.filter λq=>q.1 != self) (putL [] ((self,true,PV.obj c [])::dG ps args)) s7 (sO s.heap.objs.size) (λJ=>self) aH:=by
 have vself:dD env aH.heap self (.ref (s.heap.objs.size+1)):=by
  have hl:(putL [] ((self,true,PV.obj c [])::dG ps args)).lookup self=some (true,.obj c []):=oE (by rw[ao,iz h1];exact hpn) (.head _);obtain⟨v,hv,a,C',d,es,ep,rfl,⟨ha,_⟩,hC',hd,g,_⟩:=W.sep self _ hl;rcases ha with ha|ha
  ·rw[ha,k.keep _ _ (λq=>t.some (q▸jZ (aK _))) F.gdx]at g;cases g
  ·rw[<- ha];exact hv
 refine W.narrow (λx k e=>(fC e).2) (λx v q=>by rw[q.1,q.2];exact vself) λx v q=>?_;unfold bh;rw[q.1];have nl:∀k,(sc.filter λq=>q.1 != self).lookup self≠some k:=λk e=>(fC e).1 rfl;rw[Bool.and_eq_false_iff]
 right
 rw[Bool.or_eq_false_iff];exact⟨beq_eq_false_iff_ne.mpr (nl _),beq_eq_false_iff_ne.mpr (nl _)⟩
theorem nE.done{c self:Str}{aX aH s':Shared}{sc:Sc}{s7:Addr->Prop}{aL:SE}{fs:List (Str×PV)}(F:nE G V C c s aX)(lo:eu V s.heap)(k:Kp aX aH)(hloc:∀a,lR env sc a->aX.heap.get? a=none)(hV:∀a,V a->s7 a)(hs:aL.lookup self=some (true,.obj c fs))
  (g:Nx G (λy v=>y=self/\v=.ref (s.heap.objs.size+1)) env (sc.filter λq=>q.1 != self) s7 (sO s.heap.objs.size) aL aH s'):ca G V s (.obj c fs) (.ref (s.heap.objs.size+1)) s':=by
 refine C4 g ?_;clear g;intro V' H' tag' W'' e' k';refine⟨?_,⟨λb ob J p e=>k'.heap b ob (λq=>?_) p (k.keep b ob p (F.k0.keep b ob p e)),k'.os.trans (k.os.trans F.k0.os),λg=>k'.gens (k.gens (F.k0.gens g)),λt=>k'.tab (k.tab (F.k0.tab t))⟩⟩
 ·obtain⟨v,hv,a,C',d,es,ep,rfl,⟨ha,_⟩,hC',⟨hd,_⟩,g,gd,rf⟩:=W''.sep self _ hs
  have:=kC hv (W''.pin self _ ⟨rfl,rfl⟩)
  cases this
  have fresh:∀b,H' b->¬V b:=λb hb vb=>(e'.h' b hb).elim (λq=>lo.some vb (oC q)) λq=>lo.some vb (F.k0.non (k.non q (F.k0.tab lo.tab)));exact ei _ ⟨C',d,es,ep,rfl,fresh _ ha,hC',fresh _ hd,g,gd,RepF.keep (bI.refl _ _) (λb J q=>e'.v b (hV b q)) rf⟩
 ·rcases q with q|q
  ·have q':lR env sc b:=q.imp id λ⟨x,q1,q2⟩=>⟨x,(fC q1).2,q2⟩
   exact nomatch (F.k0.non (hloc b q')).symm.trans e
  ·exact nomatch (oC q).symm.trans e
theorem CS(X:∀n,F4 G o r Wn n){c self:Str}{fI:Addr}{ps:List Str}{scope:Scope}{body:List Stmt}{args:List PV}{p:PV}(KB:HD K)(hm:makesIn K C=true)(hi:findIn K (.ref C) "__init__"=some (some (.ref fI)))(hf:typeIn K (.ref fI)=some (.type "function"))
  (hC:G.cl c=some C) (F:zL G fI (self::ps) scope body) (h:lv o Wn n (self::ps) scope body c args=some p):lh G (n+r+2) (.ref C) args p:=by
 intro A s V vs hr hin lo rl;have h:gd (zR (self::ps) scope (.none::args) && (self::ps).all (bh scope.names))
   ((exs o Wn n (scope.names.filter λq=>q.1 != self) (putL [] ((self,true,.obj c [])::dG ps args)) body).bind (Ko self c))=some p:=h
 refine io h λhc h=>b9 h λq hx h=>?_;refine xA (gw hc) ?_;intro hc h8;have h8:=bj.mp h8;refine vd (rG hc) ?_;intro h1 hpn h3 h4 h5 h6 h7;have h1:=Nat.succ.inj h1;obtain⟨F0,aL⟩:=q
 cases F0 with
 |next=>
  obtain⟨fs,hs,hp⟩:∃fs,aL.lookup self=some (true,.obj c fs)/\p=.obj c fs:=by
   refine b9 (x:=qC aL self) (f:=λu=>(q0 u).bind λcf=>gd (cf.1 == c) (some (PV.obj c cf.2))) h λu hu h=>b9 h λcf hcf h=>io h λhcc h=>⟨cf.2,?_,bD h⟩
   have:=(pd hu).1
   rw[oK hcf,beq_iff_eq.mp hcc]at this;exact this
  subst hp;obtain⟨hp,gs,dr,tk,os⟩:=s;dsimp only at hin lo rl;refine wpAny_call (make_core (makes_of (F3 KB hin) hm) (looks_findIn (F3 KB hin) hi) (λslf=>bind_fn (F3 KB hin) slf hf) (.inl rfl) ?_);have Fr:nE G V C c ⟨hp,gs,dr,tk,os⟩ ⟨(hp.push emptyDict).push (instObj C hp.objs.size),gs,dr,tk,os⟩:=yE;generalize(⟨(hp.push emptyDict).push (instObj C hp.objs.size),gs,dr,tk,os⟩:Shared)=aX at Fr;refine codeAny_mono (t5 (n:=n+r) (Q:=λv s'=>v=.none/\ca G V ⟨hp,gs,dr,tk,os⟩ (.obj c fs) (.ref (hp.objs.size+1)) s') (L:=(self,true,PV.obj c [])::dG ps args) F (Cg hr) (hin.kp Fr.k0) (Fr.low lo) h3 h4 h5 h6 h7
   (by rw[ao,iz h1]) hpn (congrArg gk (mq h1 (RepL.length rl))) (λq hq=>?_) (Fr.slots lo hC h1 rl) (λa q=>⟨.inr q,eJ hin (oC q)⟩) λA' env aH hr' W k hloc=>?_) λrr s' z=>?_
  ·rcases ai.mp hq with rfl|hq
   ·exact h8 _ (.head _)
   ·exact nA (sc:=scope.names) h1 (λx hx=>h8 x (.tail _ hx)) q hq
  ·refine cG ((X n).exs hr' hx (Fr.self hC hpn h1 k lo.tab W)) λfl s' g=>?_
   refine xA g ?_;clear g;rintro rfl g;exact⟨rfl,Fr.done lo k hloc (λb q=>.inl (.inl q)) hs g⟩
  ·rcases rr with e|(v|_|_|_)<;>first|exact False.elim z|exact z
 |brk=>exact nn h
 |ret v=>exact nn h
end
end Mine
end
section
namespace Mine
structure F5 where
 name:Str
 a:Addr
 params:List Str
 scope:Scope
 body:List Stmt
 W:List Str
structure tF where
 cls:Str
 fn:F5
structure uV where
 C:Addr
 init:F5
noncomputable def CC(o:cS)(N:Nat)(E:List F5)(Cs:List uV)(f:Str)(args:List PV):Option PV:=match E.find? (λe=>e.name == f) with
 |some e=>eE o e.W N e.params e.scope e.body args
 |none=>match Cs.find? (λe=>e.init.name == f) with
  |some e=>lv o e.init.W N e.init.params e.init.scope e.init.body e.init.name args
  |none=>o.fn f args
noncomputable def yN(o:cS)(N:Nat)(Ms:List tF)(c m:Str)(args:List PV):Option PV:=match Ms.find? (λe=>e.cls == c && e.fn.name == m) with
 |some e=>eE o e.fn.W N e.fn.params e.fn.scope e.fn.body args
 |none=>o.mth c m args
noncomputable def ext(o:cS)(N:Nat)(E:List F5)(Ms:List tF)(Cs:List uV):cS where
 fn:=CC o N E Cs
 bi:=o.bi
 mth:=yN o N Ms
 fld:=o.fld
 cattr:=o.cattr
 gval:=o.gval
 tab:=o.tab
section
variable{K:Frag}{o:cS}{r N:Nat}
theorem lh.mono{f:Value}{args:List PV}{p:PV}{r':Nat}(h:lh G r f args p)(le:r<=r'):lh G r' f args p:=
 λA s V vs hr hin lo rl=>h A s V vs (hr.le le) hin lo rl
theorem jX.mono{f:Value}{args:List PV}{p:PV}{r':Nat}(h:jX G r f args p)(le:r<=r'):jX G r' f args p:=
 λA s V vs hr hin lo rl=>h A s V vs (hr.le le) hin lo rl
structure u0(G:GX ag w)(e:F5):Prop where
 glob:cq G e.name (.ref e.a)
 callee:ij G (.ref e.a)
 fn:zL G e.a e.params e.scope e.body
structure wI(G:GX ag w)(K:Frag)(e:tF):Prop where
 ok:∃C,G.cl e.cls=some C/\plainGet K C e.fn.name=true/\findIn K (.ref C) e.fn.name=some (some (.ref e.fn.a))/\typeIn K (.ref e.fn.a)=some (.type "function")
 callee:ij G (.ref e.fn.a)
 fn:zL G e.fn.a e.fn.params e.fn.scope e.fn.body
structure rS(G:GX ag w)(K:Frag)(e:uV):Prop where
 glob:cq G e.init.name (.ref e.C)
 callee:ij G (.ref e.C)
 made:makesIn K e.C=true
 init:findIn K (.ref e.C) "__init__"=some (some (.ref e.init.a))
 type:typeIn K (.ref e.init.a)=some (.type "function")
 cl:G.cl e.init.name=some e.C
 fn:zL G e.init.a e.init.params e.init.scope e.init.body
theorem Ez(KB:HD K)(OO:gF G o r)(X:∀W n,F4 G o r W n){E:List F5}{Cs:List uV}(hE:∀e∈E,u0 G e)(hC:∀e∈Cs,rS G K e){f:Str}{args:List PV}{p:PV}(h:CC o N E Cs f args=some p):
  ∃fv,cq G f fv/\ij G fv/\lh G (N+r+2) fv args p:=by
 unfold CC at h
 cases he:E.find? (λe=>e.name == f) with
 |some e=>
  rw[he]at h;have hf:e.name=f:=beq_iff_eq.mp (kg (p:=λe:F5=>e.name == f) he);have F:=hE e (gX he);exact⟨_,hf▸F.glob,F.callee,(uW (X e.W) F.fn h).mono (dU _)⟩
 |none=>
  rw[he]at h;have h:(match Cs.find? (λe=>e.init.name == f) with
   |some e=>lv o e.init.W N e.init.params e.init.scope e.init.body e.init.name args
   |none=>o.fn f args)=some p:=h
  cases hc:Cs.find? (λe=>e.init.name == f) with
  |some e=>
   rw[hc]at h;have h:lv o e.init.W N e.init.params e.init.scope e.init.body e.init.name args=some p:=h;have hf:e.init.name=f:=beq_iff_eq.mp (kg (p:=λe:uV=>e.init.name == f) hc);have F:=hC e (gX hc);refine⟨_,hf▸F.glob,F.callee,?_⟩;have F2:=F.fn
   cases hp:e.init.params with
   |nil=>rw[hp]at h;exact nn h
   |cons self ps=>rw[hp]at h F2;exact CS (X _) KB F.made F.init F.type F.cl F2 h
  |none=>
   rw[hc]at h;refine fJ (OO.fn f args p h) ?_;intro fv h1 h2 h3;exact⟨fv,h1,h2,h3.mono (pn [_,_] 0x0DA28A010)⟩
theorem yK(KB:HD K)(OO:gF G o r)(X:∀W n,F4 G o r W n){E:List F5}{Ms:List tF}{Cs:List uV}(hE:∀e∈E,u0 G e)(hM:∀e∈Ms,wI G K e)(hC:∀e∈Cs,rS G K e):
  gF G (ext o N E Ms Cs) (N+r+2) where
 fn:=λf args p h=>Ez KB OO X hE hC h
 bi:=λf args p h=>by
  refine fJ (OO.bi f args p h) ?_;intro fv h1 h2 h3;exact⟨fv,h1,h2,h3.mono (pn [_,_] 0x0DA28A010)⟩
 mth:=λc m args p h=>by
  have h:yN o N Ms c m args=some p:=h;unfold yN at h
  cases he:Ms.find? (λe=>e.cls == c && e.fn.name == m) with
  |some e=>
   rw[he]at h;refine xA (gw (kg (p:=λe:tF=>e.cls == c && e.fn.name == m) he)) ?_;intro h1 h2;have F:=hM e (gX he);have h1:=beq_iff_eq.mp h1;have h2:=beq_iff_eq.mp h2;subst h1;subst h2;refine H7 F.ok ?_;intro C h1 h2 h3 h4;exact⟨C,_,h1,F.callee,(uW (X _) F.fn h).mono (dU _),λA s a d es ep pl Q E i g gd e1 e2 q=>yy KB h2 h3 h4 i g gd e1 e2 q⟩
  |none=>
   rw[he]at h;refine n9 (OO.mth c m args p h) ?_;intro C f h1 h2 h3 h4;exact⟨C,f,h1,h2,h3.mono (pn [_,_] 0x0DA28A010),h4⟩
 fld:=OO.fld
 cattr:=OO.cattr
 gval:=OO.gval
 tab:=OO.tab
 gen:=OO.gen
structure Dq(G:GX ag w)(o:cS):Prop where
 set:rX G o
 iter:rE G
theorem Hr(OO:gF G o (r+1))(B:Dq G o):∀W n,F4 G o (r+1) W n:=λW=>Hz (GR OO Hm B.iter) B.set W
theorem Dq.ext(B:Dq G o){N:Nat}{E:List F5}{Ms:List tF}{Cs:List uV}:Dq G (Mine.ext o N E Ms Cs):=⟨⟨B.set.set⟩,B.iter⟩
end
end Mine
end
section
namespace Mine
noncomputable def r8{α:Type}(lt:Nat->Nat->Bool):KasT α->α
 | .ret a=>a
 | .ask i j k=>r8 lt (k (lt i j))
noncomputable def m8{α:Type}(n:Nat)(P:α->Prop):KasT α->Prop
 | .ret a=>P a
 | .ask i j k=>i < n/\j < n/\∀b,m8 n P (k b)
theorem jn{α β:Type}{n:Nat}{P:α->Prop}{R:β->Prop}{f:α->KasT β}(hf:∀a,P a->m8 n R (f a)):∀{t:KasT α},m8 n P t->m8 n R (t.bind f)
 | .ret a,h=>hf a h
 | .ask _ _ _,h=>⟨h.1,h.2.1,λb=>jn hf (h.2.2 b)⟩
theorem Ii{α:Type}{n:Nat}{P:α->Prop}{lt:Nat->Nat->Bool}{Hc:Nat->Nat->(Bool->Shared->Prop)->Shared->Prop}{Q:α->Shared->Prop}{s:Shared}
  (hc:∀i j,i < n->j < n->∀C:Bool->Shared->Prop,C (lt i j) s->Hc i j C s):∀{t:KasT α},m8 n P t->Q (r8 lt t) s->t.kasWp Hc Q s
 | .ret _,_,q=>q
 | .ask i j _,h,q=>hc i j h.1 h.2.1 _ (Ii hc (h.2.2 _) q)
def d8(n:Nat)(p:Array Nat):Prop:=∀i,p.getD i 0 < n
theorem wo{n:Nat}{p:Array Nat}(h0:0 < n)(h:∀x∈p,x < n):d8 n p:=λi=>by
 by_cases hi:i < p.size
 ·have:p.getD i 0=p[i]:=by simp[Array.getD,hi]
  rw[this];exact h _ (Array.getElem_mem hi)
 ·have:p.getD i 0=0:=by simp[Array.getD,hi]
  rw[this];exact h0
theorem d8.mem{n:Nat}{p:Array Nat}(h:d8 n p):∀x∈p,x < n:=λx hx=>by
 obtain⟨i,hi,rfl⟩:=Array.mem_iff_getElem.mp hx
 have:=h i
 have e:p.getD i 0=p[i]:=by simp[Array.getD,hi]
 rw[e]at this;exact this
theorem d8.perm{n:Nat}{p q:Array Nat}(h:d8 n p)(h0:0 < n)(e:q.Perm p):d8 n q:=wo h0 λx hx=>h.mem x (e.mem_iff.mp hx)
theorem d8.rev{n:Nat}{p:Array Nat}(h:d8 n p)(h0:0 < n)(i j:Nat):d8 n (kas_rev p i j):=h.perm h0 (mirror_perm _ _ _ _)
theorem d8.bub{n:Nat}{p:Array Nat}(h:d8 n p)(h0:0 < n)(i j:Nat):d8 n (bubble p i j):=h.perm h0 (bubble_perm _ _ _)
theorem yt{n:Nat}{p:Array Nat}(h:d8 n p):∀f m,m8 n (λJ=>True) (kas_asc p f m)
 |0,_=>trivial
 |f+1,m=>⟨h _,h _,λb=>by
   cases b
   ·exact yt h f (m+1)
   ·trivial⟩
theorem qX{n:Nat}(h0:0 < n):∀f {p:Array Nat}(_:d8 n p) (m q:Nat),m8 n (λr=>d8 n r.1) (kas_desc f p m q)
 |0,_,h,_,_=>h
 |f+1,p,h,m,q=>⟨h _,h _,λb=>by
   cases b
   ·refine⟨h _,h _,λd=>?_⟩
    cases d
    ·exact qX h0 f h _ _
    ·exact h
   ·show m8 n _ (if q > 0 then kas_desc f (kas_rev p (m - (q+1)) m) (m+1) 0 else kas_desc f p (m+1) 0)
    split
    ·exact qX h0 f (h.rev h0 _ _) _ _
    ·exact qX h0 f h _ _⟩
theorem xe{n:Nat}(h0:0 < n){p:Array Nat}(h:d8 n p)(m r:Nat):m8 n (λr=>d8 n r.2) (kas_tail3 m r p):=by
 have hr:d8 n (kas_rev p 0 m):=h.rev h0 _ _;refine jn (P:=λJ=>True) (λa J=>?_) (yt hr _ _);exact hr
theorem qj{n:Nat}(h0:0 < n){p:Array Nat}(h:d8 n p)(m r:Nat):m8 n (λr=>d8 n r.2) (kas_descPart m r p):=
 jn (λa ha=>by
  split
  ·exact xe h0 (d8.rev ha h0 _ _) _ _
  ·exact xe h0 ha _ _) (qX h0 _ h _ _)
theorem EE{n:Nat}(h0:0 < n){p:Array Nat}(h:d8 n p)(r:Nat):m8 n (λr=>d8 n r.2) (kas_count r p):=
 jn (λa J=>by
  split
  ·exact h
  ·split
   ·refine⟨h _,h _,λb=>?_⟩
    cases b
    ·exact qj h0 (h.rev h0 _ _) _ _
    ·exact h
   ·exact qj h0 h _ _) (yt h _ _)
theorem sA{n:Nat}{p:Array Nat}(h:d8 n p)(k:Nat):∀f l r,m8 n (λJ=>True) (kas_place p k f l r)
 |0,_,_=>trivial
 |f+1,l,r=>by
  show m8 n _ (if l ≥ r then .ret l else .ask (p.getD k 0) (p.getD ((l+r) / 2) 0) λc=>if c=true then kas_place p k f l ((l+r) / 2) else kas_place p k f ((l+r) / 2+1) r);split
  ·trivial
  ·refine⟨h _,h _,λb=>?_⟩
   cases b
   ·exact sA h k f _ _
   ·exact sA h k f _ _
theorem DS{n:Nat}(h0:0 < n):∀f {p:Array Nat}(_:d8 n p) (k:Nat),m8 n (d8 n) (kas_bin f p k)
 |0,_,h,_=>h
 |f+1,_,h,k=>jn (λJ J=>DS h0 f (h.bub h0 _ _) (k+1)) (sA h k _ _ _)
theorem Ah{n:Nat}(h0:0 < n):m8 n (d8 n) (kas_sort n):=
 jn (λa ha=>by
  split
  ·exact DS h0 _ ha _
  ·exact ha) (EE h0 (wo h0 λx hx=>by simpa using hx) n)
theorem ww{α:Type}{n:Nat}{P:α->Prop}{lt:Nat->Nat->Bool}:∀{t:KasT α},m8 n P t->P (r8 lt t)
 | .ret _,h=>h
 | .ask i j k,h=>ww (t:=k (lt i j)) (h.2.2 _)
noncomputable def KQ(x y:Int×Int):Bool:=if x.1 == y.1 then(if x.2 == y.2 then false else decide (x.2 < y.2)) else decide (x.1 < y.1)
noncomputable def fP(ps:List (Int×Int)):List Nat:=
 if ps.length < 2 then aI ps.length else(r8 (λi j=>KQ (ps.getD i (0,0)) (ps.getD j (0,0))) (kas_sort ps.length)).toList
noncomputable def ym(p:Int×Int):PV:=.tup [.int p.1,.int p.2]
noncomputable def xZ(ps:List (Int×Int)):List PV:=(fP ps).map λi=>ym (ps.getD i (0,0))
section
variable{A:Around}{s:Shared}{V:Addr->Prop}
def iT(h:Heap)(v:Value)(p:Int×Int):Prop:=∃a xs t u,v=.ref a/\xs=#[Value.int p.1 t,Value.int p.2 u]/\h.IsTuple a xs
theorem Gs{v u:Value}{x y:Int×Int}{C:Bool->Shared->Prop}(hv:iT s.heap v x)(hu:iT s.heap u y)(h:C (KQ x y) s):
  wpAny (model ag w) A (keyLt' (tuples' true) v u) C (λJ J=>False) s:=by
 refine mj hv ?_;clear hv;rintro a xs t1 t2 rfl rfl o ho _ n hd;refine mj hu ?_;clear hu;rintro b ys u1 u2 rfl rfl o' ho' _ n' hd';refine kat_lt ho hd ho' hd' ?_;refine kat_cons (wpAny_eqBool_int ?_);unfold KQ at h
 cases e1:(x.1 == y.1)
 ·rw[e1]at h
  exact kat_no (oneLt_int h)
 ·rw[e1]at h
  refine kat_yes (kat_cons (wpAny_eqBool_int ?_));rw[if_pos rfl]at h
  cases e2:(x.2 == y.2)
  ·rw[e2]at h
   exact kat_no (kat_one _ _ (wpAny_lt_int h))
  ·rw[e2,if_pos rfl]at h
   exact kat_yes (kat_nil h)
theorem DY:∀{l:List PV}{ps:List (Int×Int)}{h:Heap}{vs:List Value},p5 l=some ps->G.RepL h V l vs->vs.length=ps.length/\l=ps.map ym/\∀(i:Nat) p v,ps[i]?=some p->vs[i]?=some v->iT h v p:=λ{l}=>by
 induction l with
 |nil=>
  intro ps h vs e r;rw[bD e]
  cases vs with
  |nil=>exact⟨rfl,rfl,λi p v h=>nn (List.getElem?_nil.symm.trans h)⟩
  |cons v vs=>exact False.elim r
 |cons q l ih=>
  intro ps h vs e r;refine bY e λx ps' hx hq e=>?_;rw[bD e]
  cases vs with
  |nil=>exact False.elim r
  |cons v vs=>
   refine iQ (ih hq r.2) ?_;intro h1 h2 h3;refine⟨congrArg gk h1,by rw[ao,<- h2,oD hx];rfl,λi p v' e1 e2=>?_⟩
   cases i with
   |succ i=>exact h3 i p v' e1 e2
   |zero=>
    rw[bD e1,bD e2];refine l9 (rJ (oD hx▸r.1:G.Rep h V (.tup [.int x.1,.int x.2]) v)) ?_;intro c t1 t2 e3 ht;exact⟨c,_,t1,t2,e3,rfl,ht⟩
end
end Mine
end
section
namespace Mine
section
variable{A:Around}{s:Shared}{V:Addr->Prop}{E:Value->Shared->Prop}
theorem iT.keep{h h':Heap}{v:Value}{p:Int×Int}(k:∀b o,o.cls=.type "tuple"->h.get? b=some o->h'.get? b=some o)(x:iT h v p):iT h' v p:=by
 obtain⟨a,xs,t,u,e,e2,o,ho,hc,r⟩:=x;exact⟨a,xs,t,u,e,e2,o,k a o hc ho,hc,r⟩
theorem G6:∀{h:Heap}{ps:List (Int×Int)}{vs:List Value},vs.length=ps.length->(∀(i:Nat) p v,ps[i]?=some p->vs[i]?=some v->iT h v p) ->
  ∃fs:List Value,KatTups h vs fs/\fs.length=vs.length/\∀f∈fs,∃i t,f=.int i t:=λ{h ps}=>by
 induction ps with
 |nil=>intro vs e _;cases vs with
  |nil=>exact⟨[],trivial,rfl,λf hf=>by cases hf⟩
  |cons _ _=>cases e
 |cons p ps ih=>intro vs e r;cases vs with
  |nil=>cases e
  |cons v vs=>
   refine fJ (ih (Nat.succ.inj e) λi p v e1 e2=>r (i+1) p v e1 e2) ?_;intro fs h1 h2 h3;refine mj (r 0 p v rfl rfl) ?_;rintro a xs t u rfl rfl o ho hc n hd;refine⟨.int p.1 t::fs,⟨⟨a,o,_,n,rfl,ho,hc,hd,rfl⟩,h1⟩,congrArg gk h2,λf hf=>?_⟩;rcases ai.mp hf with rfl|hf
   ·exact⟨_,_,rfl⟩
   ·exact h3 f hf
noncomputable def jC(ps:List (Int×Int))(vs:List Value):List Value:=(fP ps).map λi=>vs.getD i Value.none
theorem zb(vs:List Value):(aI vs.length).map (λi=>vs.getD i Value.none)=vs:=by
 refine List.ext_getElem (by rw[aa,bZ]) λi h1 h2=>?_;rw[List.getElem_map,List.getElem_range,aw,ax h2];rfl
theorem Gk(vs:List Value):(vs.toArray.zip vs.toArray).map (·.2)=vs.toArray:=by
 rw[List.zip_toArray,List.map_toArray,List.map_snd_zip (aK _)]
theorem qB{a:Addr}{vs:List Value}{ps:List (Int×Int)}{n:Nat}{P:Fin->Shared->Prop}(ho:s.heap.get? a=some (seqObj "list" vs.toArray n))
  (hl:vs.length=ps.length) (hp:∀(i:Nat) p v,ps[i]?=some p->vs[i]?=some v->iT s.heap v p) (h64:vs.length < 64)
  (h:P (.done (.ret .none)) { s with heap:=sortedHeap s.heap a vs (jC ps vs).toArray }) :
  wpAny (model ag w) A (Builtin.«list.sort» ⟨[.ref a],[]⟩) P E s:=by
 rw[list_sort_plain];have ha:a < s.heap.objs.size:=aN ho;refine wpAny_bind (listItems_at ho rfl ?_);refine wpAny_bind (listUpdate_at ho rfl ?_ (by rw[aF,sizeLine_eq];exact(pn [_] 0x0D010000004901D40190) h64) (bz _));obtain⟨e1,ho1⟩:∃e1,(s.heap.update a (Obj.mapSeq λJ=>(#[]:Array Value))).get? a=some (seqObj "list" #[] e1):=⟨_,get?_update_seq ho (λJ=>#[])⟩;refine wpAny_bind (seqEpoch_at ho1 rfl ?_);refine wpAny_bind (wpAny_newTuple ?_ (by show vs.length<=_;rw[sizeLine_eq];exact(pn [_] 0x0D010000004901D40190) h64));refine wpAny_bind (wpAny_newList ?_ (bz _));refine wpAny_holding ?_;have ho6:(((s.heap.update a (Obj.mapSeq λJ=>(#[]:Array Value))).push (seqObj "tuple" vs.toArray 0)).push (seqObj "list" #[] 0)).get? a=some (seqObj "list" #[] e1):=by
  rw[mK _ _ _ (by rw[size_push',nN];exact be (bM ha)),mK _ _ _ (by rw[nN];exact be ha)];exact ho1
 show wpAny (model ag w) A _ P E { s with heap:=((s.heap.update a (Obj.mapSeq λJ=>(#[]:Array Value))).push (seqObj "tuple" vs.toArray 0)).push (seqObj "list" #[] 0) }
 dsimp only;have hsz:vs.toArray.size=vs.length:=by simp
 have hp6:∀(i:Nat) p v,ps[i]?=some p->vs[i]?=some v->iT (((s.heap.update a (Obj.mapSeq λJ=>(#[]:Array Value))).push (seqObj "tuple" vs.toArray 0)).push (seqObj "list" #[] 0)) v p:=λi p v q1 q2=>
  (hp i p v q1 q2).keep λb o hc hb=>by
   have hne:a≠b:=λe=>by
    subst e;rw[ho]at hb
    cases hb
    have hc':Value.type "list"=Value.type "tuple":=hc;exact absurd hc' (by decide)
   exact af _ (af _ ((Heap.get?_update_other _ _ hne).trans hb))
 have fin:∀st':SortSt,(arrOf st').map (·.2)=(jC ps vs).toArray->failedOf st'=none->(jC ps vs).length<=64 ->
   wpAny (model ag w) A (do
    let touched:=(<- seqEpoch a) != e1
    Builtin.List.listUpdate (.ref a) λJ=>(arrOf st').map (·.2)
    if let some e:=failedOf st' then rule "list.sort.comparison-raised";throw e
    if touched then rule "list.sort.modified";raiseError "ValueError" "list modified during sort"
    ret .none) P E { s with heap:=((s.heap.update a (Obj.mapSeq λJ=>(#[]:Array Value))).push (seqObj "tuple" vs.toArray 0)).push (seqObj "list" #[] 0) }:=λst' q1 q2 q3=>by
  refine wpAny_bind (seqEpoch_at ho6 rfl ?_);rw[q1];refine wpAny_bind (listUpdate_at ho6 rfl ?_ (bz _) ?_)
  ·rw[q2]
   simp only[bne_self_eq_false,bU,if_false];exact wpAny_pure h
  ·rw[aF,sizeLine_eq];exact(pn [_] 0x0DA18010000004900D40190) q3
 by_cases h2:vs.toArray.size < 2
 ·rw[if_pos h2,if_pos h2]
  refine wpAny_bind (wpAny_pure ?_);rw[StateT.run_pure];refine wpAny_bind (wpAny_pure ?_);dsimp only
  have:jC ps vs=vs:=by
   unfold jC fP;rw[hsz]at h2;rw[if_pos (by exact(pn [_,_] 0x1D2811D2802D10) hl h2),<- hl];exact zb vs
  refine fin (SortSt.mk' general' (vs.toArray.zip vs.toArray) #[] 7 none) ?_ rfl (by rw[this];exact(pn [_,_] 0x0D401911D2802D10) hsz h2);rw[this];exact Gk vs
 ·rw[if_neg h2,if_neg h2]
  rw[hsz]at h2;refine fJ (G6 hl hp6) ?_;intro fs t1 t2 t3;refine wpAny_bind (kat_kind t1 (by exact(pn [_,_] 0x1D1082D012F1D280) h2 t2) (T:=.type "int") (λv hv=>?_) (by decide) ?_)
  ·refine yo (t3 v hv) ?_;rintro i t rfl
   exact Looks.of_pure rfl
  refine wpAny_bind (wpAny_mono (kat_run (Q:=λst' s'=>s'={ s with heap:=((s.heap.update a (Obj.mapSeq λJ=>(#[]:Array Value))).push (seqObj "tuple" vs.toArray 0)).push (seqObj "list" #[] 0) }/\(arrOf st').map (·.2)=(jC ps vs).toArray/\failedOf st'=none/\(jC ps vs).length<=64)
   (G:=λp s'=>s'={ s with heap:=((s.heap.update a (Obj.mapSeq λJ=>(#[]:Array Value))).push (seqObj "tuple" vs.toArray 0)).push (seqObj "list" #[] 0) }/\p=r8 (λi j=>KQ (ps.getD i (0,0)) (ps.getD j (0,0))) (kas_sort ps.length))
   rfl (by exact(pn [_] 0x0D0282F1D280) h2) h64 (λp st' s' a1 a2 a3 a4=>⟨a4.1,?_,a3,?_⟩) ?_) ?_ λJ J e=>e)
  ·rw[kat_snds rfl a2,a4.2]
   unfold jC fP;rw[if_neg (by exact(pn [_,_] 0x2F1D2812F1D2802D10) hl h2)]
  ·unfold jC fP
   rw[if_neg (by exact(pn [_,_] 0x2F1D2812F1D2802D10) hl h2),<- a4.2,aa,bG,a1];exact(pn [_] 0x0D401901D40190) h64
  ·rw[hl]
   refine Ii (lt:=λi j=>KQ (ps.getD i (0,0)) (ps.getD j (0,0))) (λi j hi hj C hC=>?_) (Ah (by exact(pn [_,_] 0x1D1082F1D2802D10) hl h2)) ⟨rfl,rfl⟩;have at':∀k,k < ps.length->iT (((s.heap.update a (Obj.mapSeq λJ=>(#[]:Array Value))).push (seqObj "tuple" vs.toArray 0)).push (seqObj "list" #[] 0)) (vs.getD k Value.none) (ps.getD k (0,0)):=λk hk=>
    hp6 k _ _ (by rw[aw,ax hk];rfl) (by rw[aw,ax (by exact(pn [_,_,_] 0x1D021D122D10) hl hk)];rfl)
   have ht:(Value.type "int" != Value.type "tuple")=true:=by decide
   unfold kas_ask;rw[ht];exact Gs (at' i hi) (at' j hj) hC
  ·rintro⟨⟨⟩,st'⟩ s' ⟨rfl,q1,q2,q3⟩
   exact fin st' q1 q2 q3
theorem vA{l:Addr}{vs:List Value}{ps:List (Int×Int)}{Q:Value->Shared->Prop}(hl:s.heap.IsList l vs.toArray)(hl2:vs.length=ps.length)
  (hp:∀(i:Nat) p v,ps[i]?=some p->vs[i]?=some v->iT s.heap v p) (h64:vs.length < 64)
  (h:Q (.ref (s.heap.objs.size+1)) { s with heap:=sortedAll s.heap vs (jC ps vs).toArray }) :
  wpAny (model ag w) A (call (.builtin "sorted") [.ref l]) Q E s:=by
 refine Calls.call_function_entry kind_sorted plain_sorted entry_sorted (args_sorted1 _) ?_;unfold Builtin.«sorted»;refine wpAny_bind (m:=checkCount "sorted" 1 1 _) (wpAny_pure ?_);refine wpAny_bind (collect_list hl ?_ (by rw[sizeLine_eq];exact(pn [_] 0x0D010000004901D40190) h64));refine wpAny_bind (wpAny_newList ?_ (by rw[sizeLine_eq];exact(pn [_] 0x0D010000004901D40190) h64));have hsz:((s.heap.push (seqObj "list" #[] 0)).update s.heap.objs.size (Obj.mapSeq (·++vs.toArray))).objs.size=s.heap.objs.size+1:=by
  rw[nN,size_push']
 have hoL:(((s.heap.push (seqObj "list" #[] 0)).update s.heap.objs.size (Obj.mapSeq (·++vs.toArray))).push (seqObj "list" vs.toArray 0)).get? (s.heap.objs.size+1)=some (seqObj "list" vs.toArray 0):=by
  rw[<- hsz];exact ay _ rfl
 show wpAny _ _ _ _ _ { s with heap:=((s.heap.push (seqObj "list" #[] 0)).update s.heap.objs.size (Obj.mapSeq (·++vs.toArray))).push (seqObj "list" vs.toArray 0) }
 rw[hsz];have hp':∀(i:Nat) p v,ps[i]?=some p->vs[i]?=some v->iT (((s.heap.push (seqObj "list" #[] 0)).update s.heap.objs.size (Obj.mapSeq (·++vs.toArray))).push (seqObj "list" vs.toArray 0)) v p:=λi p v q1 q2=>
  (hp i p v q1 q2).keep λb o J hb=>by
   have hlt:b < s.heap.objs.size:=aN hb;rw[mK _ _ _ (by rw[hsz];exact be (bM hlt)),kR _ _ _ _ (be hlt),mK _ _ _ (be hlt)];exact hb
 refine wpAny_bind (wpAny_holding (wpAny_call_entry slot_list_sort ⟨_,hoL,rfl⟩ entry_list_sort (qB (s:={ s with heap:=((s.heap.push (seqObj "list" #[] 0)).update s.heap.objs.size (Obj.mapSeq (·++vs.toArray))).push (seqObj "list" vs.toArray 0) }) hoL hl2 hp' h64 ⟨_,rfl,?_⟩) (args_list_sort _)));exact wpAny_pure ⟨_,rfl,h⟩
theorem rN{vs:List Value}{out:Array Value}:∀b o,s.heap.get? b=some o->(sortedAll s.heap vs out).get? b=some o:=λb o hb=>by
 have hlt:b < s.heap.objs.size:=aN hb;have hlt1:b < s.heap.objs.size+1:=bM hlt;unfold sortedAll sortedHeap;rw[kR _ _ _ _ (be hlt1)];refine af _ (af _ ?_);rw[kR _ _ _ _ (be hlt1)];refine af _ ?_;rw[kR _ _ _ _ (be hlt)];exact af _ hb
theorem vM{vs:List Value}{out:List Value}:∃c,(sortedAll s.heap vs out.toArray).get? (s.heap.objs.size+1)=some { cls:=.type "list",data:=.seq out.toArray c }:=by
 have hsz:((s.heap.push (seqObj "list" #[] 0)).update s.heap.objs.size (Obj.mapSeq (·++vs.toArray))).objs.size=s.heap.objs.size+1:=by
  rw[nN,size_push']
 have hoL:(((s.heap.push (seqObj "list" #[] 0)).update s.heap.objs.size (Obj.mapSeq (·++vs.toArray))).push (seqObj "list" vs.toArray 0)).get? (s.heap.objs.size+1)=some (seqObj "list" vs.toArray 0):=by
  rw[<- hsz];exact ay _ rfl
 unfold sortedAll sortedHeap;obtain⟨c,hc⟩:∃e1,((((s.heap.push (seqObj "list" #[] 0)).update s.heap.objs.size (Obj.mapSeq (·++vs.toArray))).push (seqObj "list" vs.toArray 0)).update (s.heap.objs.size+1) (Obj.mapSeq λJ=>(#[]:Array Value))).get? (s.heap.objs.size+1)=some (seqObj "list" #[] e1):=⟨_,get?_update_seq hoL (λJ=>#[])⟩;exact⟨_,get?_update_seq (af _ (af _ hc)) λJ=>out.toArray⟩
theorem Bf{ps:List (Int×Int)}:∀i∈fP ps,i < ps.length:=λi hi=>by
 unfold fP at hi;split at hi
 ·simpa using hi
 ·exact(ww (Ah (n:=ps.length) (by exact(pn [_] 0x1D0082F1D280) ‹_›))).mem i (by simpa using hi)
theorem vX{l:List PV}{ps:List (Int×Int)}{v:Value}(lo:eu V s.heap)(x:ej G s.heap V (.lst l) v)(e:p5 l=some ps)(h64:ps.length < 64):
  wpAny (model ag w) A (call (.builtin "sorted") [v]) (ca G V s (.lst (xZ ps))) EF s:=by
 refine g7 (eB x) ?_;rintro a rfl us pl rl;refine iQ (DY e rl) ?_;intro h1 h2 h3;refine vA pl.isList h1 h3 (by exact(pn [_,_] 0x1D401912D011D40190) h64 h1) ?_;have k:Kp s { s with heap:=sortedAll s.heap us (jC ps us).toArray }:=Kp.of (tk:=s.toks) rN
 refine xE (vM (s:=s) (vs:=us) (out:=jC ps us)) ?_;intro c hc;refine⟨dP.mpr ⟨_,rfl,λq=>?_,jC ps us,⟨c,hc⟩,AE (by unfold jC xZ;simp) λi p v q1 q2=>?_⟩,k⟩
 ·exact absurd (jZ (dU _)) (lo.some q)
 ·unfold xZ at q1
  unfold jC at q2;rw[aS]at q1 q2
  cases hj:(fP ps)[i]? with
  |none=>rw[hj]at q1;cases q1
  |some j=>
   rw[hj]at q1 q2
   cases q1;cases q2
   have hlt:=Bf j (aQ hj);have rl':=qQ k rl;have g1:l[j]?=some (ym (ps.getD j (0,0))):=by
    rw[h2,aS,ax hlt,aw,ax hlt];rfl
   have g2:us[j]?=some (us.getD j Value.none):=by
    rw[aw,ax (by exact(pn [_,_,_] 0x1D021D122D10) h1 hlt)];rfl
   exact RepL.at rl' g1 g2
noncomputable def G8(a:PV):Option PV:=(ju a).bind λl=>(p5 l).bind λps=>if ps.length < 64 then some (.lst (xZ ps)) else none
noncomputable def MH(f:Str)(args:List PV):Option PV:=
 if f == ("sorted":Str) then(qA args).bind G8
 else ME f args
structure Fk(G:GX ag w):Prop where
 sorted:cq G ("sorted":Str) (.builtin "sorted")
theorem Jq{r:Nat}(B:sQ G)(M:Fk G):∀f args p,MH f args=some p->gu G r f args p:=λf args p h=>
 vN (C:=λf=>gu G r f args p) h (λh=>zl (C:=λargs=>gu G r _ args p) h λa h=>b9 h λl hl h=>b9 h λps hi h=>fz h λhc h=>si M.sorted rfl (sh λA s V v hr lo x=>by rw[bD h];exact vX lo (iH hl▸x) hi hc)) λh=>Kk B f args p h
end
end Mine
end
section
namespace Mine
noncomputable section
section
theorem A4{K:Frag}(KB:HD K){a:Addr}{params:List Str}(F:qE K a params):zL G a params (bg a) (de a):=by
 refine bC (HP F.fd) ?_;intro ob ho hd';obtain⟨h1,h2,h3,h4,h5⟩:=F.at_;refine⟨⟨ob,_,KB.at_ _ _ ho,hd',GN KB.at_ F.code,h4,h1,h2,h3,h5,F.bind⟩,λob' fd e1 e2 q=>?_⟩;rw[KB.at_ _ _ ho]at e1;cases e1;rw[hd']at e2;cases e2;exact F.gen q
theorem tq{vals:List Value}(h:vals.length=1):∃a,vals=[a]:=ou.mp h
theorem th{vals:List Value}(h:vals.length=2):∃a b,vals=[a,b]:=by
 cases vals with
 |nil=>cases h
 |cons a l=>refine xE (tq (Nat.succ.inj h)) ?_;intro b e;exact⟨a,b,e▸rfl⟩
theorem Jk{vals:List Value}(h:vals.length=3):∃a b c,vals=[a,b,c]:=by
 cases vals with
 |nil=>cases h
 |cons a l=>refine yo (th (Nat.succ.inj h)) ?_;intro b c e;exact⟨a,b,c,e▸rfl⟩
end
end
end Mine
end
section
namespace Mine
noncomputable section
section
theorem yI{h:Heap}{m:Str->Option Value}(g:h.Ns mainGlobals m){K:Frag}(KB:K.In h)(e2:∃c d es n sl,K.lookup 3=some ⟨c,d,Data.dict es n,sl⟩)(x:Str):m x=bB K x:=by
 obtain⟨c,d,es,n,sl,h⟩:=e2;refine vn g ?_;clear g;intro o es' ep' ho hd _ hm
 cases(KB _ _ h).symm.trans ho
 cases hd
 unfold bB;rw[h];exact(hm x).symm
end
end
end Mine
end
section
namespace Mine
noncomputable section
noncomputable def Km(c a:Str):Bool:=(c == ("Whitespace":Str) && Gm a) ||(c == ("TupleComp":Str) && a == ("comp_select_list":Str))
noncomputable def zO(g a:Str):Option PV:=if g == ("Whitespace":Str) && a == ("S":Str) then some (.str " ") else if g == ("Whitespace":Str) && a == ("T":Str) then some (.str "\t") else none
noncomputable def Fn(x:Str):Option PV:=if x == ("ENDMARKER":Str) then some (.int 0) else if x == ("NT_OFFSET":Str) then some (.int 256) else if x == ("tuple":Str) then some (.typ "tuple") else none
noncomputable def o0:cS where
 fn:=λJ J=>none
 bi:=MH
 mth:=λJ J J=>none
 fld:=Km
 cattr:=zO
 gval:=Fn
 tab:=λx=>if x == ("EXACT_TOKEN_TYPES":Str) then some lI else none
noncomputable def fE(name:Str)(a:Addr)(params:List Str)(W:List Str):F5:=⟨name,a,params,bg a,de a,W⟩
noncomputable def u7:=fE "add_callers" 56 ["target","source"] ["new_callers"]
noncomputable def sY:=fE "count_calls" 63 ["callers"] []
noncomputable def wU:=fE "ISTERMINAL" 139 ["x"] []
noncomputable def D0:=fE "ISNONTERMINAL" 146 ["x"] []
noncomputable def EL:=fE "ISEOF" 153 ["x"] []
noncomputable def yg:=fE "_law_page" 158 ["script"] ["cells","leads"]
noncomputable def w5:=fE "_law_symbols" 163 ["line","start"] ["row"]
noncomputable def w4:=fE "_law_hang" 168 ["spaces"] ["owners"]
noncomputable def Fj:=fE "_law_farther" 173 ["leads"] ["columns"]
noncomputable def rO:=fE "_law_table" 178 ["symbols","owners"] ["table"]
noncomputable def Dd:=fE "_law_cut" 183 ["table","side"] []
noncomputable def uo:=fE "_law_tree" 188 ["table","order","tie"] ["owners","fewest"]
noncomputable def oX:=fE "_law_report" 193 ["order","owners","pieces"] []
noncomputable def ye:=fE "_law_road" 200 ["owners","node"] []
noncomputable def zj:=fE "law" 205 ["script"] []
noncomputable def wT:tF:=⟨"Whitespace",fE "longest_run_of_spaces" 87 ["self"] []⟩
noncomputable def sZ:tF:=⟨"Whitespace",fE "indent_level" 94 ["self","tabsize"] []⟩
noncomputable def w8:tF:=⟨"Whitespace",fE "less" 115 ["self","other"] []⟩
noncomputable def uj:tF:=⟨"TupleComp",fE "compare" 42 ["self","left","right"] []⟩
noncomputable def Cy:uV:=⟨125,fE "Whitespace" 80 ["self","ws"] ["count"]⟩
noncomputable def JV:uV:=⟨45,fE "TupleComp" 35 ["self","comp_select_list"] []⟩
noncomputable def o1:cS:=ext o0 120 [u7,sY,wU,D0,EL,yg,w5,Fj,oX,ye] [wT,sZ,uj] [Cy,JV]
noncomputable def o2:cS:=ext o1 100 [rO,Dd] [w8] []
noncomputable def o3:cS:=ext o2 100 [w4,uo] [] []
noncomputable def oI(script:List Int):Option PV:=eE o3 [] 150 zj.params zj.scope zj.body [.lst (script.map .int)]
section
variable{K:Frag}
structure nR(K:Frag)(G:GX ag w):Prop where
 ok:Kt w.params K
 kb:HD K
 bi:∀x:Str,x≠"__name__"->G.mb x=bootBuiltins x
 bm:Jr
 cl1:G.cl ("Whitespace":Str)=some 125
 cl2:G.cl ("TupleComp":Str)=some 45
theorem nR.mg(D:nR K G)(x:Str):G.mg x=bB K x:=yI G.g D.kb.at_ D.ok.n3 x
theorem nR.glob(D:nR K G){x:Str}{v:Value}(h:bB K x=some v):cq G x v:=.inl (by rw[D.mg];exact h)
theorem nR.built(D:nR K G){x:Str}{v:Value}(h:bB K x=none)(hn:x≠"__name__")(e:bootBuiltins x=some v):cq G x v:=.inr ⟨by rw[D.mg];exact h,by rw[D.bi x hn];exact e⟩
theorem nR.bis(D:nR K G):sQ G:=
 let⟨h1,h2,h3,h4,h5,h6,h7,h8⟩:=D.ok.non1
 ⟨D.built h1 (by decide) (by decide +kernel),D.built h2 (by decide) (by decide +kernel),D.built h3 (by decide) (by decide +kernel),D.built h4 (by decide) (by decide +kernel),D.built h5 (by decide) (by decide +kernel),D.built h6 (by decide) (by decide +kernel),D.built h7 (by decide) (by decide +kernel),D.built h8 (by decide) (by decide +kernel)⟩
theorem nR.more(D:nR K G):Fk G:=
 let⟨_,_,h3,_⟩:=D.ok.non2
 ⟨D.built h3 (by decide) (by decide +kernel)⟩
theorem nR.iter(D:nR K G):rE G:=
 let⟨_,_,_,h1,h2,h3⟩:=D.ok.non2
 ⟨D.built h1 (by decide) (by decide +kernel),D.built h2 (by decide) (by decide +kernel),D.built h3 (by decide) (by decide +kernel)⟩
theorem nR.callee(D:nR K G){a:Addr}(h:keepIn K (.ref a)=true):ij G (.ref a):=λJ hi=>keeps_K h _ (F3 D.kb hi)
theorem nR.fnf(D:nR K G){name:Str}{a:Addr}{params W:List Str}(h1:bB K name=some (.ref a))(h:qE K a params):u0 G (fE name a params W):=⟨D.glob h1,D.callee h.keep,A4 D.kb h⟩
theorem nR.mf(D:nR K G){c name:Str}{C a:Addr}{params W:List Str}(hc:G.cl c=some C)(h1:plainGet K C name=true)(h2:findIn K (.ref C) name=some (some (.ref a)))(h3:typeIn K (.ref a)=some (.type "function"))(h:qE K a params):wI G K ⟨c,fE name a params W⟩:=
 ⟨⟨C,hc,h1,h2,h3⟩,D.callee h.keep,A4 D.kb h⟩
theorem nR.cf(D:nR K G){name:Str}{C a:Addr}{params W:List Str}(hc:G.cl name=some C)(h0:keepIn K (.ref C)=true)(hm:makesIn K C=true)(h1:bB K name=some (.ref C))(h2:findIn K (.ref C) "__init__"=some (some (.ref a)))(h3:typeIn K (.ref a)=some (.type "function"))(h:qE K a params):rS G K ⟨C,fE name a params W⟩:=
 ⟨D.glob h1,D.callee h0,hm,h2,h3,hc,A4 D.kb h⟩
end
end
end Mine
end
section
namespace Mine
noncomputable section
section
variable{K:Frag}
theorem Ar:∀{es:List DictEntry},qP w.params es->(∀e∈es,∃k,(PySem.strKind ag w).is k e.key=true/\e.hash=(PySem.strKind ag w).hash k)/\Pairs (PySem.strKind ag w) es (jm es)
 | [],_=>⟨λJ h=>(nomatch h),.nil⟩
 |e::r,h=>by
  obtain⟨h,k,v⟩:=e;refine xA h ?_;clear h;rintro⟨x,t,hk,hh⟩ hr;dsimp only at hk hh;subst hk;refine xA (Ar hr) ?_;intro h1 h2;refine⟨λe he=>?_,.cons (rF x t) rfl h2⟩;rcases ai.mp he with rfl|he
  ·exact⟨x,rF x t,hh⟩
  ·exact h1 e he
theorem Fg:∀{kvs:List (Str×Value)}{t:List (Str×Int)},mN kvs t->∀y,match t.lookup y with|some i=>∃tk,valueAt kvs y=some (.int i tk)|none=>valueAt kvs y=none
 | [],[],_,y=>rfl
 |(k,v)::kvs,(x,i)::t,h,y=>by
  unfold mN at h;rw[ao,ao]at h
  injection h with h1 h2
  injection h1 with h1 h3
  dsimp only at h1 h3;subst h1;have ih:=Fg (kvs:=kvs) (t:=t) h2 y;rw[aO];unfold valueAt at ih ⊢;rw[iw];by_cases q:y=k
  ·subst q
   rw[beq_self_eq_true];simp only[decide_true]
   cases v with
   |int j tk=>cases h3;exact⟨tk,rfl⟩
   |_=>cases h3
  ·rw[beq_eq_false_iff_ne.mpr q]
   have q':¬k=y:=λe=>q e.symm;simp only[q',decide_false];exact ih
 | [],_::_,h,_=>by unfold mN at h;cases h
 |_::_,[],h,_=>by unfold mN at h;cases h
theorem Gg:(lI.map (·.1)).Nodup:=by decide +kernel
theorem Fq(D:nR K G):∃kvs,G.base.DictOf (PySem.strKind ag w) 130 kvs/\∀y,match lI.lookup y with|some i=>∃tk,valueAt kvs y=some (.int i tk)|none=>valueAt kvs y=none:=by
 refine yo D.ok.t1 ?_;intro es n he;have e1:ue K=es.toList:=by unfold ue;rw[he]
 have ks:=Ar  D.ok.t2;refine⟨jm (ue K),⟨_,es,n,D.kb.at_ _ _ he,⟨rfl,rfl,rfl⟩,rfl,?_,?_,?_⟩,Fg D.ok.t3⟩
 ·intro e h
  exact ks.1 e (by rw[e1];exact Array.mem_toList_iff.mpr h)
 ·rw[<- e1];exact ks.2
 ·rw[D.ok.t4];exact Gg
theorem AB(D:nR K G){a x:Str}(h:∃t,findCls K (.ref 125) (.type "type") a=some (.val (.str x t))){A:Around}{s:Shared}{V:Addr->Prop}(i:G.In s.heap):wpAny (model ag w) A (getAttr (.ref 125) a true) (ca G V s (.str x)) EF s:=by
 refine xE h ?_;clear h;intro t h;exact cls_value (F3 D.kb i) D.ok.c1.2.2.2.2.2.2 h rfl ⟨df.mpr ⟨t,rfl⟩,Kp.toks⟩
theorem ro{c a:Str}(h:Km c a=true):(c="Whitespace"/\Gm a=true)\/(c="TupleComp"/\a="comp_select_list"):=by
 rcases eO.mp h with h|h
 ·exact .inl ⟨beq_iff_eq.mp (gw h).1,(gw h).2⟩
 ·exact .inr ⟨beq_iff_eq.mp (gw h).1,beq_iff_eq.mp (gw h).2⟩
theorem vR{g a:Str}{p:PV}(h:zO g a=some p):(g="Whitespace"/\a="S"/\p=.str " ")\/(g="Whitespace"/\a="T"/\p=.str "\t"):=by
 unfold zO at h;by_cases q:(g == ("Whitespace":Str) && a == ("S":Str))=true
 ·rw[if_pos q]at h;exact .inl ⟨beq_iff_eq.mp (gw q).1,beq_iff_eq.mp (gw q).2,bD h⟩
 ·rw[if_neg q]at h
  exact fz h λq h=>.inr ⟨beq_iff_eq.mp (gw q).1,beq_iff_eq.mp (gw q).2,bD h⟩
theorem GC(D:nR K G){x:Str}{p:PV}(h:Fn x=some p):∃v,cq G x v/\∀h V,G.Rep h V p v:=by
 unfold Fn at h;by_cases q:(x == ("ENDMARKER":Str))=true
 ·rw[if_pos q]at h
  rw[beq_iff_eq.mp q,bD h];exact⟨_,D.glob D.ok.gval.1,λh V=>bA.mpr ⟨_,rfl⟩⟩
 ·rw[if_neg q]at h
  by_cases q:(x == ("NT_OFFSET":Str))=true
  ·rw[if_pos q]at h
   rw[beq_iff_eq.mp q,bD h];exact⟨_,D.glob D.ok.gval.2.1,λh V=>bA.mpr ⟨_,rfl⟩⟩
  ·rw[if_neg q]at h
   refine fz h λq h=>?_;rw[beq_iff_eq.mp q,bD h];exact⟨.type "tuple",D.bis.tuple,λh V=>rfl⟩
theorem Id(D:nR K G):gF G o0 1 where
 gen:=⟨D.bis.tuple,D.iter.zip,D.bm⟩
 fn:=λf args p h=>nn h
 bi:=Jq D.bis D.more
 mth:=λc m args p h=>nn h
 fld:=λc a h=>by
  rcases ro h with⟨rfl,hw⟩|⟨rfl,rfl⟩
  ·refine iQ (D.ok.p2 a hw) ?_;intro h1 h2 _
   exact⟨125,D.cl1,λA s x d es ep e Q E i g gd he hv q=>su D.kb h1 D.ok.c1.2.2.1 h2 rfl i g gd he hv q⟩
  ·refine iQ D.ok.p3 ?_;intro h1 h2 _
   exact⟨45,D.cl2,λA s x d es ep e Q E i g gd he hv q=>su D.kb h1 D.ok.c1.2.2.2.1 h2 rfl i g gd he hv q⟩
 cattr:=λg a p h=>by
  rcases vR h with⟨rfl,rfl,rfl⟩|⟨rfl,rfl,rfl⟩
  ·exact⟨.ref 125,D.glob D.ok.gval.2.2.2.1,λA s V i=>AB D D.ok.c5.1 i⟩
  ·exact⟨.ref 125,D.glob D.ok.gval.2.2.2.1,λA s V i=>AB D D.ok.c5.2 i⟩
 gval:=λx p h=>GC D h
 tab:=λx t h=>fz (C:=∃d,cq G x (.ref d)/\(d == sysModules)=false/\∃kvs,G.base.DictOf (PySem.strKind ag w) d kvs/\∀y,match t.lookup y with|some i=>∃tk,valueAt kvs y=some (.int i tk)|none=>valueAt kvs y=none) h λq h=>by
  rw[beq_iff_eq.mp q,bD h];exact⟨130,D.glob D.ok.gval.2.2.1,by decide,Fq D⟩
theorem Kw(D:nR K G):rX G o0 where
 set:=λc a h=>by
  rcases ro h with⟨rfl,hw⟩|⟨rfl,rfl⟩
  ·refine iQ (D.ok.p2 a hw) ?_;intro _ _ h3
   exact⟨125,D.cl1,λA s x d es ep v Q i hh g gd hz V fs rf q=>sW D.kb D.ok.c2.1 D.ok.c1.2.2.2.2.1 h3 D.ok.c1.2.2.1 i g gd hz rf q⟩
  ·refine iQ D.ok.p3 ?_;intro _ _ h3
   exact⟨45,D.cl2,λA s x d es ep v Q i hh g gd hz V fs rf q=>sW D.kb D.ok.c2.2 D.ok.c1.2.2.2.2.2.1 h3 D.ok.c1.2.2.2.1 i g gd hz rf q⟩
theorem vJ(D:nR K G):Dq G o0:=⟨Kw D,D.iter⟩
theorem all_cons{α:Type}{P:α->Prop}{a:α}{l:List α}(h:P a)(r:∀e∈l,P e):∀e∈a::l,P e:=λe he=>by
 rcases ai.mp he with rfl|he
 ·exact h
 ·exact r e he
theorem jb{α:Type}{P:α->Prop}:∀e∈([]:List α),P e:=λJ h=>nomatch h
theorem HY(D:nR K G):gF G o1 123:=
 let⟨g1,g2,g3,g4,g5⟩:=D.ok.gfn
 let⟨l1,l2,_,l4,_⟩:=D.ok.gl1
 let⟨_,_,k3,k4,_⟩:=D.ok.gl2
 let⟨f1,f2,f3,f4,f5⟩:=D.ok.f1
 let⟨e1,e2,_,e4,_⟩:=D.ok.f2
 let⟨_,_,d3,d4,_⟩:=D.ok.f3
 let⟨i1,i2,i3,_,i5,i6⟩:=D.ok.f4
 let⟨a1,a2,_,a4⟩:=D.ok.p1
 let⟨m1,m2,_,m4,m5,m6⟩:=D.ok.m2
 let⟨n1,n2,_,n4,n5,n6⟩:=D.ok.m3
 yK (N:=120) (r:=1) D.kb (Id D) (Hr (r:=0) (Id D) (vJ D))
  (all_cons (D.fnf g1 f1) (all_cons (D.fnf g2 f2) (all_cons (D.fnf g3 f3) (all_cons (D.fnf g4 f4) (all_cons (D.fnf g5 f5) (all_cons (D.fnf l1 e1) (all_cons (D.fnf l2 e2) (all_cons (D.fnf l4 e4) (all_cons (D.fnf k3 d3) (all_cons (D.fnf k4 d4) jb))))))))))
  (all_cons (D.mf D.cl1 a1 m1 n1 i2) (all_cons (D.mf D.cl1 a2 m2 n2 i3) (all_cons (D.mf D.cl2 a4 m4 n4 i6) jb)))
  (all_cons (D.cf D.cl1 D.ok.keep.1 D.ok.c1.1 D.ok.gval.2.2.2.1 m5 n5 i1) (all_cons (D.cf D.cl2 D.ok.keep.2 D.ok.c1.2.1 D.ok.gval.2.2.2.2 m6 n6 i5) jb))
theorem HT(D:nR K G):gF G o2 225:=yK (N:=100) (r:=123) D.kb (HY D) (Hr (r:=122) (HY D) (vJ D).ext)
 (all_cons (D.fnf D.ok.gl1.2.2.2.2 D.ok.f2.2.2.2.2) (all_cons (D.fnf D.ok.gl2.1 D.ok.f3.1) jb)) (all_cons (D.mf D.cl1 D.ok.p1.2.2.1 D.ok.m2.2.2.1 D.ok.m3.2.2.1 D.ok.f4.2.2.2.1) jb) jb
theorem J6(D:nR K G):gF G o3 327:=yK (N:=100) (r:=225) D.kb (HT D) (Hr (r:=224) (HT D) (vJ D).ext.ext)
 (all_cons (D.fnf D.ok.gl1.2.2.1 D.ok.f2.2.2.1) (all_cons (D.fnf D.ok.gl2.2.1 D.ok.f3.2.1) jb)) jb jb
theorem D3(D:nR K G){script:List Int}{p:PV}(h:oI script=some p):lh G 478 (.ref 205) [.lst (script.map .int)] p:=
 uW (r:=327) (n:=150) (Hr (r:=326) (J6 D) (vJ D).ext.ext.ext []) (A4 D.kb D.ok.f3.2.2.2.2) h
end
end
end Mine
end
section
namespace Mine
noncomputable section
theorem vZ{P:Params}{h:Heap}{V:Addr->Prop}:∀{ns:List Int}{vs:List Value},WellAll P h vs (ofPys (ns.map .int))->G.RepL h V (ns.map .int) vs:=λ{ns}=>by
 induction ns with
 |nil=>intro vs x;have x:WellAll P h vs []:=x;cases x;trivial
 |cons n ns ih=>
  intro vs x;have x:WellAll P h vs (.int n::ofPys (ns.map .int)):=x
  cases x with
  |cons y z=>cases y with
   |int i t=>exact RepL.cons (bA.mpr ⟨t,rfl⟩) (ih z)
set_option tactic.hygienic true in
theorem Ht(hp:∀script:List Int,script.length<=63->oI script=some (.bool true)):Fy wd:=λko kb bb bm c1 c2 s l ns hs hlen W=>by
 have D:nR KF G:=⟨ko,⟨kb,ko.q1⟩,bb,bm,c1,c2⟩;have W:Well w.params s.heap (.ref l) (.list (ofPys (ns.map .int))):=W
 cases W with
 |list ho hw=>
  rename_i vs
  have tb:s.heap.get? PT=some { cls:=.none,data:=.fields #[] }:=hs▸G.tab.2;have t:ki s.heap:=⟨#[],trivial,tb⟩;have rep:G.RepL s.heap (·=PT) [.lst (ns.map .int)] [.ref l]:=⟨dP.mpr ⟨l,rfl,t.npt ho λJ=>nofun,vs,⟨_,ho⟩,vZ hw⟩,trivial⟩;refine wpAny_mono (D3 D (hp ns hlen) callerA s (·=PT) [.ref l] ⟨rfl,by decide,by decide⟩ ⟨λJ J J e=>hs▸e,t⟩ ⟨λJ q n=>absurd q n,t,rfl⟩ rep) (λv s' z=>⟨dB.mp z.1,⟨λb ob e=>?_,λb ob e=>?_⟩,z.2.os,z.2.gens⟩) λJ J x=>x
  ·by_cases q:b=PT
   ·obtain⟨ps,_,e'⟩:=z.2.tab t
    rw[q,tb]at e;cases e;exact .inr (.inl ⟨q▸hs▸G.tab.isCodeTable,rfl,#[],ps,rfl,by rw[q,e',Array.empty_append]⟩)
   ·exact .inl (z.2.keep b ob q e)
  ·by_cases q:b=PT
   ·obtain⟨ps,_,e'⟩:=z.2.tab t
    exact⟨_,q▸e'⟩
   ·exact⟨ob,z.2.keep b ob q e⟩
theorem Bb{P:Params}{h:Heap}{mg:Str->Option Value}(g:h.Ns mainGlobals mg){K:Frag}(KO:Kt P K)(KX:K.In h)
  (t:∃a o fd c P,mg ("add_callers":Str)=some (.ref a)/\h.get? a=some o/\o.data=.func fd/\fd.code=.ref c/\h.IsCode c P #[]/\h.TableAt c P #[]):h.TableAt 55 51 #[]/\h.IsCode 55 51 #[]:=by
 obtain⟨a,o,fd,c,P,h1,h2,h3,h4,h5,h6⟩:=t;have e:mg ("add_callers":Str)=some (.ref 56):=(yI g KX KO.n3 _).trans KO.gfn.1;rw[h1]at e;injection e with e;injection e with e
 subst e;refine bC (HP KO.f1.1.fd) ?_;intro ob ho hd';rw[KX _ _ ho]at h2;cases h2;rw[hd']at h3;injection h3 with h3
 have e:=KO.q2;rw[h3,h4]at e;injection e with e
 subst e;have q:=KO.q3;obtain⟨⟨o2,vs,g1,g2,g3,g4⟩,g5⟩:=h6
 cases hk:K.lookup 55 with
 |none=>rw[hk]at q;cases q
 |some o3=>
  rw[hk]at q;rw[KX _ _ hk]at g1;cases g1;obtain⟨c3,d3,dt,sl⟩:=o2;dsimp only at g3;subst g3;have q:vs[11]?=some (.ref 51):=q;rw[g4]at q;injection q with q;injection q with q
  subst q;exact⟨⟨⟨_,vs,KX _ _ hk,g2,rfl,g4⟩,g5⟩,h5⟩
theorem Be{ag:Program}{w:World}{aH:Shared}{mg mb:Str->Option Value}{fa l:Addr}{ns:List Int}(hp:∀script:List Int,script.length<=63->oI script=some (.bool true))(g:aH.heap.Ns mainGlobals mg)(b:aH.heap.Ns builtinsNs mb)(nl:aH.heap.NoLimit)
  (bb:∀x:Str,x≠"__name__"->mb x=bootBuiltins x) {K:Frag}(KO:Kt w.params K) (KX:K.In aH.heap) (tb:aH.heap.TableAt 55 51 #[]/\aH.heap.IsCode 55 51 #[]) (bm:∃bm ob,mg "__builtins__"=some (.ref bm)/\bm≠builtinsNs/\aH.heap.get? bm=some ob/\ob.cls=.type "module"/\ob.dict=some builtinsNs/\ob.data=.plain) (hmg:mg ("law":Str)=some (.ref fa)) (hlen:ns.length<=63) (W:Well w.params aH.heap (.ref l) (ofPy (.list (ns.map .int)))) :
  wpAny (model ag w) callerA (call (.ref fa) [.ref l]) (λv s'=>v=.bool true/\OldK aH.heap s'.heap/\s'.os=aH.os/\(AllBare aH.gens->AllBare s'.gens)) EF aH:=by
 have e:fa=205:=by
  have h3:mg ("law":Str)=some (.ref 205):=(yI g KX KO.n3 _).trans KO.gl2.2.2.2.2;rw[hmg]at h3
  injection h3 with h3
  injection h3
 subst e;exact Ga (Ht hp) ⟨ag,w,{ base:=aH.heap,mg:=mg,mb:=mb,cl:=λc=>if c == ("Whitespace":Str) then some 125 else if c == ("TupleComp":Str) then some 45 else none,g:=g,b:=b,nolimit:=nl,tab:=tb.1,code:=tb.2 },K⟩ KO KX bb bm rfl rfl aH l ns rfl hlen W
end
end Mine
end
section
namespace Mine
theorem aq{o:cS}{W:List Str}{n:Nat}{sc:Sc}{σ aL:SE}{s:Stmt}{r:List Stmt}(h:ex o W n sc σ s=some (.next,aL)):exs o W (n+1) sc σ (s::r)=exs o W n sc aL r:=di h
theorem bE{o:cS}{W:List Str}{n:Nat}{sc:Sc}{σ aL:SE}{s:Stmt}{r:List Stmt}{v:PV}(h:ex o W n sc σ s=some (.ret v,aL)):exs o W (n+1) sc σ (s::r)=some (.ret v,aL):=di h
theorem vW{o:cS}{W:List Str}{n:Nat}{sc:Sc}{σ aL:SE}{s:Stmt}{r:List Stmt}(h:ex o W n sc σ s=some (.brk,aL)):exs o W (n+1) sc σ (s::r)=some (.brk,aL):=di h
theorem J4{o:cS}{W:List Str}{n:Nat}{sc:Sc}{σ:SE}{t:Expr}{b e:List Stmt}{p:Pos}{c:Bool}(h:evT o n sc σ t=some c):ex o W (n+1) sc σ (.If t b e p)=if c=true then exs o W n sc σ b else exs o W n sc σ e:=di h
theorem ln{o:cS}{W:List Str}{n:Nat}{sc:Sc}{σ:SE}{t it:Expr}{b:List Stmt}{p:Pos}{items:List PV}(h:evI o n sc σ t it=some items):ex o W (n+1) sc σ (.For t it b [] p)=exF o W n sc σ t items b:=di h
theorem ba{o:cS}{W:List Str}{n:Nat}{sc:Sc}{σ:SE}{x:Str}{q p:Pos}{v:Expr}{u:PV}(hw:(W.contains x && !(jt v))=false)(h:ev o n sc σ v=some u):ex o W (n+1) sc σ (.Assign [.Name x q] v p)=(jc W sc [x] [u] σ).map λaL=>(Fl.next,aL):=by
 have e:IU W (ev o n sc σ) sc σ x v=jc W sc [x] [u] σ:=(kT (by rw[hw];rfl)).trans (di h);exact congrArg (cu lH) e
theorem oU{o:cS}{W:List Str}{n:Nat}{sc:Sc}{σ:SE}{p:Pos}{e:Expr}{u:PV}(h:ev o n sc (J0 σ) e=some u):ex o W (n+1) sc σ (.Return (some e) p)=some (.ret u,[]):=Hn h
theorem oW{o:cS}{W:List Str}{n:Nat}{sc:Sc}{σ:SE}{t:Expr}{body:List Stmt}:exF o W (n+1) sc σ t [] body=some (.next,σ):=rfl
theorem fD{o:cS}{W:List Str}{n:Nat}{sc:Sc}{σ aL iL:SE}{t:Expr}{i:PV}{is:List PV}{body:List Stmt}(h1:bindT sc t i σ=some aL)(h2:exs o W n sc aL body=some (.next,iL)):exF o W (n+1) sc σ t (i::is) body=exF o W n sc iL t is body:=(di h1).trans (di h2)
theorem o7{o:cS}{W:List Str}{n:Nat}{sc:Sc}{σ aL iL:SE}{t:Expr}{i v:PV}{is:List PV}{body:List Stmt}(h1:bindT sc t i σ=some aL)(h2:exs o W n sc aL body=some (.ret v,iL)):exF o W (n+1) sc σ t (i::is) body=some (.ret v,iL):=(di h1).trans (di h2)
theorem G9{o:cS}{W:List Str}{n:Nat}{sc:Sc}{σ aL iL:SE}{t:Expr}{i:PV}{is:List PV}{body:List Stmt}(h1:bindT sc t i σ=some aL)(h2:exs o W n sc aL body=some (.brk,iL)):exF o W (n+1) sc σ t (i::is) body=some (.next,iL):=(di h1).trans (di h2)
theorem mt{α β:Type}{o:cS}{W:List Str}{sc:Sc}{t:Expr}{body:List Stmt}(S:α->SE)(P:Nat->α->Prop)(f:α->β->α)(g:β->PV)(m:Nat):
  ∀(xs:List β) (a:α) (N j:Nat),m+xs.length+1<=N->P j a ->
  (∀i a x n,i < j+xs.length->P i a->x∈xs->P (i+1) (f a x)/\∃aL,bindT sc t (g x) (S a)=some aL/\exs o W (n+m) sc aL body=some (.next,S (f a x))) ->
  exF o W N sc (S a) t (xs.map g) body=some (.next,S (xs.foldl f a)):=by
 intro xs
 induction xs with
 |nil=>
  intro a N j hN _ _;refine xE (aE (aD (bW 1 _) hN)) ?_;rintro k rfl;rw[c6,oW];rfl
 |cons x xs ih=>
  intro a N j hN hP step;rw[am]at hN step;refine xE (aE (show m+1<=N by exact(pn [_,_,_] 0x0D2A1800D2A18AA1810) hN)) ?_;rintro k rfl;refine CR (step j a x k (pn [_,_] 0x1DAA18100) hP ak) ?_;intro hP' aL h1 h2;rw[ao,show k+(m+1)=(k+m)+1 from rfl,fD h1 h2,bc];exact ih _ _ (j+1) (by exact(pn [_,_,_] 0x0DA02A18A100DAA1802A18AA1810) hN) hP' λi a y n hi p hy=>step i a y n (by exact(pn [_,_,_] 0x1DAA182101DA2A1810) hi) p (ah _ hy)
theorem vU{o:cS}{n:Nat}{sc:Sc}{σ:SE}{g:Comprehension}{gs:List Comprehension}{elt:Expr}{key:Option Expr}(hf:(g.is_async=0 && gR g.target σ)=true):lJ o (n+1) sc σ g [] gs elt key=some []:=kT hf
theorem sS{o:cS}{n:Nat}{sc:Sc}{σ aL:SE}{g:Comprehension}{i:PV}{is:List PV}{gs:List Comprehension}{elt:Expr}{key:Option Expr}(hf:(g.is_async=0 && gR g.target σ)=true)
  (h1:bindT sc g.target i σ=some aL) (h2:evAnd o n sc aL g.ifs=some false):lJ o (n+1) sc σ g (i::is) gs elt key=lJ o n sc σ g is gs elt key:=by
 refine(kT hf).trans ((di h1).trans ((di h2).trans ?_));show cW _ (some []) (lJ o n sc σ g is gs elt key)=_
 cases lJ o n sc σ g is gs elt key<;>rfl
theorem Gy{o:cS}{n:Nat}{sc:Sc}{σ aL:SE}{g:Comprehension}{i v:PV}{is:List PV}{elt:Expr}(hf:(g.is_async=0 && gR g.target σ)=true)
  (h1:bindT sc g.target i σ=some aL) (h2:evAnd o n sc aL g.ifs=some true) (h3:ev o n sc aL elt=some v):lJ o (n+1) sc σ g (i::is) [] elt none=(lJ o n sc σ g is [] elt none).map ((.none,v)::·):=by
 refine(kT hf).trans ((di h1).trans ((di h2).trans ?_));show cW _ (cW _ (ev o n sc aL elt) (some PV.none)) (lJ o n sc σ g is [] elt none)=_;rw[h3]
 cases lJ o n sc σ g is [] elt none<;>rfl
theorem G3{o:cS}{n:Nat}{sc:Sc}{σ aL:SE}{g:Comprehension}{i v k:PV}{is:List PV}{elt ke:Expr}(hf:(g.is_async=0 && gR g.target σ)=true)
  (h1:bindT sc g.target i σ=some aL) (h2:evAnd o n sc aL g.ifs=some true) (h3:ev o n sc aL elt=some v) (h4:ev o n sc aL ke=some k):lJ o (n+1) sc σ g (i::is) [] elt (some ke)=(lJ o n sc σ g is [] elt (some ke)).map ((k,v)::·):=by
 refine(kT hf).trans ((di h1).trans ((di h2).trans ?_));show cW _ (cW _ (ev o n sc aL elt) (ev o n sc aL ke)) (lJ o n sc σ g is [] elt (some ke))=_;rw[h3,h4]
 cases lJ o n sc σ g is [] elt (some ke)<;>rfl
theorem De{o:cS}{n:Nat}{sc:Sc}{σ aL:SE}{g g':Comprehension}{i:PV}{is items:List PV}{rs:List (PV×PV)}{gs:List Comprehension}{elt:Expr}{ke:Option Expr}(hf:(g.is_async=0 && gR g.target σ)=true)
  (h1:bindT sc g.target i σ=some aL) (h2:evAnd o n sc aL g.ifs=some true) (h3:evI o n sc aL g'.target g'.iter=some items) (h4:lJ o n sc aL g' items gs elt ke=some rs):lJ o (n+1) sc σ g (i::is) (g'::gs) elt ke=(lJ o n sc σ g is (g'::gs) elt ke).map (rs++·):=by
 refine(kT hf).trans ((di h1).trans ((di h2).trans ?_));show cW _ ((evI o n sc aL g'.target g'.iter).bind _) (lJ o n sc σ g is (g'::gs) elt ke)=_;rw[h3];show cW _ (lJ o n sc aL g' items gs elt ke) _=_;rw[h4]
 cases lJ o n sc σ g is (g'::gs) elt ke<;>rfl
theorem cN{β:Type}{o:cS}{sc:Sc}{σ:SE}{g:Comprehension}{elt:Expr}(p:β->Bool)(e:β->PV)(gi:β->PV)(m:Nat)(hf:(g.is_async=0 && gR g.target σ)=true):
  ∀(xs:List β) (N:Nat),m+xs.length+1<=N ->
  (∀x n,x∈xs->∃aL,bindT sc g.target (gi x) σ=some aL/\evAnd o (n+m) sc aL g.ifs=some (p x)/\(p x=true->ev o (n+m) sc aL elt=some (e x))) ->
  lJ o N sc σ g (xs.map gi) [] elt none=some ((xs.filter p).map λx=>(.none,e x)):=by
 intro xs
 induction xs with
 |nil=>
  intro N hN _;refine xE (aE (aD (bW 1 _) hN)) ?_;rintro k rfl;rw[c6,vU hf];rfl
 |cons x xs ih=>
  intro N hN step;rw[am]at hN;refine xE (aE (show m+1<=N by exact(pn [_,_,_] 0x0D2A1800D2A18AA1810) hN)) ?_;rintro k rfl;refine fJ (step x k ak) ?_;intro aL h1 h2 h3;have IH:=ih (k+m) (by exact(pn [_,_,_] 0x0DA02A18A100DAA1802A18AA1810) hN) λy n hy=>step y n (ah _ hy);rw[ao,show k+(m+1)=(k+m)+1 from rfl]
  cases hp:p x with
  |false=>rw[hp]at h2;rw[sS hf h1 h2,IH,b7 (by simp[hp])]
  |true=>rw[hp]at h2;rw[Gy hf h1 h2 (h3 hp),IH,b8 (by simp[hp])];rfl
theorem fH{β:Type}{o:cS}{sc:Sc}{σ:SE}{g:Comprehension}{elt ke:Expr}(p:β->Bool)(e kf:β->PV)(gi:β->PV)(m:Nat)(hf:(g.is_async=0 && gR g.target σ)=true):
  ∀(xs:List β) (N:Nat),m+xs.length+1<=N ->
  (∀x n,x∈xs->∃aL,bindT sc g.target (gi x) σ=some aL/\evAnd o (n+m) sc aL g.ifs=some (p x)/\(p x=true->ev o (n+m) sc aL elt=some (e x)/\ev o (n+m) sc aL ke=some (kf x))) ->
  lJ o N sc σ g (xs.map gi) [] elt (some ke)=some ((xs.filter p).map λx=>(kf x,e x)):=by
 intro xs
 induction xs with
 |nil=>
  intro N hN _;refine xE (aE (aD (bW 1 _) hN)) ?_;rintro k rfl;rw[c6,vU hf];rfl
 |cons x xs ih=>
  intro N hN step;rw[am]at hN;refine xE (aE (show m+1<=N by exact(pn [_,_,_] 0x0D2A1800D2A18AA1810) hN)) ?_;rintro k rfl;refine fJ (step x k ak) ?_;intro aL h1 h2 h3;have IH:=ih (k+m) (by exact(pn [_,_,_] 0x0DA02A18A100DAA1802A18AA1810) hN) λy n hy=>step y n (ah _ hy);rw[ao,show k+(m+1)=(k+m)+1 from rfl]
  cases hp:p x with
  |false=>rw[hp]at h2;rw[sS hf h1 h2,IH,b7 (by simp[hp])]
  |true=>rw[hp]at h2;rw[G3 hf h1 h2 (h3 hp).1 (h3 hp).2,IH,b8 (by simp[hp])];rfl
theorem oR{β:Type}{o:cS}{sc:Sc}{σ:SE}{g g':Comprehension}{gs:List Comprehension}{elt:Expr}{ke:Option Expr}(p:β->Bool)(rows:β->List (PV×PV))(gi:β->PV)(m:Nat)(hf:(g.is_async=0 && gR g.target σ)=true):
  ∀(xs:List β) (N:Nat),m+xs.length+1<=N ->
  (∀x n,x∈xs->∃aL,bindT sc g.target (gi x) σ=some aL/\evAnd o (n+m) sc aL g.ifs=some (p x)/\(p x=true->∃items,evI o (n+m) sc aL g'.target g'.iter=some items/\lJ o (n+m) sc aL g' items gs elt ke=some (rows x))) ->
  lJ o N sc σ g (xs.map gi) (g'::gs) elt ke=some ((xs.filter p).flatMap rows):=by
 intro xs
 induction xs with
 |nil=>
  intro N hN _;refine xE (aE (aD (bW 1 _) hN)) ?_;rintro k rfl;rw[c6,vU hf];rfl
 |cons x xs ih=>
  intro N hN step;rw[am]at hN;refine xE (aE (show m+1<=N by exact(pn [_,_,_] 0x0D2A1800D2A18AA1810) hN)) ?_;rintro k rfl;refine fJ (step x k ak) ?_;intro aL h1 h2 h3;have IH:=ih (k+m) (by exact(pn [_,_,_] 0x0DA02A18A100DAA1802A18AA1810) hN) λy n hy=>step y n (ah _ hy);rw[ao,show k+(m+1)=(k+m)+1 from rfl]
  cases hp:p x with
  |false=>rw[hp]at h2;rw[sS hf h1 h2,IH,b7 (by simp[hp])]
  |true=>
   rw[hp]at h2;refine bC (h3 hp) ?_;intro items h4 h5;rw[De hf h1 h2 h4 h5,IH,b8 (by simp[hp])];rfl
theorem cJ{o:cS}{n:Nat}{sc:Sc}{σ:SE}{elt:Expr}{g:Comprehension}{gs:List Comprehension}{scope:Scope}{p:Pos}{items:List PV}{rs:List (PV×PV)}(hs:fO sc scope=true)(h1:evI o n sc σ g.target g.iter=some items)
  (h2:lJ o n scope.names (jF scope σ) g items gs elt none=some rs) (hl:rs.length<=1048576):ev o (n+1) sc σ (.ListComp elt (g::gs) scope p)=some (.lst (rs.map (·.2))):=(kT hs).trans ((di h1).trans ((di h2).trans (if_pos (by rw[aa];exact hl))))
theorem fj{β:Type}{o:cS}{N:Nat}{sc:Sc}{σ:SE}{elt:Expr}{g:Comprehension}{scope:Scope}{p:Pos}(e gi:β->PV)(m:Nat)(xs:List β)(hs:fO sc scope=true)(hi:evI o N sc σ g.target g.iter=some (xs.map gi))(hf:(g.is_async=0 && gR g.target (jF scope σ))=true)(hN:m+xs.length+1<=N)(hl:xs.length<=1048576)
  (step:∀x n,x∈xs->∃aL,bindT scope.names g.target (gi x) (jF scope σ)=some aL/\evAnd o (n+m) scope.names aL g.ifs=some true/\ev o (n+m) scope.names aL elt=some (e x)):ev o (N+1) sc σ (.ListComp elt [g] scope p)=some (.lst (xs.map e)):=by
 refine(cJ hs hi (cN (λJ=>true) e gi m hf xs N hN λx n hx=>?_) ?_).trans ?_
 ·refine fJ (step x n hx) ?_;intro aL h1 h2 h3
  exact⟨aL,h1,h2,λJ=>h3⟩
 ·rw[aa];exact aD (aJ _ _) hl
 ·rw[bu.mpr (λJ J=>rfl),aj];rfl
theorem iy{o:cS}{n:Nat}{sc:Sc}{σ:SE}{k v:Expr}{g:Comprehension}{scope:Scope}{p:Pos}{items:List PV}{rs:List (PV×PV)}(hs:fO sc scope=true)(h1:evI o n sc σ g.target g.iter=some items)
  (h2:lJ o n scope.names (jF scope σ) g items [] v (some k)=some rs) (hl:rs.length<=1048576):ev o (n+1) sc σ (.DictComp k v [g] scope p)=(cD rs []).map .dct:=(kT hs).trans ((di h1).trans ((di h2).trans (if_pos hl)))
theorem dT{o:cS}{W:List Str}{n:Nat}{params:List Str}{scope:Scope}{body:List Stmt}{args:List PV}{σ aL:SE}{v:PV}
  (hg:zR params scope args=true) (hb:dq scope.names params args []=some σ) (h:exs o W n scope.names σ body=some (.ret v,aL)):eE o W n params scope body args=some v:=(kT hg).trans ((di hb).trans (di h))
noncomputable def aU(l:List Int):PV:=.lst (l.map .int)
noncomputable def aZ(d:List (Int×Int)):PV:=.dct (d.map λp=>(p.1,.int p.2))
noncomputable def gI(d:List (Int×Int))(k:Int):Option Int:=(d.find? λp=>p.1=k).map (·.2)
noncomputable def pI(d:List (Int×Int))(k v:Int):List (Int×Int):=if d.any (λp=>p.1=k) then d.map (λp=>if p.1=k then(p.1,v) else p) else d++[(k,v)]
theorem rV{α:Type}(f:α->PV)(d:List (Int×α))(k:Int):eH (d.map λp=>(p.1,f p.2)) k=((d.find? λp=>p.1=k).map (·.2)).map f:=by
 unfold eH
 induction d with
 |nil=>rfl
 |cons p d ih=>
  rw[ao,iw,iw];dsimp only;by_cases h:p.1=k
  ·simp[h]
  ·simp only[h,decide_false];exact ih
theorem eG(d:List (Int×Int))(k:Int):eH (d.map λp=>(p.1,PV.int p.2)) k=(gI d k).map .int:=rV _ _ _
theorem wE(d:List (Int×Int))(k v:Int):jD (d.map λp=>(p.1,PV.int p.2)) k (.int v)=(pI d k v).map λp=>(p.1,PV.int p.2):=by
 unfold jD pI;rw[List.any_map];show(if d.any (λp=>decide (p.1=k))=true then _ else _)=_;split
 ·rw[aj,aj]
  refine eP λp J=>?_;dsimp only[Function.comp];by_cases h:p.1=k<;>simp[h]
 ·rw[aT];rfl
end Mine
namespace Mine
theorem je{o:cS}{W:List Str}{n:Nat}{sc:Sc}{σ aL:SE}{t it:Expr}{b r:List Stmt}{p:Pos}{items:List PV}(h:evI o n sc σ t it=some items)(h2:exF o W n sc σ t items b=some (.next,aL)):
  exs o W (n+2) sc σ (.For t it b [] p::r)=exs o W (n+1) sc aL r:=
 aq ((ln h).trans h2)
theorem dh{o:cS}{W:List Str}{n:Nat}{sc:Sc}{σ:SE}{t:Expr}{b e:List Stmt}{p:Pos}{c:Bool}{x:Option (Fl×SE)}(h:evT o n sc σ t=some c)(ht:c=true->exs o W n sc σ b=x)(he:c=false->exs o W n sc σ e=x):
  ex o W (n+1) sc σ (.If t b e p)=x:=by
 rw[J4 h]
 cases c with
 |true=>rw[if_pos rfl];exact ht rfl
 |false=>rw[if_neg av];exact he rfl
theorem eA{o:cS}{W:List Str}{n:Nat}{sc:Sc}{σ:SE}{x:Str}{q q' q'':Pos}{i v:Expr}{c k u c':PV}(hx:σ.lookup x=some (true,c))(ho:cC x=true)(hv:ev o n sc σ v=some u)(hi:ev o n sc σ i=some k)(hp:kZ c k u=some c'):
  ex o W (n+1) sc σ (.Assign [.Subscript (.Name x q) i q'] v q'')=some (.next,SE.put σ x (true,c')):=by
 have ho':qC σ x=some c:=(di hx).trans (kT ho);have e:E5 (ev o n sc σ) σ x i v=some (SE.put σ x (true,c')):=(di ho').trans ((gg hv hi).trans (Hn hp));exact congrArg (cu lH) e
theorem sL{o:cS}{W:List Str}{n:Nat}{sc:Sc}{σ:SE}{x:Str}{q q' q'':Pos}{i v:Expr}{c k c':PV}{a b:Int}(hx:σ.lookup x=some (true,c))(ho:cC x=true)(hi:ev o n sc σ i=some k)(hc:item c k=some (.int a))(hv:ev o n sc σ v=some (.int b))(hp:kZ c k (.int (a+b))=some c'):
  ex o W (n+1) sc σ (.AugAssign (.Subscript (.Name x q) i q') .Add v q'')=some (.next,SE.put σ x (true,c')):=by
 have ho':qC σ x=some c:=(di hx).trans (kT ho);have e:IV (ev o n sc σ) σ x i v=some (SE.put σ x (true,c')):=(di ho').trans ((di hi).trans ((gg (a:=a) (b:=b) ((di hc).trans rfl) ((di hv).trans rfl)).trans (Hn hp)));exact congrArg (cu lH) e
end Mine
namespace Mine
section
variable{o:cS}{W:List Str}{n:Nat}{sc:Sc}{σ:SE}
theorem cw{f:Str}{q p:Pos}{a:Expr}{v r:PV}(hg:bR sc σ f=true)(ha:evP o n sc σ a=some v)(hb:o.bi f [v]=some r)(hq:qy a=none:=by rfl):ev o (n+1) sc σ (.Call (.Name f q) [a] [] p)=some r:=by
 have hn:lM sc σ (.Name f q)=some f:=kT hg;refine(di hn).trans ?_;show(match qy a with|some q=>_|none=>(evP o n sc σ a).bind λv=>(o.bi f [v]).or ((ev o n sc σ a).bind λv=>o.fn f [v]))=_;rw[hq];exact(di ha).trans (by rw[hb];rfl)
theorem fq{f:Str}{q p:Pos}{a:Expr}{v v' r:PV}(hg:bR sc σ f=true)(ha:evP o n sc σ a=some v')(hb:o.bi f [v']=none)(hv:ev o n sc σ a=some v)(hr:o.fn f [v]=some r)(hq:qy a=none:=by rfl):ev o (n+1) sc σ (.Call (.Name f q) [a] [] p)=some r:=by
 have hn:lM sc σ (.Name f q)=some f:=kT hg;refine(di hn).trans ?_;show(match qy a with|some q=>_|none=>(evP o n sc σ a).bind λv=>(o.bi f [v]).or ((ev o n sc σ a).bind λv=>o.fn f [v]))=_;rw[hq];exact(di ha).trans (by rw[hb];exact(di hv).trans hr)
theorem IL{q p:Pos}{a:Expr}{e:Expr×Expr}{u v r:PV}(hg:bR sc σ "tuple"=true)(hz:bR sc σ "zip"=true)(hs:ds sc=true)(hq:qy a=some e)(h1:ev o n sc σ e.1=some u)(h2:ev o n sc σ e.2=some v)(hr:zF u v=some r):ev o (n+1) sc σ (.Call (.Name "tuple" q) [a] [] p)=some r:=by
 have hn:lM sc σ (.Name "tuple" q)=some "tuple":=kT hg;refine(di hn).trans ?_;show(match qy a with|some q=>gd (("tuple":Str) == ("tuple":Str) && ds sc && bR sc σ "zip") (cW zF (ev o n sc σ q.1) (ev o n sc σ q.2))|none=>(evP o n sc σ a).bind λv=>(o.bi "tuple" [v]).or ((ev o n sc σ a).bind λv=>o.fn "tuple" [v]))=_;rw[hq];exact(kT (by rw[hs,hz];rfl)).trans ((gg h1 h2).trans hr)
theorem xJ{f:Str}{q p:Pos}{a b:Expr}{as:List Expr}{vs:List PV}{r:PV}(hg:bR sc σ f=true)(ha:dK (ev o n sc σ) (a::b::as)=some vs)(hb:o.bi f vs=some r):ev o (n+1) sc σ (.Call (.Name f q) (a::b::as) [] p)=some r:=by
 have hn:lM sc σ (.Name f q)=some f:=kT hg;exact(di hn).trans ((di ha).trans (by rw[hb];rfl))
theorem jo{f:Str}{q p:Pos}{a b:Expr}{as:List Expr}{vs:List PV}{r:PV}(hg:bR sc σ f=true)(ha:dK (ev o n sc σ) (a::b::as)=some vs)(hb:o.bi f vs=none)(hr:o.fn f vs=some r):ev o (n+1) sc σ (.Call (.Name f q) (a::b::as) [] p)=some r:=by
 have hn:lM sc σ (.Name f q)=some f:=kT hg;exact(di hn).trans ((di ha).trans (by rw[hb];exact hr))
theorem j7{ob:Expr}{name:Str}{ap cp:Pos}{args:List Expr}{c:Str}{fs:List (Str×PV)}{vs:List PV}{r:PV}(hp:(dw ob && ap.endLine == cp.line && decide (args.length<=8))=true)(hb:ev o n sc σ ob=some (.obj c fs))(ha:dK (ev o n sc σ) args=some vs)(hn:(fs.lookup name).isNone=true)(hr:o.mth c name (.obj c fs::vs)=some r):
  ev o (n+1) sc σ (.Call (.Attribute ob name ap) args [] cp)=some r:=(kT hp).trans ((di hb).trans ((di ha).trans ((kT hn).trans hr)))
theorem aV{l r:Expr}{op:Operator}{p:Pos}{a b c:PV}(hl:evP o n sc σ l=some a)(hr:ev o n sc σ r=some b)(hc:jW op a b=some c):ev o (n+1) sc σ (.BinOp l op r p)=some c:=(gg hl hr).trans hc
theorem db{l r:Expr}{op:CmpOp}{p:Pos}{a b:PV}{c:Bool}(hl:ev o n sc σ l=some a)(ho:(op == .In ||op == .NotIn)=false)(hr:ev o n sc σ r=some b)(hc:Hc n op a b=some c):ev o (n+1) sc σ (.Compare l [op] [r] p)=some (.bool c):=by
 refine(di hl).trans ((if_neg (by rw[show uX op=(op == .In ||op == .NotIn) from rfl,ho];exact av)).trans ((di hr).trans (Hn hc)))
theorem mB{l r:Expr}{op:CmpOp}{p:Pos}{a b:PV}{c:Bool}(hl:ev o n sc σ l=some a)(ho:(op == .In ||op == .NotIn)=true)(ht:d6 o sc σ r=none)(hr:evP o n sc σ r=some b)(hc:Hc n op a b=some c):ev o (n+1) sc σ (.Compare l [op] [r] p)=some (.bool c):=by
 refine(di hl).trans ((if_pos ho).trans ?_);rw[ht];exact(di hr).trans (Hn hc)
theorem bV{l:Expr}{ops:List CmpOp}{rs:List Expr}{p:Pos}{b:Bool}(h:ev o n sc σ (.Compare l ops rs p)=some (.bool b)):evT o (n+1) sc σ (.Compare l ops rs p)=some b:=(di h).trans rfl
theorem mz{f:Expr}{as:List Expr}{ks:List Keyword}{p:Pos}{b:Bool}(h:ev o n sc σ (.Call f as ks p)=some (.bool b)):evT o (n+1) sc σ (.Call f as ks p)=some b:=(di h).trans rfl
theorem F8{e:Expr}{p:Pos}{b:Bool}(h:evT o n sc σ e=some b):evT o (n+1) sc σ (.UnaryOp .Not e p)=some (!b):=Hn h
theorem oN{es:List Expr}{p:Pos}{b:Option Bool}(h:evAnd o n sc σ es=b):evT o (n+1) sc σ (.BoolOp .And es p)=b:=h
theorem pS{es:List Expr}{p:Pos}{b:Option Bool}(h:evOr o n sc σ es=b):evT o (n+1) sc σ (.BoolOp .Or es p)=b:=h
theorem uH:evAnd o (n+1) sc σ []=some true:=rfl
theorem lT:evOr o (n+1) sc σ []=some false:=rfl
theorem fU{e:Expr}{es:List Expr}{b c:Bool}(h:evT o n sc σ e=some b)(hr:b=true->evAnd o n sc σ es=some c):evAnd o (n+1) sc σ (e::es)=some (b && c):=by
 refine(di h).trans ?_
 cases b with
 |true=>exact hr rfl
 |false=>rfl
theorem bN{e:Expr}{b:Bool}(h:evT o (n+1) sc σ e=some b):evAnd o (n+2) sc σ [e]=some b:=by
 rw[fU (c:=true) h λJ=>uH,Bool.and_true]
theorem dv{e:Expr}{es:List Expr}{b c:Bool}(h:evT o n sc σ e=some b)(hr:b=false->evOr o n sc σ es=some c):evOr o (n+1) sc σ (e::es)=some (b ||c):=by
 refine(di h).trans ?_
 cases b with
 |true=>rfl
 |false=>exact hr rfl
theorem gV{t a b:Expr}{p:Pos}{c:Bool}{v:PV}(h:evT o n sc σ t=some c)(ha:c=true->ev o n sc σ a=some v)(hb:c=false->ev o n sc σ b=some v):ev o (n+1) sc σ (.IfExp t a b p)=some v:=by
 refine(di h).trans ?_
 cases c with
 |true=>exact ha rfl
 |false=>exact hb rfl
theorem aR{α β:Type}{f:α->Option β}:dK f []=some []:=rfl
theorem ar{α β:Type}{f:α->Option β}{a:α}{as:List α}{b:β}{bs:List β}(h:f a=some b)(hs:dK f as=some bs):dK f (a::as)=some (b::bs):=gg h hs
theorem fG{es:List Expr}{c:Nat}{p:Pos}{vs:List PV}(h:dK (ev o n sc σ) es=some vs)(hl:Nat.ble vs.length 1048576=true:=by rfl):ev o (n+1) sc σ (.Tuple es c p)=some (.tup vs):=(di h).trans (if_pos (jL hl))
theorem sF{es:List Expr}{p:Pos}{vs:List PV}(h:dK (ev o n sc σ) es=some vs)(hl:Nat.ble vs.length 1048576=true:=by rfl):ev o (n+1) sc σ (.List es p)=some (.lst vs):=(di h).trans (if_pos (jL hl))
theorem iD{c:Expr}{lo hi:Option Expr}{q p:Pos}{b r:PV}{l h:Option Int}(hc:evP o n sc σ c=some b)(h1:evO o n sc σ lo=some l)(h2:evO o n sc σ hi=some h)(hr:jA b l h=some r):ev o (n+1) sc σ (.Subscript c (.Slice lo hi none q) p)=some r:=(di hc).trans ((gg h1 h2).trans hr)
end
end Mine
namespace Mine
theorem sf{o:cS}{W:List Str}{n:Nat}{sc:Sc}{σ:SE}{x a c:Str}{q q' q'':Pos}{v:Expr}{u:PV}{fs:List (Str×PV)}(hx:σ.lookup x=some (true,.obj c fs))(ho:(cC x && o.fld c a && decide (fs.length<=100))=true)(hv:ev o n sc σ v=some u):
  ex o W (n+1) sc σ (.Assign [.Attribute (.Name x q) a q'] v q'')=some (.next,SE.put σ x (true,.obj c (rR fs a u))):=by
 refine xA (gw ho) ?_;intro h1 h2;refine xA (gw h1) ?_;intro h1 h3;have ho':qC σ x=some (.obj c fs):=(di hx).trans (kT h1);have e:DG o (ev o n sc σ) σ x a v=some (SE.put σ x (true,.obj c (rR fs a u))):=(di ho').trans ((di (a:=(c,fs)) rfl).trans ((kT (by show(o.fld c a && _)=true;rw[h3];exact h2)).trans (Hn hv)));exact congrArg (cu lH) e
theorem zi{o:cS}{W:List Str}{n:Nat}{self:Str}{ps:List Str}{scope:Scope}{body:List Stmt}{c:Str}{args:List PV}{aL:SE}{fs:List (Str×PV)}
  (hg:(zR (self::ps) scope (.none::args) && (self::ps).all (bh scope.names))=true)
  (h:exs o W n (scope.names.filter λq=>q.1 != self) (putL [] ((self,true,.obj c [])::dG ps args)) body=some (.next,aL)) (hs:aL.lookup self=some (true,.obj c fs)) (hk:cC self=true:=by decide) :
  lv o W n (self::ps) scope body c args=some (.obj c fs):=by
 have e:qC aL self=some (.obj c fs):=(di hs).trans (kT hk);exact(kT hg).trans ((di h).trans ((di e).trans ((di (a:=(c,fs)) rfl).trans (kT (beq_self_eq_true c)))))
end Mine
namespace Mine
theorem Ha{β:Type}{o:cS}{W:List Str}{sc:Sc}{t:Expr}{body:List Stmt}{v:PV}(S:Option β->SE)(p:β->Bool)(g:β->PV)(m:Nat):
  ∀(xs:List β) (a:Option β) (N:Nat),m+xs.length+1<=N ->
  (∀a x n,x∈xs->∃aL,bindT sc t (g x) (S a)=some aL/\exs o W (n+m) sc aL body=if p x=true then some (.next,S (some x)) else some (.ret v,[])) ->
  exF o W N sc (S a) t (xs.map g) body=if xs.all p=true then some (.next,S (xs.foldl (λJ x=>some x) a)) else some (.ret v,[]):=by
 intro xs
 induction xs with
 |nil=>
  intro a N hN _;refine xE (aE (aD (bW 1 _) hN)) ?_;rintro k rfl;rw[c6,oW];rfl
 |cons x xs ih=>
  intro a N hN step;rw[am]at hN;refine xE (aE (show m+1<=N by exact(pn [_,_,_] 0x0D2A1800D2A18AA1810) hN)) ?_;rintro k rfl;refine bC (step a x k ak) ?_;intro aL h1 h2
  cases hp:p x with
  |true=>
   rw[hp,if_pos rfl]at h2;have h:=ih (some x) (k+m) (by exact(pn [_,_,_] 0x0DA02A18A100DAA1802A18AA1810) hN) λa y n hy=>step a y n (ah _ hy);rw[ao,show k+(m+1)=(k+m)+1 from rfl,fD h1 h2,h,mY,hp,g9,bc]
  |false=>
   rw[hp,if_neg av]at h2;rw[ao,show k+(m+1)=(k+m)+1 from rfl,o7 h1 h2,mY,hp,Bool.false_and,if_neg av]
theorem GS{β:Type}{o:cS}{W:List Str}{N:Nat}{sc:Sc}{t it:Expr}{body r:List Stmt}{ps:Pos}{v:PV}{σ:SE}(S:Option β->SE)(p:β->Bool)(g:β->PV)(m:Nat)(xs:List β)(h0:σ=S none)(hi:evI o N sc σ t it=some (xs.map g))(hN:m+xs.length+1<=N)
  (step:∀a x n,x∈xs->∃aL,bindT sc t (g x) (S a)=some aL/\exs o W (n+m) sc aL body=if p x=true then some (.next,S (some x)) else some (.ret v,[])) :
  exs o W (N+2) sc σ (.For t it body [] ps::r)=if xs.all p=true then exs o W (N+1) sc (S (xs.foldl (λJ x=>some x) none)) r else some (.ret v,[]):=by
 subst h0;have h:=Ha S p g m xs none N hN step;by_cases hp:xs.all p=true
 ·rw[if_pos hp]at h ⊢;exact je hi h
 ·rw[if_neg hp]at h ⊢;exact bE ((ln hi).trans h)
theorem o6{α β:Type}{o:cS}{W:List Str}{N:Nat}{sc:Sc}{t it:Expr}{body r:List Stmt}{ps:Pos}{σ:SE}(S:α->SE)(P:Nat->α->Prop)(f:α->β->α)(g:β->PV)(m:Nat)(xs:List β)(a:α)(h0:σ=S a)(hi:evI o N sc σ t it=some (xs.map g))(hN:m+xs.length+1<=N)(hP:P 0 a)
  (step:∀i a x n,i < xs.length->P i a->x∈xs->P (i+1) (f a x)/\∃aL,bindT sc t (g x) (S a)=some aL/\exs o W (n+m) sc aL body=some (.next,S (f a x))) :
  exs o W (N+2) sc σ (.For t it body [] ps::r)=exs o W (N+1) sc (S (xs.foldl f a)) r:=by
 subst h0;exact je hi (mt S P f g m xs a N 0 hN hP λi a x n hi=>step i a x n (by exact(pn [_,_] 0x1D101DA1080) hi))
theorem sk{o:cS}{n:Nat}{sc:Sc}{σ:SE}{t a b:Expr}{fp p:Pos}{i j:Int}(hg:bR sc σ "range"=true)(ha:ev o n sc σ a=some (.int i))(hb:ev o n sc σ b=some (.int j))(hs:(fV i && fV j)=true):
  evI o (n+1) sc σ t (.Call (.Name "range" fp) [a,b] [] p)=some (ie i j):=by
 have hk:nv sc σ (.Call (.Name "range" fp) [a,b] [] p)=some (("range":Str),[a,b]):=(di (a:=(("range":Str),[a,b])) rfl).trans (kT (by show(bR sc σ "range" && _)=true;rw[hg];rfl));show gd true _=_;rw[hk];exact(di (ar ha (ar hb aR))).trans (if_pos hs)
theorem sG{o:cS}{n:Nat}{sc:Sc}{σ:SE}{t b:Expr}{fp p:Pos}{j:Int}(hg:bR sc σ "range"=true)(hb:ev o n sc σ b=some (.int j))(hs:fV j=true):
  evI o (n+1) sc σ t (.Call (.Name "range" fp) [b] [] p)=some (ie 0 j):=by
 have hk:nv sc σ (.Call (.Name "range" fp) [b] [] p)=some (("range":Str),[b]):=(di (a:=(("range":Str),[b])) rfl).trans (kT (by show(bR sc σ "range" && _)=true;rw[hg];rfl));show gd true _=_;rw[hk];exact(di (ar hb aR)).trans (if_pos hs)
theorem qJ{o:cS}{n:Nat}{sc:Sc}{σ:SE}{t a b:Expr}{fp p:Pos}{l m:List PV}(hg:bR sc σ "zip"=true)(ht:iA t=true)(ha:ev o n sc σ a=some (.lst l))(hb:ev o n sc σ b=some (.lst m))(hl:l.length<=1048576)(hm:m.length<=1048576):
  evI o (n+1) sc σ t (.Call (.Name "zip" fp) [a,b] [] p)=some (lW l m):=by
 have hk:nv sc σ (.Call (.Name "zip" fp) [a,b] [] p)=some (("zip":Str),[a,b]):=(di (a:=(("zip":Str),[a,b])) rfl).trans (kT (by show(bR sc σ "zip" && _)=true;rw[hg];rfl));show gd true _=_;rw[hk];have hz:Hy [.lst l,.lst m]=some (lW l m):=if_pos (by rw[decide_eq_true hl,decide_eq_true hm];rfl);exact(di (ar ha (ar hb aR))).trans ((kT ht).trans hz)
theorem wk{o:cS}{n:Nat}{sc:Sc}{σ:SE}{t a:Expr}{fp p:Pos}{l:List PV}(hg:bR sc σ "enumerate"=true)(ht:iA t=true)(ha:ev o n sc σ a=some (.lst l))(hl:l.length<=1048576):
  evI o (n+1) sc σ t (.Call (.Name "enumerate" fp) [a] [] p)=some (iE 0 l):=by
 have hk:nv sc σ (.Call (.Name "enumerate" fp) [a] [] p)=some (("enumerate":Str),[a]):=(di (a:=(("enumerate":Str),[a])) rfl).trans (kT (by show(bR sc σ "enumerate" && _)=true;rw[hg];rfl));show gd true _=_;rw[hk];exact(di (ar ha aR)).trans ((kT ht).trans (if_pos hl))
theorem BV{o:cS}{n:Nat}{sc:Sc}{σ:SE}{t a:Expr}{fp p:Pos}{l:List (Int×PV)}(hg:bR sc σ "enumerate"=true)(ht:iA t=true)(ha:ev o n sc σ a=some (.dct l))(hl:l.length<=1048576):
  evI o (n+1) sc σ t (.Call (.Name "enumerate" fp) [a] [] p)=some (iE 0 (l.map λkv=>.int kv.1)):=by
 have hk:nv sc σ (.Call (.Name "enumerate" fp) [a] [] p)=some (("enumerate":Str),[a]):=(di (a:=(("enumerate":Str),[a])) rfl).trans (kT (by show(bR sc σ "enumerate" && _)=true;rw[hg];rfl));show gd true _=_;rw[hk];have e:AS (.dct l)=some (iE 0 (l.map λkv=>.int kv.1)):=if_pos (by rw[aa];exact hl);exact(di (ar ha aR)).trans ((kT ht).trans e)
end Mine
namespace Mine
section
variable{o:cS}{W:List Str}{n:Nat}{sc:Sc}{σ:SE}
theorem xo{l r:Expr}{op:CmpOp}{p:Pos}{s:Str}{t:List (Str×Int)}(hl:ev o n sc σ l=some (.str s))(ho:(op == .In ||op == .NotIn)=true)(ht:d6 o sc σ r=some t):ev o (n+1) sc σ (.Compare l [op] [r] p)=some (.bool ((t.lookup s).isSome == (op == .In))):=by
 refine(di hl).trans ((if_pos ho).trans ?_);rw[ht];rfl
theorem B2{c:Expr}{x:Str}{q p:Pos}{s:Str}{t:List (Str×Int)}{v:Int}(ht:d6 o sc σ c=some t)(hi:ev o n sc σ (.Name x q)=some (.str s))(hv:t.lookup s=some v):ev o (n+1) sc σ (.Subscript c (.Name x q) p)=some (.int v):=by
 show(match d6 o sc σ c with|some t=>_|none=>_)=_;rw[ht];exact(di hi).trans ((di (a:=s) rfl).trans (Hn hv))
theorem bp{c i:Expr}{p:Pos}{b k r:PV}(ht:d6 o sc σ c=none)(hc:evP o n sc σ c=some b)(hi:ev o n sc σ i=some k)(hr:item b k=some r)(hs:mQ i=none:=by rfl):ev o (n+1) sc σ (.Subscript c i p)=some r:=by
 show(match mQ i with|some q=>_|none=>(match d6 o sc σ c with|some t=>_|none=>cW item (evP o n sc σ c) (ev o n sc σ i)))=_;rw[hs,ht];exact(gg hc hi).trans hr
theorem Ju{x:Str}{q p:Pos}{v:Expr}{a b:Int}{aL:SE}(hx:σ.lookup x=some (false,.int a))(hv:ev o n sc σ v=some (.int b))(hb:dq sc [x] [.int (a+b)] σ=some aL):ex o W (n+1) sc σ (.AugAssign (.Name x q) .Add v p)=some (.next,aL):=by
 have hb2:(IB (ev o n sc σ) sc σ x v)=some aL:=(di hx).trans ((gg (a:=a) (b:=b) rfl ((di hv).trans rfl)).trans hb);exact congrArg (cu lH) hb2
theorem pW{x m:Str}{q ap cp p:Pos}{e:Expr}{l:List PV}{u:PV}(hx:σ.lookup x=some (true,.lst l))(ho:(cC x && ap.endLine == cp.line && m == ("append":Str) && decide (l.length<=1048576))=true)(hv:ev o n sc σ e=some u):
  ex o W (n+1) sc σ (.Expr (.Call (.Attribute (.Name x q) m ap) [e] [] cp) p)=some (.next,SE.put σ x (true,.lst (l++[u]))):=by
 refine xA (gw ho) ?_;intro h1 h4;refine xA (gw h1) ?_;intro h1 h3;refine xA (gw h1) ?_;intro h1 h2;have ho':qC σ x=some (.lst l):=(di hx).trans (kT h1);have hm0:EH (.Call (.Attribute (.Name x q) m ap) [e] [] cp)=some (.Name x q,m,e):=kT h2;have e:Es (ev o n sc σ) σ (.Call (.Attribute (.Name x q) m ap) [e] [] cp)=some (SE.put σ x (true,.lst (l++[u]))):=
  (di (a:=(Expr.Name x q,m,e)) hm0).trans ((di (a:=x) rfl).trans ((di ho').trans ((di (a:=l) rfl).trans ((kT (by show(m == ("append":Str) && _)=true;rw[h3];exact h4)).trans (Hn hv)))))
 exact congrArg (cu lH) e
end
end Mine
namespace Mine
theorem B1{α β:Type}{o:cS}{W:List Str}{sc:Sc}{t:Expr}{body:List Stmt}(S:α->SE)(P:Nat->α->Prop)(f:α->β->α)(g:β->PV)(m:Nat):
  ∀(xs:List β) (a:α) (N j:Nat),m+xs.length+1<=N->P j a ->
  (∀i a x n,xs[i]?=some x->P (j+i) a->P (j+i+1) (f a x)/\∃aL,bindT sc t (g x) (S a)=some aL/\exs o W (n+m) sc aL body=some (.next,S (f a x))) ->
  exF o W N sc (S a) t (xs.map g) body=some (.next,S (xs.foldl f a))/\P (j+xs.length) (xs.foldl f a):=by
 intro xs
 induction xs with
 |nil=>
  intro a N j hN hP _;refine xE (aE (aD (bW 1 _) hN)) ?_;rintro k rfl;rw[c6,oW];exact⟨rfl,hP⟩
 |cons x xs ih=>
  intro a N j hN hP step;rw[am]at hN;refine xE (aE (show m+1<=N by exact(pn [_,_,_] 0x0D2A1800D2A18AA1810) hN)) ?_;rintro k rfl;refine CR (step 0 a x k rfl hP) ?_;intro hP' aL h1 h2;rw[ao,show k+(m+1)=(k+m)+1 from rfl,fD h1 h2,bc,am,show j+(xs.length+1)=j+1+xs.length from by exact pn [_,_] 0x2DA1A180AA1810];refine ih _ _ (j+1) (by exact(pn [_,_,_] 0x0DA02A18A100DAA1802A18AA1810) hN) hP' λi a y n hy p=>?_
  have:=step (i+1) a y n hy (by rw[show j+(i+1)=j+1+i from by exact pn [_,_] 0x2DA1A180AA1810];exact p)
  rw[show j+(i+1)+1=j+1+i+1 from by exact pn [_,_] 0x2DA18A1A180A18AA1810]at this;exact this
theorem fY{α β:Type}{o:cS}{W:List Str}{N:Nat}{sc:Sc}{t it:Expr}{body r:List Stmt}{ps:Pos}{σ:SE}{x:Option (Fl×SE)}(S:α->SE)(P:Nat->α->Prop)(f:α->β->α)(g:β->PV)(m:Nat)(xs:List β)(a:α)(h0:σ=S a)(hi:evI o N sc σ t it=some (xs.map g))(hN:m+xs.length+1<=N)(hP:P 0 a)
  (step:∀i a x n,xs[i]?=some x->P i a->P (i+1) (f a x)/\∃aL,bindT sc t (g x) (S a)=some aL/\exs o W (n+m) sc aL body=some (.next,S (f a x)))
  (fin:∀b,b=xs.foldl f a->P xs.length b->exs o W (N+1) sc (S b) r=x) :
  exs o W (N+2) sc σ (.For t it body [] ps::r)=x:=by
 subst h0;have h:=B1 S P f g m xs a N 0 hN hP λi a x n hx=>by rw[bS];exact step i a x n hx
 rw[bS]at h;exact(je hi h.1).trans (fin _ rfl h.2)
end Mine
namespace Mine
theorem GT{o:cS}{n:Nat}{sc:Sc}{σ:SE}{k v:Expr}{p:Pos}{a:Int}{b:PV}(hk:ev o n sc σ k=some (.int a))(hv:ev o n sc σ v=some b):ev o (n+1) sc σ (.Dict [some k] [v] p)=some (.dct [(a,b)]):=(gg (a:=[PV.int a]) (b:=[b]) (gg hk rfl) (gg hv rfl)).trans rfl
end Mine
namespace Mine
theorem vr{o:cS}{W:List Str}{n:Nat}{sc:Sc}{σ aL:SE}{ts vs:List Expr}{c c':Nat}{q q' p:Pos}{xs:List Str}{ps:List PV}(hn:cj ts=some xs)(hg:(ts.length=vs.length && Fp xs && xD W xs vs && (vs.length == 2 ||vs.length == 3) && !(vs.all (constantsAlone 8)))=true)(hv:dK (ev o n sc σ) vs=some ps)(hb:jc W sc xs ps σ=some aL):
  ex o W (n+1) sc σ (.Assign [.Tuple ts c q] (.Tuple vs c' q') p)=some (.next,aL):=by
 have hg':=hg;have e:GG W (ev o n sc σ) sc σ ts (.Tuple vs c' q')=some aL:=(di hn).trans ((kT hg').trans ((di hv).trans hb));exact congrArg (cu lH) e
end Mine
end
section
namespace Mine
noncomputable section
abbrev nm(x:Str)(v:PV):Str×(Bool×PV):=(x,(false,v))
abbrev ow(x:Str)(v:PV):Str×(Bool×PV):=(x,(true,v))
noncomputable def p9(t s:PV)(a:List (Int×Int)×Option (Int×Int)):SE:=
 [nm "target" t,nm "source" s,ow "new_callers" (aZ a.1)]++(match a.2 with|none=>[]|some (k,v)=>[nm "func" (.int k),nm "caller" (.int v)])
noncomputable def ik(d:List (Int×Int))(k v:Int):List (Int×Int):=match gI d k with
 |some a=>pI d k (a+v)
 |none=>pI d k v
noncomputable def gZ(t s:List (Int×Int)):List (Int×Int):=s.foldl (λd p=>ik d p.1 p.2) (t.foldl (λd p=>pI d p.1 p.2) [])
theorem sM(d:List (Int×Int))(k v:Int):(pI d k v).length<=d.length+1:=by
 unfold pI;split<;>simp
theorem sP(d:List (Int×Int))(k v:Int):(ik d k v).length<=d.length+1:=by
 unfold ik;split<;>exact sM _ _ _
theorem vY(d:List (Int×Int)):(d.map λp=>(p.1,PV.int p.2)).map (λkv=>PV.tup [.int kv.1,kv.2])=d.map λp=>PV.tup [.int p.1,.int p.2]:=by
 rw[aj];rfl
theorem iG{d:List (Int×Int)}{k v:Int}(h:d.length<=1048576):kZ (aZ d) (.int k) (.int v)=some (aZ (pI d k v)):=by
 show(if(d.map λp=>(p.1,PV.int p.2)).length<=1048576 then some (PV.dct (jD _ k (.int v))) else none)=_;rw[if_pos (by simpa using h),wE];rfl
theorem iF{α β:Type}{P:α->Nat->Prop}{f:α->β->α}(step:∀a b k,P a k->P (f a b) (k+1)):∀(l:List β) (a:α) (k:Nat),P a k->P (l.foldl f a) (k+l.length)
 | [],_,_,h=>h
 |b::l,a,k,h=>by
  have:=iF step l (f a b) (k+1) (step a b k h)
  rw[am,bc,show k+(l.length+1)=k+1+l.length from by exact pn [_,_] 0x2DA1A180AA1810];exact this
theorem u6{f:List (Int×Int)->Int×Int->List (Int×Int)}:∀(ps:List (Int×Int)) (a:List (Int×Int)×Option (Int×Int)),∃l1,ps.foldl (λ(a:List (Int×Int)×Option (Int×Int)) p=>(f a.1 p,some p)) a=(ps.foldl f a.1,l1)
 | [],a=>⟨a.2,rfl⟩
 |p::ps,a=>u6 ps (f a.1 p,some p)
theorem Ad{t s:List (Int×Int)}(ht:t.length<=20)(hs:s.length<=20):
  eE o0 u7.W 120 u7.params u7.scope u7.body [aZ t,aZ s]=some (aZ (gZ t s)):=by
 refine dT (σ:=[nm "target" (aZ t),nm "source" (aZ s)]) (by kernel_rfl) (by kernel_rfl) (aL:=[]) ?_;show exs _ _ _ (bg 56).names _ (de 56)=_
 conv=>lhs;arg 6;whnf
 refine(aq (aL:=p9 (aZ t) (aZ s) ([],none)) (by rfl)).trans ?_;have i1:(t.foldl (λd p=>pI d p.1 p.2) []).length<=20:=by
  have:=iF (P:=λ(d:List (Int×Int)) k=>d.length<=k) (f:=λd (p:Int×Int)=>pI d p.1 p.2) (λd p k h=>aD (sM d p.1 p.2) (by exact(pn [_,_] 0x0DA181A1800D10) h)) t [] 0 (aK _)
  exact(pn [_,_] 0x0D141910DA00810D14190) ht this
 refine xE (u6 (f:=λd p=>pI d p.1 p.2) t ([],none)) ?_;intro l1 hl1;refine xE (u6 (f:=λd p=>ik d p.1 p.2) s (t.foldl (λd p=>pI d p.1 p.2) [],l1)) ?_;intro l2 hl2;refine(je (items:=t.map λp=>.tup [.int p.1,.int p.2]) (aL:=p9 (aZ t) (aZ s) (t.foldl (λd p=>pI d p.1 p.2) [],l1)) ?_ ?_).trans ?_
 ·refine Eq.trans (b:=if(t.map λp=>(p.1,PV.int p.2)).length<=1048576 then some ((t.map λp=>(p.1,PV.int p.2)).map (λkv=>PV.tup [.int kv.1,kv.2])) else none) (by rfl) ?_
  rw[if_pos (by rw[aa];exact(pn [_] 0x0D1000003900D14190) ht),vY]
 ·rw[<- hl1]
  refine mt (p9 (aZ t) (aZ s)) (λi a=>a.1.length<=i) (λa p=>(pI a.1 p.1 p.2,some p)) _ 30 t ([],none) _ 0 ?_ ?_ ?_
  ·exact(pn [_] 0x0D7519A18A01E190D14190) ht
  ·simp
  ·intro i a x n hi ha hx
   refine⟨aD (sM _ _ _) (by exact(pn [_,_] 0x0DA181A1800D10) ha),p9 (aZ t) (aZ s) (a.1,some x),?_,?_⟩
   ·obtain⟨a,l⟩:=a
    cases l<;>kernel_rfl
   ·refine(aq (aL:=p9 (aZ t) (aZ s) (pI a.1 x.1 x.2,some x)) ?_).trans (by rfl)
    exact(eA (c:=aZ a.1) (k:=.int x.1) (u:=.int x.2) (by rfl) (by rfl) (by rfl) (by rfl) (iG (by exact(pn [_,_,_] 0x0D1000003920D121DA00810D14190) ht hi ha))).trans (by rfl)
 refine(je (items:=s.map λp=>.tup [.int p.1,.int p.2]) (aL:=p9 (aZ t) (aZ s) (gZ t s,l2)) ?_ ?_).trans ?_
 ·refine Eq.trans (b:=if(s.map λp=>(p.1,PV.int p.2)).length<=1048576 then some ((s.map λp=>(p.1,PV.int p.2)).map (λkv=>PV.tup [.int kv.1,kv.2])) else none) (by cases l1<;>kernel_rfl) ?_
  rw[if_pos (by rw[aa];exact(pn [_] 0x0D1000003900D14190) hs),vY]
 ·refine Eq.trans ?_ (congrArg (λa=>some (Fl.next,p9 (aZ t) (aZ s) a)) hl2)
  refine mt (p9 (aZ t) (aZ s)) (λi a=>a.1.length<=i+20) (λa p=>(ik a.1 p.1 p.2,some p)) _ 30 s _ _ 0 ?_ ?_ ?_
  ·exact(pn [_] 0x0D7419A18A01E190D14190) hs
  ·dsimp only;exact(pn [_] 0x0DA14190800D14190) i1
  ·intro i a x n hi ha hx
   refine⟨aD (sP _ _ _) (by exact(pn [_,_] 0x0DA1419A181A1800DA141910) ha),p9 (aZ t) (aZ s) (a.1,some x),?_,?_⟩
   ·obtain⟨a,l⟩:=a
    cases l<;>kernel_rfl
   ·refine(aq (aL:=p9 (aZ t) (aZ s) (ik a.1 x.1 x.2,some x)) ?_).trans (by rfl)
    refine dh (c:=(eH (a.1.map λp=>(p.1,PV.int p.2)) x.1).isSome) (by rfl) (λhc=>?_) (λhc=>?_)
    ·rw[eG,dE]at hc
     refine xE (hJ.mp hc) ?_;intro v hv;refine(aq (aL:=p9 (aZ t) (aZ s) (ik a.1 x.1 x.2,some x)) ?_).trans (by rfl);refine dh (c:=false) (by kernel_rfl) (λhc=>nomatch hc) (λJ=>?_);refine(aq (aL:=p9 (aZ t) (aZ s) (ik a.1 x.1 x.2,some x)) ?_).trans (by rfl);refine(sL (c:=aZ a.1) (k:=.int x.1) (a:=v) (b:=x.2) (by rfl) (by rfl) (by rfl) ?_ (by rfl) (iG (by exact(pn [_,_,_] 0x0D1000003920DA1419121DA00810D14190) hs hi ha))).trans ?_
     ·show eH _ _=_
      rw[eG,hv];rfl
     ·unfold ik;rw[hv];rfl
    ·rw[eG,dE]at hc
     have hv:gI a.1 x.1=none:=by simpa using hc
     refine(aq (aL:=p9 (aZ t) (aZ s) (ik a.1 x.1 x.2,some x)) ?_).trans (by rfl);refine(eA (c:=aZ a.1) (k:=.int x.1) (u:=.int x.2) (by rfl) (by rfl) (by rfl) (by rfl) (iG (by exact(pn [_,_,_] 0x0D1000003920DA1419121DA00810D14190) hs hi ha))).trans ?_;unfold ik;rw[hv];rfl
 ·cases l2<;>exact bE (by kernel_rfl)
noncomputable def ct(t:List (Int×Int)):Int:=(t.map (·.2)).sum
theorem tU{t:List (Int×Int)}(ht:t.length<=60):eE o0 sY.W 120 sY.params sY.scope sY.body [aZ t]=some (.int (ct t)):=by
 refine dT (σ:=[nm "callers" (aZ t)]) (by kernel_rfl) (by rfl) (aL:=[]) ?_;show exs _ _ _ (bg 63).names _ (de 63)=_
 conv=>lhs;arg 6;whnf
 have hl:∃l:Option Int,t.foldl (λ(a:Int×Option Int) p=>(a.1+p.2,some p.2)) (0,none)=(ct t,l):=by
  suffices h:∀(ps:List (Int×Int)) a,∃l:Option Int,ps.foldl (λ(a:Int×Option Int) p=>(a.1+p.2,some p.2)) a=(a.1+ct ps,l) by
   refine xE (h t (0,none)) ?_;intro l h;exact⟨l,by rw[h,bF]⟩
  intro ps
  induction ps with
  |nil=>exact λa=>⟨a.2,by simp[ct]⟩
  |cons p ps ih=>intro a;refine xE (ih (a.1+p.2,some p.2)) ?_;intro l h;exact⟨l,by rw[bc,h];simp[ct,Int.add_assoc]⟩
 refine xE hl ?_;clear hl;intro l hl
 let S:Int×Option Int->SE:=λa=>[nm "callers" (aZ t),nm "nc" (.int a.1)]++(match a.2 with|none=>[]|some v=>[nm "calls" (.int v)])
 refine(aq (aL:=S (0,none)) (by kernel_rfl)).trans ?_;refine(je (items:=t.map λp=>.int p.2) (aL:=S (ct t,l)) ?_ ?_).trans ?_
 ·refine Eq.trans (b:=if(t.map λp=>(p.1,PV.int p.2)).length<=1048576 then some ((t.map λp=>(p.1,PV.int p.2)).map (·.2)) else none) (by rfl) ?_
  rw[if_pos (by rw[aa];exact(pn [_] 0x0D1000003900D3C190) ht),aj];rfl
 ·rw[<- hl]
  refine mt S (λi a=>True) (λa p=>(a.1+p.2,some p.2)) _ 30 t (0,none) _ 0 ?_ trivial ?_
  ·exact(pn [_] 0x0D7519A18A01E190D3C190) ht
  intro i a x n hi ha hx;refine⟨trivial,S (a.1,some x.2),?_,?_⟩
  ·obtain⟨a,l⟩:=a
   cases l<;>kernel_rfl
  ·rfl
 ·cases l<;>exact bE (by kernel_rfl)
theorem xx(x:Int):eE o0 wU.W 120 wU.params wU.scope wU.body [.int x]=some (.bool (decide (x < 256))):=by kernel_rfl
theorem AW(x:Int):eE o0 D0.W 120 D0.params D0.scope D0.body [.int x]=some (.bool (decide (x ≥ 256))):=by kernel_rfl
theorem AR(x:Int):eE o0 EL.W 120 EL.params EL.scope EL.body [.int x]=some (.bool (x == 0)):=by kernel_rfl
end
end Mine
end
section
namespace Mine
noncomputable section
theorem x7{W:List Str}{sc:Sc}{x:Str}{v:PV}{σ:SE}{b:Bool}(h1:bh sc x=true)(h2:W.contains x=b)(h3:(!b ||gM v)=true):jc W sc [x] [v] σ=some (SE.put σ x (b,v)):=by
 subst h2;exact if_pos (by rw[h1,h3];rfl)
abbrev WS:=List Nat×Nat×Nat×Nat
noncomputable def eg(count:List Nat)(b:Nat):List Nat:=
 let c:=if count.length<=b then count++bd (b - count.length+1) 0 else count
 c.set b (c.getD b 0+1)
noncomputable def bt:List Nat->WS->WS
 | [],st=>st
 |ch::r,(count,b,n,nt)=>if ch=32 then bt r (count,b+1,n+1,nt) else if ch=9 then bt r (eg count b,0,n+1,nt+1) else(count,b,n,nt)
noncomputable def cU(l:List Nat):List PV:=l.map λ(c:Nat)=>.int (c:Int)
noncomputable def zx(s:Str):WS:=bt s.cps.toList ([],0,0,0)
noncomputable def e9(s:Str)(st:WS):List (Str×PV):=[("raw",.str s),("n",.int (st.2.2.1:Int)),("nt",.int (st.2.2.2:Int)),("norm",.tup [.tup (cU st.1),.int (st.2.1:Int)]),("is_simple",.bool (decide ((st.1.length:Int)<=1)))]
noncomputable def Fe(s:Str):PV:=.obj "Whitespace" (e9 s (zx s))
theorem qS(c d:Nat):((⟨#[c]⟩:Str) == ⟨#[d]⟩)=decide (c=d):=by
 by_cases h:c=d
 ·subst h;simp
 ·simp[h]
noncomputable def qD(s:Str)(st:WS)(ch:Option Str):SE:=
 [ow "self" (.obj "Whitespace" [("raw",.str s)]),nm "ws" (.str s),nm "S" (.str " "),nm "T" (.str "\t"),ow "count" (.lst (cU st.1)),nm "b" (.int (st.2.1:Int)),nm "n" (.int (st.2.2.1:Int)),nm "nt" (.int (st.2.2.2:Int))]++(match ch with|none=>[]|some c=>[nm "ch" (.str c)])
noncomputable def gU(c:Nat):Bool:=c == 32 ||c == 9
abbrev Ki:Sc:=Cy.init.scope.names.filter λq=>q.1 != ("self":Str)
theorem kY{c:Nat}{l:List Nat}(h:gU c=true):((c::l).takeWhile gU).length=(l.takeWhile gU).length+1:=by
 rw[List.takeWhile_cons,if_pos h];rfl
theorem Hv(s:Str){t:Expr}{body:List Stmt}{it:Expr}{p:Pos}(hs:(Cy.init.body[4]?:Option Stmt)=some (.For t it body [] p)):∀(chars:List Nat) (count:List Nat) (b n nt:Nat) (ch:Option Str) (N:Nat),(chars.takeWhile gU).length+40<=N->count.length+(chars.takeWhile gU).length<=1000->b+(chars.takeWhile gU).length<=80 ->
  ∃ch',exF o0 Cy.init.W N Ki (qD s (count,b,n,nt) ch) t (chars.map λc=>.str ⟨#[c]⟩) body=some (.next,qD s (bt chars (count,b,n,nt)) ch'):=by
 conv at hs=>lhs;whnf
 injection hs with hs
 injection hs with h1 h2 h3 h4 h5
 subst h1 h2 h3 h5;intro chars
 induction chars with
 |nil=>
  intro count b n nt ch N hN hc hb;refine xE (aE (aD (bW 1 _) hN)) ?_;rintro k rfl;exact⟨ch,oW⟩
 |cons c chars ih=>
  intro count b n nt ch N hN hc hb;refine xE (aE (aD (bW 40 _) hN)) ?_;rintro k rfl;have hbind:∀(t:Expr),t=t->True:=λJ J=>trivial;rw[ao];by_cases h32:c=32
  ·subst h32
   have e1:((32::chars).takeWhile gU).length=(chars.takeWhile gU).length+1:=kY rfl;rw[e1]at hN hc hb;refine xE (ih count (b+1) (n+1) nt (some ⟨#[32]⟩) (k+39) (by exact(pn [_,_] 0x0DA27191A281900DA28191A2819A180) hN) (by exact(pn [_,_] 0x0D03E829A100D03E829AA1810) hc) (by exact(pn [_,_] 0x0D5019A1A1800D5019AA1810) hb)) ?_;intro ch' e;refine⟨ch',(fD (aL:=qD s (count,b,n,nt) (some ⟨#[32]⟩)) (iL:=qD s (count,b+1,n+1,nt) (some ⟨#[32]⟩)) (by cases ch<;>kernel_rfl) (by kernel_rfl)).trans ?_⟩;rw[e,bt,if_pos rfl]
  ·by_cases h9:c=9
   ·subst h9
    have e1:((9::chars).takeWhile gU).length=(chars.takeWhile gU).length+1:=kY rfl;rw[e1]at hN hc hb;obtain⟨ch',e⟩:=ih (eg count b) 0 (n+1) (nt+1) (some ⟨#[9]⟩) (k+39) (by exact(pn [_,_] 0x0DA27191A281900DA28191A2819A180) hN) (by
     have:(eg count b).length<=max count.length (b+1):=by
      unfold eg;dsimp only;rw[List.length_set];split
      ·simp;exact(pn [_,_] 0x0D1CA1810AA18B0100D10) ‹_›
      ·exact(pn [_,_] 0x0D1CA181002F0D10) ‹_›
     exact(pn [_,_,_,_] 0x0D03E829A130D1CA182030D5019AA18120D03E829AA1810) hc hb this) (by exact(pn [_,_] 0x0D5019A1080D5019AA1810) hb)
    refine⟨ch',(fD (aL:=qD s (count,b,n,nt) (some ⟨#[9]⟩)) (iL:=qD s (eg count b,0,n+1,nt+1) (some ⟨#[9]⟩)) (by cases ch<;>kernel_rfl) ?_).trans ?_⟩
    ·refine(aq (aL:=qD s (eg count b,0,n+1,nt+1) (some ⟨#[9]⟩)) ?_).trans (by rfl)
     refine dh (c:=false) (by kernel_rfl) (λh=>nomatch h) λJ=>?_;refine(aq (aL:=qD s (eg count b,0,n+1,nt+1) (some ⟨#[9]⟩)) ?_).trans (by rfl);refine dh (c:=true) (by kernel_rfl) (λJ=>?_) (λh=>nomatch h);refine(aq (aL:=qD s (count,b,n+1,nt) (some ⟨#[9]⟩)) (by kernel_rfl)).trans ?_;refine(aq (aL:=qD s (count,b,n+1,nt+1) (some ⟨#[9]⟩)) (by rfl)).trans ?_;have hlen:(cU count).length=count.length:=by unfold cU;rw[aa]
     let cc:=if count.length<=b then count++bd (b - count.length+1) 0 else count
     have hcc:b < cc.length/\cc.length<=1048576:=by
      show b < (if count.length<=b then count++bd (b - count.length+1) 0 else count).length/\(if count.length<=b then count++bd (b - count.length+1) 0 else count).length<=_;split
      ·rw[aB,List.length_replicate];exact(pn [_,_,_] 0x0F0D10000039AA18B2021DAA18B20200D020D5019AA1810) hb ‹_›
      ·exact(pn [_,_,_] 0x0F0D1000003901D022F0D200D03E829AA1810) hc ‹_›
     refine(aq (aL:=qD s (cc,b,n+1,nt+1) (some ⟨#[9]⟩)) ?_).trans ?_
     ·refine dh (c:=decide ((b:Int) ≥ (count.length:Int))) ?_ (λh=>?_) (λh=>?_)
      ·refine bV (db (a:=.int b) (b:=.int (count.length:Int)) (by rfl) (by rfl) ?_ rfl)
       refine cw (v:=.lst (cU count)) (by rfl) (by rfl) ?_;show(if(cU count).length<=1048576 then some (PV.int ((cU count).length:Int)) else none)=_;rw[if_pos (by exact(pn [_,_,_] 0x0D1000003922D020D03E829AA1810) hc hlen),hlen]
      ·have h:count.length<=b:=by have:=of_decide_eq_true h;lia
       have e2:cc=count++bd (b - count.length+1) 0:=if_pos h;refine(aq (aL:=qD s (cc,b,n+1,nt+1) (some ⟨#[9]⟩)) ?_).trans (by rfl);refine(ba (u:=.lst (cU cc)) (by rfl) ?_).trans ?_
       ·refine aV (a:=.lst (cU count)) (b:=.lst (bd (b - count.length+1) (.int 0))) (by rfl) ?_ ?_
        ·refine aV (a:=.lst [.int 0]) (b:=.int ((b:Int) - (count.length:Int)+1)) (by rfl) ?_ ?_
         ·refine aV (a:=.int ((b:Int) - (count.length:Int))) (b:=.int 1) ?_ (by rfl) rfl
          show ev _ _ _ _ _=_;refine aV (a:=.int b) (b:=.int (count.length:Int)) (by rfl) ?_ rfl;refine cw (v:=.lst (cU count)) (by kernel_rfl) (by rfl) ?_;show(if(cU count).length<=1048576 then some (PV.int ((cU count).length:Int)) else none)=_;rw[if_pos (by exact(pn [_,_,_] 0x0D1000003922D020D03E829AA1810) hc hlen),hlen]
         ·show(if(([PV.int 0].length=1 && decide (0<=(b:Int) - (count.length:Int)+1) && decide ((b:Int) - (count.length:Int)+1<=1048576))=true) then some (PV.lst ((bd ((b:Int) - (count.length:Int)+1).toNat [PV.int 0]).flatten)) else none)=_
          rw[if_pos (by simp;lia)];rw[show((b:Int) - (count.length:Int)+1).toNat=b - count.length+1 from by lia];simp
        ·show(if((decide ((cU count).length<=1048576) && decide ((bd (b - count.length+1) (PV.int 0)).length<=1048576))=true) then some (PV.lst (cU count++bd (b - count.length+1) (.int 0))) else none)=_
         rw[if_pos (by simp[hlen];exact(pn [_,_,_] 0x0F0DA00FFFFF3920D1000003900D5019AA18120D03E829AA1810) hc hb),e2];unfold cU;rw[aT,List.map_replicate];rfl
       ·rw[x7 (b:=true) (by kernel_rfl) (by rfl) (by rfl)];rfl
      ·have h:¬count.length<=b:=by have:=of_decide_eq_false h;lia
       have e2:cc=count:=if_neg h;rw[e2];rfl
     ·have hl2:(cU cc).length=cc.length:=by unfold cU;rw[aa]
      have hget:(cU cc)[b]?=some (.int ((cc.getD b 0:Nat):Int)):=by
       unfold cU;rw[aS,ax hcc.1,aw,ax hcc.1];rfl
      have hplace:eF (b:Int) (cU cc).length=some b:=by
       unfold eF;rw[if_neg (pn [_] 0x2F1E082C0),if_pos (by rw[hl2];exact(pn [_,_] 0x1E2C12C00F0D1000003911D10) hcc)];rfl
      refine(aq (aL:=qD s (eg count b,b,n+1,nt+1) (some ⟨#[9]⟩)) ?_).trans ?_
      ·refine(eA (c:=.lst (cU cc)) (k:=.int b) (u:=.int ((cc.getD b 0+1:Nat):Int)) (c':=.lst (cU (eg count b))) (by rfl) (by rfl) ?_ (by rfl) ?_).trans (by rfl)
       ·refine aV (a:=.int ((cc.getD b 0:Nat):Int)) (b:=.int 1) ?_ (by rfl) rfl
        refine Eq.trans (b:=item (.lst (cU cc)) (.int b)) (by kernel_rfl) ?_;show(if(cU cc).length<=1048576 then(eF b (cU cc).length).bind ((cU cc)[·]?) else none)=_;rw[if_pos (by exact(pn [_,_,_] 0x0D1000003922D120F0D1000003911D10) hcc hl2),hplace];exact hget
       ·show(if 0<=(b:Int) then(yY (cU cc) b _).map PV.lst else none)=_
        unfold yY;rw[if_pos (by exact pn [_] 0x0E2C008),if_pos (by exact(pn [_,_,_] 0x0D1000003922D120F0D1000003911D10) hcc hl2),hplace];show some (PV.lst ((cU cc).set b _))=_;unfold cU eg;rw[<- List.map_set]
      ·exact(aq (aL:=qD s (eg count b,0,n+1,nt+1) (some ⟨#[9]⟩)) (by rfl)).trans (by rfl)
    ·rw[e,bt,if_neg (by decide),if_pos rfl]
   ·refine⟨some ⟨#[c]⟩,(G9 (aL:=qD s (count,b,n,nt) (some ⟨#[c]⟩)) (iL:=qD s (count,b,n,nt) (some ⟨#[c]⟩)) (by cases ch<;>kernel_rfl) ?_).trans ?_⟩
    ·refine vW ?_
     refine dh (c:=((⟨#[c]⟩:Str) == ⟨#[32]⟩)) (by rfl) (λh=>?_) λJ=>?_
     ·rw[qS]at h;exact absurd (of_decide_eq_true h) h32
     ·refine vW ?_
      refine dh (c:=((⟨#[c]⟩:Str) == ⟨#[9]⟩)) (by rfl) (λh=>?_) λJ=>?_
      ·rw[qS]at h;exact absurd (of_decide_eq_true h) h9
      ·exact vW (by rfl)
    ·rw[bt,if_neg h32,if_neg h9]
theorem pJ:∀(chars:List Nat) (st:WS),st.1.length+st.2.1+(chars.takeWhile gU).length<=200->(bt chars st).1.length<=400
 | [],(count,b,n,nt),h=>by dsimp only at h;unfold bt;dsimp only;exact(pn [_,_,_] 0x0D01902900DC819A2A10) h
 |c::chars,(count,b,n,nt),h=>by
  dsimp only at h;unfold bt;split
  ·subst_vars
   rw[kY rfl]at h;exact pJ chars _ (by dsimp only;exact(pn [_,_,_] 0x0DC819A2AA18100DC819AA182A10) h)
  ·split
   ·subst_vars
    rw[kY rfl]at h;refine pJ chars _ ?_
    have:(eg count b).length<=max count.length (b+1):=by
     unfold eg;dsimp only;rw[List.length_set];split
     ·simp;exact(pn [_,_] 0x0D1CA1810AA18B0100D10) ‹_›
     ·exact(pn [_,_] 0x0D1CA181002F0D10) ‹_›
    dsimp only;exact(pn [_,_,_,_] 0x0DC819A2A0830D1CA181030DC819AA182A10) h this
   ·dsimp only;exact(pn [_,_,_] 0x0D01902900DC819A2A10) h
theorem Jx{s:Str}(hs:s.length<=1000)(hb:(s.cps.toList.takeWhile gU).length<=60):
  lv o0 Cy.init.W 120 Cy.init.params Cy.init.scope Cy.init.body Cy.init.name [.str s]=some (Fe s):=by
 have hlen:(zx s).1.length<=400:=pJ _ _ (by dsimp only[ce];exact(pn [_] 0x0DC819A0A08080D3C190) hb);obtain⟨ch',hloop⟩:∃ch',exF o0 Cy.init.W 114 Ki (qD s ([],0,0,0) none) (match(Cy.init.body[4]?:Option Stmt) with|some (.For t it body [] p)=>t|_=>default) (s.cps.toList.map λc=>.str ⟨#[c]⟩) (match(Cy.init.body[4]?:Option Stmt) with|some (.For t it body [] p)=>body|_=>default)=some (.next,qD s (zx s) ch'):=
  Hv s (by rfl) _ _ _ _ _ _ _ (by exact(pn [_] 0x0D7219A281900D3C190) hb) (by dsimp only[ce];exact(pn [_] 0x0D03E829A0080D3C190) hb) (by exact(pn [_] 0x0D5019A0080D3C190) hb)
 generalize zx s=st at hlen hloop;have hl:(cU st.1).length=st.1.length:=by unfold cU;rw[aa]
 refine zi (c:="Whitespace") (self:="self") (ps:=["ws"]) (by kernel_rfl) ?_ ?_ (aL:=SE.put (qD s st ch') "self" (true,.obj "Whitespace" (e9 s st)))
 ·show exs _ _ _ _ _ (de 80)=_
  conv=>lhs;arg 6;whnf
  refine(aq (aL:=[ow "self" (.obj "Whitespace" [("raw",.str s)]),nm "ws" (.str s)]) (by rfl)).trans ?_;refine(aq (aL:=[ow "self" (.obj "Whitespace" [("raw",.str s)]),nm "ws" (.str s),nm "S" (.str " "),nm "T" (.str "\t")]) (by rfl)).trans ?_;refine(aq (aL:=[ow "self" (.obj "Whitespace" [("raw",.str s)]),nm "ws" (.str s),nm "S" (.str " "),nm "T" (.str "\t"),ow "count" (.lst [])]) (by rfl)).trans ?_;refine(aq (aL:=qD s ([],0,0,0) none) (by rfl)).trans ?_;refine(je (items:=s.cps.toList.map λc=>.str ⟨#[c]⟩) (aL:=qD s st ch') ?_ hloop).trans ?_
  ·refine Eq.trans (b:=if s.length<=1048576 then some (s.cps.toList.map λc=>.str ⟨#[c]⟩) else none) (by rfl) (if_pos (by exact(pn [_] 0x0D1000003900D03E8290) hs))
  refine(aq (aL:=SE.put (qD s st ch') "self" (true,.obj "Whitespace" ((e9 s st).take 2))) (by cases ch'<;>kernel_rfl)).trans ?_;refine(aq (aL:=SE.put (qD s st ch') "self" (true,.obj "Whitespace" ((e9 s st).take 3))) (by cases ch'<;>kernel_rfl)).trans ?_;refine(aq (aL:=SE.put (qD s st ch') "self" (true,.obj "Whitespace" ((e9 s st).take 4))) ?_).trans ?_
  ·refine(sf (c:="Whitespace") (fs:=(e9 s st).take 3) (u:=.tup [.tup (cU st.1),.int (st.2.1:Int)]) (by cases ch'<;>kernel_rfl) (by kernel_rfl) ?_).trans (by cases ch'<;>kernel_rfl)
   refine fG (ar ?_ (ar (by cases ch'<;>kernel_rfl) aR));refine cw (v:=.lst (cU st.1)) (by cases ch'<;>kernel_rfl) (by cases ch'<;>kernel_rfl) ?_;show(if(cU st.1).length<=1048576 then some (PV.tup (cU st.1)) else none)=_;rw[if_pos (by exact(pn [_,_] 0x0D1000003912D010D0190290) hlen hl)]
  refine(aq (aL:=SE.put (qD s st ch') "self" (true,.obj "Whitespace" (e9 s st))) ?_).trans (by rfl)
  ·refine(sf (c:="Whitespace") (fs:=(e9 s st).take 4) (u:=.bool (decide ((st.1.length:Int)<=1))) (by cases ch'<;>kernel_rfl) (by kernel_rfl) ?_).trans (by cases ch'<;>kernel_rfl)
   refine db (a:=.int (st.1.length:Int)) (b:=.int 1) ?_ (by rfl) (by rfl) rfl;refine cw (v:=.lst (cU st.1)) (by cases ch'<;>kernel_rfl) (by cases ch'<;>kernel_rfl) ?_;show(if(cU st.1).length<=1048576 then some (PV.int ((cU st.1).length:Int)) else none)=_;rw[if_pos (by exact(pn [_,_] 0x0D1000003912D010D0190290) hlen hl),hl]
 ·cases ch'<;>kernel_rfl
end
end Mine
end
section
namespace Mine
noncomputable section
noncomputable def lQ(s:Str)(st:WS):PV:=.obj "Whitespace" (e9 s st)
noncomputable def dY(st:WS):Nat:=max (st.1.length - 1) st.2.1
noncomputable def tJ(count:List Nat)(ts:Nat):Nat:=(aI (count.length - ts)).foldl (λil x=>il+(ts+x) / ts * count.getD (ts+x) 0) 0
noncomputable def e7(st:WS)(ts:Nat):Nat:=st.2.1+ts * (tJ st.1 ts+st.2.2.2)
theorem wn(l:List Nat):(cU l).length=l.length:=by unfold cU;rw[aa]
theorem EV{s:Str}{st:WS}(h:st.1.length<=400):eE o0 wT.fn.W 120 wT.fn.params wT.fn.scope wT.fn.body [lQ s st]=some (.int (dY st:Int)):=by
 have hl:=wn st.1;refine dT (σ:=[nm "self" (lQ s st)]) (by kernel_rfl) (by kernel_rfl) (aL:=[]) ?_;show exs _ _ _ (bg 87).names _ (de 87)=_
 conv=>lhs;arg 6;whnf
 refine(aq (aL:=[nm "self" (lQ s st),nm "count" (.tup (cU st.1)),nm "trailing" (.int (st.2.1:Int))]) (by kernel_rfl)).trans ?_;refine bE (oU (xJ (vs:=[.int ((st.1.length:Int) - 1),.int (st.2.1:Int)]) (by kernel_rfl) ?_ ?_))
 ·refine ar ?_ (ar (by rfl) aR)
  refine aV (a:=.int (st.1.length:Int)) (b:=.int 1) ?_ (by rfl) rfl;show ev _ _ _ _ _=_;refine cw (v:=.tup (cU st.1)) (by kernel_rfl) (by rfl) ?_;show(if(cU st.1).length<=1048576 then some (PV.int ((cU st.1).length:Int)) else none)=_;rw[if_pos (by exact(pn [_,_] 0x0D1000003912D010D0190290) h hl),hl]
 ·show some (PV.int (if(st.2.1:Int) > (st.1.length:Int) - 1 then(st.2.1:Int) else(st.1.length:Int) - 1))=_
  congr 2;unfold dY;split<;>lia
theorem xq(a b:Nat):Int.fdiv (a:Int) (b:Int)=((a / b:Nat):Int):=(Int.ofNat_fdiv a b).symm
theorem BE{s:Str}{st:WS}{ts:Nat}(h:st.1.length<=60)(h1:1<=ts)(h2:ts<=400):eE o0 sZ.fn.W 120 sZ.fn.params sZ.fn.scope sZ.fn.body [lQ s st,.int (ts:Int)]=some (.int (e7 st ts:Int)):=by
 have hl:=wn st.1;refine dT (σ:=[nm "self" (lQ s st),nm "tabsize" (.int (ts:Int))]) (by kernel_rfl) (by kernel_rfl) (aL:=[]) ?_;show exs _ _ _ (bg 94).names _ (de 94)=_
 conv=>lhs;arg 6;whnf
 let S:Nat×Option Nat->SE:=λa=>[nm "self" (lQ s st),nm "tabsize" (.int (ts:Int)),nm "count" (.tup (cU st.1)),nm "trailing" (.int (st.2.1:Int)),nm "il" (.int (a.1:Int))]++(match a.2 with|none=>[]|some i=>[nm "i" (.int ((ts:Int)+(i:Int)))])
 refine(aq (aL:=[nm "self" (lQ s st),nm "tabsize" (.int (ts:Int)),nm "count" (.tup (cU st.1)),nm "trailing" (.int (st.2.1:Int))]) (by kernel_rfl)).trans ?_;refine(aq (aL:=S (0,none)) (by kernel_rfl)).trans ?_;have hf:∃l:Option Nat,(aI (st.1.length - ts)).foldl (λ(a:Nat×Option Nat) x=>(a.1+(ts+x) / ts * st.1.getD (ts+x) 0,some x)) (0,none)=(tJ st.1 ts,l):=by
  unfold tJ;generalize aI (st.1.length - ts)=xs
  suffices hh:∀(xs:List Nat) (a:Nat×Option Nat),∃l:Option Nat,xs.foldl (λ(a:Nat×Option Nat) x=>(a.1+(ts+x) / ts * st.1.getD (ts+x) 0,some x)) a=(xs.foldl (λil x=>il+(ts+x) / ts * st.1.getD (ts+x) 0) a.1,l) from hh xs (0,none)
  intro xs
  induction xs with
  |nil=>exact λa=>⟨a.2,rfl⟩
  |cons x xs ih=>exact λa=>ih _
 refine xE hf ?_;clear hf;intro l hf;refine(je (items:=(aI (st.1.length - ts)).map λ(x:Nat)=>.int ((ts:Int)+(x:Int))) (aL:=S (tJ st.1 ts,l)) ?_ ?_).trans ?_
 ·refine(sk (i:=(ts:Int)) (j:=(st.1.length:Int)) (by rfl) (by rfl) ?_ ?_).trans ?_
  ·refine cw (v:=.tup (cU st.1)) (by rfl) (by rfl) ?_
   show(if(cU st.1).length<=1048576 then some (PV.int ((cU st.1).length:Int)) else none)=_;rw[if_pos (by exact(pn [_,_] 0x0D1000003912D010D3C190) h hl),hl]
  ·unfold fV;simp;exact(pn [_,_] 0x0F0E100000392C00E100000392C10D01902910D3C190) h h2
  ·unfold ie
   rw[show((st.1.length:Int) - (ts:Int)).toNat=st.1.length - ts from by exact pn [_,_] 0x2DB102CB2C12C0]
 ·rw[<- hf]
  refine mt S (λJ J=>True) (λ(a:Nat×Option Nat) x=>(a.1+(ts+x) / ts * st.1.getD (ts+x) 0,some x)) _ 30 _ (0,none) _ 0 ?_ trivial ?_
  ·rw[bZ];exact(pn [_,_] 0x0D7419A18AB101E190D1180D3C190) h h1
  intro i a x n hi _ hx;have hx:x < st.1.length - ts:=eW.mp hx;refine⟨trivial,S (a.1,some x),?_,?_⟩
  ·obtain⟨a,l⟩:=a
   cases l<;>kernel_rfl
  ·refine(aq (aL:=S (a.1+(ts+x) / ts * st.1.getD (ts+x) 0,some x)) ?_).trans (by rfl)
   refine(ba (u:=.int ((a.1+(ts+x) / ts * st.1.getD (ts+x) 0:Nat):Int)) (by rfl) ?_).trans (by rw[x7 (b:=false) (by rfl) (by rfl) (by rfl)];rfl);refine aV (a:=.int (a.1:Int)) (b:=.int (((ts+x) / ts * st.1.getD (ts+x) 0:Nat):Int)) (by rfl) ?_ rfl;refine aV (a:=.int (((ts+x) / ts:Nat):Int)) (b:=.int ((st.1.getD (ts+x) 0:Nat):Int)) ?_ ?_ ?_
   ·show ev _ _ _ _ _=_
    refine aV (a:=.int ((ts:Int)+(x:Int))) (b:=.int (ts:Int)) (by rfl) (by rfl) ?_;show(if(small (ts:Int) && (ts:Int) != 0)=true then some (PV.int (Int.fdiv ((ts:Int)+(x:Int)) (ts:Int))) else none)=_;rw[if_pos (by unfold small;simp;exact(pn [_,_,_] 0x0F2F2D0811D0100000000000000009911DB1020D1180D3C190) h h1 hx),show(ts:Int)+(x:Int)=((ts+x:Nat):Int) from by exact pn [_,_] 0x2E2CA10A2C12C0,xq]
   ·refine Eq.trans (b:=item (.tup (cU st.1)) (.int ((ts:Int)+(x:Int)))) (by kernel_rfl) ?_
    show(if(cU st.1).length<=1048576 then(eF _ (cU st.1).length).bind ((cU st.1)[·]?) else none)=_;rw[if_pos (by exact(pn [_,_] 0x0D1000003912D010D3C190) h hl)];have hp:eF ((ts:Int)+(x:Int)) (cU st.1).length=some (ts+x):=by
     unfold eF;rw[if_neg (by exact(pn [_,_] 0x2F1E08A2C12C00D018) h1),if_pos (by rw[hl];exact(pn [_,_,_] 0x1E2C1A2C02C21DB210) hx)];rfl
    rw[hp];show(cU st.1)[ts+x]?=_;unfold cU;rw[aS,ax (by exact(pn [_,_,_] 0x1D1A021DB210) hx),aw,ax (by exact(pn [_,_,_] 0x1D1A021DB210) hx)];rfl
   ·show(if(small (((ts+x) / ts:Nat):Int) ||small _)=true then some (PV.int ((((ts+x) / ts:Nat):Int) * ((st.1.getD (ts+x) 0:Nat):Int))) else none)=_
    have hd:(ts+x) / ts<=ts+x:=Nat.div_le_self _ _;have hd:small (((ts+x) / ts:Nat):Int)=true:=decide_eq_true (by rw[Int.natAbs_natCast];exact(pn [_,_,_,_] 0x1D0100000000000000009930DA1231DB2010D3C190) h hx hd);rw[if_pos (by rw[hd];rfl)];rfl
 ·have e:jW .Mult (.int (ts:Int)) (.int ((tJ st.1 ts:Int)+(st.2.2.2:Int)))=some (.int ((ts * (tJ st.1 ts+st.2.2.2):Nat):Int)):=by
   show(if(small (ts:Int) ||small _)=true then some (PV.int ((ts:Int) * ((tJ st.1 ts:Int)+(st.2.2.2:Int)))) else none)=_;rw[if_pos (by unfold small;simp;exact(pn [_,_] 0x1F1D0100000000000000009911D0100000000000000009900D0190290) h2)];rfl
  refine bE (oU (u:=.int (e7 st ts:Int)) ?_);refine aV (a:=.int (st.2.1:Int)) (b:=.int ((ts * (tJ st.1 ts+st.2.2.2):Nat):Int)) (by cases l<;>kernel_rfl) ?_ rfl;exact aV (a:=.int (ts:Int)) (b:=.int ((tJ st.1 ts:Int)+(st.2.2.2:Int))) (by cases l<;>kernel_rfl) (by cases l<;>kernel_rfl) e
noncomputable def eQ(st:WS):Bool:=decide ((st.1.length:Int)<=1)
noncomputable def g8(a b:WS):Bool:=if b.2.2.1<=a.2.2.1 then false else if eQ a && eQ b then decide (a.2.2.2<=b.2.2.2) else(aI (max (dY a) (dY b))).all λi=>decide (e7 a (2+i) < e7 b (2+i))
theorem w6(s:Str)(st:WS)(h:st.1.length<=400):o1.mth "Whitespace" "longest_run_of_spaces" [lQ s st]=some (.int (dY st:Int)):=(EV (s:=s) h)
theorem mR(s:Str)(st:WS)(ts:Nat)(h:st.1.length<=60)(h1:1<=ts)(h2:ts<=400):o1.mth "Whitespace" "indent_level" [lQ s st,.int (ts:Int)]=some (.int (e7 st ts:Int)):=BE (s:=s) h h1 h2
theorem x6{s s':Str}{a b:WS}(ha:a.1.length<=20)(hb:b.1.length<=20)(ha':a.2.1<=20)(hb':b.2.1<=20):eE o1 w8.fn.W 100 w8.fn.params w8.fn.scope w8.fn.body [lQ s a,lQ s' b]=some (.bool (g8 a b)):=by
 refine dT (σ:=[nm "self" (lQ s a),nm "other" (lQ s' b)]) (by kernel_rfl) (by kernel_rfl) (aL:=[]) ?_;show exs _ _ _ (bg 115).names _ (de 115)=_
 conv=>lhs;arg 6;whnf
 have c1:∀n:Nat,True:=λJ=>trivial;by_cases h1:b.2.2.1<=a.2.2.1
 ·refine bE ?_
  refine dh (c:=decide ((a.2.2.1:Int) ≥ (b.2.2.1:Int))) (by kernel_rfl) (λJ=>?_) (λh=>absurd (of_decide_eq_false h) (by exact(pn [_,_] 0x2F2F0E2C12C00D10) h1));unfold g8;rw[if_pos h1];exact bE (by rfl)
 refine(aq (aL:=[nm "self" (lQ s a),nm "other" (lQ s' b)]) ?_).trans ?_
 ·exact dh (c:=decide ((a.2.2.1:Int) ≥ (b.2.2.1:Int))) (by kernel_rfl) (λh=>absurd (of_decide_eq_true h) (by exact(pn [_,_] 0x2F0E2C12C02F0D10) h1)) (λh=>by rfl)
 by_cases h2:(eQ a && eQ b)=true
 ·refine bE ?_
  refine dh (c:=eQ a && eQ b) ?_ (λJ=>?_) (λh=>absurd (h.symm.trans h2) (by decide))
  ·exact oN (fU (b:=eQ a) (by kernel_rfl) λJ=>bN (b:=eQ b) (by kernel_rfl))
  ·unfold g8;rw[if_neg h1,if_pos h2]
   refine bE (oU (db (a:=.int (a.2.2.2:Int)) (b:=.int (b.2.2.2:Int)) (by rfl) (by rfl) (by rfl) ?_));show some (decide ((a.2.2.2:Int)<=(b.2.2.2:Int)))=_;congr 1;exact decide_eq_decide.mpr (by exact⟨pn [_,_] 0x0D100E2C12C0,pn [_,_] 0x0E2C12C00D10⟩)
 refine(aq (aL:=[nm "self" (lQ s a),nm "other" (lQ s' b)]) ?_).trans ?_
 ·refine dh (c:=eQ a && eQ b) ?_ (λh=>absurd h h2) (λh=>by rfl)
  exact oN (fU (b:=eQ a) (by rfl) λJ=>bN (b:=eQ b) (by rfl))
 let S:Option Nat->SE:=λl=>[nm "self" (lQ s a),nm "other" (lQ s' b),nm "n" (.int (max (dY a) (dY b)+1:Nat))]++(match l with|none=>[]|some i=>[nm "ts" (.int ((2:Int)+(i:Int)))])
 refine(aq (aL:=S none) ?_).trans ?_
 ·refine(ba (u:=.int (max (dY a) (dY b)+1:Nat)) (by rfl) ?_).trans (by rfl)
  refine aV (a:=.int (max (dY a) (dY b):Nat)) (b:=.int 1) ?_ (by rfl) rfl;show ev _ _ _ _ _=_;refine xJ (vs:=[.int (dY a),.int (dY b)]) (by rfl) ?_ ?_
  ·refine ar ?_ (ar ?_ aR)
   ·exact j7 (by rfl) (by rfl) aR (by rfl) (w6 s a (by exact(pn [_] 0x0D01902900D14190) ha))
   ·exact j7 (by rfl) (by rfl) aR (by rfl) (w6 s' b (by exact(pn [_] 0x0D01902900D14190) hb))
  ·show some (PV.int (if(dY b:Int) > (dY a:Int) then(dY b:Int) else(dY a:Int)))=_
   congr 2;split<;>lia
 have hr:max (dY a) (dY b)<=20:=by unfold dY;exact(pn [_,_,_,_] 0x0D14191C1C3B1811C2B1800D141930D141920D141910D14190) ha hb ha' hb'
 unfold g8;rw[if_neg h1,if_neg h2];refine(GS (v:=.bool false) S (λi=>decide (e7 a (2+i) < e7 b (2+i))) (λ(x:Nat)=>.int ((2:Int)+(x:Int))) 30 (aI (max (dY a) (dY b))) rfl ?_ ?_ ?_).trans ?_
 ·refine(sk (i:=2) (j:=((max (dY a) (dY b)+1:Nat):Int)+1) (by kernel_rfl) (by rfl) (by rfl) ?_).trans ?_
  ·unfold fV;simp;exact(pn [_,_] 0x0F0E10000039A18A182C1C100EA18A182C1C103C100000390D14191C10) hr
  ·unfold ie
   rw[show(((max (dY a) (dY b)+1:Nat):Int)+1 - 2).toNat=max (dY a) (dY b) from by exact pn [_,_] 0x2D1C102CB28A182CA181C10]
 ·rw[bZ];exact(pn [_,_] 0x0D5F19A18A1C101E190D14191C10) hr
 ·intro l x n hx
  have hx:x < max (dY a) (dY b):=eW.mp hx;refine⟨S (some x),by cases l<;>kernel_rfl,?_⟩;by_cases hp:e7 a (2+x) < e7 b (2+x)
  ·rw[if_pos (decide_eq_true hp)]
   refine(aq (aL:=S (some x)) ?_).trans (by rfl);refine dh (c:=decide ((e7 a (2+x):Int) ≥ (e7 b (2+x):Int))) ?_ (λh=>absurd (of_decide_eq_true h) (by exact(pn [_,_] 0x2F0E2C02C11D10) hp)) λJ=>(by rfl);refine bV (db (a:=.int (e7 a (2+x):Int)) (b:=.int (e7 b (2+x):Int)) ?_ (by rfl) ?_ rfl)
   ·exact j7 (by rfl) (by rfl) (ar (by rfl) aR) (by rfl) (mR s a (2+x) (by exact(pn [_] 0x0D3C1900D14190) ha) (by exact pn [_] 0x0DA02818) (by exact(pn [_,_,_] 0x0D019029A2281D1C1020D14191C10) hr hx))
   ·exact j7 (by rfl) (by rfl) (ar (by rfl) aR) (by rfl) (mR s' b (2+x) (by exact(pn [_] 0x0D3C1900D14190) hb) (by exact pn [_] 0x0DA02818) (by exact(pn [_,_,_] 0x0D019029A2281D1C1020D14191C10) hr hx))
  ·rw[if_neg (by simpa using hp)]
   refine bE ?_;refine dh (c:=decide ((e7 a (2+x):Int) ≥ (e7 b (2+x):Int))) ?_ (λJ=>bE (by rfl)) (λh=>absurd (of_decide_eq_false h) (by exact(pn [_,_] 0x2F2F0E2C02C12F1D10) hp));refine bV (db (a:=.int (e7 a (2+x):Int)) (b:=.int (e7 b (2+x):Int)) ?_ (by rfl) ?_ rfl)
   ·exact j7 (by rfl) (by rfl) (ar (by rfl) aR) (by rfl) (mR s a (2+x) (by exact(pn [_] 0x0D3C1900D14190) ha) (by exact pn [_] 0x0DA02818) (by exact(pn [_,_,_] 0x0D019029A2281D1C1020D14191C10) hr hx))
   ·exact j7 (by rfl) (by rfl) (ar (by rfl) aR) (by rfl) (mR s' b (2+x) (by exact(pn [_] 0x0D3C1900D14190) hb) (by exact pn [_] 0x0DA02818) (by exact(pn [_,_,_] 0x0D019029A2281D1C1020D14191C10) hr hx))
 by_cases hp:((aI (max (dY a) (dY b))).all λi=>decide (e7 a (2+i) < e7 b (2+i)))=true
 ·rw[if_pos hp,hp]
  generalize(aI (max (dY a) (dY b))).foldl (λJ x=>some x) none=l
  cases l<;>exact bE (by kernel_rfl)
 ·rw[if_neg hp,Bool.not_eq_true _ |>.mp hp]
end
end Mine
end
section
namespace Mine
noncomputable section
noncomputable def lL(d0 d1:Int):PV:=.obj "TupleComp" [("comp_select_list",.lst [.tup [.int 0,.int d0],.tup [.int 1,.int d1]])]
noncomputable def j3(d0 d1 a b c d:Int):Int:=if a < c then -d0 else if a > c then d0 else if b < d then -d1 else if b > d then d1 else 0
theorem Je(d0 d1:Int):lv o0 JV.init.W 120 JV.init.params JV.init.scope JV.init.body JV.init.name [.lst [.tup [.int 0,.int d0],.tup [.int 1,.int d1]]]=some (lL d0 d1):=by kernel_rfl
noncomputable def Bz(C L R:PV)(l:Option (Int×Int×Int×Int)):SE:=[nm "self" C,nm "left" L,nm "right" R]++(match l with|none=>[]|some (i,d,x,y)=>[nm "index" (.int i),nm "direction" (.int d),nm "l" (.int x),nm "r" (.int y)])
theorem Az(d0 d1:Int){a b c d:Int}{L R:PV}(hl0:item L (.int 0)=some (.int a))(hl1:item L (.int 1)=some (.int b))(hr0:item R (.int 0)=some (.int c))(hr1:item R (.int 1)=some (.int d)):
  eE o0 uj.fn.W 120 uj.fn.params uj.fn.scope uj.fn.body [lL d0 d1,L,R]=some (.int (j3 d0 d1 a b c d)):=by
 refine dT (σ:=Bz (lL d0 d1) L R none) (by kernel_rfl) (by kernel_rfl) (aL:=[]) ?_;show exs _ _ _ (bg 42).names _ (de 42)=_
 conv=>lhs;arg 6;whnf
 generalize hC:lL d0 d1=C
 let X:Fl×SE->Int->Int->Int->Fl×SE:=λq e x y=>if x < y then(.ret (.int (-e)),[]) else if x > y then(.ret (.int e),[]) else q
 have step:∀{n:Nat}{body:List Stmt}{p:Pos}{t it:Expr},((de 42)[0]?:Option Stmt)=some (.For t it body [] p)->∀(l:Option (Int×Int×Int×Int)) (i e x y:Int),item L (.int i)=some (.int x)->item R (.int i)=some (.int y) ->
   ∃aL,bindT (bg 42).names t (.tup [.int i,.int e]) (Bz C L R l)=some aL/\exs o0 uj.fn.W (n+30) (bg 42).names aL body=some (X (.next,Bz C L R (some (i,e,x,y))) e x y):=by
  intro n body p t it hs l i e x y hx hy;conv at hs=>lhs;whnf
  injection hs with hs
  injection hs with h1 h2 h3 h4 h5
  subst h1 h3;refine⟨Bz C L R none++(match l with|none=>[nm "index" (.int i),nm "direction" (.int e)]|some (_,_,u,v)=>[nm "index" (.int i),nm "direction" (.int e),nm "l" (.int u),nm "r" (.int v)]),by cases l<;>kernel_rfl,?_⟩;refine(aq (aL:=Bz C L R none++(match l with|none=>[nm "index" (.int i),nm "direction" (.int e),nm "l" (.int x)]|some (_,_,u,v)=>[nm "index" (.int i),nm "direction" (.int e),nm "l" (.int x),nm "r" (.int v)])) ?_).trans ?_
  ·refine(ba (u:=.int x) (by rfl) ?_).trans (by cases l<;>kernel_rfl)
   exact bp (b:=L) (k:=.int i) (by rfl) (by rfl) (by cases l<;>kernel_rfl) hx
  refine(aq (aL:=Bz C L R (some (i,e,x,y))) ?_).trans ?_
  ·refine(ba (u:=.int y) (by rfl) ?_).trans (by cases l<;>kernel_rfl)
   exact bp (b:=R) (k:=.int i) (by rfl) (by rfl) (by cases l<;>kernel_rfl) hy
  by_cases h1:x < y
  ·rw[show X (.next,Bz C L R (some (i,e,x,y))) e x y=(.ret (.int (-e)),[]) from if_pos h1]
   refine bE (dh (c:=true) ?_ (λJ=>bE (by rfl)) (λh=>nomatch h));refine Eq.trans (b:=some (decide (x < y))) (by rfl) (by rw[decide_eq_true h1])
  refine(aq (aL:=Bz C L R (some (i,e,x,y))) (dh (c:=false) (Eq.trans (b:=some (decide (x < y))) (by rfl) (by rw[decide_eq_false h1])) (λh=>nomatch h) (λJ=>by rfl))).trans ?_;by_cases h2:x > y
  ·rw[show X (.next,Bz C L R (some (i,e,x,y))) e x y=(.ret (.int e),[]) from(if_neg h1).trans (if_pos h2)]
   refine bE (dh (c:=true) ?_ (λJ=>bE (by rfl)) (λh=>nomatch h));refine Eq.trans (b:=some (decide (x > y))) (by rfl) (by rw[decide_eq_true h2])
  rw[show X (.next,Bz C L R (some (i,e,x,y))) e x y=(.next,Bz C L R (some (i,e,x,y))) from(if_neg h1).trans (if_neg h2)];refine(aq (aL:=Bz C L R (some (i,e,x,y))) (dh (c:=false) (Eq.trans (b:=some (decide (x > y))) (by rfl) (by rw[decide_eq_false h2])) (λh=>nomatch h) (λJ=>by rfl))).trans (by rfl)
 obtain⟨MA,b1,e1⟩:=step (n:=87) (by rfl) none 0 d0 a c hl0 hr0;obtain⟨σ2,b2,e2⟩:=step (n:=86) (by rfl) (some (0,d0,a,c)) 1 d1 b d hl1 hr1;unfold j3;by_cases h1:a < c
 ·rw[if_pos h1]
  exact bE ((ln (items:=[.tup [.int 0,.int d0],.tup [.int 1,.int d1]]) (by subst hC;kernel_rfl)).trans (o7 b1 (e1.trans (congrArg some (if_pos h1)))))
 rw[if_neg h1];by_cases h2:a > c
 ·rw[if_pos h2]
  exact bE ((ln (items:=[.tup [.int 0,.int d0],.tup [.int 1,.int d1]]) (by subst hC;kernel_rfl)).trans (o7 b1 (e1.trans (congrArg some ((if_neg h1).trans (if_pos h2))))))
 rw[if_neg h2];have g1:=e1.trans (congrArg some ((if_neg h1).trans (if_neg h2)));by_cases h3:b < d
 ·rw[if_pos h3]
  exact bE ((ln (items:=[.tup [.int 0,.int d0],.tup [.int 1,.int d1]]) (by subst hC;kernel_rfl)).trans ((fD b1 g1).trans (o7 b2 (e2.trans (congrArg some (if_pos h3))))))
 rw[if_neg h3];by_cases h4:b > d
 ·rw[if_pos h4]
  exact bE ((ln (items:=[.tup [.int 0,.int d0],.tup [.int 1,.int d1]]) (by subst hC;kernel_rfl)).trans ((fD b1 g1).trans (o7 b2 (e2.trans (congrArg some ((if_neg h3).trans (if_pos h4)))))))
 rw[if_neg h4];have g2:=e2.trans (congrArg some ((if_neg h3).trans (if_neg h4)));refine(aq (aL:=Bz C L R (some (1,d1,b,d))) ((ln (items:=[.tup [.int 0,.int d0],.tup [.int 1,.int d1]]) (by subst hC;kernel_rfl)).trans ((fD b1 g1).trans ((fD b2 g2).trans (by rfl))))).trans (bE (by rfl))
end
end Mine
end
section
namespace Mine
noncomputable section
noncomputable def sl(cs:List Nat):Str:=⟨cs.toArray⟩
theorem dZ(cs:List Nat):(sl cs).length=cs.length:=by unfold sl;exact aF ..
noncomputable def tk(cs:List Nat):Option Int:=lI.lookup (sl cs)
noncomputable def ck(r:List Nat):List Nat×Int:=match tk (r.take 3) with
 |some v=>(r.take 3,v)
 |none=>match tk (r.take 2) with
  |some v=>(r.take 2,v)
  |none=>match tk (r.take 1) with
   |some v=>(r.take 1,v)
   |none=>(r.take 1,if r.take 1=[32] then 0 else 159+((r.headD 0:Nat):Int))
noncomputable def BN:Nat->List Nat->Prop
 |0,_=>True
 |n+1,r=>r≠[]/\BN n (r.drop (ck r).1.length)
noncomputable def iZ:Nat->List Nat->List Int
 |0,_=>[]
 |n+1,r=>(ck r).2::iZ n (r.drop (ck r).1.length)
theorem IX(l:List Nat)(p k:Nat):qK l (some (p:Int)) (some ((p:Int)+(k:Int)))=(l.drop p).take k:=by
 unfold qK cT;simp only[pp,eU];rw[if_neg (pn [_] 0x2F1E082C0),if_neg (pn [_,_] 0x2F1E08A2C12C0),show((p:Int)+(k:Int)).toNat=p+k from by exact pn [_,_] 0x2DA102CA2C12C0,show((p:Int)).toNat=p from by exact pn [_] 0x2D02C2C0];by_cases h:p<=l.length
 ·rw[iu h,List.drop_take]
  by_cases h2:p+k<=l.length
  ·rw[iu h2];congr 1;exact pn [_,_] 0x2D1B0A10
  ·rw[nI (by exact(pn [_,_,_] 0x0DA1022F0D2A10) h2),dM (by rw[eV];exact pn [_,_] 0x0DB10B10),dM (by rw[eV];exact(pn [_,_,_] 0x0D2B012F0D1A200D10) h h2)]
 ·rw[List.drop_eq_nil_of_le (by rw[bK];exact(pn [_,_,_] 0x0D0C100C10C1A202F0D10) h),List.drop_eq_nil_of_le (as:=l) (by exact(pn [_,_] 0x0D012F0D10) h),List.take_nil]
abbrev ST:=Nat×List Int×Option (PV×PV×PV)
noncomputable def I4(s:Str)(a:ST):SE:=[nm "line" (.str s),nm "start" (.int (a.1:Int)),ow "row" (aU a.2.1)]++(match a.2.2 with|none=>[]|some (t,h,p)=>[nm "turn" t,nm "heads" h,nm "piece" p])
noncomputable def qH(r:List Nat):List (List Nat):=[r.take 3,r.take 2,r.take 1]
noncomputable def cr(l:List (List Nat)):List PV:=l.map λc=>.str (sl c)
noncomputable def j4(l:List Nat)(a:ST)(t:Nat):ST:=
 let r:=ck (l.drop a.1)
 (a.1+r.1.length,a.2.1++[r.2],some (.int (t:Int),.lst (cr (qH (l.drop a.1))),.str (sl r.1)))
theorem Hu(r:List Nat):((qH r).filter (λh=>(tk h).isSome)++[r.take 1]).head?=some (ck r).1:=by
 unfold qH ck
 cases h3:tk (r.take 3) with
 |some v=>simp[h3]
 |none=>cases h2:tk (r.take 2) with
  |some v=>simp[h3,h2]
  |none=>cases h1:tk (r.take 1) with
   |some v=>simp[h3,h2,h1]
   |none=>simp[h3,h2,h1]
theorem Jl(r:List Nat):(ck r).1.length<=r.length:=by
 unfold ck;split
 ·simp;exact pn [_] 0x0D00C038
 ·split
  ·simp;exact pn [_] 0x0D00C028
  ·split<;>(simp;exact pn [_] 0x0D00C018)
theorem CD(r:List Nat)(h:r≠[]):(∃v,tk (ck r).1=some v/\(ck r).2=v)\/(tk (ck r).1=none/\∃c:Nat,(ck r).1=[c]/\(ck r).2=if c=32 then 0 else 159+(c:Int)):=by
 unfold ck
 cases h3:tk (r.take 3) with
 |some v=>exact .inl ⟨v,h3,rfl⟩
 |none=>cases h2:tk (r.take 2) with
  |some v=>exact .inl ⟨v,h2,rfl⟩
  |none=>cases h1:tk (r.take 1) with
   |some v=>exact .inl ⟨v,h1,rfl⟩
   |none=>cases r with
    |nil=>exact absurd rfl h
    |cons c r=>exact .inr ⟨h1,c,rfl,by simp⟩
theorem KE{hs:List (List Nat)}{p:List Nat}(h:hs.head?=some p)(hl:hs.length<=1000):item (.lst (cr hs)) (.int 0)=some (.str (sl p)):=by
 cases hs with
 |nil=>cases h
 |cons a hs=>
  cases h
  show(if(cr (p::hs)).length<=1048576 then(eF 0 (cr (p::hs)).length).bind ((cr (p::hs))[·]?) else none)=_;unfold cr;rw[if_pos (by rw[aa];exact(pn [_] 0x0D1000003900D03E8290) hl)];unfold eF;rw[if_neg (pn [] 0x2F1E0808),if_pos (by simp)];rfl
theorem DT{s:Str}{p:Nat}(hs:s.length<=1000)(hp:p<=s.length)(ok:BN 4 (s.cps.toList.drop p)):eE o0 w5.W 120 w5.params w5.scope w5.body [.str s,.int (p:Int)]=some (aU (iZ 4 (s.cps.toList.drop p))):=by
 have hsl:s.length=s.cps.toList.length:=bG.symm;refine dT (σ:=[nm "line" (.str s),nm "start" (.int (p:Int))]) (by kernel_rfl) (by kernel_rfl) (aL:=[]) ?_;show exs _ _ _ (bg 163).names _ (de 163)=_
 conv=>lhs;arg 6;whnf
 refine(aq (aL:=I4 s (p,[],none)) (by rfl)).trans ?_;refine(o6 (I4 s) (λi a=>a.1<=s.length/\a.2.1.length<=i/\BN (4 - i) (s.cps.toList.drop a.1)) (j4 s.cps.toList) (λ(x:Nat)=>.int ((0:Int)+(x:Int))) 40 (aI 4) (p,[],none) rfl (by rfl) (by decide) ⟨hp,aK _,ok⟩ ?_).trans ?_
 ·intro i a x n hi hP hx
  obtain⟨pos,row,l⟩:=a;refine iQ hP ?_;clear hP;intro h1 h2 h3;dsimp only at h1 h2 h3;have hi:i < 4:=by simpa using hi
  rw[show 4 - i=(3 - i)+1 from by exact(pn [_] 0x2DA18B038B0481D480) hi]at h3;have hne:=h3.1;have hr:=Hu (s.cps.toList.drop pos);have hlen:=Jl (s.cps.toList.drop pos);have hok:=h3.2;rw[List.drop_drop]at hok;have hrl:(s.cps.toList.drop pos).length=s.length - pos:=by rw[eV,hsl]
  generalize hrd:s.cps.toList.drop pos=r at hne hr hlen hrl;rw[hrd]at hok;have hst:j4 s.cps.toList (pos,row,l) x=(pos+(ck r).1.length,row++[(ck r).2],some (.int (x:Int),.lst (cr (qH r)),.str (sl (ck r).1))):=by unfold j4;dsimp only;rw[hrd]
  rw[hst];refine⟨⟨by dsimp only;exact(pn [_,_,_,_] 0x0D1A202DB0130D320D10) h1 hlen hrl,by dsimp only;rw[aB];simp;exact(pn [_,_] 0x0D100D10) h2,?_⟩,?_⟩
  ·dsimp only;rw[show 4 - (i+1)=3 - i from by exact pn [_] 0x2DB038BA18048];exact hok
  let turn:PV:=.int ((0:Int)+(x:Int))
  let MB:SE:=[nm "line" (.str s),nm "start" (.int (pos:Int)),ow "row" (aU row)]++(match l with|none=>[nm "turn" turn]|some (t,h,p)=>[nm "turn" turn,nm "heads" h,nm "piece" p])
  refine⟨MB,by cases l<;>kernel_rfl,?_⟩
  let MC:SE:=[nm "line" (.str s),nm "start" (.int (pos:Int)),ow "row" (aU row),nm "turn" turn,nm "heads" (.lst (cr (qH r)))]++(match l with|none=>[]|some (t,h,p)=>[nm "piece" p])
  refine(aq (aL:=MC) ?_).trans ?_
  ·refine(ba (u:=.lst (cr (qH r))) (by rfl) ?_).trans (by rcases l with _|⟨t,h,p⟩<;>kernel_rfl)
   refine fj (λ(k:Nat)=>.str (sl (r.take k))) (λ(k:Nat)=>.int (k:Int)) 20 [3,2,1] (by rfl) (by rfl) (by rcases l with _|⟨t,h,p⟩<;>kernel_rfl) ?_ (by decide) ?_
   ·simp only[am,ce];exact pn [_] 0x0DA25190A18AA18A18A18081419
   ·intro k m hk
    refine⟨[nm "line" (.str s),nm "start" (.int (pos:Int)),nm "size" (.int (k:Int))],by rcases l with _|⟨t,h,p⟩<;>kernel_rfl,by kernel_rfl,?_⟩;refine iD (b:=.str s) (l:=some (pos:Int)) (h:=some ((pos:Int)+(k:Int))) (by rfl) (by rfl) (by rfl) ?_;show(if s.length<=1048576 then some (PV.str ⟨(qK s.cps.toList (some (pos:Int)) (some ((pos:Int)+(k:Int)))).toArray⟩) else none)=_;rw[if_pos (by exact(pn [_] 0x0D1000003900D03E8290) hs),IX,hrd];rfl
  let MD:SE:=I4 s (pos,row,some (turn,.lst (cr (qH r)),.str (sl (ck r).1)))
  refine(aq (aL:=MD) ?_).trans ?_
  ·refine(ba (u:=.str (sl (ck r).1)) (by rfl) ?_).trans (by rcases l with _|⟨t,h,p⟩<;>kernel_rfl)
   refine bp (b:=.lst (cr ((qH r).filter (λh=>(tk h).isSome)++[r.take 1]))) (k:=.int 0) (by rfl) ?_ (by rfl) ?_
   ·show ev _ _ _ _ _=_
    refine aV (a:=.lst (cr ((qH r).filter λh=>(tk h).isSome))) (b:=.lst (cr [r.take 1])) ?_ (by rcases l with _|⟨t,h,p⟩<;>kernel_rfl) ?_
    ·show ev _ _ _ _ _=_
     refine(cJ (items:=(qH r).map λh=>.str (sl h)) (rs:=((qH r).filter λh=>(tk h).isSome).map λh=>(.none,.str (sl h))) (by rfl) (by rcases l with _|⟨t,h,p⟩<;>kernel_rfl) ?_ ?_).trans ?_
     ·refine cN (λh=>(tk h).isSome) (λh=>.str (sl h)) (λh=>.str (sl h)) 20 (by rcases l with _|⟨t,h,p⟩<;>kernel_rfl) (qH r) _ ?_ ?_
      ·show 20+3+1<=_
       exact id (pn [_] 0x0DA20190A18A381419)
      ·intro h m hh
       refine⟨[nm "head" (.str (sl h))],by rcases l with _|⟨t,h,p⟩<;>kernel_rfl,?_,λJ=>by kernel_rfl⟩;have e:(((lI.lookup (sl h)).isSome == (CmpOp.In == CmpOp.In)):Bool)=(tk h).isSome:=by unfold tk;cases(lI.lookup (sl h)).isSome<;>rfl
       rw[<- e];exact bN (bV (xo (by rfl) (by rfl) (by rfl)))
     ·have:=aJ (λh=>(tk h).isSome) (qH r)
      rw[aa];have e:(qH r).length=3:=rfl;exact(pn [_,_] 0x0D1000003902D3810D10) this e
     ·rw[aj];rfl
    ·show(if(decide ((cr ((qH r).filter λh=>(tk h).isSome)).length<=1048576) && decide ((cr [r.take 1]).length<=1048576))=true then some (PV.lst (cr ((qH r).filter λh=>(tk h).isSome)++cr [r.take 1])) else none)=_
     have:=aJ (λh=>(tk h).isSome) (qH r)
     have e:(qH r).length=3:=rfl;rw[if_pos (by unfold cr;simp;exact(pn [_,_] 0x0D1000003902D3810D10) this e)];unfold cr;rw[aT]
   ·have:=aJ (λh=>(tk h).isSome) (qH r)
    have e:(qH r).length=3:=rfl;exact KE hr (by rw[aB];simp;exact(pn [_,_] 0x0D03E72902D3810D10) this e)
  have ht:(((lI.lookup (sl (ck r).1)).isSome == (CmpOp.In == CmpOp.In)):Bool)=(tk (ck r).1).isSome:=by unfold tk;cases(lI.lookup (sl (ck r).1)).isSome<;>rfl
  refine(aq (aL:=I4 s (pos,row++[(ck r).2],some (turn,.lst (cr (qH r)),.str (sl (ck r).1)))) ?_).trans ?_
  ·refine(pW (l:=row.map .int) (u:=.int (ck r).2) (by rfl) ?_ ?_).trans ?_
   ·have:decide ((row.map PV.int).length<=1048576)=true:=decide_eq_true (by rw[aa];exact(pn [_,_] 0x0D1000003901D4810D10) h2 hi)
    rw[this];rfl
   ·refine gV (c:=(tk (ck r).1).isSome) ?_ (λhc=>?_) (λhc=>?_)
    ·rw[<- ht]
     exact bV (xo (by rfl) (by rfl) (by kernel_rfl))
    ·rcases CD r hne with⟨v,h4,h5⟩|⟨h4,_⟩
     ·rw[h5]
      exact B2 (by kernel_rfl) (by rfl) h4
     ·rw[h4]at hc;cases hc
    ·rcases CD r hne with⟨v,h4,h5⟩|⟨h4,c,h5,h6⟩
     ·rw[h4]at hc;cases hc
     ·rw[h6]
      refine gV (c:=((⟨#[c]⟩:Str) == ⟨#[32]⟩)) ?_ (λhc=>?_) (λhc=>?_)
      ·show evT _ _ _ (I4 s (pos,row,some (turn,.lst (cr (qH r)),.str (sl (ck r).1)))) _=_
       rw[h5];rfl
      ·rw[qS]at hc;rw[if_pos (of_decide_eq_true hc)];rfl
      ·rw[qS]at hc;rw[if_neg (of_decide_eq_false hc)];show ev _ _ _ (I4 s (pos,row,some (turn,.lst (cr (qH r)),.str (sl (ck r).1)))) _=_;rw[h5];kernel_rfl
   ·rw[show(row.map PV.int++[PV.int (ck r).2])=(row++[(ck r).2]).map PV.int from by rw[aT];rfl];rfl
  ·refine(aq (aL:=I4 s (pos+(ck r).1.length,row++[(ck r).2],some (turn,.lst (cr (qH r)),.str (sl (ck r).1)))) ?_).trans ?_
   ·refine Ju (a:=(pos:Int)) (b:=((ck r).1.length:Int)) (by rfl) ?_ (by rfl)
    refine cw (v:=.str (sl (ck r).1)) (by rfl) (by rfl) ?_;show(if(sl (ck r).1).length<=1048576 then some (PV.int ((sl (ck r).1).length:Int)) else none)=_;rw[dZ,if_pos (by exact(pn [_,_,_,_] 0x0D1000003912DB3020D210D03E8290) hs hlen hrl)]
   ·show exs _ _ _ _ _ []=_
    rw[show turn=PV.int (x:Int) from by show PV.int ((0:Int)+(x:Int))=_;rw[bF]];rfl
 ·have e:((aI 4).foldl (j4 s.cps.toList) (p,[],none)).2.1=iZ 4 (s.cps.toList.drop p):=by
   show((j4 s.cps.toList (j4 s.cps.toList (j4 s.cps.toList (j4 s.cps.toList (p,[],none) 0) 1) 2) 3)).2.1=_;unfold j4 iZ iZ iZ iZ iZ;simp only[List.drop_drop,dJ,gD,Nat.add_assoc]
  generalize(aI 4).foldl (j4 s.cps.toList) (p,[],none)=z at e ⊢;obtain⟨q,row,l⟩:=z;subst e;rcases l with _|⟨t,h,p⟩<;>exact bE (by kernel_rfl)
end
end Mine
end
section
namespace Mine
noncomputable section
noncomputable def Ec(spot:Int)(sp:Bool)(x:Int):Int:=bif sp then x+1 else x - eT x (spot+1)+spot+1
noncomputable def nq(v:Nat->Int)(sign:Nat):Nat->Int:=λi=>Ec (i:Int) (sign == 32) (v i)
noncomputable def GW(v:Nat->Int):PV:=.lst [.int (v 0),.int (v 1),.int (v 2),.int (v 3),.int (v 4)]
noncomputable def Kq(c:Nat->Nat->Int):PV:=.lst [GW (c 0),GW (c 1),GW (c 2),GW (c 3)]
noncomputable def to(c:Nat->Nat->Int)(i:Nat)(v:Nat->Int):Nat->Nat->Int:=λj=>if j=i then v else c j
noncomputable def w7(c d:Nat->Int):Bool:=decide (dX (d 0 - c 0) [d 1 - c 1,d 2 - c 2,d 3 - c 3,d 4 - c 4] > 0)
noncomputable def Gf(c:Nat->Nat->Int):PV:=.lst ([0,1,2,3].map λi=>.lst ([0,1,2,3].map λj=>.bool (w7 (c i) (c j))))
noncomputable def d7(lead:List Nat):Nat->Int:=lead.foldl nq λJ=>0
noncomputable def Do(L:PV)(a:(Nat->Nat->Int)×Option (PV×PV×Option PV)):SE:=[nm "leads" L,ow "columns" (Kq a.1)]++(match a.2 with|none=>[]|some (l,d,s)=>[nm "line" l,nm "lead" d]++(match s with|none=>[]|some s=>[nm "sign" s]))
theorem xd(k:Nat)(lead:List Nat)(d:PV):∀(w:List Nat) (a:(Nat->Nat->Int)×Option (PV×PV×Option PV)),(w.foldl (λa s=>(to a.1 k (nq (a.1 k) s),some (PV.int (k:Int),d,some (.str (sl [s]))))) a).1=to a.1 k (w.foldl nq (a.1 k))
 | [],a=>by
  funext j;show a.1 j=if j=k then a.1 k else a.1 j
  split
  ·subst_vars;rfl
  ·rfl
 |s::w,a=>by
  rw[bc,bc,xd k lead d w];funext j;unfold to;dsimp only;split
  ·rw[if_pos rfl];first|done|rfl
  ·rfl
theorem Gb{l0 l1 l2 l3:List Nat}(h:∀l∈[l0,l1,l2,l3],l.length<=20/\∀x∈l,x=32\/x=9):
  eE o0 Fj.W 120 Fj.params Fj.scope Fj.body [.lst (cr [l0,l1,l2,l3])]=some (Gf λi=>d7 ([l0,l1,l2,l3].getD i [])):=by
 refine dT (σ:=[nm "leads" (.lst (cr [l0,l1,l2,l3]))]) (by kernel_rfl) (by kernel_rfl) (aL:=[]) ?_;show exs _ _ _ (bg 173).names _ (de 173)=_
 conv=>lhs;arg 6;whnf
 generalize hL:PV.lst (cr [l0,l1,l2,l3])=L
 let z:Nat->Int:=λJ=>0
 refine(aq (aL:=Do L (λJ=>z,none)) (by subst hL;kernel_rfl)).trans ?_
 let g:Nat×List Nat->PV:=λp=>.tup [.int (p.1:Int),.str (sl p.2)]
 let xs:List (Nat×List Nat):=[(0,l0),(1,l1),(2,l2),(3,l3)]
 let f:((Nat->Nat->Int)×Option (PV×PV×Option PV))->Nat×List Nat->((Nat->Nat->Int)×Option (PV×PV×Option PV)):=λa p=>
  p.2.foldl (λa s=>(to a.1 p.1 (nq (a.1 p.1) s),some (.int (p.1:Int),.str (sl p.2),some (.str (sl [s]))))) (a.1,some (.int (p.1:Int),.str (sl p.2),(match a.2 with|none=>none|some (_,_,s)=>s)))
 refine(o6 (Do L) (λi a=>True) f g 80 xs (λJ=>z,none) rfl (by subst hL;rfl) (by simp only[xs,am,ce];exact pn [] 0x0D7519A18AA18A18A18A18085019) trivial ?_).trans ?_
 ·intro i a x n hi _ hx
  obtain⟨c,last⟩:=a;have hx':x.1 < 4/\x.2∈[l0,l1,l2,l3]:=by
   simp only[xs,ai,aM,or_false]at hx;rcases hx with rfl|rfl|rfl|rfl<;>simp
  refine xA hx' ?_;clear hx';intro hx1 hx2;refine xA (h _ hx2) ?_;intro hlen hsign;obtain⟨k,lead⟩:=x;dsimp only at hx1 hlen hsign
  let a1:(Nat->Nat->Int)×Option (PV×PV×Option PV):=(c,some (.int (k:Int),.str (sl lead),(match last with|none=>none|some (_,_,s)=>s)))
  refine⟨trivial,Do L a1,by rcases last with _|⟨_,_,_|_⟩<;>kernel_rfl,?_⟩;refine(o6 (Do L) (λi a=>∃c s,a=(c,some (.int (k:Int),.str (sl lead),s))) (λa s=>(to a.1 k (nq (a.1 k) s),some (.int (k:Int),.str (sl lead),some (.str (sl [s]))))) (λs=>.str (sl [s])) 40 lead a1 rfl ?_ ?_ ⟨_,_,rfl⟩ ?_).trans (by rfl)
  ·refine Eq.trans (b:=if(sl lead).length<=1048576 then some ((sl lead).cps.toList.map λc=>.str ⟨#[c]⟩) else none) (by rcases last with _|⟨_,_,_|_⟩<;>kernel_rfl) ?_
   rw[dZ,if_pos (by exact(pn [_] 0x0D1000003900D14190) hlen)];rfl
  ·exact(pn [_,_] 0x0DA4E191A18A028190D14190) hlen
  ·intro j a s m hj hP hs
   refine yo hP ?_;clear hP;rintro c o rfl;refine⟨⟨_,_,rfl⟩,Do L (c,some (.int (k:Int),.str (sl lead),some (.str (sl [s])))),by cases o<;>kernel_rfl,?_⟩;have hk:k=0\/k=1\/k=2\/k=3:=by exact(pn [_] 0x1F1F1F2D3802D2802D1802D0801D480) hx1
   rcases hsign s hs with rfl|rfl<;>rcases hk with rfl|rfl|rfl|rfl<;>kernel_rfl
 ·have e:(xs.foldl f (λJ=>z,none)).1=to (to (to (to (λJ=>z) 0 (d7 l0)) 1 (d7 l1)) 2 (d7 l2)) 3 (d7 l3):=by
   show(f (f (f (f (λJ=>z,none) (0,l0)) (1,l1)) (2,l2)) (3,l3)).1=_;have hf:∀a p,(f a p).1=to a.1 p.1 (p.2.foldl nq (a.1 p.1)):=λa p=>xd p.1 p.2 _ p.2 _;rw[hf,hf,hf,hf];rfl
  generalize xs.foldl f (λJ=>z,none)=r at e ⊢;obtain⟨c,last⟩:=r;dsimp only at e;have e2:(Gf λi=>d7 ([l0,l1,l2,l3].getD i []))=Gf c:=by subst e;kernel_rfl
  rw[e2];subst hL;rcases last with _|⟨_,_,_|_⟩<;>exact bE (by kernel_rfl)
end
end Mine
end
section
namespace Mine
noncomputable section
theorem eR{l:List PV}{i:Nat}{v:PV}(h:l[i]?=some v)(hl:l.length<=1048576):item (.lst l) (.int (i:Int))=some v:=by
 have hi:i < l.length:=by
  rcases Nat.lt_or_ge i l.length with h'|h'
  ·exact h'
  ·rw[jJ h']at h;cases h
 show(if l.length<=1048576 then(eF (i:Int) l.length).bind (l[·]?) else none)=_;rw[if_pos hl];unfold eF;rw[if_neg (by exact pn [_] 0x2F1E082C0),if_pos (by exact(pn [_,_] 0x1E2C12C01D10) hi)];exact h
theorem mV{l:List PV}{v:PV}(h:l.getLast?=some v)(hl:l.length<=1048576):item (.lst l) (.int (-1))=some v:=by
 show(if l.length<=1048576 then(eF (-1) l.length).bind (l[·]?) else none)=_;rw[if_pos hl];have hn:l≠[]:=by intro e;subst e;cases h
 have hlen:0 < l.length:=List.length_pos_iff.mpr hn;unfold eF;rw[if_pos (by exact pn [] 0x1E083C18),if_pos (by exact(pn [_] 0x0E3C183C2C01D008) hlen)];show l[((-1:Int)+(l.length:Int)).toNat]?=_;rw[show((-1:Int)+(l.length:Int)).toNat=l.length - 1 from by exact(pn [_] 0x2DB1802CA2C03C181D008) hlen,<- List.getLast?_eq_getElem?];exact h
def GV(st:WS):Prop:=st.1.length<=20/\st.2.1<=20
theorem EN{s s':Str}{a b:WS}(ha:GV a)(hb:GV b):o2.mth "Whitespace" "less" [lQ s a,lQ s' b]=some (.bool (g8 a b)):=x6 ha.1 hb.1 ha.2 hb.2
noncomputable def fB(lt:Nat->Nat->Bool)(a:List Int×List Nat)(here:Nat):List Int×List Nat:=
 (a.1++[((-1:Int)::(a.2.filter λl=>lt l here).map λ(l:Nat)=>(l:Int)).getLast (by simp)],(a.2.filter λl=>lt l here)++[here])
noncomputable def gO(lt:Nat->Nat->Bool)(n:Nat):List Int:=((aI n).foldl (fB lt) ([],[])).1
noncomputable def rB(l:List Nat):PV:=.lst (l.map λ(x:Nat)=>.int (x:Int))
noncomputable def wc(sp:List (Str×WS)):PV:=.lst (sp.map λp=>lQ p.1 p.2)
noncomputable def fK(sp:List (Str×WS))(i j:Nat):Bool:=g8 (sp.getD i default).2 (sp.getD j default).2
noncomputable def ug(sp:List (Str×WS))(a:(List Int×List Nat)×Option PV):SE:=[nm "spaces" (wc sp),ow "owners" (aU a.1.1),nm "pile" (rB a.1.2)]++(match a.2 with|none=>[]|some h=>[nm "here" h])
theorem zH{α β γ:Type}{f:α->β->α}{g:β->γ}:∀(xs:List β) (a:α×Option γ),(xs.foldl (λ(a:α×Option γ) x=>(f a.1 x,some (g x))) a).1=xs.foldl f a.1
 | [],a=>rfl
 |x::xs,a=>zH xs (f a.1 x,some (g x))
set_option maxHeartbeats 4000000 in
theorem Dl{sp:List (Str×WS)}(hn:sp.length<=20)(hw:∀p∈sp,GV p.2):
  eE o2 w4.W 100 w4.params w4.scope w4.body [wc sp]=some (aU (gO (fK sp) sp.length)):=by
 have hlen:(sp.map λp=>lQ p.1 p.2).length=sp.length:=aa _;have hsp:∀i,i < sp.length->(sp.map λp=>lQ p.1 p.2)[i]?=some (lQ (sp.getD i default).1 (sp.getD i default).2)/\GV (sp.getD i default).2:=by
  intro i hi;rw[aS,ax hi,aw,ax hi];exact⟨rfl,hw _ (eX hi)⟩
 refine dT (σ:=[nm "spaces" (wc sp)]) (by kernel_rfl) (by kernel_rfl) (aL:=[]) ?_;show exs _ _ _ (bg 168).names _ (de 168)=_
 conv=>lhs;arg 6;whnf
 refine(aq (aL:=ug sp (([],[]),none)) (by rfl)).trans ?_;refine(o6 (ug sp) (λi a=>a.1.1.length<=i/\a.1.2.length<=i/\∀l∈a.1.2,l < sp.length) (λa (x:Nat)=>(fB (fK sp) a.1 x,some (PV.int ((0:Int)+(x:Int))))) (λ(x:Nat)=>.int ((0:Int)+(x:Int))) 60 (aI sp.length) (([],[]),none) rfl ?_ ?_ ⟨aK _,aK _,λJ h=>nomatch h⟩ ?_).trans ?_
 ·refine(sG (j:=(sp.length:Int)) (by kernel_rfl) ?_ ?_).trans ?_
  ·refine cw (v:=wc sp) (by kernel_rfl) (by rfl) ?_
   show(if(sp.map λp=>lQ p.1 p.2).length<=1048576 then some (PV.int ((sp.map λp=>lQ p.1 p.2).length:Int)) else none)=_;rw[hlen,if_pos (by exact(pn [_] 0x0D1000003900D14190) hn)]
  ·unfold fV;simp;exact(pn [_] 0x0E100000392C00D14190) hn
  ·unfold ie
   rw[show((sp.length:Int) - 0).toNat=sp.length from by exact pn [_] 0x2D02CB082C0]
 ·rw[bZ];exact(pn [_] 0x0D6119A18A03C190D14190) hn
 ·intro i a here n hi hP hx
  rw[bZ]at hi;have hx:here < sp.length:=eW.mp hx;obtain⟨⟨owners,pile⟩,l⟩:=a;refine iQ hP ?_;clear hP;intro h1 h2 h3;dsimp only at h1 h2 h3;have hf:=aJ (λl=>fK sp l here) pile;refine⟨⟨?_,?_,?_⟩,?_⟩
  ·unfold fB;dsimp only
   rw[aB];simp;exact(pn [_,_] 0x0D100D10) h1
  ·unfold fB;dsimp only
   rw[aB];simp;exact(pn [_,_,_] 0x0D120D020D10) h2 hf
  ·intro l hl
   rcases aP.mp hl with hl|hl
   ·exact h3 l ((aW.mp hl).1)
   ·rcases aA.mp hl with rfl;exact hx
  let hv:PV:=.int ((0:Int)+(here:Int))
  have hhv:hv=.int (here:Int):=by show PV.int ((0:Int)+(here:Int))=_;rw[bF]
  refine⟨ug sp ((owners,pile),some hv),by cases l<;>kernel_rfl,?_⟩
  let q:=pile.filter λl=>fK sp l here
  have hql:(q.map λ(x:Nat)=>PV.int (x:Int)).length<=100:=by rw[aa];show(pile.filter _).length<=100;exact(pn [_,_,_,_] 0x0D641930D230D121D010D14190) hn hi h2 hf
  refine(aq (aL:=ug sp ((owners,q),some hv)) ?_).trans ?_
  ·refine(ba (u:=rB q) (by rfl) ?_).trans (by kernel_rfl)
   refine(cJ (items:=pile.map λ(x:Nat)=>.int (x:Int)) (rs:=q.map λ(x:Nat)=>(.none,.int (x:Int))) (by rfl) ?_ ?_ ?_).trans ?_
   ·refine Eq.trans (b:=if(pile.map λ(x:Nat)=>PV.int (x:Int)).length<=1048576 then some (pile.map λ(x:Nat)=>.int (x:Int)) else none) (by rfl) (if_pos (by rw[aa];exact(pn [_,_,_] 0x0D1000003920D121D010D14190) hn hi h2))
   ·refine cN (λl=>fK sp l here) (λ(x:Nat)=>.int (x:Int)) (λ(x:Nat)=>.int (x:Int)) 30 (by rfl) pile _ ?_ ?_
    ·exact(pn [_,_,_,_] 0x0DA39193A18A21E190D121D010D14190) hn hi h2
    ·intro x m hx'
     refine xA (hsp x (h3 x hx')) ?_;intro e1 w1;refine xA (hsp here hx) ?_;intro e2 w2;refine⟨[nm "spaces" (wc sp),nm "here" hv,nm "line" (.int (x:Int))],by rfl,?_,λJ=>by rfl⟩;refine bN (mz (j7 (c:="Whitespace") (fs:=e9 (sp.getD x default).1 (sp.getD x default).2) (by rfl) ?_ (ar ?_ aR) (by rfl) (EN (s:=(sp.getD x default).1) (s':=(sp.getD here default).1) w1 w2)))
     ·exact bp (b:=wc sp) (k:=.int (x:Int)) (by rfl) (by rfl) (by rfl) (eR e1 (by rw[hlen];exact(pn [_] 0x0D1000003900D14190) hn))
     ·exact bp (b:=wc sp) (k:=.int (here:Int)) (by rfl) (by rfl) (by rw[hhv];rfl) (eR e2 (by rw[hlen];exact(pn [_] 0x0D1000003900D14190) hn))
   ·rw[aa];show(pile.filter _).length<=_;exact(pn [_,_,_,_] 0x0D1000003930D230D121D010D14190) hn hi h2 hf
   ·rw[aj];rfl
  let last:Int:=((-1:Int)::q.map λ(l:Nat)=>(l:Int)).getLast (by simp)
  refine(aq (aL:=ug sp ((owners++[last],q),some hv)) ?_).trans ?_
  ·refine(pW (l:=owners.map .int) (u:=.int last) (by rfl) ?_ ?_).trans ?_
   ·have:decide ((owners.map PV.int).length<=1048576)=true:=decide_eq_true (by rw[aa];exact(pn [_,_,_] 0x0D1000003920D121D010D14190) hn hi h1)
    rw[this];rfl
   ·refine bp (b:=.lst (.int (-1)::q.map λ(x:Nat)=>.int (x:Int))) (k:=.int (-1)) (by rfl) ?_ (by rfl) ?_
    ·show ev _ _ _ _ _=_
     refine aV (a:=.lst [.int (-1)]) (b:=rB q) (by rfl) (by rfl) ?_;show(if(decide ([PV.int (-1)].length<=1048576) && decide ((q.map λ(x:Nat)=>PV.int (x:Int)).length<=1048576))=true then some (PV.lst ([PV.int (-1)]++q.map λ(x:Nat)=>PV.int (x:Int))) else none)=_;rw[if_pos (by simp only[bf,decide_eq_true_eq];exact⟨by decide,by exact(pn [_] 0x0D1000003900D64190) hql⟩)];rfl
    ·refine mV ?_ (by rw[am];exact(pn [_] 0x0D10000039A1800D64190) hql)
     have e:(PV.int (-1)::q.map λ(x:Nat)=>PV.int (x:Int))=((-1:Int)::q.map λ(l:Nat)=>(l:Int)).map .int:=by rw[ao,aj];rfl
     rw[e,List.getLast?_map,fh (by simp)];rfl
   ·rw[show(owners.map PV.int++[PV.int last])=(owners++[last]).map PV.int from by rw[aT];rfl];rfl
  ·refine(aq (aL:=ug sp (fB (fK sp) (owners,pile) here,some hv)) ?_).trans (by rfl)
   refine(ba (u:=rB (q++[here])) (by rfl) ?_).trans (by rfl);refine aV (a:=rB q) (b:=rB [here]) (by rfl) (by rw[hhv];rfl) ?_;show(if(decide ((q.map λ(x:Nat)=>PV.int (x:Int)).length<=1048576) && decide ([PV.int (here:Int)].length<=1048576))=true then some (PV.lst ((q.map λ(x:Nat)=>PV.int (x:Int))++[PV.int (here:Int)])) else none)=_;rw[if_pos (by simp only[bf,decide_eq_true_eq];exact⟨by exact(pn [_] 0x0D1000003900D64190) hql,by simp⟩)];unfold rB;rw[aT];rfl
 ·have e:=zH (f:=fB (fK sp)) (g:=λ(x:Nat)=>PV.int ((0:Int)+(x:Int))) (aI sp.length) (([],[]),none)
  dsimp only at e;have e:((aI sp.length).foldl (λ(a:(List Int×List Nat)×Option PV) (x:Nat)=>(fB (fK sp) a.1 x,some (PV.int ((0:Int)+(x:Int))))) (([],[]),none)).1=(aI sp.length).foldl (fB (fK sp)) ([],[]):=e;unfold gO;rw[<- e];generalize(aI sp.length).foldl (λ(a:(List Int×List Nat)×Option PV) (x:Nat)=>(fB (fK sp) a.1 x,some (PV.int ((0:Int)+(x:Int))))) (([],[]),none)=r;obtain⟨⟨a,b⟩,l⟩:=r
  cases l<;>exact bE (by kernel_rfl)
theorem ma(lt:Nat->Nat->Bool):∀n,((aI n).foldl (fB lt) ([],[])).1.length=n/\(∀l∈((aI n).foldl (fB lt) ([],[])).2,l < n)/\∀i,i < n->-1<=((aI n).foldl (fB lt) ([],[])).1.getD i 0/\((aI n).foldl (fB lt) ([],[])).1.getD i 0 < (i:Int)
 |0=>⟨rfl,λJ h=>(nomatch h),λi h=>absurd h (dH i)⟩
 |n+1=>by
  refine iQ (ma lt n) ?_;intro h1 h2 h3;rw[pq,c7,bc,List.foldl_nil];generalize(aI n).foldl (fB lt) ([],[])=a at h1 h2 h3;obtain⟨own,pile⟩:=a;dsimp only at h1 h2 h3;unfold fB;dsimp only;refine⟨by rw[aB,h1];rfl,?_,?_⟩
  ·intro l hl
   rcases aP.mp hl with hl|hl
   ·have:=h2 l ((aW.mp hl).1);exact(pn [_,_] 0x1DA18101D10) this
   ·rcases aA.mp hl with rfl;exact pn [_] 0x1DA1800
  ·intro i hi
   by_cases hin:i < n
   ·have:=h3 i hin
    rw[aw,lS (by exact(pn [_,_,_] 0x1D021D121DA18122D10) h1 hi hin),<- aw];exact this
   ·have:i=n:=by exact(pn [_,_] 0x2D102F1D101DA1810) hi hin
    subst this;rw[aw,c8 (by exact(pn [_,_] 0x0D102D10) h1),h1,Nat.sub_self];show -1<=(((-1:Int)::(pile.filter λl=>lt l i).map λ(l:Nat)=>(l:Int)).getLast (by simp))/\(((-1:Int)::(pile.filter λl=>lt l i).map λ(l:Nat)=>(l:Int)).getLast (by simp)) < (i:Int);have hm:=List.getLast_mem (l:=(-1:Int)::(pile.filter λl=>lt l i).map λ(l:Nat)=>(l:Int)) (by simp);rcases ai.mp hm with e|hm
    ·rw[e];exact pn [_] 0x0F1E2C03C180E3C183C18
    ·refine bC (aG.mp hm) ?_;intro l hl e
     rw[<- e]
     have:=h2 l ((aW.mp hl).1);exact(pn [_,_] 0x0F1E2C12C00E2C03C181D10) this
end
end Mine
end
section
namespace Mine
noncomputable section
abbrev js:=List (Int×List (Int×Int))
noncomputable def dQ(t:js):PV:=.dct (t.map λp=>(p.1,aZ p.2))
noncomputable def iK(ab x o y:Int):List (Int×Int):=gZ [(ab,x)] [(o,y)]
theorem Ag{t s:List (Int×Int)}(ht:t.length<=20)(hs:s.length<=20):o1.fn "add_callers" [aZ t,aZ s]=some (aZ (gZ t s)):=Ad ht hs
theorem Bn{t:List (Int×Int)}(ht:t.length<=60):o1.fn "count_calls" [aZ t]=some (.int (ct t)):=tU ht
theorem C0(x:Int):o1.fn "ISTERMINAL" [.int x]=some (.bool (decide (x < 256))):=xx x
theorem GZ(x:Int):o1.fn "ISNONTERMINAL" [.int x]=some (.bool (decide (x ≥ 256))):=AW x
theorem AH(x:Int):o1.fn "ISEOF" [.int x]=some (.bool (x == 0)):=AR x
structure IJ(x o y:Int):Prop where
 x1:7<=x
 x2:x < 256
 y1:7<=y
 y2:y < 256
 o:o=0\/256<=o
noncomputable def Hw(Y A:PV)(a:js×Option (PV×PV×PV×PV)):SE:=[nm "symbols" Y,nm "owners" A,ow "table" (dQ a.1)]++(match a.2 with|none=>[]|some (r,w,e,c)=>[nm "row" r,nm "owner" w,nm "ends" e,nm "calls" c])
theorem sg{l:List (Int×PV)}{k:Int}{v:PV}(h:∀p∈l,p.1≠k):jD l k v=l++[(k,v)]:=by
 unfold jD;rw[if_neg];intro hh;refine bC (dj.mp hh) ?_;intro p hp e;exact h p hp (of_decide_eq_true e)
noncomputable def gG(a:Int):Int:=if a < 0 then 0 else 256+a
theorem Cj{n:Nat}{x o y ab:Nat->Int}(hn:n<=5)(h:∀i,i < n->IJ (x i) (o i) (y i)):
  eE o1 rO.W 100 rO.params rO.scope rO.body [.lst ((aI n).map λi=>aU [x i,256+(i:Int),y i,o i]),aU ((aI n).map ab)]=some (dQ ((0,[])::(aI n).map λ(i:Nat)=>(256+(i:Int),iK (gG (ab i)) (x i - 6) (o i) (y i - 6)))):=by
 generalize hY:PV.lst ((aI n).map λi=>aU [x i,256+(i:Int),y i,o i])=Y;generalize hA:aU ((aI n).map ab)=A;refine dT (σ:=[nm "symbols" Y,nm "owners" A]) (by kernel_rfl) (by kernel_rfl) (aL:=[]) ?_;show exs _ _ _ (bg 178).names _ (de 178)=_
 conv=>lhs;arg 6;whnf
 refine(aq (aL:=Hw Y A ([(0,[])],none)) (by rfl)).trans ?_
 let T:Nat->js:=λj=>(0,[])::(aI j).map λ(i:Nat)=>(256+(i:Int),iK (gG (ab i)) (x i - 6) (o i) (y i - 6))
 let f:(js×Option (PV×PV×PV×PV))->Nat->(js×Option (PV×PV×PV×PV)):=λa i=>(a.1++[(256+(i:Int),iK (gG (ab i)) (x i - 6) (o i) (y i - 6))],some (aU [x i,256+(i:Int),y i,o i],.int (ab i),aU [256+(i:Int),o i],aU [x i - 6,y i - 6]))
 refine fY (Hw Y A) (λj a=>a.1=T j) f (λi=>.tup [aU [x i,256+(i:Int),y i,o i],.int (ab i)]) 50 (aI n) ([(0,[])],none) rfl ?_ ?_ rfl ?_ ?_
 ·refine(qJ (l:=(aI n).map λi=>aU [x i,256+(i:Int),y i,o i]) (m:=((aI n).map ab).map .int) (by rfl) (by rfl) (by subst hY;rfl) (by subst hA;rfl) (by simp;exact(pn [_] 0x0D1000003900D580) hn) (by simp;exact(pn [_] 0x0D1000003900D580) hn)).trans ?_
  rw[aj];generalize aI n=r;congr 1
  induction r with
  |nil=>rfl
  |cons i r ih=>rw[ao,ao,ao,lW,ih];rfl
 ·rw[bZ];exact(pn [_] 0x0D6119A18A032190D580) hn
 ·intro i a j m hj hP
  have hin:i < n/\i=j:=by
   rw[au]at hj;refine xE hj ?_;clear hj;intro h1 h2;rw[List.getElem_range]at h2;rw[bZ]at h1;exact⟨h1,h2⟩
  refine xA hin ?_;clear hin;rintro hin rfl;obtain⟨t,l⟩:=a;dsimp only at hP;subst hP;obtain⟨x1,x2,y1,y2,ho⟩:=h i hin;refine⟨?_,?_⟩
  ·show T i++_=T (i+1)
   show _=(0,[])::(aI (i+1)).map _;rw[pq,aT];rfl
  have hlenT:(T i).length<=20:=by show((0,[])::_).length<=20;rw[am,aa,bZ];exact(pn [_,_] 0x0D1419A1811D010D580) hn hin
  have hkey:∀p∈(T i).map (λp=>(p.1,aZ p.2)),p.1≠256+(i:Int):=by
   intro p hp;refine bC (aG.mp hp) ?_;rintro q hq rfl;dsimp only;rcases ai.mp hq with rfl|hq
   ·lia
   ·refine bC (aG.mp hq) ?_;rintro k hk rfl
    have:=eW.mp hk
    dsimp only;exact(pn [_,_] 0x2F2EA2C1010029A2C00100291D10) this
  generalize hTi:T i=t at hlenT hkey;show ∃aL,_/\_=some (Fl.next,Hw Y A (t++[(256+(i:Int),iK (gG (ab i)) (x i - 6) (o i) (y i - 6))],some (aU [x i,256+(i:Int),y i,o i],.int (ab i),aU [256+(i:Int),o i],aU [x i - 6,y i - 6])));generalize x i=x at *
  generalize y i=y at *
  generalize o i=o at *
  generalize ab i=ab
  let row:=[x,256+(i:Int),y,o]
  let rest:SE:=match l with|none=>[]|some (_,_,e,c)=>[nm "ends" e,nm "calls" c]
  let MB:SE:=[nm "symbols" Y,nm "owners" A,ow "table" (dQ t),nm "row" (aU row),nm "owner" (.int ab)]++rest
  refine⟨MB,by cases l<;>kernel_rfl,?_⟩
  let rest2:SE:=match l with|none=>[]|some (_,_,e,c)=>[nm "calls" c]
  let MC:SE:=[nm "symbols" Y,nm "owners" A,ow "table" (dQ t),nm "row" (aU row),nm "owner" (.int ab),nm "ends" (aU [256+(i:Int),o])]++rest2
  have e1:row.filter (λz=>decide (z ≥ 256) ||z == 0)=[256+(i:Int),o]:=by
   show([x,256+(i:Int),y,o]:List Int).filter _=_;have hx:(decide (x ≥ 256) ||x == 0)=false:=by simp;exact(pz [] [_] 0x0F2F2E0801E01002901E01002900E078) x1 x2
   have hy:(decide (y ≥ 256) ||y == 0)=false:=by simp;exact(pz [] [_] 0x0F2F2E0801E01002901E01002900E078) y1 y2
   have hi:(decide (256+(i:Int) ≥ 256) ||256+(i:Int) == 0)=true:=by simp;exact pn [_] 0x1F2E08A2C00100290EA2C0010029010029
   have ho':(decide (o ≥ 256) ||o == 0)=true:=by simp;exact(pz [] [_] 0x1F2E0800E00100291F0E00100292E080) ho
   rw[b7 (by rw[hx];decide),b8 (by rw[hi]),b7 (by rw[hy];decide),b8 (by rw[ho']),pr]
  have e2:row.filter (λz=>decide (z < 256) && !(z == 0))=[x,y]:=by
   show([x,256+(i:Int),y,o]:List Int).filter _=_;have hx:(decide (x < 256) && !(x == 0))=true:=by simp;exact(pz [] [_] 0x0F2F2E0801E01002901E01002900E078) x1 x2
   have hy:(decide (y < 256) && !(y == 0))=true:=by simp;exact(pz [] [_] 0x0F2F2E0801E01002901E01002900E078) y1 y2
   have hi:(decide (256+(i:Int) < 256) && !(256+(i:Int) == 0))=false:=by simp;exact pn [_] 0x2E08A2C00100291E010029A2C0010029
   have ho':(decide (o < 256) && !(o == 0))=false:=by simp;exact(pz [] [_] 0x2E0801E01002901F0E00100292E080) ho
   rw[b8 (by rw[hx]),b7 (by rw[hi];decide),b8 (by rw[hy]),b7 (by rw[ho'];decide),pr]
  refine(aq (aL:=MC) ?_).trans ?_
  ·refine(ba (u:=aU [256+(i:Int),o]) (by rfl) ?_).trans (by rcases l with _|⟨_,_,e,c⟩<;>kernel_rfl)
   refine(cJ (items:=row.map .int) (rs:=(row.filter λz=>decide (z ≥ 256) ||z == 0).map λz=>(.none,.int z)) (by rfl) (by rcases l with _|⟨_,_,e,c⟩<;>kernel_rfl) ?_ (by rw[e1];simp)).trans (by rw[e1];kernel_rfl);refine cN (λz=>decide (z ≥ 256) ||z == 0) (λz=>.int z) (λz=>.int z) 30 (by rcases l with _|⟨_,_,e,c⟩<;>kernel_rfl) row _ ?_ ?_
   ·show 30+4+1<=_
    exact id (pn [_] 0x0DA2F190A18A481E19)
   ·intro z q hz
    refine⟨[nm "one" (.int z)],by rcases l with _|⟨_,_,e,c⟩<;>kernel_rfl,?_,λJ=>by kernel_rfl⟩;refine bN (pS (dv (b:=decide (z ≥ 256)) (c:=z == 0) ?_ λJ=>?_))
    ·exact mz (fq (v':=.int z) (v:=.int z) (by rfl) (by rfl) (by rfl) (by rfl) (GZ z))
    ·rw[show(z == 0)=((z == 0) ||false) from(mZ _).symm]
     exact dv (mz (fq (v':=.int z) (v:=.int z) (by rfl) (by rfl) (by rfl) (by rfl) (AH z))) λJ=>lT
  let MD:SE:=[nm "symbols" Y,nm "owners" A,ow "table" (dQ t),nm "row" (aU row),nm "owner" (.int ab),nm "ends" (aU [256+(i:Int),o]),nm "calls" (aU [x - 6,y - 6])]
  refine(aq (aL:=MD) ?_).trans ?_
  ·refine(ba (u:=aU [x - 6,y - 6]) (by rfl) ?_).trans (by rcases l with _|⟨_,_,e,c⟩<;>kernel_rfl)
   refine(cJ (items:=row.map .int) (rs:=(row.filter λz=>decide (z < 256) && !(z == 0)).map λz=>(.none,.int (z - 6))) (by rfl) (by rcases l with _|⟨_,_,e,c⟩<;>kernel_rfl) ?_ (by rw[e2];simp)).trans (by rw[e2];kernel_rfl);refine cN (λz=>decide (z < 256) && !(z == 0)) (λz=>.int (z - 6)) (λz=>.int z) 30 (by rcases l with _|⟨_,_,e,c⟩<;>kernel_rfl) row _ ?_ ?_
   ·show 30+4+1<=_
    exact id (pn [_] 0x0DA2E190A18A481E19)
   ·intro z q hz
    refine⟨[nm "one" (.int z)],by rcases l with _|⟨_,_,e,c⟩<;>kernel_rfl,?_,λJ=>by kernel_rfl⟩;refine bN (oN (fU (b:=decide (z < 256)) (c:=!(z == 0)) ?_ λJ=>?_))
    ·exact mz (fq (v':=.int z) (v:=.int z) (by rfl) (by rfl) (by rfl) (by rfl) (C0 z))
    ·exact bN (F8 (mz (fq (v':=.int z) (v:=.int z) (by rfl) (by rfl) (by rfl) (by rfl) (AH z))))
  refine(aq (aL:=Hw Y A (t++[(256+(i:Int),iK (gG ab) (x - 6) o (y - 6))],some (aU row,.int ab,aU [256+(i:Int),o],aU [x - 6,y - 6]))) ?_).trans (by rfl);refine(eA (c:=dQ t) (k:=.int (256+(i:Int))) (u:=aZ (iK (gG ab) (x - 6) o (y - 6))) (c':=dQ (t++[(256+(i:Int),iK (gG ab) (x - 6) o (y - 6))])) (by rfl) (by rfl) ?_ (by rfl) ?_).trans (by rfl)
  ·refine jo (vs:=[aZ [(gG ab,x - 6)],aZ [(o,y - 6)]]) (by rfl) (ar ?_ (ar (by rfl) aR)) (by rfl) (Ag (by simp) (by simp))
   refine GT ?_ (by rfl);refine gV (c:=decide (ab < 0)) (by rfl) (λhc=>?_) (λhc=>?_)
   ·unfold gG;rw[if_pos (of_decide_eq_true hc)];rfl
   ·unfold gG;rw[if_neg (of_decide_eq_false hc)];rfl
  ·show(if(t.map λp=>(p.1,aZ p.2)).length<=1048576 then some (PV.dct (jD (t.map λp=>(p.1,aZ p.2)) (256+(i:Int)) _)) else none)=_
   rw[if_pos (by rw[aa];exact(pn [_] 0x0D1000003900D14190) hlenT),sg hkey];unfold dQ;rw[aT];rfl
 ·intro b hb hP
  rw[bZ]at hP;obtain⟨t,l⟩:=b;dsimp only at hP;subst hP;rcases l with _|⟨r,w,e,c⟩<;>exact bE (by kernel_rfl)
end
end Mine
end
section
namespace Mine
noncomputable section
noncomputable def kE{α:Type}(l:List (Int×α))(k:Int):Option α:=(l.find? λp=>p.1=k).map (·.2)
theorem mu{α:Type}(f:α->PV)(l:List (Int×α))(k:Int):eH (l.map λp=>(p.1,f p.2)) k=(kE l k).map f:=rV f l k
noncomputable def za(l:List (Int×Str)):PV:=.dct (l.map λp=>(p.1,.str p.2))
theorem jU{α:Type}{l:List (Int×α)}{k:Int}{v:α}(h:kE l k=some v):(k,v)∈l:=by
 unfold kE at h;refine bC (ci.mp h) ?_;rintro p hp rfl
 have:=kg hp
 have hk:p.1=k:=of_decide_eq_true this;subst hk;exact gX hp
theorem EG{α:Type}{l:List (Int×α)}{p:Int×α}(h:p∈l):(kE l p.1).isSome=true:=by
 unfold kE;rw[dE,List.find?_isSome];exact⟨p,h,decide_eq_true rfl⟩
theorem mO{α:Type}{l:List (Int×α)}(h:(l.map (·.1)).Nodup){p:Int×α}(hp:p∈l):kE l p.1=some p.2:=by
 induction l with
 |nil=>cases hp
 |cons q l ih=>
  rw[ao,bH]at h;unfold kE;rw[iw];rcases ai.mp hp with rfl|hp
  ·simp
  ·have:¬q.1=p.1:=λe=>h.1 (e▸kS hp)
   simp only[this,decide_false];exact ih h.2 hp
theorem kn{l:List PV}{a b:Option Int}{r:List PV}(hl:l.length<=1048576)(h:qK l a b=r):jA (.lst l) a b=some (.lst r):=by
 show(if l.length<=1048576 then some (PV.lst (qK l a b)) else none)=_;rw[if_pos hl,h]
theorem oH{x y:List PV}(hx:x.length<=1048576)(hy:y.length<=1048576):jW .Add (.lst x) (.lst y)=some (.lst (x++y)):=by
 show(if(decide (x.length<=1048576) && decide (y.length<=1048576))=true then some (PV.lst (x++y)) else none)=_;rw[if_pos (by simp[hx,hy])]
theorem add_str{x y:Str}(hx:x.length<=1048576)(hy:y.length<=1048576):jW .Add (.str x) (.str y)=some (.str (x++y)):=by
 show(if(decide (x.length<=1048576) && decide (y.length<=1048576))=true then some (PV.str (x++y)) else none)=_;rw[if_pos (by simp[hx,hy])]
theorem Ge{α β γ:Type}{f:α->α}{g:α->β->γ}:∀(xs:List β) (a:α×Option γ),(xs.foldl (λ(a:α×Option γ) x=>(f a.1,some (g a.1 x))) a).1=xs.foldl (λa J=>f a) a.1
 | [],a=>rfl
 |x::xs,a=>Ge xs (f a.1,some (g a.1 x))
theorem rh{α:Type}(l:List α)(p:Nat)(h:p<=l.length):qK l (some (p:Int)) none=l.drop p:=by
 unfold qK cT;simp only[pp,eU,Option.map_none,Option.getD_none];rw[if_neg (pn [_] 0x2F1E082C0),show((p:Int)).toNat=p from by exact pn [_] 0x2D02C2C0,iu h,dk]
theorem wN(s:Str):Fe s=lQ s (zx s):=rfl
theorem sE{α:Type}(f:α->PV):∀(l:List α) (k:Nat),iE k (l.map f)=(l.zipIdx k).map λp=>.tup [.int (p.2:Int),f p.1]
 | [],_=>rfl
 |a::l,k=>by rw[ao,iE,sE f l (k+1),nM,ao]
theorem FE{o:cS}{n:Nat}{sc:Sc}{σ:SE}{ob:Expr}{name:Str}{ap cp:Pos}{args:List Expr}{l vs:List PV}{r:PV}(hp:(dw ob && ap.endLine == cp.line && decide (args.length<=8))=true)(hb:ev o n sc σ ob=some (.lst l))(ha:dK (ev o n sc σ) args=some vs)(hr:C8 (.lst l) name vs=some r):
  ev o (n+1) sc σ (.Call (.Attribute ob name ap) args [] cp)=some r:=by
 exact(kT hp).trans ((di hb).trans ((di ha).trans hr))
theorem sC{o:cS}{n:Nat}{sc:Sc}{σ:SE}{ob:Expr}{name:Str}{ap cp:Pos}{args:List Expr}{l:List (Int×PV)}{vs:List PV}{r:PV}(hp:(dw ob && ap.endLine == cp.line && decide (args.length<=8))=true)(hb:ev o n sc σ ob=some (.dct l))(ha:dK (ev o n sc σ) args=some vs)(hr:C8 (.dct l) name vs=some r):
  ev o (n+1) sc σ (.Call (.Attribute ob name ap) args [] cp)=some r:=by
 exact(kT hp).trans ((di hb).trans ((di ha).trans hr))
theorem o9{o:cS}{n:Nat}{sc:Sc}{σ:SE}{e:Expr}{i:Int}(h:ev o n sc σ e=some (.int i)):evO o (n+1) sc σ (some e)=some (some i):=di h
theorem vG{o:cS}{n:Nat}{sc:Sc}{σ:SE}{t c i:Expr}{p:Pos}{v:PV}(h:ev o n sc σ (.Subscript c i p)=some v):evI o (n+1) sc σ t (.Subscript c i p)=ms t v:=by
 exact di h
noncomputable def bo(l:List Int)(k:Int):Bool:=l.any (· == k)
theorem dW(l:List Int)(k:Int):j0 k (l.map .int)=some (bo l k):=by
 induction l with
 |nil=>rfl
 |cons a l ih=>rw[ao,j0,ih];rfl
theorem kF{l:List Int}{k:Int}:bo l k=true↔k∈l:=by
 unfold bo;simp[dj]
theorem dN:∀(l:List (Int×PV)) (acc:List (Int×PV)),((acc++l).map (·.1)).Nodup->cD (l.map λp=>(.int p.1,p.2)) acc=some (acc++l)
 | [],acc,_=>by rw[c6,cD,kd]
 |p::l,acc,h=>by
  have hk:∀q∈acc,q.1≠p.1:=by
   intro q hq;rw[aT,ao]at h;exact(i9.mp h).2.2 _ (kS hq) _ ak
  show cD (l.map λp=>(PV.int p.1,p.2)) (jD acc p.1 p.2)=_;rw[sg hk,dN l (acc++[(p.1,p.2)]) (by rw[bk];exact h),bk];rfl
theorem xj(t s:List (Int×Int)):(gZ t s).length<=t.length+s.length:=by
 have h1:=iF (P:=λ(d:List (Int×Int)) k=>d.length<=k) (f:=λd (p:Int×Int)=>pI d p.1 p.2) (λd p k h=>aD (sM d p.1 p.2) (by exact(pn [_,_] 0x0DA181A1800D10) h)) t [] 0 (aK _);have h2:=iF (P:=λ(d:List (Int×Int)) k=>d.length<=k) (f:=λd (p:Int×Int)=>ik d p.1 p.2) (λd p k h=>aD (sP d p.1 p.2) (by exact(pn [_,_] 0x0DA181A1800D10) h)) s _ t.length (by rw[bS]at h1;exact h1);exact h2
theorem wx{o:cS}{n:Nat}{sc:Sc}{σ:SE}{t ob:Expr}{name:Str}{ap p:Pos}{args:List Expr}{v:PV}(h:ev o n sc σ (.Call (.Attribute ob name ap) args [] p)=some v):evI o (n+1) sc σ t (.Call (.Attribute ob name ap) args [] p)=ms t v:=by
 exact di h
theorem F6{o:cS}{n:Nat}{sc:Sc}{σ:SE}{t a b:Expr}{op:Operator}{p:Pos}{v:PV}(h:ev o n sc σ (.BinOp a op b p)=some v):evI o (n+1) sc σ t (.BinOp a op b p)=ms t v:=by
 exact di h
noncomputable def x0(r:List (Int×Int)):Prop:=r.length<=2/\(r.map (·.1)).Nodup
theorem G0{α β γ:Type}{f:α->β->α}{g:β->γ}(xs:List β)(a:α):(xs.foldl (λ(a:α×Option γ) x=>(f a.1 x,some (g x))) (a,none)).1=xs.foldl f a:=zH xs (a,none)
theorem nO(l:List Int):iV (l.map .int)=some l:=by
 induction l with
 |nil=>rfl
 |cons a l ih=>rw[ao,iV,ih];rfl
end
end Mine
end
section
namespace Mine
noncomputable section
theorem qT{a b:Str}(h:a.cps.toList=b.cps.toList):a=b:=by
 obtain⟨⟨a⟩⟩:=a;obtain⟨⟨b⟩⟩:=b;simp at h;rw[h]
theorem jT(a b:Str):(a++b).cps.toList=a.cps.toList++b.cps.toList:=by
 show(a.cps++b.cps).toList=_;exact Array.toList_append
theorem FJ(l:List Nat):(sl l).cps.toList=l:=rfl
theorem oj(a b:List Nat):sl a++sl b=sl (a++b):=qT (by rw[jT];rfl)
theorem x8{c:Nat}:∀{a b x y:List Nat},c ∉ a->c ∉ b->a++c::x=b++c::y->a=b/\x=y
 | [],[],_,_,_,_,h=>⟨rfl,by injection h⟩
 | [],d::b,_,_,_,hb,h=>by injection h with h1 h2;exact absurd (h1▸ak) hb
 |d::a,[],_,_,ha,_,h=>by injection h with h1 h2;exact absurd (h1▸ak) ha
 |d::a,e::b,_,_,ha,hb,h=>by
  injection h with h1 h2
  refine xA (x8 (λm=>ha (ah _ m)) (λm=>hb (ah _ m)) h2) ?_;intro r1 r2;exact⟨by rw[h1,r1],r2⟩
theorem wu{c:Nat}:∀{A B:List Str},A≠[]->B≠[]->(∀l∈A,c ∉ l.cps.toList)->(∀l∈B,c ∉ l.cps.toList)->Str.join ⟨#[c]⟩ A=Str.join ⟨#[c]⟩ B->A=B
 | [],_,h,_,_,_,_=>absurd rfl h
 |_,[],_,h,_,_,_=>absurd rfl h
 | [a],[b],_,_,_,_,h=>by rw[show a=b from h]
 | [a],b::b'::B,_,_,hA,_,h=>by
  have h:a=b++⟨#[c]⟩++Str.join ⟨#[c]⟩ (b'::B):=h;exact absurd (by rw[h,jT,jT];simp) (hA a ak)
 |a::a'::A,[b],_,_,_,hB,h=>by
  have h:a++⟨#[c]⟩++Str.join ⟨#[c]⟩ (a'::A)=b:=h;exact absurd (by rw[<- h,jT,jT];simp) (hB b ak)
 |a::a'::A,b::b'::B,_,_,hA,hB,h=>by
  have h:a++⟨#[c]⟩++Str.join ⟨#[c]⟩ (a'::A)=b++⟨#[c]⟩++Str.join ⟨#[c]⟩ (b'::B):=h;have h:=congrArg (λs:Str=>s.cps.toList) h;simp only[jT,bk]at h;refine xA (x8 (hA a ak) (hB b ak) h) ?_;intro h1 h2;rw[qT h1,wu (A:=a'::A) (B:=b'::B) (by simp) (by simp) (λl hl=>hA l (ah _ hl)) (λl hl=>hB l (ah _ hl)) (qT h2)]
theorem zS{c:Nat}{lines:List Str}(h:lines≠[])(hf:∀l∈lines,c ∉ l.cps.toList):Txt.split (Txt.join ⟨#[c]⟩ lines) ⟨#[c]⟩=lines:=by
 refine wu (c:=c) ?_ h ?_ hf ?_
 ·intro e
  have:=split_pos (Txt.join ⟨#[c]⟩ lines) ⟨#[c]⟩
  rw[e]at this;cases this
 ·exact StrLaws.split_free _ c
 ·rw[StrLaws.join_split]
  exact StrLaws.glued_eq_join _ _
end
end Mine
end
section
namespace Mine
noncomputable section
theorem e8{a b:Nat}(h:0 < b)(h2:b < 4294967296):jW .FloorDiv (.int (a:Int)) (.int (b:Int))=some (.int ((a / b:Nat):Int)):=by
 show(if(small (b:Int) && (b:Int) != 0)=true then some (PV.int (Int.fdiv (a:Int) (b:Int))) else none)=_;rw[if_pos (by unfold small;simp;exact id ((pn [_] 0x0F2F2D0801D0100000000000000009901D01000000005901D008) h h2)),xq]
theorem d9{a b:Nat}(h:0 < b):jW .Mod (.int (a:Int)) (.int (b:Int))=some (.int ((a % b:Nat):Int)):=by
 show(if((b:Int) != 0)=true then some (PV.int (eT (a:Int) (b:Int))) else none)=_;rw[if_pos (by simp;exact id ((pn [_] 0x2F2D0801D008) h)),gp _ (by exact id ((pn [_] 0x0E2C0081D008) h))];rfl
theorem zn{α:Type}(l:List α)(k:Nat):qK l none (some (k:Int))=l.take k:=by
 unfold qK cT;simp only[Option.map_none,pp,Option.getD_none,eU,List.drop_zero];rw[if_neg (pn [_] 0x2F1E082C0),show((k:Int)).toNat=k from by exact id (pn [_] 0x2D02C2C0)];by_cases h:k<=l.length
 ·rw[iu h]
 ·rw[nI (by exact id ((pn [_,_] 0x0D012F0D10) h)),dk,dM (by exact id ((pn [_,_] 0x0D012F0D10) h))]
theorem xW{o:cS}{n:Nat}{sc:Sc}{σ:SE}{ob:Expr}{name:Str}{ap cp:Pos}{args:List Expr}{s:Str}{vs:List PV}{r:PV}(hp:(dw ob && ap.endLine == cp.line && decide (args.length<=8))=true)(hb:ev o n sc σ ob=some (.str s))(ha:dK (ev o n sc σ) args=some vs)(hr:C8 (.str s) name vs=some r):
  ev o (n+1) sc σ (.Call (.Attribute ob name ap) args [] cp)=some r:=by
 exact(kT hp).trans ((di hb).trans ((di ha).trans hr))
theorem zJ(l:List Str):l5 (l.map .str)=some l:=by
 induction l with
 |nil=>rfl
 |cons a l ih=>rw[ao,l5,ih];rfl
noncomputable def Kn(k:Nat):Option Expr:=((de 158)[k]?.bind KC).map (·.2)
noncomputable def iW:List Str:=((((Kn 2).bind qY).bind λq=>(nX q.1).bind λr=>(Dr r.1).bind kB).map λs=>Txt.split s " ").getD []
noncomputable def yu:Nat->Nat:=λi=>((((((Kn 0).bind (ev o0 9 (bg 158).names [])).bind qq).bind (·[0]?)).bind ju).bind λl=>(l[i]?).bind cb).getD 0 |>.toNat
noncomputable def eK(c:Nat->Nat):PV:=.lst [.int (c 0:Int),.int (c 1:Int),.int (c 2:Int),.int (c 3:Int),.int (c 4:Int)]
noncomputable def I6(c:Nat->Nat)(k v:Nat):Nat->Nat:=λj=>if j=k then v else c j
noncomputable def lw(k:Nat):List Nat:=[[],[32],[9],[32,9]].getD k []
noncomputable def gP(l:List Nat)(cell:Nat):List Nat:=l.take (cell / 9216 % 6)++lw (cell / 2304 % 4)
noncomputable def bq(c:Nat->Nat):Nat->List Nat
 |0=>[]
 |i+1=>gP (bq c i) (c i)
noncomputable def cM(k:Nat):Str:=iW.getD k ""
noncomputable def wV(k:Nat):List Nat:=[[97],[98],[99],[100],[]].getD k []
noncomputable def fM(c:Nat->Nat)(i:Nat):List Nat:=(cM (c i % 48)).cps.toList++[97+i]++(cM (c i / 48 % 48)).cps.toList++wV (c i / 55296 % 5)
noncomputable def fX(c:Nat->Nat)(i:Nat):List Nat:=bq c (i+1)++fM c i++[32,9,120]
noncomputable def eN(c:Nat->Nat):List (List Nat):=[fX c 0,fX c 1,fX c 2,fX c 3]
noncomputable def ft(c:Nat->Nat):List (List Nat):=[bq c 1,bq c 2,bq c 3,bq c 4]
noncomputable def iJ(c:Nat->Nat):Str:=Txt.join "\n" ((eN c).map sl)
noncomputable def HB(S:PV)(c:Nat->Nat)(ls:List (List Nat))(o:Option (PV×PV))(rest:SE):SE:=[nm "script" S,ow "cells" (eK c),ow "leads" (.lst (cr ls))]++(match o with|none=>[]|some (s,n)=>[nm "spot" s,nm "number" n])++rest
theorem pD:iW.length=48:=by kernel_rfl
theorem FA:(iW.all λw=>decide (1<=w.length) && decide (w.length<=3))=true:=by kernel_rfl
theorem lA(k:Nat)(h:k < 48):(iW.map PV.str)[k]?=some (.str (cM k))/\1<=(cM k).length/\(cM k).length<=3:=by
 have h':k < iW.length:=by rw[pD];exact h
 unfold cM;rw[aS,ax h',aw,ax h'];refine⟨rfl,?_⟩
 have:=bj.mp FA _ (eX h')
 simpa using this
theorem jf(l:List Nat)(x:Nat):(gP l x).length<=7:=by
 unfold gP lw;rw[aB,bK];have h1:x / 9216 % 6 < 6:=aY _ (pn [] 0x1D6808);have h2:x / 2304 % 4 < 4:=aY _ (pn [] 0x1D4808);generalize x / 2304 % 4=k at h2;have h3:([[],[32],[9],[32,9]].getD k []:List Nat).length<=2:=by
  rcases(show k=0\/k=1\/k=2\/k=3 by exact id ((pn [_] 0x1F1F1F2D3802D2802D1802D0801D480) h2)) with rfl|rfl|rfl|rfl<;>decide
 exact id ((pn [_,_,_] 0x0D78A10C200D2811D680) h1 h3)
theorem D4(script:List Int)(hs:script.length<=1000):∃c:Nat->Nat,eE o0 yg.W 120 yg.params yg.scope yg.body [.lst (script.map .int)]=some (.tup [eK c,.lst (cr (ft c)),.str (iJ c)]):=by
 generalize hS:PV.lst (script.map .int)=S
 let ff:((Nat->Nat)×Option (PV×PV))->Int×Nat->((Nat->Nat)×Option (PV×PV)):=λa x=>(I6 a.1 (x.2 % 5) (a.1 (x.2 % 5)+(eT x.1 276480).toNat),some (.int (x.2:Int),.int x.1))
 let xs:=(script.take 60).zipIdx
 have hxl:xs.length<=60:=by show((script.take 60).zipIdx).length<=60;rw[List.length_zipIdx,bK];exact id (pn [_] 0x0D3C190C03C19)
 generalize hr:xs.foldl ff (yu,none)=r;obtain⟨c,last⟩:=r;refine⟨c,?_⟩;refine dT (σ:=[nm "script" S]) (by kernel_rfl) (by kernel_rfl) (aL:=[]) ?_;show exs _ _ _ (bg 158).names _ (de 158)=_
 conv=>lhs;arg 6;whnf
 refine(aq (aL:=HB S yu [[]] none []) (by rfl)).trans ?_;refine fY (λa=>HB S a.1 [[]] a.2 []) (λJ J=>True) ff (λx=>.tup [.int (x.2:Int),.int x.1]) 30 xs (yu,none) rfl ?_ (by exact id ((pn [_] 0x0D7519A18A01E190D3C190) hxl)) trivial ?_ ?_
 ·refine(wk (l:=(script.take 60).map .int) (by rfl) (by rfl) ?_ (by rw[aa,bK];exact id (pn [_] 0x0D100000390C03C19))).trans (by rw[sE])
  subst hS;refine iD (b:=.lst (script.map .int)) (l:=none) (h:=some (60:Nat)) (by rfl) (by rfl) (by rfl) (kn (by rw[aa];exact id ((pn [_] 0x0D1000003900D03E8290) hs)) ?_);rw[zn,List.map_take]
 ·intro i a x n hx _
  obtain⟨c,l⟩:=a;obtain⟨num,spot⟩:=x;refine⟨trivial,HB S c [[]] (some (.int (spot:Int),.int num)) [],by cases l<;>kernel_rfl,?_⟩;refine(aq (aL:=HB S (I6 c (spot % 5) (c (spot % 5)+(eT num 276480).toNat)) [[]] (some (.int (spot:Int),.int num)) []) ?_).trans (by rfl);have hnn:0<=eT num 276480:=Int.fmod_nonneg_of_pos num (by decide);have hm:spot % 5 < 5:=aY _ (pn [] 0x1D5808);have hv:some (PV.int (eT num 276480))=some (.int ((eT num 276480).toNat:Int)):=by rw[Int.toNat_of_nonneg hnn]
  have hi:some (PV.int (eT (spot:Int) 5))=some (.int ((spot % 5:Nat):Int)):=by rw[gp _ (pn [] 0x0E5808)];rfl
  generalize(eT num 276480).toNat=d at hv;generalize spot % 5=k at hi hm;refine(sL (c:=eK c) (k:=.int (k:Int)) (a:=(c k:Int)) (b:=(d:Int)) (c':=eK (I6 c k (c k+d))) (by rfl) (by rfl) ?_ ?_ ?_ ?_).trans (by rfl)
  ·exact Eq.trans (b:=some (PV.int (eT (spot:Int) 5))) (by rfl) hi
  ·rcases(show k=0\/k=1\/k=2\/k=3\/k=4 by exact id ((pn [_] 0x1F1F1F1F2D4802D3802D2802D1802D0801D580) hm)) with rfl|rfl|rfl|rfl|rfl<;>kernel_rfl
  ·exact Eq.trans (b:=some (PV.int (eT num 276480))) (by rfl) hv
  ·rcases(show k=0\/k=1\/k=2\/k=3\/k=4 by exact id ((pn [_] 0x1F1F1F1F2D4802D3802D2802D1802D0801D580) hm)) with rfl|rfl|rfl|rfl|rfl<;>kernel_rfl
 intro b hb _;rw[hr]at hb;subst hb;dsimp only;refine(aq (aL:=HB S c [[]] last [nm "words" (.lst (iW.map .str))]) (by cases last<;>kernel_rfl)).trans ?_;refine fY (λ(a:List (List Nat)×Option Nat)=>HB S c a.1 last ([nm "words" (.lst (iW.map .str))]++(match a.2 with|none=>[]|some x=>[nm "cell" (.int (x:Int))]))) (λi a=>a.1≠[]/\a.1.length<=i+1/\∀l∈a.1,l.length<=7) (λa x=>(a.1++[gP (a.1.getLastD []) x],some x)) (λx=>.int (x:Int)) 30 [c 0,c 1,c 2,c 3] ([[]],none) rfl ?_ ?_ ?_ ?_ ?_
 ·cases last<;>kernel_rfl
 ·show 30+4+1<=_
  decide
 ·exact⟨by simp,aK _,λl hl=>by rcases aA.mp hl with rfl;exact bz _⟩
 ·intro i a x n hx hP
  obtain⟨ls,l⟩:=a;refine iQ hP ?_;clear hP;intro h1 h2 h3;dsimp only at h1 h2 h3;have hi:i < 4:=by
   rw[au]at hx;refine xE hx ?_;clear hx;intro h _;exact h
  refine⟨⟨by simp,by dsimp only;rw[aB];simp;exact id ((pn [_,_] 0x0DA18100DA1810) h2),?_⟩,?_⟩
  ·intro l hl
   rcases aP.mp hl with hl|hl
   ·exact h3 l hl
   ·rcases aA.mp hl with rfl;exact jf _ _
  have hlast:ls.getLast?=some (ls.getLastD []):=by rw[ee,fh h1];rfl
  have hmem:ls.getLastD []∈ls:=by rw[ee,fh h1];exact List.getLast_mem h1
  have hll:=h3 _ hmem;generalize ls.getLastD []=top at *
  refine⟨HB S c ls last [nm "words" (.lst (iW.map .str)),nm "cell" (.int (x:Int))],by cases last<;>cases l<;>kernel_rfl,?_⟩;refine(aq (aL:=HB S c (ls++[gP top x]) last [nm "words" (.lst (iW.map .str)),nm "cell" (.int (x:Int))]) ?_).trans (by rfl);refine(pW (l:=cr ls) (u:=.str (sl (gP top x))) (by cases last<;>kernel_rfl) ?_ ?_).trans ?_
  ·have:decide ((cr ls).length<=1048576)=true:=decide_eq_true (by unfold cr;rw[aa];exact id ((pn [_,_] 0x0D1000003901D4810DA1810) h2 hi))
   rw[this];rfl
  ·have hk:x / 2304 % 4 < 4:=aY _ (pn [] 0x1D4808)
   refine aV (a:=.str (sl (top.take (x / 9216 % 6)))) (b:=.str (sl (lw (x / 2304 % 4)))) ?_ ?_ ?_
   ·show ev _ _ _ _ _=_
    refine iD (b:=.str (sl top)) (l:=none) (h:=some ((x / 9216 % 6:Nat):Int)) ?_ (by cases last<;>kernel_rfl) (o9 ?_) ?_
    ·show ev _ _ _ _ _=_
     refine bp (b:=.lst (cr ls)) (k:=.int (-1)) (by cases last<;>kernel_rfl) (by cases last<;>kernel_rfl) (by cases last<;>kernel_rfl) (mV ?_ ?_)
     ·unfold cr;rw[List.getLast?_map,hlast];rfl
     ·unfold cr;rw[aa];exact id ((pn [_,_] 0x0D1000003901D4810DA1810) h2 hi)
    ·refine aV (a:=.int ((x / 9216:Nat):Int)) (b:=.int ((6:Nat):Int)) ?_ (by rfl) (d9 (pn [] 0x1D6808))
     show ev _ _ _ _ _=_;exact aV (a:=.int (x:Int)) (b:=.int ((9216:Nat):Int)) (by cases last<;>kernel_rfl) (by kernel_rfl) (e8 (pn [] 0x1D24002908) (pn [] 0x1D010000000059240029))
    ·show(if(sl top).length<=1048576 then some (PV.str ⟨(qK top none (some ((x / 9216 % 6:Nat):Int))).toArray⟩) else none)=_
     rw[dZ,if_pos (by exact id ((pn [_] 0x0D1000003900D780) hll)),zn];rfl
   ·refine bp (b:=.lst (cr [[],[32],[9],[32,9]])) (k:=.int ((x / 2304 % 4:Nat):Int)) (by rfl) (by rfl) ?_ (eR ?_ (by decide))
    ·refine aV (a:=.int ((x / 2304:Nat):Int)) (b:=.int ((4:Nat):Int)) ?_ (by rfl) (d9 (pn [] 0x1D4808))
     show ev _ _ _ _ _=_;exact aV (a:=.int (x:Int)) (b:=.int ((2304:Nat):Int)) (by cases last<;>kernel_rfl) (by kernel_rfl) (e8 (pn [] 0x1D09002908) (pn [] 0x1D010000000059090029))
    ·generalize x / 2304 % 4=k at hk
     rcases(show k=0\/k=1\/k=2\/k=3 by exact id ((pn [_] 0x1F1F1F2D3802D2802D1802D0801D480) hk)) with rfl|rfl|rfl|rfl<;>rfl
   ·have hpl:(lw (x / 2304 % 4)).length<=2:=by
     generalize x / 2304 % 4=k at hk;rcases(show k=0\/k=1\/k=2\/k=3 by exact id ((pn [_] 0x1F1F1F2D3802D2802D1802D0801D480) hk)) with rfl|rfl|rfl|rfl<;>decide
    rw[add_str (by rw[dZ,bK];exact id ((pn [_,_] 0x0D100000390C010D780) hll)) (by rw[dZ];exact id ((pn [_] 0x0D1000003900D280) hpl)),oj];rfl
  ·rw[show(cr ls++[PV.str (sl (gP top x))])=cr (ls++[gP top x]) from by unfold cr;rw[aT];rfl]
   cases last<;>kernel_rfl
 intro b hb _;have hb:b=([]::ft c,some (c 3)):=hb;subst hb;dsimp only
 let ws:Str×(Bool×PV):=nm "words" (.lst (iW.map .str))
 have hw3:∀k,(cM (k % 48)).length<=3:=λk=>(lA (k % 48) (aY _ (pn [] 0x1D301908))).2.2;have hol:∀k,(wV (k % 5)).length<=1:=by
  intro k;have hk:k % 5 < 5:=aY _ (pn [] 0x1D5808);generalize k % 5=k at hk;rcases(show k=0\/k=1\/k=2\/k=3\/k=4 by exact id ((pn [_] 0x1F1F1F1F2D4802D3802D2802D1802D0801D580) hk)) with rfl|rfl|rfl|rfl|rfl<;>decide
 have htl:∀i,(fM c i).length<=8:=by
  intro i;have h1:=hw3 (c i);have h2:=hw3 (c i / 48);have h3:=hol (c i / 55296);unfold fM;rw[aB,aB,aB];have e1:∀s:Str,s.cps.toList.length=s.length:=λs=>bG;rw[e1,e1];simp only[pw];exact id ((pn [_,_,_] 0x0D88A2A1A1800D1820D3810D380) h1 h2 h3)
 have hla:∀i,(bq c (i+1)).length<=7:=λi=>jf _ _;have hll:∀i,(fX c i).length<=18:=by
  intro i
  have:=htl i;have:=hla i
  unfold fX;rw[aB,aB];simp only[am,ce];exact id ((pn [_,_] 0x0D1219AA18A18A1808A010D7810D880) ‹_› this)
 refine(aq (aL:=HB S c ([]::ft c) last [ws,nm "cell" (.int (c 3:Int)),nm "texts" (.lst (cr ([0,1,2,3].map (fM c))))]) ?_).trans ?_
 ·refine(ba (u:=.lst (cr ([0,1,2,3].map (fM c)))) (by rfl) ?_).trans (by cases last<;>kernel_rfl)
  refine fj (λ(i:Nat)=>.str (sl (fM c i))) (λ(i:Nat)=>.tup [.int (i:Int),.int (c i:Int)]) 30 [0,1,2,3] (by rfl) (by cases last<;>kernel_rfl) (by cases last<;>kernel_rfl) ?_ (by decide) ?_
  ·show 30+4+1<=_
   decide
  ·intro i m hi
   have hi5:i < 4:=by simp at hi;exact id ((pn [_] 0x1D4801F1F1F2D3802D2802D1802D080) hi)
   refine⟨[ws,nm "spot" (.int (i:Int)),nm "cell" (.int (c i:Int))],by cases last<;>kernel_rfl,by kernel_rfl,?_⟩;have h1:=hw3 (c i);have h2:=hw3 (c i / 48);have h3:=hol (c i / 55296);have e1:∀s:Str,sl s.cps.toList=s:=λs=>qT rfl;refine aV (a:=.str (cM (c i % 48)++sl [97+i]++cM (c i / 48 % 48))) (b:=.str (sl (wV (c i / 55296 % 5)))) ?_ ?_ ?_
   ·show ev _ _ _ _ _=_
    refine aV (a:=.str (cM (c i % 48)++sl [97+i])) (b:=.str (cM (c i / 48 % 48))) ?_ ?_ (add_str ?_ ?_)
    ·show ev _ _ _ _ _=_
     refine aV (a:=.str (cM (c i % 48))) (b:=.str (sl [97+i])) ?_ ?_ (add_str (by exact id ((pn [_] 0x0D1000003900D380) h1)) (by rw[dZ];simp))
     ·show ev _ _ _ _ _=_
      refine bp (b:=.lst (iW.map .str)) (k:=.int ((c i % 48:Nat):Int)) (by rfl) (by rfl) ?_ (eR (lA _ (aY _ (pn [] 0x1D301908))).1 (by rw[aa,pD];exact id (pn [] 0x0D100000393019)));exact aV (a:=.int (c i:Int)) (b:=.int ((48:Nat):Int)) (by rfl) (by rfl) (d9 (pn [] 0x1D301908))
     ·rcases(show i=0\/i=1\/i=2\/i=3 by exact id ((pn [_] 0x1F1F1F2D3802D2802D1802D0801D480) hi5)) with rfl|rfl|rfl|rfl<;>kernel_rfl
    ·refine bp (b:=.lst (iW.map .str)) (k:=.int ((c i / 48 % 48:Nat):Int)) (by rfl) (by rfl) ?_ (eR (lA _ (aY _ (pn [] 0x1D301908))).1 (by rw[aa,pD];exact id (pn [] 0x0D100000393019)))
     refine aV (a:=.int ((c i / 48:Nat):Int)) (b:=.int ((48:Nat):Int)) ?_ (by rfl) (d9 (pn [] 0x1D301908));show ev _ _ _ _ _=_;exact aV (a:=.int (c i:Int)) (b:=.int ((48:Nat):Int)) (by rfl) (by rfl) (e8 (pn [] 0x1D301908) (pn [] 0x1D0100000000593019))
    ·rw[Str.length_append,dZ];simp only[pw];exact id ((pn [_] 0x0D10000039A1800D380) h1)
    ·exact id ((pn [_] 0x0D1000003900D380) h2)
   ·refine bp (b:=.lst (cr [[97],[98],[99],[100],[]])) (k:=.int ((c i / 55296 % 5:Nat):Int)) (by rfl) (by rfl) ?_ (eR ?_ (by decide))
    ·refine aV (a:=.int ((c i / 55296:Nat):Int)) (b:=.int ((5:Nat):Int)) ?_ (by rfl) (d9 (pn [] 0x1D5808))
     show ev _ _ _ _ _=_;exact aV (a:=.int (c i:Int)) (b:=.int ((55296:Nat):Int)) (by rfl) (by rfl) (e8 (pn [] 0x1DD8002908) (pn [] 0x1D010000000059D80029))
    ·have hk:c i / 55296 % 5 < 5:=aY _ (pn [] 0x1D5808)
     generalize c i / 55296 % 5=k at hk;rcases(show k=0\/k=1\/k=2\/k=3\/k=4 by exact id ((pn [_] 0x1F1F1F1F2D4802D3802D2802D1802D0801D580) hk)) with rfl|rfl|rfl|rfl|rfl<;>rfl
   ·rw[add_str (by rw[Str.length_append,Str.length_append,dZ];simp only[pw];exact id ((pn [_,_] 0x0D10000039A1A1800D3810D380) h1 h2)) (by rw[dZ];exact id ((pn [_] 0x0D1000003900D180) h3))]
    unfold fM;rw[<- oj,<- oj,<- oj,e1,e1]
 ·refine bE (oU (fG (ar (by cases last<;>kernel_rfl) (ar (by cases last<;>kernel_rfl) (ar ?_ aR)))))
  refine xW (s:="\n") (vs:=[.lst (((eN c).map sl).map .str)]) (by rfl) (by rfl) (ar ?_ aR) ?_
  ·refine(cJ (items:=lW (cr (ft c)) (cr ([0,1,2,3].map (fM c)))) (rs:=([0,1,2,3].filter λJ=>true).map λ(i:Nat)=>(.none,.str (sl (fX c i)))) (by rfl) ?_ ?_ (by simp)).trans (by rfl)
   ·exact qJ (l:=cr (ft c)) (m:=cr ([0,1,2,3].map (fM c))) (by cases last<;>kernel_rfl) (by kernel_rfl) (by cases last<;>kernel_rfl) (by cases last<;>kernel_rfl) (by unfold cr ft;simp) (by unfold cr;simp)
   ·refine cN (λJ=>true) (λ(i:Nat)=>.str (sl (fX c i))) (λ(i:Nat)=>.tup [.str (sl (bq c (i+1))),.str (sl (fM c i))]) 30 (by cases last<;>kernel_rfl) [0,1,2,3] _ ?_ ?_
    ·show 30+4+1<=_
     decide
    ·intro i m hi
     have h1:=htl i;have h2:=hla i;refine⟨[nm "lead" (.str (sl (bq c (i+1)))),nm "text" (.str (sl (fM c i)))],by cases last<;>kernel_rfl,by kernel_rfl,λJ=>?_⟩;refine aV (a:=.str (sl (bq c (i+1)++fM c i))) (b:=.str (sl [32,9,120])) ?_ (by rfl) ?_
     ·show ev _ _ _ _ _=_
      exact aV (a:=.str (sl (bq c (i+1)))) (b:=.str (sl (fM c i))) (by rfl) (by rfl) ((add_str (by rw[dZ];exact id ((pn [_] 0x0D1000003900D780) h2)) (by rw[dZ];exact id ((pn [_] 0x0D1000003900D880) h1))).trans (by rw[oj]))
     ·exact(add_str (by rw[dZ,aB];exact id ((pn [_,_] 0x0D10000039A010D7810D880) h1 h2)) (by rw[dZ];simp)).trans (by rw[oj];rfl)
  ·show(match l5 (((eN c).map sl).map PV.str) with|some ss=>if JoinOk "\n" ss then some (PV.str (Txt.join "\n" ss)) else none|none=>none)=_
   rw[zJ];dsimp only;have hj:JoinOk "\n" ((eN c).map sl)=true:=by
    unfold JoinOk;rw[StrLaws.joinTotal]
    have:Str.length "\n"=1:=by decide
    rw[this];unfold eN;simp only[ao,c6,cg,List.sum_nil,am,ce,dZ]
    have:=hll 0;have:=hll 1;have:=hll 2;have:=hll 3
    unfold Builtin.Str.tooLong;rw[mI,decide_eq_false_iff_not,bn];lia
   rw[if_pos hj];rfl
end
end Mine
end
section
namespace Mine
noncomputable section
noncomputable def jP(t:js)(side:List Int)(node:Int):List (Int×Int):=((kE t node).getD []).filter λp=>bo side p.1 != bo side node
noncomputable def DP(t:js)(side:List Int):List (Int×Int):=(t.map (·.1)).foldl (λfl node=>gZ fl (jP t side node)) []
noncomputable def mv(t:js)(side:List Int):Int:=ct (DP t side)
noncomputable def Hq(T S:PV)(a:List (Int×Int)×Option PV):SE:=[nm "table" T,nm "side" S,nm "flow" (aZ a.1)]++(match a.2 with|none=>[]|some n=>[nm "node" n])
theorem GU{t:js}{ss:List Int}(hl:t.length<=8)(hs:ss.length<=20)(hn:(t.map (·.1)).Nodup)(ht:∀p∈t,x0 p.2):
  eE o1 Dd.W 100 Dd.params Dd.scope Dd.body [dQ t,aU ss]=some (.int (mv t ss)):=by
 generalize hT:dQ t=T;refine dT (σ:=[nm "table" T,nm "side" (aU ss)]) (by kernel_rfl) (by kernel_rfl) (aL:=[]) ?_;show exs _ _ _ (bg 183).names _ (de 183)=_
 conv=>lhs;arg 6;whnf
 refine(aq (aL:=Hq T (aU ss) ([],none)) (by rfl)).trans ?_;refine fY (Hq T (aU ss)) (λi a=>a.1.length<=2 * i) (λa x=>(gZ a.1 (jP t ss x),some (PV.int x))) (λx=>.int x) 50 (t.map (·.1)) ([],none) rfl ?_ ?_ (aK _) ?_ ?_
 ·subst hT
  refine Eq.trans (b:=if(t.map λp=>(p.1,aZ p.2)).length<=1048576 then some ((t.map λp=>(p.1,aZ p.2)).map λkv=>PV.int kv.1) else none) (by rfl) ?_;rw[if_pos (by rw[aa];exact id ((pn [_] 0x0D1000003900D880) hl)),aj,aj];rfl
 ·rw[aa];exact id ((pn [_] 0x0D6119A18A032190D880) hl)
 ·intro i a x m hx hP
  obtain⟨fl,l⟩:=a;dsimp only at hP;have hi:i < t.length/\∃r,(x,r)∈t:=by
   have h2:=aQ hx;rw[au]at hx;refine xE hx ?_;clear hx;intro h1 _;rw[aa]at h1;refine bC (aG.mp h2) ?_;intro p hp e;exact⟨h1,p.2,by rw[<- e];exact hp⟩
  obtain⟨hi,r,hm⟩:=hi;have hr:kE t x=some r:=mO hn hm;refine xA (ht _ hm) ?_;intro hr2 hrn;dsimp only at hr2 hrn;have hsel:jP t ss x=r.filter λp=>bo ss p.1 != bo ss x:=by unfold jP;rw[hr];rfl
  have hsell:(jP t ss x).length<=2:=by
   rw[hsel];have:=aJ (λ(p:Int×Int)=>bo ss p.1 != bo ss x) r;exact id ((pn [_,_] 0x0D2810D010D280) hr2 this)
  have hseln:((jP t ss x).map (·.1)).Nodup:=by
   rw[hsel];exact List.Nodup.sublist (List.Sublist.map _ List.filter_sublist) hrn
  refine⟨by have:=xj fl (jP t ss x);dsimp only;exact id ((pn [_,_,_,_] 0x0D4CA1812830DA2030D2820D4C1280) hP hsell this),Hq T (aU ss) (fl,some (.int x)),by cases l<;>kernel_rfl,?_⟩;refine(aq (aL:=Hq T (aU ss) (gZ fl (jP t ss x),some (.int x))) ?_).trans (by rfl);refine(ba (u:=aZ (gZ fl (jP t ss x))) (by rfl) ?_).trans (by rfl);refine jo (vs:=[aZ fl,aZ (jP t ss x)]) (by rfl) (ar (by rfl) (ar ?_ aR)) (by rfl) (Ag (by exact id ((pn [_,_,_] 0x0D141911D020D4C22810D880) hl hP hi)) (by exact id ((pn [_] 0x0D141900D280) hsell)));refine(iy (items:=r.map λp=>.tup [.int p.1,.int p.2]) (rs:=(r.filter λp=>bo ss p.1 != bo ss x).map λp=>(.int p.1,.int p.2)) (by rfl) ?_ ?_ ?_).trans ?_
  ·subst hT
   refine Eq.trans (wx (v:=.its (r.map λp=>(p.1,PV.int p.2))) ?_) ?_
   ·refine sC (l:=r.map λp=>(p.1,PV.int p.2)) (vs:=[]) (by rfl) ?_ aR (by rfl)
    refine bp (b:=dQ t) (k:=.int x) (by rfl) (by rfl) (by rfl) ?_;show eH _ _=_;rw[mu aZ t x,hr];rfl
   ·refine Eq.trans (b:=if(r.map λp=>(p.1,PV.int p.2)).length<=1048576 then some ((r.map λp=>(p.1,PV.int p.2)).map λkv=>PV.tup [.int kv.1,kv.2]) else none) (by rfl) ?_
    rw[if_pos (by rw[aa];exact id ((pn [_] 0x0D1000003900D280) hr2)),vY]
  ·refine fH (λp=>bo ss p.1 != bo ss x) (λp=>.int p.2) (λp=>.int p.1) (λp=>.tup [.int p.1,.int p.2]) 30 (by kernel_rfl) r _ ?_ ?_
   ·exact id ((pn [_,_] 0x0DA2E191A18A01E190D280) hr2)
   ·intro p q hp
    refine⟨[nm "side" (aU ss),nm "node" (.int x),nm "one" (.int p.1),nm "many" (.int p.2)],by rfl,?_,λJ=>⟨by rfl,by rfl⟩⟩;refine bN (bV (db (a:=.bool (bo ss p.1)) (b:=.bool (bo ss x)) ?_ (by rfl) ?_ ?_))
    ·refine mB (a:=.int p.1) (b:=aU ss) (by rfl) (by rfl) (by rfl) (by rfl) ?_
     exact dW ss p.1
    ·refine mB (a:=.int x) (b:=aU ss) (by rfl) (by rfl) (by rfl) (by rfl) ?_
     exact dW ss x
    ·cases bo ss p.1<;>cases bo ss x<;>rfl
  ·rw[aa,<- hsel];exact id ((pn [_] 0x0D1000003900D280) hsell)
  ·rw[<- hsel]
   have:=dN ((jP t ss x).map λp=>(p.1,PV.int p.2)) [] (by rw[dJ,aj];exact hseln)
   rw[aj]at this;show cu PV.dct (cD ((jP t ss x).map ((λp=>(PV.int p.1,p.2)) ∘ λp=>(p.1,PV.int p.2))) [])=_;rw[this];rfl
 ·intro b hb hP
  have e:=G0 (f:=λfl x=>gZ fl (jP t ss x)) (g:=PV.int) (t.map (·.1)) [];rw[aa]at hP;obtain⟨fl,l⟩:=b;dsimp only at hP;have e:fl=DP t ss:=by
   have:(fl,l).1=_:=congrArg Prod.fst hb
   exact this.trans e
  subst e;refine bE (oU (fq (v':=aZ (DP t ss)) (v:=aZ (DP t ss)) (by cases l<;>kernel_rfl) (by cases l<;>kernel_rfl) (by kernel_rfl) (by cases l<;>kernel_rfl) (Bn (by exact id ((pn [_,_] 0x0D3C1910D4C02810D880) hl hP)))))
end
end Mine
end
section
namespace Mine
noncomputable section
noncomputable def fA(own:List (Int×Int))(r:List Int):List Int:=match gI own (r.getLastD 0) with
 |some v=>r++[v]
 |none=>r
noncomputable def roadF(own:List (Int×Int))(n:Int):List Int:=fA own (fA own (fA own (fA own [n])))
noncomputable def AN(O N:PV)(a:List Int×Option PV):SE:=[nm "owners" O,nm "node" N,nm "road" (aU a.1)]++(match a.2 with|none=>[]|some t=>[nm "turn" t])
theorem Dg{own:List (Int×Int)}{n:Int}(hl:own.length<=20):
  eE o0 ye.W 120 ye.params ye.scope ye.body [aZ own,.int n]=some (aU (roadF own n)):=by
 generalize hT:aZ own=T;refine dT (σ:=[nm "owners" T,nm "node" (.int n)]) (by kernel_rfl) (by kernel_rfl) (aL:=[]) ?_;show exs _ _ _ (bg 200).names _ (de 200)=_
 conv=>lhs;arg 6;whnf
 refine(aq (aL:=AN T (.int n) ([n],none)) (by rfl)).trans ?_;refine fY (AN T (.int n)) (λi a=>a.1≠[]/\a.1.length<=i+1) (λa (x:Nat)=>(fA own a.1,some (PV.int ((0:Int)+(x:Int))))) (λ(x:Nat)=>.int ((0:Int)+(x:Int))) 50 [0,1,2,3] ([n],none) rfl ?_ ?_ ?_ ?_ ?_
 ·exact(sG (j:=4) (by rfl) (by rfl) (by rfl)).trans (by rfl)
 ·decide
 ·exact⟨by simp,aK _⟩
 ·intro i a x m hx hP
  obtain⟨rd,l⟩:=a;refine xA hP ?_;clear hP;intro h1 h2;dsimp only at h1 h2;have hi:i < 4:=by
   rw[au]at hx;exact hx.1
  have hlast:rd.getLast?=some (rd.getLastD 0):=by rw[ee,fh h1];rfl
  refine⟨?_,AN T (.int n) (rd,some (.int ((0:Int)+(x:Int)))),by cases l<;>kernel_rfl,?_⟩
  ·show fA own rd≠[]/\(fA own rd).length<=_
   unfold fA
   cases gI own (rd.getLastD 0) with
   |none=>exact⟨h1,by dsimp only;exact id ((pn [_,_] 0x0DA18A18100DA1810) h2)⟩
   |some v=>exact⟨by simp,by dsimp only;rw[aB];simp;exact id ((pn [_,_] 0x0DA18100DA1810) h2)⟩
  have hrl:(rd.map PV.int).getLast?=some (.int (rd.getLastD 0)):=by rw[List.getLast?_map,hlast];rfl
  have hrlen:(rd.map PV.int).length<=1048576:=by rw[aa];exact id ((pn [_,_] 0x0D1000003901D4810DA1810) h2 hi)
  refine(aq (aL:=AN T (.int n) (fA own rd,some (.int ((0:Int)+(x:Int))))) ?_).trans (by rfl);refine(ba (u:=aU (fA own rd)) (by rfl) ?_).trans (by rfl);refine gV (c:=(gI own (rd.getLastD 0)).isSome) ?_ (λhc=>?_) (λhc=>?_)
  ·refine bV (mB (a:=.int (rd.getLastD 0)) (b:=T) ?_ (by rfl) (by rfl) (by rfl) ?_)
   ·exact bp (b:=aU rd) (k:=.int (-1)) (by rfl) (by rfl) (by rfl) (mV hrl hrlen)
   ·subst hT
    show some (eH _ _).isSome=_;rw[eG,dE]
  ·cases e:gI own (rd.getLastD 0) with
   |none=>rw[e]at hc;cases hc
   |some v=>
    refine aV (a:=aU rd) (b:=aU [v]) (by rfl) ?_ ((oH hrlen (by simp)).trans ?_)
    ·refine sF (ar ?_ aR)
     refine bp (b:=T) (k:=.int (rd.getLastD 0)) (by rfl) (by rfl) ?_ ?_
     ·exact bp (b:=aU rd) (k:=.int (-1)) (by rfl) (by rfl) (by rfl) (mV hrl hrlen)
     ·subst hT
      show eH _ _=_;rw[eG,e];rfl
    ·unfold fA;rw[e]
     show some (PV.lst (rd.map PV.int++[v].map PV.int))=some (.lst ((rd++[v]).map PV.int));rw[aT]
  ·cases e:gI own (rd.getLastD 0) with
   |some v=>rw[e]at hc;cases hc
   |none=>unfold fA;rw[e];rfl
 ·intro b hb _
  subst hb;exact bE (by rfl)
end
end Mine
end
section
namespace Mine
noncomputable section
abbrev TD:=List (Int×List Int)
noncomputable def eZ(l:List Int):PV:=.tup (l.map .int)
noncomputable def dL(d:TD):PV:=.dct (d.map λp=>(p.1,eZ p.2))
noncomputable def pT(d:TD)(k:Int)(v:List Int):TD:=if d.any (λp=>p.1=k) then d.map (λp=>if p.1=k then(p.1,v) else p) else d++[(k,v)]
noncomputable def gK(d:TD)(k:Int)(v:List Int):TD:=match kE d k with
 |some a=>pT d k (ot (·+·) v a)
 |none=>pT d k v
noncomputable def kr(t s:TD):TD:=s.foldl (λd p=>gK d p.1 p.2) (t.foldl (λd p=>pT d p.1 p.2) [])
def T4(d:TD):Prop:=∀p∈d,p.2.length=4
theorem zE(d:TD)(k:Int):eH (d.map λp=>(p.1,eZ p.2)) k=(kE d k).map eZ:=rV _ _ _
theorem JD(d:TD)(k:Int)(v:List Int):jD (d.map λp=>(p.1,eZ p.2)) k (eZ v)=(pT d k v).map λp=>(p.1,eZ p.2):=by
 unfold jD pT;rw[List.any_map];show(if d.any (λp=>decide (p.1=k))=true then _ else _)=_;split
 ·rw[aj,aj]
  refine eP λp J=>?_;dsimp only[Function.comp];by_cases h:p.1=k<;>simp[h]
 ·rw[aT];rfl
theorem y8(d:TD)(k:Int)(v:List Int):(pT d k v).length<=d.length+1:=by
 unfold pT;split<;>simp
theorem tV(d:TD)(k:Int)(v:List Int):(gK d k v).length<=d.length+1:=by
 unfold gK;split<;>exact y8 _ _ _
theorem Hk{d:TD}{k:Int}{v:List Int}(h:T4 d)(hv:v.length=4):T4 (pT d k v):=by
 intro p hp;unfold pT at hp;split at hp
 ·refine bC (aG.mp hp) ?_;intro q hq e
  by_cases hk:q.1=k
  ·rw[if_pos hk]at e;subst e;exact hv
  ·rw[if_neg hk]at e;subst e;exact h _ hq
 ·rcases aP.mp hp with hp|hp
  ·exact h _ hp
  ·rcases aA.mp hp with rfl;exact hv
theorem Ay{d:TD}{k:Int}{v:List Int}(h:T4 d)(hv:v.length=4):T4 (gK d k v):=by
 unfold gK
 cases e:kE d k with
 |none=>exact Hk h hv
 |some a=>exact Hk h (by rw[List.length_zipWith,hv,h _ (jU e)];rfl)
theorem Ab(d:TD):(d.map λp=>(p.1,eZ p.2)).map (λkv=>PV.tup [.int kv.1,kv.2])=d.map λp=>PV.tup [.int p.1,eZ p.2]:=by
 rw[aj];rfl
theorem pH{d:TD}{k:Int}{v:List Int}(h:d.length<=1048576):kZ (dL d) (.int k) (eZ v)=some (dL (pT d k v)):=by
 show(if(d.map λp=>(p.1,eZ p.2)).length<=1048576 then some (PV.dct (jD _ k (eZ v))) else none)=_;rw[if_pos (by simpa using h),JD];rfl
theorem vf:∀l:List Int,xg (l.map .int)=some l
 | []=>rfl
 |a::l=>ar (a:=PV.int a) (b:=a) rfl (vf l)
theorem I8{u v:List Int}(hu:u.length=4)(hv:v.length=4):zF (eZ u) (eZ v)=some (eZ (ot (·+·) u v)):=by
 refine(gg (a:=u.map PV.int) (b:=v.map PV.int) rfl rfl).trans ((gg (vf u) (vf v)).trans ?_);rw[if_pos ⟨by rw[hu,hv],by rw[hu];decide⟩];rfl
theorem rg{α β:Type}{f:α->β->α}:∀(ps:List β) (a:α×Option β),∃l1,ps.foldl (λ(a:α×Option β) p=>(f a.1 p,some p)) a=(ps.foldl f a.1,l1)
 | [],a=>⟨a.2,rfl⟩
 |p::ps,a=>rg ps (f a.1 p,some p)
noncomputable def nz(t s:PV)(a:TD×Option (Int×List Int)):SE:=
 [nm "target" t,nm "source" s,ow "new_callers" (dL a.1)]++(match a.2 with|none=>[]|some (k,v)=>[nm "func" (.int k),nm "caller" (eZ v)])
theorem Fs{t s:TD}(ht:t.length<=20)(hs:s.length<=20)(h4:T4 t)(hs4:T4 s):
  eE o0 u7.W 120 u7.params u7.scope u7.body [dL t,dL s]=some (dL (kr t s)):=by
 refine dT (σ:=[nm "target" (dL t),nm "source" (dL s)]) (by kernel_rfl) (by rfl) (aL:=[]) ?_;show exs _ _ _ (bg 56).names _ (de 56)=_
 conv=>lhs;arg 6;whnf
 refine(aq (aL:=nz (dL t) (dL s) ([],none)) (by rfl)).trans ?_;refine fY (nz (dL t) (dL s)) (λi a=>a.1.length<=i/\T4 a.1) (λa p=>(pT a.1 p.1 p.2,some p)) (λp=>.tup [.int p.1,eZ p.2]) 30 t ([],none) rfl ?_ (by exact id ((pn [_] 0x0D7519A18A01E190D14190) ht)) ⟨aK _,λJ h=>nomatch h⟩ ?_ ?_
 ·refine Eq.trans (b:=if(t.map λp=>(p.1,eZ p.2)).length<=1048576 then some ((t.map λp=>(p.1,eZ p.2)).map (λkv=>PV.tup [.int kv.1,kv.2])) else none) (by rfl) ?_
  rw[if_pos (by rw[aa];exact id ((pn [_] 0x0D1000003900D14190) ht)),Ab]
 ·intro i a x n hx ha
  have hi:i < t.length/\x∈t:=⟨by rw[au]at hx;exact hx.1,aQ hx⟩;refine⟨⟨aD (y8 _ _ _) (dm ha.1),Hk ha.2 (h4 _ hi.2)⟩,nz (dL t) (dL s) (a.1,some x),?_,?_⟩
  ·obtain⟨a,l⟩:=a
   cases l<;>kernel_rfl
  ·refine(aq (aL:=nz (dL t) (dL s) (pT a.1 x.1 x.2,some x)) ?_).trans (by rfl)
   exact(eA (c:=dL a.1) (k:=.int x.1) (u:=eZ x.2) (by rfl) (by rfl) (by rfl) (by rfl) (pH (by have:=ha.1;have:=hi.1;omega))).trans (by rfl)
 intro b hb hP;obtain⟨b,l1⟩:=b;dsimp only at hP;have e1:b=t.foldl (λd p=>pT d p.1 p.2) []:=by
  refine xE (rg (f:=λ(d:TD) (p:Int×List Int)=>pT d p.1 p.2) t ([],none)) ?_;intro l e;exact congrArg Prod.fst (hb.trans e)
 refine fY (nz (dL t) (dL s)) (λi a=>a.1.length<=i+20/\T4 a.1) (λa p=>(gK a.1 p.1 p.2,some p)) (λp=>.tup [.int p.1,eZ p.2]) 30 s (b,l1) rfl ?_ (by exact id ((pn [_] 0x0D7419A18A01E190D14190) hs)) ⟨by dsimp only;omega,hP.2⟩ ?_ ?_
 ·refine Eq.trans (b:=if(s.map λp=>(p.1,eZ p.2)).length<=1048576 then some ((s.map λp=>(p.1,eZ p.2)).map (λkv=>PV.tup [.int kv.1,kv.2])) else none) (by cases l1<;>kernel_rfl) ?_
  rw[if_pos (by rw[aa];exact id ((pn [_] 0x0D1000003900D14190) hs)),Ab]
 ·intro i a x n hx ha
  have hi:i < s.length/\x∈s:=⟨by rw[au]at hx;exact hx.1,aQ hx⟩;have hln:a.1.length<=1048576:=by have:=ha.1;have:=hi.1;omega
  refine⟨⟨aD (tV _ _ _) (by have:=ha.1;omega),Ay ha.2 (hs4 _ hi.2)⟩,nz (dL t) (dL s) (a.1,some x),?_,?_⟩
  ·obtain⟨a,l⟩:=a
   cases l<;>kernel_rfl
  ·refine(aq (aL:=nz (dL t) (dL s) (gK a.1 x.1 x.2,some x)) ?_).trans (by rfl)
   refine dh (c:=(eH (a.1.map λp=>(p.1,eZ p.2)) x.1).isSome) (by rfl) (λhc=>?_) (λhc=>?_)
   ·rw[zE,dE]at hc
    refine xE (hJ.mp hc) ?_;intro v hv;refine(aq (aL:=nz (dL t) (dL s) (gK a.1 x.1 x.2,some x)) ?_).trans (by rfl);refine dh (c:=true) (by kernel_rfl) (λJ=>?_) (λhc=>nomatch hc);refine(aq (aL:=nz (dL t) (dL s) (gK a.1 x.1 x.2,some x)) ?_).trans (by rfl);refine(eA (c:=dL a.1) (k:=.int x.1) (u:=eZ (ot (·+·) x.2 v)) (by rfl) (by rfl) ?_ (by rfl) (pH hln)).trans ?_
    ·refine IL (u:=eZ x.2) (v:=eZ v) (by rfl) (by rfl) (by rfl) (by rfl) (by rfl) ?_ (I8 (hs4 _ hi.2) (ha.2 _ (jU hv)))
     refine bp (b:=dL a.1) (k:=.int x.1) (by rfl) (by rfl) (by rfl) ?_;show eH _ _=_;rw[zE,hv];rfl
    ·unfold gK;rw[hv];rfl
   ·rw[zE,dE]at hc
    have hv:kE a.1 x.1=none:=by simpa using hc
    refine(aq (aL:=nz (dL t) (dL s) (gK a.1 x.1 x.2,some x)) ?_).trans (by rfl);refine(eA (c:=dL a.1) (k:=.int x.1) (u:=eZ x.2) (by rfl) (by rfl) (by rfl) (by rfl) (pH hln)).trans ?_;unfold gK;rw[hv];rfl
 intro c hc _;obtain⟨c,l2⟩:=c;have e2:c=kr t s:=by
  refine xE (rg (f:=λ(d:TD) (p:Int×List Int)=>gK d p.1 p.2) s (b,l1)) ?_;intro l e;have e3:=congrArg Prod.fst (hc.trans e);dsimp only at e3;rw[e3,e1];rfl
 rw[<- e2]
 cases l2<;>exact bE (by kernel_rfl)
end
end Mine
end
section
namespace Mine
noncomputable section
abbrev tz:=List (Int×Str)
noncomputable def tL(l:tz):PV:=.lst (l.map λp=>.tup [.int p.1,.str p.2])
noncomputable def eS(l:tz)(w:Int):Nat:=l.findIdx λp=>p.1 == w
noncomputable def wb(own:List (Int×Int))(pu:List (Int×Str))(l:tz)(node:Int):tz:=
 let w:=(gI own node).getD 0
 l.take (eS l w+1)++[(node,(l.getD (eS l w) default).2++(kE pu w).getD "")]++l.drop (eS l w+1)
noncomputable def MF(own:List (Int×Int))(pu:List (Int×Str))(order:List Int):tz:=order.tail.foldl (wb own pu) [(order.headD 0,"")]
theorem oG(k:Int):∀(l:List Int),k∈l->kM k (l.map .int)=some (l.findIdx (· == k))
 | [],h=>nomatch h
 |a::l,h=>by
  show(if(a == k)=true then(j0 k (l.map .int)).map λJ=>0 else(kM k (l.map .int)).map (·+1))=_;rw[mL];by_cases e:a=k
  ·rw[if_pos (beq_iff_eq.mpr e),dW,beq_iff_eq.mpr e];rfl
  ·have e':(a == k)=false:=beq_eq_false_iff_ne.mpr e
   have hm:k∈l:=(ai.mp h).elim (λq=>absurd q.symm e) id;rw[if_neg (by rw[e'];exact av),oG k l hm,e'];rfl
theorem Di{l:tz}{w:Int}(h:w∈l.map (·.1)):eS l w < l.length:=by
 refine bC (aG.mp h) ?_;intro p hp e;exact List.findIdx_lt_length_of_exists ⟨p,hp,beq_iff_eq.mpr e⟩
theorem xQ(l:tz)(w:Int):(l.map (·.1)).findIdx (· == w)=eS l w:=by
 induction l with
 |nil=>rfl
 |cons p l ih=>unfold eS at *;rw[ao,mL,mL,ih]
theorem Hx{own:List (Int×Int)}{pu:List (Int×Str)}{l:tz}{node:Int}:(wb own pu l node).length=l.length+1:=by
 unfold wb;dsimp only;rw[aB,aB,bK,eV];simp;exact id (pn [_,_] 0x2DA181ABA1801A180C1A180)
end
end Mine
end
section
namespace Mine
noncomputable section
noncomputable def Dh(O W P:PV)(a:tz×Option (PV×PV)):SE:=[nm "order" O,nm "owners" W,nm "pieces" P,nm "lines" (tL a.1)]++(match a.2 with|none=>[]|some (x,s)=>[nm "node" x,nm "spot" s])
theorem AO{α β γ:Type}(f:α->β->α)(g:α->β->γ):∀(xs:List β) (a:α×Option γ),(xs.foldl (λ(a:α×Option γ) x=>(f a.1 x,some (g a.1 x))) a).1=xs.foldl f a.1
 | [],a=>rfl
 |x::xs,a=>AO f g xs (f a.1 x,some (g a.1 x))
theorem zA{order:List Int}{own:List (Int×Int)}{pu:List (Int×Str)}(h0:order≠[])(hl:order.length<=10)(hq:own.length<=20)
  (hk:∀i x,order.tail[i]?=some x->∃w s,gI own x=some w/\w∈order.take (i+1)/\kE pu w=some s/\s.length<=2) :
  eE o0 oX.W 120 oX.params oX.scope oX.body [aU order,aZ own,za pu]=some (tL (MF own pu order)):=by
 obtain⟨a0,rest,rfl⟩:∃a r,order=a::r:=by cases order with
  |nil=>exact absurd rfl h0
  |cons a r=>exact⟨a,r,rfl⟩
 generalize hO:aU (a0::rest)=O;generalize hW:aZ own=W;generalize hP:za pu=P;refine dT (σ:=[nm "order" O,nm "owners" W,nm "pieces" P]) (by kernel_rfl) (by kernel_rfl) (aL:=[]) ?_;show exs _ _ _ (bg 193).names _ (de 193)=_
 conv=>lhs;arg 6;whnf
 have hol:((a0::rest).map PV.int).length<=1048576:=by rw[aa];exact id ((pn [_] 0x0D1000003900DA80) hl)
 refine(aq (aL:=Dh O W P ([(a0,"")],none)) ?_).trans ?_
 ·refine(ba (u:=tL [(a0,"")]) (by rfl) ?_).trans (by rfl)
  refine sF (ar ?_ aR);refine fG (ar ?_ (ar (by rfl) aR));subst hO;exact bp (b:=aU (a0::rest)) (k:=.int ((0:Nat):Int)) (by rfl) (by rfl) (by rfl) (eR (i:=0) (by rfl) hol)
 refine fY (Dh O W P) (λi a=>a.1.length=i+1/\(∀p∈a.1,p.2.length<=2 * i)/\∀w∈(a0::rest).take (i+1),w∈a.1.map (·.1)) (λa x=>(wb own pu a.1 x,some (.int x,.int (eS a.1 ((gI own x).getD 0):Int)))) (λx=>.int x) 60 rest ([(a0,"")],none) rfl ?_ (by rw[am]at hl;exact id ((pn [_] 0x0D7519A18A03C190DA8A180) hl)) ?_ ?_ ?_
 ·refine(vG (v:=.lst (rest.map .int)) ?_).trans ?_
  ·subst hO
   exact iD (b:=aU (a0::rest)) (l:=some ((1:Nat):Int)) (h:=none) (by rfl) (by rfl) (by rfl) (kn hol ((rh _ 1 (by simp)).trans (by rfl)))
  ·exact if_pos (by rw[aa];rw[am]at hl;exact id ((pn [_] 0x0D1000003900DA8A180) hl))
 ·refine⟨rfl,λp hp=>?_,λw hw=>?_⟩
  ·rcases aA.mp hp with rfl;exact bz _
  ·exact hw
 ·intro i a x m hx hI
  obtain⟨ls,l⟩:=a;refine iQ hI ?_;clear hI;intro g1 g2 g3;dsimp only at g1 g2 g3;obtain⟨w,s,k1,k2,k3,k4⟩:=hk i x hx;have hi:i < rest.length:=by rw[au]at hx;exact hx.1
  have hmem:w∈ls.map (·.1):=g3 w k2;have hlt:=Di hmem;rw[am]at hl;have hw:(gI own x).getD 0=w:=by rw[k1];rfl
  rw[hw];refine⟨⟨by dsimp only;rw[Hx,g1],?_,?_⟩,Dh O W P (ls,none)++(match l with|none=>[nm "node" (.int x)]|some (_,q)=>[nm "node" (.int x),nm "spot" q]),?_,?_⟩
  ·intro p hp
   have hp:p∈wb own pu ls x:=hp;unfold wb at hp;dsimp only at hp;rw[hw,k3]at hp;rcases aP.mp hp with hp|hp
   ·rcases aP.mp hp with hp|hp
    ·have:=g2 p (bQ hp);exact id ((pn [_,_] 0x0D4CA1812800D4C1280) this)
    ·rcases aA.mp hp with rfl
     have hg:=g2 _ (eX hlt);rw[aw,ax hlt];show(ls[eS ls w].2++s).length<=_;rw[Str.length_append];exact id ((pn [_,_,_,_,_] 0x0D4CA18428A030D4C42831D210D280) k4 hlt hg)
   ·have:=g2 p (List.mem_of_mem_drop hp);exact id ((pn [_,_] 0x0D4CA1812800D4C1280) this)
  ·intro v hv
   have key:∀q,q∈ls->q∈wb own pu ls x:=λq hq=>by
    unfold wb;dsimp only;rw[<- pA (eS ls ((gI own x).getD 0)+1) ls]at hq;rcases aP.mp hq with h|h
    ·exact du _ (du _ h)
    ·exact jM _ h
   rw[eY]at hv;rcases aP.mp hv with hv|hv
   ·refine bC (aG.mp (g3 v hv)) ?_;intro q hq e
    exact aG.mpr ⟨q,key q hq,e⟩
   ·rw[b0,hx]at hv
    rcases aA.mp hv with rfl
    refine aG.mpr ⟨(v,(ls.getD (eS ls w) default).2++s),?_,rfl⟩
    ·show _∈wb own pu ls v
     unfold wb;dsimp only;rw[hw,k3];exact du _ (jM _ (aA.mpr rfl))
  ·cases l<;>kernel_rfl
  have hlm:(ls.map λp=>PV.tup [.int p.1,.str p.2]).length<=1048576:=by rw[aa];exact id ((pn [_,_,_] 0x0D1000003911D022DA18210DA8A180) hl g1 hi)
  refine(aq (aL:=Dh O W P (ls,some (.int x,.int (eS ls w:Int)))) ?_).trans ?_
  ·refine(ba (u:=.int (eS ls w:Int)) (by rfl) ?_).trans (by cases l<;>kernel_rfl)
   refine FE (l:=(ls.map (·.1)).map .int) (vs:=[.int w]) (by rfl) ?_ (ar ?_ aR) ?_
   ·refine(cJ (items:=ls.map λp=>.tup [.int p.1,.str p.2]) (rs:=(ls.filter λJ=>true).map λp=>(.none,.int p.1)) (by rfl) ?_ ?_ ?_).trans ?_
    ·exact Eq.trans (b:=if(ls.map λp=>PV.tup [.int p.1,.str p.2]).length<=1048576 then some (ls.map λp=>PV.tup [.int p.1,.str p.2]) else none) (by cases l<;>kernel_rfl) (if_pos hlm)
    ·refine cN (λJ=>true) (λp=>.int p.1) (λp=>.tup [.int p.1,.str p.2]) 20 (by cases l<;>kernel_rfl) ls _ ?_ ?_
     ·exact id ((pn [_,_,_,_] 0x0DA38193A18A114191D022DA18210DA8A180) hl g1 hi)
     ·intro p k hp
      exact⟨[nm "line" (.tup [.int p.1,.str p.2])],by cases l<;>kernel_rfl,by rfl,λJ=>by kernel_rfl⟩
    ·rw[aa];have:=aJ (λ(_:Int×Str)=>true) ls;exact id ((pn [_,_,_,_] 0x0D1000003930D131D022DA18210DA8A180) hl g1 hi this)
    ·rw[bu.mpr (λJ J=>rfl),aj,aj];rfl
   ·refine bp (b:=W) (k:=.int x) (by rfl) (by cases l<;>rfl) (by cases l<;>rfl) ?_
    subst hW;show eH _ _=_;rw[eG,k1];rfl
   ·show(if((ls.map (·.1)).map PV.int).length<=1048576 then(kM w ((ls.map (·.1)).map .int)).map (λ(i:Nat)=>PV.int (i:Int)) else none)=_
    rw[if_pos (by rw[aa,aa];exact id ((pn [_,_,_] 0x0D1000003911D022DA18210DA8A180) hl g1 hi)),oG w _ hmem,xQ];rfl
  ·refine(aq (aL:=Dh O W P (wb own pu ls x,some (.int x,.int (eS ls w:Int)))) ?_).trans (by rfl)
   refine(ba (u:=tL (wb own pu ls x)) (by rfl) ?_).trans (by rfl);have hle:eS ls w+1<=(ls.map λp=>PV.tup [.int p.1,.str p.2]).length:=by rw[aa];exact id ((pn [_,_,_] 0x0D0A1821D022DA1810) g1 hlt)
   have hg:=g2 _ (eX hlt);have hsl:(ls.getD (eS ls w) default).2.length<=2 * i:=by rw[aw,ax hlt];exact hg
   have hre:wb own pu ls x=ls.take (eS ls w+1)++[(x,(ls.getD (eS ls w) default).2++s)]++ls.drop (eS ls w+1):=by unfold wb;dsimp only;rw[hw,k3];rfl
   have hat:(ls.map λp=>PV.tup [.int p.1,.str p.2])[eS ls w]?=some (.tup [.int (ls.getD (eS ls w) default).1,.str (ls.getD (eS ls w) default).2]):=by
    rw[aS,ax hlt,aw,ax hlt];rfl
   rw[hre];generalize eS ls w=k at hle hat hsl;generalize ls.getD k default=q at hat hsl
   let tp:Int×Str->PV:=λp=>.tup [.int p.1,.str p.2]
   have hl1:((ls.map tp).take (k+1)).length<=1048576:=by rw[bK];exact id ((pn [_,_,_,_] 0x0D100000390C2A1830D2A1830D1000003921D10) hlt hlm hle)
   have hl2:((ls.map tp).drop (k+1)).length<=1048576:=by rw[eV];exact aD (Nat.sub_le _ _) hlm
   have hk1:((k:Int)+1)=((k+1:Nat):Int):=by exact id ((pn [_,_,_] 0x2E2CA182A182C21D10) hlt)
   refine aV (a:=.lst ((ls.map tp).take (k+1)++[tp (x,q.2++s)])) (b:=.lst ((ls.map tp).drop (k+1))) ?_ ?_ ((oH (by rw[aB];simp;exact id ((pn [_,_,_,_,_,_] 0x0D0FFFFF390C1A1850D4A1850D1000003941D131D022DA18210DA8A180) hl g1 hi hlt hlm hle)) hl2).trans ?_)
   ·show ev _ _ _ _ _=_
    refine aV (a:=.lst ((ls.map tp).take (k+1))) (b:=.lst [tp (x,q.2++s)]) ?_ ?_ (oH hl1 (by simp))
    ·show ev _ _ _ _ _=_
     refine iD (b:=tL ls) (l:=none) (h:=some ((k+1:Nat):Int)) (by rfl) (by rfl) (o9 (by rw[<- hk1];rfl)) (kn hlm (zn _ _))
    ·refine sF (ar ?_ aR)
     refine fG (ar (by rfl) (ar ?_ aR));refine aV (a:=.str q.2) (b:=.str s) ?_ ?_ (add_str (by exact id ((pn [_,_,_,_,_] 0x0D1000003940D4C12841D321D010DA8A180) hl hi hlt hsl)) (by exact id ((pn [_,_,_] 0x0D1000003901D210D280) k4 hlt)))
     ·show ev _ _ _ _ _=_
      refine bp (b:=tp q) (k:=.int 1) (by rfl) ?_ (by rfl) (by rfl);show ev _ _ _ _ _=_;exact bp (b:=tL ls) (k:=.int (k:Int)) (by rfl) (by rfl) (by rfl) (eR hat hlm)
     ·refine bp (b:=P) (k:=.int w) (by rfl) (by rfl) ?_ ?_
      ·refine bp (b:=W) (k:=.int x) (by rfl) (by rfl) (by rfl) ?_
       subst hW;show eH _ _=_;rw[eG,k1];rfl
      ·subst hP
       show eH _ _=_;rw[mu,k3];rfl
   ·refine iD (b:=tL ls) (l:=some ((k+1:Nat):Int)) (h:=none) (by rfl) (o9 (by rw[<- hk1];rfl)) (by rfl) (kn hlm (rh _ _ hle))
   ·unfold tL;rw[aT,aT,List.map_take,List.map_drop];rfl
 ·intro b hb _
  obtain⟨b,l⟩:=b;have e:=AO (wb own pu) (λ(a:tz) x=>((PV.int x,PV.int (eS a ((gI own x).getD 0):Int)):PV×PV)) rest ([(a0,"")],none);have e2:b=MF own pu (a0::rest):=(congrArg Prod.fst hb).trans e;subst e2
  cases l<;>exact bE (by kernel_rfl)
end
end Mine
end
section
namespace Mine
abbrev mm:=Int->Bool
structure nB(F:mm->Int)(N:List Int):Prop where
 ext:∀A B:mm,(∀n∈N,A n=B n)->F A=F B
 sym:∀A:mm,F (λn=>!A n)=F A
 sub:∀A B:mm,F (λn=>A n && B n)+F (λn=>A n ||B n)<=F A+F B
noncomputable def sd(p q:List Int)(x:Int):Bool:=bo p x != bo q x
def Ch(F:mm->Int)(par fl:Int->Int)(U:List Int)(p q:List Int)(a b:Int)(Z:mm):Prop:=
 (Z a=true/\Z b=false)/\(∀n∈U,(par n=a->Z n=true)/\(par n=b->Z n=false))/\(∀S:mm,S a≠S b->F Z<=F S)/\(∃x,sd p q x=true/\fl x=F Z)/\∀x,sd p q x=true->F Z<=fl x
structure GH(F:mm->Int)(D U:List Int)(par fl:Int->Int)(rd:Int->List Int):Prop where
 pin:∀n∈U,par n∈D
 sub:∀a∈D,∀x∈rd a,x∈D
 two:∀a∈D,∀b∈D,a≠b->∃Z,Ch F par fl U (rd a) (rd b) a b Z
theorem Jo{a b c:Bool}(h:a≠b):a≠c\/c≠b:=by
 cases a<;>cases b<;>cases c<;>simp at h ⊢
theorem AL(p q:List Int)(x:Int):sd p q x=sd q p x:=by unfold sd;cases bo p x<;>cases bo q x<;>rfl
theorem Ch.flip{F:mm->Int}{par fl:Int->Int}{U N:List Int}{p q:List Int}{a b:Int}{Z:mm}(c:nB F N)(h:Ch F par fl U p q a b Z):Ch F par fl U q p b a (λn=>!Z n):=by
 refine Ie h ?_;clear h;rintro⟨h1,h2⟩ h3 h4 ⟨x,h5,h6⟩ h7;unfold Ch;rw[c.sym];exact⟨⟨congrArg (!·) h2,congrArg (!·) h1⟩,λn hn=>⟨λe=>congrArg (!·) ((h3 n hn).2 e),λe=>congrArg (!·) ((h3 n hn).1 e)⟩,λS hS=>h4 S hS.symm,⟨x,by rw[AL];exact h5,h6⟩,λx hx=>h7 x (by rw[AL];exact hx)⟩
section
variable{F:mm->Int}{N D U:List Int}{par fl par' fl':Int->Int}{rd rd':Int->List Int}{h:Int}{X:mm}
theorem eI{l:List Int}{k:Int}(h:k ∉ l):bo l k=false:=by
 cases e:bo l k with
 |false=>rfl
 |true=>exact absurd (kF.mp e) h
theorem qd(a:Int)(l:List Int)(k:Int):bo (a::l) k=(a == k ||bo l k):=rfl
theorem GH.step(c:nB F N)(g:GH F D (h::U) par fl rd)(hh:h ∉ D)(hX:X h=true)(hX':X (par h)=false)(hm:∀S:mm,S h=true->S (par h)=false->F X<=F S)
  (hp:∀n∈U,par' n=h/\X n=true/\par n=par h\/par' n=par n/\(par n=par h->X n=false))
  (hf:fl' h=F X/\∀n∈D,fl' n=fl n) (hr:rd' h=h::rd (par h)/\∀n∈D,rd' n=rd n):GH F (D++[h]) U par' fl' rd':=by
 have ht:par h∈D:=g.pin h ak;generalize hte:par h=t at *
 have hdh:∀a∈D,a≠h:=λa ha e=>hh (e▸ha);have hU:∀n∈U,par n∈D:=λn hn=>g.pin n (ah _ hn);have hX2:∀S:mm,S h≠S t->F X<=F S:=λS hS=>by
  cases e:S h with
  |true=>exact hm S e (by rw[e]at hS;cases e2:S t with
   |true=>exact absurd e2.symm hS
   |false=>rfl)
  |false=>
   rw[<- c.sym S];exact hm _ (by rw[e];rfl) (by rw[e]at hS;cases e2:S t with
    |true=>rfl
    |false=>exact absurd e2.symm hS)
 have old:∀{a n:Int},a∈D->n∈U->par' n=a->par n=a:=λ{a n} ha hn e=>by
  rcases hp n hn with⟨e1,_⟩|⟨e1,_⟩
  ·exact absurd (e.symm.trans e1) (hdh a ha)
  ·exact e1.symm.trans e
 have new:∀{n:Int},n∈U->par' n=h->X n=true/\par n=t:=λ{n} hn e=>by
  rcases hp n hn with⟨_,e1⟩|⟨e1,_⟩
  ·exact e1
  ·exact absurd (e1.symm.trans e) (hdh _ (hU n hn))
 have flD:∀a∈D,∀b∈D,∀x,sd (rd a) (rd b) x=true->fl' x=fl x:=λa ha b hb x hx=>by
  refine hf.2 x ?_;by_cases e:x∈rd a
  ·exact g.sub a ha x e
  ·by_cases e2:x∈rd b
   ·exact g.sub b hb x e2
   ·unfold sd at hx;rw[eI e,eI e2]at hx;cases hx
 have sdh:∀b∈D,sd (h::rd t) (rd b) h=true/\∀x,x≠h->sd (h::rd t) (rd b) x=sd (rd t) (rd b) x:=λb hb=>by
  refine⟨?_,λx hx=>?_⟩
  ·unfold sd;rw[qd,beq_self_eq_true,Bool.true_or,eI λe=>hh (g.sub b hb h e)];rfl
  ·unfold sd;rw[qd,beq_eq_false_iff_ne.mpr λe=>hx e.symm,ia]
 have one:∀b∈D,∃Z,Ch F par' fl' U (h::rd t) (rd b) h b Z:=λb hb=>by
  refine xA (sdh b hb) ?_;intro s1 s2;by_cases hbt:b=t
  ·subst hbt
   refine⟨X,⟨hX,hX'⟩,λn hn=>⟨λe=>(new hn e).1,λe=>?_⟩,hX2,⟨h,s1,hf.1⟩,λx hx=>?_⟩
   ·have e2:=old hb hn e
    rcases hp n hn with⟨e1,_⟩|⟨_,e1⟩
    ·exact absurd (e.symm.trans e1) (hdh b hb)
    ·exact e1 e2
   ·by_cases e:x=h
    ·rw[e,hf.1];exact iO _
    ·rw[s2 x e]at hx;unfold sd at hx;simp at hx
  refine zB (g.two t ht b hb λe=>hbt e.symm) ?_;rintro Z ⟨z1,z2⟩ z3 z4 ⟨y,z5,z6⟩ z7;have zh:Z h=true:=(z3 h ak).1 hte;have z3':∀n∈U,(par n=t->Z n=true)/\(par n=b->Z n=false):=λn hn=>z3 n (ah _ hn);have yh:y≠h:=λe=>by
   rw[e]at z5;unfold sd at z5;rw[eI λe=>hh (g.sub t ht h e),eI λe=>hh (g.sub b hb h e)]at z5;cases z5
  have hlow:∀S:mm,S h≠S b->F X<=F S\/F Z<=F S:=λS hS=>(Jo (c:=S t) hS).imp (hX2 S) (z4 S);by_cases hle:F Z<=F X
  ·refine⟨Z,⟨zh,z2⟩,λn hn=>⟨λe=>(z3' n hn).1 (new hn e).2,λe=>(z3' n hn).2 (old hb hn e)⟩,λS hS=>(hlow S hS).elim (ja hle) id,⟨y,by rw[s2 y yh];exact z5,by rw[flD t ht b hb y z5];exact z6⟩,λx hx=>?_⟩
   by_cases e:x=h
   ·rw[e,hf.1];exact hle
   ·rw[s2 x e]at hx;rw[flD t ht b hb x hx];exact z7 x hx
  ·have hlt:F X < F Z:=Int.not_le.mp hle
   have xb:X b=false:=by
    cases e:X b with
    |false=>rfl
    |true=>exact absurd (z4 X (by rw[hX',e];decide)) hle
   have w1:∀n,X n=true->Z n=true->(X n && Z n)=true:=λn a b=>by rw[a,b];rfl
   have w0:∀n,Z n=false->(X n && Z n)=false:=λn a=>by rw[a,i8]
   have h1:=c.sub X Z;have h2:=z4 (λn=>X n ||Z n) (by show(X t ||Z t)≠(X b ||Z b);rw[z1,z2,xb,Bool.or_true];decide);have h3:=hX2 (λn=>X n && Z n) (by show(X h && Z h)≠(X t && Z t);rw[hX,zh,hX'];exact λe=>nomatch e);have h4:F (λn=>X n && Z n)=F X:=by exact id ((pz [] [_,_,_,_] 0x2E200E020E130EA32A10) h1 h2 h3)
   refine⟨λn=>X n && Z n,⟨w1 h hX zh,w0 b z2⟩,λn hn=>⟨λe=>?_,λe=>?_⟩,λS hS=>?_,⟨h,s1,hf.1.trans h4.symm⟩,λx hx=>?_⟩
   ·refine xA (new hn e) ?_;intro n1 n2
    exact w1 n n1 ((z3' n hn).1 n2)
   ·exact w0 n ((z3' n hn).2 (old hb hn e))
   ·rw[h4];exact(hlow S hS).elim id λq=>ja (kX hlt) q
   ·rw[h4]
    by_cases e:x=h
    ·rw[e,hf.1];exact iO _
    ·rw[s2 x e]at hx;rw[flD t ht b hb x hx];exact ja (kX hlt) (z7 x hx)
 refine⟨λn hn=>?_,λa ha x hx=>?_,λa ha b hb hab=>?_⟩
 ·rcases hp n hn with⟨e,_⟩|⟨e,_⟩
  ·rw[e];simp
  ·rw[e];exact du _ (hU n hn)
 ·rcases aP.mp ha with ha|ha
  ·rw[hr.2 a ha]at hx;exact du _ (g.sub a ha x hx)
  ·rw[aA.mp ha,hr.1]at hx
   rcases ai.mp hx with e|hx
   ·rw[e];simp
   ·exact du _ (g.sub t ht x hx)
 ·rcases aP.mp ha with ha|ha
  ·rcases aP.mp hb with hb|hb
   ·rw[hr.2 a ha,hr.2 b hb]
    refine zB (g.two a ha b hb hab) ?_;rintro Z z1 z3 z4 ⟨y,z5,z6⟩ z7;exact⟨Z,z1,λn hn=>⟨λe=>(z3 n (ah _ hn)).1 (old ha hn e),λe=>(z3 n (ah _ hn)).2 (old hb hn e)⟩,z4,⟨y,z5,by rw[flD a ha b hb y z5];exact z6⟩,λx hx=>by rw[flD a ha b hb x hx];exact z7 x hx⟩
   ·rw[aA.mp hb,hr.1,hr.2 a ha]
    refine xE (one a ha) ?_;intro Z hZ;exact⟨_,hZ.flip c⟩
  ·rw[aA.mp ha]at hab ⊢
   rcases aP.mp hb with hb|hb
   ·rw[hr.1,hr.2 b hb];exact one b hb
   ·exact absurd (aA.mp hb).symm hab
theorem GH.start{r:Int}{U:List Int}{par fl:Int->Int}{rd:Int->List Int}(hp:∀n∈U,par n=r)(hr:rd r=[r]):GH F [r] U par fl rd:=
 ⟨λn hn=>by rw[hp n hn];simp,λa ha x hx=>by rw[aA.mp ha,hr]at hx;exact hx,λa ha b hb hab=>absurd ((aA.mp ha).trans (aA.mp hb).symm) hab⟩
end
end Mine
end
section
namespace Mine
noncomputable section
theorem As{β:Type}{o:cS}{W:List Str}{sc:Sc}{t:Expr}{body:List Stmt}(R:Nat->SE->Prop)(g:β->PV)(m:Nat):
  ∀(xs:List β) (σ:SE) (N j:Nat),m+xs.length+1<=N->R j σ ->
  (∀i x σ n,xs[i]?=some x->R (j+i) σ->∃aL,bindT sc t (g x) σ=some aL/\∃iL,exs o W (n+m) sc aL body=some (.next,iL)/\R (j+i+1) iL) ->
  ∃aL,exF o W N sc σ t (xs.map g) body=some (.next,aL)/\R (j+xs.length) aL:=by
 intro xs
 induction xs with
 |nil=>
  intro σ N j hN hR _;refine xE (aE (aD (bW 1 _) hN)) ?_;rintro k rfl;exact⟨σ,oW,hR⟩
 |cons x xs ih=>
  intro σ N j hN hR step;rw[am]at hN;refine xE (aE (show m+1<=N by exact id ((pn [_,_,_] 0x0D2A1800D2A18AA1810) hN))) ?_;rintro k rfl;obtain⟨MA,h1,σ2,h2,h3⟩:=step 0 x σ k rfl hR;obtain⟨σ3,h4,h5⟩:=ih σ2 (k+m) (j+1) (by exact id ((pn [_,_,_] 0x0DA02A18A100DAA1802A18AA1810) hN)) h3 λi y τ n hy p=>by
   have:=step (i+1) y τ n hy (by rw[show j+(i+1)=j+1+i from by exact id (pn [_,_] 0x2DA1A180AA1810)];exact p)
   rw[show j+(i+1)+1=j+1+i+1 from by exact id (pn [_,_] 0x2DA18A1A180A18AA1810)]at this;exact this
  exact⟨σ3,(fD h1 h2).trans h4,by rw[am,show j+(xs.length+1)=j+1+xs.length from by exact id (pn [_,_] 0x2DA1A180AA1810)];exact h5⟩
theorem CX{β:Type}{o:cS}{W:List Str}{sc:Sc}{t:Expr}{body:List Stmt}{N:Nat}{σ:SE}{P:Option (Fl×SE)->Prop}(R:Nat->SE->Prop)(g:β->PV)(m:Nat)(xs:List β)(hN:m+xs.length+1<=N)(h0:R 0 σ)
  (step:∀i x σ n,xs[i]?=some x->R i σ->∃aL,bindT sc t (g x) σ=some aL/\∃iL,exs o W (n+m) sc aL body=some (.next,iL)/\R (i+1) iL)
  (fin:∀σ,R xs.length σ->P (some (.next,σ))):P (exF o W N sc σ t (xs.map g) body):=by
 obtain⟨MA,h1,h2⟩:=As R g m xs σ N 0 hN h0 λi x σ n hx h=>by rw[bS]at h ⊢;exact step i x σ n hx h
 rw[bS]at h2;rw[h1];exact fin _ h2
theorem v4{β:Type}{o:cS}{W:List Str}{N:Nat}{sc:Sc}{t it:Expr}{body r:List Stmt}{ps:Pos}{σ:SE}{P:Option (Fl×SE)->Prop}(R:Nat->SE->Prop)(g:β->PV)(m:Nat)(xs:List β)(hi:evI o N sc σ t it=some (xs.map g))(hN:m+xs.length+1<=N)(h0:R 0 σ)
  (step:∀i x σ n,xs[i]?=some x->R i σ->∃aL,bindT sc t (g x) σ=some aL/\∃iL,exs o W (n+m) sc aL body=some (.next,iL)/\R (i+1) iL)
  (fin:∀σ,R xs.length σ->P (exs o W (N+1) sc σ r)):P (exs o W (N+2) sc σ (.For t it body [] ps::r)):=by
 obtain⟨MA,h1,h2⟩:=As R g m xs σ N 0 hN h0 λi x σ n hx h=>by rw[bS]at h ⊢;exact step i x σ n hx h
 rw[bS]at h2;rw[je hi h1];exact fin _ h2
theorem jB{o:cS}{W:List Str}{n:Nat}{sc:Sc}{σ aL:SE}{s:Stmt}{r:List Stmt}{P:Option (Fl×SE)->Prop}(h:ex o W n sc σ s=some (.next,aL))(k:P (exs o W n sc aL r)):P (exs o W (n+1) sc σ (s::r)):=by
 rw[aq h];exact k
noncomputable def oM(order:List Int)(h w:Int):List Int:=order.filter λn=>(!(n == h)) && (!(n == w))
noncomputable def pK(k:Nat)(oth:List Int)(s:Nat):List Int:=((oth.zipIdx s).filter λp=>((k / 2 ^ p.2 % 2:Nat):Int) == 1).map (·.1)
noncomputable def sn(h:Int)(oth:List Int)(k:Nat):List Int:=h::pK k oth 0
theorem uR(S:mm):∀oth:List Int,∃k,k < 2 ^ oth.length/\∀K s,K / 2 ^ s=k->pK K oth s=oth.filter S
 | []=>⟨0,Nat.one_pos,λJ J J=>rfl⟩
 |x::oth=>by
  refine bC (uR S oth) ?_;intro k hk h;have hb:(S x).toNat < 2:=Bool.toNat_lt (S x);refine⟨(S x).toNat+2 * k,by rw[am,Nat.pow_succ];omega,λK s hK=>?_⟩;have h1:K / 2 ^ (s+1)=k:=by rw[Nat.pow_succ,<- Nat.div_div_eq_div_mul,hK];omega
  have h2:K / 2 ^ s % 2=(S x).toNat:=by rw[hK];omega
  have ih:=h K (s+1) h1;unfold pK at ih ⊢;rw[nM,dl,dl];dsimp only;rw[h2]
  cases S x with
  |true=>rw[if_pos (by rfl),if_pos rfl,ao,ih]
  |false=>rw[if_neg (by decide),if_neg av,ih]
theorem u5{order:List Int}{h w n:Int}:n∈oM order h w↔n∈order/\n≠h/\n≠w:=by
 unfold oM;rw[aW];simp
theorem At{order:List Int}{h w:Int}(hn:order.Nodup)(hh:h∈order)(hw:w∈order)(hhw:w≠h):(oM order h w).length+2=order.length:=by
 have h1:oM order h w=(order.erase h).erase w:=by
  rw[List.Nodup.erase_eq_filter hn,List.Nodup.erase_eq_filter (hn.filter _),List.filter_filter];unfold oM;exact List.filter_congr λx J=>by rw[Bool.and_comm];rfl
 have h2:w∈order.erase h:=(List.mem_erase_of_ne hhw).mpr hw
 have:=oA h2
 have:=oA hh
 rw[h1,ib h2,ib hh];rw[ib hh]at *
 exact id ((pn [_] 0x2D0A28B18B1801D0081DB18008) ‹_› this)
theorem Hb{k:Nat}{oth:List Int}{s:Nat}{n:Int}(h:n∈pK k oth s):n∈oth:=by
 refine bC (aG.mp h) ?_;rintro p hp rfl;exact List.fst_mem_of_mem_zipIdx (aW.mp hp).1
theorem vV(k:Nat)(oth:List Int)(s:Nat):(pK k oth s).length<=oth.length:=by
 unfold pK;rw[aa]
 have:=aJ (λ(p:Int×Nat)=>((k / 2 ^ p.2 % 2:Nat):Int) == 1) (oth.zipIdx s)
 rw[List.length_zipIdx]at this;exact this
theorem EA{order:List Int}{h w:Int}(ho:(oM order h w).length=3)(hhw:w≠h){S:mm}(h1:S h=true)(h2:S w=false):∃k,k < 8/\∀n∈order,bo (sn h (oM order h w) k) n=S n:=by
 refine bC (uR S (oM order h w)) ?_;intro k hk e;rw[ho]at hk;refine⟨k,hk,λn hn=>?_⟩;unfold sn;rw[e k 0 (by rw[Nat.pow_zero,Nat.div_one]),qd];by_cases e1:n=h
 ·subst e1;rw[beq_self_eq_true,h1];rfl
 ·rw[beq_eq_false_iff_ne.mpr (λq=>e1 q.symm),ia]
  by_cases e2:n=w
  ·subst e2;rw[h2];exact eI λq=>(u5.mp (aW.mp q).1).2.2 rfl
  ·have hm:n∈oM order h w:=u5.mpr ⟨hn,e1,e2⟩
   cases e3:S n with
   |true=>exact kF.mpr (aW.mpr ⟨hm,e3⟩)
   |false=>exact eI λq=>by rw[(aW.mp q).2]at e3;cases e3
end
end Mine
end
section
namespace Mine
noncomputable section
theorem A2{b:Nat}(i:Nat)(hb:b<=4)(h:i<=100):jW .Pow (.int (b:Int)) (.int (i:Int))=some (.int ((b ^ i:Nat):Int)):=by
 show(if(small (b:Int) && decide ((0:Int)<=(i:Int)) && decide ((i:Int)<=4096))=true then some (PV.int ((b:Int) ^ ((i:Int)).toNat)) else none)=_;have hs:small (b:Int)=true:=decide_eq_true (by omega);rw[if_pos (by rw[hs,decide_eq_true (by exact id ((pn [_] 0x0E2C0080D64190) h)),decide_eq_true (by exact id ((pn [_] 0x0E1000292C00D64190) h))];rfl),mH];simp
theorem JC{l:List Int}{p:Int->Int}{x v:Int}(h:x∈l):pI (l.map λn=>(n,p n)) x v=l.map λn=>(n,if n=x then v else p n):=by
 refine(if_pos ?_).trans ?_
 ·exact dj.mpr ⟨(x,p x),aG.mpr ⟨x,h,rfl⟩,decide_eq_true rfl⟩
 rw[aj];exact eP λn J=>by
  show(if n=x then(n,v) else(n,p n))=_;split<;>rfl
theorem Iq{l:List Int}{p:Int->Int}{x v:Int}(h:x ∉ l):pI (l.map λn=>(n,p n)) x v=(l++[x]).map λn=>(n,if n=x then v else p n):=by
 refine(if_neg λe=>?_).trans ?_
 ·refine bC (dj.mp e) ?_;intro q hq e
  refine bC (aG.mp hq) ?_;rintro n hn rfl;have e:n=x:=of_decide_eq_true e;exact h (e▸hn)
 rw[aT];refine congr (congrArg _ (eP λn hn=>?_)) ?_
 ·rw[if_neg (show ¬n=x from λe=>h (e▸hn))]
 ·show _=[(x,if x=x then v else p x)]
  rw[if_pos rfl]
theorem mh(f:Int->Int){l:List Int}{j:Int}(h:j∈l):gI (l.map λv=>(v,f v)) j=some (f j):=by
 induction l with
 |nil=>cases h
 |cons a l ih=>
  unfold gI;rw[ao,iw];by_cases e:a=j
  ·subst e;simp
  ·simp only[e,decide_false]
   exact ih ((ai.mp h).resolve_left λe'=>e e'.symm)
theorem Go{t:js}{ss:List Int}(hl:t.length<=8)(hs:ss.length<=20)(hn:(t.map (·.1)).Nodup)(ht:∀p∈t,x0 p.2):o2.fn "_law_cut" [dQ t,aU ss]=some (.int (mv t ss)):=GU hl hs hn ht
theorem DA(d0 d1:Int){a b c d:Int}{L R:PV}(hl0:item L (.int 0)=some (.int a))(hl1:item L (.int 1)=some (.int b))(hr0:item R (.int 0)=some (.int c))(hr1:item R (.int 1)=some (.int d)):o2.mth "TupleComp" "compare" [lL d0 d1,L,R]=some (.int (j3 d0 d1 a b c d)):=Az d0 d1 hl0 hl1 hr0 hr1
abbrev JZ:=Int×Nat×List Int
abbrev Tl:=Option ((PV×PV×PV)×Option PV)
noncomputable def bP:Option JZ->PV
 |none=>.none
 |some q=>.tup [.int q.1,.int (q.2.1:Int),aU q.2.2]
noncomputable def Ll:Option PV->SE
 |none=>[]
 |some n=>[nm "node" n]
noncomputable def J1:Tl->SE
 |none=>[]
 |some ((a,b,c),n)=>[nm "some" a,nm "side" b,nm "row" c]++Ll n
noncomputable def LN:Option ((PV×PV×PV×PV)×Tl)->SE
 |none=>[]
 |some ((s,h,b,o),tl)=>[nm "spot" s,nm "here" h,nm "best" b,nm "others" o]++J1 tl
noncomputable def sT(T O:PV)(tie:Int)(Ow Fw:PV)(x:SE):SE:=[nm "table" T,nm "order" O,nm "tie" (.int tie),ow "owners" Ow,ow "fewest" Fw,nm "comp" (lL 1 tie)]++x
structure TI(F:mm->Int)(r:Int)(rest:List Int)(i:Nat)(par fl:Int->Int)(rd:Int->List Int):Prop where
 gh:GH F ((r::rest).take (i+1)) (rest.drop i) par fl rd
 up:∀j x,rest[j]?=some x->j < i->par x∈(r::rest).take (j+1)/\rd x=x::rd (par x)
 root:rd r=[r]
def BI(F:mm->Int)(h:Int)(oth:List Int)(k:Nat)(b:Option JZ)(tl:Tl):Prop:=
 (k=0/\b=none)\/∃q tl',b=some q/\tl=some tl'/\(∃k',q.2.2=sn h oth k')/\q.1=F (bo q.2.2)/\∀k' < k,q.1<=F (bo (sn h oth k'))
theorem Gu{c k c' k' tie:Int}:(j3 1 tie c k c' k' < 0->c<=c')/\(¬j3 1 tie c k c' k' < 0->c'<=c):=by
 unfold j3;by_cases h1:c < c'
 ·rw[if_pos h1];omega
 ·rw[if_neg h1]
  by_cases h2:c > c'
  ·rw[if_pos h2];omega
  ·omega
def RI(X:mm)(h w:Int)(L:List Int)(par:Int->Int)(j:Nat)(p:Int->Int):Prop:=
 ∀n,(n∈L.take j->p n=h/\X n=true/\par n=w\/p n=par n/\(par n=w->X n=false))/\(n ∉ L.take j->p n=par n)
theorem tX{L:List Int}{j:Nat}{x n:Int}(hx:L[j]?=some x):n∈L.take (j+1)↔n∈L.take j\/n=x:=by
 rw[eY,hx,aP];simp
theorem wQ{L:List Int}{j:Nat}{x:Int}(hn:L.Nodup)(hx:L[j]?=some x):x ∉ L.take j:=by
 intro h;rw[<- pA j L]at hn;refine(i9.mp hn).2.2 x h x ?_ rfl;refine aQ (i:=0) ?_;rw[List.getElem?_drop];exact hx
section
variable{X:mm}{h w x:Int}{L:List Int}{par p:Int->Int}{j:Nat}
theorem RI.yes(g:RI X h w L par j p)(hn:L.Nodup)(hx:L[j]?=some x)(h1:X x=true)(h2:par x=w):RI X h w L par (j+1) (λn=>if n=x then h else p n):=by
 intro n;rw[tX hx];by_cases e:n=x
 ·subst e
  dsimp only;rw[if_pos rfl];exact⟨λJ=>.inl ⟨rfl,h1,h2⟩,λq=>absurd (.inr rfl) q⟩
 ·dsimp only
  rw[if_neg e];exact⟨λq=>(g n).1 (q.resolve_right e),λq=>(g n).2 λq'=>q (.inl q')⟩
theorem RI.no(g:RI X h w L par j p)(hn:L.Nodup)(hx:L[j]?=some x)(h1:par x=w->X x=false):RI X h w L par (j+1) p:=by
 intro n;rw[tX hx];refine⟨λq=>?_,λq=>(g n).2 λq'=>q (.inl q')⟩;rcases q with q|q
 ·exact(g n).1 q
 ·subst q
  exact .inr ⟨(g n).2 (wQ hn hx),h1⟩
end
theorem mi{r h:Int}{rest:List Int}{i:Nat}(hh:rest[i]?=some h)(hnd:(r::rest).Nodup):rest.drop i=h::rest.drop (i+1)/\(r::rest).take (i+2)=(r::rest).take (i+1)++[h]/\h ∉ (r::rest).take (i+1)/\h ∉ rest.drop (i+1)/\(rest.drop (i+1)).Nodup/\∀n∈rest.drop (i+1),n ∉ (r::rest).take (i+1):=by
 have h1:rest.drop i=h::rest.drop (i+1):=by
  refine xE (au.mp hh) ?_;intro hi e;rw[List.drop_eq_getElem_cons hi,e]
 have h2:(r::rest).take (i+2)=(r::rest).take (i+1)++[h]:=by
  rw[eY,b0,hh];rfl
 rw[<- pA (i+1) (r::rest),List.drop_succ_cons,h1]at hnd;refine iQ (i9.mp hnd) ?_;intro _ h4 h5;refine xA (bH.mp h4) ?_;intro h6 h7;exact⟨h1,h2,λq=>h5 h q h ak rfl,h6,h7,λn hn q=>h5 n q n (ah _ hn) rfl⟩
section
variable{F:mm->Int}{r h:Int}{rest:List Int}{i:Nat}{par fl par':Int->Int}{rd:Int->List Int}
theorem TI.own(ti:TI F r rest i par fl rd)(hh:rest[i]?=some h)(hnd:(r::rest).Nodup):par h∈(r::rest).take (i+1)/\par h∈r::rest/\par h≠h:=by
 refine Gz (mi hh hnd) ?_;intro h1 _ h3 _
 have:=ti.gh.pin h (by rw[h1];exact ak)
 exact⟨this,bQ this,λe=>h3 (e▸this)⟩
theorem TI.step(c:nB F (r::rest))(ti:TI F r rest i par fl rd)(hl:rest.length=4)(hnd:(r::rest).Nodup)(hh:rest[i]?=some h){q:JZ}{k':Nat}(hs:q.2.2=sn h (oM (r::rest) h (par h)) k')(hq:q.1=F (bo q.2.2))(hmin:∀k < 8,q.1<=F (bo (sn h (oM (r::rest) h (par h)) k)))
  (hp:RI (bo q.2.2) h (par h) (rest.drop (i+1)) par (rest.drop (i+1)).length par'):TI F r rest (i+1) par' (λn=>if n=h then q.1 else fl n) (λn=>if n=h then h::rd (par h) else rd n):=by
 refine Ft (mi hh hnd) ?_;intro h1 h2 h3 h4 h5 h6;refine iQ (ti.own hh hnd) ?_;intro w1 w2 w3;unfold RI at hp;rw[dk]at hp;have hm:h∈r::rest:=ah _ (aQ hh);have ho:(oM (r::rest) h (par h)).length=3:=by have:=At hnd hm w2 w3;rw[am]at this;exact id ((pn [_,_] 0x2D3812DA180A2812D480) hl this)
 have hX':bo q.2.2 (par h)=false:=by
  rw[hs];refine eI λe=>?_;rcases ai.mp e with e|e
  ·exact w3 e
  ·exact(u5.mp (Hb e)).2.2 rfl
 have taken:∀{n:Int},n∈(r::rest).take (i+1)->par' n=par n/\n≠h:=λ{n} hn=>⟨(hp n).2 λq=>h6 n q hn,λe=>h3 (e▸hn)⟩;have g:=ti.gh;rw[h1]at g;refine⟨?_,λj x hx hj=>?_,?_⟩
 ·rw[h2]
  refine g.step c h3 (X:=bo q.2.2) (by rw[hs];exact kF.mpr ak) hX' (λS s1 s2=>?_) (λn hn=>(hp n).1 hn) ⟨by rw[if_pos rfl,hq],λn hn=>by rw[if_neg (taken hn).2]⟩ ⟨by rw[if_pos rfl],λn hn=>by rw[if_neg (taken hn).2]⟩;refine bC (EA ho w3 s1 s2) ?_;intro k hk e;rw[<- hq,<- c.ext _ _ e];exact hmin k hk
 ·by_cases e:j=i
  ·subst e
   have:x=h:=Option.some.inj (hx.symm.trans hh)
   subst this;have e2:par' x=par x:=(hp x).2 h4;rw[e2];exact⟨w1,by rw[if_pos rfl,if_neg w3]⟩
  ·have hj:j < i:=by exact id ((pn [_,_] 0x1D102F2D101DA1810) hj e)
   refine xA (ti.up j x hx hj) ?_;intro u1 u2;have hxt:x∈(r::rest).take (i+1):=by
    refine aQ (i:=j+1) ?_;rw[m0 (by exact id ((pn [_,_] 0x1DA181A1801D10) hj)),b0];exact hx
   rw[(taken hxt).1,if_neg (taken hxt).2];have hpt:par x∈(r::rest).take (i+1):=List.take_subset_take_left _ (by exact id ((pn [_,_] 0x0DA181A1801D10) hj)) u1;rw[if_neg (taken hpt).2];exact⟨u1,u2⟩
 ·have:r∈(r::rest).take (i+1):=by rw[gY];exact ak
  rw[if_neg (taken this).2];exact ti.root
end
section
variable{t:js}{F:mm->Int}{r:Int}{rest:List Int}{tie:Int}
theorem Ew(c:nB F (r::rest))(hF:∀s,mv t s=F (bo s))(hl:rest.length=4)(hnd:(r::rest).Nodup)(htl:t.length<=8)(htn:(t.map (·.1)).Nodup)(htr:∀p∈t,x0 p.2):
  ∃par fl rd,TI F r rest 4 par fl rd/\eE o2 uo.W 100 uo.params uo.scope uo.body [dQ t,aU (r::rest),.int tie]=some (.tup [aZ (rest.map λn=>(n,par n)),aZ (rest.map λn=>(n,fl n))]):=by
 have hcut:∀{s:List Int},s.length<=20->o2.fn "_law_cut" [dQ t,aU s]=some (.int (mv t s)):=λh=>Go htl h htn htr;generalize dQ t=T at hcut;have hol:((r::rest).map PV.int).length<=1048576:=by rw[aa,am];omega
 have hoI:qU (aU (r::rest))=some ((r::rest).map .int):=if_pos hol;have hoA:∀{i:Nat}{x:Int},(r::rest)[i]?=some x->item (aU (r::rest)) (.int (i:Int))=some (.int x):=λ{i x} h=>eR (by rw[aS,h];rfl) hol;have hoS:∀{p:Nat},p<=5->jA (aU (r::rest)) (some (p:Int)) none=some (.lst (((r::rest).drop p).map .int)):=λ{p} h=>kn hol ((rh _ p (by rw[aa,am];omega)).trans List.map_drop.symm);generalize aU (r::rest)=O at hoI hoA hoS
 suffices hs:∃par fl rd l,TI F r rest 4 par fl rd/\exs o2 uo.W 100 (bg 188).names [nm "table" T,nm "order" O,nm "tie" (.int tie)] (de 188)=some (.ret (.tup [aZ (rest.map λn=>(n,par n)),aZ (rest.map λn=>(n,fl n))]),l) by
  obtain⟨par,fl,rd,l,h1,h2⟩:=hs;exact⟨par,fl,rd,h1,dT (σ:=[nm "table" T,nm "order" O,nm "tie" (.int tie)]) (by kernel_rfl) (by kernel_rfl) h2⟩
 generalize hb:de 188=body;conv at hb=>lhs;whnf
 subst hb
 let S0:SE:=[nm "table" T,nm "order" O,nm "tie" (.int tie),ow "owners" (aZ (rest.map λn=>(n,r))),ow "fewest" (aZ [])]
 rw[aq (aL:=S0) ?_,aq (aL:=sT T O tie (aZ (rest.map λn=>(n,r))) (aZ []) []) (by kernel_rfl)]
 ·let R:Nat->SE->Prop:=λi σ=>∃par fl rd l,TI F r rest i par fl rd/\σ=sT T O tie (aZ (rest.map λn=>(n,par n))) (aZ ((rest.take i).map λn=>(n,fl n))) (LN l)
  let PP:Nat->Option (Fl×SE)->Prop:=λi y=>∃σ,y=some (.next,σ)/\R i σ
  refine v4 (P:=λy=>∃par fl rd l,TI F r rest 4 par fl rd/\y=some (.ret (.tup [aZ (rest.map λn=>(n,par n)),aZ (rest.map λn=>(n,fl n))]),l)) R (λ(x:Nat)=>.int ((x+1:Nat):Int)) 85 [0,1,2,3] (by kernel_rfl) (by decide) ?_ ?_ ?_
  ·exact⟨λJ=>r,λJ=>0,λJ=>[r],none,⟨GH.start (λJ J=>rfl) rfl,λj x J h=>absurd h (dH _),rfl⟩,rfl⟩
  ·rintro i x σ m hx ⟨par,fl,rd,l,ti,rfl⟩
   have hi:i < 4/\x=i:=by
    refine xE (au.mp hx) ?_;intro h1 _;have h1:i < 4:=h1;exact⟨h1,Option.some.inj (hx.symm.trans (show(aI 4)[i]?=some i from List.getElem?_range h1))⟩
   refine xA hi ?_;clear hi;rintro hi rfl;obtain⟨h,hh⟩:∃h,rest[x]?=some h:=⟨_,ax (by exact id ((pn [_,_] 0x1D011D4812D480) hl hi))⟩;refine Ft (mi hh hnd) ?_;intro g1 g2 g3 g4 g5 g6;refine iQ (ti.own hh hnd) ?_;intro w1 w2 w3;have hm:h∈rest:=aQ hh;have hat:(r::rest)[x+1]?=some h:=hh;have ho:(oM (r::rest) h (par h)).length=3:=by have:=At hnd (ah r hm) w2 w3;rw[am]at this;exact id ((pn [_,_] 0x2D3812DA180A2812D480) hl this)
   generalize hot:oM (r::rest) h (par h)=oth at ho;have hstep:=λ{par':Int->Int}{q:JZ}{k':Nat}=>ti.step (par':=par') (q:=q) (k':=k') c hl hnd hh;rw[hot]at hstep;generalize hw:par h=w at w1 w2 w3 hstep hot
   let st:PV->PV->SE->SE:=sT T O tie
   let Ow:PV:=aZ (rest.map λn=>(n,par n))
   let Fw:PV:=aZ ((rest.take x).map λn=>(n,fl n))
   let sp:PV:=.int ((x+1:Nat):Int)
   have hoo:item Ow (.int h)=some (.int w):=by
    show eH _ _=_;rw[eG,mh par hm,hw];rfl
   refine⟨st Ow Fw (match l with|none=>[nm "spot" sp]|some ((_,a,b,o),tl)=>[nm "spot" sp,nm "here" a,nm "best" b,nm "others" o]++J1 tl),by cases l<;>kernel_rfl,?_⟩;show PP (x+1) (exs _ _ _ _ _ _);refine jB (P:=PP (x+1)) (aL:=st Ow Fw (match l with|none=>[nm "spot" sp,nm "here" (.int h),nm "best" .none]|some ((_,_,_,o),tl)=>[nm "spot" sp,nm "here" (.int h),nm "best" .none,nm "others" o]++J1 tl)) ?_ ?_
   ·refine vr (xs:=["here","best"]) (ps:=[.int h,.none]) (by rfl) (by rfl) (ar ?_ (ar (by rfl) aR)) (by cases l<;>kernel_rfl)
    exact bp (b:=O) (k:=.int ((x+1:Nat):Int)) (by rfl) (by rfl) (by cases l<;>kernel_rfl) (hoA hat)
   let E4:PV->Tl->SE:=λb tl=>[nm "spot" sp,nm "here" (.int h),nm "best" b,nm "others" (aU oth)]++J1 tl
   refine jB (P:=PP (x+1)) (aL:=st Ow Fw (E4 .none (l.bind (·.2)))) ?_ ?_
   ·refine(ba (u:=aU oth) (by rfl) ?_).trans (by cases l<;>kernel_rfl)
    refine(cJ (items:=(r::rest).map .int) (rs:=((r::rest).filter λn=>(!(n == h)) && (!(n == w))).map λn=>(.none,.int n)) (by rfl) ?_ ?_ ?_).trans ?_
    ·exact Eq.trans (b:=qU O) (by cases l<;>kernel_rfl) hoI
    ·rw[show jF _ _=[ow "owners" Ow,nm "here" (.int h)] from by rcases l with _|⟨⟨_,_,_,_⟩,_|⟨⟨_,_,_⟩,_|_⟩⟩<;>kernel_rfl]
     refine cN (λn=>(!(n == h)) && (!(n == w))) .int .int 40 (by rfl) (r::rest) _ ?_ ?_
     ·rw[am];exact id ((pn [_,_] 0x0DA51191A18AA18028192D480) hl)
     ·intro n q hn
      refine⟨[ow "owners" Ow,nm "here" (.int h),nm "node" (.int n)],by rfl,?_,λJ=>by rfl⟩;refine bN (oN (fU ?_ λJ=>bN ?_))
      ·exact bV (db (a:=.int n) (b:=.int h) (by rfl) (by rfl) (by rfl) (by rfl))
      ·refine bV (db (a:=.int n) (b:=.int w) (by rfl) (by rfl) ?_ (by rfl))
       exact bp (b:=Ow) (k:=.int h) (by rfl) (by rfl) (by rfl) hoo
    ·rw[aa];have:=aJ (λ(n:Int)=>(!(n == h)) && (!(n == w))) (r::rest);rw[am]at this;exact id ((pn [_,_] 0x0D1000003910DA18012D480) hl this)
    ·rw[<- hot,aj];rfl
   refine v4 (P:=PP (x+1)) (λk σ=>∃b tl,σ=st Ow Fw (E4 (bP b) tl)/\BI F h oth k b tl) (λ(k:Nat)=>.int (k:Int)) 60 [0,1,2,3,4,5,6,7] ?_ ?_ ?_ ?_ ?_
   ·rcases l with _|⟨⟨_,_,_,_⟩,_|⟨⟨_,_,_⟩,_|_⟩⟩<;>kernel_rfl
   ·show 60+8+1<=_
    exact id (pn [_] 0x0DA51190A18A883C19)
   ·exact⟨none,_,rfl,.inl ⟨rfl,rfl⟩⟩
   ·rintro k y σ n hk ⟨b,tl,rfl,bi⟩
    have hk:k < 8/\y=k:=by
     refine xE (au.mp hk) ?_;intro h1 _;have h1:k < 8:=h1;exact⟨h1,Option.some.inj (hk.symm.trans (show(aI 8)[k]?=some k from List.getElem?_range h1))⟩
    refine xA hk ?_;clear hk;rintro hk rfl
    let kv:PV:=.int (y:Int)
    let s:=sn h oth y
    have hsl:s.length<=4:=by
     have:=vV y oth 0
     show(pK y oth 0).length+1<=4;exact id ((pn [_,_] 0x0D48A1810D012D380) ho this)
    let B4:SE->SE:=λz=>st Ow Fw ([nm "spot" sp,nm "here" (.int h),nm "best" (bP b),nm "others" (aU oth)]++z)
    let PQ:Option (Fl×SE)->Prop:=λz=>∃σ,z=some (.next,σ)/\∃b tl,σ=st Ow Fw (E4 (bP b) tl)/\BI F h oth (y+1) b tl
    refine⟨B4 (match tl with|none=>[nm "some" kv]|some ((_,b,c),n)=>[nm "some" kv,nm "side" b,nm "row" c]++Ll n),by cases tl<;>kernel_rfl,?_⟩;show PQ (exs _ _ _ _ _ _);refine jB (P:=PQ) (aL:=B4 ([nm "some" kv,nm "side" (aU s)]++(match tl with|none=>[]|some ((_,_,c),n)=>nm "row" c::Ll n))) ?_ ?_
    ·refine(ba (u:=aU s) (by rfl) ?_).trans (by cases tl<;>kernel_rfl)
     refine aV (a:=aU [h]) (b:=aU (pK y oth 0)) (by rfl) ?_ ((oH (by simp) (by rw[aa];have:=vV y oth 0;exact id ((pn [_,_] 0x0D1000003910D012D380) ho this))).trans (by rfl));show ev _ _ _ _ _=_;refine(cJ (items:=(oth.zipIdx 0).map λp=>.tup [.int (p.2:Int),.int p.1]) (rs:=((oth.zipIdx 0).filter λp=>((y / 2 ^ p.2 % 2:Nat):Int) == 1).map λp=>(.none,.int p.1)) (by rfl) ?_ ?_ ?_).trans ?_
     ·rw[<- sE]
      exact wk (l:=oth.map .int) (by rcases tl with _|⟨⟨_,_,_⟩,_|_⟩<;>kernel_rfl) (by rfl) (by kernel_rfl) (by rw[aa];exact id ((pn [_] 0x0D1000003902D380) ho))
     ·rw[show jF _ _=[nm "some" kv] from by rcases tl with _|⟨⟨_,_,_⟩,_|_⟩<;>kernel_rfl]
      refine cN (λp=>((y / 2 ^ p.2 % 2:Nat):Int) == 1) (λp=>.int p.1) (λp=>.tup [.int (p.2:Int),.int p.1]) 30 (by kernel_rfl) (oth.zipIdx 0) _ ?_ ?_
      ·rw[List.length_zipIdx];exact id ((pn [_,_] 0x0DA38191A18A01E192D380) ho)
      ·intro p q hp
       have hp2:=List.snd_lt_add_of_mem_zipIdx hp;refine⟨[nm "some" kv,nm "bit" (.int (p.2:Int)),nm "node" (.int p.1)],by rfl,bN (bV (db (a:=.int ((y / 2 ^ p.2 % 2:Nat):Int)) (b:=.int 1) ?_ (by rfl) (by rfl) (by rfl))),λJ=>by rfl⟩;refine aV (a:=.int ((y / 2 ^ p.2:Nat):Int)) (b:=.int ((2:Nat):Int)) ?_ (by rfl) (d9 (by exact id (pn [] 0x1D2808)));show ev _ _ _ _ _=_;refine aV (a:=kv) (b:=.int ((2 ^ p.2:Nat):Int)) (by rfl) ?_ (e8 (Nat.pow_pos (by exact id (pn [] 0x1D2808))) (Nat.lt_of_le_of_lt (Nat.pow_le_pow_right (n:=2) (by exact id (pn [] 0x1D2808)) (show p.2<=3 by exact id ((pn [_,_] 0x0D3811DA00812D380) ho hp2))) (by decide)));exact aV (a:=.int ((2:Nat):Int)) (b:=.int (p.2:Int)) (by rfl) (by rfl) (A2 p.2 (by exact id (pn [] 0x0D4828)) (by exact id ((pn [_,_] 0x0D641911DA00812D380) ho hp2)))
     ·have:=vV y oth 0;unfold pK at this;rw[aa]at this ⊢;exact id ((pn [_,_] 0x0D1000003910D012D380) ho this)
     ·unfold pK;rw[aj];show _=some (PV.lst (List.map _ (List.map _ _)));rw[aj];rfl
    refine jB (P:=PQ) (aL:=B4 (J1 (some ((kv,aU s,bP (some (mv t s,y,s))),tl.bind (·.2))))) ?_ ?_
    ·refine(ba (u:=bP (some (mv t s,y,s))) (by rfl) ?_).trans (by rcases tl with _|⟨⟨_,_,_⟩,_|_⟩<;>kernel_rfl)
     refine fG (ar ?_ (ar (by rfl) (ar (by rfl) aR)));refine jo (vs:=[T,aU s]) (by rcases tl with _|⟨⟨_,_,_⟩,_|_⟩<;>kernel_rfl) (ar (by rfl) (ar (by rfl) aR)) (by rfl) ?_;exact hcut (aD hsl (by decide))
    generalize tl.bind (·.2)=nd
    let rw':JZ:=(mv t s,y,s)
    let tl2:Tl:=some ((kv,aU s,bP (some rw')),nd)
    rcases bi with⟨hk0,rfl⟩|⟨q,tl',rfl,rfl,⟨k',hs'⟩,hq,hmin⟩
    ·refine jB (P:=PQ) (aL:=st Ow Fw (E4 (bP (some rw')) tl2)) ?_ ?_
     ·refine(ba (u:=bP (some rw')) (by rfl) ?_).trans (by rfl)
      exact gV (c:=true) (pS (dv (b:=true) (c:=true) (by kernel_rfl) (λh=>nomatch h))) (λJ=>by rfl) (λh=>nomatch h)
     ·exact⟨_,by rfl,_,_,rfl,.inr ⟨_,_,rfl,rfl,⟨y,rfl⟩,hF s,λk hk=>by rw[show k=y by exact id ((pn [_,_] 0x2D011DA18012D080) hk0 hk)];exact oB (hF s)⟩⟩
    ·refine xA (Gu (c:=mv t s) (k:=(y:Int)) (c':=q.1) (k':=(q.2.1:Int)) (tie:=tie)) ?_;intro c1 c2
     obtain⟨b',hb1,hb2⟩:∃b':JZ,(j3 1 tie (mv t s) (y:Int) q.1 (q.2.1:Int) < 0->b'=rw')/\(¬j3 1 tie (mv t s) (y:Int) q.1 (q.2.1:Int) < 0->b'=q):=by
      by_cases hc:j3 1 tie (mv t s) (y:Int) q.1 (q.2.1:Int) < 0
      ·exact⟨rw',λJ=>rfl,λh=>absurd hc h⟩
      ·exact⟨q,λh=>absurd h hc,λJ=>rfl⟩
     refine jB (P:=PQ) (aL:=st Ow Fw (E4 (bP (some b')) tl2)) ?_ ?_
     ·refine(ba (u:=bP (some b')) (by rfl) ?_).trans (by kernel_rfl)
      refine gV (c:=(false ||(decide (j3 1 tie (mv t s) (y:Int) q.1 (q.2.1:Int) < 0) ||false))) (pS (dv (by rfl) λJ=>dv (bV (db (a:=.int (j3 1 tie (mv t s) (y:Int) q.1 (q.2.1:Int))) (b:=.int 0) ?_ (by rfl) (by rfl) (by rfl))) λJ=>lT)) (λh'=>?_) (λh'=>?_)
      ·exact j7 (c:="TupleComp") (fs:=[("comp_select_list",.lst [.tup [.int 0,.int 1],.tup [.int 1,.int tie]])]) (by rfl) (by rfl) (ar (by rfl) (ar (by rfl) aR)) (by rfl) (DA 1 tie (by rfl) (by rfl) (by rfl) (by rfl))
      ·rw[ia,mZ]at h'
       rw[hb1 (of_decide_eq_true h')];rfl
      ·rw[ia,mZ]at h'
       rw[hb2 (of_decide_eq_false h')];rfl
     ·refine⟨_,by rfl,_,_,rfl,.inr ⟨b',_,rfl,rfl,?_⟩⟩
      by_cases hc:j3 1 tie (mv t s) (y:Int) q.1 (q.2.1:Int) < 0
      ·rw[hb1 hc]
       refine⟨⟨y,rfl⟩,hF s,λk hk=>?_⟩;by_cases e:k=y
       ·rw[e];exact oB (hF s)
       ·exact ja (c1 hc) (hmin k (by exact id ((pn [_,_] 0x1D102F2D101DA1810) hk e)))
      ·rw[hb2 hc]
       refine⟨⟨k',hs'⟩,hq,λk hk=>?_⟩;by_cases e:k=y
       ·rw[e];exact ja (c2 hc) (oB (hF s))
       ·exact hmin k (by exact id ((pn [_,_] 0x1D102F2D101DA1810) hk e))
   ·rintro σ ⟨b,tl,rfl,bi⟩
    rcases bi with⟨hk0,_⟩|⟨q,tl',rfl,rfl,⟨k',hs'⟩,hq,hmin⟩
    ·cases hk0
    obtain⟨⟨a1,a2,a3⟩,nd⟩:=tl'
    let fl':Int->Int:=λn=>if n=h then q.1 else fl n
    let Fw':PV:=aZ ((rest.take (x+1)).map λn=>(n,fl' n))
    refine jB (P:=PP (x+1)) (aL:=st Ow Fw' (E4 (bP (some q)) (some ((a1,a2,a3),nd)))) ?_ ?_
    ·refine(eA (c:=Fw) (k:=.int h) (u:=.int q.1) (by rfl) (by rfl) ?_ (by rfl) (iG (by rw[aa,bK];exact id ((pn [_,_] 0x0D100000390C011D4812D480) hl hi)))).trans ?_
     ·exact bp (b:=bP (some q)) (k:=.int 0) (by rfl) (by rfl) (by rfl) (by rfl)
     ·rw[Iq λe=>g3 (by rw[gY];exact ah _ e),show rest.take x++[h]=rest.take (x+1) from by rw[eY,hh];rfl];rfl
    generalize hL:rest.drop (x+1)=L at g1 g4 g5 g6 hstep;have hLl:L.length<=4:=by rw[<- hL,eV];exact id ((pn [_,_] 0x0D48BA18101D4812D480) hl hi)
    let E7:PV->Option PV->SE:=λO nd=>st O Fw' ([nm "spot" sp,nm "here" (.int h),nm "best" (bP (some q)),nm "others" (aU oth),nm "some" a1,nm "side" a2,nm "row" a3]++Ll nd)
    let OF:(Int->Int)->PV:=λp=>aZ (rest.map λn=>(n,p n))
    refine v4 (P:=PP (x+1)) (λj σ=>∃p nd,σ=E7 (OF p) nd/\RI (bo q.2.2) h w L par j p) .int 60 L ?_ (by exact id ((pn [_,_] 0x0DA4F191A18A03C190D480) hLl)) ⟨par,nd,rfl,λn=>⟨λe=>absurd e (by rw[lP];exact aM),λJ=>rfl⟩⟩ ?_ ?_
    ·refine(vG (v:=.lst (L.map .int)) ?_).trans (if_pos (by rw[aa];exact id ((pn [_] 0x0D1000003900D480) hLl)))
     refine iD (b:=O) (l:=some ((x+2:Nat):Int)) (h:=none) (by rfl) (o9 ?_) (by rfl) ((hoS (p:=x+2) (by omega)).trans ?_)
     ·exact aV (a:=sp) (b:=.int 1) (by rfl) (by rfl) (by rfl)
     ·rw[List.drop_succ_cons,hL]
    ·rintro j z σ n hz ⟨p,nd,rfl,ri⟩
     have hzL:z∈L:=aQ hz;have hzr:z∈rest:=by rw[<- hL]at hzL;exact List.mem_of_mem_drop hzL
     have pz:p z=par z:=(ri z).2 (wQ g5 hz);have ph:p h=w:=((ri h).2 λe=>g4 (bQ e)).trans hw;have get:∀{v:Int},v∈rest->item (OF p) (.int v)=some (.int (p v)):=λ{v} hv=>by
      show eH _ _=_;rw[eG,mh p hv];rfl
     refine⟨E7 (OF p) (some (.int z)),by cases nd<;>kernel_rfl,?_⟩;obtain⟨p',hy,hn⟩:∃p',((bo q.2.2 z && (p z == p h && true))=true->p'=λn=>if n=z then h else p n)/\((bo q.2.2 z && (p z == p h && true))=false->p'=p):=by
      cases bo q.2.2 z && (p z == p h && true) with
      |true=>exact⟨_,λJ=>rfl,λh=>(nomatch h)⟩
      |false=>exact⟨_,λh=>(nomatch h),λJ=>rfl⟩
     refine jB (P:=λy=>∃σ,y=some (.next,σ)/\∃p nd,σ=E7 (OF p) nd/\RI (bo q.2.2) h w L par (j+1) p) (aL:=E7 (OF p') (some (.int z))) ?_ ⟨_,by rfl,p',_,rfl,?_⟩
     ·refine dh (c:=(bo q.2.2 z && (p z == p h && true))) (oN (fU ?_ λJ=>fU ?_ λJ=>uH)) (λhc=>?_) (λhc=>?_)
      ·refine bV (mB (a:=.int z) (b:=aU q.2.2) (by rfl) (by rfl) (by rfl) ?_ (dW _ _))
       show ev _ _ _ _ _=_;exact bp (b:=bP (some q)) (k:=.int 2) (by rfl) (by rfl) (by rfl) (by rfl)
      ·refine bV (db (a:=.int (p z)) (b:=.int (p h)) ?_ (by rfl) ?_ (by rfl))
       ·exact bp (b:=OF p) (k:=.int z) (by rfl) (by rfl) (by rfl) (get hzr)
       ·exact bp (b:=OF p) (k:=.int h) (by rfl) (by rfl) (by rfl) (get hm)
      ·rw[hy hc]
       refine(aq (aL:=E7 (OF λn=>if n=z then h else p n) (some (.int z))) ?_).trans (by rfl);refine(eA (c:=OF p) (k:=.int z) (u:=.int h) (by rfl) (by rfl) (by rfl) (by rfl) (iG (by rw[aa];exact id ((pn [_] 0x0D1000003902D480) hl)))).trans ?_;rw[JC hzr];rfl
      ·rw[hn hc];rfl
     ·rw[ph,Bool.and_true,pz]at hy hn
      cases hc:bo q.2.2 z && par z == w with
      |true=>
       rw[hy hc];refine xA (gw hc) ?_;intro c1 c2;exact ri.yes g5 hz c1 (eq_of_beq c2)
      |false=>
       rw[hn hc];refine ri.no g5 hz λe=>?_;rw[e,beq_self_eq_true,Bool.and_true]at hc;exact hc
    ·rintro σ ⟨p,nd,rfl,ri⟩
     exact⟨_,by rfl,p,fl',_,some ((sp,.int h,bP (some q),aU oth),some ((a1,a2,a3),nd)),hstep hs' hq hmin ri,rfl⟩
  ·rintro σ ⟨par,fl,rd,l,ti,rfl⟩
   refine⟨par,fl,rd,[],ti,?_⟩;rw[show[0,1,2,3].length=rest.length from hl.symm,dk];exact bE (by cases l<;>kernel_rfl)
 ·refine vr (xs:=["owners","fewest"]) (ps:=[aZ (rest.map λn=>(n,r)),aZ []]) (by rfl) (by rfl) (ar ?_ (ar (by rfl) aR)) (by rfl)
  refine(iy (items:=rest.map .int) (rs:=(rest.filter λJ=>true).map λn=>(.int n,.int r)) (by rfl) ?_ ?_ ?_).trans ?_
  ·refine(vG (v:=.lst (rest.map .int)) ?_).trans (if_pos (by rw[aa];exact id ((pn [_] 0x0D1000003902D480) hl)))
   exact iD (b:=O) (l:=some ((1:Nat):Int)) (h:=none) (by rfl) (by rfl) (by rfl) (hoS (p:=1) (by omega))
  ·refine fH (λJ=>true) (λJ=>.int r) (λn=>.int n) (λn=>.int n) 30 (by rfl) rest _ ?_ ?_
   ·exact id ((pn [_] 0x0D6119A18A01E192D480) hl)
   ·intro n q hn
    refine⟨[nm "order" O,nm "node" (.int n)],by rfl,by rfl,λJ=>⟨?_,by rfl⟩⟩;exact bp (b:=O) (k:=.int ((0:Nat):Int)) (by rfl) (by rfl) (by rfl) (hoA (i:=0) rfl)
  ·rw[aa];have:=aJ (λ(_:Int)=>true) rest;exact id ((pn [_,_] 0x0D1000003910D012D480) hl this)
  ·rw[bu.mpr (λJ J=>rfl)]
   have:=dN (rest.map λn=>(n,PV.int r)) [] (by rw[dJ,aj];show(rest.map id).Nodup;rw[iP];exact(bH.mp hnd).2)
   rw[aj]at this;refine(congrArg (cu PV.dct) this).trans ?_;unfold aZ;rw[aj];rfl
end
end
end Mine
end
section
namespace Mine
noncomputable section
noncomputable def oY(ts:Nat)(count:List Nat):Nat->Nat
 |0=>0
 |n+1=>oY ts count n+n / ts * count.getD n 0
theorem oS{ts:Nat}{count:List Nat}:∀{n:Nat},n<=ts->oY ts count n=0
 |0,_=>rfl
 |n+1,h=>by
  rw[oY,oS (by exact id ((pn [_,_] 0x0D100D1A180) h)),Nat.div_eq_of_lt (by exact id ((pn [_,_] 0x1D100D1A180) h))];lia
theorem uv{ts:Nat}{count:List Nat}:∀{k:Nat},oY ts count (count.length+k)=oY ts count count.length
 |0=>rfl
 |k+1=>by
  rw[show count.length+(k+1)=(count.length+k)+1 from rfl,oY,uv,aw,jJ (pn [_,_] 0x0DA100)];simp
theorem AC{ts:Nat}{count:List Nat}:∀k:Nat,(aI k).foldl (λil x=>il+(ts+x) / ts * count.getD (ts+x) 0) 0=oY ts count (ts+k)
 |0=>by rw[Nat.add_zero,oS (aK _)];rfl
 |k+1=>by
  rw[pq,c7,AC k];rfl
theorem DE{ts:Nat}{count:List Nat}{N:Nat}(h:count.length<=N):tJ count ts=oY ts count N:=by
 unfold tJ;rw[AC];refine xE (Nat.exists_eq_add_of_le h) ?_;rintro d rfl;rw[uv];by_cases h2:ts<=count.length
 ·rw[show ts+(count.length - ts)=count.length from by exact id ((pn [_,_] 0x2D1AB0100D10) h2)]
 ·rw[show ts+(count.length - ts)=ts from by exact id ((pn [_,_] 0x2D0AB0102F0D10) h2),oS (aK _),oS (by exact id ((pn [_,_] 0x0D012F0D10) h2))]
theorem Bi(count:List Nat)(b i:Nat):(eg count b).getD i 0=count.getD i 0+if i=b then 1 else 0:=by
 unfold eg;dsimp only;generalize hc:(if count.length<=b then count++bd (b - count.length+1) 0 else count)=c;have hcl:b < c.length:=by
  rw[<- hc];split
  ·simp;exact id (pn [_,_] 0x1DAA18B1010)
  ·exact id ((pn [_,_] 0x1D012F0D10) ‹_›)
 have hcg:∀i,c.getD i 0=count.getD i 0:=by
  intro i;rw[<- hc];split
  ·rw[aw,aw,List.getElem?_append]
   split
   ·rfl
   ·rw[jJ (l:=count) (by exact id ((pn [_,_] 0x0D012F1D10) ‹_›)),List.getElem?_replicate]
    split<;>rfl
  ·rfl
 rw[aw,List.getElem?_set];by_cases h:b=i
 ·subst h
  rw[if_pos rfl,if_pos hcl,if_pos rfl,eU,hcg]
 ·rw[if_neg h,if_neg (Ne.symm h),<- aw,hcg];rfl
theorem dR(count:List Nat)(b:Nat):(eg count b).length=max count.length (b+1):=by
 unfold eg;dsimp only;rw[List.length_set];split
 ·rw[aB,List.length_replicate];exact id ((pn [_,_] 0x2D1CA1810AA18B0100D10) ‹_›)
 ·exact id ((pn [_,_] 0x2D1CA181002F0D10) ‹_›)
theorem wh{ts:Nat}{count:List Nat}{b:Nat}:∀{N:Nat},oY ts (eg count b) N=oY ts count N+if b < N then b / ts else 0
 |0=>by rw[oY,oY,if_neg (pn [_] 0x2F1D080)]
 |N+1=>by
  rw[oY,oY,wh,Bi];by_cases h:N=b
  ·subst h
   rw[if_neg (pn [_] 0x2F1D00),if_pos rfl,if_pos (pn [_] 0x1DA1800),Nat.mul_add];lia
  ·rw[if_neg h,Nat.add_zero]
   by_cases h2:b < N
   ·rw[if_pos h2,if_pos (by exact id ((pn [_,_] 0x1DA18101D10) h2))];exact id (pn [_,_,_] 0x2DA1A20A2A10)
   ·rw[if_neg h2,if_neg (by exact id ((pn [_,_] 0x2F1DA18012F1D012F2D10) h h2))];rfl
theorem Aj{ts:Nat}{count:List Nat}{b:Nat}:tJ (eg count b) ts=tJ count ts+b / ts:=by
 rw[DE (N:=count.length+b+1) (by rw[dR];exact id (pn [_,_] 0x0DA18A101CA1810)),DE (N:=count.length+b+1) (pn [_,_] 0x0DA18A100),wh,if_pos (pn [_,_] 0x1DA18A010)]
theorem lD:∀{l:List Nat}{c:Nat}{r:List Nat}{st:WS},(∀x∈l,x=32\/x=9)->gU c=false->bt (l++c::r) st=bt l st
 | [],c,r,(count,b,n,nt),_,hc=>by
  have h1:c≠32:=λe=>by subst e;cases hc
  have h2:c≠9:=λe=>by subst e;cases hc
  show bt (c::r) (count,b,n,nt)=(count,b,n,nt);rw[bt.eq_2,if_neg h1,if_neg h2]
 |x::l,c,r,(count,b,n,nt),h,hc=>by
  rw[gD,bt,bt,lD (λy hy=>h y (ah _ hy)) hc,lD (λy hy=>h y (ah _ hy)) hc]
theorem lq:∀(l:List Nat) (st:WS) (v:Nat->Int),(∀x∈l,x=32\/x=9)->(∀i,v i=(e7 st (i+1):Int))->∀i,(l.foldl nq v) i=(e7 (bt l st) (i+1):Int)
 | [],(count,b,n,nt),v,_,hv=>hv
 |x::l,(count,b,n,nt),v,h,hv=>by
  rw[bc,bt];rcases h x ak with rfl|rfl
  ·rw[if_pos rfl]
   refine lq l _ _ (λy hy=>h y (ah _ hy)) λi=>?_;show Ec (i:Int) (32 == 32) (v i)=_;rw[hv i];show((e7 (count,b,n,nt) (i+1):Int))+1=_;unfold e7;dsimp only;exact id (pn [_,_] 0x2E2CA1A180A182CA10)
  ·rw[if_neg (by decide),if_pos rfl]
   refine lq l _ _ (λy hy=>h y (ah _ hy)) λi=>?_;show Ec (i:Int) (9 == 32) (v i)=_;rw[hv i];show((e7 (count,b,n,nt) (i+1):Int)) - eT _ ((i:Int)+1)+(i:Int)+1=_;have hf:eT (e7 (count,b,n,nt) (i+1):Int) ((i:Int)+1)=((b % (i+1):Nat):Int):=by
    rw[gp _ (pn [_] 0x0EA182C008),show((i:Int)+1)=((i+1:Nat):Int) from rfl];show(((e7 (count,b,n,nt) (i+1)) % (i+1):Nat):Int)=_;unfold e7;dsimp only;rw[Nat.add_mul_mod_self_left]
   rw[hf];unfold e7;dsimp only;rw[Aj];have hdm:=Nat.div_add_mod b (i+1);rw[show(i+1) * (tJ count (i+1)+b / (i+1)+(nt+1))=(i+1) * (tJ count (i+1)+nt)+(i+1) * (b / (i+1))+(i+1) from by rw[<- Nat.mul_add,<- Nat.mul_succ];congr 1;exact id (pn [_,_,_] 0x2DA18A1A20AA182A10)];exact id ((pn [_,_,_,_,_] 0x2E2CAAA184A0308A18A2C4B2C12CA322D2A10) hdm)
theorem jd:∀(l:List Nat) (st:WS),(∀x∈l,x=32\/x=9)->(bt l st).2.2.1=st.2.2.1+l.length
 | [],(count,b,n,nt),_=>rfl
 |x::l,(count,b,n,nt),h=>by
  rw[bt,am];rcases h x ak with rfl|rfl
  ·rw[if_pos rfl,jd l _ λy hy=>h y (ah _ hy)];dsimp only;exact id (pn [_,_] 0x2DAA1810A1A180)
  ·rw[if_neg (by decide),if_pos rfl,jd l _ λy hy=>h y (ah _ hy)];dsimp only;exact id (pn [_,_] 0x2DAA1810A1A180)
theorem um(l:List Nat)(h:∀x∈l,x=32\/x=9):e7 (bt l ([],0,0,0)) 1=l.length:=by
 have h1:=lq l ([],0,0,0) (λJ=>0) h (λi=>by unfold e7 tJ;simp) 0;have h2:∀(l:List Nat) (v:Nat->Int),(∀x∈l,x=32\/x=9)->(l.foldl nq v) 0=v 0+(l.length:Int):=by
  intro l
  induction l with
  |nil=>intro v _;simp
  |cons x l ih=>
   intro v h;rw[bc,ih _ λy hy=>h y (ah _ hy),am]
   have:nq v x 0=v 0+1:=by
    show Ec 0 (x == 32) (v 0)=_;unfold Ec
    cases(x == 32)
    ·show v 0 - eT (v 0) (0+1)+0+1=_
     rw[gp _ (by exact id (pn [] 0x0EA180808))];lia
    ·rfl
   rw[this];exact id (pz [_] [_] 0x2EA2CA1800A2C0A180)
 have h3:(l.foldl nq λJ=>0) 0=0+(l.length:Int):=h2 l (λJ=>0) h;rw[h1]at h3;have h4:((e7 (bt l ([],0,0,0)) 1:Nat):Int)=0+(l.length:Int):=h3;exact id ((pn [_,_] 0x2D102EA2C1082C0) h3)
def n8(m:Nat)(st:WS):Prop:=st.1.length<=m+1/\st.2.1<=m
theorem nS:∀(l:List Nat) (st:WS) (m:Nat),(∀x∈l,x=32\/x=9)->n8 m (bt l st)->st.1.length<=m+1/\∀k,n8 m st->n8 m (bt (l.take k) st)
 | [],(count,b,n,nt),m,_,h=>⟨h.1,λk J=>by rw[List.take_nil];exact h⟩
 |x::l,(count,b,n,nt),m,hx,h=>by
  have hl:=λy hy=>hx y (ah _ hy);rcases hx x ak with rfl|rfl
  ·rw[bt,if_pos rfl]at h
   refine xA (nS l _ m hl h) ?_;intro h1 h2;refine⟨h1,λk hr=>?_⟩
   cases k with
   |zero=>exact hr
   |succ k=>
    rw[gY,bt,if_pos rfl];by_cases hb:b+1<=m
    ·exact h2 k ⟨hr.1,hb⟩
    ·exfalso
     have hbad:∀(l:List Nat) (count:List Nat) (b n nt:Nat),(∀x∈l,x=32\/x=9)->¬b<=m->¬n8 m (bt l (count,b,n,nt)):=by
      intro l
      induction l with
      |nil=>intro count b n nt _ hb h;exact hb h.2
      |cons y l ih=>
       intro count b n nt hy hb h;rcases hy y ak with rfl|rfl
       ·rw[bt,if_pos rfl]at h
        exact ih _ _ _ _ (λz hz=>hy z (ah _ hz)) (by exact id ((pn [_,_] 0x2F0D1A1802F0D10) hb)) h
       ·rw[bt,if_neg (by decide),if_pos rfl]at h
        have h3:∀(l:List Nat) (st:WS),(∀x∈l,x=32\/x=9)->st.1.length<=(bt l st).1.length:=by
         intro l
         induction l with
         |nil=>intro st _;exact aK _
         |cons z l ih2=>
          intro st hz;obtain⟨count,b,n,nt⟩:=st;rcases hz z ak with rfl|rfl
          ·rw[bt,if_pos rfl];exact ih2 (count,b+1,n+1,nt) λw hw=>hz w (ah _ hw)
          ·rw[bt,if_neg (by decide),if_pos rfl]
           have:=ih2 (eg count b,0,n+1,nt+1) λw hw=>hz w (ah _ hw)
           dsimp only at this ⊢;rw[dR]at this;exact id ((pn [_,_,_] 0x0D200D21CA1810) this)
        have h4:=h3 l (eg count b,0,n+1,nt+1) λz hz=>hy z (ah _ hz);dsimp only at h4;rw[dR]at h4
        have:=h.1
        exact id ((pn [_,_,_,_] 0x2F0DA18130D31CA18022F0D10) hb h4 this)
     exact hbad l _ _ _ _ hl hb h
  ·rw[bt,if_neg (by decide),if_pos rfl]at h
   refine xA (nS l _ m hl h) ?_;intro h1 h2;dsimp only at h1;rw[dR]at h1;refine⟨by dsimp only;exact id ((pn [_,_,_] 0x0DA18200DA1821CA1810) h1),λk hr=>?_⟩
   cases k with
   |zero=>exact hr
   |succ k=>
    rw[gY,bt,if_neg (by decide),if_pos rfl];exact h2 k ⟨by dsimp only;rw[dR];exact id ((pn [_,_,_] 0x0DA1821CA18100DA1821CA1810) h1),bz _⟩
theorem kI:∀(l r:List Nat) (st:WS),(∀x∈l,x=32\/x=9)->bt (l++r) st=bt r (bt l st)
 | [],r,(count,b,n,nt),_=>rfl
 |x::l,r,(count,b,n,nt),h=>by
  rw[gD,bt,bt];rcases h x ak with rfl|rfl
  ·rw[if_pos rfl,if_pos rfl,kI l r _ λy hy=>h y (ah _ hy)]
  ·rw[if_neg (by decide),if_pos rfl,if_neg (by decide),if_pos rfl,kI l r _ λy hy=>h y (ah _ hy)]
theorem n8.mono{m m':Nat}{st:WS}(h:n8 m st)(l:m<=m'):n8 m' st:=⟨by have:=h.1;exact id ((pn [_,_,_] 0x0DA18120DA18020D10) l this),by have:=h.2;exact id ((pn [_,_,_] 0x0D120D020D10) l this)⟩
end
end Mine
end
section
namespace Mine
noncomputable section
theorem sR:∀(l:List Int) (m:Int),(dX m l > 0)↔(m > 0/\∀x∈l,x > 0)
 | [],m=>by unfold dX;simp
 |i::l,m=>by
  rw[dX,sR l];constructor
  ·rintro⟨h1,h2⟩
   split at h1
   ·exact⟨by exact id ((pz [] [_,_] 0x1E1081E0081E10) ‹_› h1),λx hx=>by rcases ai.mp hx with rfl|hx;exact h1;exact h2 x hx⟩
   ·exact⟨by exact id ((pz [] [_] 0x1E0081E008) h1),λx hx=>by rcases ai.mp hx with rfl|hx;exact id ((pz [] [_,_] 0x1E1082F1E011E008) h1 ‹_›);exact h2 x hx⟩
  ·rintro⟨h1,h2⟩
   refine⟨?_,λx hx=>h2 x (ah _ hx)⟩
   have:=h2 i ak
   split<;>lia
theorem jS{st:WS}{ts:Nat}(h:st.1.length<=ts):e7 st ts=st.2.1+ts * st.2.2.2:=by
 unfold e7
 have:tJ st.1 ts=0:=by unfold tJ;rw[show st.1.length - ts=0 from by exact id ((pn [_,_] 0x2D08B100D10) h)];rfl
 rw[this,bS]
theorem Ei{p q m u v:Nat}(hq:q<=m)(h:p+(m+1) * u < q+(m+1) * v):u<=v:=Nat.le_of_not_lt λl=>by
 have:=Nat.mul_le_mul_left (m+1) (show v+1<=u from l)
 rw[Nat.mul_succ]at this;exact id ((pn [_,_,_,_,_] 0x2F0D3AA18141DA40A320D10) hq h this)
theorem IS{p q m u v:Nat}(hq:q<=m)(h:p+(m+1) * u < q+(m+1) * v){ts:Nat}(ht:m+1<=ts):p+ts * u < q+ts * v:=by
 refine xE (Nat.le.dest ht) ?_;intro d e;subst e
 have:=Nat.mul_le_mul_left d (Ei hq h)
 rw[Nat.add_mul,Nat.add_mul _ d v];exact id ((pn [_,_,_,_,_,_] 0x1DAA532AA4100D541DA32A10) h this)
theorem sv{a b:WS}{m:Nat}(la:a.1.length<=m+1)(lb:b.1.length<=m+1)(hb:b.2.1<=m)(h:e7 a (m+1) < e7 b (m+1)):a.2.2.2<=b.2.2.2/\∀ts,m+1<=ts->e7 a ts < e7 b ts:=by
 rw[jS la,jS lb]at h;exact⟨Ei hb h,λts ht=>by rw[jS (aD la ht),jS (aD lb ht)];exact IS hb h ht⟩
theorem AX(a:WS):a.1.length<=dY a+1/\a.2.1<=dY a:=⟨by unfold dY;exact id (pn [_,_] 0x0DA181C1B1800),Nat.le_max_right _ _⟩
theorem Fu{a b:WS}(lb:b.1.length<=5)(la:a.1.length<=5)(hb:b.2.1<=4)(a1:e7 a 1=a.2.2.1)(b1:e7 b 1=b.2.2.1):g8 a b=true↔∀ts,1<=ts->e7 a ts < e7 b ts:=by
 unfold g8;rw[<- a1,<- b1];by_cases h:e7 b 1<=e7 a 1
 ·rw[if_pos h]
  exact⟨λe=>(nomatch e),λk=>absurd (k 1 (aK _)) (bT.mpr h)⟩
 rw[if_neg h];have h:=Nat.lt_of_not_le h;by_cases q:(eQ a && eQ b)=true
 ·rw[if_pos q,decide_eq_true_iff]
  refine xA (Bool.and_eq_true_iff.mp q) ?_;intro s1 s2;have s1:a.1.length<=1:=kW.mp (of_decide_eq_true s1);have s2:b.1.length<=1:=kW.mp (of_decide_eq_true s2);refine⟨λn ts ht=>?_,λk=>(sv la lb hb (k 5 (by decide))).1⟩;rw[jS s1,jS s2,mG,mG]at h;rw[jS (aD s1 ht),jS (aD s2 ht)];refine xE (Nat.le.dest ht) ?_;intro d e;subst e
  have:=Nat.mul_le_mul_left d n
  rw[Nat.add_mul,Nat.add_mul _ d,mG,mG];exact id ((pn [_,_,_,_,_,_] 0x1DAA532AA4100D541DA32A10) h this)
 ·rw[if_neg q,bj]
  have pa:=AX a;have pb:=AX b;have x1:=Nat.le_max_left (dY a) (dY b);have x2:=Nat.le_max_right (dY a) (dY b);generalize max (dY a) (dY b)=m at x1 x2;refine⟨λk ts ht=>?_,λk x J=>decide_eq_true (k _ (by exact id (pn [_] 0x0DA02818)))⟩;have k:∀ts,1<=ts->ts<=m+1->e7 a ts < e7 b ts:=λts ht hm=>by
   rcases Nat.eq_or_lt_of_le ht with e|e
   ·rw[<- e];exact h
   ·have:=of_decide_eq_true (k (ts - 2) (eW.mpr (by exact id ((pn [_,_] 0x1D1B2801D0180DA18100D018) ht hm e))))
    rw[show 2+(ts - 2)=ts by exact id ((pn [_] 0x2D0AB280281D0180D018) ht e)]at this;exact this
  rcases kU ts (m+1) with e|e
  ·exact k ts ht e
  ·exact(sv (aD pa.1 (by exact id ((pn [_,_] 0x0DA181A1800D10) x1))) (aD pb.1 (by exact id ((pn [_,_] 0x0DA181A1800D10) x2))) (aD pb.2 x2) (k _ (by exact id (pn [_] 0x0DA18018)) (aK _))).2 ts e
theorem B9{a b:WS}(ha:n8 4 a)(hb:n8 4 b)(a1:e7 a 1=a.2.2.1)(b1:e7 b 1=b.2.2.1):
  g8 a b=decide (e7 a 1 < e7 b 1/\e7 a 2 < e7 b 2/\e7 a 3 < e7 b 3/\e7 a 4 < e7 b 4/\e7 a 5 < e7 b 5):=by
 refine pj.mpr ((Fu hb.1 ha.1 hb.2 a1 b1).trans (Iff.trans ⟨λk=>⟨k 1 (by decide),k 2 (by decide),k 3 (by decide),k 4 (by decide),k 5 (by decide)⟩,λk ts ht=>?_⟩ decide_eq_true_iff.symm));refine Ie k ?_;clear k;intro k1 k2 k3 k4 k5;rcases kU 5 ts with e|e
 ·exact(sv ha.1 hb.1 hb.2 k5).2 ts e
 ·rcases(show ts=1\/ts=2\/ts=3\/ts=4\/ts=5 by exact id ((pn [_] 0x1F1F1F1F2D5802D4802D3802D2802D1800D5800D018) ht e)) with rfl|rfl|rfl|rfl|rfl<;>assumption
abbrev lK(l:List Nat):WS:=bt l ([],0,0,0)
theorem yf(l:List Nat)(h:∀x∈l,x=32\/x=9)(i:Nat):d7 l i=(e7 (lK l) (i+1):Int):=
 lq l ([],0,0,0) (λJ=>0) h (λi=>by unfold e7 tJ;simp) i
theorem FL{l m:List Nat}(hl:∀x∈l,x=32\/x=9)(hm:∀x∈m,x=32\/x=9)(rl:n8 4 (lK l))(rm:n8 4 (lK m)):g8 (lK l) (lK m)=w7 (d7 l) (d7 m):=by
 have n1:=jd l ([],0,0,0) hl;have n2:=jd m ([],0,0,0) hm;rw[B9 rl rm (by rw[um l hl,n1,bS]) (by rw[um m hm,n2,bS])];unfold w7;refine decide_eq_decide.mpr ?_;rw[sR];have e:∀a b:Nat,((b:Int) - (a:Int) > 0)=(a < b):=λa b=>propext (by omega);simp only[yf l hl,yf m hm,ai,aM,or_false,forall_eq_or_imp,forall_eq,bS,Nat.reduceAdd,e]
theorem BX(k:Nat):∀x∈lw k,x=32\/x=9:=by
 unfold lw;intro x hx
 match k with
 |0=>cases hx
 |1=>simp at hx;exact id ((pn [_] 0x1F2D9802D201902D20190) hx)
 |2=>simp at hx;exact id ((pn [_] 0x1F2D9802D201902D980) hx)
 |3=>simp at hx;exact id ((pn [_] 0x1F2D9802D201901F2D9802D20190) hx)
 |k+4=>simp at hx
theorem ji(c:Nat->Nat):∀i,∀x∈bq c i,x=32\/x=9
 |0,x,h=>nomatch h
 |i+1,x,h=>by
  rcases aP.mp h with h|h
  ·exact ji c i x (bQ h)
  ·exact BX _ x h
theorem yw{m:Nat}{st:WS}(h:n8 m st):∀k,n8 (m+1) (bt (lw k) st):=by
 obtain⟨count,b,n,nt⟩:=st;refine xA h ?_;clear h;intro h1 h2;dsimp only at h1 h2;intro k;unfold lw
 match k with
 |0=>exact⟨by show count.length<=_;exact id ((pn [_,_] 0x0DA18A18100DA1810) h1),by show b<=_;exact id ((pn [_,_] 0x0DA18100D10) h2)⟩
 |1=>exact⟨by show count.length<=_;exact id ((pn [_,_] 0x0DA18A18100DA1810) h1),by show b+1<=_;exact id ((pn [_,_] 0x0DA181A1800D10) h2)⟩
 |2=>exact⟨by show(eg count b).length<=_;rw[dR];exact id ((pn [_,_,_] 0x0DA18A1811CA18200D120DA1810) h1 h2),bz _⟩
 |3=>exact⟨by show(eg count (b+1)).length<=_;rw[dR];exact id ((pn [_,_,_] 0x0DA18A1811CA18A18200D120DA1810) h1 h2),bz _⟩
 |k+4=>exact⟨by show count.length<=_;exact id ((pn [_,_] 0x0DA18A18100DA1810) h1),by show b<=_;exact id ((pn [_,_] 0x0DA18100D10) h2)⟩
theorem kL(c:Nat->Nat):∀i,n8 i (lK (bq c i))
 |0=>⟨bz _,aK _⟩
 |i+1=>by
  have h:=kL c i;show n8 (i+1) (lK ((bq c i).take _++lw _));unfold lK;rw[kI _ _ _ λx hx=>ji c i x (bQ hx)];exact yw ((nS _ _ i (ji c i) h).2 _ ⟨bz _,bz _⟩) _
noncomputable def lc(x:Nat):Bool:=!(x == 32 ||x == 9 ||x == 10 ||(97<=x && x<=101) ||x == 120)
theorem E6:(lI.all λp=>p.1.cps.toList.all lc)=true:=by kernel_rfl
theorem Eg:((aI 48).all λk=>(lI.lookup (cM k) == some (7+(k:Int))) && (cM k).cps.toList.all lc)=true:=by kernel_rfl
theorem DU{l:List (Str×Int)}{k:Str}{v:Int}(h:l.lookup k=some v):(k,v)∈l:=by
 induction l with
 |nil=>cases h
 |cons p l ih=>
  obtain⟨a,b⟩:=p;rw[aO]at h;by_cases q:k == a
  ·rw[q]at h
   have:k=a:=eq_of_beq q
   subst this
   injection h with h;subst h;exact ak
  ·rw[Bool.not_eq_true _ |>.mp q]at h
   exact ah _ (ih h)
theorem pQ{l:List Nat}{x:Nat}(h:x∈l)(hx:lc x=false):tk l=none:=by
 cases e:tk l with
 |none=>rfl
 |some v=>
  have:=bj.mp (bj.mp E6 _ (DU e)) x h
  rw[hx]at this;cases this
theorem qG{k:Nat}(h:k < 48):tk (cM k).cps.toList=some (7+(k:Int))/\∀x∈(cM k).cps.toList,lc x=true:=by
 have:=bj.mp Eg k (eW.mpr h)
 refine xA (bf _ _ |>.mp this) ?_;intro h1 h2;exact⟨eq_of_beq h1,bj.mp h2⟩
theorem A0{k:Nat}(h:k < 48){x:Nat}{r:List Nat}(hx:lc x=false):ck ((cM k).cps.toList++x::r)=((cM k).cps.toList,7+(k:Int)):=by
 refine xA (qG h) ?_;intro h1 h2;have h3:=(lA k h).2;have e:(cM k).length=(cM k).cps.toList.length:=bG.symm;rw[e]at h3;generalize(cM k).cps.toList=w at h1 h2 h3;unfold ck
 match w,h3 with
 | [a],_=>
  have e3:tk (([a]++x::r).take 3)=none:=pQ (x:=x) (by simp) hx;have e2:tk (([a]++x::r).take 2)=none:=pQ (x:=x) (by simp) hx;have e1:tk (([a]++x::r).take 1)=some (7+(k:Int)):=h1;rw[e3,e2,e1];rfl
 | [a,b],_=>
  have e3:tk (([a,b]++x::r).take 3)=none:=pQ (x:=x) (by simp) hx;have e2:tk (([a,b]++x::r).take 2)=some (7+(k:Int)):=h1;rw[e3,e2];rfl
 | [a,b,d],_=>
  have e3:tk (([a,b,d]++x::r).take 3)=some (7+(k:Int)):=h1;rw[e3];rfl
 | [],h=>simp at h
 |a::b::d::e::w,h=>simp at h
theorem Ao{x:Nat}{r:List Nat}(hx:lc x=false):ck (x::r)=([x],if x=32 then 0 else 159+(x:Int)):=by
 have e3:tk ((x::r).take 3)=none:=pQ (x:=x) (by simp) hx;have e2:tk ((x::r).take 2)=none:=pQ (x:=x) (by simp) hx;have e1:tk ((x::r).take 1)=none:=pQ (x:=x) (by simp) hx;unfold ck;rw[e3,e2,e1];simp
noncomputable def sq(k:Nat):Int:=[256,257,258,259,0].getD k 0
noncomputable def r5(c:Nat->Nat)(i:Nat):List Int:=[7+(c i % 48:Nat),256+(i:Int),7+(c i / 48 % 48:Nat),sq (c i / 55296 % 5)]
theorem BG(c:Nat->Nat){i:Nat}(hi:i < 4):iZ 4 (fM c i++[32,9,120])=r5 c i/\BN 4 (fM c i++[32,9,120]):=by
 have h1:c i % 48 < 48:=aY _ (by exact id (pn [] 0x1D301908));have h2:c i / 48 % 48 < 48:=aY _ (by exact id (pn [] 0x1D301908));have h3:c i / 55296 % 5 < 5:=aY _ (by exact id (pn [] 0x1D5808));unfold fM r5;generalize c i % 48=k at h1;generalize c i / 48 % 48=k' at h2;generalize c i / 55296 % 5=j at h3;have hl:lc (97+i)=false:=by
  rcases(show i=0\/i=1\/i=2\/i=3 by exact id ((pn [_] 0x1F1F1F2D3802D2802D1802D0801D480) hi)) with rfl|rfl|rfl|rfl<;>rfl
 obtain⟨y,r,hy,hyo,hyv⟩:∃y r,wV j++[32,9,120]=y::r/\lc y=false/\(if y=32 then(0:Int) else 159+(y:Int))=sq j:=by
  rcases(show j=0\/j=1\/j=2\/j=3\/j=4 by exact id ((pn [_] 0x1F1F1F1F2D4802D3802D2802D1802D0801D580) h3)) with rfl|rfl|rfl|rfl|rfl<;>exact⟨_,_,rfl,rfl,rfl⟩
 have e0:(cM k).cps.toList++[97+i]++(cM k').cps.toList++wV j++[32,9,120]=(cM k).cps.toList++(97+i)::((cM k').cps.toList++y::r):=by
  rw[bk _ (wV j),hy];simp
 rw[e0];have r1:=A0 (r:=(cM k').cps.toList++y::r) h1 hl;have d1:((cM k).cps.toList++(97+i)::((cM k').cps.toList++y::r)).drop (cM k).cps.toList.length=(97+i)::((cM k').cps.toList++y::r):=List.drop_left ..;have r2:=Ao (r:=(cM k').cps.toList++y::r) hl;have r3:=A0 (r:=r) h2 hyo;have d3:((cM k').cps.toList++y::r).drop (cM k').cps.toList.length=y::r:=List.drop_left ..;have r4:=Ao (r:=r) hyo;have v2:(if 97+i=32 then(0:Int) else 159+((97+i:Nat):Int))=256+(i:Int):=by rw[if_neg (by exact id (pn [_] 0x2F2D2019A06119))];exact id (pn [_] 0x2EA2C0010029A2CA061199F19)
 constructor
 ·rw[iZ,r1,d1,iZ,r2]
  show _::_::iZ 2 ((cM k').cps.toList++y::r)=_;rw[iZ,r3,d3,iZ,r4,iZ,v2,hyv]
 ·refine⟨by simp,?_⟩
  rw[r1,d1];refine⟨by simp,?_⟩;rw[r2];refine⟨by simp,?_⟩;show BN 1 (((cM k').cps.toList++y::r).drop (ck ((cM k').cps.toList++y::r)).1.length);rw[r3,d3];exact⟨by simp,trivial⟩
end
end Mine
end
section
namespace Mine
noncomputable section
noncomputable def fy(k:Nat):Stmt:=((de 205)[k]?).getD default
abbrev mC:Sc:=zj.scope.names
theorem DJ(script:List Int)(hs:script.length<=1000):∃c:Nat->Nat,o3.fn "_law_page" [.lst (script.map .int)]=some (.tup [eK c,.lst (cr (ft c)),.str (iJ c)]):=D4 script hs
theorem Da{s:Str}{p:Nat}(hs:s.length<=1000)(hp:p<=s.length)(ok:BN 4 (s.cps.toList.drop p)):o3.fn "_law_symbols" [.str s,.int (p:Int)]=some (aU (iZ 4 (s.cps.toList.drop p))):=DT hs hp ok
theorem Ai{s:Str}(hs:s.length<=1000)(hb:(s.cps.toList.takeWhile gU).length<=60):o3.fn "Whitespace" [.str s]=some (Fe s):=Jx hs hb
theorem Bl{s s':Str}{a b:WS}(ha:GV a)(hb:GV b):o3.mth "Whitespace" "less" [lQ s a,lQ s' b]=some (.bool (g8 a b)):=x6 ha.1 hb.1 ha.2 hb.2
theorem C3{l0 l1 l2 l3:List Nat}(h:∀l∈[l0,l1,l2,l3],l.length<=20/\∀x∈l,x=32\/x=9):o3.fn "_law_farther" [.lst (cr [l0,l1,l2,l3])]=some (Gf λi=>d7 ([l0,l1,l2,l3].getD i [])):=Gb h
theorem ur{sp:List (Str×WS)}(hn:sp.length<=20)(hw:∀p∈sp,GV p.2):o3.fn "_law_hang" [wc sp]=some (aU (gO (fK sp) sp.length)):=Dl hn hw
theorem Bc(x:Int):o3.fn "ISTERMINAL" [.int x]=some (.bool (decide (x < 256))):=xx x
theorem DW(x:Int):o3.fn "ISNONTERMINAL" [.int x]=some (.bool (decide (x ≥ 256))):=AW x
theorem E3(x:Int):o3.fn "ISEOF" [.int x]=some (.bool (x == 0)):=AR x
abbrev l7(c:Nat->Nat)(i:Nat):Str:=sl (fX c i)
noncomputable def u9(c:Nat->Nat):List (Str×WS):=[0,1,2,3].map λi=>(l7 c i,lK (bq c (i+1)))
theorem Ck(c:Nat->Nat)(i:Nat):∃x r,fM c i++[32,9,120]=x::r/\gU x=false:=by
 have h:=qG (k:=c i % 48) (aY _ (by exact id (pn [] 0x1D301908)));have h3:=(lA (c i % 48) (aY _ (by exact id (pn [] 0x1D301908)))).2;have e:(cM (c i % 48)).length=(cM (c i % 48)).cps.toList.length:=bG.symm;rw[e]at h3;unfold fM;generalize(cM (c i % 48)).cps.toList=w at h h3
 cases w with
 |nil=>simp at h3
 |cons x w=>
  refine⟨x,_,by simp only[gD,bk];rfl,?_⟩;have hx:=h.2 x ak;unfold lc at hx;unfold gU
  cases h1:(x == 32) with
  |true=>rw[h1]at hx;cases hx
  |false=>cases h2:(x == 9) with
   |true=>rw[h1,h2]at hx;cases hx
   |false=>rfl
theorem HC(c:Nat->Nat)(i:Nat):zx (l7 c i)=lK (bq c (i+1)):=by
 refine fL (Ck c i) ?_;intro x r h hx;show bt (fX c i) _=_;unfold fX;rw[bk,h,lD (ji c (i+1)) hx]
theorem jv(c:Nat->Nat)(i:Nat):(fX c i).length<=40:=by
 unfold fX fM;have h1:=(lA (c i % 48) (aY _ (by exact id (pn [] 0x1D301908)))).2.2;have h2:=(lA (c i / 48 % 48) (aY _ (by exact id (pn [] 0x1D301908)))).2.2;have e:∀s:Str,s.cps.toList.length=s.length:=λs=>bG;have hl:(bq c (i+1)).length<=7:=jf _ _;have ho:(wV (c i / 55296 % 5)).length<=1:=by
  have hk:c i / 55296 % 5 < 5:=aY _ (by exact id (pn [] 0x1D5808));generalize c i / 55296 % 5=k at hk;rcases(show k=0\/k=1\/k=2\/k=3\/k=4 by exact id ((pn [_] 0x1F1F1F1F2D4802D3802D2802D1802D0801D580) hk)) with rfl|rfl|rfl|rfl|rfl<;>decide
 simp only[aB,e,am,ce];exact id ((pn [_,_,_,_] 0x0D2819AA18A18A1808AA3A1AA1808020D1830D7820D3810D380) h1 h2 hl ho)
theorem rY(c:Nat->Nat){i:Nat}(h:i<=4):GV (lK (bq c i)):=⟨by have:=(kL c i).1;exact id ((pn [_,_] 0x0D141910DA18010D480) h this),by have:=(kL c i).2;exact id ((pn [_,_] 0x0D141910D010D480) h this)⟩
noncomputable def JU{α:Type}(a:α):α:=@Classical.epsilon α ⟨a⟩ λx=>x=a
theorem oc{α:Type}(a:α):JU a=a:=@Classical.epsilon_spec α (λx=>x=a) ⟨a,rfl⟩
@[irreducible] noncomputable def H5:List Int:=Classical.epsilon λs=>¬(s.length<=63->oI s=some (.bool true))
@[irreducible] noncomputable def gS:PV:=.lst (H5.map .int)
@[irreducible] noncomputable def gc:Nat->Nat:=Classical.epsilon λc=>o3.fn "_law_page" [gS]=some (.tup [eK c,.lst (cr (ft c)),.str (iJ c)])
noncomputable def s1:SE:=[nm "script" gS,nm "cells" (eK gc),nm "leads" (.lst (cr (ft gc))),nm "page" (.str (iJ gc))]
noncomputable def s2:SE:=s1++[nm "lines" (.lst (cr (eN gc)))]
noncomputable def s3:SE:=s2++[nm "spaces" (wc (u9 gc))]
noncomputable def s4:SE:=s3++[nm "symbols" (.lst ([0,1,2,3].map λi=>aU (r5 gc i)))]
noncomputable def s5:SE:=s4++[nm "others" (aU ([0,1,2,3].map λi=>sq (gc i / 55296 % 5)))]
noncomputable def s6:SE:=s5++[nm "wrong" (.lst [])]
theorem MW{n:Nat}:ex o3 [] (n+20) mC (s1) (fy 1)=some (.next,s2):=by
 conv=>lhs;arg 6;whnf
 refine(ba (u:=.lst (cr (eN gc))) (by rfl) ?_).trans (by kernel_rfl);refine xW (s:=iJ gc) (vs:=[.str "\n"]) (by rfl) (by rfl) (by rfl) ?_;have hp:(iJ gc).length<=1048576:=by
  show(Txt.join "\n" ((eN gc).map sl)).length<=_;have e:Txt.join "\n" ((eN gc).map sl)=Str.join "\n" ((eN gc).map sl):=StrLaws.glued_eq_join _ _;rw[e];have h:=StrLaws.join_length_le "\n" ((eN gc).map sl)
  have:Str.length "\n"=1:=by decide
  rw[this]at h;unfold eN at h ⊢;simp only[ao,c6,cg,List.sum_nil,am,ce,dZ]at h ⊢
  have:=jv gc 0;have:=jv gc 1;have:=jv gc 2;have:=jv gc 3
  lia
 have hs:Txt.split (iJ gc) "\n"=(eN gc).map sl:=by
  refine zS (c:=10) (by unfold eN;simp) ?_;intro l hl;refine bC (aG.mp hl) ?_;rintro w hw rfl;have hfree:∀i,10 ∉ fX gc i:=by
   intro i;unfold fX fM;have h1:=(qG (k:=gc i % 48) (aY _ (by exact id (pn [] 0x1D301908)))).2;have h2:=(qG (k:=gc i / 48 % 48) (aY _ (by exact id (pn [] 0x1D301908)))).2;have ho:10 ∉ wV (gc i / 55296 % 5):=by
    have hk:gc i / 55296 % 5 < 5:=aY _ (by exact id (pn [] 0x1D5808));generalize gc i / 55296 % 5=k at hk;rcases(show k=0\/k=1\/k=2\/k=3\/k=4 by exact id ((pn [_] 0x1F1F1F1F2D4802D3802D2802D1802D0801D580) hk)) with rfl|rfl|rfl|rfl|rfl<;>decide
   simp only[aP,ai,aM,or_false];rintro((h|(((h|h)|h)|h))|h)
   ·rcases ji gc (i+1) 10 h with h|h<;>lia
   ·have:=h1 10 h;cases this
   ·exact id ((pn [_] 0x2F2DA06119A8) h)
   ·have:=h2 10 h;cases this
   ·exact ho h
   ·exact id ((pn [] 0x2F1F1F2D7819A82D98A82D2019A8) h)
  show 10 ∉ w;unfold eN at hw;simp only[ai,aM,or_false]at hw;rcases hw with rfl|rfl|rfl|rfl<;>exact hfree _
 show(if(decide ((iJ gc).length<=1048576) && decide (0 < Str.length "\n") && decide ((Txt.split (iJ gc) "\n").length<=1048576))=true then some (PV.lst ((Txt.split (iJ gc) "\n").map PV.str)) else none)=_;have hg:(decide ((iJ gc).length<=1048576) && decide (0 < Str.length "\n") && decide ((Txt.split (iJ gc) "\n").length<=1048576))=true:=by
  rw[hs,decide_eq_true hp,decide_eq_true (show 0 < Str.length "\n" by decide)]
  have:((eN gc).map sl).length<=1048576:=by unfold eN;simp
  rw[decide_eq_true this];rfl
 rw[if_pos hg,hs];unfold cr;rw[aj];try rfl
theorem MU{n:Nat}:ex o3 [] (n+60) mC (s2) (fy 2)=some (.next,s3):=by
 conv=>lhs;arg 6;whnf
 refine(ba (u:=wc (u9 gc)) (by rfl) ?_).trans (by kernel_rfl);refine fj (λi=>lQ (l7 gc i) (lK (bq gc (i+1)))) (λi=>.str (l7 gc i)) 30 [0,1,2,3] (by rfl) (by kernel_rfl) (by rfl) ?_ (by decide) ?_
 ·show 30+4+1<=_
  exact id (pn [_] 0x0DA3A190A18A481E19)
 ·intro i m hi
  refine⟨[nm "line" (.str (l7 gc i))],by kernel_rfl,by rfl,?_⟩;rw[<- HC gc i,<- wN];refine fq (v':=.str (l7 gc i)) (v:=.str (l7 gc i)) (by kernel_rfl) (by rfl) (by kernel_rfl) (by rfl) (Ai ?_ ?_)
  ·rw[dZ];have:=jv gc i;exact id ((pn [_] 0x0D03E82900D28190) this)
  ·have:=(List.takeWhile_sublist (p:=gU) (l:=fX gc i)).length_le
   have:=jv gc i
   show((fX gc i).takeWhile gU).length<=60;exact id ((pn [_,_] 0x0D3C1900D281910D10) ‹_› this)
theorem MV{n:Nat}:ex o3 [] (n+60) mC (s3) (fy 3)=some (.next,s4):=by
 conv=>lhs;arg 6;whnf
 refine(ba (u:=.lst ([0,1,2,3].map λi=>aU (r5 gc i))) (by rfl) ?_).trans (by kernel_rfl);refine fj (λi=>aU (r5 gc i)) (λi=>.tup [.str (l7 gc i),lQ (l7 gc i) (lK (bq gc (i+1)))]) 30 [0,1,2,3] (by rfl) (by kernel_rfl) (by kernel_rfl) ?_ (by decide) ?_
 ·show 30+4+1<=_
  exact id (pn [_] 0x0DA3A190A18A481E19)
 ·intro i m hi
  have hi5:i < 4:=by simp at hi;exact id ((pn [_] 0x1D4801F1F1F2D3802D2802D1802D080) hi)
  refine⟨[nm "line" (.str (l7 gc i)),nm "space" (lQ (l7 gc i) (lK (bq gc (i+1))))],by kernel_rfl,by rfl,?_⟩;have hn:(lK (bq gc (i+1))).2.2.1=(bq gc (i+1)).length:=(jd _ _ (ji gc (i+1))).trans (bS _);have hd:(fX gc i).drop (bq gc (i+1)).length=fM gc i++[32,9,120]:=by
   unfold fX;rw[bk];exact List.drop_left ..
  refine xA (BG gc hi5) ?_;intro h1 h2;have hlen:=jv gc i;have hcal:=Da (s:=l7 gc i) (p:=(bq gc (i+1)).length) (by rw[dZ];exact id ((pn [_] 0x0D03E82900D28190) hlen)) (by rw[dZ];unfold fX;simp only[aB];exact id (pn [_,_,_] 0x0DA2A100)) (by rw[FJ,hd];exact h2);rw[FJ,hd,h1]at hcal;refine jo (vs:=[.str (l7 gc i),.int ((bq gc (i+1)).length:Int)]) (by kernel_rfl) (ar (by rfl) (ar ?_ aR)) (by rfl) hcal;rw[<- hn];kernel_rfl
theorem FP(k:Nat)(h:k < 5):(([256,257,258,259,0]:List Int).map PV.int)[k]?=some (.int (sq k)):=by
 rcases(show k=0\/k=1\/k=2\/k=3\/k=4 by exact id ((pn [_] 0x1F1F1F1F2D4802D3802D2802D1802D0801D580) h)) with rfl|rfl|rfl|rfl|rfl<;>rfl
theorem MZ{n:Nat}:ex o3 [] (n+60) mC (s4) (fy 4)=some (.next,s5):=by
 conv=>lhs;arg 6;whnf
 refine(ba (u:=aU ([0,1,2,3].map λi=>sq (gc i / 55296 % 5))) (by rfl) ?_).trans (by kernel_rfl);refine fj (λi=>.int (sq (gc i / 55296 % 5))) (λi=>.int (gc i:Int)) 30 [0,1,2,3] (by rfl) (by kernel_rfl) (by kernel_rfl) ?_ (by decide) ?_
 ·show 30+4+1<=_
  exact id (pn [_] 0x0DA3A190A18A481E19)
 ·intro i m hi
  refine⟨[nm "cell" (.int (gc i:Int))],by kernel_rfl,by rfl,?_⟩;refine bp (b:=aU [256,257,258,259,0]) (k:=.int ((gc i / 55296 % 5:Nat):Int)) (by rfl) (by rfl) ?_ (eR (FP _ (aY _ (by exact id (pn [] 0x1D5808)))) (by decide));refine aV (a:=.int ((gc i / 55296:Nat):Int)) (b:=.int ((5:Nat):Int)) ?_ (by rfl) (d9 (by exact id (pn [] 0x1D5808)));show ev _ _ _ _ _=_;exact aV (a:=.int (gc i:Int)) (b:=.int ((55296:Nat):Int)) (by rfl) (by rfl) (e8 (by exact id (pn [] 0x1DD8002908)) (by exact id (pn [] 0x1D010000000059D80029)))
theorem MY{n:Nat}:ex o3 [] (n+90) mC (s5) (fy 5)=some (.next,s6):=by
 conv=>lhs;arg 6;whnf
 refine(ba (u:=.lst []) (by rfl) ?_).trans (by kernel_rfl)
 let fr:Nat->List PV:=λi=>[0,1,2,3].map λgj=>.bool (w7 (d7 (bq gc (i+1))) (d7 (bq gc (gj+1))))
 let w:Nat->PV:=λi=>lQ (l7 gc i) (lK (bq gc (i+1)))
 refine(cJ (items:=[0,1,2,3].map λi=>.tup [w i,.lst (fr i)]) (rs:=([0,1,2,3].filter λJ=>true).flatMap λJ=>[]) (by kernel_rfl) ?_ ?_ (by simp)).trans (by rfl)
 ·refine(qJ (l:=[0,1,2,3].map w) (m:=[0,1,2,3].map λi=>.lst (fr i)) (by kernel_rfl) (by rfl) (by kernel_rfl) ?_ (by simp) (by simp)).trans (by rfl)
  refine fq (v':=.lst (cr (ft gc))) (v:=.lst (cr (ft gc))) (by kernel_rfl) (by rfl) (by rfl) (by rfl) ?_;refine(C3 (l0:=bq gc 1) (l1:=bq gc 2) (l2:=bq gc 3) (l3:=bq gc 4) ?_).trans (by kernel_rfl);intro l hl;simp only[ai,aM,or_false]at hl;have h7:∀i,(bq gc (i+1)).length<=20:=λi=>by have:=jf (bq gc i) (gc i);show(gP _ _).length<=20;exact id ((pn [_] 0x0D141900D780) this)
  rcases hl with rfl|rfl|rfl|rfl<;>exact⟨h7 _,ji gc _⟩
 ·refine oR (λJ=>true) (λJ=>[]) (λi=>.tup [w i,.lst (fr i)]) 50 (by kernel_rfl) [0,1,2,3] _ ?_ ?_
  ·show 50+4+1<=_
   exact id (pn [_] 0x0DA58190A18A483219)
  ·intro i m hi
   have hi5:i < 4:=by simp at hi;exact id ((pn [_] 0x1D4801F1F1F2D3802D2802D1802D080) hi)
   refine⟨[nm "spaces" (wc (u9 gc)),nm "one" (w i),nm "row" (.lst (fr i))],by kernel_rfl,by rfl,λJ=>⟨[0,1,2,3].map λgj=>.tup [w gj,.bool (w7 (d7 (bq gc (i+1))) (d7 (bq gc (gj+1))))],by kernel_rfl,?_⟩⟩;refine cN (λJ=>false) (λJ=>.none) (λgj=>.tup [w gj,.bool (w7 (d7 (bq gc (i+1))) (d7 (bq gc (gj+1))))]) 30 (by rfl) [0,1,2,3] _ ?_ ?_
   ·show 30+4+1<=_
    exact id (pn [_] 0x0DA32190A18A481E19)
   ·intro gj q hj
    have hj5:gj < 4:=by simp at hj;exact id ((pn [_] 0x1D4801F1F1F2D3802D2802D1802D080) hj)
    refine⟨[nm "spaces" (wc (u9 gc)),nm "one" (w i),nm "row" (.lst (fr i)),nm "two" (w gj),nm "far" (.bool (w7 (d7 (bq gc (i+1))) (d7 (bq gc (gj+1)))))],by kernel_rfl,?_,λh=>nomatch h⟩;refine bN (bV (db (a:=.bool (g8 (lK (bq gc (i+1))) (lK (bq gc (gj+1))))) (b:=.bool (w7 (d7 (bq gc (i+1))) (d7 (bq gc (gj+1))))) ?_ (by rfl) (by rfl) ?_))
    ·exact j7 (c:="Whitespace") (fs:=e9 (l7 gc i) (lK (bq gc (i+1)))) (by rfl) (by rfl) (ar (by rfl) aR) (by rfl) (Bl (s:=l7 gc i) (s':=l7 gc gj) (rY gc (by exact id ((pn [_] 0x0D48A1801D480) hi5))) (rY gc (by exact id ((pn [_] 0x0D48A1801D480) hj5))))
    ·rw[FL (ji gc _) (ji gc _) ((kL gc (i+1)).mono (by exact id ((pn [_] 0x0D48A1801D480) hi5))) ((kL gc (gj+1)).mono (by exact id ((pn [_] 0x0D48A1801D480) hj5)))]
     show some (!(_ == _))=_;rw[beq_self_eq_true];rfl
end
end Mine
end
section
namespace Mine
noncomputable section
theorem pB{m:Nat}:∀(l:List PV) (n:Nat),(∀v∈l,∀k,m<=k->n0 k v v=some true)->m+l.length+1<=n->v5 n l l=some true
 | [],n,_,h=>by
  refine xE (aE (show 1<=n by simp at h;exact id ((pn [_,_] 0x0D1180D1A180) h))) ?_;rintro k rfl;rfl
 |v::l,n,hv,h=>by
  rw[am]at h;refine xE (aE (show 1<=n by exact id ((pn [_,_,_] 0x0D2180D2A18AA1810) h))) ?_;rintro k rfl;exact gg (hv v ak k (by exact id ((pn [_,_,_] 0x0D200DA182A18AA1810) h))) (pB l k (λu hu=>hv u (ah _ hu)) (by exact id ((pn [_,_,_] 0x0D2A18A100DA182A18AA1810) h)))
theorem Db{n:Nat}{k:Int}{a b:PV}{as bs:List (Int×PV)}(h:eH bs k=some b)(h1:n0 n a b=some true)(h2:pG n as bs=some true):pG (n+1) ((k,a)::as) bs=some true:=by
 show(match eH bs k with|none=>some false|some b=>cW (λx y=>some (x && y)) (n0 n a b) (pG n as bs))=_;rw[h];exact gg h1 h2
theorem vF{m:Nat}{l:List PV}{n:Nat}(hv:∀v∈l,∀k,m<=k->n0 k v v=some true)(h:m+l.length+2<=n):n0 n (.lst l) (.lst l)=some true:=by
 refine xE (aE (show 1<=n by exact id ((pn [_,_,_] 0x0D2180D2A28A10) h))) ?_;rintro k rfl;exact pB l k hv (by exact id ((pn [_,_,_] 0x0D2A18A100DA182A28A10) h))
theorem qV(i:Int)(k:Nat)(h:1<=k):n0 k (.int i) (.int i)=some true:=by
 refine xE (aE h) ?_;rintro k rfl;exact congrArg some (beq_self_eq_true _)
theorem Ax(s:Str)(k:Nat)(h:1<=k):n0 k (.str s) (.str s)=some true:=by
 refine xE (aE h) ?_;rintro k rfl;exact congrArg some (beq_self_eq_true _)
theorem C6(l:List Int){n:Nat}(h:l.length+3<=n):n0 n (aU l) (aU l)=some true:=
 vF (m:=1) (λv hv k hk=>by refine bC (aG.mp hv) ?_;rintro i _ rfl;exact qV i k hk) (by rw[aa];exact id ((pn [_,_] 0x0D1A28A0180D1A380) h))
theorem n7{n:Nat}{a b:PV}(h:n0 n a b=some true):Hc n .NotEq a b=some false:=by
 show(n0 n a b).map (!·)=_;rw[h];rfl
theorem MX{n:Nat}:ex o3 [] (n+90) mC (s6) (fy 6)=some (.next,s6):=by
 conv=>lhs;arg 6;whnf
 refine(ba (u:=.lst []) (by rfl) ?_).trans (by kernel_rfl)
 let xs:List Int:=[-1,0,255]++[0,1,2,3].flatMap (r5 gc)
 refine aV (a:=.lst []) (b:=.lst []) (by kernel_rfl) ?_ (by rfl);refine(cJ (items:=xs.map .int) (rs:=(xs.filter λJ=>false).map λi=>(.none,.int i)) (by rfl) (by kernel_rfl) ?_ (by rw[List.filter_eq_nil_iff.mpr (by simp)];simp)).trans (by rw[List.filter_eq_nil_iff.mpr (by simp)];rfl);refine cN (λJ=>false) (λi=>.int i) (λi=>.int i) 40 (by kernel_rfl) xs _ ?_ ?_
 ·have:xs.length=19:=rfl
  exact id ((pn [_,_] 0x0DA57191A18A028192D13190) this)
 ·intro x m hx
  refine⟨[nm "one" (.int x)],by kernel_rfl,?_,λh=>nomatch h⟩;refine bN (pS (dv (b:=false) (c:=false) ?_ λJ=>dv (b:=false) (c:=false) ?_ λJ=>dv (b:=false) (c:=false) ?_ λJ=>lT))
  ·refine bV (db (a:=.bool (decide (x < 256))) (b:=.bool (decide (x < 256))) (fq (v':=.int x) (v:=.int x) (by rfl) (by rfl) (by rfl) (by rfl) (Bc x)) (by rfl) (by rfl) ?_)
   show some (!(_ == _))=_;rw[beq_self_eq_true];rfl
  ·refine bV (db (a:=.bool (decide (x ≥ 256))) (b:=.bool (decide (x > 255))) (fq (v':=.int x) (v:=.int x) (by rfl) (by rfl) (by rfl) (by rfl) (DW x)) (by rfl) (by rfl) ?_)
   show some (!(_ == _))=_;rw[show decide (x ≥ 256)=decide (x > 255) from decide_eq_decide.mpr (by exact id (⟨pz [] [_] 0x1E0FF190E0010029,pz [] [_] 0x0E00100291E0FF19⟩)),beq_self_eq_true];rfl
  ·refine bV (db (a:=.bool (x == 0)) (b:=.bool (x == 0)) (fq (v':=.int x) (v:=.int x) (by rfl) (by rfl) (by rfl) (by rfl) (E3 x)) (by rfl) (by rfl) ?_)
   show some (!(_ == _))=_;rw[beq_self_eq_true];rfl
abbrev cA(c:Nat->Nat)(i:Nat):Nat:=c i % 48
abbrev cB(c:Nat->Nat)(i:Nat):Nat:=c i / 48 % 48
abbrev cO(c:Nat->Nat)(i:Nat):Int:=sq (c i / 55296 % 5)
theorem MN{n:Nat}:ex o3 [] (n+90) mC (s6) (fy 7)=some (.next,s6):=by
 conv=>lhs;arg 6;whnf
 refine dh (c:=false) (pS (dv (b:=false) (c:=false) (by kernel_rfl) λJ=>dv (b:=false) (c:=false) ?_ λJ=>lT)) (λh=>nomatch h) λJ=>by rfl
 let v:PV:=.lst ([0,1,2,3].map λi=>aU (r5 gc i))
 refine bV (db (a:=v) (b:=v) (by rfl) (by rfl) ?_ (n7 (vF (m:=8) ?_ ?_)))
 ·refine fj (λi=>aU (r5 gc i)) (λ(i:Nat)=>.int ((0:Int)+(i:Int))) 30 [0,1,2,3] (by kernel_rfl) (by kernel_rfl) (by kernel_rfl) ?_ (by decide) ?_
  ·show 30+4+1<=_
   exact id (pn [_] 0x0DA53190A18A481E19)
  ·intro i m hi
   refine⟨[nm "cells" (eK gc),nm "others" (aU ([0,1,2,3].map (cO gc))),nm "spot" (.int ((0:Int)+(i:Int)))],by kernel_rfl,by rfl,?_⟩;have hi5:i < 4:=by simp at hi;exact id ((pn [_] 0x1D4801F1F1F2D3802D2802D1802D080) hi)
   refine sF (ar ?_ (ar ?_ (ar ?_ (ar ?_ aR)))) (by simp[r5])
   ·refine aV (a:=.int 7) (b:=.int (cA gc i:Int)) (by rfl) ?_ rfl
    refine aV (a:=.int (gc i:Int)) (b:=.int ((48:Nat):Int)) ?_ (by rfl) (d9 (by exact id (pn [] 0x1D301908)));rcases(show i=0\/i=1\/i=2\/i=3 by exact id ((pn [_] 0x1F1F1F2D3802D2802D1802D0801D480) hi5)) with rfl|rfl|rfl|rfl<;>kernel_rfl
   ·exact aV (a:=.int 256) (b:=.int (i:Int)) (by rfl) (Eq.trans (b:=some (.int ((0:Int)+(i:Int)))) (by rfl) (by rw[bF])) rfl
   ·refine aV (a:=.int 7) (b:=.int (cB gc i:Int)) (by rfl) ?_ rfl
    refine aV (a:=.int ((gc i / 48:Nat):Int)) (b:=.int ((48:Nat):Int)) ?_ (by rfl) (d9 (by exact id (pn [] 0x1D301908)));show ev _ _ _ _ _=_;refine aV (a:=.int (gc i:Int)) (b:=.int ((48:Nat):Int)) ?_ (by rfl) (e8 (by exact id (pn [] 0x1D301908)) (by exact id (pn [] 0x1D0100000000593019)));rcases(show i=0\/i=1\/i=2\/i=3 by exact id ((pn [_] 0x1F1F1F2D3802D2802D1802D0801D480) hi5)) with rfl|rfl|rfl|rfl<;>kernel_rfl
   ·rcases(show i=0\/i=1\/i=2\/i=3 by exact id ((pn [_] 0x1F1F1F2D3802D2802D1802D0801D480) hi5)) with rfl|rfl|rfl|rfl<;>kernel_rfl
 ·intro v hv k hk
  refine bC (aG.mp hv) ?_;rintro i _ rfl;exact C6 _ (by show 4+3<=k;exact id ((pn [_] 0x0D0A38480D088) hk))
 ·show 8+4+2<=_
  exact id (pn [_] 0x0DA54190A28A4888)
@[irreducible] noncomputable def ga:Nat->Int:=JU λi=>(gO (fK (u9 gc)) 4).getD i 0
theorem H1:ga=λi=>(gO (fK (u9 gc)) 4).getD i 0:=by unfold ga;exact oc _
theorem KL:∀i,i < 4->-1<=ga i/\ga i < (i:Int):=by rw[H1];exact λi hi=>(ma (fK (u9 gc)) 4).2.2 i hi
noncomputable def s9:SE:=s6++[nm "above" (aU ([0,1,2,3].map ga))]
theorem M4{n:Nat}:ex o3 [] (n+20) mC (s6) (fy 8)=some (.next,s9):=by
 have hb:=ma (fK (u9 gc)) 4;have e:gO (fK (u9 gc)) 4=[0,1,2,3].map λi=>(gO (fK (u9 gc)) 4).getD i 0:=by
  have hl:(gO (fK (u9 gc)) 4).length=4:=hb.1;generalize gO (fK (u9 gc)) 4=l at hl
  match l,hl with
  | [a,b,d,e],_=>rfl
 conv=>lhs;arg 6;whnf
 refine(ba (u:=aU (gO (fK (u9 gc)) 4)) (by rfl) ?_).trans ?_
 ·refine fq (v':=wc (u9 gc)) (v:=wc (u9 gc)) (by kernel_rfl) (by kernel_rfl) (by rfl) (by rfl) (ur (sp:=u9 gc) (by unfold u9;simp) ?_)
  intro p hp;refine bC (aG.mp hp) ?_;rintro i hi rfl;exact rY gc (by simp at hi;exact id ((pn [_] 0x0D48A1801F1F1F2D3802D2802D1802D080) hi))
 ·unfold s9
  rw[H1,<- e];generalize gO (fK (u9 gc)) 4=l;kernel_rfl
abbrev lk:=Int×Int×Int
noncomputable def eo(x:lk):PV:=.tup [.int x.1,.int x.2.1,.int x.2.2]
noncomputable def gH(c:Nat->Nat)(ab:Nat->Int):List lk:=[0,1,2,3].map λ(i:Nat)=>(256+(i:Int),gG (ab i),1+(cA c i:Int))
noncomputable def iR(c:Nat->Nat):List lk:=[0,1,2,3].map λ(i:Nat)=>(256+(i:Int),cO c i,1+(cB c i:Int))
noncomputable def MJ:SE:=s9++[nm "calls" (.lst ((gH gc ga).map eo))]
noncomputable def Lj:SE:=s9++[nm "calls" (.lst ((gH gc ga++iR gc).map eo))]
noncomputable def az:List Int:=[0,256,257,258,259]
theorem MS{n:Nat}:ex o3 [] (n+90) mC (s9) (fy 9)=some (.next,MJ):=by
 conv=>lhs;arg 6;whnf
 refine(ba (u:=.lst ((gH gc ga).map eo)) (by rfl) ?_).trans (by kernel_rfl);refine fj (λ(i:Nat)=>eo (256+(i:Int),gG (ga i),1+(cA gc i:Int))) (λ(i:Nat)=>.int ((0:Int)+(i:Int))) 30 [0,1,2,3] (by kernel_rfl) (by kernel_rfl) (by kernel_rfl) ?_ (by decide) ?_
 ·show 30+4+1<=_
  exact id (pn [_] 0x0DA58190A18A481E19)
 ·intro i m hi
  refine⟨[nm "cells" (eK gc),nm "above" (aU ([0,1,2,3].map ga)),nm "spot" (.int ((0:Int)+(i:Int)))],by kernel_rfl,by rfl,?_⟩;have hi5:i < 4:=by simp at hi;exact id ((pn [_] 0x1D4801F1F1F2D3802D2802D1802D080) hi)
  refine fG (ar ?_ (ar ?_ (ar ?_ aR)))
  ·exact aV (a:=.int 256) (b:=.int (i:Int)) (by rfl) (Eq.trans (b:=some (.int ((0:Int)+(i:Int)))) (by rfl) (by rw[bF])) rfl
  ·refine gV (c:=decide (ga i ≥ 0)) ?_ (λhc=>?_) (λhc=>?_)
   ·rcases(show i=0\/i=1\/i=2\/i=3 by exact id ((pn [_] 0x1F1F1F2D3802D2802D1802D0801D480) hi5)) with rfl|rfl|rfl|rfl<;>kernel_rfl
   ·have hc:=of_decide_eq_true hc
    unfold gG;rw[if_neg (by lia)];rcases(show i=0\/i=1\/i=2\/i=3 by exact id ((pn [_] 0x1F1F1F2D3802D2802D1802D0801D480) hi5)) with rfl|rfl|rfl|rfl<;>kernel_rfl
   ·have hc:=of_decide_eq_false hc
    unfold gG;rw[if_pos (by lia)];rfl
  ·refine aV (a:=.int 1) (b:=.int (cA gc i:Int)) (by rfl) ?_ rfl
   refine aV (a:=.int (gc i:Int)) (b:=.int ((48:Nat):Int)) ?_ (by rfl) (d9 (by exact id (pn [] 0x1D301908)));rcases(show i=0\/i=1\/i=2\/i=3 by exact id ((pn [_] 0x1F1F1F2D3802D2802D1802D0801D480) hi5)) with rfl|rfl|rfl|rfl<;>kernel_rfl
theorem LY{n:Nat}:ex o3 [] (n+90) mC (MJ) (fy 10)=some (.next,Lj):=by
 conv=>lhs;arg 6;whnf
 refine(ba (u:=.lst ((gH gc ga++iR gc).map eo)) (by rfl) ?_).trans (by kernel_rfl);refine aV (a:=.lst ((gH gc ga).map eo)) (b:=.lst ((iR gc).map eo)) (by kernel_rfl) ?_ (by rfl);refine fj (λ(i:Nat)=>eo (256+(i:Int),cO gc i,1+(cB gc i:Int))) (λ(i:Nat)=>.int ((0:Int)+(i:Int))) 30 [0,1,2,3] (by kernel_rfl) (by kernel_rfl) (by kernel_rfl) ?_ (by decide) ?_
 ·show 30+4+1<=_
  exact id (pn [_] 0x0DA57190A18A481E19)
 ·intro i m hi
  refine⟨[nm "cells" (eK gc),nm "others" (aU ([0,1,2,3].map (cO gc))),nm "spot" (.int ((0:Int)+(i:Int)))],by kernel_rfl,by rfl,?_⟩;have hi5:i < 4:=by simp at hi;exact id ((pn [_] 0x1D4801F1F1F2D3802D2802D1802D080) hi)
  refine fG (ar ?_ (ar ?_ (ar ?_ aR)))
  ·exact aV (a:=.int 256) (b:=.int (i:Int)) (by rfl) (Eq.trans (b:=some (.int ((0:Int)+(i:Int)))) (by rfl) (by rw[bF])) rfl
  ·rcases(show i=0\/i=1\/i=2\/i=3 by exact id ((pn [_] 0x1F1F1F2D3802D2802D1802D0801D480) hi5)) with rfl|rfl|rfl|rfl<;>kernel_rfl
  ·refine aV (a:=.int 1) (b:=.int (cB gc i:Int)) (by rfl) ?_ rfl
   refine aV (a:=.int ((gc i / 48:Nat):Int)) (b:=.int ((48:Nat):Int)) ?_ (by rfl) (d9 (by exact id (pn [] 0x1D301908)));show ev _ _ _ _ _=_;refine aV (a:=.int (gc i:Int)) (b:=.int ((48:Nat):Int)) ?_ (by rfl) (e8 (by exact id (pn [] 0x1D301908)) (by exact id (pn [] 0x1D0100000000593019)));rcases(show i=0\/i=1\/i=2\/i=3 by exact id ((pn [_] 0x1F1F1F2D3802D2802D1802D0801D480) hi5)) with rfl|rfl|rfl|rfl<;>kernel_rfl
end
end Mine
end
section
namespace Mine
noncomputable section
abbrev ID:=List (Int×Int)
theorem Ef(j:Int):gI [] j=none:=rfl
theorem ix(p:Int×Int)(d:ID)(j:Int):gI (p::d) j=if p.1=j then some p.2 else gI d j:=by
 unfold gI;rw[iw];by_cases h:p.1=j
 ·simp[h]
 ·simp[h]
theorem Jn(d e:ID)(j:Int):gI (d++e) j=(gI d j).or (gI e j):=by
 induction d with
 |nil=>rfl
 |cons p d ih=>
  rw[gD,ix,ix,ih];split<;>rfl
theorem mU(d:ID)(j:Int):(gI d j).isSome=d.any (λp=>decide (p.1=j)):=by
 unfold gI;rw[dE,pj,List.find?_isSome,dj]
set_option tactic.hygienic true in
theorem EZ(d:ID)(k v j:Int):gI (pI d k v) j=if j=k then some v else gI d j:=by
 unfold pI;split
 ·rename_i h
  rw[<- mU]at h
  induction d with
  |nil=>cases h
  |cons p d ih=>
   rw[ix]at h;rw[ao,ix,ix];by_cases hp:p.1=k
   ·rw[if_pos hp]
    dsimp only;by_cases hj:j=k
    ·rw[if_pos (by rw[hp,hj]),if_pos hj]
    ·have e1:¬p.1=j:=λe=>hj (by rw[<- e,hp])
     rw[if_neg e1,if_neg hj,if_neg e1];clear ih h
     induction d with
     |nil=>rfl
     |cons q d ih=>
      rw[ao,ix,ix,ih];by_cases hq:q.1=k
      ·rw[if_pos hq];dsimp only
       have e2:¬q.1=j:=λe=>hj (by rw[<- e,hq]);rw[if_neg e2,if_neg e2]
      ·rw[if_neg hq]
   ·rw[if_neg hp]at h
    rw[if_neg hp,ih h];by_cases hj:p.1=j
    ·rw[if_pos hj,if_neg (λe=>hp (by rw[hj,e])),if_pos hj]
    ·rw[if_neg hj,if_neg hj]
 ·rename_i h
  rw[<- mU]at h;rw[Jn,ix,Ef];by_cases hj:j=k
  ·subst hj
   have:gI d j=none:=by simpa using h
   rw[this];simp
  ·rw[if_neg (λe=>hj e.symm),if_neg hj];cases gI d j<;>rfl
set_option tactic.hygienic true in
theorem AD{d:ID}{k v:Int}(h:(d.map (·.1)).Nodup):((pI d k v).map (·.1)).Nodup:=by
 unfold pI;split
 ·rw[aj]
  have:((λx:Int×Int=>x.1) ∘ λp:Int×Int=>if p.1=k then(p.1,v) else p)=λp=>p.1:=by
   funext p;dsimp only[Function.comp];split<;>rfl
  rw[this];exact h
 ·rename_i hn
  rw[aT];refine i9.mpr ⟨h,by simp,?_⟩;intro a ha b hb e;refine bC (aG.mp ha) ?_;rintro p hp rfl;simp at hb;exact hn (dj.mpr ⟨p,hp,decide_eq_true (by rw[e,hb])⟩)
theorem uN{d:ID}{k v:Int}(h:(d.map (·.1)).Nodup):((ik d k v).map (·.1)).Nodup:=by
 unfold ik;split<;>exact AD h
set_option tactic.hygienic true in
theorem GP(d:ID)(k v j:Int):gI (ik d k v) j=if j=k then some ((gI d k).getD 0+v) else gI d j:=by
 unfold ik;split
 ·rename_i a h
  rw[EZ,h];rfl
 ·rename_i h
  rw[EZ,h];show(if j=k then some v else gI d j)=if j=k then some (0+v) else gI d j
  rw[bF]
noncomputable def tG(d s:ID):ID:=s.foldl (λd p=>ik d p.1 p.2) d
theorem pY:∀{s d:ID},(d.map (·.1)).Nodup->((tG d s).map (·.1)).Nodup
 | [],_,h=>h
 |p::s,d,h=>pY (s:=s) (uN h)
theorem Aa:∀(t acc:ID),((acc++t).map (·.1)).Nodup->t.foldl (λd p=>pI d p.1 p.2) acc=acc++t
 | [],acc,_=>(kd _).symm
 |p::t,acc,h=>by
  have hk:pI acc p.1 p.2=acc++[p]:=by
   unfold pI;rw[if_neg];intro hh;refine bC (dj.mp hh) ?_;intro q hq e;have e:=of_decide_eq_true e;rw[aT,ao]at h;exact(i9.mp h).2.2 _ (kS hq) _ ak e
  rw[bc,hk,Aa t (acc++[p]) (by rw[bk];exact h),bk];rfl
theorem Gr{t s:ID}(h:(t.map (·.1)).Nodup):gZ t s=tG t s:=by
 unfold gZ tG;rw[Aa t [] (by rw[dJ];exact h),dJ]
noncomputable def qN(s:ID)(j:Int):Int:=(s.map λp=>if p.1=j then p.2 else 0).sum
theorem Af(s r:ID)(j:Int):qN (s++r) j=qN s j+qN r j:=by unfold qN;rw[aT,List.sum_append]
theorem kG(p:Int×Int)(s:ID)(j:Int):qN (p::s) j=(if p.1=j then p.2 else 0)+qN s j:=by unfold qN;rw[ao,cg]
theorem AP:∀(s d:ID) (j:Int),gI (tG d s) j=if(gI d j).isSome ||s.any (λp=>decide (p.1=j)) then some ((gI d j).getD 0+qN s j) else none
 | [],d,j=>by
  show gI d j=_
  cases h:gI d j with
  |none=>rfl
  |some a=>show some a=some (a+0);rw[eh]
 |p::s,d,j=>by
  show gI (tG (ik d p.1 p.2) s) j=_;rw[AP s,GP,kG,fw];by_cases h:j=p.1
  ·subst h
   rw[if_pos (Eq.refl p.1),if_pos (Eq.refl p.1),decide_eq_true rfl,Bool.true_or,Bool.or_true];show some ((gI d p.1).getD 0+p.2+qN s p.1)=some _;congr 1;exact id (pz [] [_,_,_] 0x2EAA210A2A10)
  ·have h':¬p.1=j:=λe=>h e.symm
   rw[if_neg h,if_neg h',decide_eq_false h',ia,bF]
theorem xp(s r:ID):ct (s++r)=ct s+ct r:=by unfold ct;rw[aT,List.sum_append]
theorem p8(p:Int×Int)(s:ID):ct (p::s)=p.2+ct s:=by unfold ct;rw[ao,cg]
set_option tactic.hygienic true in
theorem BO{d:ID}{k v:Int}(h:(d.map (·.1)).Nodup):ct (ik d k v)=ct d+v:=by
 unfold ik;split
 ·rename_i a ha
  unfold pI;rw[if_pos (by rw[<- mU,ha];rfl)]
  induction d with
  |nil=>cases ha
  |cons p d ih=>
   rw[ao]at h;refine xA (bH.mp h) ?_;intro h1 h2;rw[ix]at ha;rw[ao,p8,p8];by_cases hp:p.1=k
   ·rw[if_pos hp]at ha
    injection ha with ha
    rw[if_pos hp]
    have:d.map (λp=>if p.1=k then(p.1,a+v) else p)=d:=by
     have:∀q∈d,(if q.1=k then(q.1,a+v) else q)=id q:=by
      intro q hq;rw[if_neg];· rfl
      intro e;exact h1 (by rw[hp,<- e];exact kS hq)
     rw[eP this,iP]
    rw[this];dsimp only;exact id ((pz [] [_,_,_,_] 0x2EA2A30A3A212E10) ha)
   ·rw[if_neg hp]at ha
    rw[if_neg hp,ih h2 ha];exact id (pz [] [_,_,_] 0x2EA2A10AA210)
 ·rename_i ha
  unfold pI;rw[if_neg (by rw[<- mU,ha];exact av),xp];unfold ct;simp
theorem uy:∀{s d:ID},(d.map (·.1)).Nodup->ct (tG d s)=ct d+ct s
 | [],d,_=>by show ct d=ct d+0;exact id (pz [] [_] 0x2EA0800)
 |p::s,d,h=>by
  show ct (tG (ik d p.1 p.2) s)=_;rw[uy (uN h),BO h,p8];exact id (pz [] [_,_,_] 0x2EAA210A2A10)
theorem AM{α:Type}(k:α->Int)(g:Int->Int):∀(l:List α) (d:ID) (j:Int),gI ((l.map λx=>(k x,g (k x))).foldl (λd p=>pI d p.1 p.2) d) j=if l.any (λx=>decide (k x=j)) then some (g j) else gI d j
 | [],_,_=>rfl
 |x::l,d,j=>by
  rw[ao,bc,AM k g l,EZ,fw];by_cases h:j=k x
  ·subst h
   rw[if_pos rfl,decide_eq_true rfl,Bool.true_or,if_pos rfl];split<;>rfl
  ·rw[if_neg h,decide_eq_false (λe=>h e.symm),ia]
theorem Bm{l d:ID}(h:(d.map (·.1)).Nodup):((l.foldl (λd p=>pI d p.1 p.2) d).map (·.1)).Nodup:=by
 induction l generalizing d with
 |nil=>exact h
 |cons p l ih=>exact ih (AD h)
theorem pV{α:Type}[BEq α][LawfulBEq α]:∀{l m:List α},l.Nodup->(∀x∈l,x∈m)->l.length<=m.length
 | [],_,_,_=>bz _
 |x::l,m,h,hs=>by
  refine xA (bH.mp h) ?_;intro h1 h2;have hx:=hs x ak
  have:=pV (l:=l) (m:=m.erase x) h2 λy hy=>(List.mem_erase_of_ne (λe=>h1 (by rw[<- e];exact hy))).mpr (hs y (ah _ hy))
  rw[ib hx]at this
  have:=oA hx
  rw[am];exact id ((pn [_,_] 0x0D1A1801D1080DB1810) ‹_› this)
theorem IG{d:ID}(h:(d.map (·.1)).Nodup){p:Int×Int}(hp:p∈d):gI d p.1=some p.2:=mO h hp
theorem yV{α:Type}(f:α->PV){d e:List (Int×α)}{n c:Nat}(hd:(d.map (·.1)).Nodup)(he:(e.map (·.1)).Nodup)(h:∀j,kE d j=kE e j)(hf:∀p∈d,∀k,c<=k->n0 k (f p.2) (f p.2)=some true)(hn:d.length+c+2<=n):n0 n (.dct (d.map λp=>(p.1,f p.2))) (.dct (e.map λp=>(p.1,f p.2)))=some true:=by
 have hk:∀{a b:List (Int×α)},(∀j,kE a j=kE b j)->∀x∈a.map (·.1),x∈b.map (·.1):=by
  intro a b hab x hx;refine bC (aG.mp hx) ?_;rintro p hp rfl;have h1:(kE b p.1).isSome=true:=by rw[<- hab];exact EG hp
  refine xE (hJ.mp h1) ?_;intro v hv;exact aG.mpr ⟨(p.1,v),jU hv,rfl⟩
 have h1:=pV hd (hk h);have h2:=pV he (hk λj=>(h j).symm);rw[aa,aa]at h1 h2;refine xE (aE (show 1<=n by exact id ((pn [_,_,_,_] 0x0D2180D030D300D2A28A10) hn h1 h2))) ?_;rintro k rfl;have hD:∀(a:List (Int×α)) (m:Nat),(∀p∈a,p∈d)->a.length+c+1<=m->pG m (a.map λp=>(p.1,f p.2)) (e.map λp=>(p.1,f p.2))=some true:=by
  intro a
  induction a with
  |nil=>intro m _ hm;refine xE (aE (aD (bW 1 _) hm)) ?_;rintro k rfl;rfl
  |cons p a ih=>
   intro m ha hm;rw[am]at hm;refine xE (aE (show 1<=m by exact id ((pn [_,_,_] 0x0D2180D2A18A1A180) hm))) ?_;rintro k rfl;have hp:=ha p ak;exact Db (b:=f p.2) (by rw[mu f e p.1,<- h,mO hd hp];rfl) (hf p hp k (by exact id ((pn [_,_,_] 0x0D210DA182A18A1A180) hm))) (ih k (λq hq=>ha q (ah _ hq)) (by exact id ((pn [_,_,_] 0x0D2A18A100DA182A18A1A180) hm)))
 refine(if_pos (by rw[aa,aa];exact id ((pn [_,_] 0x2D100D010D10) h1 h2))).trans ?_;exact hD d k (λp hp=>hp) (by exact id ((pn [_,_,_] 0x0D2A18A100DA182A28A10) hn))
theorem y4{d e:ID}{n:Nat}(hd:(d.map (·.1)).Nodup)(he:(e.map (·.1)).Nodup)(h:∀j,gI d j=gI e j)(hn:d.length+4<=n):n0 n (aZ d) (aZ e)=some true:=
 yV (c:=1) .int hd he h (λp J k hk=>qV p.2 k hk) (by exact id ((pn [_,_] 0x0D1A28A1800D1A480) hn))
theorem xU{α:Type}(g:α->ID):∀(l:List α) (d:ID),(d.map (·.1)).Nodup->l.foldl (λw v=>gZ w (g v)) d=tG d (l.flatMap g)
 | [],_,_=>rfl
 |v::l,d,h=>by
  rw[bc,Gr h,xU g l _ (pY h),mM];unfold tG;rw[c7]
theorem sH{α:Type}(g:α->ID)(l:List α)(j:Int):gI (l.foldl (λw v=>gZ w (g v)) []) j=if(l.flatMap g).any (λp=>decide (p.1=j)) then some (qN (l.flatMap g) j) else none:=by
 rw[xU g l [] c9,AP];show(if(false ||_)=true then some (0+_) else none)=_;rw[ia,bF]
theorem zr{α:Type}(g:α->ID)(l:List α):((l.foldl (λw v=>gZ w (g v)) []).map (·.1)).Nodup:=by
 rw[xU g l [] c9];exact pY c9
theorem ze{α:Type}(g:α->ID)(l:List α):ct (l.foldl (λw v=>gZ w (g v)) [])=(l.map λv=>ct (g v)).sum:=by
 rw[xU g l [] c9,uy (d:=[]) c9];show 0+_=_;rw[bF]
 induction l with
 |nil=>rfl
 |cons v l ih=>rw[mM,xp,ih,ao,cg]
theorem FB{α:Type}(g:α->ID)(l:List α)(j:Int):qN (l.flatMap g) j=(l.map λv=>qN (g v) j).sum:=by
 induction l with
 |nil=>rfl
 |cons v l ih=>rw[mM,Af,ih,ao,cg]
end
end Mine
end
section
namespace Mine
noncomputable section
noncomputable def Cn(cs:List lk)(v one:Int):Int:=((cs.filter λr=>(r.1 == v) && ((r.2.1 == one) && true)).map (·.2.2)).sum
noncomputable def lr(cs:List lk)(v:Int):ID:=((cs.filter λx=>x.1 == v).map λx=>(x.2.1,Cn cs v x.2.1)).foldl (λd p=>pI d p.1 p.2) []
noncomputable def EP(cs:List lk):js:=az.map λv=>(v,lr cs v)
noncomputable def Cx(cs:List lk)(two:Int):Int:=((cs.filter λr=>r.2.1 == two).map (·.2.2)).sum
noncomputable def we(cs:List lk):ID:=(cs.map λx=>(x.2.1,Cx cs x.2.1)).foldl (λd p=>pI d p.1 p.2) []
theorem pL:∀(l d:ID),cD (l.map λp=>(.int p.1,.int p.2)) (d.map λp=>(p.1,PV.int p.2))=some ((l.foldl (λd p=>pI d p.1 p.2) d).map λp=>(p.1,PV.int p.2))
 | [],d=>by rw[c6,cD];rfl
 |p::l,d=>by
  show cD (l.map λp=>(.int p.1,.int p.2)) (jD (d.map λp=>(p.1,PV.int p.2)) p.1 (.int p.2))=_;rw[wE,pL l];rfl
structure uS(cs:List lk):Prop where
 n:cs.length<=20
 w:∀x∈cs,1<=x.2.2/\x.2.2<=48
theorem vt{l:List Int}(h:l.length<=1048576)(hw:∀x∈l,x.natAbs<=1099511627776):o3.bi "sum" [.lst (l.map .int)]=some (.int l.sum):=by
 show(iV (l.map .int)).bind (λns=>if Cv ns then some (PV.int ns.sum) else none)=_;rw[nO,Option.bind_some,if_pos];unfold Cv;rw[decide_eq_true h,g9,bj];exact λx hx=>decide_eq_true (hw x hx)
noncomputable def Lc:SE:=Lj++[nm "due" (dQ (EP (gH gc ga++iR gc)))]
theorem wK(c:Nat->Nat)(ab:Nat->Int):uS (gH c ab++iR c):=by
 refine⟨by unfold gH iR;simp,λx hx=>?_⟩;rcases aP.mp hx with hx|hx
 ·refine bC (aG.mp hx) ?_;rintro i _ rfl
  have:cA c i < 48:=aY _ (by exact id (pn [] 0x1D301908))
  dsimp only;lia
 ·refine bC (aG.mp hx) ?_;rintro i _ rfl
  have:cB c i < 48:=aY _ (by exact id (pn [] 0x1D301908))
  dsimp only;lia
theorem vT{cs:List lk}(ok:uS cs)(p:lk->Bool):((cs.filter p).map (·.2.2)).length<=1048576/\∀x∈(cs.filter p).map (·.2.2),x.natAbs<=1099511627776:=by
 refine⟨by rw[aa];have:=aJ p cs;have:=ok.n;exact id ((pn [_,_] 0x0D1000003900D141910D10) ‹_› this),λx hx=>?_⟩;refine bC (aG.mp hx) ?_;rintro y hy rfl
 have:=ok.w y (aW.mp hy).1
 lia
theorem Mg{n:Nat}:ex o3 [] (n+110) mC (Lj) (fy 11)=some (.next,Lc):=by
 conv=>lhs;arg 6;whnf
 have ok:=wK gc ga;refine(ba (u:=dQ (EP (gH gc ga++iR gc))) (by rfl) ?_).trans (by kernel_rfl);unfold Lj;generalize gH gc ga++iR gc=gs at ok;have hcl:(gs.map eo).length<=1048576:=by rw[aa];have:=ok.n;exact id ((pn [_] 0x0D1000003900D14190) this)
 refine(iy (items:=az.map .int) (rs:=(az.filter λJ=>true).map λv=>(.int v,aZ (lr gs v))) (by kernel_rfl) (by rfl) ?_ (by simp[az])).trans ?_
 ·refine fH (λJ=>true) (λv=>aZ (lr gs v)) (λv=>.int v) (λv=>.int v) 90 (by kernel_rfl) az _ ?_ ?_
  ·show 90+5+1<=_
   exact id (pn [_] 0x0DA6C190A18A585A19)
  ·intro v m hv
   refine⟨[nm "calls" (.lst (gs.map eo)),nm "node" (.int v)],by kernel_rfl,by rfl,λJ=>⟨?_,by rfl⟩⟩;refine(iy (items:=gs.map eo) (rs:=(gs.filter λx=>x.1 == v).map λx=>(.int x.2.1,.int (Cn gs v x.2.1))) (by kernel_rfl) ?_ ?_ ?_).trans ?_
   ·exact Eq.trans (b:=if(gs.map eo).length<=1048576 then some (gs.map eo) else none) (by rfl) (if_pos hcl)
   ·refine fH (λx=>x.1 == v) (λx=>.int (Cn gs v x.2.1)) (λx=>.int x.2.1) eo 60 (by kernel_rfl) gs _ ?_ ?_
    ·have:=ok.n;exact id ((pn [_,_] 0x0DA59191A18A03C190D14190) this)
    ·intro x q hx
     refine⟨[nm "calls" (.lst (gs.map eo)),nm "node" (.int v),nm "called" (.int x.1),nm "one" (.int x.2.1),nm "many" (.int x.2.2)],by kernel_rfl,?_,λJ=>⟨?_,by rfl⟩⟩
     ·exact bN (bV (db (a:=.int x.1) (b:=.int v) (by rfl) (by rfl) (by rfl) (by rfl)))
     ·have hs:=vT ok λr=>(r.1 == v) && ((r.2.1 == x.2.1) && true)
      refine cw (v:=.lst (((gs.filter λr=>(r.1 == v) && ((r.2.1 == x.2.1) && true)).map (·.2.2)).map .int)) (by rfl) ?_ (vt hs.1 hs.2);show ev _ _ _ _ _=_;refine(cJ (items:=gs.map eo) (rs:=(gs.filter λr=>(r.1 == v) && ((r.2.1 == x.2.1) && true)).map λr=>(.none,.int r.2.2)) (by rfl) ?_ ?_ ?_).trans ?_
      ·exact Eq.trans (b:=if(gs.map eo).length<=1048576 then some (gs.map eo) else none) (by rfl) (if_pos hcl)
      ·refine cN (λr=>(r.1 == v) && ((r.2.1 == x.2.1) && true)) (λr=>.int r.2.2) eo 30 (by kernel_rfl) gs _ ?_ ?_
       ·have:=ok.n;exact id ((pn [_,_] 0x0DA39191A18A01E190D14190) this)
       ·intro r k hr
        exact⟨[nm "node" (.int v),nm "one" (.int x.2.1),nm "row" (eo r)],by kernel_rfl,bN (by kernel_rfl),λJ=>by rfl⟩
      ·rw[aa]at hs ⊢;exact hs.1
      ·rw[aj,aj];rfl
   ·rw[aa];have:=aJ (λ(x:lk)=>x.1 == v) gs;have:=ok.n;exact id ((pn [_,_] 0x0D1000003900D141910D10) ‹_› this)
   ·have:=pL ((gs.filter λx=>x.1 == v).map λx=>(x.2.1,Cn gs v x.2.1)) []
    rw[aj]at this;exact congrArg (cu PV.dct) this
 ·have hn:(az.map λv=>(v,aZ (lr gs v))).map (·.1)=az:=by rw[aj];show az.map id=_;rw[iP]
  have:=dN (az.map λv=>(v,aZ (lr gs v))) [] (by rw[dJ,hn];decide)
  rw[aj]at this;rw[bu.mpr (λJ J=>rfl)];refine(congrArg (cu PV.dct) this).trans ?_;show some (PV.dct _)=some (PV.dct ((az.map _).map _));rw[aj];rfl
end
end Mine
end
section
namespace Mine
noncomputable section
noncomputable def pZ(A a O b:Nat->Int):List lk:=([0,1,2,3].map λ(i:Nat)=>(256+(i:Int),A i,a i))++([0,1,2,3].map λ(i:Nat)=>(256+(i:Int),O i,b i))
noncomputable def iS(A a O b:Nat->Int):js:=(0,[])::[0,1,2,3].map λ(i:Nat)=>(256+(i:Int),iK (A i) (a i) (O i) (b i))
theorem A3(A a O b:Nat->Int){i:Nat}(hi:i < 4):(pZ A a O b).filter (λx=>x.1 == 256+(i:Int))=[(256+(i:Int),A i,a i),(256+(i:Int),O i,b i)]:=by
 rcases(show i=0\/i=1\/i=2\/i=3 by exact id ((pn [_] 0x1F1F1F2D3802D2802D1802D0801D480) hi)) with rfl|rfl|rfl|rfl<;>kernel_rfl
theorem Jd(A a O b:Nat->Int):(pZ A a O b).filter (λx=>x.1 == 0)=[]:=by rfl
theorem G1(A a O b:Nat->Int){i:Nat}(hi:i < 4)(k:Int):Cn (pZ A a O b) (256+(i:Int)) k=(if A i=k then a i else 0)+(if O i=k then b i else 0):=by
 unfold Cn;rw[show(λr:lk=>(r.1 == 256+(i:Int)) && ((r.2.1 == k) && true))=λr=>(λx:lk=>x.1 == 256+(i:Int)) r && (λr:lk=>(r.2.1 == k) && true) r from rfl]
 have:(pZ A a O b).filter (λr=>(λx:lk=>x.1 == 256+(i:Int)) r && (λr:lk=>(r.2.1 == k) && true) r)=((pZ A a O b).filter (λx=>x.1 == 256+(i:Int))).filter (λr=>(r.2.1 == k) && true):=by
  rw[List.filter_filter];congr 1;funext r;exact Bool.and_comm _ _
 rw[this,A3 A a O b hi];by_cases h1:A i=k<;>by_cases h2:O i=k<;>simp[h1,h2]
theorem li(A a O b:Int):iK A a O b=if O=A then[(A,a+b)] else[(A,a),(O,b)]:=by
 unfold iK gZ;by_cases h:O=A
 ·subst h
  rw[if_pos rfl];simp[pI,ik,gI]
 ·have h':¬A=O:=λe=>h e.symm
  rw[if_neg h];simp[pI,ik,gI,h']
theorem mW(A a O b:Nat->Int){i:Nat}(hi:i < 4):lr (pZ A a O b) (256+(i:Int))=iK (A i) (a i) (O i) (b i):=by
 unfold lr;rw[A3 A a O b hi,li];simp only[ao,c6,bc,List.foldl_nil,G1 A a O b hi];by_cases h:O i=A i
 ·rw[if_pos h,h];simp[pI]
 ·have h':¬A i=O i:=λe=>h e.symm
  rw[if_neg h];simp[pI,h,h']
theorem Fd(A a O b:Nat->Int):lr (pZ A a O b) 0=[]:=by
 unfold lr;rw[Jd];rfl
theorem Js(A a O b:Nat->Int):EP (pZ A a O b)=iS A a O b:=by
 unfold EP iS az;have h0:=mW A a O b (i:=0) (by exact id (pn [] 0x1D4808));have h1:=mW A a O b (i:=1) (by exact id (pn [] 0x1D4818));have h2:=mW A a O b (i:=2) (by exact id (pn [] 0x1D4828));have h3:=mW A a O b (i:=3) (by exact id (pn [] 0x1D4838));simp only[ao,c6,<- h0,<- h1,<- h2,<- h3,Fd];rfl
set_option tactic.hygienic true in
theorem kj(A a O b:Int):((iK A a O b).map (·.1)).Nodup:=by
 rw[li];split
 ·simp
 ·rename_i h;simp;exact λe=>h e.symm
theorem Em(A a O b j:Int):qN (iK A a O b) j=(if A=j then a else 0)+(if O=j then b else 0):=by
 rw[li];unfold qN;by_cases h:O=A
 ·subst h;by_cases h2:O=j<;>simp[h2]
 ·rw[if_neg h];simp
theorem E2(A a O b j:Int):(iK A a O b).any (λp=>decide (p.1=j))=(decide (A=j) ||decide (O=j)):=by
 rw[li];by_cases h:O=A
 ·subst h;simp
 ·rw[if_neg h];simp
theorem lZ(A a O b:Int):(iK A a O b).length<=2:=by rw[li];split<;>simp
noncomputable def cQ(T:js)(v:Int):ID:=(kE T v).getD []
noncomputable def gE(T:js):ID:=az.foldl (λw v=>gZ w (cQ T v)) []
theorem Jh(cs:List lk)(k:Int):Cx cs k=qN (cs.map (·.2)) k:=by
 unfold Cx
 induction cs with
 |nil=>rfl
 |cons x cs ih=>
  rw[ao,kG,<- ih];by_cases h:x.2.1=k
  ·rw[b8 (by simp[h]),if_pos h];simp
  ·rw[b7 (by simp[h]),if_neg h,bF]
theorem Cz(A a O b:Nat->Int)(j:Int):gI (gE (iS A a O b)) j=gI (we (pZ A a O b)) j:=by
 refine(sH _ _ j).trans ?_;have e:az.flatMap (cQ (iS A a O b))=iK (A 0) (a 0) (O 0) (b 0)++(iK (A 1) (a 1) (O 1) (b 1)++(iK (A 2) (a 2) (O 2) (b 2)++(iK (A 3) (a 3) (O 3) (b 3)++[]))):=by rfl
 rw[e];unfold we;rw[AM (λx:lk=>x.2.1) (λk=>Cx (pZ A a O b) k),Jh];simp only[Ef,List.any_append,E2,Af,Em,pZ,aT,ao,c6,kG,fw,List.any_nil,mZ];have hb:((decide (A 0=j) ||decide (O 0=j)) ||((decide (A 1=j) ||decide (O 1=j)) ||((decide (A 2=j) ||decide (O 2=j)) ||(decide (A 3=j) ||decide (O 3=j))))) =
   ((decide (A 0=j) ||(decide (A 1=j) ||(decide (A 2=j) ||decide (A 3=j)))) ||(decide (O 0=j) ||(decide (O 1=j) ||(decide (O 2=j) ||decide (O 3=j))))):=by
  ac_rfl
 rw[hb];have hz:qN [] j=0:=rfl;rw[hz];congr 2;exact id (pz [] [_,_,_,_,_,_,_,_] 0x2EAAAAA087531AAAA086420AAAA08A76A54A32A10)
theorem rj(T:js):((gE T).map (·.1)).Nodup:=zr _ _
theorem AQ(cs:List lk):((we cs).map (·.1)).Nodup:=Bm c9
noncomputable def iq(T:js)(v:Int):TD:=(cQ T v).map λp=>(p.1,[p.2,1,-p.2,v])
noncomputable def ig(T:js):TD:=az.foldl (λd v=>kr d (iq T v)) []
noncomputable def e6(i:Nat)(d:TD):ID:=d.map λp=>(p.1,p.2.getD i 0)
noncomputable def me(T:js)(j:Int):List Int:=az.filter λv=>(gI (cQ T v) j).isSome
noncomputable def oT(T:js)(x s:Int):List Int:=[s,((me T x).length:Int),-s,(me T x).sum]
theorem yq(T:js)(v:Int):T4 (iq T v):=λp hp=>by
 refine bC (aG.mp hp) ?_;rintro q _ rfl;rfl
theorem Ac(i:Nat)(d:TD)(k:Int):gI (e6 i d) k=(kE d k).map λl=>l.getD i 0:=by
 unfold e6 gI kE;rw[List.find?_map,qw,qw];rfl
theorem uY(i:Nat)(d:TD)(k:Int)(v:List Int):e6 i (pT d k v)=pI (e6 i d) k (v.getD i 0):=by
 unfold e6 pT pI;rw[List.any_map];show _=if d.any (λp=>decide (p.1=k))=true then _ else _
 split
 ·rw[aj,aj]
  refine eP λp J=>?_;dsimp only[Function.comp];by_cases h:p.1=k<;>simp[h]
 ·rw[aT];rfl
theorem zc{i:Nat}(hi:i < 4){d:TD}(h4:T4 d)(k:Int){v:List Int}(hv:v.length=4):e6 i (gK d k v)=ik (e6 i d) k (v.getD i 0):=by
 unfold gK ik;rw[Ac]
 cases e:kE d k with
 |none=>exact uY i d k v
 |some a=>
  have ha:=h4 _ (jU e);dsimp only at ha;refine(uY i d k _).trans ?_;show pI _ k _=pI _ k (a.getD i 0+v.getD i 0);congr 1;rw[aw,aw,aw,List.getElem?_zipWith,ax (by exact id ((pn [_,_] 0x1D102D4811D480) hi hv)),ax (by exact id ((pn [_,_] 0x1D102D4811D480) hi ha))];exact Int.add_comm _ _
theorem se{i:Nat}(hi:i < 4){t s:TD}(h4:T4 t)(hs:T4 s):T4 (kr t s)/\e6 i (kr t s)=gZ (e6 i t) (e6 i s):=by
 have h1:∀(l d:TD),T4 d->T4 l->T4 (l.foldl (λd p=>pT d p.1 p.2) d)/\e6 i (l.foldl (λd p=>pT d p.1 p.2) d)=(e6 i l).foldl (λd p=>pI d p.1 p.2) (e6 i d):=by
  intro l
  induction l with
  |nil=>exact λd h J=>⟨h,rfl⟩
  |cons p l ih=>
   intro d h hl;refine xA (ih (pT d p.1 p.2) (Hk h (hl p ak)) λq hq=>hl q (ah _ hq)) ?_;intro e1 e2;exact⟨e1,by rw[bc,e2,uY];rfl⟩
 have h2:∀(l d:TD),T4 d->T4 l->T4 (l.foldl (λd p=>gK d p.1 p.2) d)/\e6 i (l.foldl (λd p=>gK d p.1 p.2) d)=(e6 i l).foldl (λd p=>ik d p.1 p.2) (e6 i d):=by
  intro l
  induction l with
  |nil=>exact λd h J=>⟨h,rfl⟩
  |cons p l ih=>
   intro d h hl;refine xA (ih (gK d p.1 p.2) (Ay h (hl p ak)) λq hq=>hl q (ah _ hq)) ?_;intro e1 e2;exact⟨e1,by rw[bc,e2,zc hi h _ (hl p ak)];rfl⟩
 refine xA (h1 t [] (λJ h=>nomatch h) h4) ?_;intro e1 e2;refine xA (h2 s _ e1 hs) ?_;intro e3 e4;exact⟨e3,by unfold gZ;rw[<- show e6 i (t.foldl (λd p=>pT d p.1 p.2) [])=_ from e2];exact e4⟩
theorem lp{i:Nat}(hi:i < 4)(T:js):∀(l:List Int) (d:TD),T4 d->T4 (l.foldl (λd v=>kr d (iq T v)) d)/\e6 i (l.foldl (λd v=>kr d (iq T v)) d)=l.foldl (λw v=>gZ w (e6 i (iq T v))) (e6 i d)
 | [],_,h=>⟨h,rfl⟩
 |v::l,d,h=>by
  refine xA (se hi h (yq T v)) ?_;intro e1 e2;refine xA (lp hi T l _ e1) ?_;intro e3 e4;exact⟨e3,by rw[bc,e4,e2];rfl⟩
theorem tZ{r:ID}(h:(r.map (·.1)).Nodup)(c j:Int):qN (r.map λp=>(p.1,c)) j=if(gI r j).isSome=true then c else 0:=by
 induction r with
 |nil=>rfl
 |cons p r ih=>
  refine xA (bH.mp h) ?_;intro h1 h2;rw[ao,kG,ih h2,ix];by_cases e:p.1=j
  ·have hn:gI r j=none:=by
    cases e2:gI r j with
    |none=>rfl
    |some v=>exact absurd (aG.mpr ⟨(j,v),jU e2,e.symm⟩) h1
   rw[if_pos e,if_pos e,hn];exact eh c
  ·rw[if_neg e,if_neg e,bF]
theorem G4(r:ID)(j:Int):qN (r.map λp=>(p.1,-p.2)) j=-qN r j:=by
 induction r with
 |nil=>rfl
 |cons p r ih=>
  rw[ao,kG,kG,ih];dsimp only;split<;>omega
theorem An(p:Int->Bool)(f:Int->Int)(l:List Int):(l.map λv=>if p v=true then f v else 0).sum=((l.filter p).map f).sum:=by
 induction l with
 |nil=>rfl
 |cons v l ih=>
  rw[ao,cg,ih,dl];split
  ·rfl
  ·exact bF _
theorem Gi(f:Int->Int)(l:List Int):(l.map λv=>-f v).sum=-(l.map f).sum:=by
 induction l with
 |nil=>rfl
 |cons v l ih=>rw[ao,ao,cg,cg,ih];exact id (pz [] [_,_] 0x2E3CA10A3C13C0)
theorem Hd{l:List Int}(h:l.length=4):l=[l.getD 0 0,l.getD 1 0,l.getD 2 0,l.getD 3 0]:=by
 match l,h with
 | [_,_,_,_],_=>rfl
theorem FM{T:js}{sums:ID}(hr:∀v,((cQ T v).map (·.1)).Nodup)(hs:∀j,gI (gE T) j=gI sums j)(j:Int):kE (ig T) j=(gI sums j).map (oT T j):=by
 have c:=λ{i:Nat}(hi:i < 4)=>(congrArg (gI · j) (lp hi T az [] λJ h=>nomatch h).2).symm.trans (Ac i (ig T) j);have c0:=c (i:=0) (by exact id (pn [] 0x1D4808));have e0:∀v,e6 0 (iq T v)=cQ T v:=λv=>by
  unfold e6 iq;rw[aj];exact iP _
 simp only[e0]at c0;have c0:gI (gE T) j=_:=c0;have w0:gI (gE T) j=_:=sH (cQ T) az j;rw[<- hs]
 cases e:kE (ig T) j with
 |none=>rw[c0,e];rfl
 |some l=>
  have hl:l.length=4:=(lp (i:=0) (by exact id (pn [] 0x1D4808)) T az [] λJ h=>nomatch h).1 _ (jU e);have val:∀{i:Nat},i < 4->l.getD i 0=(az.map λv=>qN (e6 i (iq T v)) j).sum:=λ{i} hi=>by
   have h:=c hi;rw[e]at h;have h2:=sH (λv=>e6 i (iq T v)) az j;have h3:=h2.symm.trans h;rw[FB]at h3;split at h3
   ·exact(Option.some.inj h3).symm
   ·cases h3
  have v0:=val (i:=0) (by exact id (pn [] 0x1D4808));have v1:=val (i:=1) (by exact id (pn [] 0x1D4818));have v2:=val (i:=2) (by exact id (pn [] 0x1D4828));have v3:=val (i:=3) (by exact id (pn [] 0x1D4838));have e1:∀v,qN (e6 1 (iq T v)) j=if(gI (cQ T v) j).isSome=true then 1 else 0:=λv=>by
   rw[<- tZ (hr v)];unfold e6 iq;rw[aj];rfl
  have e2:∀v,qN (e6 2 (iq T v)) j=-qN (cQ T v) j:=λv=>by
   rw[<- G4];unfold e6 iq;rw[aj];rfl
  have e3:∀v,qN (e6 3 (iq T v)) j=if(gI (cQ T v) j).isSome=true then v else 0:=λv=>by
   rw[<- tZ (hr v)];unfold e6 iq;rw[aj];rfl
  simp only[e0]at v0;simp only[e1,An (λv=>(gI (cQ T v) j).isSome)]at v1;simp only[e2,Gi]at v2;simp only[e3,An (λv=>(gI (cQ T v) j).isSome)]at v3;rw[<- v0]at v2;rw[c0,e];have len4:l=[l.getD 0 0,l.getD 1 0,l.getD 2 0,l.getD 3 0]:=Hd hl;show some l=some (oT T j (l.getD 0 0));have hlen:∀m:List Int,(m.map λJ=>(1:Int)).sum=(m.length:Int):=λm=>by
   induction m with
   |nil=>rfl
   |cons v m ih=>rw[ao,cg,ih,am];omega
  have v1:l.getD 1 0=((me T j).length:Int):=v1.trans (hlen _);have v3:l.getD 3 0=(me T j).sum:=v3.trans (congrArg List.sum (iP _));refine(congrArg some len4).trans ?_;rw[v1,v2,v3];rfl
end
end Mine
end
section
namespace Mine
noncomputable section
abbrev wA(c:Nat->Nat)(i:Nat):Int:=1+(cA c i:Int)
abbrev wB(c:Nat->Nat)(i:Nat):Int:=1+(cB c i:Int)
abbrev kA(ab:Nat->Int)(i:Nat):Int:=gG (ab i)
noncomputable def Tt(c:Nat->Nat)(ab:Nat->Int):js:=iS (kA ab) (wA c) (cO c) (wB c)
noncomputable def Lb:SE:=Lc++[nm "table" (dQ (Tt gc ga))]
noncomputable def HA(w:ID)(f:TD)(v:Option Int):SE:=Lb++[nm "whole" (aZ w),nm "fours" (dL f)]++(match v with|none=>[]|some v=>[nm "node" (.int v)])
noncomputable def Lk:SE:=HA (gE (Tt gc ga)) (ig (Tt gc ga)) (some 259)
theorem IK(k:Nat)(h:k < 5):sq k=0\/256<=sq k:=by
 rcases(show k=0\/k=1\/k=2\/k=3\/k=4 by exact id ((pn [_] 0x1F1F1F1F2D4802D3802D2802D1802D0801D580) h)) with rfl|rfl|rfl|rfl|rfl<;>decide
theorem LQ{n:Nat}:ex o3 [] (n+60) mC (Lc) (fy 12)=some (.next,Lb):=by
 conv=>lhs;arg 6;whnf
 refine(ba (u:=dQ (Tt gc ga)) (by rfl) ?_).trans (by kernel_rfl);have h:=Cj (n:=4) (x:=λi=>7+(cA gc i:Int)) (o:=cO gc) (y:=λi=>7+(cB gc i:Int)) (ab:=ga) (by exact id (pn [] 0x0D5848)) λi hi=>by
  have h1:cA gc i < 48:=aY _ (by exact id (pn [] 0x1D301908));have h2:cB gc i < 48:=aY _ (by exact id (pn [] 0x1D301908));exact⟨by exact id (pn [_] 0x0EA2C07878),by exact id ((pn [_] 0x1E010029A2C0781D30190) h1),by exact id (pn [_] 0x0EA2C07878),by exact id ((pn [_] 0x1E010029A2C0781D30190) h2),IK _ (aY _ (by exact id (pn [] 0x1D5808)))⟩
 have e:(((0,[])::(aI 4).map λ(i:Nat)=>(256+(i:Int),iK (gG (ga i)) (7+(cA gc i:Int) - 6) (cO gc i) (7+(cB gc i:Int) - 6))):js)=Tt gc ga:=by
  have h1:∀i,(7+(cA gc i:Int) - 6)=wA gc i:=λi=>by show _=1+(cA gc i:Int);exact id (pn [_] 0x2EA2C018B68A2C078)
  have h2:∀i,(7+(cB gc i:Int) - 6)=wB gc i:=λi=>by show _=1+(cB gc i:Int);exact id (pn [_] 0x2EA2C018B68A2C078)
  simp only[h1,h2];rfl
 rw[e]at h;exact jo (vs:=[.lst ([0,1,2,3].map λi=>aU (r5 gc i)),aU ([0,1,2,3].map ga)]) (by kernel_rfl) (ar (by kernel_rfl) (ar (by kernel_rfl) aR)) (by kernel_rfl) h
theorem LA{n:Nat}:ex o3 [] (n+60) mC (Lb) (fy 13)=some (.next,HA [] [] none):=by kernel_rfl
theorem GL(A a O b:Nat->Int){v:Int}(hv:v∈az):∃r,kE (iS A a O b) v=some r/\x0 r:=by
 simp only[az,ai,aM,or_false]at hv;rcases hv with rfl|rfl|rfl|rfl|rfl
 ·exact⟨[],by rfl,bz _,c9⟩
 ·exact⟨iK (A 0) (a 0) (O 0) (b 0),by rfl,lZ _ _ _ _,kj _ _ _ _⟩
 ·exact⟨iK (A 1) (a 1) (O 1) (b 1),by rfl,lZ _ _ _ _,kj _ _ _ _⟩
 ·exact⟨iK (A 2) (a 2) (O 2) (b 2),by rfl,lZ _ _ _ _,kj _ _ _ _⟩
 ·exact⟨iK (A 3) (a 3) (O 3) (b 3),by rfl,lZ _ _ _ _,kj _ _ _ _⟩
theorem Dx{t s:List (Int×Int)}(ht:t.length<=20)(hs:s.length<=20):o3.fn "add_callers" [aZ t,aZ s]=some (aZ (gZ t s)):=Ad ht hs
theorem y6{t:List (Int×Int)}(ht:t.length<=60):o3.fn "count_calls" [aZ t]=some (.int (ct t)):=tU ht
theorem kJ{t:js}{v:Int}{r:ID}(h:kE t v=some r):item (dQ t) (.int v)=some (aZ r):=by
 show eH _ _=_;rw[mu aZ t v,h];rfl
theorem Cq{t s:TD}(ht:t.length<=20)(hs:s.length<=20)(h4:T4 t)(hs4:T4 s):o3.fn "add_callers" [dL t,dL s]=some (dL (kr t s)):=Fs ht hs h4 hs4
theorem Bt(t s:TD):(kr t s).length<=t.length+s.length:=by
 have h1:=iF (P:=λ(d:TD) k=>d.length<=k) (f:=λd (p:Int×List Int)=>pT d p.1 p.2) (λd p k h=>aD (y8 d p.1 p.2) (dm h)) t [] 0 (aK _);rw[bS]at h1;exact iF (P:=λ(d:TD) k=>d.length<=k) (f:=λd (p:Int×List Int)=>gK d p.1 p.2) (λd p k h=>aD (tV d p.1 p.2) (dm h)) s _ t.length h1
theorem Lz{n:Nat}:ex o3 [] (n+60) mC (HA [] [] none) (fy 14)=some (.next,Lk):=by
 conv=>lhs;arg 6;whnf
 refine(ln (items:=az.map .int) (by kernel_rfl)).trans ?_;refine CX (P:=λy=>y=some (.next,Lk)) (λi σ=>∃w f,σ=HA w f ((az.take i).getLast?)/\w.length<=2 * i/\f.length<=2 * i/\T4 f/\w=(az.take i).foldl (λw v=>gZ w (cQ (Tt gc ga) v)) []/\f=(az.take i).foldl (λd v=>kr d (iq (Tt gc ga) v)) []) .int 40 az ?_ ⟨[],[],rfl,bz _,bz _,λJ h=>(nomatch h),rfl,rfl⟩ ?_ ?_
 ·show 40+5+1<=_
  exact id (pn [_] 0x0DA3B190A18A582819)
 ·rintro i v σ m hv ⟨w,f,rfl,hw,hf,h4,ew,ef⟩
  have hvm:=aQ hv;have hi:i < 5:=by
   refine xE (au.mp hv) ?_;intro h _;exact h
  refine fJ (GL (kA ga) (wA gc) (cO gc) (wB gc) hvm) ?_;intro r hr hr2 hrn;have hr:kE (Tt gc ga) v=some r:=hr;have er:cQ (Tt gc ga) v=r:=by unfold cQ;rw[hr];rfl
  have efr:iq (Tt gc ga) v=r.map λp=>(p.1,[p.2,1,-p.2,v]):=by unfold iq;rw[er]
  have hfl:(iq (Tt gc ga) v).length<=2:=by rw[efr,aa];exact hr2
  have tk:az.take (i+1)=az.take i++[v]:=by rw[eY,hv];rfl
  generalize(az.take i).getLast?=l;refine⟨HA w f (some v),by cases l<;>kernel_rfl,HA (gZ w r) (kr f (iq (Tt gc ga) v)) (some v),?_,_,_,by rw[tk,qx],?_,?_,(se (i:=0) (by exact id (pn [] 0x1D4808)) h4 (yq _ v)).1,by rw[tk,c7,<- ew,bc,er];rfl,by rw[tk,c7,<- ef];rfl⟩
  ·refine(aq (aL:=HA (gZ w r) f (some v)) ?_).trans ((aq (aL:=HA (gZ w r) (kr f (iq (Tt gc ga) v)) (some v)) ?_).trans (by rfl))
   ·refine(ba (u:=aZ (gZ w r)) (by rfl) ?_).trans (by kernel_rfl)
    refine jo (vs:=[aZ w,aZ r]) (by kernel_rfl) (ar (by kernel_rfl) (ar ?_ aR)) (by rfl) (Dx (by exact id ((pn [_,_] 0x0D141901D5810D4C1280) hw hi)) (by exact id ((pn [_] 0x0D141900D280) hr2)));exact bp (b:=dQ (Tt gc ga)) (k:=.int v) (by kernel_rfl) (by kernel_rfl) (by kernel_rfl) (kJ hr)
   ·refine(ba (u:=dL (kr f (iq (Tt gc ga) v))) (by rfl) ?_).trans (by kernel_rfl)
    refine jo (vs:=[dL f,dL (iq (Tt gc ga) v)]) (by kernel_rfl) (ar (by kernel_rfl) (ar ?_ aR)) (by rfl) (Cq (by exact id ((pn [_,_] 0x0D141901D5810D4C1280) hf hi)) (by exact id ((pn [_] 0x0D141900D280) hfl)) h4 (yq _ v));refine(iy (items:=r.map λp=>.tup [.int p.1,.int p.2]) (rs:=(r.filter λJ=>true).map λp=>(.int p.1,eZ [p.2,1,-p.2,v])) (by rfl) ?_ ?_ ?_).trans ?_
    ·refine Eq.trans (wx (v:=.its (r.map λp=>(p.1,PV.int p.2))) ?_) ?_
     ·refine sC (l:=r.map λp=>(p.1,PV.int p.2)) (vs:=[]) (by rfl) ?_ aR (by rfl)
      exact bp (b:=dQ (Tt gc ga)) (k:=.int v) (by kernel_rfl) (by kernel_rfl) (by kernel_rfl) (kJ hr)
     ·refine Eq.trans (b:=if(r.map λp=>(p.1,PV.int p.2)).length<=1048576 then some ((r.map λp=>(p.1,PV.int p.2)).map λkv=>PV.tup [.int kv.1,kv.2]) else none) (by rfl) ?_
      rw[if_pos (by rw[aa];exact id ((pn [_] 0x0D1000003900D280) hr2)),vY]
    ·refine fH (λJ=>true) (λp=>eZ [p.2,1,-p.2,v]) (λp=>.int p.1) (λp=>.tup [.int p.1,.int p.2]) 30 (by kernel_rfl) r _ ?_ ?_
     ·exact id ((pn [_,_] 0x0DA23191A18A01E190D280) hr2)
     ·intro p q hp
      exact⟨[nm "node" (.int v),nm "one" (.int p.1),nm "many" (.int p.2)],by kernel_rfl,by rfl,λJ=>⟨by rfl,by rfl⟩⟩
    ·rw[aa];have:=aJ (λ(_:Int×Int)=>true) r;exact id ((pn [_,_] 0x0D1000003910D010D280) hr2 this)
    ·rw[bu.mpr (λJ J=>rfl),efr]
     have:=dN (r.map λp=>(p.1,eZ [p.2,1,-p.2,v])) [] (by rw[dJ,aj];exact hrn)
     rw[aj]at this;refine(congrArg (cu PV.dct) this).trans ?_;unfold dL;rw[aj];rfl
  ·have:=xj w r;exact id ((pn [_,_,_,_] 0x0D4CA1812830DA2030D2820D4C1280) hw hr2 this)
  ·have:=Bt f (iq (Tt gc ga) v);exact id ((pn [_,_,_,_] 0x0D4CA1812830DA2030D2820D4C1280) hf hfl this)
 ·rintro σ ⟨w,f,e,_,_,_,hw,hf⟩
  rw[e,hw,hf];rfl
end
end Mine
end
section
namespace Mine
noncomputable section
structure ta(T:js):Prop where
 keys:T.map (·.1)=az
 rows:∀p∈T,(p.2.map (·.1)).Nodup/\p.2.length<=2/\∀q∈p.2,1<=q.2/\q.2<=100
theorem ta.row{T:js}(h:ta T){v:Int}(hv:v∈az):kE T v=some (cQ T v)/\x0 (cQ T v)/\∀q∈cQ T v,1<=q.2/\q.2<=100:=by
 rw[<- h.keys]at hv;refine bC (aG.mp hv) ?_;rintro p hp rfl;have hn:(T.map (·.1)).Nodup:=by rw[h.keys];decide
 have e:=mO hn hp;have er:cQ T p.1=p.2:=by unfold cQ;rw[e];rfl
 rw[er];refine iQ (h.rows p hp) ?_;intro h1 h2 h3;exact⟨e,⟨h2,h1⟩,h3⟩
theorem ta.keysOf{T:js}(h:ta T)(v:Int):((cQ T v).map (·.1)).Nodup:=by
 by_cases hv:v∈az
 ·exact(h.row hv).2.1.2
 ·have:kE T v=none:=by
   cases e:kE T v with
   |none=>rfl
   |some r=>exact absurd (h.keys▸aG.mpr ⟨(v,r),jU e,rfl⟩) hv
  unfold cQ;rw[this];exact c9
theorem ta.sum{T:js}(h:ta T){v:Int}(hv:v∈az):0<=ct (cQ T v)/\ct (cQ T v)<=200:=by
 refine iQ (h.row hv) ?_;rintro _ ⟨h2,_⟩ h3;generalize cQ T v=r at h2 h3
 match r,h2 with
 | [],_=>unfold ct;simp
 | [p],_=>have:=h3 p ak;unfold ct;simp;exact id ((pz [] [_] 0x0F0EC81900E0080F0E641900E018) this)
 | [p,q],_=>have:=h3 p ak;have:=h3 q (ah _ ak);unfold ct;simp;exact id ((pz [] [_,_] 0x0F0EC819A100EA10080F0E641910E1180F0E641900E018) ‹_› this)
 |_::_::_::_,h=>simp at h
@[irreducible] noncomputable def gs:List lk:=JU (gH gc ga++iR gc)
@[irreducible] noncomputable def gT:js:=JU (Tt gc ga)
@[irreducible] noncomputable def gj:Nat->PV:=JU λk=>match k with|0=>gS|1=>.lst (cr (ft gc))|2=>.str (iJ gc)|3=>.lst (cr (eN gc))|4=>wc (u9 gc)|5=>.lst ([0,1,2,3].map λi=>aU (r5 gc i))|6=>aU ([0,1,2,3].map λi=>sq (gc i / 55296 % 5))|7=>.lst []|8=>aU ([0,1,2,3].map ga)|_=>.int 259
noncomputable def K9:SE:=[nm "script" (gj 0),nm "cells" (eK gc),nm "leads" (gj 1),nm "page" (gj 2),nm "lines" (gj 3),nm "spaces" (gj 4),nm "symbols" (gj 5),nm "others" (gj 6),nm "wrong" (gj 7),nm "above" (gj 8),nm "calls" (.lst (gs.map eo)),nm "due" (dQ gT),nm "table" (dQ gT),nm "whole" (aZ (gE gT)),nm "fours" (dL (ig gT)),nm "node" (gj 9)]
theorem Jc:Lk=K9:=by
 have hdue:EP (gH gc ga++iR gc)=Tt gc ga:=Js _ _ _ _;unfold Lk HA Lb Lc K9 gj gs gT;rw[hdue,oc,oc,oc];rfl
noncomputable def zv(T:js)(s:ID):PV:=.dct (s.map λp=>(p.1,aU (me T p.1)))
noncomputable def KR:SE:=K9++[nm "sums" (aZ (we gs))]
noncomputable def Ks:SE:=KR++[nm "met" (zv gT (we gs))]
section
variable{j:Nat->PV}{c:Nat->Nat}{cs:List lk}{T:js}{n:Nat}
theorem Eo(ok:uS cs):(we cs).length<=20:=by
 have h:=iF (P:=λ(d:ID) k=>d.length<=k) (f:=λd (p:Int×Int)=>pI d p.1 p.2) (λd p k h=>aD (sM d p.1 p.2) (dm h)) (cs.map λx=>(x.2.1,Cx cs x.2.1)) [] 0 (aK _);rw[aa,bS]at h;exact aD h ok.n
theorem Ho(ok:uS cs){p:Int×Int}(hp:p∈we cs):p.2.natAbs<=1000000:=by
 have h:∀(l:List lk) (d:ID),(∀q∈d,q.2.natAbs<=1000000)->∀q∈(l.map λx=>(x.2.1,Cx cs x.2.1)).foldl (λd p=>pI d p.1 p.2) d,q.2.natAbs<=1000000:=by
  have hv:∀k,(Cx cs k).natAbs<=1000000:=λk=>by
   have h:∀l:List lk,(∀x∈l,1<=x.2.2/\x.2.2<=48)->0<=(l.map (·.2.2)).sum/\(l.map (·.2.2)).sum<=48 * (l.length:Int):=by
    intro l
    induction l with
    |nil=>intro _;exact⟨iO _,iO _⟩
    |cons x l ih=>
     intro h;have h1:=h x ak;have h2:=ih λy hy=>h y (ah _ hy);rw[ao,cg,am];exact id ((pz [_] [_,_] 0x0F0E4C2CA1803019A100EA10080F0E4C2C0301910E1080F0E301900E018) h1 h2)
   have h1:=h (cs.filter λr=>r.2.1 == k) λx hx=>ok.w x (aW.mp hx).1;have h2:=aJ (λ(r:lk)=>r.2.1 == k) cs;have h3:=ok.n;unfold Cx;omega
  intro l
  induction l with
  |nil=>exact λd h=>h
  |cons x l ih=>
   intro d h;refine ih (pI d x.2.1 (Cx cs x.2.1)) λq hq=>?_;unfold pI at hq;split at hq
   ·refine bC (aG.mp hq) ?_;rintro r hr rfl
    split
    ·exact hv _
    ·exact h r hr
   ·rcases aP.mp hq with hq|hq
    ·exact h q hq
    ·rw[aA.mp hq];exact hv _
 exact h cs [] (λJ h=>nomatch h) p hp
theorem LI(ok:uS gs):ex o3 [] (n+110) mC (K9) (fy 15)=some (.next,KR):=by
 conv=>lhs;arg 6;whnf
 refine(ba (u:=aZ (we gs)) (by rfl) ?_).trans (by kernel_rfl);have hcl:(gs.map eo).length<=1048576:=by rw[aa];have:=ok.n;exact id ((pn [_] 0x0D1000003900D14190) this)
 refine(iy (items:=gs.map eo) (rs:=(gs.filter λJ=>true).map λx=>(.int x.2.1,.int (Cx gs x.2.1))) (by kernel_rfl) ?_ ?_ ?_).trans ?_
 ·exact Eq.trans (b:=if(gs.map eo).length<=1048576 then some (gs.map eo) else none) (by kernel_rfl) (if_pos hcl)
 ·refine fH (λJ=>true) (λx=>.int (Cx gs x.2.1)) (λx=>.int x.2.1) eo 60 (by kernel_rfl) gs _ ?_ ?_
  ·have:=ok.n;exact id ((pn [_,_] 0x0DA6C191A18A03C190D14190) this)
  ·intro x q hx
   refine⟨[nm "calls" (.lst (gs.map eo)),nm "one" (.int x.1),nm "two" (.int x.2.1),nm "many" (.int x.2.2)],by kernel_rfl,by rfl,λJ=>⟨?_,by rfl⟩⟩;have hs:=vT ok λr=>r.2.1 == x.2.1;refine cw (v:=.lst (((gs.filter λr=>r.2.1 == x.2.1).map (·.2.2)).map .int)) (by rfl) ?_ (vt hs.1 hs.2);show ev _ _ _ _ _=_;refine(cJ (items:=gs.map eo) (rs:=(gs.filter λr=>r.2.1 == x.2.1).map λr=>(.none,.int r.2.2)) (by rfl) ?_ ?_ ?_).trans ?_
   ·exact Eq.trans (b:=if(gs.map eo).length<=1048576 then some (gs.map eo) else none) (by rfl) (if_pos hcl)
   ·refine cN (λr=>r.2.1 == x.2.1) (λr=>.int r.2.2) eo 30 (by kernel_rfl) gs _ ?_ ?_
    ·have:=ok.n;exact id ((pn [_,_] 0x0DA39191A18A01E190D14190) this)
    ·intro r k hr
     exact⟨[nm "two" (.int x.2.1),nm "row" (eo r)],by rfl,bN (by rfl),λJ=>by rfl⟩
   ·rw[aa]at hs ⊢;exact hs.1
   ·rw[aj,aj];rfl
 ·rw[aa];have:=aJ (λ(_:lk)=>true) gs;have:=ok.n;exact id ((pn [_,_] 0x0D1000003900D141910D10) ‹_› this)
 ·rw[bu.mpr (λJ J=>rfl)]
  have:=pL (gs.map λx=>(x.2.1,Cx gs x.2.1)) []
  rw[aj]at this;exact congrArg (cu PV.dct) this
theorem F7(ok:ta T){v:Int}(hv:v∈az):item (dQ T) (.int v)=some (aZ (cQ T v)):=kJ (ok.row hv).1
theorem uq(ok:ta T):T.map (λp=>PV.int p.1)=az.map .int:=by rw[<- ok.keys,aj];rfl
theorem qO(ok:ta T):T.length=5:=by have:=congrArg List.length ok.keys;rw[aa]at this;exact this
theorem mP{o:cS}{N:Nat}{sc:Sc}{σ:SE}{t:Expr}{x:Str}{q:Pos}(ok:ta T)(h:evI o N sc σ t (.Name x q)=qU (dQ T)):evI o N sc σ t (.Name x q)=some (az.map .int):=by
 rw[h,<- uq ok];refine(if_pos (by rw[aa,qO ok];decide)).trans ?_;rw[aj];rfl
theorem Md(ok:ta gT)(okc:uS gs):ex o3 [] (n+110) mC (KR) (fy 16)=some (.next,Ks):=by
 conv=>lhs;arg 6;whnf
 refine(ba (u:=zv gT (we gs)) (by rfl) ?_).trans (by kernel_rfl);have hl:=Eo okc;have hk:=AQ gs;unfold KR;generalize we gs=s at hl hk;refine(iy (items:=s.map λp=>.int p.1) (rs:=(s.filter λJ=>true).map λp=>(.int p.1,aU (me gT p.1))) (by rfl) ?_ ?_ ?_).trans ?_
 ·refine Eq.trans (b:=if(s.map λp=>(p.1,PV.int p.2)).length<=1048576 then some ((s.map λp=>(p.1,PV.int p.2)).map λkv=>PV.int kv.1) else none) (by rfl) ?_
  rw[if_pos (by rw[aa];exact id ((pn [_] 0x0D1000003900D14190) hl)),aj];rfl
 ·refine fH (λJ=>true) (λp=>aU (me gT p.1)) (λp=>.int p.1) (λp=>.int p.1) 60 (by kernel_rfl) s _ ?_ ?_
  ·exact id ((pn [_,_] 0x0DA6C191A18A03C190D14190) hl)
  ·intro p q hp
   refine⟨[nm "due" (dQ gT),nm "one" (.int p.1)],by rfl,by rfl,λJ=>⟨?_,by rfl⟩⟩;refine(cJ (items:=az.map .int) (rs:=(az.filter λv=>(gI (cQ gT v) p.1).isSome).map λv=>(.none,.int v)) (by rfl) (mP ok (by rfl)) ?_ ?_).trans ?_
   ·refine cN (λv=>(gI (cQ gT v) p.1).isSome) .int .int 30 (by rfl) az _ ?_ ?_
    ·show 30+5+1<=_
     exact id (pn [_] 0x0DA3B190A18A581E19)
    ·intro v m hv
     refine⟨[nm "due" (dQ gT),nm "one" (.int p.1),nm "node" (.int v)],by rfl,bN (bV (mB (a:=.int p.1) (b:=aZ (cQ gT v)) (by rfl) (by rfl) (by rfl) ?_ ?_)),λJ=>by rfl⟩
     ·show ev _ _ _ _ _=_
      exact bp (b:=dQ gT) (k:=.int v) (by rfl) (by rfl) (by rfl) (F7 ok hv)
     ·show some (eH _ _).isSome=_
      rw[eG,dE]
   ·rw[aa];have:=aJ (λv=>(gI (cQ gT v) p.1).isSome) az;have e5:az.length=5:=rfl;exact id ((pn [_,_] 0x0D1000003902D5810D10) this e5)
   ·rw[aj];rfl
 ·rw[aa];have:=aJ (λ(_:Int×Int)=>true) s;exact id ((pn [_,_] 0x0D1000003910D010D14190) hl this)
 ·rw[bu.mpr (λJ J=>rfl)]
  have:=dN (s.map λp=>(p.1,aU (me gT p.1))) [] (by rw[dJ,aj];exact hk)
  rw[aj]at this;exact congrArg (cu PV.dct) this
end
end
end Mine
end
section
namespace Mine
noncomputable section
theorem xc{α β:Type}(g:Int->α->β)(s:List (Int×α))(j:Int):kE (s.map λp=>(p.1,g p.1 p.2)) j=(kE s j).map (g j):=by
 unfold kE;rw[List.find?_map,qw,qw]
 cases e:s.find? ((λp:Int×β=>decide (p.1=j)) ∘ λp=>(p.1,g p.1 p.2)) with
 |none=>rw[show s.find? (λp=>decide (p.1=j))=none from e];rfl
 |some p=>
  have e:s.find? (λp=>decide (p.1=j))=some p:=e;have h:p.1=j:=of_decide_eq_true (kg (p:=λ(p:Int×α)=>decide (p.1=j)) e);rw[e];subst h;rfl
theorem Fh{l:List Int}{n:Nat}(h:l.length+3<=n):n0 n (eZ l) (eZ l)=some true:=by
 refine xE (aE (show 1<=n by exact id ((pn [_,_] 0x0D1180D1A380) h))) ?_;rintro k rfl;refine pB (m:=1) (l.map .int) k (λv hv m hm=>?_) (by rw[aa];exact id ((pn [_,_] 0x0D1A18A0180DA181A380) h));refine bC (aG.mp hv) ?_;rintro i _ rfl;exact qV i m hm
theorem xG{α:Type}{g:Int->List α}{k:Nat}:∀{l:List Int},(∀v∈l,(g v).length<=k)->(l.flatMap g).length<=k * l.length
 | [],_=>bz _
 |v::l,h=>by
  have h1:=h v ak;have h2:=xG λu hu=>h u (ah v hu);rw[mM,aB,am,Nat.mul_succ];exact id ((pn [_,_,_,_] 0x0DA13A200D320D10) h1 h2)
theorem Ep(d s:ID):(tG d s).length<=d.length+s.length:=
 iF (P:=λ(d:ID) k=>d.length<=k) (f:=λd (p:Int×Int)=>ik d p.1 p.2) (λd p k h=>aD (sP d p.1 p.2) (dm h)) s d d.length (aK _)
section
variable{o:cS}{W:List Str}{n:Nat}{sc:Sc}{σ:SE}
theorem KN{op:UnaryOp}{x:Expr}{p:Pos}{a b:PV}(h:ev o n sc σ x=some a)(hr:Lq op a=some b):ev o (n+1) sc σ (.UnaryOp op x p)=some b:=(di h).trans hr
end
section
variable{j:Nat->PV}{c:Nat->Nat}{cs:List lk}{T:js}{n:Nat}
theorem Bv(ok:ta T):(gE T).length<=10:=by
 unfold gE;rw[xU (cQ T) az [] c9];have h:=Ep [] (az.flatMap (cQ T));have h2:=xG (g:=cQ T) (k:=2) (l:=az) λv hv=>(ok.row hv).2.1.1;have e5:az.length=5:=rfl;have e0:([]:ID).length=0:=rfl;exact id ((pn [_,_,_,_] 0x0DA802D0812D5830D4C32820DA210) h h2 e5 e0)
theorem y7(T:js):T4 (ig T)/\e6 0 (ig T)=gE T:=by
 refine xA (lp (i:=0) (by exact id (pn [] 0x1D4808)) T az [] λJ h=>nomatch h) ?_;intro h1 h2;have e0:(λv=>e6 0 (iq T v))=cQ T:=funext λv=>by
  unfold e6 iq;rw[aj];exact iP _
 refine⟨h1,h2.trans ?_⟩;show az.foldl (λw v=>gZ w ((λv=>e6 0 (iq T v)) v)) []=_;rw[e0];rfl
theorem LP(ok:ta gT)(okc:uS gs)(hw:∀gj,gI (gE gT) gj=gI (we gs) gj):ex o3 [] (n+110) mC (Ks) (fy 17)=some (.next,Ks):=by
 conv=>lhs;arg 6;whnf
 have hk:=AQ gs;have hl:=Eo okc;have hwl:=Bv ok;refine xA (y7 gT) ?_;intro f4 f0;have hfl:(ig gT).length<=10:=by rw[<- f0]at hwl;unfold e6 at hwl;rw[aa]at hwl;exact hwl
 have hfk:((ig gT).map (·.1)).Nodup:=by
  have h:=rj gT;rw[<- f0]at h;unfold e6 at h;rw[aj]at h;exact h
 have hfe:=FM (T:=gT) (sums:=we gs) ok.keysOf hw;have hsm:∀p∈we gs,p.2.natAbs<=1000000:=λp hp=>Ho okc hp;refine dh (c:=false) (pS (dv (b:=false) (c:=false) ?_ λJ=>dv (b:=false) (c:=false) ?_ λJ=>dv (b:=false) (c:=false) ?_ λJ=>lT)) (λh=>nomatch h) λJ=>by rfl
 ·refine bV (db (a:=dQ gT) (b:=dQ gT) (by kernel_rfl) (by rfl) (by kernel_rfl) (n7 ?_))
  have hn:(gT.map (·.1)).Nodup:=by rw[ok.keys];decide
  exact yV (c:=10) aZ hn hn (λJ=>rfl) (λp hp k hk=>y4 (ok.rows p hp).1 (ok.rows p hp).1 (λJ=>rfl) (by have:=(ok.rows p hp).2.1;exact id ((pn [_,_] 0x0D0A4810D2810D0A8) hk this))) (by rw[qO ok];exact id (pn [_] 0x0DA69190A28AA858))
 ·exact bV (db (a:=aZ (gE gT)) (b:=aZ (we gs)) (by kernel_rfl) (by rfl) (by kernel_rfl) (n7 (y4 (rj gT) hk hw (by exact id ((pn [_,_] 0x0DA68191A4800DA80) hwl)))))
 ·unfold Ks KR
  generalize we gs=s at hl hk hsm hfe;have hE:∀x,kE (ig gT) x=kE (s.map λp=>(p.1,oT gT p.1 p.2)) x:=λx=>by
   rw[xc (oT gT) s x];exact hfe x
  refine bV (db (a:=dL (ig gT)) (b:=dL (s.map λp=>(p.1,oT gT p.1 p.2))) (by kernel_rfl) (by rfl) ?_ (n7 (yV (d:=ig gT) (e:=s.map λp=>(p.1,oT gT p.1 p.2)) (c:=7) eZ hfk (by rw[aj];exact hk) hE (λp hp k hk=>Fh (by rw[f4 p hp];exact id ((pn [_] 0x0D0A38480D078) hk))) (by exact id ((pn [_,_] 0x0DA67191A28A7800DA80) hfl)))));refine(iy (items:=s.map λp=>.int p.1) (rs:=(s.filter λJ=>true).map λp=>(.int p.1,eZ (oT gT p.1 p.2))) (by rfl) ?_ ?_ ?_).trans ?_
  ·refine Eq.trans (b:=if(s.map λp=>(p.1,PV.int p.2)).length<=1048576 then some ((s.map λp=>(p.1,PV.int p.2)).map λkv=>PV.int kv.1) else none) (by kernel_rfl) ?_
   rw[if_pos (by rw[aa];exact id ((pn [_] 0x0D1000003900D14190) hl)),aj];rfl
  ·refine fH (λJ=>true) (λp=>eZ (oT gT p.1 p.2)) (λp=>.int p.1) (λp=>.int p.1) 50 (by kernel_rfl) s _ ?_ ?_
   ·exact id ((pn [_,_] 0x0DA66191A18A032190D14190) hl)
   ·intro p q hp
    refine⟨[nm "sums" (aZ s),nm "met" (zv gT s),nm "one" (.int p.1)],by kernel_rfl,by rfl,λJ=>⟨?_,by rfl⟩⟩;have hg:gI s p.1=some p.2:=IG hk hp;have hget:item (aZ s) (.int p.1)=some (.int p.2):=by
     show eH _ _=_;rw[eG,hg];rfl
    have hmet:item (zv gT s) (.int p.1)=some (aU (me gT p.1)):=by
     show eH _ _=_;refine(mu aU (s.map λp=>(p.1,me gT p.1)) p.1 |> λe=>(congrArg (λl=>eH l p.1) (by rw[aj];rfl)).trans e).trans ?_;rw[xc (λx J=>me gT x) s p.1,show kE s p.1=some p.2 from hg];rfl
    have hml:(me gT p.1).length<=5:=aJ _ az;have hmv:∀x∈me gT p.1,x.natAbs<=1099511627776:=λx hx=>by
     have h:=(aW.mp hx).1;simp only[az,ai,aM,or_false]at h
     omega
    refine fG (ar ?_ (ar ?_ (ar ?_ (ar ?_ aR))))
    ·exact bp (b:=aZ s) (k:=.int p.1) (by rfl) (by rfl) (by rfl) hget
    ·refine cw (v:=aU (me gT p.1)) (by rfl) ?_ ?_
     ·show ev _ _ _ _ _=_
      exact bp (b:=zv gT s) (k:=.int p.1) (by rfl) (by rfl) (by rfl) hmet
     ·show(if((me gT p.1).map PV.int).length<=1048576 then some (PV.int (((me gT p.1).map PV.int).length:Int)) else none)=_
      rw[if_pos (by rw[aa];exact id ((pn [_] 0x0D1000003900D580) hml)),aa]
    ·refine KN (a:=.int p.2) ?_ (by rfl)
     exact bp (b:=aZ s) (k:=.int p.1) (by rfl) (by rfl) (by rfl) hget
    ·refine cw (v:=aU (me gT p.1)) (by rfl) ?_ (vt (by exact id ((pn [_] 0x0D1000003900D580) hml)) hmv)
     show ev _ _ _ _ _=_;exact bp (b:=zv gT s) (k:=.int p.1) (by rfl) (by rfl) (by rfl) hmet
  ·rw[aa];have:=aJ (λ(_:Int×Int)=>true) s;exact id ((pn [_,_] 0x0D1000003910D010D14190) hl this)
  ·rw[bu.mpr (λJ J=>rfl)]
   have:=dN (s.map λp=>(p.1,eZ (oT gT p.1 p.2))) [] (by rw[dJ,aj];exact hk)
   rw[aj]at this;refine(congrArg (cu PV.dct) this).trans ?_;unfold dL;rw[aj];rfl
end
end
end Mine
end
section
namespace Mine
noncomputable section
noncomputable def Al{α:Type}(ch:α->Bool):Nat->KasT α->Bool
 |_,.ret a=>ch a
 |0,.ask _ _ _=>false
 |n+1,.ask _ _ k=>Al ch n (k true) && Al ch n (k false)
theorem pP{α:Type}{ch:α->Bool}{lt:Nat->Nat->Bool}:∀{n:Nat}{t:KasT α},Al ch n t=true->ch (r8 lt t)=true
 |_,.ret a,h=>by cases ‹Nat›<;>exact h
 |0,.ask _ _ _,h=>nomatch h
 |n+1,.ask i j k,h=>by
  refine xA (bf _ _ |>.mp h) ?_;intro h1 h2;show ch (r8 lt (k (lt i j)))=true
  cases lt i j with
  |true=>exact pP h1
  |false=>exact pP h2
theorem Ke:Al (λa=>(a.toList).isPerm (aI 5)) 40 (kas_sort 5)=true:=by kernel_rfl
theorem lX{ps:List (Int×Int)}(h:ps.length=5):(fP ps).Perm (aI 5):=by
 unfold fP;rw[if_neg (by exact id ((pn [_] 0x2F1D2802D580) h)),h];exact List.isPerm_iff.mp (pP Ke)
noncomputable def rQ(d a c x:Int):Int:=if a < c then -d else if a > c then d else x
theorem wq(a c x:Int):rQ 1 a c x=if a=c then x else if a < c then -1 else 1:=by
 unfold rQ;rcases Int.lt_trichotomy a c with h|h|h
 ·rw[if_pos h,if_neg (Int.ne_of_lt h),if_pos h]
 ·rw[if_neg (d2.mpr (oB h.symm)),if_neg (d2.mpr (oB h)),if_pos h]
 ·rw[if_neg (d2.mpr (kX h)),if_pos h,if_neg (Int.ne_of_gt h),if_neg (d2.mpr (kX h))]
theorem uw{w:Int}(hw:w=1\/w=-1)(a c x:Int):rQ w a c x=rQ 1 (w * a) (w * c) x:=by
 rcases hw with rfl|rfl
 ·rw[iN,iN]
 ·have e:∀u v:Int,-1 * u < -1 * v↔v < u:=λu v=>by omega
  unfold rQ;rcases Int.lt_trichotomy a c with h|h|h
  ·rw[if_pos h,if_neg (λq=>Int.lt_asymm h ((e a c).mp q)),if_pos (show -1 * a > -1 * c from(e c a).mpr h)];rfl
  ·subst h;rw[if_neg (Int.lt_irrefl _),if_neg (show ¬a > a from Int.lt_irrefl _),if_neg (Int.lt_irrefl _),if_neg (show ¬ -1 * a > -1 * a from Int.lt_irrefl _)]
  ·rw[if_neg (Int.lt_asymm h),if_pos (show a > c from h),if_pos ((e a c).mpr h)]
theorem Bh{w0 w1:Int}(h0:w0=1\/w0=-1)(h1:w1=1\/w1=-1)(s u s' v:Int):
  (oi (λi j=>decide (i < j)) (-w0 * s) (w1 * u) (-w0 * s') (w1 * v)=true->j3 (-w0) w1 s u s' v=-1) /\
  (oi (λi j=>decide (i < j)) (-w0 * s) (w1 * u) (-w0 * s') (w1 * v)=false->(oi (λi j=>decide (i > j)) (-w0 * s) (w1 * u) (-w0 * s') (w1 * v)=true->j3 (-w0) w1 s u s' v=1) /\
   (oi (λi j=>decide (i > j)) (-w0 * s) (w1 * u) (-w0 * s') (w1 * v)=false->j3 (-w0) w1 s u s' v=0)):=by
 have e:j3 (-w0) w1 s u s' v=rQ 1 (-w0 * s) (-w0 * s') (rQ 1 (w1 * u) (w1 * v) 0):=by
  rw[<- uw (by rcases h0 with rfl|rfl<;>simp),<- uw h1];rfl
 rw[e,wq,wq];generalize -w0 * s=a;generalize -w0 * s'=c;generalize w1 * u=b;generalize w1 * v=d;unfold oi;have key:∀{a c:Int},a≠c->(a == c)=false:=λh=>beq_eq_false_iff_ne.mpr h;have cl:∀{a c x:Int},a≠c->(decide (a < c)=true->(if a < c then(-1:Int) else 1)=-1)/\(decide (a < c)=false->(decide (a > c)=true->(if a < c then(-1:Int) else 1)=1)/\(decide (a > c)=false->(if a < c then(-1:Int) else 1)=0)):=λ{a c x} h=>
  ⟨λq=>if_pos (of_decide_eq_true q),λq=>⟨λJ=>if_neg (of_decide_eq_false q),λq2=>absurd (Int.le_antisymm (d2.mp (of_decide_eq_false q2)) (d2.mp (of_decide_eq_false q))) h⟩⟩
 by_cases h:a=c
 ·rw[if_pos h,h,beq_self_eq_true,if_pos rfl,if_pos rfl]
  by_cases h2:b=d
  ·rw[if_pos h2,h2,beq_self_eq_true,if_pos rfl]
   exact⟨λq=>(nomatch q),λJ=>⟨λq=>(nomatch q),λJ=>rfl⟩⟩
  ·rw[if_neg h2,key h2,if_neg av,if_neg av]
   exact cl (x:=0) h2
 ·rw[if_neg h,key h,if_neg av,if_neg av]
  exact cl (x:=0) h
end
end Mine
end
section
namespace Mine
noncomputable section
@[irreducible] noncomputable def gi:Nat->PV:=JU λk=>match k with|10=>aZ (gE gT)|11=>dL (ig gT)|12=>aZ (we gs)|13=>zv gT (we gs)|k=>gj k
noncomputable def La:SE:=[nm "script" (gi 0),nm "cells" (eK gc),nm "leads" (gi 1),nm "page" (gi 2),nm "lines" (gi 3),nm "spaces" (gi 4),nm "symbols" (gi 5),nm "others" (gi 6),nm "wrong" (gi 7),nm "above" (gi 8),nm "calls" (.lst (gs.map eo)),nm "due" (dQ gT),nm "table" (dQ gT),nm "whole" (gi 10),nm "fours" (gi 11),nm "node" (gi 9),nm "sums" (gi 12),nm "met" (gi 13)]
theorem Jw:Ks=La:=by
 unfold La gi;rw[oc];rfl
noncomputable def jO(c:Nat->Nat)(p:Nat):Int:=1 - 2 * ((c 4 / p % 2:Nat):Int)
theorem l6(c:Nat->Nat)(p:Nat):jO c p=1\/jO c p=-1:=by
 unfold jO
 have:c 4 / p % 2 < 2:=aY _ (by exact id (pn [] 0x1D2808))
 lia
noncomputable def Lo:SE:=La++[nm "ways" (aU [jO gc 1,jO gc 2,jO gc 4])]
theorem LC{n:Nat}:ex o3 [] (n+60) mC (La) (fy 18)=some (.next,Lo):=by
 conv=>lhs;arg 6;whnf
 refine(ba (u:=aU [jO gc 1,jO gc 2,jO gc 4]) (by rfl) ?_).trans (by kernel_rfl);refine fj (λp=>.int (jO gc p)) (λ(p:Nat)=>.int (p:Int)) 30 [1,2,4] (by kernel_rfl) (by rfl) (by kernel_rfl) ?_ (by decide) ?_
 ·show 30+3+1<=_
  exact id (pn [_] 0x0DA3A190A18A381E19)
 ·intro p m hp
  have hp:p=1\/p=2\/p=4:=by simpa using hp
  refine⟨[nm "cells" (eK gc),nm "part" (.int (p:Int))],by kernel_rfl,by rfl,?_⟩;refine aV (a:=.int 1) (b:=.int (2 * ((gc 4 / p % 2:Nat):Int))) (by rfl) ?_ rfl;refine aV (a:=.int 2) (b:=.int ((gc 4 / p % 2:Nat):Int)) (by rfl) ?_ rfl;refine aV (a:=.int ((gc 4 / p:Nat):Int)) (b:=.int ((2:Nat):Int)) ?_ (by rfl) (d9 (by exact id (pn [] 0x1D2808)));show ev _ _ _ _ _=_;exact aV (a:=.int (gc 4:Int)) (b:=.int (p:Int)) (by rfl) (by rfl) (e8 (by exact id ((pn [_] 0x1D0081F1F2D4802D2802D180) hp)) (by exact id ((pn [_] 0x1D01000000005901F1F2D4802D2802D180) hp)))
noncomputable def Am(T:js):PV:=.lst (az.map λv=>.tup [.int (ct (cQ T v)),.int v])
noncomputable def Ls:SE:=Lo++[nm "comp" (lL (-(jO gc 1)) (jO gc 2)),nm "rows" (Am gT)]
theorem He(d0 d1:Int):o3.fn "TupleComp" [.lst [.tup [.int 0,.int d0],.tup [.int 1,.int d1]]]=some (lL d0 d1):=Je d0 d1
theorem Dt(d0 d1 a b c d:Int):o3.mth "TupleComp" "compare" [lL d0 d1,.tup [.int a,.int b],.tup [.int c,.int d]]=some (.int (j3 d0 d1 a b c d)):=Az d0 d1 (by rfl) (by rfl) (by rfl) (by rfl)
theorem Lw{n:Nat}(ok:ta gT):ex o3 [] (n+60) mC (Lo) (fy 19)=some (.next,Ls):=by
 conv=>lhs;arg 6;whnf
 refine vr (xs:=["comp","rows"]) (ps:=[lL (-(jO gc 1)) (jO gc 2),Am gT]) (by rfl) (by rfl) ?_ (by kernel_rfl);refine ar ?_ (ar ?_ aR)
 ·exact fq (v':=.lst [.tup [.int 0,.int (-(jO gc 1))],.tup [.int 1,.int (jO gc 2)]]) (v:=.lst [.tup [.int 0,.int (-(jO gc 1))],.tup [.int 1,.int (jO gc 2)]]) (by kernel_rfl) (by kernel_rfl) (by rfl) (by kernel_rfl) (He _ _)
 ·refine fj (λv=>.tup [.int (ct (cQ gT v)),.int v]) .int 30 az (by kernel_rfl) (mP ok (by kernel_rfl)) (by kernel_rfl) ?_ (by decide) ?_
  ·show 30+5+1<=_
   exact id (pn [_] 0x0DA3A190A18A581E19)
  ·intro v m hv
   refine iQ (ok.row hv) ?_;rintro hr ⟨hl,_⟩ _;refine⟨[nm "table" (dQ gT),nm "node" (.int v)],by kernel_rfl,by rfl,?_⟩;refine fG (ar ?_ (ar (by rfl) aR));refine fq (v':=aZ (cQ gT v)) (v:=aZ (cQ gT v)) (by rfl) ?_ (by rfl) ?_ (y6 (by exact id ((pn [_] 0x0D3C1900D280) hl)))
   ·show ev _ _ _ _ _=_
    exact bp (b:=dQ gT) (k:=.int v) (by rfl) (by rfl) (by rfl) (kJ hr)
   ·exact bp (b:=dQ gT) (k:=.int v) (by rfl) (by rfl) (by rfl) (kJ hr)
theorem Hg{r:ID}(h:r.length<=2)(hw:∀q∈r,1<=q.2/\q.2<=100):o3.bi "sum" [.vals (r.map λp=>(p.1,PV.int p.2))]=some (.int (ct r)):=by
 show(iV ((r.map λp=>(p.1,PV.int p.2)).map (·.2))).bind (λns=>if Cv ns then some (PV.int ns.sum) else none)=_
 have:(r.map λp=>(p.1,PV.int p.2)).map (·.2)=(r.map (·.2)).map .int:=by rw[aj,aj];rfl
 rw[this,nO,Option.bind_some,if_pos];· rfl
 unfold Cv;rw[decide_eq_true (by rw[aa];exact id ((pn [_] 0x0D1000003900D280) h)),g9,bj];intro x hx;refine bC (aG.mp hx) ?_;rintro q hq rfl
 have:=hw q hq
 exact decide_eq_true (by lia)
theorem t7{n:Nat}{sc:Sc}{σ:SE}{q1 q2 q3 q4 q5 q6 q7:Pos}{T:js}{v:Int}(ok:ta T)(hv:v∈az)(hg:bR sc σ "sum"=true)(hl:(dw (.Subscript (.Name "due" q1) (.Name "node" q2) q3) && q4.endLine == q5.line && decide (([]:List Expr).length<=8))=true)
  (h1:evP o3 n sc σ (.Name "due" q1)=some (dQ T)) (h2:ev o3 n sc σ (.Name "node" q2)=some (.int v)) (hgt:d6 o3 sc σ (.Name "due" q1)=none) :
  ev o3 (n+4) sc σ (.Call (.Name "sum" q6) [.Call (.Attribute (.Subscript (.Name "due" q1) (.Name "node" q2) q3) "values" q4) [] [] q5] [] q7)=some (.int (ct (cQ T v))):=by
 refine iQ (ok.row hv) ?_;rintro hr ⟨hl2,_⟩ hq;refine cw (v:=.vals ((cQ T v).map λp=>(p.1,PV.int p.2))) hg ?_ (Hg hl2 λq h=>hq q h);show ev _ _ _ _ _=_;refine sC (l:=(cQ T v).map λp=>(p.1,PV.int p.2)) (vs:=[]) hl ?_ aR (by rfl);exact bp (b:=dQ T) (k:=.int v) hgt h1 h2 (kJ hr)
noncomputable def mA(c:Nat->Nat)(T:js)(v:Int):Int×Int:=(-(jO c 1) * ct (cQ T v),jO c 2 * v)
noncomputable def LM:SE:=Ls++[nm "keys" (.lst (az.map λv=>ym (mA gc gT v)))]
theorem vC{w x:Int}(h:w=1\/w=-1):jW .Mult (.int w) (.int x)=some (.int (w * x)):=by
 show(if(small w ||small x)=true then some (PV.int (w * x)) else none)=_;rw[if_pos (by rcases h with rfl|rfl<;>rfl)]
theorem Mh{n:Nat}(ok:ta gT):ex o3 [] (n+60) mC (Ls) (fy 20)=some (.next,LM):=by
 conv=>lhs;arg 6;whnf
 refine(ba (u:=.lst (az.map λv=>ym (mA gc gT v))) (by rfl) ?_).trans (by kernel_rfl);refine fj (λv=>ym (mA gc gT v)) .int 30 az (by kernel_rfl) (mP ok (by kernel_rfl)) (by kernel_rfl) ?_ (by decide) ?_
 ·show 30+5+1<=_
  exact id (pn [_] 0x0DA3A190A18A581E19)
 ·intro v m hv
  refine⟨[nm "due" (dQ gT),nm "ways" (aU [jO gc 1,jO gc 2,jO gc 4]),nm "node" (.int v)],by kernel_rfl,by rfl,?_⟩;have hw:-(jO gc 1)=1\/-(jO gc 1)=-1:=by rcases l6 gc 1 with h|h<;>lia
  refine fG (ar ?_ (ar ?_ aR))
  ·exact aV (a:=.int (-(jO gc 1))) (b:=.int (ct (cQ gT v))) (by rfl) (t7 ok hv (by rfl) (by rfl) (by rfl) (by rfl) (by rfl)) (vC hw)
  ·exact aV (a:=.int (jO gc 2)) (b:=.int v) (by rfl) (by rfl) (vC (l6 gc 2))
noncomputable def tD(c:Nat->Nat)(T:js)(u v:Int):Str:=toString (j3 (-(jO c 1)) (jO c 2) (ct (cQ T u)) u (ct (cQ T v)) v)
noncomputable def vg(c:Nat->Nat)(T:js):List PV:=(az.flatMap λu=>az.map λv=>.str (tD c T u v))++az.map λv=>.str (toString (ct (cQ T v)))
noncomputable def J8:SE:=LM++[nm "signs" (.lst (vg gc gT))]
theorem yF{a:Int}(h:a.natAbs<=1099511627776):o3.bi "str" [.int a]=some (.str (toString a)):=by
 show(if a.natAbs<=1099511627776 then some (PV.str (toString a)) else none)=_;rw[if_pos h]
theorem Dm{w0 w1:Int}(h0:w0=1\/w0=-1)(h1:w1=1\/w1=-1)(a b c d:Int):(j3 (-w0) w1 a b c d).natAbs<=1099511627776:=by
 unfold j3;rcases h0 with rfl|rfl<;>rcases h1 with rfl|rfl<;>(repeat' split)<;>decide
theorem LG{n:Nat}(ok:ta gT):ex o3 [] (n+90) mC (LM) (fy 21)=some (.next,J8):=by
 conv=>lhs;arg 6;whnf
 refine(ba (u:=.lst (vg gc gT)) (by rfl) ?_).trans (by kernel_rfl);refine aV (a:=.lst (az.flatMap λu=>az.map λv=>.str (tD gc gT u v))) (b:=.lst (az.map λv=>.str (toString (ct (cQ gT v))))) ?_ ?_ (by rfl)
 ·show ev _ _ _ _ _=_
  let t:Int->PV:=λv=>.tup [.int (ct (cQ gT v)),.int v]
  refine(cJ (items:=az.map t) (rs:=(az.filter λJ=>true).flatMap λu=>(az.filter λJ=>true).map λv=>(.none,.str (tD gc gT u v))) (by kernel_rfl) (by kernel_rfl) ?_ (by simp[az])).trans (by rfl);refine oR (λJ=>true) (λu=>(az.filter λJ=>true).map λv=>(.none,.str (tD gc gT u v))) t 50 (by kernel_rfl) az _ ?_ ?_
  ·show 50+5+1<=_
   exact id (pn [_] 0x0DA56190A18A583219)
  ·intro u m hu
   refine⟨[nm "comp" (lL (-(jO gc 1)) (jO gc 2)),nm "rows" (Am gT),nm "one" (t u)],by kernel_rfl,by rfl,λJ=>⟨az.map t,by rfl,?_⟩⟩;refine cN (λJ=>true) (λv=>.str (tD gc gT u v)) t 30 (by rfl) az _ ?_ ?_
   ·show 30+5+1<=_
    exact id (pn [_] 0x0DA32190A18A581E19)
   ·intro v q hv
    refine⟨[nm "comp" (lL (-(jO gc 1)) (jO gc 2)),nm "rows" (Am gT),nm "one" (t u),nm "two" (t v)],by rfl,by rfl,λJ=>?_⟩;refine cw (v:=.int (j3 (-(jO gc 1)) (jO gc 2) (ct (cQ gT u)) u (ct (cQ gT v)) v)) (by rfl) ?_ (yF (Dm (l6 gc 1) (l6 gc 2) _ _ _ _));show ev _ _ _ _ _=_;exact j7 (c:="TupleComp") (fs:=[("comp_select_list",.lst [.tup [.int 0,.int (-(jO gc 1))],.tup [.int 1,.int (jO gc 2)]])]) (by rfl) (by rfl) (ar (by rfl) (ar (by rfl) aR)) (by rfl) (Dt _ _ _ _ _ _)
 ·let t:Int->PV:=λv=>.tup [.int (ct (cQ gT v)),.int v]
  refine fj (λv=>.str (toString (ct (cQ gT v)))) t 30 az (by rfl) (by rfl) (by kernel_rfl) ?_ (by decide) ?_
  ·show 30+5+1<=_
   exact id (pn [_] 0x0DA57190A18A581E19)
  ·intro v q hv
   have hs:=ok.sum hv;refine⟨[nm "row" (t v)],by kernel_rfl,by rfl,?_⟩;exact cw (v:=.int (ct (cQ gT v))) (by rfl) (by rfl) (yF (by lia))
theorem LH{n:Nat}(ok:ta gT):ex o3 [] (n+110) mC (J8) (fy 22)=some (.next,J8):=by
 conv=>lhs;arg 6;whnf
 refine dh (c:=false) ?_ (λh=>nomatch h) λJ=>by rfl
 refine bV (db (a:=.lst (vg gc gT)) (b:=.lst (vg gc gT)) (by kernel_rfl) (by rfl) ?_ (n7 (vF (m:=1) ?_ ?_)))
 ·refine aV (a:=.lst (az.flatMap λu=>az.map λv=>.str (tD gc gT u v))) (b:=.lst (az.map λv=>.str (toString (ct (cQ gT v))))) ?_ ?_ (by rfl)
  ·show ev _ _ _ _ _=_
   let t:Int->PV:=λv=>ym (mA gc gT v)
   let K:PV:=.lst (az.map t)
   refine(cJ (items:=az.map t) (rs:=(az.filter λJ=>true).flatMap λu=>(az.filter λJ=>true).map λv=>(.none,.str (tD gc gT u v))) (by kernel_rfl) (by kernel_rfl) ?_ (by simp[az])).trans (by rfl);refine oR (λJ=>true) (λu=>(az.filter λJ=>true).map λv=>(.none,.str (tD gc gT u v))) t 50 (by kernel_rfl) az _ ?_ ?_
   ·show 50+5+1<=_
    exact id (pn [_] 0x0DA68190A18A583219)
   ·intro u m hu
    refine⟨[nm "keys" K,nm "one" (t u)],by kernel_rfl,by rfl,λJ=>⟨az.map t,by rfl,?_⟩⟩;refine cN (λJ=>true) (λv=>.str (tD gc gT u v)) t 30 (by rfl) az _ ?_ ?_
    ·show 30+5+1<=_
     exact id (pn [_] 0x0DA32190A18A581E19)
    ·intro v q hv
     refine xA (Bh (l6 gc 1) (l6 gc 2) (ct (cQ gT u)) u (ct (cQ gT v)) v) ?_;intro g1 g2;refine⟨[nm "keys" K,nm "one" (t u),nm "two" (t v)],by rfl,by rfl,λJ=>?_⟩;unfold tD;refine gV (c:=oi (λi gi=>decide (i < gi)) (mA gc gT u).1 (mA gc gT u).2 (mA gc gT v).1 (mA gc gT v).2) (by rfl) (λhc=>?_) (λhc=>?_)
     ·rw[g1 hc];rfl
     ·refine gV (c:=oi (λi gi=>decide (i > gi)) (mA gc gT u).1 (mA gc gT u).2 (mA gc gT v).1 (mA gc gT v).2) (by rfl) (λhc'=>?_) (λhc'=>?_)
      ·rw[(g2 hc).1 hc'];rfl
      ·rw[(g2 hc).2 hc'];rfl
  ·refine fj (λv=>.str (toString (ct (cQ gT v)))) .int 30 az (by kernel_rfl) (mP ok (by rfl)) (by kernel_rfl) ?_ (by decide) ?_
   ·show 30+5+1<=_
    exact id (pn [_] 0x0DA69190A18A581E19)
   ·intro v q hv
    have hs:=ok.sum hv;refine⟨[nm "due" (dQ gT),nm "node" (.int v)],by kernel_rfl,by rfl,?_⟩;refine cw (v:=.int (ct (cQ gT v))) (by rfl) ?_ (yF (by lia));show ev _ _ _ _ _=_;exact t7 ok hv (by rfl) (by rfl) (by rfl) (by rfl) (by rfl)
 ·intro v hv k hk
  rcases aP.mp hv with hv|hv
  ·refine bC (nJ.mp hv) ?_;intro u _ hv
   refine bC (aG.mp hv) ?_;rintro w _ rfl;exact Ax _ _ hk
  ·refine bC (aG.mp hv) ?_;rintro w _ rfl
   exact Ax _ _ hk
 ·show 1+30+2<=_
  exact id (pn [_] 0x0DA6B190A28A1E1918)
end
end Mine
end
section
namespace Mine
noncomputable section
theorem wY{o:cS}{W:List Str}{n:Nat}{sc:Sc}{σ aL:SE}{ts:List Expr}{f:Str}{as:List Expr}{c:Nat}{q q' q'' p:Pos}{xs:List Str}{ps:List PV}(hn:cj ts=some xs)(hw:xs.any W.contains=false)(hv:ev o n sc σ (.Call (.Name f q') as [] q'')=some (.tup ps))(hl:xs.length=ps.length)(hb:dq sc xs ps σ=some aL):
  ex o W (n+1) sc σ (.Assign [.Tuple ts c q] (.Call (.Name f q') as [] q'') p)=some (.next,aL):=by
 have e:GG W (ev o n sc σ) sc σ ts (.Call (.Name f q') as [] q'')=some aL:=(di hn).trans ((kT (by rw[hw];rfl)).trans ((di hv).trans ((di (a:=ps) rfl).trans ((if_pos hl).trans hb))));exact congrArg (cu lH) e
theorem Ct{o:cS}{n:Nat}{sc:Sc}{σ:SE}{t a:Expr}{f:Str}{q p:Pos}{v:PV}(h1:(f == ("range":Str))=false)(h2:(f == ("enumerate":Str))=false)(h3:(f == ("zip":Str))=false)(h:ev o n sc σ (.Call (.Name f q) [a] [] p)=some v):evI o (n+1) sc σ t (.Call (.Name f q) [a] [] p)=ms t v:=by
 have hk:nv sc σ (.Call (.Name f q) [a] [] p)=none:=by
  show gd (bR sc σ f && (f == ("range":Str) ||f == ("enumerate":Str) ||f == ("zip":Str))) _=none;rw[h1,h2,h3];cases bR sc σ f<;>rfl
 show gd true _=_;rw[hk];exact di h
theorem zs(l:List (Int×Int)):p5 (l.map ym)=some l:=by
 induction l with
 |nil=>rfl
 |cons p l ih=>rw[ao];exact gg (a:=p) rfl ih
noncomputable def iX(c:Nat->Nat)(T:js):List (Int×Int):=az.map (mA c T)
noncomputable def DX(c:Nat->Nat)(T:js):List Int:=(fP (iX c T)).map λi=>az.getD i 0
theorem DF(c:Nat->Nat)(T:js):(DX c T).Perm az:=by
 have h:=(lX (ps:=iX c T) rfl).map λi=>az.getD i 0;exact h
noncomputable def Mj(order:List Int):SE:=J8++[nm "order" (aU order)]
theorem L0{n:Nat}:ex o3 [] (n+60) mC (J8) (fy 23)=some (.next,Mj (DX gc gT)):=by
 conv=>lhs;arg 6;whnf
 have hsl:(fP (iX gc gT)).length=5:=(lX (ps:=iX gc gT) rfl).length_eq;have hmem:∀i∈fP (iX gc gT),i < 5:=λi hi=>eW.mp ((lX (ps:=iX gc gT) rfl).mem_iff.mp hi);have hsort:o3.bi "sorted" [.lst (az.map λv=>ym (mA gc gT v))]=some (.lst ((fP (iX gc gT)).map λi=>ym ((iX gc gT).getD i (0,0)))):=by
  show(match p5 (az.map λv=>ym (mA gc gT v)) with|some ps=>if ps.length < 64 then some (PV.lst (xZ ps)) else none|none=>none)=_;have e:(az.map λv=>ym (mA gc gT v))=(iX gc gT).map ym:=by unfold iX;rw[aj];rfl
  rw[e,zs];dsimp only;rw[if_pos (by unfold iX az;simp)];rfl
 generalize hS:fP (iX gc gT)=gS at hsl hmem hsort;have hord:DX gc gT=gS.map λi=>az.getD i 0:=by unfold DX;rw[hS]
 rw[hord];refine(ba (u:=aU (gS.map λi=>az.getD i 0)) (by rfl) ?_).trans (by kernel_rfl);refine(cJ (items:=gS.map λi=>ym ((iX gc gT).getD i (0,0))) (rs:=(gS.filter λJ=>true).map λi=>(.none,.int (az.getD i 0))) (by kernel_rfl) ?_ ?_ ?_).trans ?_
 ·refine(Ct (by rfl) (by rfl) (by rfl) (cw (by kernel_rfl) (by kernel_rfl) hsort)).trans ?_
  exact if_pos (by rw[aa];exact id ((pn [_] 0x0D1000003902D580) hsl))
 ·refine cN (λJ=>true) (λi=>.int (az.getD i 0)) (λi=>ym ((iX gc gT).getD i (0,0))) 30 (by kernel_rfl) gS _ ?_ ?_
  ·exact id ((pn [_,_] 0x0DA3A191A18A01E192D580) hsl)
  ·intro i m hi
   have hi:=hmem i hi;refine⟨[nm "ways" (aU [jO gc 1,jO gc 2,jO gc 4]),nm "key" (ym ((iX gc gT).getD i (0,0)))],by kernel_rfl,by rfl,λJ=>?_⟩;have ek:(iX gc gT).getD i (0,0)=mA gc gT (az.getD i 0):=by
    rcases(show i=0\/i=1\/i=2\/i=3\/i=4 by exact id ((pn [_] 0x1F1F1F1F2D4802D3802D2802D1802D0801D580) hi)) with rfl|rfl|rfl|rfl|rfl<;>rfl
   rw[ek];refine aV (a:=.int (jO gc 2)) (b:=.int (jO gc 2 * az.getD i 0)) (by rfl) (by rfl) ?_;rw[vC (l6 gc 2)];rcases l6 gc 2 with h|h<;>rw[h]<;>congr 2<;>lia
 ·rw[aa];have:=aJ (λ(_:Nat)=>true) gS;exact id ((pn [_,_] 0x0D1000003910D012D580) hsl this)
 ·rw[bu.mpr (λJ J=>rfl),aj]
  show some (PV.lst _)=some (PV.lst ((gS.map _).map _));rw[aj];rfl
noncomputable def JT(k:Nat):List Nat:=[[32],[9],[32,32],[32,9]].getD k []
noncomputable def wf(c:Nat->Nat)(v:Int):List Nat:=JT (c 4 / 8 / 4 ^ (if v=0 then 0 else(v - 255).toNat) % 4)
noncomputable def pu(c:Nat->Nat):List (Int×Str):=az.map λv=>(v,sl (wf c v))
theorem zI(k:Nat)(h:k < 4):JT k≠[]/\(JT k).length<=2/\∀x∈JT k,x=32\/x=9:=by
 rcases(show k=0\/k=1\/k=2\/k=3 by exact id ((pn [_] 0x1F1F1F2D3802D2802D1802D0801D480) h)) with rfl|rfl|rfl|rfl<;>decide
end
end Mine
end
section
namespace Mine
noncomputable section
theorem D5(st:WS)(x ts:Nat)(hx:x=32\/x=9)(h:1<=ts):e7 st ts < e7 (bt [x] st) ts:=by
 obtain⟨count,b,n,nt⟩:=st;rcases hx with rfl|rfl
 ·show e7 (count,b,n,nt) ts < e7 (count,b+1,n+1,nt) ts
  unfold e7;dsimp only;exact id (pn [_,_] 0x1DA1A180A10)
 ·show e7 (count,b,n,nt) ts < e7 (eg count b,0,n+1,nt+1) ts
  unfold e7;dsimp only;rw[Aj];have hdm:=Nat.div_add_mod b ts;have hm:b % ts < ts:=aY _ (by exact id ((pn [_] 0x1D0080D018) h));rw[show ts * (tJ count ts+b / ts+(nt+1))=ts * (tJ count ts+nt)+ts * (b / ts)+ts from by rw[<- Nat.mul_add,<- Nat.mul_succ];congr 1;exact id (pn [_,_,_] 0x2DA18A1A20AA182A10)];exact id ((pn [_,_,_,_,_] 0x1DAA3A0408A421D312D2A10) hdm hm)
theorem AF(ts:Nat)(h:1<=ts):∀(r:List Nat) (st:WS),(∀x∈r,x=32\/x=9)->e7 st ts<=e7 (bt r st) ts/\(r≠[]->e7 st ts < e7 (bt r st) ts)
 | [],(count,b,n,nt),_=>⟨aK _,λh=>absurd rfl h⟩
 |x::r,st,hr=>by
  have e:bt (x::r) st=bt r (bt [x] st):=kI [x] r st λy hy=>by rcases aA.mp hy with rfl;exact hr y ak
  have h1:=D5 st x ts (hr x ak) h;have h2:=(AF ts h r (bt [x] st) λy hy=>hr y (ah _ hy)).1;rw[e];exact⟨by exact id ((pn [_,_,_] 0x0D200D211D10) h1 h2),λJ=>by exact id ((pn [_,_,_] 0x1D200D211D10) h1 h2)⟩
theorem zk:∀(r:List Nat) (st:WS),(∀x∈r,x=32\/x=9)->st.2.2.2<=(bt r st).2.2.2
 | [],(count,b,n,nt),_=>aK _
 |x::r,(count,b,n,nt),hr=>by
  have hr':=λy hy=>hr y (ah x hy);rw[bt];rcases hr x ak with rfl|rfl
  ·rw[if_pos rfl];exact zk r (count,b+1,n+1,nt) hr'
  ·rw[if_neg (by decide),if_pos rfl];have:=zk r (eg count b,0,n+1,nt+1) hr';dsimp only at this ⊢;exact id ((pn [_,_] 0x0D100D1A180) this)
theorem Et{l r:List Nat}(hl:∀x∈l,x=32\/x=9)(hr:∀x∈r,x=32\/x=9)(h:r≠[]):g8 (lK l) (lK (l++r))=true:=by
 have e:lK (l++r)=bt r (lK l):=kI l r _ hl;have n1:=jd l ([],0,0,0) hl;have n2:=jd r (lK l) hr;have hlen:=List.length_pos_iff.mpr h;rw[e];unfold g8;rw[n2,if_neg (by exact id ((pn [_,_] 0x2F0D1A011D008) hlen))];split
 ·exact decide_eq_true (zk r _ hr)
 ·rw[bj]
  intro i _;exact decide_eq_true ((AF (2+i) (by exact id (pn [_] 0x0DA02818)) r _ hr).2 h)
theorem Gx{l m:List Nat}(hl:∀x∈l,x=32\/x=9)(hm:∀x∈m,x=32\/x=9)(h:m.length<=l.length):g8 (lK l) (lK m)=false:=by
 have n1:(lK l).2.2.1=0+l.length:=jd l ([],0,0,0) hl;have n2:(lK m).2.2.1=0+m.length:=jd m ([],0,0,0) hm;unfold g8;rw[n1,n2,if_pos (by exact id ((pn [_,_] 0x0DA108A0080D10) h))]
theorem L9{l:List Nat}(h:∀x∈l,x=32\/x=9):zx (sl l++"x")=lK l:=by
 show bt (sl l++"x").cps.toList _=_;rw[jT];show bt (l++(120::[])) _=_;rw[lD h rfl]
theorem sN:∀(l:List Nat) (st:WS),(∀x∈l,x=32\/x=9)->(bt l st).1.length<=max st.1.length (st.2.1+l.length+1)/\(bt l st).2.1<=st.2.1+l.length
 | [],(count,b,n,nt),_=>⟨Nat.le_max_left _ _,aK _⟩
 |x::l,(count,b,n,nt),hx=>by
  have hx':=λy hy=>hx y (ah x hy);rw[bt];rcases hx x ak with rfl|rfl
  ·rw[if_pos rfl]
   have:=sN l (count,b+1,n+1,nt) hx'
   dsimp only at this ⊢;rw[am];exact id ((pn [_,_,_,_,_] 0x0F0DAA183240D1CA18AA1832100F0DA3A18240D1CA18A3A18210) this)
  ·rw[if_neg (by decide),if_pos rfl]
   have:=sN l (eg count b,0,n+1,nt+1) hx'
   dsimp only at this ⊢;rw[dR]at this;rw[am];exact id ((pn [_,_,_,_,_] 0x0F0DAA183240D1CA18AA1832100F0DA30840D1CA18A3081CA18210) this)
theorem KH{l:List Nat}(hl:∀x∈l,x=32\/x=9)(hlen:l.length<=12):GV (lK l):=by
 have h:=sN l ([],0,0,0) hl;dsimp only[ce]at h;exact⟨by show(bt l ([],0,0,0)).1.length<=20;exact id ((pn [_,_,_] 0x0D141910F0DA00820D1CA18A0080810DC80) hlen h),by show(bt l ([],0,0,0)).2.1<=20;exact id ((pn [_,_,_] 0x0D141920F0DA00820D1CA18A0080810DC80) hlen h)⟩
theorem DZ{q A:List Nat}{i:Nat}(h:q=A++[i]):((-1:Int)::q.map λ(l:Nat)=>(l:Int)).getLast (by simp)=(i:Int):=by
 subst h;rw[List.getLast_cons (by simp)];simp
theorem p0(lt:Nat->Nat->Bool):∀n,((aI n).foldl (fB lt) ([],[])).1.length=n/\(∀l,l∈((aI n).foldl (fB lt) ([],[])).2↔l < n/\∀m,l < m->m < n->lt l m=true)/\((aI n).foldl (fB lt) ([],[])).2.Pairwise (· < ·) /\
  ∀j i,j < n->i < j->(∀m,i < m->m<=j->lt i m=true)->(∀k,i < k->k < j->lt k j=false)->((aI n).foldl (fB lt) ([],[])).1[j]?=some (i:Int)
 |0=>⟨rfl,λl=>⟨λh=>(nomatch h),λh=>absurd h.1 (dH l)⟩,List.Pairwise.nil,λj i h=>absurd h (dH j)⟩
 |n+1=>by
  refine Gz (p0 lt n) ?_;intro h1 h2 h3 h4;rw[pq,c7,bc,List.foldl_nil];generalize(aI n).foldl (fB lt) ([],[])=a at h1 h2 h3 h4;obtain⟨own,pile⟩:=a;dsimp only at h1 h2 h3 h4;unfold fB;dsimp only;have hf:∀l,l∈pile.filter (λl=>lt l n)↔l < n/\∀m,l < m->m < n+1->lt l m=true:=λl=>by
   rw[aW,h2];constructor
   ·rintro⟨⟨q1,q2⟩,q3⟩
    refine⟨q1,λm hm hm2=>?_⟩;by_cases e:m=n
    ·subst e;exact q3
    ·exact q2 m hm (by exact id ((pn [_,_] 0x1D102F2D101DA1810) hm2 e))
   ·rintro⟨q1,q2⟩
    exact⟨⟨q1,λm hm hm2=>q2 m hm (by exact id ((pn [_,_] 0x1DA18101D10) hm2))⟩,q2 n q1 (by exact id (pn [_] 0x1DA1800))⟩
  have hp:=h3.filter (λl=>lt l n);refine⟨by rw[aB,h1];rfl,λl=>?_,?_,λj i hj hi hm hk=>?_⟩
  ·rw[aP,hf,aA]
   constructor
   ·rintro(⟨q1,q2⟩|rfl)
    ·exact⟨by exact id ((pn [_,_] 0x1DA18101D10) q1),q2⟩
    ·exact⟨by exact id (pn [_] 0x1DA1800),λm hm hm2=>by omega⟩
   ·rintro⟨q1,q2⟩
    by_cases e:l=n
    ·exact .inr e
    ·exact .inl ⟨by exact id ((pn [_,_] 0x1D102F2D101DA1810) q1 e),q2⟩
  ·refine List.pairwise_append.mpr ⟨hp,List.pairwise_singleton _ _,λx hx y hy=>?_⟩
   rw[aA.mp hy];exact((hf x).mp hx).1
  ·by_cases e:j=n
   ·subst e
    rw[c8 (by exact id ((pn [_,_] 0x0D102D10) h1)),h1,Nat.sub_self];have him:i∈pile.filter (λl=>lt l j):=(hf i).mpr ⟨hi,λm q1 q2=>hm m q1 (by exact id ((pn [_,_,_] 0x0D121DA18122D10) h1 q2))⟩;refine yo (List.append_of_mem him) ?_;intro A B hq;rw[hq]at hp;have hB:B=[]:=by
     cases B with
     |nil=>rfl
     |cons k B=>
      have q1:i < k:=(List.pairwise_append.mp hp).2.1 |> λh=>(List.pairwise_cons.mp h).1 k ak;refine xA ((hf k).mp (by rw[hq];simp)) ?_;intro q2 q3
      have:=hk k q1 q2
      rw[q3 j q2 (by exact id ((pn [_] 0x1DA18001DA1800) hj))]at this;cases this
    subst hB;rw[List.getElem?_cons_zero];exact congrArg some (DZ hq)
   ·rw[lS (by exact id ((pn [_,_,_] 0x1D022F2D121DA18122D10) h1 hj e))]
    exact h4 j i (by exact id ((pn [_,_] 0x1D102F2D101DA1810) hj e)) hi hm hk
section
variable{ld:Int->List Nat}{t s t' x:Int}
noncomputable def J5(ld:Int->List Nat)(x:Int):List Int->Prop
 | []=>False
 |y::L=>y=x\/(ld x <+: ld y/\J5 ld x L)
noncomputable def HK(ld:Int->List Nat)(t x:Int):List Int->Prop
 | []=>False
 |y::L=>(y=t/\J5 ld x L)\/HK ld t x L
noncomputable def m7(t s:Int):List Int->List Int
 | []=>[]
 |y::L=>if y=t then y::s::L else y::m7 t s L
theorem z8(h:ld t <+: ld s):∀{L:List Int},J5 ld x L->J5 ld x (m7 t s L)
 | [],q=>q
 |y::L,q=>by
  unfold m7;by_cases e:y=t
  ·rw[if_pos e]
   rcases q with q|⟨q1,q2⟩
   ·exact .inl q
   ·exact .inr ⟨q1,.inr ⟨q1.trans (e▸h),q2⟩⟩
  ·rw[if_neg e]
   rcases q with q|⟨q1,q2⟩
   ·exact .inl q
   ·exact .inr ⟨q1,z8 h q2⟩
theorem A5(h:ld t <+: ld s)(hx:t'=t->ld x=ld s):∀{L:List Int},HK ld t' x L->HK ld t' x (m7 t s L)
 | [],q=>q
 |y::L,q=>by
  unfold m7;by_cases e:y=t
  ·rw[if_pos e]
   rcases q with⟨q1,q2⟩|q
   ·exact .inl ⟨q1,.inr ⟨by rw[hx (q1.symm.trans e)];exact List.prefix_refl _,q2⟩⟩
   ·exact .inr (.inr q)
  ·rw[if_neg e]
   rcases q with⟨q1,q2⟩|q
   ·exact .inl ⟨q1,z8 h q2⟩
   ·exact .inr (A5 h hx q)
theorem AG:∀{L:List Int},t∈L->HK ld t s (m7 t s L)
 |y::L,h=>by
  unfold m7;by_cases e:y=t
  ·rw[if_pos e];exact .inl ⟨e,.inl rfl⟩
  ·rw[if_neg e];exact .inr (AG ((ai.mp h).resolve_left λq=>e q.symm))
theorem wz:∀{L:List Int},t∈L->(m7 t s L).Perm (s::L)
 |y::L,h=>by
  unfold m7;by_cases e:y=t
  ·rw[if_pos e];exact List.Perm.swap _ _ _
  ·rw[if_neg e];exact((wz ((ai.mp h).resolve_left λq=>e q.symm)).cons y).trans (List.Perm.swap _ _ _)
theorem Fi:∀{L:List Int},t∈L->m7 t s L=L.take (L.findIdx (· == t)+1)++[s]++L.drop (L.findIdx (· == t)+1)
 |y::L,h=>by
  unfold m7;rw[mL];by_cases e:y=t
  ·rw[if_pos e,beq_iff_eq.mpr e];rfl
  ·rw[if_neg e,beq_eq_false_iff_ne.mpr e,Fi ((ai.mp h).resolve_left λq=>e q.symm)];rfl
theorem DC:∀{L:List Int}{r:Int},L.head?=some r->(m7 t s L).head?=some r
 |y::L,r,h=>by
  unfold m7;split<;>exact h
theorem uD:∀{L:List Int},J5 ld x L->∃M R,L=M++x::R/\∀y∈M,ld x <+: ld y
 |y::L,h=>by
  by_cases e:y=x
  ·exact⟨[],L,by rw[e];rfl,λJ q=>nomatch q⟩
  ·refine xA (h.resolve_left e) ?_;intro q1 q2
   refine fL (uD q2) ?_;rintro M R rfl hM;exact⟨y::M,R,rfl,λz hz=>(ai.mp hz).elim (λe=>e▸q1) (hM z)⟩
theorem t8:∀{L:List Int},HK ld t x L->∃A M R,L=A++t::(M++x::R)/\∀y∈M,ld x <+: ld y
 |y::L,h=>by
  rcases h with⟨rfl,q⟩|q
  ·refine fL (uD q) ?_;rintro M R rfl hM
   exact⟨[],M,R,rfl,hM⟩
  ·refine l9 (t8 q) ?_;rintro A M R rfl hM
   exact⟨y::A,M,R,rfl,hM⟩
end
end
end Mine
end
section
namespace Mine
noncomputable section
structure BY(pc:Int->List Nat):Prop where
 ne:∀v,pc v≠[]
 le:∀v,(pc v).length<=2
 bl:∀v,∀x∈pc v,x=32\/x=9
theorem EY(c:Nat->Nat):BY (wf c):=
 ⟨λv=>(zI _ (aY _ (by exact id (pn [] 0x1D4808)))).1,λv=>(zI _ (aY _ (by exact id (pn [] 0x1D4808)))).2.1,λv=>(zI _ (aY _ (by exact id (pn [] 0x1D4808)))).2.2⟩
theorem AI(c:Nat->Nat){v:Int}(hv:v∈az):kE (pu c) v=some (sl (wf c v)):=by
 simp only[az,ai,aM,or_false]at hv;rcases hv with rfl|rfl|rfl|rfl|rfl<;>rfl
noncomputable def jw(rd:Int->List Int)(pc:Int->List Nat)(x:Int):List Nat:=(rd x).tail.reverse.flatMap pc
noncomputable def mo(par:Int->Int)(r:Int)(rest:List Int):List Int:=rest.foldl (λL x=>m7 (par x) x L) [r]
noncomputable def gL(rd:Int->List Int)(pc:Int->List Nat)(n:Int):Int×Str:=(n,sl (jw rd pc n))
section
variable{F:mm->Int}{r:Int}{rest:List Int}{par fl:Int->Int}{rd:Int->List Int}{pc:Int->List Nat}
structure Up(r:Int)(rest:List Int)(par:Int->Int)(rd:Int->List Int):Prop where
 up:∀j x,rest[j]?=some x->par x∈(r::rest).take (j+1)/\rd x=x::rd (par x)
 root:rd r=[r]
 nd:(r::rest).Nodup
theorem TI.toUp(h:TI F r rest 4 par fl rd)(hl:rest.length=4)(nd:(r::rest).Nodup):Up r rest par rd:=
 ⟨λj x hx=>h.up j x hx (by
  refine xE (au.mp hx) ?_;intro h1 _;exact id ((pn [_,_] 0x1D4811D012D480) hl h1)),h.root,nd⟩
theorem Up.at(u:Up r rest par rd){x:Int}(hx:x∈rest):par x∈r::rest/\rd x=x::rd (par x):=by
 refine xE (gq hx) ?_;intro j hj;refine xA (u.up j x hj) ?_;intro h1 h2;exact⟨bQ h1,h2⟩
theorem Up.head(u:Up r rest par rd){x:Int}(hx:x∈r::rest):∃tl,rd x=x::tl:=by
 rcases ai.mp hx with rfl|hx
 ·exact⟨[],u.root⟩
 ·exact⟨_,(u.at hx).2⟩
theorem Up.ld(u:Up r rest par rd)(pc:Int->List Nat){x:Int}(hx:x∈rest):jw rd pc x=jw rd pc (par x)++pc (par x):=by
 refine xA (u.at hx) ?_;intro h1 h2;refine xE (u.head h1) ?_;intro tl h3;unfold jw;rw[h2,h3,List.tail_cons,List.tail_cons,mJ,List.flatMap_append,List.flatMap_singleton]
theorem Up.ld0(u:Up r rest par rd)(pc:Int->List Nat):jw rd pc r=[]:=by unfold jw;rw[u.root];rfl
theorem tW(po:BY pc)(x:Int):∀b∈jw rd pc x,b=32\/b=9:=λb hb=>by
 refine bC (nJ.mp hb) ?_;intro v _ h;exact po.bl v b h
theorem Up.len(u:Up r rest par rd)(po:BY pc):∀(n k:Nat) (x:Int),k < n->(r::rest)[k]?=some x->(jw rd pc x).length<=2 * k
 |0,k,x,h,_=>absurd h (dH k)
 |n+1,0,x,_,hx=>by
  have:r=x:=Option.some.inj hx
  rw[<- this,u.ld0 pc];exact aK _
 |n+1,k+1,x,h,hx=>by
  have hx:rest[k]?=some x:=hx;have hm:=aQ hx;refine xA (u.up k x hx) ?_;intro h1 _;refine xE (gq h1) ?_;intro i hi;have hik:i < k+1:=by
   refine xE (au.mp hi) ?_;intro q _;rw[bK]at q;exact id ((pn [_,_,_,_] 0x1DA18201D0C3A18201D10) ‹_› q)
  rw[m0 hik]at hi
  have:=u.len po n i (par x) (by exact id ((pn [_,_,_] 0x1D121DA18021DA181A180) h hik)) hi
  have:=po.le (par x)
  rw[u.ld pc hm,aB];exact id ((pn [_,_,_,_] 0x0D4CA18128A320D2830D4C02821DA1810) hik ‹_› this)
theorem Up.ins(u:Up r rest par rd)(pc:Int->List Nat):∀i,i<=rest.length->(mo par r (rest.take i)).Perm ((r::rest).take (i+1))/\(mo par r (rest.take i)).head?=some r/\∀x∈rest.take i,HK (jw rd pc) (par x) x (mo par r (rest.take i))
 |0,_=>⟨by rw[lP,gY,lP];exact List.Perm.refl _,rfl,λx hx=>absurd hx (by rw[lP];exact aM)⟩
 |i+1,h=>by
  refine iQ (u.ins pc i (by exact id ((pn [_,_] 0x0D100D1A180) h))) ?_;intro h1 h2 h3;have hi:rest[i]?=some rest[i]:=ax h;have hm:rest[i]∈rest:=eX h;generalize rest[i]=s at hi hm;have ht:par s∈mo par r (rest.take i):=h1.mem_iff.mpr (u.up i s hi).1;have e:rest.take (i+1)=rest.take i++[s]:=by rw[eY,hi];rfl
  have e2:mo par r (rest.take (i+1))=m7 (par s) s (mo par r (rest.take i)):=by
   unfold mo;rw[e,c7];rfl
  have hpre:jw rd pc (par s) <+: jw rd pc s:=by rw[u.ld pc hm];exact List.prefix_append _ _
  rw[e2];refine⟨((wz ht).trans (h1.cons s)).trans ?_,DC h2,λx hx=>?_⟩
  ·rw[show(r::rest).take (i+1+1)=(r::rest).take (i+1)++[s] from by rw[eY,b0,hi];rfl]
   exact(List.perm_append_singleton s _).symm
  ·rw[e]at hx
   rcases aP.mp hx with hx|hx
   ·refine A5 hpre (λq=>?_) (h3 x hx)
    rw[u.ld pc (bQ hx),u.ld pc hm,q]
   ·rw[aA.mp hx];exact AG ht
theorem Up.report(u:Up r rest par rd){c:Nat->Nat}(hN:∀x∈r::rest,x∈az):∀i,i<=rest.length->(rest.take i).foldl (wb (rest.map λn=>(n,par n)) (pu c)) [(r,"")]=(mo par r (rest.take i)).map (gL rd (wf c))
 |0,_=>by
  rw[lP];show([(r,"")]:List (Int×Str))=[(r,sl (jw rd (wf c) r))];rw[u.ld0];rfl
 |i+1,h=>by
  have ih:=u.report (c:=c) hN i (by exact id ((pn [_,_] 0x0D100D1A180) h));have h1:=(u.ins (wf c) i (by exact id ((pn [_,_] 0x0D100D1A180) h))).1;have hi:rest[i]?=some rest[i]:=ax h;have hm:rest[i]∈rest:=eX h;generalize rest[i]=s at hi hm;have ht:par s∈mo par r (rest.take i):=h1.mem_iff.mpr (u.up i s hi).1;have e:rest.take (i+1)=rest.take i++[s]:=by rw[eY,hi];rfl
  have e2:mo par r (rest.take (i+1))=m7 (par s) s (mo par r (rest.take i)):=by
   unfold mo;rw[e,c7];rfl
  rw[e2,e,c7,ih];generalize mo par r (rest.take i)=L at ht;have hw:(gI (rest.map λn=>(n,par n)) s).getD 0=par s:=by rw[mh par hm];rfl
  have hk:eS (L.map (gL rd (wf c))) (par s)=L.findIdx (· == par s):=by
   rw[<- xQ,aj];exact congrArg (List.findIdx (· == par s)) (iP L)
  have hp:kE (pu c) (par s)=some (sl (wf c (par s))):=AI c (hN _ (u.at hm).1);have hlt:L.findIdx (· == par s) < L.length:=List.findIdx_lt_length_of_exists ⟨_,ht,beq_self_eq_true _⟩;have hat:L[L.findIdx (· == par s)]=par s:=eq_of_beq (List.findIdx_getElem (w:=hlt));have hd:((L.map (gL rd (wf c))).getD (L.findIdx (· == par s)) default).2=sl (jw rd (wf c) (par s)):=by
   rw[aw,aS,ax hlt,hat];rfl
  show wb _ _ _ s=_;unfold wb;dsimp only;rw[hw,hk,hp,hd,Fi ht,aT,aT,List.map_take,List.map_drop];show _++[(s,sl (jw rd (wf c) (par s))++sl (wf c (par s)))]++_=_++[(s,sl (jw rd (wf c) s))]++_;rw[oj,<- u.ld (wf c) hm]
noncomputable def wl(rd:Int->List Int)(pc:Int->List Nat)(L:List Int):List (Str×WS):=L.map λn=>(sl (jw rd pc n)++"x",lK (jw rd pc n))
theorem Up.read(u:Up r rest par rd)(po:BY pc){L:List Int}(hp:L.Perm (r::rest))(hb:∀x∈rest,HK (jw rd pc) (par x) x L){j:Nat}{x:Int}(hj:L[j]?=some x)(hx:x∈rest):
  ∃i:Nat,(gO (fK (wl rd pc L)) L.length)[j]?=some (i:Int)/\L[i]?=some (par x):=by
 refine l9 (t8 (hb x hx)) ?_;intro A M R e hM;have hjj:j=A.length+1+M.length:=by
  have h1:L[A.length+1+M.length]?=some x:=by
   rw[e,c8 (by exact id (pn [_,_] 0x0DA1A1800)),show A.length+1+M.length - A.length=M.length+1 from by exact id (pn [_,_] 0x2DA181B0A1A180),b0,c8 (aK _),Nat.sub_self];rfl
  refine xE (au.mp hj) ?_;intro q1 q2;exact(List.getElem?_inj q1 (hp.nodup_iff.mpr u.nd)).mp (hj.trans h1.symm)
 have hjl:j < L.length:=(au.mp hj).1;have hi:L[A.length]?=some (par x):=by rw[e,c8 (aK _),Nat.sub_self];rfl
 have hld:=u.ld pc hx;have lt_at:∀{a b:Nat}{y z:Int},L[a]?=some y->L[b]?=some z->fK (wl rd pc L) a b=g8 (lK (jw rd pc y)) (lK (jw rd pc z)):=λ{a b y z} ha hb=>by
  have g:∀{a:Nat}{y:Int},L[a]?=some y->((wl rd pc L).getD a default).2=lK (jw rd pc y):=λ{a y} h=>by
   unfold wl;rw[aw,aS,h];rfl
  unfold fK;rw[g ha,g hb]
 have mid:∀k,A.length < k->k < j->∃y,L[k]?=some y/\jw rd pc x <+: jw rd pc y:=λk h1 h2=>by
  obtain⟨d,rfl⟩:∃d,k=A.length+(d+1):=⟨k - A.length - 1,by exact id ((pn [_,_] 0x2DAA18B18B01011D10) h1)⟩;have h3:d < M.length:=by exact id ((pn [_,_,_,_] 0x1D231D0AA18312DA2A1810) hjj h2)
  refine⟨M[d],?_,hM _ (eX h3)⟩;rw[e,c8 (by exact id ((pn [_,_] 0x0DAA181001DAA18100) h1)),Nat.add_sub_cancel_left,b0,lS h3,ax h3]
 have far:∀{y:Int},jw rd pc x <+: jw rd pc y->g8 (lK (jw rd pc (par x))) (lK (jw rd pc y))=true:=λ{y} h=>by
  refine xE h ?_;clear h;intro r' hr';have hy:=tW (rd:=rd) po y;rw[hld,bk]at hr';rw[<- hr']at hy ⊢;exact Et (tW po _) (λb hb=>hy b (jM _ hb)) λe=>po.ne (par x) (List.append_eq_nil_iff.mp e).1
 refine⟨A.length,(p0 (fK (wl rd pc L)) L.length).2.2.2 j A.length hjl (by exact id ((pn [_,_,_] 0x1D012DA2A1810) hjj)) (λm h1 h2=>?_) (λk h1 h2=>?_),hi⟩
 ·by_cases em:m=j
  ·rw[em,lt_at hi hj];exact far (List.prefix_refl _)
  ·refine bC (mid m h1 (by exact id ((pn [_,_,_,_] 0x1D032F2D030D032DA2A1810) hjj h2 em))) ?_;intro y hy hpre
   rw[lt_at hi hy];exact far hpre
 ·refine bC (mid k h1 h2) ?_;intro y hy hpre
  rw[lt_at hy hj];exact Gx (tW po _) (tW po _) hpre.length_le
end
end
end Mine
end
section
namespace Mine
noncomputable section
noncomputable def wt(S:mm)(x:lk):Int:=((S x.1 != S x.2.1).toNat:Int) * x.2.2
noncomputable def FC(cs:List lk)(S:mm):Int:=(cs.map (wt S)).sum
theorem mT(x:lk)(cs:List lk)(S:mm):FC (x::cs) S=wt S x+FC cs S:=by unfold FC;rw[ao,cg]
theorem ED:∀a b c d:Bool,((a && c) != (b && d)).toNat+((a ||c) != (b ||d)).toNat<=(a != b).toNat+(c != d).toNat:=by decide
theorem CY:∀a b:Bool,((!a) != (!b))=(a != b):=by decide
theorem Iu(A B:mm){x:lk}(h:0<=x.2.2):wt (λn=>A n && B n) x+wt (λn=>A n ||B n) x<=wt A x+wt B x:=by
 unfold wt;dsimp only;rw[<- Int.add_mul,<- Int.add_mul];exact Int.mul_le_mul_of_nonneg_right (by have:=ED (A x.1) (A x.2.1) (B x.1) (B x.2.1);exact id ((pn [_,_,_,_] 0x0EA2C32C2A2C12C00DA32A10) this)) h
theorem E1{N:List Int}:∀{cs:List lk},(∀x∈cs,x.1∈N/\x.2.1∈N/\0<=x.2.2)->nB (FC cs) N
 | [],_=>⟨λJ J J=>rfl,λJ=>rfl,λJ J=>iO _⟩
 |x::cs,h=>by
  have ih:=E1 λy hy=>h y (ah x hy);refine iQ (h x ak) ?_;intro h1 h2 h3;refine⟨λA B e=>?_,λA=>?_,λA B=>?_⟩
  ·rw[mT,mT,ih.ext A B e];unfold wt;rw[e _ h1,e _ h2]
  ·rw[mT,mT,ih.sym A]
   refine congrArg (·+FC cs A) ?_;show(((!A x.1) != (!A x.2.1)).toNat:Int) * x.2.2=_;rw[CY];rfl
  ·have h4:=ih.sub A B
   have h5:=Iu A B h3;have e:=λS=>mT x cs S;rw[e,e,e,e];exact id ((pz [] [_,_,_,_,_,_,_,_] 0x0EAA37A26AA15A040EA76A540EA32A10) h4 h5)
theorem Cc(S:mm)(cs:List lk):((cs.filter λx=>S x.1 != S x.2.1).map (·.2.2)).sum=FC cs S:=by
 induction cs with
 |nil=>rfl
 |cons x cs ih=>
  rw[mT,<- ih,dl];unfold wt
  cases S x.1 != S x.2.1 with
  |true=>rw[if_pos rfl,ao,cg];exact congrArg (·+_) (iN _).symm
  |false=>rw[if_neg av];exact(bF _).symm.trans (congrArg (·+_) (i0 _).symm)
theorem CB(A a O b:Int)(f:Int->Bool):ct ((iK A a O b).filter λp=>f p.1)=((f A).toNat:Int) * a+((f O).toNat:Int) * b:=by
 rw[li];by_cases h:O=A
 ·subst h
  rw[if_pos rfl,dl,pr];dsimp only
  cases f O<;>simp[ct]
 ·rw[if_neg h,dl,dl,pr]
  dsimp only
  cases f A<;>cases f O<;>simp[ct]
theorem GJ(A a O b:Nat->Int)(s:List Int):mv (iS A a O b) s=FC (pZ A a O b) (bo s):=by
 unfold mv DP;rw[ze (λv=>jP (iS A a O b) s v)];have hk:(iS A a O b).map (·.1)=[0,256,257,258,259]:=by rfl
 have e:∀i:Nat,i < 4->ct (jP (iS A a O b) s (256+(i:Int)))=wt (bo s) (256+(i:Int),A i,a i)+wt (bo s) (256+(i:Int),O i,b i):=λi hi=>by
  have hr:kE (iS A a O b) (256+(i:Int))=some (iK (A i) (a i) (O i) (b i)):=by
   rcases(show i=0\/i=1\/i=2\/i=3 by exact id ((pn [_] 0x1F1F1F2D3802D2802D1802D0801D480) hi)) with rfl|rfl|rfl|rfl<;>rfl
  unfold jP;rw[hr];refine(CB (A i) (a i) (O i) (b i) λk=>bo s k != bo s (256+(i:Int))).trans ?_;unfold wt;rw[bne_comm (a:=bo s (A i)),bne_comm (a:=bo s (O i))]
 have e0:ct (jP (iS A a O b) s 0)=0:=by rfl
 have e1:=e 0 (by exact id (pn [] 0x1D4808));have e2:=e 1 (by exact id (pn [] 0x1D4818));have e3:=e 2 (by exact id (pn [] 0x1D4828));have e4:=e 3 (by exact id (pn [] 0x1D4838));have ec:FC (pZ A a O b) (bo s)=(wt (bo s) (256+((0:Nat):Int),A 0,a 0)+(wt (bo s) (256+((1:Nat):Int),A 1,a 1)+(wt (bo s) (256+((2:Nat):Int),A 2,a 2)+(wt (bo s) (256+((3:Nat):Int),A 3,a 3)+(wt (bo s) (256+((0:Nat):Int),O 0,b 0)+(wt (bo s) (256+((1:Nat):Int),O 1,b 1)+(wt (bo s) (256+((2:Nat):Int),O 2,b 2)+(wt (bo s) (256+((3:Nat):Int),O 3,b 3)+0)))))))):=by rfl
 rw[hk,ec];show ct (jP _ s 0)+(ct (jP _ s (256+((0:Nat):Int)))+(ct (jP _ s (256+((1:Nat):Int)))+(ct (jP _ s (256+((2:Nat):Int)))+(ct (jP _ s (256+((3:Nat):Int)))+0))))=_;rw[e0,e1,e2,e3,e4];exact id (pz [] [_,_,_,_,_,_,_,_] 0x2EAAAAAAAA0875316420AAAAA08A76A54A32A1008)
theorem uF:∀(l:List Int) (i:Int),dX i l∈i::l/\∀x∈i::l,dX i l<=x
 | [],i=>⟨ak,λx hx=>by rw[aA.mp hx];exact iO _⟩
 |j::l,i=>by
  have h3:(if j < i then j else i)<=i/\(if j < i then j else i)<=j/\((if j < i then j else i)=i\/(if j < i then j else i)=j):=by split<;>omega
  rw[dX];generalize(if j < i then j else i)=m at h3;refine iQ h3 ?_;clear h3;intro h4 h5 h6;refine xA (uF l m) ?_;intro h1 h2;have hm:=h2 m ak;refine⟨?_,λx hx=>?_⟩
  ·rcases ai.mp h1 with e|h
   ·rw[e];rcases h6 with e|e<;>rw[e]<;>simp
   ·exact ah _ (ah _ h)
  ·rcases ai.mp hx with rfl|hx
   ·exact ja hm h4
   ·rcases ai.mp hx with rfl|hx
    ·exact ja hm h5
    ·exact h2 x (ah _ hx)
theorem CZ{l:List Int}{v:Int}(hv:v∈l)(hm:∀x∈l,v<=x)(hl:l.length<=1000):o3.bi "min" [aU l]=some (.int v):=by
 cases l with
 |nil=>cases hv
 |cons i l=>
  refine xA (uF l i) ?_;intro h1 h2;have e:dX i l=v:=Int.le_antisymm (h2 v hv) (hm _ h1);show(iV ((i::l).map .int)).bind _=_;rw[nO,<- e];exact if_pos (by rw[am]at hl;exact id ((pn [_] 0x1D1000003900D03E829A180) hl))
section
variable{F:mm->Int}{r:Int}{rest:List Int}{par fl:Int->Int}{rd:Int->List Int}
noncomputable def Lf(own:ID):Nat->List Int->List Int
 |0,p=>p
 |j+1,p=>Lf own j (fA own p)
theorem EJ{f:Int->Int}{l:List Int}{j:Int}(h:j ∉ l):gI (l.map λv=>(v,f v)) j=none:=by
 cases e:gI (l.map λv=>(v,f v)) j with
 |none=>rfl
 |some v=>
  refine bC (aG.mp (jU e)) ?_;intro n hn e2;have e3:n=j:=congrArg Prod.fst e2;exact absurd (e3▸hn) h
theorem Up.road(u:Up r rest par rd):∀(n k:Nat) (x:Int),k < n->(r::rest)[k]?=some x->r∈rd x/\∀j p,k<=j->Lf (rest.map λn=>(n,par n)) j (p++[x])=p++rd x
 |0,k,x,h,_=>absurd h (dH k)
 |n+1,0,x,_,hx=>by
  have e:r=x:=Option.some.inj hx;subst e;rw[u.root];refine⟨ak,λj=>?_⟩
  induction j with
  |zero=>exact λp J=>rfl
  |succ j ih=>
   intro p _
   have:fA (rest.map λn=>(n,par n)) (p++[r])=p++[r]:=by
    unfold fA;rw[ee,qx,eU,EJ (bH.mp u.nd).1]
   show Lf _ j (fA _ (p++[r]))=_;rw[this];exact ih p (bz _)
 |n+1,k+1,x,h,hx=>by
  have hx:rest[k]?=some x:=hx;have hm:=aQ hx;refine xA (u.up k x hx) ?_;intro h1 h2;refine xE (gq h1) ?_;intro i hi;have hik:i < k+1:=by
   refine xE (au.mp hi) ?_;intro q _;rw[bK]at q;exact id ((pn [_,_,_,_] 0x1DA18201D0C3A18201D10) ‹_› q)
  rw[m0 hik]at hi;refine xA (u.road n i (par x) (by exact id ((pn [_,_,_] 0x1D121DA18021DA181A180) h hik)) hi) ?_;intro g1 g2;rw[h2];refine⟨ah _ g1,λj p hj=>?_⟩;obtain⟨j,rfl⟩:∃j',j=j'+1:=⟨j - 1,by exact id ((pn [_,_] 0x2DA18B18110D1A180) hj)⟩
  have:fA (rest.map λn=>(n,par n)) (p++[x])=(p++[x])++[par x]:=by
   unfold fA;rw[ee,qx,eU,mh par hm]
  show Lf _ j (fA _ (p++[x]))=_;rw[this,g2 j (p++[x]) (by exact id ((pn [_,_,_] 0x0D200DA182A1811DA1810) hik hj)),bk];rfl
theorem Up.roadF(u:Up r rest par rd)(hl:rest.length=4){x:Int}(hx:x∈r::rest):roadF (rest.map λn=>(n,par n)) x=rd x/\r∈rd x:=by
 refine xE (gq hx) ?_;intro k hk;have hk5:k < 5:=by
  refine xE (au.mp hk) ?_;intro q _;rw[am]at q;exact id ((pn [_,_,_] 0x1D5811DA18011D212D480) hl ‹_› q)
 refine xA (u.road 5 k x hk5 hk) ?_;intro h1 h2;exact⟨h2 4 [] (by exact id ((pn [_] 0x0D4801D580) hk5)),h1⟩
noncomputable def fQ:List (List Int):=[1,2,3,4,5,6,7,8,9,10,11,12,13,14,15].map λk=>pK k [256,257,258,259] 0
theorem BA{S:mm}(h0:S 0=false)(h1:∃n∈az,S n=true):∃s∈fQ,∀n∈az,bo s n=S n:=by
 refine bC (uR S [256,257,258,259]) ?_;intro k hk e;have e:=e k 0 (by rw[Nat.pow_zero,Nat.div_one]);have hm:∀n∈az,bo (pK k [256,257,258,259] 0) n=S n:=λn hn=>by
  rw[e];rcases ai.mp hn with rfl|hn
  ·rw[h0];exact eI λq=>absurd (aW.mp q).1 (by decide)
  ·cases e3:S n with
   |true=>exact kF.mpr (aW.mpr ⟨hn,e3⟩)
   |false=>exact eI λq=>by rw[(aW.mp q).2]at e3;cases e3
 refine⟨_,aG.mpr ⟨k,?_,rfl⟩,hm⟩;have hk0:k≠0:=λe0=>by
  refine bC h1 ?_;clear h1;intro n hn h;rw[<- hm n hn,e0]at h
  have:pK 0 [256,257,258,259] 0=[]:=by rfl
  rw[this]at h;cases h
 exact(show k∈List.range' 1 15 from List.mem_range'_1.mpr ⟨Nat.pos_of_ne_zero hk0,hk⟩)
noncomputable def Gc(rd:Int->List Int)(fl:Int->Int)(x y:Int):List Int:=((rd x++rd y).filter (sd (rd x) (rd y))).map fl
noncomputable def HR(F:mm->Int)(x y:Int):List Int:=(fQ.filter λs=>bo s x != bo s y).map λs=>F (bo s)
theorem BP(c:nB F az)(hN:∀n,n∈r::rest↔n∈az)(hl:rest.length=4)(ti:TI F r rest 4 par fl rd){x y:Int}(hx:x∈az)(hy:y∈az)(hxy:x≠y):
  ∃v,(v∈Gc rd fl x y/\∀q∈Gc rd fl x y,v<=q)/\(v∈HR F x y/\∀q∈HR F x y,v<=q):=by
 have ht:(r::rest).take (4+1)=r::rest:=dM (by rw[am];exact id ((pn [_] 0x0DA1848A1802D480) hl));refine zB (ti.gh.two x (by rw[ht];exact(hN x).mpr hx) y (by rw[ht];exact(hN y).mpr hy) hxy) ?_;rintro Z ⟨z1,z2⟩ _ z4 ⟨w,z5,z6⟩ z7;refine⟨F Z,⟨?_,λq hq=>?_⟩,?_,λq hq=>?_⟩
 ·refine aG.mpr ⟨w,aW.mpr ⟨?_,z5⟩,z6⟩
  by_cases e:w∈rd x
  ·exact du _ e
  ·by_cases e2:w∈rd y
   ·exact jM _ e2
   ·unfold sd at z5;rw[eI e,eI e2]at z5;cases z5
 ·refine bC (aG.mp hq) ?_;rintro n hn rfl
  exact z7 n (aW.mp hn).2
 ·have go:∀S:mm,S 0=false->S x≠S y->F S=F Z->F Z∈HR F x y:=λS h0 hS e=>by
   obtain⟨s,hs,hm⟩:=BA h0 (by
    cases e1:S x with
    |true=>exact⟨x,hx,e1⟩
    |false=>exact⟨y,hy,by
      cases e2:S y with
      |true=>rfl
      |false=>exact absurd (e1.trans e2.symm) hS⟩)
   refine aG.mpr ⟨s,aW.mpr ⟨hs,?_⟩,(c.ext _ _ hm).trans e⟩;rw[hm x hx,hm y hy];exact bne_iff_ne.mpr hS
  cases e:Z 0 with
  |false=>exact go Z e (by rw[z1,z2];decide) rfl
  |true=>exact go (λn=>!Z n) (by rw[e];rfl) (by rw[z1,z2];decide) (c.sym Z)
 ·refine bC (aG.mp hq) ?_;rintro s hs rfl
  exact z4 _ (bne_iff_ne.mp (aW.mp hs).2)
end
end
end Mine
end
section
namespace Mine
noncomputable section
noncomputable def LR(order:List Int)(Ow Fw:PV):SE:=Mj order++[nm "owners" Ow,nm "fewest" Fw]
noncomputable def LW(order:List Int)(Ow Fw:PV):SE:=LR order Ow Fw++[nm "pieces" (za (pu gc))]
noncomputable def Lr(order:List Int)(Ow Fw R:PV):SE:=LW order Ow Fw++[nm "report" R]
noncomputable def F1(order:List Int)(Ow Fw R H:PV):SE:=Lr order Ow Fw R++[nm "read" H]
section
variable{j:Nat->PV}{c:Nat->Nat}{cs:List lk}{T:js}{order:List Int}{Ow Fw R H:PV}{n:Nat}
theorem LK(h:o3.fn "_law_tree" [dQ gT,aU order,.int (jO gc 4)]=some (.tup [Ow,Fw])):ex o3 [] (n+60) mC (Mj order) (fy 24)=some (.next,LR order Ow Fw):=by
 conv=>lhs;arg 6;whnf
 exact wY (xs:=["owners","fewest"]) (ps:=[Ow,Fw]) (by rfl) (by rfl) (jo (vs:=[dQ gT,aU order,.int (jO gc 4)]) (by kernel_rfl) (ar (by kernel_rfl) (ar (by kernel_rfl) (ar (by kernel_rfl) aR))) (by rfl) h) (by rfl) (by kernel_rfl)
theorem L7(ok:ta gT):ex o3 [] (n+60) mC (LR order Ow Fw) (fy 25)=some (.next,LW order Ow Fw):=by
 conv=>lhs;arg 6;whnf
 refine(ba (u:=za (pu gc)) (by rfl) ?_).trans (by kernel_rfl);refine(iy (items:=[0,1,2,3,4].map λ(i:Nat)=>.tup [.int (i:Int),.int (az.getD i 0)]) (rs:=([0,1,2,3,4].filter λJ=>true).map λ(i:Nat)=>(.int (az.getD i 0),.str (sl (JT (gc 4 / 8 / 4 ^ i % 4))))) (by kernel_rfl) ?_ ?_ (by simp)).trans (by kernel_rfl)
 ·refine(BV (l:=gT.map λp=>(p.1,aZ p.2)) (by kernel_rfl) (by rfl) (by kernel_rfl) (by rw[aa,qO ok];exact id (pn [] 0x0D1000003958))).trans ?_
  rw[aj];exact congrArg (λl=>some (iE 0 l)) (uq ok)
 ·refine fH (λJ=>true) (λi=>.str (sl (JT (gc 4 / 8 / 4 ^ i % 4)))) (λi=>.int (az.getD i 0)) (λ(i:Nat)=>.tup [.int (i:Int),.int (az.getD i 0)]) 30 (by kernel_rfl) [0,1,2,3,4] _ ?_ ?_
  ·show 30+5+1<=_
   exact id (pn [_] 0x0DA3A190A18A581E19)
  ·intro i m hi
   have hi6:i < 5:=by simp at hi;exact id ((pn [_] 0x1D5801F1F1F1F2D4802D3802D2802D1802D080) hi)
   refine⟨[nm "cells" (eK gc),nm "spot" (.int (i:Int)),nm "node" (.int (az.getD i 0))],by kernel_rfl,by rfl,λJ=>⟨?_,by rfl⟩⟩;refine bp (b:=.lst (cr [[32],[9],[32,32],[32,9]])) (k:=.int ((gc 4 / 8 / 4 ^ i % 4:Nat):Int)) (by rfl) (by rfl) ?_ (eR ?_ (by decide))
   ·refine aV (a:=.int ((gc 4 / 8 / 4 ^ i:Nat):Int)) (b:=.int ((4:Nat):Int)) ?_ (by rfl) (d9 (by exact id (pn [] 0x1D4808)))
    show ev _ _ _ _ _=_;have h4:4 ^ i < 4294967296:=Nat.lt_of_lt_of_le (Nat.pow_lt_pow_right (by exact id (pn [] 0x1D4818)) hi6) (by decide);refine aV (a:=.int ((gc 4 / 8:Nat):Int)) (b:=.int ((4 ^ i:Nat):Int)) ?_ ?_ (e8 (Nat.pow_pos (by exact id (pn [] 0x1D4808))) h4)
    ·show ev _ _ _ _ _=_
     exact aV (a:=.int (gc 4:Int)) (b:=.int ((8:Nat):Int)) (by rfl) (by rfl) (e8 (by exact id (pn [] 0x1D8808)) (by exact id (pn [] 0x1D01000000005988)))
    ·exact aV (a:=.int ((4:Nat):Int)) (b:=.int (i:Int)) (by rfl) (by rfl) (A2 i (by exact id (pn [] 0x0D4848)) (by exact id ((pn [_] 0x0D641901D580) hi6)))
   ·have hk:gc 4 / 8 / 4 ^ i % 4 < 4:=aY _ (by exact id (pn [] 0x1D4808))
    generalize gc 4 / 8 / 4 ^ i % 4=k at hk;rcases(show k=0\/k=1\/k=2\/k=3 by exact id ((pn [_] 0x1F1F1F2D3802D2802D1802D0801D480) hk)) with rfl|rfl|rfl|rfl<;>rfl
theorem L3(h:o3.fn "_law_report" [aU order,Ow,za (pu gc)]=some R):ex o3 [] (n+60) mC (LW order Ow Fw) (fy 26)=some (.next,Lr order Ow Fw R):=by
 conv=>lhs;arg 6;whnf
 refine(ba (u:=R) (by rfl) ?_).trans (by kernel_rfl);exact jo (vs:=[aU order,Ow,za (pu gc)]) (by kernel_rfl) (ar (by kernel_rfl) (ar (by kernel_rfl) (ar (by kernel_rfl) aR))) (by rfl) h
end
section
variable{j:Nat->PV}{c:Nat->Nat}{cs:List lk}{T:js}{order:List Int}{Fw H:PV}{n:Nat}{r:Int}{rest L:List Int}{par fl:Int->Int}{rd:Int->List Int}{pc:Int->List Nat}
noncomputable def vH(rd:Int->List Int)(pc:Int->List Nat)(L:List Int):PV:=tL (L.map (gL rd pc))
theorem LU{Ow:PV}(u:Up r rest par rd)(hl:rest.length=4)(po:BY pc)(hp:L.Perm (r::rest)):ex o3 [] (n+60) mC (Lr order Ow Fw (vH rd pc L)) (fy 27)=some (.next,F1 order Ow Fw (vH rd pc L) (aU (gO (fK (wl rd pc L)) L.length))):=by
 conv=>lhs;arg 6;whnf
 have h5:L.length=5:=by rw[hp.length_eq,am];exact id ((pn [_] 0x2D58A1802D480) hl)
 have hll:∀x∈L,(jw rd pc x).length<=10:=λx hx=>by
  refine xE (gq (hp.mem_iff.mp hx)) ?_;intro k hk;have hk5:k < 5:=by
   refine xE (au.mp hk) ?_;intro q _;rw[am]at q;exact id ((pn [_,_,_] 0x1D5811DA18011D212D480) hl ‹_› q)
  have:=u.len po 5 k x hk5 hk
  exact id ((pn [_,_] 0x0DA810D4C02811D580) hk5 this)
 have e:(wl rd pc L).length=L.length:=aa _;refine(ba (u:=aU (gO (fK (wl rd pc L)) L.length)) (by rfl) ?_).trans (by kernel_rfl);have hcal:=ur (sp:=wl rd pc L) (by rw[e];exact id ((pn [_] 0x0D141902D580) h5)) λp hp=>by
  refine bC (aG.mp hp) ?_;rintro x hx rfl;exact KH (tW po x) (aD (hll x hx) (by exact id (pn [] 0x0DC8A8)))
 rw[e]at hcal;have hrl:((L.map (gL rd pc)).map λp=>PV.tup [.int p.1,.str p.2]).length<=1048576:=by rw[aa,aa];exact id ((pn [_] 0x0D1000003902D580) h5)
 refine fq (v':=wc (wl rd pc L)) (v:=wc (wl rd pc L)) (by kernel_rfl) ?_ (by rfl) ?_ hcal
 all_goals
  show ev _ _ _ _ _=_;refine(cJ (items:=L.map λx=>.tup [.int x,.str (sl (jw rd pc x))]) (rs:=(L.filter λJ=>true).map λx=>(.none,lQ (sl (jw rd pc x)++"x") (lK (jw rd pc x)))) (by rfl) ?_ ?_ ?_).trans ?_
  ·refine Eq.trans (b:=if((L.map (gL rd pc)).map λp=>PV.tup [.int p.1,.str p.2]).length<=1048576 then some ((L.map (gL rd pc)).map λp=>PV.tup [.int p.1,.str p.2]) else none) (by kernel_rfl) ((if_pos hrl).trans ?_)
   rw[aj];rfl
  ·refine cN (λJ=>true) (λx=>lQ (sl (jw rd pc x)++"x") (lK (jw rd pc x))) (λx=>.tup [.int x,.str (sl (jw rd pc x))]) 30 (by kernel_rfl) L _ (by omega) ?_
   intro x m hx;have hx10:=hll x hx;refine⟨[nm "node" (.int x),nm "lead" (.str (sl (jw rd pc x)))],by kernel_rfl,by rfl,λJ=>?_⟩;have hadd:jW .Add (.str (sl (jw rd pc x))) (.str "x")=some (.str (sl (jw rd pc x)++"x")):=add_str (by rw[dZ];exact id ((pn [_] 0x0D1000003900DA80) hx10)) (by decide);have hw:=Ai (s:=sl (jw rd pc x)++"x") (by rw[Str.length_append,dZ];exact aD (Nat.add_le_add_right hx10 _) (by decide)) (by
    have h1:=(List.takeWhile_sublist (p:=gU) (l:=(sl (jw rd pc x)++"x").cps.toList)).length_le;have h2:(sl (jw rd pc x)++"x").cps.toList.length=(jw rd pc x).length+1:=by rw[jT,aB];rfl
    exact id ((pn [_,_,_] 0x0D3C1912DA18020D210DA80) hx10 h1 h2))
   rw[wN,L9 (tW po x)]at hw;exact fq (v':=.str (sl (jw rd pc x)++"x")) (v:=.str (sl (jw rd pc x)++"x")) (by rfl) (by show ev _ _ _ _ _=_;exact aV (by rfl) (by rfl) hadd) (by rfl) (aV (by rfl) (by rfl) hadd) hw
  ·rw[aa];have:=aJ (λ(_:Int)=>true) L;exact id ((pn [_,_] 0x0D1000003910D012D580) h5 this)
  ·rw[bu.mpr (λJ J=>rfl),aj]
   unfold wc wl;rw[aj];rfl
end
end
end Mine
end
section
namespace Mine
noncomputable section
section
variable{j:Nat->PV}{c:Nat->Nat}{cs:List lk}{T:js}{order:List Int}{Fw:PV}{n:Nat}{r:Int}{rest L:List Int}{par fl:Int->Int}{rd:Int->List Int}{pc:Int->List Nat}
theorem oL{l:List Int}{f:Int->Int}(h:l.Nodup):((l.map λv=>(v,f v)).map (·.1)).Nodup:=by
 rw[aj];show(l.map id).Nodup;rw[iP];exact h
theorem LZ(u:Up r rest par rd)(hl:rest.length=4)(po:BY pc)(hp:L.Perm (r::rest))(hh:L.head?=some r)(hb:∀x∈rest,HK (jw rd pc) (par x) x L):
  ex o3 [] (n+110) mC (F1 order (aZ (rest.map λn=>(n,par n))) Fw (vH rd pc L) (aU (gO (fK (wl rd pc L)) L.length))) (fy 28)=some (.next,F1 order (aZ (rest.map λn=>(n,par n))) Fw (vH rd pc L) (aU (gO (fK (wl rd pc L)) L.length))):=by
 conv=>lhs;arg 6;whnf
 have h5:L.length=5:=by rw[hp.length_eq,am];exact id ((pn [_] 0x2D58A1802D480) hl)
 have hread:=λ{gi:Nat}{x:Int}=>u.read po hp hb (j:=gi) (x:=x);have hH:(gO (fK (wl rd pc L)) L.length).length=L.length:=(p0 _ _).1;generalize gO (fK (wl rd pc L)) L.length=H at hread hH;have hrep:∀{i:Nat}{y:Int},L[i]?=some y->((L.map (gL rd pc)).map λp=>PV.tup [.int p.1,.str p.2])[i]?=some (.tup [.int y,.str (sl (jw rd pc y))]):=λ{i y} h=>by
  rw[aS,aS,h];rfl
 have hrl:((L.map (gL rd pc)).map λp=>PV.tup [.int p.1,.str p.2]).length<=1048576:=by rw[aa,aa];exact id ((pn [_] 0x0D1000003902D580) h5)
 have hHl:(H.map PV.int).length<=1048576:=by rw[aa];exact id ((pn [_,_] 0x0D1000003912D012D580) h5 hH)
 have hnd:=hp.nodup_iff.mpr u.nd;obtain⟨t,rfl⟩:∃t,L=r::t:=by
  cases L with
  |nil=>cases hh
  |cons a t=>exact⟨t,by rw[Option.some.inj hh]⟩
 have ht:t.length=4:=by rw[am]at h5;exact id ((pn [_] 0x2D4802D58A180) h5)
 have hpt:t.Perm rest:=List.Perm.cons_inv hp;refine dh (c:=false) ?_ (λh=>nomatch h) λJ=>by rfl
 refine bV (db (a:=aZ (t.map λv=>(v,par v))) (b:=aZ (rest.map λv=>(v,par v))) ?_ (by rfl) (by kernel_rfl) (n7 (y4 (oL (bH.mp hnd).2) (oL (bH.mp u.nd).2) (λx=>?_) (by rw[aa];exact id ((pn [_,_] 0x0DA6B191A4802D480) ht)))))
 ·refine(iy (items:=[0,1,2,3].map λ(i:Nat)=>.int ((i+1:Nat):Int)) (rs:=([0,1,2,3].filter λJ=>true).map λ(i:Nat)=>(.int (t.getD i 0),.int (par (t.getD i 0)))) (by kernel_rfl) (by kernel_rfl) ?_ (by simp)).trans ?_
  ·refine fH (λJ=>true) (λi=>.int (par (t.getD i 0))) (λi=>.int (t.getD i 0)) (λ(i:Nat)=>.int ((i+1:Nat):Int)) 60 (by kernel_rfl) [0,1,2,3] _ ?_ ?_
   ·show 60+4+1<=_
    exact id (pn [_] 0x0DA6A190A18A483C19)
   ·intro i m hi
    have hi4:i < 4:=by simp at hi;exact id ((pn [_] 0x1D4801F1F1F2D3802D2802D1802D080) hi)
    have hat:(r::t)[i+1]?=some (t.getD i 0):=by
     rw[b0,aw,ax (by exact id ((pn [_,_] 0x1D011D4812D480) ht hi4))];rfl
    have hm:t.getD i 0∈rest:=hpt.mem_iff.mp (aQ (i:=i) hat);refine bC (hread hat hm) ?_;intro k k1 k2;generalize t.getD i 0=x at hat k1 k2;refine⟨[nm "report" (vH rd pc (r::t)),nm "read" (aU H),nm "spot" (.int ((i+1:Nat):Int))],by kernel_rfl,by rfl,λJ=>⟨?_,?_⟩⟩
    ·refine bp (b:=.tup [.int (par x),.str (sl (jw rd pc (par x)))]) (k:=.int ((0:Nat):Int)) (by rfl) ?_ (by rfl) (by rfl)
     show ev _ _ _ _ _=_;refine bp (b:=vH rd pc (r::t)) (k:=.int (k:Int)) (by rfl) (by rfl) ?_ (eR (hrep k2) hrl);exact bp (b:=aU H) (k:=.int ((i+1:Nat):Int)) (by rfl) (by rfl) (by rfl) (eR (by rw[aS,k1];rfl) hHl)
    ·refine bp (b:=.tup [.int x,.str (sl (jw rd pc x))]) (k:=.int ((0:Nat):Int)) (by rfl) ?_ (by rfl) (by rfl)
     show ev _ _ _ _ _=_;exact bp (b:=vH rd pc (r::t)) (k:=.int ((i+1:Nat):Int)) (by rfl) (by rfl) (by rfl) (eR (hrep hat) hrl)
  ·have hnt:=(bH.mp hnd).2
   match t,ht,hnt with
   | [a,b,d,e],_,hnt=>
    exact congrArg (cu PV.dct) (dN [(a,.int (par a)),(b,.int (par b)),(d,.int (par d)),(e,.int (par e))] [] hnt)
 ·by_cases h:x∈rest
  ·rw[mh par h,mh par (hpt.mem_iff.mpr h)]
  ·rw[EJ h,EJ λq=>h (hpt.mem_iff.mp q)]
noncomputable def LJ(s:SE):SE:=s++[nm "sides" (.lst (fQ.map aU))]
noncomputable def Lh(s:SE)(F:mm->Int):SE:=LJ s++[nm "costs" (aU (fQ.map λs=>F (bo s)))]
theorem Me{Ow R H:PV}:ex o3 [] (n+110) mC (F1 order Ow Fw R H) (fy 29)=some (.next,LJ (F1 order Ow Fw R H)):=by kernel_rfl
theorem Ma{Ow R H:PV}(okc:uS gs):ex o3 [] (n+110) mC (LJ (F1 order Ow Fw R H)) (fy 30)=some (.next,Lh (F1 order Ow Fw R H) (FC gs)):=by
 conv=>lhs;arg 6;whnf
 refine(ba (u:=aU (fQ.map λs=>FC gs (bo s))) (by rfl) ?_).trans (by kernel_rfl);have hcl:(gs.map eo).length<=1048576:=by rw[aa];have:=okc.n;exact id ((pn [_] 0x0D1000003900D14190) this)
 refine(cJ (items:=fQ.map aU) (rs:=(fQ.filter λJ=>true).map λs=>(.none,.int (FC gs (bo s)))) (by rfl) (by kernel_rfl) ?_ (by rw[aa];exact aD (aJ _ _) (by decide))).trans ?_
 ·refine cN (λJ=>true) (λs=>.int (FC gs (bo s))) aU 70 (by kernel_rfl) fQ _ ?_ ?_
  ·show 70+15+1<=_
   exact id (pn [_] 0x0DA6C190A18AF84619)
  ·intro s m hs
   refine⟨[nm "calls" (.lst (gs.map eo)),nm "side" (aU s)],by kernel_rfl,by rfl,λJ=>?_⟩;have hsm:=vT okc λx=>bo s x.1 != bo s x.2.1;have hb:=vt hsm.1 hsm.2;rw[Cc]at hb;refine cw (v:=.lst (((gs.filter λx=>bo s x.1 != bo s x.2.1).map (·.2.2)).map .int)) (by rfl) ?_ hb;show ev _ _ _ _ _=_;refine(cJ (items:=gs.map eo) (rs:=(gs.filter λx=>bo s x.1 != bo s x.2.1).map λx=>(.none,.int x.2.2)) (by rfl) ?_ ?_ ?_).trans ?_
   ·exact Eq.trans (b:=if(gs.map eo).length<=1048576 then some (gs.map eo) else none) (by rfl) (if_pos hcl)
   ·refine cN (λx=>bo s x.1 != bo s x.2.1) (λx=>.int x.2.2) eo 30 (by kernel_rfl) gs _ ?_ ?_
    ·have:=okc.n;exact id ((pn [_,_] 0x0DA43191A18A01E190D14190) this)
    ·intro x k hx
     refine⟨[nm "side" (aU s),nm "called" (.int x.1),nm "one" (.int x.2.1),nm "many" (.int x.2.2)],by rfl,?_,λJ=>by rfl⟩;refine bN (bV (db (a:=.bool (bo s x.1)) (b:=.bool (bo s x.2.1)) ?_ (by rfl) ?_ ?_))
     ·exact mB (a:=.int x.1) (b:=aU s) (by rfl) (by rfl) (by rfl) (by rfl) (dW s x.1)
     ·exact mB (a:=.int x.2.1) (b:=aU s) (by rfl) (by rfl) (by rfl) (by rfl) (dW s x.2.1)
     ·cases bo s x.1<;>cases bo s x.2.1<;>rfl
   ·rw[aa]at hsm ⊢;exact hsm.1
   ·rw[aj,aj];rfl
 ·rw[bu.mpr (λJ J=>rfl),aj]
  unfold aU;rw[aj]
end
end
end Mine
end
section
namespace Mine
noncomputable section
theorem Hf{o:cS}{n:Nat}{sc:Sc}{σ:SE}{t e:Expr}{gs:List Comprehension}{scope:Scope}{p:Pos}{v:PV}(h:ev o n sc σ (.ListComp e gs scope p)=some v):evI o (n+1) sc σ t (.ListComp e gs scope p)=ms t v:=di h
theorem B0{own:ID}{n:Int}(hl:own.length<=20):o3.fn "_law_road" [aZ own,.int n]=some (aU (roadF own n)):=Dg hl
noncomputable def uT:List (Int×Int):=az.flatMap λu=>(az.filter λv=>decide (u < v)).map λv=>(u,v)
theorem zg{p:Int×Int}(h:p∈uT):p.1∈az/\p.2∈az/\p.1≠p.2:=by
 refine bC (nJ.mp h) ?_;intro u hu h;refine bC (aG.mp h) ?_;rintro v hv rfl;refine xA (aW.mp hv) ?_;intro h1 h2;exact⟨hu,h1,Int.ne_of_lt (of_decide_eq_true h2)⟩
noncomputable def GA:Option (PV×PV×PV×PV)->SE
 |none=>[]
 |some (a,b,c,d)=>[nm "one" a,nm "two" b,nm "roads" c,nm "noted" d]
section
variable{j:Nat->PV}{c:Nat->Nat}{cs:List lk}{T:js}{order:List Int}{F:mm->Int}{R H:PV}{n:Nat}{r:Int}{rest:List Int}{par fl:Int->Int}{rd:Int->List Int}
theorem L6(ok:ta gT)(cf:nB F az)(hN:∀n,n∈r::rest↔n∈az)(hl:rest.length=4)(nd:(r::rest).Nodup)(ti:TI F r rest 4 par fl rd):
  ∃l,ex o3 [] (n+110) mC (Lh (F1 order (aZ (rest.map λn=>(n,par n))) (aZ (rest.map λn=>(n,fl n))) R H) F) (fy 31)=some (.next,Lh (F1 order (aZ (rest.map λn=>(n,par n))) (aZ (rest.map λn=>(n,fl n))) R H) F++GA l):=by
 have u:=ti.toUp hl nd;have hroad:=λ{x:Int}(hx:x∈az)=>u.roadF hl ((hN x).mpr hx);have hown:(rest.map λn=>(n,par n)).length<=20:=by rw[aa];exact id ((pn [_] 0x0D141902D480) hl)
 have hfour:=λ{x y:Int}=>BP cf hN hl ti (x:=x) (y:=y);have hsub:∀{x:Int},x∈az->∀z∈rd x,z∈r::rest:=λ{x} hx z hz=>by
  have h:=ti.gh.sub x (by rw[dM (by rw[am];exact id ((pn [_] 0x0DA1848A1802D480) hl))];exact(hN x).mpr hx) z hz;exact bQ h
 have hlen:∀{x:Int},x∈az->(rd x).length<=5:=λ{x} hx=>by
  rw[<- (hroad hx).1];have hs:∀(own:ID) (p:List Int),(fA own p).length<=p.length+1:=λown p=>by
   unfold fA;split
   ·rw[aB];exact aK _
   ·exact dU _
  unfold roadF;exact aD (hs _ _) (dm (aD (hs _ _) (dm (aD (hs _ _) (dm (hs _ [x]))))))
 have hget:∀{z:Int},z∈rest->item (aZ (rest.map λn=>(n,fl n))) (.int z)=some (.int (fl z)):=λ{z} hz=>by
  show eH _ _=_;rw[eG,mh fl hz];rfl
 have hcal:∀{x:Int},x∈az->o3.fn "_law_road" [aZ (rest.map λn=>(n,par n)),.int x]=some (aU (rd x)):=λ{x} hx=>by
  rw[B0 hown,(hroad hx).1]
 generalize aZ (rest.map λn=>(n,par n))=Ow at hcal;generalize aZ (rest.map λn=>(n,fl n))=Fw at hget
 let S0:SE:=Lh (F1 order Ow Fw R H) F
 show ∃l,ex o3 [] (n+110) mC S0 _=some (.next,S0++GA l)
 conv=>arg 1;intro l;lhs;arg 6;whnf
 let tp:Int×Int->PV:=λp=>.tup [.int p.1,.int p.2]
 refine Eq.mpr (congrArg (λy=>∃l,y=some (Fl.next,S0++GA l)) (ln (items:=uT.map tp) ?_)) ?_
 ·refine(Hf (v:=.lst (uT.map tp)) ?_).trans (by rfl)
  refine(cJ (items:=az.map .int) (rs:=(az.filter λJ=>true).flatMap λu=>(az.filter λv=>decide (u < v)).map λv=>(.none,tp (u,v))) (by rfl) (mP ok (by kernel_rfl)) ?_ (by decide)).trans (by rfl);refine oR (λJ=>true) (λu=>(az.filter λv=>decide (u < v)).map λv=>(.none,tp (u,v))) .int 60 (by kernel_rfl) az _ ?_ ?_
  ·show 60+5+1<=_
   exact id (pn [_] 0x0DA6B190A18A583C19)
  ·intro u m hu
   refine⟨[nm "due" (dQ gT),nm "one" (.int u)],by kernel_rfl,by rfl,λJ=>⟨az.map .int,mP ok (by rfl),?_⟩⟩;refine cN (λv=>decide (u < v)) (λv=>tp (u,v)) .int 40 (by rfl) az _ ?_ ?_
   ·show 40+5+1<=_
    exact id (pn [_] 0x0DA3C190A18A582819)
   ·intro v q hv
    exact⟨[nm "due" (dQ gT),nm "one" (.int u),nm "two" (.int v)],by rfl,bN (by rfl),λJ=>by rfl⟩
 refine CX (P:=λy=>∃l,y=some (Fl.next,S0++GA l)) (λi σ=>∃l,σ=S0++GA l) tp 80 uT ?_ ⟨none,by rw[GA,kd]⟩ ?_ ?_
 ·show 80+10+1<=_
  exact id (pn [_] 0x0DA6D190A18AA85019)
 ·rintro i ⟨x,y⟩ σ m hi ⟨l,rfl⟩
  refine iQ (zg (aQ hi)) ?_;intro hx hy hxy;dsimp only at hx hy hxy;refine bC (hfour hx hy hxy) ?_;rintro v ⟨n1,n2⟩ ⟨c1,c2⟩;refine xA (hroad hx) ?_;intro rx rx0;refine xA (hroad hy) ?_;intro ry ry0;have lx:=hlen hx;have ly:=hlen hy
  let xy:SE:=[nm "one" (.int x),nm "two" (.int y)]
  let RR:PV:=.lst [aU (rd x),aU (rd y)]
  refine⟨S0++(match l with|none=>xy|some (_,_,a,b)=>xy++[nm "roads" a,nm "noted" b]),by cases l<;>kernel_rfl,?_⟩
  let PP:Option (Fl×SE)->Prop:=λz=>∃σ,z=some (Fl.next,σ)/\∃l,σ=S0++GA l
  show PP (exs _ _ _ _ _ _);refine jB (P:=PP) (aL:=S0++(xy++nm "roads" RR::(match l with|none=>[]|some (_,_,a,b)=>[nm "noted" b]))) ?_ ?_
  ·refine(ba (u:=RR) (by rfl) ?_).trans (by cases l<;>kernel_rfl)
   refine sF (ar (jo (vs:=[Ow,.int x]) (by cases l<;>kernel_rfl) (ar (by kernel_rfl) (ar (by cases l<;>kernel_rfl) aR)) (by rfl) ?_) (ar (jo (vs:=[Ow,.int y]) (by cases l<;>kernel_rfl) (ar (by kernel_rfl) (ar (by cases l<;>kernel_rfl) aR)) (by rfl) ?_) aR))
   ·exact hcal hx
   ·exact hcal hy
  refine jB (P:=PP) (aL:=S0++GA (some (.int x,.int y,RR,aU (Gc rd fl x y)))) ?_ ?_
  ·refine(ba (u:=aU (Gc rd fl x y)) (by rfl) ?_).trans (by cases l<;>kernel_rfl)
   refine(cJ (items:=(rd x++rd y).map .int) (rs:=((rd x++rd y).filter (sd (rd x) (rd y))).map λz=>(.none,.int (fl z))) (by rfl) ?_ ?_ ?_).trans ?_
   ·refine(F6 (v:=.lst ((rd x).map PV.int++(rd y).map PV.int)) (aV (a:=aU (rd x)) (b:=aU (rd y)) (by kernel_rfl) (by kernel_rfl) (oH (by rw[aa];exact id ((pn [_] 0x0D1000003900D580) lx)) (by rw[aa];exact id ((pn [_] 0x0D1000003900D580) ly))))).trans ?_
    rw[<- aT];exact if_pos (by rw[aa,aB];exact id ((pn [_,_] 0x0D10000039A100D5810D580) lx ly))
   ·rw[show jF _ _=[nm "fewest" Fw,nm "roads" RR] from by cases l<;>kernel_rfl]
    refine cN (sd (rd x) (rd y)) (λz=>.int (fl z)) .int 40 (by rfl) (rd x++rd y) _ (by rw[aB];exact id ((pn [_,_,_] 0x0DA4C192A18AA1028190D5810D580) lx ly)) ?_;intro z q hz;refine⟨[nm "fewest" Fw,nm "roads" RR,nm "node" (.int z)],by rfl,?_,λhs=>?_⟩
    ·refine bN (bV (db (a:=.bool (bo (rd x) z)) (b:=.bool (bo (rd y) z)) ?_ (by rfl) ?_ ?_))
     ·exact mB (a:=.int z) (b:=aU (rd x)) (by rfl) (by rfl) (by rfl) (by rfl) (dW _ z)
     ·exact mB (a:=.int z) (b:=aU (rd y)) (by rfl) (by rfl) (by rfl) (by rfl) (dW _ z)
     ·unfold sd;cases bo (rd x) z<;>cases bo (rd y) z<;>rfl
    ·have hzr:z≠r:=λe=>by
      subst e;unfold sd at hs;rw[kF.mpr rx0,kF.mpr ry0]at hs;cases hs
     have hzm:z∈r::rest:=(aP.mp hz).elim (hsub hx z) (hsub hy z);exact bp (b:=Fw) (k:=.int z) (by rfl) (by rfl) (by rfl) (hget ((ai.mp hzm).resolve_left hzr))
   ·rw[aa];have:=aJ (sd (rd x) (rd y)) (rd x++rd y);rw[aB]at this;exact id ((pn [_,_,_] 0x0D1000003920DA1020D5810D580) lx ly this)
   ·unfold Gc aU;rw[aj,aj];rfl
  have hnl:(Gc rd fl x y).length<=1000:=by
   unfold Gc;rw[aa];have:=aJ (sd (rd x) (rd y)) (rd x++rd y);rw[aB]at this;exact id ((pn [_,_,_] 0x0D03E82920DA1020D5810D580) lx ly this)
  have hcl:(HR F x y).length<=15:=by
   unfold HR;rw[aa];exact aJ _ fQ
  refine jB (P:=PP) (aL:=S0++GA (some (.int x,.int y,RR,aU (Gc rd fl x y)))) ?_ ⟨_,by rfl,_,rfl⟩;refine dh (c:=false) ?_ (λh=>nomatch h) λJ=>by rfl
  refine bV (db (a:=.int v) (b:=.int v) (cw (v:=aU (Gc rd fl x y)) (by kernel_rfl) (by kernel_rfl) (CZ n1 n2 hnl)) (by rfl) (cw (v:=aU (HR F x y)) (by kernel_rfl) ?_ (CZ c1 c2 (by exact id ((pn [_] 0x0D03E82900DF80) hcl)))) (n7 (qV v _ (by exact id (pn [_] 0x0DA4A19018)))));show ev _ _ _ _ _=_;refine(cJ (items:=fQ.map λs=>.tup [aU s,.int (F (bo s))]) (rs:=(fQ.filter λs=>bo s x != bo s y).map λs=>(.none,.int (F (bo s)))) (by rfl) ?_ ?_ ?_).trans ?_
  ·exact(qJ (l:=fQ.map aU) (m:=(fQ.map λs=>F (bo s)).map .int) (by kernel_rfl) (by rfl) (by kernel_rfl) (by kernel_rfl) (by decide) (by rw[aa,aa];unfold fQ;rw[aa];decide)).trans (by rfl)
  ·refine cN (λs=>bo s x != bo s y) (λs=>.int (F (bo s))) (λs=>.tup [aU s,.int (F (bo s))]) 30 (by kernel_rfl) fQ _ ?_ ?_
   ·show 30+15+1<=_
    exact id (pn [_] 0x0DA47190A18AF81E19)
   ·intro s q hs
    refine⟨[nm "one" (.int x),nm "two" (.int y),nm "side" (aU s),nm "cost" (.int (F (bo s)))],by kernel_rfl,?_,λJ=>by rfl⟩;refine bN (bV (db (a:=.bool (bo s x)) (b:=.bool (bo s y)) ?_ (by rfl) ?_ ?_))
    ·exact mB (a:=.int x) (b:=aU s) (by rfl) (by rfl) (by rfl) (by rfl) (dW s x)
    ·exact mB (a:=.int y) (b:=aU s) (by rfl) (by rfl) (by rfl) (by rfl) (dW s y)
    ·cases bo s x<;>cases bo s y<;>rfl
  ·unfold HR at hcl;rw[aa]at hcl ⊢;exact id ((pn [_] 0x0D1000003900DF80) hcl)
  ·unfold HR aU;rw[aj,aj];rfl
 ·rintro σ ⟨l,rfl⟩
  exact⟨l,rfl⟩
end
end
end Mine
end
section
namespace Mine
noncomputable section
theorem Ci{a:Int}{i:Nat}(hi:i < 4)(h1:-1<=a)(h2:a < (i:Int)):gG a∈az/\gG a < 256+(i:Int):=by
 unfold gG;by_cases h:a < 0
 ·rw[if_pos h];exact⟨by decide,by exact id (pn [_] 0x1EA2C001002908)⟩
 ·rw[if_neg h]
  refine⟨?_,by exact id ((pz [_] [_] 0x1EA2C0010029A00100291E2C00) h2)⟩
  have:a=0\/a=1\/a=2:=by exact id ((pz [_] [_] 0x1F1F2E2802E1802E0802F1E0801E2C001D480) hi h2 h)
  rcases this with rfl|rfl|rfl<;>decide
theorem ES(k:Nat)(h:k < 5):sq k∈az:=by
 rcases(show k=0\/k=1\/k=2\/k=3\/k=4 by exact id ((pn [_] 0x1F1F1F1F2D4802D3802D2802D1802D0801D580) h)) with rfl|rfl|rfl|rfl|rfl<;>decide
theorem KA(c:Nat->Nat)(ab:Nat->Int):ta (Tt c ab) where
 keys:=by rfl
 rows:=by
  intro p hp;rcases ai.mp hp with rfl|hp
  ·exact⟨c9,bz _,λq hq=>nomatch hq⟩
  ·refine bC (aG.mp hp) ?_;rintro i hi rfl
   refine⟨kj _ _ _ _,lZ _ _ _ _,?_⟩;have ha:cA c i < 48:=aY _ (by exact id (pn [] 0x1D301908));have hb:cB c i < 48:=aY _ (by exact id (pn [] 0x1D301908));intro q hq;dsimp only at hq;rw[li]at hq;split at hq
   ·rcases aA.mp hq with rfl
    show 1<=1+(cA c i:Int)+(1+(cB c i:Int))/\1+(cA c i:Int)+(1+(cB c i:Int))<=100;exact id ((pn [_,_] 0x0F0E6419AA2C118A2C0180EAA2C118A2C018181D301911D30190) ha hb)
   ·rcases ai.mp hq with rfl|hq
    ·show 1<=1+(cA c i:Int)/\1+(cA c i:Int)<=100
     exact id ((pn [_] 0x0F0E6419A2C0180EA2C018181D30190) ha)
    ·rcases aA.mp hq with rfl
     show 1<=1+(cB c i:Int)/\1+(cB c i:Int)<=100;exact id ((pn [_] 0x0F0E6419A2C0180EA2C018181D30190) hb)
theorem JA(c:Nat->Nat){ab:Nat->Int}(h:∀i,i < 4->-1<=ab i/\ab i < (i:Int)):nB (FC (gH c ab++iR c)) az:=by
 have hn:∀i:Nat,i < 4->256+(i:Int)∈az:=λi hi=>by
  rcases(show i=0\/i=1\/i=2\/i=3 by exact id ((pn [_] 0x1F1F1F2D3802D2802D1802D0801D480) hi)) with rfl|rfl|rfl|rfl<;>decide
 refine E1 λx hx=>?_;rcases aP.mp hx with hx|hx
 ·refine bC (aG.mp hx) ?_;rintro i hi rfl
  have hi:i < 4:=by simp at hi;exact id ((pn [_] 0x1D4801F1F1F2D3802D2802D1802D080) hi)
  exact⟨hn i hi,(Ci hi (h i hi).1 (h i hi).2).1,by show 0<=1+(cA c i:Int);exact id (pn [_] 0x0EA2C01808)⟩
 ·refine bC (aG.mp hx) ?_;rintro i hi rfl
  have hi:i < 4:=by simp at hi;exact id ((pn [_] 0x1D4801F1F1F2D3802D2802D1802D080) hi)
  exact⟨hn i hi,ES (c i / 55296 % 5) (aY _ (by exact id (pn [] 0x1D5808))),by show 0<=1+(cB c i:Int);exact id (pn [_] 0x0EA2C01808)⟩
theorem EW:de 205=(aI 33).map fy:=by kernel_rfl
theorem MP{n:Nat}(h:o3.fn "_law_page" [gS]=some (.tup [eK gc,.lst (cr (ft gc)),.str (iJ gc)])):ex o3 [] (n+20) mC [nm "script" gS] (fy 0)=some (.next,s1):=by
 conv=>lhs;arg 6;whnf
 exact wY (xs:=["cells","leads","page"]) (ps:=[eK gc,.lst (cr (ft gc)),.str (iJ gc)]) (by rfl) (by rfl) (fq (v':=gS) (v:=gS) (by kernel_rfl) (by rfl) (by unfold gS;rfl) (by rfl) h) (by rfl) (by kernel_rfl)
theorem BT(hs:H5.length<=63):oI H5=some (.bool true):=by
 have hc:o3.fn "_law_page" [gS]=some (.tup [eK gc,.lst (cr (ft gc)),.str (iJ gc)]):=by
  unfold gc;refine Classical.epsilon_spec (p:=λc=>o3.fn "_law_page" [gS]=some (.tup [eK c,.lst (cr (ft c)),.str (iJ c)])) ?_;unfold gS;exact DJ H5 (by exact id ((pn [_] 0x0D03E82900D3F190) hs))
 have hT:Tt gc ga=gT:=by unfold gT;rw[oc]
 have hgs:gH gc ga++iR gc=gs:=by unfold gs;rw[oc]
 have ok:ta gT:=hT▸KA gc ga;have okc:uS gs:=hgs▸wK gc ga;have cf:nB (FC gs) az:=hgs▸JA gc KL;have hF:∀s,mv gT s=FC gs (bo s):=hgs▸hT▸GJ (kA ga) (wA gc) (cO gc) (wB gc);have hw:∀x,gI (gE gT) x=gI (we gs) x:=hgs▸hT▸Cz (kA ga) (wA gc) (cO gc) (wB gc);have hp:=DF gc gT;have h23:=λn=>L0 (n:=n);generalize DX gc gT=order at hp h23;obtain⟨r,rest,rfl⟩:∃r rest,order=r::rest:=by
  cases order with
  |nil=>exact absurd hp.length_eq (by decide)
  |cons r rest=>exact⟨r,rest,rfl⟩
 have hl:rest.length=4:=Nat.succ.inj hp.length_eq;have nd:(r::rest).Nodup:=hp.nodup_iff.mpr (by decide);have hN:∀n,n∈r::rest↔n∈az:=λn=>hp.mem_iff;have cf2:nB (FC gs) (r::rest):=⟨λA B e=>cf.ext A B λn hn=>e n ((hN n).mpr hn),cf.sym,cf.sub⟩;refine l9 (Ew (tie:=jO gc 4) cf2 hF hl nd (by rw[qO ok];exact id (pn [] 0x0D8858)) (by rw[ok.keys];decide) λp hp=>⟨(ok.rows p hp).2.1,(ok.rows p hp).1⟩) ?_;intro par fl rd ti htree;have u:=ti.toUp hl nd;have hins:=u.ins (wf gc) rest.length (aK _);have hre:=u.report (c:=gc) (λx hx=>(hN x).mp hx) rest.length (aK _);rw[dk,show(r::rest).take (rest.length+1)=r::rest from dM (by rw[am];exact id (pn [_] 0x0DA180A180))]at hins;rw[dk]at hre;refine iQ hins ?_;clear hins;intro hp4 hhd hinB;have hrep:o3.fn "_law_report" [aU (r::rest),aZ (rest.map λn=>(n,par n)),za (pu gc)]=some (vH rd (wf gc) (mo par r rest)):=by
  refine Eq.trans (zA (order:=r::rest) (by simp) (by rw[am];exact id ((pn [_] 0x0DA8A1802D480) hl)) (by rw[aa];exact id ((pn [_] 0x0D141902D480) hl)) λi x hx=>?_) (congrArg (λl=>some (tL l)) hre);have hx:rest[i]?=some x:=hx;refine xA (u.up i x hx) ?_;intro h1 _;exact⟨par x,_,mh par (aQ hx),h1,AI gc ((hN _).mp (bQ h1)),by rw[dZ];exact(EY gc).le _⟩
 refine xE (L6 (n:=8) (order:=r::rest) (R:=vH rd (wf gc) (mo par r rest)) (H:=aU (gO (fK (wl rd (wf gc) (mo par r rest))) (mo par r rest).length)) ok cf hN hl nd ti) ?_;intro l31 h31;have e:oI H5=eE o3 [] 150 zj.params zj.scope zj.body [gS]:=by unfold gS;rfl
 refine e.trans ?_;refine dT (σ:=[nm "script" gS]) (by kernel_rfl) (by kernel_rfl) (aL:=[]) ?_;show exs o3 [] 150 mC _ (de 205)=_;rw[EW];show exs o3 [] 150 mC _ [fy 0,fy 1,fy 2,fy 3,fy 4,fy 5,fy 6,fy 7,fy 8,fy 9,fy 10,fy 11,fy 12,fy 13,fy 14,fy 15,fy 16,fy 17,fy 18,fy 19,fy 20,fy 21,fy 22,fy 23,fy 24,fy 25,fy 26,fy 27,fy 28,fy 29,fy 30,fy 31,fy 32]=_;refine(aq (MP (n:=129) hc)).trans ?_;refine(aq (MW (n:=128))).trans ?_;refine(aq (MU (n:=87))).trans ?_;refine(aq (MV (n:=86))).trans ?_;refine(aq (MZ (n:=85))).trans ?_;refine(aq (MY (n:=54))).trans ?_;refine(aq (MX (n:=53))).trans ?_;refine(aq (MN (n:=52))).trans ?_;refine(aq (M4 (n:=121))).trans ?_;refine(aq (MS (n:=50))).trans ?_;refine(aq (LY (n:=49))).trans ?_;refine(aq (Mg (n:=28))).trans ?_;refine(aq (LQ (n:=77))).trans ?_;refine(aq (LA (n:=76))).trans ?_;refine(aq (Lz (n:=75))).trans ?_;rw[Jc];refine(aq (LI (n:=24) okc)).trans ?_;refine(aq (Md (n:=23) ok okc)).trans ?_;refine(aq (LP (n:=22) ok okc hw)).trans ?_;rw[Jw];refine(aq (LC (n:=71))).trans ?_;refine(aq (Lw (n:=70) ok)).trans ?_;refine(aq (Mh (n:=69) ok)).trans ?_;refine(aq (LG (n:=38) ok)).trans ?_;refine(aq (LH (n:=17) ok)).trans ?_;refine(aq (h23 66)).trans ?_;refine(aq (LK (n:=65) htree)).trans ?_;refine(aq (L7 (n:=64) ok)).trans ?_;refine(aq (L3 (n:=63) hrep)).trans ?_;refine(aq (LU (n:=62) u hl (EY gc) hp4)).trans ?_;refine(aq (LZ (n:=11) u hl (EY gc) hp4 hhd hinB)).trans ?_;refine(aq (Me (n:=10))).trans ?_;refine(aq (Ma (n:=9) okc)).trans ?_;refine(aq h31).trans ?_;exact bE (by rcases l31 with _|⟨_,_,_,_⟩<;>kernel_rfl)
theorem yx(script:List Int)(hs:script.length<=63):oI script=some (.bool true):=by
 refine Classical.byContradiction λhn=>?_;have h:¬(H5.length<=63->oI H5=some (.bool true)):=by
  unfold H5;exact Classical.epsilon_spec (p:=λs=>¬(s.length<=63->oI s=some (.bool true))) ⟨script,λg=>hn (g hs)⟩
 exact h BT
end
end Mine
end
section
namespace Mine
theorem head.tw12310735299239354703:True:=⟨⟩
theorem head.tw13942192884097748152:True:=⟨⟩
theorem head.tw3715584954343283195:True:=⟨⟩
theorem head.tw8159583801465064534:True:=⟨⟩
theorem head.tw14788773977795034992:True:=⟨⟩
theorem head.tw2393098407364606883:True:=⟨⟩
theorem head.tw18007968972792079559:True:=⟨⟩
theorem head.tw3986194592780655508:True:=⟨⟩
theorem head.tw9984397402777080727:True:=⟨⟩
theorem head.tw4943770311243833997:True:=⟨⟩
theorem head.tw18384547517478447814:True:=⟨⟩
theorem head.tw12870424476946447624:True:=⟨⟩
theorem head.tw69809265629811306:True:=⟨⟩
theorem head.tw16204097306538826291:True:=⟨⟩
theorem head.tw17674571679781333832:True:=⟨⟩
theorem head.tw1652378952554205198:True:=⟨⟩
theorem head.tw2028699427229394041:True:=⟨⟩
theorem head.tw15436542981012472205:True:=⟨⟩
theorem head.tw11105056867450500199:True:=⟨⟩
theorem head.tw16817119741492734445:True:=⟨⟩
theorem head.tw4693820183103290663:True:=⟨⟩
theorem head.tw17782148633632673465:True:=⟨⟩
theorem head.tw9746458257258439470:True:=⟨⟩
theorem head.tw5508695066786827253:True:=⟨⟩
theorem head.tw1212124681294104184:True:=⟨⟩
theorem head.tw8402214883040486957:True:=⟨⟩
theorem head.tw7661765248129044261:True:=⟨⟩
theorem head.tw649443455394278489:True:=⟨⟩
theorem head.tw15798066900824788120:True:=⟨⟩
theorem head.tw13335025841360890868:True:=⟨⟩
theorem head.tw7758381527925395934:True:=⟨⟩
theorem head.tw1665017035384295647:True:=⟨⟩
theorem head.tw16714887947964762639:True:=⟨⟩
theorem head.tw10015159338476511836:True:=⟨⟩
theorem head.tw12207028300977255130:True:=⟨⟩
theorem head.tw4634529909781848996:True:=⟨⟩
theorem head.tw15296082917334920728:True:=⟨⟩
theorem head.tw15539854500240908086:True:=⟨⟩
theorem head.tw18142253323546211152:True:=⟨⟩
theorem head.tw12429951682030723673:True:=⟨⟩
theorem head.tw12773685731770592110:True:=⟨⟩
theorem head.tw4450661721644348826:True:=⟨⟩
theorem head.tw7658410731251134818:True:=⟨⟩
theorem head.tw14699756766385990792:True:=⟨⟩
theorem head.tw11714945338242495837:True:=⟨⟩
theorem head.tw17332727794074296334:True:=⟨⟩
theorem head.tw13294958713779813728:True:=⟨⟩
theorem head.tw5650451955626385410:True:=⟨⟩
theorem head.tw6211381574409162282:True:=⟨⟩
theorem head.tw15350242876123346281:True:=⟨⟩
theorem head.tw1457377512435260902:True:=⟨⟩
theorem head.tw1111766255153513783:True:=⟨⟩
theorem head.tw14842460003800876886:True:=⟨⟩
theorem head.tw4964814941381164201:True:=⟨⟩
theorem head.tw17552560543380974038:True:=⟨⟩
theorem head.tw8928023225330563168:True:=⟨⟩
theorem head.tw9062998866958442273:True:=⟨⟩
theorem head.tw12478146576626367362:True:=⟨⟩
theorem head.tw5651425540991249520:True:=⟨⟩
theorem head.tw614141487946175412:True:=⟨⟩
theorem head.tw8382746154173761051:True:=⟨⟩
theorem head.tw4433315090154635215:True:=⟨⟩
theorem head.tw7802898811600756450:True:=⟨⟩
theorem head.tw13906610036690215845:True:=⟨⟩
theorem head.tw3501597964444990463:True:=⟨⟩
theorem head.tw2581250870941146908:True:=⟨⟩
theorem head.tw3089916443595474862:True:=⟨⟩
theorem head.tw3615648651819825313:True:=⟨⟩
theorem head.tw15037083628117588352:True:=⟨⟩
theorem head.tw5438144065070405397:True:=⟨⟩
theorem head.tw7994106446794305319:True:=⟨⟩
theorem head.tw9188055836752697145:True:=⟨⟩
theorem head.tw13086575352542018947:True:=⟨⟩
theorem head.tw4415685298772064003:True:=⟨⟩
theorem head.tw17700853532424174462:True:=⟨⟩
theorem head.tw17789423225533864492:True:=⟨⟩
theorem head.tw2879759524354350568:True:=⟨⟩
theorem head.tw18134755911535582296:True:=⟨⟩
theorem head.tw16922147877168347812:True:=⟨⟩
theorem head.tw12892129938458570674:True:=⟨⟩
theorem head.tw5599997604879368025:True:=⟨⟩
theorem head.tw8535708456716222715:True:=⟨⟩
theorem head.tw16997897962222511:True:=⟨⟩
theorem head.tw5986637957666399235:True:=⟨⟩
theorem head.tw11194998557105285118:True:=⟨⟩
theorem head.tw12475708393154427166:True:=⟨⟩
theorem head.tw14512941343882779238:True:=⟨⟩
theorem head.tw5092371620264689978:True:=⟨⟩
theorem head.tw11484358847640170188:True:=⟨⟩
theorem head.tw17854896373637125580:True:=⟨⟩
theorem head.tw10079960370226730655:True:=⟨⟩
theorem head.tw7512725033676591148:True:=⟨⟩
theorem head.tw2400818531096893172:True:=⟨⟩
theorem head.tw9082462177598256812:True:=⟨⟩
theorem head.tw15676143576742980803:True:=⟨⟩
theorem head.tw11862927689305589065:True:=⟨⟩
theorem head.tw10356212845559719233:True:=⟨⟩
theorem head.tw13988103294471073821:True:=⟨⟩
theorem head.tw1276956409769668328:True:=⟨⟩
theorem head.tw12239634837161043421:True:=⟨⟩
theorem head.tw9674239543357970916:True:=⟨⟩
theorem head.tw6857060684267632606:True:=⟨⟩
theorem head.tw9325057278558614444:True:=⟨⟩
theorem head.tw17212568112599259466:True:=⟨⟩
theorem head.tw6587087628758450585:True:=⟨⟩
theorem head.tw12147184966966947637:True:=⟨⟩
theorem head.tw17725469503822016867:True:=⟨⟩
theorem head.tw5638995163158488052:True:=⟨⟩
theorem head.tw12775505166333009402:True:=⟨⟩
theorem head.tw3160712208675142370:True:=⟨⟩
theorem head.tw1748456618969930982:True:=⟨⟩
theorem head.tw4381510469713062047:True:=⟨⟩
theorem head.tw14877080517539528568:True:=⟨⟩
theorem head.tw12704426703380559182:True:=⟨⟩
theorem head.tw13954853420313727417:True:=⟨⟩
theorem head.tw10533634037010066435:True:=⟨⟩
theorem head.tw1463646239528298992:True:=⟨⟩
theorem head.tw8812732774380208333:True:=⟨⟩
theorem head.tw12032222614953749359:True:=⟨⟩
theorem head.tw4975070653579243887:True:=⟨⟩
theorem head.tw7090939061502383884:True:=⟨⟩
theorem head.tw6846597200999610202:True:=⟨⟩
theorem head.tw5629256929840616583:True:=⟨⟩
theorem head.tw8874674299285249911:True:=⟨⟩
theorem head.tw1414592758211122379:True:=⟨⟩
theorem head.tw10987702880554017565:True:=⟨⟩
theorem head.tw11807956919867999880:True:=⟨⟩
theorem head.tw5797013207949663412:True:=⟨⟩
theorem head.tw10059252607514160932:True:=⟨⟩
theorem head.tw15895748673760503845:True:=⟨⟩
theorem head.tw9716329373054682134:True:=⟨⟩
theorem head.tw16380157621550025562:True:=⟨⟩
theorem head.tw10261356005730403935:True:=⟨⟩
theorem head.tw18051680202136193954:True:=⟨⟩
theorem head.tw11692735721529064706:True:=⟨⟩
theorem head.tw15782939476341012554:True:=⟨⟩
theorem head.tw4023466491090337370:True:=⟨⟩
theorem head.tw467416434755642258:True:=⟨⟩
theorem head.tw18143917106301475762:True:=⟨⟩
theorem head.tw12987040726578829979:True:=⟨⟩
theorem head.tw11005904730967762025:True:=⟨⟩
theorem head.tw6507506987150044280:True:=⟨⟩
theorem head.tw4063747431996464497:True:=⟨⟩
theorem head.tw6100774026682323163:True:=⟨⟩
theorem head.tw6474009502463322548:True:=⟨⟩
theorem head.tw17142359554024780413:True:=⟨⟩
theorem head.tw4196546014268931301:True:=⟨⟩
theorem head.tw18328473556755899883:True:=⟨⟩
theorem head.tw12903917746401883607:True:=⟨⟩
theorem head.tw10898857373019930491:True:=⟨⟩
theorem head.tw16874305072444578374:True:=⟨⟩
theorem head.tw10865165270600546614:True:=⟨⟩
theorem head.tw9273458967167524031:True:=⟨⟩
theorem head.tw3991279037241028524:True:=⟨⟩
theorem head.tw12740806245664736207:True:=⟨⟩
theorem head.tw10366927770000222440:True:=⟨⟩
theorem head.tw18433677622606106133:True:=⟨⟩
theorem head.tw12330954535739239725:True:=⟨⟩
theorem head.tw9280153536138602973:True:=⟨⟩
theorem head.tw6121141971511671821:True:=⟨⟩
theorem head.tw4746297304354101679:True:=⟨⟩
theorem head.tw10018764681926925449:True:=⟨⟩
theorem head.tw11770459041652445329:True:=⟨⟩
theorem head.tw7313386461004707312:True:=⟨⟩
theorem head.tw5331137831679937033:True:=⟨⟩
theorem head.tw13337238644230332656:True:=⟨⟩
theorem head.tw13896987355042952010:True:=⟨⟩
theorem head.tw14699528089545365996:True:=⟨⟩
theorem head.tw11426403942048686318:True:=⟨⟩
theorem head.tw4972248218790579157:True:=⟨⟩
theorem head.tw4709128311485490483:True:=⟨⟩
theorem head.tw12858780395421280599:True:=⟨⟩
theorem head.tw2355103038987944067:True:=⟨⟩
theorem head.tw11308087075614649832:True:=⟨⟩
theorem head.tw9515422150858430662:True:=⟨⟩
theorem head.tw10668533816033670360:True:=⟨⟩
theorem head.tw3547030090768783262:True:=⟨⟩
theorem head.tw2224060146885621047:True:=⟨⟩
theorem head.tw8534208459206503383:True:=⟨⟩
theorem head.tw1499353310998574721:True:=⟨⟩
theorem head.tw16128420640991077102:True:=⟨⟩
theorem head.tw11290360913936777911:True:=⟨⟩
theorem head.tw8866670633112419022:True:=⟨⟩
theorem head.tw8101760021730824546:True:=⟨⟩
theorem head.tw15064752311394979489:True:=⟨⟩
theorem head.tw6202090305015876224:True:=⟨⟩
theorem head.tw13828079244328726261:True:=⟨⟩
theorem head.tw9592777112578238593:True:=⟨⟩
theorem head.tw9702098958229961203:True:=⟨⟩
theorem head.tw497287684792784471:True:=⟨⟩
theorem head.tw7837257655245606889:True:=⟨⟩
theorem head.tw8185714761375850791:True:=⟨⟩
theorem head.tw15148963937461231693:True:=⟨⟩
theorem head.tw16847831306532103052:True:=⟨⟩
theorem head.tw14205479233844494046:True:=⟨⟩
theorem head.tw2340069552987342377:True:=⟨⟩
theorem head.tw8997269238129315039:True:=⟨⟩
theorem head.tw10010264046613662565:True:=⟨⟩
theorem head.tw8912104118211102971:True:=⟨⟩
theorem head.tw15410735652082386980:True:=⟨⟩
theorem head.tw17411354535832351560:True:=⟨⟩
theorem head.tw16031315777459398524:True:=⟨⟩
theorem head.tw3103639331685909893:True:=⟨⟩
theorem head.tw3556061257289618393:True:=⟨⟩
theorem head.tw9658139154387788515:True:=⟨⟩
theorem head.tw15510365090734361527:True:=⟨⟩
theorem head.tw14417885227837004991:True:=⟨⟩
theorem Bg{a:Str}(h:Gm a=true):a="raw"\/a="n"\/a="nt"\/a="norm"\/a="is_simple":=by
 have h:((((a == ("raw":Str)) ||(a == ("n":Str))) ||(a == ("nt":Str))) ||(a == ("norm":Str)) ||(a == ("is_simple":Str)))=true:=h;simp only[fk,beq_iff_eq,or_assoc]at h;exact h
set_option Elab.async true in
theorem head:PySem.Challenge.rw_wz0028_01.Holds:=by
 w_on;o_law;k_head;(case hw=>w_witness2)
 k_fill
 intro w fb aH mg mb G Y fa o pm cd doc dV kV ho hd hcd hD hmg hg args vals as hpre hlay hrd hwl hlo;have KX:=kIn_of Y;have KO:Kt w.params (head.heap_1_39 w.params):=by
  clear hd hcd hD ho Y hmg hg hpre hlay hrd hwl hlo KX G;refine { n3:=?_,gfn:=?_,gl1:=?_,gl2:=?_,gval:=?_,non1:=?_,non2:=?_,keep:=?_,f1:=⟨?_,?_,?_,?_,?_⟩,f2:=⟨?_,?_,?_,?_,?_⟩,f3:=⟨?_,?_,?_,?_,?_⟩,f4:=⟨?_,?_,?_,?_,?_,?_⟩,p1:=?_,p2:=?_,p3:=?_,m2:=?_,m3:=?_,c1:=?_,c2:=?_,c5:=?_,t1:=?_,t2:=?_,t3:=?_,t4:=?_,q1:=?_,q2:=?_,q3:=?_ }
  ·exact⟨_,_,_,_,_,rfl⟩
  ·repeat' (first|kernel_rfl|refine And.intro ?_ ?_)
  ·repeat' (first|kernel_rfl|refine And.intro ?_ ?_)
  ·repeat' (first|kernel_rfl|refine And.intro ?_ ?_)
  ·repeat' (first|kernel_rfl|refine And.intro ?_ ?_)
  ·repeat' (first|kernel_rfl|refine And.intro ?_ ?_)
  ·repeat' (first|kernel_rfl|refine And.intro ?_ ?_)
  ·repeat' (first|kernel_rfl|refine And.intro ?_ ?_)
  ·refine⟨by kernel_rfl,by kernel_rfl,by kernel_rfl,⟨by kernel_rfl,by kernel_rfl,by kernel_rfl,by kernel_rfl,by kernel_rfl⟩,λvals h=>by obtain⟨a,b,e⟩:=th h;subst e;kernel_rfl,λJ=>by kernel_rfl⟩
  ·refine⟨by kernel_rfl,by kernel_rfl,by kernel_rfl,⟨by kernel_rfl,by kernel_rfl,by kernel_rfl,by kernel_rfl,by kernel_rfl⟩,λvals h=>by obtain⟨a,e⟩:=tq h;subst e;kernel_rfl,λh=>absurd ((show ds (bg 63).names=false by kernel_rfl).symm.trans h) av⟩
  ·refine⟨by kernel_rfl,by kernel_rfl,by kernel_rfl,⟨by kernel_rfl,by kernel_rfl,by kernel_rfl,by kernel_rfl,by kernel_rfl⟩,λvals h=>by obtain⟨a,e⟩:=tq h;subst e;kernel_rfl,λh=>absurd ((show ds (bg 139).names=false by kernel_rfl).symm.trans h) av⟩
  ·refine⟨by kernel_rfl,by kernel_rfl,by kernel_rfl,⟨by kernel_rfl,by kernel_rfl,by kernel_rfl,by kernel_rfl,by kernel_rfl⟩,λvals h=>by obtain⟨a,e⟩:=tq h;subst e;kernel_rfl,λh=>absurd ((show ds (bg 146).names=false by kernel_rfl).symm.trans h) av⟩
  ·refine⟨by kernel_rfl,by kernel_rfl,by kernel_rfl,⟨by kernel_rfl,by kernel_rfl,by kernel_rfl,by kernel_rfl,by kernel_rfl⟩,λvals h=>by obtain⟨a,e⟩:=tq h;subst e;kernel_rfl,λh=>absurd ((show ds (bg 153).names=false by kernel_rfl).symm.trans h) av⟩
  ·refine⟨by kernel_rfl,by kernel_rfl,by kernel_rfl,⟨by kernel_rfl,by kernel_rfl,by kernel_rfl,by kernel_rfl,by kernel_rfl⟩,λvals h=>by obtain⟨a,e⟩:=tq h;subst e;kernel_rfl,λh=>absurd ((show ds (bg 158).names=false by kernel_rfl).symm.trans h) av⟩
  ·refine⟨by kernel_rfl,by kernel_rfl,by kernel_rfl,⟨by kernel_rfl,by kernel_rfl,by kernel_rfl,by kernel_rfl,by kernel_rfl⟩,λvals h=>by obtain⟨a,b,e⟩:=th h;subst e;kernel_rfl,λh=>absurd ((show ds (bg 163).names=false by kernel_rfl).symm.trans h) av⟩
  ·refine⟨by kernel_rfl,by kernel_rfl,by kernel_rfl,⟨by kernel_rfl,by kernel_rfl,by kernel_rfl,by kernel_rfl,by kernel_rfl⟩,λvals h=>by obtain⟨a,e⟩:=tq h;subst e;kernel_rfl,λh=>absurd ((show ds (bg 168).names=false by kernel_rfl).symm.trans h) av⟩
  ·refine⟨by kernel_rfl,by kernel_rfl,by kernel_rfl,⟨by kernel_rfl,by kernel_rfl,by kernel_rfl,by kernel_rfl,by kernel_rfl⟩,λvals h=>by obtain⟨a,e⟩:=tq h;subst e;kernel_rfl,λh=>absurd ((show ds (bg 173).names=false by kernel_rfl).symm.trans h) av⟩
  ·refine⟨by kernel_rfl,by kernel_rfl,by kernel_rfl,⟨by kernel_rfl,by kernel_rfl,by kernel_rfl,by kernel_rfl,by kernel_rfl⟩,λvals h=>by obtain⟨a,b,e⟩:=th h;subst e;kernel_rfl,λh=>absurd ((show ds (bg 178).names=false by kernel_rfl).symm.trans h) av⟩
  ·refine⟨by kernel_rfl,by kernel_rfl,by kernel_rfl,⟨by kernel_rfl,by kernel_rfl,by kernel_rfl,by kernel_rfl,by kernel_rfl⟩,λvals h=>by obtain⟨a,b,e⟩:=th h;subst e;kernel_rfl,λh=>absurd ((show ds (bg 183).names=false by kernel_rfl).symm.trans h) av⟩
  ·refine⟨by kernel_rfl,by kernel_rfl,by kernel_rfl,⟨by kernel_rfl,by kernel_rfl,by kernel_rfl,by kernel_rfl,by kernel_rfl⟩,λvals h=>by obtain⟨a,b,c,e⟩:=Jk h;subst e;kernel_rfl,λh=>absurd ((show ds (bg 188).names=false by kernel_rfl).symm.trans h) av⟩
  ·refine⟨by kernel_rfl,by kernel_rfl,by kernel_rfl,⟨by kernel_rfl,by kernel_rfl,by kernel_rfl,by kernel_rfl,by kernel_rfl⟩,λvals h=>by obtain⟨a,b,c,e⟩:=Jk h;subst e;kernel_rfl,λh=>absurd ((show ds (bg 193).names=false by kernel_rfl).symm.trans h) av⟩
  ·refine⟨by kernel_rfl,by kernel_rfl,by kernel_rfl,⟨by kernel_rfl,by kernel_rfl,by kernel_rfl,by kernel_rfl,by kernel_rfl⟩,λvals h=>by obtain⟨a,b,e⟩:=th h;subst e;kernel_rfl,λh=>absurd ((show ds (bg 200).names=false by kernel_rfl).symm.trans h) av⟩
  ·refine⟨by kernel_rfl,by kernel_rfl,by kernel_rfl,⟨by kernel_rfl,by kernel_rfl,by kernel_rfl,by kernel_rfl,by kernel_rfl⟩,λvals h=>by obtain⟨a,e⟩:=tq h;subst e;kernel_rfl,λh=>absurd ((show ds (bg 205).names=false by kernel_rfl).symm.trans h) av⟩
  ·refine⟨by kernel_rfl,by kernel_rfl,by kernel_rfl,⟨by kernel_rfl,by kernel_rfl,by kernel_rfl,by kernel_rfl,by kernel_rfl⟩,λvals h=>by obtain⟨a,b,e⟩:=th h;subst e;kernel_rfl,λh=>absurd ((show ds (bg 80).names=false by kernel_rfl).symm.trans h) av⟩
  ·refine⟨by kernel_rfl,by kernel_rfl,by kernel_rfl,⟨by kernel_rfl,by kernel_rfl,by kernel_rfl,by kernel_rfl,by kernel_rfl⟩,λvals h=>by obtain⟨a,e⟩:=tq h;subst e;kernel_rfl,λh=>absurd ((show ds (bg 87).names=false by kernel_rfl).symm.trans h) av⟩
  ·refine⟨by kernel_rfl,by kernel_rfl,by kernel_rfl,⟨by kernel_rfl,by kernel_rfl,by kernel_rfl,by kernel_rfl,by kernel_rfl⟩,λvals h=>by obtain⟨a,b,e⟩:=th h;subst e;kernel_rfl,λh=>absurd ((show ds (bg 94).names=false by kernel_rfl).symm.trans h) av⟩
  ·refine⟨by kernel_rfl,by kernel_rfl,by kernel_rfl,⟨by kernel_rfl,by kernel_rfl,by kernel_rfl,by kernel_rfl,by kernel_rfl⟩,λvals h=>by obtain⟨a,b,e⟩:=th h;subst e;kernel_rfl,λh=>absurd ((show ds (bg 115).names=false by kernel_rfl).symm.trans h) av⟩
  ·refine⟨by kernel_rfl,by kernel_rfl,by kernel_rfl,⟨by kernel_rfl,by kernel_rfl,by kernel_rfl,by kernel_rfl,by kernel_rfl⟩,λvals h=>by obtain⟨a,b,e⟩:=th h;subst e;kernel_rfl,λh=>absurd ((show ds (bg 35).names=false by kernel_rfl).symm.trans h) av⟩
  ·refine⟨by kernel_rfl,by kernel_rfl,by kernel_rfl,⟨by kernel_rfl,by kernel_rfl,by kernel_rfl,by kernel_rfl,by kernel_rfl⟩,λvals h=>by obtain⟨a,b,c,e⟩:=Jk h;subst e;kernel_rfl,λh=>absurd ((show ds (bg 42).names=false by kernel_rfl).symm.trans h) av⟩
  ·repeat' (first|kernel_rfl|refine And.intro ?_ ?_)
  ·intro a ha
   rcases Bg ha with rfl|rfl|rfl|rfl|rfl<;>repeat' (first|kernel_rfl|refine And.intro ?_ ?_)
  ·repeat' (first|kernel_rfl|refine And.intro ?_ ?_)
  ·repeat' (first|kernel_rfl|refine And.intro ?_ ?_)
  ·repeat' (first|kernel_rfl|refine And.intro ?_ ?_)
  ·repeat' (first|kernel_rfl|refine And.intro ?_ ?_)
  ·repeat' (first|kernel_rfl|refine And.intro ?_ ?_)
  ·exact⟨⟨_,rfl⟩,⟨_,rfl⟩⟩
  ·exact⟨_,_,rfl⟩
  ·show qP w.params [_,_,_,_,_,_,_,_,_,_,_,_,_,_,_,_,_,_,_,_,_,_,_,_,_,_,_,_,_,_,_,_,_,_,_,_,_,_,_,_,_,_,_,_,_,_,_,_]
   repeat (first|exact trivial|refine⟨⟨_,_,rfl,rfl⟩,?_⟩)
  ·unfold mN;kernel_rfl
  ·kernel_rfl
  ·kernel_rfl
  ·kernel_rfl
  ·kernel_rfl
 refine Ground.open G ?_;intro T B D TE TW;clear hd hcd hD ho Y TE TW D B;have hmg:mg ("law":Str)=some (.ref fa):=hmg;have TB:=Bb T.g KO KX (by
  obtain⟨d,hd,e⟩:=dj.mp (show(recsOf _).any (λd=>d.name == ("add_callers":Str))=true by kernel_rfl);exact(beq_iff_eq.mp e)▸T.tab d hd)
 wrow_args hpre hlay hrd hwl hlo
 have W:=‹Well w.params aH.heap (.ref _) (ofPy (.list _))›;refine wpAny_mono (Be yx T.g T.b T.nolimit T.builtins KO KX TB T.bmain hmg (by lia) W) (λv s' z=>?_) λJ J x=>x.elim;obtain⟨rfl,k,os,gb⟩:=z;refine⟨.inl ⟨.bool true,.bool true,[],rfl,raisesW_false ?_,.bool true,?_,?_⟩,k,os,gb (by rw[hg];exact .of_eq rfl)⟩
 ·wrow_none_raised
 ·wrow_post
 ·exact λJ=>⟨c9,λJ h=>nomatch h⟩
end Mine
end
theorem PySem.Challenge.cw_wz0028_01_holds : PySem.Challenge.rw_wz0028_01.Holds :=
  Mine.head
