import PyProof.Rows.All
import Wide.All
import OpenK.AllK
import Wide.FinOn
import PySem.Challenge.RW_wz0028_02
open List renaming length_map->aa,mem_singleton->ae,mem_cons_of_mem->ai,length_append->ak,mem_cons_self->am,map_map->ao,getD_eq_getElem?_getD->aq,mem_cons->ar,getElem?_eq_getElem->av,map_cons->aw,range->ax,size_toArray->aA,mem_map->aB,length_cons->aD,length_filter_le->aF,getElem?_map->aK,mem_append->aM,map_append->aN,lookup_cons->aP,getElem?_eq_some_iff->aQ,mem_filter->aT,filter_cons_of_neg->aU,getElem_mem->aY,filter_cons_of_pos->aZ,mem_iff_getElem->a7,foldl_cons->a9,mem_append_left->ba,length_singleton->bd,replicate->be,length_range->bf,not_mem_nil->bg,all_eq_true->bo,append_assoc->bp,nodup_append->bq,length_nil->bB,getLast?_eq_some_getLast->bF,nodup_cons->bI,mem_of_getElem?->bK,filter_eq_nil_iff->bL,contains_iff_mem->bQ,filter_eq_self->bS,getLastD_eq_getLast?->bZ,mem_map_of_mem->b5,mem_append_right->b6,dropLast_subset->cb,sum_cons->cg,map_congr_left->cD,getElem_append_left->cH,map_nil->cM,length_take->cQ,mem_of_find?_eq_some->c4,getElem?_eq_none->c9,length_drop->df,length_dropLast->dq,nodup_nil->ds,foldl_append->dB,take_of_length_le->dI,any_eq_true->dM,mem_range->dT,length->ef,dropLast_concat->ei,length_pos_iff->eR,filter_sublist->eS,getElem_map->eX,forIn_cons->fk,append_nil->fm,nil_append->fq,any_cons->fz,find?_isSome->fL,getElem?_append_right->f6,cons_append->ga,find?_some->g7,find?_cons->g8,range_succ->g9,map_id->ip,find?_cons_of_pos->iH,find?_cons_of_neg->iI,filter_congr->iK,take_length->jt,getLast_mem->ju,prefix_refl->jv,flatMap_append->kq,pairwise_iff_getElem->ln,all_cons->ma,mem_flatMap->mH,any_toArray->mI,length_eq_zero_iff->mJ,length_eq_one_iff->ni,head?_eq_getElem?->nj,forIn_nil->pp,drop_zero->pq,mem_of_mem_take->pr,drop_eq_nil_iff->pu,drop_left->pA,dropLast_prefix->pB
open PySem.Heap renaming get?_push_of_some->au,get?_push_size->aH,lt_size->aV,SameBut->dk,size_push->eW,get?_update_ne->kn,get?_push_ne->lR,size_update->mK,get?_none_of_le->pw
open Nat renaming exists_eq_add_of_le'->az,le_refl->aE,le_trans->aO,mod_lt->a5,ne_of_lt->a6,zero_le->bP,lt_succ_of_lt->bV,le_add_left->cL,zero_add->di,not_lt->dS,le_succ->eh,min_eq_left->fj,lt_succ_self->f9,succ->gF,lt_of_succ_lt_succ->iJ,not_lt_zero->jS,le_antisymm->jT,le_total->ku,ne_of_gt->kw,sub_self->ky,one_mul->lQ,min_eq_right->mG
open Bool renaming and_eq_true->aR,false_eq_true->b0,eq_iff_iff->dE,or_eq_true->dF,or_eq_true_iff->eQ,false_ne_true->e8,and_false->f0,true_and->gG,not_true->jx,or_false->jy,not_false->pj
open Option renaming isSome_iff_exists->aS,isSome_map->bC,getD_some->bJ,map_eq_some_iff->b3,map->ca,map_some->d9,getD_none->gc,map_none->jU
open Array renaming length_toList->bR
open Int renaming sub_nonneg_of_le->bX,zero_add->ct,add_zero->dH,fmod->eV,sub_pos_of_lt->fK,fmod_eq_emod_of_nonneg->f7,zero_mul->kt,one_mul->ph
open Exists renaming intro->dj
open PySem PySem.W PyProof.Rows
set_option Elab.async false
set_option maxRecDepth 100000
set_option maxHeartbeats 8000000
set_option tactic.hygienic false
set_option bootstrap.genMatcherCode false
set_option linter.all false
section
namespace Mine
section
universe u
@[elab_as_elim] theorem Jg {α:Sort u}{a b:α}{p:α->Prop} (h:a=b) (k:p b):p a:=h ▸ k
@[elab_as_elim] theorem Jm {α:Sort u}{a b:α}{p:α->Prop} (h:b=a) (k:p b):p a:=h ▸ k
end
section
universe u v w x y z s t
theorem xA {P:Prop}{Q:Prop}{C:Prop} (h:P/\Q) (k:P->Q->C):C:=k h.1 h.2
theorem xE {α:Sort u}{P:α->Prop}{C:Prop} (h:∃ a,P a) (k:∀ a,P a->C):C:=h.elim fun a h0=>k a h0
theorem ir {P:Prop}{Q:Prop}{R:Prop}{C:Prop} (h:P/\Q/\R) (k:P->Q->R->C):C:=k h.1 h.2.1 h.2.2
theorem bO {α:Sort u}{P:α->Prop}{Q:α->Prop}{C:Prop} (h:∃ a,P a/\Q a) (k:∀ a,P a->Q a->C):C:=h.elim fun a h0=>k a h0.1 h0.2
theorem AE {α:Sort u}{β:Sort v}{P:α->β->Prop}{C:Prop} (h:∃ a,∃ b,P a b) (k:∀ a,∀ b,P a b->C):C:=h.elim fun a h0=>(h0).elim fun b h1=>k a b h1
theorem pE {P:Prop}{Q:Prop}{R:Prop}{S:Prop}{C:Prop} (h:P/\Q/\R/\S) (k:P->Q->R->S->C):C:=k h.1 h.2.1 h.2.2.1 h.2.2.2
theorem CA {α:Sort u}{P:Prop}{Q:α->Prop}{R:α->Prop}{C:Prop} (h:P/\∃ a,Q a/\R a) (k:P->∀ a,Q a->R a->C):C:=(h.2).elim fun a h0=>k h.1 a h0.1 h0.2
theorem fw {α:Sort u}{P:α->Prop}{Q:α->Prop}{R:α->Prop}{C:Prop} (h:∃ a,P a/\Q a/\R a) (k:∀ a,P a->Q a->R a->C):C:=h.elim fun a h0=>k a h0.1 h0.2.1 h0.2.2
theorem jw {α:Sort u}{β:Sort v}{P:α->β->Prop}{Q:α->β->Prop}{C:Prop} (h:∃ a,∃ b,P a b/\Q a b) (k:∀ a,∀ b,P a b->Q a b->C):C:=h.elim fun a h0=>(h0).elim fun b h1=>k a b h1.1 h1.2
theorem F5 {α:Sort u}{β:Sort v}{γ:Sort w}{P:α->β->γ->Prop}{C:Prop} (h:∃ a,∃ b,∃ c,P a b c) (k:∀ a,∀ b,∀ c,P a b c->C):C:=h.elim fun a h0=>(h0).elim fun b h1=>(h1).elim fun c h2=>k a b c h2
theorem CX {α:Sort u}{β:Sort v}{P:Prop}{Q:α->Prop}{R:α->β->Prop}{C:Prop} (h:P/\∃ a,Q a/\∃ b,R a b) (k:P->∀ a,Q a->∀ b,R a b->C):C:=(h.2).elim fun a h0=>(h0.2).elim fun b h1=>k h.1 a h0.1 b h1
theorem Fb {α:Sort u}{P:α->Prop}{Q:α->Prop}{R:α->Prop}{S:α->Prop}{C:Prop} (h:∃ a,P a/\Q a/\R a/\S a) (k:∀ a,P a->Q a->R a->S a->C):C:=h.elim fun a h0=>k a h0.1 h0.2.1 h0.2.2.1 h0.2.2.2
theorem rT {α:Sort u}{β:Sort v}{P:α->Prop}{Q:α->Prop}{R:α->β->Prop}{C:Prop} (h:∃ a,P a/\Q a/\∃ b,R a b) (k:∀ a,P a->Q a->∀ b,R a b->C):C:=h.elim fun a h0=>(h0.2.2).elim fun b h1=>k a h0.1 h0.2.1 b h1
theorem im {α:Sort u}{β:Sort v}{P:α->Prop}{Q:α->β->Prop}{R:α->β->Prop}{C:Prop} (h:∃ a,P a/\∃ b,Q a b/\R a b) (k:∀ a,P a->∀ b,Q a b->R a b->C):C:=h.elim fun a h0=>(h0.2).elim fun b h1=>k a h0.1 b h1.1 h1.2
theorem lz {α:Sort u}{β:Sort v}{P:α->β->Prop}{Q:α->β->Prop}{R:α->β->Prop}{C:Prop} (h:∃ a,∃ b,P a b/\Q a b/\R a b) (k:∀ a,∀ b,P a b->Q a b->R a b->C):C:=h.elim fun a h0=>(h0).elim fun b h1=>k a b h1.1 h1.2.1 h1.2.2
theorem oX {α:Sort u}{β:Sort v}{γ:Sort w}{P:α->β->γ->Prop}{Q:α->β->γ->Prop}{C:Prop} (h:∃ a,∃ b,∃ c,P a b c/\Q a b c) (k:∀ a,∀ b,∀ c,P a b c->Q a b c->C):C:=h.elim fun a h0=>(h0).elim fun b h1=>(h1).elim fun c h2=>k a b c h2.1 h2.2
theorem B5 {α:Sort u}{β:Sort v}{P:α->Prop}{Q:α->Prop}{R:α->Prop}{S:α->β->Prop}{C:Prop} (h:∃ a,P a/\Q a/\R a/\∃ b,S a b) (k:∀ a,P a->Q a->R a->∀ b,S a b->C):C:=h.elim fun a h0=>(h0.2.2.2).elim fun b h1=>k a h0.1 h0.2.1 h0.2.2.1 b h1
theorem bG {α:Sort u}{β:Sort v}{P:α->Prop}{Q:α->Prop}{R:α->β->Prop}{S:α->β->Prop}{C:Prop} (h:∃ a,P a/\Q a/\∃ b,R a b/\S a b) (k:∀ a,P a->Q a->∀ b,R a b->S a b->C):C:=h.elim fun a h0=>(h0.2.2).elim fun b h1=>k a h0.1 h0.2.1 b h1.1 h1.2
theorem mS {α:Sort u}{β:Sort v}{P:α->β->Prop}{Q:α->β->Prop}{R:α->β->Prop}{S:α->β->Prop}{C:Prop} (h:∃ a,∃ b,P a b/\Q a b/\R a b/\S a b) (k:∀ a,∀ b,P a b->Q a b->R a b->S a b->C):C:=h.elim fun a h0=>(h0).elim fun b h1=>k a b h1.1 h1.2.1 h1.2.2.1 h1.2.2.2
theorem Df {α:Sort u}{β:Sort v}{γ:Sort w}{P:α->β->γ->Prop}{Q:α->β->γ->Prop}{R:α->β->γ->Prop}{C:Prop} (h:∃ a,∃ b,∃ c,P a b c/\Q a b c/\R a b c) (k:∀ a,∀ b,∀ c,P a b c->Q a b c->R a b c->C):C:=h.elim fun a h0=>(h0).elim fun b h1=>(h1).elim fun c h2=>k a b c h2.1 h2.2.1 h2.2.2
theorem xM {α:Sort u}{β:Sort v}{γ:Sort w}{δ:Sort x}{P:α->β->γ->δ->Prop}{Q:α->β->γ->δ->Prop}{C:Prop} (h:∃ a,∃ b,∃ c,∃ d,P a b c d/\Q a b c d) (k:∀ a,∀ b,∀ c,∀ d,P a b c d->Q a b c d->C):C:=h.elim fun a h0=>(h0).elim fun b h1=>(h1).elim fun c h2=>(h2).elim fun d h3=>k a b c d h3.1 h3.2
theorem yW {P:Prop}{Q:Prop}{R:Prop}{S:Prop}{T:Prop}{U:Prop}{V:Prop}{C:Prop} (h:P/\Q/\R/\S/\T/\U/\V) (k:P->Q->R->S->T->U->V->C):C:=k h.1 h.2.1 h.2.2.1 h.2.2.2.1 h.2.2.2.2.1 h.2.2.2.2.2.1 h.2.2.2.2.2.2
theorem jA {α:Sort u}{β:Sort v}{γ:Sort w}{P:Prop}{Q:α->β->γ->Prop}{R:α->β->γ->Prop}{S:α->β->γ->Prop}{C:Prop} (h:P/\∃ a,∃ b,∃ c,Q a b c/\R a b c/\S a b c) (k:P->∀ a,∀ b,∀ c,Q a b c->R a b c->S a b c->C):C:=(h.2).elim fun a h0=>(h0).elim fun b h1=>(h1).elim fun c h2=>k h.1 a b c h2.1 h2.2.1 h2.2.2
theorem cR {α:Sort u}{β:Sort v}{P:α->Prop}{Q:α->Prop}{R:α->Prop}{S:α->β->Prop}{T:α->β->Prop}{C:Prop} (h:∃ a,P a/\Q a/\R a/\∃ b,S a b/\T a b) (k:∀ a,P a->Q a->R a->∀ b,S a b->T a b->C):C:=h.elim fun a h0=>(h0.2.2.2).elim fun b h1=>k a h0.1 h0.2.1 h0.2.2.1 b h1.1 h1.2
theorem nM {α:Sort u}{β:Sort v}{γ:Sort w}{P:α->Prop}{Q:α->β->γ->Prop}{R:α->β->γ->Prop}{S:α->β->γ->Prop}{C:Prop} (h:∃ a,P a/\∃ b,∃ c,Q a b c/\R a b c/\S a b c) (k:∀ a,P a->∀ b,∀ c,Q a b c->R a b c->S a b c->C):C:=h.elim fun a h0=>(h0.2).elim fun b h1=>(h1).elim fun c h2=>k a h0.1 b c h2.1 h2.2.1 h2.2.2
theorem tM {α:Sort u}{β:Sort v}{γ:Sort w}{P:α->β->γ->Prop}{Q:α->β->γ->Prop}{R:α->β->γ->Prop}{S:α->β->γ->Prop}{C:Prop} (h:∃ a,∃ b,∃ c,P a b c/\Q a b c/\R a b c/\S a b c) (k:∀ a,∀ b,∀ c,P a b c->Q a b c->R a b c->S a b c->C):C:=h.elim fun a h0=>(h0).elim fun b h1=>(h1).elim fun c h2=>k a b c h2.1 h2.2.1 h2.2.2.1 h2.2.2.2
theorem qh {α:Sort u}{β:Sort v}{γ:Sort w}{P:α->β->γ->Prop}{Q:α->β->γ->Prop}{R:α->β->γ->Prop}{S:α->β->γ->Prop}{T:α->β->γ->Prop}{C:Prop} (h:∃ a,∃ b,∃ c,P a b c/\Q a b c/\R a b c/\S a b c/\T a b c) (k:∀ a,∀ b,∀ c,P a b c->Q a b c->R a b c->S a b c->T a b c->C):C:=h.elim fun a h0=>(h0).elim fun b h1=>(h1).elim fun c h2=>k a b c h2.1 h2.2.1 h2.2.2.1 h2.2.2.2.1 h2.2.2.2.2
theorem sU {α:Sort u}{β:Sort v}{γ:Sort w}{P:α->β->γ->Prop}{Q:α->β->γ->Prop}{R:α->β->γ->Prop}{S:α->β->γ->Prop}{T:α->β->γ->Prop}{U:α->β->γ->Prop}{C:Prop} (h:∃ a,∃ b,∃ c,P a b c/\Q a b c/\R a b c/\S a b c/\T a b c/\U a b c) (k:∀ a,∀ b,∀ c,P a b c->Q a b c->R a b c->S a b c->T a b c->U a b c->C):C:=h.elim fun a h0=>(h0).elim fun b h1=>(h1).elim fun c h2=>k a b c h2.1 h2.2.1 h2.2.2.1 h2.2.2.2.1 h2.2.2.2.2.1 h2.2.2.2.2.2
theorem g0 {α:Sort u}{β:Sort v}{γ:Sort w}{P:α->Prop}{Q:α->Prop}{R:α->β->Prop}{S:α->β->Prop}{T:α->β->Prop}{U:α->β->γ->Prop}{V:α->β->γ->Prop}{C:Prop} (h:∃ a,P a/\Q a/\∃ b,R a b/\S a b/\T a b/\∃ c,U a b c/\V a b c) (k:∀ a,P a->Q a->∀ b,R a b->S a b->T a b->∀ c,U a b c->V a b c->C):C:=h.elim fun a h0=>(h0.2.2).elim fun b h1=>(h1.2.2.2).elim fun c h2=>k a h0.1 h0.2.1 b h1.1 h1.2.1 h1.2.2.1 c h2.1 h2.2
theorem kF {α:Sort u}{β:Sort v}{γ:Sort w}{δ:Sort x}{ε:Sort y}{P:α->β->γ->δ->ε->Prop}{Q:α->β->γ->δ->ε->Prop}{R:α->β->γ->δ->ε->Prop}{S:α->β->γ->δ->ε->Prop}{T:α->β->γ->δ->ε->Prop}{C:Prop} (h:∃ a,∃ b,∃ c,∃ d,∃ e,P a b c d e/\Q a b c d e/\R a b c d e/\S a b c d e/\T a b c d e) (k:∀ a,∀ b,∀ c,∀ d,∀ e,P a b c d e->Q a b c d e->R a b c d e->S a b c d e->T a b c d e->C):C:=h.elim fun a h0=>(h0).elim fun b h1=>(h1).elim fun c h2=>(h2).elim fun d h3=>(h3).elim fun e h4=>k a b c d e h4.1 h4.2.1 h4.2.2.1 h4.2.2.2.1 h4.2.2.2.2
theorem lJ {α:Sort u}{β:Sort v}{γ:Sort w}{δ:Sort x}{ε:Sort y}{ζ:Sort z}{P:α->β->γ->δ->Prop}{Q:α->β->γ->δ->Prop}{R:α->β->γ->δ->ε->Prop}{S:α->β->γ->δ->ε->Prop}{T:α->β->γ->δ->ε->ζ->Prop}{C:Prop} (h:∃ a,∃ b,∃ c,∃ d,P a b c d/\Q a b c d/\∃ e,R a b c d e/\S a b c d e/\∃ f,T a b c d e f) (k:∀ a,∀ b,∀ c,∀ d,P a b c d->Q a b c d->∀ e,R a b c d e->S a b c d e->∀ f,T a b c d e f->C):C:=h.elim fun a h0=>(h0).elim fun b h1=>(h1).elim fun c h2=>(h2).elim fun d h3=>(h3.2.2).elim fun e h4=>(h4.2.2).elim fun f h5=>k a b c d h3.1 h3.2.1 e h4.1 h4.2.1 f h5
theorem dm {α:Sort u}{β:Sort v}{γ:Sort w}{δ:Sort x}{ε:Sort y}{P:α->β->γ->δ->ε->Prop}{Q:α->β->γ->δ->ε->Prop}{R:α->β->γ->δ->ε->Prop}{S:α->β->γ->δ->ε->Prop}{T:α->β->γ->δ->ε->Prop}{U:α->β->γ->δ->ε->Prop}{V:α->β->γ->δ->ε->Prop}{C:Prop} (h:∃ a,∃ b,∃ c,∃ d,∃ e,P a b c d e/\Q a b c d e/\R a b c d e/\S a b c d e/\T a b c d e/\U a b c d e/\V a b c d e) (k:∀ a,∀ b,∀ c,∀ d,∀ e,P a b c d e->Q a b c d e->R a b c d e->S a b c d e->T a b c d e->U a b c d e->V a b c d e->C):C:=h.elim fun a h0=>(h0).elim fun b h1=>(h1).elim fun c h2=>(h2).elim fun d h3=>(h3).elim fun e h4=>k a b c d e h4.1 h4.2.1 h4.2.2.1 h4.2.2.2.1 h4.2.2.2.2.1 h4.2.2.2.2.2.1 h4.2.2.2.2.2.2
end
set_option genSizeOf false
set_option genInjectivity false
inductive Tm where
 | v (i:Nat)
 | k (n:Nat)
 | ad (a b:Tm)
 | sb (a b:Tm)
 | ml (n:Nat) (a:Tm)
 | mn (a b:Tm)
 | mx (a b:Tm)
 | tn (a:Tm)
 | ng (a:Tm)
inductive Fm where
 | le (z:Bool) (a b:Tm)
 | lt (z:Bool) (a b:Tm)
 | eq (z:Bool) (a b:Tm)
 | an (a b:Fm)
 | or (a b:Fm)
 | nt (a:Fm)
noncomputable def Tm.d (N:List Nat) (Z:List Int):Tm->Nat×Int
 | .v i=>(N.getD i 0,Z.getD i 0)
 | .k n=>(n,n)
 | .ad a b=>((a.d N Z).1+(b.d N Z).1,(a.d N Z).2+(b.d N Z).2)
 | .sb a b=>((a.d N Z).1 - (b.d N Z).1,(a.d N Z).2 - (b.d N Z).2)
 | .ml n a=>(n * (a.d N Z).1,n * (a.d N Z).2)
 | .mn a b=>(min (a.d N Z).1 (b.d N Z).1,min (a.d N Z).2 (b.d N Z).2)
 | .mx a b=>(max (a.d N Z).1 (b.d N Z).1,max (a.d N Z).2 (b.d N Z).2)
 | .tn a=>((a.d N Z).2.toNat,(a.d N Z).1)
 | .ng a=>(0,-(a.d N Z).2)
noncomputable def Fm.d (N:List Nat) (Z:List Int):Fm->Prop
 | .le z a b=>cond z ((a.d N Z).2<=(b.d N Z).2) ((a.d N Z).1<=(b.d N Z).1)
 | .lt z a b=>cond z ((a.d N Z).2 < (b.d N Z).2) ((a.d N Z).1 < (b.d N Z).1)
 | .eq z a b=>cond z ((a.d N Z).2=(b.d N Z).2) ((a.d N Z).1=(b.d N Z).1)
 | .an a b=>a.d N Z/\b.d N Z
 | .or a b=>a.d N Z\/b.d N Z
 | .nt a=>¬ a.d N Z
abbrev Li:=Int×List Int
noncomputable def FR (a b:Int):List Int->List Int->List Int
 | [],m=>m.map (b * ·)
 | x::l,m=>(a * x+b * m.headD 0)::FR a b l m.tail
noncomputable def Fv (a:Int) (x:Li) (b:Int) (y:Li):Li:=(a * x.1+b * y.1,FR a b x.2 y.2)
noncomputable def xw (x y:Li):Li:=Fv 1 x (-1) y
noncomputable def GH (i:Nat):Li:=(0,be i 0++[1])
noncomputable def AG (ρ:Nat->Int):Nat->List Int->Int
 | _,[]=>0
 | i,c::l=>c * ρ i+AG ρ (i+1) l
noncomputable def evC (ρ:Nat->Int) (i:Nat) (x:Li):Int:=x.1+AG ρ i x.2
noncomputable def Tm.al:Bool->Tm->(Li->List Li->Bool)->List Li->Bool
 | z,.v i,q,C=>q (GH (cond z (2 * i+1) (2 * i))) C
 | _,.k n,q,C=>q (n,[]) C
 | z,.ad a b,q,C=>a.al z (fun x=>b.al z fun y=>q (Fv 1 x 1 y)) C
 | z,.sb a b,q,C=>a.al z (fun x=>b.al z fun y C=>cond z (q (xw x y) C) (q (xw x y) (xw x y::C) && q (0,[]) (xw y x::C))) C
 | z,.ml n a,q,C=>a.al z (fun x=>q (Fv n x 0 x)) C
 | z,.mn a b,q,C=>a.al z (fun x=>b.al z fun y C=>q x (xw y x::C) && q y (xw x y::C)) C
 | z,.mx a b,q,C=>a.al z (fun x=>b.al z fun y C=>q x (xw x y::C) && q y (xw y x::C)) C
 | z,.tn a,q,C=>a.al (!z) (fun x C=>cond z (q x C) (q x (x::C) && q (0,[]) (Fv (-1) x 0 x::C))) C
 | z,.ng a,q,C=>a.al z (fun x C=>cond z (q (Fv (-1) x 0 x) C) (q (0,[]) C)) C
noncomputable def HJ (x y:Li):Li:=Fv 1 (xw y x) (-1) (1,[])
noncomputable def Fm.al:Bool->Fm->(List Li->Bool)->List Li->Bool
 | s,.le z a b,k,C=>a.al z (fun x=>b.al z fun y C=>k (cond s (xw y x) (HJ y x)::C)) C
 | s,.lt z a b,k,C=>a.al z (fun x=>b.al z fun y C=>k (cond s (HJ x y) (xw x y)::C)) C
 | s,.eq z a b,k,C=>a.al z (fun x=>b.al z fun y C=>cond s (k (xw x y::xw y x::C)) (k (HJ x y::C) && k (HJ y x::C))) C
 | s,.an a b,k,C=>cond s (a.al s (b.al s k) C) (a.al s k C && b.al s k C)
 | s,.or a b,k,C=>cond s (a.al s k C && b.al s k C) (a.al s (b.al s k) C)
 | s,.nt a,k,C=>a.al (!s) k C
noncomputable def HV (x:Li):Li:=(x.1,x.2.tail)
noncomputable def elim (C:List Li):List Li:=(C.filter fun x=>x.2.headD 0 == 0).map HV ++
 (C.filter fun x=>decide (0 < x.2.headD 0)).flatMap fun x=>(C.filter fun x=>decide (x.2.headD 0 < 0)).map fun y=>Fv (-y.2.headD 0) (HV x) (x.2.headD 0) (HV y)
noncomputable def H3 {α:Type} (i:Int) (k:Int->α):α:=match i with
 | .ofNat n=>(match n with
  | 0=>k 0
  | m+1=>k (.ofNat (m+1)))
 | .negSucc n=>(match n with
  | 0=>k (-1)
  | m+1=>k (.negSucc (m+1)))
noncomputable def IC {α:Type}:List Int->(List Int->α)->α
 | [],k=>k []
 | x::l,k=>H3 x fun x=>IC l fun l=>k (x::l)
noncomputable def HY:List Li->(List Li->Bool)->Bool
 | [],k=>k []
 | x::C,k=>H3 x.1 fun c=>IC x.2 fun l=>HY C fun C=>k ((c,l)::C)
noncomputable def Go:Nat->List Li->Bool
 | 0,C=>C.any fun x=>x.2.isEmpty && decide (x.1 < 0)
 | n+1,C=>HY (elim C) (Go n)
noncomputable def zF (N:List Nat) (Z:List Int) (p:Nat):Int:=cond (p % 2 == 0) (N.getD (p / 2) 0:Nat) (Z.getD (p / 2) 0)
section
variable {N:List Nat}{Z:List Int}
noncomputable def Aj (ρ:Nat->Int) (i:Nat) (C:List Li):Prop:=∀ x∈C,0<=evC ρ i x
theorem Ez (ρ:Nat->Int) (b:Int) (l:List Int):∀ i,AG ρ i (l.map (b * ·))=b * AG ρ i l:=by
 induction l with
 | nil=>exact fun J=>(Int.mul_zero b).symm
 | cons c l ih=>exact fun i=>(congrArg (b * c * ρ i+·) (ih _)).trans (by rw [Int.mul_assoc,<- Int.mul_add];rfl)
theorem A3 (ρ:Nat->Int) (i:Nat) (l:List Int):AG ρ i l=l.headD 0 * ρ i+AG ρ (i+1) l.tail:=by
 cases l with
 | nil=>exact ((dH _).trans (kt _)).symm
 | cons c l=>rfl
theorem D5 (ρ:Nat->Int) (a b:Int) (l:List Int):∀ i m,AG ρ i (FR a b l m)=a * AG ρ i l+b * AG ρ i m:=by
 induction l with
 | nil=>exact fun i m=>(Ez ρ b m i).trans (by rw [show AG ρ i []=0 from rfl,Int.mul_zero,ct])
 | cons c l ih=>
  intro i m;rw [A3 ρ i m];exact (congrArg ((a * c+b * m.headD 0) * ρ i+·) (ih _ _)).trans (by rw [show AG ρ i (c::l)=c * ρ i+AG ρ (i+1) l from rfl];grind)
theorem iR (ρ:Nat->Int) (i:Nat) (a b:Int) (x y:Li):evC ρ i (Fv a x b y)=a * evC ρ i x+b * evC ρ i y:=
 (congrArg (a * x.1+b * y.1+·) (D5 ρ a b x.2 i y.2)).trans (by unfold evC;grind)
theorem iz {ρ:Nat->Int}{x y:Li}{a b:Int} (hx:evC ρ 0 x=a) (hy:evC ρ 0 y=b):evC ρ 0 (xw x y)=a - b:=by
 rw [<- hx,<- hy];exact (iR ρ 0 1 (-1) x y).trans (by omega)
theorem ux {ρ:Nat->Int}{x y:Li}{a b:Int} (hx:evC ρ 0 x=a) (hy:evC ρ 0 y=b):evC ρ 0 (HJ x y)=b - a - 1:=by
 have:evC ρ 0 (1,[])=1:=rfl
 exact (iR ρ 0 1 (-1) (xw y x) (1,[])).trans (by rw [iz hy hx,this];omega)
theorem rx (ρ:Nat->Int):∀ p i,evC ρ i (GH p)=ρ (i+p):=fun p=>by
 induction p with
 | zero=>exact fun i=>(ct _).trans ((dH _).trans (ph _))
 | succ p ih=>exact fun i=>(congrArg (0+·) (congrArg (·+_) (kt (ρ i)))).trans ((congrArg (0+·) (ct _)).trans ((ih (i+1)).trans (congrArg ρ (by omega))))
theorem Aj.cons {ρ:Nat->Int}{i:Nat}{x:Li}{C:List Li} (h:0<=evC ρ i x) (k:Aj ρ i C):Aj ρ i (x::C):=List.forall_mem_cons.mpr ⟨h,k⟩
noncomputable def Sn (ρ:Nat->Int) (v:Int) (F:(Li->List Li->Bool)->List Li->Bool):Prop:=∀ q C,F q C=true->Aj ρ 0 C->(∀ x C',evC ρ 0 x=v->Aj ρ 0 C'->q x C'=true->False)->False
theorem kC {a b:Bool} (h:(a && b)=true):a=true/\b=true:=by
 cases a with
 | true=>exact ⟨rfl,h⟩
 | false=>cases h
theorem Fo (i:Nat):zF N Z (0+2 * i)=(N.getD i 0:Nat):=by
 unfold zF;rw [di,Nat.mul_mod_right,Nat.mul_div_cancel_left i (by decide)];rfl
theorem Hs (i:Nat):zF N Z (0+(2 * i+1))=Z.getD i 0:=by
 unfold zF;rw [di,show (2 * i+1) % 2=1 from by omega,show (2 * i+1) / 2=i from by omega];rfl
theorem Fk {n:Nat} (h:n=0):(0:Int)=(n:Int):=by subst h;rfl
theorem yZ (t:Tm):Sn (zF N Z) (t.d N Z).1 (t.al false)/\Sn (zF N Z) (t.d N Z).2 (t.al true):=by
 induction t with
 | v i=>exact ⟨fun q C h ok f=>f _ C ((rx _ _ 0).trans (Fo i)) ok h,fun q C h ok f=>f _ C ((rx _ _ 0).trans (Hs i)) ok h⟩
 | k n=>exact ⟨fun q C h ok f=>f _ C (dH _) ok h,fun q C h ok f=>f _ C (dH _) ok h⟩
 | ad a b iha ihb=>exact ⟨fun q C h ok f=>iha.1 _ C h ok fun x C ex ok h=>ihb.1 _ C h ok fun y C ey ok h=>f _ C ((iR _ 0 1 1 x y).trans (by rw [ex,ey,ph,ph];rfl)) ok h,
   fun q C h ok f=>iha.2 _ C h ok fun x C ex ok h=>ihb.2 _ C h ok fun y C ey ok h=>f _ C ((iR _ 0 1 1 x y).trans (by rw [ex,ey,ph,ph];rfl)) ok h⟩
 | sb a b iha ihb=>
  refine ⟨fun q C h ok f=>iha.1 _ C h ok fun x C ex ok h=>ihb.1 _ C h ok fun y C ey ok h=>?_,fun q C h ok f=>iha.2 _ C h ok fun x C ex ok h=>ihb.2 _ C h ok fun y C ey ok h=>f _ C (iz ex ey) ok h⟩;have e1:=iz ex ey;have e2:=iz ey ex;rcases ku (b.d N Z).1 (a.d N Z).1 with z | z
  ·exact f _ _ (e1.trans (Int.ofNat_sub z).symm) (.cons (by omega) ok) (kC h).1
  ·exact f (0,[]) _ (Fk (Nat.sub_eq_zero_of_le z)) (.cons (by omega) ok) (kC h).2
 | ml n a ih=>exact ⟨fun q C h ok f=>ih.1 _ C h ok fun x C ex ok h=>f _ C ((iR _ 0 n 0 x x).trans (by rw [ex,kt,dH];rfl)) ok h,fun q C h ok f=>ih.2 _ C h ok fun x C ex ok h=>f _ C ((iR _ 0 n 0 x x).trans (by rw [ex,kt,dH];rfl)) ok h⟩
 | mn a b iha ihb=>
  refine ⟨fun q C h ok f=>iha.1 _ C h ok fun x C ex ok h=>ihb.1 _ C h ok fun y C ey ok h=>?_,fun q C h ok f=>iha.2 _ C h ok fun x C ex ok h=>ihb.2 _ C h ok fun y C ey ok h=>?_⟩
  all_goals
   have e1:=iz ex ey;have e2:=iz ey ex
  ·rcases ku (a.d N Z).1 (b.d N Z).1 with z | z
   ·exact f x _ (ex.trans (congrArg Int.ofNat (fj z).symm)) (.cons (by omega) ok) (kC h).1
   ·exact f y _ (ey.trans (congrArg Int.ofNat (mG z).symm)) (.cons (by omega) ok) (kC h).2
  ·rcases Int.le_total (a.d N Z).2 (b.d N Z).2 with z | z
   ·exact f x _ (ex.trans (Int.min_eq_left z).symm) (.cons (by omega) ok) (kC h).1
   ·exact f y _ (ey.trans (Int.min_eq_right z).symm) (.cons (by omega) ok) (kC h).2
 | mx a b iha ihb=>
  refine ⟨fun q C h ok f=>iha.1 _ C h ok fun x C ex ok h=>ihb.1 _ C h ok fun y C ey ok h=>?_,fun q C h ok f=>iha.2 _ C h ok fun x C ex ok h=>ihb.2 _ C h ok fun y C ey ok h=>?_⟩
  all_goals
   have e1:=iz ex ey;have e2:=iz ey ex
  ·rcases ku (b.d N Z).1 (a.d N Z).1 with z | z
   ·exact f x _ (ex.trans (congrArg Int.ofNat (Nat.max_eq_left z).symm)) (.cons (by omega) ok) (kC h).1
   ·exact f y _ (ey.trans (congrArg Int.ofNat (Nat.max_eq_right z).symm)) (.cons (by omega) ok) (kC h).2
  ·rcases Int.le_total (b.d N Z).2 (a.d N Z).2 with z | z
   ·exact f x _ (ex.trans (Int.max_eq_left z).symm) (.cons (by omega) ok) (kC h).1
   ·exact f y _ (ey.trans (Int.max_eq_right z).symm) (.cons (by omega) ok) (kC h).2
 | tn a ih=>
  refine ⟨fun q C h ok f=>ih.2 _ C h ok fun x C ex ok h=>?_,ih.1⟩;rcases Int.le_total 0 (a.d N Z).2 with z | z
  ·exact f x _ (ex.trans (Int.toNat_of_nonneg z).symm) (.cons (by omega) ok) (kC h).1
  ·exact f (0,[]) _ (Fk (Int.toNat_of_nonpos z)) (.cons (by rw [iR,ex];omega) ok) (kC h).2
 | ng a ih=>exact ⟨fun q C h ok f=>ih.1 _ C h ok fun x C ex ok h=>f _ C rfl ok h,fun q C h ok f=>ih.2 _ C h ok fun x C ex ok h=>f _ C ((iR _ 0 (-1) 0 x x).trans (by rw [ex,kt,dH,Int.neg_one_mul];rfl)) ok h⟩
noncomputable def Rf (ρ:Nat->Int) (P:Prop) (F:(List Li->Bool)->List Li->Bool):Prop:=∀ q C,F q C=true->Aj ρ 0 C->P->(∀ C',Aj ρ 0 C'->q C'=true->False)->False
theorem oD {z:Bool}{a b:Tm}{q:Li->Li->List Li->Bool}{C:List Li} (h:a.al z (fun x=>b.al z fun y=>q x y) C=true) (ok:Aj (zF N Z) 0 C)
  (k:∀ x y C',evC (zF N Z) 0 x=cond z (a.d N Z).2 ((a.d N Z).1:Nat)->evC (zF N Z) 0 y=cond z (b.d N Z).2 ((b.d N Z).1:Nat)->Aj (zF N Z) 0 C'->q x y C'=true->False):False:=by
 cases z with
 | false=>exact (yZ a).1 _ C h ok fun x C ex ok h=>(yZ b).1 _ C h ok fun y C ey ok h=>k x y C ex ey ok h
 | true=>exact (yZ a).2 _ C h ok fun x C ex ok h=>(yZ b).2 _ C h ok fun y C ey ok h=>k x y C ex ey ok h
theorem Ff (f:Fm):Rf (zF N Z) (f.d N Z) (f.al true)/\Rf (zF N Z) (¬ f.d N Z) (f.al false):=by
 induction f with
 | le z a b=>
  refine ⟨fun q C h ok p f=>oD h ok fun x y C ex ey ok h=>f _ (.cons ?_ ok) h,fun q C h ok p f=>oD h ok fun x y C ex ey ok h=>f _ (.cons ?_ ok) h⟩
  ·rw [cond,iz ey ex];cases z with
   | true=>exact bX p
   | false=>exact bX (Int.ofNat_le.mpr p)
  ·rw [cond,ux ey ex];cases z with
   | true=>exact bX (fK (Int.not_le.mp p))
   | false=>exact bX (fK (Int.ofNat_lt.mpr (Nat.not_le.mp p)))
 | lt z a b=>
  refine ⟨fun q C h ok p f=>oD h ok fun x y C ex ey ok h=>f _ (.cons ?_ ok) h,fun q C h ok p f=>oD h ok fun x y C ex ey ok h=>f _ (.cons ?_ ok) h⟩
  ·rw [cond,ux ex ey];cases z with
   | true=>exact bX (fK p)
   | false=>exact bX (fK (Int.ofNat_lt.mpr p))
  ·rw [cond,iz ex ey];cases z with
   | true=>exact bX (Int.not_lt.mp p)
   | false=>exact bX (Int.ofNat_le.mpr (dS.mp p))
 | eq z a b=>
  have e:(Fm.eq z a b).d N Z->(cond z (a.d N Z).2 ((a.d N Z).1:Nat):Int)=cond z (b.d N Z).2 ((b.d N Z).1:Nat):=fun p=>by
   cases z with
   | true=>exact p
   | false=>exact congrArg Nat.cast p
  have e':¬ (Fm.eq z a b).d N Z->(cond z (a.d N Z).2 ((a.d N Z).1:Nat):Int)≠cond z (b.d N Z).2 ((b.d N Z).1:Nat):=fun p=>by
   cases z with
   | true=>exact p
   | false=>exact fun r=>p (Int.ofNat.inj r)
  refine ⟨fun q C h ok p f=>oD h ok fun x y C ex ey ok h=>f _ (.cons ?_ (.cons ?_ ok)) h,fun q C h ok p f=>oD h ok fun x y C ex ey ok h=>?_⟩
  ·rw [iz ex ey,e p,Int.sub_self];exact Int.le_refl _
  ·rw [iz ey ex,e p,Int.sub_self];exact Int.le_refl _
  ·rcases Int.lt_or_gt_of_ne (e' p) with r | r
   ·exact f _ (.cons (by rw [ux ex ey];exact bX (fK r)) ok) (kC h).1
   ·exact f _ (.cons (by rw [ux ey ex];exact bX (fK r)) ok) (kC h).2
 | an a b iha ihb=>
  refine ⟨fun q C h ok p f=>iha.1 _ C h ok p.1 fun C ok h=>ihb.1 _ C h ok p.2 f,fun q C h ok p f=>?_⟩;by_cases r:a.d N Z
  ·exact ihb.2 _ C (kC h).2 ok (fun z=>p ⟨r,z⟩) f
  ·exact iha.2 _ C (kC h).1 ok r f
 | or a b iha ihb=>
  exact ⟨fun q C h ok p f=>p.elim (fun p=>iha.1 _ C (kC h).1 ok p f) fun p=>ihb.1 _ C (kC h).2 ok p f,
   fun q C h ok p f=>iha.2 _ C h ok (fun z=>p (.inl z)) fun C ok h=>ihb.2 _ C h ok (fun z=>p (.inr z)) f⟩
 | nt a ih=>exact ⟨fun q C h ok p f=>ih.2 _ C h ok p f,fun q C h ok p f=>ih.1 _ C h ok (Classical.not_not.mp p) f⟩
theorem Dv (ρ:Nat->Int) (i:Nat) (x:Li):evC ρ i x=x.2.headD 0 * ρ i+evC ρ (i+1) (HV x):=by
 unfold evC;rw [A3 ρ i x.2,Int.add_left_comm];rfl
theorem Ei {ρ:Nat->Int}{i:Nat}{C:List Li} (h:Aj ρ i C):Aj ρ (i+1) (elim C):=fun z hz=>by
 rcases aM.mp hz with hz | hz
 ·refine bO (aB.mp hz) ?_;intro x hx e
  refine xA (aT.mp hx) ?_;intro hx e2
  have:=h x hx
  rw [Dv,eq_of_beq e2,kt,ct] at this;exact e ▸ this
 ·refine bO (mH.mp hz) ?_;intro x hx hz
  refine bO (aB.mp hz) ?_;intro y hy e;refine xA (aT.mp hx) ?_;intro hx px;refine xA (aT.mp hy) ?_;intro hy py;have px:=of_decide_eq_true px;have py:=of_decide_eq_true py;have h1:=h x hx;have h2:=h y hy;rw [Dv] at h1 h2;rw [<- e,iR];generalize y.2.headD 0=b at *
  generalize x.2.headD 0=a at *
  have q1:=Int.mul_nonneg (Int.le_of_lt (Int.neg_pos_of_neg py)) h1;have q2:=Int.mul_nonneg (Int.le_of_lt px) h2
  grind
theorem Cr {α:Type} (i:Int) (k:Int->α):H3 i k=k i:=by
 cases i with
 | _ n=>cases n<;>rfl
theorem FW {α:Type} (l:List Int):∀ k:List Int->α,IC l k=k l:=by
 induction l with
 | nil=>exact fun J=>rfl
 | cons x l ih=>exact fun k=>(Cr _ _).trans (ih _)
theorem AU (C:List Li):∀ k:List Li->Bool,HY C k=k C:=by
 induction C with
 | nil=>exact fun J=>rfl
 | cons x l ih=>exact fun k=>(Cr _ _).trans ((FW _ _).trans (ih _))
theorem E5 {ρ:Nat->Int}:∀ (n i:Nat) (C:List Li),Go n C=true->Aj ρ i C->False:=fun n=>by
 induction n with
 | zero=>
  intro i C h ok;refine bO (dM.mp h) ?_;intro x hx e;have e:=kC e
  have:=ok x hx
  unfold evC at this;rw [List.isEmpty_iff.mp e.1] at this;exact Int.not_lt.mpr this ((dH x.1).symm ▸ of_decide_eq_true e.2)
 | succ n ih=>exact fun i C h ok=>ih (i+1) _ ((AU _ _).symm.trans h) (Ei ok)
noncomputable def t2 (f:Tm->Tm->Tm) (ts:List Tm):List Tm:=f (ts.tail.headD (.k 0)) (ts.headD (.k 0))::ts.tail.tail
noncomputable def t1 (f:Tm->Tm) (ts:List Tm):List Tm:=f (ts.headD (.k 0))::ts.tail
noncomputable def Jq:Tm->Tm->Tm
 | .k n,b=>.ml n b
 | a,_=>a
noncomputable def Jk (d:Nat) (ts:List Tm):List Tm:=cond (d == 0) (t2 .mn ts) (cond (d == 1) (t2 .mx ts) (cond (d == 2) (t1 .tn ts) (cond (d == 3) (t1 .ng ts) (t2 Jq ts))))
noncomputable def H7 (d:Nat) (z:Bool) (a b:Tm):Fm:=cond (d == 0) (.le z a b) (cond (d == 1) (.lt z a b) (.eq z a b))
noncomputable def Jj (d:Nat) (z:Bool) (ts:List Tm):Fm:=H7 d z (ts.tail.headD (.k 0)) (ts.headD (.k 0))
noncomputable def Ib (d:Nat):List Fm->List Fm
 | b::fs=>cond (d == 2) (.nt b::fs) (match fs with
  | a::fs=>cond (d == 0) (.an a b) (.or a b)::fs
  | []=>[])
 | []=>[]
noncomputable def rd:Nat->Nat->List Tm->List Fm->List Fm
 | 0,_,_,fs=>fs
 | f+1,n,ts,fs=>cond (n == 0) fs (cond (Nat.ble (n % 16) 7) (rd f (n / 16) (.v (n % 16)::ts) fs) (cond (n % 16 == 8) (rd f (n / 256) (.k (n / 16 % 16)::ts) fs)
  (cond (n % 16 == 9) (rd f (n / 256 / 256 ^ (n / 16 % 16)) (.k (n / 256 % 256 ^ (n / 16 % 16))::ts) fs) (cond (n % 16 == 10) (rd f (n / 16) (t2 .ad ts) fs) (cond (n % 16 == 11) (rd f (n / 16) (t2 .sb ts) fs)
   (cond (n % 16 == 12) (rd f (n / 256) (Jk (n / 16 % 16) ts) fs) (cond (n % 16 == 15) (rd f (n / 256) ts (Ib (n / 16 % 16) fs)) (rd f (n / 256) [] (Jj (n / 16 % 16) (n % 16 == 14) ts::fs)))))))))
noncomputable def Iq:List Fm->List Li->Bool
 | [],C=>HY C (Go 16)
 | f::r,C=>f.al true (Iq r) C
noncomputable def Hp:List Fm->Bool
 | []=>false
 | g::r=>g.al false (Iq r) ((ax 8).map fun i=>GH (2 * i))
noncomputable def FO (N:List Nat) (Z:List Int):List Fm->Prop->Prop
 | [],P=>P
 | f::r,P=>FO N Z r (f.d N Z->P)
noncomputable def HF (N:List Nat) (Z:List Int):List Fm->Prop
 | []=>True
 | g::r=>FO N Z r (g.d N Z)
theorem EL:∀ (r:List Fm) {P:Prop},((∀ f∈r,f.d N Z)->P)->FO N Z r P:=fun r=>by
 induction r with
 | nil=>exact fun h=>h fun J q=>nomatch q
 | cons f r ih=>exact fun h=>ih fun hr hf=>h (List.forall_mem_cons.mpr ⟨hf,hr⟩)
theorem FF:∀ (r:List Fm) (C:List Li),Iq r C=true->Aj (zF N Z) 0 C->(∀ f∈r,f.d N Z)->False:=fun r=>by
 induction r with
 | nil=>exact fun C h ok J=>E5 16 0 C ((AU _ _).symm.trans h) ok
 | cons f r ih=>exact fun C h ok a=>(Ff f).1 _ C h ok (a f (.head _)) fun C ok h=>ih C h ok fun f q=>a f (.tail _ q)
noncomputable def Io (n:Nat):Bool:=Hp (rd 300 n [] [])
abbrev G7 (n:Nat):Prop:=Io n=true
theorem pz (N:List Nat) (Z:List Int) (n:Nat) (h:G7 n:=by kernel_rfl):HF N Z (rd 300 n [] []):=by
 have h:Hp (rd 300 n [] [])=true:=h;generalize rd 300 n [] []=l at *
 cases l with
 | nil=>trivial
 | cons g r=>
  refine EL r fun a=>Classical.byContradiction fun q=>(Ff g).2 _ _ h (fun x hx=>?_) q fun C ok h=>FF r C h ok a;refine bO (aB.mp hx) ?_;intro i _ e;rw [<- e,rx,Fo];exact Int.natCast_nonneg _
theorem pn (N:List Nat) (n:Nat) (h:G7 n:=by kernel_rfl):HF N [] (rd 300 n [] []):=pz N [] n h
end
end Mine
end
open Lean in
local macro_rules
 | `(tactic| rw [$rs,*])=>do
  let mut ts:Array (TSyntax `tactic):=#[]
  for r in rs.getElems do
   match r with
   | `(Parser.Tactic.rwRule| <- $e:term)=>ts:=ts.push (<- `(tactic| first | refine Mine.Jm $e ?_ | rewrite [<- $e]))
   | `(Parser.Tactic.rwRule| $e:term)=>ts:=ts.push (<- `(tactic| first | refine Mine.Jg $e ?_ | rewrite [$e:term]))
   | _=>Macro.throwUnsupported
  ts:=ts.push (<- `(tactic| try with_reducible rfl))
  `(tactic| ($[$ts]*))
section
namespace Mine
noncomputable section
noncomputable def t9 (x:Str):List Stmt->Option (Scope×List Stmt)
 | []=>none
 | .FunctionDef n _ b _ _ _ s _ _ _::r=>if n == x then some (s,b) else t9 x r
 | _::r=>t9 x r
noncomputable def yi (x:Str):List Stmt->List Stmt
 | []=>[]
 | .ClassDef n _ _ b _ _ _ _ _ _ _::r=>if n == x then b else yi x r
 | _::r=>yi x r
noncomputable def EH:List Stmt:=PySem.Challenge.pw_wz0028_02.main.body
noncomputable def yc (x:Str):Scope×List Stmt:=(t9 x EH).getD default
noncomputable def GY (c x:Str):Scope×List Stmt:=(t9 x (yi c EH)).getD default
noncomputable def Fp:Nat->Scope×List Stmt
 | 122=>yc "add_callers" | 129=>yc "count_calls" | 139=>yc "ISTERMINAL" | 146=>yc "ISNONTERMINAL" | 153=>yc "ISEOF"
 | 158=>yc "_law_page" | 163=>yc "_law_symbols" | 168=>yc "_law_hang" | 173=>yc "_law_farther" | 178=>yc "_law_table" | 183=>yc "_law_walk" | 188=>yc "_law_blocks" | 193=>yc "_law_flow" | 198=>yc "_law_pieces" | 203=>yc "law"
 | 38=>GY "Whitespace" "__init__" | 45=>GY "Whitespace" "longest_run_of_spaces" | 52=>GY "Whitespace" "indent_level" | 73=>GY "Whitespace" "less"
 | 101=>GY "TupleComp" "__init__" | 108=>GY "TupleComp" "compare"
 | _=>default
noncomputable def db (a:Addr):List Stmt:=(Fp a).2
noncomputable def c6 (a:Addr):Scope:=(Fp a).1
noncomputable def qj (K:Frag) (a:Addr):Option FuncData:=match K.lookup a with
 | some ⟨_,_,.func fd,_⟩=>some fd
 | _=>none
set_option tactic.hygienic true in
theorem Hl {K:Frag}{a:Addr}{fd:FuncData} (h:qj K a=some fd):∃ ob,K.lookup a=some ob/\ob.data=.func fd:=by
 unfold qj at h;split at h
 ·rename_i e;cases h;exact ⟨_,e,rfl⟩
 ·cases h
noncomputable def wM (K:Frag) (fd:FuncData):Bool:=match fd.code with
 | .ref c=>(match K.lookup c with
  | some ⟨_,_,Data.fields vs,_⟩=>(match (vs[1]?:Option Value) with
   | some (Value.str q _)=>q == fd.qualname
   | _=>false)
  | _=>false)
 | _=>false
set_option tactic.hygienic true in
theorem Ea {K:Frag}{h:Heap} (X:K.In h) {fd:FuncData} (e:wM K fd=true):h.CodeRec fd.code fd.qualname:=by
 unfold wM at e;split at e
 ·rename_i c hc
  split at e
  ·rename_i vs _ ho
   split at e
   ·rename_i q t hq
    have e:q=fd.qualname:=by simpa using e
    exact ⟨c,_,vs,t,hc,X _ _ ho,rfl,by rw [hq,e]⟩
   ·cases e
  ·cases e
 ·cases e
structure pF (K:Frag) (a:Addr) (params:List Str):Prop where
 keep:keepIn K (.ref a)=true
 fd:qj K a=some ((qj K a).getD default)
 code:wM K ((qj K a).getD default)=true
 at_:((qj K a).getD default).closure=[]/\((qj K a).getD default).globals=mainGlobals/\((qj K a).getD default).builtins=builtinsNs/\((qj K a).getD default).body=.stmts (db a)/\((qj K a).getD default).scope=c6 a
 bind:∀ vals:List Value,vals.length=params.length->bindArgs ((qj K a).getD default) ⟨vals,[]⟩=pure (params.zip vals)
noncomputable def bM (K:Frag) (x:Str):Option Value:=match K.lookup 3 with
 | some ⟨_,_,Data.dict es _,_⟩=>nsFind es x
 | _=>none
noncomputable def sN (K:Frag):List DictEntry:=match K.lookup 130 with
 | some ⟨_,_,Data.dict es _,_⟩=>es.toList
 | _=>[]
noncomputable def CB (x:Str):List Stmt->Int
 | []=>0
 | .Assign [.Name n _] (.Constant (.int i) _ _) _::r=>if n == x then i else CB x r
 | _::r=>CB x r
noncomputable def BW:List (Option Expr)->List Expr->List (Str×Int)
 | some (.Constant (.str x) _ _)::ks,.Name n _::vs=>(x,CB n EH)::BW ks vs
 | _,_=>[]
noncomputable def wS:List Stmt->List (Str×Int)
 | []=>[]
 | .Assign [.Name n _] (.Dict ks vs _) _::r=>if n == ("EXACT_TOKEN_TYPES":Str) then BW ks vs else wS r
 | _::r=>wS r
noncomputable def lc:List (Str×Int):=wS EH
noncomputable def EV (a:Str):Bool:=a == ("raw":Str) || a == ("n":Str) || a == ("nt":Str) || a == ("norm":Str) || a == ("is_simple":Str)
noncomputable def pZ (P:Params):List DictEntry->Prop
 | []=>True
 | e::r=>(∃ x t,e.key=.str x t/\e.hash=PyData.keyHash P x)/\pZ P r
noncomputable def iX:List DictEntry->List (Str×Value)
 | []=>[]
 | ⟨_,.str x _,v⟩::r=>(x,v)::iX r
 | _::r=>iX r
noncomputable def lS (kvs:List (Str×Value)) (t:List (Str×Int)):Prop:=kvs.map (fun p=>(p.1,match p.2 with | .int i _=>some i | _=>none))=t.map fun p=>(p.1,some p.2)
structure HW (P:Params) (K:Frag):Prop where
 n3:∃ c d es n sl,K.lookup 3=some ⟨c,d,Data.dict es n,sl⟩
 gfn:bM K "add_callers"=some (.ref 122)/\bM K "count_calls"=some (.ref 129)/\bM K "ISTERMINAL"=some (.ref 139)/\bM K "ISNONTERMINAL"=some (.ref 146)/\bM K "ISEOF"=some (.ref 153)
 gl1:bM K "_law_page"=some (.ref 158)/\bM K "_law_symbols"=some (.ref 163)/\bM K "_law_hang"=some (.ref 168)/\bM K "_law_farther"=some (.ref 173)/\bM K "_law_table"=some (.ref 178)
 gl2:bM K "_law_walk"=some (.ref 183)/\bM K "_law_blocks"=some (.ref 188)/\bM K "_law_flow"=some (.ref 193)/\bM K "_law_pieces"=some (.ref 198)/\bM K "law"=some (.ref 203)
 gval:bM K "ENDMARKER"=some (.int 0 362)/\bM K "NT_OFFSET"=some (.int 256 460)/\bM K "EXACT_TOKEN_TYPES"=some (.ref 130)/\bM K "Whitespace"=some (.ref 83)/\bM K "TupleComp"=some (.ref 111)
 non1:bM K "len"=none/\bM K "max"=none/\bM K "min"=none/\bM K "sum"=none/\bM K "str"=none/\bM K "ord"=none/\bM K "tuple"=none/\bM K "isinstance"=none
 non2:bM K "list"=none/\bM K "set"=none/\bM K "sorted"=none/\bM K "range"=none/\bM K "enumerate"=none/\bM K "zip"=none
 keep:keepIn K (.ref 83)=true/\keepIn K (.ref 111)=true
 f1:pF K 122 ["target","source"]/\pF K 129 ["callers"]/\pF K 139 ["x"]/\pF K 146 ["x"]/\pF K 153 ["x"]
 f2:pF K 158 ["script"]/\pF K 163 ["line","start"]/\pF K 168 ["spaces"]/\pF K 173 ["leads"]/\pF K 178 ["symbols","owners"]
 f3:pF K 183 ["table","order","pieces"]/\pF K 188 ["leads"]/\pF K 193 ["table","some","others"]/\pF K 198 ["pairs","nodes"]/\pF K 203 ["script"]
 f4:pF K 38 ["self","ws"]/\pF K 45 ["self"]/\pF K 52 ["self","tabsize"]/\pF K 73 ["self","other"]/\pF K 101 ["self","comp_select_list"]/\pF K 108 ["self","left","right"]
 p1:plainGet K 83 "longest_run_of_spaces"=true/\plainGet K 83 "indent_level"=true/\plainGet K 83 "less"=true/\plainGet K 111 "compare"=true
 p2:∀ a,EV a=true->plainGet K 83 a=true/\findIn K (.ref 83) a=some none/\takerIn K 83 a=some none
 p3:plainGet K 111 "comp_select_list"=true/\findIn K (.ref 111) "comp_select_list"=some none/\takerIn K 111 "comp_select_list"=some none
 m2:findIn K (.ref 83) "longest_run_of_spaces"=some (some (.ref 45))/\findIn K (.ref 83) "indent_level"=some (some (.ref 52))/\findIn K (.ref 83) "less"=some (some (.ref 73))/\findIn K (.ref 111) "compare"=some (some (.ref 108))/\findIn K (.ref 83) "__init__"=some (some (.ref 38))/\findIn K (.ref 111) "__init__"=some (some (.ref 101))
 m3:typeIn K (.ref 45)=some (.type "function")/\typeIn K (.ref 52)=some (.type "function")/\typeIn K (.ref 73)=some (.type "function")/\typeIn K (.ref 108)=some (.type "function")/\typeIn K (.ref 38)=some (.type "function")/\typeIn K (.ref 101)=some (.type "function")
 c1:makesIn K 83=true/\makesIn K 111=true/\hasDictIn K 83=true/\hasDictIn K 111=true/\plainOver K 83=true/\plainOver K 111=true/\readsIn K 83 (.type "type")=true
 c2:findIn K (.ref 83) "__setattr__"=some (some (.builtin "object.__setattr__"))/\findIn K (.ref 111) "__setattr__"=some (some (.builtin "object.__setattr__"))
 c5:(∃ t,findCls K (.ref 83) (.type "type") "S"=some (.val (.str " " t)))/\∃ t,findCls K (.ref 83) (.type "type") "T"=some (.val (.str "\t" t))
 t1:∃ es n,K.lookup 130=some ⟨.type "dict",none,Data.dict es n,#[]⟩
 t2:pZ P (sN K)
 t3:lS (iX (sN K)) lc
 t4:(iX (sN K)).map (·.1)=lc.map (·.1)
abbrev cG:=Str->Option Addr
structure GX (ag:Program) (w:World) where
 base:Heap
 mg:Str->Option Value
 mb:Str->Option Value
 cl:cG
 g:base.Ns mainGlobals mg
 b:base.Ns builtinsNs mb
 nolimit:base.NoLimit
structure Wd where
 p:Program
 w:World
 G:GX p w
 K:Frag
noncomputable def C4 (x:Wd):Prop:=HW x.w.params x.K->x.K.In x.G.base->(∀ y:Str,y≠"__name__"->x.G.mb y=bootBuiltins y)->x.G.cl ("Whitespace":Str)=some 83->x.G.cl ("TupleComp":Str)=some 111 ->
 ∀ (s:Shared) (l:Addr) (ns:List Int),s.heap=x.G.base->ns.length<=63->Well x.w.params s.heap (.ref l) (ofPy (.list (ns.map .int))) ->
  wpAny (model x.p x.w) callerA (call (.ref 203) [.ref l]) (fun v s'=>v=.bool true/\OldK s.heap s'.heap/\s'.os=s.os/\(AllBare s.gens->AllBare s'.gens)) (fun J J=>False) s
noncomputable def zU:Obj:=⟨.type "dict",none,.dict #[] 0,#[]⟩
noncomputable def Dk:Heap:={ objs:=#[zU,zU,zU,zU] }
theorem IG {a:Addr} (h:Dk.get? a=some zU):Dk.Ns a fun J=>none:=⟨zU,#[],0,h,rfl,(fun J q=>nomatch q),fun J=>rfl⟩
noncomputable def Jl:Wd:=⟨default,⟨fun J J=>0,{ strHash:=fun J=>0,shareClass:=fun J=>0,mergeTok:=id,idOf:=fun J=>0,idOfShared:=fun J J=>0,followText:=fun J=>false,idOfImm:=fun J=>0 }⟩,⟨Dk,fun J=>none,fun J=>none,fun J=>none,IG rfl,IG rfl,⟨_,IG rfl,rfl⟩⟩,[]⟩
noncomputable def wd:Wd:=@Classical.epsilon Wd ⟨Jl⟩ fun x=>¬ C4 x
noncomputable def ag:Program:=wd.p
noncomputable def w:World:=wd.w
noncomputable def G:GX ag w:=wd.G
noncomputable def KF:Frag:=wd.K
theorem Em (h:C4 wd) (x:Wd):C4 x:=Classical.byContradiction fun q=>Classical.epsilon_spec (p:=fun x=>¬ C4 x) ⟨x,q⟩ h
end
end Mine
end
section
namespace Mine
set_option genSizeOf false
set_option genInjectivity false
inductive PV where
 | none
 | bool (b:Bool)
 | int (i:Int)
 | str (s:Str)
 | tup (l:List PV)
 | lst (l:List PV)
 | dct (l:List (Int×PV))
 | vals (l:List (Int×PV))
 | its (l:List (Int×PV))
 | typ (n:String)
 | set (n:Nat)
 | obj (c:Str) (fs:List (Str×PV))
 deriving Inhabited
section
mutual
noncomputable def Rep (ag:Program) (w:World) (cl:cG) (h:Heap) (V:Addr->Prop):PV->Value->Prop
 | .none,v=>v=.none
 | .bool b,v=>v=.bool b
 | .int i,v=>∃ t,v=.int i t
 | .str s,v=>∃ t,v=.str s t
 | .tup l,v=>∃ a,v=.ref a/\¬ V a/\∃ vs:List Value,h.IsTuple a vs.toArray/\RepL ag w cl h V l vs
 | .lst l,v=>∃ a,v=.ref a/\¬ V a/\∃ vs:List Value,h.PlainList a vs.toArray/\RepL ag w cl h V l vs
 | .dct l,v=>∃ a,v=.ref a/\¬ V a/\(a == sysModules)=false/\∃ kvs,h.DictOf (intKind ag w) a kvs/\RepD ag w cl h V l kvs
 | .vals l,v=>∃ a,v=.ref a/\¬ V a/\∃ d,h.get? a=some { cls:=.type "dict_values",data:=.fields #[.ref d] }/\¬ V d/\(d == sysModules)=false/\∃ kvs,h.DictOf (intKind ag w) d kvs/\RepD ag w cl h V l kvs
 | .its l,v=>∃ a,v=.ref a/\¬ V a/\∃ d,h.get? a=some { cls:=.type "dict_items",data:=.fields #[.ref d] }/\¬ V d/\(d == sysModules)=false/\∃ kvs,h.DictOf (intKind ag w) d kvs/\RepD ag w cl h V l kvs
 | .typ n,v=>v=.type n
 | .set n,v=>∃ a,v=.ref a/\¬ V a/\∃ f,h.SetOf (intKind ag w) a f n
 | .obj c fs,v=>∃ a C d es ep,v=.ref a/\¬ V a/\cl c=some C/\¬ V d/\h.get? a=some { cls:=.ref C,dict:=some d,data:=.plain } /\
   h.get? d=some { cls:=.type "dict",data:=.dict es ep }/\RepF ag w cl h V fs es.toList
noncomputable def RepL (ag:Program) (w:World) (cl:cG) (h:Heap) (V:Addr->Prop):List PV->List Value->Prop
 | [],[]=>True
 | p::ps,v::vs=>Rep ag w cl h V p v/\RepL ag w cl h V ps vs
 | _,_=>False
noncomputable def RepD (ag:Program) (w:World) (cl:cG) (h:Heap) (V:Addr->Prop):List (Int×PV)->List (Int×Value)->Prop
 | [],[]=>True
 | (k,p)::ps,(k',v)::vs=>k=k'/\Rep ag w cl h V p v/\RepD ag w cl h V ps vs
 | _,_=>False
noncomputable def RepF (ag:Program) (w:World) (cl:cG) (h:Heap) (V:Addr->Prop):List (Str×PV)->List DictEntry->Prop
 | [],[]=>True
 | (k,p)::ps,e::es=>(∃ t,e.key=.str k t)/\Rep ag w cl h V p e.val/\RepF ag w cl h V ps es
 | _,_=>False
end
noncomputable def bU (U:Addr->Prop) (h h':Heap):Prop:=∀ b o,¬ U b->h.get? b=some o->h'.get? b=some o
theorem bU.refl (U:Addr->Prop) (h:Heap):bU U h h:=fun J J J e=>e
theorem bU.trans {U:Addr->Prop}{h h' h'':Heap} (x:bU U h h') (y:bU U h' h''):bU U h h'':=fun b o n e=>y b o n (x b o n e)
theorem bU.mono {U U':Addr->Prop}{h h':Heap} (x:bU U h h') (m:∀ a,U a->U' a):bU U' h h':=fun b o n e=>x b o (fun u=>n (m b u)) e
theorem ur {V:Addr->Prop}{h h':Heap}{a:Addr}{vs:Array Value} (k:bU V h h') (n:¬ V a) (x:h.IsTuple a vs):h'.IsTuple a vs:=
 let ⟨o,ho,r⟩:=x;⟨o,k _ _ n ho,r⟩
theorem qy {V:Addr->Prop}{h h':Heap}{a:Addr}{vs:Array Value} (k:bU V h h') (n:¬ V a) (x:h.PlainList a vs):h'.PlainList a vs:=
 let ⟨m,ho⟩:=x;⟨m,k _ _ n ho⟩
theorem fU {V:Addr->Prop}{h h':Heap}{a:Addr}{kvs:List (Int×Value)} (k:bU V h h') (n:¬ V a) (x:h.DictOf (intKind ag w) a kvs):h'.DictOf (intKind ag w) a kvs:=
 let ⟨o,es,ep,ho,r⟩:=x;⟨o,es,ep,k _ _ n ho,r⟩
theorem oW {h:Heap}{a:Addr}{o:Obj} (e:h.get? a=some o):h.get? a≠none:=fun q=>nomatch q.symm.trans e
theorem BP {h:Heap}{a:Addr}{vs:Array Value} (t:h.IsTuple a vs):h.get? a≠none:=t.elim fun J q=>oW q.1
theorem uY {h:Heap}{a:Addr}{vs:Array Value} (t:h.PlainList a vs):h.get? a≠none:=t.elim fun J q=>oW q
theorem ly {h:Heap}{a:Addr}{kvs:List (Int×Value)} (t:h.DictOf (intKind ag w) a kvs):h.get? a≠none:=let ⟨_,_,_,ho,_⟩:=t;oW ho
theorem CO {h:Heap}{a:Addr}{f:Int->Bool}{n:Nat} (t:h.SetOf (intKind ag w) a f n):h.get? a≠none:=by
 refine xM t ?_;clear t;intro o es ep tb ho rest;exact oW ho
theorem yf {V:Addr->Prop}{h h':Heap}{a:Addr}{f:Int->Bool}{m:Nat} (k:bU V h h') (n:¬ V a) (t:h.SetOf (intKind ag w) a f m):h'.SetOf (intKind ag w) a f m:=by
 refine xM t ?_;clear t;intro o es ep tb ho rest;exact ⟨o,es,ep,tb,k _ _ n ho,rest⟩
mutual
theorem Rep.keep {cl:cG}{h h':Heap}{V V':Addr->Prop} (k:bU V h h') (m:∀ a,h.get? a≠none->V' a->V a):∀ {p:PV}{v:Value},Rep ag w cl h V p v->Rep ag w cl h' V' p v:=fun {p v} x=>by
 cases p with
 | tup l=>refine bG x ?_;clear x;intro a e n vs t r;exact dj a ⟨e,fun q=>n (m a (BP t) q),vs,ur k n t,RepL.keep k m r⟩
 | lst l=>refine bG x ?_;clear x;intro a e n vs t r;exact dj a ⟨e,fun q=>n (m a (uY t) q),vs,qy k n t,RepL.keep k m r⟩
 | dct l=>refine cR x ?_;clear x;intro a e n z vs t r;exact dj a ⟨e,fun q=>n (m a (ly t) q),z,vs,fU k n t,RepD.keep k m r⟩
 | vals l=>refine g0 x ?_;clear x;intro a e n d g nd z vs t r;exact dj a ⟨e,fun q=>n (m a (oW g) q),d,k _ _ n g,fun q=>nd (m d (ly t) q),z,vs,fU k nd t,RepD.keep k m r⟩
 | its l=>refine g0 x ?_;clear x;intro a e n d g nd z vs t r;exact dj a ⟨e,fun q=>n (m a (oW g) q),d,k _ _ n g,fun q=>nd (m d (ly t) q),z,vs,fU k nd t,RepD.keep k m r⟩
 | set l=>refine rT x ?_;clear x;intro a e n f t;exact dj a ⟨e,fun q=>n (m a (CO t) q),f,yf k n t⟩
 | obj c fs=>refine dm x ?_;clear x;intro a C d es ep e n q nd g gd r;exact dj a ⟨C,d,es,ep,e,fun q=>n (m a (oW g) q),q,fun q=>nd (m d (oW gd) q),k _ _ n g,k _ _ nd gd,RepF.keep k m r⟩
 | _=>exact x
theorem RepL.keep {cl:cG}{h h':Heap}{V V':Addr->Prop} (k:bU V h h') (m:∀ a,h.get? a≠none->V' a->V a):∀ {p:List PV}{v:List Value},RepL ag w cl h V p v->RepL ag w cl h' V' p v
 | [],v,x=>by cases v with
  | nil=>exact x
  | cons _ _=>exact x
 | p::ps,v,x=>by cases v with
  | nil=>exact x
  | cons _ _=>exact And.intro (Rep.keep k m x.1) (RepL.keep k m x.2)
theorem RepD.keep {cl:cG}{h h':Heap}{V V':Addr->Prop} (k:bU V h h') (m:∀ a,h.get? a≠none->V' a->V a):∀ {p:List (Int×PV)}{v:List (Int×Value)},RepD ag w cl h V p v->RepD ag w cl h' V' p v
 | [],v,x=>by cases v with
  | nil=>exact x
  | cons _ _=>exact x
 | (_,p)::ps,v,x=>by cases v with
  | nil=>exact x
  | cons u _=>exact And.intro x.1 ⟨Rep.keep k m x.2.1,RepD.keep k m x.2.2⟩
theorem RepF.keep {cl:cG}{h h':Heap}{V V':Addr->Prop} (k:bU V h h') (m:∀ a,h.get? a≠none->V' a->V a):∀ {p:List (Str×PV)}{v:List DictEntry},RepF ag w cl h V p v->RepF ag w cl h' V' p v
 | [],v,x=>by cases v with
  | nil=>exact x
  | cons _ _=>exact x
 | (_,p)::ps,v,x=>by cases v with
  | nil=>exact x
  | cons u _=>exact And.intro x.1 ⟨Rep.keep k m x.2.1,RepF.keep k m x.2.2⟩
end
end
end Mine
end
section
namespace Mine
abbrev SE:=List (Str×(Bool×PV))
abbrev Sc:=List (Str×NameKind)
noncomputable def SE.put:SE->Str->Bool×PV->SE
 | [],x,v=>[(x,v)]
 | (y,u)::r,x,v=>if y == x then (y,v)::r else (y,u)::SE.put r x v
noncomputable def jc (l:List (Int×PV)) (k:Int) (v:PV):List (Int×PV):=
 if l.any (fun kv=>kv.1=k) then l.map (fun kv=>if kv.1=k then (kv.1,v) else kv) else l++[(k,v)]
noncomputable def ej (l:List (Int×PV)) (k:Int):Option PV:=(l.find? fun kv=>kv.1=k).map (·.2)
noncomputable def gd {α:Type} (c:Bool) (x:Option α):Option α:=match c with
 | true=>x
 | false=>none
theorem iC {α:Type}{c:Bool}{x:Option α}{b:α}{C:Prop} (h:gd c x=some b) (k:c=true->x=some b->C):C:=by
 cases c with
 | true=>exact k rfl h
 | false=>cases h
theorem ll {α:Type}{c:Bool}{x:Option α} (h:c=true):gd c x=x:=by subst h;rfl
theorem cu {α β:Type}{x:Option α}{f:α->Option β}{b:β}{C:Prop} (h:x.bind f=some b) (k:∀ a,x=some a->f a=some b->C):C:=by
 cases x with
 | none=>cases h
 | some a=>exact k a rfl h
theorem dp {α β:Type}{x:Option α}{f:α->Option β}{a:α} (h:x=some a):x.bind f=f a:=by subst h;rfl
theorem lk {α β:Type}{x:Option α}{f:α->β}{b:β}{C:β->Prop} (h:x.map f=some b) (k:∀ a,x=some a->C (f a)):C b:=by
 cases x with
 | none=>cases h
 | some a=>cases h;exact k a rfl
theorem DK {α β:Type}{x:Option α}{f:α->β}{a:α} (h:x=some a):x.map f=some (f a):=by subst h;rfl
theorem H0 {α:Type}{a b:α}{C:α->Prop} (h:some a=some b) (k:C a):C b:=by cases h;exact k
theorem fh {α:Type}{c:Prop} [Decidable c] {x:Option α}{b:α}{C:Prop} (h:(if c then x else none)=some b) (k:c->x=some b->C):C:=by
 by_cases q:c
 ·rw [if_pos q] at h;exact k q h
 ·rw [if_neg q] at h;cases h
theorem I6 {α:Type}{x y:Option α}{b:α}{C:Prop} (h:x.or y=some b) (k:x=some b->C) (k':x=none->y=some b->C):C:=by
 cases x with
 | none=>exact k' rfl h
 | some a=>exact k h
theorem iq {a b:Bool} (h:(a && b)=true):a=true/\b=true:=by
 cases a with
 | true=>exact ⟨rfl,h⟩
 | false=>cases h
theorem nn {α:Type}{x:α}{C:Prop} (h:(none:Option α)=some x):C:=nomatch h
theorem bH {α:Type}{a b:α} (h:some a=some b):b=a:=by cases h;rfl
noncomputable def cq:PV->Option Int
 | .int i=>some i
 | _=>none
noncomputable def iy:PV->Option Bool
 | .bool i=>some i
 | _=>none
noncomputable def k9:PV->Option Str
 | .str i=>some i
 | _=>none
noncomputable def jm:PV->Option (List PV)
 | .lst i=>some i
 | _=>none
noncomputable def wo:PV->Option (List PV)
 | .tup i=>some i
 | _=>none
noncomputable def AN:PV->Option (List (Int×PV))
 | .dct i=>some i
 | _=>none
noncomputable def rG:PV->Option (Str×List (Str×PV))
 | .obj c fs=>some (c,fs)
 | _=>none
theorem jd {v:PV}{i:Int} (h:cq v=some i):v=.int i:=by
 cases v<;>first | exact nn h | (rw [bH h])
theorem j0 {v:PV}{i:Bool} (h:iy v=some i):v=.bool i:=by
 cases v<;>first | exact nn h | (rw [bH h])
theorem rH {v:PV}{i:Str} (h:k9 v=some i):v=.str i:=by
 cases v<;>first | exact nn h | (rw [bH h])
theorem gA {v:PV}{i:List PV} (h:jm v=some i):v=.lst i:=by
 cases v<;>first | exact nn h | (rw [bH h])
theorem nR {v:PV}{i:List PV} (h:wo v=some i):v=.tup i:=by
 cases v<;>first | exact nn h | (rw [bH h])
theorem wJ {v:PV}{i:List (Int×PV)} (h:AN v=some i):v=.dct i:=by
 cases v<;>first | exact nn h | (rw [bH h])
theorem nv {v:PV}{c:Str×List (Str×PV)} (h:rG v=some c):v=.obj c.1 c.2:=by
 cases v<;>first | exact nn h | (rw [bH h])
structure cV where
 fn:Str->List PV->Option PV
 bi:Str->List PV->Option PV
 mth:Str->Str->List PV->Option PV
 fld:Str->Str->Bool
 cattr:Str->Str->Option PV
 gval:Str->Option PV
 tab:Str->Option (List (Str×Int))
noncomputable def iN:PV->Bool
 | .none=>true
 | _=>false
noncomputable def dv {α β γ:Type} (f:α->β->Option γ) (x:Option α) (y:Option β):Option γ:=x.bind fun a=>y.bind fun b=>f a b
theorem b8 {α β γ:Type}{f:α->β->Option γ}{x:Option α}{y:Option β}{c:γ}{C:Prop} (h:dv f x y=some c) (k:∀ a b,x=some a->y=some b->f a b=some c->C):C:=
 cu h fun a ha h=>cu h fun b hb h=>k a b ha hb h
theorem i4 {α β γ:Type}{f:α->β->Option γ}{x:Option α}{y:Option β}{a:α}{b:β} (ha:x=some a) (hb:y=some b):dv f x y=f a b:=by subst ha;subst hb;rfl
mutual
noncomputable def nP:Nat->PV->PV->Option Bool
 | 0,_,_=>none
 | n+1,a,b=>match a with
  | .none=>gd (iN b) (some true)
  | .bool x=>(iy b).map (x == ·)
  | .int x=>(cq b).map (x == ·)
  | .str x=>(k9 b).map (x == ·)
  | .lst x=>(jm b).bind (tP n x)
  | .tup x=>(wo b).bind (tP n x)
  | .dct x=>(AN b).bind fun y=>if x.length=y.length then n7 n x y else some false
  | _=>none
noncomputable def tP:Nat->List PV->List PV->Option Bool
 | 0,_,_=>none
 | n+1,x,y=>match x with
  | []=>some y.isEmpty
  | a::as=>match y with
   | []=>some false
   | b::bs=>dv (fun x y=>some (x && y)) (nP n a b) (tP n as bs)
noncomputable def n7:Nat->List (Int×PV)->List (Int×PV)->Option Bool
 | 0,_,_=>none
 | n+1,x,bs=>match x with
  | []=>some true
  | ka::as=>match ej bs ka.1 with
   | none=>some false
   | some b=>dv (fun x y=>some (x && y)) (nP n ka.2 b) (n7 n as bs)
end
noncomputable def small (i:Int):Bool:=decide (i.natAbs < 18446744073709551616)
noncomputable def qP (l:List PV):Option PV:=if l.length<=1048576 then some (.lst l) else none
noncomputable def Gm (a b:PV):Option PV:=match a with
 | .int x=>(cq b).map fun y=>.int (x+y)
 | .str x=>(k9 b).bind fun y=>if x.length<=1048576 && y.length<=1048576 then some (.str (x++y)) else none
 | .lst x=>(jm b).bind fun y=>if x.length<=1048576 && y.length<=1048576 then some (.lst (x++y)) else none
 | _=>none
noncomputable def Hk (a:PV) (y:Int):Option PV:=match a with
 | .int x=>if small x || small y then some (.int (x * y)) else none
 | .lst x=>if x.length=1 && decide (0<=y) && decide (y<=1048576) then some (.lst ((be y.toNat x).flatten)) else none
 | _=>none
noncomputable def B8 (f:Int->Int->Option PV) (a b:PV):Option PV:=dv f (cq a) (cq b)
noncomputable def jW (op:Operator) (a b:PV):Option PV:=match op with
 | .Add=>Gm a b
 | .Sub=>B8 (fun x y=>some (.int (x - y))) a b
 | .Mult=>(cq b).bind (Hk a)
 | .FloorDiv=>B8 (fun x y=>if small y && y != 0 then some (.int (Int.fdiv x y)) else none) a b
 | .Mod=>B8 (fun x y=>if y != 0 then some (.int (eV x y)) else none) a b
 | .Pow=>B8 (fun x y=>if small x && decide (0<=y) && decide (y<=4096) then some (.int (x ^ y.toNat)) else none) a b
 | _=>none
noncomputable def rj:PV->Bool
 | .bool _=>true
 | .int _=>true
 | .str _=>true
 | .tup _=>true
 | .lst _=>true
 | _=>false
noncomputable def E3 (a b:PV):Option Bool:=if iN a then (if iN b then some true else gd (rj b) (some false))
 else if iN b then gd (rj a) (some false)
 else dv (fun x y=>some (x == y)) (iy a) (iy b)
noncomputable def gT (k:Int):List PV->Option Bool
 | []=>some false
 | a::r=>dv (fun i b=>some (i == k || b)) (cq a) (gT k r)
noncomputable def qC (k:Int):List PV->Option Nat
 | []=>none
 | a::r=>(cq a).bind fun i=>if i == k then (gT k r).map fun J=>0 else (qC k r).map (·+1)
noncomputable def p4:List PV->Bool
 | []=>true
 | a::r=>(iy a).isSome && p4 r
noncomputable def jY (k:Bool):List PV->Option Nat
 | []=>none
 | a::r=>(iy a).bind fun i=>if i == k then gd (p4 r) (some 0) else (jY k r).map (·+1)
noncomputable def FH (x c:PV):Option Bool:=(cq x).bind fun k=>match c with
 | .dct l=>some (ej l k).isSome
 | .lst l=>gT k l
 | .tup l=>gT k l
 | _=>none
noncomputable def mX (f:Int->Int->Bool) (a b c d:Int):Bool:=if a == c then (if b == d then false else f b d) else f a c
noncomputable def yt (f:Int->Int->Bool) (a b:PV):Option Bool:=dv (fun x y=>some (f x y)) (cq a) (cq b)
noncomputable def yK (a:PV):Option (Int×Int):=(wo a).bind fun l=>match l with
 | []=>none
 | x::l=>match l with
  | []=>none
  | y::l=>match l with
   | []=>dv (fun i j=>some (i,j)) (cq x) (cq y)
   | _::_=>none
noncomputable def FM (f:Int->Int->Bool) (a b:PV):Option Bool:=match a with
 | .int x=>(cq b).map (f x)
 | .tup _=>dv (fun p q=>some (mX f p.1 p.2 q.1 q.2)) (yK a) (yK b)
 | _=>none
noncomputable def EJ (n:Nat) (op:CmpOp) (a b:PV):Option Bool:=match op with
 | .Eq=>nP n a b
 | .NotEq=>(nP n a b).map (!·)
 | .Lt=>FM (fun x y=>decide (x < y)) a b
 | .LtE=>yt (fun x y=>decide (x<=y)) a b
 | .Gt=>FM (fun x y=>decide (x > y)) a b
 | .GtE=>yt (fun x y=>decide (x ≥ y)) a b
 | .Is=>E3 a b
 | .IsNot=>(E3 a b).map (!·)
 | .In=>FH a b
 | .NotIn=>(FH a b).map (!·)
noncomputable def eG (k:Int) (n:Nat):Option Nat:=
 if k < 0 then (if -(n:Int)<=k then some (k+n).toNat else none) else (if k < n then some k.toNat else none)
noncomputable def AP (s:Str) (i:Nat):Str:=⟨#[s.cps[i]?.getD 0]⟩
noncomputable def item (c i:PV):Option PV:=(cq i).bind fun k=>match c with
 | .lst l=>if l.length<=1048576 then (eG k l.length).bind (l[·]?) else none
 | .tup l=>if l.length<=1048576 then (eG k l.length).bind (l[·]?) else none
 | .dct l=>ej l k
 | .str s=>if s.length<=1048576 then (eG k s.length).map fun i=>.str (AP s i) else none
 | _=>none
noncomputable def b9 (k:Int) (n:Nat):Nat:=if k < 0 then (k+n).toNat else min k.toNat n
noncomputable def ms {α:Type} (l:List α) (a b:Option Int):List α:=
 let lo:=(a.map (b9 · l.length)).getD 0
 let hi:=(b.map (b9 · l.length)).getD l.length
 (l.take hi).drop lo
noncomputable def mC (c:PV) (a b:Option Int):Option PV:=match c with
 | .lst l=>if l.length<=1048576 then some (.lst (ms l a b)) else none
 | .tup l=>gd a.isNone (b.bind fun k=>if l.length<=1048576 && decide (0<=k) && decide (k < l.length) then some (.tup (l.take k.toNat)) else none)
 | .str s=>if s.length<=1048576 then some (.str ⟨(ms s.cps.toList a b).toArray⟩) else none
 | _=>none
noncomputable def Ev (c:PV):Option (List PV):=match c with
 | .lst l=>if l.length<=1048576 then some l else none
 | .tup l=>if l.length<=1048576 then some l else none
 | .dct l=>if l.length<=1048576 then some (l.map fun kv=>.int kv.1) else none
 | .vals l=>if l.length<=1048576 then some (l.map (·.2)) else none
 | .its l=>if l.length<=1048576 then some (l.map fun kv=>.tup [.int kv.1,kv.2]) else none
 | .str s=>if s.length<=1048576 then some (s.cps.toList.map fun c=>.str ⟨#[c]⟩) else none
 | _=>none
noncomputable def lx:List PV->List PV->List PV
 | a::as,b::bs=>.tup [a,b]::lx as bs
 | _,_=>[]
noncomputable def jZ:Nat->List PV->List PV
 | _,[]=>[]
 | n,a::as=>.tup [.int n,a]::jZ (n+1) as
noncomputable def gJ (a b:Int):List PV:=(ax (b - a).toNat).map fun (i:Nat)=>.int (a+(i:Int))
noncomputable def dl (x:Str):Bool:=x != ("__debug__":Str) && x != ("__classdict__":Str)
noncomputable def bh (sc:Sc) (x:Str):Bool:=dl x && (sc.lookup x == some .local || sc.lookup x == some .cell)
noncomputable def dZ:Expr->Option Str
 | .Name x _=>some x
 | _=>none
theorem cE {e:Expr}{x:Str} (h:dZ e=some x):∃ q,e=.Name x q:=by
 cases e<;>first | exact nn h | exact ⟨_,by rw [bH h]⟩
noncomputable def jb:Expr->Option (List Expr)
 | .Tuple es _ _=>some es
 | _=>none
theorem lX {e:Expr}{x:List Expr} (h:jb e=some x):∃ k q,e=.Tuple x k q:=by
 cases e<;>first | exact nn h | exact ⟨_,_,by rw [bH h]⟩
noncomputable def l6:Expr->Option (Option Expr×Option Expr×Bool)
 | .Slice a b c _=>some (a,b,c.isNone)
 | _=>none
theorem xG {e:Expr}{x:Option Expr×Option Expr×Bool} (h:l6 e=some x):∃ c q,e=.Slice x.1 x.2.1 c q/\c.isNone=x.2.2:=by
 cases e<;>first | exact nn h | exact ⟨_,_,by rw [bH h],by rw [bH h]⟩
noncomputable def c8:List Expr->Option (List Str)
 | []=>some []
 | e::r=>dv (fun x xs=>some (x::xs)) (dZ e) (c8 r)
noncomputable def dn (sc:Sc):List Str->List PV->SE->Option SE
 | [],vs,σ=>gd vs.isEmpty (some σ)
 | x::xs,vs,σ=>match vs with
  | []=>none
  | v::vs=>if bh sc x then dn sc xs vs (SE.put σ x (false,v)) else none
noncomputable def bindT (sc:Sc) (t:Expr) (v:PV) (σ:SE):Option SE:=match dZ t with
 | some x=>dn sc [x] [v] σ
 | none=>dv (fun xs vs=>if xs.length=vs.length then dn sc xs vs σ else none) ((jb t).bind c8) (wo v)
noncomputable def gW (t:Expr) (σ:SE):Bool:=match dZ t with
 | some x=>(σ.lookup x).isNone
 | none=>match (jb t).bind c8 with
  | some xs=>xs.all fun x=>(σ.lookup x).isNone
  | none=>false
noncomputable def iO (e:Expr):Bool:=(jb e).isSome
noncomputable def Hv:PV->Bool
 | .its _=>true
 | _=>false
noncomputable def mM (t:Expr) (v:PV):Option (List PV):=gd (iO t || !Hv v) (Ev v)
noncomputable def mA (scope:Scope) (σ:SE):SE:=σ.filter fun p=>scope.names.lookup p.1 == some .free
noncomputable def hZ (sc:Sc) (scope:Scope):Bool:=
 scope.kind == .function && decide (scope.names.map (·.1)).Nodup &&
 scope.names.all fun p=>p.2 == .local || p.2 == .cell || p.2 == .globalImplicit || (p.2 == .free && (sc.lookup p.1 == some .cell || sc.lookup p.1 == some .free))
noncomputable def cU (sc:Sc) (σ:SE) (x:Str):Bool:=dl x && sc.lookup x == some .globalImplicit && (σ.lookup x).isNone
noncomputable def dK {α β:Type} (f:α->Option β):List α->Option (List β)
 | []=>some []
 | a::as=>dv (fun b bs=>some (b::bs)) (f a) (dK f as)
noncomputable def cj:List (PV×PV)->List (Int×PV)->Option (List (Int×PV))
 | [],acc=>some acc
 | kv::r,acc=>(cq kv.1).bind fun k=>cj r (jc acc k kv.2)
noncomputable def pN:Const->Option PV
 | .none=>some .none
 | .bool b=>some (.bool b)
 | .int i=>some (.int i)
 | .str s=>some (.str s)
 | _=>none
noncomputable def fQ (k:Int):Bool:=decide (-1048576<=k) && decide (k<=1048576)
noncomputable def lv:List PV->Option (List Str)
 | []=>some []
 | a::r=>dv (fun s ss=>some (s::ss)) (k9 a) (lv r)
noncomputable def nN (args:List PV):Option PV:=match args with
 | []=>none
 | a::r=>match r with
  | []=>some a
  | _::_=>none
noncomputable def F3 (l:List PV) (a:PV):Option PV:=if l.length<=1048576 then (match a with
 | .int k=>(qC k l).map fun (i:Nat)=>.int (i:Int)
 | .bool k=>(jY k l).map fun (i:Nat)=>.int (i:Int)
 | _=>none) else none
noncomputable def Cl (c:PV) (name:Str) (args:List PV):Option PV:=match c with
 | .str s=>(nN args).bind fun a=>if name == ("split":Str) then
   (k9 a).bind fun t=>(if s.length<=1048576 && decide (0 < t.length) && (Txt.split s t).length<=1048576 then some (.lst ((Txt.split s t).map .str)) else none)
  else gd (name == ("join":Str)) ((jm a).bind fun l=>(lv l).bind fun ss=>if JoinOk s ss then some (.str (Txt.join s ss)) else none)
 | .dct l=>gd args.isEmpty (if name == ("items":Str) then some (.its l) else gd (name == ("values":Str)) (some (.vals l)))
 | .lst l=>(nN args).bind fun a=>gd (name == ("index":Str)) (F3 l a)
 | _=>none
noncomputable def dt:Expr->Bool
 | .Call f as ks _=>!((dZ f).isSome && as.isEmpty && ks.isEmpty)
 | _=>true
noncomputable def lE (sc:Sc) (σ:SE) (e:Expr):Option Str:=(dZ e).bind fun x=>gd (cU sc σ x) (some x)
noncomputable def dW (o:cV) (sc:Sc) (σ:SE) (e:Expr):Option (List (Str×Int)):=(lE sc σ e).bind o.tab
noncomputable def AR (o:cV) (sc:Sc) (σ:SE) (x:Str):Option PV:=match σ.lookup x with
 | some (b,v)=>gd (!b) (some v)
 | none=>gd (sc.lookup x == some .globalImplicit) (o.gval x)
noncomputable def I7 (op:UnaryOp) (v:PV):Option PV:=match op with
 | .USub=>(cq v).map fun i=>.int (-i)
 | .Not=>(iy v).map fun b=>.bool (!b)
 | _=>none
noncomputable def Dj (vs:List PV):Option PV:=if vs.length<=1048576 then some (.tup vs) else none
noncomputable def ui (op:CmpOp):Bool:=op == .In || op == .NotIn
noncomputable def D1 (t:Option (List (Str×Int))) (n:Nat) (op:CmpOp) (a:PV) (xP x:Option PV):Option PV:=
 if ui op then (match t with
  | some t=>(k9 a).map fun s=>.bool ((t.lookup s).isSome == (op == .In))
  | none=>xP.bind fun b=>(EJ n op a b).map .bool)
 else x.bind fun b=>(EJ n op a b).map .bool
noncomputable def yD (o:cV) (name:Str) (b:PV) (vs:List PV):Option PV:=match rG b with
 | some c=>gd (c.2.lookup name).isNone (o.mth c.1 name (b::vs))
 | none=>Cl b name vs
noncomputable def lK {α:Type} (l:List α):Option α:=match l with
 | []=>none
 | a::r=>match r with
  | []=>some a
  | _::_=>none
theorem gu {α:Type}{l:List α}{a:α} (h:lK l=some a):l=[a]:=by
 match l,h with
 | [_],h=>cases h;rfl
noncomputable def Hg (o:cV) (a:Str) (v:PV):Option PV:=(rG v).bind fun c=>gd (o.fld c.1 a) (c.2.lookup a)
noncomputable def GE (E:Expr->Option PV) (k:Option Expr):Option PV:=k.bind E
noncomputable def oz:Expr->Option (Expr×Str×Pos)
 | .Attribute ob a p=>some (ob,a,p)
 | _=>none
theorem ol {e:Expr}{x:Expr×Str×Pos} (h:oz e=some x):e=.Attribute x.1 x.2.1 x.2.2:=by
 cases e<;>first | exact nn h | rw [bH h]
noncomputable def tK:Expr->Option (Expr×List Expr×List Keyword×Pos)
 | .Call f as ks p=>some (f,as,ks,p)
 | _=>none
theorem qe {e:Expr}{x:Expr×List Expr×List Keyword×Pos} (h:tK e=some x):e=.Call x.1 x.2.1 x.2.2.1 x.2.2.2:=by
 cases e<;>first | exact nn h | rw [bH h]
noncomputable def Fi:Expr->Option (Expr×Expr×Pos)
 | .Subscript c i p=>some (c,i,p)
 | _=>none
theorem Bw {e:Expr}{x:Expr×Expr×Pos} (h:Fi e=some x):e=.Subscript x.1 x.2.1 x.2.2:=by
 cases e<;>first | exact nn h | rw [bH h]
noncomputable def Dc (e:Expr):Option (Str×List Expr):=(tK e).bind fun q=>(dZ q.1).bind fun x=>gd q.2.2.1.isEmpty (some (x,q.2.1))
theorem dQ {α:Type}:∀ {l:List α},l.isEmpty=true->l=[]
 | [],_=>rfl
theorem An {e:Expr}{x:Str×List Expr} (h:Dc e=some x):∃ q p,e=.Call (.Name x.1 q) x.2 [] p:=by
 refine cu h fun q hq h1=>cu h1 fun y hy h2=>iC h2 fun hk h3=>?_;refine xE (cE hy) ?_;intro p hp;rw [qe hq,bH h3,hp,dQ hk];exact ⟨_,_,rfl⟩
noncomputable def ya:Expr->Bool
 | .Set ..=>true
 | _=>false
inductive TK where
 | not (x:Expr)
 | all (es:List Expr)
 | any (es:List Expr)
 | no
 | val
noncomputable def xf:Expr->TK
 | .UnaryOp op x _=>match op with
  | .Not=>.not x
  | _=>.val
 | .BoolOp op es _=>match op with
  | .And=>.all es
  | .Or=>.any es
 | .IfExp ..=>.no
 | _=>.val
noncomputable def Fc:BoolOp->Bool
 | .And=>true
 | .Or=>false
noncomputable def nJ (sc:Sc) (σ:SE) (e:Expr):Option (Str×List Expr):=(Dc e).bind fun q=>gd (cU sc σ q.1 && (q.1 == ("range":Str) || q.1 == ("enumerate":Str) || q.1 == ("zip":Str))) (some q)
noncomputable def BT (vs:List PV):Option (List PV):=match vs with
 | []=>none
 | a::r=>(cq a).bind fun i=>match r with
  | []=>if fQ i then some (gJ 0 i) else none
  | b::r=>match r with
   | []=>(cq b).bind fun j=>if fQ i && fQ j then some (gJ i j) else none
   | _::_=>none
noncomputable def Bj (a:PV):Option (List PV):=(jm a).bind fun l=>if l.length<=1048576 then some (jZ 0 l) else none
noncomputable def Eu (vs:List PV):Option (List PV):=match vs with
 | []=>none
 | a::r=>(lK r).bind fun b=>dv (fun l m=>if l.length<=1048576 && m.length<=1048576 then some (lx l m) else none) (jm a) (jm b)
noncomputable def AX (f:Str) (tup:Bool) (vs:List PV):Option (List PV):=
 if f == ("range":Str) then BT vs else gd tup (if f == ("enumerate":Str) then (lK vs).bind Bj else Eu vs)
mutual
noncomputable def ev (o:cV):Nat->Sc->SE->Expr->Option PV
 | 0,_,_,_=>none
 | n+1,sc,σ,e=>match e with
  | .Constant c _ _=>pN c
  | .Name x _=>gd (dl x) (AR o sc σ x)
  | .BoolOp op es _=>evB o n sc σ op es
  | .BinOp l op r _=>dv (jW op) (evP o n sc σ l) (ev o n sc σ r)
  | .UnaryOp op x _=>(ev o n sc σ x).bind (I7 op)
  | .IfExp t a b _=>(evT o n sc σ t).bind fun c=>if c then ev o n sc σ a else ev o n sc σ b
  | .List es _=>(dK (ev o n sc σ) es).bind qP
  | .Tuple es _ _=>(dK (ev o n sc σ) es).bind Dj
  | .Dict ks vs _=>gd (decide (ks.length=vs.length) && decide (ks.length<=8)) (dv (fun a b=>(cj (a.zip b) []).map .dct) (dK (GE (ev o n sc σ)) ks) (dK (ev o n sc σ) vs))
  | .ListComp elt gens scope _=>gd (hZ sc scope) (match gens with
    | []=>none
    | g::gs=>(evI o n sc σ g.target g.iter).bind fun items=>(k8 o n scope.names (mA scope σ) g items gs elt none).bind fun rs=>qP (rs.map (·.2)))
  | .DictComp k v gens scope _=>gd (hZ sc scope) ((lK gens).bind fun g=>
    (evI o n sc σ g.target g.iter).bind fun items=>(k8 o n scope.names (mA scope σ) g items [] v (some k)).bind fun rs=>if rs.length<=1048576 then (cj rs []).map .dct else none)
  | .Compare l ops rs _=>dv (fun op r=>(ev o n sc σ l).bind fun a=>D1 (dW o sc σ r) n op a (evP o n sc σ r) (ev o n sc σ r)) (lK ops) (lK rs)
  | .Call f args ks cp=>gd ks.isEmpty (match oz f with
    | some q=>gd (dt q.1 && q.2.2.endLine == cp.line && decide (args.length<=8)) ((ev o n sc σ q.1).bind fun b=>(dK (ev o n sc σ) args).bind (yD o q.2.1 b))
    | none=>(lE sc σ f).bind fun g=>match lK args with
     | some a=>(evP o n sc σ a).bind fun v=>(o.bi g [v]).or ((ev o n sc σ a).bind fun v=>o.fn g [v])
     | none=>(dK (ev o n sc σ) args).bind fun vs=>(o.bi g vs).or (o.fn g vs))
  | .Attribute ob a _=>match lE sc σ ob with
    | some g=>o.cattr g a
    | none=>gd (dt ob) ((evP o n sc σ ob).bind (Hg o a))
  | .Subscript c i _=>match l6 i with
    | some q=>gd q.2.2 ((evP o n sc σ c).bind fun b=>dv (mC b) (evO o n sc σ q.1) (evO o n sc σ q.2.1))
    | none=>match dW o sc σ c with
     | some t=>(ev o n sc σ i).bind fun k=>(k9 k).bind fun s=>(t.lookup s).map .int
     | none=>dv item (evP o n sc σ c) (ev o n sc σ i)
  | _=>none
noncomputable def evP (o:cV):Nat->Sc->SE->Expr->Option PV
 | 0,_,_,_=>none
 | n+1,sc,σ,e=>match dZ e with
  | some x=>(match σ.lookup x with
    | some q=>gd (dl x) (some q.2)
    | none=>ev o n sc σ e)
  | none=>ev o n sc σ e
noncomputable def evB (o:cV):Nat->Sc->SE->BoolOp->List Expr->Option PV
 | 0,_,_,_,_=>none
 | n+1,sc,σ,op,es=>match es with
  | []=>none
  | x::r=>match r with
   | []=>ev o n sc σ x
   | _::_=>(ev o n sc σ x).bind fun v=>(iy v).bind fun t=>if t == Fc op then evB o n sc σ op r else some (.bool t)
noncomputable def evO (o:cV):Nat->Sc->SE->Option Expr->Option (Option Int)
 | 0,_,_,_=>none
 | n+1,sc,σ,e=>match e with
  | none=>some none
  | some e=>(ev o n sc σ e).bind fun v=>(cq v).map some
noncomputable def evT (o:cV):Nat->Sc->SE->Expr->Option Bool
 | 0,_,_,_=>none
 | n+1,sc,σ,e=>match xf e with
  | .not x=>(evT o n sc σ x).map (!·)
  | .all es=>evAnd o n sc σ es
  | .any es=>evOr o n sc σ es
  | .no=>none
  | .val=>(ev o n sc σ e).bind iy
noncomputable def evAnd (o:cV):Nat->Sc->SE->List Expr->Option Bool
 | 0,_,_,_=>none
 | n+1,sc,σ,es=>match es with
  | []=>some true
  | e::r=>(evT o n sc σ e).bind fun b=>if b then evAnd o n sc σ r else some false
noncomputable def evOr (o:cV):Nat->Sc->SE->List Expr->Option Bool
 | 0,_,_,_=>none
 | n+1,sc,σ,es=>match es with
  | []=>some false
  | e::r=>(evT o n sc σ e).bind fun b=>if b then some true else evOr o n sc σ r
noncomputable def evI (o:cV):Nat->Sc->SE->Expr->Expr->Option (List PV)
 | 0,_,_,_,_=>none
 | n+1,sc,σ,t,e=>gd (!ya e) (match nJ sc σ e with
  | some q=>(dK (ev o n sc σ) q.2).bind (AX q.1 (iO t))
  | none=>(ev o n sc σ e).bind (mM t))
noncomputable def k8 (o:cV):Nat->Sc->SE->Comprehension->List PV->List Comprehension->Expr->Option Expr->Option (List (PV×PV))
 | 0,_,_,_,_,_,_,_=>none
 | n+1,sc,σ,g,items,gs,elt,key=>gd (decide (g.is_async=0) && gW g.target σ) (match items with
  | []=>some []
  | i::is=>(bindT sc g.target i σ).bind fun aI=>(evAnd o n sc aI g.ifs).bind fun b=>
    dv (fun rs rest=>some (rs++rest)) (if b then (match gs with
      | []=>dv (fun v kv=>some [(kv,v)]) (ev o n sc aI elt) (match key with
       | none=>some .none
       | some k=>ev o n sc aI k)
      | g'::gs'=>(evI o n sc aI g'.target g'.iter).bind fun items'=>k8 o n sc aI g' items' gs' elt key) else some [])
     (k8 o n sc σ g is gs elt key))
end
inductive Fl where
 | next
 | brk
 | ret (v:PV)
 deriving Inhabited
noncomputable def nG:Expr->Bool
 | .List ..=>true
 | .Dict ..=>true
 | .ListComp ..=>true
 | .DictComp ..=>true
 | _=>false
noncomputable def FV:Expr->Bool
 | .BinOp _ op _ _=>op == .Add
 | _=>false
noncomputable def jh (e:Expr):Bool:=FV e || nG e
noncomputable def gw:PV->Bool
 | .lst _=>true
 | .dct _=>true
 | _=>false
noncomputable def GV (σ:SE):SE:=σ.map fun p=>(p.1,(false,p.2.2))
noncomputable def iT (W:List Str) (sc:Sc):List Str->List (PV)->SE->Option SE
 | [],vs,σ=>gd vs.isEmpty (some σ)
 | x::xs,vs,σ=>match vs with
  | []=>none
  | v::vs=>if bh sc x && (!(W.contains x) || gw v) then iT W sc xs vs (SE.put σ x (W.contains x,v)) else none
noncomputable def wu (W:List Str):List Str->List Expr->Bool
 | [],es=>es.isEmpty
 | x::xs,es=>match es with
  | []=>false
  | e::es=>(!(W.contains x) || jh e) && wu W xs es
noncomputable def xX (l:List PV) (k:Int) (v:PV):Option (List PV):=
 if l.length<=1048576 then (eG k l.length).map fun i=>l.set i v else none
noncomputable def lY (c i v:PV):Option PV:=(cq i).bind fun k=>match c with
 | .lst l=>if 0<=k then (xX l k v).map .lst else none
 | .dct l=>if l.length<=1048576 then some (.dct (jc l k v)) else none
 | _=>none
noncomputable def rB:List (Str×PV)->Str->PV->List (Str×PV)
 | [],a,v=>[(a,v)]
 | (k,u)::r,a,v=>if k == a then (k,v)::r else (k,u)::rB r a v
noncomputable def AM (l:List Str):Bool:=decide l.Nodup
noncomputable def pC (σ:SE) (x:Str):Option PV:=(σ.lookup x).bind fun q=>gd (q.1 && dl x) (some q.2)
noncomputable def oB (e:Expr):Option (Str×Expr):=(Fi e).bind fun q=>(dZ q.1).map fun x=>(x,q.2.1)
theorem sF {e:Expr}{x:Str×Expr} (h:oB e=some x):∃ q p,e=.Subscript (.Name x.1 q) x.2 p:=by
 refine cu h fun q hq h1=>?_;rw [Bw hq];refine lk (C:=fun x:Str×Expr=>∃ p r,Expr.Subscript q.1 q.2.1 q.2.2=.Subscript (.Name x.1 p) x.2 r) h1 fun y hy=>?_;refine xE (cE hy) ?_;intro p hp;rw [hp];exact ⟨_,_,rfl⟩
noncomputable def pQ (e:Expr):Option (Str×Str):=(oz e).bind fun q=>(dZ q.1).map fun x=>(x,q.2.1)
theorem xm {e:Expr}{x:Str×Str} (h:pQ e=some x):∃ q p,e=.Attribute (.Name x.1 q) x.2 p:=by
 refine cu h fun q hq h1=>?_;rw [ol hq];refine lk (C:=fun x:Str×Str=>∃ p r,Expr.Attribute q.1 q.2.1 q.2.2=.Attribute (.Name x.1 p) x.2 r) h1 fun y hy=>?_;refine xE (cE hy) ?_;intro p hp;rw [hp];exact ⟨_,_,rfl⟩
noncomputable def yu:Expr->Option (Const×Nat×Pos)
 | .Constant c k p=>some (c,k,p)
 | _=>none
theorem xV {e:Expr}{x:Const×Nat×Pos} (h:yu e=some x):e=.Constant x.1 x.2.1 x.2.2:=by
 cases e<;>first | exact nn h | rw [bH h]
noncomputable def FG (e:Expr):Option PV:=(yu e).bind fun q=>pN q.1
noncomputable def AT (e:Expr):Option (Expr×Str×Expr):=(tK e).bind fun q=>dv (fun r a=>gd (q.2.2.1.isEmpty && r.2.2.endLine == q.2.2.2.line) (some (r.1,r.2.1,a))) (oz q.1) (lK q.2.1)
noncomputable def FJ (W:List Str) (E:Expr->Option PV) (sc:Sc) (σ:SE) (x:Str) (v:Expr):Option SE:=
 gd (!(W.contains x && !(jh v))) ((E v).bind fun p=>iT W sc [x] [p] σ)
noncomputable def Ee (W:List Str) (E:Expr->Option PV) (sc:Sc) (σ:SE) (ts:List Expr) (v:Expr):Option SE:=(c8 ts).bind fun xs=>match jb v with
 | some vs=>gd (decide (ts.length=vs.length) && AM xs && wu W xs vs && (vs.length == 2 || vs.length == 3) && !(vs.all (constantsAlone 8))) ((dK E vs).bind fun ps=>iT W sc xs ps σ)
 | none=>gd (!(xs.any W.contains)) ((E v).bind fun u=>(wo u).bind fun ps=>if xs.length=ps.length then dn sc xs ps σ else none)
noncomputable def Dr (E:Expr->Option PV) (σ:SE) (x:Str) (i v:Expr):Option SE:=(pC σ x).bind fun c=>dv (fun p k=>(lY c k p).map fun c'=>SE.put σ x (true,c')) (E v) (E i)
noncomputable def Bf (o:cV) (E:Expr->Option PV) (σ:SE) (x a:Str) (v:Expr):Option SE:=(pC σ x).bind fun c=>(rG c).bind fun cf=>gd (o.fld cf.1 a && decide (cf.2.length<=100)) ((E v).map fun p=>SE.put σ x (true,.obj cf.1 (rB cf.2 a p)))
noncomputable def Gl (o:cV) (W:List Str) (E:Expr->Option PV) (sc:Sc) (σ:SE) (t v:Expr):Option SE:=match dZ t with
 | some x=>FJ W E sc σ x v
 | none=>match jb t with
  | some ts=>Ee W E sc σ ts v
  | none=>match oB t with
   | some q=>Dr E σ q.1 q.2 v
   | none=>(pQ t).bind fun q=>Bf o E σ q.1 q.2 v
noncomputable def Ij (W:List Str) (sc:Sc) (σ:SE) (ts:List Expr) (v:Expr):Option SE:=(c8 ts).bind fun xs=>gd (decide (xs.length=3) && !(xs.any W.contains)) ((FG v).bind fun p=>dn sc xs [p,p,p] σ)
noncomputable def IL (o:cV) (W:List Str) (E:Expr->Option PV) (sc:Sc) (σ:SE) (ts:List Expr) (v:Expr):Option SE:=match lK ts with
 | some t=>Gl o W E sc σ t v
 | none=>Ij W sc σ ts v
noncomputable def Gi (E:Expr->Option PV) (sc:Sc) (σ:SE) (x:Str) (v:Expr):Option SE:=(σ.lookup x).bind fun q=>gd (!q.1) (dv (fun a b=>dn sc [x] [.int (a+b)] σ) (cq q.2) ((E v).bind cq))
noncomputable def FZ (E:Expr->Option PV) (σ:SE) (x:Str) (i v:Expr):Option SE:=(pC σ x).bind fun c=>(E i).bind fun k=>dv (fun a b=>(lY c k (.int (a+b))).map fun c'=>SE.put σ x (true,c')) ((item c k).bind cq) ((E v).bind cq)
noncomputable def I9 (E:Expr->Option PV) (sc:Sc) (σ:SE) (t:Expr) (op:Operator) (v:Expr):Option SE:=gd (op == .Add) (match dZ t with
 | some x=>Gi E sc σ x v
 | none=>(oB t).bind fun q=>FZ E σ q.1 q.2 v)
noncomputable def BB (E:Expr->Option PV) (σ:SE) (e:Expr):Option SE:=(AT e).bind fun q=>(dZ q.1).bind fun x=>(pC σ x).bind fun c=>(jm c).bind fun l=>
 gd (q.2.1 == ("append":Str) && decide (l.length<=1048576)) ((E q.2.2).map fun p=>SE.put σ x (true,.lst (l++[p])))
noncomputable def lg (σ:SE):Fl×SE:=(.next,σ)
mutual
noncomputable def ex (o:cV) (W:List Str):Nat->Sc->SE->Stmt->Option (Fl×SE)
 | 0,_,_,_=>none
 | n+1,sc,σ,s=>match s with
  | .Assign ts v _=>(IL o W (ev o n sc σ) sc σ ts v).map lg
  | .AugAssign t op v _=>(I9 (ev o n sc σ) sc σ t op v).map lg
  | .Expr e _=>(BB (ev o n sc σ) σ e).map lg
  | .If t b e _=>(evT o n sc σ t).bind fun c=>if c then exs o W n sc σ b else exs o W n sc σ e
  | .For t it body els _=>gd els.isEmpty ((evI o n sc σ t it).bind fun items=>exF o W n sc σ t items body)
  | .Return e _=>e.bind fun e=>(ev o n sc (GV σ) e).map fun v=>(.ret v,[])
  | .Break _=>some (.brk,σ)
  | _=>none
noncomputable def exs (o:cV) (W:List Str):Nat->Sc->SE->List Stmt->Option (Fl×SE)
 | 0,_,_,_=>none
 | n+1,sc,σ,ss=>match ss with
  | []=>some (.next,σ)
  | s::r=>(ex o W n sc σ s).bind fun q=>match q.1 with
   | .next=>exs o W n sc q.2 r
   | .brk=>some q
   | .ret _=>some q
noncomputable def exF (o:cV) (W:List Str):Nat->Sc->SE->Expr->List PV->List Stmt->Option (Fl×SE)
 | 0,_,_,_,_,_=>none
 | n+1,sc,σ,t,items,body=>match items with
  | []=>some (.next,σ)
  | i::is=>(bindT sc t i σ).bind fun aI=>(exs o W n sc aI body).bind fun q=>match q.1 with
   | .next=>exF o W n sc q.2 t is body
   | .brk=>some (.next,q.2)
   | .ret _=>some q
end
noncomputable def w6 (params:List Str) (scope:Scope) (args:List PV):Bool:=decide (params.length=args.length) && AM params && scope.kind == .function && !scope.isGenerator && !scope.isCoroutine && decide (scope.names.map (·.1)).Nodup &&
   scope.names.all (fun p=>p.2 == .local || p.2 == .cell || p.2 == .globalImplicit)
noncomputable def Iy (q:Fl×SE):Option PV:=match q.1 with
 | .ret v=>some v
 | .next=>some .none
 | .brk=>none
noncomputable def e5 (o:cV) (W:List Str) (n:Nat) (params:List Str) (scope:Scope) (body:List Stmt) (args:List PV):Option PV:=
 gd (w6 params scope args) ((dn scope.names params args []).bind fun σ=>(exs o W n scope.names σ body).bind Iy)
end Mine
end
section
namespace Mine
section
abbrev GX.Rep (G:GX ag w):=Mine.Rep ag w G.cl
abbrev GX.RepL (G:GX ag w):=Mine.RepL ag w G.cl
abbrev GX.RepD (G:GX ag w):=Mine.RepD ag w G.cl
abbrev GX.RepF (G:GX ag w):=Mine.RepF ag w G.cl
noncomputable def GX.In (G:GX ag w) (h:Heap):Prop:=∀ a o,G.base.get? a=some o->h.get? a=some o
structure cS (U:Addr->Prop) (s s':Shared):Prop where
 heap:bU U s.heap s'.heap
 os:s'.os=s.os
 gens:AllBare s.gens->AllBare s'.gens
abbrev Kp:=cS fun J=>False
theorem cS.refl (U:Addr->Prop) (s:Shared):cS U s s:=⟨.refl _ _,rfl,id⟩
theorem cS.trans {U:Addr->Prop}{s s' s'':Shared} (x:cS U s s') (y:cS U s' s''):cS U s s'':=⟨x.heap.trans y.heap,y.os.trans x.os,fun g=>y.gens (x.gens g)⟩
theorem cS.mono {U U':Addr->Prop}{s s':Shared} (x:cS U s s') (m:∀ a,U a->U' a):cS U' s s':=⟨x.heap.mono m,x.os,x.gens⟩
theorem Kp.keep {s s':Shared} (x:Kp s s'):∀ b o,s.heap.get? b=some o->s'.heap.get? b=some o:=fun b o e=>x.heap b o id e
theorem Kp.toU {s s':Shared} (x:Kp s s') (U:Addr->Prop):cS U s s':=x.mono fun J f=>f.elim
theorem Kp.of {s:Shared}{h':Heap}{tk:Nat} (k:∀ b o,s.heap.get? b=some o->h'.get? b=some o):Kp s { s with heap:=h',toks:=tk }:=⟨fun b o J e=>k b o e,rfl,id⟩
theorem Kp.toks {s:Shared}{tk:Nat}:Kp s { s with toks:=tk }:=⟨fun J J J e=>e,rfl,id⟩
theorem cS.of {U:Addr->Prop}{s:Shared}{h':Heap}{tk:Nat} (k:∀ b o,¬ U b->s.heap.get? b=some o->h'.get? b=some o):cS U s { s with heap:=h',toks:=tk }:=⟨k,rfl,id⟩
theorem GX.In.kp {s s':Shared} (i:G.In s.heap) (k:Kp s s'):G.In s'.heap:=fun a o e=>k.keep a o (i a o e)
theorem Kp.none {s s':Shared} (x:Kp s s') {a:Addr} (n:s'.heap.get? a=none):s.heap.get? a=none:=by
 cases e:s.heap.get? a with
 | none=>rfl
 | some o=>rw [x.keep a o e] at n;cases n
theorem iA {s s':Shared}{V:Addr->Prop}{p:PV}{v:Value} (k:Kp s s') (r:G.Rep s.heap V p v):G.Rep s'.heap V p v:=
 Rep.keep (fun b o J e=>k.keep b o e) (fun J J x=>x) r
theorem pS {s s':Shared}{V:Addr->Prop}{p:List PV}{v:List Value} (k:Kp s s') (r:G.RepL s.heap V p v):G.RepL s'.heap V p v:=
 RepL.keep (fun b o J e=>k.keep b o e) (fun J J x=>x) r
noncomputable def kh (V:Addr->Prop) (h:Heap):Prop:=∀ a,V a->h.get? a≠none
theorem kh.fresh {h:Heap} (l:kh V h):¬ V h.objs.size:=fun x=>l _ x (by
 cases e:h.get? h.objs.size with
 | none=>rfl
 | some o=>exact absurd (aV e) (Nat.lt_irrefl _))
theorem kh.kp {s s':Shared} (l:kh V s.heap) (k:Kp s s'):kh V s'.heap:=fun a v n=>l a v (k.none n)
noncomputable def js (G:GX ag w) (h:Heap) (V H:Addr->Prop):PV->Value->Prop
 | .lst l,v=>∃ a,v=.ref a/\H a/\∃ vs:List Value,h.PlainList a vs.toArray/\G.RepL h V l vs
 | .dct l,v=>∃ a,v=.ref a/\H a/\(a == sysModules)=false/\∃ kvs,h.DictOf (intKind ag w) a kvs/\G.RepD h V l kvs
 | .obj c fs,v=>∃ a C d es ep,v=.ref a/\H a/\G.cl c=some C/\H d/\h.get? a=some { cls:=.ref C,dict:=some d,data:=.plain } /\
   h.get? d=some { cls:=.type "dict",data:=.dict es ep }/\G.RepF h V fs es.toList
 | _,_=>False
theorem js.keep {h h':Heap}{V V' H:Addr->Prop} (k:bU V h h') (kH:∀ a o,H a->h.get? a=some o->h'.get? a=some o) (m:∀ a,h.get? a≠none->V' a->V a) {p:PV}{v:Value} (x:js G h V H p v):js G h' V' H p v:=by
 cases p with
 | lst l=>
  refine bG x ?_;clear x;rintro a e n vs ⟨q,t⟩ r;exact ⟨a,e,n,vs,⟨q,kH _ _ n t⟩,RepL.keep k m r⟩
 | dct l=>
  refine cR x ?_;clear x;rintro a e n z vs ⟨o,es,ep,t,q⟩ r;exact ⟨a,e,n,z,vs,⟨o,es,ep,kH _ _ n t,q⟩,RepD.keep k m r⟩
 | obj c fs=>
  refine dm x ?_;clear x;intro a C d es ep e n q nd g gd r;exact ⟨a,C,d,es,ep,e,n,q,nd,kH _ _ n g,kH _ _ nd gd,RepF.keep k m r⟩
 | _=>exact x.elim
noncomputable def dz (env:Env) (h:Heap) (x:Str) (v:Value):Prop:=
 (env.kindOf x=some .local/\∃ m,h.Ns env.locals m/\m x=some v) \/
 ((env.kindOf x=some .cell\/env.kindOf x=some .free)/\∃ c,env.cells.lookup x=some c/\h.IsCell c (some v))
noncomputable def fD (env:Env) (H:Addr->Prop) (a:Addr):Prop:=a=env.locals\/(∃ x,env.cells.lookup x=some a)\/H a
theorem fD.own {env:Env}{H:Addr->Prop}{a:Addr} (h:H a):fD env H a:=.inr (.inr h)
theorem fD.loc {env:Env}{H:Addr->Prop}:fD env H env.locals:=.inl rfl
theorem fD.cell {env:Env}{H:Addr->Prop}{a:Addr}{x:Str} (h:env.cells.lookup x=some a):fD env H a:=.inr (.inl ⟨x,h⟩)
theorem dz.keep {env:Env}{H:Addr->Prop}{h h':Heap}{x:Str}{v:Value} (kH:∀ a o,fD env H a->h.get? a=some o->h'.get? a=some o) (y:dz env h x v):dz env h' x v:=by
 rcases y with ⟨a,m,hn,e⟩ | ⟨a,c,hc,o,ho,hd⟩
 ·exact .inl ⟨a,m,hn.at' fun o=>kH _ o .loc,e⟩
 ·exact .inr ⟨a,c,hc,o,kH _ _ (.cell hc) ho,hd⟩
noncomputable def jo (G:GX ag w) (h:Heap) (V H:Addr->Prop) (b:Bool) (p:PV) (v:Value):Prop:=if b then js G h V H p v else G.Rep h V p v
structure c3 (G:GX ag w) (env:Env) (sc:Sc) (σ:SE) (V H:Addr->Prop) (s:Shared):Prop where
 base:G.In s.heap
 kind:env.scope.kind=.function
 gl:env.globals=mainGlobals
 bi:env.builtins=builtinsNs
 ns:∃ m,s.heap.Ns env.locals m
 glob:∀ x,sc.lookup x=some .globalImplicit->env.kindOf x=some .globalImplicit
 loc:∀ x,sc.lookup x=some .local->env.kindOf x=some .local
 cel:∀ x,(sc.lookup x=some .cell\/sc.lookup x=some .free)->(env.kindOf x=some .cell\/env.kindOf x=some .free)/\∃ c,env.cells.lookup x=some c/\∃ v,s.heap.IsCell c v
 vars:∀ x b p,σ.lookup x=some (b,p)->∃ v,dz env s.heap x v/\jo G s.heap V H b p v
 hnb:∀ a,fD env H a->G.base.get? a=none
 hex:∀ a,fD env H a->s.heap.get? a≠none
 low:kh V s.heap
theorem c3.change {env:Env}{sc:Sc}{σ:SE}{V V' H:Addr->Prop}{s s':Shared} (E:c3 G env sc σ V H s) (k:bU V s.heap s'.heap) (kH:∀ a o,fD env H a->s.heap.get? a=some o->s'.heap.get? a=some o)
  (kb:G.In s'.heap) (m:∀ a,s.heap.get? a≠none->V' a->V a) (lo:kh V' s'.heap):c3 G env sc σ V' H s' where
 base:=kb
 kind:=E.kind
 gl:=E.gl
 bi:=E.bi
 ns:=let ⟨m,h⟩:=E.ns;⟨m,h.at' fun o=>kH _ o .loc⟩
 glob:=E.glob
 loc:=E.loc
 cel:=fun x e=>let ⟨a,c,hc,v,o,ho,hd⟩:=E.cel x e;⟨a,c,hc,v,o,kH _ _ (.cell hc) ho,hd⟩
 vars:=fun x b p e=>by
  refine bO (E.vars x b p e) ?_;intro v hv hs;refine ⟨v,hv.keep kH,?_⟩
  cases b with
  | true=>exact js.keep k (fun a o h=>kH a o (.own h)) m hs
  | false=>exact Rep.keep k m hs
 hnb:=E.hnb
 hex:=fun a ha e=>by
  cases q:s.heap.get? a with
  | none=>exact E.hex a ha q
  | some o=>rw [kH a o ha q] at e;cases e
 low:=lo
theorem c3.kp {env:Env}{sc:Sc}{σ:SE}{V H:Addr->Prop}{s s':Shared} (E:c3 G env sc σ V H s) (k:Kp s s'):c3 G env sc σ V H s':=
 E.change (fun b o J e=>k.keep b o e) (fun a o J e=>k.keep a o e) (E.base.kp k) (fun J J x=>x) (E.low.kp k)
noncomputable def bz (A:Around) (n:Nat):Prop:=A.handled=none/\A.depth+n < 1000/\A.units+10 * n < 9900
theorem bz.le {A:Around}{n m:Nat} (r:bz A n) (h:m<=n):bz A m:=⟨r.1,by have:=r.2.1;exact (pn [_,_,_] 0x1D03E829A021D03E829A120D10) h this,by have:=r.2.2;exact (pn [_,_,_] 0x1D26AC29A4C0A821D26AC29A4C1A820D10) h this⟩
theorem bz.deeper {A:Around}{n:Nat}{env:Env} (r:bz A (n+1)):bz (A.deeper env) n:=⟨r.1,by have:=r.2.1;show A.depth+1+n < 1000;exact (pn [_,_] 0x1D03E829A1A1801D03E829AA1810) this,by have:=r.2.2;show A.units+3+10 * n < 9900;exact (pn [_,_] 0x1D26AC29A4C1A8A3801D26AC29A4CA181A80) this⟩
theorem bz.depth {A:Around}{n:Nat} (r:bz A n):A.depth < recursionLimit:=by have:=r.2.1;unfold recursionLimit;exact (pn [_,_] 0x1D03E82901D03E829A10) this
noncomputable def cC (G:GX ag w) (x:Str) (v:Value):Prop:=G.mg x=some v\/(G.mg x=none/\G.mb x=some v)
noncomputable def gR (G:GX ag w) (f:Value):Prop:=∀ h,G.In h->∃ k,(k=Keeper.frame\/k=Keeper.machine\/k=Keeper.boundFrame)/\Looks (model ag w) h (keeperOf f) k
abbrev EF:Value->Shared->Prop:=fun J J=>False
noncomputable def b4 (G:GX ag w) (V:Addr->Prop) (s:Shared) (p:PV):Value->Shared->Prop:=fun v s'=>G.Rep s'.heap V p v/\Kp s s'
noncomputable def d8 (G:GX ag w) (h:Heap) (V:Addr->Prop) (p:PV) (v:Value):Prop:=G.Rep h V p v\/js G h V (fun J=>True) p v
noncomputable def td (G:GX ag w) (h:Heap) (V:Addr->Prop):List PV->List Value->Prop
 | [],[]=>True
 | p::ps,v::vs=>d8 G h V p v/\td G h V ps vs
 | _,_=>False
noncomputable def kT (G:GX ag w) (r:Nat) (f:Value) (args:List PV) (p:PV):Prop:=
 ∀ (A:Around) (s:Shared) (V:Addr->Prop) (vs:List Value),bz A r->G.In s.heap->kh V s.heap->G.RepL s.heap V args vs->wpAny (model ag w) A (call f vs) (b4 G V s p) EF s
noncomputable def jF (G:GX ag w) (r:Nat) (f:Value) (args:List PV) (p:PV):Prop:=
 ∀ (A:Around) (s:Shared) (V:Addr->Prop) (vs:List Value),bz A r->G.In s.heap->kh V s.heap->td G s.heap V args vs->wpAny (model ag w) A (call f vs) (b4 G V s p) EF s
structure gE (G:GX ag w) (o:cV) (r:Nat):Prop where
 fn:∀ f args p,o.fn f args=some p->∃ fv,cC G f fv/\gR G fv/\kT G r fv args p
 bi:∀ f args p,o.bi f args=some p->∃ fv,cC G f fv/\gR G fv/\jF G r fv args p
 mth:∀ c m args p,o.mth c m args=some p->∃ C f,G.cl c=some C/\gR G (.ref f)/\kT G r (.ref f) args p /\
  ∀ (A:Around) (s:Shared) (a d:Addr) (es:Array DictEntry) (ep:Nat) (pl:Sem Bool) (Q:Value×List Value->Shared->Prop) (E:Value->Shared->Prop),G.In s.heap ->
   s.heap.get? a=some { cls:=.ref C,dict:=some d,data:=.plain }->s.heap.get? d=some { cls:=.type "dict",data:=.dict es ep } ->
   (es.toList.find? (·.key.isStr m)=none)->(es.toList.any (·.refKey)=false)->Q (.ref f,[.ref a]) s->wpAny (model ag w) A (getMethod (.ref a) m pl) Q E s
 fld:∀ c a,o.fld c a=true->∃ C,G.cl c=some C /\
  ∀ (A:Around) (s:Shared) (x d:Addr) (es:Array DictEntry) (ep:Nat) (e:DictEntry) (Q:Value->Shared->Prop) (E:Value->Shared->Prop),G.In s.heap ->
   s.heap.get? x=some { cls:=.ref C,dict:=some d,data:=.plain }->s.heap.get? d=some { cls:=.type "dict",data:=.dict es ep } ->
   es.toList.find? (·.key.isStr a)=some e->handedIn e.val=true->(∀ tk,Q e.val { s with toks:=tk })->wpAny (model ag w) A (getAttr (.ref x) a true) Q E s
 cattr:∀ g a p,o.cattr g a=some p->∃ C,cC G g C/\∀ (A:Around) (s:Shared) (V:Addr->Prop),G.In s.heap->wpAny (model ag w) A (getAttr C a true) (b4 G V s p) EF s
 gval:∀ x p,o.gval x=some p->∃ v,cC G x v/\∀ h V,G.Rep h V p v
 tab:∀ x t,o.tab x=some t->∃ d,cC G x (.ref d)/\(d == sysModules)=false/\∃ kvs,G.base.DictOf (strKind ag w) d kvs /\
  ∀ y,match t.lookup y with | some i=>∃ tk,valueAt kvs y=some (.int i tk) | none=>valueAt kvs y=none
end
end Mine
end
section
namespace Mine
section
variable {A:Around}{s:Shared}{V:Addr->Prop}
theorem bu:sizeLine=16777216:=by decide +kernel
theorem RepL.ind {cl:cG}{h:Heap}{C:List PV->List Value->Prop} (h0:C [] []) (h1:∀ p v ps vs,Rep ag w cl h V p v->RepL ag w cl h V ps vs->C ps vs->C (p::ps) (v::vs)):∀ {ps:List PV}{vs:List Value},RepL ag w cl h V ps vs->C ps vs:=fun {ps}=>by
 induction ps with
 | nil=>intro vs x;cases vs with
  | nil=>exact h0
  | cons v vs=>exact False.elim x
 | cons p ps ih=>intro vs x;cases vs with
  | nil=>exact False.elim x
  | cons v vs=>exact h1 _ _ _ _ x.1 x.2 (ih x.2)
theorem RepL.cons {cl:cG}{h:Heap}{p:PV}{v:Value}{ps:List PV}{vs:List Value} (r:Rep ag w cl h V p v) (x:RepL ag w cl h V ps vs):RepL ag w cl h V (p::ps) (v::vs):=⟨r,x⟩
theorem RepL.length {cl:cG}{h:Heap}{ps:List PV}{vs:List Value} (x:RepL ag w cl h V ps vs):ps.length=vs.length:=
 RepL.ind (C:=fun ps vs=>ps.length=vs.length) rfl (fun J J J J J J e=>congrArg gF e) x
theorem RepL.append {cl:cG}{h:Heap}{ps qs:List PV}{vs us:List Value} (x:RepL ag w cl h V ps vs) (y:RepL ag w cl h V qs us):RepL ag w cl h V (ps++qs) (vs++us):=
 RepL.ind (C:=fun ps vs=>RepL ag w cl h V (ps++qs) (vs++us)) y (fun J J J J r J e=>RepL.cons r e) x
theorem RepL.get {cl:cG}{h:Heap}{ps:List PV}{vs:List Value}{i:Nat}{p:PV} (x:RepL ag w cl h V ps vs) (e:ps[i]?=some p):∃ v,vs[i]?=some v/\Rep ag w cl h V p v:=
 RepL.ind (C:=fun ps vs=>∀ i,ps[i]?=some p->∃ v,vs[i]?=some v/\Rep ag w cl h V p v) (fun i e=>nn (List.getElem?_nil.symm.trans e))
  (fun q v ps vs r J ih i=>by
   cases i with
   | zero=>intro e;exact ⟨v,rfl,bH e ▸ r⟩
   | succ i=>exact ih i) x i e
theorem RepL.take {cl:cG}{h:Heap}{ps:List PV}{vs:List Value} (n:Nat) (x:RepL ag w cl h V ps vs):RepL ag w cl h V (ps.take n) (vs.take n):=
 RepL.ind (C:=fun ps vs=>∀ n,RepL ag w cl h V (ps.take n) (vs.take n)) (fun n=>by cases n<;>trivial)
  (fun q v ps vs r J ih n=>by
   cases n with
   | zero=>trivial
   | succ i=>exact RepL.cons r (ih i)) x n
theorem RepL.drop {cl:cG}{h:Heap}{ps:List PV}{vs:List Value} (n:Nat) (x:RepL ag w cl h V ps vs):RepL ag w cl h V (ps.drop n) (vs.drop n):=
 RepL.ind (C:=fun ps vs=>∀ n,RepL ag w cl h V (ps.drop n) (vs.drop n)) (fun n=>by cases n<;>trivial)
  (fun q v ps vs r x ih n=>by
   cases n with
   | zero=>exact RepL.cons r x
   | succ i=>exact ih i) x n
theorem RepL.set {cl:cG}{h:Heap}{p:PV}{v:Value} (r:Rep ag w cl h V p v) {ps:List PV}{vs:List Value} (n:Nat) (x:RepL ag w cl h V ps vs):RepL ag w cl h V (ps.set n p) (vs.set n v):=
 RepL.ind (C:=fun ps vs=>∀ n,RepL ag w cl h V (ps.set n p) (vs.set n v)) (fun n=>trivial)
  (fun q v ps vs r' x ih n=>by
   cases n with
   | zero=>exact RepL.cons r x
   | succ i=>exact RepL.cons r' (ih i)) x n
theorem qJ {h:Heap}{a:Addr}{vs:Array Value} (x:h.PlainList a vs):∃ n,IsL h a vs n:=let ⟨n,e⟩:=x;⟨n,e⟩
theorem bN {h:Heap}{i:Int}{v:Value}:G.Rep h V (.int i) v↔∃ t,v=.int i t:=Iff.rfl
theorem c7 {h:Heap}{i:Str}{v:Value}:G.Rep h V (.str i) v↔∃ t,v=.str i t:=Iff.rfl
theorem cY {h:Heap}{i:Bool}{v:Value}:G.Rep h V (.bool i) v↔v=.bool i:=Iff.rfl
theorem lq {h:Heap}{v:Value}:G.Rep h V .none v↔v=.none:=Iff.rfl
theorem dC {h:Heap}{l:List PV}{v:Value}:G.Rep h V (.lst l) v↔∃ a,v=.ref a/\¬ V a/\∃ vs:List Value,h.PlainList a vs.toArray/\G.RepL h V l vs:=Iff.rfl
theorem fN {h:Heap}{l:List PV}{v:Value}:G.Rep h V (.tup l) v↔∃ a,v=.ref a/\¬ V a/\∃ vs:List Value,h.IsTuple a vs.toArray/\G.RepL h V l vs:=Iff.rfl
theorem ew {h:Heap}{l:List (Int×PV)}{v:Value}:G.Rep h V (.dct l) v↔∃ a,v=.ref a/\¬ V a/\(a == sysModules)=false/\∃ kvs,h.DictOf (intKind ag w) a kvs/\G.RepD h V l kvs:=Iff.rfl
theorem qS {h:Heap}{i:Int}{v:Value} (x:d8 G h V (.int i) v):∃ t,v=.int i t:=x.elim (fun x=>bN.mp x) fun x=>x.elim
theorem j9 {h:Heap}{i:Str}{v:Value} (x:d8 G h V (.str i) v):∃ t,v=.str i t:=x.elim (fun x=>c7.mp x) fun x=>x.elim
theorem eH {h:Heap}{l:List PV}{v:Value} (x:d8 G h V (.lst l) v):∃ a,v=.ref a/\∃ vs:List Value,h.PlainList a vs.toArray/\G.RepL h V l vs:=
 x.elim (fun x=>let ⟨a,e,_,r⟩:=dC.mp x;⟨a,e,r⟩) fun x=>let ⟨a,e,_,r⟩:=x;⟨a,e,r⟩
theorem lr {h:Heap}{l:List PV}{v:Value} (x:d8 G h V (.tup l) v):∃ a,v=.ref a/\∃ vs:List Value,h.IsTuple a vs.toArray/\G.RepL h V l vs:=
 x.elim (fun x=>let ⟨a,e,_,r⟩:=fN.mp x;⟨a,e,r⟩) fun x=>x.elim
theorem lB {h:Heap}{l:List (Int×PV)}{v:Value} (x:d8 G h V (.dct l) v):∃ a,v=.ref a/\(a == sysModules)=false/\∃ kvs,h.DictOf (intKind ag w) a kvs/\G.RepD h V l kvs:=
 x.elim (fun x=>let ⟨a,e,_,r⟩:=ew.mp x;⟨a,e,r⟩) fun x=>let ⟨a,e,_,r⟩:=x;⟨a,e,r⟩
theorem dU {s:Shared}{o:Obj}{tk:Nat}:Kp s { s with heap:=s.heap.push o,toks:=tk }:=Kp.of fun J J e=>au _ e
theorem gZ {i:Int}{t:Tok}{tk:Nat}:b4 G V s (.int i) (.int i t) { s with toks:=tk }:=⟨bN.mpr ⟨t,rfl⟩,Kp.toks⟩
theorem wR {b:Bool}:b4 G V s (.bool b) (.bool b) s:=⟨cY.mpr rfl,cS.refl _ _⟩
theorem i0 {l:List PV}{vs:List Value}{n:Nat}{tk:Nat} (lo:kh V s.heap) (r:G.RepL s.heap V l vs) :
  b4 G V s (.lst l) (.ref s.heap.objs.size) { s with heap:=s.heap.push { cls:=.type "list",data:=.seq vs.toArray n },toks:=tk }:=
 ⟨dC.mpr ⟨_,rfl,lo.fresh,vs,⟨n,aH _ rfl⟩,RepL.keep (fun J J J e=>au _ e) (fun J J x=>x) r⟩,dU⟩
theorem lI {l:List PV}{vs:List Value}{n:Nat}{tk:Nat} (lo:kh V s.heap) (r:G.RepL s.heap V l vs) :
  b4 G V s (.tup l) (.ref s.heap.objs.size) { s with heap:=s.heap.push { cls:=.type "tuple",data:=.seq vs.toArray n },toks:=tk }:=
 ⟨fN.mpr ⟨_,rfl,lo.fresh,vs,⟨_,aH _ rfl,rfl,n,rfl⟩,RepL.keep (fun J J J e=>au _ e) (fun J J x=>x) r⟩,dU⟩
theorem mW {i:Int} (h:small i=true):Builtin.Int.intBits i<=64:=by
 have:=of_decide_eq_true h
 exact intBits_le_64 (by lia) (by lia)
theorem uu {x i:Int} (h:small i=true):Builtin.divisionGoesByPylong x i=false:=by
 have:=of_decide_eq_true h
 refine PyProof.noPylong_of_log2 ?_;by_cases h0:i.natAbs=0
 ·rw [h0];decide
 ·have:i.natAbs.log2 < 64:=(Nat.log2_lt h0).mpr (by lia)
  exact (pn [_] 0x1D23282901D40190) this
theorem xk (x:PV) (n:Nat):(be n [x]).flatten=be n x:=by
 induction n with
 | zero=>rfl
 | succ n ih=>rw [List.replicate_succ,List.flatten_cons,ih];rfl
theorem to {α:Type} (x:α):∀ (n:Nat) (acc:Array α),List.foldl (fun a b=>a++b) acc (be n #[x])=acc++(be n x).toArray
 | 0,acc=>by simp
 | n+1,acc=>by
  rw [List.replicate_succ,a9,to x n,List.replicate_succ];apply Array.toList_inj.mp;simp
theorem lO {h:Heap}{p:PV}{v:Value} (r:G.Rep h V p v):∀ n,G.RepL h V (be n p) (be n v)
 | 0=>trivial
 | n+1=>RepL.cons r (lO r n)
theorem xb {l:Addr}{v:Value}{k:Int}{u:Tok}{n:Nat}{Q:Value->Shared->Prop}{E:Value->Shared->Prop} (hl:IsL s.heap l #[v] n) (h0:0<=k) (h1:k<=1048576)
  (h:Q (.ref s.heap.objs.size) { s with heap:=s.heap.push { cls:=.type "list",data:=.seq (be k.toNat v).toArray } }) :
  wpAny (model ag w) A (binaryOp .Mult (.ref l) (.int k u)) Q E s:=by
 refine wpAny_binaryOp_repeat_ref (T:="list") (U:="int") (by decide) ⟨_,hl,rfl⟩ (fun s'=>typeIs_int s' k u) noFill_list_mul F.fills_int_mul F.slot_int_rmul repeat_list F.slot_int_index.lookup ?_;refine call_meets F.slot_int_rmul (typeIs_int s k u) F.entry_int_rmul (F.args_int_rmul_2 _ _) (int___rmul___int_list k u l #[v] n) ⟨hl,rfl,⟨_,hl,rfl⟩,?_⟩;refine call_meets F.slot_list_mul ⟨_,hl,rfl⟩ F.entry_list_mul (F.args_list_mul_2 _ _)
  (AutoListH.list___mul___list_int_3 l #[v] n k u (by simp [Builtin.List.listFitsIndex];exact (pz [] [_] 0x0F1E80000000000000008900E03C8000000000000000890E1000003900E008) h0 h1) (by rw [show (#[v]:Array Value).size=1 from rfl,lQ];lia) (by rw [show (#[v]:Array Value).size=1 from rfl,lQ];simp [Builtin.List.listTooLong,bu];exact (pz [] [_] 0x0E010000004900E100000390) h1)) ⟨hl,?_⟩
 have e:(List.foldl (fun x1 x2=>x1++x2) #[] (be (if (#[v]:Array Value).isEmpty=true then 0 else k.toNat) #[v]))=(be k.toNat v).toArray:=by
  rw [show (#[v]:Array Value).isEmpty=false from rfl];simp only [b0,if_false];rw [to];simp
 rw [e];exact h
theorem jX {h:Heap}{b:PV}{y:Int}{v:Value} (e:cq b=some y) (r:G.Rep h V b v):∃ t,v=.int y t:=bN.mp (jd e ▸ r)
theorem A0 {h:Heap}{b:PV}{y:Str}{v:Value} (e:k9 b=some y) (r:G.Rep h V b v):∃ t,v=.str y t:=c7.mp (rH e ▸ r)
theorem C8 {h:Heap}{b:PV}{y:Bool}{v:Value} (e:iy b=some y) (r:G.Rep h V b v):v=.bool y:=cY.mp (j0 e ▸ r)
theorem Cg {h:Heap}{b:PV}{l:List PV}{v:Value} (e:jm b=some l) (r:G.Rep h V b v):∃ a,v=.ref a/\¬ V a/\∃ vs:List Value,h.PlainList a vs.toArray/\G.RepL h V l vs:=dC.mp (gA e ▸ r)
theorem uM {h:Heap}{b:PV}{y:Int}{v:Value} (e:cq b=some y) (r:d8 G h V b v):∃ t,v=.int y t:=qS (jd e ▸ r)
noncomputable def sr (G:GX ag w) (A:Around) (s:Shared) (V:Addr->Prop) (op:Operator) (va vb:Value) (p:PV):Prop:=wpAny (model ag w) A (binaryOp op va vb) (b4 G V s p) EF s
theorem kN {op:Operator}{f:Int->Int->Option PV}{a b p:PV}{va vb:Value} (e:B8 f a b=some p) (ra:d8 G s.heap V a va) (rb:G.Rep s.heap V b vb)
  (k:∀ x y t u,f x y=some p->sr G A s V op (.int x t) (.int y u) p):sr G A s V op va vb p:=
 b8 e fun x y hx hy e=>by
  refine xE (uM hx ra) ?_;rintro t rfl;refine xE (jX hy rb) ?_;rintro u rfl;exact k x y t u e
theorem x8 {a b p:PV}{va vb:Value} (e:Gm a b=some p) (ra:d8 G s.heap V a va) (rb:G.Rep s.heap V b vb) (lo:kh V s.heap):sr G A s V .Add va vb p:=by
 cases a with
 | int x=>
  refine lk (C:=sr G A s V .Add va vb) e fun y hy=>?_;refine xE (qS ra) ?_;rintro t rfl;refine xE (jX hy rb) ?_;rintro u rfl;exact PyProof.Rows.add_int gZ
 | str x=>
  refine cu e fun y hy e=>fh e fun hz e=>?_;refine xE (j9 ra) ?_;rintro t rfl;refine xE (A0 hy rb) ?_;rintro u rfl;rw [bH e];have hz:=iq hz;have h1:=of_decide_eq_true hz.1;have h2:=of_decide_eq_true hz.2;exact PyProof.Rows.add_str (fun t' tk=>⟨c7.mpr ⟨_,rfl⟩,Kp.toks⟩) (by clear e hz ra rb lo;rw [bu];lia)
 | lst x=>
  refine cu e fun y hy e=>fh e fun hz e=>?_;refine im (eH ra) ?_;rintro l rfl vs hl r;refine bG (Cg hy rb) ?_;rintro l' rfl _ us hl' r';rw [bH e];have hz:=iq hz;have h1:=of_decide_eq_true hz.1;have h2:=of_decide_eq_true hz.2;refine xE (qJ hl) ?_;intro n hl;refine xE (qJ hl') ?_;intro n' hl';refine PySem.P.add_list hl hl' ?_ (by rw [bu,aA,aA,<- RepL.length r,<- RepL.length r'];clear e hz ra rb lo hl hl' r r';lia);rw [List.append_toArray];exact i0 (tk:=s.toks) lo (RepL.append r r')
 | _=>exact nn e
theorem xr {a p:PV}{y:Int}{u:Tok}{va:Value} (e:Hk a y=some p) (ra:d8 G s.heap V a va) (lo:kh V s.heap):sr G A s V .Mult va (.int y u) p:=by
 cases a with
 | int x=>
  refine fh e fun hz e=>?_;refine xE (qS ra) ?_;rintro t rfl;rw [bH e];exact PyProof.Rows.mul_int gZ ((eQ.mp hz).elim (fun q=>IntMulOk.of_left (mW q)) fun q=>IntMulOk.of_right (mW q))
 | lst x=>
  refine fh e fun hz e=>?_;refine im (eH ra) ?_;rintro l rfl vs hl r;refine xA (iq hz) ?_;intro hz h3;refine xA (iq hz) ?_;intro h1 h2;have h1:=of_decide_eq_true h1;refine xE (ni.mp h1) ?_;rintro q rfl;refine xE (ni.mp ((RepL.length r).symm.trans h1)) ?_;rintro v rfl;refine xE (qJ hl) ?_;intro n hl;rw [bH e,xk];exact xb hl (of_decide_eq_true h2) (of_decide_eq_true h3) (i0 (tk:=s.toks) lo (lO r.1 _))
 | _=>exact nn e
theorem DT {x y:Int} (h1:small x=true) (h2:0<=y) (h3:y<=4096):(Builtin.Int.intBits x:Int) * y<=64 * 4096:=
 Int.mul_le_mul (by have:=mW h1;exact (pn [_] 0x0E40192C00D40190) this) h3 h2 (by exact pn [] 0x0E401908)
theorem ve {op:Operator}{a b p:PV}{va vb:Value} (e:jW op a b=some p) (ra:d8 G s.heap V a va) (rb:G.Rep s.heap V b vb) (lo:kh V s.heap):sr G A s V op va vb p:=by
 cases op with
 | Add=>exact x8 e ra rb lo
 | Sub=>exact kN e ra rb fun x y t u e=>H0 (C:=sr G A s V _ _ _) e (PyProof.Rows.sub_int gZ)
 | Mult=>
  refine cu e fun y hy e=>?_;refine xE (jX hy rb) ?_;rintro u rfl;exact xr e ra lo
 | FloorDiv=>exact kN e ra rb fun x y t u e=>fh e fun hz e=>H0 (C:=sr G A s V _ _ _) e (PyProof.Rows.floordiv_int (bne_iff_ne.mp (iq hz).2) gZ (.inl (uu (iq hz).1)))
 | Mod=>exact kN e ra rb fun x y t u e=>fh e fun hz e=>H0 (C:=sr G A s V _ _ _) e (PyProof.Rows.mod_int' (bne_iff_ne.mp hz) gZ)
 | Pow=>exact kN e ra rb fun x y t u e=>fh e fun hz e=>H0 (C:=sr G A s V _ _ _) e (by
   have q:=iq hz;have q1:=iq q.1;have h3:=DT q1.1 (of_decide_eq_true q1.2) (of_decide_eq_true q.2);refine PyProof.Rows.pow_int (of_decide_eq_true q1.2) ?_ gZ;clear e hz q q1 ra rb lo
   lia)
 | _=>exact nn e
end
end Mine
end
section
namespace Mine
section
variable {A:Around}{s:Shared}{V:Addr->Prop}
open SeqAt (EqAt RcAt RcNeAt)
theorem zL {prog':Program}{w':World}{es:List DictEntry}{kvs:List (Int×Value)} (h:Pairs (intKind ag w) es kvs):Pairs (intKind prog' w') es kvs:=by
 induction h with
 | nil=>exact .nil
 | cons a b _ ih=>exact .cons a b ih
theorem kX {prog':Program}{w':World}{h:Heap}{a:Addr}{kvs:List (Int×Value)} (x:h.DictOf (intKind ag w) a kvs):h.DictOf (intKind prog' w') a kvs:=
 let ⟨o,es,ep,ho,hx,hd,hk,hp,hn⟩:=x;⟨o,es,ep,ho,hx,hd,hk,zL hp,hn⟩
theorem Aa {es:List DictEntry}{kvs kvs':List (Int×Value)} (x:Pairs (intKind ag w) es kvs) (y:Pairs (intKind ag w) es kvs'):kvs=kvs':=by
 induction x generalizing kvs' with
 | nil=>cases y;rfl
 | @cons e kv es kvs a b _ ih=>
  cases y with
  | @cons _ kv' _ kvs' a' b' c'=>
   have e1:kv.1=kv'.1:=(intKind ag w).inj _ _ _ a a';have e2:kv=kv':=by
    obtain ⟨k,v⟩:=kv;obtain ⟨k',v'⟩:=kv';simp only at e1 b b';rw [e1,<- b,<- b']
   rw [e2,ih c']
theorem ro {h:Heap}{a:Addr}{kvs kvs':List (Int×Value)} (x:h.DictOf (intKind ag w) a kvs) (y:h.DictOf (intKind ag w) a kvs'):kvs=kvs':=by
 refine sU x ?_;clear x;intro o es ep ho hx hd hk hp hn;refine sU y ?_;clear y;intro o' es' ep' ho' hx' hd' hk' hp' hn';rw [ho] at ho';cases ho';rw [hd] at hd';cases hd';exact Aa hp hp'
theorem tE {h:Heap}{a:Addr}{kvs:List (Int×Value)} (x:h.DictOf (intKind ag w) a kvs):(kvs.map (·.1)).Nodup:=
 let ⟨_,_,_,_,_,_,_,_,hn⟩:=x;hn
theorem wF {h:Heap}{a:Addr}{vs us:Array Value} (x:h.IsTuple a vs) (y:h.IsTuple a us):vs=us:=by
 refine rT x ?_;clear x;intro o ho _ n hd;refine rT y ?_;clear y;intro o' ho' _ n' hd';rw [ho] at ho';cases ho';rw [hd] at hd';cases hd';rfl
theorem sq {h:Heap}{a:Addr}{vs us:Array Value} (x:h.PlainList a vs) (y:h.PlainList a us):vs=us:=by
 refine xE x ?_;clear x;intro n ho;refine xE y ?_;clear y;intro n' ho';rw [ho] at ho';cases ho';rfl
theorem RepD.ind {cl:cG}{h:Heap}{C:List (Int×PV)->List (Int×Value)->Prop} (h0:C [] []) (h1:∀ k p v ps vs,Rep ag w cl h V p v->RepD ag w cl h V ps vs->C ps vs->C ((k,p)::ps) ((k,v)::vs)):∀ {ps:List (Int×PV)}{vs:List (Int×Value)},RepD ag w cl h V ps vs->C ps vs:=fun {ps}=>by
 induction ps with
 | nil=>intro vs x;cases vs with
  | nil=>exact h0
  | cons v vs=>exact False.elim x
 | cons p ps ih=>intro vs x;cases vs with
  | nil=>exact False.elim x
  | cons v vs=>
   obtain ⟨k,p⟩:=p;obtain ⟨k',v⟩:=v;have e:k=k':=x.1;subst e;exact h1 _ _ _ _ _ x.2.1 x.2.2 (ih x.2.2)
theorem RepD.cons {cl:cG}{h:Heap}{k:Int}{p:PV}{v:Value}{ps:List (Int×PV)}{vs:List (Int×Value)} (r:Rep ag w cl h V p v) (x:RepD ag w cl h V ps vs):RepD ag w cl h V ((k,p)::ps) ((k,v)::vs):=⟨rfl,r,x⟩
theorem RepD.keys {cl:cG}{h:Heap}{l:List (Int×PV)}{vs:List (Int×Value)} (x:RepD ag w cl h V l vs):l.map (·.1)=vs.map (·.1):=
 RepD.ind (C:=fun l vs=>l.map (·.1)=vs.map (·.1)) rfl (fun k J J J J J J e=>congrArg (k::·) e) x
theorem RepD.length {cl:cG}{h:Heap}{l:List (Int×PV)}{vs:List (Int×Value)} (x:RepD ag w cl h V l vs):l.length=vs.length:=
 RepD.ind (C:=fun ps vs=>ps.length=vs.length) rfl (fun J J J J J J J e=>congrArg gF e) x
noncomputable def Fd (ag:Program) (w:World) (cl:cG) (h:Heap) (V:Addr->Prop) (vs:List (Int×Value)) (k:Int):Option PV->Prop
 | some p=>∃ v,valueAt vs k=some v/\Rep ag w cl h V p v
 | none=>valueAt vs k=none
theorem RepD.get {cl:cG}{h:Heap}{l:List (Int×PV)}{vs:List (Int×Value)} (k:Int) (x:RepD ag w cl h V l vs):Fd ag w cl h V vs k (ej l k):=
 RepD.ind (C:=fun l vs=>Fd ag w cl h V vs k (ej l k)) rfl (fun a p v l vs r J ih=>by
  unfold ej at *
  by_cases q:a=k
  ·rw [iH (by simpa using q)]
   refine ⟨v,?_,r⟩;unfold valueAt;rw [iH (by simpa using q)];rfl
  ·rw [iI (by simpa using q)]
   have e:valueAt ((a,v)::vs) k=valueAt vs k:=by
    unfold valueAt;rw [iI (by simpa using q)]
   cases z:ca (fun x=>x.2) (List.find? (fun kv=>decide (kv.1=k)) l) with
   | none=>rw [z] at ih;exact e.trans ih
   | some p=>rw [z] at ih;refine bO ih ?_;clear ih;intro u hu ru;exact ⟨u,e.trans hu,ru⟩) x
theorem rJ {p:PV} (h:iN p=true):p=.none:=by
 cases p<;>first | rfl | exact nomatch (show false=true from h)
theorem Gj {n:Nat}{p q:PV}{b:Bool}{C:PV->PV->Bool->Prop} (e:nP (n+1) p q=some b) (h0:C .none .none true) (h1:∀ x y,C (.bool x) (.bool y) (x == y)) (h2:∀ x y,C (.int x) (.int y) (x == y)) (h3:∀ x y,C (.str x) (.str y) (x == y))
  (h4:∀ x y,tP n x y=some b->C (.lst x) (.lst y) b) (h5:∀ x y,tP n x y=some b->C (.tup x) (.tup y) b) (h6:∀ x y,x.length=y.length->n7 n x y=some b->C (.dct x) (.dct y) b) (h7:∀ x y,x.length≠y.length->C (.dct x) (.dct y) false):C p q b:=by
 cases p with
 | none=>refine iC e fun hq e=>?_;rw [rJ hq,bH e];exact h0
 | bool x=>exact lk (C:=C (.bool x) q) e fun y hy=>j0 hy ▸ h1 x y
 | int x=>exact lk (C:=C (.int x) q) e fun y hy=>jd hy ▸ h2 x y
 | str x=>exact lk (C:=C (.str x) q) e fun y hy=>rH hy ▸ h3 x y
 | lst x=>exact cu e fun y hy e=>gA hy ▸ h4 x y e
 | tup x=>exact cu e fun y hy e=>nR hy ▸ h5 x y e
 | dct x=>
  refine cu e fun y hy e=>?_;rw [wJ hy];by_cases z:x.length=y.length
  ·exact h6 x y z ((if_pos z).symm.trans e)
  ·rw [bH ((if_neg z).symm.trans e)];exact h7 x y z
 | _=>exact nn e
theorem Fu {n:Nat}{k:Int}{a:PV}{as bs:List (Int×PV)}{b:Bool}{C:Bool->Prop} (e:n7 (n+1) ((k,a)::as) bs=some b) (h1:ej bs k=none->C false) (h2:∀ c x y,ej bs k=some c->nP n a c=some x->n7 n as bs=some y->C (x && y)):C b:=by
 have e:(match ej bs k with | none=>some false | some c=>dv (fun x y=>some (x && y)) (nP n a c) (n7 n as bs))=some b:=e
 cases z:ej bs k with
 | none=>rw [z] at e;rw [bH e];exact h1 z
 | some c=>rw [z] at e;exact b8 e fun x y hx hy e=>by rw [bH e];exact h2 c x y z hx hy
theorem xO {k:Int}{v:Value}:∀ {l:List (Int×Value)},(l.map (·.1)).Nodup->(k,v)∈l->valueAt l k=some v:=fun {l}=>by
 unfold valueAt
 induction l with
 | nil=>intro _ hm;cases hm
 | cons z l ih=>
  intro hn hm;rw [aw,bI] at hn;rcases ar.mp hm with rfl | hm
  ·rw [iH (by simp)];rfl
  ·rw [iI (by
    have:z.1≠k:=fun q=>hn.1 (aB.mpr ⟨_,hm,q.symm⟩)
    simpa using this)]
   exact ih hn.2 hm
theorem wx {vs us:List Value} (h:vs.toArray=us.toArray):vs=us:=congrArg Array.toList h
theorem CV {h:Heap}{V':Addr->Prop}:∀ (n:Nat),(∀ {p q:PV}{v:Value}{b:Bool},nP n p q=some b->Rep ag w G.cl h V p v->Rep ag w G.cl h V' q v->b=true) /\
  (∀ {p q:List PV}{v:List Value}{b:Bool},tP n p q=some b->RepL ag w G.cl h V p v->RepL ag w G.cl h V' q v->b=true) /\
  (∀ {p q:List (Int×PV)}{v u:List (Int×Value)}{b:Bool},(u.map (·.1)).Nodup->(∀ k x,(k,x)∈v->(k,x)∈u)->RepD ag w G.cl h V p v->RepD ag w G.cl h V' q u->n7 n p q=some b->b=true):=fun n=>by
 induction n with
 | zero=>exact ⟨fun e=>nn e,fun e=>nn e,fun J J J J e=>nn e⟩
 | succ n ih=>
  refine ir ih ?_;clear ih;intro i1 i2 i3;refine ⟨fun {p q v b} e=>?_,fun {p q v b} e x y=>?_,fun {p q v u b} nd sub x y e=>?_⟩
  ·refine Gj (C:=fun p q b=>Rep ag w G.cl h V p v->Rep ag w G.cl h V' q v->b=true) e (fun J J=>rfl) (fun x y r r'=>?_) (fun x y r r'=>?_) (fun x y r r'=>?_) (fun x y e r r'=>?_) (fun x y e r r'=>?_) (fun x y z e r r'=>?_) fun x y z r r'=>?_
   ·cases r.symm.trans r';exact beq_self_eq_true _
   ·refine xE r ?_;clear r;intro t e;refine xE r' ?_;clear r';intro u e';cases e.symm.trans e';exact beq_self_eq_true _
   ·refine xE r ?_;clear r;intro t e;refine xE r' ?_;clear r';intro u e';cases e.symm.trans e';exact beq_self_eq_true _
   ·refine bG r ?_;clear r;intro a e1 _ vs hl r
    refine bG r' ?_;clear r';intro a' e2 _ us hl' r'
    cases e1.symm.trans e2
    exact i2 e r (wx (sq hl hl') ▸ r')
   ·refine bG r ?_;clear r;intro a e1 _ vs hl r
    refine bG r' ?_;clear r';intro a' e2 _ us hl' r'
    cases e1.symm.trans e2
    exact i2 e r (wx (wF hl hl') ▸ r')
   ·refine cR r ?_;clear r;intro a e1 _ _ vs hl r
    refine cR r' ?_;clear r';intro a' e2 _ _ us hl' r'
    cases e1.symm.trans e2
    exact i3 (tE hl) (fun J J h=>h) r (ro hl hl' ▸ r') e
   ·refine cR r ?_;clear r;intro a e1 _ _ vs hl r
    refine cR r' ?_;clear r';intro a' e2 _ _ us hl' r'
    cases e1.symm.trans e2
    exact absurd (r.length.trans (ro hl hl' ▸ r'.length.symm)) z
  ·cases p with
   | nil=>cases v with
    | nil=>cases q with
     | nil=>exact bH e
     | cons _ _=>exact False.elim y
    | cons _ _=>exact False.elim x
   | cons _ _=>cases v with
    | nil=>exact False.elim x
    | cons _ _=>cases q with
     | nil=>exact False.elim y
     | cons _ _=>exact b8 e fun b1 b2 e1 e2 e=>by rw [bH e,i1 e1 x.1 y.1,i2 e2 x.2 y.2];rfl
  ·cases p with
   | nil=>exact bH e
   | cons p as=>cases v with
    | nil=>exact False.elim x
    | cons kv vs=>
     obtain ⟨k,a⟩:=p;obtain ⟨k',v⟩:=kv;have x:k=k'/\Rep ag w G.cl h V a v/\RepD ag w G.cl h V as vs:=x;have hv:valueAt u k=some v:=x.1 ▸ xO nd (sub k' v (.head _));have g:=RepD.get k y;refine Fu (C:=fun b=>b=true) e (fun hn=>?_) fun c b1 b2 hc e1 e2=>?_
     ·rw [hn] at g;exact nn (g.symm.trans hv)
     ·rw [hc] at g
      refine bO g ?_;clear g;intro v' hv' r';rw [i1 e1 x.2.1 (Option.some.inj (hv'.symm.trans hv) ▸ r'),i3 nd (fun k x hx=>sub k x (.tail _ hx)) x.2.2 y e2];rfl
theorem Da {h:Heap}{V':Addr->Prop} (n:Nat) {p q:PV}{v:Value}{b:Bool} (x:Rep ag w G.cl h V p v) (y:Rep ag w G.cl h V' q v) (e:nP n p q=some b):b=true:=(CV  n).1 e x y
theorem rR (n:Nat) (e:Nat->Bool):(ax (n+1)).all e=(e 0 && (ax n).all fun j=>e (j+1)):=by
 rw [List.range_succ_eq_map,ma,List.all_map];rfl
noncomputable def GI (A:Around) (s:Shared) (vs us:List Value) (b:Bool):Prop:=
 ∃ k:Nat->Bool,b=((ax (min vs.length us.length)).all k && (vs.length == us.length))/\∀ j (h1:j < vs.length) (h2:j < us.length),EqAt A s vs[j] us[j] (k j)
theorem tx:∀ {vs us:List Value},vs=[]\/us=[]->GI A s vs us (vs.length == us.length)
 | [],_,_=>⟨fun J=>true,(gG _).symm.trans (by rw [bB,Nat.zero_min];rfl),fun j h=>absurd h (jS _)⟩
 | _::_,[],_=>⟨fun J=>true,(gG _).symm.trans (by rw [bB,Nat.min_zero];rfl),fun j J h=>absurd h (jS _)⟩
 | _::_,_::_,h=>h.elim (fun h=>nomatch h) fun h=>nomatch h
theorem Cv {v u:Value}{vs us:List Value}{b1 b2:Bool} (z:EqAt A s v u b1) (x:GI A s vs us b2):GI A s (v::vs) (u::us) (b1 && b2):=by
 refine bO x ?_;clear x;intro k hk he;refine ⟨fun j=>Nat.rec b1 (fun j J=>k j) j,?_,fun j=>?_⟩
 ·rw [aD,aD,Nat.succ_min_succ,rR,hk,Bool.and_assoc]
  exact congrArg (fun z=>b1 && ((ax (min vs.length us.length)).all k && z)) (by rw [dE,beq_iff_eq,beq_iff_eq,Nat.succ_inj])
 ·cases j with
  | zero=>exact fun J J=>z
  | succ j=>exact fun h1 h2=>he j (iJ h1) (iJ h2)
theorem yy {vs us:List Value}{l l':Addr}{b:Bool} (x:GI A.in1 s vs us b) (hl:s.heap.IsTuple l vs.toArray) (hl':s.heap.IsTuple l' us.toArray) (hu:A.units < cLine):RcAt A s (.ref l) (.ref l') b/\RcNeAt A s (.ref l) (.ref l') (!b):=by
 refine bO x ?_;clear x;rintro k rfl he;have z:=RcAt.tuples (A:=A) (e:=k) hl hl' hu (fun j h1 h2=>he j h1 h2);have z':=RcNeAt.tuples (A:=A) (e:=k) hl hl' hu (fun j h1 h2=>he j h1 h2);exact ⟨z,z'⟩
theorem yV {vs us:List Value}{l l':Addr}{b:Bool} (x:GI A.in1 s vs us b) (hl:s.heap.PlainList l vs.toArray) (hl':s.heap.PlainList l' us.toArray) (hu:A.units < cLine):RcAt A s (.ref l) (.ref l') b/\RcNeAt A s (.ref l) (.ref l') (!b):=by
 refine bO x ?_;clear x;rintro k rfl he;by_cases hz:vs.length=us.length
 ·have e:((ax (min vs.length us.length)).all k && (vs.length == us.length))=(ax vs.length).all k:=by rw [<- hz,Nat.min_self,beq_self_eq_true,Bool.and_true]
  rw [e];exact ⟨RcAt.lists (A:=A) (e:=k) hl.isList hl'.isList hz hu (fun j h1 h2=>he j h1 h2),RcNeAt.lists (A:=A) (e:=k) hl.isList hl'.isList hz hu (fun j h1 h2=>he j h1 h2)⟩
 ·rw [beq_eq_false_iff_ne.mpr hz,f0]
  exact ⟨RcAt.lists_lengths (A:=A) hl.isList hl'.isList (bne_iff_ne.mpr hz) hu,RcNeAt.lists_lengths (A:=A) hl.isList hl'.isList (bne_iff_ne.mpr hz) hu⟩
noncomputable def Ji (G:GX ag w) (s:Shared) (V:Addr->Prop) (n:Nat):Prop:=∀ {A:Around}{p q:PV}{va vb:Value}{b:Bool},nP n p q=some b->A.units+n < cLine->G.Rep s.heap V p va->G.Rep s.heap V q vb->EqAt A s va vb b
noncomputable def Ii (G:GX ag w) (s:Shared) (V:Addr->Prop) (n:Nat):Prop:=∀ {A:Around}{p q:List PV}{vs us:List Value}{b:Bool},tP n p q=some b->A.units+n < cLine->G.RepL s.heap V p vs->G.RepL s.heap V q us->GI A s vs us b
noncomputable def Ik (G:GX ag w) (s:Shared) (V:Addr->Prop) (n:Nat):Prop:=∀ {A:Around}{p q:List (Int×PV)}{vs us:List (Int×Value)}{b:Bool},n7 n p q=some b->A.units+n < cLine->G.RepD s.heap V p vs->G.RepD s.heap V q us->KeqHits A s us vs b
theorem G1 {A:Around}{n:Nat} (h:A.units+(n+1) < cLine):A.in1.units+n < cLine/\A.units < cLine/\A.units+n < cLine:=by
 show A.units+1+n < cLine/\_;generalize cLine=c at *
 exact (pn [_,_,_] 0x0F0F1D2A101D201D2A1A1801D2AA1810) h
theorem un:∀ (n:Nat),Ji G s V n/\Ii G s V n/\Ik G s V n:=fun n=>by
 induction n with
 | zero=>exact ⟨fun e=>nn e,fun e=>nn e,fun e=>nn e⟩
 | succ n ih=>
  refine ir ih ?_;clear ih;intro i1 i2 i3;refine ⟨fun {A p q va vb b} e hu=>?_,fun {A p q vs us b} e hu x y=>?_,fun {A p q vs us b} e hu x y=>?_⟩
  ·by_cases hs:va=vb
   ·subst hs
    intro x y;rw [Da  (n+1) x y e];exact EqAt.same _
   ·refine ir (G1 hu) ?_;intro u1 u2 _
    refine Gj (C:=fun p q b=>G.Rep s.heap V p va->G.Rep s.heap V q vb->EqAt A s va vb b) e (fun r r'=>absurd (Eq.trans r (Eq.symm r')) hs) (fun x y r r'=>?_) (fun x y r r'=>?_) (fun x y r r'=>?_) (fun x y e r r'=>?_) (fun x y e r r'=>?_) (fun x y z e r r'=>?_) fun x y z r r'=>?_
    ·rw [cY.mp r,cY.mp r'];exact EqAt.bool_bool _ _
    ·refine xE (bN.mp r) ?_;rintro t rfl
     refine xE (bN.mp r') ?_;rintro u rfl;exact EqAt.int_int _ _ _ _
    ·refine xE (c7.mp r) ?_;rintro t rfl
     refine xE (c7.mp r') ?_;rintro u rfl;exact (eqGives_str _ _ _ _).at _ _
    ·refine bG (dC.mp r) ?_;rintro l rfl _ vs hl r
     refine bG (dC.mp r') ?_;rintro l' rfl _ us hl' r';exact .of_refs (fun q=>hs (congrArg _ q)) (yV (i2 e u1 r r') hl hl' u2).1
    ·refine bG (fN.mp r) ?_;rintro l rfl _ vs hl r
     refine bG (fN.mp r') ?_;rintro l' rfl _ us hl' r';exact .of_refs (fun q=>hs (congrArg _ q)) (yy (i2 e u1 r r') hl hl' u2).1
    ·refine cR (ew.mp r) ?_;rintro l rfl _ z1 vs hl r
     refine cR (ew.mp r') ?_;rintro l' rfl _ z2 us hl' r';have e3:vs.length=us.length:=r.length.symm.trans (z.trans r'.length);refine .of_refs (fun q=>hs (congrArg _ q)) fun prog' w' E Q hq=>keq_eq z1 z2 (kX hl) (kX hl') (r:=b) u2 (fun J=>i3 e u1 r r') ?_;rw [e3,beq_self_eq_true,gG];exact hq
    ·refine cR (ew.mp r) ?_;rintro l rfl _ z1 vs hl r
     refine cR (ew.mp r') ?_;rintro l' rfl _ z2 us hl' r';refine .of_refs (fun q=>hs (congrArg _ q)) fun prog' w' E Q hq=>keq_eq z1 z2 (kX hl) (kX hl') (r:=false) u2 (fun q=>absurd (r.length.trans (q.trans r'.length.symm)) z) ?_;rw [f0];exact hq
  ·cases p with
   | nil=>cases vs with
    | nil=>cases q with
     | nil=>cases us with
      | nil=>rw [bH e];exact tx (.inl rfl)
      | cons _ _=>exact False.elim y
     | cons _ _=>cases us with
      | nil=>exact False.elim y
      | cons _ _=>rw [bH e];exact tx (.inl rfl)
    | cons _ _=>exact False.elim x
   | cons a as=>cases vs with
    | nil=>exact False.elim x
    | cons v vs=>cases q with
     | nil=>cases us with
      | nil=>rw [bH e];exact tx (.inr rfl)
      | cons _ _=>exact False.elim y
     | cons c cs=>cases us with
      | nil=>exact False.elim y
      | cons u us=>exact b8 e fun b1 b2 e1 e2 e=>by rw [bH e];exact Cv (i1 e1 (G1 hu).2.2 x.1 y.1) (i2 e2 (G1 hu).2.2 x.2 y.2)
  ·cases p with
   | nil=>cases vs with
    | nil=>rw [bH e];exact .nil
    | cons _ _=>exact False.elim x
   | cons ka as=>cases vs with
    | nil=>exact False.elim x
    | cons kv vs=>
     obtain ⟨k,a⟩:=ka;obtain ⟨k',v⟩:=kv;have x:k=k'/\G.Rep s.heap V a v/\G.RepD s.heap V as vs:=x;refine ir x ?_;clear x;rintro rfl r x;have g:=RepD.get k y;refine Fu (C:=KeqHits A s us ((k,v)::vs)) e (fun hn=>?_) fun c b1 b2 hc e1 e2=>?_
     ·rw [hn] at g;exact .miss g
     ·rw [hc] at g
      refine bO g ?_;clear g;intro u hu' r';exact .hit hu' (i1 e1 (G1 hu).2.2 r r') (i3 e2 (G1 hu).2.2 x y)
theorem Cp (n:Nat) {p q:List (Int×PV)}{vs us:List (Int×Value)}{b:Bool} (e:n7 n p q=some b) (x:G.RepD s.heap V p vs) (y:G.RepD s.heap V q us) (hu:A.units+n < cLine):KeqHits A s us vs b:=(un n).2.2 e hu x y
theorem BS (n:Nat) {p q:List PV}{vs us:List Value}{b:Bool} (e:tP n p q=some b) (x:G.RepL s.heap V p vs) (y:G.RepL s.heap V q us) (hu:A.units+n < cLine):GI A s vs us b:=(un n).2.1 e hu x y
end
end Mine
end
section
namespace Mine
section
variable {A:Around}{s:Shared}{E:Value->Shared->Prop}
theorem pd {a b:Int}{t u:Tok}{Q:Value->Shared->Prop} (h:Q (.bool (decide (a < b))) s):wpAny (model ag w) A (richCompare .Lt (.int a t) (.int b u)) Q E s:=
 (show wpAny (model ag w) A (compareOp .Lt (.int a t) (.int b u)) Q E s from PyProof.Rows.lt_int h)
theorem o9 {a b:Int}{t u:Tok}{Q:Value->Shared->Prop} (h:Q (.bool (decide (a > b))) s):wpAny (model ag w) A (richCompare .Gt (.int a t) (.int b u)) Q E s:=
 (show wpAny (model ag w) A (compareOp .Gt (.int a t) (.int b u)) Q E s from PyProof.Rows.gt_int h)
theorem uG {x y:Addr}{a b c d:Int}{t1 t2 t3 t4:Tok}{P:Fin->Shared->Prop} (hx:s.heap.IsTuple x #[.int a t1,.int b t2]) (hy:s.heap.IsTuple y #[.int c t3,.int d t4])
  (h:P (.done (.ret (.bool (mX (fun i j=>decide (i < j)) a b c d)))) s):wpAny (model ag w) A (Builtin.«tuple.__lt__» ⟨[.ref x,.ref y],[]⟩) P E s:=by
 refine rT hx ?_;clear hx;intro ox gx cx nx dx;refine rT hy ?_;clear hy;intro oy gy cy ny dy;show wpAny _ _ (isInstance (.ref y) (.type "tuple") >>= _) _ _ s;refine wpAny_bind (wpAny_isInstance (T:="tuple") ⟨oy,gy,cy⟩ isSubtype_tuple_tuple ?_);simp only [jx,b0,if_false];refine wpAny_bind (wpAny_tupleItemsOf gx dx ?_);refine wpAny_bind (wpAny_tupleItemsOf gy dy ?_);show wpAny _ _ (forIn [(Value.int a t1,Value.int c t3),(Value.int b t2,Value.int d t4)] _ _ >>= _) _ _ s;unfold mX at h;rw [fk];refine wpAny_bind (wpAny_bind (wpAny_bind (wpAny_eqBool_int ?_)))
 cases e1:(a == c)
 ·rw [e1] at h
  simp only [pj,if_true];refine wpAny_bind (wpAny_rule ?_);refine wpAny_bind (pd ?_);exact wpAny_bind (wpAny_pure (wpAny_pure (wpAny_pure (wpAny_pure h))))
 ·rw [e1,if_pos rfl] at h
  simp only [jx,b0,if_false];refine wpAny_pure ?_;dsimp only;rw [fk];refine wpAny_bind (wpAny_bind (wpAny_eqBool_int ?_))
  cases e2:(b == d)
  ·rw [e2] at h
   simp only [pj,if_true];refine wpAny_bind (wpAny_rule ?_);refine wpAny_bind (pd ?_);exact wpAny_bind (wpAny_pure (wpAny_pure (wpAny_pure (wpAny_pure h))))
  ·rw [e2,if_pos rfl] at h
   simp only [jx,b0,if_false];refine wpAny_pure ?_;dsimp only;rw [pp];refine wpAny_pure (wpAny_pure h)
theorem vI {x y:Addr}{a b c d:Int}{t1 t2 t3 t4:Tok}{P:Fin->Shared->Prop} (hx:s.heap.IsTuple x #[.int a t1,.int b t2]) (hy:s.heap.IsTuple y #[.int c t3,.int d t4])
  (h:P (.done (.ret (.bool (mX (fun i j=>decide (i > j)) a b c d)))) s):wpAny (model ag w) A (Builtin.«tuple.__gt__» ⟨[.ref x,.ref y],[]⟩) P E s:=by
 refine rT hx ?_;clear hx;intro ox gx cx nx dx;refine rT hy ?_;clear hy;intro oy gy cy ny dy;show wpAny _ _ (isInstance (.ref y) (.type "tuple") >>= _) _ _ s;refine wpAny_bind (wpAny_isInstance (T:="tuple") ⟨oy,gy,cy⟩ isSubtype_tuple_tuple ?_);simp only [jx,b0,if_false];refine wpAny_bind (wpAny_tupleItemsOf gx dx ?_);refine wpAny_bind (wpAny_tupleItemsOf gy dy ?_);show wpAny _ _ (forIn [(Value.int a t1,Value.int c t3),(Value.int b t2,Value.int d t4)] _ _ >>= _) _ _ s;unfold mX at h;rw [fk];refine wpAny_bind (wpAny_bind (wpAny_bind (wpAny_eqBool_int ?_)))
 cases e1:(a == c)
 ·rw [e1] at h
  simp only [pj,if_true];refine wpAny_bind (wpAny_rule ?_);refine wpAny_bind (o9 ?_);exact wpAny_bind (wpAny_pure (wpAny_pure (wpAny_pure (wpAny_pure h))))
 ·rw [e1,if_pos rfl] at h
  simp only [jx,b0,if_false];refine wpAny_pure ?_;dsimp only;rw [fk];refine wpAny_bind (wpAny_bind (wpAny_eqBool_int ?_))
  cases e2:(b == d)
  ·rw [e2] at h
   simp only [pj,if_true];refine wpAny_bind (wpAny_rule ?_);refine wpAny_bind (o9 ?_);exact wpAny_bind (wpAny_pure (wpAny_pure (wpAny_pure (wpAny_pure h))))
  ·rw [e2,if_pos rfl] at h
   simp only [jx,b0,if_false];refine wpAny_pure ?_;dsimp only;rw [pp];refine wpAny_pure (wpAny_pure h)
theorem uU {x y:Addr}{a b c d:Int}{t1 t2 t3 t4:Tok}{Q:Value->Shared->Prop} (hu:A.units < cLine) (hx:s.heap.IsTuple x #[.int a t1,.int b t2]) (hy:s.heap.IsTuple y #[.int c t3,.int d t4])
  (h:Q (.bool (mX (fun i j=>decide (i < j)) a b c d)) s):wpAny (model ag w) A (compareOp .Lt (.ref x) (.ref y)) Q E s:=by
 have Tx:s.TypeIs (.ref x) "tuple":=let ⟨o,g,c,_⟩:=hx;⟨o,g,c⟩;have Ty:s.TypeIs (.ref y) "tuple":=let ⟨o,g,c,_⟩:=hy;⟨o,g,c⟩;exact (show wpAny (model ag w) A (richCompare .Lt (.ref x) (.ref y)) Q E s from wpAny_richCompare_same_room (op:=.Lt) Tx Ty PySem.F.slot_tuple_lt
  (wpAny_call_entry PySem.F.slot_tuple_lt Tx PySem.F.entry_tuple_lt (uG hx hy ⟨_,rfl,(fun e=>nomatch e),h⟩) (PySem.F.args_tuple_lt_2 _ _)) hu)
theorem uD {x y:Addr}{a b c d:Int}{t1 t2 t3 t4:Tok}{Q:Value->Shared->Prop} (hu:A.units < cLine) (hx:s.heap.IsTuple x #[.int a t1,.int b t2]) (hy:s.heap.IsTuple y #[.int c t3,.int d t4])
  (h:Q (.bool (mX (fun i j=>decide (i > j)) a b c d)) s):wpAny (model ag w) A (compareOp .Gt (.ref x) (.ref y)) Q E s:=by
 have Tx:s.TypeIs (.ref x) "tuple":=let ⟨o,g,c,_⟩:=hx;⟨o,g,c⟩;have Ty:s.TypeIs (.ref y) "tuple":=let ⟨o,g,c,_⟩:=hy;⟨o,g,c⟩;exact (show wpAny (model ag w) A (richCompare .Gt (.ref x) (.ref y)) Q E s from wpAny_richCompare_same_room (op:=.Gt) Tx Ty PySem.F.slot_tuple_gt
  (wpAny_call_entry PySem.F.slot_tuple_gt Tx PySem.F.entry_tuple_gt (vI hx hy ⟨_,rfl,(fun e=>nomatch e),h⟩) (PySem.F.args_tuple_gt_2 _ _)) hu)
theorem qr {h:Heap}{V:Addr->Prop}{a b:Int}{v:Value} (r:G.Rep h V (.tup [.int a,.int b]) v):∃ x t u,v=.ref x/\h.IsTuple x #[.int a t,.int b u]:=by
 refine bG (fN.mp r) ?_;rintro c rfl _ us ht ru
 cases us with
 | nil=>exact False.elim ru
 | cons u1 us=>cases us with
  | nil=>exact False.elim ru.2
  | cons u2 us=>cases us with
   | cons _ _=>exact False.elim ru.2.2
   | nil=>
    refine xE (bN.mp ru.1) ?_;rintro t1 rfl;refine xE (bN.mp ru.2.1) ?_;rintro t2 rfl;exact ⟨c,t1,t2,rfl,ht⟩
end
end Mine
end
section
namespace Mine
section
variable {A:Around}{s:Shared}{V:Addr->Prop}
open SeqAt (EqAt RcAt RcNeAt)
noncomputable def isInt (k:Int):Value->Bool
 | .int i _=>i == k
 | _=>false
noncomputable def FD (k:Bool):Value->Bool
 | .bool i=>i == k
 | _=>false
theorem sK {k:Int}{t:Tok}{l:List PV}{vs:List Value}{b:Bool} (e:gT k l=some b) (r:G.RepL s.heap V l vs):b=vs.any (isInt k)/\∀ v∈vs,EqAt A s v (.int k t) (isInt k v):=
 RepL.ind (C:=fun l vs=>∀ b,gT k l=some b->b=vs.any (isInt k)/\∀ v∈vs,EqAt A s v (.int k t) (isInt k v)) (fun b e=>⟨bH e,fun J h=>nomatch h⟩)
  (fun p v l vs r J ih b e=>b8 e fun i c hi hc e=>by
   refine xE (jX  hi r) ?_;rintro u rfl;refine xA (ih c hc) ?_;intro h1 h2;refine ⟨by rw [bH e,fz,h1];rfl,fun x hx=>?_⟩;rcases ar.mp hx with rfl | hx
   ·exact EqAt.int_int _ _ _ _
   ·exact h2 x hx) r b e
noncomputable def wm (s:Shared) (b:Bool):Value->Shared->Prop:=fun v s'=>v=.bool b/\Kp s s'
theorem mr {b:Bool}{tk:Nat}:wm s b (.bool b) { s with toks:=tk }:=⟨rfl,Kp.toks⟩
theorem eM {b:Bool}:wm s b (.bool b) s:=⟨rfl,cS.refl _ _⟩
noncomputable def Af (ag:Program) (w:World) (A:Around) (s:Shared) (op op':CmpOp) (va vb:Value) (b:Bool):Prop:=wpAny (model ag w) A (compareOp op va vb) (wm s b) EF s/\wpAny (model ag w) A (compareOp op' va vb) (wm s (!b)) EF s
theorem iZ {k:Int}{t:Tok}:(intKind ag w).is k (.int k t)=true:=by simp [intKind,Value.isInt]
theorem tU {vs:List Value}{y:Value} (h:y∈vs.toArray):y∈vs:=List.mem_toArray.mp h
theorem kU {a c:PV}{va vc:Value}{b:Bool} (e:FH a c=some b) (ra:G.Rep s.heap V a va) (rc:d8 G s.heap V c vc):Af ag w A s .In .NotIn va vc b:=by
 refine cu e fun k hk e=>?_;refine xE (jX hk ra) ?_;rintro t rfl
 cases c with
 | dct l=>
  rw [bH e];refine bG (lB rc) ?_;rintro d rfl z kvs hd r;have g:=RepD.get k r;have e1:(ej l k).isSome=(valueAt kvs k).isSome:=by
   cases q:ej l k with
   | none=>rw [q] at g;exact (congrArg Option.isSome g).symm
   | some p=>rw [q] at g;refine bO g ?_;clear g;intro v hv _;rw [hv];rfl
  rw [e1];exact ⟨wpAny_in_of (knd:=intKind ag w) (k:=k) iZ z hd.mapOf mr,wpAny_notIn_of (knd:=intKind ag w) (k:=k) iZ z hd.mapOf mr⟩
 | lst l=>
  refine im (eH rc) ?_;rintro d rfl vs hd r;refine xA (sK (A:=A.in1) (t:=t) e r) ?_;rintro rfl h2;exact ⟨SeqAt.in_listAt (isInt k) hd.isList (fun y hy=>h2 y (tU hy)) (by rw [mI];exact eM),SeqAt.notIn_listAt (isInt k) hd.isList (fun y hy=>h2 y (tU hy)) (by rw [mI];exact eM)⟩
 | tup l=>
  refine im (lr rc) ?_;rintro d rfl vs hd r;refine xA (sK (A:=A.in1) (t:=t) e r) ?_;rintro rfl h2;exact ⟨SeqAt.in_tupleAt (isInt k) hd (fun y hy=>h2 y (tU hy)) (by rw [mI];exact eM),SeqAt.notIn_tupleAt (isInt k) hd (fun y hy=>h2 y (tU hy)) (by rw [mI];exact eM)⟩
 | _=>exact nn e
theorem od {x y:Value}{b:Bool} (h:PySem.plainIs x y=true) (hb:(x == y)=b):Af ag w A s .Is .IsNot x y b:=by
 subst hb;exact ⟨wpAny_is_plain h eM,wpAny_isNot_plain h eM⟩
theorem tt {h:Heap}{c:PV}{v:Value} (e:rj c=true) (r:G.Rep h V c v):(PySem.plainIs .none v=true/\PySem.plainIs v .none=true)/\(Value.none == v)=false/\(v == Value.none)=false:=by
 have ne:∀ {v:Value},Value.none≠v->(Value.none == v)=false/\(v == Value.none)=false:=fun h=>⟨beq_eq_false_iff_ne.mpr h,beq_eq_false_iff_ne.mpr (Ne.symm h)⟩
 cases c with
 | bool b=>rw [cY.mp r];exact ⟨⟨rfl,rfl⟩,ne (fun q=>nomatch q)⟩
 | int i=>refine xE (bN.mp r) ?_;rintro t rfl;exact ⟨⟨rfl,rfl⟩,ne (fun q=>nomatch q)⟩
 | str i=>refine xE (c7.mp r) ?_;rintro t rfl;exact ⟨⟨rfl,rfl⟩,ne (fun q=>nomatch q)⟩
 | tup l=>refine bO r ?_;clear r;rintro a rfl _;exact ⟨⟨rfl,rfl⟩,ne (fun q=>nomatch q)⟩
 | lst l=>refine bO r ?_;clear r;rintro a rfl _;exact ⟨⟨rfl,rfl⟩,ne (fun q=>nomatch q)⟩
 | _=>exact nomatch (show false=true from e)
theorem Gp {h:Heap}{c:PV}{v:Value} (e:iN c=true) (r:G.Rep h V c v):v=.none:=lq.mp (rJ e ▸ r)
theorem rS {a c:PV}{va vc:Value}{b:Bool} (e:E3 a c=some b) (ra:G.Rep s.heap V a va) (rc:G.Rep s.heap V c vc):Af ag w A s .Is .IsNot va vc b:=by
 unfold E3 at e;by_cases qa:iN a=true
 ·rw [if_pos qa] at e
  have ra:va=.none:=Gp qa ra;rw [ra];by_cases qc:iN c=true
  ·rw [if_pos qc] at e
   rw [bH e,Gp qc rc];exact od rfl (beq_self_eq_true _)
  ·rw [if_neg qc] at e
   refine iC e fun q e=>?_;rw [bH e];have h:=tt q rc;exact od h.1.1 h.2.1
 ·rw [if_neg qa] at e
  by_cases qc:iN c=true
  ·rw [if_pos qc] at e
   refine iC e fun q e=>?_;rw [bH e,Gp qc rc];have h:=tt q ra;exact od h.1.2 h.2.2
  ·rw [if_neg qc] at e
   refine b8 e fun x y hx hy e=>?_;rw [bH e,C8 hx ra,C8 hy rc];exact od rfl (by cases x<;>cases y<;>decide)
theorem sM {n:Nat}{p q:PV}{va vb:Value}{b:Bool} (e:nP n p q=some b) (x:G.Rep s.heap V p va) (y:G.Rep s.heap V q vb) (hu:A.units+n < cLine):Af ag w A s .Eq .NotEq va vb b:=by
 cases n with
 | zero=>exact nn e
 | succ n=>
 have two:∀ {x y:Value}{b:Bool},RcAt A s x y b/\RcNeAt A s x y (!b)->Af ag w A s .Eq .NotEq x y b:=fun h=>⟨h.1 ag w EF _ eM,h.2 ag w EF _ eM⟩;refine ir (G1 hu) ?_;intro u1 u2 _;refine Gj (C:=fun p q b=>G.Rep s.heap V p va->G.Rep s.heap V q vb->Af ag w A s .Eq .NotEq va vb b) e (fun r r'=>?_) (fun x y r r'=>?_) (fun x y r r'=>?_) (fun x y r r'=>?_) (fun x y e r r'=>?_) (fun x y e r r'=>?_) (fun x y z e r r'=>?_) (fun x y z r r'=>?_) x y
 ·rw [lq.mp r,lq.mp r']
  exact two ⟨fun ag w E Q h=>RcAt.none_none ag w E Q h,RcNeAt.none_none⟩
 ·rw [cY.mp r,cY.mp r']
  exact two ⟨RcAt.bool_bool _ _,RcNeAt.bool_bool _ _⟩
 ·refine xE (bN.mp r) ?_;rintro t rfl
  refine xE (bN.mp r') ?_;rintro u rfl;exact two ⟨RcAt.int_int _ _ _ _,RcNeAt.int_int _ _ _ _⟩
 ·refine xE (c7.mp r) ?_;rintro t rfl
  refine xE (c7.mp r') ?_;rintro u rfl;exact two ⟨RcAt.str_str _ _ _ _,RcNeAt.str_str _ _ _ _⟩
 ·refine bG (dC.mp r) ?_;rintro l rfl _ vs hl r
  refine bG (dC.mp r') ?_;rintro l' rfl _ us hl' r';exact two (yV (BS n e r r' u1) hl hl' u2)
 ·refine bG (fN.mp r) ?_;rintro l rfl _ vs hl r
  refine bG (fN.mp r') ?_;rintro l' rfl _ us hl' r';exact two (yy (BS n e r r' u1) hl hl' u2)
 ·refine cR (ew.mp r) ?_;rintro l rfl _ z1 vs hl r
  refine cR (ew.mp r') ?_;rintro l' rfl _ z2 us hl' r';have hb:(vs.length == us.length && b)=b:=by rw [r.length.symm.trans (z.trans r'.length),beq_self_eq_true,gG]
  exact ⟨keq_eq z1 z2 hl hl' (r:=b) u2 (fun J=>Cp n e r r' u1) (by rw [hb];exact eM),keq_ne z1 z2 hl hl' (r:=b) u2 (fun J=>Cp n e r r' u1) (by rw [hb];exact eM)⟩
 ·refine cR (ew.mp r) ?_;rintro l rfl _ z1 vs hl r
  refine cR (ew.mp r') ?_;rintro l' rfl _ z2 us hl' r';exact ⟨keq_eq z1 z2 hl hl' (r:=false) u2 (fun q=>absurd (r.length.trans (q.trans r'.length.symm)) z) (by rw [f0];exact eM),
   keq_ne z1 z2 hl hl' (r:=false) u2 (fun q=>absurd (r.length.trans (q.trans r'.length.symm)) z) (by rw [f0];exact eM)⟩
theorem nZ {a:PV}{q:Int×Int} (e:yK a=some q):a=.tup [.int q.1,.int q.2]:=by
 refine cu e fun l hl e=>?_;rw [nR hl]
 cases l with
 | nil=>exact nn e
 | cons x l=>cases l with
  | nil=>exact nn e
  | cons y l=>cases l with
   | nil=>exact b8 e fun i j hi hj e=>by rw [jd hi,jd hj,bH e]
   | cons _ _=>exact nn e
noncomputable def q8 (G:GX ag w) (A:Around) (s:Shared) (op:CmpOp) (va vb:Value) (b:Bool):Prop:=wpAny (model ag w) A (compareOp op va vb) (wm s b) EF s
theorem lF {op:CmpOp}{f:Int->Int->Bool}{a b:PV}{va vb:Value}{c:Bool} (e:yt f a b=some c) (ra:G.Rep s.heap V a va) (rb:G.Rep s.heap V b vb) (k:∀ x y t u,q8 G A s op (.int x t) (.int y u) (f x y)):q8 G A s op va vb c:=
 b8 e fun x y hx hy e=>by
  refine xE (jX hx ra) ?_;rintro t rfl;refine xE (jX hy rb) ?_;rintro u rfl;rw [bH e];exact k x y t u
theorem qE {op:CmpOp}{f:Int->Int->Bool}{a b:PV}{va vb:Value}{c:Bool} (e:FM f a b=some c) (ra:G.Rep s.heap V a va) (rb:G.Rep s.heap V b vb) (k:∀ x y t u,q8 G A s op (.int x t) (.int y u) (f x y))
  (k2:∀ (x y:Addr) (a b c d:Int) (t1 t2 u1 u2:Tok),s.heap.IsTuple x #[.int a t1,.int b t2]->s.heap.IsTuple y #[.int c u1,.int d u2]->q8 G A s op (.ref x) (.ref y) (mX f a b c d)):q8 G A s op va vb c:=by
 cases a with
 | int x=>exact lF (f:=f) (a:=.int x) (lk (C:=fun c=>yt f (.int x) b=some c) e fun y hy=>i4 rfl hy) ra rb k
 | tup l=>
  refine b8 e fun p q hp hq e=>?_;refine oX (qr (nZ hp ▸ ra)) ?_;rintro x t1 t2 rfl hx;refine oX (qr (nZ hq ▸ rb)) ?_;rintro y u1 u2 rfl hy;rw [bH e];exact k2 _ _ _ _ _ _ _ _ _ _ hx hy
 | _=>exact nn e
theorem z8 {n:Nat}{op:CmpOp}{p q:PV}{va vb:Value}{b:Bool} (e:EJ n op p q=some b) (x:G.Rep s.heap V p va) (y:G.Rep s.heap V q vb) (hu:A.units+n < cLine):q8 G A s op va vb b:=by
 have hu':A.units < cLine:=Nat.lt_of_le_of_lt (Nat.le_add_right _ _) hu
 cases op with
 | Eq=>exact (sM e x y hu).1
 | NotEq=>exact lk (C:=q8 G A s .NotEq va vb) e fun c hc=>(sM hc x y hu).2
 | Lt=>exact qE e x y (fun J J J J=>PyProof.Rows.lt_int eM) fun J J J J J J J J J J hx hy=>uU hu' hx hy eM
 | LtE=>exact lF e x y fun J J J J=>PyProof.Rows.le_int eM
 | Gt=>exact qE e x y (fun J J J J=>PyProof.Rows.gt_int eM) fun J J J J J J J J J J hx hy=>uD hu' hx hy eM
 | GtE=>exact lF e x y fun J J J J=>PyProof.Rows.ge_int eM
 | Is=>exact (rS e x y).1
 | IsNot=>exact lk (C:=q8 G A s .IsNot va vb) e fun c hc=>(rS hc x y).2
 | In=>exact (kU e x (.inl y)).1
 | NotIn=>exact lk (C:=q8 G A s .NotIn va vb) e fun c hc=>(kU hc x (.inl y)).2
end
end Mine
end
section
namespace Mine
section
variable {A:Around}{s:Shared}{V:Addr->Prop}
theorem t8 {k:Int}{n i:Nat}{C:Prop} (e:eG k n=some i) (hn:k < 0->-(n:Int)<=k->i=(k+n).toNat->C) (hp:¬ k < 0->k < n->i=k.toNat->C):C:=by
 by_cases q:k < 0
 ·exact fh ((if_pos q).symm.trans e) fun h e=>hn q h (bH e)
 ·exact fh ((if_neg q).symm.trans e) fun h e=>hp q h (bH e)
theorem lD {k:Int}{n i:Nat} (e:eG k n=some i):seqIndex? k n=some i/\i < n:=
 t8 e (fun h1 h2 h=>by rw [h];exact ⟨seqIndex_neg h1 (by exact (pz [_] [_] 0x0E03C2C00E03C2C0) h2),by exact (pz [_] [_] 0x1D02CA2C000E03C2C01E080) h1 h2⟩) fun h1 h2 h=>by rw [h];exact ⟨seqIndex_of (by exact (pz [] [_] 0x0E0082F1E080) h1) h2,by exact (pz [_] [_] 0x1D02C01E2C002F1E080) h1 h2⟩
theorem mL {k:Int}{n i:Nat} (e:eG k n=some i) (h:n<=1048576):-(2 ^ 63)<=k/\k < 2 ^ 63:=
 t8 e (fun h1 h2 J=>by lia) fun h1 h2 J=>by lia
theorem Bv {vs:List Value}{j:Nat}{v:Value} (h:vs[j]?=some v):vs.toArray[j]?=some v:=List.getElem?_toArray.trans h
noncomputable def qi (G:GX ag w) (A:Around) (s:Shared) (V:Addr->Prop) (vc vi:Value) (p:PV):Prop:=wpAny (model ag w) A (getItem vc vi) (b4 G V s p) EF s
theorem BN {l:List PV}{vc:Value}{k:Int}{t:Tok}{p:PV} (rc:d8 G s.heap V (.lst l) vc) (e:(if l.length<=1048576 then (eG k l.length).bind (l[·]?) else none)=some p):qi G A s V vc (.int k t) p:=by
 refine fh e fun hz e=>cu e fun j hj hp=>?_;refine im (eH rc) ?_;rintro a rfl vs hl r;refine bO (RepL.get r hp) ?_;intro v hv rv;have e1:=RepL.length r;have fit:=mL hj hz;have hq:b4 G V s p v s:=⟨rv,cS.refl _ _⟩;refine t8 hj (fun h0 h1 h2=>?_) fun h0 h1 h2=>?_
 ·exact wpAny_getItem_list_neg hl.isList h0 (by rw [aA,<- e1];exact h1) fit.1 (x:=v) (by rw [aA,<- e1,<- h2];exact Bv hv) hq
 ·exact wpAny_getItem_list hl.isList (Int.not_lt.mp h0) fit.2 (x:=v) (by rw [<- h2];exact Bv hv) hq
theorem CP {l:List PV}{vc:Value}{k:Int}{t:Tok}{p:PV} (rc:d8 G s.heap V (.tup l) vc) (e:(if l.length<=1048576 then (eG k l.length).bind (l[·]?) else none)=some p):qi G A s V vc (.int k t) p:=by
 refine fh e fun hz e=>cu e fun j hj hp=>?_;refine im (lr rc) ?_;rintro a rfl vs hl r;refine bO (RepL.get r hp) ?_;intro v hv rv;have fit:=mL hj hz;exact PyProof.Rows.getItem_tuple (items:=vs.toArray) (j:=j) hl fit.1 fit.2 (by rw [aA,<- RepL.length r];exact (lD hj).1) (x:=v) (Bv hv) ⟨rv,cS.refl _ _⟩
theorem AJ {x:Str}{vc:Value}{k:Int}{t:Tok}{p:PV} (rc:d8 G s.heap V (.str x) vc) (e:(if x.length<=1048576 then (eG k x.length).map fun i=>.str (AP x i) else none)=some p):qi G A s V vc (.int k t) p:=by
 refine fh e fun hz e=>lk (C:=qi G A s V vc (.int k t)) e fun j hj=>?_;refine xE (j9 rc) ?_;rintro t rfl;refine xA (lD hj) ?_;intro h1 h2;have fit:=mL hj hz;have hc:x.cps[j]?=some x.cps[j]:=Array.getElem?_eq_getElem h2;refine PySem.P.getItem_str (c:=x.cps[j]) (by clear e hz hj h1 h2 hc;simp;lia) (by rw [h1];exact hc) ⟨c7.mpr ⟨s.toks,?_⟩,Kp.toks⟩;unfold AP;rw [hc];rfl
theorem AZ {l:List (Int×PV)}{vc:Value}{k:Int}{t:Tok}{p:PV} (rc:d8 G s.heap V (.dct l) vc) (e:ej l k=some p):qi G A s V vc (.int k t) p:=by
 refine bG (lB rc) ?_;rintro a rfl _ kvs hd r;have g:=RepD.get k r;rw [e] at g;refine bO g ?_;clear g;intro v hv rv;exact wpAny_getItem_of (knd:=intKind ag w) (k:=k) iZ hd.mapOf hv ⟨iA Kp.toks rv,Kp.toks⟩
theorem mo {c i p:PV}{vc vi:Value} (e:item c i=some p) (rc:d8 G s.heap V c vc) (ri:G.Rep s.heap V i vi):qi G A s V vc vi p:=by
 refine cu e fun k hk e=>?_;refine xE (jX hk ri) ?_;rintro t rfl
 cases c with
 | lst l=>exact BN rc e
 | tup l=>exact CP rc e
 | dct l=>exact AZ rc e
 | str x=>exact AJ rc e
 | _=>exact nn e
set_option tactic.hygienic true in
theorem yU {value mC:Expr}{o i:Value}{T id:String}{Q:Value->Shared->Prop}{E:Value->Shared->Prop} (hT:s.TypeIs o T) (hl:typeLookup (.type T) "__getitem__"=pure (some (.builtin id)))
  (h:wpAny (model ag w) A (getItem o i) Q E s):wpAny (model ag w) A (subscriptTail value mC o i) Q E s:=by
 unfold subscriptTail;refine wpAny_bind ?_;rw [getitemInPython_of_ne hT.not_modules];refine wpAny_bind (wpAny_specialOf hT hl ?_);have fin:wpAny (model ag w) A (subscripted mC false o i) (fun r cJ=>wpAny (model ag w) A (letTemporaryGo value o r >>= fun J=>pure r) Q E cJ) E s:=by
  unfold subscripted;split
  ·exact wpAny_operating (wpAny_mono h (fun r cJ AA=>wpAny_bind (wpAny_letTemporaryGo (wpAny_pure AA))) fun J J x=>x)
  ·rename_i q;cases q
  ·exact wpAny_operating (wpAny_mono h (fun r cJ AA=>wpAny_bind (wpAny_letTemporaryGo (wpAny_pure AA))) fun J J x=>x)
 first
  | exact wpAny_pure (wpAny_bind fin)
  | exact wpAny_bind (wpAny_pure (wpAny_bind fin))
  | exact wpAny_bind fin
noncomputable def nw:PV->Bool
 | .lst _=>true
 | .tup _=>true
 | .dct _=>true
 | .str _=>true
 | _=>false
theorem EP {c:PV}{vc:Value} (rc:d8 G s.heap V c vc) (hc:nw c=true):∃ T id,s.TypeIs vc T/\typeLookup (.type T) "__getitem__"=pure (some (.builtin id)):=by
 cases c with
 | str x=>refine xE (j9 rc) ?_;rintro t rfl;exact ⟨_,_,typeIs_str s _ t,F.slot_str_getitem.lookup⟩
 | tup l=>refine im (lr rc) ?_;rintro a rfl vs ⟨o,ho,hc,_⟩ _;exact ⟨"tuple",_,⟨o,ho,hc⟩,slot_tuple_getitem.lookup⟩
 | lst l=>refine im (eH rc) ?_;rintro a rfl vs hl _;exact ⟨_,_,hl.isList.typeIs,slot_list_getitem.lookup⟩
 | dct l=>refine bG (lB rc) ?_;rintro a rfl _ kvs hl _;exact ⟨_,_,hl.mapOf.typeIs,slot_dict_getitem.lookup⟩
 | _=>exact nomatch (show false=true from hc)
theorem CF {c:PV}{vc vi:Value}{value mC:Expr}{Q:Value->Shared->Prop}{E:Value->Shared->Prop} (rc:d8 G s.heap V c vc) (h:wpAny (model ag w) A (getItem vc vi) Q E s)
  (hc:nw c=true):wpAny (model ag w) A (subscriptTail value mC vc vi) Q E s:=by
 refine jw (EP rc hc) ?_;intro T id hT hl;exact yU hT hl h
theorem tY {α:Type} (l:List α) (a b:Option Int):ms l a b=(l.drop ((a.map (b9 · l.length)).getD 0)).take ((b.map (b9 · l.length)).getD l.length - (a.map (b9 · l.length)).getD 0):=by
 unfold ms;rw [List.drop_take]
theorem lZ (k:Int) (n:Nat):((b9 k n:Nat):Int)=max 0 (min (if k < 0 then k+n else k) n):=by
 unfold b9;split<;>lia
theorem oA (a b:Option Int) (n:Nat):sliceBounds a b none n=((((a.map (b9 · n)).getD 0:Nat):Int),(((b.map (b9 · n)).getD n:Nat):Int),1):=by
 cases a with
 | none=>cases b with
  | none=>rfl
  | some b=>show ((0:Int),_,(1:Int))=((0:Int),((b9 b n:Nat):Int),1);rw [lZ];rfl
 | some a=>cases b with
  | none=>show (_,(n:Int),(1:Int))=(((b9 a n:Nat):Int),(n:Int),1);rw [lZ];rfl
  | some b=>show (_,_,(1:Int))=(((b9 a n:Nat):Int),((b9 b n:Nat):Int),1);rw [lZ,lZ];rfl
theorem sm (items:Array Value) (a b:Option Int):slicePick items a b none=(ms items.toList a b).toArray:=by
 unfold slicePick;rw [oA,sliceRange_one,pick_run,tY];simp
theorem DA {h:Heap}{ps:List PV}{vs:List Value} (a b:Option Int) (r:G.RepL h V ps vs):G.RepL h V (ms ps a b) (ms vs a b):=by
 unfold ms;rw [<- RepL.length r];exact RepL.drop _ (RepL.take _ r)
theorem tV (x:Str) (a b:Option Int):((Builtin.Str.strSliceIndices a b 1 x.length).filterMap (x.cps[·]?))=ms x.cps.toList a b:=by
 have e:Builtin.Str.strSliceIndices a b 1 x.length=sliceRange (sliceBounds a b none x.length).1 (sliceBounds a b none x.length).2.1 1:=by
  unfold Builtin.Str.strSliceIndices sliceBounds
  cases a<;>cases b<;>simp
 rw [e,oA,sliceRange_one,pick_run,tY];simp [Str.length]
end
end Mine
end
section
namespace Mine
section
variable {A:Around}{s:Shared}{V:Addr->Prop}
theorem Gh (b:Option Int) (n:Nat):((b.map (b9 · n)).getD n)<=n:=by
 cases b with
 | none=>simp
 | some k=>simp only [d9,bJ,b9];split<;>lia
theorem zE (a b:Option Int) (n:Nat):(Builtin.Str.strSliceIndices a b 1 n).length=(b.map (b9 · n)).getD n - (a.map (b9 · n)).getD 0:=by
 have e:Builtin.Str.strSliceIndices a b 1 n=sliceRange (sliceBounds a b none n).1 (sliceBounds a b none n).2.1 1:=by
  cases a<;>cases b<;>rfl
 rw [e,oA,sliceRange_one,aa,bf]
theorem yF {α:Type} (l:List α) (a b:Option Int):(ms l a b).Sublist l:=by
 rw [tY];exact (List.take_sublist _ _).trans (List.drop_sublist _ _)
theorem Bq {x:Str}{a b:Option Int} (h:(Builtin.Str.strSliceIndices a b 1 x.length).length=x.length):ms x.cps.toList a b=x.cps.toList:=by
 refine (yF _ a b).eq_of_length ?_;rw [zE] at h;have hb:=Gh b x.length;have e:x.cps.toList.length=x.length:=bR;rw [tY,cQ,df,e];generalize (a.map (b9 · x.length)).getD 0=lo at h;generalize (b.map (b9 · x.length)).getD x.length=hi at h hb;exact (pn [_,_,_] 0x2D20CB12B100D202D2B10) h hb
set_option tactic.hygienic true in
theorem zR {x:Str}{t:Tok}{sl:Addr}{l u:Option (Int×Tok)} (hz:x.length<=1048576) (hs:s.heap.IsSlice sl l u none) :
  wpAny (model ag w) A (getItem (.str x t) (.ref sl)) (b4 G V s (.str ⟨(ms x.cps.toList (l.map (·.1)) (u.map (·.1))).toArray⟩)) EF s:=by
 refine wpAny_getItem_str_slice hs rfl ?_;unfold sliceMade slicePicked;generalize l.map (·.1)=a;generalize u.map (·.1)=b;split
 ·rename_i hc
  rw [Bq (eq_of_beq (Bool.and_eq_true_iff.mp hc).2)];exact ⟨c7.mpr ⟨t,rfl⟩,cS.refl _ _⟩
 ·show Made.post (.str ⟨((Builtin.Str.strSliceIndices a b 1 x.length).filterMap (x.cps[·]?)).toArray⟩) _ s
  rw [tV x a b];refine ⟨?_,c7.mpr ⟨s.toks,rfl⟩,Kp.toks⟩;rw [bu];refine aO (?_:(ms x.cps.toList a b).toArray.size<=_) (aO hz (by decide));rw [aA];exact aO (yF _ a b).length_le (Nat.le_of_eq bR)
theorem xT {l:List PV}{v:Value}{sl:Addr}{a b:Option Int}{va vb:Value} (lo:kh V s.heap) (hz:l.length<=1048576) (rc:d8 G s.heap V (.lst l) v) (hs:s.heap.IsSliceOf sl va vb .none) (pa:IsPart va a) (pb:IsPart vb b) :
  wpAny (model ag w) A (getItem v (.ref sl)) (b4 G V s (.lst (ms l a b))) EF s:=by
 refine im (eH rc) ?_;rintro d rfl vs hl r;have e1:=RepL.length r;refine wpAny_getItem_list_slice hl.isList hs pa pb .none (by simp) ?_ (by rw [bu,aA];exact (pn [_,_] 0x0D010000004912D100D100000390) hz e1);rw [sm];exact i0 (tk:=s.toks) lo (DA a b r)
theorem B9 {b n:Nat} (h:b<=n):Builtin.Slice.sliceAdjust none (some (b:Int)) 1 (n:Int)=(0,(b:Int)):=by
 unfold Builtin.Slice.sliceAdjust;have h2:¬ ((b:Int) < 0):=by exact pn [_] 0x2F1E082C0
 simp only [show ¬ ((1:Int) < 0) by decide,h2,if_false];congr 1;exact (pn [_,_] 0x2E2C00C2C12C00D10) h
theorem vo (b:Nat):Builtin.Slice.slicePlaces (0:Int) (b:Int) 1=b:=by
 unfold Builtin.Slice.slicePlaces;simp only [show (1:Int) > 0 by decide,if_true,Int.ediv_one];split<;>lia
theorem z3 (vs:List Value) (b:Nat):((ax b).filterMap fun (k:Nat)=>vs.toArray[((0:Int)+(k:Int) * 1).toNat]?).toArray=(vs.take b).toArray:=by
 have e:(fun (k:Nat)=>vs.toArray[((0:Int)+(k:Int) * 1).toNat]?)=(fun x=>vs.toArray[x]?) ∘ fun x=>0+x:=by
  funext k;show vs.toArray[((0:Int)+(k:Int) * 1).toNat]?=vs.toArray[0+k]?;rw [show ((0:Int)+(k:Int) * 1).toNat=0+k by lia]
 rw [e,<- List.filterMap_map,pick_run vs.toArray 0 b,pq]
theorem zT {l:List PV}{v:Value}{sl:Addr}{b:Nat}{t:Tok} (lo:kh V s.heap) (hz:l.length<=1048576) (hb:b < l.length) (rc:d8 G s.heap V (.tup l) v) (hs:s.heap.IsSliceOf sl .none (.int b t) .none) :
  wpAny (model ag w) A (getItem v (.ref sl)) (b4 G V s (.tup (l.take b))) EF s:=by
 refine im (lr rc) ?_;rintro d rfl vs ht r;have e1:=RepL.length r;have ht:IsTup s.heap d vs.toArray:=ht;refine fw (id hs) ?_;intro os hos hcs hds;have hTs:s.TypeIs (.ref sl) "slice":=⟨os,hos,hcs⟩;unfold getItem
 try with_reducible refine wpAny_holding ?_
 first | refine wpAny_bind (wpAny_pure ?_) | skip
 refine wpAny_bind (wpAny_sequenceKey ht.typeIs (by decide) ?_);refine wpAny_bind (wpAny_callSpecial?_slot (name:=Str.ofString "__getitem__") ht.typeIs slot_tuple_getitem
  (wpAny_call_entry slot_tuple_getitem ht.typeIs entry_tuple_getitem ?_ (args_tuple_getitem _ _)))
 show wpAny _ _ (Builtin.Tuple.tupleItemsOf (.ref d) >>= _) _ _ s;refine wpAny_bind (tupleItemsOf_ ht ?_);refine wpAny_bind (wpAny_typeOf hTs ?_);rw [if_pos (by decide)];have applied:∀ {Q:Int×Int×Nat->Shared->Prop}{E:Value->Shared->Prop},Q (0,1,b) s->wpAny (model ag w) A.in1 (Builtin.Slice.sliceApplied (.ref sl) (pure (vs.toArray.size:Int))) Q E s:=by
  intro Q E h;unfold Builtin.Slice.sliceApplied Builtin.Slice.sliceFields;refine wpAny_bind (wpAny_bind (wpAny_field hos hds (x:=.none) rfl (wpAny_bind (wpAny_field hos hds (x:=.int b t) rfl (wpAny_bind (wpAny_field hos hds (x:=.none) rfl (wpAny_pure ?_)))))));refine wpAny_bind (slicePart_none ?_);show wpAny _ _ (if ((1:Int) == 0)=true then _ else _) _ _ s;rw [if_neg (by decide)];refine wpAny_bind (slicePart_none (wpAny_bind (slicePart_int (wpAny_bind (wpAny_pure ?_)))));show wpAny _ _ (match Builtin.Slice.sliceAdjust none (some (b:Int)) 1 (vs.toArray.size:Int) with | (lo,hi)=>pure (lo,(1:Int),Builtin.Slice.slicePlaces lo hi 1)) _ _ s;have h1:Builtin.Slice.sliceAdjust none (some (b:Int)) 1 (vs.toArray.size:Int)=(0,(b:Int)):=B9 (by rw [aA];exact (pn [_,_,_] 0x0D202D211D10) hb e1);rw [h1];show wpAny _ _ (pure ((0:Int),(1:Int),Builtin.Slice.slicePlaces (0:Int) (b:Int) 1)) _ _ s;have h2:=vo b;rw [h2];exact wpAny_pure h
 refine wpAny_bind (applied ?_);have hno:¬ (((0:Int) == 0 && (1:Int) == 1 && b == vs.toArray.size)=true):=by
  have:(b == vs.toArray.size)=false:=by rw [beq_eq_false_iff_ne,aA];exact (pn [_,_,_] 0x2F2D202D211D10) hb e1
  rw [this];simp
 show wpAny _ _ (if ((0:Int) == 0 && (1:Int) == 1 && b == vs.toArray.size)=true then _ else _) _ _ s;rw [if_neg hno];have hp:=z3 vs b;rw [hp];have hq:b4 G V s (.tup (l.take b)) (.ref s.heap.objs.size) { s with heap:=s.heap.push { cls:=.type "tuple",data:=.seq (vs.take b).toArray } }:=lI (tk:=s.toks) lo (RepL.take _ r)
 have hsz:sizeOk (.seq (vs.take b).toArray):=by
  show (vs.take b).toArray.size<=sizeLine;rw [aA,cQ,bu];exact (pn [_,_,_] 0x0D01000000490C212D201D010D100000390) hz hb e1
 first
  | exact wpAny_bind (m:=Builtin.Tuple.tupleExact _) (wpAny_newObj_type (wpAny_pure ⟨_,rfl,wpAny_pure hq⟩) hsz)
  | exact wpAny_bind (m:=Builtin.Tuple.tupleExact _) (wpAny_newObj_type (wpAny_bind (wpAny_pure (wpAny_pure ⟨_,rfl,wpAny_pure hq⟩))) hsz)
  | exact wpAny_bind (wpAny_bind (m:=Builtin.Tuple.tupleExact _) (wpAny_newObj_type (wpAny_pure (wpAny_pure ⟨_,rfl,wpAny_pure hq⟩)) hsz))
  | exact wpAny_bind (wpAny_bind (m:=Builtin.Tuple.tupleExact _) (wpAny_newObj_type (wpAny_pure ⟨_,rfl,wpAny_pure hq⟩) hsz))
end
end Mine
end
section
namespace Mine
section
variable {A:Around}{s:Shared}{V:Addr->Prop}
structure lf (G:GX ag w) (A:Around) (I:Addr) (wr:List Addr) (St:Nat->Heap->Prop) (V:Addr->Prop) (t:Expr) (items:List PV):Prop where
 sub:∀ b∈wr,V b
 ex:∀ i h,St i h->∀ b∈wr,h.get? b≠none
 frame:∀ i h h',St i h->(∀ b o,(¬ V b\/b∈wr)->h.get? b=some o->h'.get? b=some o)->St i h'
 item:∀ (i:Nat) (s:Shared) (p:PV),items[i]?=some p->St i s.heap ->
  wpAny (model ag w) A (pyNext (.ref I)) (fun r aG=>∃ v,r=some v/\wpAny (model ag w) A (letOwnedTupleGo t (.ref I) v) (fun J s'=>(∀ V':Addr->Prop,kh V' s.heap->(∀ a,V' a->V a)->G.Rep s'.heap V' p v)/\St (i+1) s'.heap/\cS (·∈wr) s s') EF aG) EF s
 done:∀ (s:Shared),St items.length s.heap->wpAny (model ag w) A (pyNext (.ref I)) (fun r s'=>r=none/\cS (·∈wr) s s') EF s
 self:∀ (i:Nat) (s:Shared),St i s.heap->wpAny (model ag w) A (pyIter (.ref I)) (fun v s'=>v=.ref I/\s'=s) EF s
theorem lf.ofWalks {I:Addr}{fp wr:List Addr}{n:Nat}{P:Nat->Value->Prop}{St:Nat->Heap->Prop}{t:Expr}{items:List PV} (W:Walks ag w A I fp wr n P St) (R:Heap->Prop)
  (hn:items.length=n) (hw:∀ b∈wr,V b) (hf:∀ b∈fp,¬ V b\/b∈wr) (fR:∀ h h',R h->(∀ b o,¬ V b->h.get? b=some o->h'.get? b=some o)->R h')
  (rep:∀ (i:Nat) (p:PV) (v:Value) (h:Heap),items[i]?=some p->P i v->R h->G.Rep h V p v)
  (go:∀ (i:Nat) (s:Shared) (v:Value) (Q:Unit->Shared->Prop),P i v->St (i+1) s.heap->Q () s->wpAny (model ag w) A (letOwnedTupleGo t (.ref I) v) Q EF s)
  (ex:∀ i h,St i h->∀ b∈wr,h.get? b≠none) :
  lf G A I wr (fun i h=>St i h/\R h) V t items where
 sub:=hw
 ex:=fun i h x=>ex i h x.1
 frame:=fun i h h' x k=>⟨W.frame i h h' x.1 fun b hb o e=>k b o (hf b hb) e,fR h h' x.2 fun b o nb e=>k b o (.inl nb) e⟩
 item:=fun i s p hp x=>by
  have hi:i < n:=by rw [<- hn];exact (aQ.mp hp).1
  refine W.item i s _ _ hi x.1 fun v h' tk hP st' hk=>⟨v,rfl,go i _ v _ hP st' ?_⟩;have hr:R h':=fR _ _ x.2 fun b o nb e=>hk b o (fun hb=>nb (hw b hb)) e;exact ⟨fun V' J m=>Rep.keep (bU.refl _ _) (fun a J q=>m a q) (rep i p v h' hp hP hr),⟨st',hr⟩,cS.of fun b o nb e=>hk b o nb e⟩
 done:=fun s x=>W.done s _ _ (hn ▸ x.1) fun h' tk hk=>⟨rfl,cS.of fun b o nb e=>hk b o nb e⟩
 self:=fun i s x=>W.self i s _ _ x.1 ⟨rfl,rfl⟩
theorem lf.ofPairs {I:Addr}{fp wr:List Addr}{n:Nat}{Pt:Nat->Array Value->Prop}{St:Nat->Heap->Prop}{Mid:Nat->Addr->Heap->Prop}{es:List Expr}{k:Nat}{pos:Pos}{items:List PV} (W:WalksT ag w A I fp wr n Pt St Mid) (R:Heap->Prop)
  (hn:items.length=n) (hw:∀ b∈wr,V b) (hf:∀ b∈fp,¬ V b\/b∈wr) (fR:∀ h h',R h->(∀ b o,¬ V b->h.get? b=some o->h'.get? b=some o)->R h')
  (rep:∀ (i:Nat) (p:PV) (vs:Array Value) (h:Heap),items[i]?=some p->Pt i vs->R h->∃ ps,p=.tup ps/\G.RepL h V ps vs.toList)
  (ex:∀ i h,St i h->∀ b∈wr,h.get? b≠none) :
  lf G A I wr (fun i h=>St i h/\R h) V (.Tuple es k pos) items where
 sub:=hw
 ex:=fun i h x=>ex i h x.1
 frame:=fun i h h' x k=>⟨W.frame i h h' x.1 fun b hb o e=>k b o (hf b hb) e,fR h h' x.2 fun b o nb e=>k b o (.inl nb) e⟩
 item:=fun i s p hp x=>by
  have hi:i < n:=by rw [<- hn];exact (aQ.mp hp).1
  refine W.item i s _ _ hi x.1 fun T vs h' tk hP hTl hT mid hk=>⟨.ref T,rfl,?_⟩;refine W.go es k pos i T _ _ _ mid fun h'' st' hk'=>?_;have hr:R h'':=fR _ _ (fR _ _ x.2 fun b o nb e=>hk b o (fun hb=>nb (hw b hb)) e) fun b o nb e=>hk' b o (fun hb=>nb (hw b hb)) e;refine bO (rep i p vs h'' hp hP hr) ?_;rintro ps rfl rps;have hTV:∀ V':Addr->Prop,kh V' s.heap->¬ V' T:=fun V' lo hv=>lo T hv (by
   cases e:s.heap.get? T with
   | none=>rfl
   | some o=>exact absurd (aV e) (dS.mpr hTl))
  have hTw:T ∉ wr:=W.apart i T h' mid;refine ⟨fun V' lo m=>fN.mpr ⟨T,rfl,hTV V' lo,vs.toList,?_,RepL.keep (bU.refl _ _) (fun a J q=>m a q) rps⟩,⟨st',hr⟩,cS.of fun b o nb e=>hk' b o nb (hk b o nb e)⟩;refine bO hT ?_;clear hT;intro o ho r;exact ⟨o,hk' _ _ hTw ho,r⟩
 done:=fun s x=>W.done s _ _ (hn ▸ x.1) fun h' tk hk=>⟨rfl,cS.of fun b o nb e=>hk b o nb e⟩
 self:=fun i s x=>W.self i s _ _ x.1 ⟨rfl,rfl⟩
noncomputable def i7 (G:GX ag w) (A:Around) (V:Addr->Prop) (t:Expr) (items:List PV) (s:Shared):Value->Shared->Prop:=fun it aX=>
 ∃ I wr,it=.ref I/\Kp s aX/\(∀ b∈wr,s.heap.get? b=none/\aX.heap.get? b≠none) /\
  ∀ U:Addr->Prop,(∀ a,aX.heap.get? a≠none->U a->V a\/a∈wr)->(∀ b∈wr,U b)->∃ St,St 0 aX.heap/\lf G A I wr St U t items
theorem dg {l:List Value}{i:Nat}{v:Value} (e:l.toArray[i]?=some v):l[i]?=some v:=by simpa using e
theorem RepL.at {cl:cG}{h:Heap}{ps:List PV}{vs:List Value}{i:Nat}{p:PV}{v:Value} (r:RepL ag w cl h V ps vs) (hp:ps[i]?=some p) (hv:vs[i]?=some v):Rep ag w cl h V p v:=by
 refine bO (RepL.get r hp) ?_;intro v' a b;rw [hv] at a;cases a;exact b
theorem dP:s.heap.get? s.heap.objs.size=none:=by
 cases e:s.heap.get? s.heap.objs.size with
 | none=>rfl
 | some o=>exact absurd (aV e) (Nat.lt_irrefl _)
theorem gH {o:Obj}{t:Expr}{items:List PV} (hf:o.isFreed=false)
  (W:∀ U:Addr->Prop,(∀ a,s.heap.get? a≠none->U a->V a)->U s.heap.objs.size->∃ St,St 0 (s.heap.push o)/\lf G A s.heap.objs.size [s.heap.objs.size] St U t items):i7 G A V t items s (.ref s.heap.objs.size) { s with heap:=s.heap.push o }:=
 ⟨_,_,rfl,dU (tk:=s.toks),fun b hb=>by
  rw [ae.mp hb];exact ⟨dP,by show (s.heap.push o).get? _≠none;rw [aH _ hf];simp⟩,fun U gr hU=>W U (fun a e ua=>by
   refine (gr a ?_ ua).elim id fun q=>absurd (ae.mp q ▸ dP) e
   cases g:s.heap.get? a with
   | none=>exact absurd g e
   | some o'=>show (s.heap.push o).get? a≠none;rw [au _ g];simp) (hU _ (.head _))⟩
theorem tX {U:Addr->Prop}{I d:Addr} (nU:¬ U d):∀ b∈[I,d],¬ U b\/b∈[I]:=fun b hb=>by
 rcases ar.mp hb with rfl | hb
 ·exact .inr (.head _)
 ·rw [ae.mp hb];exact .inl nU
theorem gn {U:Addr->Prop}{I:Addr} (h:U I):∀ b∈[I],U b:=fun b hb=>by rw [ae.mp hb];exact h
theorem bT {h:Heap}{a:Addr}{o:Obj} (e:h.get? a=some o):h.get? a≠none:=by rw [e];simp
theorem zS {l:List PV}{v:Value}{t:Expr} (hh:A.handled=none) (r:G.Rep s.heap V (.lst l) v):wpAny (model ag w) A (pyIter v) (i7 G A V t l s) EF s:=by
 refine bG (dC.mp r) ?_;rintro a rfl nV vs hl r;refine wpAny_pyIter_list hl.isList ?_;have hlt:a < s.heap.objs.size:=by refine xE hl ?_;clear hl;intro n e;exact aV e
 have hne:a≠s.heap.objs.size:=a6 hlt;have hex:s.heap.get? a≠none:=by refine xE hl ?_;clear hl;intro n e;exact bT e
 refine gH rfl fun U gr hU=>⟨fun i h=>(h.IsListIter s.heap.objs.size a i/\h.IsList a vs.toArray)/\G.RepL h U l vs,⟨⟨⟨_,aH _ rfl,rfl,rfl⟩,?_⟩,?_⟩,?_⟩
 ·refine bO hl.isList ?_;intro o ho q;exact ⟨o,au _ ho,q⟩
 ·exact RepL.keep (fun b o J e=>au _ e) gr r
 ·refine .ofWalks (Walks.list hh _ _ hne vs.toArray) _ (by rw [aA];exact RepL.length r) (gn hU) (tX fun q=>nV (gr _ hex q)) (fun h h' x k=>RepL.keep (fun b o n e=>k b o n e) (fun J J x=>x) x) (fun i p v h hp hv hr=>RepL.at hr hp (dg hv)) (fun i s' v Q J st q=>letGo_listiter st.1 q) fun i h x=>let ⟨_,ho,_⟩:=x.1;gn (U:=fun b=>h.get? b≠none) (bT ho)
theorem B3 {l:List PV}{v:Value}{t:Expr} (hh:A.handled=none) (r:G.Rep s.heap V (.tup l) v):wpAny (model ag w) A (pyIter v) (i7 G A V t l s) EF s:=by
 refine bG (fN.mp r) ?_;rintro a rfl nV vs hl r;refine wpAny_pyIter_tuple hl ?_;have hlt:a < s.heap.objs.size:=by refine bO hl ?_;clear hl;intro n e _;exact aV e
 have hne:a≠s.heap.objs.size:=a6 hlt;have hex:s.heap.get? a≠none:=by refine bO hl ?_;clear hl;intro n e _;exact bT e
 refine gH rfl fun U gr hU=>⟨fun i h=>(h.IsTupleIter s.heap.objs.size a i/\h.IsTuple a vs.toArray)/\G.RepL h U l vs,⟨⟨⟨_,aH _ rfl,rfl,rfl⟩,?_⟩,?_⟩,?_⟩
 ·refine bO hl ?_;clear hl;intro o ho q;exact ⟨o,au _ ho,q⟩
 ·exact RepL.keep (fun b o J e=>au _ e) gr r
 ·refine .ofWalks (Walks.tuple hh _ _ hne vs.toArray) _ (by rw [aA];exact RepL.length r) (gn hU) (tX fun q=>nV (gr _ hex q)) (fun h h' x k=>RepL.keep (fun b o n e=>k b o n e) (fun J J x=>x) x) (fun i p v h hp hv hr=>RepL.at hr hp (dg hv)) (fun i s' v Q J st q=>letGo_tupleiter st.1 q) fun i h x=>let ⟨_,ho,_⟩:=x.1;gn (U:=fun b=>h.get? b≠none) (bT ho)
end
end Mine
end
section
namespace Mine
section
variable {A:Around}{s:Shared}{V:Addr->Prop}
theorem ti {t:Expr}{I:Addr}{v:Value}{Q:Unit->Shared->Prop}{E:Value->Shared->Prop} (hv:∀ a,v≠.ref a) (h:Q () s):wpAny (model ag w) A (letOwnedTupleGo t (.ref I) v) Q E s:=by
 unfold letOwnedTupleGo
 cases t<;>first
  | exact wpAny_pure h
  | (cases v<;>first
    | exact wpAny_pure h
    | exact absurd rfl (hv _))
theorem RepD.keep' {cl:cG}{h h':Heap}{l:List (Int×PV)}{vs:List (Int×Value)} (k:bU V h h') (x:RepD ag w cl h V l vs):RepD ag w cl h' V l vs:=RepD.keep k (fun J J x=>x) x
theorem RepD.at {cl:cG}{h:Heap}:∀ {l:List (Int×PV)}{vs:List (Int×Value)}{i:Nat}{k:Int}{p:PV}{k':Int}{v:Value},RepD ag w cl h V l vs->l[i]?=some (k,p)->vs[i]?=some (k',v)->k=k'/\Rep ag w cl h V p v
 | (_,_)::_,(_,_)::_,0,_,_,_,_,x,e,e'=>by
  simp at e e';unfold RepD at x;refine xA e ?_;clear e;rintro rfl rfl;refine xA e' ?_;clear e';rintro rfl rfl;exact ⟨x.1,x.2.1⟩
 | (_,_)::_,(_,_)::_,i+1,_,_,_,_,x,e,e'=>by
  simp at e e';unfold RepD at x;exact RepD.at x.2.2 e e'
 | [],[],_,_,_,_,_,_,e,_=>by simp at e
 | [],_::_,_,_,_,_,_,x,_,_=>by unfold RepD at x;exact x.elim
 | _::_,[],_,_,_,_,_,x,_,_=>by unfold RepD at x;exact x.elim
theorem sT {k:Int}{v:Value} (h:(intKind ag w).is k v=true):∃ t,v=.int k t:=by
 cases v with
 | int i t=>
  have:i=k:=by simpa [intKind,Value.isInt] using h
  exact ⟨t,by rw [this]⟩
 | _=>simp [intKind,Value.isInt] at h
theorem jE {h:Heap}{o:Obj}{d:Addr}{kvs:List (Int×Value)}{ep:Nat} (x:h.DictAt (intKind ag w) d kvs ep):(h.push o).DictAt (intKind ag w) d kvs ep:=
 let ⟨q,es,ho,r⟩:=x;⟨q,es,au _ ho,r⟩
theorem Ca {l:List (Int×PV)}{v:Value}{t:Expr} (hh:A.handled=none) (r:G.Rep s.heap V (.dct l) v):wpAny (model ag w) A (pyIter v) (i7 G A V t (l.map fun kv=>.int kv.1) s) EF s:=by
 refine cR (ew.mp r) ?_;rintro d rfl nV z kvs hd r;refine xE hd.dictAt ?_;intro ep ha;refine wpAny_pyIter_dict z ha ?_;have hlt:d < s.heap.objs.size:=by refine jw ha ?_;clear ha;intro o _ e _;exact aV e
 have hne:d≠s.heap.objs.size:=a6 hlt;have hex:s.heap.get? d≠none:=by refine jw ha ?_;clear ha;intro o _ e _;exact bT e
 refine gH rfl fun U gr hU=>⟨fun i h=>(h.IsKeyIter s.heap.objs.size d i kvs.length ep/\h.DictAt (intKind ag w) d kvs ep)/\True,⟨⟨⟨_,aH _ rfl,rfl,rfl⟩,jE ha⟩,trivial⟩,?_⟩;refine .ofWalks (Walks.dictKeys hh _ _ hne kvs ep) (fun J=>True) (by rw [aa];exact RepD.length r) (gn hU) (tX fun q=>nV (gr _ hex q)) (fun J J J J=>trivial) (fun i p v h hp hv J=>?_) (fun i s' v Q hP st q=>letGo_keyiter st.1 q) fun i h x=>let ⟨_,ho,_⟩:=x.1;gn (U:=fun b=>h.get? b≠none) (bT ho);refine jw hv ?_;clear hv;intro k x hx hk;rw [aK] at hp;refine bO (b3.mp hp) ?_;rintro ⟨k',q⟩ hq rfl;refine xE (sT hk) ?_;rintro u rfl;rw [(RepD.at r hq hx).1];exact bN.mpr ⟨u,rfl⟩
theorem Aq {l:List (Int×PV)}{v:Value}{t:Expr} (hh:A.handled=none) (r:G.Rep s.heap V (.vals l) v):wpAny (model ag w) A (pyIter v) (i7 G A V t (l.map (·.2)) s) EF s:=by
 have r:Rep ag w G.cl s.heap V (.vals l) v:=r;unfold Rep at r;refine g0 r ?_;clear r;rintro a rfl nV d g nd z kvs hd r;refine xE hd.dictAt ?_;intro ep ha;refine wpAny_pyIter_values ⟨_,g,rfl,rfl⟩ ha ?_;have hlt:d < s.heap.objs.size:=by refine jw ha ?_;clear ha;intro o _ e _;exact aV e
 have hne:d≠s.heap.objs.size:=a6 hlt;have hex:s.heap.get? d≠none:=by refine jw ha ?_;clear ha;intro o _ e _;exact bT e
 refine gH rfl fun U gr hU=>⟨fun i h=>(h.IsValIter s.heap.objs.size d i kvs.length ep/\h.DictAt (intKind ag w) d kvs ep)/\G.RepD h U l kvs,⟨⟨⟨_,aH _ rfl,rfl,rfl⟩,jE ha⟩,?_⟩,?_⟩
 ·exact RepD.keep (fun b o J e=>au _ e) gr r
 ·refine .ofWalks (Walks.dictValues hh _ _ hne kvs ep) _ (by rw [aa];exact RepD.length r) (gn hU) (tX fun q=>nd (gr _ hex q)) (fun h h' x k=>RepD.keep' (fun b o n e=>k b o n e) x) (fun i p v h hp hv hr=>?_) (fun i s' v Q hP st q=>letGo_valiter st.1 q) fun i h x=>let ⟨_,ho,_⟩:=x.1;gn (U:=fun b=>h.get? b≠none) (bT ho)
  refine xE hv ?_;clear hv;intro k hx;rw [aK] at hp;refine bO (b3.mp hp) ?_;rintro ⟨k',q⟩ hq rfl;exact (RepD.at hr hq hx).2
theorem A4 {x:Str}{v:Value}{t:Expr} (hh:A.handled=none) (r:G.Rep s.heap V (.str x) v):wpAny (model ag w) A (pyIter v) (i7 G A V t (x.cps.toList.map fun c=>.str ⟨#[c]⟩) s) EF s:=by
 refine xE (c7.mp r) ?_;rintro u rfl;refine wpAny_pyIter_strU ?_;have key:∀ T:String,(∀ I,Walks ag w A I [I] [I] x.cps.size (SignAt x) fun i h=>h.IsStrIter I T x u i) ->
   i7 G A V t (x.cps.toList.map fun c=>.str ⟨#[c]⟩) s (.ref s.heap.objs.size) { s with heap:=s.heap.push { cls:=.type T,data:=.fields #[.str x u,.int 0 0] } }:=by
  intro T W;refine gH rfl fun U gr hU=>⟨fun i h=>h.IsStrIter s.heap.objs.size T x u i/\True,⟨⟨_,aH _ rfl,rfl,rfl⟩,trivial⟩,?_⟩;refine .ofWalks (W _) (fun J=>True) (by simp) (gn hU) (fun b hb=>.inr hb) (fun J J J J=>trivial) (fun i p v h hp hv J=>?_) (fun i s' v Q hP st q=>?_) fun i h x=>let ⟨_,ho,_⟩:=x;gn (U:=fun b=>h.get? b≠none) (bT ho)
  ·refine jw hv ?_;clear hv;rintro c u hc rfl
   have:p=.str ⟨#[c]⟩:=by
    rw [aK,Array.getElem?_toList,hc] at hp
    simpa using hp.symm
   rw [this];exact c7.mpr ⟨u,rfl⟩
  ·refine jw hP ?_;clear hP;rintro c u hc rfl
   exact ti (fun J h=>nomatch h) q
 unfold strIterType;split
 ·exact key _ fun I=>Walks.strAscii hh I x u
 ·exact key _ fun I=>Walks.strWide hh I x u
theorem w7 {a b:Int}{i:Nat}{p:PV} (e:(gJ a b)[i]?=some p):p=.int (a+i):=by
 unfold gJ at e;rw [aK] at e;refine bO (b3.mp e) ?_;rintro j hj rfl;rw [aQ] at hj;refine xE hj ?_;clear hj;rintro h rfl;simp
theorem qg {a b:Int}{R:Addr}{t u v:Tok}{tg:Expr} (hh:A.handled=none) (ha:fQ a=true) (hb:fQ b=true) (hr:IsRange s.heap R a b 1 t u v) :
  wpAny (model ag w) A (pyIter (.ref R)) (i7 G A V tg (gJ a b) s) EF s:=by
 simp only [fQ,aR,decide_eq_true_eq] at ha hb;have size:Builtin.Range.rangeSize a b 1=((b - a).toNat:Int):=by
  unfold Builtin.Range.rangeSize;simp only [show ((1:Int) > 0)=True from by simp,if_true,Int.ediv_one];split<;>lia
 refine wpAny_pyIter_range hr ?_ ?_
 ·unfold Builtin.Range.small Builtin.Range.rangeFitsLong
  rw [size];simp;exact (pz [] [_,_] 0x0F1F0F1E80000000000000008910E13C8000000000000000892E081C08B010F0F1E8000000000000000891C08B010E1C08B013C8000000000000000890F0F1E80000000000000008910E13C8000000000000000890F1E80000000000000008900E03C8000000000000000890F0E1000003910E13C100000390F0E1000003900E03C10000039) ha hb
 ·refine gH rfl fun U gr hU=>⟨fun i h=>IsRangeIter h s.heap.objs.size (a+(i:Nat) * 1) (((b - a).toNat:Int) - (i:Nat)) 1/\True,⟨?_,trivial⟩,?_⟩
  ·show (s.heap.push _).get? s.heap.objs.size=_
   rw [aH _ rfl,size];simp
  ·refine .ofWalks (Walks.range hh _ a 1 (b - a).toNat) (fun J=>True) (by simp [gJ]) (gn hU) (fun b hb=>.inr hb) (fun J J J J=>trivial) (fun i p v h hp hv J=>?_) (fun i s' v Q hP st q=>?_) fun i h x=>gn (U:=fun b=>h.get? b≠none) (bT x)
   ·refine xE hv ?_;clear hv;rintro u rfl
    rw [w7 hp,Int.mul_one];exact bN.mpr ⟨u,rfl⟩
   ·refine xE hP ?_;clear hP;rintro u rfl
    exact ti (fun J h=>nomatch h) q
end
end Mine
end
section
namespace Mine
section
variable {A:Around}{s:Shared}{V:Addr->Prop}
theorem me:entryFor table "dict_itemiterator.__iter__"=some Builtin.«dict_keyiterator.__iter__»:=
 entryFor_alias (id':="dict_keyiterator.__iter__") (by kernel_rfl) rfl (by decide +kernel) (by kernel_rfl)
theorem mP (a:Value):argsOk "dict_itemiterator.__iter__" ⟨[a],[]⟩:=by
 unfold argsOk;kernel_rfl
theorem HK {a b:Addr} (h:a < b):@LT.lt Nat _ a b:=h
theorem xl {a n:Nat}:(a:Addr)∈([n+4,n+3,n,n+1]:List Addr)↔(@Eq Nat a (n+4)\/@Eq Nat a (n+3)\/@Eq Nat a n\/@Eq Nat a (n+1)):=by
 simp only [ar,bg,or_false]
theorem Dd {l:List (Int×PV)}{v:Value}{es:List Expr}{k:Nat}{pos:Pos} (hh:A.handled=none) (r:G.Rep s.heap V (.its l) v) :
  wpAny (model ag w) A (pyIter v) (i7 G A V (.Tuple es k pos) (l.map fun kv=>.tup [.int kv.1,kv.2]) s) EF s:=by
 have r:Rep ag w G.cl s.heap V (.its l) v:=r;unfold Rep at r;refine g0 r ?_;clear r;rintro a rfl nV d g nd z kvs hd r;refine xE hd.dictAt ?_;intro ep ha;refine wpAny_pyIter_items ⟨_,g,rfl,rfl⟩ ha ?_;have hlt:d < s.heap.objs.size:=by refine jw ha ?_;clear ha;intro o _ e _;exact aV e
 have hne:d≠s.heap.objs.size:=a6 hlt;generalize hI:s.heap.objs.size=I at hne;have e1:=RepD.length r;rw [<- hI];have hex:s.heap.get? d≠none:=by refine jw ha ?_;clear ha;intro o _ e _;exact bT e
 refine gH rfl fun U gr hU=>⟨fun i h=>(∃ ok ov,IsItemIter h s.heap.objs.size d i kvs.length ep ok ov)/\h.DictAt (intKind ag w) d kvs ep/\G.RepD h U l kvs,⟨⟨_,_,aH _ rfl⟩,jE ha,?_⟩,?_⟩
 ·exact RepD.keep (fun b o J e=>au _ e) gr r
 ·rw [hI] at hU ⊢
  have nd':¬ U d:=fun q=>nd (gr _ hex q);constructor
  ·exact gn hU
  ·rintro i h ⟨⟨ok,ov,it⟩,_⟩;exact gn (U:=fun b=>h.get? b≠none) (bT it)
  ·intro i h h' x k
   refine ir x ?_;clear x;rintro ⟨ok,ov,it⟩ dA rD;refine ⟨⟨ok,ov,k _ _ (.inr (.head _)) it⟩,?_,RepD.keep' (fun b o n e=>k b o (.inl n) e) rD⟩;refine jw dA ?_;clear dA;intro o es ho q;exact ⟨o,es,k _ _ (.inl nd') ho,q⟩
  ·intro i s' p hp x
   refine ir x ?_;clear x;rintro ⟨ok,ov,it⟩ dA rD;rw [aK] at hp;refine bO (b3.mp hp) ?_;rintro ⟨k',q⟩ hq rfl;have hlt:i < kvs.length:=by rw [<- e1];exact (aQ.mp hq).1
   obtain ⟨⟨k2,x2⟩,hx⟩:∃ p,kvs[i]?=some p:=⟨kvs[i],by simp [hlt]⟩;refine wpAny_pyNext_items_item it dA hx fun key h' hk out hT hsz keep=>⟨_,rfl,?_⟩;refine wpAny_letOwnedTupleGo_items out fun h'' it' sb=>?_;refine xE (sT hk) ?_;rintro u rfl;have hIlt:I < s'.heap.objs.size:=aV it;have hTI:s'.heap.objs.size≠I:=kw hIlt;have rD':G.RepD h'' U l kvs:=RepD.keep' (fun b o n e=>sb.extBut b o (fun q=>n (q ▸ hU)) (keep b o (fun q=>n (q ▸ hU)) e)) rD;refine xA (RepD.at rD' hq hx) ?_;intro q1 q2;refine ⟨fun V' lo m=>fN.mpr ⟨_,rfl,lo.fresh,[.int k2 u,x2],?_,?_⟩,⟨⟨_,_,it'⟩,?_,rD'⟩,cS.of fun b o n e=>?_⟩
   ·exact ⟨_,sb.extBut _ _ hTI hT,rfl,_,rfl⟩
   ·unfold GX.RepL RepL RepL RepL
    exact ⟨bN.mpr ⟨u,by rw [q1]⟩,Rep.keep (bU.refl _ _) (fun a J q=>m a q) q2,trivial⟩
   ·refine jw dA ?_;clear dA;intro o es ho q
    exact ⟨o,es,sb.extBut _ _ hne (keep _ _ hne ho),q⟩
   ·have n':b≠I:=fun q=>n (q ▸ .head _)
    exact sb.extBut b o n' (keep b o n' e)
  ·intro s' x
   refine ir x ?_;clear x;rintro ⟨ok,ov,it⟩ dA rD;rw [aa,e1] at it;refine wpAny_pyNext_items_end hh it dA (by simp) fun h' k=>⟨rfl,cS.of fun b o n e=>k b o (fun q=>n (q ▸ .head _)) e⟩
  ·intro i s' x
   refine ir x ?_;clear x;rintro ⟨ok,ov,it⟩ dA rD;have hT:s'.TypeIs (.ref I) "dict_itemiterator":=⟨_,it,rfl⟩;refine wpAny_pyIter_slot hT PySem.F.slot_dict_itemiterator_iter (wpAny_call_entry PySem.F.slot_dict_itemiterator_iter hT me ?_ (mP _));show wpAny _ _ (ret (.ref I)) _ _ s';exact wpAny_pure ⟨_,rfl,"dict_itemiterator",_,hT,PySem.F.slot_dict_itemiterator_next.lookup,rfl,rfl⟩
theorem u5:∀ {l m:List PV}{i:Nat}{p:PV},(lx l m)[i]?=some p->∃ a b,l[i]?=some a/\m[i]?=some b/\p=.tup [a,b]
 | a::l,b::m,0,p,e=>by simp [lx] at e;exact ⟨a,b,rfl,rfl,e.symm⟩
 | a::l,b::m,i+1,p,e=>by simp [lx] at e;refine lz (u5 e) ?_;intro x y h1 h2 h3;exact ⟨x,y,by simpa using h1,by simpa using h2,h3⟩
 | [],_,_,_,e=>by simp [lx] at e
 | _::_,[],_,_,e=>by simp [lx] at e
theorem o7:∀ (l m:List PV),(lx l m).length=min l.length m.length
 | a::l,b::m=>by simp [lx,o7 l m]
 | [],_=>by simp [lx]
 | _::_,[]=>by simp [lx]
theorem sY:∀ {l:List PV}{n i:Nat}{p:PV},(jZ n l)[i]?=some p->∃ a,l[i]?=some a/\p=.tup [.int ((n+i:Nat):Int),a]
 | a::l,n,0,p,e=>by simp [jZ] at e;exact ⟨a,rfl,e.symm⟩
 | a::l,n,i+1,p,e=>by
  simp [jZ] at e;refine bO (sY e) ?_;intro x h1 h2;exact ⟨x,by simpa using h1,by rw [h2,show n+1+i=n+(i+1) by exact pn [_,_] 0x2DAA1810A1A180]⟩
 | [],_,_,_,e=>by simp [jZ] at e
theorem nW:∀ (l:List PV) (n:Nat),(jZ n l).length=l.length
 | a::l,n=>by simp [jZ,nW l]
 | [],_=>by simp [jZ]
theorem Di {l m:List PV}{va vb:Value}{es:List Expr}{k:Nat}{pos:Pos} (hh:A.handled=none) (lo:kh V s.heap) (ra:G.Rep s.heap V (.lst l) va) (rb:G.Rep s.heap V (.lst m) vb) :
  wpAny (model ag w) A (call (.type "zip") [va,vb]) (fun z aG=>wpAny (model ag w) A (pyIter z) (i7 G A V (.Tuple es k pos) (lx l m) s) EF aG) EF s:=by
 refine bG (dC.mp ra) ?_;rintro l1 rfl n1 xs h1 r1;refine bG (dC.mp rb) ?_;rintro l2 rfl n2 ys h2 r2;refine call_zip_2 h1.isList h2.isList fun h' hz hTI hTO i1 i2 hsz keep=>?_;refine wpAny_pyIter_zip hz ?_;have lt1:=HK (show l1 < s.heap.objs.size by refine xE h1 ?_;clear h1;intro n e;exact aV e);have lt2:=HK (show l2 < s.heap.objs.size by refine xE h2 ?_;clear h2;intro n e;exact aV e);have none_of:∀ b:Nat,s.heap.objs.size<=b->s.heap.get? b=none:=fun b hb=>by
  cases e:s.heap.get? b with
  | none=>rfl
  | some o=>exact absurd (HK (aV e)) (dS.mpr hb)
 generalize hn:s.heap.objs.size=n at *
 have D:ZipApart (n+4) (n+2) (n+3) n (n+1) l1 l2:=by
  constructor<;>(show @Ne Nat _ _)<;>lia
 refine ⟨n+4,[n+4,n+3,n,n+1],rfl,Kp.of (tk:=s.toks) keep,fun b hb=>?_,fun U gr0 hU=>?_⟩
 ·refine bO i1 ?_;clear i1;intro _ q1 _
  refine bO i2 ?_;clear i2;intro _ q2 _;refine ⟨none_of _ (by have:=xl.mp hb;exact (pn [_,_] 0x0D011F1F1F2DA18102D102DA38102DA4810) this),?_⟩;show h'.get? _≠none;simp only [ar,bg,or_false] at hb;rcases hb with rfl | rfl | rfl | rfl
  ·rw [hz];simp
  ·rw [hTO];simp
  ·rw [q1];simp
  ·rw [q2];simp
 have gr:∀ a,s.heap.get? a≠none->U a->V a:=fun a e ua=>by
  refine (gr0 a ?_ ua).elim id fun q=>?_
  ·show h'.get? a≠none
   cases g:s.heap.get? a with
   | none=>exact absurd g e
   | some o=>rw [keep a o g];simp
  ·exfalso
   refine e (none_of a ?_)
   have:=xl.mp q
   exact (pn [_,_] 0x0D011F1F1F2DA18102D102DA38102DA4810) this
 have r1':G.RepL h' U l xs:=RepL.keep (fun b o J e=>keep b o e) gr r1;have r2':G.RepL h' U m ys:=RepL.keep (fun b o J e=>keep b o e) gr r2;have e1:s.heap.get? l1≠none:=by refine xE h1 ?_;clear h1;intro n e;exact bT e
 have e2:s.heap.get? l2≠none:=by refine xE h2 ?_;clear h2;intro n e;exact bT e
 have nt:¬ U (n+2):=fun q=>by
  refine (gr0 (n+2) (by show h'.get? (n+2)≠none;rw [hTI];simp) q).elim (fun q=>lo _ q (none_of _ (by exact pn [_] 0x0DA2800))) fun q=>?_
  have:=xl.mp q
  exact (pn [_] 0x2F1F1F1F2DA180A2802D0A2802DA380A2802DA480A280) this
 refine ⟨_,?_,lf.ofPairs (WalksT.zip2 hh (n+4) (n+2) (n+3) n (n+1) l1 l2 D xs.toArray ys.toArray) (fun h=>G.RepL h U l xs/\G.RepL h U m ys) ?_ hU (fun b hb=>?_) ?_ ?_ ?_⟩
 ·refine ⟨⟨hz,hTI,⟨_,_,hTO⟩,i1,i2,?_,?_⟩,r1',r2'⟩
  ·refine xE h1 ?_;clear h1;intro n e;exact ⟨_,keep _ _ e,rfl,_,rfl⟩
  ·refine xE h2 ?_;clear h2;intro n e;exact ⟨_,keep _ _ e,rfl,_,rfl⟩
 ·rw [o7,RepL.length r1,RepL.length r2,aA,aA]
 ·simp only [ar,bg,or_false] at hb
  rcases hb with rfl | rfl | rfl | rfl | rfl | rfl | rfl
  ·exact .inr (xl.mpr (by simp))
  ·exact .inl nt
  ·exact .inr (xl.mpr (by simp))
  ·exact .inr (xl.mpr (by simp))
  ·exact .inr (xl.mpr (by simp))
  ·exact .inl fun q=>n1 (gr _ e1 q)
  ·exact .inl fun q=>n2 (gr _ e2 q)
 ·exact fun h h' x k=>⟨RepL.keep (fun b o n e=>k b o n e) (fun J J x=>x) x.1,RepL.keep (fun b o n e=>k b o n e) (fun J J x=>x) x.2⟩
 ·rintro i p vs h hp ⟨x,y,hx,hy,rfl⟩ ⟨q1,q2⟩
  refine lz (u5 hp) ?_;rintro a b ha hb rfl;refine ⟨_,rfl,?_⟩;show G.RepL h _ [a,b] [x,y];unfold GX.RepL RepL RepL RepL;exact ⟨RepL.at q1 ha (dg hx),RepL.at q2 hb (dg hy),trivial⟩
 ·rintro i h ⟨hz,hTI,⟨_,_,hTO⟩,⟨_,q1,_⟩,⟨_,q2,_⟩,_⟩ b hb
  simp only [ar,bg,or_false] at hb;rcases hb with rfl | rfl | rfl | rfl
  ·exact bT hz
  ·exact bT hTO
  ·exact bT q1
  ·exact bT q2
theorem EO {a n:Nat}:(a:Addr)∈([n+1,n]:List Addr)↔(@Eq Nat a (n+1)\/@Eq Nat a n):=by
 simp only [ar,bg,or_false]
theorem Al {l:List PV}{va:Value}{es:List Expr}{k:Nat}{pos:Pos} (hh:A.handled=none) (ra:G.Rep s.heap V (.lst l) va) :
  wpAny (model ag w) A (call (.type "enumerate") [va]) (fun z aG=>wpAny (model ag w) A (pyIter z) (i7 G A V (.Tuple es k pos) (jZ 0 l) s) EF aG) EF s:=by
 refine bG (dC.mp ra) ?_;rintro l1 rfl n1 xs h1 r1;refine call_enumerate_list h1.isList fun h' he hi hsz keep=>?_;refine wpAny_pyIter_enum he ?_;have lt1:=HK (show l1 < s.heap.objs.size by refine xE h1 ?_;clear h1;intro n e;exact aV e);have none_of:∀ b:Nat,s.heap.objs.size<=b->s.heap.get? b=none:=fun b hb=>by
  cases e:s.heap.get? b with
  | none=>rfl
  | some o=>exact absurd (HK (aV e)) (dS.mpr hb)
 generalize hn:s.heap.objs.size=n at *
 refine ⟨n+1,[n+1,n],rfl,Kp.of (tk:=s.toks) keep,fun b hb=>?_,fun U gr0 hU=>?_⟩
 ·refine bO hi ?_;clear hi;intro _ q1 _
  refine ⟨none_of _ (by have:=EO.mp hb;exact (pn [_,_] 0x0D011F2D102DA1810) this),?_⟩;show h'.get? _≠none;simp only [ar,bg,or_false] at hb;rcases hb with rfl | rfl
  ·rw [he];simp
  ·rw [q1];simp
 have gr:∀ a,s.heap.get? a≠none->U a->V a:=fun a e ua=>by
  refine (gr0 a ?_ ua).elim id fun q=>?_
  ·show h'.get? a≠none
   cases g:s.heap.get? a with
   | none=>exact absurd g e
   | some o=>rw [keep a o g];simp
  ·exfalso
   refine e (none_of a ?_)
   have:=EO.mp q
   exact (pn [_,_] 0x0D011F2D102DA1810) this
 have r1':G.RepL h' U l xs:=RepL.keep (fun b o J e=>keep b o e) gr r1;have e1:s.heap.get? l1≠none:=by refine xE h1 ?_;clear h1;intro n e;exact bT e
 refine ⟨_,?_,lf.ofPairs (WalksT.enumerate hh (n+1) n l1 (show @Ne Nat _ _ by exact pn [_] 0x2F2D0A180) (show @Ne Nat _ _ by exact (pn [_,_] 0x2F2DA18101D10) lt1) (show @Ne Nat _ _ by exact (pn [_,_] 0x2F2D101D10) lt1) xs.toArray) (fun h=>G.RepL h U l xs) ?_ hU (fun b hb=>?_) ?_ ?_ ?_⟩
 ·refine ⟨⟨⟨_,he⟩,hi,?_⟩,r1'⟩
  refine xE h1 ?_;clear h1;intro n e;exact ⟨_,keep _ _ e,rfl,_,rfl⟩
 ·rw [nW,RepL.length r1,aA]
 ·simp only [ar,bg,or_false] at hb
  rcases hb with rfl | rfl | rfl
  ·exact .inr (EO.mpr (by simp))
  ·exact .inr (EO.mpr (by simp))
  ·exact .inl fun q=>n1 (gr _ e1 q)
 ·exact fun h h' x k=>RepL.keep (fun b o n e=>k b o n e) (fun J J x=>x) x
 ·rintro i p vs h hp ⟨t,x,hx,rfl⟩ q1
  refine bO (sY hp) ?_;rintro a ha rfl;refine ⟨_,rfl,?_⟩;show G.RepL h _ [.int _,a] [_,x];unfold GX.RepL RepL RepL RepL;exact ⟨bN.mpr ⟨t,by simp⟩,RepL.at q1 ha (dg hx),trivial⟩
 ·rintro i h ⟨⟨_,he⟩,⟨_,q1,_⟩,_⟩ b hb
  simp only [ar,bg,or_false] at hb;rcases hb with rfl | rfl
  ·exact bT he
  ·exact bT q1
end
end Mine
end
section
namespace Mine
section
variable {A:Around}{s:Shared}{V H:Addr->Prop}{env:Env}{sc:Sc}{σ:SE}
theorem jo.peek {h:Heap}{b:Bool}{p:PV}{v:Value} (x:jo G h V H b p v):d8 G h V p v:=by
 cases b with
 | false=>exact .inl x
 | true=>
  refine .inr ?_
  cases p with
  | lst l=>refine fw x ?_;clear x;intro a e _ r;exact ⟨a,e,trivial,r⟩
  | dct l=>refine fw x ?_;clear x;intro a e _ r;exact ⟨a,e,trivial,r⟩
  | obj c fs=>refine kF x ?_;clear x;intro a C d es ep e _ q _ r;exact ⟨a,C,d,es,ep,e,trivial,q,trivial,r⟩
  | _=>exact x.elim
theorem uQ {x:Str} (h:dl x=true):(x == ("__debug__":Str))=false:=by
 unfold dl at h;simp only [aR,bne_iff_ne,ne_eq] at h;exact beq_eq_false_iff_ne.mpr h.1
theorem vW {x:Str} (h:dl x=true):(x == ("__classdict__":Str))=false:=by
 unfold dl at h;simp only [aR,bne_iff_ne,ne_eq] at h;exact beq_eq_false_iff_ne.mpr h.2
theorem lV {x:Str}{v:Value}{pos:Pos}{Q:Value->Shared->Prop}{E:Value->Shared->Prop} (hk:env.scope.kind=.function) (hx:dl x=true) (hv:dz env s.heap x v) (q:Q v s) :
  wpAny (model ag w) A (eval (.Name x pos) env) Q E s:=by
 refine wpAny_Name ?_ (uQ hx);rcases hv with ⟨a,m,hn,e⟩ | ⟨a | a,c,hc,hd⟩
 ·exact wpAny_loadName_local hk a hn e q
 ·exact wpAny_loadName_cell hk a hc hd q
 ·exact wpAny_loadName_free hk a hc hd q (vW hx)
theorem zx {x:Str}{v:Value}{Q:Value->Shared->Prop}{E:Value->Shared->Prop} (hk:env.scope.kind=.function) (hx:dl x=true) (hv:dz env s.heap x v) (q:Q v s) :
  wpAny (model ag w) A (loadName env x) Q E s:=by
 rcases hv with ⟨a,m,hn,e⟩ | ⟨a | a,c,hc,hd⟩
 ·exact wpAny_loadName_local hk a hn e q
 ·exact wpAny_loadName_cell hk a hc hd q
 ·exact wpAny_loadName_free hk a hc hd q (vW hx)
theorem Do {h:Heap} (i:G.In h) {a:Addr}{m:Str->Option Value} (x:G.base.Ns a m):h.Ns a m:=x.at' fun o e=>i a o e
theorem jD {x:Str}{v:Value}{pos:Pos}{Q:Value->Shared->Prop}{E:Value->Shared->Prop} (O:c3 G env sc σ V H s) (hx:dl x=true) (hg:sc.lookup x=some .globalImplicit) (gv:cC G x v) (q:Q v s) :
  wpAny (model ag w) A (eval (.Name x pos) env) Q E s:=by
 refine Calls.Name_function_global O.kind (O.glob x hg) ?_ (uQ hx);have hG:s.heap.Ns env.globals G.mg:=by rw [O.gl];exact Do O.base G.g
 have hB:s.heap.Ns env.builtins G.mb:=by rw [O.bi];exact Do O.base G.b
 rcases gv with e | ⟨e1,e2⟩
 ·exact Calls.loadGlobal_global hG e q
 ·exact Calls.loadGlobal_builtin hG e1 hB e2 q
theorem fe {x:Str} (h:cU sc σ x=true):dl x=true/\sc.lookup x=some .globalImplicit:=by
 unfold cU at h;simp only [aR,beq_iff_eq] at h;exact ⟨h.1.1,h.1.2⟩
theorem gM {e:Expr}{r:List Expr} (h:∀ x p,e≠.Starred x p):starEach (e::r) env=(false,eval e env)::starEach r env:=by
 cases e<;>first | rfl | exact absurd rfl (h _ _)
theorem gK {pos:Pos}{t:Sem Value}{r:List (Bool×Sem Value)}:backTo pos ((false,t)::r)=(false,t)::backTo pos r:=rfl
theorem vQ {pos:Pos}:∀ {es:List Expr},(∀ e∈es,∀ x p,e≠.Starred x p)->(backTo pos (starEach es env)).any (·.1)=false
 | [],_=>rfl
 | e::r,h=>by
  rw [gM (h e (.head _)),gK,fz,vQ fun x hx=>h x (.tail _ hx)];rfl
theorem uP {pos:Pos}:∀ {es:List Expr},(∀ e∈es,∀ x p,e≠.Starred x p)->(backTo pos (starEach es env)).all (fun x=>!x.1)=true
 | [],_=>rfl
 | e::r,h=>by
  rw [gM (h e (.head _)),gK,ma,uP fun x hx=>h x (.tail _ hx)];rfl
variable {o:cV}{r:Nat}
structure iE (G:GX ag w) (o:cV) (r n:Nat):Prop where
 ev:∀ {A:Around}{env:Env}{sc:Sc}{σ:SE}{V H:Addr->Prop}{s:Shared}{e:Expr}{p:PV},bz A (n+r)->ev o n sc σ e=some p->c3 G env sc σ V H s->wpAny (model ag w) A (eval e env) (b4 G V s p) EF s
 evP:∀ {A:Around}{env:Env}{sc:Sc}{σ:SE}{V H:Addr->Prop}{s:Shared}{e:Expr}{p:PV},bz A (n+r)->evP o n sc σ e=some p->c3 G env sc σ V H s->wpAny (model ag w) A (eval e env) (fun v s'=>d8 G s'.heap V p v/\Kp s s') EF s
 evB:∀ {A:Around}{env:Env}{sc:Sc}{σ:SE}{V H:Addr->Prop}{s:Shared}{op:BoolOp}{es:List Expr}{p:PV}{pos:Pos},bz A (n+r)->evB o n sc σ op es=some p->c3 G env sc σ V H s->wpAny (model ag w) A (boolOp pos op (evalEach es env)) (b4 G V s p) EF s
 evO:∀ {A:Around}{env:Env}{sc:Sc}{σ:SE}{V H:Addr->Prop}{s:Shared}{e:Option Expr}{k:Option Int},bz A (n+r)->evO o n sc σ e=some k->c3 G env sc σ V H s->wpAny (model ag w) A (valueOrNone (evalOpt e env)) (fun v s'=>IsPart v k/\Kp s s') EF s
 evT:∀ {A:Around}{env:Env}{sc:Sc}{σ:SE}{V H:Addr->Prop}{s:Shared}{e:Expr}{b:Bool},bz A (n+r)->evT o n sc σ e=some b->c3 G env sc σ V H s->wpAny (model ag w) A (isTrue e env (eval e env)) (fun c s'=>c=b/\Kp s s') EF s
 evAnd:∀ {A:Around}{env:Env}{sc:Sc}{σ:SE}{V H:Addr->Prop}{s:Shared}{es:List Expr}{b:Bool},bz A (n+r)->evAnd o n sc σ es=some b->c3 G env sc σ V H s->wpAny (model ag w) A (allTrue .And es env) (fun c s'=>c=b/\Kp s s') EF s
 evOr:∀ {A:Around}{env:Env}{sc:Sc}{σ:SE}{V H:Addr->Prop}{s:Shared}{es:List Expr}{b:Bool},bz A (n+r)->evOr o n sc σ es=some b->c3 G env sc σ V H s->wpAny (model ag w) A (allTrue .Or es env) (fun c s'=>c=b/\Kp s s') EF s
 evC:∀ {A:Around}{env:Env}{sc:Sc}{σ:SE}{V H:Addr->Prop}{s:Shared}{l rt:Expr}{op:CmpOp}{pos:Pos}{p:PV},bz A (n+r)->Mine.ev o n sc σ (.Compare l [op] [rt] pos)=some p->c3 G env sc σ V H s ->
  behindInMarks op rt=false/\(∃ b,p=.bool b)/\wpAny (model ag w) A (eval l env) (fun a aG=>wpAny (model ag w) A (eval rt env) (fun b aX=>wpAny (model ag w) A (compareOp op a b) (b4 G V s p) EF aX) EF aG) EF s
 evI:∀ {A:Around}{env:Env}{sc:Sc}{σ:SE}{V H:Addr->Prop}{s:Shared}{t e:Expr}{items:List PV},bz A (n+r)->evI o n sc σ t e=some items->c3 G env sc σ V H s ->
  (∀ x,foldedSetIterable e env x=pure x)/\wpAny (model ag w) A (eval e env) (fun x aG=>wpAny (model ag w) A (pyIter x) (i7 G A V t items s) EF aG) EF s
theorem ja {n:Nat}{e:Expr}{p:PV} (h:ev o n sc σ e=some p):∀ x q,e≠.Starred x q:=by
 rintro x q rfl
 cases n<;>exact nn h
theorem vB {n:Nat}{e:Expr}{p:PV} (h:evP o n sc σ e=some p):∀ x q,e≠.Starred x q:=by
 cases n with
 | zero=>exact nn h
 | succ n=>
  rintro x q rfl;exact ja (n:=n) h x q rfl
theorem sy {α β:Type}{f:α->Option β}{a:α}{as:List α}{bs:List β} (h:dK f (a::as)=some bs):∃ b r,f a=some b/\dK f as=some r/\bs=b::r:=
 b8 h fun b r h1 h2 h=>⟨b,r,h1,h2,bH h⟩
theorem fS {n:Nat}:∀ {es:List Expr}{ps:List PV},dK (ev o n sc σ) es=some ps->∀ e∈es,∀ x q,e≠.Starred x q
 | [],_,_,_,h=>nomatch h
 | e::es,ps,h,e',he=>by
  refine lz (sy h) ?_;rintro b q h1 h2 rfl;rcases ar.mp he with rfl | he
  ·exact ja h1
  ·exact fS h2 e' he
theorem cX {n:Nat} (S:iE G o r n) (hr:bz A (n+r)) {pos:Pos}:∀ {es:List Expr}{ps:List PV}{s:Shared},dK (ev o n sc σ) es=some ps->c3 G env sc σ V H s ->
  wpAny (model ag w) A (spliced (backTo pos (starEach es env))) (fun vs s'=>G.RepL s'.heap V ps vs/\Kp s s') EF s
 | [],ps,s,h,O=>by
  unfold dK at h;cases h;exact Calls.spliced_nil ⟨by simp [GX.RepL,RepL],cS.refl _ _⟩
 | e::es,ps,s,h,O=>by
  refine lz (sy h) ?_;rintro p qs h1 h2 rfl;rw [gM (ja h1),gK];refine Calls.spliced_cons (wpAny_mono (S.ev hr h1 O) (fun v aG hv=>?_) fun J J x=>x);refine wpAny_mono (cX S hr h2 (O.kp hv.2)) (fun vs aX hvs=>?_) fun J J x=>x;refine ⟨?_,hv.2.trans hvs.2⟩;unfold GX.RepL RepL;exact ⟨iA hvs.2 hv.1,hvs.1⟩
theorem RepL.one {cl:cG}{h:Heap}{p:PV}{vs:List Value} (x:RepL ag w cl h V [p] vs):∃ v,vs=[v]/\Rep ag w cl h V p v:=by
 cases vs with
 | nil=>unfold RepL at x;exact x.elim
 | cons v vs=>cases vs with
  | nil=>unfold RepL at x;exact ⟨v,rfl,x.1⟩
  | cons _ _=>unfold RepL RepL at x;exact x.2.elim
theorem RepL.two {cl:cG}{h:Heap}{p q:PV}{vs:List Value} (x:RepL ag w cl h V [p,q] vs):∃ v u,vs=[v,u]/\Rep ag w cl h V p v/\Rep ag w cl h V q u:=by
 cases vs with
 | nil=>unfold RepL at x;exact x.elim
 | cons v vs=>unfold RepL at x;refine bO (RepL.one x.2) ?_;rintro u rfl r;exact ⟨v,u,rfl,x.1,r⟩
theorem dw {pos:Pos}{f:Value}{first:List Value}{es:List Expr}{Q:Value->Shared->Prop} (cf:gR G f) (ns:∀ e∈es,∀ x p,e≠.Starred x p)
  (h:wpAny (model ag w) A (spliced (backTo pos (starEach es env))) (fun vs aG=>G.In aG.heap/\wpAny (model ag w) A (call f (first++vs)) Q EF aG) EF s) :
  wpAny (model ag w) A (callWith pos f first (backTo pos (starEach es env)) []) Q EF s:=by
 refine callWith_of (P:=G.In) (by rw [vQ ns];rfl) (fun h hi=>cf h hi) ?_
 cases es with
 | nil=>
  unfold evalArgs;show wpAny (model ag w) A (spliced [] >>= _) _ EF s;refine wpAny_bind (wpAny_mono h (fun vs aG kj=>wpAny_bind (wpAny_pure ?_)) fun J J x=>x);refine wpAny_holding ?_;exact wpAny_bind (wpAny_pure (wpAny_bind (wpAny_pure (wpAny_pure kj))))
 | cons e es=>
  rw [gM (ns e (.head _)),gK] at h ⊢;exact Calls.evalArgs_plain h
end
end Mine
end
section
namespace Mine
section
variable {A:Around}{s:Shared}{V H:Addr->Prop}{env:Env}{sc:Sc}{σ:SE}
variable {o:cV}{r n:Nat}
noncomputable def oS (G:GX ag w) (r:Nat) (c:PV) (name:Str) (args:List PV) (p:PV):Prop:=∃ T id,PlainAttrs T/\Slot T name id/\typeOf (.builtin id)=pure (.type "method_descriptor") /\
  ∀ (A:Around) (s:Shared) (V:Addr->Prop) (v:Value),G.Rep s.heap V c v->s.TypeIs v T/\(∀ a,v=.ref a->∃ ob,s.heap.get? a=some ob/\ob.dict=none) /\
   ∀ vs,G.RepL s.heap V args vs->bz A r->kh V s.heap->wpAny (model ag w) A (call (.builtin id) (v::vs)) (b4 G V s p) EF s
structure ug (G:GX ag w) (r:Nat):Prop where
 ok:∀ c name args p,Cl c name args=some p->oS G r c name args p
theorem ji {s aG aX:Shared}{p:PV}{v:Value} (k:Kp s aG) (g:b4 G V aG p v aX):b4 G V s p v aX:=⟨g.1,k.trans g.2⟩
theorem p6 {ob:Expr}{a:Str}{t:Sem Value} (h:dt ob=true):attributeBase ob a env t=t:=by
 cases ob with
 | Call f as ks p=>cases f with
  | Name x q=>cases as with
   | cons _ _=>rfl
   | nil=>cases ks with
    | cons _ _=>rfl
    | nil=>exact nomatch (show false=true from h)
  | _=>rfl
 | _=>rfl
theorem sW {ob:Expr}{name:Str}{apos pos:Pos}{args:List Expr}{Q:Value->Shared->Prop} (hb:dt ob=true) (hl:(apos.endLine == pos.line)=true) (ha:args.length<=8)
  (ns:∀ e∈args,∀ x p,e≠.Starred x p)
  (h:wpAny (model ag w) A (eval ob env) (fun ov aG=>∀ pl,wpAny (model ag w) A (getMethod ov name pl) (fun fx aX=>wpAny (model ag w) A (callWith pos fx.1 fx.2 (backTo pos (starEach args env)) []) Q EF aX) EF aG) EF s) :
  wpAny (model ag w) A (eval (.Call (.Attribute ob name apos) args [] pos) env) Q EF s:=by
 rw [arm_eval_Call,p6 hb];refine wpAny_bind (wpAny_mono h (fun ov aG kj=>?_) fun J J e=>e);refine wpAny_bind (wpAny_standAt ?_);have hform:methodCallForm (args.length+([]:List Keyword).length) (backTo pos (starEach args env)) (backToKw pos (keywordEach [] env))=true:=by
  unfold methodCallForm;rw [uP ns]
  have:args.length < 30:=by exact (pn [_] 0x1D1E1900D880) ha
  simp [backToKw,keywordEach,this]
 have hpos:methodCallPos true ob env apos pos=pure pos:=by unfold methodCallPos;simp [hl]
 unfold methodCall;rw [hform];refine wpAny_bind (wpAny_holding (wpAny_mono (kj _) (fun fx aX lP=>?_) fun J J e=>e));exact wpAny_bind (wpAny_of_eq hpos lP)
theorem RepF.ind {cl:cG}{h:Heap}{C:List (Str×PV)->List DictEntry->Prop} (h0:C [] []) (h1:∀ k p t e ps vs,e.key=.str k t->Rep ag w cl h V p e.val->RepF ag w cl h V ps vs->C ps vs->C ((k,p)::ps) (e::vs)):∀ {ps:List (Str×PV)}{vs:List DictEntry},RepF ag w cl h V ps vs->C ps vs:=fun {ps}=>by
 induction ps with
 | nil=>intro vs x;cases vs with
  | nil=>exact h0
  | cons v vs=>exact False.elim x
 | cons p ps ih=>intro vs x;cases vs with
  | nil=>exact False.elim x
  | cons v vs=>
   refine ir x ?_;clear x;rintro ⟨t,e⟩ r y;exact h1 _ _ t _ _ _ e r y (ih y)
noncomputable def Dq (ag:Program) (w:World) (cl:cG) (h:Heap) (V:Addr->Prop) (es:List DictEntry) (a:Str):Option PV->Prop
 | some p=>∃ e,es.find? (·.key.isStr a)=some e/\Rep ag w cl h V p e.val
 | none=>es.find? (·.key.isStr a)=none
theorem BQ {e:DictEntry}{k a:Str}{t:Tok} (h:e.key=.str k t):e.key.isStr a=(a == k):=by
 rw [h];show (k == a)=(a == k);rw [dE,beq_iff_eq,beq_iff_eq];exact eq_comm
theorem sJ {cl:cG}{h:Heap}{a:Str}{fs:List (Str×PV)}{es:List DictEntry} (x:RepF ag w cl h V fs es):Dq ag w cl h V es a (fs.lookup a):=
 RepF.ind (C:=fun fs es=>Dq ag w cl h V es a (fs.lookup a)) rfl (fun k p t e fs es hk r J ih=>by
  have e1:=BQ (a:=a) hk;rw [aP]
  cases hq:a == k with
  | true=>exact ⟨e,iH (e1.trans hq),r⟩
  | false=>
   have e2:(e::es).find? (·.key.isStr a)=es.find? (·.key.isStr a):=iI (by rw [e1,hq];exact e8)
   cases z:fs.lookup a with
   | none=>rw [z] at ih;exact e2.trans ih
   | some p=>rw [z] at ih;refine bO ih ?_;clear ih;intro u hu ru;exact ⟨u,e2.trans hu,ru⟩) x
theorem sP {cl:cG}{h:Heap}{fs:List (Str×PV)}{es:List DictEntry} (x:RepF ag w cl h V fs es):es.any (·.refKey)=false:=
 RepF.ind (C:=fun fs es=>es.any (·.refKey)=false) rfl (fun k p t e fs es hk J J ih=>by rw [fz,ih,DictEntry.refKey,hk];rfl) x
theorem AY {h:Heap}{c:Str}{fs:List (Str×PV)}{v:Value} (x:d8 G h V (.obj c fs) v):∃ a C d es ep,v=.ref a/\G.cl c=some C/\h.get? a=some { cls:=.ref C,dict:=some d,data:=.plain } /\
   h.get? d=some { cls:=.type "dict",data:=.dict es ep }/\G.RepF h V fs es.toList:=by
 rcases x with x | x
 ·have x:Rep ag w G.cl h V (.obj c fs) v:=x
  unfold Rep at x;refine dm x ?_;clear x;intro a C d es ep e _ q _ g gd r;exact ⟨a,C,d,es,ep,e,q,g,gd,r⟩
 ·refine dm x ?_;clear x;intro a C d es ep e _ q _ g gd r
  exact ⟨a,C,d,es,ep,e,q,g,gd,r⟩
theorem xI {cl:cG}{h:Heap}{p:PV}{v:Value} (x:Rep ag w cl h V p v):handedIn v=true:=by
 cases p with
 | none=>rw [show v=.none from x];rfl
 | bool b=>rw [show v=.bool b from x];rfl
 | typ n=>rw [show v=.type n from x];rfl
 | obj c fs=>obtain ⟨a,_,_,_,_,rfl,_⟩:=x;rfl
 | _=>refine xE x ?_;clear x;intro a e;first | (rw [e];rfl) | (rw [e.1];rfl)
theorem sk (OO:gE G o r) {c a:Str}{fs:List (Str×PV)}{p:PV}{v:Value} (hf:o.fld c a=true) (hp:fs.lookup a=some p) (hi:G.In s.heap) (x:d8 G s.heap V (.obj c fs) v) :
  wpAny (model ag w) A (getAttr v a true) (b4 G V s p) EF s:=by
 refine kF (AY x) ?_;rintro b C d es ep rfl hc g gd rf;refine bO (OO.fld c a hf) ?_;intro C' hc' get;rw [hc] at hc';cases hc';have q:=sJ (a:=a) rf;rw [hp] at q;refine bO q ?_;clear q;intro e he re;exact get A s b d es ep e _ _ hi g gd he (xI re) fun tk=>⟨iA Kp.toks re,Kp.toks⟩
theorem sV {ob:Expr}{a:Str}{pos:Pos}{Q:Value->Shared->Prop} (hb:dt ob=true)
  (h:wpAny (model ag w) A (eval ob env) (fun ov aG=>wpAny (model ag w) A (getAttr ov a true) Q EF aG) EF s):wpAny (model ag w) A (eval (.Attribute ob a pos) env) Q EF s:=by
 rw [arm_eval_Attribute,p6 hb];refine wpAny_bind (wpAny_mono h (fun ov aG kj=>wpAny_bind (wpAny_standAt (wpAny_bind (wpAny_holding (wpAny_mono kj (fun rv aX lP=>?_) fun J J x=>x))))) fun J J x=>x);exact wpAny_bind (wpAny_letTemporaryGo (wpAny_pure lP))
theorem B0 {h:Heap}{ps:List PV}{vs:List Value} (x:G.RepL h V ps vs):td G h V ps vs:=
 RepL.ind (C:=fun ps vs=>td G h V ps vs) trivial (fun J J J J r J ih=>And.intro (Or.inl r) ih) x
theorem yg {lower upper:Option Expr}{pos:Pos}{Q:Value->Shared->Prop}
  (h:wpAny (model ag w) A (valueOrNone (evalOpt lower env)) (fun l aG=>wpAny (model ag w) A (valueOrNone (evalOpt upper env)) (fun u aX=>
   Q (.ref aX.heap.objs.size) { aX with heap:=aX.heap.push { cls:=.type "slice",data:=.fields #[l,u,.none] } }) EF aG) EF s) :
  wpAny (model ag w) A (eval (.Slice lower upper none pos) env) Q EF s:=by
 rw [arm_eval_Slice];refine wpAny_bind (wpAny_mono h (fun l aG kj=>wpAny_bind (wpAny_holding (wpAny_mono kj (fun u aX lP=>wpAny_bind (wpAny_holding (wpAny_pure ?_))) fun J J x=>x))) fun J J x=>x);exact wpAny_newObj_type lP
theorem nS {s s':Shared}{p:PV}{v:Value} (k:Kp s s') (x:d8 G s.heap V p v):d8 G s'.heap V p v:=by
 rcases x with x | x
 ·exact .inl (iA k x)
 ·exact .inr (js.keep (fun b o J e=>k.keep b o e) (fun a o J e=>k.keep a o e) (fun J J x=>x) x)
theorem yp {v:Value}{a:Option Int} (h:IsPart v a):∃ l:Option (Int×Tok),v=partValue l/\l.map (·.1)=a:=by
 cases h with
 | none=>exact ⟨none,rfl,rfl⟩
 | int i t=>exact ⟨some (i,t),rfl,rfl⟩
theorem r8 {c p:PV}{v:Value}{sl:Addr}{a b:Option Int}{va vb:Value} (lo:kh V s.heap) (e:mC c a b=some p) (rc:d8 G s.heap V c v) (hs:s.heap.IsSliceOf sl va vb .none) (pa:IsPart va a) (pb:IsPart vb b) :
  qi G A s V v (.ref sl) p/\nw c=true:=by
 cases c with
 | lst l=>exact fh e fun hz e=>⟨by rw [bH e];exact xT lo hz rc hs pa pb,rfl⟩
 | tup l=>
  refine iC e fun ha e1=>cu e1 fun k hk e2=>fh e2 fun hz e3=>⟨?_,rfl⟩;refine xA (iq hz) ?_;intro hz h3;refine xA (iq hz) ?_;intro h1 h2;refine xE (Int.eq_ofNat_of_zero_le (of_decide_eq_true h2)) ?_;rintro k rfl
  cases pa with
  | int i t=>exact nomatch (show false=true from ha)
  | none=>
   cases pb with
   | none=>exact nn hk
   | int i t=>rw [bH e3];exact zT (b:=k) lo (of_decide_eq_true h1) (Int.ofNat_lt.mp (of_decide_eq_true h3)) rc (bH hk ▸ hs)
 | str x=>
  refine fh e fun hz e=>⟨?_,rfl⟩;refine xE (j9 rc) ?_;rintro t rfl;refine bO (yp pa) ?_;rintro l rfl rfl;refine bO (yp pb) ?_;rintro u rfl rfl;rw [bH e];exact zR hz hs
 | _=>exact nn e
end
end Mine
end
section
namespace Mine
open Builtin Builtin.Str
section
variable {A:Around}{s:Shared}{V:Addr->Prop}
theorem qV {h:Heap}:∀ (l:List (Str×Tok)),G.RepL h V ((l.map (·.1)).map .str) (strValues l)
 | []=>trivial
 | (x,t)::r=>RepL.cons (c7.mpr ⟨t,rfl⟩) (qV r)
theorem vt {x y:Str}{t u:Tok} (lo:kh V s.heap) (hy:(y.length == 0)=false) (hsz:x.length<=sizeLine) (hsz2:(Txt.split x y).length<=sizeLine) :
  wpAny (model ag w) A (call (.builtin "str.split") [.str x t,.str y u]) (b4 G V s (.lst ((Txt.split x y).map .str))) EF s:=by
 have fin:∀ (l:List (Str×Tok)) (tk:Nat),l.map (·.1)=Txt.split x y->b4 G V s (.lst ((Txt.split x y).map .str)) (.ref s.heap.objs.size) { s with heap:=s.heap.push { cls:=.type "list",data:=.seq (strValues l).toArray },toks:=tk }:=fun l tk e=>by
  rw [<- e];exact i0 lo (qV l)
 cases h1:(decide (x.length < y.length) || decide (Builtin.Str.strKind x < Builtin.Str.strKind y))
 ·cases hf:(occurrences x y 0 x.length (x.length+1)).isEmpty
  ·have e:Txt.split x y=partsBetween x (occurrences x y 0 x.length (x.length+1)) y.length:=(if_neg (ne_true_of_eq_false h1)).trans (if_neg (ne_true_of_eq_false hf))
   refine call_meets PySem.F.slot_str_split (typeIs_str _ _ _) PySem.F.entry_str_split (PySem.F.args_str_split_2 _ _) (meets_str_split_sep x y t u h1 hy hf hsz (by rw [<- e];exact hsz2)) ?_;show b4 G V s _ _ { s with toks:=_,heap:=s.heap.push { cls:=.type "list",data:=.seq (strsFrom s.toks (partsBetween x (occurrences x y 0 x.length (x.length+1)) y.length)).toArray } }
   rw [strsFrom_eq];exact fin (numbered s.toks _) _ ((numbered_texts _ _).trans e.symm)
  ·exact call_meets PySem.F.slot_str_split (typeIs_str _ _ _) PySem.F.entry_str_split (PySem.F.args_str_split_2 _ _) (meets_str_split_not_found x y t u h1 hy hf)
    (fin [(x,t)] s.toks ((if_neg (ne_true_of_eq_false h1)).trans (if_pos hf)).symm)
 ·exact call_meets PySem.F.slot_str_split (typeIs_str _ _ _) PySem.F.entry_str_split (PySem.F.args_str_split_2 _ _) (meets_str_split_cannot_occur x y t u h1)
   (fin [(x,t)] s.toks (if_pos h1).symm)
theorem vg {l:List PV}{ss:List Str}{h:Heap}{vs:List Value} (e:lv l=some ss) (r:G.RepL h V l vs):∃ ps:List (Str×Tok),strValues ps=vs/\ps.map (·.1)=ss:=
 RepL.ind (C:=fun l vs=>∀ ss,lv l=some ss->∃ ps:List (Str×Tok),strValues ps=vs/\ps.map (·.1)=ss) (fun ss e=>⟨[],rfl,(bH e).symm⟩)
  (fun p v l vs r J ih ss e=>b8 e fun x q hx hq e=>by
   refine bO (ih q hq) ?_;rintro ps rfl rfl;refine xE (A0  hx r) ?_;rintro t rfl;exact ⟨(x,t)::ps,rfl,(bH e).symm⟩) r ss e
theorem x7 {k:Int}:∀ {r:List PV}{b:Bool},gT k r=some b->∀ p∈r,∃ i,p=.int i:=fun {r}=>by
 induction r with
 | nil=>intro b _ p hp;cases hp
 | cons p r ih=>
  intro b h q hq;refine b8 h fun i c hi hc J=>?_;rcases ar.mp hq with rfl | hq
  ·exact ⟨i,jd hi⟩
  ·exact ih hc q hq
theorem vP {k:Int}:∀ {l:List PV}{j:Nat},qC k l=some j->(∀ p∈l,∃ i,p=.int i)/\l[j]?=some (.int k)/\∀ m,m < j->l[m]?≠some (.int k):=fun {l}=>by
 induction l with
 | nil=>intro j h;exact nn h
 | cons p r ih=>
  intro j h;refine cu h fun i hi h=>?_;have e:=jd hi;by_cases q:i=k
  ·refine lk (C:=fun j=>(∀ x∈p::r,∃ i,x=.int i)/\(p::r)[j]?=some (.int k)/\∀ m,m < j->(p::r)[m]?≠some (.int k)) ((if_pos (beq_iff_eq.mpr q)).symm.trans h) fun b hb=>?_
   refine ⟨fun x hx=>(ar.mp hx).elim (fun hx=>⟨i,hx.trans e⟩) (x7 hb x),by rw [e,q];rfl,fun m hm=>absurd hm (jS _)⟩
  ·refine lk (C:=fun j=>(∀ x∈p::r,∃ i,x=.int i)/\(p::r)[j]?=some (.int k)/\∀ m,m < j->(p::r)[m]?≠some (.int k)) ((if_neg (fun h=>q (beq_iff_eq.mp h))).symm.trans h) fun j' hj=>?_
   refine ir (ih hj) ?_;intro h1 h2 h3;refine ⟨fun x hx=>(ar.mp hx).elim (fun hx=>⟨i,hx.trans e⟩) (h1 x),h2,fun m hm=>?_⟩
   cases m with
   | zero=>intro z;rw [e] at z;injection z with z;injection z with z;exact q z
   | succ m=>exact h3 m (iJ hm)
theorem v3:∀ {r:List PV},p4 r=true->∀ p∈r,∃ i,p=.bool i:=fun {r}=>by
 induction r with
 | nil=>intro _ p hp;cases hp
 | cons p r ih=>
  intro h q hq;refine xA (iq h) ?_;intro h1 h2;rcases ar.mp hq with rfl | hq
  ·refine xE (aS.mp h1) ?_;intro b hb
   exact ⟨b,j0 hb⟩
  ·exact ih h2 q hq
theorem tO {k:Bool}:∀ {l:List PV}{j:Nat},jY k l=some j->(∀ p∈l,∃ i,p=.bool i)/\l[j]?=some (.bool k)/\∀ m,m < j->l[m]?≠some (.bool k):=fun {l}=>by
 induction l with
 | nil=>intro j h;exact nn h
 | cons p r ih=>
  intro j h;refine cu h fun i hi h=>?_;have e:=j0 hi;by_cases q:i=k
  ·refine iC ((if_pos (beq_iff_eq.mpr q)).symm.trans h) fun hb h=>?_
   rw [bH h];refine ⟨fun x hx=>(ar.mp hx).elim (fun hx=>⟨i,hx.trans e⟩) (v3 hb x),by rw [e,q];rfl,fun m hm=>absurd hm (jS _)⟩
  ·refine lk (C:=fun j=>(∀ x∈p::r,∃ i,x=.bool i)/\(p::r)[j]?=some (.bool k)/\∀ m,m < j->(p::r)[m]?≠some (.bool k)) ((if_neg (fun h=>q (beq_iff_eq.mp h))).symm.trans h) fun j' hj=>?_
   refine ir (ih hj) ?_;intro h1 h2 h3;refine ⟨fun x hx=>(ar.mp hx).elim (fun hx=>⟨i,hx.trans e⟩) (h1 x),h2,fun m hm=>?_⟩
   cases m with
   | zero=>intro z;rw [e] at z;injection z with z;injection z with z;exact q z
   | succ m=>exact h3 m (iJ hm)
theorem v9 {l:List PV}{a:Addr}{vs:List Value}{k:PV}{kv:Value}{j:Nat} (e:Value->Bool) (pl:s.heap.PlainList a vs.toArray) (rl:G.RepL s.heap V l vs) (rk:G.Rep s.heap V k kv) (hz:l.length<=1048576) (hu:A.units+2 < cLine)
  (he:∀ (m:Nat) (p:PV) (v:Value),l[m]?=some p->vs[m]?=some v->nP 1 p k=some (e v)) (hj:l[j]?=some k) (hk:nP 1 k k=some true) (hno:∀ (m:Nat) (p:PV),m < j->l[m]?=some p->nP 1 p k=some false) :
  wpAny (model ag w) A (call (.builtin "list.index") [.ref a,kv]) (b4 G V s (.int j)) EF s:=by
 have len:=RepL.length rl;refine xE pl ?_;clear pl;intro n ho;have hjl:j < l.length:=(aQ.mp hj).1;have at':∀ m,m < vs.length->∃ p v,l[m]?=some p/\vs[m]?=some v:=fun m hm=>by
  have hm':m < l.length:=by exact (pn [_,_,_] 0x1D021D122D10) len hm
  exact ⟨l[m],vs[m],by simp [hm'],by simp [hm]⟩
 refine call_meets PySem.F.slot_list_index ⟨_,ho,rfl⟩ PySem.F.entry_list_index (PySem.F.args_list_index_2 _ _)
  (SeqAt.list_indexAt a vs.toArray n none #[] kv e j (by rw [aA];exact (pn [_,_,_] 0x1D121D022D10) len hjl) (by lia) ?_ ?_) ⟨ho,fun y hy=>?_,⟨bN.mpr ⟨_,rfl⟩,Kp.toks⟩⟩
 ·refine jw (at' j (by exact (pn [_,_,_] 0x1D121D022D10) len hjl)) ?_;intro p v h1 h2
  have:=he j p v h1 h2
  rw [hj] at h1;cases h1;rw [hk] at this;have hv:vs.toArray[j]'(by rw [aA];exact (pn [_,_,_] 0x1D121D022D10) len hjl)=v:=by
   have:=(aQ.mp h2)
   refine xE this ?_;clear this;intro _ q
   simpa using q
  rw [hv];exact (Option.some.inj this).symm
 ·intro m hm hmj
  rw [aA] at hm;refine jw (at' m hm) ?_;intro p v h1 h2;have q1:=he m p v h1 h2;rw [hno m p hmj h1] at q1;have hv:vs.toArray[m]'(by rw [aA];exact hm)=v:=by
   refine xE (aQ.mp h2) ?_;intro _ q
   simpa using q
  rw [hv];exact (Option.some.inj q1).symm
 ·have hy':y∈vs:=by simpa using hy
  obtain ⟨m,hm,rfl⟩:=a7.mp hy';refine jw (at' m hm) ?_;intro p v h1 h2;have hv:vs[m]=v:=by refine xE (aQ.mp h2) ?_;intro _ q;exact q
  rw [hv];refine bO (RepL.get rl h1) ?_;intro v' h3 rp;rw [h2] at h3;cases h3;exact (un 1).1 (he m p v h1 h2) (by show A.units+1+1 < cLine;exact (pn [_,_] 0x1D1A18A1801D1A280) hu) rp rk
theorem pV {args:List PV}{a:PV} (h:nN args=some a):args=[a]:=by
 match args,h with
 | [_],h=>cases h;rfl
theorem BR {r:Nat}{x:Str}{a p:PV} (h:((k9 a).bind fun t=>(if x.length<=1048576 && decide (0 < t.length) && (Txt.split x t).length<=1048576 then some (.lst ((Txt.split x t).map .str)) else none))=some p):oS G r (.str x) "split" [a] p:=by
 refine cu h fun y hy h=>fh h fun hc h=>?_;rw [bH h];refine xA (iq hc) ?_;intro hc h3;refine xA (iq hc) ?_;intro h1 h2;have h1:=of_decide_eq_true h1;have h2:=of_decide_eq_true h2;have h3:=of_decide_eq_true h3;clear h hc;refine ⟨"str","str.split",PySem.F.plainAttrs_str,PySem.F.slot_str_split,PySem.F.type_str_split,fun A s V v rv=>?_⟩;refine xE (c7.mp rv) ?_;rintro t rfl;refine ⟨typeIs_str _ _ _,(fun J e=>nomatch e),fun vs rl hr lo=>?_⟩;refine bO (RepL.one rl) ?_;rintro u rfl ru;refine xE (A0  hy ru) ?_;rintro t' rfl;clear rl ru rv hr hy;exact vt lo (beq_eq_false_iff_ne.mpr (kw h2)) (by rw [bu];lia) (by rw [bu];lia)
theorem DN {r:Nat}{x:Str}{a p:PV} (h:((jm a).bind fun l=>(lv l).bind fun ss=>if JoinOk x ss then some (.str (Txt.join x ss)) else none)=some p):oS G r (.str x) "join" [a] p:=by
 refine cu h fun l hl h=>cu h fun ss hs h=>fh h fun hok h=>?_;rw [bH h];refine ⟨"str","str.join",PySem.F.plainAttrs_str,PySem.F.slot_str_join,PySem.F.type_str_join,fun A s V v rv=>?_⟩;refine xE (c7.mp rv) ?_;rintro t rfl;refine ⟨typeIs_str _ _ _,(fun J e=>nomatch e),fun vs rl hr lo=>?_⟩;refine bO (RepL.one rl) ?_;rintro u rfl ru;refine bG (Cg  hl ru) ?_;rintro a rfl _ us pl rl;refine bO (vg hs rl) ?_;rintro ps rfl e;exact SC.join pl.isList e hok fun t' k=>⟨c7.mpr ⟨_,rfl⟩,Kp.toks⟩
theorem vz {V:Addr->Prop}{T:String}{l:List (Int×PV)}{d:Addr}{kvs:List (Int×Value)} (lo:kh V s.heap) (nV:¬ V d) (z:(d == sysModules)=false) (hd:s.heap.DictOf (intKind ag w) d kvs) (rd:G.RepD s.heap V l kvs) :
  ∃ a,Value.ref s.heap.objs.size=.ref a/\¬ V a/\∃ d',(s.heap.push { cls:=.type T,data:=.fields #[.ref d] }).get? a=some { cls:=.type T,data:=.fields #[.ref d'] }/\¬ V d'/\(d' == sysModules)=false/\∃ kvs,(s.heap.push { cls:=.type T,data:=.fields #[.ref d] }).DictOf (intKind ag w) d' kvs/\G.RepD (s.heap.push { cls:=.type T,data:=.fields #[.ref d] }) V l kvs:=
 ⟨_,rfl,lo.fresh,d,aH _ rfl,nV,z,kvs,hd.push _,RepD.keep (fun b o J e=>au _ e) (fun J J x=>x) rd⟩
theorem Ce {r:Nat}{l:List (Int×PV)}:oS G r (.dct l) "items" [] (.its l):=by
 refine ⟨"dict","dict.items",PySem.F.plainAttrs_dict,PySem.F.slot_dict_items,PySem.F.type_dict_items,fun A s V v rv=>?_⟩;refine cR (ew.mp rv) ?_;rintro d rfl nV z kvs hd rd;refine ⟨hd.typeIs,fun a e=>by cases e;exact hd.mapOf.noDict _ rfl,fun vs rl hr lo=>?_⟩
 cases vs with
 | cons _ _=>exact False.elim rl
 | nil=>exact call_meetsIn PySem.F.slot_dict_items hd.typeIs PySem.F.entry_dict_items (PySem.F.args_dict_items_1 _) (meets_dict_items (intKind ag w) d z) ⟨⟨kvs,hd⟩,vz lo nV z hd rd,dU (tk:=s.toks)⟩
theorem z6 {r:Nat}{l:List (Int×PV)}:oS G r (.dct l) "values" [] (.vals l):=by
 refine ⟨"dict","dict.values",PySem.F.plainAttrs_dict,PySem.F.slot_dict_values,PySem.F.type_dict_values,fun A s V v rv=>?_⟩;refine cR (ew.mp rv) ?_;rintro d rfl nV z kvs hd rd;refine ⟨hd.typeIs,fun a e=>by cases e;exact hd.mapOf.noDict _ rfl,fun vs rl hr lo=>?_⟩
 cases vs with
 | cons _ _=>exact False.elim rl
 | nil=>exact call_meetsIn PySem.F.slot_dict_values hd.typeIs PySem.F.entry_dict_values (PySem.F.args_dict_values_1 _) (meets_dict_values (intKind ag w) d z) ⟨⟨kvs,hd⟩,vz lo nV z hd rd,dU (tk:=s.toks)⟩
theorem vw {r:Nat}{l:List PV}{k:PV}{j:Nat} (e:Value->Bool) (hz:l.length<=1048576) (he:∀ (V:Addr->Prop) (h:Heap) (m:Nat) (p:PV) (v:Value),l[m]?=some p->G.Rep h V p v->nP 1 p k=some (e v)) (hj:l[j]?=some k) (hk:nP 1 k k=some true) (hno:∀ (m:Nat) (p:PV),m < j->l[m]?=some p->nP 1 p k=some false):oS G (r+1) (.lst l) "index" [k] (.int j):=by
 refine ⟨"list","list.index",PySem.F.plainAttrs_list,PySem.F.slot_list_index,PySem.F.type_list_index,fun A s V v rv=>?_⟩;refine bG (dC.mp rv) ?_;rintro a rfl nV us pl rl;refine ⟨pl.isList.typeIs,fun b e=>by cases e;refine xE pl ?_;clear pl;intro _ z;exact ⟨_,z,rfl⟩,fun vs rl' hr lo=>?_⟩;refine bO (RepL.one rl') ?_;rintro u rfl ru;refine v9 e pl rl ru hz (by have:=hr.2.2;clear rl rl' ru rv;unfold cLine;exact (pn [_,_] 0x1D26AC29A2801D26AC29A4CA181A80) this) (fun m p v hp hv=>?_) hj hk hno;refine bO (RepL.get rl hp) ?_;intro v' hv' rp;exact he V s.heap m p v hp (bH (hv'.symm.trans hv) ▸ rp)
theorem D2 {r:Nat}:ug G (r+1) where
 ok:=by
  intro c name args p h
  cases c with
  | str x=>
   refine cu h fun a ha h=>?_;rw [pV ha];by_cases q:(name == ("split":Str))=true
   ·rw [beq_iff_eq.mp q];exact BR ((if_pos q).symm.trans h)
   ·exact iC ((if_neg q).symm.trans h) fun hn h=>by rw [beq_iff_eq.mp hn];exact DN h
  | dct l=>
   refine iC h fun ha h=>?_;rw [dQ ha];by_cases q:(name == ("items":Str))=true
   ·rw [beq_iff_eq.mp q,bH ((if_pos q).symm.trans h)];exact Ce
   ·exact iC ((if_neg q).symm.trans h) fun hn h=>by rw [beq_iff_eq.mp hn,bH h];exact z6
  | lst l=>
   refine cu h fun a ha h=>iC h fun hn h=>fh h fun hz h=>?_;rw [pV ha,beq_iff_eq.mp hn]
   cases a with
   | int k=>
    refine lk (C:=oS G (r+1) (.lst l) "index" [.int k]) h fun j hj=>?_;refine ir (vP hj) ?_;intro h1 h2 h3;refine vw (isInt k) hz (fun V h m p v hp rp=>?_) h2 (congrArg some (beq_self_eq_true k)) fun m p hm hp=>?_
    ·refine xE (h1 p (bK hp)) ?_;rintro i rfl
     refine xE (bN.mp rp) ?_;rintro t rfl;rfl
    ·refine xE (h1 p (bK hp)) ?_;rintro i rfl
     exact congrArg some (beq_eq_false_iff_ne.mpr fun e=>h3 m hm (e ▸ hp))
   | bool k=>
    refine lk (C:=oS G (r+1) (.lst l) "index" [.bool k]) h fun j hj=>?_;refine ir (tO hj) ?_;intro h1 h2 h3;refine vw (FD k) hz (fun V h m p v hp rp=>?_) h2 (congrArg some (beq_self_eq_true k)) fun m p hm hp=>?_
    ·refine xE (h1 p (bK hp)) ?_;rintro i rfl
     rw [cY.mp rp];rfl
    ·refine xE (h1 p (bK hp)) ?_;rintro i rfl
     exact congrArg some (beq_eq_false_iff_ne.mpr fun e=>h3 m hm (e ▸ hp))
   | _=>exact nn h
  | _=>exact nn h
end
end Mine
end
section
namespace Mine
section
variable {A:Around}{s:Shared}{V:Addr->Prop}
noncomputable def gz:List PV->Option (List Int)
 | []=>some []
 | a::r=>dv (fun i is=>some (i::is)) (cq a) (gz r)
noncomputable def AF (l:List Int):Bool:=decide (l.length<=1048576) && l.all fun i=>decide (i.natAbs<=1099511627776)
noncomputable def oi:List PV->Option (List (Int×Int))
 | []=>some []
 | a::r=>dv (fun i is=>some (i::is)) (yK a) (oi r)
noncomputable def eZ:Int->List Int->Int
 | m,[]=>m
 | m,i::r=>eZ (if i < m then i else m) r
noncomputable def Hh (a:PV):Option PV:=match a with
 | .str s=>if s.length<=1048576 then some (.int (s.length:Int)) else none
 | .lst l=>if l.length<=1048576 then some (.int (l.length:Int)) else none
 | .tup l=>if l.length<=1048576 then some (.int (l.length:Int)) else none
 | .dct l=>if l.length<=1048576 then some (.int (l.length:Int)) else none
 | .set n=>if n<=1048576 then some (.int (n:Int)) else none
 | _=>none
noncomputable def DY (args:List PV):Option (PV×PV):=match args with
 | []=>none
 | a::r=>(nN r).map fun b=>(a,b)
noncomputable def Hc (q:PV×PV):Option PV:=dv (fun a b=>some (.int (if b > a then b else a))) (cq q.1) (cq q.2)
noncomputable def Ha (a:PV):Option PV:=(jm a).bind fun l=>(gz l).bind fun ns=>match ns with
 | []=>none
 | i::r=>if r.length < 1048576 then some (.int (eZ i r)) else none
noncomputable def Hj (a:PV):Option PV:=match a with
 | .lst l=>(gz l).bind fun ns=>if AF ns then some (.int ns.sum) else none
 | .vals l=>(gz (l.map (·.2))).bind fun ns=>if AF ns then some (.int ns.sum) else none
 | _=>none
noncomputable def Hm (a:PV):Option PV:=(cq a).bind fun a=>if a.natAbs<=1099511627776 then some (.str (toString a)) else none
noncomputable def HA (a:PV):Option PV:=(k9 a).bind fun s=>(lK s.cps.toList).map fun (c:Nat)=>PV.int (c:Int)
noncomputable def HG (a:PV):Option PV:=(jm a).bind fun l=>if l.length<=1048576 then some (.tup l) else none
noncomputable def Fh:PV->Option String
 | .typ n=>some n
 | _=>none
theorem Dp {v:PV}{i:String} (h:Fh v=some i):v=.typ i:=by
 cases v<;>first | exact nn h | (rw [bH h])
noncomputable def Hy (q:PV×PV):Option PV:=(Fh q.2).bind fun n=>gd (n == "tuple") ((cq q.1).map fun J=>.bool false)
noncomputable def I8 (f:Str) (args:List PV):Option PV:=
 if f == ("len":Str) then (nN args).bind Hh
 else if f == ("max":Str) then (DY args).bind Hc
 else if f == ("min":Str) then (nN args).bind Ha
 else if f == ("sum":Str) then (nN args).bind Hj
 else if f == ("str":Str) then (nN args).bind Hm
 else if f == ("ord":Str) then (nN args).bind HA
 else if f == ("tuple":Str) then (nN args).bind HG
 else if f == ("isinstance":Str) then (DY args).bind Hy
 else none
structure qn (G:GX ag w):Prop where
 len:cC G ("len":Str) (.builtin "len")
 max:cC G ("max":Str) (.builtin "max")
 min:cC G ("min":Str) (.builtin "min")
 sum:cC G ("sum":Str) (.builtin "sum")
 str:cC G ("str":Str) (.type "str")
 ord:cC G ("ord":Str) (.builtin "ord")
 tuple:cC G ("tuple":Str) (.type "tuple")
 isi:cC G ("isinstance":Str) (.builtin "isinstance")
theorem qx {n:String} (h:keeperOf (.builtin n)=pure .machine):gR G (.builtin n):=fun J J=>⟨.machine,.inr (.inl rfl),.of_pure h⟩
theorem wU {n:String} (h:keeperOf (.type n)=pure .machine):gR G (.type n):=fun J J=>⟨.machine,.inr (.inl rfl),.of_pure h⟩
theorem s7 {h:Heap}{p:PV}{vs:List Value} (x:td G h V [p] vs):∃ v,vs=[v]/\d8 G h V p v:=by
 cases vs with
 | nil=>exact x.elim
 | cons v vs=>cases vs with
  | nil=>exact ⟨v,rfl,x.1⟩
  | cons _ _=>exact x.2.elim
theorem sA {h:Heap}{p q:PV}{vs:List Value} (x:td G h V [p,q] vs):∃ v u,vs=[v,u]/\d8 G h V p v/\d8 G h V q u:=by
 cases vs with
 | nil=>exact x.elim
 | cons v vs=>refine bO (s7 x.2) ?_;rintro u rfl y;exact ⟨v,u,rfl,x.1,y⟩
theorem nK {l:List PV}{ns:List Int}{h:Heap}{vs:List Value} (e:gz l=some ns) (r:G.RepL h V l vs):∃ ps:List (Int×Tok),vs=ps.map (fun p=>Value.int p.1 p.2)/\ps.map (·.1)=ns:=
 RepL.ind (C:=fun l vs=>∀ ns,gz l=some ns->∃ ps:List (Int×Tok),vs=ps.map (fun p=>Value.int p.1 p.2)/\ps.map (·.1)=ns) (fun ss e=>⟨[],rfl,(bH e).symm⟩)
  (fun p v l vs r J ih ss e=>b8 e fun x q hx hq e=>by
   refine bO (ih q hq) ?_;rintro ps rfl rfl;refine xE (jX  hx r) ?_;rintro t rfl;exact ⟨(x,t)::ps,rfl,(bH e).symm⟩) r ns e
theorem RepD.vals {cl:cG}{h:Heap}{l:List (Int×PV)}{kvs:List (Int×Value)} (x:RepD ag w cl h V l kvs):RepL ag w cl h V (l.map (·.2)) (kvs.map (·.2)):=by
 refine RepD.ind (C:=fun l kvs=>RepL ag w cl h V (l.map Prod.snd) (kvs.map Prod.snd)) ?_ (fun k p v ps vs r J ih=>?_) x
 ·trivial
 ·exact RepL.cons r ih
theorem o4 {ps:List (Int×Tok)}:(ps.map fun p=>Value.int p.1 p.2).toArray=intItems ps.toArray:=by simp [intItems]
theorem ig {ps:List (Int×Tok)}:∀ j,j<=ps.length->preSum (numAt ps.toArray) j=((ps.map (·.1)).take j).sum
 | 0,_=>by simp [preSum]
 | j+1,h=>by
  unfold preSum;rw [ig j (by exact (pn [_,_] 0x0D100D1A180) h),List.take_add_one,List.sum_append]
  have:(ps.map (·.1))[j]?=some (numAt ps.toArray j):=by
   unfold numAt;have hj:j < ps.length:=by exact (pn [_,_] 0x1D100D1A180) h
   simp [hj]
  rw [this];simp
theorem sE:∀ {l:List Int}{b:Int},0<=b->(∀ i∈l,-b<=i/\i<=b)->-(b * l.length)<=l.sum/\l.sum<=b * l.length
 | [],b,_,_=>by simp
 | i::r,b,hb,h=>by
  have h1:=sE hb fun j hj=>h j (.tail _ hj);have h2:=h i (.head _);rw [cg,aD]
  have:b * ((r.length+1:Nat):Int)=b * r.length+b:=by
   rw [Int.natCast_add,Int.mul_add];simp
  rw [this];exact (pz [] [_,_,_,_] 0x0F0EA20A130EA133CA200F0E230E33C20F0E010E13C0) h1 h2
theorem vG {ns:List Int} (h:AF ns=true):∀ m,m<=ns.length->InLong ((ns.take m).sum):=by
 intro m hm;unfold AF at h;simp only [aR,decide_eq_true_eq,bo] at h;have hb:=sE (l:=ns.take m) (b:=1099511627776) (by decide) fun i hi=>by
  have:=h.2 i (pr hi);lia
 have hl:((ns.take m).length:Int)<=1048576:=by rw [cQ];have:=h.1;lia
 unfold InLong;have hz:(1099511627776:Int) * (ns.take m).length<=1099511627776 * 1048576:=Int.mul_le_mul_of_nonneg_left hl (by decide)
 lia
theorem zJ {ns:List Int}{a:Addr}{ps:List (Int×Tok)} (hh:A.handled=none) (hl:s.heap.IsList a (ps.map fun p=>Value.int p.1 p.2).toArray) (e:ps.map (·.1)=ns) (hc:AF ns=true) :
  wpAny (model ag w) A (call (.builtin "sum") [.ref a]) (b4 G V s (.int ns.sum)) EF s:=by
 rw [o4] at hl;have len:ps.length=ns.length:=by rw [<- e,aa]
 refine sum_intList hh hl (fun j hj=>?_) fun h' tk t' hk=>⟨bN.mpr ⟨t',?_⟩,Kp.of hk⟩
 ·have hj:j < ps.length:=by simpa using hj
  refine ⟨?_,?_⟩
  ·have hx:numAt ps.toArray j∈ns:=by
    rw [<- e]
    have:(ps.map (·.1))[j]?=some (numAt ps.toArray j):=by unfold numAt;simp [hj]
    exact bK this
   unfold AF at hc;simp only [aR,decide_eq_true_eq,bo] at hc
   have:=hc.2 _ hx
   unfold InLong;lia
  ·rw [ig _ (by exact (pn [_,_] 0x0D1A1801D10) hj),e]
   exact vG hc _ (by exact (pn [_,_,_] 0x0D1A1821D022D10) len hj)
 ·rw [show ps.toArray.size=ps.length by simp,ig _ (aE _),e,len,jt]
theorem AI {l:List (Int×PV)}{ns:List Int}{v:Value} (hh:A.handled=none) (r:G.Rep s.heap V (.vals l) v) (e:gz (l.map (·.2))=some ns) (hc:AF ns=true) :
  wpAny (model ag w) A (call (.builtin "sum") [v]) (b4 G V s (.int ns.sum)) EF s:=by
 refine g0 r ?_;clear r;rintro a rfl nV d g nd z kvs hd rd;refine xE hd.dictAt ?_;intro ep ha;have hlt:d < s.heap.objs.size:=by refine jw ha ?_;clear ha;intro o _ e _;exact aV e
 have hne:d≠s.heap.objs.size:=a6 hlt;refine bO (nK  e rd.vals) ?_;intro ps h1 h2;have len:ps.length=ns.length:=by rw [<- h2,aa]
 have lenk:kvs.length=ps.length:=by have:=congrArg ef h1;simpa using this
 refine call_sum_walk (wpAny_pyIter_values ⟨_,g,rfl,rfl⟩ ha ?_);refine ⟨_,_,_,_,_,_,numAt ps.toArray,rfl,Walks.dictValues (A:=A.in1) hh _ _ hne kvs ep,⟨⟨_,aH _ rfl,rfl,rfl⟩,jE ha⟩,fun b hb=>?_,fun i v hv=>?_,fun j hj=>?_,fun h' tk t' hk=>⟨bN.mpr ⟨t',?_⟩,?_⟩⟩
 ·show b < (s.heap.push _).objs.size
  rw [eW];rcases ar.mp hb with rfl | hb
  ·exact f9 _
  ·rw [ae.mp hb];exact bV hlt
 ·refine xE hv ?_;clear hv;intro k hx
  have:(kvs.map (·.2))[i]?=some v:=by rw [aK,hx];rfl
  rw [h1,aK] at this;refine bO (b3.mp this) ?_;rintro p hp rfl;exact ⟨p.2,by unfold numAt;simp [hp]⟩
 ·rw [lenk] at hj
  refine ⟨?_,?_⟩
  ·have hx:numAt ps.toArray j∈ns:=by
    rw [<- h2]
    have:(ps.map (·.1))[j]?=some (numAt ps.toArray j):=by unfold numAt;simp [hj]
    exact bK this
   unfold AF at hc;simp only [aR,decide_eq_true_eq,bo] at hc
   have:=hc.2 _ hx
   unfold InLong;lia
  ·rw [ig _ (by exact (pn [_,_] 0x0D1A1801D10) hj),h2]
   exact vG hc _ (by exact (pn [_,_,_] 0x0D1A1821D022D10) len hj)
 ·rw [lenk,ig _ (aE _),h2,len,jt]
 ·refine ⟨fun b o J e=>hk b o (fun hm=>?_) (au _ e),rfl,id⟩
  rw [ae.mp hm] at e;rw [dP] at e;cases e
theorem Ai {ps:List (Int×Tok)}{i:Int}{r:List Int} (e:ps.map (·.1)=i::r):∃ t,(intItems ps.toArray)[argBest (fun i j=>decide (numAt ps.toArray i < numAt ps.toArray j)) (ps.length - 1)]?=some (.int (eZ i r) t):=by
 have num:∀ j,j < (i::r).length->(i::r)[j]?=some (numAt ps.toArray j):=fun j hj=>by
  rw [<- e];rw [<- e,aa] at hj;unfold numAt;simp [hj]
 have key:∀ k,k<=r.length->argBest (fun i j=>decide (numAt ps.toArray i < numAt ps.toArray j)) k<=k/\numAt ps.toArray (argBest (fun i j=>decide (numAt ps.toArray i < numAt ps.toArray j)) k)=eZ i (r.take k):=by
  intro k
  induction k with
  | zero=>
   intro _;refine ⟨aE _,?_⟩
   have:=num 0 (by simp)
   simp only [List.getElem?_cons_zero,Option.some.injEq] at this;simp [argBest,eZ,this]
  | succ k ih=>
   intro hk;refine xA (ih (by exact (pn [_,_] 0x0D100D1A180) hk)) ?_;intro h1 h2;have app:∀ (m:Int) (a b:List Int),eZ m (a++b)=eZ (eZ m a) b:=by
    intro m a
    induction a generalizing m with
    | nil=>intro b;rfl
    | cons x a ih=>intro b;show eZ _ (a++b)=_;rw [ih];rfl
   have hn:=num (k+1) (by simp;exact (pn [_,_] 0x1D100D1A180) hk);rw [List.getElem?_cons_succ] at hn;rw [List.take_add_one,hn,app];unfold argBest;rw [h2];show _/\_=eZ (eZ i (r.take k)) [numAt ps.toArray (k+1)];have one:∀ (m x:Int),eZ m [x]=if x < m then x else m:=fun J J=>rfl
   rw [one];by_cases c:numAt ps.toArray (k+1) < eZ i (r.take k)
   ·rw [if_pos (by simpa using c),if_pos c]
    exact ⟨aE _,rfl⟩
   ·rw [if_neg (by simpa using c),if_neg c]
    exact ⟨Nat.le_succ_of_le h1,h2⟩
 have len:ps.length=r.length+1:=by have:=congrArg ef e;simpa using this
 refine xA (key r.length (aE _)) ?_;intro h1 h2;rw [jt] at h2;rw [len,Nat.add_sub_cancel];have hlt:argBest (fun i j=>decide (numAt ps.toArray i < numAt ps.toArray j)) r.length < ps.length:=by exact (pn [_,_,_] 0x1D020D122DA1810) len h1
 refine ⟨ps[argBest (fun i j=>decide (numAt ps.toArray i < numAt ps.toArray j)) r.length].2,?_⟩;rw [<- h2];generalize argBest (fun i j=>decide (numAt ps.toArray i < numAt ps.toArray j)) r.length=m at hlt;unfold intItems;rw [Array.getElem?_map];simp [hlt,numAt]
noncomputable def fb (G:GX ag w) (r:Nat) (f:Str) (args:List PV) (p:PV):Prop:=∃ fv,cC G f fv/\gR G fv/\jF G r fv args p
theorem EI {args:List PV}{q:PV×PV} (h:DY args=some q):args=[q.1,q.2]:=by
 cases args with
 | nil=>exact nn h
 | cons a r=>exact lk (C:=fun q:PV×PV=>a::r=[q.1,q.2]) h fun b hb=>by rw [pV hb]
theorem qK {r:Nat}{n:String}{f:Str}{args:List PV}{p:PV} (g:cC G f (.builtin n)) (h:keeperOf (.builtin n)=pure .machine) (k:jF G r (.builtin n) args p):fb G r f args p:=⟨_,g,qx h,k⟩
theorem zd {r:Nat}{n:String}{f:Str}{args:List PV}{p:PV} (g:cC G f (.type n)) (h:keeperOf (.type n)=pure .machine) (k:jF G r (.type n) args p):fb G r f args p:=⟨_,g,wU h,k⟩
theorem nE {r:Nat}{f:Value}{a p:PV} (k:∀ (A:Around) (s:Shared) (V:Addr->Prop) (v:Value),bz A r->kh V s.heap->d8 G s.heap V a v->wpAny (model ag w) A (call f [v]) (b4 G V s p) EF s):jF G r f [a] p:=fun A s V vs hr J lo pk=>by
 refine bO (s7 pk) ?_;rintro v rfl x;exact k A s V v hr lo x
theorem CN {h:Heap}{n:Nat}{v:Value} (x:d8 G h V (.set n) v):G.Rep h V (.set n) v:=x.elim id fun x=>False.elim x
theorem th {h:Heap}{n:List (Int×PV)}{v:Value} (x:d8 G h V (.vals n) v):G.Rep h V (.vals n) v:=x.elim id fun x=>False.elim x
theorem BZ {h:Heap}{n:String}{v:Value} (x:d8 G h V (.typ n) v):v=.type n:=x.elim id fun x=>False.elim x
theorem oo {n:Nat}{t tk:Nat}:b4 G V s (.int (n:Int)) (.int (n:Int) t) { s with toks:=tk }:=⟨bN.mpr ⟨_,rfl⟩,Kp.toks⟩
theorem i8 {n:Nat} (h:n<=1048576):(n:Int) < 2 ^ 63:=by lia
theorem Ge {r:Nat} (B:qn G) {a p:PV} (h:Hh a=some p):fb G r "len" [a] p:=by
 refine qK B.len rfl (nE fun A s V v hr lo x=>?_)
 cases a with
 | str y=>
  refine fh h fun hz h=>?_;rw [bH h];refine xE (j9 x) ?_;rintro t rfl;exact P.len_str (Int.not_le.mpr (i8 hz)) ⟨bN.mpr ⟨_,rfl⟩,Kp.toks⟩
 | lst l=>
  refine fh h fun hz h=>?_;rw [bH h];refine im (eH x) ?_;rintro a rfl us pl rl;have len:=RepL.length rl;rw [len] at hz ⊢;exact Calls.call_len_list pl.isList (by rw [aA];exact i8 hz) (oo (t:=s.toks+1))
 | tup l=>
  refine fh h fun hz h=>?_;rw [bH h];refine im (lr x) ?_;rintro a rfl us ht rl;have len:=RepL.length rl;rw [len] at hz ⊢;exact len_tuple ht (by rw [aA];exact i8 hz) (oo (t:=s.toks+1))
 | dct l=>
  refine fh h fun hz h=>?_;rw [bH h];refine bG (lB x) ?_;rintro a rfl z kvs hd rd;have len:=RepD.length rd;rw [len] at hz ⊢;exact call_len_dict z hd (i8 hz) (oo (t:=s.toks+1))
 | set n=>
  refine fh h fun hz h=>?_;rw [bH h];obtain ⟨a,rfl,_,f,o,es,ep,t,ho,hex,hd,_,_,_,hf,hn⟩:=CN x;rw [<- hn] at hz ⊢;exact call_len_set ho hex hd hf (i8 hz) ⟨bN.mpr ⟨_,rfl⟩,Kp.toks⟩
 | _=>exact nn h
theorem Gk {r:Nat} (B:qn G) {q:PV×PV}{p:PV} (h:Hc q=some p):fb G r "max" [q.1,q.2] p:=by
 refine qK B.max rfl fun A s V vs hr hin lo pk=>?_;refine lz (sA pk) ?_;rintro v u rfl x y;refine b8 h fun a b ha hb h=>?_;refine xE (uM ha x) ?_;rintro t rfl;refine xE (uM hb y) ?_;rintro t' rfl;rw [bH h];refine max_two_ints hr.1 fun h' tk hk=>⟨bN.mpr ?_,Kp.of hk⟩;by_cases c:b > a
 ·exact ⟨t',by rw [if_pos c,if_pos c]⟩
 ·exact ⟨t,by rw [if_neg c,if_neg c]⟩
theorem FE {r:Nat} (B:qn G) {a p:PV} (h:Ha a=some p):fb G r "min" [a] p:=by
 refine qK B.min rfl (nE fun A s V v hr lo x=>?_);refine cu h fun l hl h=>cu h fun ns hi h=>?_
 cases ns with
 | nil=>exact nn h
 | cons i r'=>
  refine fh h fun hz h=>?_;rw [bH h];refine im (eH (gA hl ▸ x)) ?_;rintro a rfl us pl rl;refine bO (nK hi rl) ?_;rintro ps rfl e;have hl:=pl.isList;rw [o4] at hl;have len:ps.toArray.size=r'.length+1:=by rw [aA,<- aa (f:=(·.1)),e];rfl
  refine min_intList hr.1 hl (by clear x rl pl;rw [len];exact pn [_] 0x1DA18008) fun v h' tk hv hk=>⟨?_,Kp.of hk⟩;refine xE (Ai e) ?_;intro t ht;rw [show ps.toArray.size=ps.length from aA ..,ht] at hv
  cases hv
  exact bN.mpr ⟨t,rfl⟩
theorem GC {r:Nat} (B:qn G) {a p:PV} (h:Hj a=some p):fb G r "sum" [a] p:=by
 refine qK B.sum rfl (nE fun A s V v hr lo x=>?_)
 cases a with
 | lst l=>
  refine cu h fun ns hi h=>fh h fun hc h=>?_;rw [bH h];refine im (eH x) ?_;rintro a rfl us pl rl;refine bO (nK hi rl) ?_;rintro ps rfl e;exact zJ hr.1 pl.isList e hc
 | vals l=>
  refine cu h fun ns hi h=>fh h fun hc h=>?_;rw [bH h];exact AI hr.1 (th x) hi hc
 | _=>exact nn h
theorem Gq {r:Nat} (B:qn G) {a p:PV} (h:Hm a=some p):fb G r "str" [a] p:=by
 refine zd B.str rfl (nE fun A s V v hr lo x=>?_);refine cu h fun a ha h=>fh h fun hz h=>?_;rw [bH h];refine xE (uM ha x) ?_;rintro t rfl;exact str_of_int_fit (N:=1099511627777) (by clear x h ha hr lo;split<;>lia) (by decide) fun J=>⟨c7.mpr ⟨_,rfl⟩,Kp.toks⟩
theorem Gu {r:Nat} (B:qn G) {a p:PV} (h:HA a=some p):fb G r "ord" [a] p:=by
 refine qK B.ord rfl (nE fun A s V v hr lo x=>?_);refine cu h fun y hy h=>lk (C:=fun p=>wpAny (model ag w) A (call (.builtin "ord") [v]) (b4 G V s p) EF s) h fun c hc=>?_;refine xE (j9 (rH hy ▸ x)) ?_;rintro t rfl
 have:y=⟨#[c]⟩:=congrArg Str.mk (Array.toList_inj.mp (gu hc))
 rw [this];exact P.ord_of_char ⟨bN.mpr ⟨_,rfl⟩,Kp.toks⟩
theorem Bx {r:Nat} (B:qn G) {a p:PV} (h:HG a=some p):fb G r "tuple" [a] p:=by
 refine zd B.tuple rfl (nE fun A s V v hr lo x=>?_);refine cu h fun l hl h=>fh h fun hz h=>?_;rw [bH h];refine im (eH (gA hl ▸ x)) ?_;rintro a rfl us pl rl;rw [RepL.length rl] at hz;refine call_tuple_list pl.isList (fun h' hk=>?_) (by clear x pl rl h;rw [aA,bu];exact (pn [_] 0x0D010000004900D100000390) hz);have k:Kp s { s with heap:=h' }:=Kp.of (tk:=s.toks) hk
 exact ji k (lI (s:={ s with heap:=h' }) (tk:=s.toks) (lo.kp k) (pS k rl))
theorem F7 {r:Nat} (B:qn G) {q:PV×PV}{p:PV} (h:Hy q=some p):fb G r "isinstance" [q.1,q.2] p:=by
 refine qK B.isi rfl fun A s V vs hr hin lo pk=>?_;refine lz (sA pk) ?_;rintro v u rfl x y;refine cu h fun n hn h=>iC h fun hc h=>lk (C:=fun p=>wpAny (model ag w) A (call (.builtin "isinstance") [v,u]) (b4 G V s p) EF s) h fun i hi=>?_;refine xE (uM hi x) ?_;rintro t rfl;have y:u=.type n:=BZ  (Dp hn ▸ y);rw [y,beq_iff_eq.mp hc];exact IsiPair.int_tuple ⟨cY.mpr rfl,Kp.toks⟩
theorem rQ {f g:Str}{x y:Option PV}{p:PV}{C:Str->Prop} (h:(if (f == g)=true then x else y)=some p) (k1:x=some p->C g) (k2:y=some p->C f):C f:=by
 by_cases q:(f == g)=true
 ·rw [beq_iff_eq.mp q];exact k1 ((if_pos q).symm.trans h)
 ·exact k2 ((if_neg q).symm.trans h)
theorem tZ {args:List PV}{g:PV->Option PV}{p:PV}{C:List PV->Prop} (h:(nN args).bind g=some p) (k:∀ a,g a=some p->C [a]):C args:=
 cu h fun a ha h=>by rw [pV ha];exact k a h
theorem Fw {args:List PV}{g:PV×PV->Option PV}{p:PV}{C:List PV->Prop} (h:(DY args).bind g=some p) (k:∀ a,g a=some p->C [a.1,a.2]):C args:=
 cu h fun a ha h=>by rw [EI ha];exact k a h
theorem HE {r:Nat} (B:qn G):∀ f args p,I8 f args=some p->fb G r f args p:=fun f args p h=>
 rQ (C:=fun f=>fb G r f args p) h (fun h=>tZ (C:=fun args=>fb G r _ args p) h fun J=>Ge B) fun h=>
 rQ (C:=fun f=>fb G r f args p) h (fun h=>Fw (C:=fun args=>fb G r _ args p) h fun J=>Gk B) fun h=>
 rQ (C:=fun f=>fb G r f args p) h (fun h=>tZ (C:=fun args=>fb G r _ args p) h fun J=>FE B) fun h=>
 rQ (C:=fun f=>fb G r f args p) h (fun h=>tZ (C:=fun args=>fb G r _ args p) h fun J=>GC B) fun h=>
 rQ (C:=fun f=>fb G r f args p) h (fun h=>tZ (C:=fun args=>fb G r _ args p) h fun J=>Gq B) fun h=>
 rQ (C:=fun f=>fb G r f args p) h (fun h=>tZ (C:=fun args=>fb G r _ args p) h fun J=>Gu B) fun h=>
 rQ (C:=fun f=>fb G r f args p) h (fun h=>tZ (C:=fun args=>fb G r _ args p) h fun J=>Bx B) fun h=>
 rQ (C:=fun f=>fb G r f args p) h (fun h=>Fw (C:=fun args=>fb G r _ args p) h fun J=>F7 B) fun h=>nn h
end
end Mine
end
section
namespace Mine
section
variable {A:Around}{s:Shared}{V H:Addr->Prop}{env:Env}{sc:Sc}{σ:SE}
variable {o:cV}{r n:Nat}
noncomputable def tG (G:GX ag w) (A:Around) (V:Addr->Prop) (s:Shared) (env:Env) (e:Expr) (p:PV):Prop:=wpAny (model ag w) A (eval e env) (b4 G V s p) EF s
theorem cK {α:Type}{s:Shared}{m:Sem α}{Q Q':α->Shared->Prop} (h:wpAny (model ag w) A m Q EF s) (k:∀ v s',Q v s'->Q' v s'):wpAny (model ag w) A m Q' EF s:=wpAny_mono h k fun J J x=>x
theorem cz {s aG:Shared}{p:PV}{m:Sem Value} (k:Kp s aG) (h:wpAny (model ag w) A m (b4 G V aG p) EF aG):wpAny (model ag w) A m (b4 G V s p) EF aG:=
 cK h fun J J g=>ji k g
theorem pg {c:Const}{p:PV}{k:Nat}{pos:Pos} (e:pN c=some p):tG G A V s env (.Constant c k pos) p:=by
 cases c with
 | none=>rw [bH e];exact wpAny_Constant_none ⟨lq.mpr rfl,cS.refl _ _⟩
 | bool b=>rw [bH e];exact wpAny_Constant_bool ⟨cY.mpr rfl,cS.refl _ _⟩
 | int i=>rw [bH e];exact wpAny_Constant_int ⟨bN.mpr ⟨_,rfl⟩,Kp.toks⟩
 | str x=>rw [bH e];exact wpAny_Constant_str ⟨c7.mpr ⟨_,rfl⟩,Kp.toks⟩
 | _=>exact nn e
theorem qm {ps:List PV}{vs:List Value} (hz:ps.length<=1048576) (x:G.RepL s.heap V ps vs):sizeOk (.seq vs.toArray):=by
 show vs.toArray.size<=sizeLine;rw [aA,<- RepL.length x,bu];exact aO hz (by decide)
theorem sd {ps:List PV}{vs:List Value}{p:PV} (lo:kh V s.heap) (e:qP ps=some p) (x:G.RepL s.heap V ps vs):wpAny (model ag w) A (newList vs) (b4 G V s p) EF s:=
 fh e fun hz e=>by rw [bH e];exact wpAny_newObj_type (i0 (tk:=s.toks) lo x) (qm hz x)
theorem p9 {ps:List PV}{vs:List Value}{p:PV} (lo:kh V s.heap) (e:Dj ps=some p) (x:G.RepL s.heap V ps vs):wpAny (model ag w) A (newTuple vs) (b4 G V s p) EF s:=
 fh e fun hz e=>by rw [bH e];exact wpAny_newObj_type (lI (tk:=s.toks) lo x) (qm hz x)
theorem lM {c:Expr}{x:Str} (h:lE sc σ c=some x):(∃ q,c=.Name x q)/\cU sc σ x=true:=
 cu h fun y hy h=>iC h fun hg h=>by rw [bH h];exact ⟨cE hy,hg⟩
theorem mt {c:Expr}{t:List (Str×Int)} (h:dW o sc σ c=some t):∃ x q,c=.Name x q/\cU sc σ x=true/\o.tab x=some t:=
 cu h fun x hx h=>by refine xA (lM hx) ?_;rintro ⟨q,e⟩ hg;exact ⟨x,q,e,hg,h⟩
theorem q9 (x:Str) (t:Tok):(PySem.strKind ag w).is x (.str x t)=true:=by simp [PySem.strKind,Value.isStrOf]
theorem rF {h:Heap} (i:G.In h) {d:Addr}{kvs:List (Str×Value)} (x:G.base.DictOf (PySem.strKind ag w) d kvs):h.DictOf (PySem.strKind ag w) d kvs:=
 let ⟨o,es,ep,ho,q⟩:=x;⟨o,es,ep,i _ _ ho,q⟩
theorem oR (OO:gE G o r) (S:iE G o r n) (hr:bz A (n+r)) (O:c3 G env sc σ V H s) {f:Str}{fp pos:Pos}{args:List Expr}{p:PV} (hg:cU sc σ f=true) {vs:List PV} (hv:dK (ev o n sc σ) args=some vs) (h:o.bi f vs=some p\/o.fn f vs=some p) :
  tG G A V s env (.Call (.Name f fp) args [] pos) p:=by
 refine xA (fe hg) ?_;intro hx hl;refine wpAny_Call_ofName ?_;have rr:bz A r:=hr.le (cL _ _);rcases h with h | h
 ·refine fw (OO.bi f vs p h) ?_;intro fv gv cf co
  exact jD O hx hl gv (dw cf (fS hv) (cK (cX S hr hv O) fun us aG q=>⟨O.base.kp q.2,cz q.2 (co A aG V us rr (O.base.kp q.2) (O.low.kp q.2) (B0 q.1))⟩))
 ·refine fw (OO.fn f vs p h) ?_;intro fv gv cf co
  exact jD O hx hl gv (dw cf (fS hv) (cK (cX S hr hv O) fun us aG q=>⟨O.base.kp q.2,cz q.2 (co A aG V us rr (O.base.kp q.2) (O.low.kp q.2) q.1)⟩))
theorem vE (OO:gE G o r) (S:iE G o r n) (hr:bz A (n+r)) (O:c3 G env sc σ V H s) {f:Str}{fp pos:Pos}{a:Expr}{p v:PV} (hg:cU sc σ f=true) (hv:evP o n sc σ a=some v) (h:o.bi f [v]=some p) :
  tG G A V s env (.Call (.Name f fp) [a] [] pos) p:=by
 refine xA (fe hg) ?_;intro hx hl;refine fw (OO.bi f [v] p h) ?_;intro fv gv cf co;have ns:∀ e∈[a],∀ x q,e≠.Starred x q:=fun e he=>by rw [ae.mp he];exact vB hv
 refine wpAny_Call_ofName (jD O hx hl gv (dw cf ns ?_));rw [gM (ns a (.head _)),gK];exact Calls.spliced_cons (cK (S.evP hr hv O) fun u aG q=>Calls.spliced_nil ⟨O.base.kp q.2,cz q.2 (co A aG V [u] (hr.le (cL _ _)) (O.base.kp q.2) (O.low.kp q.2) ⟨q.1,trivial⟩)⟩)
theorem su {c i p:PV} (h:item c i=some p):nw c=true:=
 cu h fun k J h=>by cases c<;>first | rfl | exact nn h
theorem mY {op:CmpOp}{e:Expr} (h:∀ a b c,e≠.Set a b c):behindInMarks op e=false:=by
 cases e with
 | Set a b c=>exact absurd rfl (h _ _ _)
 | _=>cases op<;>rfl
theorem sX {e:Expr}{p:PV} (h:ev o n sc σ e=some p):∀ a b c,e≠.Set a b c:=by
 rintro a b c rfl
 cases n<;>exact nn h
theorem xq {e:Expr}{p:PV} (h:evP o n sc σ e=some p):∀ a b c,e≠.Set a b c:=by
 cases n with
 | zero=>exact nn h
 | succ n=>
  rintro a b c rfl;exact sX (n:=n) h a b c rfl
noncomputable def Hb (G:GX ag w) (A:Around) (V:Addr->Prop) (s:Shared) (env:Env) (l:Expr) (op:CmpOp) (rt:Expr) (p:PV):Prop:=
 wpAny (model ag w) A (eval l env) (fun a aG=>wpAny (model ag w) A (eval rt env) (fun b aX=>wpAny (model ag w) A (compareOp op a b) (b4 G V s p) EF aX) EF aG) EF s
theorem oY {GK s:Shared}{op:CmpOp}{a b:Value}{c:Bool} (k:Kp GK s) (h:q8 G A s op a b c):wpAny (model ag w) A (compareOp op a b) (b4 G V GK (.bool c)) EF s:=
 cK h fun v cJ g=>by rw [g.1];exact ⟨cY.mpr rfl,k.trans g.2⟩
theorem xp {op:CmpOp} (h:ui op=true):op=.In\/op=.NotIn:=by
 cases op<;>first | exact .inl rfl | exact .inr rfl | exact nomatch (show false=true from h)
theorem E2 {x:Str}{kvs:List (Str×Value)}{q:Option Int} (mr:match q with | some i=>∃ tk,valueAt kvs x=some (.int i tk) | none=>valueAt kvs x=none):q.isSome=(valueAt kvs x).isSome:=by
 cases q with
 | none=>exact (congrArg Option.isSome (show valueAt kvs x=none from mr)).symm
 | some i=>refine xE mr ?_;clear mr;intro tk h;rw [h];rfl
theorem Gv (OO:gE G o r) (S:iE G o r n) {l:Expr}{op:CmpOp}{t:List (Str×Int)}{x:Str}{q:Pos}{a:PV}{y:Str} (hr:bz A (n+r)) (hop:op=.In\/op=.NotIn) (hg:cU sc σ x=true) (htab:o.tab x=some t) (ha:ev o n sc σ l=some a) (hy:k9 a=some y) (O:c3 G env sc σ V H s) :
  Hb G A V s env l op (.Name x q) (.bool ((t.lookup y).isSome == (op == .In))):=by
 refine xA (fe hg) ?_;intro hx hl;refine bG (OO.tab x t htab) ?_;intro d gv hd kvs dO mr;refine cK (S.ev hr ha O) fun va aG q=>?_;refine xE (A0 hy q.1) ?_;rintro u rfl;refine jD (O.kp q.2) hx hl gv ?_;have hm:=(rF (O.kp q.2).base dO).mapOf;rw [E2 (mr y)];rcases hop with rfl | rfl
 ·exact wpAny_in_of (q9 y u) hd hm (ji q.2 ⟨cY.mpr (by cases (valueAt kvs y).isSome<;>rfl),Kp.toks⟩)
 ·exact wpAny_notIn_of (q9 y u) hd hm (ji q.2 ⟨cY.mpr (by cases (valueAt kvs y).isSome<;>rfl),Kp.toks⟩)
theorem A9 {A:Around}{m:Nat} (hr:bz A (m+r)):A.units+m < cLine:=by have:=hr.2.2;unfold cLine;exact (pn [_,_,_] 0x1D26AC29A101D26AC29A4CA21A80) this
theorem vn (OO:gE G o r) (S:iE G o r n) {l rt:Expr}{op:CmpOp}{pos:Pos}{p:PV} (hr:bz A (n+1+r)) (h:ev o (n+1) sc σ (.Compare l [op] [rt] pos)=some p) (O:c3 G env sc σ V H s) :
  behindInMarks op rt=false/\(∃ b,p=.bool b)/\Hb G A V s env l op rt p:=by
 have hr':bz A (n+r):=hr.le (by exact pn [_,_] 0x0DA1A180A10);have hc:=A9 hr';have h:((ev o n sc σ l).bind fun a=>D1 (dW o sc σ rt) n op a (evP o n sc σ rt) (ev o n sc σ rt))=some p:=h;refine cu h fun a ha h=>?_;by_cases hop:ui op=true
 ·have h:=(if_pos hop).symm.trans h
  have hop':=xp hop
  cases ht:dW o sc σ rt with
  | some t=>
   rw [ht] at h;refine lz (mt ht) ?_;rintro x q rfl hg htab;refine lk (C:=fun p=>behindInMarks op (.Name x q)=false/\(∃ b,p=.bool b)/\Hb G A V s env l op (.Name x q) p) h fun y hy=>?_;exact ⟨mY (fun J J J e=>nomatch e),⟨_,rfl⟩,Gv OO S hr' hop' hg htab ha hy O⟩
  | none=>
   rw [ht] at h;refine cu h fun b hb h=>lk (C:=fun p=>behindInMarks op rt=false/\(∃ b,p=.bool b)/\Hb G A V s env l op rt p) h fun c hc=>?_;refine ⟨mY (xq hb),⟨_,rfl⟩,cK (S.ev hr' ha O) fun va aG q=>cK (S.evP hr' hb (O.kp q.2)) fun vb aX q'=>oY (q.2.trans q'.2) ?_⟩;have ra:=iA q'.2 q.1;rcases hop' with rfl | rfl
   ·exact (kU hc ra q'.1).1
   ·exact lk (C:=q8 G A aX .NotIn va vb) hc fun c' hc'=>(kU hc' ra q'.1).2
 ·have h:=(if_neg hop).symm.trans h
  refine cu h fun b hb h=>lk (C:=fun p=>behindInMarks op rt=false/\(∃ b,p=.bool b)/\Hb G A V s env l op rt p) h fun c hcm=>?_;exact ⟨mY (sX hb),⟨_,rfl⟩,cK (S.ev hr' ha O) fun va aG q=>cK (S.ev hr' hb (O.kp q.2)) fun vb aX q'=>oY (q.2.trans q'.2) (z8 hcm (iA q'.2 q.1) q'.1 hc)⟩
section steps
variable (OO:gE G o r) (MO:ug G r) (S:iE G o r n) {p:PV}{pos:Pos} (hr:bz A (n+r)) (O:c3 G env sc σ V H s)
include O
omit A in
theorem zp {A:Around} (OO:gE G o r) {x:Str} (h:gd (dl x) (AR o sc σ x)=some p):tG G A V s env (.Name x pos) p:=by
 refine iC h fun hx h=>?_;unfold AR at h
 cases hs:σ.lookup x with
 | some q=>
  rw [hs] at h;obtain ⟨b,u⟩:=q
  cases b with
  | true=>exact nn h
  | false=>
   refine bO (O.vars _ _ _ hs) ?_;intro v hv hok;rw [bH h];exact lV O.kind hx hv ⟨hok,cS.refl _ _⟩
 | none=>
  rw [hs] at h;refine iC h fun hg h=>?_;refine bO (OO.gval _ _ h) ?_;intro v gv rp;exact jD O hx (beq_iff_eq.mp hg) gv ⟨rp _ _,cS.refl _ _⟩
include S hr
theorem Dx {l rt:Expr}{op:Operator} (h:dv (jW op) (evP o n sc σ l) (ev o n sc σ rt)=some p):tG G A V s env (.BinOp l op rt pos) p:=
 b8 h fun a b ha hb h=>wpAny_BinOp (cK (S.evP hr ha O) fun va aG q=>cK (S.ev hr hb (O.kp q.2)) fun vb aX q'=>cz (q.2.trans q'.2) (ve h (nS q'.2 q.1) q'.1 ((O.low.kp q.2).kp q'.2)))
theorem Ew {x:Expr}{op:UnaryOp} (h:(ev o n sc σ x).bind (I7 op)=some p):tG G A V s env (.UnaryOp op x pos) p:=by
 refine cu h fun v hv h=>?_
 cases op with
 | USub=>
  refine lk (C:=tG G A V s env _) h fun i hi=>wpAny_UnaryOp (cK (S.ev hr hv O) fun v aG q=>?_);refine xE (jX hi q.1) ?_;rintro t rfl;exact PyProof.Rows.neg_int (ji q.2 gZ)
 | Not=>
  refine lk (C:=tG G A V s env _) h fun i hi=>wpAny_UnaryOp (cK (S.ev hr hv O) fun v aG q=>?_);rw [C8 hi q.1];exact PyProof.Rows.not_of (wpAny_truthy_bool (ji q.2 wR))
 | _=>exact nn h
theorem EY {t a b:Expr} (h:((evT o n sc σ t).bind fun c=>if c then ev o n sc σ a else ev o n sc σ b)=some p):tG G A V s env (.IfExp t a b pos) p:=by
 refine cu h fun c hc h=>wpAny_IfExp (cK (S.evT hr hc O) fun c' aG q=>?_);refine xA q ?_;clear q;rintro rfl q
 cases c' with
 | true=>exact cz q (S.ev hr h (O.kp q))
 | false=>exact cz q (S.ev hr h (O.kp q))
theorem z7 {es:List Expr} (h:(dK (ev o n sc σ) es).bind qP=some p):tG G A V s env (.List es pos) p:=
 cu h fun ps hps h=>PyProof.Rows.List_ (cK (cX S hr hps O) fun vs aG q=>cz q.2 (sd (O.low.kp q.2) h q.1))
theorem xt {es:List Expr}{k:Nat} (h:(dK (ev o n sc σ) es).bind Dj=some p):tG G A V s env (.Tuple es k pos) p:=
 cu h fun ps hps h=>PyProof.Rows.Tuple_ (cK (cX S hr hps O) fun vs aG q=>cz q.2 (p9 (O.low.kp q.2) h q.1))
include OO
theorem zH {ob:Expr}{a:Str} (h:(match lE sc σ ob with | some g=>o.cattr g a | none=>gd (dt ob) ((evP o n sc σ ob).bind (Hg o a)))=some p):tG G A V s env (.Attribute ob a pos) p:=by
 cases hg:lE sc σ ob with
 | some g=>
  rw [hg] at h;refine xA (lM hg) ?_;rintro ⟨q,e⟩ hg';refine xA (fe hg') ?_;intro hx hl;refine bO (OO.cattr _ _ _ h) ?_;intro C gv get;rw [e];exact sV rfl (jD O hx hl gv (get A s V O.base))
 | none=>
  rw [hg] at h;refine iC h fun hb h=>cu h fun v hv h=>cu h fun c hc h=>iC h fun hf h=>sV hb (cK (S.evP hr hv O) fun u aG q=>?_);exact cz q.2 (sk OO hf h (O.base.kp q.2) (nv hc ▸ q.1))
theorem B1 {c i:Expr} (h:(match l6 i with
    | some q=>gd q.2.2 ((evP o n sc σ c).bind fun b=>dv (mC b) (evO o n sc σ q.1) (evO o n sc σ q.2.1))
    | none=>match dW o sc σ c with
     | some t=>(ev o n sc σ i).bind fun k=>(k9 k).bind fun s=>(t.lookup s).map .int
     | none=>dv item (evP o n sc σ c) (ev o n sc σ i))=some p):tG G A V s env (.Subscript c i pos) p:=by
 cases hs:l6 i with
 | some q=>
  rw [hs] at h;refine jw (xG hs) ?_;intro st sp hi he;refine iC h fun hn h=>cu h fun b hb h=>b8 h fun l u hlo hhi h=>?_;have hst:st=none:=by
   cases st with
   | none=>rfl
   | some _=>exact nomatch he.trans hn
  rw [hi,hst];refine PyProof.Rows.Subscript_ (cK (S.evP hr hb O) fun v aG q=>?_);have oN:=O.kp q.2;refine yg (cK (S.evO hr hlo oN) fun vl aX ql=>?_);have E6:=oN.kp ql.2;refine cK (S.evO hr hhi E6) fun vu cJ qu=>?_;have kk:Kp aG { cJ with heap:=cJ.heap.push { cls:=.type "slice",data:=.fields #[vl,vu,.none] } }:=(ql.2.trans qu.2).trans (dU (tk:=cJ.toks))
  refine xA (r8 (A:=A) ((E6.kp qu.2).low.kp (dU (tk:=cJ.toks))) h (nS kk q.1) (Heap.IsSliceOf.new ..) ql.1 qu.1) ?_;intro gi hi;exact CF (nS kk q.1) (cz (q.2.trans kk) gi) hi
 | none=>
  rw [hs] at h
  cases ht:dW o sc σ c with
  | some t=>
   rw [ht] at h;refine lz (mt ht) ?_;rintro x q rfl hg htab;refine xA (fe hg) ?_;intro hx hl;refine bG (OO.tab x t htab) ?_;intro d gv hd kvs dO mr;refine cu h fun k hk h=>cu h fun y hy h=>lk (C:=tG G A V s env _) h fun i hi=>?_;refine PyProof.Rows.Subscript_ (jD O hx hl gv (cK (S.ev hr hk O) fun va aG q=>?_));refine xE (A0 hy q.1) ?_;rintro u rfl;have hm:=(rF (O.kp q.2).base dO).mapOf
   have:=mr y
   rw [hi] at this;refine xE this ?_;clear this;intro tk hk;exact yU hm.typeIs slot_dict_getitem.lookup (wpAny_getItem_of (q9 y u) hm hk (ji q.2 ⟨bN.mpr ⟨_,rfl⟩,Kp.toks⟩))
  | none=>
   rw [ht] at h;refine b8 h fun b k hb hk h=>PyProof.Rows.Subscript_ (cK (S.evP hr hb O) fun v aG q=>cK (S.ev hr hk (O.kp q.2)) fun vi aX q'=>?_);have pk:=nS q'.2 q.1;exact CF pk (cz (q.2.trans q'.2) (mo h pk q'.1)) (su h)
include MO
theorem zX {ob:Expr}{name:Str}{ap cp:Pos}{args:List Expr} (hc:(dt ob && ap.endLine == cp.line && decide (args.length<=8))=true) (h:((ev o n sc σ ob).bind fun b=>(dK (ev o n sc σ) args).bind (yD o name b))=some p):tG G A V s env (.Call (.Attribute ob name ap) args [] cp) p:=by
 have rr:bz A r:=hr.le (cL _ _);refine xA (iq hc) ?_;intro hc hlen;refine xA (iq hc) ?_;intro hb hl;refine cu h fun b hb' h=>cu h fun vs hvs h=>sW hb hl (of_decide_eq_true hlen) (fS hvs) (cK (S.ev hr hb' O) fun ov aG q pl=>?_);have oN:=O.kp q.2;unfold yD at h
 cases hob:rG b with
 | some c=>
  rw [hob] at h;refine iC h fun hnone h=>?_;have hln:c.2.lookup name=none:=Option.isNone_iff_eq_none.mp hnone;refine mS (OO.mth c.1 name _ p h) ?_;intro C f hC cf co gm;obtain ⟨a,C',d,es,ep,rfl,nV,hC',nd,g,gd,rf⟩:G.Rep aG.heap V (.obj c.1 c.2) ov:=nv hob ▸ q.1;rw [hC] at hC';cases hC';have hq:=sJ (a:=name) rf;rw [hln] at hq;refine gm A aG a d es ep pl _ _ oN.base g gd hq (sP rf) ?_;exact dw cf (fS hvs) (cK (cX S hr hvs oN) fun us aX q'=>⟨oN.base.kp q'.2,cz (q.2.trans q'.2) (co A aX V _ rr (oN.base.kp q'.2) (oN.low.kp q'.2) (RepL.cons (iA q'.2 q.1) q'.1))⟩)
 | none=>
  rw [hob] at h;refine mS (MO.ok b name vs p h) ?_;intro T id pa slot hty run;refine ir (run A aG V ov q.1) ?_;intro hT hnd _;refine getMethod_builtin hT pa slot hty hnd ?_;exact dw (fun h J=>⟨.machine,.inr (.inl rfl),.of_pure rfl⟩) (fS hvs) (cK (cX S hr hvs oN) fun us aX q'=>⟨oN.base.kp q'.2,cz (q.2.trans q'.2) ((run A aX V ov (iA q'.2 q.1)).2.2 us q'.1 rr (oN.low.kp q'.2))⟩)
theorem zY {f:Expr}{args:List Expr}{ks:List Keyword} (h:gd ks.isEmpty (match oz f with
    | some q=>gd (dt q.1 && q.2.2.endLine == pos.line && decide (args.length<=8)) ((ev o n sc σ q.1).bind fun b=>(dK (ev o n sc σ) args).bind (yD o q.2.1 b))
    | none=>(lE sc σ f).bind fun g=>match lK args with
     | some a=>(evP o n sc σ a).bind fun v=>(o.bi g [v]).or ((ev o n sc σ a).bind fun v=>o.fn g [v])
     | none=>(dK (ev o n sc σ) args).bind fun vs=>(o.bi g vs).or (o.fn g vs))=some p):tG G A V s env (.Call f args ks pos) p:=by
 refine iC h fun hk h=>?_;rw [dQ hk]
 cases hf:oz f with
 | some q=>
  rw [hf] at h;rw [ol hf];exact iC h fun hc h=>zX OO MO S hr O hc h
 | none=>
  rw [hf] at h;refine cu h fun g hg h1=>?_;refine xA (lM hg) ?_;rintro ⟨q,e⟩ hg';rw [e]
  cases ha:lK args with
  | some a=>
   rw [ha] at h1;rw [gu ha];refine cu h1 fun v hv h2=>I6 h2 (fun h3=>vE OO S hr O hg' hv h3) fun J h4=>cu h4 fun v' hv' h5=>?_;exact oR OO S hr O hg' (vs:=[v']) (i4 hv' rfl) (.inr h5)
  | none=>
   rw [ha] at h1;exact cu h1 fun vs hvs h2=>oR OO S hr O hg' hvs (I6 h2 .inl fun J h=>.inr h)
end steps
theorem Ej (OO:gE G o r) (MO:ug G r) (S:iE G o r n)
  (hC:∀ {A:Around}{env:Env}{sc:Sc}{σ:SE}{V H:Addr->Prop}{s:Shared}{p:PV}{e:Expr},nG e=true->bz A (n+1+r)->ev o (n+1) sc σ e=some p->c3 G env sc σ V H s->tG G A V s env e p)
  {e:Expr}{p:PV} (hr:bz A (n+1+r)) (h:ev o (n+1) sc σ e=some p) (O:c3 G env sc σ V H s):tG G A V s env e p:=by
 have hr':bz A (n+r):=hr.le (by exact pn [_,_] 0x0DA1A180A10)
 cases e with
 | Constant c k pos=>exact pg h
 | Name x pos=>exact zp O OO h
 | BoolOp op es pos=>
  show wpAny _ _ (eval (.BoolOp op es pos) env) _ _ _;rw [arm_eval_BoolOp];exact S.evB hr' h O
 | BinOp l op rt pos=>exact Dx S hr' O h
 | UnaryOp op x pos=>exact Ew S hr' O h
 | IfExp t a b pos=>exact EY S hr' O h
 | List es pos=>exact z7 S hr' O h
 | Tuple es k pos=>exact xt S hr' O h
 | Dict ks vs pos=>exact hC rfl hr h O
 | ListComp elt gens scope pos=>exact hC rfl hr h O
 | DictComp k v gens scope pos=>exact hC rfl hr h O
 | Compare l ops rs pos=>
  refine b8 (f:=fun op r=>(ev o n sc σ l).bind fun a=>D1 (dW o sc σ r) n op a (evP o n sc σ r) (ev o n sc σ r)) h fun op rt h1 h2 J=>?_;have e1:=gu h1;have e2:=gu h2;subst e1;subst e2;refine ir (vn OO S hr h O) ?_;intro h1 _ h2;exact wpAny_Compare1 h2 h1
 | Call f args ks cp=>exact zY OO MO S hr' O h
 | Attribute ob a pos=>exact zH OO S hr' O h
 | Subscript c i pos=>exact B1 OO S hr' O h
 | _=>exact nn h
end
end Mine
end
section
namespace Mine
section
variable {A:Around}{s:Shared}{V H:Addr->Prop}{env:Env}{sc:Sc}{σ:SE}
variable {o:cV}{r n:Nat}
theorem RepD.any {cl:cG}{h:Heap} (k:Int) {l:List (Int×PV)}{vs:List (Int×Value)} (x:RepD ag w cl h V l vs):(l.any fun kv=>kv.1=k)=(vs.any fun kv=>kv.1=k):=by
 refine RepD.ind (C:=fun (l:List (Int×PV)) (vs:List (Int×Value))=>(l.any fun kv=>kv.1=k)=(vs.any fun kv=>kv.1=k)) rfl (fun a p v ps vs r J ih=>?_) x;rw [fz,fz,ih]
theorem RepD.mapAt {cl:cG}{h:Heap} (k:Int) {p:PV}{v:Value} (rp:Rep ag w cl h V p v) {l:List (Int×PV)}{vs:List (Int×Value)} (x:RepD ag w cl h V l vs) :
  RepD ag w cl h V (l.map fun kv=>if kv.1=k then (kv.1,p) else kv) (vs.map fun kv=>if kv.1=k then (kv.1,v) else kv):=by
 refine RepD.ind (C:=fun (l:List (Int×PV)) (vs:List (Int×Value))=>RepD ag w cl h V (l.map fun kv=>if kv.1=k then (kv.1,p) else kv) (vs.map fun kv=>if kv.1=k then (kv.1,v) else kv)) trivial (fun a q u ps vs r J ih=>?_) x;rw [aw,aw];dsimp only;by_cases e:a=k
 ·rw [if_pos e,if_pos e];exact RepD.cons rp ih
 ·rw [if_neg e,if_neg e];exact RepD.cons r ih
theorem RepD.snoc {cl:cG}{h:Heap} (k:Int) {p:PV}{v:Value} (rp:Rep ag w cl h V p v) {l:List (Int×PV)}{vs:List (Int×Value)} (x:RepD ag w cl h V l vs):RepD ag w cl h V (l++[(k,p)]) (vs++[(k,v)]):=
 RepD.ind (C:=fun (l:List (Int×PV)) (vs:List (Int×Value))=>RepD ag w cl h V (l++[(k,p)]) (vs++[(k,v)])) (RepD.cons rp trivial) (fun J J J J J r J ih=>RepD.cons r ih) x
theorem RepD.stored {cl:cG}{h:Heap}{k:Int}{p:PV}{v:Value} (rp:Rep ag w cl h V p v) {l:List (Int×PV)}{vs:List (Int×Value)} (x:RepD ag w cl h V l vs) :
  RepD ag w cl h V (jc l k p) (PySem.stored vs k v):=by
 unfold jc PySem.stored;rw [RepD.any k x];split
 ·exact RepD.mapAt k rp x
 ·exact RepD.snoc k rp x
theorem w3 {h:Heap}:∀ {a b:List PV}{vs:List (Value×Value)}{acc:List (Int×PV)}{kvs:List (Int×Value)}{res:List (Int×PV)},G.RepL h V a (vs.map (·.1))->G.RepL h V b (vs.map (·.2)) ->
  G.RepD h V acc kvs->cj (a.zip b) acc=some res->∃ more,Carries (intKind ag w) vs more/\G.RepD h V res (merged kvs more):=fun {a}=>by
 induction a with
 | nil=>
  intro b vs acc kvs res ra rb rd e
  cases vs with
  | nil=>rw [bH e];exact ⟨[],trivial,rd⟩
  | cons _ _=>exact False.elim ra
 | cons x a ih=>
  intro b vs acc kvs res ra rb rd e
  cases vs with
  | nil=>exact False.elim ra
  | cons q vs=>
   obtain ⟨u,v⟩:=q
   cases b with
   | nil=>exact False.elim rb
   | cons y b=>
    refine cu (x:=cq x) (f:=fun k=>cj (a.zip b) (jc acc k y)) e fun k hk e=>?_;refine xE (jX hk ra.1) ?_;intro t ht;have ht:u=.int k t:=ht;subst ht;refine bO (ih ra.2 rb.2 (RepD.stored (k:=k) rb.1 rd) e) ?_;intro more c q;exact ⟨(k,v)::more,⟨iZ,rfl,c⟩,q⟩
theorem c3.push {o:Obj}{V:Addr->Prop} (O:c3 G env sc σ V H s) (hf:o.isFreed=false):c3 G env sc σ (fun a=>V a\/a=s.heap.objs.size) H { s with heap:=s.heap.push o }:=
 O.change (fun b o J e=>au _ e) (fun a o J e=>au _ e) (O.base.kp (dU (tk:=s.toks)))
  (fun a e q=>q.elim id fun q=>absurd (q ▸ dP) e) fun a q=>q.elim (fun v=>(O.low.kp (dU (tk:=s.toks))) a v) fun q=>by
   show (s.heap.push o).get? a≠none;rw [q,aH _ hf];simp
theorem v1 {α β:Type}{f:α->Option β}:∀ {as:List α}{bs:List β},dK f as=some bs->as.length=bs.length:=fun {as}=>by
 induction as with
 | nil=>intro bs h;rw [bH h];rfl
 | cons a as ih=>intro bs h;exact b8 h fun b r J h2 h=>by rw [bH h];exact congrArg gF (ih h2)
theorem wg (S:iE G o r n) (hr:bz A (n+r)) {pos:Pos}:∀ {ks:List (Option Expr)}{vs:List Expr}{a b:List PV}{s:Shared},
  dK (GE (ev o n sc σ)) ks=some a->dK (ev o n sc σ) vs=some b->ks.length=vs.length->c3 G env sc σ V H s ->
  wpAny (model ag w) A (evalPairs (pairTrees ks vs env pos)) (fun us s'=>G.RepL s'.heap V a (us.map (·.1))/\G.RepL s'.heap V b (us.map (·.2))/\Kp s s') EF s:=fun {ks}=>by
 induction ks with
 | nil=>
  intro vs a b s ha hb hl O
  cases vs with
  | nil=>rw [bH ha,bH hb];exact pairTrees_nil_walk ⟨trivial,trivial,cS.refl _ _⟩
  | cons _ _=>cases hl
 | cons k ks ih=>
  intro vs a b s ha hb hl O
  cases vs with
  | nil=>cases hl
  | cons v vs=>
   refine b8 ha fun ka as h1 h2 e1=>b8 hb fun vb bs h3 h4 e2=>?_;rw [bH e1,bH e2]
   cases k with
   | none=>exact nn h1
   | some k=>
    refine pairTrees_cons_walk (cK (S.ev hr h1 O) fun kv aG uz=>cK (S.ev hr h3 (O.kp uz.2)) fun vv aX wK=>cK (ih h2 h4 (Nat.succ.inj hl) ((O.kp uz.2).kp wK.2)) fun us cJ DC=>?_);exact ⟨RepL.cons (iA (wK.2.trans DC.2.2) uz.1) DC.1,RepL.cons (iA DC.2.2 wK.1) DC.2.1,(uz.2.trans wK.2).trans DC.2.2⟩
theorem Ar {f:Option Expr->Option PV} (hf:f none=none):∀ {ks:List (Option Expr)}{a:List PV},dK f ks=some a->ks.all (·.isSome)=true:=fun {ks}=>by
 induction ks with
 | nil=>intro _ _;rfl
 | cons k ks ih=>
  intro a h;refine b8 h fun b r h1 h2 J=>?_;rw [ma,ih h2]
  cases k with
  | none=>exact nn (hf.symm.trans h1)
  | some k=>rfl
theorem yx {h:Heap} (i:G.In h):(h.objs.size == sysModules)=false:=by
 refine oX G.g ?_;intro o _ _ ho _;have lt:=aV (i _ _ ho);have le:sysModules<=mainGlobals:=by decide
 exact beq_eq_false_iff_ne.mpr (kw (Nat.lt_of_le_of_lt le lt))
theorem zs (S:iE G o r n) {ks:List (Option Expr)}{vs:List Expr}{pos:Pos}{p:PV}{Q:Value->Shared->Prop} (hr:bz A (n+r)) (h:ev o (n+1) sc σ (.Dict ks vs pos)=some p) (O:c3 G env sc σ V H s)
  (hQ:∀ (l:List (Int×PV)) (kvs:List (Int×Value)) (s':Shared),p=.dct l->s'.heap.DictOf (intKind ag w) s.heap.objs.size kvs->G.RepD s'.heap (fun a=>V a\/a=s.heap.objs.size) l kvs->Kp s s'->Q (.ref s.heap.objs.size) s') :
  wpAny (model ag w) A (eval (.Dict ks vs pos) env) Q EF s:=by
 have h:gd (decide (ks.length=vs.length) && decide (ks.length<=8)) (dv (fun a b=>(cj (a.zip b) []).map PV.dct) (dK (GE (ev o n sc σ)) ks) (dK (ev o n sc σ) vs))=some p:=h;refine iC h fun hc h=>b8 h fun a b ha hb h=>?_;refine xA (iq hc) ?_;intro hl hlen;have hl:=of_decide_eq_true hl;have hlen:=of_decide_eq_true hlen;obtain ⟨res,hres,hp⟩:∃ res,cj (a.zip b) []=some res/\p=.dct res:=lk (C:=fun p=>∃ res,cj (a.zip b) []=some res/\p=.dct res) h fun res hres=>⟨res,hres,rfl⟩;by_cases e0:ks=[]
 ·subst e0
  have:vs=[]:=mJ.mp hl.symm
  subst this;rw [bH ha] at hres;have hres:=bH (show some []=some res from hres);exact wpAny_Dict_empty (hQ [] [] { s with heap:=s.heap.push { cls:=.type "dict",data:=.dict #[] } } (hres ▸ hp) (Heap.DictOf.new _) trivial (dU (tk:=s.toks)))
 ·refine wpAny_Dict_walk (knd:=intKind ag w) (Ar rfl ha) hl e0 (by clear hQ O h;lia) ?_
  have O':=O.push (o:={ cls:=.type "dict",data:=.dict #[] }) rfl;refine cK (wg S hr ha hb hl O') fun us aG q=>?_;refine bO (w3 q.1 q.2.1 (kvs:=[]) (acc:=[]) trivial hres) ?_;intro more c rd;have hD:aG.heap.DictOf (intKind ag w) s.heap.objs.size []:=fU (V:=fun J=>False) q.2.2.heap id (Heap.DictOf.new s.heap);refine ⟨more,c,hD,fun h' hd sb=>hQ res _ _ hp hd (RepD.keep (fun b o n e=>sb.extBut b o (fun q=>n (.inr q)) e) (fun J J x=>x) rd) ⟨fun b o J e=>?_,q.2.2.os,q.2.2.gens⟩⟩;exact sb.extBut b o (a6 (aV e)) (q.2.2.keep _ _ (au _ e))
theorem Cq (S:iE G o r n) {op:BoolOp}{es:List Expr}{pos:Pos}{p:PV} (hr:bz A (n+1+r)) (h:evB o (n+1) sc σ op es=some p) (O:c3 G env sc σ V H s) :
  wpAny (model ag w) A (boolOp pos op (evalEach es env)) (b4 G V s p) EF s:=by
 have hr':bz A (n+r):=hr.le (by exact pn [_,_] 0x0DA1A180A10)
 cases es with
 | nil=>exact nn h
 | cons x rs=>cases rs with
  | nil=>exact S.ev hr' h O
  | cons y rs=>
   refine cu (x:=ev o n sc σ x) (f:=fun v=>(iy v).bind fun t=>if (t == Fc op)=true then evB o n sc σ op (y::rs) else some (.bool t)) h fun v hv h=>cu h fun t ht h=>?_;show wpAny _ _ (do
    let v <- eval x env
    standAt pos
    let t <- holding [v] (truthy v)
    match op,t with
    | .And,false | .Or,true=>pure v
    | _,_=>boolOp pos op (evalEach (y::rs) env)) _ _ _
   refine wpAny_bind (cK (S.ev hr' hv O) fun v aG q=>?_);rw [C8 ht q.1];refine wpAny_bind (wpAny_standAt (wpAny_bind (wpAny_holding (wpAny_truthy_bool ?_))))
   cases op with
   | And=>cases t with
    | true=>exact cz q.2 (S.evB hr' h (O.kp q.2))
    | false=>rw [bH (show some (PV.bool false)=some p from h)];exact wpAny_pure ⟨cY.mpr rfl,q.2⟩
   | Or=>cases t with
    | false=>exact cz q.2 (S.evB hr' h (O.kp q.2))
    | true=>rw [bH (show some (PV.bool true)=some p from h)];exact wpAny_pure ⟨cY.mpr rfl,q.2⟩
theorem A1 (S:iE G o r n) {e:Option Expr}{k:Option Int} (hr:bz A (n+1+r)) (h:evO o (n+1) sc σ e=some k) (O:c3 G env sc σ V H s) :
  wpAny (model ag w) A (valueOrNone (evalOpt e env)) (fun v s'=>IsPart v k/\Kp s s') EF s:=by
 cases e with
 | none=>rw [bH (show some none=some k from h)];exact wpAny_pure ⟨.none,cS.refl _ _⟩
 | some e=>
  refine cu (x:=ev o n sc σ e) (f:=fun v=>(cq v).map some) h fun v hv h=>cK (S.ev (hr.le (by exact pn [_,_] 0x0DA1A180A10)) hv O) fun v aG q=>⟨?_,q.2⟩;refine lk (C:=fun k=>IsPart v k) h fun i hi=>?_;refine xE (jX hi q.1) ?_;rintro t rfl;exact .int _ _
theorem AL (OO:gE G o r) (S:iE G o r n) {e:Expr}{p:PV} (hr:bz A (n+1+r)) (h:evP o (n+1) sc σ e=some p) (O:c3 G env sc σ V H s) :
  wpAny (model ag w) A (eval e env) (fun v s'=>d8 G s'.heap V p v/\Kp s s') EF s:=by
 have gen:ev o n sc σ e=some p->wpAny (model ag w) A (eval e env) (fun v s'=>d8 G s'.heap V p v/\Kp s s') EF s:=
  fun h=>cK (S.ev (hr.le (by exact pn [_,_] 0x0DA1A180A10)) h O) fun J J q=>⟨.inl q.1,q.2⟩
 have h:(match dZ e with
  | some x=>(match σ.lookup x with
    | some q=>gd (dl x) (some q.2)
    | none=>ev o n sc σ e)
  | none=>ev o n sc σ e)=some p:=h
 cases hx:dZ e with
 | none=>rw [hx] at h;exact gen h
 | some x=>
  have h:(match σ.lookup x with
    | some q=>gd (dl x) (some q.2)
    | none=>ev o n sc σ e)=some p:=by rw [hx] at h;exact h
  cases hs:σ.lookup x with
  | none=>rw [hs] at h;exact gen h
  | some q=>
   rw [hs] at h;obtain ⟨b,u⟩:=q;refine iC h fun ho h=>?_;refine xE (cE hx) ?_;intro qp he;refine bO (O.vars _ _ _ hs) ?_;intro v hv hok;rw [bH h,he];exact lV O.kind ho hv ⟨hok.peek,cS.refl _ _⟩
noncomputable def Ia (ag:Program) (w:World) (A:Around) (s:Shared) (env:Env) (e:Expr) (b:Bool):Prop:=wpAny (model ag w) A (isTrue e env (eval e env)) (fun c s'=>c=b/\Kp s s') EF s
noncomputable def Bz:Expr->Bool
 | .Compare ..=>true
 | _=>false
theorem Db {e:Expr} (h:Bz e=true):∃ l ops rs p,e=.Compare l ops rs p:=by
 cases e<;>first | exact ⟨_,_,_,_,rfl⟩ | exact nomatch (show false=true from h)
theorem xD {e:Expr} (h:xf e=.val) (hc:Bz e=false) (t:Sem Value):isTrue e env t=(do let v <- t;standAt e.pos;holding [v] (truthy v)):=by
 cases e with
 | UnaryOp op x p=>cases op with
  | Not=>exact nomatch (show TK.not x=TK.val from h)
  | _=>rfl
 | BoolOp op es p=>cases op with
  | And=>exact nomatch (show TK.all es=TK.val from h)
  | Or=>exact nomatch (show TK.any es=TK.val from h)
 | IfExp a b c d=>exact nomatch (show TK.no=TK.val from h)
 | Compare a b c d=>exact nomatch (show true=false from hc)
 | _=>rfl
theorem Gf {e x:Expr} (h:xf e=.not x):∃ p,e=.UnaryOp .Not x p:=by
 cases e with
 | UnaryOp op y p=>cases op with
  | Not=>injection (show TK.not y=TK.not x from h) with h;exact ⟨p,by rw [h]⟩
  | _=>exact nomatch (show TK.val=TK.not x from h)
 | BoolOp op es p=>cases op<;>nomatch h
 | IfExp a b c d=>nomatch h
 | _=>exact nomatch (show TK.val=TK.not x from h)
theorem FU {e:Expr}{es:List Expr} (h:xf e=.all es):∃ p,e=.BoolOp .And es p:=by
 cases e with
 | BoolOp op y p=>cases op with
  | And=>injection (show TK.all y=TK.all es from h) with h;exact ⟨p,by rw [h]⟩
  | Or=>nomatch h
 | UnaryOp op y p=>cases op<;>nomatch h
 | IfExp a b c d=>nomatch h
 | _=>exact nomatch (show TK.val=TK.all es from h)
theorem FP {e:Expr}{es:List Expr} (h:xf e=.any es):∃ p,e=.BoolOp .Or es p:=by
 cases e with
 | BoolOp op y p=>cases op with
  | Or=>injection (show TK.any y=TK.any es from h) with h;exact ⟨p,by rw [h]⟩
  | And=>nomatch h
 | UnaryOp op y p=>cases op<;>nomatch h
 | IfExp a b c d=>nomatch h
 | _=>exact nomatch (show TK.val=TK.any es from h)
theorem Bk (S:iE G o r n) {l rt:Expr}{op:CmpOp}{pos:Pos}{b:Bool} (hr:bz A (n+r)) (h:ev o n sc σ (.Compare l [op] [rt] pos)=some (.bool b)) (O:c3 G env sc σ V H s):Ia ag w A s env (.Compare l [op] [rt] pos) b:=by
 refine ir (S.evC hr h O) ?_;intro h1 _ h2;refine wpAny_isTrue_Compare1 (cK h2 fun a aG kj=>cK kj fun b aX lP=>cK lP fun c cJ q=>?_) h1;rw [cY.mp q.1];exact wpAny_truthy_bool ⟨rfl,q.2⟩
theorem CQ (S:iE G o r n) {e:Expr}{b:Bool} (hr:bz A (n+1+r)) (h:evT o (n+1) sc σ e=some b) (O:c3 G env sc σ V H s):Ia ag w A s env e b:=by
 have hr':bz A (n+r):=hr.le (by exact pn [_,_] 0x0DA1A180A10);have h:(match xf e with
  | .not x=>(evT o n sc σ x).map (!·)
  | .all es=>evAnd o n sc σ es
  | .any es=>evOr o n sc σ es
  | .no=>none
  | .val=>(ev o n sc σ e).bind iy)=some b:=h
 cases hk:xf e with
 | not x=>
  rw [hk] at h;refine xE (Gf hk) ?_;intro p he;rw [he];exact lk (C:=Ia ag w A s env _) h fun c hc=>wpAny_isTrue_Not (cK (S.evT hr' hc O) fun J J q=>⟨by rw [q.1],q.2⟩)
 | all es=>
  rw [hk] at h;refine xE (FU hk) ?_;intro p he;rw [he];exact wpAny_isTrue_BoolOp (S.evAnd hr' h O)
 | any es=>
  rw [hk] at h;refine xE (FP hk) ?_;intro p he;rw [he];exact wpAny_isTrue_BoolOp (S.evOr hr' h O)
 | no=>rw [hk] at h;exact nn h
 | val=>
  rw [hk] at h;refine cu h fun v ht h2=>?_;clear h;by_cases hc:Bz e=true
  ·obtain ⟨l,ops,rs,p,he⟩:=Db hc
   subst he;have hv:=j0 h2;subst hv
   cases n with
   | zero=>exact nn ht
   | succ m=>
    refine b8 (f:=fun op r=>(ev o m sc σ l).bind fun a=>D1 (dW o sc σ r) m op a (evP o m sc σ r) (ev o m sc σ r)) ht fun op rt h1 h2 J=>?_;have e1:=gu h1;have e2:=gu h2;subst e1;subst e2;exact Bk S hr' ht O
  ·refine wpAny_isTrue_value (cK (S.ev hr' ht O) fun v aG q=>?_) (xD hk (Bool.eq_false_iff.mpr hc) _)
   rw [C8 h2 q.1];exact wpAny_truthy_bool ⟨rfl,q.2⟩
theorem yd (S:iE G o r n) {es:List Expr}{b:Bool} (hr:bz A (n+1+r)) (h:evAnd o (n+1) sc σ es=some b) (O:c3 G env sc σ V H s) :
  wpAny (model ag w) A (allTrue .And es env) (fun c s'=>c=b/\Kp s s') EF s:=by
 have hr':bz A (n+r):=hr.le (by exact pn [_,_] 0x0DA1A180A10)
 cases es with
 | nil=>rw [bH (show some true=some b from h)];exact wpAny_allTrue_And_nil ⟨rfl,cS.refl _ _⟩
 | cons e es=>
  refine cu (x:=evT o n sc σ e) (f:=fun b=>if b=true then evAnd o n sc σ es else some false) h fun t ht h=>wpAny_allTrue_And_cons (cK (S.evT hr' ht O) fun c aG q=>?_);rw [q.1]
  cases t with
  | true=>exact cK (S.evAnd hr' h (O.kp q.2)) fun J J g=>⟨g.1,q.2.trans g.2⟩
  | false=>rw [bH (show some false=some b from h)];exact ⟨rfl,q.2⟩
theorem z4 (S:iE G o r n) {es:List Expr}{b:Bool} (hr:bz A (n+1+r)) (h:evOr o (n+1) sc σ es=some b) (O:c3 G env sc σ V H s) :
  wpAny (model ag w) A (allTrue .Or es env) (fun c s'=>c=b/\Kp s s') EF s:=by
 have hr':bz A (n+r):=hr.le (by exact pn [_,_] 0x0DA1A180A10)
 cases es with
 | nil=>rw [bH (show some false=some b from h)];exact wpAny_allTrue_Or_nil ⟨rfl,cS.refl _ _⟩
 | cons e es=>
  refine cu (x:=evT o n sc σ e) (f:=fun b=>if b=true then some true else evOr o n sc σ es) h fun t ht h=>wpAny_allTrue_Or_cons (cK (S.evT hr' ht O) fun c aG q=>?_);rw [q.1]
  cases t with
  | false=>exact cK (S.evOr hr' h (O.kp q.2)) fun J J g=>⟨g.1,q.2.trans g.2⟩
  | true=>rw [bH (show some true=some b from h)];exact ⟨rfl,q.2⟩
end
end Mine
end
section
namespace Mine
section
variable {A:Around}{s:Shared}{V H:Addr->Prop}{env:Env}{sc:Sc}{σ:SE}
theorem eu {x y:Str}{v:Bool×PV}:∀ {σ:SE},(SE.put σ x v).lookup y=if y=x then some v else σ.lookup y
 | []=>by
  unfold SE.put;rw [aP];by_cases h:y=x
  ·subst h;simp
  ·rw [beq_eq_false_iff_ne.mpr h,if_neg h]
 | (z,u)::r=>by
  unfold SE.put;by_cases hz:z=x
  ·subst hz
   rw [if_pos (by simp)];rw [aP,aP];by_cases h:y=z
   ·subst h;simp
   ·rw [beq_eq_false_iff_ne.mpr h,if_neg h]
  ·rw [if_neg (by simpa using hz),aP,aP,eu (σ:=r)]
   by_cases h:y=z
   ·subst h;simp [hz]
   ·rw [beq_eq_false_iff_ne.mpr h]
theorem Br {h:Heap}{a:Addr}{m m':Str->Option Value} (x:h.Ns a m) (y:h.Ns a m'):m=m':=by
 refine tM x ?_;clear x;intro o es ep ho hd _ hm;refine tM y ?_;clear y;intro o' es' ep' ho' hd' _ hm';rw [ho] at ho';cases ho';rw [hd] at hd';cases hd';funext n;rw [<- hm n,<- hm' n]
noncomputable def lm (env:Env) (sc:Sc) (a:Addr):Prop:=a=env.locals\/(∃ x,sc.lookup x=some .cell/\env.cells.lookup x=some a)
noncomputable def ki (env:Env) (sc:Sc) (H:Addr->Prop) (a:Addr):Prop:=lm env sc a\/H a
structure d6 (G:GX ag w) (env:Env) (sc:Sc) (σ:SE) (V H:Addr->Prop) (s:Shared):Prop where
 ev:c3 G env sc σ V H s
 vl:V env.locals
 vc:∀ x c,sc.lookup x=some .cell->env.cells.lookup x=some c->V c
 nl:∀ x c,env.cells.lookup x=some c->c≠env.locals
 nc:∀ x y c,sc.lookup x=some .cell->env.cells.lookup x=some c->env.cells.lookup y=some c->y=x
 hl:¬ H env.locals
 hc:∀ x c,sc.lookup x=some .cell->env.cells.lookup x=some c->¬ H c
 kc:∀ x,sc.lookup x=some .cell->env.kindOf x=some .cell
theorem d6.loc {a:Addr} (T:d6 G env sc σ V H s) (o:lm env sc a):V a:=by
 rcases o with rfl | ⟨x,h1,h2⟩
 ·exact T.vl
 ·exact T.vc x a h1 h2
theorem d6.own {a:Addr} (T:d6 G env sc σ V H s) (hv:∀ a,H a->V a) (o:ki env sc H a):V a:=o.elim T.loc (hv a)
theorem ki.held {a:Addr} (o:ki env sc H a):fD env H a:=by
 rcases o with (rfl | ⟨x,h1,h2⟩) | h
 ·exact .loc
 ·exact .cell h2
 ·exact .own h
theorem d6.kp {s':Shared} (T:d6 G env sc σ V H s) (k:Kp s s'):d6 G env sc σ V H s':=⟨T.ev.kp k,T.vl,T.vc,T.nl,T.nc,T.hl,T.hc,T.kc⟩
theorem d6.sub {aI:SE} (T:d6 G env sc σ V H s) (h:∀ x q,aI.lookup x=some q->σ.lookup x=some q):d6 G env sc aI V H s:=
 ⟨{ T.ev with vars:=fun x b p e=>T.ev.vars x b p (h x _ e) },T.vl,T.vc,T.nl,T.nc,T.hl,T.hc,T.kc⟩
theorem d6.grow {N M:Addr->Prop}{s':Shared} (T:d6 G env sc σ V H s) (k:Kp s s') (hN:∀ a,N a->s.heap.get? a=none/\s'.heap.get? a≠none) (hM:∀ a,M a->s.heap.get? a=none/\s'.heap.get? a≠none):d6 G env sc σ (fun a=>V a\/M a) (fun a=>H a\/N a) s':=by
 have base:=T.ev.base.kp k;have held:∀ a,fD env (fun a=>H a\/N a) a->fD env H a\/N a:=fun a h=>by
  rcases h with h | h | h | h
  ·exact .inl (.inl h)
  ·exact .inl (.inr (.inl h))
  ·exact .inl (.inr (.inr h))
  ·exact .inr h
 have grow:∀ a,s.heap.get? a≠none->(V a\/M a)->V a:=fun a e q=>q.elim id fun q=>absurd (hM a q).1 e;refine ⟨⟨base,T.ev.kind,T.ev.gl,T.ev.bi,?_,T.ev.glob,T.ev.loc,?_,?_,?_,?_,?_⟩,.inl T.vl,fun x c h1 h2=>.inl (T.vc x c h1 h2),T.nl,T.nc,?_,?_,T.kc⟩
 ·refine xE T.ev.ns ?_;intro m h;exact ⟨m,h.at' fun o e=>k.keep _ _ e⟩
 ·exact fun x e=>let ⟨a,c,hc,v,o,ho,hd⟩:=T.ev.cel x e;⟨a,c,hc,v,o,k.keep _ _ ho,hd⟩
 ·intro x b p e
  refine bO (T.ev.vars x b p e) ?_;intro v hv hs;refine ⟨v,hv.keep (H:=H) fun a o J e=>k.keep _ _ e,?_⟩
  cases b with
  | true=>
   have q:js G s'.heap (fun a=>V a\/M a) H p v:=js.keep (fun b o J e=>k.keep _ _ e) (fun a o J e=>k.keep _ _ e) grow hs;show js G s'.heap _ _ p v
   cases p with
   | lst l=>refine fw q ?_;clear q;intro a e n r;exact ⟨a,e,.inl n,r⟩
   | dct l=>refine fw q ?_;clear q;intro a e n r;exact ⟨a,e,.inl n,r⟩
   | obj c fs=>refine kF q ?_;clear q;intro a C d es ep e n q nd r;exact ⟨a,C,d,es,ep,e,.inl n,q,.inl nd,r⟩
   | _=>exact q.elim
  | false=>exact Rep.keep (fun b o J e=>k.keep _ _ e) grow hs
 ·intro a h
  rcases held a h with h | h
  ·exact T.ev.hnb a h
  ·cases e:G.base.get? a with
   | none=>rfl
   | some o=>have:=T.ev.base a o e;rw [(hN a h).1] at this;cases this
 ·intro a h
  rcases held a h with h | h
  ·intro q;exact T.ev.hex a h (k.none q)
  ·exact (hN a h).2
 ·intro a h
  rcases h with h | h
  ·exact T.ev.low.kp k a h
  ·exact (hM a h).2
 ·rintro (h | h)
  ·exact T.hl h
  ·exact T.ev.hex _ .loc (hN _ h).1
 ·rintro x c e' e (h | h)
  ·exact T.hc x c e' e h
  ·exact T.ev.hex c (.cell e) (hN _ h).1
theorem Ig {s s':Shared}{a:Addr} (o:lm env sc a) (sb:dk a s.heap s'.heap) (os:s'.os=s.os) (g:s'.gens=s.gens):cS (lm env sc) s s':=
 ⟨fun b ob n e=>sb.extBut b ob (fun q=>n (q ▸ o)) e,os,fun x=>by rw [g];exact x⟩
theorem d6.changed {aI:SE}{s':Shared} (T:d6 G env sc σ V H s) (k:cS (ki env sc H) s s') (ns:∃ m,s'.heap.Ns env.locals m) (cel:∀ x c,env.cells.lookup x=some c->(∃ v,s.heap.IsCell c v)->∃ v,s'.heap.IsCell c v)
  (hex:∀ a,H a->s'.heap.get? a≠none) (vars:∀ x b p,aI.lookup x=some (b,p)->∃ v,dz env s'.heap x v/\jo G s'.heap V H b p v):d6 G env sc aI V H s':=by
 have kb:∀ a o,¬ ki env sc H a->s.heap.get? a=some o->s'.heap.get? a=some o:=fun a o n e=>k.heap a o n e;have ex:∀ a,s.heap.get? a≠none->s'.heap.get? a≠none:=fun a e=>by
  by_cases q:ki env sc H a
  ·rcases q with (rfl | ⟨x,h1,h2⟩) | h
   ·refine xM ns ?_;clear ns;intro m o _ _ ho _;rw [ho];simp
   ·obtain ⟨_,c,hc,v,o,ho,hd⟩:=T.ev.cel x (.inl h1)
    rw [h2] at hc;cases hc;refine jw (cel x a h2 ⟨v,o,ho,hd⟩) ?_;intro v' o' ho' _;rw [ho'];simp
   ·exact hex a h
  ·cases g:s.heap.get? a with
   | none=>exact absurd g e
   | some o=>rw [kb a o q g];simp
 refine ⟨⟨?_,T.ev.kind,T.ev.gl,T.ev.bi,ns,T.ev.glob,T.ev.loc,?_,vars,T.ev.hnb,fun a h=>ex a (T.ev.hex a h),fun a h=>ex a (T.ev.low a h)⟩,T.vl,T.vc,T.nl,T.nc,T.hl,T.hc,T.kc⟩
 ·intro a o e
  refine kb a o (fun q=>?_) (T.ev.base a o e);rw [T.ev.hnb a q.held] at e;cases e
 ·intro x e
  refine CX (T.ev.cel x e) ?_;intro h1 c hc v hcell;exact ⟨h1,c,hc,cel x c hc ⟨v,hcell⟩⟩
theorem qO {x:Str}{b:Bool}{p:PV}{v:Value} (T:d6 G env sc σ V H s) (hm:bh sc x=true) (r:jo G s.heap V H b p v) :
  wpAny (model ag w) A (storeName env x v) (fun J s'=>(d6 G env sc (SE.put σ x (b,p)) V H s'/\cS (lm env sc) s s')/\dz env s'.heap x v/\∀ y u,y≠x->dz env s.heap y u->dz env s'.heap y u) EF s:=by
 unfold bh at hm;simp only [aR,dF,beq_iff_eq] at hm;refine xA hm ?_;clear hm;intro hx hm;have finish:∀ (a:Addr) (s':Shared),lm env sc a->¬ H a->dk a s.heap s'.heap->s'.os=s.os->s'.gens=s.gens->(∃ m,s'.heap.Ns env.locals m)->(∀ x c,env.cells.lookup x=some c->(∃ v,s.heap.IsCell c v)->∃ v,s'.heap.IsCell c v) ->
   dz env s'.heap x v->(∀ y u,y≠x->dz env s.heap y u->dz env s'.heap y u)->(d6 G env sc (SE.put σ x (b,p)) V H s'/\cS (lm env sc) s s')/\dz env s'.heap x v/\∀ y u,y≠x->dz env s.heap y u->dz env s'.heap y u:=by
  intro a s' oa nH sb os g ns cel vx vy;have k:=Ig oa sb os g;have hkeep:bU V s.heap s'.heap:=fun c o n e=>k.heap c o (fun q=>n (T.loc q)) e;have kH:∀ c o,H c->s.heap.get? c=some o->s'.heap.get? c=some o:=fun c o h e=>sb.extBut c o (fun q=>nH (q ▸ h)) e;have slot:∀ {b:Bool}{p:PV}{v:Value},jo G s.heap V H b p v->jo G s'.heap V H b p v:=by
   intro b p v q
   cases b with
   | true=>exact js.keep hkeep kH (fun J J x=>x) q
   | false=>exact Rep.keep hkeep (fun J J x=>x) q
  refine ⟨⟨T.changed (k.mono fun J q=>.inl q) ns cel (fun c h=>?_) fun y b' p' e=>?_,k⟩,vx,vy⟩
  ·cases e:s.heap.get? c with
   | none=>exact absurd e (T.ev.hex c (.own h))
   | some o=>rw [kH c o h e];simp
  ·rw [eu] at e
   by_cases q:y=x
   ·rw [if_pos q] at e;cases e;rw [q];exact ⟨v,vx,slot r⟩
   ·rw [if_neg q] at e
    refine bO (T.ev.vars y b' p' e) ?_;intro u hu hs;exact ⟨u,vy y u q hu,slot hs⟩
 rcases hm with hl | hc
 ·have hk:=T.ev.loc x hl
  refine xE T.ev.ns ?_;intro m hn;refine wpAny_storeName_local hk hn (fun h' hn' sb=>finish env.locals _ (.inl rfl) T.hl sb rfl rfl ⟨_,hn'⟩ (fun y c e ⟨u,q⟩=>⟨u,q.sameBut sb (T.nl y c e)⟩) (.inl ⟨hk,_,hn',by simp⟩) fun y u ne hy=>?_) (by rw [T.ev.kind];rfl);rcases hy with ⟨a,m',hm',e⟩ | ⟨a,c,hc,hd⟩
  ·refine .inl ⟨a,_,hn',?_⟩
   rw [if_neg ne];rw [<- e];exact congrFun (Br hn hm') y
  ·exact .inr ⟨a,c,hc,hd.sameBut sb (T.nl y c hc)⟩
 ·have hk:=T.kc x hc
  refine CX (T.ev.cel x (.inl hc)) ?_;intro _ c hcx v0 hcell;refine wpAny_storeName_cell T.ev.kind hk hcx hcell fun h' hc' sb=>finish c _ (.inr ⟨x,hc,hcx⟩) (T.hc x c hc hcx) sb rfl rfl ?_ (fun y c' e ⟨u,q⟩=>?_) (.inr ⟨.inl hk,c,hcx,hc'⟩) fun y u ne hy=>?_
  ·refine xE T.ev.ns ?_;intro m hn;exact ⟨m,hn.sameBut sb (Ne.symm (T.nl x c hcx))⟩
  ·by_cases q':c'=c
   ·subst q';exact ⟨_,hc'⟩
   ·exact ⟨u,q.sameBut sb q'⟩
  ·rcases hy with ⟨a,m',hm',e⟩ | ⟨a,c',hc2,hd⟩
   ·exact .inl ⟨a,m',hm'.sameBut sb (Ne.symm (T.nl x c hcx)),e⟩
   ·exact .inr ⟨a,c',hc2,hd.sameBut sb fun q=>ne (T.nc x y c hc hcx (q ▸ hc2))⟩
theorem uT {x:Str}{b:Bool}{p:PV}{v:Value} (T:d6 G env sc σ V H s) (hm:bh sc x=true) (r:jo G s.heap V H b p v) :
  wpAny (model ag w) A (storeName env x v) (fun J s'=>d6 G env sc (SE.put σ x (b,p)) V H s'/\cS (lm env sc) s s') EF s:=wpAny_mono (qO T hm r) (fun J J g=>g.1) fun J J x=>x
theorem cS.loc {s s':Shared} (k:cS (lm env sc) s s') (T:d6 G env sc σ V H s):bU V s.heap s'.heap:=fun c o n e=>k.heap c o (fun q=>n (T.loc q)) e
theorem qH {x:Str}{pos:Pos}{b:Bool}{p:PV}{v:Value} (T:d6 G env sc σ V H s) (hm:bh sc x=true) (r:jo G s.heap V H b p v) :
  wpAny (model ag w) A (assign (.Name x pos) env v) (fun J s'=>d6 G env sc (SE.put σ x (b,p)) V H s'/\cS (lm env sc) s s') EF s:=
 wpAny_assign_Name (uT T hm r)
theorem mQ:∀ {ts:List Expr}{xs:List Str},c8 ts=some xs->(assignEach ts env).findIdx? (·.1)=none/\(assignEach ts env).length=xs.length:=fun {ts}=>by
 induction ts with
 | nil=>intro xs h;rw [bH h];exact ⟨rfl,rfl⟩
 | cons t ts ih=>
  intro xs h;refine b8 h fun x ys hx hys h3=>?_;refine xE (cE hx) ?_;rintro q rfl;refine xA (ih hys) ?_;intro h1 h2;rw [bH h3];show (((false,assign (.Name x q) env)::assignEach ts env).findIdx? (·.1)=none/\_=_);rw [List.findIdx?_cons,if_neg (by simp),h1];exact ⟨rfl,congrArg gF h2⟩
theorem rh:∀ {xs:List Str}{ps:List PV}{σ aI:SE},dn sc xs ps σ=some aI->xs.length=ps.length:=fun {xs}=>by
 induction xs with
 | nil=>intro ps σ aI h;exact iC h fun hp J=>by rw [dQ hp];rfl
 | cons x xs ih=>
  intro ps σ aI h
  cases ps with
  | nil=>exact nn h
  | cons p ps=>exact fh h fun J h=>congrArg gF (ih h)
theorem yh:∀ {ts:List Expr}{xs:List Str}{ps:List PV}{vs:List Value}{σ aI:SE}{s:Shared},c8 ts=some xs->dn sc xs ps σ=some aI->d6 G env sc σ V H s->G.RepL s.heap V ps vs ->
  wpAny (model ag w) A (assignInOrder ((assignEach ts env).map (·.2)) vs) (fun J s'=>d6 G env sc aI V H s'/\cS (lm env sc) s s') EF s:=fun {ts}=>by
 induction ts with
 | nil=>
  intro xs ps vs σ aI s hn hb T r;rw [bH hn] at hb;refine iC hb fun hp hb=>?_;rw [dQ hp] at r
  cases vs with
  | cons v vs=>exact False.elim r
  | nil=>rw [bH hb];exact wpAny_assignInOrder_none ⟨T,cS.refl _ _⟩
 | cons t ts ih=>
  intro xs ps vs σ aI s hn hb T r;refine b8 hn fun x ys hx hys h3=>?_;refine xE (cE hx) ?_;rintro q rfl;rw [bH h3] at hb
  cases ps with
  | nil=>exact nn hb
  | cons p ps=>
   refine fh hb fun hm hb=>?_
   cases vs with
   | nil=>exact False.elim r
   | cons v vs=>
    refine wpAny_assignInOrder_more (cK (qH T hm (b:=false) r.1) fun J aG g=>?_);exact cK (ih hys hb g.1 (RepL.keep (g.2.loc T) (fun J J x=>x) r.2)) fun J J g'=>⟨g'.1,g.2.trans g'.2⟩
theorem xd {t:Expr}{p:PV}{aI:SE}{C:Prop} (hb:bindT sc t p σ=some aI) (k1:∀ x q,t=.Name x q->bh sc x=true->aI=SE.put σ x (false,p)->C)
  (k2:∀ ts k q xs vs,t=.Tuple ts k q->c8 ts=some xs->p=.tup vs->dn sc xs vs σ=some aI->C):C:=by
 unfold bindT at hb
 cases hx:dZ t with
 | some x=>
  rw [hx] at hb;refine xE (cE hx) ?_;intro q e;exact fh hb fun hm hb=>k1 x q e hm (bH hb)
 | none=>
  rw [hx] at hb;refine b8 hb fun xs vs h1 h2 hb=>cu h1 fun ts h3 h4=>fh hb fun J hb=>?_;refine AE (lX h3) ?_;intro k q e;exact k2 ts k q xs vs e h4 (nR h2) hb
theorem vO {t:Expr}{p:PV}{v:Value}{aI:SE} (hh:A.handled=none) (T:d6 G env sc σ V H s) (hb:bindT sc t p σ=some aI) (r:G.Rep s.heap V p v) :
  wpAny (model ag w) A (assign t env v) (fun J s'=>d6 G env sc aI V H s'/\cS (lm env sc) s s') EF s:=by
 refine xd hb (fun x q e hm h=>?_) fun ts k q xs vs e hxs hp hb=>?_
 ·rw [e,h];exact qH T hm r
 ·rw [e]
  refine bG (fN.mp (hp ▸ r)) ?_;rintro a rfl nV us ht ru;have ec:=mQ (env:=env) hxs;refine wpAny_assign_Tuple hh ht (by rw [ec.2,rh hb,RepL.length ru];rfl) ec.1 fun h' eb=>?_;have k:Kp s { s with heap:=h' }:=Kp.of (tk:=s.toks) fun b o e=>eb b o (a6 (aV e)) e
  exact cK (yh hxs hb (T.kp k) (vs:=us) (pS k ru)) fun J J g=>⟨g.1,(k.toU _).trans g.2⟩
end
end Mine
end
section
namespace Mine
section
variable {A:Around}{s:Shared}{V H:Addr->Prop}{env:Env}{sc:Sc}{σ:SE}
theorem cW:∀ (names:List (Str×NameKind)) (n:Nat) (acc:List (Str×Addr)),cellsFrom n names acc=cellsFrom n names []++acc
 | [],_,_=>rfl
 | (x,k)::r,n,acc=>by
  unfold cellsFrom;split
  ·rw [cW r (n+1) ((x,n)::acc),cW r (n+1) [(x,n)],bp];rfl
  ·exact cW r n acc
set_option tactic.hygienic true in
theorem hJ:∀ {names:List (Str×NameKind)}{n:Nat}{x:Str}{c:Addr},(x,c)∈cellsFrom n names []->(x,NameKind.cell)∈names
 | (y,k)::r,n,x,c,h=>by
  unfold cellsFrom at h;split at h
  ·rename_i hk
   rw [cW] at h;rcases aM.mp h with h | h
   ·exact .tail _ (hJ h)
   ·rw [ae] at h;cases h
    rw [show k=.cell by simpa using hk];exact .head _
  ·exact .tail _ (hJ h)
theorem kG {α:Type}{x:Str}:∀ {l m:List (Str×α)},(l++m).lookup x=match l.lookup x with | some a=>some a | none=>m.lookup x
 | [],m=>rfl
 | (y,a)::l,m=>by
  rw [ga,aP,aP]
  cases x == y with
  | true=>rfl
  | false=>exact kG
theorem kE {α:Type}{x:Str}{a:α}:∀ {l:List (Str×α)},(x,a)∈l->∃ b,l.lookup x=some b
 | (y,b)::l,h=>by
  rw [aP]
  cases e:x == y with
  | true=>exact ⟨_,rfl⟩
  | false=>
   rcases ar.mp h with h | h
   ·cases h;rw [beq_self_eq_true] at e;cases e
   ·exact kE h
theorem fH:∀ {names:List (Str×NameKind)}{n:Nat}{x:Str},(x,NameKind.cell)∈names->∃ c,(x,c)∈cellsFrom n names []
 | (y,k)::r,n,x,h=>by
  unfold cellsFrom;rcases ar.mp h with h | h
  ·cases h
   rw [if_pos (by rfl),cW];exact ⟨n,aM.mpr (.inr (.head _))⟩
  ·split
   ·rw [cW]
    refine xE (fH (n:=n+1) h) ?_;intro c hc;exact ⟨c,aM.mpr (.inl hc)⟩
   ·exact fH h
theorem gp {α:Type}{x:Str}{a:α}:∀ {l:List (Str×α)},(l.map (·.1)).Nodup->(x,a)∈l->l.lookup x=some a
 | (y,b)::l,hn,h=>by
  rw [aw,bI] at hn;rw [aP];rcases ar.mp h with h1 | h1
  ·cases h1;rw [beq_self_eq_true]
  ·have:x≠y:=by
    rintro rfl;exact hn.1 (aB.mpr ⟨(x,a),h1,rfl⟩)
   rw [beq_eq_false_iff_ne.mpr this];exact gp hn.2 h1
theorem mR {env:Env}:∀ (names:List (Str×NameKind)) (acc:List (Str×Addr)),(∀ x,(x,NameKind.free)∈names->∃ c,env.cells.lookup x=some c) ->
  ∃ cl,(forIn names acc fun x r=>(match x with | (name,kind)=>if (kind == NameKind.free)=true then (do let c <- cellOf env name;pure (ForInStep.yield ((name,c)::r))) else pure (ForInStep.yield r):Sem (ForInStep (List (Str×Addr)))))=pure cl /\
   (∀ x,(x,NameKind.free)∈names->cl.lookup x=env.cells.lookup x)/\(∀ x,(x,NameKind.free) ∉ names->cl.lookup x=acc.lookup x)
 | [],acc,_=>⟨acc,rfl,fun J h=>(nomatch h),fun J J=>rfl⟩
 | (n,k)::r,acc,h=>by
  rw [fk];by_cases hk:k=.free
  ·subst hk
   refine xE (h n (.head _)) ?_;intro c hc;refine fw (mR r ((n,c)::acc) fun x hx=>h x (.tail _ hx)) ?_;intro cl e h1 h2;refine ⟨cl,?_,fun x hx=>?_,fun x hx=>?_⟩
   ·rw [<- e]
    have:cellOf env n=pure c:=by unfold cellOf;rw [hc]
    simp only [this];rfl
   ·by_cases hr:(x,NameKind.free)∈r
    ·exact h1 x hr
    ·rcases ar.mp hx with q | q
     ·cases q;rw [h2 _ hr,aP,beq_self_eq_true,hc]
     ·exact absurd q hr
   ·rw [h2 x fun q=>hx (.tail _ q),aP]
    have:x≠n:=by rintro rfl;exact hx (.head _)
    rw [beq_eq_false_iff_ne.mpr this]
  ·refine fw (mR r acc fun x hx=>h x (.tail _ hx)) ?_;intro cl e h1 h2
   refine ⟨cl,?_,fun x hx=>?_,fun x hx=>h2 x fun q=>hx (.tail _ q)⟩
   ·rw [<- e]
    have:(k == NameKind.free)=false:=by simpa using hk
    simp only [this];rfl
   ·rcases ar.mp hx with q | q
    ·cases q;exact absurd rfl hk
    ·exact h1 x q
theorem sa {scope:Scope} (h:∀ x,(x,NameKind.free)∈scope.names->∃ c,env.cells.lookup x=some c) :
  ∃ cl,closureFor scope env=pure cl/\(∀ x,(x,NameKind.free)∈scope.names->cl.lookup x=env.cells.lookup x)/\(∀ x,(x,NameKind.free) ∉ scope.names->cl.lookup x=none):=by
 refine fw (mR (env:=env) scope.names [] h) ?_;intro cl e h1 h2;refine ⟨cl,?_,h1,fun x hx=>h2 x hx⟩;unfold closureFor;simp only [];rw [<- e];simp only [bind_pure]
theorem DV {M:Model}{E:Value->Shared->Prop}{scope:Scope}{globals:Addr}{cl:List (Str×Addr)}{qual:Str}{outer:Env}{Q:Env->Shared->Prop}
  (h:Q { scope,locals:=s.heap.objs.size,globals,cells:=cellsFrom (s.heap.objs.size+1) scope.names cl,qual,func:=none,code:=outer.code,frame:=outer.frame,builtins:=outer.builtins }
   { s with heap:=pushCells (s.heap.push { cls:=.type "dict",data:=.dict #[] }) scope.names }) :
  wpAny M A (newFunctionEnv scope globals cl [] qual none .none (some outer)) Q E s:=by
 simp only [newFunctionEnv,Option.isSome_some,if_true];refine wpAny_bind (wpAny_alloc ?_);refine wpAny_bind (wpAny_layCells _ (fun name kind cells=>by cases kind == NameKind.cell<;>simp) _ _ _ _ ?_);rw [show ({ s with heap:=s.heap.push { cls:=.type "dict",data:=.dict #[] } }:Shared).heap.objs.size=s.heap.objs.size+1 from eW ..];exact wpAny_bind (wpAny_pure (wpAny_pure h))
theorem rn {scope:Scope}{env:Env}{x:Str}:(relabel scope env).names.lookup x=(scope.names.lookup x).map fun k=>if (k == .free && env.scope.kind == .function && env.kindOf x == some .cell) then .cell else k:=by
 show (scope.names.map fun (n,k)=>if (k == .free && env.scope.kind == .function && env.kindOf n == some .cell) then (n,.cell) else (n,k)).lookup x=_;generalize scope.names=names
 induction names with
 | nil=>rfl
 | cons p r ih=>
  obtain ⟨n,k⟩:=p;have e1:(if (k == NameKind.free && env.scope.kind == .function && env.kindOf n == some .cell)=true then (n,NameKind.cell) else (n,k))=(n,if (k == NameKind.free && env.scope.kind == .function && env.kindOf n == some .cell)=true then NameKind.cell else k):=by split<;>rfl
  show List.lookup x ((if (k == NameKind.free && env.scope.kind == .function && env.kindOf n == some .cell)=true then (n,NameKind.cell) else (n,k))::r.map _)=_;rw [e1,aP,aP];by_cases hx:x=n
  ·subst hx;simp only [beq_self_eq_true];rfl
  ·rw [beq_eq_false_iff_ne.mpr hx];exact ih
theorem kR {scope:Scope}{x:Str}{q:Bool×PV}:∀ {σ:SE},(mA scope σ).lookup x=some q->scope.names.lookup x=some .free/\∃ q',σ.lookup x=some q'/\q'=q
 | [],h=>by cases h
 | (y,u)::r,h=>by
  unfold mA at h;rw [List.filter_cons] at h;by_cases hy:(scope.names.lookup y == some .free)=true
  ·rw [if_pos hy,aP] at h
   by_cases e:x=y
   ·subst e
    rw [beq_self_eq_true] at h
    cases h
    refine ⟨beq_iff_eq.mp hy,_,?_,rfl⟩;rw [aP,beq_self_eq_true]
   ·rw [beq_eq_false_iff_ne.mpr e] at h
    rw [aP,beq_eq_false_iff_ne.mpr e];exact kR (scope:=scope) h
  ·rw [if_neg hy] at h
   refine CA (kR (scope:=scope) h) ?_;intro h1 q' h2 h3;refine ⟨h1,q',?_,h3⟩;have e:x≠y:=by rintro rfl;exact hy (by rw [h1];rfl)
   rw [aP,beq_eq_false_iff_ne.mpr e];exact h2
noncomputable def eN (scope:Scope) (env:Env) (L:Addr) (cl:List (Str×Addr)):Env:=
 { scope:=relabel scope env,locals:=L,globals:=env.globals,cells:=cellsFrom (L+1) scope.names cl,qual:=env.qual,func:=none,code:=env.code,frame:=env.frame,builtins:=env.builtins }
theorem mq {scope:Scope} (h:hZ sc scope=true):scope.kind=.function/\(scope.names.map (·.1)).Nodup /\
  (∀ x k,(x,k)∈scope.names->k=.local\/k=.cell\/k=.globalImplicit\/(k=.free/\(sc.lookup x=some .cell\/sc.lookup x=some .free))):=by
 unfold hZ at h;simp only [aR,decide_eq_true_eq,bo,beq_iff_eq] at h;refine ⟨h.1.1,h.1.2,fun x k hx=>?_⟩
 have:=h.2 (x,k) hx
 simp only [dF,aR,beq_iff_eq] at this;rcases this with ((q | q) | q) | q
 ·exact .inl q
 ·exact .inr (.inl q)
 ·exact .inr (.inr (.inl q))
 ·exact .inr (.inr (.inr q))
theorem Av {names:List (Str×NameKind)}{h:Heap} (cl:List (Str×Addr)) (hn:(names.map (·.1)).Nodup) :
  (∀ x,names.lookup x=some .cell->∃ c,(cellsFrom h.objs.size names cl).lookup x=some c/\h.objs.size<=c/\(pushCells h names).IsCell c none) /\
  (∀ x,names.lookup x≠some .cell->(cellsFrom h.objs.size names cl).lookup x=cl.lookup x) /\
  (∀ x y c,names.lookup x=some .cell->names.lookup y=some .cell->(cellsFrom h.objs.size names cl).lookup x=some c->(cellsFrom h.objs.size names cl).lookup y=some c->x=y):=by
 have ok:=cellsFrom_ok names h h.objs.size [] ⟨fun J J hm=>(nomatch hm),List.Pairwise.nil⟩ (aE _);have own:∀ x,names.lookup x=some .cell->∃ c,(cellsFrom h.objs.size names []).lookup x=some c/\(x,c)∈cellsFrom h.objs.size names []:=fun x hx=>by
  refine xE (fH (n:=h.objs.size) (mem_of_lookup hx)) ?_;intro c hc;refine xE (kE hc) ?_;intro b hb;exact ⟨b,hb,mem_of_lookup hb⟩
 have fst:∀ x,names.lookup x=some .cell->∀ c,(cellsFrom h.objs.size names cl).lookup x=some c->(x,c)∈cellsFrom h.objs.size names []:=fun x hx c e=>by
  refine bO (own x hx) ?_;intro b hb hm;rw [cW,kG,hb] at e
  cases e;exact hm
 refine ⟨fun x hx=>?_,fun x hx=>?_,fun x y c hx hy e1 e2=>name_of_addr ok.apart (fst x hx c e1) (fst y hy c e2)⟩
 ·refine bO (own x hx) ?_;intro c hc hm
  refine ⟨c,?_,(ok.empty x c hm).2,(ok.empty x c hm).1⟩;rw [cW,kG,hc]
 ·rw [cW,kG]
  cases e:(cellsFrom h.objs.size names []).lookup x with
  | none=>rfl
  | some c=>exact absurd (gp hn (hJ (mem_of_lookup e))) hx
theorem x6 {scope:Scope}{cl:List (Str×Addr)}{V':Addr->Prop} (O:c3 G env sc σ V H s) (hs:hZ sc scope=true)
  (hcl:∀ x,(x,NameKind.free)∈scope.names->cl.lookup x=env.cells.lookup x) (hcl':∀ x,(x,NameKind.free) ∉ scope.names->cl.lookup x=none)
  (gr:∀ a,s.heap.get? a≠none->V' a->V a) (up:∀ a,s.heap.objs.size<=a->(pushCells (s.heap.push { cls:=.type "dict",data:=.dict #[] }) scope.names).get? a≠none->V' a)
  (lo:kh V' (pushCells (s.heap.push { cls:=.type "dict",data:=.dict #[] }) scope.names)) :
  d6 G (eN scope env s.heap.objs.size cl) scope.names (mA scope σ) V' H { s with heap:=pushCells (s.heap.push { cls:=.type "dict",data:=.dict #[] }) scope.names } /\
  (∀ a,lm (eN scope env s.heap.objs.size cl) scope.names a->s.heap.objs.size<=a) /\
  (∀ a,fD (eN scope env s.heap.objs.size cl) H a->s.heap.objs.size<=a\/fD env H a):=by
 refine ir (mq hs) ?_;intro hk hn hall;generalize hP:s.heap.push { cls:=.type "dict",data:=.dict #[] }=P at up lo ⊢;have hsz:P.objs.size=s.heap.objs.size+1:=by rw [<- hP,eW]
 have keepP:∀ b o,s.heap.get? b=some o->P.get? b=some o:=fun b o e=>by rw [<- hP];exact au _ e
 have keep:∀ b o,s.heap.get? b=some o->(pushCells P scope.names).get? b=some o:=fun b o e=>pushCells_keeps _ _ b o (keepP b o e);have k:Kp s { s with heap:=pushCells P scope.names }:=Kp.of (tk:=s.toks) keep
 refine ir (Av (names:=scope.names) (h:=P) cl hn) ?_;intro own1 own2 own3;rw [hsz] at own1 own2 own3;have kindOf:∀ x,(eN scope env s.heap.objs.size cl).kindOf x=(scope.names.lookup x).map fun k=>if (k == .free && env.scope.kind == .function && env.kindOf x == some .cell) then .cell else k:=fun x=>rn
 have cells:∀ x,(eN scope env s.heap.objs.size cl).cells.lookup x=(cellsFrom (s.heap.objs.size+1) scope.names cl).lookup x:=fun J=>rfl;have freeCell:∀ x,scope.names.lookup x=some .free->∃ c,env.cells.lookup x=some c/\(eN scope env s.heap.objs.size cl).cells.lookup x=some c/\(env.kindOf x=some .cell\/env.kindOf x=some .free)/\∃ v,s.heap.IsCell c v:=fun x hx=>by
  have hm:=mem_of_lookup hx;have hq:sc.lookup x=some .cell\/sc.lookup x=some .free:=by
   rcases hall x _ hm with q | q | q | q
   ·cases q
   ·cases q
   ·cases q
   ·exact q.2
  refine CX (O.cel x hq) ?_;intro hk c hc v hv;refine ⟨c,hc,?_,hk,v,hv⟩;rw [cells,own2 x (by rw [hx];simp),hcl x hm,hc]
 have cellsAt:∀ x c,(eN scope env s.heap.objs.size cl).cells.lookup x=some c->(scope.names.lookup x=some .cell/\s.heap.objs.size+1<=c/\(pushCells P scope.names).IsCell c none)\/(scope.names.lookup x=some .free/\env.cells.lookup x=some c/\∃ v,s.heap.IsCell c v):=fun x c e=>by
  by_cases hx:scope.names.lookup x=some .cell
  ·refine fw (own1 x hx) ?_;intro c' h1 h2 h3
   rw [cells,h1] at e;cases e;exact .inl ⟨hx,h2,h3⟩
  ·by_cases hf:scope.names.lookup x=some .free
   ·refine Fb (freeCell x hf) ?_;intro c' h1 h2 _ h3
    rw [h2] at e;cases e;exact .inr ⟨hf,h1,h3⟩
   ·rw [cells,own2 x hx,hcl' x (fun q=>hf (gp hn q))] at e;cases e
 have kcell:∀ x,scope.names.lookup x=some .cell->(eN scope env s.heap.objs.size cl).kindOf x=some .cell:=fun x hx=>by
  rw [kindOf,hx];rfl
 have kfree:∀ x,scope.names.lookup x=some .free->(eN scope env s.heap.objs.size cl).kindOf x=some .cell\/(eN scope env s.heap.objs.size cl).kindOf x=some .free:=fun x hx=>by
  rw [kindOf,hx];show some (if _ then NameKind.cell else NameKind.free)=_\/some (if _ then NameKind.cell else NameKind.free)=_;split
  ·exact .inl rfl
  ·exact .inr rfl
 have hL:(pushCells P scope.names).Ns s.heap.objs.size (fun J=>none):=by
  have:P.Ns s.heap.objs.size (fun J=>none):=by rw [<- hP];exact Heap.Ns.new s.heap (.type "dict")
  exact this.keeps (pushCells_keeps _ _)
 have lt_of:∀ c v,s.heap.IsCell c v->c < s.heap.objs.size:=fun c v h=>h.lt;have exs:∀ a,s.heap.objs.size<=a->s.heap.get? a=none:=fun a h=>by
  cases e:s.heap.get? a with
  | none=>rfl
  | some o=>exact absurd (aV e) (dS.mpr h)
 have heldc:∀ a,fD (eN scope env s.heap.objs.size cl) H a->(s.heap.objs.size<=a/\(pushCells P scope.names).get? a≠none)\/fD env H a:=fun a h=>by
  rcases h with rfl | ⟨x,h⟩ | h
  ·refine oX hL ?_;clear hL;intro o _ _ ho _
   exact .inl ⟨aE _,by show (pushCells P scope.names).get? s.heap.objs.size≠none;rw [ho];simp⟩
  ·rcases cellsAt x a h with ⟨_,h1,o,ho,_⟩ | ⟨_,h1,_⟩
   ·exact .inl ⟨aO (eh _) h1,by rw [ho];simp⟩
   ·exact .inr (.cell h1)
  ·exact .inr (.own h)
 refine ⟨⟨⟨O.base.kp k,hk,O.gl,O.bi,⟨_,hL⟩,?_,?_,?_,?_,?_,?_,lo⟩,?_,?_,?_,?_,?_,?_,kcell⟩,?_,fun a h=>(heldc a h).imp (fun h=>h.1) id⟩
 ·intro x hx;rw [kindOf,hx];rfl
 ·intro x hx;rw [kindOf,hx];rfl
 ·rintro x (hx | hx)
  ·refine fw (own1 x hx) ?_;intro c h1 h2 h3
   exact ⟨.inl (kcell x hx),c,h1,_,h3⟩
  ·refine B5 (freeCell x hx) ?_;intro c h1 h2 _ v h3
   exact ⟨kfree x hx,c,h2,v,h3.keeps keep⟩
 ·intro x b p e
  refine CA (kR e) ?_;rintro hf q h1 rfl;refine bO (O.vars x b p h1) ?_;intro v hv hs;refine B5 (freeCell x hf) ?_;intro c h1 h2 hk' v' h3;refine ⟨v,.inr ⟨kfree x hf,c,h2,?_⟩,?_⟩
  ·rcases hv with ⟨a,_⟩ | ⟨_,c',hc',hd⟩
   ·rcases hk' with q | q<;>(rw [q] at a;cases a)
   ·rw [h1] at hc';cases hc'
    exact hd.keeps keep
  ·cases b with
   | true=>exact js.keep (fun b o J e=>keep b o e) (fun b o J e=>keep b o e) gr hs
   | false=>exact Rep.keep (fun b o J e=>keep b o e) gr hs
 ·intro a h
  rcases heldc a h with h | h
  ·cases e:G.base.get? a with
   | none=>rfl
   | some o=>have:=O.base a o e;rw [exs a h.1] at this;cases this
  ·exact O.hnb a h
 ·intro a h
  rcases heldc a h with h | h
  ·exact h.2
  ·cases e:s.heap.get? a with
   | none=>exact absurd e (O.hex a h)
   | some o=>show (pushCells P scope.names).get? a≠none;rw [keep a o e];simp
 ·refine up _ (aE _) ?_
  refine oX hL ?_;clear hL;intro o _ _ ho _;show (pushCells P scope.names).get? s.heap.objs.size≠none;rw [ho];simp
 ·intro x c hx e
  rcases cellsAt x c e with ⟨_,h1,o,ho,_⟩ | ⟨h1,_⟩
  ·exact up _ (aO (eh _) h1) (by rw [ho];simp)
  ·rw [hx] at h1;cases h1
 ·intro x c e
  rcases cellsAt x c e with ⟨_,h1,_⟩ | ⟨_,_,v,h1⟩
  ·exact kw h1
  ·exact a6 (lt_of _ _ h1)
 ·intro x y c hx e1 e2
  rcases cellsAt y c e2 with ⟨hy,_⟩ | ⟨_,_,v,h1⟩
  ·exact own3 y x c hy hx e2 e1
  ·rcases cellsAt x c e1 with ⟨_,h2,_⟩ | ⟨h2,_⟩
   ·exact absurd (lt_of _ _ h1) (dS.mpr (aO (eh _) h2))
   ·rw [hx] at h2;cases h2
 ·intro h
  exact O.hex _ (.own h) (exs _ (aE _))
 ·intro x c hx e h
  rcases cellsAt x c e with ⟨_,h2,_⟩ | ⟨h2,_⟩
  ·exact O.hex _ (.own h) (exs _ (aO (eh _) h2))
  ·rw [hx] at h2;cases h2
 ·rintro a (rfl | ⟨x,hx,e⟩)
  ·exact aE _
  ·rcases cellsAt x a e with ⟨_,h2,_⟩ | ⟨h2,_⟩
   ·exact aO (eh _) h2
   ·rw [hx] at h2;cases h2
end
end Mine
end
section
namespace Mine
noncomputable def sO (e:Expr) (gens:List Comprehension) (emit:Sem Unit) (depth:Nat) (it acc:Value) (env:Env):Sem Fin:=do
 let some g:=gens[depth]? | unsupported "internal:comprehension-depth"
 standAt (if g.is_async != 0 then e.pos else g.iter.pos)
 match <- if g.is_async != 0 then asyncNext it else pyNext it with
 | none=>pure (.done .next)
 | some v=>
  letOwnedTupleGo g.target it v
  assign g.target env v
  let mut ok:=true
  for c in g.ifs do
   if ok then ok <- isTrue c env (eval c env)
  if ok then
   match gens[depth+1]? with
   | some g'=>
    let x <- eval g'.iter env
    standAt g'.iter.pos
    let x <- if g'.is_async != 0 then foldedIterable g'.iter x else foldedSetIterable g'.iter env x
    let _ <- runOwn (.compStart e (depth+1) (<- holding [x] (if g'.is_async != 0 then asyncIter x else pyIter x)) acc env) env
   | none=>emit
  again (.compLoop e depth it acc env)
structure zf (ag:Program) (w:World) (A:Around) (e:Expr) (gens:List Comprehension) (emit:Sem Unit) (acc:Value) (env:Env):Prop where
 cl:clausesOf e=gens
 under1:∀ d it,A.under (.compLoop e d it acc env)=A
 under2:∀ d it,A.under (.compStart e d it acc env)=A
 den1:∀ d it,(model ag w).den (.compLoop e d it acc env)=(sO e gens emit d it acc env).onRaise (fun x=>do noteFrame x env;theTreesLotGoes x)
 den2:∀ d it,(model ag w).den (.compStart e d it acc env)=(compStart e d it acc env).onRaise (fun x=>do noteFrame x env;standAt theWindowsPlace)
 quiet:∀ d it,(Code.compLoop e d it acc env).quiet=true
 mark:A.mark none=A
section
variable {A:Around}
theorem xF {elt:Expr}{gens:List Comprehension}{scope:Scope}{pos:Pos}{acc:Value}{env:Env} :
  zf ag w A (.ListComp elt gens scope pos) gens (do let _ <- call (.builtin "list.append") [acc,<- eval elt env]) acc env:=
 ⟨rfl,fun J J=>rfl,fun J J=>rfl,fun J J=>rfl,fun J J=>rfl,fun J J=>rfl,rfl⟩
theorem xu {k v:Expr}{gens:List Comprehension}{scope:Scope}{pos:Pos}{D:Addr}{env:Env} :
  zf ag w A (.DictComp k v gens scope pos) gens (do
    let kv <- eval k env
    let vv <- holding [kv] (eval v env)
    standAt { k.pos with endLine:=v.pos.endLine,endCol:=v.pos.endCol }
    holding [kv,vv] (dictSet D kv vv)) (.ref D) env:=
 ⟨rfl,fun J J=>rfl,fun J J=>rfl,fun J J=>rfl,fun J J=>rfl,fun J J=>rfl,rfl⟩
end
section
variable {A:Around}{s:Shared}{V H:Addr->Prop}{env:Env}{sc:Sc}{σ:SE}
variable {o:cV}{r n:Nat}
theorem d6.upd {W V':Addr->Prop}{s':Shared} (T:d6 G env sc σ V H s) (k:cS W s s') (hW:∀ b,W b->V b/\¬ fD env H b/\G.base.get? b=none)
  (m:∀ a,s.heap.get? a≠none->V' a->V a) (ex:kh V' s'.heap) (vl:V' env.locals) (vc:∀ x c,sc.lookup x=some .cell->env.cells.lookup x=some c->V' c):d6 G env sc σ V' H s':=
 ⟨T.ev.change (fun b o n e=>k.heap b o (fun q=>n (hW b q).1) e) (fun b o h e=>k.heap b o (fun q=>(hW b q).2.1 h) e)
  (fun a o e=>k.heap a o (fun q=>by rw [(hW a q).2.2] at e;cases e) (T.ev.base a o e)) m ex,vl,vc,T.nl,T.nc,T.hl,T.hc,T.kc⟩
theorem oZ {env:Env}:∀ (ifs:List Expr) (s:Shared),wpAny (model ag w) A (forIn ifs false fun c r=>if r=true then do let ok <- isTrue c env (eval c env);pure (ForInStep.yield ok) else pure (ForInStep.yield r)) (fun ok s'=>ok=false/\s'=s) EF s
 | [],s=>by rw [pp];exact wpAny_pure ⟨rfl,rfl⟩
 | c::r,s=>by
  rw [fk];exact wpAny_bind (wpAny_pure (oZ r s))
theorem vd:∀ (n:Nat) {ifs:List Expr}{b:Bool}{s:Shared},(∀ m,m < n->iE G o r m)->bz A (n+r)->evAnd o n sc σ ifs=some b->c3 G env sc σ V H s ->
  wpAny (model ag w) A (forIn ifs true fun c r=>if r=true then do let ok <- isTrue c env (eval c env);pure (ForInStep.yield ok) else pure (ForInStep.yield r)) (fun ok s'=>ok=b/\Kp s s') EF s:=fun n=>by
 induction n with
 | zero=>intro _ _ _ _ _ h;exact nn h
 | succ n ih=>
  intro ifs b s S hr h O
  cases ifs with
  | nil=>
   rw [bH (show some true=some b from h),pp];exact wpAny_pure ⟨rfl,cS.refl _ _⟩
  | cons c rs=>
   refine cu (x:=evT o n sc σ c) (f:=fun b=>if b=true then evAnd o n sc σ rs else some false) h fun t ht h=>?_;rw [fk,if_pos rfl];refine wpAny_bind (wpAny_bind (cK ((S n (f9 _)).evT (hr.le (by exact pn [_,_] 0x0DA1A180A10)) ht O) fun c' aG q=>wpAny_pure ?_));refine xA q ?_;clear q;rintro rfl q
   cases c' with
   | true=>exact cK (ih (fun m hm=>S m (bV hm)) (hr.le (by exact pn [_,_] 0x0DA1A180A10)) h (O.kp q)) fun J J g=>⟨g.1,q.trans g.2⟩
   | false=>
    rw [bH (show some false=some b from h)];exact cK (oZ rs aG) fun J J g=>⟨g.1,by rw [g.2];exact q⟩
theorem wb {xs:List Str}:∀ {ys:List Str}{ps:List PV}{σ aI:SE},dn sc ys ps σ=some aI->(∀ y∈ys,y∈xs)->∀ x,x ∉ xs->aI.lookup x=σ.lookup x:=fun {ys}=>by
 induction ys with
 | nil=>intro ps σ aI h _ x _;exact iC h fun J h=>by rw [bH h]
 | cons y ys ih=>
  intro ps σ aI h m x hx
  cases ps with
  | nil=>exact nn h
  | cons p ps=>
   refine fh h fun J h=>?_;rw [ih h (fun z hz=>m z (.tail _ hz)) x hx,eu,if_neg];rintro rfl;exact hx (m _ (.head _))
theorem zq {t:Expr}{p:PV}{σ aI:SE} (hf:gW t σ=true) (hb:bindT sc t p σ=some aI):∀ x q,σ.lookup x=some q->aI.lookup x=some q:=by
 intro x q e;unfold gW at hf;refine xd hb (fun y q' et hm h=>?_) fun ts k q' xs vs et hxs hp hb2=>?_
 ·subst et
  have hf:(σ.lookup y).isNone=true:=hf;rw [h,eu,if_neg,e];rintro rfl;rw [e] at hf;cases hf
 ·subst et
  have hf:(match c8 ts with | some xs=>xs.all fun x=>(σ.lookup x).isNone | none=>false)=true:=hf;rw [hxs] at hf;rw [wb hb2 (fun J h=>h),e];intro hx
  have:=bo.mp hf x hx
  rw [e] at this;cases this
structure pY (G:GX ag w) (D:Addr) (Acc:(Addr->Prop)->List (PV×PV)->Heap->Prop) (Gd:List (PV×PV)->Prop):Prop where
 keep:∀ V V' rows h h',Acc V rows h->h.get? D≠none->(∀ o,h.get? D=some o->h'.get? D=some o)->bU V h h'->(∀ a,h.get? a≠none->V' a->V a)->Acc V' rows h'
 ex:∀ V rows h,Acc V rows h->h.get? D≠none
 pre:∀ a b,Gd (a++b)->Gd a
noncomputable def Dz (o:cV) (n:Nat) (sc:Sc) (σ:SE) (kv:PV):Option Expr->Prop
 | none=>kv=.none
 | some k=>ev o n sc σ k=some kv
noncomputable def qq (G:GX ag w) (o:cV) (r:Nat) (A:Around) (env:Env) (sc:Sc) (H:Addr->Prop) (D:Addr) (Acc:(Addr->Prop)->List (PV×PV)->Heap->Prop) (Gd:List (PV×PV)->Prop) (elt:Expr) (key:Option Expr) (emit:Sem Unit) (n:Nat):Prop:=
 ∀ (s:Shared) (V:Addr->Prop) (σ:SE) (rows:List (PV×PV)) (kv v:PV),c3 G env sc σ V H s->V D->Acc V rows s.heap->Gd (rows++[(kv,v)])->ev o n sc σ elt=some v->Dz o n sc σ kv key->bz A (n+r) ->
  wpAny (model ag w) A emit (fun J s'=>Acc V (rows++[(kv,v)]) s'.heap/\cS (·=D) s s') EF s
theorem uq {X U:Addr->Prop}{s s':Shared} (lo:kh X s.heap) (k:cS U s s') (ex:∀ a,U a->s'.heap.get? a≠none):kh X s'.heap:=fun a va q=>by
 by_cases m:U a
 ·exact ex a m q
 ·cases e:s.heap.get? a with
  | none=>exact lo a va e
  | some o=>rw [k.heap a o m e] at q;cases q
theorem eJ {h:Heap} (i:G.In h) {a:Addr} (n:h.get? a=none):G.base.get? a=none:=by
 cases e:G.base.get? a with
 | none=>rfl
 | some o=>exact nomatch n.symm.trans (i a o e)
structure uj (G:GX ag w) (o:cV) (r:Nat) (A:Around) (env:Env) (sc:Sc) (H:Addr->Prop) (D:Addr) (e:Expr) (gens:List Comprehension) (emit:Sem Unit) (acc:Value) (elt:Expr) (key:Option Expr) (Acc:(Addr->Prop)->List (PV×PV)->Heap->Prop) (Gd:List (PV×PV)->Prop):Prop where
 K:zf ag w A e gens emit acc env
 AK:pY G D Acc Gd
 hh:A.handled=none
 hD:¬ fD env H D/\G.base.get? D=none
structure md (G:GX ag w) (A:Around) (env:Env) (sc:Sc) (V H:Addr->Prop) (D:Addr) (Acc:(Addr->Prop)->List (PV×PV)->Heap->Prop) (t:Expr) (all:List PV) (I:Addr) (wr:List Addr) (St:Nat->Heap->Prop) (i:Nat) (σ:SE) (rows:List (PV×PV)) (s:Shared):Prop where
 T:d6 G env sc σ (fun b=>V b\/b∈wr) H s
 st:St i s.heap
 acc:Acc (fun b=>V b\/b∈wr) rows s.heap
structure mE (G:GX ag w) (A:Around) (env:Env) (sc:Sc) (V H:Addr->Prop) (D:Addr) (t:Expr) (all:List PV) (I:Addr) (wr:List Addr) (St:Nat->Heap->Prop):Prop where
 vD:V D
 vl:V env.locals
 vc:∀ x c,sc.lookup x=some .cell->env.cells.lookup x=some c->V c
 hwr:∀ b∈wr,¬ V b/\¬ fD env H b/\G.base.get? b=none/\b≠D
 W:lf G A I wr St (fun b=>V b\/b∈wr) t all
section turn
variable {e:Expr}{gens:List Comprehension}{emit:Sem Unit}{D:Addr}{acc:Value}{elt:Expr}{key:Option Expr}{Acc:(Addr->Prop)->List (PV×PV)->Heap->Prop}{Gd:List (PV×PV)->Prop}
variable {t:Expr}{all:List PV}{I:Addr}{wr:List Addr}{St:Nat->Heap->Prop}{i:Nat}{rows:List (PV×PV)}
theorem nB (L:uj G o r A env sc H D e gens emit acc elt key Acc Gd) {X X' U:Addr->Prop}{s s':Shared} (a:Acc X rows s.heap) (k:cS U s s') (nD:¬ U D) (hx:∀ b,U b->X b) (m:∀ a,s.heap.get? a≠none->X' a->X a):Acc X' rows s'.heap:=
 L.AK.keep _ _ _ _ _ a (L.AK.ex _ _ _ a) (fun o e=>k.heap D o nD e) (fun b o n e=>k.heap b o (fun m=>n (hx b m)) e) m
theorem BY (L:uj G o r A env sc H D e gens emit acc elt key Acc Gd) (F:mE G A env sc V H D t all I wr St) (X:md G A env sc V H D Acc t all I wr St i σ rows s) {s':Shared} (k:cS (·∈wr) s s') :
  d6 G env sc σ V H s'/\Acc V rows s'.heap/\cS (fun b=>lm env sc b\/b∈wr\/b=D) s s':=by
 refine ⟨?_,nB L X.acc k (fun m=>(F.hwr D m).2.2.2 rfl) (fun b m=>.inr m) fun J J x=>.inl x,k.mono fun b hb=>.inr (.inl hb)⟩;refine X.T.upd k (fun b hb=>⟨.inr hb,(F.hwr b hb).2.1,(F.hwr b hb).2.2.1⟩) (fun J J x=>.inl x) (fun a va q=>?_) F.vl F.vc;have m:a ∉ wr:=fun m=>(F.hwr a m).1 va
 cases e:s.heap.get? a with
 | none=>exact X.T.ev.low a (.inl va) e
 | some o=>rw [k.heap a o m e] at q;cases q
theorem C5 (L:uj G o r A env sc H D e gens emit acc elt key Acc Gd) (F:mE G A env sc V H D t all I wr St) (X:md G A env sc V H D Acc t all I wr St i σ rows s) {x:PV} (hx:all[i]?=some x) {aI:SE} (hb:bindT sc t x σ=some aI) {Q:Unit->Shared->Prop}
  (hQ:∀ cJ,md G A env sc V H D Acc t all I wr St (i+1) aI rows cJ->cS (fun b=>lm env sc b\/b∈wr\/b=D) s cJ->Q () cJ) :
  wpAny (model ag w) A (pyNext (.ref I)) (fun q aG=>∃ v,q=some v/\wpAny (model ag w) A (letOwnedTupleGo t (.ref I) v) (fun J aX=>wpAny (model ag w) A (assign t env v) Q EF aX) EF aG) EF s:=by
 refine cK (F.W.item i s x hx X.st) fun q aG kj=>?_;refine bO kj ?_;clear kj;intro v e kj;refine ⟨v,e,cK kj fun J aX lP=>?_⟩;refine ir lP ?_;clear lP;intro rep wL fy;have GL:d6 G env sc σ (fun b=>V b\/b∈wr) H aX:=X.T.upd fy (fun b hb=>⟨.inr hb,(F.hwr b hb).2.1,(F.hwr b hb).2.2.1⟩) (fun J J x=>x) (uq X.T.ev.low fy (F.W.ex _ _ wL)) (.inl F.vl) fun x c h1 h2=>.inl (F.vc x c h1 h2);have GM:Acc (fun b=>V b\/b∈wr) rows aX.heap:=nB L X.acc fy (fun m=>(F.hwr D m).2.2.2 rfl) (fun b m=>.inr m) fun J J x=>x;refine cK (vO L.hh GL hb (rep _ X.T.ev.low fun J q=>q)) fun J cJ AA=>?_;refine xA AA ?_;clear AA;intro IU gC;refine hQ cJ ⟨IU,F.W.frame _ _ _ wL fun b o q e=>gC.heap b o (fun l=>q.elim (fun q=>q (GL.loc l)) fun q=>(F.hwr b q).2.1 (ki.held (H:=H) (.inl l))) e,?_⟩ ((fy.mono fun b hb=>.inr (.inl hb)).trans (gC.mono fun b hb=>.inl hb));exact nB L GM gC (fun q=>L.hD.1 (ki.held (H:=H) (.inl q))) (fun b q=>GL.loc q) fun J J x=>x
theorem md.kp (L:uj G o r A env sc H D e gens emit acc elt key Acc Gd) (F:mE G A env sc V H D t all I wr St) (X:md G A env sc V H D Acc t all I wr St i σ rows s) {s':Shared} (k:Kp s s'):md G A env sc V H D Acc t all I wr St i σ rows s':=
 ⟨X.T.kp k,F.W.frame _ _ _ X.st fun b o q e=>k.keep b o e,nB L X.acc k id (fun J q=>q.elim) fun J J x=>x⟩
theorem md.more (L:uj G o r A env sc H D e gens emit acc elt key Acc Gd) (F:mE G A env sc V H D t all I wr St) (X:md G A env sc V H D Acc t all I wr St i σ rows s) {s':Shared}{aI:SE}{rows':List (PV×PV)} (T:d6 G env sc aI (fun b=>V b\/b∈wr) H s') (hs:∀ x q,σ.lookup x=some q->aI.lookup x=some q) (k:cS (fun b=>lm env sc b\/b=D) s s') (a:Acc (fun b=>V b\/b∈wr) rows' s'.heap) :
  md G A env sc V H D Acc t all I wr St i σ rows' s':=by
 refine ⟨T.sub hs,F.W.frame _ _ _ X.st fun b o q e=>k.heap b o (fun l=>?_) e,a⟩;rcases l with l | rfl
 ·exact q.elim (fun q=>q (X.T.loc l)) fun q=>(F.hwr b q).2.1 (ki.held (H:=H) (.inl l))
 ·exact q.elim (fun q=>q (.inl F.vD)) fun q=>(F.hwr _ q).2.2.2 rfl
theorem md.emitted (L:uj G o r A env sc H D e gens emit acc elt key Acc Gd) (F:mE G A env sc V H D t all I wr St) (X:md G A env sc V H D Acc t all I wr St i σ rows s) {s':Shared}{rows':List (PV×PV)} (k:cS (·=D) s s') (a:Acc (fun b=>V b\/b∈wr) rows' s'.heap):d6 G env sc σ (fun b=>V b\/b∈wr) H s':=
 X.T.upd k (fun b hb=>by rw [hb];exact ⟨.inl F.vD,L.hD.1,L.hD.2⟩) (fun J J x=>x) (uq X.T.ev.low k fun b hb=>by rw [hb];exact L.AK.ex _ _ _ a) (.inl F.vl) fun x c h1 h2=>.inl (F.vc x c h1 h2)
theorem zA (L:uj G o r A env sc H D e gens emit acc elt key Acc Gd) (F:mE G A env sc V H D t all I wr St) (X:md G A env sc V H D Acc t all I wr St i σ rows s) {t':Expr}{items:List PV}{s':Shared}{it:Value} (h:i7 G A (fun b=>V b\/b∈wr) t' items s it s') :
  ∃ I' wr' St',it=.ref I'/\mE G A env sc (fun b=>V b\/b∈wr) H D t' items I' wr' St'/\md G A env sc (fun b=>V b\/b∈wr) H D Acc t' items I' wr' St' 0 σ rows s'/\Kp s s'/\∀ b∈wr',s.heap.get? b=none:=by
 refine mS h ?_;clear h;intro I' wr' e' AB hwr' mk;refine bO (mk (fun b=>(V b\/b∈wr)\/b∈wr') (fun a J x=>x) fun b hb=>.inr hb) ?_;intro St' st' W';refine ⟨I',wr',St',e',⟨.inl F.vD,.inl F.vl,fun x c h1 h2=>.inl (F.vc x c h1 h2),fun b hb=>⟨fun q=>X.T.ev.low b q (hwr' b hb).1,fun q=>X.T.ev.hex b q (hwr' b hb).1,eJ X.T.ev.base (hwr' b hb).1,fun q=>L.AK.ex _ _ _ X.acc (q ▸ (hwr' b hb).1)⟩,W'⟩,⟨?_,st',?_⟩,AB,fun b hb=>(hwr' b hb).1⟩
 ·exact X.T.upd (W:=fun J=>False) AB (fun J q=>q.elim) (fun a e q=>q.elim id fun q=>absurd (hwr' a q).1 e) (fun a q=>q.elim (X.T.ev.low.kp AB a) fun q=>(hwr' a q).2) (.inl (.inl F.vl)) fun x c h1 h2=>.inl (.inl (F.vc x c h1 h2))
 ·exact nB L X.acc AB id (fun J q=>q.elim) fun a e q=>q.elim id fun q=>absurd (hwr' a q).1 e
theorem Co {wr':List Addr}{s s' s'':Shared} (k:Kp s s') (k':cS (fun b=>lm env sc b\/b∈wr'\/b=D) s' s'') (n:∀ b∈wr',s.heap.get? b=none):cS (fun b=>lm env sc b\/b=D) s s'':=
 ⟨fun b o nb e=>k'.heap b o (fun q=>by
  rcases q with q | q | q
  ·exact nb (.inl q)
  ·exact nomatch (n b q).symm.trans e
  ·exact nb (.inr q)) (k.keep b o e),k'.os.trans k.os,fun q=>k'.gens (k.gens q)⟩
end turn
theorem ue {n:Nat}{g:Comprehension}{gs:List Comprehension}{items:List PV}{elt:Expr}{key:Option Expr}{rs:List (PV×PV)} (h:k8 o n sc σ g items gs elt key=some rs):g.is_async=0:=by
 cases n with
 | zero=>exact nn h
 | succ m=>exact iC (c:=decide (g.is_async=0) && gW g.target σ) h fun hc J=>of_decide_eq_true (iq hc).1
theorem ye {g:Comprehension} (h:g.is_async=0):(g.is_async != 0)=false:=by rw [h];rfl
theorem oC {α:Type}{l is:List α}{x:α}{i:Nat} (h:l.drop i=x::is):l[i]?=some x/\l.drop (i+1)=is/\i+1<=l.length:=by
 have hx:l[i]?=some x:=by
  have:=congrArg (·[0]?) h
  simpa using this
 exact ⟨hx,by rw [<- List.drop_drop,h];rfl,(aQ.mp hx).1⟩
noncomputable def Fq (G:GX ag w) (o:cV) (A:Around) (env:Env) (sc:Sc) (H:Addr->Prop) (D:Addr) (e:Expr) (gens:List Comprehension) (acc:Value) (elt:Expr) (key:Option Expr) (Acc:(Addr->Prop)->List (PV×PV)->Heap->Prop) (Gd:List (PV×PV)->Prop) (n:Nat):Prop:=
 ∀ {d:Nat}{g:Comprehension}{gs:List Comprehension}{items all:List PV}{i:Nat}{I:Addr}{wr:List Addr}{St:Nat->Heap->Prop}{V:Addr->Prop}{σ:SE}{rows new:List (PV×PV)}{s:Shared}{R:Result->Shared->Prop},
  gens[d]?=some g->gens.drop (d+1)=gs->k8 o n sc σ g items gs elt key=some new ->
  mE G A env sc V H D g.target all I wr St->md G A env sc V H D Acc g.target all I wr St i σ rows s->all.drop i=items->i<=all.length->Gd (rows++new) ->
  (∀ s',d6 G env sc σ V H s'->Acc V (rows++new) s'.heap->cS (fun b=>lm env sc b\/b∈wr\/b=D) s s'->R (.ok .next) s') ->
  codeAny (model ag w) A (.compLoop e d (.ref I) acc env) R s
section
variable {e:Expr}{gens:List Comprehension}{emit:Sem Unit}{D:Addr}{acc:Value}{elt:Expr}{key:Option Expr}{Acc:(Addr->Prop)->List (PV×PV)->Heap->Prop}{Gd:List (PV×PV)->Prop}
theorem xh {n d:Nat}{g:Comprehension}{gs:List Comprehension}{all:List PV}{i:Nat}{I:Addr}{wr:List Addr}{St:Nat->Heap->Prop}{V:Addr->Prop}{σ:SE}{rows rs:List (PV×PV)}{s:Shared}{R:Result->Shared->Prop}
  (L:uj G o r A env sc H D e gens emit acc elt key Acc Gd) (Sn:iE G o r n) (En:qq G o r A env sc H D Acc Gd elt key emit n) (IH:Fq G o A env sc H D e gens acc elt key Acc Gd n) (hr:bz A (n+r)) (hgs:gens.drop (d+1)=gs)
  (hrs:(match (generalizing:=false) gs with
      | []=>dv (fun v kv=>some [(kv,v)]) (ev o n sc σ elt) (match (generalizing:=false) key with
       | none=>some .none
       | some k=>ev o n sc σ k)
      | g'::gs'=>(evI o n sc σ g'.target g'.iter).bind fun items'=>k8 o n sc σ g' items' gs' elt key)=some rs)
  (F:mE G A env sc V H D g.target all I wr St) (X:md G A env sc V H D Acc g.target all I wr St i σ rows s) (gd:Gd (rows++rs))
  (goOn:∀ k7,d6 G env sc σ (fun b=>V b\/b∈wr) H k7->Acc (fun b=>V b\/b∈wr) (rows++rs) k7.heap->cS (fun b=>lm env sc b\/b=D) s k7->codeAny (model ag w) A (.compLoop e d (.ref I) acc env) R k7) :
  wpAny (model ag w) A (do
    match gens[d+1]? with
    | some g'=>
     let x <- eval g'.iter env
     standAt g'.iter.pos
     let x <- if g'.is_async != 0 then foldedIterable g'.iter x else foldedSetIterable g'.iter env x
     let _ <- runOwn (.compStart e (d+1) (<- holding [x] (if g'.is_async != 0 then asyncIter x else pyIter x)) acc env) env
    | none=>emit
    again (.compLoop e d (.ref I) acc env)) (fun fin s'=>match fin with | .done f=>R (.ok f) s' | .again c'=>c'.quiet=true/\codeAny (model ag w) A c' R s') EF s:=by
 have fin:∀ k7,codeAny (model ag w) A (.compLoop e d (.ref I) acc env) R k7->wpAny (model ag w) A (again (.compLoop e d (.ref I) acc env)) (fun fin s'=>match fin with | .done f=>R (.ok f) s' | .again c'=>c'.quiet=true/\codeAny (model ag w) A c' R s') EF k7:=fun k7 h=>wpAny_pure ⟨L.K.quiet _ _,h⟩
 cases gs with
 | nil=>
  have hn2:gens[d+1]?=none:=List.getElem?_eq_none_iff.mpr (pu.mp hgs);rw [hn2];refine b8 hrs fun v' kv hv' hk h=>?_;have h:=bH h;subst h;have hkr:Dz o n sc σ kv key:=by
   cases key with
   | none=>exact bH hk
   | some k=>exact hk
  refine wpAny_bind (cK (En s _ σ rows kv v' X.T.ev (.inl F.vD) X.acc gd hv' hkr hr) fun J k7 AC=>fin k7 ?_);exact goOn k7 (X.emitted L F AC.2 AC.1) AC.1 (AC.2.mono fun b hb=>.inr hb)
 | cons g' gs'=>
  refine ir (oC hgs) ?_;intro hg' hgs' _;rw [hg'];refine cu hrs fun items' hit hrs=>?_;have has2':=ye (ue hrs);show wpAny _ _ (eval g'.iter env >>= _) _ _ _;refine xA (Sn.evI (t:=g'.target) hr hit X.T.ev) ?_;intro hfs hev;refine wpAny_bind (cK hev fun xv k7 AC=>?_);simp only [has2',b0,if_false];refine wpAny_bind (wpAny_standAt (wpAny_bind (wpAny_of_eq (hfs xv) ?_)));refine wpAny_bind (wpAny_holding (cK AC fun it GN IV=>?_));refine qh (zA L F X IV) ?_;rintro I' wr' St' rfl F' X' AB IW;have key1:codeAny (model ag w) A (.compLoop e (d+1) (.ref I') acc env) (fun rr s'=>rr=.ok .next/\codeAny (model ag w) A (.compLoop e d (.ref I) acc env) R s') GN:=
   IH hg' hgs' hrs F' X' rfl (bP _) gd fun s' T' a' k'=>⟨rfl,goOn s' T' a' (Co AB k' IW)⟩
  refine wpAny_bind (wpAny_runOwn (h:=none) ?_);rw [L.K.mark];refine codeAny_of_tree ?_;rw [L.K.under2,L.K.den2];refine wpAny_notedAt ?_;refine wpAny_mono (E:=EF) ?_ (fun J J x=>x) fun J J x=>x.elim;unfold compStart;rw [L.K.cl,hg',show (Option.elim (some g') false fun x=>x.is_async != 0)=false from has2'];have key2:codeAny (model ag w) A (.compLoop e (d+1) (.ref I') acc env) (fun rr s'=>match rr with | .ok _=>wpAny (model ag w) A (again (.compLoop e d (.ref I) acc env)) (fun fin s'=>match fin with | .done f=>R (.ok f) s' | .again c'=>c'.quiet=true/\codeAny (model ag w) A c' R s') EF s' | .error e=>cameBackBy (model ag w) A env EF e s') GN:=
   codeAny_mono key1 fun rr s' q=>by rw [q.1];exact fin s' q.2
  refine wpAny_bind (wpAny_askSetting ?_);split
  ·exact wpAny_pure ⟨L.K.quiet _ _,key2⟩
  ·refine wpAny_bind (wpAny_rule (wpAny_bind (wpAny_standAt (wpAny_bind (cK (F'.W.self 0 GN X'.st) fun it' s' q=>?_)))))
   rw [q.1,q.2];exact wpAny_pure ⟨L.K.quiet _ _,key2⟩
theorem xe (L:uj G o r A env sc H D e gens emit acc elt key Acc Gd):∀ (n:Nat),(∀ m,m < n->iE G o r m/\qq G o r A env sc H D Acc Gd elt key emit m)->bz A (n+r)->Fq G o A env sc H D e gens acc elt key Acc Gd n:=by
 intro n
 induction n with
 | zero=>intro _ _ d g gs items all i I wr St V σ rows new s R _ _ h;exact nn h
 | succ n ih=>
  intro S hr d g gs items all i I wr St V σ rows new s R hg hgs h F X hall hi gd hR;have hr':bz A (n+r):=hr.le (by exact pn [_,_] 0x0DA1A180A10);have IH:=@ih (fun m hm=>S m (bV hm)) hr';have has':=ye (ue h);refine iC (c:=decide (g.is_async=0) && gW g.target σ) h fun hc h=>?_;have hfr:=(iq hc).2;refine codeAny_of_tree ?_;rw [L.K.under1,L.K.den1];refine wpAny_noted ?_;refine wpAny_mono (E:=EF) ?_ (fun J J x=>x) fun J J x=>x.elim;unfold sO;rw [hg];show wpAny _ _ (standAt (if (g.is_async != 0)=true then e.pos else g.iter.pos) >>= _) _ _ _;simp only [has',b0,if_false];refine wpAny_bind (wpAny_standAt ?_)
  cases items with
  | nil=>
   have h:=bH (show some []=some new from h);subst h;rw [jT hi (pu.mp hall)] at X;refine wpAny_bind (cK (F.W.done s X.st) fun q s' h'=>?_);refine xA h' ?_;clear h';rintro rfl k;refine ir (BY L F X k) ?_;intro h1 h2 h3;refine wpAny_pure (hR s' h1 ?_ h3);rw [fm];exact h2
  | cons x is=>
   refine ir (oC hall) ?_;intro hx hnext hi';refine cu (x:=bindT sc g.target x σ) (f:=fun aI=>(evAnd o n sc aI g.ifs).bind fun b=>
    dv (fun rs rest=>some (rs++rest)) (if b=true then (match gs with
      | []=>dv (fun v kv=>some [(kv,v)]) (ev o n sc aI elt) (match key with
       | none=>some .none
       | some k=>ev o n sc aI k)
      | g'::gs'=>(evI o n sc aI g'.target g'.iter).bind fun items'=>k8 o n sc aI g' items' gs' elt key) else some [])
     (k8 o n sc σ g is gs elt key)) h fun aI hb h=>cu h fun b hifs h=>b8 h fun rs rest hrs hrest h=>?_
   have h:=bH h;subst h
   refine' wpAny_bind (cK (C5 L F X hx hb ?h3) ?h4)
   case h4=>
    rintro q aG ⟨v,rfl,kj⟩;exact wpAny_bind (cK kj fun J aX lP=>wpAny_bind lP)
   intro cJ HL gC;refine wpAny_bind (cK (vd (sc:=sc) n (fun m hm=>(S m (bV hm)).1) hr' hifs HL.T.ev) fun ok iW uA=>?_);refine xA uA ?_;clear uA;rintro rfl jr;have E7:=HL.kp L F jr;have gd1:Gd (rows++rs):=L.AK.pre _ rest (by rw [bp];exact gd);have goOn:∀ k7,d6 G env sc aI (fun b=>V b\/b∈wr) H k7->Acc (fun b=>V b\/b∈wr) (rows++rs) k7.heap->cS (fun b=>lm env sc b\/b=D) iW k7 ->
     codeAny (model ag w) A (.compLoop e d (.ref I) acc env) R k7:=fun k7 HM DD HN=>by
    have IX:md G A env sc V H D Acc g.target all I wr St (i+1) σ (rows++rs) k7:=⟨HM.sub (zq hfr hb),(E7.more L F HM (fun J J h=>h) HN DD).st,DD⟩;refine IH hg hgs hrest F IX hnext hi' (by rw [bp];exact gd) fun s' T' a' k'=>?_;exact hR s' T' (by rw [<- bp];exact a') (((gC.trans (jr.toU _)).trans (HN.mono fun b hb=>hb.elim .inl fun q=>.inr (.inr q))).trans k')
   cases ok with
   | false=>
    have hrs:=bH (show some []=some rs from hrs);subst hrs;exact wpAny_pure ⟨L.K.quiet _ _,goOn iW E7.T (by rw [fm];exact E7.acc) (cS.refl _ _)⟩
   | true=>exact xh L (S n (f9 _)).1 (S n (f9 _)).2 IH hr' hgs ((if_pos rfl).symm.trans hrs) F E7 gd1 goOn
end
end
end Mine
end
section
namespace Mine
section
variable {A:Around}{s:Shared}{V H:Addr->Prop}{env:Env}{sc:Sc}{σ:SE}
variable {o:cV}{r n:Nat}
theorem cS.keep {s s':Shared} (x:cS (fun J=>False) s s'):∀ b o,s.heap.get? b=some o->s'.heap.get? b=some o:=fun b o e=>x.heap b o id e
noncomputable def Made (G:GX ag w) (V:Addr->Prop) (s:Shared) (p:PV) (v:Value) (s':Shared):Prop:=
 ∃ N:Addr->Prop,(∀ a,N a->s.heap.get? a=none/\s'.heap.get? a≠none)/\js G s'.heap (fun a=>V a\/N a) N p v/\Kp s s'
theorem wQ {p:PV}{v:Value}{s':Shared} (lo:kh V s.heap) (m:Made G V s p v s'):b4 G V s p v s':=by
 refine fw m ?_;clear m;intro N hN t k;have nV:∀ a,N a->¬ V a:=fun a h q=>lo a q (hN a h).1;refine ⟨?_,k⟩
 cases p with
 | lst l=>
  refine bG t ?_;clear t;intro a e n vs q r;exact dC.mpr ⟨a,e,nV a n,vs,q,RepL.keep (bU.refl _ _) (fun J J x=>.inl x) r⟩
 | dct l=>
  refine cR t ?_;clear t;intro a e n z kvs q r;exact ew.mpr ⟨a,e,nV a n,z,kvs,q,RepD.keep (bU.refl _ _) (fun J J x=>.inl x) r⟩
 | obj c fs=>
  refine dm t ?_;clear t;intro a C d es ep e n q nd g gd r;exact dj a ⟨C,d,es,ep,e,nV a n,q,nV d nd,g,gd,RepF.keep (bU.refl _ _) (fun J J x=>.inl x) r⟩
 | _=>exact t.elim
theorem za {p:PV}{v:Value}{aG aX:Shared} (k:Kp s aG) (m:Made G V aG p v aX):Made G V s p v aX:=by
 refine fw m ?_;clear m;intro N hN t k';exact ⟨N,fun a h=>⟨k.none (hN a h).1,(hN a h).2⟩,t,k.trans k'⟩
noncomputable def Cw (G:GX ag w) (D:Addr) (V:Addr->Prop) (rows:List (PV×PV)) (h:Heap):Prop:=∃ vs:List Value,h.PlainList D vs.toArray/\G.RepL h V (rows.map (·.2)) vs
noncomputable def Ct (G:GX ag w) (D:Addr) (V:Addr->Prop) (rows:List (PV×PV)) (h:Heap):Prop:=∃ kvs l,h.DictOf (intKind ag w) D kvs/\cj rows []=some l/\G.RepD h V l kvs
noncomputable def G0 (rows:List (PV×PV)):Prop:=rows.length<=1048576
noncomputable def IJ (rows:List (PV×PV)):Prop:=rows.length<=1048576/\∃ l,cj rows []=some l
theorem mO:∀ (a b:List (PV×PV)) (acc:List (Int×PV)),cj (a++b) acc=(cj a acc).bind (cj b):=fun a b=>by
 induction a with
 | nil=>intro acc;rfl
 | cons kv a ih=>
  intro acc;show ((cq kv.1).bind fun k=>cj (a++b) (jc acc k kv.2))=((cq kv.1).bind fun k=>cj a (jc acc k kv.2)).bind (cj b)
  cases cq kv.1 with
  | none=>rfl
  | some k=>exact ih _
theorem wy (l:List (Int×PV)) (k:Int) (v:PV):(jc l k v).length<=l.length+1:=by
 unfold jc;split
 ·rw [aa];exact pn [_] 0x0DA1800
 ·rw [ak];exact aE _
theorem sj:∀ {a:List (PV×PV)}{acc l:List (Int×PV)},cj a acc=some l->l.length<=acc.length+a.length:=fun {a}=>by
 induction a with
 | nil=>intro acc l h;rw [bH h];exact aE _
 | cons kv a ih=>
  intro acc l h;refine cu (x:=cq kv.1) (f:=fun k=>cj a (jc acc k kv.2)) h fun k hk h=>?_;have h1:=ih h;have h2:=wy acc k kv.2;rw [aD];exact (pn [_,_,_,_] 0x0DAA182300DA18310DA210) h1 h2
theorem Ae {D:Addr}:pY G D (Cw G D) G0 where
 keep:=fun V V' rows h h' ⟨vs,⟨n,q⟩,rl⟩ _ kD k m=>⟨vs,⟨n,kD _ q⟩,RepL.keep k m rl⟩
 ex:=fun V rows h ⟨vs,⟨n,q⟩,_⟩=>bT q
 pre:=fun a b h=>by unfold G0 at *;rw [ak] at h;exact (pn [_,_] 0x0D1000003900D10000039A10) h
theorem zt {D:Addr}:pY G D (Ct G D) IJ where
 keep:=fun V V' rows h h' ⟨kvs,l,⟨o,es,ep,q,z⟩,e,rd⟩ _ kD k m=>⟨kvs,l,⟨o,es,ep,kD _ q,z⟩,e,RepD.keep k m rd⟩
 ex:=fun V rows h ⟨kvs,l,⟨o,es,ep,q,z⟩,_⟩=>bT q
 pre:=fun a b ⟨h1,l,h2⟩=>by
  rw [ak] at h1;rw [mO] at h2;refine bO (Option.bind_eq_some_iff.mp h2) ?_;intro l' h3 _;exact ⟨by exact (pn [_,_] 0x0D1000003900D10000039A10) h1,l',h3⟩
theorem RepL.snoc {cl:cG}{h:Heap}{ps:List PV}{vs:List Value}{p:PV}{v:Value} (x:RepL ag w cl h V ps vs) (y:Rep ag w cl h V p v):RepL ag w cl h V (ps++[p]) (vs++[v]):=
 RepL.append x (RepL.cons y trivial)
theorem HD {D:Addr}{elt:Expr}{n:Nat} (S:iE G o r n):qq G o r A env sc H D (Cw G D) G0 elt none (do let _ <- call (.builtin "list.append") [.ref D,<- eval elt env]) n:=by
 intro s V σ rows kv v O vD acc gd hv hk hr
 cases hk
 refine wpAny_bind (wpAny_mono (S.ev hr hv O) (fun x aG q=>?_) fun J J x=>x);refine bO acc ?_;clear acc;rintro vs ⟨n,pl⟩ rl;have len:=RepL.length rl;have HO:aG.heap.PlainList D vs.toArray:=⟨n,q.2.keep _ _ pl⟩;have hz:vs.toArray.size<=sizeLine:=by
  unfold G0 at gd;rw [ak] at gd;rw [aa] at len;rw [aA,bu];exact (pn [_,_,_] 0x0D010000004922D200D10000039A10) gd len
 refine wpAny_bind (wpAny_list_append_plain HO (hsz:=hz) fun h' pl' sb=>wpAny_pure ⟨⟨vs++[x],?_,?_⟩,?_⟩)
 ·have:(vs++[x]).toArray=vs.toArray.push x:=by simp
  rw [this];exact pl'
 ·rw [aN]
  have hk:bU V aG.heap h':=fun b ob nb e=>sb.extBut b ob (fun e=>nb (e ▸ vD)) e;exact RepL.snoc (RepL.keep hk (fun J J x=>x) (pS q.2 rl)) (Rep.keep hk (fun J J x=>x) q.1)
 ·exact ⟨fun b ob nb e=>sb.extBut b ob nb (q.2.keep _ _ e),q.2.os,q.2.gens⟩
theorem Hq {D:Addr}{k v:Expr}{p:Pos}{n:Nat} (S:iE G o r n):qq G o r A env sc H D (Ct G D) IJ v (some k) (do
    let kv <- eval k env
    let vv <- holding [kv] (eval v env)
    standAt p
    holding [kv,vv] (dictSet D kv vv)) n:=by
 intro s V σ rows kv vp O vD acc gd hv hk hr;have hk:ev o n sc σ k=some kv:=hk;refine lz acc ?_;clear acc;intro kvs l dO e rd;obtain ⟨h1,l2,h2⟩:=gd;rw [mO,e] at h2;refine cu (x:=cq kv) (f:=fun i=>some (jc l i vp)) h2 fun i hi h2=>?_;refine wpAny_bind (cK (S.ev hr hk O) fun kx aG uz=>wpAny_bind (wpAny_holding (cK (S.ev hr hv (O.kp uz.2)) fun vx aX wK=>wpAny_bind (wpAny_standAt (wpAny_holding ?_)))));refine xE (jX hi uz.1) ?_;rintro t rfl;have kk:=uz.2.trans wK.2;have HP:aX.heap.DictOf (intKind ag w) D kvs:=fU (V:=fun J=>False) kk.heap id dO;have hz:kvs.length<=sizeLine:=by
  have q1:=sj e;have q2:=RepD.length rd;rw [ak] at h1;rw [bB,di] at q1;rw [bu];clear dO HP rd uz wK O;exact (pn [_,_,_,_] 0x0D010000004932D320D020D10000039A10) h1 q1 q2
 refine wpAny_dictSet_pairs (hsz:=hz) iZ HP fun h' d' sb=>⟨⟨_,jc l i vp,d',?_,?_⟩,⟨fun b ob nb e=>sb.extBut b ob nb (kk.keep _ _ e),kk.os,kk.gens⟩⟩
 ·rw [mO,e]
  show (cq kv).bind _=_;rw [hi];rfl
 ·have hk:bU V aX.heap h':=fun b ob nb e=>sb.extBut b ob (fun e=>nb (e ▸ vD)) e
  exact RepD.stored (Rep.keep hk (fun J J x=>x) wK.1) (RepD.keep hk (fun J J x=>x) (RepD.keep (fun b o J e=>kk.keep b o e) (fun J J x=>x) rd))
theorem tq {e:Expr}{gens gs:List Comprehension}{g:Comprehension}{emit:Value->Env->Sem Unit}{elt:Expr}{key:Option Expr}{Acc:Addr->(Addr->Prop)->List (PV×PV)->Heap->Prop}{Gd:List (PV×PV)->Prop}
  {scope:Scope}{pos:Pos}{newAcc:Sem Value}{nob:Obj}{use:Option (Value->Sem Unit)}{items:List PV}{new:List (PV×PV)}{Q:Value->Shared->Prop}
  (hA:∀ (s:Shared) (Q:Value->Shared->Prop),Q (.ref s.heap.objs.size) { s with heap:=s.heap.push nob }->wpAny (model ag w) A newAcc Q EF s) (hf:nob.isFreed=false)
  (K:∀ (D:Addr) (cenv:Env),zf ag w A e gens (emit (.ref D) cenv) (.ref D) cenv) (AK:∀ D,pY G D (Acc D) Gd) (hgens:gens=g::gs)
  (S:∀ m,m<=n->iE G o r m) (EM:∀ m,m<=n->∀ (D:Addr) (cenv:Env),qq G o r A cenv scope.names H D (Acc D) Gd elt key (emit (.ref D) cenv) m)
  (first:∀ (h:Heap) (V:Addr->Prop),Acc h.objs.size V [] (h.push nob)) (gd:Gd new)
  (hr:bz A (n+r)) (hok:hZ sc scope=true) (hit:evI o n sc σ g.target g.iter=some items) (hg:k8 o n scope.names (mA scope σ) g items gs elt key=some new)
  (O:c3 G env sc σ V H s)
  (hQ:∀ (D C:Addr) (s':Shared),Kp s s'->s.heap.get? D=none->s'.heap.get? D≠none->(D == sysModules)=false->s.heap.get? C=none->D≠C->(∃ m,s'.heap.Ns C m)->Acc D (fun a=>V a\/a=D\/a=C) new s'.heap->compPost (model ag w) A EF use Q (.ref D) C (.ok .next) s') :
  wpAny (model ag w) A (comprehension e scope env pos newAcc false (eval g.iter env) use) Q EF s:=by
 refine ir (mq hok) ?_;intro hkf hnd hall;refine xA ((S n (aE _)).evI (t:=g.target) hr hit O) ?_;intro hfs hev;obtain ⟨cl,hcl,hcl1,hcl2⟩:=sa (scope:=scope) (env:=env) fun x hx=>by
  rcases hall x _ hx with q | q | q | q
  ·cases q
  ·cases q
  ·cases q
  ·refine CA (O.cel x q.2) ?_;intro _ c hc _
   exact ⟨c,hc⟩
 have has:g.is_async=0:=ue hg;have hcls:clausesOf e=g::gs:=by rw [(K 0 env).cl,hgens]
 refine wpAny_comprehension_free hcls hfs hcl hkf (fun x hx hl=>by obtain ⟨a,b⟩:=x;cases hl;exact gp hnd hx) (wpAny_mono hev (fun xv aG kj=>wpAny_mono kj (fun it aX lP=>?_) fun J J x=>x) fun J J x=>x);refine mS lP ?_;clear lP;rintro I wr rfl fy hwr mk;refine hA aX _ (DV ?_);dsimp only;generalize hD:aX.heap.objs.size=D;have E6:=O.kp fy;have nD:aX.heap.get? D=none:=hD ▸ dP;have gC:Kp aX { aX with heap:=aX.heap.push nob }:=dU (tk:=aX.toks)
 have exD:(aX.heap.push nob).get? D≠none:=by rw [<- hD,aH _ hf];simp
 have sz:(aX.heap.push nob).objs.size=D+1:=by rw [eW,hD]
 rw [sz];have noneOf:∀ a,D<=a->aX.heap.get? a=none:=fun a h=>by
  cases e:aX.heap.get? a with
  | none=>rfl
  | some o=>exact absurd (aV e) (dS.mpr (hD ▸ h))
 have E8:c3 G env sc σ (fun a=>(V a\/a=D)\/a∈wr) H { aX with heap:=aX.heap.push nob }:=
  O.change (fun b o J e=>(fy.trans gC).keep b o e) (fun b o J e=>(fy.trans gC).keep b o e) (O.base.kp (fy.trans gC))
   (fun a e q=>q.elim (fun q=>q.elim id fun q=>absurd (fy.none (q ▸ nD)) e) fun q=>absurd (hwr a q).1 e)
   (fun a q=>q.elim (fun q=>q.elim (O.low.kp (fy.trans gC) a) fun q=>q ▸ exD) fun q x=>(hwr a q).2 (gC.none x))
 generalize hs3:({ aX with heap:=aX.heap.push nob }:Shared)=cJ at E8 gC;have sz3:cJ.heap.objs.size=D+1:=by rw [<- hs3];exact sz
 have h3:aX.heap.push nob=cJ.heap:=by rw [<- hs3]
 have e4:({ aX with heap:=pushCells ((aX.heap.push nob).push { cls:=.type "dict",data:=.dict #[] }) scope.names }:Shared)={ cJ with heap:=pushCells (cJ.heap.push { cls:=.type "dict",data:=.dict #[] }) scope.names }:=by rw [<- hs3]
 generalize hh4:pushCells (cJ.heap.push { cls:=.type "dict",data:=.dict #[] }) scope.names=uA;have jr:Kp cJ { cJ with heap:=uA }:=Kp.of (tk:=cJ.toks) fun b o e=>hh4 ▸ pushCells_keeps _ _ b o (au _ e)
 have kk:=gC.trans jr
 let yj:Addr->Prop:=fun a=>(V a\/a=D)\/(D+1<=a/\uA.get? a≠none)
 have CE:=x6 (V':=fun b=>yj b\/b∈wr) E8 hok hcl1 hcl2
  (fun a e q=>by
   rcases q with (q | q) | q
   ·exact .inl q
   ·refine absurd (show cJ.heap.get? a=none from ?_) e
    cases e:cJ.heap.get? a with
    | none=>rfl
    | some o=>have:=aV e;rw [sz3] at this;exact absurd this (dS.mpr q.1)
   ·exact .inr q)
  (fun a h e=>by rw [sz3] at h;rw [hh4] at e;exact .inl (.inr ⟨h,e⟩))
  (fun a q=>by
   rw [hh4];rcases q with (q | q) | q
   ·exact E8.low.kp jr a (.inl q)
   ·exact q.2
   ·exact E8.low.kp jr a (.inr q))
 rw [hh4,sz3] at CE;refine ir CE ?_;clear CE;intro T locs helds;obtain ⟨St,st,W⟩:=mk (fun b=>yj b\/b∈wr) (fun a e q=>by
  rcases q with ((q | q) | q) | q
  ·exact .inl q
  ·exact absurd (q ▸ nD) e
  ·exact absurd (noneOf a (aO (eh _) q.1)) e
  ·exact .inr q) fun b hb=>.inr hb
 have Fz:St 0 uA:=W.frame _ _ _ st fun b o J e=>kk.keep b o e;have L4:D+1=(eN scope env (D+1) cl).locals:=rfl;have GO:Acc D (fun b=>yj b\/b∈wr) [] uA:=by
  have a0:=first aX.heap (fun b=>yj b\/b∈wr);rw [hD,h3] at a0;exact (AK D).keep _ _ _ _ _ a0 ((AK D).ex _ _ _ a0) (fun o e=>jr.keep D o e) (fun b o n e=>jr.keep b o e) fun J J x=>x
 have eJ:∀ a,s.heap.get? a=none->G.base.get? a=none:=fun a h=>eJ O.base h;have ltD:∀ a,aX.heap.get? a≠none->@LT.lt Nat _ a D:=fun a e=>by
  cases q:aX.heap.get? a with
  | none=>exact absurd q e
  | some o=>have:=aV q;rw [hD] at this;exact this
 have hwr':∀ b∈wr,¬ yj b/\¬ fD (eN scope env (D+1) cl) H b/\G.base.get? b=none/\b≠D:=fun b hb=>by
  have lt:=ltD b (hwr b hb).2;refine ⟨?_,fun q=>?_,eJ b (hwr b hb).1,a6 lt⟩
  ·rintro ((q | q) | q)
   ·exact O.low b q (hwr b hb).1
   ·exact a6 lt q
   ·exact dS.mpr q.1 (bV lt)
  ·rcases helds b q with q | q
   ·exact dS.mpr q (bV lt)
   ·exact O.hex b q (hwr b hb).1
 have hD':¬ fD (eN scope env (D+1) cl) H D/\G.base.get? D=none:=by
  refine ⟨fun q=>?_,eJ D (fy.none nD)⟩;rcases helds D q with q | q
  ·exact Nat.not_succ_le_self _ q
  ·exact O.hex D q (fy.none nD)
 have hrow:codeAny (model ag w) A (.compLoop e 0 (.ref I) (.ref D) (eN scope env (D+1) cl)) (compPost (model ag w) A EF use Q (.ref D) (D+1)) { cJ with heap:=uA }:=by
  have F:mE G A (eN scope env (D+1) cl) scope.names yj H D g.target items I wr St:=⟨.inl (.inr rfl),T.vl.elim id fun q=>absurd fD.loc (hwr' _ q).2.1,fun x c h1 h2=>(T.vc x c h1 h2).elim id fun q=>absurd (fD.cell h2) (hwr' _ q).2.1,hwr',W⟩;refine xe (s:={ cJ with heap:=uA }) (V:=yj) ⟨K D (eN scope env (D+1) cl),AK D,hr.1,hD'⟩ n (fun m hm=>⟨S m (Nat.le_of_lt hm),EM m (Nat.le_of_lt hm) D _⟩) hr (by rw [hgens];rfl) (by rw [hgens];rfl) hg F ⟨T,Fz,GO⟩ rfl (bP _) gd fun s' T' acc' k'=>?_
  ·have kA:Kp s s':=by
    refine ⟨fun b o J e=>k'.heap b o (fun q=>?_) (kk.keep b o (fy.keep b o e)),k'.os.trans (kk.os.trans fy.os),fun q=>k'.gens (kk.gens (fy.gens q))⟩;have lt:=ltD b (by rw [fy.keep b o e];simp);rcases q with q | q | q
    ·exact dS.mpr (locs b q) (bV lt)
    ·rw [(hwr b q).1] at e;cases e
    ·exact a6 lt q
   refine hQ D (D+1) s' kA (fy.none nD) ((AK D).ex _ _ _ acc') (hD ▸ yx E6.base) (fy.none (noneOf _ (eh _))) (a6 (f9 _)) T'.ev.ns ?_;refine (AK D).keep _ _ _ _ _ acc' ((AK D).ex _ _ _ acc') (fun J e=>e) (bU.refl _ _) fun a e q=>?_;rcases q with q | q | q
   ·exact .inl (.inl q)
   ·exact .inl (.inr q)
   ·refine q ▸ ?_
    exact T'.vl
 have cls0:(clausesOf e)[0]?=some g:=by rw [hcls];rfl
 have asy:(Option.elim (some g) false fun x=>x.is_async != 0)=false:=by show (g.is_async != 0)=false;rw [has];rfl
 show codeAny (model ag w) A (.compStart e 0 (.ref I) (.ref D) (eN scope env (D+1) cl)) (compPost (model ag w) A EF use Q (.ref D) (D+1)) { aX with heap:=pushCells ((aX.heap.push nob).push { cls:=.type "dict",data:=.dict #[] }) scope.names }
 rw [e4,hh4];refine codeAny_of_tree ?_;rw [(K D _).under2,(K D _).den2];refine wpAny_notedAt ?_;refine wpAny_mono (E:=EF) ?_ (fun J J x=>x) fun J J x=>x.elim;unfold compStart;rw [cls0,asy];simp only [b0,if_false];refine wpAny_bind (wpAny_askSetting ?_);split
 ·exact wpAny_pure ⟨(K D _).quiet _ _,hrow⟩
 ·refine wpAny_bind (wpAny_rule (wpAny_bind (wpAny_standAt (wpAny_bind (wpAny_mono (W.self 0 _ Fz) (fun it' s' q=>?_) fun J J x=>x)))))
  rw [q.1,q.2];exact wpAny_pure ⟨(K D _).quiet _ _,hrow⟩
end
end Mine
end
section
namespace Mine
section
variable {A:Around}{s:Shared}{V H:Addr->Prop}{env:Env}{sc:Sc}{σ:SE}
variable {o:cV}{r n:Nat}
structure rC (G:GX ag w):Prop where
 range:cC G ("range":Str) (.type "range")
 enum:cC G ("enumerate":Str) (.type "enumerate")
 zip:cC G ("zip":Str) (.type "zip")
theorem vF {n:String} (h:keeperOf (.type n)=pure .machine):gR G (.type n):=fun J J=>⟨.machine,.inr (.inl rfl),.of_pure h⟩
theorem kY {t:Expr} (h:iO t=true):∃ es k pos,t=.Tuple es k pos:=by
 refine xE (aS.mp h) ?_;intro es he;refine AE (lX he) ?_;intro k q e;exact ⟨es,k,q,e⟩
theorem uE {t:Expr}{p:PV}{v:Value}{items:List PV} (hh:A.handled=none) (h:mM t p=some items) (x:G.Rep s.heap V p v):wpAny (model ag w) A (pyIter v) (i7 G A V t items s) EF s:=by
 refine iC h fun hc h=>?_
 cases p with
 | its l=>
  refine F5 (kY (t:=t) ((jy _).symm.trans hc)) ?_;rintro es k pos rfl;exact fh h fun J h=>by rw [bH h];exact Dd hh x
 | lst l=>exact fh h fun J h=>by rw [bH h];exact zS hh x
 | tup l=>exact fh h fun J h=>by rw [bH h];exact B3 hh x
 | dct l=>exact fh h fun J h=>by rw [bH h];exact Ca hh x
 | vals l=>exact fh h fun J h=>by rw [bH h];exact Aq hh x
 | str x'=>exact fh h fun J h=>by rw [bH h];exact A4 hh x
 | _=>exact nn h
theorem yO {t:Expr}{items:List PV}{s aG aX:Shared}{v:Value} (k:Kp s aG) (x:i7 G A V t items aG v aX):i7 G A V t items s v aX:=by
 refine mS x ?_;clear x;intro I wr e k' hw m;exact ⟨I,wr,e,k.trans k',fun b hb=>⟨k.none (hw b hb).1,(hw b hb).2⟩,m⟩
theorem vJ {e:Expr} (h:ya e=false):∀ x,foldedSetIterable e env x=pure x:=fun x=>by
 cases e with
 | Set a b c=>exact nomatch (show true=false from h)
 | _=>rfl
noncomputable def IP (G:GX ag w) (A:Around) (V:Addr->Prop) (s:Shared) (env:Env) (t e:Expr) (items:List PV):Prop:=wpAny (model ag w) A (eval e env) (fun x aG=>wpAny (model ag w) A (pyIter x) (i7 G A V t items s) EF aG) EF s
theorem oH {t:Expr}{items:List PV}{s aG:Shared}{m:Sem Value} (k:Kp s aG) (h:wpAny (model ag w) A m (i7 G A V t items aG) EF aG):wpAny (model ag w) A m (i7 G A V t items s) EF aG:=cK h fun J J g=>yO k g
theorem oJ (S:iE G o r n) {t:Expr}{f:Str}{tn:String}{items:List PV}{vs:List PV}{fp p:Pos}{args:List Expr} (hr:bz A (n+r)) (O:c3 G env sc σ V H s) (hg:cU sc σ f=true) (gl:cC G f (.type tn)) (kp:keeperOf (.type tn)=pure .machine) (hv:dK (ev o n sc σ) args=some vs)
  (h:∀ us aG,c3 G env sc σ V H aG->G.RepL aG.heap V vs us->wpAny (model ag w) A (call (.type tn) us) (fun x aX=>wpAny (model ag w) A (pyIter x) (i7 G A V t items aG) EF aX) EF aG):IP G A V s env t (.Call (.Name f fp) args [] p) items:=by
 refine xA (fe hg) ?_;intro hx hl;refine wpAny_Call_ofName (jD O hx hl gl (dw (vF kp) (fS hv) (cK (cX S hr hv O) fun us aG q=>⟨O.base.kp q.2,?_⟩)));exact cK (h us aG (O.kp q.2) q.1) fun x aX g=>cK g fun J J z=>yO q.2 z
theorem BG {t:Expr}{vs:List PV}{items:List PV}{us:List Value}{aG:Shared} (hh:A.handled=none) (h:BT vs=some items) (ru:G.RepL aG.heap V vs us):wpAny (model ag w) A (call (.type "range") us) (fun x aX=>wpAny (model ag w) A (pyIter x) (i7 G A V t items aG) EF aX) EF aG:=by
 cases vs with
 | nil=>exact nn h
 | cons a vs=>cases us with
  | nil=>exact False.elim ru
  | cons ua us=>
   refine cu (x:=cq a) (f:=fun i=>match vs with
  | []=>if fQ i=true then some (gJ 0 i) else none
  | b::r=>match r with
   | []=>(cq b).bind fun j=>if (fQ i && fQ j)=true then some (gJ i j) else none
   | _::_=>none) h fun i hi h=>?_
   refine xE (jX  hi ru.1) ?_;rintro u rfl
   cases vs with
   | nil=>cases us with
    | cons _ _=>exact False.elim ru.2
    | nil=>exact fh h fun hb h=>by rw [bH h];exact call_range_1 (oH dU (qg hh (by decide) hb (IsRange.new _ _ _ _ _ _ _)))
   | cons b vs=>cases us with
    | nil=>exact False.elim ru.2
    | cons ub us=>cases vs with
     | cons _ _=>exact nn h
     | nil=>cases us with
      | cons _ _=>exact False.elim ru.2.2
      | nil=>
       refine cu (x:=cq b) h fun j hj h=>fh h fun hb h=>?_;refine xE (jX  hj ru.2.1) ?_;rintro u' rfl;rw [bH h];exact call_range_2 (oH dU (qg hh (iq hb).1 (iq hb).2 (IsRange.new _ _ _ _ _ _ _)))
theorem ED {es:List Expr}{k:Nat}{pos:Pos}{vs:List PV}{items:List PV}{us:List Value}{aG:Shared} (hh:A.handled=none) (h:(lK vs).bind Bj=some items) (ru:G.RepL aG.heap V vs us):wpAny (model ag w) A (call (.type "enumerate") us) (fun x aX=>wpAny (model ag w) A (pyIter x) (i7 G A V (.Tuple es k pos) items aG) EF aX) EF aG:=by
 refine cu h fun a ha h=>cu h fun l hl h=>fh h fun J h=>?_;rw [gu ha] at ru;refine bO (RepL.one ru) ?_;rintro v rfl rv;rw [bH h];exact Al hh (gA hl ▸ rv)
theorem Gz {es:List Expr}{k:Nat}{pos:Pos}{vs:List PV}{items:List PV}{us:List Value}{aG:Shared} (hh:A.handled=none) (lo:kh V aG.heap) (h:Eu vs=some items) (ru:G.RepL aG.heap V vs us):wpAny (model ag w) A (call (.type "zip") us) (fun x aX=>wpAny (model ag w) A (pyIter x) (i7 G A V (.Tuple es k pos) items aG) EF aX) EF aG:=by
 cases vs with
 | nil=>exact nn h
 | cons a vs=>
  have h:(lK vs).bind (fun b=>dv (fun (l m:List PV)=>if l.length<=1048576 && m.length<=1048576 then some (lx l m) else none) (jm a) (jm b))=some items:=h;refine cu h fun b hb h=>b8 h fun l m hl hm h=>fh h fun J h=>?_;rw [gu hb] at ru;refine lz (RepL.two ru) ?_;rintro v v' rfl rv rv';rw [bH h];exact Di hh lo (gA hl ▸ rv) (gA hm ▸ rv')
theorem vK {e:Expr}{q:Str×List Expr} (h:nJ sc σ e=some q):(∃ fp p,e=.Call (.Name q.1 fp) q.2 [] p)/\cU sc σ q.1=true/\(q.1="range"\/q.1="enumerate"\/q.1="zip"):=by
 refine cu h fun q' hq h=>iC h fun hc h=>?_;rw [bH h];refine xA (iq hc) ?_;intro h1 h2;refine ⟨An hq,h1,?_⟩;rcases eQ.mp h2 with h2 | h2
 ·rcases eQ.mp h2 with h2 | h2
  ·exact .inl (beq_iff_eq.mp h2)
  ·exact .inr (.inl (beq_iff_eq.mp h2))
 ·exact .inr (.inr (beq_iff_eq.mp h2))
theorem vj (IO:rC G) (S:iE G o r n) {t:Expr}{f:Str}{vs items:List PV}{fp p:Pos}{args:List Expr} (hr:bz A (n+r)) (O:c3 G env sc σ V H s) (hg:cU sc σ f=true) (hf:f="range"\/f="enumerate"\/f="zip") (hv:dK (ev o n sc σ) args=some vs)
  (h:AX f (iO t) vs=some items):IP G A V s env t (.Call (.Name f fp) args [] p) items:=by
 rcases hf with rfl | rfl | rfl
 ·exact oJ S hr O hg IO.range rfl hv fun us aG J ru=>BG hr.1 h ru
 ·have h:gd (iO t) ((lK vs).bind Bj)=some items:=h
  refine iC h fun ht h=>?_;refine F5 (kY ht) ?_;rintro es k pos rfl;exact oJ S hr O hg IO.enum rfl hv fun us aG J ru=>ED hr.1 h ru
 ·have h:gd (iO t) (Eu vs)=some items:=h
  refine iC h fun ht h=>?_;refine F5 (kY ht) ?_;rintro es k pos rfl;exact oJ S hr O hg IO.zip rfl hv fun us aG oN ru=>Gz hr.1 oN.low h ru
theorem CC (IO:rC G) (S:iE G o r n) {t e:Expr}{items:List PV} (hr:bz A (n+1+r)) (h:evI o (n+1) sc σ t e=some items) (O:c3 G env sc σ V H s) :
  (∀ x,foldedSetIterable e env x=pure x)/\IP G A V s env t e items:=by
 have hr':bz A (n+r):=hr.le (by exact pn [_,_] 0x0DA1A180A10);have h:gd (!ya e) (match nJ sc σ e with
  | some q=>(dK (ev o n sc σ) q.2).bind (AX q.1 (iO t))
  | none=>(ev o n sc σ e).bind (mM t))=some items:=h
 refine iC h fun hn h=>⟨vJ (by simpa using hn),?_⟩
 cases hk:nJ sc σ e with
 | some q=>
  rw [hk] at h;refine ir (vK hk) ?_;rintro ⟨fp,p,e'⟩ hg hf;rw [e'];exact cu h fun vs hv h=>vj IO S hr' O hg hf hv h
 | none=>
  rw [hk] at h;exact cu h fun p hp h=>cK (S.ev hr' hp O) fun v aG q=>oH q.2 (uE hr.1 h q.1)
theorem Gg (h:Heap) (V:Addr->Prop):Cw G h.objs.size V [] (h.push { cls:=.type "list",data:=.seq ([]:List Value).toArray }):=
 ⟨[],⟨_,aH _ rfl⟩,by simp [GX.RepL,RepL]⟩
theorem Gy (h:Heap) (V:Addr->Prop):Ct G h.objs.size V [] (h.push { cls:=.type "dict",data:=.dict #[] }):=
 ⟨[],[],Heap.DictOf.new _,rfl,by simp [GX.RepD,RepD]⟩
theorem H4 (s:Shared) (Q:Value->Shared->Prop) (h:Q (.ref s.heap.objs.size) { s with heap:=s.heap.push { cls:=.type "list",data:=.seq ([]:List Value).toArray } }):wpAny (model ag w) A (newList []) Q EF s:=
 wpAny_newObj_type h (by show ([]:List Value).toArray.size<=sizeLine;simp)
theorem IT (s:Shared) (Q:Value->Shared->Prop) (h:Q (.ref s.heap.objs.size) { s with heap:=s.heap.push { cls:=.type "dict",data:=.dict #[] } }):wpAny (model ag w) A newDict Q EF s:=by
 unfold newDict newObj;exact wpAny_bind (wpAny_alloc (wpAny_pure h))
noncomputable def wi (G:GX ag w) (V:Addr->Prop) (D C:Addr) (p:PV) (h:Heap):Prop:=js G h (fun a=>(V a\/a=C)\/a=D) (·=D) p (.ref D)
theorem IS {D C:Addr}{new:List (PV×PV)}{h h':Heap} (ne:D≠C) (a:Cw G D (fun a=>V a\/a=D\/a=C) new h) (sb:dk C h h'):wi G V D C (.lst (new.map (·.2))) h':=by
 refine bO a ?_;clear a;rintro vs ⟨n,q⟩ rl;exact ⟨D,rfl,rfl,vs,⟨n,(sb.2 D ne).trans q⟩,RepL.keep (fun b o n e=>sb.extBut b o (fun q=>n (.inr (.inr q))) e) (fun a J x=>x.elim (fun x=>x.elim .inl fun x=>.inr (.inr x)) fun x=>.inr (.inl x)) rl⟩
theorem IB {D C:Addr}{new:List (PV×PV)}{l:List (Int×PV)}{h h':Heap} (z:(D == sysModules)=false) (ne:D≠C) (a:Ct G D (fun a=>V a\/a=D\/a=C) new h)
  (hl:cj new []=some l) (sb:dk C h h'):wi G V D C (.dct l) h':=by
 refine lz a ?_;clear a;rintro kvs l' ⟨ob,es,ep,q,zz⟩ e rd;rw [hl] at e;cases e;exact ⟨D,rfl,rfl,z,kvs,⟨ob,es,ep,(sb.2 D ne).trans q,zz⟩,RepD.keep (fun b o n e=>sb.extBut b o (fun q=>n (.inr (.inr q))) e) (fun a J x=>x.elim (fun x=>x.elim .inl fun x=>.inr (.inr x)) fun x=>.inr (.inl x)) rd⟩
theorem Ds {D C:Addr}{p:PV}{s':Shared}{h':Heap} (k:Kp s s') (nD:s.heap.get? D=none) (eD:s'.heap.get? D≠none) (nC:s.heap.get? C=none) (ne:D≠C) (sb:dk C s'.heap h') (t:wi G V D C p h'):Made G V s p (.ref D) { s' with heap:=h' }:=by
 refine ⟨(·=D),fun a e=>?_,js.keep (bU.refl _ _) (fun J J J e=>e) (fun a J x=>x.elim (fun x=>.inl (.inl x)) .inr) t,?_⟩
 ·subst e
  refine ⟨nD,?_⟩;show h'.get? a≠none;rw [sb.2 a ne];exact eD
 ·exact ⟨fun b o J e=>sb.extBut b o (fun q=>by rw [q,nC] at e;cases e) (k.keep b o e),k.os,k.gens⟩
theorem qG {g:Comprehension}{gs:List Comprehension}:firstIter (g::gs) env=eval g.iter env:=by
 obtain ⟨a,b,c,d⟩:=g;rfl
theorem Fy {h:Heap}{C:Addr} (x:∃ m,h.Ns C m):h.get? C≠none:=let ⟨_,_,_,_,e,_⟩:=x;bT e
theorem tw {g:Comprehension}{gs:List Comprehension}{items:List PV}{elt:Expr}{key:Option Expr}{rs:List (PV×PV)}{scN:Sc}{σ:SE} (h:k8 o n scN σ g items gs elt key=some rs):firstAsync (g::gs)=false:=by
 have:=ye (ue h)
 obtain ⟨a,b,c,d⟩:=g;exact this
noncomputable def yY (G:GX ag w) (A:Around) (V:Addr->Prop) (s:Shared) (p:PV) (use:Option (Value->Sem Unit)) (Q:Value->Shared->Prop):Prop:=
 ∀ (D C:Addr) (s':Shared),Kp s s'->s.heap.get? D=none->s'.heap.get? D≠none->s.heap.get? C=none->D≠C->s'.heap.get? C≠none->(∃ m,s'.heap.Ns C m)->(∀ h',dk C s'.heap h'->wi G V D C p h')->compPost (model ag w) A EF use Q (.ref D) C (.ok .next) s'
theorem sZ {elt:Expr}{gens:List Comprehension}{scope:Scope}{pos:Pos}{p:PV}{use:Option (Value->Sem Unit)}{Q:Value->Shared->Prop} (S:∀ m,m<=n->iE G o r m) (hr:bz A (n+r)) (O:c3 G env sc σ V H s) (hQ:yY G A V s p use Q) (h:ev o (n+1) sc σ (.ListComp elt gens scope pos)=some p) :
  wpAny (model ag w) A (comprehension (.ListComp elt gens scope pos) scope env (firstIterPos gens pos) (newList []) (firstAsync gens) (firstIter gens env) use) Q EF s:=by
 have h:gd (hZ sc scope) (match gens with
    | []=>none
    | g::gs=>(evI o n sc σ g.target g.iter).bind fun items=>(k8 o n scope.names (mA scope σ) g items gs elt none).bind fun rs=>qP (rs.map (·.2)))=some p:=h
 refine iC h fun hok h=>?_
 cases gens with
 | nil=>exact nn h
 | cons g gs=>
  refine cu h fun items hit h=>cu h fun rs hrs h=>fh h fun hz h=>?_;have h:=bH h;subst h;rw [tw hrs,qG];refine tq (n:=n) (g:=g) (gs:=gs) (Acc:=Cw G) (Gd:=G0) (emit:=fun acc cenv=>do let _ <- call (.builtin "list.append") [acc,<- eval elt cenv]) (elt:=elt) (key:=none) H4 rfl (fun D cenv=>xF) (fun D=>Ae) rfl S (fun m hm D cenv=>HD (S m hm)) Gg ?_ hr hok hit hrs O ?_
  ·unfold G0;rw [aa] at hz;exact hz
  ·exact fun D C s' k nD eD J nC ne hns acc=>hQ D C s' k nD eD nC ne (Fy hns) hns fun h' sb=>IS ne acc sb
theorem sw {kx v:Expr}{gens:List Comprehension}{scope:Scope}{pos:Pos}{p:PV}{use:Option (Value->Sem Unit)}{Q:Value->Shared->Prop} (S:∀ m,m<=n->iE G o r m) (hr:bz A (n+r)) (O:c3 G env sc σ V H s) (hQ:yY G A V s p use Q) (h:ev o (n+1) sc σ (.DictComp kx v gens scope pos)=some p) :
  wpAny (model ag w) A (comprehension (.DictComp kx v gens scope pos) scope env (firstIterPos gens pos) newDict (firstAsync gens) (firstIter gens env) use) Q EF s:=by
 have h:gd (hZ sc scope) ((lK gens).bind fun g=>
    (evI o n sc σ g.target g.iter).bind fun items=>(k8 o n scope.names (mA scope σ) g items [] v (some kx)).bind fun rs=>if rs.length<=1048576 then (cj rs []).map PV.dct else none)=some p:=h
 refine iC h fun hok h=>cu h fun g hg1 h=>cu h fun items hit h=>cu h fun rs hrs h=>fh h fun hz h=>?_;obtain ⟨l,hl,hp⟩:∃ l,cj rs []=some l/\p=.dct l:=lk (C:=fun p=>∃ l,cj rs []=some l/\p=.dct l) h fun l hl=>⟨l,hl,rfl⟩;have hg2:=gu hg1;subst hg2;subst hp;rw [tw hrs,qG];refine tq (n:=n) (g:=g) (gs:=[]) (Acc:=Ct G) (Gd:=IJ) (emit:=fun acc cenv=>match acc with
   | .ref D=>do
    let kv <- eval kx cenv
    let vv <- holding [kv] (eval v cenv)
    standAt { kx.pos with endLine:=v.pos.endLine,endCol:=v.pos.endCol }
    holding [kv,vv] (dictSet D kv vv)
   | _=>pure ()) (elt:=v) (key:=some kx) IT rfl (fun D cenv=>xu) (fun D=>zt) rfl S (fun m hm D cenv=>Hq (S m hm)) Gy ⟨hz,l,hl⟩ hr hok hit hrs O ?_
 exact fun D C s' k nD eD z nC ne hns acc=>hQ D C s' k nD eD nC ne (Fy hns) hns fun h' sb=>IB z ne acc hl sb
theorem Bb {p:PV}:yY G A V s p none (Made G V s p):=fun D C s' k nD eD nC ne eC hns mk=>by
 refine xE hns ?_;clear hns;intro m hm;exact ⟨m,hm,fun h' sb=>Ds k nD eD nC ne sb (mk h' sb)⟩
end
end Mine
end
section
namespace Mine
section
variable {A:Around}{s:Shared}{V H:Addr->Prop}{env:Env}{sc:Sc}{σ:SE}
variable {o:cV}{r n:Nat}
theorem Az {ps:List PV}{vs:List Value}{p:PV} (e:qP ps=some p) (x:G.RepL s.heap V ps vs):wpAny (model ag w) A (newList vs) (Made G V s p) EF s:=by
 refine fh e fun hz e=>?_;rw [bH e];refine wpAny_newObj_type ?_ (qm hz x);refine ⟨(·=s.heap.objs.size),fun a e=>?_,⟨_,rfl,rfl,vs,⟨_,aH _ rfl⟩,?_⟩,dU (tk:=s.toks)⟩
 ·subst e
  exact ⟨dP,by show (s.heap.push _).get? _≠none;rw [aH _ rfl];simp⟩
 ·exact RepL.keep (fun b o J e=>au _ e) (fun a e q=>q.elim id fun q=>absurd (q ▸ dP) e) x
theorem qW (S:∀ m,m<=n->iE G o r m) {e:Expr}{p:PV} (hm:nG e=true) (hr:bz A (n+r)) (h:ev o (n+1) sc σ e=some p) (O:c3 G env sc σ V H s):wpAny (model ag w) A (eval e env) (Made G V s p) EF s:=by
 have Sn:=S n (aE _)
 cases e with
 | List es pos=>exact cu (x:=dK (ev o n sc σ) es) (f:=qP) h fun ps hps h=>PyProof.Rows.List_ (cK (cX Sn hr hps O) fun vs aG q=>cK (Az h q.1) fun J J g=>za q.2 g)
 | Dict ks vs pos=>
  refine zs Sn hr h O fun l kvs s' e hd rd k=>?_;rw [e];refine ⟨(·=s.heap.objs.size),fun a e=>?_,⟨_,rfl,rfl,yx O.base,kvs,hd,rd⟩,k⟩;rw [show a=s.heap.objs.size from e];exact ⟨dP,ly hd⟩
 | ListComp=>exact sZ S hr O Bb h
 | DictComp=>exact sw S hr O Bb h
 | _=>exact nomatch (show false=true from hm)
theorem DX (OO:gE G o r) (MO:ug G r) (IO:rC G):∀ n,iE G o r n:=by
 intro n
 induction n using Nat.strongRecOn with
 | ind n ih=>
  cases n with
  | zero=>exact ⟨fun J h=>nn h,fun J h=>nn h,fun J h=>nn h,fun J h=>nn h,fun J h=>nn h,fun J h=>nn h,fun J h=>nn h,fun J h=>nn h,fun J h=>nn h⟩
  | succ n=>
   have S:∀ m,m<=n->iE G o r m:=fun m hm=>ih m (Nat.lt_succ_of_le hm);have Sn:=S n (aE _);exact ⟨Ej OO MO Sn fun hm hr h O=>cK (qW S hm (hr.le (by exact pn [_,_] 0x0DA1A180A10)) h O) fun J J m=>wQ O.low m,AL OO Sn,Cq Sn,A1 Sn,CQ Sn,yd Sn,z4 Sn,vn OO Sn,CC IO Sn⟩
theorem AS (S:∀ m,iE G o r m) {e:Expr}{p:PV} (hm:nG e=true) (hr:bz A (n+r)) (h:ev o n sc σ e=some p) (O:c3 G env sc σ V H s):wpAny (model ag w) A (eval e env) (Made G V s p) EF s:=by
 cases n with
 | zero=>exact nn h
 | succ n=>exact qW (fun m J=>S m) hm (hr.le (by exact pn [_,_] 0x0DA1A180A10)) h O
end
end Mine
end
section
namespace Mine
section
variable {A:Around}{s:Shared}{V H:Addr->Prop}{env:Env}{sc:Sc}{σ:SE}
variable {o:cV}{r n:Nat}{tag:Addr->Str}{P:Str->Value->Prop}
theorem Am {vs:List Value}{ps:List PV}{k:Nat}{tk:Nat} (x:G.RepL s.heap V ps vs) :
  Made G V s (.lst ps) (.ref s.heap.objs.size) { s with heap:=s.heap.push { cls:=.type "list",data:=.seq vs.toArray k },toks:=tk }:=by
 refine ⟨(·=s.heap.objs.size),fun a e=>?_,⟨_,rfl,rfl,vs,⟨_,aH _ rfl⟩,?_⟩,dU⟩
 ·subst e
  exact ⟨dP,by show (s.heap.push _).get? _≠none;rw [aH _ rfl];simp⟩
 ·exact RepL.keep (fun b o J e=>au _ e) (fun a e q=>q.elim id fun q=>absurd (q ▸ dP) e) x
theorem Bl {a b:PV}{p:PV}{va vb:Value} (e:jW .Add a b=some p) (ho:gw p=true) (ra:d8 G s.heap V a va) (rb:G.Rep s.heap V b vb) :
  wpAny (model ag w) A (binaryOp .Add va vb) (Made G V s p) EF s:=by
 have e:Gm a b=some p:=e
 cases a with
 | int x=>exact lk (C:=fun p=>gw p=true->wpAny (model ag w) A (binaryOp .Add va vb) (Made G V s p) EF s) e (fun y J h=>nomatch (show false=true from h)) ho
 | str x=>refine cu e fun y J e=>fh e fun J e=>?_;rw [bH e] at ho;exact nomatch (show false=true from ho)
 | lst x=>
  refine cu e fun y hy e=>fh e fun hz e=>?_;refine im (eH ra) ?_;rintro l rfl vs hl r;refine bG (Cg hy rb) ?_;rintro l' rfl _ us hl' r';rw [bH e];have h1:=of_decide_eq_true (iq hz).1;have h2:=of_decide_eq_true (iq hz).2;refine xE (qJ hl) ?_;intro n hl;refine xE (qJ hl') ?_;intro n' hl';refine PySem.P.add_list hl hl' ?_ (by rw [bu,aA,aA,<- RepL.length r,<- RepL.length r'];clear e hz ra rb hl hl' r r' ho;exact (pn [_,_] 0x0D0100000049A100D1000003910D100000390) h1 h2);rw [List.append_toArray];exact Am (tk:=s.toks) (RepL.append r r')
 | _=>exact nn e
theorem vX (S:∀ m,iE G o r m) {e:Expr}{p:PV} (hm:jh e=true) (ho:gw p=true) (hr:bz A (n+r)) (h:ev o n sc σ e=some p) (O:c3 G env sc σ V H s):wpAny (model ag w) A (eval e env) (Made G V s p) EF s:=by
 rcases eQ.mp hm with hm | hm
 ·cases e with
  | BinOp l op rt pos=>
   have hop:op=.Add:=beq_iff_eq.mp hm;subst hop
   cases n with
   | zero=>exact nn h
   | succ n=>
    have hr':bz A (n+r):=hr.le (by exact pn [_,_] 0x0DA1A180A10);refine b8 (f:=jW .Add) (x:=evP o n sc σ l) (y:=ev o n sc σ rt) h fun a b ha hb h=>wpAny_BinOp (cK ((S n).evP hr' ha O) fun va aG q=>cK ((S n).ev hr' hb (O.kp q.2)) fun vb aX q'=>?_);exact cK (Bl h ho (nS q'.2 q.1) q'.1) fun J J g=>za (q.2.trans q'.2) g
  | _=>exact nomatch (show false=true from hm)
 ·exact AS S hm hr h O
structure dh (G:GX ag w) (P:Str->Value->Prop) (env:Env) (sc:Sc) (σ:SE) (V H:Addr->Prop) (tag:Addr->Str) (s:Shared):Prop where
 st:d6 G env sc σ V H s
 hv:∀ a,H a->V a
 sep:∀ x p,σ.lookup x=some (true,p)->∃ v,dz env s.heap x v/\js G s.heap V (fun a=>H a/\tag a=x) p v
 fc:∀ x c,env.cells.lookup x=some c->¬ H c
 pin:∀ x v,P x v->dz env s.heap x v
 np:∀ x v,P x v->bh sc x=false
theorem kd {h:Heap}{x:Str}{v u:Value} (a:dz env h x v) (b:dz env h x u):v=u:=by
 rcases a with ⟨k,m,hm,e⟩ | ⟨k,c,hc,ob,ho,hd⟩<;>rcases b with ⟨k',m',hm',e'⟩ | ⟨k',c',hc',ob',ho',hd'⟩
 ·rw [Br hm hm',e'] at e;cases e;rfl
 ·rcases k' with q | q<;>(rw [k] at q;cases q)
 ·rcases k with q | q<;>(rw [k'] at q;cases q)
 ·rw [hc] at hc';cases hc'
  rw [ho] at ho';cases ho';rw [hd] at hd';cases hd';rfl
theorem js.mono {h:Heap}{V H H':Addr->Prop} (m:∀ a,H a->H' a) {p:PV}{v:Value} (x:js G h V H p v):js G h V H' p v:=by
 cases p with
 | lst l=>refine fw x ?_;clear x;intro a e n q;exact ⟨a,e,m a n,q⟩
 | dct l=>refine fw x ?_;clear x;intro a e n q;exact ⟨a,e,m a n,q⟩
 | obj c fs=>refine kF x ?_;clear x;intro a C d es ep e n q nd q2;exact ⟨a,C,d,es,ep,e,m a n,q,m d nd,q2⟩
 | _=>exact x.elim
theorem dh.notLoc {a:Addr} (W:dh G P env sc σ V H tag s) (h:H a):¬ lm env sc a:=by
 rintro (rfl | ⟨x,h1,h2⟩)
 ·exact W.st.hl h
 ·exact W.st.hc x a h1 h2 h
theorem dh.kp {s':Shared} (W:dh G P env sc σ V H tag s) (k:Kp s s'):dh G P env sc σ V H tag s':=
 ⟨W.st.kp k,W.hv,fun x p e=>by
  refine bO (W.sep x p e) ?_;intro v hv t;exact ⟨v,hv.keep (H:=H) fun a o J e=>k.keep _ _ e,js.keep (fun b o J e=>k.keep _ _ e) (fun a o J e=>k.keep _ _ e) (fun J J x=>x) t⟩,W.fc,fun x v q=>(W.pin x v q).keep (H:=H) fun a o J e=>k.keep _ _ e,W.np⟩
theorem dh.sub {aI:SE} (W:dh G P env sc σ V H tag s) (h:∀ x q,aI.lookup x=some q->σ.lookup x=some q):dh G P env sc aI V H tag s:=
 ⟨W.st.sub h,W.hv,fun x p e=>W.sep x p (h x _ e),W.fc,W.pin,W.np⟩
noncomputable def gk (G:GX ag w) (h:Heap) (V H:Addr->Prop) (tag:Addr->Str) (x:Str) (b:Bool) (p:PV) (v:Value):Prop:=if b then js G h V (fun a=>H a/\tag a=x) p v else G.Rep h V p v
theorem gk.slot {h:Heap}{x:Str}{b:Bool}{p:PV}{v:Value} (z:gk G h V H tag x b p v):jo G h V H b p v:=by
 cases b with
 | true=>exact js.mono (fun J q=>q.1) (z:js G h V _ p v)
 | false=>exact z
theorem gk.keep {h h':Heap}{x:Str}{b:Bool}{p:PV}{v:Value} (k:bU V h h') (kH:∀ a o,H a->h.get? a=some o->h'.get? a=some o) (z:gk G h V H tag x b p v):gk G h' V H tag x b p v:=by
 cases b with
 | true=>exact js.keep k (fun a o h=>kH a o h.1) (fun J J x=>x) (z:js G h V _ p v)
 | false=>exact Rep.keep k (fun J J x=>x) (z:G.Rep h V p v)
theorem dh.store {x:Str}{b:Bool}{p:PV}{v:Value} (W:dh G P env sc σ V H tag s) (hm:bh sc x=true) (r:gk G s.heap V H tag x b p v) :
  wpAny (model ag w) A (storeName env x v) (fun J s'=>dh G P env sc (SE.put σ x (b,p)) V H tag s'/\cS (lm env sc) s s') EF s:=by
 refine wpAny_mono (qO W.st hm r.slot) (fun J s' g=>⟨⟨g.1.1,W.hv,fun y q e=>?_,W.fc,fun y u q=>g.2.2 y u (fun e=>by have:=W.np y u q;rw [e,hm] at this;cases this) (W.pin y u q),W.np⟩,g.1.2⟩) fun J J x=>x;have kH:∀ a o,H a->s.heap.get? a=some o->s'.heap.get? a=some o:=fun a o h e=>g.1.2.heap a o (W.notLoc h) e;rw [eu] at e;by_cases hy:y=x
 ·subst hy
  rw [if_pos rfl] at e;cases e;exact ⟨v,g.2.1,(r.keep (g.1.2.loc W.st) kH:gk G s'.heap V H tag y true _ v)⟩
 ·rw [if_neg hy] at e
  refine bO (W.sep y q e) ?_;intro u hu t;exact ⟨u,g.2.2 y u hy hu,js.keep (g.1.2.loc W.st) (fun a o h e=>kH a o h.1 e) (fun J J x=>x) t⟩
theorem dh.name {x:Str}{pos:Pos}{b:Bool}{p:PV}{v:Value} (W:dh G P env sc σ V H tag s) (hm:bh sc x=true) (r:gk G s.heap V H tag x b p v) :
  wpAny (model ag w) A (assign (.Name x pos) env v) (fun J s'=>dh G P env sc (SE.put σ x (b,p)) V H tag s'/\cS (lm env sc) s s') EF s:=
 wpAny_assign_Name (W.store hm r)
open Classical in
theorem dh.grow {N:Addr->Prop}{x:Str}{s':Shared} (W:dh G P env sc σ V H tag s) (k:Kp s s') (hN:∀ a,N a->s.heap.get? a=none/\s'.heap.get? a≠none) :
  dh G P env sc σ (fun a=>V a\/N a) (fun a=>H a\/N a) (fun a=>if N a then x else tag a) s':=by
 refine ⟨W.st.grow k hN hN,fun a h=>h.imp (W.hv a) id,fun y q e=>?_,fun y c e h=>h.elim (W.fc y c e) fun h=>W.st.ev.hex c (.cell e) (hN c h).1,fun y u q=>(W.pin y u q).keep (H:=H) fun a o J e=>k.keep _ _ e,W.np⟩;refine bO (W.sep y q e) ?_;intro u hu t;refine ⟨u,hu.keep (H:=H) fun a o J e=>k.keep _ _ e,js.mono (H:=fun a=>H a/\tag a=y) (fun a h=>⟨.inl h.1,?_⟩) (js.keep (fun b o J e=>k.keep _ _ e) (fun a o J e=>k.keep _ _ e) (fun a e q=>q.elim id fun q=>absurd (hN a q).1 e) t)⟩;rw [if_neg]
 ·exact h.2
 ·intro hn
  exact W.st.ev.hex a (.own h.1) (hN a hn).1
structure j7 (V H V' H':Addr->Prop) (s:Shared):Prop where
 v:∀ a,V a->V' a
 v':∀ a,V' a->V a\/s.heap.get? a=none
 h:∀ a,H a->H' a
 h':∀ a,H' a->H a\/s.heap.get? a=none
theorem j7.refl:j7 V H V H s:=⟨fun J x=>x,fun J x=>.inl x,fun J x=>x,fun J x=>.inl x⟩
noncomputable def Nx (G:GX ag w) (P:Str->Value->Prop) (env:Env) (sc:Sc) (V H:Addr->Prop) (aI:SE) (s s':Shared):Prop:=
 ∃ V' H' tag',dh G P env sc aI V' H' tag' s'/\j7 V H V' H' s/\cS (ki env sc H) s s'
noncomputable def dc (G:GX ag w) (P:Str->Value->Prop) (env:Env) (sc:Sc) (V H:Addr->Prop) (s:Shared):Fl->SE->Flow->Shared->Prop
 | .next,aI,f,s'=>f=.next/\Nx G P env sc V H aI s s'
 | .brk,aI,f,s'=>f=.brk/\Nx G P env sc V H aI s s'
 | .ret p,_,f,s'=>∃ v,f=.ret v/\∃ V' H':Addr->Prop,j7 V H V' H' s/\G.Rep s'.heap (fun a=>V' a/\¬ H' a) p v/\cS (ki env sc H) s s'
theorem cS.locOwn {s s':Shared} (k:cS (lm env sc) s s'):cS (ki env sc H) s s':=k.mono fun J q=>.inl q
theorem j7.trans {V' H' V'' H'':Addr->Prop}{aI:SE}{tag':Addr->Str}{s':Shared} (W:dh G P env sc σ V H tag s) (x:j7 V H V' H' s) (W':dh G P env sc aI V' H' tag' s') (k:cS (ki env sc H) s s') (y:j7 V' H' V'' H'' s'):j7 V H V'' H'' s:=by
 have ex:∀ a,s'.heap.get? a=none->s.heap.get? a=none:=fun a e=>by
  cases q:s.heap.get? a with
  | none=>rfl
  | some ob=>
   by_cases oa:ki env sc H a
   ·exact absurd e (W'.st.ev.low a (x.v a (W.st.own W.hv oa)))
   ·rw [k.heap a ob oa q] at e;cases e
 exact ⟨fun a q=>y.v a (x.v a q),fun a q=>(y.v' a q).elim (x.v' a) fun q=>.inr (ex a q),fun a q=>y.h a (x.h a q),fun a q=>(y.h' a q).elim (x.h' a) fun q=>.inr (ex a q)⟩
theorem sH {V' H':Addr->Prop}{s' s'':Shared} (x:j7 V H V' H' s) (k:cS (ki env sc H) s s') (k':cS (ki env sc H') s' s''):cS (ki env sc H) s s'':=
 ⟨fun b ob n e=>k'.heap b ob (fun q=>q.elim (fun q=>n (.inl q)) fun q=>(x.h' b q).elim (fun q=>n (.inr q)) fun q=>by rw [q] at e;cases e) (k.heap b ob n e),k'.os.trans k.os,fun g=>k'.gens (k.gens g)⟩
theorem Nx.trans {V' H':Addr->Prop}{aI jP:SE}{tag':Addr->Str}{s' s'':Shared} (W:dh G P env sc σ V H tag s) (x:j7 V H V' H' s) (W':dh G P env sc aI V' H' tag' s') (k:cS (ki env sc H) s s') (y:Nx G P env sc V' H' jP s' s''):Nx G P env sc V H jP s s'':=by
 refine Df y ?_;clear y;intro V2 H2 tag2 w2 e2 k2;exact ⟨V2,H2,tag2,w2,j7.trans W x W' k e2,sH x k k2⟩
theorem dc.trans {V' H':Addr->Prop}{aI jP:SE}{tag':Addr->Str}{s' s'':Shared}{fl:Fl}{f:Flow} (W:dh G P env sc σ V H tag s) (x:j7 V H V' H' s) (W':dh G P env sc aI V' H' tag' s') (k:cS (ki env sc H) s s') (y:dc G P env sc V' H' s' fl jP f s''):dc G P env sc V H s fl jP f s'':=by
 cases fl with
 | next=>exact ⟨y.1,Nx.trans W x W' k y.2⟩
 | brk=>exact ⟨y.1,Nx.trans W x W' k y.2⟩
 | ret p=>
  refine nM y ?_;clear y;intro v e V2 H2 e2 rp k2;exact ⟨v,e,V2,H2,j7.trans W x W' k e2,rp,sH x k k2⟩
theorem dc.kp {aI:SE}{aG s':Shared}{fl:Fl}{f:Flow} (W:dh G P env sc σ V H tag s) (k:Kp s aG) (y:dc G P env sc V H aG fl aI f s'):dc G P env sc V H s fl aI f s':=
 dc.trans W j7.refl (W.kp k) (k.toU _) y
theorem xB {x:Str}{pos:Pos}{p:PV}{v:Value}{aG:Shared} (W:dh G P env sc σ V H tag s) (hm:bh sc x=true) (g:b4 G V s p v aG) :
  wpAny (model ag w) A (assign (.Name x pos) env v) (fun J s'=>Nx G P env sc V H (SE.put σ x (false,p)) s s') EF aG:=
 wpAny_mono ((W.kp g.2).name hm (b:=false) g.1) (fun J J q=>⟨V,H,tag,q.1,j7.refl,(g.2.toU _).trans q.2.locOwn⟩) fun J J x=>x
open Classical in
theorem zV {x:Str}{pos:Pos}{p:PV}{v:Value}{aG:Shared} (W:dh G P env sc σ V H tag s) (hm:bh sc x=true) (g:Made G V s p v aG) :
  wpAny (model ag w) A (assign (.Name x pos) env v) (fun J s'=>Nx G P env sc V H (SE.put σ x (true,p)) s s') EF aG:=by
 refine fw g ?_;clear g;intro N hN t k;have W':=W.grow (x:=x) k hN;refine wpAny_mono (W'.name hm (b:=true) ?_) (fun J s' q=>⟨_,_,_,q.1,⟨fun a h=>.inl h,fun a h=>h.imp id fun h=>(hN a h).1,fun a h=>.inl h,fun a h=>h.imp id fun h=>(hN a h).1⟩,(k.toU _).trans q.2.locOwn⟩) fun J J x=>x;exact js.mono (H:=N) (fun a h=>⟨.inr h,if_pos h⟩) t
end
end Mine
end
section
namespace Mine
section
variable {A:Around}{s:Shared}{V H:Addr->Prop}{env:Env}{sc:Sc}{σ:SE}
variable {o:cV}{r n:Nat}{tag:Addr->Str}{P:Str->Value->Prop}
theorem oj (its:Array Value) (n j:Nat) (x:Value) :
  ∃ n',Obj.mapSeq (·.setIfInBounds j x) { cls:=.type "list",data:=.seq its n }={ cls:=.type "list",data:=.seq (its.setIfInBounds j x) n' }:=by
 simp [Obj.mapSeq]
theorem rZ {l:Addr}{items:Array Value}{k:Int}{t:Tok}{v:Value}{Q:Unit->Shared->Prop}{E:Value->Shared->Prop} (hl:s.heap.PlainList l items)
  (h0:0<=k) (hfit:k < 2 ^ 63) (hn:k < items.size)
  (hQ:∀ h',h'.PlainList l (items.setIfInBounds k.toNat v)->dk l s.heap h'->Q () { s with heap:=h' }) :
  wpAny (model ag w) A (setItem (.ref l) (.int k t) v) Q E s:=by
 refine xE (id hl) ?_;intro ne ho;have hL:=hl.isList;unfold setItem
 try with_reducible refine wpAny_holding ?_
 first | refine wpAny_bind (wpAny_pure ?_) | skip
 refine wpAny_bind (wpAny_sequenceKey hL.typeIs (by decide) ?_);refine wpAny_bind (wpAny_callSpecial?_slot (name:=Str.ofString "__setitem__") hL.typeIs slot_list_setitem
  (wpAny_call_entry slot_list_setitem hL.typeIs entry_list_setitem ?_ (args_list_setitem _ _ _)))
 show wpAny _ _ (Builtin.List.listSubscript? (.int k t) >>= _) _ _ s;refine wpAny_bind (wpAny_listSubscript_int (fitsIndex_of h0 hfit) ?_);clear hfit;refine xE (Int.eq_ofNat_of_zero_le h0) ?_;rintro j rfl;have hj:j < items.size:=by exact (pn [_,_] 0x1D101E2C12C0) hn
 have hx':items[j]?=some items[j]:=Array.getElem?_eq_getElem hj;show wpAny _ _ ((seqItemAt l j >>= fun r=>pure (r.map (j,·))) >>= _) _ _ s;refine wpAny_bind (wpAny_bind (wpAny_seqItemAt ho rfl (wpAny_pure ?_)));rw [hx'];show wpAny _ _ (setSeqItemAt l j v >>= _) _ _ s;refine xE (oj items ne j v) ?_;intro n' e';have hfin:(s.heap.update l (Obj.mapSeq (·.setIfInBounds j v))).PlainList l (items.setIfInBounds j v):=
  ⟨n',by rw [Heap.get?_update_self _ ho (by rw [e'];rfl),e']⟩
 refine wpAny_bind (wpAny_setSeqItemAt ho rfl ?_)
 first
  | exact wpAny_bind (wpAny_pure (wpAny_pure ⟨.none,rfl,wpAny_pure (hQ _ hfin (Heap.SameBut.update ..))⟩))
  | exact wpAny_pure ⟨.none,rfl,wpAny_pure (hQ _ hfin (Heap.SameBut.update ..))⟩
theorem dh.mutate {x:Str}{p':PV}{v:Value}{s':Shared} (W:dh G P env sc σ V H tag s) (hv:dz env s.heap x v)
  (k:cS (fun a=>H a/\tag a=x) s s') (t:js G s'.heap V (fun a=>H a/\tag a=x) p' v) (ex:∀ a,H a->tag a=x->s'.heap.get? a≠none) :
  dh G P env sc (SE.put σ x (true,p')) V H tag s'/\cS (ki env sc H) s s':=by
 have hk:bU V s.heap s'.heap:=fun b o n e=>k.heap b o (fun q=>n (W.hv b q.1)) e;have keepF:∀ a o,fD env (fun J=>False) a->s.heap.get? a=some o->s'.heap.get? a=some o:=fun a o h e=>k.heap a o (fun q=>by
  rcases h with rfl | ⟨y,h⟩ | h
  ·exact W.st.hl q.1
  ·exact W.fc y a h q.1
  ·exact h) e
 have va:∀ {y u},dz env s.heap y u->dz env s'.heap y u:=fun h=>h.keep keepF;have kO:cS (ki env sc H) s s':=k.mono fun b q=>.inr q.1;have sepAll:∀ y q,(SE.put σ x (true,p')).lookup y=some (true,q)->∃ u,dz env s'.heap y u/\js G s'.heap V (fun a=>H a/\tag a=y) q u:=fun y q e=>by
  rw [eu] at e;by_cases hy:y=x
  ·rw [if_pos hy] at e;cases e
   rw [hy];exact ⟨v,va hv,t⟩
  ·rw [if_neg hy] at e
   refine bO (W.sep y q e) ?_;intro u hu tu;exact ⟨u,va hu,js.keep hk (fun a o h e=>k.heap a o (fun z=>hy (h.2.symm.trans z.2)) e) (fun J J x=>x) tu⟩
 refine ⟨⟨W.st.changed kO ?_ (fun y c e q=>?_) (fun a h=>?_) fun y b q e=>?_,W.hv,sepAll,W.fc,fun y u q=>va (W.pin y u q),W.np⟩,kO⟩
 ·refine xE W.st.ev.ns ?_;intro m hm;exact ⟨m,hm.at' fun o e=>keepF _ o .loc e⟩
 ·refine jw q ?_;clear q;intro u ob ho hd;exact ⟨u,ob,keepF c ob (.cell e) ho,hd⟩
 ·by_cases ht:tag a=x
  ·exact ex a h ht
  ·cases e:s.heap.get? a with
   | none=>exact absurd e (W.st.ev.hex a (.own h))
   | some ob=>rw [k.heap a ob (fun z=>ht z.2) e];simp
 ·cases b with
  | true=>
   refine bO (sepAll y q e) ?_;intro u hu tu;exact ⟨u,hu,js.mono (fun J z=>z.1) tu⟩
  | false=>
   rw [eu] at e;by_cases hy:y=x
   ·rw [if_pos hy] at e;cases e
   ·rw [if_neg hy] at e
    refine bO (W.st.ev.vars y false q e) ?_;intro u hu tu;exact ⟨u,va hu,Rep.keep hk (fun J J x=>x) (tu:G.Rep s.heap V q u)⟩
theorem mz {x:Str}{c i p c':PV}{iv v:Value} (W:dh G P env sc σ V H tag s) (hx:σ.lookup x=some (true,c)) (e:lY c i p=some c') (ri:G.Rep s.heap V i iv) (rv:G.Rep s.heap V p v) {cv:Value} (hc:dz env s.heap x cv) :
  wpAny (model ag w) A (setItem cv iv v) (fun J s'=>dh G P env sc (SE.put σ x (true,c')) V H tag s'/\cS (ki env sc H) s s') EF s:=by
 refine bO (W.sep x c hx) ?_;intro cv' hc' t
 cases kd hc' hc
 have fin:∀ {a:Addr}{s':Shared},H a/\tag a=x->dk a s.heap s'.heap->s'.os=s.os->s'.gens=s.gens->s'.heap.get? a≠none->js G s'.heap V (fun a=>H a/\tag a=x) c' cv ->
   dh G P env sc (SE.put σ x (true,c')) V H tag s'/\cS (ki env sc H) s s':=fun {a s'} ha sb os g ea t'=>
  W.mutate hc' ⟨fun b o n e=>sb.extBut b o (fun q=>n (q ▸ ha)) e,os,fun q=>by rw [g];exact q⟩ t' fun b hb ht=>by
   by_cases q:b=a
   ·rw [q];exact ea
   ·rw [sb.2 b q];exact W.st.ev.hex b (.own hb)
 refine cu e fun k hk e=>?_;refine xE (jX hk ri) ?_;rintro u rfl
 cases c with
 | lst l=>
  refine fh e fun h0 e=>?_;obtain ⟨j,hz,hj,hc2⟩:∃ j,l.length<=1048576/\eG k l.length=some j/\c'=.lst (l.set j p):=
   lk (C:=fun c'=>∃ j,l.length<=1048576/\eG k l.length=some j/\c'=.lst (l.set j p)) e fun l' h=>fh h fun hz h=>lk (C:=fun l'=>∃ j,l.length<=1048576/\eG k l.length=some j/\PV.lst l'=.lst (l.set j p)) h fun j hj=>⟨j,hz,hj,rfl⟩
  subst hc2;refine bG t ?_;clear t;rintro a rfl ha vs pl rl;have len:=RepL.length rl;refine t8 hj (fun h J J=>absurd h (Int.not_lt.mpr h0)) fun J hk2 hj2=>?_;subst hj2;refine rZ pl h0 (by clear rl pl W fin;lia) (by rw [aA,<- len];exact hk2) fun h' pl' sb=>fin ha sb rfl rfl (by refine xE pl' ?_;clear pl';intro _ q;exact bT q) ⟨a,rfl,ha,vs.set k.toNat v,?_,?_⟩
  ·have:(vs.set k.toNat v).toArray=vs.toArray.setIfInBounds k.toNat v:=by simp
   rw [this];exact pl'
  ·have hk:bU V s.heap h':=fun b o n e=>sb.extBut b o (fun q=>n (q ▸ W.hv a ha.1)) e
   exact RepL.set (Rep.keep hk (fun J J x=>x) rv) _ (RepL.keep hk (fun J J x=>x) rl)
 | dct l=>
  refine fh e fun hz e=>?_;have e:=bH e;subst e;refine cR t ?_;clear t;rintro a rfl ha z kvs d rd;refine wpAny_setItem_pairs (hsz:=by rw [bu,<- RepD.length rd];clear rd d W fin;exact (pn [_] 0x0D010000004900D100000390) hz) iZ d fun h' d' sb=>fin ha sb rfl rfl (by refine oX d' ?_;clear d';intro _ _ _ q _;exact bT q) ⟨a,rfl,ha,z,_,d',?_⟩;have hk:bU V s.heap h':=fun b o n e=>sb.extBut b o (fun q=>n (q ▸ W.hv a ha.1)) e;exact RepD.stored (Rep.keep hk (fun J J x=>x) rv) (RepD.keep hk (fun J J x=>x) rd)
 | _=>exact nn e
structure qN (G:GX ag w) (o:cV):Prop where
 set:∀ c a,o.fld c a=true->∃ C,G.cl c=some C /\
  ∀ (A:Around) (s:Shared) (x d:Addr) (es:Array DictEntry) (ep:Nat) (v:Value) (Q:Unit->Shared->Prop),G.In s.heap->A.handled=none ->
   s.heap.get? x=some { cls:=.ref C,dict:=some d,data:=.plain }->s.heap.get? d=some { cls:=.type "dict",data:=.dict es ep }->es.size<=100 ->
   (∀ V (fs:List (Str×PV)),G.RepF s.heap V fs es.toList ->
    (∀ h' tk es' ep',dk d s.heap h'->h'.get? d=some { cls:=.type "dict",data:=.dict es' ep' }->(∀ V p,G.RepF h' V fs es.toList->G.Rep h' V p v->G.RepF h' V (rB fs a p) es'.toList)->Q () { s with heap:=h',toks:=tk }) ->
    wpAny (model ag w) A (setAttr (.ref x) a v) Q EF s)
theorem RepF.length {cl:cG}{h:Heap}{fs:List (Str×PV)}{es:List DictEntry} (x:RepF ag w cl h V fs es):fs.length=es.length:=
 RepF.ind (C:=fun fs es=>fs.length=es.length) rfl (fun J J J J J J J J J ih=>congrArg gF ih) x
theorem r6 (SO:qN G o) {x a c:Str}{fs:List (Str×PV)}{p:PV}{v:Value} (hh:A.handled=none) (W:dh G P env sc σ V H tag s) (hx:σ.lookup x=some (true,.obj c fs)) (hf:o.fld c a=true) (hz:fs.length<=100) (rv:G.Rep s.heap V p v) {cv:Value} (hc:dz env s.heap x cv) :
  wpAny (model ag w) A (setAttr cv a v) (fun J s'=>dh G P env sc (SE.put σ x (true,.obj c (rB fs a p))) V H tag s'/\cS (ki env sc H) s s') EF s:=by
 refine bO (W.sep x _ hx) ?_;intro cv' hc' t
 cases kd hc' hc
 refine dm t ?_;clear t;rintro ad C d es ep rfl ha hC hd g gd rf;refine bO (SO.set c a hf) ?_;intro C' hC' set;rw [hC] at hC';cases hC';refine set A s ad d es ep v _ W.st.ev.base hh g gd (aO (Nat.le_of_eq ((bR).symm.trans (RepF.length rf).symm)) hz) V fs rf fun h' tk es' ep' sb gd' rf'=>?_;have nad:ad≠d:=by rintro rfl;rw [g] at gd;cases gd
 have hk:bU V s.heap h':=fun b o n e=>sb.extBut b o (fun q=>n (q ▸ W.hv d hd.1)) e;refine W.mutate hc' (s':={ s with heap:=h',toks:=tk }) ⟨fun b o n e=>sb.extBut b o (fun q=>n (q ▸ hd)) e,rfl,id⟩ ⟨ad,C,d,es',ep',rfl,ha,hC,hd,(sb.2 ad nad).trans g,gd',?_⟩ fun b hb ht=>?_
 ·exact rf' V p (RepF.keep hk (fun J J x=>x) rf) (Rep.keep hk (fun J J x=>x) rv)
 ·show h'.get? b≠none
  by_cases q:b=d
  ·rw [q,gd'];simp
  ·rw [sb.2 b q];exact W.st.ev.hex b (.own hb)
theorem uf {x:Str}{l:List PV}{p:PV}{v:Value} (W:dh G P env sc σ V H tag s) (hx:σ.lookup x=some (true,.lst l)) (hz:l.length<=1048576) (rv:G.Rep s.heap V p v) {cv:Value} (hc:dz env s.heap x cv) :
  wpAny (model ag w) A (call (.builtin "list.append") [cv,v]) (fun u s'=>u=.none/\dh G P env sc (SE.put σ x (true,.lst (l++[p]))) V H tag s'/\cS (ki env sc H) s s') EF s:=by
 refine bO (W.sep x _ hx) ?_;intro cv' hc' t
 cases kd hc' hc
 refine bG t ?_;clear t;rintro a rfl ha vs pl rl;have len:=RepL.length rl;refine wpAny_list_append_plain pl (hsz:=by rw [bu,aA];exact (pn [_,_] 0x0D010000004912D100D100000390) hz len) fun h' pl' sb=>⟨rfl,?_⟩;have hk:bU V s.heap h':=fun b o n e=>sb.extBut b o (fun q=>n (q ▸ W.hv a ha.1)) e;refine W.mutate hc' (s':={ s with heap:=h' }) ⟨fun b o n e=>sb.extBut b o (fun q=>n (q ▸ ha)) e,rfl,id⟩ ⟨a,rfl,ha,vs++[v],?_,?_⟩ fun b hb ht=>?_
 ·have:(vs++[v]).toArray=vs.toArray.push v:=by simp
  rw [this];exact pl'
 ·exact RepL.snoc (RepL.keep hk (fun J J x=>x) rl) (Rep.keep hk (fun J J x=>x) rv)
 ·show h'.get? b≠none
  by_cases q:b=a
  ·rw [q];refine xE pl' ?_;clear pl';intro _ z;exact bT z
  ·rw [sb.2 b q];exact W.st.ev.hex b (.own hb)
theorem dh.freeze (W:dh G P env sc σ V H tag s):c3 G env sc (GV σ) (fun a=>V a/\¬ H a) (fun J=>False) s:=by
 have E:=W.st.ev;refine ⟨E.base,E.kind,E.gl,E.bi,E.ns,E.glob,E.loc,E.cel,fun x b p e=>?_,fun a h=>E.hnb a ?_,fun a h=>E.hex a ?_,fun a h=>E.low a h.1⟩
 ·have:∃ b',σ.lookup x=some (b',p)/\b=false:=by
   clear W E
   induction σ with
   | nil=>cases e
   | cons q r ih=>
    obtain ⟨y,b1,p1⟩:=q;unfold GV at e;rw [aw,aP] at e;rw [aP]
    cases hy:x == y with
    | true=>rw [hy] at e;cases e;exact ⟨b1,rfl,rfl⟩
    | false=>rw [hy] at e;exact ih e
  refine bO this ?_;clear this;rintro b' hb rfl;refine bO (E.vars x b' p hb) ?_;intro v hv hs;refine ⟨v,hv,?_⟩;show G.Rep s.heap _ p v;have keepAll:bU V s.heap s.heap:=bU.refl _ _
  cases b' with
  | false=>exact Rep.keep keepAll (fun J J x=>x.1) (hs:G.Rep s.heap V p v)
  | true=>
   have hs:js G s.heap V H p v:=hs
   cases p with
   | lst l=>
    refine bG hs ?_;clear hs;intro a e n vs q r;exact dC.mpr ⟨a,e,fun z=>z.2 n,vs,q,RepL.keep keepAll (fun J J x=>x.1) r⟩
   | dct l=>
    refine cR hs ?_;clear hs;intro a e n z kvs q r;exact ew.mpr ⟨a,e,fun z=>z.2 n,z,kvs,q,RepD.keep keepAll (fun J J x=>x.1) r⟩
   | obj c fs=>
    refine dm hs ?_;clear hs;intro a C d es ep e n q nd g gd r;exact dj a ⟨C,d,es,ep,e,fun z=>z.2 n,q,fun z=>z.2 nd,g,gd,RepF.keep keepAll (fun J J x=>x.1) r⟩
   | _=>exact hs.elim
 ·rcases h with h | h | h
  ·exact .inl h
  ·exact .inr (.inl h)
  ·exact h.elim
 ·rcases h with h | h | h
  ·exact .inl h
  ·exact .inr (.inl h)
  ·exact h.elim
end
end Mine
end
section
namespace Mine
section
variable {A:Around}{s:Shared}{V H:Addr->Prop}{env:Env}{sc:Sc}{σ:SE}
variable {o:cV}{r n:Nat}{tag:Addr->Str}{P:Str->Value->Prop}
theorem dh.upd {U V':Addr->Prop}{s':Shared} (W:dh G P env sc σ V H tag s) (k:cS U s s') (hU:∀ b,U b->V b/\¬ fD env H b/\G.base.get? b=none)
  (m:∀ a,s.heap.get? a≠none->V' a->V a) (ex:kh V' s'.heap) (vl:V' env.locals) (vc:∀ x c,sc.lookup x=some .cell->env.cells.lookup x=some c->V' c) (hv:∀ a,H a->V' a):dh G P env sc σ V' H tag s':=
 ⟨W.st.upd k hU m ex vl vc,hv,fun x p e=>by
  refine bO (W.sep x p e) ?_;intro v va t;exact ⟨v,va.keep (H:=H) fun a o h e=>k.heap a o (fun q=>(hU a q).2.1 h) e,js.keep (fun b o n e=>k.heap b o (fun q=>n (hU b q).1) e) (fun a o h e=>k.heap a o (fun q=>(hU a q).2.1 (.own h.1)) e) m t⟩,W.fc,fun y u q=>(W.pin y u q).keep (H:=H) fun a o h e=>k.heap a o (fun q=>(hU a q).2.1 h) e,W.np⟩
open Classical in
theorem dh.grow2 {N M:Addr->Prop}{x:Str}{s':Shared} (W:dh G P env sc σ V H tag s) (k:Kp s s') (hM:∀ a,M a->s.heap.get? a=none/\s'.heap.get? a≠none) (nm:∀ a,N a->M a) :
  dh G P env sc σ (fun a=>V a\/M a) (fun a=>H a\/N a) (fun a=>if N a then x else tag a) s':=by
 refine ⟨W.st.grow k (fun a h=>hM a (nm a h)) hM,fun a h=>h.imp (W.hv a) (nm a),fun y q e=>?_,fun y c e h=>h.elim (W.fc y c e) fun h=>W.st.ev.hex c (.cell e) (hM c (nm c h)).1,fun y u q=>(W.pin y u q).keep (H:=H) fun a o J e=>k.keep _ _ e,W.np⟩;refine bO (W.sep y q e) ?_;intro u hu t;refine ⟨u,hu.keep (H:=H) fun a o J e=>k.keep _ _ e,js.mono (H:=fun a=>H a/\tag a=y) (fun a h=>⟨.inl h.1,?_⟩) (js.keep (fun b o J e=>k.keep _ _ e) (fun a o J e=>k.keep _ _ e) (fun a e q=>q.elim id fun q=>absurd (hM a q).1 e) t)⟩;show (if N a then x else tag a)=y;rw [if_neg]
 ·exact h.2
 ·intro hn
  exact W.st.ev.hex a (.own h.1) (hM a (nm a hn)).1
noncomputable def HZ (ag:Program) (w:World) (A:Around) (env:Env) (x:Str) (act:Value->Sem Unit):Prop:=∀ (s:Shared) (v:Value) (Q:Unit->Shared->Prop),wpAny (model ag w) A (storeName env x v) Q EF s->wpAny (model ag w) A (act v) Q EF s
theorem vV {x:Str}{q:Pos}:HZ ag w A env x (assign (.Name x q) env):=fun J J J h=>wpAny_assign_Name h
theorem Bc {x:Str}:HZ ag w A env x (fun v=>bindName env x v):=fun J J J h=>wpAny_bindName h
inductive ez (G:GX ag w) (A:Around) (env:Env) (sc:Sc) (V H:Addr->Prop) (tag:Addr->Str) (h:Heap):List (Str×Bool×PV)->List (Value->Sem Unit)->List Value->Prop
 | nil:ez G A env sc V H tag h [] [] []
 | cons {x:Str}{b:Bool}{p:PV}{v:Value}{act:Value->Sem Unit}{L acts vs}:bh sc x=true->gk G h V H tag x b p v->HZ ag w A env x act->ez G A env sc V H tag h L acts vs->ez G A env sc V H tag h ((x,b,p)::L) (act::acts) (v::vs)
theorem ez.keep {h h':Heap} (k:bU V h h') (kH:∀ a o,H a->h.get? a=some o->h'.get? a=some o) {L acts vs} (x:ez G A env sc V H tag h L acts vs):ez G A env sc V H tag h' L acts vs:=by
 induction x with
 | nil=>exact .nil
 | cons a b c _ ih=>exact .cons a (b.keep k kH) c ih
theorem ez.append {h:Heap}{L acts vs L' acts' vs'} (x:ez G A env sc V H tag h L acts vs) (y:ez G A env sc V H tag h L' acts' vs'):ez G A env sc V H tag h (L++L') (acts++acts') (vs++vs'):=by
 induction x with
 | nil=>exact y
 | cons a b c _ ih=>exact .cons a b c ih
theorem ez.reverse {h:Heap}{L acts vs} (x:ez G A env sc V H tag h L acts vs):ez G A env sc V H tag h L.reverse acts.reverse vs.reverse:=by
 induction x with
 | nil=>exact .nil
 | cons a b c _ ih=>rw [List.reverse_cons,List.reverse_cons,List.reverse_cons];exact ih.append (.cons a b c .nil)
theorem ez.length {h:Heap}{L acts vs} (x:ez G A env sc V H tag h L acts vs):acts.length=vs.length:=by
 induction x with
 | nil=>rfl
 | cons _ _ _ _ ih=>exact congrArg gF ih
noncomputable def putL (σ:SE) (L:List (Str×Bool×PV)):SE:=L.foldl (fun σ q=>SE.put σ q.1 q.2) σ
theorem kz:∀ {L acts vs}{σ:SE}{s:Shared},ez G A env sc V H tag s.heap L acts vs->dh G P env sc σ V H tag s ->
  wpAny (model ag w) A (assignInOrder acts vs) (fun J s'=>dh G P env sc (putL σ L) V H tag s'/\cS (lm env sc) s s') EF s:=fun {L}=>by
 induction L with
 | nil=>intro acts vs σ s x W;cases x with
  | nil=>exact wpAny_assignInOrder_none ⟨W,cS.refl _ _⟩
 | cons q L ih=>intro acts vs σ s x W;cases x with
  | cons hm sl ac rest=>
   refine wpAny_assignInOrder_more (ac _ _ _ (cK (W.store hm sl) fun J aG g=>?_));exact cK (ih (rest.keep (g.2.loc W.st) fun a o h e=>g.2.heap a o (W.notLoc h) e) g.1) fun J J g'=>⟨g'.1,g.2.trans g'.2⟩
theorem jl {y:Str}:∀ {L:List (Str×Bool×PV)}{σ:SE},(∀ q∈L,q.1≠y)->(putL σ L).lookup y=σ.lookup y
 | [],_,_=>rfl
 | (x,u)::L,σ,h=>by
  show (putL (SE.put σ x u) L).lookup y=_;rw [jl fun q hq=>h q (.tail _ hq),eu,if_neg];exact fun e=>h _ (.head _) e.symm
theorem nY {y:Str}{u:Bool×PV}:∀ {L:List (Str×Bool×PV)}{σ:SE},(L.map (·.1)).Nodup->(y,u)∈L->(putL σ L).lookup y=some u
 | (x,v)::L,σ,hn,h=>by
  rw [aw,bI] at hn;show (putL (SE.put σ x v) L).lookup y=_;rcases ar.mp h with h1 | h1
  ·cases h1
   rw [jl,eu,if_pos rfl];rintro q hq rfl;exact hn.1 (aB.mpr ⟨q,hq,rfl⟩)
  ·exact nY hn.2 h1
theorem tL {L:List (Str×Bool×PV)} (hn:(L.map (·.1)).Nodup) (y:Str):(putL σ L.reverse).lookup y=(putL σ L).lookup y:=by
 have hr:(L.reverse.map (·.1)).Nodup:=by rw [List.map_reverse];unfold List.Nodup at *;exact List.pairwise_reverse.mpr (hn.imp fun h=>Ne.symm h)
 by_cases h:∃ u,(y,u)∈L
 ·refine xE h ?_;clear h;intro u hu
  rw [nY hn hu,nY hr (List.mem_reverse.mpr hu)]
 ·have no:∀ q∈L,q.1≠y:=fun q hq e=>h ⟨q.2,by rw [<- e];exact hq⟩
  rw [jl no,jl fun q hq=>no q (List.mem_reverse.mp hq)]
noncomputable def dD (xs:List Str) (ps:List PV):List (Str×Bool×PV):=(xs.zip ps).map fun q=>(q.1,false,q.2)
theorem uv:∀ {ts:List Expr}{xs:List Str}{ps:List PV}{vs:List Value}{σ aI:SE},c8 ts=some xs->dn sc xs ps σ=some aI->G.RepL s.heap V ps vs ->
  ez G A env sc V H tag s.heap (dD xs ps) ((assignEach ts env).map (·.2)) vs/\aI=putL σ (dD xs ps):=fun {ts}=>by
 induction ts with
 | nil=>
  intro xs ps vs σ aI hn hb r;rw [bH hn] at hb ⊢;refine iC hb fun hp hb=>?_;rw [dQ hp] at r
  cases vs with
  | cons v vs=>exact False.elim r
  | nil=>rw [bH hb];exact ⟨.nil,rfl⟩
 | cons t ts ih=>
  intro xs ps vs σ aI hn hb r;refine b8 hn fun x ys hx hys h3=>?_;refine xE (cE hx) ?_;rintro q rfl;rw [bH h3] at hb ⊢
  cases ps with
  | nil=>exact nn hb
  | cons p ps=>
   refine fh hb fun hm hb=>?_
   cases vs with
   | nil=>exact False.elim r
   | cons v vs=>
    refine xA (ih hys hb r.2) ?_;intro h1 h2;exact ⟨.cons hm (b:=false) r.1 vV h1,h2⟩
theorem nL {xs:List Str}{ts:List Expr}{k:Nat}{q:Pos}{ps:List PV}{v:Value}{aI:SE} (hh:A.handled=none) (W:dh G P env sc σ V H tag s) (hn:c8 ts=some xs) (hb:dn sc xs ps σ=some aI) (r:G.Rep s.heap V (.tup ps) v) :
  wpAny (model ag w) A (assign (.Tuple ts k q) env v) (fun J s'=>dh G P env sc aI V H tag s'/\cS (lm env sc) s s') EF s:=by
 refine bG (fN.mp r) ?_;rintro a rfl nV us ht ru;refine xA (uv (A:=A) (H:=H) (tag:=tag) hn hb ru (env:=env)) ?_;intro h1 h2;have len:=h1.length;rw [aa] at len;refine wpAny_assign_Tuple hh ht (by rw [len];rfl) (mQ (env:=env) hn).1 fun h' eb=>?_;have k:Kp s { s with heap:=h' }:=Kp.of (tk:=s.toks) fun b o e=>eb b o (a6 (aV e)) e
 rw [h2];exact cK (kz (h1.keep (fun b o J e=>k.keep b o e) (fun b o J e=>k.keep b o e)) (W.kp k)) fun J J g=>⟨g.1,(k.toU _).trans g.2⟩
theorem dh.bindT {t:Expr}{p:PV}{v:Value}{aI:SE} (hh:A.handled=none) (W:dh G P env sc σ V H tag s) (hb:bindT sc t p σ=some aI) (r:G.Rep s.heap V p v) :
  wpAny (model ag w) A (assign t env v) (fun J s'=>dh G P env sc aI V H tag s'/\cS (lm env sc) s s') EF s:=
 xd hb (fun x q e hm h=>by rw [e,h];exact W.name hm (b:=false) r) fun ts k q xs vs e hxs hp hb=>by rw [e];exact nL hh W hxs hb (hp ▸ r)
noncomputable def tD:Expr->Bool
 | .ListComp ..=>true
 | .SetComp ..=>true
 | .DictComp ..=>true
 | _=>false
theorem zi {v:Expr} (h:tD v=false) (t:Expr) (l:Nat):swapsWithSole [t] v l env=pure false:=by
 cases v with
 | ListComp a b c d=>exact nomatch (show true=false from h)
 | DictComp a b c d e=>exact nomatch (show true=false from h)
 | SetComp a b c d=>exact nomatch (show true=false from h)
 | _=>rfl
theorem mw {t v:Expr}{l:Nat} (h:dZ t=none):swapsWithSole [t] v l env=pure false:=by
 by_cases hc:tD v=true
 ·cases v with
  | ListComp a b c d=>cases t<;>first | rfl | exact nn h.symm
  | DictComp a b c d e=>cases t<;>first | rfl | exact nn h.symm
  | SetComp a b c d=>cases t<;>first | rfl | exact nn h.symm
  | _=>exact nomatch (show false=true from hc)
 ·exact zi (Bool.eq_false_iff.mpr hc) t l
theorem Ag {x:Str}{q:Pos}{b:Bool}{p:PV}{D C:Addr}{s':Shared} (W:dh G P env sc σ V H tag s) (hm:bh sc x=true) (k:Kp s s') (nD:s.heap.get? D=none) (eD:s'.heap.get? D≠none) (nC:s.heap.get? C=none) (ne:D≠C) (eC:s'.heap.get? C≠none)
  (hns:∃ m,s'.heap.Ns C m) (t:wi G V D C p s'.heap) (hb:b=true\/b=false) :
  wpAny (model ag w) A (assign (.Name x q) env (.ref D)) (fun J s''=>∃ m,s''.heap.Ns C m/\∀ h',dk C s''.heap h'->Nx G P env sc V H (SE.put σ x (b,p)) s { s'' with heap:=h' }) EF s':=by
 have nLoc:¬ lm env sc C:=fun l=>W.st.ev.hex C (ki.held (H:=H) (.inl l)) nC;have baseC:G.base.get? C=none:=by
  cases e:G.base.get? C with
  | none=>rfl
  | some ob=>have:=W.st.ev.base C ob e;rw [nC] at this;cases this
 have nVC:¬ V C:=fun z=>W.st.ev.low C z nC;have nVD:¬ V D:=fun z=>W.st.ev.low D z nD;have nsKeep:∀ {s'':Shared},cS (lm env sc) s' s''->∃ m,s''.heap.Ns C m:=fun {s''} g=>by
  refine xE hns ?_;clear hns;intro m hm;exact ⟨m,hm.at' fun o e=>g.heap C o nLoc e⟩
 have kAll:∀ {s'':Shared}{h':Heap},cS (lm env sc) s' s''->dk C s''.heap h'->cS (ki env sc H) s { s'' with heap:=h' }:=fun {s'' h'} g sb=>
  ⟨fun b o n e=>sb.extBut b o (fun z=>by rw [z,nC] at e;cases e) (g.heap b o (fun l=>n (.inl l)) (k.keep b o e)),g.os.trans k.os,fun z=>g.gens (k.gens z)⟩
 cases b with
 | true=>
  have W':=W.grow2 (N:=(·=D)) (M:=fun a=>a=D\/a=C) (x:=x) k (fun a (h:a=D\/a=C)=>by rcases h with h | h<;>rw [h];exact ⟨nD,eD⟩;exact ⟨nC,eC⟩) fun a h=>.inl h;refine wpAny_mono (W'.name hm (b:=true) (p:=p) ?_) (fun J s'' g=>?_) fun J J x=>x
  ·refine js.mono (H:=(·=D)) (fun a h=>⟨.inr h,if_pos h⟩) ?_
   exact js.keep (V:=fun a=>(V a\/a=C)\/a=D) (bU.refl _ _) (fun J J J e=>e) (fun a J z=>z.elim (fun z=>.inl (.inl z)) fun z=>z.elim .inr fun z=>.inl (.inr z)) t
  ·refine xE (nsKeep g.2) ?_;intro m hm'
   refine ⟨m,hm',fun h' sb=>⟨fun a=>V a\/a=D,_,_,g.1.upd (U:=(·=C)) (s':={ s'' with heap:=h' }) ⟨fun b o n e=>sb.extBut b o n e,rfl,id⟩ (fun b hb=>?_) (fun a J z=>z.imp id .inl) (fun a z=>?_) (.inl W.st.vl) (fun y c h1 h2=>.inl (W.st.vc y c h1 h2)) (fun a z=>z.imp (W.hv a) id),?_,kAll g.2 sb⟩⟩
   ·subst hb
    refine ⟨.inr (.inr rfl),?_,baseC⟩;rintro (z | z | z | z)
    ·exact nLoc (.inl z)
    ·refine xE z ?_;clear z;intro y z;exact W.st.ev.hex b (.cell z) nC
    ·exact nVC (W.hv _ z)
    ·exact ne z.symm
   ·have aC:a≠C:=by
     rintro rfl;exact z.elim nVC fun z=>ne z.symm
    show h'.get? a≠none;rw [sb.2 a aC];exact g.1.st.ev.low a (z.imp id .inl)
   ·exact ⟨fun a h=>.inl h,fun a h=>h.imp id fun (h:a=D)=>by rw [h];exact nD,fun a h=>.inl h,fun a h=>h.imp id fun (h:a=D)=>by rw [h];exact nD⟩
 | false=>
  have W':=W.grow2 (N:=fun J=>False) (M:=(·=C)) (x:=x) k (fun a h=>by have h:a=C:=h;rw [h];exact ⟨nC,eC⟩) fun a (h:False)=>h.elim;have rp:G.Rep s'.heap (fun a=>V a\/a=C) p (.ref D):=by
   have nd:¬ (V D\/D=C):=fun z=>z.elim nVD ne;have km:∀ a,s'.heap.get? a≠none->(V a\/a=C)->((V a\/a=C)\/a=D):=fun a J z=>.inl z
   cases p with
   | lst l=>refine bG t ?_;clear t;intro a e n vs z r;exact dC.mpr ⟨a,e,n ▸ nd,vs,z,RepL.keep (bU.refl _ _) km r⟩
   | dct l=>refine cR t ?_;clear t;intro a e n z0 vs z r;exact ew.mpr ⟨a,e,n ▸ nd,z0,vs,z,RepD.keep (bU.refl _ _) km r⟩
   | obj c fs=>
    refine dm t ?_;clear t;intro a C' d es ep e n z n2 g gd r;exact dj a ⟨C',d,es,ep,e,n ▸ nd,z,n2 ▸ nd,g,gd,RepF.keep (bU.refl _ _) km r⟩
   | _=>exact t.elim
  refine wpAny_mono (W'.name hm (b:=false) (p:=p) rp) (fun J s'' g=>?_) fun J J x=>x;refine xE (nsKeep g.2) ?_;intro m hm';refine ⟨m,hm',fun h' sb=>⟨V,_,_,g.1.upd (U:=(·=C)) (s':={ s'' with heap:=h' }) ⟨fun b o n e=>sb.extBut b o n e,rfl,id⟩ (fun b hb=>?_) (fun a J z=>.inl z) (fun a z=>?_) W.st.vl W.st.vc (fun a z=>z.elim (W.hv a) fun z=>z.elim),?_,kAll g.2 sb⟩⟩
  ·subst hb
   refine ⟨.inr rfl,?_,baseC⟩;rintro (z | z | z | z)
   ·exact nLoc (.inl z)
   ·refine xE z ?_;clear z;intro y z;exact W.st.ev.hex b (.cell z) nC
   ·exact nVC (W.hv _ z)
   ·exact z
  ·have aC:a≠C:=by rintro rfl;exact nVC z
   show h'.get? a≠none;rw [sb.2 a aC];exact g.1.st.ev.low a (.inl z)
  ·exact ⟨fun a h=>h,fun a h=>.inl h,fun a h=>.inl h,fun a h=>h.elim .inl fun z=>z.elim⟩
theorem Ad {x:Str}{q:Pos}{v:Expr}:swappedStores [.Name x q] v env=pure none:=by cases v<;>rfl
noncomputable def sv (G:GX ag w) (A:Around) (P:Str->Value->Prop) (env:Env) (sc:Sc) (V H:Addr->Prop) (s:Shared) (ts:List Expr) (v:Expr) (pos:Pos) (aI:SE):Prop:=wpAny (model ag w) A (exec (.Assign ts v pos) env) (dc G P env sc V H s .next aI) EF s
theorem sS (S:∀ m,iE G o r m) {x:Str}{b:Bool}{q pos:Pos}{v:Expr}{p:PV} (hr:bz A (n+r)) (W:dh G P env sc σ V H tag s) (hm:bh sc x=true) (ho:b=true->jh v=true/\gw p=true)
  (hv:ev o n sc σ v=some p) (h1:swapsWithSole [.Name x q] v pos.line env=pure false):sv G A P env sc V H s [.Name x q] v pos (SE.put σ x (b,p)):=by
 refine wpAny_Assign_stores ?_ h1 Ad;show wpAny _ _ (eval v env) (fun v aG=>wpAny _ _ (assign (.Name x q) env v) (fun J s'=>dc G P env sc V H s .next _ .next s') EF aG) EF s
 cases b with
 | true=>exact cK (vX S (ho rfl).1 (ho rfl).2 hr hv W.st.ev) fun u aG g=>cK (zV W hm g) fun J J z=>⟨rfl,z⟩
 | false=>exact cK ((S n).ev hr hv W.st.ev) fun u aG g=>cK (xB W hm g) fun J J z=>⟨rfl,z⟩
theorem HI {x:Str}{q:Pos}{b:Bool}{p:PV} (W:dh G P env sc σ V H tag s) (hm:bh sc x=true):yY G A V s p (some fun v=>assignAll v ((assignEach [.Name x q] env).map (·.2))) (fun J s'=>Nx G P env sc V H (SE.put σ x (b,p)) s s'):=
 fun D C s' k nD eD nC ne eC hns mk=>Ag (q:=q) W hm k nD eD nC ne eC hns (mk s'.heap (Heap.SameBut.refl _ _)) (by cases b;exact .inr rfl;exact .inl rfl)
theorem BJ (S:∀ m,iE G o r m) {x:Str}{b:Bool}{q pos:Pos}{v:Expr}{p:PV} (hr:bz A (n+1+r)) (W:dh G P env sc σ V H tag s) (hm:bh sc x=true)
  (hv:ev o (n+1) sc σ v=some p) (h1:swapsWithSole [.Name x q] v pos.line env=pure true) (hc:tD v=true):sv G A P env sc V H s [.Name x q] v pos (SE.put σ x (b,p)):=by
 have hr':bz A (n+r):=hr.le (by exact pn [_,_] 0x0DA1A180A10);show wpAny _ _ _ _ _ _;rw [exec_Assign_arm,h1];refine wpAny_bind (wpAny_standAt (wpAny_bind (wpAny_pure ?_)));rw [if_pos rfl];have U:=HI (A:=A) (q:=q) (b:=b) (p:=p) W hm
 cases v with
 | ListComp elt gens scope cpos=>
  show wpAny _ _ ((comprehension _ scope env (firstIterPos gens cpos) (newList []) (firstAsync gens) (firstIter gens env) _ >>= fun J=>pure ()) >>= fun J=>pure Flow.next) _ _ _;exact wpAny_bind (wpAny_bind (cK (sZ (fun m J=>S m) hr' W.st.ev U hv) fun J s' z=>wpAny_pure (wpAny_pure ⟨rfl,z⟩)))
 | DictComp kx vx gens scope cpos=>
  show wpAny _ _ ((comprehension _ scope env (firstIterPos gens cpos) newDict (firstAsync gens) (firstIter gens env) _ >>= fun J=>pure ()) >>= fun J=>pure Flow.next) _ _ _;exact wpAny_bind (wpAny_bind (cK (sw (fun m J=>S m) hr' W.st.ev U hv) fun J s' z=>wpAny_pure (wpAny_pure ⟨rfl,z⟩)))
 | SetComp=>exact nn hv
 | _=>exact nomatch (show false=true from hc)
theorem xK {x:Str}{q:Pos}{v:Expr}{l:Nat}:∃ b,swapsWithSole [.Name x q] v l env=pure b:=by
 cases v<;>exact ⟨_,rfl⟩
theorem uW (S:∀ m,iE G o r m) {Wn:List Str}{x:Str}{q pos:Pos}{v:Expr}{aI:SE} (hr:bz A (n+r)) (W:dh G P env sc σ V H tag s) (h:FJ Wn (ev o n sc σ) sc σ x v=some aI):sv G A P env sc V H s [.Name x q] v pos aI:=by
 refine iC h fun hown h=>cu h fun p hv h=>?_;have h:(if (bh sc x && (!Wn.contains x || gw p))=true then some (SE.put σ x (Wn.contains x,p)) else none)=some aI:=h;refine fh h fun hc h=>?_;refine xA (iq hc) ?_;intro hm ho;rw [bH h];have own:Wn.contains x=true->jh v=true/\gw p=true:=fun hw=>by
  rw [hw] at hown ho;exact ⟨by simpa using hown,ho⟩
 by_cases hc:tD v=true
 ·refine xE (xK (env:=env) (x:=x) (q:=q) (v:=v) (l:=pos.line)) ?_;intro b hb
  cases b with
  | false=>exact sS S hr W hm own hv hb
  | true=>
   cases n with
   | zero=>exact nn hv
   | succ n=>exact BJ S hr W hm hv hb hc
 ·exact sS S hr W hm own hv (zi (Bool.eq_false_iff.mpr hc) _ _)
end
end Mine
end
section
namespace Mine
section
variable {A:Around}{s:Shared}{V H:Addr->Prop}{env:Env}{sc:Sc}{σ:SE}
variable {o:cV}{r n:Nat}{tag:Addr->Str}{P:Str->Value->Prop}
noncomputable def nz (env:Env) (line:Nat):Expr->Option Str
 | .Name id pos=>if env.kindOf id == some .local && pos.line == line then some id else none
 | _=>none
theorem uc {env:Env}{line:Nat}:∀ {ts:List Expr}{xs:List Str},c8 ts=some xs->(ts.filterMap (nz env line)).length<=ts.length/\((ts.filterMap (nz env line)).length=ts.length->ts.filterMap (nz env line)=xs):=by
 intro ts
 induction ts with
 | nil=>intro xs h;rw [bH h];exact ⟨aE _,fun J=>rfl⟩
 | cons t ts ih=>
  intro xs h;refine b8 h fun x ys hx hys h3=>?_;refine xE (cE hx) ?_;rintro q rfl;refine xA (ih hys) ?_;intro h1 h2;rw [bH h3];by_cases hc:(env.kindOf x == some .local && q.line == line)=true
  ·rw [List.filterMap_cons_some (b:=x) (show nz env line (.Name x q)=some x from if_pos hc)]
   exact ⟨Nat.succ_le_succ h1,fun e=>congrArg (x::·) (h2 (Nat.succ.inj e))⟩
  ·rw [List.filterMap_cons_none (show nz env line (.Name x q)=none from if_neg hc)]
   exact ⟨Nat.le_succ_of_le h1,fun e=>absurd (e ▸ h1) (Nat.not_succ_le_self _)⟩
set_option tactic.hygienic true in
theorem si {ts vs:List Expr}{xs:List Str}{k k':Nat}{p p':Pos} (hn:c8 ts=some xs) (hc:vs.all (constantsAlone 8)=false) :
  swappedStores [.Tuple ts k p] (.Tuple vs k' p') env=pure none\/swappedStores [.Tuple ts k p] (.Tuple vs k' p') env=pure (some xs):=by
 unfold swappedStores;dsimp only;split
 ·exact .inl rfl
 ·split
  ·exact .inl rfl
  ·split
   ·exact .inl rfl
   ·rename_i h1 h2 h3
    split
    ·exact .inl rfl
    ·rw [hc]
     right
     have fl:=uc (env:=env) (line:=(ts.head?.map (·.pos.line)).getD 0) hn;simp only [dF,not_or,bne_iff_ne,ne_eq,Decidable.not_not] at h3;rw [if_neg (by decide)];exact congrArg (fun l=>(pure (some l):Sem (Option (List Str)))) (fl.2 h3.1)
inductive fW (G:GX ag w) (V H:Addr->Prop) (tag:Addr->Str) (h:Heap):List (Str×Bool×PV)->List Value->Prop
 | nil:fW G V H tag h [] []
 | cons {x:Str}{b:Bool}{p:PV}{v:Value}{L vs}:gk G h V H tag x b p v->fW G V H tag h L vs->fW G V H tag h ((x,b,p)::L) (v::vs)
theorem fW.keep {h h':Heap} (k:bU V h h') (kH:∀ a o,H a->h.get? a=some o->h'.get? a=some o) {L vs} (x:fW G V H tag h L vs):fW G V H tag h' L vs:=by
 induction x with
 | nil=>exact .nil
 | cons b _ ih=>exact .cons (b.keep k kH) ih
theorem fW.length {h:Heap}{L vs} (x:fW G V H tag h L vs):L.length=vs.length:=by
 induction x with
 | nil=>rfl
 | cons _ _ ih=>exact congrArg gF ih
noncomputable def oc (Wn:List Str) (xs:List Str) (ps:List PV):List (Str×Bool×PV):=(xs.zip ps).map fun q=>(q.1,Wn.contains q.1,q.2)
theorem uO {Wn:List Str}:∀ {xs:List Str}{ps:List PV}{σ aI:SE},iT Wn sc xs ps σ=some aI->aI=putL σ (oc Wn xs ps)/\(∀ x∈xs,bh sc x=true)/\(∀ q∈xs.zip ps,Wn.contains q.1=true->gw q.2=true)/\xs.length=ps.length:=fun {xs}=>by
 induction xs with
 | nil=>
  intro ps σ aI h;refine iC h fun hp h=>?_;rw [dQ hp,bH h];exact ⟨rfl,fun J h=>(nomatch h),fun J h=>(nomatch h),rfl⟩
 | cons x xs ih=>
  intro ps σ aI h
  cases ps with
  | nil=>exact nn h
  | cons p ps=>
   refine fh h fun hc h=>?_;refine xA (iq hc) ?_;intro hm ho;refine pE (ih h) ?_;intro h1 h2 h3 h4;refine ⟨h1,fun y hy=>(ar.mp hy).elim (fun e=>e ▸ hm) (h2 y),fun q hq hw=>?_,congrArg gF h4⟩;rcases ar.mp hq with rfl | hq
   ·rw [hw] at ho;exact ho
   ·exact h3 q hq hw
theorem Ap {N:Addr->Prop}{x:Str}{s':Shared} (k:Kp s s') (hN:∀ a,N a->s.heap.get? a=none/\s'.heap.get? a≠none) {y:Str}{b:Bool}{q:PV}{u:Value}{tag':Addr->Str} (ht:∀ a,¬ N a->tag' a=tag a) (hs:gk G s.heap V H tag y b q u) :
  gk G s'.heap (fun a=>V a\/N a) (fun a=>H a\/N a) tag' y b q u:=by
 have gr:∀ a,s.heap.get? a≠none->(V a\/N a)->V a:=fun a e q=>q.elim id fun q=>absurd (hN a q).1 e;have k1:bU V s.heap s'.heap:=fun b o J e=>k.keep b o e;have hn:∀ {a:Addr},s.heap.get? a≠none->H a/\tag a=y->(H a\/N a)/\tag' a=y:=fun e h=>⟨.inl h.1,(ht _ fun n=>e (hN _ n).1).trans h.2⟩
 cases b with
 | false=>exact Rep.keep k1 gr (hs:G.Rep s.heap V q u)
 | true=>
  have hs:js G s.heap V (fun a=>H a/\tag a=y) q u:=hs;show js G s'.heap _ (fun a=>(H a\/N a)/\tag' a=y) q u
  cases q with
  | lst l=>refine bG hs ?_;clear hs;intro a e n vs z r;exact ⟨a,e,hn (uY z) n,vs,by refine xE z ?_;clear z;intro m z;exact ⟨m,k.keep _ _ z⟩,RepL.keep k1 gr r⟩
  | dct l=>refine cR hs ?_;clear hs;intro a e n z0 vs z r;exact ⟨a,e,hn (ly z) n,z0,vs,fU (V:=fun J=>False) k.heap id z,RepD.keep k1 gr r⟩
  | obj c fs=>refine dm hs ?_;clear hs;intro a C' d es ep e n z n2 g gd r;exact ⟨a,C',d,es,ep,e,hn (bT g) n,z,hn (bT gd) n2,k.keep _ _ g,k.keep _ _ gd,RepF.keep k1 gr r⟩
  | _=>exact hs.elim
noncomputable def rq (G:GX ag w) (P:Str->Value->Prop) (env:Env) (sc:Sc) (σ:SE) (V H:Addr->Prop) (tag:Addr->Str) (s:Shared) (L:List (Str×Bool×PV)) (vs:List Value) (s':Shared):Prop:=
 ∃ V' H' tag',dh G P env sc σ V' H' tag' s'/\j7 V H V' H' s/\Kp s s'/\(∀ x b p v,gk G s.heap V H tag x b p v->gk G s'.heap V' H' tag' x b p v)/\fW G V' H' tag' s'.heap L vs
theorem rq.step {rV DE:Addr->Prop}{uB:Addr->Str}{aG s':Shared}{x:Str}{b:Bool}{p:PV}{v:Value}{L:List (Str×Bool×PV)}{vs:List Value} (W:dh G P env sc σ V H tag s) (jQ:dh G P env sc σ rV DE uB aG) (GP:j7 V H rV DE s) (E9:Kp s aG) (IY:∀ x b p v,gk G s.heap V H tag x b p v->gk G aG.heap rV DE uB x b p v)
  (sl:gk G aG.heap rV DE uB x b p v) (g:rq G P env sc σ rV DE uB aG L vs s'):rq G P env sc σ V H tag s ((x,b,p)::L) (v::vs) s':=by
 refine qh g ?_;clear g;intro IZ I0 GQ mi I1 fy HQ ss;exact ⟨IZ,I0,GQ,mi,j7.trans W GP jQ (E9.toU _) I1,E9.trans fy,fun x b p v h=>HQ _ _ _ _ (IY _ _ _ _ h),.cons (HQ _ _ _ _ sl) ss⟩
open Classical in
theorem uK (S:∀ m,iE G o r m) (hr:bz A (n+r)) {Wn:List Str}{pos:Pos}:∀ {es:List Expr}{xs:List Str}{ps:List PV}{V H:Addr->Prop}{tag:Addr->Str}{s:Shared},wu Wn xs es=true->dK (ev o n sc σ) es=some ps ->
  (∀ q∈xs.zip ps,Wn.contains q.1=true->gw q.2=true)->dh G P env sc σ V H tag s ->
  wpAny (model ag w) A (spliced (backTo pos (starEach es env))) (rq G P env sc σ V H tag s (oc Wn xs ps)) EF s:=fun {es}=>by
 induction es with
 | nil=>
  intro xs ps V H tag s ho hp _ W;rw [bH hp]
  cases xs with
  | cons x xs=>exact nomatch (show false=true from ho)
  | nil=>exact Calls.spliced_nil ⟨V,H,tag,W,j7.refl,cS.refl _ _,fun J J J J h=>h,.nil⟩
 | cons e es ih=>
  intro xs ps V H tag s ho hp hown W;refine b8 hp fun p qs h1 h2 h3=>?_;have h3:=bH h3;subst h3
  cases xs with
  | nil=>exact nomatch (show false=true from ho)
  | cons x xs=>
   refine xA (iq ho) ?_;intro hoe ho2;have hown':∀ q∈xs.zip qs,Wn.contains q.1=true->gw q.2=true:=fun q hq=>hown q (.tail _ hq);rw [gM (ja h1),gK];show wpAny _ _ _ (rq G P env sc σ V H tag s ((x,Wn.contains x,p)::oc Wn xs qs)) _ _
   cases hw:Wn.contains x with
   | true=>
    have hmo:jh e=true:=by rw [hw] at hoe;exact hoe
    refine Calls.spliced_cons (cK (vX S hmo (hown (x,p) (.head _) hw) hr h1 W.st.ev) fun v aG g=>?_);refine fw g ?_;clear g;intro N hN t k;have jQ:=W.grow (x:=x) k hN;refine cK (ih ho2 h2 hown' jQ) fun vs aX g=>rq.step W jQ ⟨fun a h=>.inl h,fun a h=>h.imp id fun h=>(hN a h).1,fun a h=>.inl h,fun a h=>h.imp id fun h=>(hN a h).1⟩ k (fun y b q u hs=>Ap (x:=x) k hN (fun a n=>if_neg n) hs) ?_ g;exact js.mono (H:=N) (fun a h=>⟨.inr h,if_pos h⟩) t
   | false=>
    refine Calls.spliced_cons (cK ((S n).ev hr h1 W.st.ev) fun v aG g=>?_);have jQ:=W.kp g.2;exact cK (ih ho2 h2 hown' jQ) fun vs aX g'=>rq.step W jQ j7.refl g.2 (fun y b q u hs=>hs.keep (fun b o J e=>g.2.keep b o e) fun a o J e=>g.2.keep a o e) g.1 g'
theorem uh {h:Heap}{Wn:List Str} (hm:∀ x∈(xs:List Str),bh sc x=true) (act:Str->Value->Sem Unit) (ha:∀ x,HZ ag w A env x (act x)):∀ {ps:List PV}{vs:List Value},xs.length=ps.length->fW G V H tag h (oc Wn xs ps) vs->ez G A env sc V H tag h (oc Wn xs ps) (xs.map act) vs:=by
 induction xs with
 | nil=>
  intro ps vs hl sl
  cases ps with
  | cons _ _=>cases hl
  | nil=>cases sl;exact .nil
 | cons x xs ih=>
  intro ps vs hl sl
  cases ps with
  | nil=>cases hl
  | cons p ps=>
   have sl2:fW G V H tag h ((x,Wn.contains x,p)::oc Wn xs ps) vs:=sl
   cases sl2 with
   | cons s1 rest=>exact .cons (hm _ (.head _)) s1 (ha _) (ih (fun y hy=>hm y (.tail _ hy)) (Nat.succ.inj hl) rest)
theorem se {h:Heap}{Wn:List Str}:∀ {ts:List Expr}{xs:List Str}{ps:List PV}{vs:List Value},c8 ts=some xs->(∀ x∈(xs:List Str),bh sc x=true)->xs.length=ps.length->fW G V H tag h (oc Wn xs ps) vs ->
  ez G A env sc V H tag h (oc Wn xs ps) ((assignEach ts env).map (·.2)) vs:=fun {ts}=>by
 induction ts with
 | nil=>
  intro xs ps vs hn _ hl sl;rw [bH hn] at hl sl ⊢
  cases ps with
  | cons _ _=>cases hl
  | nil=>cases sl;exact .nil
 | cons t ts ih=>
  intro xs ps vs hn hm hl sl;refine b8 hn fun x ys hx hys h3=>?_;refine xE (cE hx) ?_;rintro q rfl;have h3:=bH h3;subst h3
  cases ps with
  | nil=>cases hl
  | cons p ps=>
   have sl2:fW G V H tag h ((x,Wn.contains x,p)::oc Wn ys ps) vs:=sl
   cases sl2 with
   | cons s1 rest=>exact .cons (hm _ (.head _)) s1 vV (ih hys (fun y hy=>hm y (.tail _ hy)) (Nat.succ.inj hl) rest)
theorem t7 (S:∀ m,iE G o r m) {Wn:List Str}{xs:List Str}{ts vs:List Expr}{k k':Nat}{p p' pos:Pos}{ps:List PV}{aI:SE} (hr:bz A (n+r)) (W:dh G P env sc σ V H tag s) (hn:c8 ts=some xs) (hl:ts.length=vs.length) (hnd:xs.Nodup)
  (ho:wu Wn xs vs=true) (h8:vs.length=2\/vs.length=3) (hc:vs.all (constantsAlone 8)=false) (hv:dK (ev o n sc σ) vs=some ps) (hb:iT Wn sc xs ps σ=some aI) :
  wpAny (model ag w) A (exec (.Assign [.Tuple ts k p] (.Tuple vs k' p') pos) env) (dc G P env sc V H s .next aI) EF s:=by
 refine pE (uO hb) ?_;intro hb1 hm how hlen;rw [exec_Assign_arm];refine wpAny_bind (wpAny_standAt ?_);rw [mw rfl];refine wpAny_bind (wpAny_pure ?_);rw [if_neg (by decide)];refine wpAny_bind ?_;refine PyProof.Rows.Tuple_ (wpAny_mono (uK S hr ho hv how W) (fun us aG g=>?_) fun J J x=>x);refine qh g ?_;clear g;intro V' H' tag' jQ GP E9 _ sl;have lenU:=sl.length;have psz:us.length<=3:=by
  rw [<- lenU];unfold oc;rw [aa,List.length_zip]
  have:=v1 hv
  exact (pn [_,_,_] 0x0D380C212D202D211F2D3802D280) h8 hlen this
 refine wpAny_newObj_type ?_ (by show us.toArray.size<=sizeLine;rw [aA,bu];exact (pn [_] 0x0D010000004900D380) psz);generalize hT:aG.heap.objs.size=T;have fy:Kp aG { aG with heap:=aG.heap.push { cls:=.type "tuple",data:=.seq us.toArray } }:=dU (tk:=aG.toks)
 have ht:(aG.heap.push { cls:=.type "tuple",data:=.seq us.toArray }).IsTuple T us.toArray:=hT ▸ ⟨_,aH _ rfl,rfl,_,rfl⟩;generalize HR:({ aG with heap:=aG.heap.push { cls:=.type "tuple",data:=.seq us.toArray } }:Shared)=aX at fy;have hh2:aG.heap.push { cls:=.type "tuple",data:=.seq us.toArray }=aX.heap:=by rw [<- HR]
 rw [hh2] at ht;have mi:=jQ.kp fy;have FA:fW G V' H' tag' aX.heap (oc Wn xs ps) us:=sl.keep (fun b o J e=>fy.keep b o e) fun b o J e=>fy.keep b o e;have lus:us.length=xs.length:=by
  rw [<- lenU];unfold oc;rw [aa,List.length_zip];exact (pn [_,_] 0x2D00C102D10) hlen
 have done:∀ {cJ s':Shared}{L:List (Str×Bool×PV)},Kp aX cJ->dh G P env sc (putL σ L) V' H' tag' s'->cS (lm env sc) cJ s'->(∀ y,(putL σ L).lookup y=(putL σ (oc Wn xs ps)).lookup y)->dc G P env sc V H s .next aI .next s':=fun {cJ s' L} gC W' kl hl=>by
  refine ⟨rfl,V',H',tag',W'.sub (fun x q e=>?_),GP,?_⟩
  ·rw [hl x,<- hb1];exact e
  ·exact (Kp.toU ((E9.trans fy).trans gC) _).trans kl.locOwn
 rcases si (env:=env) (k:=k) (k':=k') (p:=p) (p':=p') hn hc with hsw | hsw
 ·rw [hsw]
  refine wpAny_bind (wpAny_pure ?_);show wpAny _ A (assign (.Tuple ts k p) env (.ref T) >>= fun J=>pure Flow.next) _ _ _;have st:=se (A:=A) (env:=env) hn hm hlen FA;have hstar:=(mQ (env:=env) hn).1;have l2:=st.length;rw [aa] at l2;refine wpAny_bind (wpAny_assign_Tuple hr.1 ht (by rw [l2];simp) hstar fun h' eb=>?_);have gC:Kp aX { aX with heap:=h' }:=Kp.of (tk:=aX.toks) fun b o e=>eb b o (a6 (aV e)) e
  exact wpAny_mono (kz (st.keep (fun b o J e=>gC.keep b o e) (fun b o J e=>gC.keep b o e)) (mi.kp gC)) (fun J s' g=>wpAny_pure (done gC g.1 g.2 fun J=>rfl)) fun J J x=>x
 ·rw [hsw]
  refine wpAny_bind (wpAny_pure ?_);show wpAny _ A (rule "assign.swapped-stores" >>= fun J=>unpackItems (.ref T) xs.length none >>= fun items=>assignInOrder (xs.reverse.map fun n=>bindName env n) items.reverse >>= fun J=>pure Flow.next) _ _ _;refine wpAny_bind (wpAny_rule (wpAny_bind ?_));rw [show xs.length=us.toArray.size by rw [aA,lus]];refine wpAny_unpackItems_tuple hr.1 ht fun h' eb=>?_;have gC:Kp aX { aX with heap:=h' }:=Kp.of (tk:=aX.toks) fun b o e=>eb b o (a6 (aV e)) e
  have st:=(uh (A:=A) (env:=env) (xs:=xs) hm (fun x v=>bindName env x v) (fun x=>Bc) hlen FA).reverse;rw [<- List.map_reverse] at st;refine wpAny_bind (wpAny_mono (kz (st.keep (fun b o J e=>gC.keep b o e) (fun b o J e=>gC.keep b o e)) (mi.kp gC)) (fun J s' g=>wpAny_pure (done gC g.1 g.2 fun y=>tL ?_ y)) fun J J x=>x);unfold oc;rw [ao];show (List.map (fun q:Str×PV=>q.1) (xs.zip ps)).Nodup;rw [List.map_fst_zip (by exact (pn [_,_,_] 0x0D102D022D10) hlen lus)];exact hnd
end
end Mine
end
section
namespace Mine
section
variable {A:Around}{s:Shared}{V H:Addr->Prop}{env:Env}{sc:Sc}{σ:SE}
variable {o:cV}{r n:Nat}{tag:Addr->Str}{P:Str->Value->Prop}{Wn:List Str}
noncomputable def DS:Expr->Bool
 | .List ..=>true
 | _=>false
theorem zu {t v:Expr} (h:jb v=none) (hl:DS t=false):swappedStores [t] v env=pure none:=by
 cases t with
 | Tuple ts k p=>cases v with
  | Tuple vs k p=>exact nn h.symm
  | _=>rfl
 | List ts p=>exact nomatch (show true=false from hl)
 | _=>rfl
theorem m8 {t v:Expr}{pos:Pos}{Q:Flow->Shared->Prop} (h1:dZ t=none) (h2:swappedStores [t] v env=pure none) (h3:(assignEach [t] env).map (·.2)=[assign t env])
  (h:wpAny (model ag w) A (eval v env) (fun u aG=>wpAny (model ag w) A (assign t env u) (fun J aX=>Q .next aX) EF aG) EF s):wpAny (model ag w) A (exec (.Assign [t] v pos) env) Q EF s:=by
 refine wpAny_Assign_stores ?_ (mw h1) h2;rw [h3];exact h
theorem sg (S:∀ m,iE G o r m) {xs:List Str}{ts:List Expr}{v:Expr}{k:Nat}{p pos:Pos}{ps:List PV}{aI:SE} (hr:bz A (n+r)) (W:dh G P env sc σ V H tag s) (hn:c8 ts=some xs) (hnt:jb v=none)
  (hv:ev o n sc σ v=some (.tup ps)) (hb:dn sc xs ps σ=some aI):sv G A P env sc V H s [.Tuple ts k p] v pos aI:=by
 refine m8 rfl (zu hnt rfl) rfl (cK ((S n).ev hr hv W.st.ev) fun u aG g=>?_);exact cK (nL hr.1 (W.kp g.2) hn hb g.1) fun J s' q=>⟨rfl,V,H,tag,q.1,j7.refl,(Kp.toU g.2 _).trans q.2.locOwn⟩
theorem nF {x:Str}{c:PV} (h:pC σ x=some c):σ.lookup x=some (true,c)/\dl x=true:=
 cu h fun q hq h=>iC h fun hc h=>by
  obtain ⟨b,u⟩:=q;refine xA (iq hc) ?_;intro h1 h2;rw [bH h,hq,show b=true from h1];exact ⟨rfl,h2⟩
theorem xi (S:∀ m,iE G o r m) {x:Str}{i v:Expr}{q pi pos:Pos}{aI:SE} (hr:bz A (n+r)) (W:dh G P env sc σ V H tag s) (h:Dr (ev o n sc σ) σ x i v=some aI):sv G A P env sc V H s [.Subscript (.Name x q) i pi] v pos aI:=by
 refine cu h fun c hc h=>b8 h fun p k hv hi h=>lk (C:=sv G A P env sc V H s _ v pos) h fun c' hp=>?_;refine xA (nF hc) ?_;intro hx hok;refine m8 rfl rfl rfl (cK ((S n).ev hr hv W.st.ev) fun u aG g=>?_);have jQ:=W.kp g.2;rw [arm_assign_Subscript];refine bO (jQ.sep x c hx) ?_;intro cv hcv _;refine wpAny_bind (wpAny_holding (lV jQ.st.ev.kind hok hcv (wpAny_bind (wpAny_holding (cK ((S n).ev hr hi jQ.st.ev) fun iv aX io=>?_)))));have mi:=jQ.kp io.2;refine wpAny_bind (wpAny_standAt (wpAny_bind (wpAny_holding (cK (mz mi hx hp io.1 (iA io.2 g.1) (hcv.keep (H:=H) fun a o J e=>io.2.keep a o e)) fun J cJ mj=>wpAny_release ?_))));exact ⟨rfl,V,H,tag,mj.1,j7.refl,(Kp.toU (g.2.trans io.2) _).trans mj.2⟩
theorem uX (S:∀ m,iE G o r m) (SO:qN G o) {x a:Str}{v:Expr}{q pi pos:Pos}{aI:SE} (hr:bz A (n+r)) (W:dh G P env sc σ V H tag s) (h:Bf o (ev o n sc σ) σ x a v=some aI):sv G A P env sc V H s [.Attribute (.Name x q) a pi] v pos aI:=by
 refine cu h fun c hc h=>cu h fun cf hcf h=>iC h fun hg h=>lk (C:=sv G A P env sc V H s _ v pos) h fun p hv=>?_;refine xA (nF hc) ?_;intro hx hok;rw [nv hcf] at hx;refine m8 rfl rfl rfl (cK ((S n).ev hr hv W.st.ev) fun u aG g=>?_);have jQ:=W.kp g.2;rw [arm_assign_Attribute];refine bO (jQ.sep x _ hx) ?_;intro cv hcv _;refine wpAny_bind (wpAny_holding (lV jQ.st.ev.kind hok hcv (wpAny_bind (wpAny_standAt (wpAny_bind (wpAny_holding (cK (r6 SO hr.1 jQ hx (iq hg).1 (of_decide_eq_true (iq hg).2) g.1 hcv) fun J cJ mj=>wpAny_release ?_)))))));exact ⟨rfl,V,H,tag,mj.1,j7.refl,(Kp.toU g.2 _).trans mj.2⟩
theorem tB {x y z:Str}{q1 q2 q3 cp pos:Pos}{c:Const}{k:Nat}{p:PV}{aI:SE} (W:dh G P env sc σ V H tag s) (hc:pN c=some p) (hb:dn sc [x,y,z] [p,p,p] σ=some aI):sv G A P env sc V H s [.Name x q1,.Name y q2,.Name z q3] (.Constant c k cp) pos aI:=by
 refine wpAny_Assign_three (cK (pg hc:tG G A V s env _ p) fun v aG g=>?_);refine fh hb fun h1 hb=>fh hb fun h2 hb=>fh hb fun h3 hb=>?_;rw [bH (show some _=some aI from hb)];have jQ:=W.kp g.2;refine cK (jQ.name h1 (b:=false) g.1) fun J aX io=>?_;have Fa:G.Rep aX.heap V p v:=Rep.keep (io.2.loc jQ.st) (fun J J x=>x) g.1;refine cK (io.1.name h2 (b:=false) Fa) fun J cJ mj=>?_;refine cK (mj.1.name h3 (b:=false) (Rep.keep (mj.2.loc io.1.st) (fun J J x=>x) Fa)) fun J iW nf=>?_;exact ⟨rfl,V,H,tag,nf.1,j7.refl,(Kp.toU g.2 _).trans ((io.2.trans mj.2).trans nf.2).locOwn⟩
noncomputable def F1 (G:GX ag w) (A:Around) (P:Str->Value->Prop) (env:Env) (sc:Sc) (V H:Addr->Prop) (s:Shared) (t v:Expr) (pos:Pos) (aI:SE):Prop:=wpAny (model ag w) A (exec (.AugAssign t .Add v pos) env) (dc G P env sc V H s .next aI) EF s
theorem BL (S:∀ m,iE G o r m) {x:Str}{v:Expr}{q pos:Pos}{aI:SE} (hr:bz A (n+r)) (W:dh G P env sc σ V H tag s) (h:Gi (ev o n sc σ) sc σ x v=some aI):F1 G A P env sc V H s (.Name x q) v pos aI:=by
 refine cu h fun q' hx h1=>iC h1 fun hq h2=>b8 h2 fun a b ha hv0 h3=>cu hv0 fun pv hv hb=>fh h3 fun hm h4=>?_;obtain ⟨ow,u₀⟩:=q';have hq:ow=false:=by simpa using hq
 subst hq;rw [bH (show some _=some aI from h4)];have hok:dl x=true:=(iq hm).1;refine bO (W.st.ev.vars x _ _ hx) ?_;intro u hu ru;refine xE (jX  ha ru) ?_;rintro t rfl;refine wpAny_AugAssign_Name (zx W.st.ev.kind hok hu (cK ((S n).ev hr hv W.st.ev) fun u aG g=>?_));refine xE (jX hb g.1) ?_;rintro t' rfl;refine PyProof.Rows.iadd_int ?_;have k:Kp aG { aG with toks:=aG.toks+1 }:=Kp.toks
 exact cK (((W.kp g.2).kp k).store hm (b:=false) (p:=.int (a+b)) (show G.Rep _ V _ _ from bN.mpr ⟨_,rfl⟩)) fun J s' z=>⟨rfl,V,H,tag,z.1,j7.refl,(Kp.toU (g.2.trans k) _).trans z.2.locOwn⟩
theorem wN {n:Nat}{e:Expr}{p:PV} (h:ev o n sc σ e=some p):∀ a b c q,e≠.Slice a b c q:=by
 rintro a b c q rfl
 cases n<;>exact nn h
theorem El (S:∀ m,iE G o r m) {x:Str}{i v:Expr}{q pi pos:Pos}{aI:SE} (hr:bz A (n+r)) (W:dh G P env sc σ V H tag s) (h:FZ (ev o n sc σ) σ x i v=some aI):F1 G A P env sc V H s (.Subscript (.Name x q) i pi) v pos aI:=by
 refine cu h fun c hc h=>cu h fun k hi h=>b8 h fun a b hit hv h=>cu hv fun pv hv hb=>cu hit fun pa hit ha=>lk (C:=F1 G A P env sc V H s _ v pos) h fun c' hp=>?_;refine xA (nF hc) ?_;intro hx hok;refine bO (W.sep x c hx) ?_;intro cv hcv tc;refine wpAny_AugAssign_SubscriptAny (lV W.st.ev.kind hok hcv (cK ((S n).ev hr hi W.st.ev) fun iv aX io=>?_)) (fun ov iv new=>by
  cases i with
  | Slice a b c p=>exact absurd rfl (wN hi _ _ _ _)
  | _=>rfl)
 have mi:=W.kp io.2;have pk:d8 G aX.heap V c cv:=by
  refine bO (mi.sep x c hx) ?_;intro cv' hcv' t'
  have:=kd hcv' (hcv.keep (H:=H) fun a o J e=>io.2.keep a o e)
  subst this;exact jo.peek (H:=fun a=>H a/\tag a=x) (b:=true) t'
 refine cK (mo hit pk io.1) fun old cJ mj=>?_;have nh:=mi.kp mj.2;refine cK ((S n).ev hr hv nh.st.ev) fun u iW nf=>?_;refine xE (jX ha mj.1) ?_;rintro t rfl;refine xE (jX hb nf.1) ?_;rintro t' rfl;refine PyProof.Rows.iadd_int ?_;have k:Kp iW { iW with toks:=iW.toks+1 }:=Kp.toks
 have kk:=(mj.2.trans nf.2).trans k;have I2:=(nh.kp nf.2).kp k;refine cK (mz I2 hx hp (iA kk io.1) (bN.mpr ⟨_,rfl⟩) (hcv.keep (H:=H) fun a o J e=>kk.keep a o (io.2.keep a o e))) fun J s' z=>?_;exact ⟨rfl,V,H,tag,z.1,j7.refl,(Kp.toU (io.2.trans kk) _).trans z.2⟩
theorem ww (S:∀ m,iE G o r m) {x:Str}{e:Expr}{q ap cp pos:Pos}{l:List PV}{p:PV} (hr:bz A (n+r)) (W:dh G P env sc σ V H tag s) (hx:σ.lookup x=some (true,.lst l)) (hok:dl x=true) (hl:(ap.endLine == cp.line)=true) (hz:l.length<=1048576) (he:ev o n sc σ e=some p) :
  wpAny (model ag w) A (exec (.Expr (.Call (.Attribute (.Name x q) ("append":Str) ap) [e] [] cp) pos) env) (dc G P env sc V H s .next (SE.put σ x (true,.lst (l++[p])))) EF s:=by
 have hi:interactive env=false:=by
  unfold interactive;rw [W.st.ev.kind];rfl
 have ns:∀ e'∈[e],∀ x p,e'≠.Starred x p:=fun e' h=>by rw [ae.mp h];exact ja he
 refine wpAny_Expr ?_ hi rfl;refine bO (W.sep x _ hx) ?_;intro cv hcv tc;refine sW rfl hl (by simp) ns (lV W.st.ev.kind hok hcv fun pl=>?_);refine bG tc ?_;clear tc;rintro a rfl ha vs pl' rl;have hT:s.TypeIs (.ref a) "list":=pl'.isList.typeIs;refine getMethod_builtin hT PySem.F.plainAttrs_list PySem.F.slot_list_append PySem.F.type_list_append (fun b hb=>?_) ?_
 ·cases hb;refine xE pl' ?_;clear pl';intro _ z;exact ⟨_,z,rfl⟩
 refine dw  (fun h J=>⟨.machine,.inr (.inl rfl),.of_pure rfl⟩) ns ?_;rw [gM (ns e (.head _)),gK];refine Calls.spliced_cons (wpAny_mono ((S n).ev hr he W.st.ev) (fun u aG g=>Calls.spliced_nil ⟨W.st.ev.base.kp g.2,?_⟩) fun J J x=>x);refine wpAny_mono (uf (W.kp g.2) hx hz g.1 (hcv.keep (H:=H) fun a o J e=>g.2.keep a o e)) (fun u' aX io=>?_) fun J J x=>x;refine ir io ?_;clear io;rintro rfl mi fy;exact ⟨rfl,V,H,tag,mi,j7.refl,(Kp.toU g.2 _).trans fy⟩
theorem vf (S:∀ m,iE G o r m) {e:Expr}{pos:Pos}{aI:SE} (hr:bz A (n+r)) (W:dh G P env sc σ V H tag s) (h:BB (ev o n sc σ) σ e=some aI):wpAny (model ag w) A (exec (.Expr e pos) env) (dc G P env sc V H s .next aI) EF s:=by
 refine cu h fun m hm h=>cu h fun x hx h=>cu h fun c hc h=>cu h fun l hl h=>iC h fun hg h=>lk (C:=fun aI=>wpAny (model ag w) A (exec (.Expr e pos) env) (dc G P env sc V H s .next aI) EF s) h fun p he=>?_;refine cu hm fun q hq hm=>b8 hm fun r a hr' ha hm=>iC hm fun hk hm=>?_;refine xA (nF hc) ?_;intro h1 h2;refine xA (iq hk) ?_;intro hk1 hk2;refine xA (iq hg) ?_;intro hg1 hg2;have hm:=bH hm;subst hm;refine xE (cE hx) ?_;intro qp hx;rw [gA hl] at h1;rw [qe hq,ol hr',gu ha,dQ hk1,hx,beq_iff_eq.mp hg1];exact ww S hr W h1 h2 hk2 (of_decide_eq_true hg2) he
theorem wH (S:∀ m,iE G o r m) {e:Expr}{pos:Pos}{p:PV} (hr:bz A (n+r)) (W:dh G P env sc σ V H tag s) (he:ev o n sc (GV σ) e=some p) :
  wpAny (model ag w) A (exec (.Return (some e) pos) env) (dc G P env sc V H s (.ret p) []) EF s:=
 wpAny_Return_some (wpAny_mono ((S n).ev hr he W.freeze) (fun v aG g=>⟨v,rfl,V,H,j7.refl,g.1,Kp.toU g.2 _⟩) fun J J x=>x)
end
end Mine
end
section
namespace Mine
section
variable {A:Around}{s:Shared}{V H:Addr->Prop}{env:Env}{sc:Sc}{σ:SE}
variable {o:cV}{r n:Nat}{tag:Addr->Str}{P:Str->Value->Prop}{Wn:List Str}
noncomputable def wI (G:GX ag w) (P:Str->Value->Prop) (env:Env) (sc:Sc) (X V H:Addr->Prop) (s:Shared):Fl->SE->Flow->Shared->Prop
 | .next,aI,f,s'=>f=.next/\∃ V' H' tag',dh G P env sc aI V' H' tag' s'/\j7 V H V' H' s/\cS (fun b=>ki env sc H b\/X b) s s'
 | .brk,aI,f,s'=>f=.brk/\∃ V' H' tag',dh G P env sc aI V' H' tag' s'/\j7 V H V' H' s/\cS (fun b=>ki env sc H b\/X b) s s'
 | .ret p,_,f,s'=>∃ v,f=.ret v/\∃ V' H':Addr->Prop,j7 V H V' H' s/\G.Rep s'.heap (fun a=>V' a/\¬ H' a) p v/\cS (fun b=>ki env sc H b\/X b) s s'
structure DL (G:GX ag w) (o:cV) (r:Nat) (Wn:List Str) (n:Nat):Prop where
 ex:∀ {A:Around}{env:Env}{sc:Sc}{σ aI:SE}{V H:Addr->Prop}{tag:Addr->Str}{P:Str->Value->Prop}{s:Shared}{st:Stmt}{fl:Fl},bz A (n+r)->ex o Wn n sc σ st=some (fl,aI)->dh G P env sc σ V H tag s->wpAny (model ag w) A (exec st env) (dc G P env sc V H s fl aI) EF s
 exs:∀ {A:Around}{env:Env}{sc:Sc}{σ aI:SE}{V H:Addr->Prop}{tag:Addr->Str}{P:Str->Value->Prop}{s:Shared}{ss:List Stmt}{fl:Fl},bz A (n+r)->exs o Wn n sc σ ss=some (fl,aI)->dh G P env sc σ V H tag s->wpAny (model ag w) A (execs ss env) (dc G P env sc V H s fl aI) EF s
 exF:∀ {A:Around}{env:Env}{sc:Sc}{σ aI:SE}{V H U:Addr->Prop}{tag:Addr->Str}{P:Str->Value->Prop}{s:Shared}{t:Expr}{items all:List PV}{i:Nat}{I:Addr}{wr:List Addr}{St:Nat->Heap->Prop}{body:List Stmt}{fl:Fl}{R:Result->Shared->Prop},bz A (n+r) ->
  exF o Wn n sc σ t items body=some (fl,aI)->dh G P env sc σ V H tag s->lf G A I wr St U t all->all.drop i=items->i<=all.length->St i s.heap ->
  (∀ b∈wr,V b/\¬ fD env H b/\G.base.get? b=none)->(∀ a,V a->U a)->(∀ a,s.heap.get? a=none->U a) ->
  (∀ f s',wI G P env sc (·∈wr) (fun a=>V a/\a ∉ wr) H s fl aI f s'->R (.ok f) s')->codeAny (model ag w) A (.forLoop t (.ref I) body [] env) R s
theorem A6 (X:DL G o r Wn n) {aI:SE}{ss:List Stmt}{fl:Fl} (hr:bz A (n+1+r)) (h:exs o Wn (n+1) sc σ ss=some (fl,aI)) (W:dh G P env sc σ V H tag s) :
  wpAny (model ag w) A (execs ss env) (dc G P env sc V H s fl aI) EF s:=by
 have hr':bz A (n+r):=hr.le (by exact pn [_,_] 0x0DA1A180A10)
 cases ss with
 | nil=>
  have h:some (Fl.next,σ)=some (fl,aI):=h
  cases h
  exact wpAny_execs_nil ⟨rfl,V,H,tag,W,j7.refl,cS.refl _ _⟩
 | cons st ss=>
  refine wpAny_execs_cons (cu (x:=ex o Wn n sc σ st) (f:=fun q=>match q.1 with
   | .next=>exs o Wn n sc q.2 ss
   | .brk=>some q
   | .ret _=>some q) h fun q h1 h=>?_)
  obtain ⟨f,mF⟩:=q
  cases f with
  | next=>
   refine cK (X.ex hr' h1 W) fun f aG g=>?_;refine jA g ?_;clear g;rintro rfl V' H' tag' W' e' k';exact cK (X.exs hr' h W') fun f aX g=>dc.trans W e' W' k' g
  | brk=>
   have h:some (Fl.brk,mF)=some (fl,aI):=h
   cases h
   refine cK (X.ex hr' h1 W) fun f aG g=>?_;refine xA g ?_;clear g;rintro rfl g;exact ⟨rfl,g⟩
  | ret v=>
   have h:some (Fl.ret v,mF)=some (fl,aI):=h
   cases h
   refine cK (X.ex hr' h1 W) fun f aG g=>?_;refine bO g ?_;clear g;rintro u rfl g;exact ⟨u,rfl,g⟩
theorem Bn {X V' H':Addr->Prop}{aI:SE}{tag':Addr->Str}{s':Shared} (W':dh G P env sc aI V' H' tag' s') (k:cS X s s') (hx:∀ a,X a->V' a):∀ a,s'.heap.get? a=none->s.heap.get? a=none:=fun a e=>by
 cases q:s.heap.get? a with
 | none=>rfl
 | some ob=>
  by_cases xa:X a
  ·exact absurd e (W'.st.ev.low a (hx a xa))
  ·rw [k.heap a ob xa q] at e;cases e
theorem dh.drop {wr:List Addr} (W:dh G P env sc σ V H tag s) (hwr:∀ b∈wr,V b/\¬ fD env H b/\G.base.get? b=none) {s':Shared} (k:cS (·∈wr) s s'):dh G P env sc σ (fun a=>V a/\a ∉ wr) H tag s':=by
 refine W.upd k (fun b hb=>hwr b hb) (fun a J q=>q.1) (fun a q e=>?_) ⟨W.st.vl,fun m=>(hwr _ m).2.1 .loc⟩ (fun x c h1 h2=>⟨W.st.vc x c h1 h2,fun m=>(hwr _ m).2.1 (.cell h2)⟩) fun a h=>⟨W.hv a h,fun m=>(hwr _ m).2.1 (.own h)⟩
 cases z:s.heap.get? a with
 | none=>exact W.st.ev.low a q.1 z
 | some ob=>rw [k.heap a ob q.2 z] at e;cases e
theorem ta {wr:List Addr}{fl:Fl}{rW:SE}{pK oh:Addr->Prop}{f:Flow}{cJ iW s':Shared} (k03:cS (fun b=>ki env sc H b\/b∈wr) s cJ) (m03:∀ a,cJ.heap.get? a=none->s.heap.get? a=none)
  (jR:j7 V H pK oh cJ) (jr:cS (ki env sc H) cJ iW) (m34:∀ a,iW.heap.get? a=none->cJ.heap.get? a=none) (g:wI G P env sc (·∈wr) (fun a=>pK a/\a ∉ wr) oh iW fl rW f s'):wI G P env sc (·∈wr) (fun a=>V a/\a ∉ wr) H s fl rW f s':=by
 have ext:∀ {V' H':Addr->Prop},j7 (fun a=>pK a/\a ∉ wr) oh V' H' iW->j7 (fun a=>V a/\a ∉ wr) H V' H' s:=fun {V' H'} e=>
  ⟨fun a q=>e.v a ⟨jR.v a q.1,q.2⟩,fun a q=>(e.v' a q).elim (fun z=>(jR.v' a z.1).imp (fun y=>⟨y,z.2⟩) (m03 a)) fun z=>.inr (m03 a (m34 a z)),fun a q=>e.h a (jR.h a q),fun a q=>(e.h' a q).elim (fun z=>(jR.h' a z).imp id (m03 a)) fun z=>.inr (m03 a (m34 a z))⟩
 have kk:cS (fun b=>ki env sc oh b\/b∈wr) iW s'->cS (fun b=>ki env sc H b\/b∈wr) s s':=fun k'=>by
  refine ⟨fun b ob n e=>k'.heap b ob (fun q=>?_) (jr.heap b ob (fun q=>n (.inl q)) (k03.heap b ob n e)),k'.os.trans (jr.os.trans k03.os),fun q=>k'.gens (jr.gens (k03.gens q))⟩;rcases q with (q | q) | q
  ·exact n (.inl (.inl q))
  ·exact (jR.h' b q).elim (fun z=>n (.inl (.inr z))) fun z=>nomatch (m03 b z).symm.trans e
  ·exact n (.inr q)
 cases fl with
 | next=>refine jA g ?_;clear g;intro a V' H' t' W' e' k';exact ⟨a,V',H',t',W',ext e',kk k'⟩
 | brk=>refine jA g ?_;clear g;intro a V' H' t' W' e' k';exact ⟨a,V',H',t',W',ext e',kk k'⟩
 | ret p=>refine nM g ?_;clear g;intro v a V' H' e' rp k';exact ⟨v,a,V',H',ext e',rp,kk k'⟩
theorem qw {wr:List Addr}{pK oh:Addr->Prop}{mF rW:SE}{uC:Addr->Str}{cJ iW:Shared} (hwr:∀ b∈wr,V b/\¬ fD env H b/\G.base.get? b=none) (nh:dh G P env sc mF V H tag cJ) (yk:dh G P env sc rW pK oh uC iW) (jR:j7 V H pK oh cJ) (jr:cS (ki env sc H) cJ iW) :
  (∀ b∈wr,pK b/\¬ fD env oh b/\G.base.get? b=none)/\(∀ a,iW.heap.get? a=none->cJ.heap.get? a=none):=by
 refine ⟨fun b hb=>⟨jR.v b (hwr b hb).1,?_,(hwr b hb).2.2⟩,Bn yk jr fun a q=>jR.v a (nh.st.own nh.hv q)⟩;rintro (q | q | q)
 ·exact (hwr b hb).2.1 (.inl q)
 ·exact (hwr b hb).2.1 (.inr (.inl q))
 ·exact (jR.h' b q).elim (fun z=>(hwr b hb).2.1 (.own z)) fun z=>nh.st.ev.low b (hwr b hb).1 z
structure Ja (G:GX ag w) (A:Around) (P:Str->Value->Prop) (env:Env) (sc:Sc) (V H U:Addr->Prop) (tag:Addr->Str) (t:Expr) (all:List PV) (I:Addr) (wr:List Addr) (St:Nat->Heap->Prop) (i:Nat) (σ:SE) (s:Shared):Prop where
 W:dh G P env sc σ V H tag s
 B:lf G A I wr St U t all
 st:St i s.heap
 hwr:∀ b∈wr,V b/\¬ fD env H b/\G.base.get? b=none
 hU:∀ a,V a->U a
 hF:∀ a,s.heap.get? a=none->U a
theorem z9 {U:Addr->Prop}{t:Expr}{all:List PV}{i:Nat}{I:Addr}{wr:List Addr}{St:Nat->Heap->Prop} (hh:A.handled=none) (F:Ja G A P env sc V H U tag t all I wr St i σ s) {x:PV} (hx:all[i]?=some x) {mF:SE} (hb:bindT sc t x σ=some mF) {Q:Unit->Shared->Prop}
  (hQ:∀ cJ,dh G P env sc mF V H tag cJ->St (i+1) cJ.heap->cS (fun b=>ki env sc H b\/b∈wr) s cJ->(∀ a,cJ.heap.get? a=none->s.heap.get? a=none)->Q () cJ) :
  wpAny (model ag w) A (pyNext (.ref I)) (fun q aG=>∃ v,q=some v/\wpAny (model ag w) A (letOwnedTupleGo t (.ref I) v) (fun J aX=>wpAny (model ag w) A (assign t env v) Q EF aX) EF aG) EF s:=by
 refine cK (F.B.item i s x hx F.st) fun q aG g=>?_;refine bO g ?_;clear g;intro v e g;refine ⟨v,e,cK g fun J aX io=>?_⟩;refine ir io ?_;clear io;intro rep wL fy;have mi:dh G P env sc σ V H tag aX:=F.W.upd fy F.hwr (fun J J q=>q) (uq F.W.st.ev.low fy (F.B.ex _ _ wL)) F.W.st.vl F.W.st.vc F.W.hv;refine cK (mi.bindT hh hb (rep V F.W.st.ev.low F.hU)) fun J cJ mj=>?_;refine xA mj ?_;clear mj;intro nh gC;have k03:cS (fun b=>ki env sc H b\/b∈wr) s cJ:=(fy.mono fun b hb=>.inr hb).trans (gC.mono fun b hb=>.inl (.inl hb));exact hQ cJ nh (F.B.frame _ _ _ wL fun b o q e=>gC.heap b o (fun l=>q.elim (fun q=>q (F.hU b (mi.st.loc l))) fun q=>(F.hwr b q).2.1 (ki.held (H:=H) (.inl l))) e) k03 (Bn nh k03 fun a q=>q.elim (F.W.st.own F.W.hv) fun q=>(F.hwr a q).1)
theorem BK (X:DL G o r Wn n) {aI:SE}{U:Addr->Prop}{t:Expr}{items all:List PV}{i:Nat}{I:Addr}{wr:List Addr}{St:Nat->Heap->Prop}{body:List Stmt}{fl:Fl}{R:Result->Shared->Prop} (hr:bz A (n+1+r))
  (h:exF o Wn (n+1) sc σ t items body=some (fl,aI)) (W:dh G P env sc σ V H tag s) (B:lf G A I wr St U t all) (hall:all.drop i=items) (hi:i<=all.length) (st:St i s.heap)
  (hwr:∀ b∈wr,V b/\¬ fD env H b/\G.base.get? b=none) (hU:∀ a,V a->U a) (hF:∀ a,s.heap.get? a=none->U a)
  (hR:∀ f s',wI G P env sc (·∈wr) (fun a=>V a/\a ∉ wr) H s fl aI f s'->R (.ok f) s'):codeAny (model ag w) A (.forLoop t (.ref I) body [] env) R s:=by
 have hr':bz A (n+r):=hr.le (by exact pn [_,_] 0x0DA1A180A10);refine codeAny_of_tree ?_;show wpAny _ A ((forTurn t (.ref I) body [] env).onRaise (fun x=>do noteFrame x env;theTreesLotGoes x)) _ _ s;refine wpAny_noted ?_;refine wpAny_mono (E:=EF) ?_ (fun J J x=>x) fun J J x=>x.elim;unfold forTurn;refine wpAny_bind (wpAny_standAt (wpAny_bind (wpAny_onRaise ?_)))
 cases items with
 | nil=>
  have h:some (Fl.next,σ)=some (fl,aI):=h
  cases h
  have hlen:i=all.length:=jT hi (pu.mp hall);subst hlen;refine wpAny_mono (B.done s st) (fun q aG g=>?_) fun J J x=>x.elim;refine xA g ?_;clear g;rintro rfl k;exact wpAny_pure ⟨rfl,codeAny_block (wpAny_execs_nil (hR _ _ ⟨rfl,_,H,tag,W.drop hwr k,j7.refl,k.mono fun b hb=>.inr hb⟩))⟩
 | cons x is=>
  refine ir (oC hall) ?_;intro hx hnext hi';refine cu (x:=bindT sc t x σ) (f:=fun mF=>(exs o Wn n sc mF body).bind fun q=>match q.1 with
   | .next=>exF o Wn n sc q.2 t is body
   | .brk=>some (.next,q.2)
   | .ret _=>some q) h fun mF hb h=>cu h fun q hbody h=>?_
  have F:Ja G A P env sc V H U tag t all I wr St i σ s:=⟨W,B,st,hwr,hU,hF⟩
  refine' wpAny_mono (z9 hr.1 F hx hb ?h3) ?h4 fun J J x=>x.elim
  case h4=>
   rintro q aG ⟨v,rfl,kj⟩;exact wpAny_bind (cK kj fun J aX lP=>wpAny_bind lP)
  intro cJ nh HS k03 m03;obtain ⟨DF,rW⟩:=q
  cases DF with
  | next=>
   refine wpAny_bind (cK (X.exs hr' hbody nh) fun f iW nf=>?_);refine jA nf ?_;clear nf;rintro rfl pK oh uC yk jR jr;refine xA (qw hwr nh yk jR jr) ?_;intro yl m34;refine wpAny_pure ⟨rfl,X.exF hr' h yk B hnext hi' ?_ yl (fun a q=>(jR.v' a q).elim (hU a) fun z=>hF a (m03 a z)) (fun a q=>hF a (m03 a (m34 a q))) fun f s' g=>hR f s' (ta k03 m03 jR jr m34 g)⟩;exact B.frame _ _ _ HS fun b o q e=>jr.heap b o (fun l=>q.elim (fun q=>q (hU b (W.st.own W.hv l))) fun q=>(hwr b q).2.1 l.held) e
  | brk=>
   have h:some (Fl.next,rW)=some (fl,aI):=h
   cases h
   refine wpAny_bind (cK (X.exs hr' hbody nh) fun f iW nf=>?_);refine jA nf ?_;clear nf;rintro rfl pK oh uC yk jR jr;refine xA (qw hwr nh yk jR jr) ?_;intro yl m34;exact wpAny_pure (hR .next iW (ta k03 m03 jR jr m34 (⟨rfl,_,oh,uC,yk.drop yl (cS.refl _ _),j7.refl,cS.refl _ _⟩:wI G P env sc (·∈wr) (fun a=>pK a/\a ∉ wr) oh iW .next _ .next iW)))
  | ret p=>
   have h:some (Fl.ret p,rW)=some (fl,aI):=h
   cases h
   refine wpAny_bind (cK (X.exs hr' hbody nh) fun f iW nf=>?_);refine nM nf ?_;clear nf;rintro v rfl pK oh jR rp jr;refine wpAny_pure (hR (.ret v) iW ⟨v,rfl,fun a=>pK a/\a ∉ wr,oh,⟨fun a q=>⟨jR.v a q.1,q.2⟩,fun a q=>(jR.v' a q.1).imp (fun y=>⟨y,q.2⟩) (m03 a),jR.h,fun a q=>(jR.h' a q).imp id (m03 a)⟩,?_,k03.trans (jr.mono fun b q=>.inl q)⟩);exact Rep.keep (bU.refl _ _) (fun a J q=>⟨q.1.1,q.2⟩) rp
end
end Mine
end
section
namespace Mine
section
variable {A:Around}{s:Shared}{V H:Addr->Prop}{env:Env}{sc:Sc}{σ:SE}
variable {o:cV}{r n:Nat}{tag:Addr->Str}{P:Str->Value->Prop}{Wn:List Str}
theorem CM (S:∀ m,iE G o r m) (X:DL G o r Wn n) {aI:SE}{t it:Expr}{body:List Stmt}{pos:Pos}{items:List PV}{fl:Fl} (hr:bz A (n+r)) (W:dh G P env sc σ V H tag s) (hi:evI o n sc σ t it=some items) (h:exF o Wn n sc σ t items body=some (fl,aI)) :
  wpAny (model ag w) A (exec (.For t it body [] pos) env) (dc G P env sc V H s fl aI) EF s:=by
 refine xA ((S n).evI (t:=t) hr hi W.st.ev) ?_;intro hfs hev;refine wpAny_For (wpAny_mono hev (fun x aG g=>wpAny_mono g (fun iv aX io=>?_) fun J J x=>x) fun J J x=>x) hfs;refine mS io ?_;clear io;rintro I wr rfl k hwr mk;refine bO (mk (fun a=>(V a\/a∈wr)\/aX.heap.get? a=none) (fun a e q=>q.elim id fun q=>absurd q e) fun b hb=>.inl (.inr hb)) ?_;intro St st B;have none_of:∀ a,aX.heap.get? a=none->s.heap.get? a=none:=fun a e=>k.none e;have eJ:∀ a,s.heap.get? a=none->G.base.get? a=none:=fun a h=>eJ W.st.ev.base h;have mi:dh G P env sc σ (fun a=>V a\/a∈wr) H tag aX:=by
  refine (W.upd (U:=fun J=>False) (V':=fun a=>V a\/a∈wr) k (fun J q=>q.elim) (fun a e q=>q.elim id fun q=>absurd (hwr a q).1 e) (fun a q=>q.elim (W.st.ev.low.kp k a) fun q=>(hwr a q).2) (.inl W.st.vl) (fun x c h1 h2=>.inl (W.st.vc x c h1 h2)) fun a h=>.inl (W.hv a h))
 refine X.exF hr h mi B rfl (bP _) st (fun b hb=>⟨.inr hb,fun q=>W.st.ev.hex b q (hwr b hb).1,eJ b (hwr b hb).1⟩) (fun a q=>.inl q) (fun a q=>.inr q) fun f s' g=>?_;have ext:∀ {V' H':Addr->Prop},j7 (fun a=>(V a\/a∈wr)/\a ∉ wr) H V' H' aX->j7 V H V' H' s:=fun {V' H'} e=>
  ⟨fun a q=>e.v a ⟨.inl q,fun m=>W.st.ev.low a q (hwr a m).1⟩,fun a q=>(e.v' a q).elim (fun z=>z.1.elim .inl fun m=>absurd m z.2) fun z=>.inr (none_of a z),e.h,fun a q=>(e.h' a q).imp id (none_of a)⟩
 have kk:cS (fun b=>ki env sc H b\/b∈wr) aX s'->cS (ki env sc H) s s':=fun k'=>
  ⟨fun b ob n e=>k'.heap b ob (fun q=>q.elim n fun q=>by rw [(hwr b q).1] at e;cases e) (k.keep b ob e),k'.os.trans k.os,fun q=>k'.gens (k.gens q)⟩
 cases fl with
 | next=>refine jA g ?_;clear g;intro a V' H' t' W' e' k';exact ⟨a,V',H',t',W',ext e',kk k'⟩
 | brk=>refine jA g ?_;clear g;intro a V' H' t' W' e' k';exact ⟨a,V',H',t',W',ext e',kk k'⟩
 | ret p=>refine nM g ?_;clear g;intro v a V' H' e' rp k';exact ⟨v,a,V',H',ext e',rp,kk k'⟩
theorem vU {ts:List Expr}{xs:List Str} (h:c8 ts=some xs) (h3:xs.length=3):∃ x y z q1 q2 q3,ts=[.Name x q1,.Name y q2,.Name z q3]/\xs=[x,y,z]:=by
 cases ts with
 | nil=>rw [bH h] at h3;cases h3
 | cons a ts=>refine b8 h fun x xs1 hx h1 e1=>?_;cases ts with
  | nil=>rw [bH e1,bH h1] at h3;cases h3
  | cons b ts=>refine b8 h1 fun y xs2 hy h2 e2=>?_;cases ts with
   | nil=>rw [bH e1,bH e2,bH h2] at h3;cases h3
   | cons c ts=>refine b8 h2 fun z xs3 hz h4 e3=>?_;cases ts with
    | cons d ts=>exact b8 h4 fun u xs4 hu h5 e4=>by rw [bH e1,bH e2,bH e3,bH e4] at h3;cases h3
    | nil=>
     refine xE (cE hx) ?_;rintro q1 rfl;refine xE (cE hy) ?_;rintro q2 rfl;refine xE (cE hz) ?_;rintro q3 rfl;exact ⟨x,y,z,q1,q2,q3,rfl,by rw [bH e1,bH e2,bH e3,bH h4]⟩
theorem Bu (S:∀ m,iE G o r m) (SO:qN G o) {aI:SE}{ts:List Expr}{v:Expr}{pos:Pos} (hr:bz A (n+r)) (W:dh G P env sc σ V H tag s) (h:IL o Wn (ev o n sc σ) sc σ ts v=some aI):sv G A P env sc V H s ts v pos aI:=by
 unfold IL at h
 cases h1:lK ts with
 | none=>
  rw [h1] at h;refine cu h fun xs hn h=>iC h fun hc h=>cu h fun p hp hb=>cu hp fun q hq hp=>?_;obtain ⟨x,y,z,q1,q2,q3,rfl,rfl⟩:=vU hn (of_decide_eq_true (iq hc).1);rw [xV hq];exact tB W hp hb
 | some t=>
  rw [h1] at h;rw [gu h1];have h:Gl o Wn (ev o n sc σ) sc σ t v=some aI:=h;unfold Gl at h
  cases hx:dZ t with
  | some x=>
   rw [hx] at h;refine xE (cE hx) ?_;intro q e;rw [e];exact uW S hr W h
  | none=>
   rw [hx] at h;have h:(match jb t with
    | some ts=>Ee Wn (ev o n sc σ) sc σ ts v
    | none=>match oB t with
     | some q=>Dr (ev o n sc σ) σ q.1 q.2 v
     | none=>(pQ t).bind fun q=>Bf o (ev o n sc σ) σ q.1 q.2 v)=some aI:=h
   cases ht:jb t with
   | some ts=>
    rw [ht] at h;refine AE (lX ht) ?_;intro k q e;rw [e];refine cu (x:=c8 ts) h fun xs hn h=>?_
    cases hv:jb v with
    | some vs=>
     rw [hv] at h;refine AE (lX hv) ?_;intro k' q' e';rw [e'];refine iC h fun hc h=>cu h fun ps hps hb=>?_;refine xA (iq hc) ?_;intro hc h5;refine xA (iq hc) ?_;intro hc h4;refine xA (iq hc) ?_;intro hc h3;refine xA (iq hc) ?_;intro hc h2;exact t7 S hr W hn (of_decide_eq_true hc) (of_decide_eq_true h2) h3 ((eQ.mp h4).imp beq_iff_eq.mp beq_iff_eq.mp) (by simpa using h5) hps hb
    | none=>
     rw [hv] at h;refine iC h fun J h=>cu h fun u hu h=>cu h fun ps hps h=>fh h fun J hb=>?_;exact sg S hr W hn hv (nR hps ▸ hu) hb
   | none=>
    rw [ht] at h;have h:(match oB t with
     | some q=>Dr (ev o n sc σ) σ q.1 q.2 v
     | none=>(pQ t).bind fun q=>Bf o (ev o n sc σ) σ q.1 q.2 v)=some aI:=h
    cases hs:oB t with
    | some q=>
     rw [hs] at h;refine AE (sF hs) ?_;intro q1 q2 e;rw [e];exact xi S hr W h
    | none=>
     rw [hs] at h;refine cu h fun q hq h=>?_;refine AE (xm hq) ?_;intro q1 q2 e;rw [e];exact uX S SO hr W h
theorem BF (S:∀ m,iE G o r m) {aI:SE}{t v:Expr}{op:Operator}{pos:Pos} (hr:bz A (n+r)) (W:dh G P env sc σ V H tag s) (h:I9 (ev o n sc σ) sc σ t op v=some aI):wpAny (model ag w) A (exec (.AugAssign t op v pos) env) (dc G P env sc V H s .next aI) EF s:=by
 refine iC h fun hop h9=>?_;have hop:=beq_iff_eq.mp hop;subst hop
 cases hx:dZ t with
 | some x=>
  rw [hx] at h9;refine xE (cE hx) ?_;intro q e;rw [e];exact BL S hr W h9
 | none=>
  rw [hx] at h9;refine cu h9 fun q hq h8=>?_;refine AE (sF hq) ?_;intro q1 q2 e;rw [e];exact El S hr W h8
theorem B4 {x:Option SE}{fl:Fl}{aI:SE}{C:Prop} (h:x.map lg=some (fl,aI)) (k:x=some aI->fl=.next->C):C:=by
 cases x with
 | none=>cases h
 | some a=>cases h;exact k rfl rfl
theorem ES (S:∀ m,iE G o r m) (SO:qN G o) (X:DL G o r Wn n) {aI:SE}{st:Stmt}{fl:Fl} (hr:bz A (n+1+r)) (h:ex o Wn (n+1) sc σ st=some (fl,aI)) (W:dh G P env sc σ V H tag s) :
  wpAny (model ag w) A (exec st env) (dc G P env sc V H s fl aI) EF s:=by
 have hr':bz A (n+r):=hr.le (by exact pn [_,_] 0x0DA1A180A10)
 cases st with
 | Assign ts v pos=>exact B4 h fun h e=>by rw [e];exact Bu S SO hr' W h
 | AugAssign t op v pos=>exact B4 h fun h e=>by rw [e];exact BF S hr' W h
 | Expr e pos=>exact B4 h fun h e=>by rw [e];exact vf S hr' W h
 | If t b e pos=>
  refine cu (x:=evT o n sc σ t) (f:=fun c=>if c=true then exs o Wn n sc σ b else exs o Wn n sc σ e) h fun c hc h=>wpAny_If (cK ((S n).evT hr' hc W.st.ev) fun b aG g=>?_);refine xA g ?_;clear g;rintro rfl k
  cases b with
  | true=>exact cK (X.exs hr' h (W.kp k)) fun J J g=>dc.kp W k g
  | false=>exact cK (X.exs hr' h (W.kp k)) fun J J g=>dc.kp W k g
 | For t it body els pos=>
  refine iC (x:=(evI o n sc σ t it).bind fun items=>exF o Wn n sc σ t items body) h fun he h=>cu h fun items hi h=>?_;rw [dQ he];exact CM S X hr' W hi h
 | Return e pos=>
  refine cu (x:=e) (f:=fun e=>(ev o n sc (GV σ) e).map fun v=>(Fl.ret v,[])) h fun e he h=>?_;refine bO (b3.mp h) ?_;intro v hv h
  cases h
  rw [he];exact wH S hr' W hv
 | Break pos=>
  have h:some (Fl.brk,σ)=some (fl,aI):=h
  cases h
  rw [arm_exec_Break];exact wpAny_bind (wpAny_standAt (wpAny_pure ⟨rfl,V,H,tag,W,j7.refl,cS.refl _ _⟩))
 | _=>exact nn h
theorem D6 (S:∀ m,iE G o r m) (SO:qN G o) (Wn:List Str):∀ n,DL G o r Wn n:=by
 intro n
 induction n with
 | zero=>exact ⟨fun J h=>nn h,fun J h=>nn h,fun J h=>nn h⟩
 | succ n ih=>exact ⟨ES S SO ih,A6 ih,BK ih⟩
end
end Mine
end
section
namespace Mine
section
variable {A:Around}{s:Shared}{V H:Addr->Prop}{env:Env}{sc:Sc}{σ:SE}
variable {o:cV}{r n:Nat}{tag:Addr->Str}{P:Str->Value->Prop}{Wn:List Str}
theorem qv {kindOf:Str->Option NameKind}:∀ (binds:List (Str×Value)) (m cm:Str->Option Value),(binds.map (·.1)).Nodup ->
  (∀ x v,(x,v)∈binds->(kindOf x=some .local->bindL kindOf binds m x=some v)/\(kindOf x≠some .local->bindC kindOf binds cm x=some v)) /\
  (∀ x,(∀ q∈binds,q.1≠x)->bindL kindOf binds m x=m x/\bindC kindOf binds cm x=cm x)
 | [],m,cm,_=>⟨fun J J h=>(nomatch h),fun J J=>⟨rfl,rfl⟩⟩
 | (n,v)::r,m,cm,hn=>by
  rw [aw,bI] at hn;have no:∀ q∈r,q.1≠n:=fun q hq e=>hn.1 (aB.mpr ⟨q,hq,e⟩);by_cases hk:kindOf n=some .local
  ·refine xA (qv (kindOf:=kindOf) r (fun y=>if y=n then some v else m y) cm hn.2) ?_;intro h1 h2
   refine ⟨fun x u hx=>?_,fun x hx=>?_⟩
   ·unfold bindL bindC
    rw [if_pos hk,if_pos hk];rcases ar.mp hx with q | q
    ·cases q
     refine ⟨fun J=>?_,fun h=>absurd hk h⟩;rw [(h2 _ no).1,if_pos rfl]
    ·exact h1 x u q
   ·unfold bindL bindC
    rw [if_pos hk,if_pos hk];refine xA (h2 x fun q hq=>hx q (.tail _ hq)) ?_;intro a b;exact ⟨by rw [a,if_neg (fun e=>hx (n,v) (.head _) e.symm)],b⟩
  ·refine xA (qv (kindOf:=kindOf) r m (fun y=>if y=n then some v else cm y) hn.2) ?_;intro h1 h2
   refine ⟨fun x u hx=>?_,fun x hx=>?_⟩
   ·unfold bindL bindC
    rw [if_neg hk,if_neg hk];rcases ar.mp hx with q | q
    ·cases q
     refine ⟨fun h=>absurd h hk,fun J=>?_⟩;rw [(h2 _ no).2,if_pos rfl]
    ·exact h1 x u q
   ·unfold bindL bindC
    rw [if_neg hk,if_neg hk];refine xA (h2 x fun q hq=>hx q (.tail _ hq)) ?_;intro a b;exact ⟨a,by rw [b,if_neg (fun e=>hx (n,v) (.head _) e.symm)]⟩
theorem fW.at {h:Heap}{L:List (Str×Bool×PV)}{vs:List Value} (sl:fW G V H tag h L vs) (x:Str) (b:Bool) (p:PV) (hm:(x,b,p)∈L):∃ v,(x,v)∈(L.map (·.1)).zip vs/\gk G h V H tag x b p v:=by
 induction sl with
 | nil=>cases hm
 | cons s1 _ ih=>
  rw [aw,List.zip_cons_cons];rcases ar.mp hm with q | q
  ·cases q;exact ⟨_,.head _,s1⟩
  ·refine bO (ih q) ?_;intro v h1 h2
   exact ⟨v,.tail _ h1,h2⟩
theorem vN:∀ {L:List (Str×Bool×PV)}{σ:SE}{x:Str}{u:Bool×PV},(L.map (·.1)).Nodup->(putL σ L).lookup x=some u->(x,u)∈L\/σ.lookup x=some u:=by
 intro L σ x u hn h;by_cases hx:∃ v,(x,v)∈L
 ·refine xE hx ?_;clear hx;intro v hv
  rw [nY hn hv] at h
  cases h
  exact .inl hv
 ·rw [jl fun q hq e=>hx ⟨q.2,by rw [<- e];exact hq⟩] at h
  exact .inr h
theorem Dt {scope:Scope}{env:Env}{L:List (Str×Bool×PV)}{vals:List Value}{s aG:Shared} (hin:G.In s.heap) (lo:kh V s.heap) (hk:scope.kind=.function) (hnd:(scope.names.map (·.1)).Nodup)
  (hall:∀ x k,(x,k)∈scope.names->k=.local\/k=.cell\/k=.globalImplicit)
  (esc:env.scope=scope) (egl:env.globals=mainGlobals) (ebi:env.builtins=builtinsNs) (eloc:env.locals=s.heap.objs.size) (ecel:env.cells=cellsFrom (s.heap.objs.size+1) scope.names [])
  (x:InCallC s env.locals (bindL env.kindOf ((L.map (·.1)).zip vals) fun J=>none) env.cells (bindC env.kindOf ((L.map (·.1)).zip vals) fun J=>none) aG)
  (hL:(L.map (·.1)).Nodup) (hlen:L.length=vals.length) (hms:∀ q∈L,bh scope.names q.1=true) (sl:fW G V H tag s.heap L vals) (hH:∀ a,H a->V a/\G.base.get? a=none) :
  dh G (fun J J=>False) env scope.names (putL [] L) (fun a=>V a\/(s.heap.get? a=none/\aG.heap.get? a≠none)) H tag aG/\Kp s aG/\(∀ a,lm env scope.names a->s.heap.get? a=none):=by
 refine jw x.toInCall.done ?_;intro h' tk same keep;have k:Kp s aG:=by rw [same];exact Kp.of keep
 have noneOf:∀ a,s.heap.objs.size<=a->s.heap.get? a=none:=fun a h=>by
  cases e:s.heap.get? a with
  | none=>rfl
  | some o=>exact absurd (aV e) (dS.mpr h)
 have kindOf:∀ y,env.kindOf y=scope.names.lookup y:=fun y=>by unfold Env.kindOf;rw [esc]
 have cellMem:∀ y c,env.cells.lookup y=some c->scope.names.lookup y=some .cell/\s.heap.objs.size < c:=fun y c e=>by
  have m:=mem_of_lookup e;refine ⟨gp hnd (hJ (ecel ▸ m)),?_⟩
  have:=x.above y c m
  rw [eloc] at this;exact this
 have gr:∀ a,s.heap.get? a≠none->(V a\/(s.heap.get? a=none/\aG.heap.get? a≠none))->V a:=fun a e q=>q.elim id fun q=>absurd q.1 e;have names:(((L.map (·.1)).zip vals).map (·.1))=L.map (·.1):=List.map_fst_zip (by rw [aa];exact (pn [_,_] 0x0D102D10) hlen);refine xA (qv (kindOf:=env.kindOf) ((L.map (·.1)).zip vals) (fun J=>none) (fun J=>none) (by rw [names];exact hL)) ?_;intro bv _;have cellAt:∀ y,scope.names.lookup y=some .cell->∃ c,env.cells.lookup y=some c:=fun y hy=>by
  refine xE (fH (n:=s.heap.objs.size+1) (mem_of_lookup hy)) ?_;intro c hc;refine xE (kE hc) ?_;intro b hb;exact ⟨b,by rw [ecel];exact hb⟩
 have varAt:∀ y v,(y,v)∈(L.map (·.1)).zip vals->bh scope.names y=true->dz env aG.heap y v:=fun y v hy hm=>by
  unfold bh at hm;simp only [aR,dF,beq_iff_eq] at hm;rcases hm.2 with hl | hc
  ·exact .inl ⟨by rw [kindOf];exact hl,_,x.toInCall.ns,(bv y v hy).1 (by rw [kindOf];exact hl)⟩
  ·refine xE (cellAt y hc) ?_;intro c hcl
   refine .inr ⟨.inl (by rw [kindOf];exact hc),c,hcl,?_⟩
   have:=x.cell y c hcl
   rw [(bv y v hy).2 (by rw [kindOf,hc];simp)] at this;exact this
 have FB:∀ a,s.heap.get? a≠none->aG.heap.get? a≠none:=fun a e q=>e (k.none q);have locEx:aG.heap.get? env.locals≠none:=by refine oX x.toInCall.ns ?_;intro o _ _ ho _;exact bT ho
 have slotAt:∀ y b p,(y,b,p)∈L->∃ v,dz env aG.heap y v/\gk G aG.heap (fun a=>V a\/(s.heap.get? a=none/\aG.heap.get? a≠none)) H tag y b p v:=fun y b p hm=>by
  refine bO (sl.at y b p hm) ?_;intro v h1 h2;refine ⟨v,varAt y v h1 (hms _ hm),?_⟩
  cases b with
  | true=>exact js.keep (fun b o J e=>k.keep b o e) (fun b o J e=>k.keep b o e) gr (h2:js G s.heap V _ p v)
  | false=>exact Rep.keep (fun b o J e=>k.keep b o e) gr (h2:G.Rep s.heap V p v)
 have locNone:s.heap.get? env.locals=none:=noneOf _ (by rw [eloc];exact aE _);have cellNone:∀ y c,env.cells.lookup y=some c->s.heap.get? c=none:=fun y c e=>noneOf _ (Nat.le_of_lt (cellMem y c e).2);have baseNone:∀ a,s.heap.get? a=none->G.base.get? a=none:=fun a h=>eJ hin h;have cellEx:∀ y c,env.cells.lookup y=some c->aG.heap.get? c≠none:=fun y c e=>by
  refine bO (x.cell y c e) ?_;intro o ho _;exact bT ho
 refine ⟨⟨⟨⟨hin.kp k,by rw [esc];exact hk,egl,ebi,⟨_,x.toInCall.ns⟩,fun y e=>by rw [kindOf];exact e,fun y e=>by rw [kindOf];exact e,?_,?_,?_,?_,?_⟩,.inr ⟨locNone,locEx⟩,fun y c J e=>.inr ⟨cellNone y c e,cellEx y c e⟩,?_,?_,?_,?_,fun y e=>by rw [kindOf];exact e⟩,fun a h=>.inl (hH a h).1,?_,?_,fun J J q=>q.elim,fun J J q=>q.elim⟩,k,?_⟩
 ·intro y hy
  rcases hy with hy | hy
  ·refine xE (cellAt y hy) ?_;intro c hc
   exact ⟨.inl (by rw [kindOf];exact hy),c,hc,_,x.cell y c hc⟩
  ·rcases hall y _ (mem_of_lookup hy) with q | q | q<;>cases q
 ·intro y b p e
  rcases vN hL e with hm | hm
  ·refine bO (slotAt y b p hm) ?_;intro v hv hs
   exact ⟨v,hv,hs.slot⟩
  ·cases hm
 ·intro a h
  rcases h with rfl | ⟨y,h⟩ | h
  ·exact baseNone _ locNone
  ·exact baseNone _ (cellNone y a h)
  ·exact (hH a h).2
 ·intro a h
  rcases h with rfl | ⟨y,h⟩ | h
  ·exact locEx
  ·exact cellEx y a h
  ·exact FB a (lo a (hH a h).1)
 ·intro a h
  exact h.elim (fun h=>FB a (lo a h)) fun h=>h.2
 ·intro y c e
  have:=(cellMem y c e).2
  rw [eloc];exact kw this
 ·intro y z c _ e1 e2
  exact name_of_addr x.apart (mem_of_lookup e2) (mem_of_lookup e1)
 ·intro h
  exact lo _ (hH _ h).1 locNone
 ·intro y c _ e h
  exact lo _ (hH _ h).1 (cellNone y c e)
 ·intro y p e
  rcases vN hL e with hm | hm
  ·exact slotAt y true p hm
  ·cases hm
 ·intro y c e h
  exact lo _ (hH _ h).1 (cellNone y c e)
 ·rintro a (rfl | ⟨y,_,h⟩)
  ·exact locNone
  ·exact cellNone y a h
structure w4 (G:GX ag w) (f:Addr) (params:List Str) (scope:Scope) (body:List Stmt):Prop where
 ok:∃ ob fd,G.base.get? f=some ob/\ob.data=.func fd/\G.base.CodeRec fd.code fd.qualname/\fd.body=.stmts body/\fd.closure=[]/\fd.globals=mainGlobals/\fd.builtins=builtinsNs/\fd.scope=scope /\
  ∀ vals:List Value,vals.length=params.length->bindArgs fd ⟨vals,[]⟩=pure (params.zip vals)
theorem vZ:∀ {xs:List Str}{ps:List PV}{σ aI:SE},dn sc xs ps σ=some aI->aI=putL σ (dD xs ps)/\(∀ x∈xs,bh sc x=true):=fun {xs}=>by
 induction xs with
 | nil=>intro ps σ aI h;exact iC h fun hp h=>by rw [dQ hp,bH h];exact ⟨rfl,fun J h=>nomatch h⟩
 | cons x xs ih=>
  intro ps σ aI h
  cases ps with
  | nil=>exact nn h
  | cons p ps=>
   refine fh h fun hm h=>?_;refine xA (ih h) ?_;intro h1 h2;exact ⟨h1,fun y hy=>(ar.mp hy).elim (fun e=>e ▸ hm) (h2 y)⟩
theorem mv {h:Heap}:∀ {xs:List Str}{ps:List PV}{vs:List Value},xs.length=ps.length->G.RepL h V ps vs->fW G V H tag h (dD xs ps) vs:=fun {xs}=>by
 induction xs with
 | nil=>
  intro ps vs hl r
  cases ps with
  | cons _ _=>cases hl
  | nil=>cases vs with
   | nil=>exact .nil
   | cons v vs=>exact False.elim r
 | cons x xs ih=>
  intro ps vs hl r
  cases ps with
  | nil=>cases hl
  | cons p ps=>cases vs with
   | nil=>exact False.elim r
   | cons v vs=>exact .cons (b:=false) r.1 (ih (Nat.succ.inj hl) r.2)
theorem hK {xs:List Str}{ps:List PV} (hl:xs.length=ps.length):(dD xs ps).map (·.1)=xs:=by
 unfold dD;rw [ao];show List.map (fun q:Str×PV=>q.1) (xs.zip ps)=xs;exact List.map_fst_zip (by exact (pn [_,_] 0x0D102D10) hl)
theorem xQ {h:Heap} (i:G.In h):h.NoLimit:=by
 refine bO G.nolimit ?_;intro mc hn e;exact ⟨mc,Do i hn,e⟩
theorem xJ {h:Heap} (i:G.In h) {cd:Value}{q:Str} (x:G.base.CodeRec cd q):h.CodeRec cd q:=x.keeps fun b o e=>i b o e
theorem sQ {f:Addr}{params:List Str}{scope:Scope}{body:List Stmt}{L:List (Str×Bool×PV)}{vals:List Value}{Q:Value->Shared->Prop} (F:w4 G f params scope body) (hr:bz A (n+1)) (hin:G.In s.heap) (lo:kh V s.heap)
  (hk:scope.kind=.function) (hg:scope.isGenerator=false) (hco:scope.isCoroutine=false) (hnd:(scope.names.map (·.1)).Nodup) (hall:∀ x k,(x,k)∈scope.names->k=.local\/k=.cell\/k=.globalImplicit)
  (hp:L.map (·.1)=params) (hpn:params.Nodup) (hlen:L.length=vals.length) (hms:∀ q∈L,bh scope.names q.1=true) (sl:fW G V H tag s.heap L vals) (hH:∀ a,H a->V a/\G.base.get? a=none)
  (h:∀ (A':Around) (env:Env) (aG:Shared),bz A' n->dh G (fun J J=>False) env scope.names (putL [] L) (fun a=>V a\/(s.heap.get? a=none/\aG.heap.get? a≠none)) H tag aG->Kp s aG->(∀ a,lm env scope.names a->s.heap.get? a=none) ->
   wpAny (model ag w) A' (execs body env) (fun fl s'=>Q (match fl with | .ret v=>v | _=>.none) s') EF aG) :
  codeAny (model ag w) A (.call (.ref f) ⟨vals,[]⟩) (fun r s'=>match r with | .ok (.ret v)=>Q v s' | .ok _=>False | .error _=>False) s:=by
 obtain ⟨ob,fd,ho,hdata,hcd,hbody,hclo,hgl,hbi,hsc,hbind⟩:=F.ok;subst hsc;have hpl:vals.length=params.length:=by rw [<- hp,aa,hlen]
 refine codeAny_call_cells (R:=fun r s'=>match r with | .ok (.ret v)=>Q v s' | .ok _=>False | .error _=>False) hr.depth (hin _ _ ho) hdata (xQ hin) (xJ hin hcd) hbody (hbind vals hpl) hclo ?_ ?_ hco hg hk
 ·intro y hy
  obtain ⟨y,v⟩:=y;have hy':y∈params:=(List.of_mem_zip hy).1;rw [<- hp] at hy';refine bO (aB.mp hy') ?_;rintro q hq rfl
  have:=hms q hq
  unfold bh at this;simp only [aR,dF,beq_iff_eq] at this;rcases this.2 with z | z
  ·exact .inl z
  ·refine .inr ⟨z,?_⟩
   refine xE (fH (n:=s.heap.objs.size+1) (mem_of_lookup z)) ?_;intro c hc;refine xE (kE hc) ?_;intro b hb;show ((cellsFrom (s.heap.objs.size+1) fd.scope.names []).lookup q.1).isSome=true;rw [hb];rfl
 ·intro aG x
  rw [<- hp] at x;have fo:=Dt (env:=callEnvC fd s.heap.objs.size f) hin lo hk hnd hall rfl hgl hbi rfl rfl x (by rw [hp];exact hpn) hlen hms sl hH;exact wpAny_mono (h (A.deeper (callEnvC fd s.heap.objs.size f)) _ aG hr.deeper fo.1 fo.2.1 fo.2.2) (fun fl s' z=>z) fun J J x=>x.elim
theorem rE {params:List Str}{scope:Scope}{args:List PV} (h:w6 params scope args=true):params.length=args.length/\params.Nodup/\scope.kind=.function/\scope.isGenerator=false/\scope.isCoroutine=false/\(scope.names.map (·.1)).Nodup/\∀ x k,(x,k)∈scope.names->k=.local\/k=.cell\/k=.globalImplicit:=by
 unfold w6 at h;simp only [aR,decide_eq_true_eq,beq_iff_eq,Bool.not_eq_true',bo,dF] at h;refine xA h ?_;clear h;rintro ⟨⟨⟨⟨⟨h1,h2⟩,h3⟩,h4⟩,h5⟩,h6⟩ h7;exact ⟨h1,of_decide_eq_true h2,h3,h4,h5,h6,fun x k hx=>(h7 (x,k) hx).elim (fun q=>q.imp id .inl) fun q=>.inr (.inr q)⟩
theorem lG {xs:List Str}{ps:List PV}{vs:List Value} (h1:xs.length=ps.length) (h2:ps.length=vs.length):(dD xs ps).length=vs.length:=by
 unfold dD;rw [aa,List.length_zip,h1,Nat.min_self,h2]
theorem mu {xs:List Str}{ps:List PV} (hl:xs.length=ps.length) (hms:∀ x∈xs,bh sc x=true):∀ q∈dD xs ps,bh sc q.1=true:=fun q hq=>hms _ (by rw [<- hK hl];exact aB.mpr ⟨q,hq,rfl⟩)
theorem tC (X:∀ n,DL G o r Wn n) {f:Addr}{params:List Str}{scope:Scope}{body:List Stmt}{args:List PV}{p:PV} (F:w4 G f params scope body) (h:e5 o Wn n params scope body args=some p):kT G (n+r+1) (.ref f) args p:=by
 intro A s V vs hr hin lo rl;refine iC h fun hc h=>cu h fun σ hb h=>cu h fun q hx h=>?_;refine yW (rE hc) ?_;intro h1 hpn h3 h4 h5 h6 h7;refine xA (vZ hb) ?_;intro e hms;subst e;refine wpAny_call (sQ (L:=dD params args) (H:=fun J=>False) (tag:=fun J=>⟨#[]⟩) F hr hin lo h3 h4 h5 h6 h7 (hK h1) hpn (lG h1 (RepL.length rl)) (mu h1 hms) (mv h1 rl) (fun a h=>h.elim) fun A' env aG hr' W k hloc=>?_);have kk:∀ {s':Shared},cS (ki env scope.names fun J=>False) aG s'->Kp s s':=fun {s'} k'=>
  ⟨fun b ob J e=>k'.heap b ob (fun q=>q.elim (fun q=>nomatch (hloc b q).symm.trans e) id) (k.keep b ob e),k'.os.trans k.os,fun g=>k'.gens (k.gens g)⟩
 obtain ⟨DF,aI⟩:=q
 cases DF with
 | ret v=>
  have h:=bH (show some v=some p from h);subst h;refine cK ((X n).exs hr' hx W) fun fl s' g=>?_;refine nM g ?_;clear g;rintro u rfl V' H' e' rp k';exact ⟨Rep.keep (bU.refl _ _) (fun a J q=>⟨e'.v a (.inl q),fun hq=>(e'.h' a hq).elim id fun z=>lo a q (k.none z)⟩) rp,kk k'⟩
 | next=>
  have h:=bH (show some PV.none=some p from h);subst h;refine cK ((X n).exs hr' hx W) fun fl s' g=>?_;refine jA g ?_;clear g;rintro rfl V' H' tag' W' e' k';exact ⟨lq.mpr rfl,kk k'⟩
 | brk=>exact nn h
end
end Mine
end
section
namespace Mine
section
variable {A:Around}{s:Shared}{V H:Addr->Prop}{K:Frag}{C:Addr}
variable {o:cV}{r n:Nat}{Wn:List Str}
theorem pL {h:Heap}{x d:Addr}{es:Array DictEntry}{ep:Nat} (g:h.get? x=some { cls:=.ref C,dict:=some d,data:=.plain }) (gd:h.get? d=some { cls:=.type "dict",data:=.dict es ep }) :
  InstAt h x { cls:=.ref C,dict:=some d,data:=.plain } C (some { cls:=.type "dict",data:=.dict es ep }):=⟨g,rfl,rfl,gd⟩
theorem DI (KB:K.In G.base) {h:Heap} (i:G.In h):K.In h:=fun a ob e=>i a ob (KB a ob e)
theorem qk (KB:K.In G.base) {a:Str}{attr:Option Value} (hg:plainGet K C a=true) (hh:hasDictIn K C=true) (ha:findIn K (.ref C) a=some attr) (hn:noGet K attr=true)
  {x d:Addr}{es:Array DictEntry}{ep:Nat}{e:DictEntry}{Q:Value->Shared->Prop}{E:Value->Shared->Prop} (i:G.In s.heap)
  (g:s.heap.get? x=some { cls:=.ref C,dict:=some d,data:=.plain }) (gd:s.heap.get? d=some { cls:=.type "dict",data:=.dict es ep }) (he:es.toList.find? (·.key.isStr a)=some e) (hv:handedIn e.val=true) (q:∀ tk,Q e.val { s with toks:=tk }) :
  wpAny (model ag w) A (getAttr (.ref x) a true) Q E s:=by
 refine get_value (DI KB i) (pL g gd) (plainGet_of hg).1 (findObj_own hh ha hn ?_) hv (q _);unfold lookIn;dsimp only;rw [he]
theorem xN (KB:K.In G.base) {m:Str}{f:Addr} (hg:plainGet K C m=true) (hf:findIn K (.ref C) m=some (some (.ref f))) (ht:typeIn K (.ref f)=some (.type "function"))
  {x d:Addr}{es:Array DictEntry}{ep:Nat}{pl:Sem Bool}{Q:Value×List Value->Shared->Prop}{E:Value->Shared->Prop} (i:G.In s.heap)
  (g:s.heap.get? x=some { cls:=.ref C,dict:=some d,data:=.plain }) (gd:s.heap.get? d=some { cls:=.type "dict",data:=.dict es ep }) (h1:es.toList.find? (·.key.isStr m)=none) (h2:es.toList.any (·.refKey)=false) (q:Q (.ref f,[.ref x]) s) :
  wpAny (model ag w) A (getMethod (.ref x) m pl) Q E s:=by
 refine method_fn (DI KB i) (pL g gd) (plainGet_of hg).1 (plainGet_of hg).2 hf ht ?_ q;unfold shadowIn lookIn;simp only [h1,h2];rfl
theorem Bs {h:Heap}{V:Addr->Prop}{a:Str}{p:PV}{v:Value}{hsh:Int}{t:Tok} (rp:G.Rep h V p v) {fs:List (Str×PV)}{es:List DictEntry} (x:G.RepF h V fs es):G.RepF h V (rB fs a p) (PySem.W.putL a hsh (.str a t) v es):=
 RepF.ind (C:=fun fs es=>G.RepF h V (rB fs a p) (PySem.W.putL a hsh (.str a t) v es)) (And.intro ⟨t,rfl⟩ ⟨rp,trivial⟩) (fun k u t' e fs es hk ru x ih=>by
  have e1:e.key.isStr a=(k == a):=by rw [hk];rfl
  show G.RepF h V (if (k == a)=true then (k,p)::fs else (k,u)::rB fs a p) (if e.key.isStr a=true then { e with val:=v }::es else e::PySem.W.putL a hsh (.str a t) v es);rw [e1];by_cases q:(k == a)=true
  ·rw [if_pos q,if_pos q];exact And.intro ⟨t',hk⟩ ⟨rp,x⟩
  ·rw [if_neg q,if_neg q];exact And.intro ⟨t',hk⟩ ⟨ru,ih⟩) x
theorem qz (KB:K.In G.base) {a:Str}{v:Value} (hs:findIn K (.ref C) "__setattr__"=some (some (.builtin "object.__setattr__"))) (hp:plainOver K C=true) (ht:takerIn K C a=some none) (hh:hasDictIn K C=true)
  {x d:Addr}{es:Array DictEntry}{ep:Nat}{Q:Unit->Shared->Prop} (i:G.In s.heap)
  (g:s.heap.get? x=some { cls:=.ref C,dict:=some d,data:=.plain }) (gd:s.heap.get? d=some { cls:=.type "dict",data:=.dict es ep }) (hz:es.size<=100) {fs:List (Str×PV)}{V:Addr->Prop} (rf:G.RepF s.heap V fs es.toList)
  (q:∀ h' tk es' ep',dk d s.heap h'->h'.get? d=some { cls:=.type "dict",data:=.dict es' ep' }->(∀ V p,G.RepF h' V fs es.toList->G.Rep h' V p v->G.RepF h' V (rB fs a p) es'.toList)->Q () { s with heap:=h',toks:=tk }) :
  wpAny (model ag w) A (setAttr (.ref x) a v) Q EF s:=by
 obtain ⟨hp0,gs0,dr0,tk0,os0⟩:=s;dsimp only at i g gd rf q;refine set_plain (DI KB i) (pL g gd) hs ?_;refine osa_open (s:=⟨hp0,gs0,dr0,tk0+1,os0⟩) (DI KB i) (pL g gd) hp ht fun b=>?_;refine bO (any_some hh) ?_;intro cd hc hd';have keys:=sP rf;refine wpAny_bind (wpAny_pure (wpAny_bind (wpAny_bind (wpAny_loadPart g (wpAny_bind ((looks_clsIn (DI KB i) hc).here ?_))))));rw [hd'];refine wpAny_pure (a:=some d) (wpAny_bind (wpAny_pure (wpAny_bind ?_)));unfold nsSet;refine wpAny_bind (wpAny_bind (wpAny_askSetting (wpAny_pure (wpAny_bind (wpAny_mkText (wpAny_bind (wpAny_loadPart gd ?_)))))));dsimp only;have c:(!es.any (·.key.isStr a) && es.any (·.refKey))=false:=by
  rw [<- Array.any_toList,<- Array.any_toList,keys,f0]
 rw [aRefKeyMayBeTheName_at,c];have ed:(⟨Value.type "dict",none,Data.dict es ep,#[]⟩:Obj)=dictOf es.toList ep:=by unfold dictOf;simp
 have pnq:∀ hsh key,Obj.putName a hsh key v ⟨Value.type "dict",none,Data.dict es ep,#[]⟩=dictOf (PySem.W.putL a hsh key v es.toList) (putN a es.toList ep):=fun hsh key=>by rw [ed,putName_dict]
 refine wpAny_updatePart gd ?_;have D':(hp0.update d (Obj.putName a (PyData.keyHash w.params a) (.str a (tk0+1)) v)).get? d=some (dictOf (PySem.W.putL a (PyData.keyHash w.params a) (.str a (tk0+1)) v es.toList) (putN a es.toList ep)):=by
  rw [Heap.get?_update_self _ gd (by rw [pnq];rfl),pnq]
 have plen:∀ {hsh key} (l:List DictEntry),(PySem.W.putL a hsh key v l).length<=l.length+1:=by
  intro hsh key l
  induction l with
  | nil=>simp [PySem.W.putL]
  | cons e r ih=>
   unfold PySem.W.putL;split
   ·simp
   ·simp only [aD];exact (pn [_,_] 0x0DA18A181A1800DA1810) ih
 have esz:es.toList.length=es.size:=bR;refine wpAny_bind (wpAny_lookBehind D' (pastItsLine_dict (by
  have:=plen (hsh:=PyData.keyHash w.params a) (key:=.str a (tk0+1)) es.toList
  rw [aA,bu];exact (pn [_,_,_] 0x0DA18010000004920DA18122D010D64190) hz esz this)) ?_)
 refine wpAny_pure ?_;refine q _ _ _ _ (Heap.SameBut.update ..) D' fun V p rf' rp=>?_;show G.RepF _ V (rB fs a p) (PySem.W.putL a _ _ v es.toList).toArray.toList;rw [List.toList_toArray];exact Bs rp rf'
noncomputable def Hr (self c:Str) (q:Fl×SE):Option PV:=match q.1 with
 | .next=>(pC q.2 self).bind fun u=>(rG u).bind fun cf=>gd (cf.1 == c) (some (.obj c cf.2))
 | .brk=>none
 | .ret _=>none
noncomputable def kQ (o:cV) (W:List Str) (n:Nat) (params:List Str) (scope:Scope) (body:List Stmt) (c:Str) (args:List PV):Option PV:=match params with
 | self::ps=>
  gd (w6 (self::ps) scope (.none::args) && (self::ps).all (bh scope.names))
   ((exs o W n (scope.names.filter fun q=>q.1 != self) (putL [] ((self,true,.obj c [])::dD ps args)) body).bind (Hr self c))
 | []=>none
end
end Mine
end
section
namespace Mine
section
variable {A:Around}{s:Shared}{V H:Addr->Prop}{K:Frag}{C:Addr}
variable {o:cV}{r n:Nat}{Wn:List Str}{env:Env}{sc:Sc}{σ:SE}{tag:Addr->Str}
theorem dh.narrow {sc':Sc}{P:Str->Value->Prop} (W:dh G (fun J J=>False) env sc σ V H tag s) (sub:∀ x k,sc'.lookup x=some k->sc.lookup x=some k) (pin:∀ x v,P x v->dz env s.heap x v) (np:∀ x v,P x v->bh sc' x=false) :
  dh G P env sc' σ V H tag s:=by
 have T:=W.st;have E:=T.ev;exact ⟨⟨⟨E.base,E.kind,E.gl,E.bi,E.ns,fun x e=>E.glob x (sub x _ e),fun x e=>E.loc x (sub x _ e),fun x e=>E.cel x (e.imp (sub x _) (sub x _)),E.vars,E.hnb,E.hex,E.low⟩,T.vl,fun x c e=>T.vc x c (sub x _ e),T.nl,
  fun x y c e=>T.nc x y c (sub x _ e),T.hl,fun x c e=>T.hc x c (sub x _ e),fun x e=>T.kc x (sub x _ e)⟩,W.hv,W.sep,W.fc,pin,np⟩
theorem fC {self x:Str}{k:NameKind}:∀ {l:Sc},(l.filter fun q=>q.1 != self).lookup x=some k->x≠self/\l.lookup x=some k
 | [],h=>by cases h
 | (y,j)::r,h=>by
  rw [List.filter_cons] at h;by_cases hy:(y != self)=true
  ·rw [if_pos hy,aP] at h
   rw [aP]
   cases e:x == y with
   | true=>
    rw [e] at h
    have:x=y:=by simpa using e
    subst this;exact ⟨by simpa using hy,h⟩
   | false=>rw [e] at h;exact fC h
  ·rw [if_neg hy] at h
   refine xA (fC h) ?_;intro h1 h2;refine ⟨h1,?_⟩
   have:x≠y:=by
    rintro rfl;exact hy (by simpa using h1)
   rw [aP,beq_eq_false_iff_ne.mpr this];exact h2
theorem Ak {args:List Value} (h:bz A (n+1)):bz (A.under (.builtin "type.__call__" ⟨.ref C::args,[]⟩)) n:=by
 refine ⟨h.1,?_,?_⟩
 ·have:=h.2.1
  show A.depth+(Code.builtin "type.__call__" ⟨.ref C::args,[]⟩).weight+n < 1000;have e:(Code.builtin "type.__call__" ⟨.ref C::args,[]⟩).weight<=1:=Nat.le_of_ble_eq_true rfl;exact (pn [_,_,_] 0x1D03E829A1A200D1821D03E829AA1810) this e
 ·have:=h.2.2
  show A.units+(Code.builtin "type.__call__" ⟨.ref C::args,[]⟩).cUnits+10 * n < 9900;have e:(Code.builtin "type.__call__" ⟨.ref C::args,[]⟩).cUnits<=10:=Nat.le_of_ble_eq_true rfl;exact (pn [_,_,_] 0x1D26AC29A4C1A8A200DA821D26AC29A4CA181A80) this e
structure mm (G:GX ag w) (V:Addr->Prop) (C:Addr) (c:Str) (s aX:Shared):Prop where
 k0:Kp s aX
 gdx:aX.heap.get? s.heap.objs.size=some emptyDict
 gx:aX.heap.get? (s.heap.objs.size+1)=some (instObj C s.heap.objs.size)
noncomputable def qI (n:Addr) (a:Addr):Prop:=a=n\/a=n+1
theorem n8 {h:Heap}{a:Addr} (q:qI h.objs.size a):h.get? a=none:=
 q.elim (fun q=>q ▸ pw (aE _)) fun q=>q ▸ pw (eh _)
theorem xj {hp:Heap}{gs dr tk os}:mm G V C c ⟨hp,gs,dr,tk,os⟩ ⟨(hp.push emptyDict).push (instObj C hp.objs.size),gs,dr,tk,os⟩:=
 ⟨⟨fun b ob J e=>au _ (au _ e),rfl,id⟩,au _ (aH _ rfl),by
  have:=aH (hp.push emptyDict) (o:=instObj C hp.objs.size) rfl
  rwa [eW] at this⟩
theorem mm.low {c:Str}{aX:Shared} (F:mm G V C c s aX) (lo:kh V s.heap):kh (fun a=>V a\/qI s.heap.objs.size a) aX.heap:=fun a q=>by
 rcases q with q | q | q
 ·exact lo.kp F.k0 a q
 ·rw [q,F.gdx];exact fun q=>nomatch q
 ·rw [q,F.gx];exact fun q=>nomatch q
theorem mm.slots {c self:Str}{aX:Shared}{ps:List Str}{args:List PV}{vs:List Value} (F:mm G V C c s aX) (hC:G.cl c=some C) (h1:ps.length=args.length) (rl:G.RepL s.heap V args vs) :
  fW G (fun a=>V a\/qI s.heap.objs.size a) (qI s.heap.objs.size) (fun J=>self) aX.heap ((self,true,.obj c [])::dD ps args) (.ref (s.heap.objs.size+1)::vs):=by
 refine .cons ?_ (mv h1 (RepL.keep (fun b ob J e=>F.k0.keep b ob e) (fun a e q=>q.elim id fun q=>absurd (n8 q) e) rl));show js G aX.heap _ _ (.obj c []) _;exact ⟨_,C,s.heap.objs.size,#[],0,rfl,⟨.inr rfl,rfl⟩,hC,⟨.inl rfl,rfl⟩,F.gx,F.gdx,trivial⟩
theorem mm.self {c self:Str}{aX aG:Shared}{ps:List Str}{args:List PV}{sc:Sc}{rV:Addr->Prop} (F:mm G V C c s aX) (hC:G.cl c=some C) (hpn:(self::ps).Nodup) (h1:ps.length=args.length) (k:Kp aX aG) (W:dh G (fun J J=>False) env sc (putL [] ((self,true,PV.obj c [])::dD ps args)) rV (qI s.heap.objs.size) (fun J=>self) aG) :
  dh G (fun y v=>y=self/\v=.ref (s.heap.objs.size+1)) env (sc.filter fun q=>q.1 != self) (putL [] ((self,true,PV.obj c [])::dD ps args)) rV (qI s.heap.objs.size) (fun J=>self) aG:=by
 have vself:dz env aG.heap self (.ref (s.heap.objs.size+1)):=by
  have hl:(putL [] ((self,true,PV.obj c [])::dD ps args)).lookup self=some (true,.obj c []):=nY (by rw [aw,hK h1];exact hpn) (.head _);obtain ⟨v,hv,a,C',d,es,ep,rfl,⟨ha,_⟩,hC',hd,g,_⟩:=W.sep self _ hl;rcases ha with ha | ha
  ·rw [ha,k.keep _ _ F.gdx] at g;cases g
  ·rw [<- ha];exact hv
 refine W.narrow (fun x k e=>(fC e).2) (fun x v q=>by rw [q.1,q.2];exact vself) fun x v q=>?_;unfold bh;rw [q.1];have nl:∀ k,(sc.filter fun q=>q.1 != self).lookup self≠some k:=fun k e=>(fC e).1 rfl;rw [Bool.and_eq_false_iff]
 right
 rw [Bool.or_eq_false_iff];exact ⟨beq_eq_false_iff_ne.mpr (nl _),beq_eq_false_iff_ne.mpr (nl _)⟩
theorem mm.done {c self:Str}{aX aG s':Shared}{sc:Sc}{rV:Addr->Prop}{aI:SE}{fs:List (Str×PV)} (F:mm G V C c s aX) (lo:kh V s.heap) (k:Kp aX aG) (hloc:∀ a,lm env sc a->aX.heap.get? a=none) (hV:∀ a,V a->rV a) (hs:aI.lookup self=some (true,.obj c fs))
  (g:Nx G (fun y v=>y=self/\v=.ref (s.heap.objs.size+1)) env (sc.filter fun q=>q.1 != self) rV (qI s.heap.objs.size) aI aG s'):b4 G V s (.obj c fs) (.ref (s.heap.objs.size+1)) s':=by
 refine Df g ?_;clear g;intro V' H' tag' W'' e' k';refine ⟨?_,⟨fun b ob J e=>k'.heap b ob (fun q=>?_) (k.keep b ob (F.k0.keep b ob e)),k'.os.trans (k.os.trans F.k0.os),fun g=>k'.gens (k.gens (F.k0.gens g))⟩⟩
 ·obtain ⟨v,hv,a,C',d,es,ep,rfl,⟨ha,_⟩,hC',⟨hd,_⟩,g,gd,rf⟩:=W''.sep self _ hs
  have:=kd hv (W''.pin self _ ⟨rfl,rfl⟩)
  cases this
  have fresh:∀ b,H' b->¬ V b:=fun b hb vb=>(e'.h' b hb).elim (fun q=>lo b vb (n8 q)) fun q=>lo b vb (F.k0.none (k.none q));exact dj _ ⟨C',d,es,ep,rfl,fresh _ ha,hC',fresh _ hd,g,gd,RepF.keep (bU.refl _ _) (fun b J q=>e'.v b (hV b q)) rf⟩
 ·rcases q with q | q
  ·have q':lm env sc b:=q.imp id fun ⟨x,q1,q2⟩=>⟨x,(fC q1).2,q2⟩
   exact nomatch (F.k0.none (hloc b q')).symm.trans e
  ·exact nomatch (n8 q).symm.trans e
theorem DB (X:∀ n,DL G o r Wn n) {c self:Str}{fI:Addr}{ps:List Str}{scope:Scope}{body:List Stmt}{args:List PV}{p:PV} (KB:K.In G.base) (hm:makesIn K C=true) (hi:findIn K (.ref C) "__init__"=some (some (.ref fI))) (hf:typeIn K (.ref fI)=some (.type "function"))
  (hC:G.cl c=some C) (F:w4 G fI (self::ps) scope body) (h:kQ o Wn n (self::ps) scope body c args=some p):kT G (n+r+2) (.ref C) args p:=by
 intro A s V vs hr hin lo rl;have h:gd (w6 (self::ps) scope (.none::args) && (self::ps).all (bh scope.names))
   ((exs o Wn n (scope.names.filter fun q=>q.1 != self) (putL [] ((self,true,.obj c [])::dD ps args)) body).bind (Hr self c))=some p:=h
 refine iC h fun hc h=>cu h fun q hx h=>?_;refine xA (iq hc) ?_;intro hc h8;have h8:=bo.mp h8;refine yW (rE hc) ?_;intro h1 hpn h3 h4 h5 h6 h7;have h1:=Nat.succ.inj h1;obtain ⟨DF,aI⟩:=q
 cases DF with
 | next=>
  obtain ⟨fs,hs,hp⟩:∃ fs,aI.lookup self=some (true,.obj c fs)/\p=.obj c fs:=by
   refine cu (x:=pC aI self) (f:=fun u=>(rG u).bind fun cf=>gd (cf.1 == c) (some (PV.obj c cf.2))) h fun u hu h=>cu h fun cf hcf h=>iC h fun hcc h=>⟨cf.2,?_,bH h⟩
   have:=(nF hu).1
   rw [nv hcf,beq_iff_eq.mp hcc] at this;exact this
  subst hp;obtain ⟨hp,gs,dr,tk,os⟩:=s;dsimp only at hin lo rl;refine wpAny_call (make_core (makes_of (DI KB hin) hm) (looks_findIn (DI KB hin) hi) (fun slf=>bind_fn (DI KB hin) slf hf) (.inl rfl) ?_);have Fr:mm G V C c ⟨hp,gs,dr,tk,os⟩ ⟨(hp.push emptyDict).push (instObj C hp.objs.size),gs,dr,tk,os⟩:=xj;generalize (⟨(hp.push emptyDict).push (instObj C hp.objs.size),gs,dr,tk,os⟩:Shared)=aX at Fr;refine codeAny_mono (sQ (n:=n+r) (Q:=fun v s'=>v=.none/\b4 G V ⟨hp,gs,dr,tk,os⟩ (.obj c fs) (.ref (hp.objs.size+1)) s') (L:=(self,true,PV.obj c [])::dD ps args) F (Ak hr) (hin.kp Fr.k0) (Fr.low lo) h3 h4 h5 h6 h7
   (by rw [aw,hK h1]) hpn (congrArg gF (lG h1 (RepL.length rl))) (fun q hq=>?_) (Fr.slots hC h1 rl) (fun a q=>⟨.inr q,eJ hin (n8 q)⟩) fun A' env aG hr' W k hloc=>?_) fun rr s' z=>?_
  ·rcases ar.mp hq with rfl | hq
   ·exact h8 _ (.head _)
   ·exact mu (sc:=scope.names) h1 (fun x hx=>h8 x (.tail _ hx)) q hq
  ·refine cK ((X n).exs hr' hx (Fr.self hC hpn h1 k W)) fun fl s' g=>?_
   refine xA g ?_;clear g;rintro rfl g;exact ⟨rfl,Fr.done lo k hloc (fun b q=>.inl (.inl q)) hs g⟩
  ·rcases rr with e | (v | _ | _ | _)<;>first | exact False.elim z | exact z
 | brk=>exact nn h
 | ret v=>exact nn h
end
end Mine
end
section
namespace Mine
structure DJ where
 name:Str
 a:Addr
 params:List Str
 scope:Scope
 body:List Stmt
 W:List Str
structure so where
 cls:Str
 fn:DJ
structure tz where
 C:Addr
 init:DJ
noncomputable def CH (o:cV) (N:Nat) (E:List DJ) (Cs:List tz) (f:Str) (args:List PV):Option PV:=match E.find? (fun e=>e.name == f) with
 | some e=>e5 o e.W N e.params e.scope e.body args
 | none=>match Cs.find? (fun e=>e.init.name == f) with
  | some e=>kQ o e.init.W N e.init.params e.init.scope e.init.body e.init.name args
  | none=>o.fn f args
noncomputable def yb (o:cV) (N:Nat) (Ms:List so) (c m:Str) (args:List PV):Option PV:=match Ms.find? (fun e=>e.cls == c && e.fn.name == m) with
 | some e=>e5 o e.fn.W N e.fn.params e.fn.scope e.fn.body args
 | none=>o.mth c m args
noncomputable def ext (o:cV) (N:Nat) (E:List DJ) (Ms:List so) (Cs:List tz):cV where
 fn:=CH o N E Cs
 bi:=o.bi
 mth:=yb o N Ms
 fld:=o.fld
 cattr:=o.cattr
 gval:=o.gval
 tab:=o.tab
section
variable {K:Frag}{o:cV}{r N:Nat}
theorem kT.mono {f:Value}{args:List PV}{p:PV}{r':Nat} (h:kT G r f args p) (le:r<=r'):kT G r' f args p:=
 fun A s V vs hr hin lo rl=>h A s V vs (hr.le le) hin lo rl
theorem jF.mono {f:Value}{args:List PV}{p:PV}{r':Nat} (h:jF G r f args p) (le:r<=r'):jF G r' f args p:=
 fun A s V vs hr hin lo rl=>h A s V vs (hr.le le) hin lo rl
structure tA (G:GX ag w) (e:DJ):Prop where
 glob:cC G e.name (.ref e.a)
 callee:gR G (.ref e.a)
 fn:w4 G e.a e.params e.scope e.body
structure vq (G:GX ag w) (K:Frag) (e:so):Prop where
 ok:∃ C,G.cl e.cls=some C/\plainGet K C e.fn.name=true/\findIn K (.ref C) e.fn.name=some (some (.ref e.fn.a))/\typeIn K (.ref e.fn.a)=some (.type "function")
 callee:gR G (.ref e.fn.a)
 fn:w4 G e.fn.a e.fn.params e.fn.scope e.fn.body
structure qD (G:GX ag w) (K:Frag) (e:tz):Prop where
 glob:cC G e.init.name (.ref e.C)
 callee:gR G (.ref e.C)
 made:makesIn K e.C=true
 init:findIn K (.ref e.C) "__init__"=some (some (.ref e.init.a))
 type:typeIn K (.ref e.init.a)=some (.type "function")
 cl:G.cl e.init.name=some e.C
 fn:w4 G e.init.a e.init.params e.init.scope e.init.body
theorem A5 (KB:K.In G.base) (OO:gE G o r) (X:∀ W n,DL G o r W n) {E:List DJ}{Cs:List tz} (hE:∀ e∈E,tA G e) (hC:∀ e∈Cs,qD G K e) {f:Str}{args:List PV}{p:PV} (h:CH o N E Cs f args=some p) :
  ∃ fv,cC G f fv/\gR G fv/\kT G (N+r+2) fv args p:=by
 unfold CH at h
 cases he:E.find? (fun e=>e.name == f) with
 | some e=>
  rw [he] at h;have hf:e.name=f:=beq_iff_eq.mp (g7 (p:=fun e:DJ=>e.name == f) he);have F:=hE e (c4 he);exact ⟨_,hf ▸ F.glob,F.callee,(tC (X e.W) F.fn h).mono (eh _)⟩
 | none=>
  rw [he] at h;have h:(match Cs.find? (fun e=>e.init.name == f) with
   | some e=>kQ o e.init.W N e.init.params e.init.scope e.init.body e.init.name args
   | none=>o.fn f args)=some p:=h
  cases hc:Cs.find? (fun e=>e.init.name == f) with
  | some e=>
   rw [hc] at h;have h:kQ o e.init.W N e.init.params e.init.scope e.init.body e.init.name args=some p:=h;have hf:e.init.name=f:=beq_iff_eq.mp (g7 (p:=fun e:tz=>e.init.name == f) hc);have F:=hC e (c4 hc);refine ⟨_,hf ▸ F.glob,F.callee,?_⟩;have F2:=F.fn
   cases hp:e.init.params with
   | nil=>rw [hp] at h;exact nn h
   | cons self ps=>rw [hp] at h F2;exact DB (X _) KB F.made F.init F.type F.cl F2 h
  | none=>
   rw [hc] at h;refine fw (OO.fn f args p h) ?_;intro fv h1 h2 h3;exact ⟨fv,h1,h2,h3.mono (by exact pn [_,_] 0x0DA28A010)⟩
theorem wZ (KB:K.In G.base) (OO:gE G o r) (X:∀ W n,DL G o r W n) {E:List DJ}{Ms:List so}{Cs:List tz} (hE:∀ e∈E,tA G e) (hM:∀ e∈Ms,vq G K e) (hC:∀ e∈Cs,qD G K e) :
  gE G (ext o N E Ms Cs) (N+r+2) where
 fn:=fun f args p h=>A5 KB OO X hE hC h
 bi:=fun f args p h=>by
  refine fw (OO.bi f args p h) ?_;intro fv h1 h2 h3;exact ⟨fv,h1,h2,h3.mono (by exact pn [_,_] 0x0DA28A010)⟩
 mth:=fun c m args p h=>by
  have h:yb o N Ms c m args=some p:=h;unfold yb at h
  cases he:Ms.find? (fun e=>e.cls == c && e.fn.name == m) with
  | some e=>
   rw [he] at h;refine xA (iq (g7 (p:=fun e:so=>e.cls == c && e.fn.name == m) he)) ?_;intro h1 h2;have F:=hM e (c4 he);have h1:=beq_iff_eq.mp h1;have h2:=beq_iff_eq.mp h2;subst h1;subst h2;refine Fb F.ok ?_;intro C h1 h2 h3 h4;exact ⟨C,_,h1,F.callee,(tC (X _) F.fn h).mono (eh _),fun A s a d es ep pl Q E i g gd e1 e2 q=>xN KB h2 h3 h4 i g gd e1 e2 q⟩
  | none=>
   rw [he] at h;refine mS (OO.mth c m args p h) ?_;intro C f h1 h2 h3 h4;exact ⟨C,f,h1,h2,h3.mono (by exact pn [_,_] 0x0DA28A010),h4⟩
 fld:=OO.fld
 cattr:=OO.cattr
 gval:=OO.gval
 tab:=OO.tab
structure Bm (G:GX ag w) (o:cV):Prop where
 set:qN G o
 iter:rC G
theorem Eh (OO:gE G o (r+1)) (B:Bm G o):∀ W n,DL G o (r+1) W n:=fun W=>D6 (DX OO D2 B.iter) B.set W
theorem Bm.ext (B:Bm G o) {N:Nat}{E:List DJ}{Ms:List so}{Cs:List tz}:Bm G (Mine.ext o N E Ms Cs):=⟨⟨B.set.set⟩,B.iter⟩
end
end Mine
end
section
namespace Mine
section
variable {A:Around}{s:Shared}{V:Addr->Prop}
theorem yJ {h:Heap}:∀ {l:List PV}{vs:List Value},vs.length=l.length->(∀ (i:Nat) p v,l[i]?=some p->vs[i]?=some v->G.Rep h V p v)->G.RepL h V l vs:=fun {l}=>by
 induction l with
 | nil=>intro vs e _;cases vs with
  | nil=>trivial
  | cons _ _=>cases e
 | cons p l ih=>intro vs e r;cases vs with
  | nil=>cases e
  | cons v vs=>exact RepL.cons (r 0 p v rfl rfl) (ih (Nat.succ.inj e) fun i p v h1 h2=>r (i+1) p v h1 h2)
theorem Cb {l:List (Int×PV)}{v:Value} (hh:A.handled=none) (lo:kh V s.heap) (x:d8 G s.heap V (.dct l) v) (hn:l.length<=1048576) :
  wpAny (model ag w) A (call (.type "list") [v]) (b4 G V s (.lst (l.map fun p=>.int p.1))) EF s:=by
 refine bG (lB x) ?_;rintro d rfl z kvs hd rd;refine xE hd.dictAt ?_;intro ep hat;have ek:=(RepD.keys rd).symm;have len:kvs.length=l.length:=by have:=congrArg ef ek;simpa using this
 refine kdl_call (kdl_dict (knd:=PySem.intKind ag w) (kvs:=kvs) (ep:=ep) z) hh hat (kdl_size (by rw [len];exact aO hn (by decide))) fun h' tk acc' c' hk hD hacc=>?_;refine ⟨dC.mpr ⟨_,rfl,lo.fresh,acc'.toList,⟨c',by rw [Array.toArray_toList];exact hD⟩,yJ (by rw [bR,hacc.1,aa,len]) fun i p v h1 h2=>?_⟩,Kp.of hk⟩;refine jw (hacc.2 i v (by rw [<- Array.getElem?_toList];exact h2)) ?_;intro k x hx hk;refine xE (Value.isInt_shape hk) ?_;rintro t rfl;have e1:(kvs.map (·.1))[i]?=some k:=by rw [aK,hx];rfl
 rw [ek,aK] at e1;rw [aK] at h1
 cases hq:l[i]? with
 | none=>rw [hq] at h1;cases h1
 | some q=>
  rw [hq] at h1 e1
  cases h1
  cases e1
  exact bN.mpr ⟨t,rfl⟩
end
end Mine
end
section
namespace Mine
theorem tH:isSubtype (.type "dict_values") (.type "set")=pure false:=by rw [isSubtype_type];kernel_rfl
theorem mN:isSubtype (.type "dict_values") (.type "frozenset")=pure false:=by rw [isSubtype_type];kernel_rfl
section
variable {A:Around}{E:Value->Shared->Prop}{s:Shared}
theorem r5 {l d:Addr}{kvs:List (Int×Value)}{ep:Nat}{ns:List Int}{Q:Value->Shared->Prop}
  (hh:A.handled=none) (hl:s.heap.get? l=some { cls:=.type "dict_values",data:=.fields #[.ref d] }) (hd:s.heap.DictAt (PySem.intKind ag w) d kvs ep)
  (hi:∀ (i:Nat) (v:Value),(∃ k,kvs[i]?=some (k,v))->∃ t,v=.int ((fun i=>ns.getD i 0) i) t) (hb:kvs.length+1 < scanBound)
  (h:∀ (h':Heap) (tk:Nat),h'.SetOf (PySem.intKind ag w) s.heap.objs.size (fun k'=>(PyProof.Rows.firstMet (fun i=>ns.getD i 0) kvs.length).any (· == k')) (PyProof.Rows.firstMet (fun i=>ns.getD i 0) kvs.length).length ->
   (∀ b o,b < s.heap.objs.size->s.heap.get? b=some o->h'.get? b=some o)->Q (.ref s.heap.objs.size) { s with heap:=h',toks:=tk }) :
  wpAny (model ag w) A (call (.type "set") [.ref l]) Q E s:=by
 refine AE PySem.F.called_set.mro ?_;intro c tl hmro;have hmade:=PySem.F.called_set.made;have hsub:=PySem.F.called_set.sub;refine wpAny_call (codeAny_of_tree ?_);show wpAny _ _ (callAny (.type "set") _) _ _ _;refine wpAny_pure ⟨Code.quiet_builtin _ (by decide +kernel),codeAny_builtin PySem.F.entry_type_call ?_⟩;rw [Around.under_plain (weight_type_call_type "set" [.ref l] []) rfl];have h1:=PySem.F.called_set.notType;have h2:=PySem.F.called_set.canCreate;have hct:=PySem.F.typeCall_set_1 (.ref l)
 repeat (any_goals (first | assumption | wp_step))
 refine codeAny_mono (code_set_new_1 (.ref l) (E:=E) (Q₁:=fun obj aG=>∃ led:Bool,obj=.ref s.heap.objs.size/\aG={ s with heap:=s.heap.push { cls:=.type "set",dict:=none,data:=.set #[] 0 (.fresh 0 0 led) } }) fun led=>⟨led,rfl,rfl⟩) fun r aG hr=>?_
 cases r with
 | error e=>exact hr
 | ok fl=>
  cases fl with
  | ret obj=>
   refine bO hr ?_;clear hr;rintro led rfl rfl;have hS:(s.heap.push { cls:=.type "set",dict:=none,data:=.set #[] 0 (.fresh 0 0 led) }).get? s.heap.objs.size=some { cls:=.type "set",dict:=none,data:=.set #[] 0 (.fresh 0 0 led) }:=aH _ rfl;have hT:Shared.TypeIs { s with heap:=s.heap.push { cls:=.type "set",dict:=none,data:=.set #[] 0 (.fresh 0 0 led) } } (.ref s.heap.objs.size) "set":=⟨_,hS,rfl⟩
   have hli:=PySem.F.called_set.init.lookup;have hbi:=PySem.F.called_set.init.bind (.ref s.heap.objs.size)
   repeat (any_goals (first | assumption | wp_step))
   refine codeAny_mono (codeAny_call_builtin (R:=wants (fun r aX=>r=.none/\∃ h' tk,aX={ s with heap:=h',toks:=tk } /\
     h'.SetOf (PySem.intKind ag w) s.heap.objs.size (fun k'=>(PyProof.Rows.firstMet (fun i=>ns.getD i 0) kvs.length).any (· == k')) (PyProof.Rows.firstMet (fun i=>ns.getD i 0) kvs.length).length /\
     (∀ b o,b < s.heap.objs.size->s.heap.get? b=some o->h'.get? b=some o)) E) PySem.F.called_set.init.plain PySem.F.entry_set_init (check_set_init_1 hT ?_)) fun Fa aX DG=>?_
   ·have hol':(s.heap.push { cls:=.type "set",dict:=none,data:=.set #[] 0 (.fresh 0 0 led) }).get? l=some { cls:=.type "dict_values",data:=.fields #[.ref d] }:=au _ hl
    have hsls:=tH;have hslf:=mN;have hne:(Value.type "dict_values" == Value.type "dict")=false:=by decide
    have hv1:(s.heap.push { cls:=.type "set",dict:=none,data:=.set #[] 0 (.fresh 0 0 led) }).IsValuesView l d:=⟨_,hol',rfl,rfl⟩;unfold Builtin.«set.__init__» noKeywords Builtin.Frozenset.updateFrom;generalize hPI:pyIter=PI
    wp_walk
    subst hPI;refine wpAny_pyIter_values hv1 (hd.push _) ?_;refine wpAny_bind (wpAny_runValue ?_);have hdS:d < s.heap.objs.size:=hd.lt_size;have hh3:A.in1.in1.in1.handled=none:=by simp [hh]
    have hneI:d≠(s.heap.push { cls:=.type "set",dict:=none,data:=.set #[] 0 (.fresh 0 0 led) }).objs.size:=by
     rw [eW];exact a6 (bV hdS)
    have hSf:s.heap.objs.size ∉ [(s.heap.push { cls:=.type "set",dict:=none,data:=.set #[] 0 (.fresh 0 0 led) }).objs.size,d]:=by
     rw [eW];simp only [ar,ae,bg,or_false,not_or];exact ⟨a6 (f9 _),kw hdS⟩
    refine PyProof.Rows.codeAny_set_update_loopS ((Walks.dictValues (knd:=PySem.intKind ag w) hh3 _ d hneI kvs ep).toS) s.heap.objs.size
     hSf (fun i=>ns.getD i 0) hi hb (kvs.length - 0) 0 _ (by exact pn [_] 0x2DB080B080) (bP _)
     ⟨⟨_,aH _ rfl,rfl,rfl⟩,((hd.push _).push _)⟩ ?hS0 ?hR
    case hS0=>
     have hget:=au { cls:=.type "dict_valueiterator",data:=.fields #[.ref d,.int 0 0,.int kvs.length 0,.int ep 0] } hS;exact PyProof.Rows.SetOf_congr ((PyProof.Rows.setObjOf_fresh (knd:=PySem.intKind ag w) led).setOf hget (by unfold scanBound;exact pn [] 0x1D10002908)) (fun J=>rfl) rfl
    case hR=>
     intro s' hm hS';obtain ⟨h',g',d',tk',os'⟩:=s';have eg:g'=s.gens:=hm.gens;have ed:d'=s.drawn:=hm.drawn;have eo:os'=s.os:=hm.os;subst eg;subst ed;subst eo;show wpAny _ _ _ _ _ _;refine wpAny_pure ?_;show wpAny _ _ (ret Value.none) _ _ _;refine wpAny_pure ⟨rfl,h',tk',rfl,hS',fun b o hb e=>?_⟩;have hb1:b≠s.heap.objs.size:=a6 hb;have hb2:b≠(s.heap.push { cls:=.type "set",dict:=none,data:=.set #[] 0 (.fresh 0 0 led) }).objs.size:=by
      rw [eW];exact a6 (bV hb)
     exact hm.heap b o (by simp only [ar,ae,bg,or_false,not_or];exact ⟨hb1,hb2⟩) (au _ (au _ e))
   ·cases Fa with
    | error e=>exact DG
    | ok HT=>
     cases HT with
     | ret r=>
      obtain ⟨rfl,h',tk,rfl,hS',hk'⟩:=DG
      repeat (any_goals (first | assumption | wp_step))
      exact h _ _ hS' hk'
     | _=>exact DG.elim
  | _=>exact hr.elim
theorem A2 {V:Addr->Prop}{l:List (Int×PV)}{ns:List Int}{v:Value} (hh:A.handled=none) (lo:kh V s.heap) (r:G.Rep s.heap V (.vals l) v) (e:gz (l.map (·.2))=some ns) (hc:ns.length+1 < scanBound) :
  wpAny (model ag w) A (call (.type "set") [v]) (b4 G V s (.set (firstMet (fun i=>ns.getD i 0) ns.length).length)) EF s:=by
 refine g0 r ?_;clear r;rintro a rfl nV d g nd z kvs hd rd;refine xE hd.dictAt ?_;intro ep ha;refine bO (nK  e rd.vals) ?_;intro ps h1 h2;have len:ps.length=ns.length:=by rw [<- h2,aa]
 have lenk:kvs.length=ns.length:=by have:=congrArg ef h1;rw [<- len];simpa using this
 rw [<- lenk];rw [<- lenk] at hc;refine r5 (ns:=ns) hh g ha (fun i v hv=>?_) hc fun h' tk hS hk=>⟨?_,Kp.of fun b o e=>hk b o (aV e) e⟩
 ·refine xE hv ?_;clear hv;intro k hx
  have h3:(kvs.map (·.2))[i]?=some v:=by rw [aK,hx];rfl
  rw [h1,aK] at h3;refine bO (b3.mp h3) ?_;rintro p hp rfl;refine ⟨p.2,?_⟩
  have:ns[i]?=some p.1:=by rw [<- h2,aK,hp];rfl
  show Value.int p.1 p.2=Value.int (ns.getD i 0) p.2;rw [aq,this];rfl
 ·exact dj _ ⟨rfl,lo.fresh,_,hS⟩
end
end Mine
end
section
namespace Mine
noncomputable def qX {α:Type} (lt:Nat->Nat->Bool):KasT α->α
 | .ret a=>a
 | .ask i j k=>qX lt (k (lt i j))
noncomputable def mh {α:Type} (n:Nat) (P:α->Prop):KasT α->Prop
 | .ret a=>P a
 | .ask i j k=>i < n/\j < n/\∀ b,mh n P (k b)
theorem iY {α β:Type}{n:Nat}{P:α->Prop}{R:β->Prop}{f:α->KasT β} (hf:∀ a,P a->mh n R (f a)):∀ {t:KasT α},mh n P t->mh n R (t.bind f)
 | .ret a,h=>hf a h
 | .ask _ _ _,h=>⟨h.1,h.2.1,fun b=>iY hf (h.2.2 b)⟩
theorem Fn {α:Type}{n:Nat}{P:α->Prop}{lt:Nat->Nat->Bool}{EJ:Nat->Nat->(Bool->Shared->Prop)->Shared->Prop}{Q:α->Shared->Prop}{s:Shared}
  (hc:∀ i j,i < n->j < n->∀ C:Bool->Shared->Prop,C (lt i j) s->EJ i j C s):∀ {t:KasT α},mh n P t->Q (qX lt t) s->t.kasWp EJ Q s
 | .ret _,_,q=>q
 | .ask i j _,h,q=>hc i j h.1 h.2.1 _ (Fn hc (h.2.2 _) q)
noncomputable def d7 (n:Nat) (p:Array Nat):Prop:=∀ i,p.getD i 0 < n
theorem v7 {n:Nat}{p:Array Nat} (h0:0 < n) (h:∀ x∈p,x < n):d7 n p:=fun i=>by
 by_cases hi:i < p.size
 ·have:p.getD i 0=p[i]:=by simp [Array.getD,hi]
  rw [this];exact h _ (Array.getElem_mem hi)
 ·have:p.getD i 0=0:=by simp [Array.getD,hi]
  rw [this];exact h0
theorem d7.mem {n:Nat}{p:Array Nat} (h:d7 n p):∀ x∈p,x < n:=fun x hx=>by
 obtain ⟨i,hi,rfl⟩:=Array.mem_iff_getElem.mp hx
 have:=h i
 have e:p.getD i 0=p[i]:=by simp [Array.getD,hi]
 rw [e] at this;exact this
theorem d7.perm {n:Nat}{p q:Array Nat} (h:d7 n p) (h0:0 < n) (e:q.Perm p):d7 n q:=v7 h0 fun x hx=>h.mem x (e.mem_iff.mp hx)
theorem d7.rev {n:Nat}{p:Array Nat} (h:d7 n p) (h0:0 < n) (i j:Nat):d7 n (kas_rev p i j):=h.perm h0 (mirror_perm _ _ _ _)
theorem d7.bub {n:Nat}{p:Array Nat} (h:d7 n p) (h0:0 < n) (i j:Nat):d7 n (bubble p i j):=h.perm h0 (bubble_perm _ _ _)
theorem xz {n:Nat}{p:Array Nat} (h:d7 n p):∀ f m,mh n (fun J=>True) (kas_asc p f m)
 | 0,_=>trivial
 | f+1,m=>⟨h _,h _,fun b=>by
   cases b
   ·exact xz h f (m+1)
   ·trivial⟩
theorem pO {n:Nat} (h0:0 < n):∀ f {p:Array Nat} (_:d7 n p) (m q:Nat),mh n (fun r=>d7 n r.1) (kas_desc f p m q)
 | 0,_,h,_,_=>h
 | f+1,p,h,m,q=>⟨h _,h _,fun b=>by
   cases b
   ·refine ⟨h _,h _,fun d=>?_⟩
    cases d
    ·exact pO h0 f h _ _
    ·exact h
   ·show mh n _ (if q > 0 then kas_desc f (kas_rev p (m - (q+1)) m) (m+1) 0 else kas_desc f p (m+1) 0)
    split
    ·exact pO h0 f (h.rev h0 _ _) _ _
    ·exact pO h0 f h _ _⟩
theorem vH {n:Nat} (h0:0 < n) {p:Array Nat} (h:d7 n p) (m r:Nat):mh n (fun r=>d7 n r.2) (kas_tail3 m r p):=by
 have hr:d7 n (kas_rev p 0 m):=h.rev h0 _ _;refine iY (P:=fun J=>True) (fun a J=>?_) (xz hr _ _);exact hr
theorem oP {n:Nat} (h0:0 < n) {p:Array Nat} (h:d7 n p) (m r:Nat):mh n (fun r=>d7 n r.2) (kas_descPart m r p):=
 iY (fun a ha=>by
  split
  ·exact vH h0 (d7.rev ha h0 _ _) _ _
  ·exact vH h0 ha _ _) (pO h0 _ h _ _)
theorem BE {n:Nat} (h0:0 < n) {p:Array Nat} (h:d7 n p) (r:Nat):mh n (fun r=>d7 n r.2) (kas_count r p):=
 iY (fun a J=>by
  split
  ·exact h
  ·split
   ·refine ⟨h _,h _,fun b=>?_⟩
    cases b
    ·exact oP h0 (h.rev h0 _ _) _ _
    ·exact h
   ·exact oP h0 h _ _) (xz h _ _)
theorem qF {n:Nat}{p:Array Nat} (h:d7 n p) (k:Nat):∀ f l r,mh n (fun J=>True) (kas_place p k f l r)
 | 0,_,_=>trivial
 | f+1,l,r=>by
  show mh n _ (if l ≥ r then .ret l else .ask (p.getD k 0) (p.getD ((l+r) / 2) 0) fun c=>if c=true then kas_place p k f l ((l+r) / 2) else kas_place p k f ((l+r) / 2+1) r);split
  ·trivial
  ·refine ⟨h _,h _,fun b=>?_⟩
   cases b
   ·exact qF h k f _ _
   ·exact qF h k f _ _
theorem BI {n:Nat} (h0:0 < n):∀ f {p:Array Nat} (_:d7 n p) (k:Nat),mh n (d7 n) (kas_bin f p k)
 | 0,_,h,_=>h
 | f+1,_,h,k=>iY (fun J J=>BI h0 f (h.bub h0 _ _) (k+1)) (qF h k _ _ _)
theorem yN {n:Nat} (h0:0 < n):mh n (d7 n) (kas_sort n):=
 iY (fun a ha=>by
  split
  ·exact BI h0 _ ha _
  ·exact ha) (BE h0 (v7 h0 fun x hx=>by simpa using hx) n)
theorem wq {α:Type}{n:Nat}{P:α->Prop}{lt:Nat->Nat->Bool}:∀ {t:KasT α},mh n P t->P (qX lt t)
 | .ret _,h=>h
 | .ask i j k,h=>wq (t:=k (lt i j)) (h.2.2 _)
noncomputable def Hw (x y:Int×Int):Bool:=if x.1 == y.1 then (if x.2 == y.2 then false else decide (x.2 < y.2)) else decide (x.1 < y.1)
noncomputable def fO (ps:List (Int×Int)):List Nat:=
 if ps.length < 2 then ax ps.length else (qX (fun i j=>Hw (ps.getD i (0,0)) (ps.getD j (0,0))) (kas_sort ps.length)).toList
noncomputable def vM (p:Int×Int):PV:=.tup [.int p.1,.int p.2]
noncomputable def vL (ps:List (Int×Int)):List PV:=(fO ps).map fun i=>vM (ps.getD i (0,0))
section
variable {A:Around}{s:Shared}{V:Addr->Prop}
noncomputable def ix (h:Heap) (v:Value) (p:Int×Int):Prop:=∃ a xs t u,v=.ref a/\xs=#[Value.int p.1 t,Value.int p.2 u]/\h.IsTuple a xs
theorem Eg {v u:Value}{x y:Int×Int}{C:Bool->Shared->Prop} (hv:ix s.heap v x) (hu:ix s.heap u y) (h:C (Hw x y) s) :
  wpAny (model ag w) A (keyLt' (tuples' true) v u) C (fun J J=>False) s:=by
 refine lJ hv ?_;clear hv;rintro a xs t1 t2 rfl rfl o ho _ n hd;refine lJ hu ?_;clear hu;rintro b ys u1 u2 rfl rfl o' ho' _ n' hd';refine kat_lt ho hd ho' hd' ?_;refine kat_cons (wpAny_eqBool_int ?_);unfold Hw at h
 cases e1:(x.1 == y.1)
 ·rw [e1] at h
  exact kat_no (oneLt_int h)
 ·rw [e1] at h
  refine kat_yes (kat_cons (wpAny_eqBool_int ?_));rw [if_pos rfl] at h
  cases e2:(x.2 == y.2)
  ·rw [e2] at h
   exact kat_no (kat_one _ _ (wpAny_lt_int h))
  ·rw [e2,if_pos rfl] at h
   exact kat_yes (kat_nil h)
theorem BA:∀ {l:List PV}{ps:List (Int×Int)}{h:Heap}{vs:List Value},oi l=some ps->G.RepL h V l vs->vs.length=ps.length/\l=ps.map vM/\∀ (i:Nat) p v,ps[i]?=some p->vs[i]?=some v->ix h v p:=fun {l}=>by
 induction l with
 | nil=>
  intro ps h vs e r;rw [bH e]
  cases vs with
  | nil=>exact ⟨rfl,rfl,fun i p v h=>nn (List.getElem?_nil.symm.trans h)⟩
  | cons v vs=>exact False.elim r
 | cons q l ih=>
  intro ps h vs e r;refine b8 e fun x ps' hx hq e=>?_;rw [bH e]
  cases vs with
  | nil=>exact False.elim r
  | cons v vs=>
   refine ir (ih hq r.2) ?_;intro h1 h2 h3;refine ⟨congrArg gF h1,by rw [aw,<- h2,nZ hx];rfl,fun i p v' e1 e2=>?_⟩
   cases i with
   | succ i=>exact h3 i p v' e1 e2
   | zero=>
    rw [bH e1,bH e2];refine oX (qr (nZ hx ▸ r.1:G.Rep h V (.tup [.int x.1,.int x.2]) v)) ?_;intro c t1 t2 e3 ht;exact ⟨c,_,t1,t2,e3,rfl,ht⟩
end
end Mine
end
section
namespace Mine
section
variable {A:Around}{s:Shared}{V:Addr->Prop}{E:Value->Shared->Prop}
theorem ix.keep {h h':Heap}{v:Value}{p:Int×Int} (k:∀ b o,o.cls=.type "tuple"->h.get? b=some o->h'.get? b=some o) (x:ix h v p):ix h' v p:=by
 obtain ⟨a,xs,t,u,e,e2,o,ho,hc,r⟩:=x;exact ⟨a,xs,t,u,e,e2,o,k a o hc ho,hc,r⟩
theorem D9:∀ {h:Heap}{ps:List (Int×Int)}{vs:List Value},vs.length=ps.length->(∀ (i:Nat) p v,ps[i]?=some p->vs[i]?=some v->ix h v p) ->
  ∃ fs:List Value,KatTups h vs fs/\fs.length=vs.length/\∀ f∈fs,∃ i t,f=.int i t:=fun {h ps}=>by
 induction ps with
 | nil=>intro vs e _;cases vs with
  | nil=>exact ⟨[],trivial,rfl,fun f hf=>by cases hf⟩
  | cons _ _=>cases e
 | cons p ps ih=>intro vs e r;cases vs with
  | nil=>cases e
  | cons v vs=>
   refine fw (ih (Nat.succ.inj e) fun i p v e1 e2=>r (i+1) p v e1 e2) ?_;intro fs h1 h2 h3;refine lJ (r 0 p v rfl rfl) ?_;rintro a xs t u rfl rfl o ho hc n hd;refine ⟨.int p.1 t::fs,⟨⟨a,o,_,n,rfl,ho,hc,hd,rfl⟩,h1⟩,congrArg gF h2,fun f hf=>?_⟩;rcases ar.mp hf with rfl | hf
   ·exact ⟨_,_,rfl⟩
   ·exact h3 f hf
noncomputable def jp (ps:List (Int×Int)) (vs:List Value):List Value:=(fO ps).map fun i=>vs.getD i Value.none
theorem wT (vs:List Value):(ax vs.length).map (fun i=>vs.getD i Value.none)=vs:=by
 refine List.ext_getElem (by rw [aa,bf]) fun i h1 h2=>?_;rw [eX,List.getElem_range,aq,av h2];rfl
theorem E1 (vs:List Value):(vs.toArray.zip vs.toArray).map (·.2)=vs.toArray:=by
 rw [List.zip_toArray,List.map_toArray,List.map_snd_zip (aE _)]
theorem pJ {a:Addr}{vs:List Value}{ps:List (Int×Int)}{n:Nat}{P:Fin->Shared->Prop} (ho:s.heap.get? a=some (seqObj "list" vs.toArray n))
  (hl:vs.length=ps.length) (hp:∀ (i:Nat) p v,ps[i]?=some p->vs[i]?=some v->ix s.heap v p) (h64:vs.length < 64)
  (h:P (.done (.ret .none)) { s with heap:=sortedHeap s.heap a vs (jp ps vs).toArray }) :
  wpAny (model ag w) A (Builtin.«list.sort» ⟨[.ref a],[]⟩) P E s:=by
 rw [list_sort_plain];have ha:a < s.heap.objs.size:=aV ho;refine wpAny_bind (listItems_at ho rfl ?_);refine wpAny_bind (listUpdate_at ho rfl ?_ (by rw [aA,sizeLine_eq];exact (pn [_] 0x0D010000004901D40190) h64) (bP _));obtain ⟨e1,ho1⟩:∃ e1,(s.heap.update a (Obj.mapSeq fun J=>(#[]:Array Value))).get? a=some (seqObj "list" #[] e1):=⟨_,get?_update_seq ho (fun J=>#[])⟩;refine wpAny_bind (seqEpoch_at ho1 rfl ?_);refine wpAny_bind (wpAny_newTuple ?_ (by show vs.length<=_;rw [sizeLine_eq];exact (pn [_] 0x0D010000004901D40190) h64));refine wpAny_bind (wpAny_newList ?_ (bP _));refine wpAny_holding ?_;have ho6:(((s.heap.update a (Obj.mapSeq fun J=>(#[]:Array Value))).push (seqObj "tuple" vs.toArray 0)).push (seqObj "list" #[] 0)).get? a=some (seqObj "list" #[] e1):=by
  rw [lR _ _ _ (by rw [size_push',mK];exact a6 (bV ha)),lR _ _ _ (by rw [mK];exact a6 ha)];exact ho1
 show wpAny (model ag w) A _ P E { s with heap:=((s.heap.update a (Obj.mapSeq fun J=>(#[]:Array Value))).push (seqObj "tuple" vs.toArray 0)).push (seqObj "list" #[] 0) }
 dsimp only;have hsz:vs.toArray.size=vs.length:=by simp
 have hp6:∀ (i:Nat) p v,ps[i]?=some p->vs[i]?=some v->ix (((s.heap.update a (Obj.mapSeq fun J=>(#[]:Array Value))).push (seqObj "tuple" vs.toArray 0)).push (seqObj "list" #[] 0)) v p:=fun i p v q1 q2=>
  (hp i p v q1 q2).keep fun b o hc hb=>by
   have hne:a≠b:=fun e=>by
    subst e;rw [ho] at hb
    cases hb
    have hc':Value.type "list"=Value.type "tuple":=hc;exact absurd hc' (by decide)
   exact au _ (au _ ((Heap.get?_update_other _ _ hne).trans hb))
 have fin:∀ st':SortSt,(arrOf st').map (·.2)=(jp ps vs).toArray->failedOf st'=none->(jp ps vs).length<=64 ->
   wpAny (model ag w) A (do
    let touched:=(<- seqEpoch a) != e1
    Builtin.List.listUpdate (.ref a) fun J=>(arrOf st').map (·.2)
    if let some e:=failedOf st' then rule "list.sort.comparison-raised";throw e
    if touched then rule "list.sort.modified";raiseError "ValueError" "list modified during sort"
    ret .none) P E { s with heap:=((s.heap.update a (Obj.mapSeq fun J=>(#[]:Array Value))).push (seqObj "tuple" vs.toArray 0)).push (seqObj "list" #[] 0) }:=fun st' q1 q2 q3=>by
  refine wpAny_bind (seqEpoch_at ho6 rfl ?_);rw [q1];refine wpAny_bind (listUpdate_at ho6 rfl ?_ (bP _) ?_)
  ·rw [q2]
   simp only [bne_self_eq_false,b0,if_false];exact wpAny_pure h
  ·rw [aA,sizeLine_eq];exact (pn [_] 0x0DA18010000004900D40190) q3
 by_cases h2:vs.toArray.size < 2
 ·rw [if_pos h2,if_pos h2]
  refine wpAny_bind (wpAny_pure ?_);rw [StateT.run_pure];refine wpAny_bind (wpAny_pure ?_);dsimp only
  have:jp ps vs=vs:=by
   unfold jp fO;rw [hsz] at h2;rw [if_pos (by exact (pn [_,_] 0x1D2811D2802D10) hl h2),<- hl];exact wT vs
  refine fin (SortSt.mk' general' (vs.toArray.zip vs.toArray) #[] 7 none) ?_ rfl (by rw [this];exact (pn [_,_] 0x0D401911D2802D10) hsz h2);rw [this];exact E1 vs
 ·rw [if_neg h2,if_neg h2]
  rw [hsz] at h2;refine fw (D9 hl hp6) ?_;intro fs t1 t2 t3;refine wpAny_bind (kat_kind t1 (by exact (pn [_,_] 0x1D1082D012F1D280) h2 t2) (T:=.type "int") (fun v hv=>?_) (by decide) ?_)
  ·refine AE (t3 v hv) ?_;rintro i t rfl
   exact Looks.of_pure rfl
  refine wpAny_bind (wpAny_mono (kat_run (Q:=fun st' s'=>s'={ s with heap:=((s.heap.update a (Obj.mapSeq fun J=>(#[]:Array Value))).push (seqObj "tuple" vs.toArray 0)).push (seqObj "list" #[] 0) }/\(arrOf st').map (·.2)=(jp ps vs).toArray/\failedOf st'=none/\(jp ps vs).length<=64)
   (G:=fun p s'=>s'={ s with heap:=((s.heap.update a (Obj.mapSeq fun J=>(#[]:Array Value))).push (seqObj "tuple" vs.toArray 0)).push (seqObj "list" #[] 0) }/\p=qX (fun i j=>Hw (ps.getD i (0,0)) (ps.getD j (0,0))) (kas_sort ps.length))
   rfl (by exact (pn [_] 0x0D0282F1D280) h2) h64 (fun p st' s' a1 a2 a3 a4=>⟨a4.1,?_,a3,?_⟩) ?_) ?_ fun J J e=>e)
  ·rw [kat_snds rfl a2,a4.2]
   unfold jp fO;rw [if_neg (by exact (pn [_,_] 0x2F1D2812F1D2802D10) hl h2)]
  ·unfold jp fO
   rw [if_neg (by exact (pn [_,_] 0x2F1D2812F1D2802D10) hl h2),<- a4.2,aa,bR,a1];exact (pn [_] 0x0D401901D40190) h64
  ·rw [hl]
   refine Fn (lt:=fun i j=>Hw (ps.getD i (0,0)) (ps.getD j (0,0))) (fun i j hi hj C hC=>?_) (yN (by exact (pn [_,_] 0x1D1082F1D2802D10) hl h2)) ⟨rfl,rfl⟩;have at':∀ k,k < ps.length->ix (((s.heap.update a (Obj.mapSeq fun J=>(#[]:Array Value))).push (seqObj "tuple" vs.toArray 0)).push (seqObj "list" #[] 0)) (vs.getD k Value.none) (ps.getD k (0,0)):=fun k hk=>
    hp6 k _ _ (by rw [aq,av hk];rfl) (by rw [aq,av (by exact (pn [_,_,_] 0x1D021D122D10) hl hk)];rfl)
   have ht:(Value.type "int" != Value.type "tuple")=true:=by decide
   unfold kas_ask;rw [ht];exact Eg (at' i hi) (at' j hj) hC
  ·rintro ⟨⟨⟩,st'⟩ s' ⟨rfl,q1,q2,q3⟩
   exact fin st' q1 q2 q3
theorem uw {l:Addr}{vs:List Value}{ps:List (Int×Int)}{Q:Value->Shared->Prop} (hl:s.heap.IsList l vs.toArray) (hl2:vs.length=ps.length)
  (hp:∀ (i:Nat) p v,ps[i]?=some p->vs[i]?=some v->ix s.heap v p) (h64:vs.length < 64)
  (h:Q (.ref (s.heap.objs.size+1)) { s with heap:=sortedAll s.heap vs (jp ps vs).toArray }) :
  wpAny (model ag w) A (call (.builtin "sorted") [.ref l]) Q E s:=by
 refine Calls.call_function_entry kind_sorted plain_sorted entry_sorted (args_sorted1 _) ?_;unfold Builtin.«sorted»;refine wpAny_bind (m:=checkCount "sorted" 1 1 _) (wpAny_pure ?_);refine wpAny_bind (collect_list hl ?_ (by rw [sizeLine_eq];exact (pn [_] 0x0D010000004901D40190) h64));refine wpAny_bind (wpAny_newList ?_ (by rw [sizeLine_eq];exact (pn [_] 0x0D010000004901D40190) h64));have hsz:((s.heap.push (seqObj "list" #[] 0)).update s.heap.objs.size (Obj.mapSeq (·++vs.toArray))).objs.size=s.heap.objs.size+1:=by
  rw [mK,size_push']
 have hoL:(((s.heap.push (seqObj "list" #[] 0)).update s.heap.objs.size (Obj.mapSeq (·++vs.toArray))).push (seqObj "list" vs.toArray 0)).get? (s.heap.objs.size+1)=some (seqObj "list" vs.toArray 0):=by
  rw [<- hsz];exact aH _ rfl
 show wpAny _ _ _ _ _ { s with heap:=((s.heap.push (seqObj "list" #[] 0)).update s.heap.objs.size (Obj.mapSeq (·++vs.toArray))).push (seqObj "list" vs.toArray 0) }
 rw [hsz];have hp':∀ (i:Nat) p v,ps[i]?=some p->vs[i]?=some v->ix (((s.heap.push (seqObj "list" #[] 0)).update s.heap.objs.size (Obj.mapSeq (·++vs.toArray))).push (seqObj "list" vs.toArray 0)) v p:=fun i p v q1 q2=>
  (hp i p v q1 q2).keep fun b o J hb=>by
   have hlt:b < s.heap.objs.size:=aV hb;rw [lR _ _ _ (by rw [hsz];exact a6 (bV hlt)),kn _ _ _ _ (a6 hlt),lR _ _ _ (a6 hlt)];exact hb
 refine wpAny_bind (wpAny_holding (wpAny_call_entry slot_list_sort ⟨_,hoL,rfl⟩ entry_list_sort (pJ (s:={ s with heap:=((s.heap.push (seqObj "list" #[] 0)).update s.heap.objs.size (Obj.mapSeq (·++vs.toArray))).push (seqObj "list" vs.toArray 0) }) hoL hl2 hp' h64 ⟨_,rfl,?_⟩) (args_list_sort _)));exact wpAny_pure ⟨_,rfl,h⟩
theorem qB {vs:List Value}{out:Array Value}:∀ b o,s.heap.get? b=some o->(sortedAll s.heap vs out).get? b=some o:=fun b o hb=>by
 have hlt:b < s.heap.objs.size:=aV hb;have hlt1:b < s.heap.objs.size+1:=bV hlt;unfold sortedAll sortedHeap;rw [kn _ _ _ _ (a6 hlt1)];refine au _ (au _ ?_);rw [kn _ _ _ _ (a6 hlt1)];refine au _ ?_;rw [kn _ _ _ _ (a6 hlt)];exact au _ hb
theorem ul {vs:List Value}{out:List Value}:∃ c,(sortedAll s.heap vs out.toArray).get? (s.heap.objs.size+1)=some { cls:=.type "list",data:=.seq out.toArray c }:=by
 have hsz:((s.heap.push (seqObj "list" #[] 0)).update s.heap.objs.size (Obj.mapSeq (·++vs.toArray))).objs.size=s.heap.objs.size+1:=by
  rw [mK,size_push']
 have hoL:(((s.heap.push (seqObj "list" #[] 0)).update s.heap.objs.size (Obj.mapSeq (·++vs.toArray))).push (seqObj "list" vs.toArray 0)).get? (s.heap.objs.size+1)=some (seqObj "list" vs.toArray 0):=by
  rw [<- hsz];exact aH _ rfl
 unfold sortedAll sortedHeap;obtain ⟨c,hc⟩:∃ e1,((((s.heap.push (seqObj "list" #[] 0)).update s.heap.objs.size (Obj.mapSeq (·++vs.toArray))).push (seqObj "list" vs.toArray 0)).update (s.heap.objs.size+1) (Obj.mapSeq fun J=>(#[]:Array Value))).get? (s.heap.objs.size+1)=some (seqObj "list" #[] e1):=⟨_,get?_update_seq hoL (fun J=>#[])⟩;exact ⟨_,get?_update_seq (au _ (au _ hc)) fun J=>out.toArray⟩
theorem zQ {ps:List (Int×Int)}:∀ i∈fO ps,i < ps.length:=fun i hi=>by
 unfold fO at hi;split at hi
 ·simpa using hi
 ·exact (wq (yN (n:=ps.length) (by exact (pn [_] 0x1D0082F1D280) ‹_›))).mem i (by simpa using hi)
theorem tW {l:List PV}{ps:List (Int×Int)}{v:Value} (lo:kh V s.heap) (x:d8 G s.heap V (.lst l) v) (e:oi l=some ps) (h64:ps.length < 64) :
  wpAny (model ag w) A (call (.builtin "sorted") [v]) (b4 G V s (.lst (vL ps))) EF s:=by
 refine im (eH x) ?_;rintro a rfl us pl rl;refine ir (BA e rl) ?_;intro h1 h2 h3;refine uw pl.isList h1 h3 (by exact (pn [_,_] 0x1D401912D011D40190) h64 h1) ?_;have k:Kp s { s with heap:=sortedAll s.heap us (jp ps us).toArray }:=Kp.of (tk:=s.toks) qB
 refine xE (ul (s:=s) (vs:=us) (out:=jp ps us)) ?_;intro c hc;refine ⟨dC.mpr ⟨_,rfl,fun q=>?_,jp ps us,⟨c,hc⟩,yJ (by unfold jp vL;simp) fun i p v q1 q2=>?_⟩,k⟩
 ·exact absurd (pw (eh _)) (lo _ q)
 ·unfold vL at q1
  unfold jp at q2;rw [aK] at q1 q2
  cases hj:(fO ps)[i]? with
  | none=>rw [hj] at q1;cases q1
  | some j=>
   rw [hj] at q1 q2
   cases q1;cases q2
   have hlt:=zQ j (bK hj);have rl':=pS k rl;have g1:l[j]?=some (vM (ps.getD j (0,0))):=by
    rw [h2,aK,av hlt,aq,av hlt];rfl
   have g2:us[j]?=some (us.getD j Value.none):=by
    rw [aq,av (by exact (pn [_,_,_] 0x1D021D122D10) h1 hlt)];rfl
   exact RepL.at rl' g1 g2
noncomputable def G4 (a:PV):Option PV:=(AN a).bind fun l=>if l.length<=1048576 then some (.lst (l.map fun p=>.int p.1)) else none
noncomputable def B2:PV->Option (List (Int×PV))
 | .vals l=>some l
 | _=>none
theorem zP {v:PV}{i:List (Int×PV)} (h:B2 v=some i):v=.vals i:=by
 cases v<;>first | exact nn h | (rw [bH h])
noncomputable def Il (a:PV):Option PV:=(B2 a).bind fun l=>(gz (l.map (·.2))).bind fun ns=>if ns.length+1 < scanBound then some (.set (firstMet (fun i=>ns.getD i 0) ns.length).length) else none
noncomputable def EE (a:PV):Option PV:=(jm a).bind fun l=>(oi l).bind fun ps=>if ps.length < 64 then some (.lst (vL ps)) else none
noncomputable def I4 (f:Str) (args:List PV):Option PV:=
 if f == ("list":Str) then (nN args).bind G4
 else if f == ("set":Str) then (nN args).bind Il
 else if f == ("sorted":Str) then (nN args).bind EE
 else I8 f args
structure Cn (G:GX ag w):Prop where
 list:cC G ("list":Str) (.type "list")
 set:cC G ("set":Str) (.type "set")
 sorted:cC G ("sorted":Str) (.builtin "sorted")
theorem GG {r:Nat} (B:qn G) (M:Cn G):∀ f args p,I4 f args=some p->fb G r f args p:=fun f args p h=>
 rQ (C:=fun f=>fb G r f args p) h (fun h=>tZ (C:=fun args=>fb G r _ args p) h fun a h=>cu h fun l hl h=>fh h fun hz h=>zd M.list rfl (nE fun A s V v hr lo x=>by rw [bH h];exact Cb hr.1 lo (wJ hl ▸ x) hz)) fun h=>
 rQ (C:=fun f=>fb G r f args p) h (fun h=>tZ (C:=fun args=>fb G r _ args p) h fun a h=>cu h fun l hl h=>cu h fun ns hi h=>fh h fun hc h=>zd M.set rfl (nE fun A s V v hr lo x=>by rw [bH h];exact A2 hr.1 lo (th (zP hl ▸ x)) hi hc)) fun h=>
 rQ (C:=fun f=>fb G r f args p) h (fun h=>tZ (C:=fun args=>fb G r _ args p) h fun a h=>cu h fun l hl h=>cu h fun ps hi h=>fh h fun hc h=>qK M.sorted rfl (nE fun A s V v hr lo x=>by rw [bH h];exact tW lo (gA hl ▸ x) hi hc)) fun h=>HE B f args p h
end
end Mine
end
section
namespace Mine
noncomputable section
section
theorem zj {K:Frag} (KB:K.In G.base) {a:Addr}{params:List Str} (F:pF K a params):w4 G a params (c6 a) (db a):=by
 refine bO (Hl F.fd) ?_;intro ob ho hd';obtain ⟨h1,h2,h3,h4,h5⟩:=F.at_;exact ⟨ob,_,KB _ _ ho,hd',Ea KB F.code,h4,h1,h2,h3,h5,F.bind⟩
theorem qb {vals:List Value} (h:vals.length=1):∃ a,vals=[a]:=ni.mp h
theorem tJ {vals:List Value} (h:vals.length=2):∃ a b,vals=[a,b]:=by
 cases vals with
 | nil=>cases h
 | cons a l=>refine xE (qb (Nat.succ.inj h)) ?_;intro b e;exact ⟨a,b,e ▸ rfl⟩
theorem FX {vals:List Value} (h:vals.length=3):∃ a b c,vals=[a,b,c]:=by
 cases vals with
 | nil=>cases h
 | cons a l=>refine AE (tJ (Nat.succ.inj h)) ?_;intro b c e;exact ⟨a,b,c,e ▸ rfl⟩
end
end
end Mine
end
section
namespace Mine
noncomputable section
section
theorem AV {h:Heap}{m:Str->Option Value} (g:h.Ns mainGlobals m) {K:Frag} (KB:K.In h) (e2:∃ c d es n sl,K.lookup 3=some ⟨c,d,Data.dict es n,sl⟩) (x:Str):m x=bM K x:=by
 obtain ⟨c,d,es,n,sl,h⟩:=e2;refine tM g ?_;clear g;intro o es' ep' ho hd _ hm
 cases (KB _ _ h).symm.trans ho
 cases hd
 unfold bM;rw [h];exact (hm x).symm
end
end
end Mine
end
section
namespace Mine
noncomputable section
noncomputable def Hn (c a:Str):Bool:=(c == ("Whitespace":Str) && EV a) || (c == ("TupleComp":Str) && a == ("comp_select_list":Str))
noncomputable def wW (g a:Str):Option PV:=if g == ("Whitespace":Str) && a == ("S":Str) then some (.str " ") else if g == ("Whitespace":Str) && a == ("T":Str) then some (.str "\t") else none
noncomputable def Cf (x:Str):Option PV:=if x == ("ENDMARKER":Str) then some (.int 0) else if x == ("NT_OFFSET":Str) then some (.int 256) else if x == ("tuple":Str) then some (.typ "tuple") else none
noncomputable def o0:cV where
 fn:=fun J J=>none
 bi:=I4
 mth:=fun J J J=>none
 fld:=Hn
 cattr:=wW
 gval:=Cf
 tab:=fun x=>if x == ("EXACT_TOKEN_TYPES":Str) then some lc else none
noncomputable def fE (name:Str) (a:Addr) (params:List Str) (W:List Str):DJ:=⟨name,a,params,c6 a,db a,W⟩
noncomputable def BC:=fE "add_callers" 122 ["target","source"] ["new_callers"]
noncomputable def qA:=fE "count_calls" 129 ["callers"] []
noncomputable def we:=fE "ISTERMINAL" 139 ["x"] []
noncomputable def CK:=fE "ISNONTERMINAL" 146 ["x"] []
noncomputable def Dg:=fE "ISEOF" 153 ["x"] []
noncomputable def wz:=fE "_law_page" 158 ["script"] ["cells","leads"]
noncomputable def v4:=fE "_law_symbols" 163 ["line","start"] ["row"]
noncomputable def u6:=fE "_law_hang" 168 ["spaces"] ["owners"]
noncomputable def Cy:=fE "_law_farther" 173 ["leads"] ["columns"]
noncomputable def qM:=fE "_law_table" 178 ["symbols","owners"] ["table"]
noncomputable def uF:=fE "_law_walk" 183 ["table","order","pieces"] ["leads","owners"]
noncomputable def nA:=fE "_law_blocks" 188 ["leads"] ["blocks"]
noncomputable def u9:=fE "_law_flow" 193 ["table","some","others"] []
noncomputable def nI:=fE "_law_pieces" 198 ["pairs","nodes"] []
noncomputable def Er:=fE "law" 203 ["script"] []
noncomputable def v5:so:=⟨"Whitespace",fE "longest_run_of_spaces" 45 ["self"] []⟩
noncomputable def qL:so:=⟨"Whitespace",fE "indent_level" 52 ["self","tabsize"] []⟩
noncomputable def vr:so:=⟨"Whitespace",fE "less" 73 ["self","other"] []⟩
noncomputable def sR:so:=⟨"TupleComp",fE "compare" 108 ["self","left","right"] []⟩
noncomputable def AD:tz:=⟨83,fE "Whitespace" 38 ["self","ws"] ["count"]⟩
noncomputable def GZ:tz:=⟨111,fE "TupleComp" 101 ["self","comp_select_list"] []⟩
noncomputable def o1:cV:=ext o0 120 [BC,qA,we,CK,Dg,wz,v4,Cy,uF,nI] [v5,qL,sR] [AD,GZ]
noncomputable def o2:cV:=ext o1 100 [qM,u9] [vr] []
noncomputable def o3:cV:=ext o2 100 [u6,nA] [] []
noncomputable def yo (script:List Int):Option PV:=e5 o3 [] 150 Er.params Er.scope Er.body [.lst (script.map .int)]
section
variable {K:Frag}
structure m9 (K:Frag) (G:GX ag w):Prop where
 ok:HW w.params K
 kb:K.In G.base
 bi:∀ x:Str,x≠"__name__"->G.mb x=bootBuiltins x
 cl1:G.cl ("Whitespace":Str)=some 83
 cl2:G.cl ("TupleComp":Str)=some 111
theorem m9.mg (D:m9 K G) (x:Str):G.mg x=bM K x:=AV G.g D.kb D.ok.n3 x
theorem m9.glob (D:m9 K G) {x:Str}{v:Value} (h:bM K x=some v):cC G x v:=.inl (by rw [D.mg];exact h)
theorem m9.built (D:m9 K G) {x:Str}{v:Value} (h:bM K x=none) (hn:x≠"__name__") (e:bootBuiltins x=some v):cC G x v:=.inr ⟨by rw [D.mg];exact h,by rw [D.bi x hn];exact e⟩
theorem m9.bis (D:m9 K G):qn G:=
 let ⟨h1,h2,h3,h4,h5,h6,h7,h8⟩:=D.ok.non1
 ⟨D.built h1 (by decide) (by decide +kernel),D.built h2 (by decide) (by decide +kernel),D.built h3 (by decide) (by decide +kernel),D.built h4 (by decide) (by decide +kernel),D.built h5 (by decide) (by decide +kernel),D.built h6 (by decide) (by decide +kernel),D.built h7 (by decide) (by decide +kernel),D.built h8 (by decide) (by decide +kernel)⟩
theorem m9.more (D:m9 K G):Cn G:=
 let ⟨h1,h2,h3,_⟩:=D.ok.non2
 ⟨D.built h1 (by decide) (by decide +kernel),D.built h2 (by decide) (by decide +kernel),D.built h3 (by decide) (by decide +kernel)⟩
theorem m9.iter (D:m9 K G):rC G:=
 let ⟨_,_,_,h1,h2,h3⟩:=D.ok.non2
 ⟨D.built h1 (by decide) (by decide +kernel),D.built h2 (by decide) (by decide +kernel),D.built h3 (by decide) (by decide +kernel)⟩
theorem m9.callee (D:m9 K G) {a:Addr} (h:keepIn K (.ref a)=true):gR G (.ref a):=fun J hi=>keeps_K h _ (DI D.kb hi)
theorem m9.fnf (D:m9 K G) {name:Str}{a:Addr}{params W:List Str} (h1:bM K name=some (.ref a)) (h:pF K a params):tA G (fE name a params W):=⟨D.glob h1,D.callee h.keep,zj D.kb h⟩
theorem m9.mf (D:m9 K G) {c name:Str}{C a:Addr}{params W:List Str} (hc:G.cl c=some C) (h1:plainGet K C name=true) (h2:findIn K (.ref C) name=some (some (.ref a))) (h3:typeIn K (.ref a)=some (.type "function")) (h:pF K a params):vq G K ⟨c,fE name a params W⟩:=
 ⟨⟨C,hc,h1,h2,h3⟩,D.callee h.keep,zj D.kb h⟩
theorem m9.cf (D:m9 K G) {name:Str}{C a:Addr}{params W:List Str} (hc:G.cl name=some C) (h0:keepIn K (.ref C)=true) (hm:makesIn K C=true) (h1:bM K name=some (.ref C)) (h2:findIn K (.ref C) "__init__"=some (some (.ref a))) (h3:typeIn K (.ref a)=some (.type "function")) (h:pF K a params):qD G K ⟨C,fE name a params W⟩:=
 ⟨D.glob h1,D.callee h0,hm,h2,h3,hc,zj D.kb h⟩
end
end
end Mine
end
section
namespace Mine
noncomputable section
section
variable {K:Frag}
theorem yw:∀ {es:List DictEntry},pZ w.params es->(∀ e∈es,∃ k,(PySem.strKind ag w).is k e.key=true/\e.hash=(PySem.strKind ag w).hash k)/\Pairs (PySem.strKind ag w) es (iX es)
 | [],_=>⟨fun J h=>(nomatch h),.nil⟩
 | e::r,h=>by
  obtain ⟨h,k,v⟩:=e;refine xA h ?_;clear h;rintro ⟨x,t,hk,hh⟩ hr;dsimp only at hk hh;subst hk;refine xA (yw hr) ?_;intro h1 h2;refine ⟨fun e he=>?_,.cons (q9 x t) rfl h2⟩;rcases ar.mp he with rfl | he
  ·exact ⟨x,q9 x t,hh⟩
  ·exact h1 e he
theorem CJ:∀ {kvs:List (Str×Value)}{t:List (Str×Int)},lS kvs t->∀ y,match t.lookup y with | some i=>∃ tk,valueAt kvs y=some (.int i tk) | none=>valueAt kvs y=none
 | [],[],_,y=>rfl
 | (k,v)::kvs,(x,i)::t,h,y=>by
  unfold lS at h;rw [aw,aw] at h
  injection h with h1 h2
  injection h1 with h1 h3
  dsimp only at h1 h3;subst h1;have ih:=CJ (kvs:=kvs) (t:=t) h2 y;rw [aP];unfold valueAt at ih ⊢;rw [g8];by_cases q:y=k
  ·subst q
   rw [beq_self_eq_true];simp only [decide_true]
   cases v with
   | int j tk=>cases h3;exact ⟨tk,rfl⟩
   | _=>cases h3
  ·rw [beq_eq_false_iff_ne.mpr q]
   have q':¬ k=y:=fun e=>q e.symm;simp only [q',decide_false];exact ih
 | [],_::_,h,_=>by unfold lS at h;cases h
 | _::_,[],h,_=>by unfold lS at h;cases h
theorem ER:(lc.map (·.1)).Nodup:=by decide +kernel
theorem Ci (D:m9 K G):∃ kvs,G.base.DictOf (PySem.strKind ag w) 130 kvs/\∀ y,match lc.lookup y with | some i=>∃ tk,valueAt kvs y=some (.int i tk) | none=>valueAt kvs y=none:=by
 refine AE D.ok.t1 ?_;intro es n he;have e1:sN K=es.toList:=by unfold sN;rw [he]
 have ks:=yw  D.ok.t2;refine ⟨iX (sN K),⟨_,es,n,D.kb _ _ he,⟨rfl,rfl,rfl⟩,rfl,?_,?_,?_⟩,CJ D.ok.t3⟩
 ·intro e h
  exact ks.1 e (by rw [e1];exact Array.mem_toList_iff.mpr h)
 ·rw [<- e1];exact ks.2
 ·rw [D.ok.t4];exact ER
theorem y5 (D:m9 K G) {a x:Str} (h:∃ t,findCls K (.ref 83) (.type "type") a=some (.val (.str x t))) {A:Around}{s:Shared}{V:Addr->Prop} (i:G.In s.heap):wpAny (model ag w) A (getAttr (.ref 83) a true) (b4 G V s (.str x)) EF s:=by
 refine xE h ?_;clear h;intro t h;exact cls_value (DI D.kb i) D.ok.c1.2.2.2.2.2.2 h rfl ⟨c7.mpr ⟨t,rfl⟩,Kp.toks⟩
theorem qR {c a:Str} (h:Hn c a=true):(c="Whitespace"/\EV a=true)\/(c="TupleComp"/\a="comp_select_list"):=by
 rcases eQ.mp h with h | h
 ·exact .inl ⟨beq_iff_eq.mp (iq h).1,(iq h).2⟩
 ·exact .inr ⟨beq_iff_eq.mp (iq h).1,beq_iff_eq.mp (iq h).2⟩
theorem uy {g a:Str}{p:PV} (h:wW g a=some p):(g="Whitespace"/\a="S"/\p=.str " ")\/(g="Whitespace"/\a="T"/\p=.str "\t"):=by
 unfold wW at h;by_cases q:(g == ("Whitespace":Str) && a == ("S":Str))=true
 ·rw [if_pos q] at h;exact .inl ⟨beq_iff_eq.mp (iq q).1,beq_iff_eq.mp (iq q).2,bH h⟩
 ·rw [if_neg q] at h
  exact fh h fun q h=>.inr ⟨beq_iff_eq.mp (iq q).1,beq_iff_eq.mp (iq q).2,bH h⟩
theorem DO (D:m9 K G) {x:Str}{p:PV} (h:Cf x=some p):∃ v,cC G x v/\∀ h V,G.Rep h V p v:=by
 unfold Cf at h;by_cases q:(x == ("ENDMARKER":Str))=true
 ·rw [if_pos q] at h
  rw [beq_iff_eq.mp q,bH h];exact ⟨_,D.glob D.ok.gval.1,fun h V=>bN.mpr ⟨_,rfl⟩⟩
 ·rw [if_neg q] at h
  by_cases q:(x == ("NT_OFFSET":Str))=true
  ·rw [if_pos q] at h
   rw [beq_iff_eq.mp q,bH h];exact ⟨_,D.glob D.ok.gval.2.1,fun h V=>bN.mpr ⟨_,rfl⟩⟩
  ·rw [if_neg q] at h
   refine fh h fun q h=>?_;rw [beq_iff_eq.mp q,bH h];exact ⟨.type "tuple",D.bis.tuple,fun h V=>rfl⟩
theorem Fg (D:m9 K G):gE G o0 1 where
 fn:=fun f args p h=>nn h
 bi:=GG D.bis D.more
 mth:=fun c m args p h=>nn h
 fld:=fun c a h=>by
  rcases qR h with ⟨rfl,hw⟩ | ⟨rfl,rfl⟩
  ·refine ir (D.ok.p2 a hw) ?_;intro h1 h2 _
   exact ⟨83,D.cl1,fun A s x d es ep e Q E i g gd he hv q=>qk D.kb h1 D.ok.c1.2.2.1 h2 rfl i g gd he hv q⟩
  ·refine ir D.ok.p3 ?_;intro h1 h2 _
   exact ⟨111,D.cl2,fun A s x d es ep e Q E i g gd he hv q=>qk D.kb h1 D.ok.c1.2.2.2.1 h2 rfl i g gd he hv q⟩
 cattr:=fun g a p h=>by
  rcases uy h with ⟨rfl,rfl,rfl⟩ | ⟨rfl,rfl,rfl⟩
  ·exact ⟨.ref 83,D.glob D.ok.gval.2.2.2.1,fun A s V i=>y5 D D.ok.c5.1 i⟩
  ·exact ⟨.ref 83,D.glob D.ok.gval.2.2.2.1,fun A s V i=>y5 D D.ok.c5.2 i⟩
 gval:=fun x p h=>DO D h
 tab:=fun x t h=>fh (C:=∃ d,cC G x (.ref d)/\(d == sysModules)=false/\∃ kvs,G.base.DictOf (PySem.strKind ag w) d kvs/\∀ y,match t.lookup y with | some i=>∃ tk,valueAt kvs y=some (.int i tk) | none=>valueAt kvs y=none) h fun q h=>by
  rw [beq_iff_eq.mp q,bH h];exact ⟨130,D.glob D.ok.gval.2.2.1,by decide,Ci D⟩
theorem HC (D:m9 K G):qN G o0 where
 set:=fun c a h=>by
  rcases qR h with ⟨rfl,hw⟩ | ⟨rfl,rfl⟩
  ·refine ir (D.ok.p2 a hw) ?_;intro _ _ h3
   exact ⟨83,D.cl1,fun A s x d es ep v Q i hh g gd hz V fs rf q=>qz D.kb D.ok.c2.1 D.ok.c1.2.2.2.2.1 h3 D.ok.c1.2.2.1 i g gd hz rf q⟩
  ·refine ir D.ok.p3 ?_;intro _ _ h3
   exact ⟨111,D.cl2,fun A s x d es ep v Q i hh g gd hz V fs rf q=>qz D.kb D.ok.c2.2 D.ok.c1.2.2.2.2.2.1 h3 D.ok.c1.2.2.2.1 i g gd hz rf q⟩
theorem ty (D:m9 K G):Bm G o0:=⟨HC D,D.iter⟩
theorem all_cons {α:Type}{P:α->Prop}{a:α}{l:List α} (h:P a) (r:∀ e∈l,P e):∀ e∈a::l,P e:=fun e he=>by
 rcases ar.mp he with rfl | he
 ·exact h
 ·exact r e he
theorem iU {α:Type}{P:α->Prop}:∀ e∈([]:List α),P e:=fun J h=>nomatch h
theorem Ft (D:m9 K G):gE G o1 123:=
 let ⟨g1,g2,g3,g4,g5⟩:=D.ok.gfn
 let ⟨l1,l2,_,l4,_⟩:=D.ok.gl1
 let ⟨k1,_,_,k4,_⟩:=D.ok.gl2
 let ⟨f1,f2,f3,f4,f5⟩:=D.ok.f1
 let ⟨e1,e2,_,e4,_⟩:=D.ok.f2
 let ⟨d1,_,_,d4,_⟩:=D.ok.f3
 let ⟨i1,i2,i3,_,i5,i6⟩:=D.ok.f4
 let ⟨a1,a2,_,a4⟩:=D.ok.p1
 let ⟨m1,m2,_,m4,m5,m6⟩:=D.ok.m2
 let ⟨n1,n2,_,n4,n5,n6⟩:=D.ok.m3
 wZ (N:=120) (r:=1) D.kb (Fg D) (Eh (r:=0) (Fg D) (ty D))
  (all_cons (D.fnf g1 f1) (all_cons (D.fnf g2 f2) (all_cons (D.fnf g3 f3) (all_cons (D.fnf g4 f4) (all_cons (D.fnf g5 f5) (all_cons (D.fnf l1 e1) (all_cons (D.fnf l2 e2) (all_cons (D.fnf l4 e4) (all_cons (D.fnf k1 d1) (all_cons (D.fnf k4 d4) iU))))))))))
  (all_cons (D.mf D.cl1 a1 m1 n1 i2) (all_cons (D.mf D.cl1 a2 m2 n2 i3) (all_cons (D.mf D.cl2 a4 m4 n4 i6) iU)))
  (all_cons (D.cf D.cl1 D.ok.keep.1 D.ok.c1.1 D.ok.gval.2.2.2.1 m5 n5 i1) (all_cons (D.cf D.cl2 D.ok.keep.2 D.ok.c1.2.1 D.ok.gval.2.2.2.2 m6 n6 i5) iU))
theorem Fx (D:m9 K G):gE G o2 225:=wZ (N:=100) (r:=123) D.kb (Ft D) (Eh (r:=122) (Ft D) (ty D).ext)
 (all_cons (D.fnf D.ok.gl1.2.2.2.2 D.ok.f2.2.2.2.2) (all_cons (D.fnf D.ok.gl2.2.2.1 D.ok.f3.2.2.1) iU)) (all_cons (D.mf D.cl1 D.ok.p1.2.2.1 D.ok.m2.2.2.1 D.ok.m3.2.2.1 D.ok.f4.2.2.2.1) iU) iU
theorem Ho (D:m9 K G):gE G o3 327:=wZ (N:=100) (r:=225) D.kb (Fx D) (Eh (r:=224) (Fx D) (ty D).ext.ext)
 (all_cons (D.fnf D.ok.gl1.2.2.1 D.ok.f2.2.2.1) (all_cons (D.fnf D.ok.gl2.2.1 D.ok.f3.2.1) iU)) iU iU
theorem B6 (D:m9 K G) {script:List Int}{p:PV} (h:yo script=some p):kT G 478 (.ref 203) [.lst (script.map .int)] p:=
 tC (r:=327) (n:=150) (Eh (r:=326) (Ho D) (ty D).ext.ext.ext []) (zj D.kb D.ok.f3.2.2.2.2) h
end
end
end Mine
end
section
namespace Mine
noncomputable section
theorem tR {P:Params}{h:Heap}:∀ {ns:List Int}{vs:List Value},WellAll P h vs (ofPys (ns.map .int))->G.RepL h (fun J=>False) (ns.map .int) vs:=fun {ns}=>by
 induction ns with
 | nil=>intro vs x;have x:WellAll P h vs []:=x;cases x;trivial
 | cons n ns ih=>
  intro vs x;have x:WellAll P h vs (.int n::ofPys (ns.map .int)):=x
  cases x with
  | cons y z=>cases y with
   | int i t=>exact RepL.cons (bN.mpr ⟨t,rfl⟩) (ih z)
set_option tactic.hygienic true in
theorem Ek (hp:∀ script:List Int,script.length<=63->yo script=some (.bool true)):C4 wd:=fun ko kb bb c1 c2 s l ns hs hlen W=>by
 have D:m9 KF G:=⟨ko,kb,bb,c1,c2⟩;have W:Well w.params s.heap (.ref l) (.list (ofPys (ns.map .int))):=W
 cases W with
 | list ho hw=>
  rename_i vs
  have rep:G.RepL s.heap (fun J=>False) [.lst (ns.map .int)] [.ref l]:=⟨dC.mpr ⟨l,rfl,id,vs,⟨_,ho⟩,tR hw⟩,trivial⟩;exact wpAny_mono (B6 D (hp ns hlen) callerA s (fun J=>False) [.ref l] ⟨rfl,by decide,by decide⟩ (fun J J e=>hs ▸ e) (fun J q=>q.elim) rep) (fun v s' z=>⟨cY.mp z.1,.of_keep z.2.keep,z.2.os,z.2.gens⟩) fun J J x=>x
theorem z5 {ag:Program}{w:World}{aG:Shared}{mg mb:Str->Option Value}{fa l:Addr}{ns:List Int} (hp:∀ script:List Int,script.length<=63->yo script=some (.bool true)) (g:aG.heap.Ns mainGlobals mg) (b:aG.heap.Ns builtinsNs mb) (nl:aG.heap.NoLimit)
  (bb:∀ x:Str,x≠"__name__"->mb x=bootBuiltins x) {K:Frag} (KO:HW w.params K) (KX:K.In aG.heap) (hmg:mg ("law":Str)=some (.ref fa)) (hlen:ns.length<=63) (W:Well w.params aG.heap (.ref l) (ofPy (.list (ns.map .int)))) :
  wpAny (model ag w) callerA (call (.ref fa) [.ref l]) (fun v s'=>v=.bool true/\OldK aG.heap s'.heap/\s'.os=aG.os/\(AllBare aG.gens->AllBare s'.gens)) EF aG:=by
 have e:fa=203:=by
  have h3:mg ("law":Str)=some (.ref 203):=(AV g KX KO.n3 _).trans KO.gl2.2.2.2.2;rw [hmg] at h3
  injection h3 with h3
  injection h3
 subst e;exact Em (Ek hp) ⟨ag,w,{ base:=aG.heap,mg:=mg,mb:=mb,cl:=fun c=>if c == ("Whitespace":Str) then some 83 else if c == ("TupleComp":Str) then some 111 else none,g:=g,b:=b,nolimit:=nl },K⟩ KO KX bb rfl rfl aG l ns rfl hlen W
end
end Mine
end
section
namespace Mine
theorem aj {o:cV}{W:List Str}{n:Nat}{sc:Sc}{σ aI:SE}{s:Stmt}{r:List Stmt} (h:ex o W n sc σ s=some (.next,aI)):exs o W (n+1) sc σ (s::r)=exs o W n sc aI r:=dp h
theorem bD {o:cV}{W:List Str}{n:Nat}{sc:Sc}{σ aI:SE}{s:Stmt}{r:List Stmt}{v:PV} (h:ex o W n sc σ s=some (.ret v,aI)):exs o W (n+1) sc σ (s::r)=some (.ret v,aI):=dp h
theorem tT {o:cV}{W:List Str}{n:Nat}{sc:Sc}{σ aI:SE}{s:Stmt}{r:List Stmt} (h:ex o W n sc σ s=some (.brk,aI)):exs o W (n+1) sc σ (s::r)=some (.brk,aI):=dp h
theorem Hz {o:cV}{W:List Str}{n:Nat}{sc:Sc}{σ:SE}{t:Expr}{b e:List Stmt}{p:Pos}{c:Bool} (h:evT o n sc σ t=some c):ex o W (n+1) sc σ (.If t b e p)=if c=true then exs o W n sc σ b else exs o W n sc σ e:=dp h
theorem jJ {o:cV}{W:List Str}{n:Nat}{sc:Sc}{σ:SE}{t it:Expr}{b:List Stmt}{p:Pos}{items:List PV} (h:evI o n sc σ t it=some items):ex o W (n+1) sc σ (.For t it b [] p)=exF o W n sc σ t items b:=dp h
theorem bm {o:cV}{W:List Str}{n:Nat}{sc:Sc}{σ:SE}{x:Str}{q p:Pos}{v:Expr}{u:PV} (hw:(W.contains x && !(jh v))=false) (h:ev o n sc σ v=some u):ex o W (n+1) sc σ (.Assign [.Name x q] v p)=(iT W sc [x] [u] σ).map fun aI=>(Fl.next,aI):=by
 have e:FJ W (ev o n sc σ) sc σ x v=iT W sc [x] [u] σ:=(ll (by rw [hw];rfl)).trans (dp h);exact congrArg (ca lg) e
theorem l5 {o:cV}{W:List Str}{n:Nat}{sc:Sc}{σ:SE}{p:Pos}{e:Expr}{u:PV} (h:ev o n sc (GV σ) e=some u):ex o W (n+1) sc σ (.Return (some e) p)=some (.ret u,[]):=DK h
theorem p5 {o:cV}{W:List Str}{n:Nat}{sc:Sc}{σ:SE}{t:Expr}{body:List Stmt}:exF o W (n+1) sc σ t [] body=some (.next,σ):=rfl
theorem gq {o:cV}{W:List Str}{n:Nat}{sc:Sc}{σ aI jP:SE}{t:Expr}{i:PV}{is:List PV}{body:List Stmt} (h1:bindT sc t i σ=some aI) (h2:exs o W n sc aI body=some (.next,jP)):exF o W (n+1) sc σ t (i::is) body=exF o W n sc jP t is body:=(dp h1).trans (dp h2)
theorem og {o:cV}{W:List Str}{n:Nat}{sc:Sc}{σ aI jP:SE}{t:Expr}{i v:PV}{is:List PV}{body:List Stmt} (h1:bindT sc t i σ=some aI) (h2:exs o W n sc aI body=some (.ret v,jP)):exF o W (n+1) sc σ t (i::is) body=some (.ret v,jP):=(dp h1).trans (dp h2)
theorem Ed {o:cV}{W:List Str}{n:Nat}{sc:Sc}{σ aI jP:SE}{t:Expr}{i:PV}{is:List PV}{body:List Stmt} (h1:bindT sc t i σ=some aI) (h2:exs o W n sc aI body=some (.brk,jP)):exF o W (n+1) sc σ t (i::is) body=some (.next,jP):=(dp h1).trans (dp h2)
theorem lu {α β:Type}{o:cV}{W:List Str}{sc:Sc}{t:Expr}{body:List Stmt} (S:α->SE) (P:Nat->α->Prop) (f:α->β->α) (g:β->PV) (m:Nat) :
  ∀ (xs:List β) (a:α) (N j:Nat),m+xs.length+1<=N->P j a ->
  (∀ i a x n,i < j+xs.length->P i a->x∈xs->P (i+1) (f a x)/\∃ aI,bindT sc t (g x) (S a)=some aI/\exs o W (n+m) sc aI body=some (.next,S (f a x))) ->
  exF o W N sc (S a) t (xs.map g) body=some (.next,S (xs.foldl f a)):=by
 intro xs
 induction xs with
 | nil=>
  intro a N j hN _ _;refine xE (az (aO (cL 1 _) hN)) ?_;rintro k rfl;rw [cM,p5];rfl
 | cons x xs ih=>
  intro a N j hN hP step;rw [aD] at hN step;refine xE (az (show m+1<=N by exact (pn [_,_,_] 0x0D2A1800D2A18AA1810) hN)) ?_;rintro k rfl;refine CA (step j a x k (by exact pn [_,_] 0x1DAA18100) hP am) ?_;intro hP' aI h1 h2;rw [aw,show k+(m+1)=(k+m)+1 from rfl,gq h1 h2,a9];exact ih _ _ (j+1) (by exact (pn [_,_,_] 0x0DA02A18A100DAA1802A18AA1810) hN) hP' fun i a y n hi p hy=>step i a y n (by exact (pn [_,_,_] 0x1DAA182101DA2A1810) hi) p (ai _ hy)
theorem ut {o:cV}{n:Nat}{sc:Sc}{σ:SE}{g:Comprehension}{gs:List Comprehension}{elt:Expr}{key:Option Expr} (hf:(g.is_async=0 && gW g.target σ)=true):k8 o (n+1) sc σ g [] gs elt key=some []:=ll hf
theorem rO {o:cV}{n:Nat}{sc:Sc}{σ aI:SE}{g:Comprehension}{i:PV}{is:List PV}{gs:List Comprehension}{elt:Expr}{key:Option Expr} (hf:(g.is_async=0 && gW g.target σ)=true)
  (h1:bindT sc g.target i σ=some aI) (h2:evAnd o n sc aI g.ifs=some false):k8 o (n+1) sc σ g (i::is) gs elt key=k8 o n sc σ g is gs elt key:=by
 refine (ll hf).trans ((dp h1).trans ((dp h2).trans ?_));show dv _ (some []) (k8 o n sc σ g is gs elt key)=_
 cases k8 o n sc σ g is gs elt key<;>rfl
theorem Ex {o:cV}{n:Nat}{sc:Sc}{σ aI:SE}{g:Comprehension}{i v:PV}{is:List PV}{elt:Expr} (hf:(g.is_async=0 && gW g.target σ)=true)
  (h1:bindT sc g.target i σ=some aI) (h2:evAnd o n sc aI g.ifs=some true) (h3:ev o n sc aI elt=some v):k8 o (n+1) sc σ g (i::is) [] elt none=(k8 o n sc σ g is [] elt none).map ((.none,v)::·):=by
 refine (ll hf).trans ((dp h1).trans ((dp h2).trans ?_));show dv _ (dv _ (ev o n sc aI elt) (some PV.none)) (k8 o n sc σ g is [] elt none)=_;rw [h3]
 cases k8 o n sc σ g is [] elt none<;>rfl
theorem D0 {o:cV}{n:Nat}{sc:Sc}{σ aI:SE}{g:Comprehension}{i v k:PV}{is:List PV}{elt ke:Expr} (hf:(g.is_async=0 && gW g.target σ)=true)
  (h1:bindT sc g.target i σ=some aI) (h2:evAnd o n sc aI g.ifs=some true) (h3:ev o n sc aI elt=some v) (h4:ev o n sc aI ke=some k):k8 o (n+1) sc σ g (i::is) [] elt (some ke)=(k8 o n sc σ g is [] elt (some ke)).map ((k,v)::·):=by
 refine (ll hf).trans ((dp h1).trans ((dp h2).trans ?_));show dv _ (dv _ (ev o n sc aI elt) (ev o n sc aI ke)) (k8 o n sc σ g is [] elt (some ke))=_;rw [h3,h4]
 cases k8 o n sc σ g is [] elt (some ke)<;>rfl
theorem Bh {o:cV}{n:Nat}{sc:Sc}{σ aI:SE}{g g':Comprehension}{i:PV}{is items:List PV}{rs:List (PV×PV)}{gs:List Comprehension}{elt:Expr}{ke:Option Expr} (hf:(g.is_async=0 && gW g.target σ)=true)
  (h1:bindT sc g.target i σ=some aI) (h2:evAnd o n sc aI g.ifs=some true) (h3:evI o n sc aI g'.target g'.iter=some items) (h4:k8 o n sc aI g' items gs elt ke=some rs):k8 o (n+1) sc σ g (i::is) (g'::gs) elt ke=(k8 o n sc σ g is (g'::gs) elt ke).map (rs++·):=by
 refine (ll hf).trans ((dp h1).trans ((dp h2).trans ?_));show dv _ ((evI o n sc aI g'.target g'.iter).bind _) (k8 o n sc σ g is (g'::gs) elt ke)=_;rw [h3];show dv _ (k8 o n sc aI g' items gs elt ke) _=_;rw [h4]
 cases k8 o n sc σ g is (g'::gs) elt ke<;>rfl
theorem bx {β:Type}{o:cV}{sc:Sc}{σ:SE}{g:Comprehension}{elt:Expr} (p:β->Bool) (e:β->PV) (gi:β->PV) (m:Nat) (hf:(g.is_async=0 && gW g.target σ)=true) :
  ∀ (xs:List β) (N:Nat),m+xs.length+1<=N ->
  (∀ x n,x∈xs->∃ aI,bindT sc g.target (gi x) σ=some aI/\evAnd o (n+m) sc aI g.ifs=some (p x)/\(p x=true->ev o (n+m) sc aI elt=some (e x))) ->
  k8 o N sc σ g (xs.map gi) [] elt none=some ((xs.filter p).map fun x=>(.none,e x)):=by
 intro xs
 induction xs with
 | nil=>
  intro N hN _;refine xE (az (aO (cL 1 _) hN)) ?_;rintro k rfl;rw [cM,ut hf];rfl
 | cons x xs ih=>
  intro N hN step;rw [aD] at hN;refine xE (az (show m+1<=N by exact (pn [_,_,_] 0x0D2A1800D2A18AA1810) hN)) ?_;rintro k rfl;refine fw (step x k am) ?_;intro aI h1 h2 h3;have IH:=ih (k+m) (by exact (pn [_,_,_] 0x0DA02A18A100DAA1802A18AA1810) hN) fun y n hy=>step y n (ai _ hy);rw [aw,show k+(m+1)=(k+m)+1 from rfl]
  cases hp:p x with
  | false=>rw [hp] at h2;rw [rO hf h1 h2,IH,aU (by simp [hp])]
  | true=>rw [hp] at h2;rw [Ex hf h1 h2 (h3 hp),IH,aZ (by simp [hp])];rfl
theorem ij {β:Type}{o:cV}{sc:Sc}{σ:SE}{g:Comprehension}{elt ke:Expr} (p:β->Bool) (e kf:β->PV) (gi:β->PV) (m:Nat) (hf:(g.is_async=0 && gW g.target σ)=true) :
  ∀ (xs:List β) (N:Nat),m+xs.length+1<=N ->
  (∀ x n,x∈xs->∃ aI,bindT sc g.target (gi x) σ=some aI/\evAnd o (n+m) sc aI g.ifs=some (p x)/\(p x=true->ev o (n+m) sc aI elt=some (e x)/\ev o (n+m) sc aI ke=some (kf x))) ->
  k8 o N sc σ g (xs.map gi) [] elt (some ke)=some ((xs.filter p).map fun x=>(kf x,e x)):=by
 intro xs
 induction xs with
 | nil=>
  intro N hN _;refine xE (az (aO (cL 1 _) hN)) ?_;rintro k rfl;rw [cM,ut hf];rfl
 | cons x xs ih=>
  intro N hN step;rw [aD] at hN;refine xE (az (show m+1<=N by exact (pn [_,_,_] 0x0D2A1800D2A18AA1810) hN)) ?_;rintro k rfl;refine fw (step x k am) ?_;intro aI h1 h2 h3;have IH:=ih (k+m) (by exact (pn [_,_,_] 0x0DA02A18A100DAA1802A18AA1810) hN) fun y n hy=>step y n (ai _ hy);rw [aw,show k+(m+1)=(k+m)+1 from rfl]
  cases hp:p x with
  | false=>rw [hp] at h2;rw [rO hf h1 h2,IH,aU (by simp [hp])]
  | true=>rw [hp] at h2;rw [D0 hf h1 h2 (h3 hp).1 (h3 hp).2,IH,aZ (by simp [hp])];rfl
theorem nQ {β:Type}{o:cV}{sc:Sc}{σ:SE}{g g':Comprehension}{gs:List Comprehension}{elt:Expr}{ke:Option Expr} (p:β->Bool) (rows:β->List (PV×PV)) (gi:β->PV) (m:Nat) (hf:(g.is_async=0 && gW g.target σ)=true) :
  ∀ (xs:List β) (N:Nat),m+xs.length+1<=N ->
  (∀ x n,x∈xs->∃ aI,bindT sc g.target (gi x) σ=some aI/\evAnd o (n+m) sc aI g.ifs=some (p x)/\(p x=true->∃ items,evI o (n+m) sc aI g'.target g'.iter=some items/\k8 o (n+m) sc aI g' items gs elt ke=some (rows x))) ->
  k8 o N sc σ g (xs.map gi) (g'::gs) elt ke=some ((xs.filter p).flatMap rows):=by
 intro xs
 induction xs with
 | nil=>
  intro N hN _;refine xE (az (aO (cL 1 _) hN)) ?_;rintro k rfl;rw [cM,ut hf];rfl
 | cons x xs ih=>
  intro N hN step;rw [aD] at hN;refine xE (az (show m+1<=N by exact (pn [_,_,_] 0x0D2A1800D2A18AA1810) hN)) ?_;rintro k rfl;refine fw (step x k am) ?_;intro aI h1 h2 h3;have IH:=ih (k+m) (by exact (pn [_,_,_] 0x0DA02A18A100DAA1802A18AA1810) hN) fun y n hy=>step y n (ai _ hy);rw [aw,show k+(m+1)=(k+m)+1 from rfl]
  cases hp:p x with
  | false=>rw [hp] at h2;rw [rO hf h1 h2,IH,aU (by simp [hp])]
  | true=>
   rw [hp] at h2;refine bO (h3 hp) ?_;intro items h4 h5;rw [Bh hf h1 h2 h4 h5,IH,aZ (by simp [hp])];rfl
theorem bw {o:cV}{n:Nat}{sc:Sc}{σ:SE}{elt:Expr}{g:Comprehension}{gs:List Comprehension}{scope:Scope}{p:Pos}{items:List PV}{rs:List (PV×PV)} (hs:hZ sc scope=true) (h1:evI o n sc σ g.target g.iter=some items)
  (h2:k8 o n scope.names (mA scope σ) g items gs elt none=some rs) (hl:rs.length<=1048576):ev o (n+1) sc σ (.ListComp elt (g::gs) scope p)=some (.lst (rs.map (·.2))):=(ll hs).trans ((dp h1).trans ((dp h2).trans (if_pos (by rw [aa];exact hl))))
theorem jH {o:cV}{n:Nat}{sc:Sc}{σ:SE}{k v:Expr}{g:Comprehension}{scope:Scope}{p:Pos}{items:List PV}{rs:List (PV×PV)} (hs:hZ sc scope=true) (h1:evI o n sc σ g.target g.iter=some items)
  (h2:k8 o n scope.names (mA scope σ) g items [] v (some k)=some rs) (hl:rs.length<=1048576):ev o (n+1) sc σ (.DictComp k v [g] scope p)=(cj rs []).map .dct:=(ll hs).trans ((dp h1).trans ((dp h2).trans (if_pos hl)))
theorem dY {o:cV}{W:List Str}{n:Nat}{params:List Str}{scope:Scope}{body:List Stmt}{args:List PV}{σ aI:SE}{v:PV}
  (hg:w6 params scope args=true) (hb:dn scope.names params args []=some σ) (h:exs o W n scope.names σ body=some (.ret v,aI)):e5 o W n params scope body args=some v:=(ll hg).trans ((dp hb).trans (dp h))
noncomputable def aL (l:List Int):PV:=.lst (l.map .int)
noncomputable def bc (d:List (Int×Int)):PV:=.dct (d.map fun p=>(p.1,.int p.2))
noncomputable def gI (d:List (Int×Int)) (k:Int):Option Int:=(d.find? fun p=>p.1=k).map (·.2)
noncomputable def pI (d:List (Int×Int)) (k v:Int):List (Int×Int):=if d.any (fun p=>p.1=k) then d.map (fun p=>if p.1=k then (p.1,v) else p) else d++[(k,v)]
theorem wc {α:Type} (f:α->PV) (d:List (Int×α)) (k:Int):ej (d.map fun p=>(p.1,f p.2)) k=((d.find? fun p=>p.1=k).map (·.2)).map f:=by
 unfold ej
 induction d with
 | nil=>rfl
 | cons p d ih=>
  rw [aw,g8,g8];dsimp only;by_cases h:p.1=k
  ·simp [h]
  ·simp only [h,decide_false];exact ih
theorem d2 (d:List (Int×Int)) (k:Int):ej (d.map fun p=>(p.1,PV.int p.2)) k=(gI d k).map .int:=wc _ _ _
theorem uH (d:List (Int×Int)) (k v:Int):jc (d.map fun p=>(p.1,PV.int p.2)) k (.int v)=(pI d k v).map fun p=>(p.1,PV.int p.2):=by
 unfold jc pI;rw [List.any_map];show (if d.any (fun p=>decide (p.1=k))=true then _ else _)=_;split
 ·rw [ao,ao]
  refine cD fun p J=>?_;dsimp only [Function.comp];by_cases h:p.1=k<;>simp [h]
 ·rw [aN];rfl
end Mine
namespace Mine
theorem jB {o:cV}{W:List Str}{n:Nat}{sc:Sc}{σ aI:SE}{t it:Expr}{b r:List Stmt}{p:Pos}{items:List PV} (h:evI o n sc σ t it=some items) (h2:exF o W n sc σ t items b=some (.next,aI)) :
  exs o W (n+2) sc σ (.For t it b [] p::r)=exs o W (n+1) sc aI r:=
 aj ((jJ h).trans h2)
theorem cn {o:cV}{W:List Str}{n:Nat}{sc:Sc}{σ:SE}{t:Expr}{b e:List Stmt}{p:Pos}{c:Bool}{x:Option (Fl×SE)} (h:evT o n sc σ t=some c) (ht:c=true->exs o W n sc σ b=x) (he:c=false->exs o W n sc σ e=x) :
  ex o W (n+1) sc σ (.If t b e p)=x:=by
 rw [Hz h]
 cases c with
 | true=>rw [if_pos rfl];exact ht rfl
 | false=>rw [if_neg e8];exact he rfl
theorem fP {o:cV}{W:List Str}{n:Nat}{sc:Sc}{σ:SE}{x:Str}{q q' q'':Pos}{i v:Expr}{c k u c':PV} (hx:σ.lookup x=some (true,c)) (ho:dl x=true) (hv:ev o n sc σ v=some u) (hi:ev o n sc σ i=some k) (hp:lY c k u=some c') :
  ex o W (n+1) sc σ (.Assign [.Subscript (.Name x q) i q'] v q'')=some (.next,SE.put σ x (true,c')):=by
 have ho':pC σ x=some c:=(dp hx).trans (ll ho);have e:Dr (ev o n sc σ) σ x i v=some (SE.put σ x (true,c')):=(dp ho').trans ((i4 hv hi).trans (DK hp));exact congrArg (ca lg) e
theorem rP {o:cV}{W:List Str}{n:Nat}{sc:Sc}{σ:SE}{x:Str}{q q' q'':Pos}{i v:Expr}{c k c':PV}{a b:Int} (hx:σ.lookup x=some (true,c)) (ho:dl x=true) (hi:ev o n sc σ i=some k) (hc:item c k=some (.int a)) (hv:ev o n sc σ v=some (.int b)) (hp:lY c k (.int (a+b))=some c') :
  ex o W (n+1) sc σ (.AugAssign (.Subscript (.Name x q) i q') .Add v q'')=some (.next,SE.put σ x (true,c')):=by
 have ho':pC σ x=some c:=(dp hx).trans (ll ho);have e:FZ (ev o n sc σ) σ x i v=some (SE.put σ x (true,c')):=(dp ho').trans ((dp hi).trans ((i4 (a:=a) (b:=b) ((dp hc).trans rfl) ((dp hv).trans rfl)).trans (DK hp)));exact congrArg (ca lg) e
end Mine
namespace Mine
section
variable {o:cV}{W:List Str}{n:Nat}{sc:Sc}{σ:SE}
theorem b7 {f:Str}{q p:Pos}{a:Expr}{v r:PV} (hg:cU sc σ f=true) (ha:evP o n sc σ a=some v) (hb:o.bi f [v]=some r):ev o (n+1) sc σ (.Call (.Name f q) [a] [] p)=some r:=by
 have hn:lE sc σ (.Name f q)=some f:=ll hg;exact (dp hn).trans ((dp ha).trans (by rw [hb];rfl))
theorem fu {f:Str}{q p:Pos}{a:Expr}{v v' r:PV} (hg:cU sc σ f=true) (ha:evP o n sc σ a=some v') (hb:o.bi f [v']=none) (hv:ev o n sc σ a=some v) (hr:o.fn f [v]=some r):ev o (n+1) sc σ (.Call (.Name f q) [a] [] p)=some r:=by
 have hn:lE sc σ (.Name f q)=some f:=ll hg;exact (dp hn).trans ((dp ha).trans (by rw [hb];exact (dp hv).trans hr))
theorem wf {f:Str}{q p:Pos}{a b:Expr}{as:List Expr}{vs:List PV}{r:PV} (hg:cU sc σ f=true) (ha:dK (ev o n sc σ) (a::b::as)=some vs) (hb:o.bi f vs=some r):ev o (n+1) sc σ (.Call (.Name f q) (a::b::as) [] p)=some r:=by
 have hn:lE sc σ (.Name f q)=some f:=ll hg;exact (dp hn).trans ((dp ha).trans (by rw [hb];rfl))
theorem jn {f:Str}{q p:Pos}{a b:Expr}{as:List Expr}{vs:List PV}{r:PV} (hg:cU sc σ f=true) (ha:dK (ev o n sc σ) (a::b::as)=some vs) (hb:o.bi f vs=none) (hr:o.fn f vs=some r):ev o (n+1) sc σ (.Call (.Name f q) (a::b::as) [] p)=some r:=by
 have hn:lE sc σ (.Name f q)=some f:=ll hg;exact (dp hn).trans ((dp ha).trans (by rw [hb];exact hr))
theorem jO {ob:Expr}{name:Str}{ap cp:Pos}{args:List Expr}{c:Str}{fs:List (Str×PV)}{vs:List PV}{r:PV} (hp:(dt ob && ap.endLine == cp.line && decide (args.length<=8))=true) (hb:ev o n sc σ ob=some (.obj c fs)) (ha:dK (ev o n sc σ) args=some vs) (hn:(fs.lookup name).isNone=true) (hr:o.mth c name (.obj c fs::vs)=some r) :
  ev o (n+1) sc σ (.Call (.Attribute ob name ap) args [] cp)=some r:=(ll hp).trans ((dp hb).trans ((dp ha).trans ((ll hn).trans hr)))
theorem aW {l r:Expr}{op:Operator}{p:Pos}{a b c:PV} (hl:evP o n sc σ l=some a) (hr:ev o n sc σ r=some b) (hc:jW op a b=some c):ev o (n+1) sc σ (.BinOp l op r p)=some c:=(i4 hl hr).trans hc
theorem da {l r:Expr}{op:CmpOp}{p:Pos}{a b:PV}{c:Bool} (hl:ev o n sc σ l=some a) (ho:(op == .In || op == .NotIn)=false) (hr:ev o n sc σ r=some b) (hc:EJ n op a b=some c):ev o (n+1) sc σ (.Compare l [op] [r] p)=some (.bool c):=by
 refine (dp hl).trans ((if_neg (by rw [show ui op=(op == .In || op == .NotIn) from rfl,ho];exact e8)).trans ((dp hr).trans (DK hc)))
theorem iF {l r:Expr}{op:CmpOp}{p:Pos}{a b:PV}{c:Bool} (hl:ev o n sc σ l=some a) (ho:(op == .In || op == .NotIn)=true) (ht:dW o sc σ r=none) (hr:evP o n sc σ r=some b) (hc:EJ n op a b=some c):ev o (n+1) sc σ (.Compare l [op] [r] p)=some (.bool c):=by
 refine (dp hl).trans ((if_pos ho).trans ?_);rw [ht];exact (dp hr).trans (DK hc)
theorem br {l:Expr}{ops:List CmpOp}{rs:List Expr}{p:Pos}{b:Bool} (h:ev o n sc σ (.Compare l ops rs p)=some (.bool b)):evT o (n+1) sc σ (.Compare l ops rs p)=some b:=(dp h).trans rfl
theorem lA {f:Expr}{as:List Expr}{ks:List Keyword}{p:Pos}{b:Bool} (h:ev o n sc σ (.Call f as ks p)=some (.bool b)):evT o (n+1) sc σ (.Call f as ks p)=some b:=(dp h).trans rfl
theorem Es {e:Expr}{p:Pos}{b:Bool} (h:evT o n sc σ e=some b):evT o (n+1) sc σ (.UnaryOp .Not e p)=some (!b):=DK h
theorem hX {es:List Expr}{p:Pos}{b:Option Bool} (h:evAnd o n sc σ es=b):evT o (n+1) sc σ (.BoolOp .And es p)=b:=h
theorem kI {es:List Expr}{p:Pos}{b:Option Bool} (h:evOr o n sc σ es=b):evT o (n+1) sc σ (.BoolOp .Or es p)=b:=h
theorem sx:evAnd o (n+1) sc σ []=some true:=rfl
theorem jk:evOr o (n+1) sc σ []=some false:=rfl
theorem de {e:Expr}{es:List Expr}{b c:Bool} (h:evT o n sc σ e=some b) (hr:b=true->evAnd o n sc σ es=some c):evAnd o (n+1) sc σ (e::es)=some (b && c):=by
 refine (dp h).trans ?_
 cases b with
 | true=>exact hr rfl
 | false=>rfl
theorem bj {e:Expr}{b:Bool} (h:evT o (n+1) sc σ e=some b):evAnd o (n+2) sc σ [e]=some b:=by
 rw [de (c:=true) h fun J=>sx,Bool.and_true]
theorem ci {e:Expr}{es:List Expr}{b c:Bool} (h:evT o n sc σ e=some b) (hr:b=false->evOr o n sc σ es=some c):evOr o (n+1) sc σ (e::es)=some (b || c):=by
 refine (dp h).trans ?_
 cases b with
 | true=>rfl
 | false=>exact hr rfl
theorem e7 {t a b:Expr}{p:Pos}{c:Bool}{v:PV} (h:evT o n sc σ t=some c) (ha:c=true->ev o n sc σ a=some v) (hb:c=false->ev o n sc σ b=some v):ev o (n+1) sc σ (.IfExp t a b p)=some v:=by
 refine (dp h).trans ?_
 cases c with
 | true=>exact ha rfl
 | false=>exact hb rfl
theorem a8 {α β:Type}{f:α->Option β}:dK f []=some []:=rfl
theorem ay {α β:Type}{f:α->Option β}{a:α}{as:List α}{b:β}{bs:List β} (h:f a=some b) (hs:dK f as=some bs):dK f (a::as)=some (b::bs):=i4 h hs
theorem j3 {es:List Expr}{c:Nat}{p:Pos}{vs:List PV} (h:dK (ev o n sc σ) es=some vs) (hl:vs.length<=1048576):ev o (n+1) sc σ (.Tuple es c p)=some (.tup vs):=(dp h).trans (if_pos hl)
theorem Bg {es:List Expr}{p:Pos}{vs:List PV} (h:dK (ev o n sc σ) es=some vs) (hl:vs.length<=1048576):ev o (n+1) sc σ (.List es p)=some (.lst vs):=(dp h).trans (if_pos hl)
theorem fB {c:Expr}{lo hi:Option Expr}{q p:Pos}{b r:PV}{l h:Option Int} (hc:evP o n sc σ c=some b) (h1:evO o n sc σ lo=some l) (h2:evO o n sc σ hi=some h) (hr:mC b l h=some r):ev o (n+1) sc σ (.Subscript c (.Slice lo hi none q) p)=some r:=(dp hc).trans ((i4 h1 h2).trans hr)
end
end Mine
namespace Mine
theorem qU {o:cV}{W:List Str}{n:Nat}{sc:Sc}{σ:SE}{x a c:Str}{q q' q'':Pos}{v:Expr}{u:PV}{fs:List (Str×PV)} (hx:σ.lookup x=some (true,.obj c fs)) (ho:(dl x && o.fld c a && decide (fs.length<=100))=true) (hv:ev o n sc σ v=some u) :
  ex o W (n+1) sc σ (.Assign [.Attribute (.Name x q) a q'] v q'')=some (.next,SE.put σ x (true,.obj c (rB fs a u))):=by
 refine xA (iq ho) ?_;intro h1 h2;refine xA (iq h1) ?_;intro h1 h3;have ho':pC σ x=some (.obj c fs):=(dp hx).trans (ll h1);have e:Bf o (ev o n sc σ) σ x a v=some (SE.put σ x (true,.obj c (rB fs a u))):=(dp ho').trans ((dp (a:=(c,fs)) rfl).trans ((ll (by show (o.fld c a && _)=true;rw [h3];exact h2)).trans (DK hv)));exact congrArg (ca lg) e
theorem xL {o:cV}{W:List Str}{n:Nat}{self:Str}{ps:List Str}{scope:Scope}{body:List Stmt}{c:Str}{args:List PV}{aI:SE}{fs:List (Str×PV)}
  (hg:(w6 (self::ps) scope (.none::args) && (self::ps).all (bh scope.names))=true)
  (h:exs o W n (scope.names.filter fun q=>q.1 != self) (putL [] ((self,true,.obj c [])::dD ps args)) body=some (.next,aI)) (hs:aI.lookup self=some (true,.obj c fs)) (hk:dl self=true:=by decide) :
  kQ o W n (self::ps) scope body c args=some (.obj c fs):=by
 have e:pC aI self=some (.obj c fs):=(dp hs).trans (ll hk);exact (ll hg).trans ((dp h).trans ((dp e).trans ((dp (a:=(c,fs)) rfl).trans (ll (beq_self_eq_true c)))))
end Mine
namespace Mine
theorem DW {β:Type}{o:cV}{W:List Str}{sc:Sc}{t:Expr}{body:List Stmt}{v:PV} (S:Option β->SE) (p:β->Bool) (g:β->PV) (m:Nat) :
  ∀ (xs:List β) (a:Option β) (N:Nat),m+xs.length+1<=N ->
  (∀ a x n,x∈xs->∃ aI,bindT sc t (g x) (S a)=some aI/\exs o W (n+m) sc aI body=if p x=true then some (.next,S (some x)) else some (.ret v,[])) ->
  exF o W N sc (S a) t (xs.map g) body=if xs.all p=true then some (.next,S (xs.foldl (fun J x=>some x) a)) else some (.ret v,[]):=by
 intro xs
 induction xs with
 | nil=>
  intro a N hN _;refine xE (az (aO (cL 1 _) hN)) ?_;rintro k rfl;rw [cM,p5];rfl
 | cons x xs ih=>
  intro a N hN step;rw [aD] at hN;refine xE (az (show m+1<=N by exact (pn [_,_,_] 0x0D2A1800D2A18AA1810) hN)) ?_;rintro k rfl;refine bO (step a x k am) ?_;intro aI h1 h2
  cases hp:p x with
  | true=>
   rw [hp,if_pos rfl] at h2;have h:=ih (some x) (k+m) (by exact (pn [_,_,_] 0x0DA02A18A100DAA1802A18AA1810) hN) fun a y n hy=>step a y n (ai _ hy);rw [aw,show k+(m+1)=(k+m)+1 from rfl,gq h1 h2,h,ma,hp,gG,a9]
  | false=>
   rw [hp,if_neg e8] at h2;rw [aw,show k+(m+1)=(k+m)+1 from rfl,og h1 h2,ma,hp,Bool.false_and,if_neg e8]
theorem DQ {β:Type}{o:cV}{W:List Str}{N:Nat}{sc:Sc}{t it:Expr}{body r:List Stmt}{ps:Pos}{v:PV}{σ:SE} (S:Option β->SE) (p:β->Bool) (g:β->PV) (m:Nat) (xs:List β) (h0:σ=S none) (hi:evI o N sc σ t it=some (xs.map g)) (hN:m+xs.length+1<=N)
  (step:∀ a x n,x∈xs->∃ aI,bindT sc t (g x) (S a)=some aI/\exs o W (n+m) sc aI body=if p x=true then some (.next,S (some x)) else some (.ret v,[])) :
  exs o W (N+2) sc σ (.For t it body [] ps::r)=if xs.all p=true then exs o W (N+1) sc (S (xs.foldl (fun J x=>some x) none)) r else some (.ret v,[]):=by
 subst h0;have h:=DW S p g m xs none N hN step;by_cases hp:xs.all p=true
 ·rw [if_pos hp] at h ⊢;exact jB hi h
 ·rw [if_neg hp] at h ⊢;exact bD ((jJ hi).trans h)
theorem nX {α β:Type}{o:cV}{W:List Str}{N:Nat}{sc:Sc}{t it:Expr}{body r:List Stmt}{ps:Pos}{σ:SE} (S:α->SE) (P:Nat->α->Prop) (f:α->β->α) (g:β->PV) (m:Nat) (xs:List β) (a:α) (h0:σ=S a) (hi:evI o N sc σ t it=some (xs.map g)) (hN:m+xs.length+1<=N) (hP:P 0 a)
  (step:∀ i a x n,i < xs.length->P i a->x∈xs->P (i+1) (f a x)/\∃ aI,bindT sc t (g x) (S a)=some aI/\exs o W (n+m) sc aI body=some (.next,S (f a x))) :
  exs o W (N+2) sc σ (.For t it body [] ps::r)=exs o W (N+1) sc (S (xs.foldl f a)) r:=by
 subst h0;exact jB hi (lu S P f g m xs a N 0 hN hP fun i a x n hi=>step i a x n (by exact (pn [_,_] 0x1D101DA1080) hi))
theorem rM {o:cV}{n:Nat}{sc:Sc}{σ:SE}{t a b:Expr}{fp p:Pos}{i j:Int} (hg:cU sc σ "range"=true) (ha:ev o n sc σ a=some (.int i)) (hb:ev o n sc σ b=some (.int j)) (hs:(fQ i && fQ j)=true) :
  evI o (n+1) sc σ t (.Call (.Name "range" fp) [a,b] [] p)=some (gJ i j):=by
 have hk:nJ sc σ (.Call (.Name "range" fp) [a,b] [] p)=some (("range":Str),[a,b]):=(dp (a:=(("range":Str),[a,b])) rfl).trans (ll (by show (cU sc σ "range" && _)=true;rw [hg];rfl));show gd true _=_;rw [hk];exact (dp (ay ha (ay hb a8))).trans (if_pos hs)
theorem x5 {o:cV}{n:Nat}{sc:Sc}{σ:SE}{t b:Expr}{fp p:Pos}{j:Int} (hg:cU sc σ "range"=true) (hb:ev o n sc σ b=some (.int j)) (hs:fQ j=true) :
  evI o (n+1) sc σ t (.Call (.Name "range" fp) [b] [] p)=some (gJ 0 j):=by
 have hk:nJ sc σ (.Call (.Name "range" fp) [b] [] p)=some (("range":Str),[b]):=(dp (a:=(("range":Str),[b])) rfl).trans (ll (by show (cU sc σ "range" && _)=true;rw [hg];rfl));show gd true _=_;rw [hk];exact (dp (ay hb a8)).trans (if_pos hs)
theorem t0 {o:cV}{n:Nat}{sc:Sc}{σ:SE}{t a b:Expr}{fp p:Pos}{l m:List PV} (hg:cU sc σ "zip"=true) (ht:iO t=true) (ha:ev o n sc σ a=some (.lst l)) (hb:ev o n sc σ b=some (.lst m)) (hl:l.length<=1048576) (hm:m.length<=1048576) :
  evI o (n+1) sc σ t (.Call (.Name "zip" fp) [a,b] [] p)=some (lx l m):=by
 have hk:nJ sc σ (.Call (.Name "zip" fp) [a,b] [] p)=some (("zip":Str),[a,b]):=(dp (a:=(("zip":Str),[a,b])) rfl).trans (ll (by show (cU sc σ "zip" && _)=true;rw [hg];rfl));show gd true _=_;rw [hk];have hz:Eu [.lst l,.lst m]=some (lx l m):=if_pos (by rw [decide_eq_true hl,decide_eq_true hm];rfl);exact (dp (ay ha (ay hb a8))).trans ((ll ht).trans hz)
theorem vT {o:cV}{n:Nat}{sc:Sc}{σ:SE}{t a:Expr}{fp p:Pos}{l:List PV} (hg:cU sc σ "enumerate"=true) (ht:iO t=true) (ha:ev o n sc σ a=some (.lst l)) (hl:l.length<=1048576) :
  evI o (n+1) sc σ t (.Call (.Name "enumerate" fp) [a] [] p)=some (jZ 0 l):=by
 have hk:nJ sc σ (.Call (.Name "enumerate" fp) [a] [] p)=some (("enumerate":Str),[a]):=(dp (a:=(("enumerate":Str),[a])) rfl).trans (ll (by show (cU sc σ "enumerate" && _)=true;rw [hg];rfl));show gd true _=_;rw [hk];exact (dp (ay ha a8)).trans ((ll ht).trans (if_pos hl))
end Mine
namespace Mine
section
variable {o:cV}{W:List Str}{n:Nat}{sc:Sc}{σ:SE}
theorem wE {l r:Expr}{op:CmpOp}{p:Pos}{s:Str}{t:List (Str×Int)} (hl:ev o n sc σ l=some (.str s)) (ho:(op == .In || op == .NotIn)=true) (ht:dW o sc σ r=some t):ev o (n+1) sc σ (.Compare l [op] [r] p)=some (.bool ((t.lookup s).isSome == (op == .In))):=by
 refine (dp hl).trans ((if_pos ho).trans ?_);rw [ht];rfl
theorem zr {c:Expr}{x:Str}{q p:Pos}{s:Str}{t:List (Str×Int)}{v:Int} (ht:dW o sc σ c=some t) (hi:ev o n sc σ (.Name x q)=some (.str s)) (hv:t.lookup s=some v):ev o (n+1) sc σ (.Subscript c (.Name x q) p)=some (.int v):=by
 show (match dW o sc σ c with | some t=>_ | none=>_)=_;rw [ht];exact (dp hi).trans ((dp (a:=s) rfl).trans (DK hv))
theorem bt {c i:Expr}{p:Pos}{b k r:PV} (hns:∀ lo hi st q,i≠.Slice lo hi st q) (ht:dW o sc σ c=none) (hc:evP o n sc σ c=some b) (hi:ev o n sc σ i=some k) (hr:item b k=some r):ev o (n+1) sc σ (.Subscript c i p)=some r:=by
 have hs:l6 i=none:=by
  cases i with
  | Slice a b c d=>exact absurd rfl (hns _ _ _ _)
  | _=>rfl
 show (match l6 i with | some q=>_ | none=>(match dW o sc σ c with | some t=>_ | none=>dv item (evP o n sc σ c) (ev o n sc σ i)))=_;rw [hs,ht];exact (i4 hc hi).trans hr
theorem FS {x:Str}{q p:Pos}{v:Expr}{a b:Int}{aI:SE} (hx:σ.lookup x=some (false,.int a)) (hv:ev o n sc σ v=some (.int b)) (hb:dn sc [x] [.int (a+b)] σ=some aI):ex o W (n+1) sc σ (.AugAssign (.Name x q) .Add v p)=some (.next,aI):=by
 have hb2:(Gi (ev o n sc σ) sc σ x v)=some aI:=(dp hx).trans ((i4 (a:=a) (b:=b) rfl ((dp hv).trans rfl)).trans hb);exact congrArg (ca lg) hb2
theorem oq {x m:Str}{q ap cp p:Pos}{e:Expr}{l:List PV}{u:PV} (hx:σ.lookup x=some (true,.lst l)) (ho:(dl x && ap.endLine == cp.line && m == ("append":Str) && decide (l.length<=1048576))=true) (hv:ev o n sc σ e=some u) :
  ex o W (n+1) sc σ (.Expr (.Call (.Attribute (.Name x q) m ap) [e] [] cp) p)=some (.next,SE.put σ x (true,.lst (l++[u]))):=by
 refine xA (iq ho) ?_;intro h1 h4;refine xA (iq h1) ?_;intro h1 h3;refine xA (iq h1) ?_;intro h1 h2;have ho':pC σ x=some (.lst l):=(dp hx).trans (ll h1);have hm0:AT (.Call (.Attribute (.Name x q) m ap) [e] [] cp)=some (.Name x q,m,e):=ll h2;have e:BB (ev o n sc σ) σ (.Call (.Attribute (.Name x q) m ap) [e] [] cp)=some (SE.put σ x (true,.lst (l++[u]))):=
  (dp (a:=(Expr.Name x q,m,e)) hm0).trans ((dp (a:=x) rfl).trans ((dp ho').trans ((dp (a:=l) rfl).trans ((ll (by show (m == ("append":Str) && _)=true;rw [h3];exact h4)).trans (DK hv)))))
 exact congrArg (ca lg) e
end
end Mine
namespace Mine
theorem l9 {α β:Type}{o:cV}{W:List Str}{sc:Sc}{t:Expr}{body:List Stmt} (S:α->SE) (P:Nat->α->Prop) (f:α->β->α) (g:β->PV) (m:Nat) :
  ∀ (xs:List β) (a:α) (N j:Nat),m+xs.length+1<=N->P j a ->
  (∀ i a x n,xs[i]?=some x->P (j+i) a->P (j+i+1) (f a x)/\∃ aI,bindT sc t (g x) (S a)=some aI/\exs o W (n+m) sc aI body=some (.next,S (f a x))) ->
  exF o W N sc (S a) t (xs.map g) body=some (.next,S (xs.foldl f a))/\P (j+xs.length) (xs.foldl f a):=by
 intro xs
 induction xs with
 | nil=>
  intro a N j hN hP _;refine xE (az (aO (cL 1 _) hN)) ?_;rintro k rfl;rw [cM,p5];exact ⟨rfl,hP⟩
 | cons x xs ih=>
  intro a N j hN hP step;rw [aD] at hN;refine xE (az (show m+1<=N by exact (pn [_,_,_] 0x0D2A1800D2A18AA1810) hN)) ?_;rintro k rfl;refine CA (step 0 a x k rfl hP) ?_;intro hP' aI h1 h2;rw [aw,show k+(m+1)=(k+m)+1 from rfl,gq h1 h2,a9,aD,show j+(xs.length+1)=j+1+xs.length from by exact pn [_,_] 0x2DA1A180AA1810];refine ih _ _ (j+1) (by exact (pn [_,_,_] 0x0DA02A18A100DAA1802A18AA1810) hN) hP' fun i a y n hy p=>?_
  have:=step (i+1) a y n hy (by rw [show j+(i+1)=j+1+i from by exact pn [_,_] 0x2DA1A180AA1810];exact p)
  rw [show j+(i+1)+1=j+1+i+1 from by exact pn [_,_] 0x2DA18A1A180A18AA1810] at this;exact this
theorem gV {α β:Type}{o:cV}{W:List Str}{N:Nat}{sc:Sc}{t it:Expr}{body r:List Stmt}{ps:Pos}{σ:SE}{x:Option (Fl×SE)} (S:α->SE) (P:Nat->α->Prop) (f:α->β->α) (g:β->PV) (m:Nat) (xs:List β) (a:α) (h0:σ=S a) (hi:evI o N sc σ t it=some (xs.map g)) (hN:m+xs.length+1<=N) (hP:P 0 a)
  (step:∀ i a x n,xs[i]?=some x->P i a->P (i+1) (f a x)/\∃ aI,bindT sc t (g x) (S a)=some aI/\exs o W (n+m) sc aI body=some (.next,S (f a x)))
  (fin:∀ b,b=xs.foldl f a->P xs.length b->exs o W (N+1) sc (S b) r=x) :
  exs o W (N+2) sc σ (.For t it body [] ps::r)=x:=by
 subst h0;have h:=l9 S P f g m xs a N 0 hN hP fun i a x n hx=>by rw [di];exact step i a x n hx
 rw [di] at h;exact (jB hi h.1).trans (fin _ rfl h.2)
end Mine
namespace Mine
theorem yH {o:cV}{n:Nat}{sc:Sc}{σ:SE}{k v:Expr}{p:Pos}{a:Int}{b:PV} (hk:ev o n sc σ k=some (.int a)) (hv:ev o n sc σ v=some b):ev o (n+1) sc σ (.Dict [some k] [v] p)=some (.dct [(a,b)]):=(i4 (a:=[PV.int a]) (b:=[b]) (i4 hk rfl) (i4 hv rfl)).trans rfl
end Mine
namespace Mine
theorem tS {o:cV}{W:List Str}{n:Nat}{sc:Sc}{σ aI:SE}{ts vs:List Expr}{c c':Nat}{q q' p:Pos}{xs:List Str}{ps:List PV} (hn:c8 ts=some xs) (hg:(ts.length=vs.length && AM xs && wu W xs vs && (vs.length == 2 || vs.length == 3) && !(vs.all (constantsAlone 8)))=true) (hv:dK (ev o n sc σ) vs=some ps) (hb:iT W sc xs ps σ=some aI) :
  ex o W (n+1) sc σ (.Assign [.Tuple ts c q] (.Tuple vs c' q') p)=some (.next,aI):=by
 have hg':=hg;have e:Ee W (ev o n sc σ) sc σ ts (.Tuple vs c' q')=some aI:=(dp hn).trans ((ll hg').trans ((dp hv).trans hb));exact congrArg (ca lg) e
end Mine
end
section
namespace Mine
noncomputable section
abbrev nm (x:Str) (v:PV):Str×(Bool×PV):=(x,(false,v))
abbrev ow (x:Str) (v:PV):Str×(Bool×PV):=(x,(true,v))
noncomputable def oE (t s:PV) (a:List (Int×Int)×Option (Int×Int)):SE:=
 [nm "target" t,nm "source" s,ow "new_callers" (bc a.1)]++(match a.2 with | none=>[] | some (k,v)=>[nm "func" (.int k),nm "caller" (.int v)])
noncomputable def iV (d:List (Int×Int)) (k v:Int):List (Int×Int):=match gI d k with
 | some a=>pI d k (a+v)
 | none=>pI d k v
noncomputable def ia (t s:List (Int×Int)):List (Int×Int):=s.foldl (fun d p=>iV d p.1 p.2) (t.foldl (fun d p=>pI d p.1 p.2) [])
theorem um (d:List (Int×Int)) (k v:Int):(pI d k v).length<=d.length+1:=by
 unfold pI;split<;>simp
theorem rA (d:List (Int×Int)) (k v:Int):(iV d k v).length<=d.length+1:=by
 unfold iV;split<;>exact um _ _ _
theorem ud (d:List (Int×Int)):(d.map fun p=>(p.1,PV.int p.2)).map (fun kv=>PV.tup [.int kv.1,kv.2])=d.map fun p=>PV.tup [.int p.1,.int p.2]:=by
 rw [ao];rfl
theorem lN {d:List (Int×Int)}{k v:Int} (h:d.length<=1048576):lY (bc d) (.int k) (.int v)=some (bc (pI d k v)):=by
 show (if (d.map fun p=>(p.1,PV.int p.2)).length<=1048576 then some (PV.dct (jc _ k (.int v))) else none)=_;rw [if_pos (by simpa using h),uH];rfl
theorem lH {α β:Type}{P:α->Nat->Prop}{f:α->β->α} (step:∀ a b k,P a k->P (f a b) (k+1)):∀ (l:List β) (a:α) (k:Nat),P a k->P (l.foldl f a) (k+l.length)
 | [],_,_,h=>h
 | b::l,a,k,h=>by
  have:=lH step l (f a b) (k+1) (step a b k h)
  rw [aD,a9,show k+(l.length+1)=k+1+l.length from by exact pn [_,_] 0x2DA1A180AA1810];exact this
theorem tF {f:List (Int×Int)->Int×Int->List (Int×Int)}:∀ (ps:List (Int×Int)) (a:List (Int×Int)×Option (Int×Int)),∃ l1,ps.foldl (fun (a:List (Int×Int)×Option (Int×Int)) p=>(f a.1 p,some p)) a=(ps.foldl f a.1,l1)
 | [],a=>⟨a.2,rfl⟩
 | p::ps,a=>tF ps (f a.1 p,some p)
theorem zn {t s:List (Int×Int)} (ht:t.length<=20) (hs:s.length<=20) :
  e5 o0 BC.W 120 BC.params BC.scope BC.body [bc t,bc s]=some (bc (ia t s)):=by
 refine dY (σ:=[nm "target" (bc t),nm "source" (bc s)]) (by kernel_rfl) (by kernel_rfl) (aI:=[]) ?_;show exs _ _ _ (c6 122).names _ (db 122)=_
 conv=>lhs;arg 6;whnf
 refine (aj (aI:=oE (bc t) (bc s) ([],none)) (by rfl)).trans ?_;have i1:(t.foldl (fun d p=>pI d p.1 p.2) []).length<=20:=by
  have:=lH (P:=fun (d:List (Int×Int)) k=>d.length<=k) (f:=fun d (p:Int×Int)=>pI d p.1 p.2) (fun d p k h=>aO (um d p.1 p.2) (by exact (pn [_,_] 0x0DA181A1800D10) h)) t [] 0 (aE _)
  exact (pn [_,_] 0x0D141910DA00810D14190) ht this
 refine xE (tF (f:=fun d p=>pI d p.1 p.2) t ([],none)) ?_;intro l1 hl1;refine xE (tF (f:=fun d p=>iV d p.1 p.2) s (t.foldl (fun d p=>pI d p.1 p.2) [],l1)) ?_;intro l2 hl2;refine (jB (items:=t.map fun p=>.tup [.int p.1,.int p.2]) (aI:=oE (bc t) (bc s) (t.foldl (fun d p=>pI d p.1 p.2) [],l1)) ?_ ?_).trans ?_
 ·refine Eq.trans (b:=if (t.map fun p=>(p.1,PV.int p.2)).length<=1048576 then some ((t.map fun p=>(p.1,PV.int p.2)).map (fun kv=>PV.tup [.int kv.1,kv.2])) else none) (by rfl) ?_
  rw [if_pos (by rw [aa];exact (pn [_] 0x0D1000003900D14190) ht),ud]
 ·rw [<- hl1]
  refine lu (oE (bc t) (bc s)) (fun i a=>a.1.length<=i) (fun a p=>(pI a.1 p.1 p.2,some p)) _ 30 t ([],none) _ 0 ?_ ?_ ?_
  ·exact (pn [_] 0x0D7519A18A01E190D14190) ht
  ·simp
  ·intro i a x n hi ha hx
   refine ⟨aO (um _ _ _) (by exact (pn [_,_] 0x0DA181A1800D10) ha),oE (bc t) (bc s) (a.1,some x),?_,?_⟩
   ·obtain ⟨a,l⟩:=a
    cases l<;>kernel_rfl
   ·refine (aj (aI:=oE (bc t) (bc s) (pI a.1 x.1 x.2,some x)) ?_).trans (by rfl)
    exact (fP (c:=bc a.1) (k:=.int x.1) (u:=.int x.2) (by rfl) (by rfl) (by rfl) (by rfl) (lN (by exact (pn [_,_,_] 0x0D1000003920D121DA00810D14190) ht hi ha))).trans (by rfl)
 refine (jB (items:=s.map fun p=>.tup [.int p.1,.int p.2]) (aI:=oE (bc t) (bc s) (ia t s,l2)) ?_ ?_).trans ?_
 ·refine Eq.trans (b:=if (s.map fun p=>(p.1,PV.int p.2)).length<=1048576 then some ((s.map fun p=>(p.1,PV.int p.2)).map (fun kv=>PV.tup [.int kv.1,kv.2])) else none) (by cases l1<;>kernel_rfl) ?_
  rw [if_pos (by rw [aa];exact (pn [_] 0x0D1000003900D14190) hs),ud]
 ·refine Eq.trans ?_ (congrArg (fun a=>some (Fl.next,oE (bc t) (bc s) a)) hl2)
  refine lu (oE (bc t) (bc s)) (fun i a=>a.1.length<=i+20) (fun a p=>(iV a.1 p.1 p.2,some p)) _ 30 s _ _ 0 ?_ ?_ ?_
  ·exact (pn [_] 0x0D7419A18A01E190D14190) hs
  ·dsimp only;exact (pn [_] 0x0DA14190800D14190) i1
  ·intro i a x n hi ha hx
   refine ⟨aO (rA _ _ _) (by exact (pn [_,_] 0x0DA1419A181A1800DA141910) ha),oE (bc t) (bc s) (a.1,some x),?_,?_⟩
   ·obtain ⟨a,l⟩:=a
    cases l<;>kernel_rfl
   ·refine (aj (aI:=oE (bc t) (bc s) (iV a.1 x.1 x.2,some x)) ?_).trans (by rfl)
    refine cn (c:=(ej (a.1.map fun p=>(p.1,PV.int p.2)) x.1).isSome) (by rfl) (fun hc=>?_) (fun hc=>?_)
    ·rw [d2,bC] at hc
     refine xE (aS.mp hc) ?_;intro v hv;refine (aj (aI:=oE (bc t) (bc s) (iV a.1 x.1 x.2,some x)) ?_).trans (by rfl);refine cn (c:=false) (by kernel_rfl) (fun hc=>nomatch hc) (fun J=>?_);refine (aj (aI:=oE (bc t) (bc s) (iV a.1 x.1 x.2,some x)) ?_).trans (by rfl);refine (rP (c:=bc a.1) (k:=.int x.1) (a:=v) (b:=x.2) (by rfl) (by rfl) (by rfl) ?_ (by rfl) (lN (by exact (pn [_,_,_] 0x0D1000003920DA1419121DA00810D14190) hs hi ha))).trans ?_
     ·show ej _ _=_
      rw [d2,hv];rfl
     ·unfold iV;rw [hv];rfl
    ·rw [d2,bC] at hc
     have hv:gI a.1 x.1=none:=by simpa using hc
     refine (aj (aI:=oE (bc t) (bc s) (iV a.1 x.1 x.2,some x)) ?_).trans (by rfl);refine (fP (c:=bc a.1) (k:=.int x.1) (u:=.int x.2) (by rfl) (by rfl) (by rfl) (by rfl) (lN (by exact (pn [_,_,_] 0x0D1000003920DA1419121DA00810D14190) hs hi ha))).trans ?_;unfold iV;rw [hv];rfl
 ·cases l2<;>exact bD (by kernel_rfl)
noncomputable def bY (t:List (Int×Int)):Int:=(t.map (·.2)).sum
theorem s8 {t:List (Int×Int)} (ht:t.length<=60):e5 o0 qA.W 120 qA.params qA.scope qA.body [bc t]=some (.int (bY t)):=by
 refine dY (σ:=[nm "callers" (bc t)]) (by kernel_rfl) (by rfl) (aI:=[]) ?_;show exs _ _ _ (c6 129).names _ (db 129)=_
 conv=>lhs;arg 6;whnf
 have hl:∃ l:Option Int,t.foldl (fun (a:Int×Option Int) p=>(a.1+p.2,some p.2)) (0,none)=(bY t,l):=by
  suffices h:∀ (ps:List (Int×Int)) a,∃ l:Option Int,ps.foldl (fun (a:Int×Option Int) p=>(a.1+p.2,some p.2)) a=(a.1+bY ps,l) by
   refine xE (h t (0,none)) ?_;intro l h;exact ⟨l,by rw [h,ct]⟩
  intro ps
  induction ps with
  | nil=>exact fun a=>⟨a.2,by simp [bY]⟩
  | cons p ps ih=>intro a;refine xE (ih (a.1+p.2,some p.2)) ?_;intro l h;exact ⟨l,by rw [a9,h];simp [bY,Int.add_assoc]⟩
 refine xE hl ?_;clear hl;intro l hl
 let S:Int×Option Int->SE:=fun a=>[nm "callers" (bc t),nm "nc" (.int a.1)]++(match a.2 with | none=>[] | some v=>[nm "calls" (.int v)])
 refine (aj (aI:=S (0,none)) (by kernel_rfl)).trans ?_;refine (jB (items:=t.map fun p=>.int p.2) (aI:=S (bY t,l)) ?_ ?_).trans ?_
 ·refine Eq.trans (b:=if (t.map fun p=>(p.1,PV.int p.2)).length<=1048576 then some ((t.map fun p=>(p.1,PV.int p.2)).map (·.2)) else none) (by rfl) ?_
  rw [if_pos (by rw [aa];exact (pn [_] 0x0D1000003900D3C190) ht),ao];rfl
 ·rw [<- hl]
  refine lu S (fun i a=>True) (fun a p=>(a.1+p.2,some p.2)) _ 30 t (0,none) _ 0 ?_ trivial ?_
  ·exact (pn [_] 0x0D7519A18A01E190D3C190) ht
  intro i a x n hi ha hx;refine ⟨trivial,S (a.1,some x.2),?_,?_⟩
  ·obtain ⟨a,l⟩:=a
   cases l<;>kernel_rfl
  ·rfl
 ·cases l<;>exact bD (by kernel_rfl)
theorem vm (x:Int):e5 o0 we.W 120 we.params we.scope we.body [.int x]=some (.bool (decide (x < 256))):=by kernel_rfl
theorem yz (x:Int):e5 o0 CK.W 120 CK.params CK.scope CK.body [.int x]=some (.bool (decide (x ≥ 256))):=by kernel_rfl
theorem yQ (x:Int):e5 o0 Dg.W 120 Dg.params Dg.scope Dg.body [.int x]=some (.bool (x == 0)):=by kernel_rfl
end
end Mine
end
section
namespace Mine
noncomputable section
theorem wt {W:List Str}{sc:Sc}{x:Str}{v:PV}{σ:SE}{b:Bool} (h1:bh sc x=true) (h2:W.contains x=b) (h3:(!b || gw v)=true):iT W sc [x] [v] σ=some (SE.put σ x (b,v)):=by
 subst h2;exact if_pos (by rw [h1,h3];rfl)
abbrev WS:=List Nat×Nat×Nat×Nat
noncomputable def ee (count:List Nat) (b:Nat):List Nat:=
 let c:=if count.length<=b then count++be (b - count.length+1) 0 else count
 c.set b (c.getD b 0+1)
noncomputable def bE:List Nat->WS->WS
 | [],st=>st
 | ch::r,(count,b,n,nt)=>if ch=32 then bE r (count,b+1,n+1,nt) else if ch=9 then bE r (ee count b,0,n+1,nt+1) else (count,b,n,nt)
noncomputable def cT (l:List Nat):List PV:=l.map fun (c:Nat)=>.int (c:Int)
noncomputable def sf (s:Str):WS:=bE s.cps.toList ([],0,0,0)
noncomputable def eE (s:Str) (st:WS):List (Str×PV):=[("raw",.str s),("n",.int (st.2.2.1:Int)),("nt",.int (st.2.2.2:Int)),("norm",.tup [.tup (cT st.1),.int (st.2.1:Int)]),("is_simple",.bool (decide ((st.1.length:Int)<=1)))]
noncomputable def sG (s:Str):PV:=.obj "Whitespace" (eE s (sf s))
theorem pT (c d:Nat):((⟨#[c]⟩:Str) == ⟨#[d]⟩)=decide (c=d):=by
 by_cases h:c=d
 ·subst h;simp
 ·simp [h]
noncomputable def pH (s:Str) (st:WS) (ch:Option Str):SE:=
 [ow "self" (.obj "Whitespace" [("raw",.str s)]),nm "ws" (.str s),nm "S" (.str " "),nm "T" (.str "\t"),ow "count" (.lst (cT st.1)),nm "b" (.int (st.2.1:Int)),nm "n" (.int (st.2.2.1:Int)),nm "nt" (.int (st.2.2.2:Int))]++(match ch with | none=>[] | some c=>[nm "ch" (.str c)])
noncomputable def eU (c:Nat):Bool:=c == 32 || c == 9
abbrev He:Sc:=AD.init.scope.names.filter fun q=>q.1 != ("self":Str)
theorem kS {c:Nat}{l:List Nat} (h:eU c=true):((c::l).takeWhile eU).length=(l.takeWhile eU).length+1:=by
 rw [List.takeWhile_cons,if_pos h];rfl
theorem DP (s:Str) {t:Expr}{body:List Stmt}{it:Expr}{p:Pos} (hs:(AD.init.body[4]?:Option Stmt)=some (.For t it body [] p)):∀ (chars:List Nat) (count:List Nat) (b n nt:Nat) (ch:Option Str) (N:Nat),(chars.takeWhile eU).length+40<=N->count.length+(chars.takeWhile eU).length<=1000->b+(chars.takeWhile eU).length<=80 ->
  ∃ ch',exF o0 AD.init.W N He (pH s (count,b,n,nt) ch) t (chars.map fun c=>.str ⟨#[c]⟩) body=some (.next,pH s (bE chars (count,b,n,nt)) ch'):=by
 conv at hs=>lhs;whnf
 injection hs with hs
 injection hs with h1 h2 h3 h4 h5
 subst h1 h2 h3 h5;intro chars
 induction chars with
 | nil=>
  intro count b n nt ch N hN hc hb;refine xE (az (aO (cL 1 _) hN)) ?_;rintro k rfl;exact ⟨ch,p5⟩
 | cons c chars ih=>
  intro count b n nt ch N hN hc hb;refine xE (az (aO (cL 40 _) hN)) ?_;rintro k rfl;have hbind:∀ (t:Expr),t=t->True:=fun J J=>trivial;rw [aw];by_cases h32:c=32
  ·subst h32
   have e1:((32::chars).takeWhile eU).length=(chars.takeWhile eU).length+1:=kS rfl;rw [e1] at hN hc hb;refine xE (ih count (b+1) (n+1) nt (some ⟨#[32]⟩) (k+39) (by exact (pn [_,_] 0x0DA27191A281900DA28191A2819A180) hN) (by exact (pn [_,_] 0x0D03E829A100D03E829AA1810) hc) (by exact (pn [_,_] 0x0D5019A1A1800D5019AA1810) hb)) ?_;intro ch' e;refine ⟨ch',(gq (aI:=pH s (count,b,n,nt) (some ⟨#[32]⟩)) (jP:=pH s (count,b+1,n+1,nt) (some ⟨#[32]⟩)) (by cases ch<;>kernel_rfl) (by kernel_rfl)).trans ?_⟩;rw [e,bE,if_pos rfl]
  ·by_cases h9:c=9
   ·subst h9
    have e1:((9::chars).takeWhile eU).length=(chars.takeWhile eU).length+1:=kS rfl;rw [e1] at hN hc hb;obtain ⟨ch',e⟩:=ih (ee count b) 0 (n+1) (nt+1) (some ⟨#[9]⟩) (k+39) (by exact (pn [_,_] 0x0DA27191A281900DA28191A2819A180) hN) (by
     have:(ee count b).length<=max count.length (b+1):=by
      unfold ee;dsimp only;rw [List.length_set];split
      ·simp;exact (pn [_,_] 0x0D1CA1810AA18B0100D10) ‹_›
      ·exact (pn [_,_] 0x0D1CA181002F0D10) ‹_›
     exact (pn [_,_,_,_] 0x0D03E829A130D1CA182030D5019AA18120D03E829AA1810) hc hb this) (by exact (pn [_,_] 0x0D5019A1080D5019AA1810) hb)
    refine ⟨ch',(gq (aI:=pH s (count,b,n,nt) (some ⟨#[9]⟩)) (jP:=pH s (ee count b,0,n+1,nt+1) (some ⟨#[9]⟩)) (by cases ch<;>kernel_rfl) ?_).trans ?_⟩
    ·refine (aj (aI:=pH s (ee count b,0,n+1,nt+1) (some ⟨#[9]⟩)) ?_).trans (by rfl)
     refine cn (c:=false) (by kernel_rfl) (fun h=>nomatch h) fun J=>?_;refine (aj (aI:=pH s (ee count b,0,n+1,nt+1) (some ⟨#[9]⟩)) ?_).trans (by rfl);refine cn (c:=true) (by kernel_rfl) (fun J=>?_) (fun h=>nomatch h);refine (aj (aI:=pH s (count,b,n+1,nt) (some ⟨#[9]⟩)) (by kernel_rfl)).trans ?_;refine (aj (aI:=pH s (count,b,n+1,nt+1) (some ⟨#[9]⟩)) (by rfl)).trans ?_;have hlen:(cT count).length=count.length:=by unfold cT;rw [aa]
     let cc:=if count.length<=b then count++be (b - count.length+1) 0 else count
     have hcc:b < cc.length/\cc.length<=1048576:=by
      show b < (if count.length<=b then count++be (b - count.length+1) 0 else count).length/\(if count.length<=b then count++be (b - count.length+1) 0 else count).length<=_;split
      ·rw [ak,List.length_replicate];exact (pn [_,_,_] 0x0F0D10000039AA18B2021DAA18B20200D020D5019AA1810) hb ‹_›
      ·exact (pn [_,_,_] 0x0F0D1000003901D022F0D200D03E829AA1810) hc ‹_›
     refine (aj (aI:=pH s (cc,b,n+1,nt+1) (some ⟨#[9]⟩)) ?_).trans ?_
     ·refine cn (c:=decide ((b:Int) ≥ (count.length:Int))) ?_ (fun h=>?_) (fun h=>?_)
      ·refine br (da (a:=.int b) (b:=.int (count.length:Int)) (by rfl) (by rfl) ?_ rfl)
       refine b7 (v:=.lst (cT count)) (by rfl) (by rfl) ?_;show (if (cT count).length<=1048576 then some (PV.int ((cT count).length:Int)) else none)=_;rw [if_pos (by exact (pn [_,_,_] 0x0D1000003922D020D03E829AA1810) hc hlen),hlen]
      ·have h:count.length<=b:=by have:=of_decide_eq_true h;lia
       have e2:cc=count++be (b - count.length+1) 0:=if_pos h;refine (aj (aI:=pH s (cc,b,n+1,nt+1) (some ⟨#[9]⟩)) ?_).trans (by rfl);refine (bm (u:=.lst (cT cc)) (by rfl) ?_).trans ?_
       ·refine aW (a:=.lst (cT count)) (b:=.lst (be (b - count.length+1) (.int 0))) (by rfl) ?_ ?_
        ·refine aW (a:=.lst [.int 0]) (b:=.int ((b:Int) - (count.length:Int)+1)) (by rfl) ?_ ?_
         ·refine aW (a:=.int ((b:Int) - (count.length:Int))) (b:=.int 1) ?_ (by rfl) rfl
          show ev _ _ _ _ _=_;refine aW (a:=.int b) (b:=.int (count.length:Int)) (by rfl) ?_ rfl;refine b7 (v:=.lst (cT count)) (by kernel_rfl) (by rfl) ?_;show (if (cT count).length<=1048576 then some (PV.int ((cT count).length:Int)) else none)=_;rw [if_pos (by exact (pn [_,_,_] 0x0D1000003922D020D03E829AA1810) hc hlen),hlen]
         ·show (if (([PV.int 0].length=1 && decide (0<=(b:Int) - (count.length:Int)+1) && decide ((b:Int) - (count.length:Int)+1<=1048576))=true) then some (PV.lst ((be ((b:Int) - (count.length:Int)+1).toNat [PV.int 0]).flatten)) else none)=_
          rw [if_pos (by simp;lia)];rw [show ((b:Int) - (count.length:Int)+1).toNat=b - count.length+1 from by lia];simp
        ·show (if ((decide ((cT count).length<=1048576) && decide ((be (b - count.length+1) (PV.int 0)).length<=1048576))=true) then some (PV.lst (cT count++be (b - count.length+1) (.int 0))) else none)=_
         rw [if_pos (by simp [hlen];exact (pn [_,_,_] 0x0F0DA00FFFFF3920D1000003900D5019AA18120D03E829AA1810) hc hb),e2];unfold cT;rw [aN,List.map_replicate];rfl
       ·rw [wt (b:=true) (by kernel_rfl) (by rfl) (by rfl)];rfl
      ·have h:¬ count.length<=b:=by have:=of_decide_eq_false h;lia
       have e2:cc=count:=if_neg h;rw [e2];rfl
     ·have hl2:(cT cc).length=cc.length:=by unfold cT;rw [aa]
      have hget:(cT cc)[b]?=some (.int ((cc.getD b 0:Nat):Int)):=by
       unfold cT;rw [aK,av hcc.1,aq,av hcc.1];rfl
      have hplace:eG (b:Int) (cT cc).length=some b:=by
       unfold eG;rw [if_neg (by exact pn [_] 0x2F1E082C0),if_pos (by rw [hl2];exact (pn [_,_] 0x1E2C12C00F0D1000003911D10) hcc)];rfl
      refine (aj (aI:=pH s (ee count b,b,n+1,nt+1) (some ⟨#[9]⟩)) ?_).trans ?_
      ·refine (fP (c:=.lst (cT cc)) (k:=.int b) (u:=.int ((cc.getD b 0+1:Nat):Int)) (c':=.lst (cT (ee count b))) (by rfl) (by rfl) ?_ (by rfl) ?_).trans (by rfl)
       ·refine aW (a:=.int ((cc.getD b 0:Nat):Int)) (b:=.int 1) ?_ (by rfl) rfl
        refine Eq.trans (b:=item (.lst (cT cc)) (.int b)) (by kernel_rfl) ?_;show (if (cT cc).length<=1048576 then (eG b (cT cc).length).bind ((cT cc)[·]?) else none)=_;rw [if_pos (by exact (pn [_,_,_] 0x0D1000003922D120F0D1000003911D10) hcc hl2),hplace];exact hget
       ·show (if 0<=(b:Int) then (xX (cT cc) b _).map PV.lst else none)=_
        unfold xX;rw [if_pos (by exact pn [_] 0x0E2C008),if_pos (by exact (pn [_,_,_] 0x0D1000003922D120F0D1000003911D10) hcc hl2),hplace];show some (PV.lst ((cT cc).set b _))=_;unfold cT ee;rw [<- List.map_set]
      ·exact (aj (aI:=pH s (ee count b,0,n+1,nt+1) (some ⟨#[9]⟩)) (by rfl)).trans (by rfl)
    ·rw [e,bE,if_neg (by decide),if_pos rfl]
   ·refine ⟨some ⟨#[c]⟩,(Ed (aI:=pH s (count,b,n,nt) (some ⟨#[c]⟩)) (jP:=pH s (count,b,n,nt) (some ⟨#[c]⟩)) (by cases ch<;>kernel_rfl) ?_).trans ?_⟩
    ·refine tT ?_
     refine cn (c:=((⟨#[c]⟩:Str) == ⟨#[32]⟩)) (by rfl) (fun h=>?_) fun J=>?_
     ·rw [pT] at h;exact absurd (of_decide_eq_true h) h32
     ·refine tT ?_
      refine cn (c:=((⟨#[c]⟩:Str) == ⟨#[9]⟩)) (by rfl) (fun h=>?_) fun J=>?_
      ·rw [pT] at h;exact absurd (of_decide_eq_true h) h9
      ·exact tT (by rfl)
    ·rw [bE,if_neg h32,if_neg h9]
theorem ot:∀ (chars:List Nat) (st:WS),st.1.length+st.2.1+(chars.takeWhile eU).length<=200->(bE chars st).1.length<=400
 | [],(count,b,n,nt),h=>by dsimp only at h;unfold bE;dsimp only;exact (pn [_,_,_] 0x0D01902900DC819A2A10) h
 | c::chars,(count,b,n,nt),h=>by
  dsimp only at h;unfold bE;split
  ·subst_vars
   rw [kS rfl] at h;exact ot chars _ (by dsimp only;exact (pn [_,_,_] 0x0DC819A2AA18100DC819AA182A10) h)
  ·split
   ·subst_vars
    rw [kS rfl] at h;refine ot chars _ ?_
    have:(ee count b).length<=max count.length (b+1):=by
     unfold ee;dsimp only;rw [List.length_set];split
     ·simp;exact (pn [_,_] 0x0D1CA1810AA18B0100D10) ‹_›
     ·exact (pn [_,_] 0x0D1CA181002F0D10) ‹_›
    dsimp only;exact (pn [_,_,_,_] 0x0DC819A2A0830D1CA181030DC819AA182A10) h this
   ·dsimp only;exact (pn [_,_,_] 0x0D01902900DC819A2A10) h
theorem De {s:Str} (hs:s.length<=1000) (hb:(s.cps.toList.takeWhile eU).length<=60) :
  kQ o0 AD.init.W 120 AD.init.params AD.init.scope AD.init.body AD.init.name [.str s]=some (sG s):=by
 have hlen:(sf s).1.length<=400:=ot _ _ (by dsimp only [bB];exact (pn [_] 0x0DC819A0A08080D3C190) hb);obtain ⟨ch',hloop⟩:∃ ch',exF o0 AD.init.W 114 He (pH s ([],0,0,0) none) (match (AD.init.body[4]?:Option Stmt) with | some (.For t it body [] p)=>t | _=>default) (s.cps.toList.map fun c=>.str ⟨#[c]⟩) (match (AD.init.body[4]?:Option Stmt) with | some (.For t it body [] p)=>body | _=>default)=some (.next,pH s (sf s) ch'):=
  DP s (by rfl) _ _ _ _ _ _ _ (by exact (pn [_] 0x0D7219A281900D3C190) hb) (by dsimp only [bB];exact (pn [_] 0x0D03E829A0080D3C190) hb) (by exact (pn [_] 0x0D5019A0080D3C190) hb)
 generalize sf s=st at hlen hloop;have hl:(cT st.1).length=st.1.length:=by unfold cT;rw [aa]
 refine xL (c:="Whitespace") (self:="self") (ps:=["ws"]) (by kernel_rfl) ?_ ?_ (aI:=SE.put (pH s st ch') "self" (true,.obj "Whitespace" (eE s st)))
 ·show exs _ _ _ _ _ (db 38)=_
  conv=>lhs;arg 6;whnf
  refine (aj (aI:=[ow "self" (.obj "Whitespace" [("raw",.str s)]),nm "ws" (.str s)]) (by rfl)).trans ?_;refine (aj (aI:=[ow "self" (.obj "Whitespace" [("raw",.str s)]),nm "ws" (.str s),nm "S" (.str " "),nm "T" (.str "\t")]) (by rfl)).trans ?_;refine (aj (aI:=[ow "self" (.obj "Whitespace" [("raw",.str s)]),nm "ws" (.str s),nm "S" (.str " "),nm "T" (.str "\t"),ow "count" (.lst [])]) (by rfl)).trans ?_;refine (aj (aI:=pH s ([],0,0,0) none) (by rfl)).trans ?_;refine (jB (items:=s.cps.toList.map fun c=>.str ⟨#[c]⟩) (aI:=pH s st ch') ?_ hloop).trans ?_
  ·refine Eq.trans (b:=if s.length<=1048576 then some (s.cps.toList.map fun c=>.str ⟨#[c]⟩) else none) (by rfl) (if_pos (by exact (pn [_] 0x0D1000003900D03E8290) hs))
  refine (aj (aI:=SE.put (pH s st ch') "self" (true,.obj "Whitespace" ((eE s st).take 2))) (by cases ch'<;>kernel_rfl)).trans ?_;refine (aj (aI:=SE.put (pH s st ch') "self" (true,.obj "Whitespace" ((eE s st).take 3))) (by cases ch'<;>kernel_rfl)).trans ?_;refine (aj (aI:=SE.put (pH s st ch') "self" (true,.obj "Whitespace" ((eE s st).take 4))) ?_).trans ?_
  ·refine (qU (c:="Whitespace") (fs:=(eE s st).take 3) (u:=.tup [.tup (cT st.1),.int (st.2.1:Int)]) (by cases ch'<;>kernel_rfl) (by kernel_rfl) ?_).trans (by cases ch'<;>kernel_rfl)
   refine j3 (ay ?_ (ay (by cases ch'<;>kernel_rfl) a8)) (by simp);refine b7 (v:=.lst (cT st.1)) (by cases ch'<;>kernel_rfl) (by cases ch'<;>kernel_rfl) ?_;show (if (cT st.1).length<=1048576 then some (PV.tup (cT st.1)) else none)=_;rw [if_pos (by exact (pn [_,_] 0x0D1000003912D010D0190290) hlen hl)]
  refine (aj (aI:=SE.put (pH s st ch') "self" (true,.obj "Whitespace" (eE s st))) ?_).trans (by rfl)
  ·refine (qU (c:="Whitespace") (fs:=(eE s st).take 4) (u:=.bool (decide ((st.1.length:Int)<=1))) (by cases ch'<;>kernel_rfl) (by kernel_rfl) ?_).trans (by cases ch'<;>kernel_rfl)
   refine da (a:=.int (st.1.length:Int)) (b:=.int 1) ?_ (by rfl) (by rfl) rfl;refine b7 (v:=.lst (cT st.1)) (by cases ch'<;>kernel_rfl) (by cases ch'<;>kernel_rfl) ?_;show (if (cT st.1).length<=1048576 then some (PV.int ((cT st.1).length:Int)) else none)=_;rw [if_pos (by exact (pn [_,_] 0x0D1000003912D010D0190290) hlen hl),hl]
 ·cases ch'<;>kernel_rfl
end
end Mine
end
section
namespace Mine
noncomputable section
noncomputable def jg (s:Str) (st:WS):PV:=.obj "Whitespace" (eE s st)
noncomputable def dR (st:WS):Nat:=max (st.1.length - 1) st.2.1
noncomputable def r9 (count:List Nat) (ts:Nat):Nat:=(ax (count.length - ts)).foldl (fun il x=>il+(ts+x) / ts * count.getD (ts+x) 0) 0
noncomputable def eY (st:WS) (ts:Nat):Nat:=st.2.1+ts * (r9 st.1 ts+st.2.2.2)
theorem wD (l:List Nat):(cT l).length=l.length:=by unfold cT;rw [aa]
theorem Dh {s:Str}{st:WS} (h:st.1.length<=400):e5 o0 v5.fn.W 120 v5.fn.params v5.fn.scope v5.fn.body [jg s st]=some (.int (dR st:Int)):=by
 have hl:=wD st.1;refine dY (σ:=[nm "self" (jg s st)]) (by kernel_rfl) (by kernel_rfl) (aI:=[]) ?_;show exs _ _ _ (c6 45).names _ (db 45)=_
 conv=>lhs;arg 6;whnf
 refine (aj (aI:=[nm "self" (jg s st),nm "count" (.tup (cT st.1)),nm "trailing" (.int (st.2.1:Int))]) (by kernel_rfl)).trans ?_;refine bD (l5 (wf (vs:=[.int ((st.1.length:Int) - 1),.int (st.2.1:Int)]) (by kernel_rfl) ?_ ?_))
 ·refine ay ?_ (ay (by rfl) a8)
  refine aW (a:=.int (st.1.length:Int)) (b:=.int 1) ?_ (by rfl) rfl;show ev _ _ _ _ _=_;refine b7 (v:=.tup (cT st.1)) (by kernel_rfl) (by rfl) ?_;show (if (cT st.1).length<=1048576 then some (PV.int ((cT st.1).length:Int)) else none)=_;rw [if_pos (by exact (pn [_,_] 0x0D1000003912D010D0190290) h hl),hl]
 ·show some (PV.int (if (st.2.1:Int) > (st.1.length:Int) - 1 then (st.2.1:Int) else (st.1.length:Int) - 1))=_
  congr 2;unfold dR;split<;>lia
theorem wn (a b:Nat):Int.fdiv (a:Int) (b:Int)=((a / b:Nat):Int):=(Int.ofNat_fdiv a b).symm
theorem zD {s:Str}{st:WS}{ts:Nat} (h:st.1.length<=60) (h1:1<=ts) (h2:ts<=400):e5 o0 qL.fn.W 120 qL.fn.params qL.fn.scope qL.fn.body [jg s st,.int (ts:Int)]=some (.int (eY st ts:Int)):=by
 have hl:=wD st.1;refine dY (σ:=[nm "self" (jg s st),nm "tabsize" (.int (ts:Int))]) (by kernel_rfl) (by kernel_rfl) (aI:=[]) ?_;show exs _ _ _ (c6 52).names _ (db 52)=_
 conv=>lhs;arg 6;whnf
 let S:Nat×Option Nat->SE:=fun a=>[nm "self" (jg s st),nm "tabsize" (.int (ts:Int)),nm "count" (.tup (cT st.1)),nm "trailing" (.int (st.2.1:Int)),nm "il" (.int (a.1:Int))]++(match a.2 with | none=>[] | some i=>[nm "i" (.int ((ts:Int)+(i:Int)))])
 refine (aj (aI:=[nm "self" (jg s st),nm "tabsize" (.int (ts:Int)),nm "count" (.tup (cT st.1)),nm "trailing" (.int (st.2.1:Int))]) (by kernel_rfl)).trans ?_;refine (aj (aI:=S (0,none)) (by kernel_rfl)).trans ?_;have hf:∃ l:Option Nat,(ax (st.1.length - ts)).foldl (fun (a:Nat×Option Nat) x=>(a.1+(ts+x) / ts * st.1.getD (ts+x) 0,some x)) (0,none)=(r9 st.1 ts,l):=by
  unfold r9;generalize ax (st.1.length - ts)=xs
  suffices hh:∀ (xs:List Nat) (a:Nat×Option Nat),∃ l:Option Nat,xs.foldl (fun (a:Nat×Option Nat) x=>(a.1+(ts+x) / ts * st.1.getD (ts+x) 0,some x)) a=(xs.foldl (fun il x=>il+(ts+x) / ts * st.1.getD (ts+x) 0) a.1,l) from hh xs (0,none)
  intro xs
  induction xs with
  | nil=>exact fun a=>⟨a.2,rfl⟩
  | cons x xs ih=>exact fun a=>ih _
 refine xE hf ?_;clear hf;intro l hf;refine (jB (items:=(ax (st.1.length - ts)).map fun (x:Nat)=>.int ((ts:Int)+(x:Int))) (aI:=S (r9 st.1 ts,l)) ?_ ?_).trans ?_
 ·refine (rM (i:=(ts:Int)) (j:=(st.1.length:Int)) (by rfl) (by rfl) ?_ ?_).trans ?_
  ·refine b7 (v:=.tup (cT st.1)) (by rfl) (by rfl) ?_
   show (if (cT st.1).length<=1048576 then some (PV.int ((cT st.1).length:Int)) else none)=_;rw [if_pos (by exact (pn [_,_] 0x0D1000003912D010D3C190) h hl),hl]
  ·unfold fQ;simp;exact (pn [_,_] 0x0F0E100000392C00E100000392C10D01902910D3C190) h h2
  ·unfold gJ
   rw [show ((st.1.length:Int) - (ts:Int)).toNat=st.1.length - ts from by exact pn [_,_] 0x2DB102CB2C12C0]
 ·rw [<- hf]
  refine lu S (fun J J=>True) (fun (a:Nat×Option Nat) x=>(a.1+(ts+x) / ts * st.1.getD (ts+x) 0,some x)) _ 30 _ (0,none) _ 0 ?_ trivial ?_
  ·rw [bf];exact (pn [_,_] 0x0D7419A18AB101E190D1180D3C190) h h1
  intro i a x n hi _ hx;have hx:x < st.1.length - ts:=dT.mp hx;refine ⟨trivial,S (a.1,some x),?_,?_⟩
  ·obtain ⟨a,l⟩:=a
   cases l<;>kernel_rfl
  ·refine (aj (aI:=S (a.1+(ts+x) / ts * st.1.getD (ts+x) 0,some x)) ?_).trans (by rfl)
   refine (bm (u:=.int ((a.1+(ts+x) / ts * st.1.getD (ts+x) 0:Nat):Int)) (by rfl) ?_).trans (by rw [wt (b:=false) (by rfl) (by rfl) (by rfl)];rfl);refine aW (a:=.int (a.1:Int)) (b:=.int (((ts+x) / ts * st.1.getD (ts+x) 0:Nat):Int)) (by rfl) ?_ rfl;refine aW (a:=.int (((ts+x) / ts:Nat):Int)) (b:=.int ((st.1.getD (ts+x) 0:Nat):Int)) ?_ ?_ ?_
   ·show ev _ _ _ _ _=_
    refine aW (a:=.int ((ts:Int)+(x:Int))) (b:=.int (ts:Int)) (by rfl) (by rfl) ?_;show (if (small (ts:Int) && (ts:Int) != 0)=true then some (PV.int (Int.fdiv ((ts:Int)+(x:Int)) (ts:Int))) else none)=_;rw [if_pos (by unfold small;simp;exact (pn [_,_,_] 0x0F2F2D0811D0100000000000000009911DB1020D1180D3C190) h h1 hx),show (ts:Int)+(x:Int)=((ts+x:Nat):Int) from by exact pn [_,_] 0x2E2CA10A2C12C0,wn]
   ·refine Eq.trans (b:=item (.tup (cT st.1)) (.int ((ts:Int)+(x:Int)))) (by kernel_rfl) ?_
    show (if (cT st.1).length<=1048576 then (eG _ (cT st.1).length).bind ((cT st.1)[·]?) else none)=_;rw [if_pos (by exact (pn [_,_] 0x0D1000003912D010D3C190) h hl)];have hp:eG ((ts:Int)+(x:Int)) (cT st.1).length=some (ts+x):=by
     unfold eG;rw [if_neg (by exact (pn [_,_] 0x2F1E08A2C12C00D018) h1),if_pos (by rw [hl];exact (pn [_,_,_] 0x1E2C1A2C02C21DB210) hx)];rfl
    rw [hp];show (cT st.1)[ts+x]?=_;unfold cT;rw [aK,av (by exact (pn [_,_,_] 0x1D1A021DB210) hx),aq,av (by exact (pn [_,_,_] 0x1D1A021DB210) hx)];rfl
   ·show (if (small (((ts+x) / ts:Nat):Int) || small _)=true then some (PV.int ((((ts+x) / ts:Nat):Int) * ((st.1.getD (ts+x) 0:Nat):Int))) else none)=_
    have hd:(ts+x) / ts<=ts+x:=Nat.div_le_self _ _;have hd:small (((ts+x) / ts:Nat):Int)=true:=decide_eq_true (by rw [Int.natAbs_natCast];exact (pn [_,_,_,_] 0x1D0100000000000000009930DA1231DB2010D3C190) h hx hd);rw [if_pos (by rw [hd];rfl)];rfl
 ·have e:jW .Mult (.int (ts:Int)) (.int ((r9 st.1 ts:Int)+(st.2.2.2:Int)))=some (.int ((ts * (r9 st.1 ts+st.2.2.2):Nat):Int)):=by
   show (if (small (ts:Int) || small _)=true then some (PV.int ((ts:Int) * ((r9 st.1 ts:Int)+(st.2.2.2:Int)))) else none)=_;rw [if_pos (by unfold small;simp;exact (pn [_,_] 0x1F1D0100000000000000009911D0100000000000000009900D0190290) h2)];rfl
  refine bD (l5 (u:=.int (eY st ts:Int)) ?_);refine aW (a:=.int (st.2.1:Int)) (b:=.int ((ts * (r9 st.1 ts+st.2.2.2):Nat):Int)) (by cases l<;>kernel_rfl) ?_ rfl;exact aW (a:=.int (ts:Int)) (b:=.int ((r9 st.1 ts:Int)+(st.2.2.2:Int))) (by cases l<;>kernel_rfl) (by cases l<;>kernel_rfl) e
noncomputable def eT (st:WS):Bool:=decide ((st.1.length:Int)<=1)
noncomputable def gD (a b:WS):Bool:=if b.2.2.1<=a.2.2.1 then false else if eT a && eT b then decide (a.2.2.2<=b.2.2.2) else (ax (max (dR a) (dR b))).all fun i=>decide (eY a (2+i) < eY b (2+i))
theorem uS (s:Str) (st:WS) (h:st.1.length<=400):o1.mth "Whitespace" "longest_run_of_spaces" [jg s st]=some (.int (dR st:Int)):=(Dh (s:=s) h)
theorem l8 (s:Str) (st:WS) (ts:Nat) (h:st.1.length<=60) (h1:1<=ts) (h2:ts<=400):o1.mth "Whitespace" "indent_level" [jg s st,.int (ts:Int)]=some (.int (eY st ts:Int)):=zD (s:=s) h h1 h2
theorem uV {s s':Str}{a b:WS} (ha:a.1.length<=20) (hb:b.1.length<=20) (ha':a.2.1<=20) (hb':b.2.1<=20):e5 o1 vr.fn.W 100 vr.fn.params vr.fn.scope vr.fn.body [jg s a,jg s' b]=some (.bool (gD a b)):=by
 refine dY (σ:=[nm "self" (jg s a),nm "other" (jg s' b)]) (by kernel_rfl) (by kernel_rfl) (aI:=[]) ?_;show exs _ _ _ (c6 73).names _ (db 73)=_
 conv=>lhs;arg 6;whnf
 have c1:∀ n:Nat,True:=fun J=>trivial;by_cases h1:b.2.2.1<=a.2.2.1
 ·refine bD ?_
  refine cn (c:=decide ((a.2.2.1:Int) ≥ (b.2.2.1:Int))) (by kernel_rfl) (fun J=>?_) (fun h=>absurd (of_decide_eq_false h) (by exact (pn [_,_] 0x2F2F0E2C12C00D10) h1));unfold gD;rw [if_pos h1];exact bD (by rfl)
 refine (aj (aI:=[nm "self" (jg s a),nm "other" (jg s' b)]) ?_).trans ?_
 ·exact cn (c:=decide ((a.2.2.1:Int) ≥ (b.2.2.1:Int))) (by kernel_rfl) (fun h=>absurd (of_decide_eq_true h) (by exact (pn [_,_] 0x2F0E2C12C02F0D10) h1)) (fun h=>by rfl)
 by_cases h2:(eT a && eT b)=true
 ·refine bD ?_
  refine cn (c:=eT a && eT b) ?_ (fun J=>?_) (fun h=>absurd (h.symm.trans h2) (by decide))
  ·exact hX (de (b:=eT a) (by kernel_rfl) fun J=>bj (b:=eT b) (by kernel_rfl))
  ·unfold gD;rw [if_neg h1,if_pos h2]
   refine bD (l5 (da (a:=.int (a.2.2.2:Int)) (b:=.int (b.2.2.2:Int)) (by rfl) (by rfl) (by rfl) ?_));show some (decide ((a.2.2.2:Int)<=(b.2.2.2:Int)))=_;congr 1;exact decide_eq_decide.mpr (by exact ⟨pn [_,_] 0x0D100E2C12C0,pn [_,_] 0x0E2C12C00D10⟩)
 refine (aj (aI:=[nm "self" (jg s a),nm "other" (jg s' b)]) ?_).trans ?_
 ·refine cn (c:=eT a && eT b) ?_ (fun h=>absurd h h2) (fun h=>by rfl)
  exact hX (de (b:=eT a) (by rfl) fun J=>bj (b:=eT b) (by rfl))
 let S:Option Nat->SE:=fun l=>[nm "self" (jg s a),nm "other" (jg s' b),nm "n" (.int (max (dR a) (dR b)+1:Nat))]++(match l with | none=>[] | some i=>[nm "ts" (.int ((2:Int)+(i:Int)))])
 refine (aj (aI:=S none) ?_).trans ?_
 ·refine (bm (u:=.int (max (dR a) (dR b)+1:Nat)) (by rfl) ?_).trans (by rfl)
  refine aW (a:=.int (max (dR a) (dR b):Nat)) (b:=.int 1) ?_ (by rfl) rfl;show ev _ _ _ _ _=_;refine wf (vs:=[.int (dR a),.int (dR b)]) (by rfl) ?_ ?_
  ·refine ay ?_ (ay ?_ a8)
   ·exact jO (by rfl) (by rfl) a8 (by rfl) (uS s a (by exact (pn [_] 0x0D01902900D14190) ha))
   ·exact jO (by rfl) (by rfl) a8 (by rfl) (uS s' b (by exact (pn [_] 0x0D01902900D14190) hb))
  ·show some (PV.int (if (dR b:Int) > (dR a:Int) then (dR b:Int) else (dR a:Int)))=_
   congr 2;split<;>lia
 have hr:max (dR a) (dR b)<=20:=by unfold dR;exact (pn [_,_,_,_] 0x0D14191C1C3B1811C2B1800D141930D141920D141910D14190) ha hb ha' hb'
 unfold gD;rw [if_neg h1,if_neg h2];refine (DQ (v:=.bool false) S (fun i=>decide (eY a (2+i) < eY b (2+i))) (fun (x:Nat)=>.int ((2:Int)+(x:Int))) 30 (ax (max (dR a) (dR b))) rfl ?_ ?_ ?_).trans ?_
 ·refine (rM (i:=2) (j:=((max (dR a) (dR b)+1:Nat):Int)+1) (by kernel_rfl) (by rfl) (by rfl) ?_).trans ?_
  ·unfold fQ;simp;exact (pn [_,_] 0x0F0E10000039A18A182C1C100EA18A182C1C103C100000390D14191C10) hr
  ·unfold gJ
   rw [show (((max (dR a) (dR b)+1:Nat):Int)+1 - 2).toNat=max (dR a) (dR b) from by exact pn [_,_] 0x2D1C102CB28A182CA181C10]
 ·rw [bf];exact (pn [_,_] 0x0D5F19A18A1C101E190D14191C10) hr
 ·intro l x n hx
  have hx:x < max (dR a) (dR b):=dT.mp hx;refine ⟨S (some x),by cases l<;>kernel_rfl,?_⟩;by_cases hp:eY a (2+x) < eY b (2+x)
  ·rw [if_pos (decide_eq_true hp)]
   refine (aj (aI:=S (some x)) ?_).trans (by rfl);refine cn (c:=decide ((eY a (2+x):Int) ≥ (eY b (2+x):Int))) ?_ (fun h=>absurd (of_decide_eq_true h) (by exact (pn [_,_] 0x2F0E2C02C11D10) hp)) fun J=>(by rfl);refine br (da (a:=.int (eY a (2+x):Int)) (b:=.int (eY b (2+x):Int)) ?_ (by rfl) ?_ rfl)
   ·exact jO (by rfl) (by rfl) (ay (by rfl) a8) (by rfl) (l8 s a (2+x) (by exact (pn [_] 0x0D3C1900D14190) ha) (by exact pn [_] 0x0DA02818) (by exact (pn [_,_,_] 0x0D019029A2281D1C1020D14191C10) hr hx))
   ·exact jO (by rfl) (by rfl) (ay (by rfl) a8) (by rfl) (l8 s' b (2+x) (by exact (pn [_] 0x0D3C1900D14190) hb) (by exact pn [_] 0x0DA02818) (by exact (pn [_,_,_] 0x0D019029A2281D1C1020D14191C10) hr hx))
  ·rw [if_neg (by simpa using hp)]
   refine bD ?_;refine cn (c:=decide ((eY a (2+x):Int) ≥ (eY b (2+x):Int))) ?_ (fun J=>bD (by rfl)) (fun h=>absurd (of_decide_eq_false h) (by exact (pn [_,_] 0x2F2F0E2C02C12F1D10) hp));refine br (da (a:=.int (eY a (2+x):Int)) (b:=.int (eY b (2+x):Int)) ?_ (by rfl) ?_ rfl)
   ·exact jO (by rfl) (by rfl) (ay (by rfl) a8) (by rfl) (l8 s a (2+x) (by exact (pn [_] 0x0D3C1900D14190) ha) (by exact pn [_] 0x0DA02818) (by exact (pn [_,_,_] 0x0D019029A2281D1C1020D14191C10) hr hx))
   ·exact jO (by rfl) (by rfl) (ay (by rfl) a8) (by rfl) (l8 s' b (2+x) (by exact (pn [_] 0x0D3C1900D14190) hb) (by exact pn [_] 0x0DA02818) (by exact (pn [_,_,_] 0x0D019029A2281D1C1020D14191C10) hr hx))
 by_cases hp:((ax (max (dR a) (dR b))).all fun i=>decide (eY a (2+i) < eY b (2+i)))=true
 ·rw [if_pos hp,hp]
  generalize (ax (max (dR a) (dR b))).foldl (fun J x=>some x) none=l
  cases l<;>exact bD (by kernel_rfl)
 ·rw [if_neg hp,Bool.not_eq_true _ |>.mp hp]
end
end Mine
end
section
namespace Mine
noncomputable section
noncomputable def oe (d0 d1:Int):PV:=.obj "TupleComp" [("comp_select_list",.lst [.tup [.int 0,.int d0],.tup [.int 1,.int d1]])]
noncomputable def qY (d0 d1 a b c d:Int):Int:=if a < c then -d0 else if a > c then d0 else if b < d then -d1 else if b > d then d1 else 0
theorem Gc (d0 d1:Int):kQ o0 GZ.init.W 120 GZ.init.params GZ.init.scope GZ.init.body GZ.init.name [.lst [.tup [.int 0,.int d0],.tup [.int 1,.int d1]]]=some (oe d0 d1):=by kernel_rfl
theorem DU (d0 d1 a b c d:Int):e5 o0 sR.fn.W 120 sR.fn.params sR.fn.scope sR.fn.body [oe d0 d1,.tup [.int a,.int b],.tup [.int c,.int d]]=some (.int (qY d0 d1 a b c d)):=by
 let GR:SE:=[nm "self" (oe d0 d1),nm "left" (.tup [.int a,.int b]),nm "right" (.tup [.int c,.int d])]
 refine dY (σ:=GR) (by kernel_rfl) (by kernel_rfl) (aI:=[]) ?_;show exs _ _ _ (c6 108).names _ (db 108)=_
 conv=>lhs;arg 6;whnf
 have hi:∀ (l r:Int),True:=fun J J=>trivial;have go:∀ {n:Nat}{s1 s2:Stmt}{σ:SE}{v:PV}{s3 s4:List Stmt},True:=trivial;unfold qY
 let AH:SE:=GR++[nm "index" (.int 0),nm "direction" (.int d0)]
 let DM:SE:=AH++[nm "l" (.int a),nm "r" (.int c)]
 let I3:SE:=GR++[nm "index" (.int 1),nm "direction" (.int d1),nm "l" (.int a),nm "r" (.int c)]
 let FC:SE:=GR++[nm "index" (.int 1),nm "direction" (.int d1),nm "l" (.int b),nm "r" (.int d)]
 by_cases h1:a < c
 ·rw [if_pos h1]
  refine bD ((jJ (items:=[.tup [.int 0,.int d0],.tup [.int 1,.int d1]]) (by kernel_rfl)).trans (og (aI:=AH) (by kernel_rfl) ?_));refine (aj (aI:=AH++[nm "l" (.int a)]) (by kernel_rfl)).trans ((aj (aI:=DM) (by kernel_rfl)).trans (bD ?_));exact cn (c:=decide (a < c)) (by kernel_rfl) (fun J=>bD (by kernel_rfl)) (fun h=>absurd h1 (of_decide_eq_false h))
 rw [if_neg h1];by_cases h2:a > c
 ·rw [if_pos h2]
  refine bD ((jJ (items:=[.tup [.int 0,.int d0],.tup [.int 1,.int d1]]) (by kernel_rfl)).trans (og (aI:=AH) (by kernel_rfl) ?_));refine (aj (aI:=AH++[nm "l" (.int a)]) (by kernel_rfl)).trans ((aj (aI:=DM) (by kernel_rfl)).trans ((aj (aI:=DM) ?_).trans (bD ?_)))
  ·exact cn (c:=decide (a < c)) (by kernel_rfl) (fun h=>absurd (of_decide_eq_true h) h1) (fun J=>by rfl)
  ·exact cn (c:=decide (a > c)) (by kernel_rfl) (fun J=>bD (by kernel_rfl)) (fun h=>absurd h2 (of_decide_eq_false h))
 rw [if_neg h2];have first:∀ {n:Nat}{body:List Stmt}{p:Pos}{t it:Expr},((db 108)[0]?:Option Stmt)=some (.For t it body [] p)->exs o0 sR.fn.W (n+30) (c6 108).names AH body=some (.next,DM):=by
  intro n body p t it hs;conv at hs=>lhs;whnf
  injection hs with hs
  injection hs with h1 h2 h3 h4 h5
  subst h3;refine (aj (aI:=AH++[nm "l" (.int a)]) (by kernel_rfl)).trans ((aj (aI:=DM) (by kernel_rfl)).trans ((aj (aI:=DM) ?_).trans ((aj (aI:=DM) ?_).trans (by rfl))))
  ·exact cn (c:=decide (a < c)) (by kernel_rfl) (fun h=>absurd (of_decide_eq_true h) ‹¬ a < c›) (fun J=>by rfl)
  ·exact cn (c:=decide (a > c)) (by kernel_rfl) (fun h=>absurd (of_decide_eq_true h) ‹¬ a > c›) (fun J=>by rfl)
 by_cases h3:b < d
 ·rw [if_pos h3]
  refine bD ((jJ (items:=[.tup [.int 0,.int d0],.tup [.int 1,.int d1]]) (by kernel_rfl)).trans ((gq (aI:=AH) (jP:=DM) (by kernel_rfl) (first (by rfl))).trans (og (aI:=I3) (by kernel_rfl) ?_)));refine (aj (aI:=GR++[nm "index" (.int 1),nm "direction" (.int d1),nm "l" (.int b),nm "r" (.int c)]) (by kernel_rfl)).trans ((aj (aI:=FC) (by kernel_rfl)).trans (bD ?_));exact cn (c:=decide (b < d)) (by kernel_rfl) (fun J=>bD (by kernel_rfl)) (fun h=>absurd h3 (of_decide_eq_false h))
 rw [if_neg h3];by_cases h4:b > d
 ·rw [if_pos h4]
  refine bD ((jJ (items:=[.tup [.int 0,.int d0],.tup [.int 1,.int d1]]) (by kernel_rfl)).trans ((gq (aI:=AH) (jP:=DM) (by kernel_rfl) (first (by rfl))).trans (og (aI:=I3) (by kernel_rfl) ?_)));refine (aj (aI:=GR++[nm "index" (.int 1),nm "direction" (.int d1),nm "l" (.int b),nm "r" (.int c)]) (by kernel_rfl)).trans ((aj (aI:=FC) (by kernel_rfl)).trans ((aj (aI:=FC) ?_).trans (bD ?_)))
  ·exact cn (c:=decide (b < d)) (by kernel_rfl) (fun h=>absurd (of_decide_eq_true h) h3) (fun J=>by rfl)
  ·exact cn (c:=decide (b > d)) (by kernel_rfl) (fun J=>bD (by kernel_rfl)) (fun h=>absurd h4 (of_decide_eq_false h))
 rw [if_neg h4];refine (aj (aI:=FC) ((jJ (items:=[.tup [.int 0,.int d0],.tup [.int 1,.int d1]]) (by kernel_rfl)).trans ((gq (aI:=AH) (jP:=DM) (by kernel_rfl) (first (by rfl))).trans ((gq (aI:=I3) (jP:=FC) (by kernel_rfl) ?_).trans (by kernel_rfl))))).trans (bD (by kernel_rfl));refine (aj (aI:=GR++[nm "index" (.int 1),nm "direction" (.int d1),nm "l" (.int b),nm "r" (.int c)]) (by kernel_rfl)).trans ((aj (aI:=FC) (by kernel_rfl)).trans ((aj (aI:=FC) ?_).trans ((aj (aI:=FC) ?_).trans (by rfl))))
 ·exact cn (c:=decide (b < d)) (by kernel_rfl) (fun h=>absurd (of_decide_eq_true h) h3) (fun J=>by rfl)
 ·exact cn (c:=decide (b > d)) (by kernel_rfl) (fun h=>absurd (of_decide_eq_true h) h4) (fun J=>by rfl)
end
end Mine
end
section
namespace Mine
noncomputable section
noncomputable def sl (cs:List Nat):Str:=⟨cs.toArray⟩
theorem d5 (cs:List Nat):(sl cs).length=cs.length:=by unfold sl;exact aA ..
noncomputable def tk (cs:List Nat):Option Int:=lc.lookup (sl cs)
noncomputable def cw (r:List Nat):List Nat×Int:=match tk (r.take 3) with
 | some v=>(r.take 3,v)
 | none=>match tk (r.take 2) with
  | some v=>(r.take 2,v)
  | none=>match tk (r.take 1) with
   | some v=>(r.take 1,v)
   | none=>(r.take 1,if r.take 1=[32] then 0 else 159+((r.headD 0:Nat):Int))
noncomputable def Ax:Nat->List Nat->Prop
 | 0,_=>True
 | n+1,r=>r≠[]/\Ax n (r.drop (cw r).1.length)
noncomputable def iD:Nat->List Nat->List Int
 | 0,_=>[]
 | n+1,r=>(cw r).2::iD n (r.drop (cw r).1.length)
theorem F4 (l:List Nat) (p k:Nat):ms l (some (p:Int)) (some ((p:Int)+(k:Int)))=(l.drop p).take k:=by
 unfold ms b9;simp only [d9,bJ];rw [if_neg (by exact pn [_] 0x2F1E082C0),if_neg (by exact pn [_,_] 0x2F1E08A2C12C0),show ((p:Int)+(k:Int)).toNat=p+k from by exact pn [_,_] 0x2DA102CA2C12C0,show ((p:Int)).toNat=p from by exact pn [_] 0x2D02C2C0];by_cases h:p<=l.length
 ·rw [fj h,List.drop_take]
  by_cases h2:p+k<=l.length
  ·rw [fj h2];congr 1;exact pn [_,_] 0x2D1B0A10
  ·rw [mG (by exact (pn [_,_,_] 0x0DA1022F0D2A10) h2),dI (by rw [df];exact pn [_,_] 0x0DB10B10),dI (by rw [df];exact (pn [_,_,_] 0x0D2B012F0D1A200D10) h h2)]
 ·rw [List.drop_eq_nil_of_le (by rw [cQ];exact (pn [_,_,_] 0x0D0C100C10C1A202F0D10) h),List.drop_eq_nil_of_le (as:=l) (by exact (pn [_,_] 0x0D012F0D10) h),List.take_nil]
abbrev ST:=Nat×List Int×Option (PV×PV×PV)
noncomputable def F8 (s:Str) (a:ST):SE:=[nm "line" (.str s),nm "start" (.int (a.1:Int)),ow "row" (aL a.2.1)]++(match a.2.2 with | none=>[] | some (t,h,p)=>[nm "turn" t,nm "heads" h,nm "piece" p])
noncomputable def pM (r:List Nat):List (List Nat):=[r.take 3,r.take 2,r.take 1]
noncomputable def cI (l:List (List Nat)):List PV:=l.map fun c=>.str (sl c)
noncomputable def jN (l:List Nat) (a:ST) (t:Nat):ST:=
 let r:=cw (l.drop a.1)
 (a.1+r.1.length,a.2.1++[r.2],some (.int (t:Int),.lst (cI (pM (l.drop a.1))),.str (sl r.1)))
theorem Et (r:List Nat):((pM r).filter (fun h=>(tk h).isSome)++[r.take 1]).head?=some (cw r).1:=by
 unfold pM cw
 cases h3:tk (r.take 3) with
 | some v=>simp [h3]
 | none=>cases h2:tk (r.take 2) with
  | some v=>simp [h3,h2]
  | none=>cases h1:tk (r.take 1) with
   | some v=>simp [h3,h2,h1]
   | none=>simp [h3,h2,h1]
theorem Gx (r:List Nat):(cw r).1.length<=r.length:=by
 unfold cw;split
 ·simp;exact pn [_] 0x0D00C038
 ·split
  ·simp;exact pn [_] 0x0D00C028
  ·split<;>(simp;exact pn [_] 0x0D00C018)
theorem A7 (r:List Nat) (h:r≠[]):(∃ v,tk (cw r).1=some v/\(cw r).2=v)\/(tk (cw r).1=none/\∃ c:Nat,(cw r).1=[c]/\(cw r).2=if c=32 then 0 else 159+(c:Int)):=by
 unfold cw
 cases h3:tk (r.take 3) with
 | some v=>exact .inl ⟨v,h3,rfl⟩
 | none=>cases h2:tk (r.take 2) with
  | some v=>exact .inl ⟨v,h2,rfl⟩
  | none=>cases h1:tk (r.take 1) with
   | some v=>exact .inl ⟨v,h1,rfl⟩
   | none=>cases r with
    | nil=>exact absurd rfl h
    | cons c r=>exact .inr ⟨h1,c,rfl,by simp⟩
theorem HB {hs:List (List Nat)}{p:List Nat} (h:hs.head?=some p) (hl:hs.length<=1000):item (.lst (cI hs)) (.int 0)=some (.str (sl p)):=by
 cases hs with
 | nil=>cases h
 | cons a hs=>
  cases h
  show (if (cI (p::hs)).length<=1048576 then (eG 0 (cI (p::hs)).length).bind ((cI (p::hs))[·]?) else none)=_;unfold cI;rw [if_pos (by rw [aa];exact (pn [_] 0x0D1000003900D03E8290) hl)];unfold eG;rw [if_neg (by exact pn [] 0x2F1E0808),if_pos (by simp)];rfl
theorem CU {s:Str}{p:Nat} (hs:s.length<=1000) (hp:p<=s.length) (ok:Ax 4 (s.cps.toList.drop p)):e5 o0 v4.W 120 v4.params v4.scope v4.body [.str s,.int (p:Int)]=some (aL (iD 4 (s.cps.toList.drop p))):=by
 have hsl:s.length=s.cps.toList.length:=bR.symm;refine dY (σ:=[nm "line" (.str s),nm "start" (.int (p:Int))]) (by kernel_rfl) (by kernel_rfl) (aI:=[]) ?_;show exs _ _ _ (c6 163).names _ (db 163)=_
 conv=>lhs;arg 6;whnf
 refine (aj (aI:=F8 s (p,[],none)) (by rfl)).trans ?_;refine (nX (F8 s) (fun i a=>a.1<=s.length/\a.2.1.length<=i/\Ax (4 - i) (s.cps.toList.drop a.1)) (jN s.cps.toList) (fun (x:Nat)=>.int ((0:Int)+(x:Int))) 40 (ax 4) (p,[],none) rfl (by rfl) (by decide) ⟨hp,aE _,ok⟩ ?_).trans ?_
 ·intro i a x n hi hP hx
  obtain ⟨pos,row,l⟩:=a;refine ir hP ?_;clear hP;intro h1 h2 h3;dsimp only at h1 h2 h3;have hi:i < 4:=by simpa using hi
  rw [show 4 - i=(3 - i)+1 from by exact (pn [_] 0x2DA18B038B0481D480) hi] at h3;have hne:=h3.1;have hr:=Et (s.cps.toList.drop pos);have hlen:=Gx (s.cps.toList.drop pos);have hok:=h3.2;rw [List.drop_drop] at hok;have hrl:(s.cps.toList.drop pos).length=s.length - pos:=by rw [df,hsl]
  generalize hrd:s.cps.toList.drop pos=r at hne hr hlen hrl;rw [hrd] at hok;have hst:jN s.cps.toList (pos,row,l) x=(pos+(cw r).1.length,row++[(cw r).2],some (.int (x:Int),.lst (cI (pM r)),.str (sl (cw r).1))):=by unfold jN;dsimp only;rw [hrd]
  rw [hst];refine ⟨⟨by dsimp only;exact (pn [_,_,_,_] 0x0D1A202DB0130D320D10) h1 hlen hrl,by dsimp only;rw [ak];simp;exact (pn [_,_] 0x0D100D10) h2,?_⟩,?_⟩
  ·dsimp only;rw [show 4 - (i+1)=3 - i from by exact pn [_] 0x2DB038BA18048];exact hok
  let turn:PV:=.int ((0:Int)+(x:Int))
  let GS:SE:=[nm "line" (.str s),nm "start" (.int (pos:Int)),ow "row" (aL row)]++(match l with | none=>[nm "turn" turn] | some (t,h,p)=>[nm "turn" turn,nm "heads" h,nm "piece" p])
  refine ⟨GS,by cases l<;>kernel_rfl,?_⟩
  let DH:SE:=[nm "line" (.str s),nm "start" (.int (pos:Int)),ow "row" (aL row),nm "turn" turn,nm "heads" (.lst (cI (pM r)))]++(match l with | none=>[] | some (t,h,p)=>[nm "piece" p])
  refine (aj (aI:=DH) ?_).trans ?_
  ·refine (bm (u:=.lst (cI (pM r))) (by rfl) ?_).trans (by rcases l with _ | ⟨t,h,p⟩<;>kernel_rfl)
   refine (bw (items:=[3,2,1].map fun (k:Nat)=>.int (k:Int)) (rs:=([3,2,1].filter fun J=>true).map fun (k:Nat)=>(.none,.str (sl (r.take k)))) (by rfl) (by rfl) ?_ (by simp)).trans (by rfl);refine bx (fun J=>true) (fun (k:Nat)=>.str (sl (r.take k))) (fun (k:Nat)=>.int (k:Int)) 20 (by rcases l with _ | ⟨t,h,p⟩<;>kernel_rfl) [3,2,1] _ ?_ ?_
   ·simp only [aD,bB];exact pn [_] 0x0DA25190A18AA18A18A18081419
   ·intro k m hk
    refine ⟨[nm "line" (.str s),nm "start" (.int (pos:Int)),nm "size" (.int (k:Int))],by rcases l with _ | ⟨t,h,p⟩<;>kernel_rfl,by kernel_rfl,fun J=>?_⟩;refine fB (b:=.str s) (l:=some (pos:Int)) (h:=some ((pos:Int)+(k:Int))) (by rfl) (by rfl) (by rfl) ?_;show (if s.length<=1048576 then some (PV.str ⟨(ms s.cps.toList (some (pos:Int)) (some ((pos:Int)+(k:Int)))).toArray⟩) else none)=_;rw [if_pos (by exact (pn [_] 0x0D1000003900D03E8290) hs),F4,hrd];rfl
  let HU:SE:=F8 s (pos,row,some (turn,.lst (cI (pM r)),.str (sl (cw r).1)))
  refine (aj (aI:=HU) ?_).trans ?_
  ·refine (bm (u:=.str (sl (cw r).1)) (by rfl) ?_).trans (by rcases l with _ | ⟨t,h,p⟩<;>kernel_rfl)
   refine bt (b:=.lst (cI ((pM r).filter (fun h=>(tk h).isSome)++[r.take 1]))) (k:=.int 0) (by intros;intro h;cases h) (by rfl) ?_ (by rfl) ?_
   ·show ev _ _ _ _ _=_
    refine aW (a:=.lst (cI ((pM r).filter fun h=>(tk h).isSome))) (b:=.lst (cI [r.take 1])) ?_ (by rcases l with _ | ⟨t,h,p⟩<;>kernel_rfl) ?_
    ·show ev _ _ _ _ _=_
     refine (bw (items:=(pM r).map fun h=>.str (sl h)) (rs:=((pM r).filter fun h=>(tk h).isSome).map fun h=>(.none,.str (sl h))) (by rfl) (by rcases l with _ | ⟨t,h,p⟩<;>kernel_rfl) ?_ ?_).trans ?_
     ·refine bx (fun h=>(tk h).isSome) (fun h=>.str (sl h)) (fun h=>.str (sl h)) 20 (by rcases l with _ | ⟨t,h,p⟩<;>kernel_rfl) (pM r) _ ?_ ?_
      ·show 20+3+1<=_
       exact id (pn [_] 0x0DA20190A18A381419)
      ·intro h m hh
       refine ⟨[nm "head" (.str (sl h))],by rcases l with _ | ⟨t,h,p⟩<;>kernel_rfl,?_,fun J=>by kernel_rfl⟩;have e:(((lc.lookup (sl h)).isSome == (CmpOp.In == CmpOp.In)):Bool)=(tk h).isSome:=by unfold tk;cases (lc.lookup (sl h)).isSome<;>rfl
       rw [<- e];exact bj (br (wE (by rfl) (by rfl) (by rfl)))
     ·have:=aF (fun h=>(tk h).isSome) (pM r)
      rw [aa];have e:(pM r).length=3:=rfl;exact (pn [_,_] 0x0D1000003902D3810D10) this e
     ·rw [ao];rfl
    ·show (if (decide ((cI ((pM r).filter fun h=>(tk h).isSome)).length<=1048576) && decide ((cI [r.take 1]).length<=1048576))=true then some (PV.lst (cI ((pM r).filter fun h=>(tk h).isSome)++cI [r.take 1])) else none)=_
     have:=aF (fun h=>(tk h).isSome) (pM r)
     have e:(pM r).length=3:=rfl;rw [if_pos (by unfold cI;simp;exact (pn [_,_] 0x0D1000003902D3810D10) this e)];unfold cI;rw [aN]
   ·have:=aF (fun h=>(tk h).isSome) (pM r)
    have e:(pM r).length=3:=rfl;exact HB hr (by rw [ak];simp;exact (pn [_,_] 0x0D03E72902D3810D10) this e)
  have ht:(((lc.lookup (sl (cw r).1)).isSome == (CmpOp.In == CmpOp.In)):Bool)=(tk (cw r).1).isSome:=by unfold tk;cases (lc.lookup (sl (cw r).1)).isSome<;>rfl
  refine (aj (aI:=F8 s (pos,row++[(cw r).2],some (turn,.lst (cI (pM r)),.str (sl (cw r).1)))) ?_).trans ?_
  ·refine (oq (l:=row.map .int) (u:=.int (cw r).2) (by rfl) ?_ ?_).trans ?_
   ·have:decide ((row.map PV.int).length<=1048576)=true:=decide_eq_true (by rw [aa];exact (pn [_,_] 0x0D1000003901D4810D10) h2 hi)
    rw [this];rfl
   ·refine e7 (c:=(tk (cw r).1).isSome) ?_ (fun hc=>?_) (fun hc=>?_)
    ·rw [<- ht]
     exact br (wE (by rfl) (by rfl) (by kernel_rfl))
    ·rcases A7 r hne with ⟨v,h4,h5⟩ | ⟨h4,_⟩
     ·rw [h5]
      exact zr (by kernel_rfl) (by rfl) h4
     ·rw [h4] at hc;cases hc
    ·rcases A7 r hne with ⟨v,h4,h5⟩ | ⟨h4,c,h5,h6⟩
     ·rw [h4] at hc;cases hc
     ·rw [h6]
      refine e7 (c:=((⟨#[c]⟩:Str) == ⟨#[32]⟩)) ?_ (fun hc=>?_) (fun hc=>?_)
      ·show evT _ _ _ (F8 s (pos,row,some (turn,.lst (cI (pM r)),.str (sl (cw r).1)))) _=_
       rw [h5];rfl
      ·rw [pT] at hc;rw [if_pos (of_decide_eq_true hc)];rfl
      ·rw [pT] at hc;rw [if_neg (of_decide_eq_false hc)];show ev _ _ _ (F8 s (pos,row,some (turn,.lst (cI (pM r)),.str (sl (cw r).1)))) _=_;rw [h5];kernel_rfl
   ·rw [show (row.map PV.int++[PV.int (cw r).2])=(row++[(cw r).2]).map PV.int from by rw [aN];rfl];rfl
  ·refine (aj (aI:=F8 s (pos+(cw r).1.length,row++[(cw r).2],some (turn,.lst (cI (pM r)),.str (sl (cw r).1)))) ?_).trans ?_
   ·refine FS (a:=(pos:Int)) (b:=((cw r).1.length:Int)) (by rfl) ?_ (by rfl)
    refine b7 (v:=.str (sl (cw r).1)) (by rfl) (by rfl) ?_;show (if (sl (cw r).1).length<=1048576 then some (PV.int ((sl (cw r).1).length:Int)) else none)=_;rw [d5,if_pos (by exact (pn [_,_,_,_] 0x0D1000003912DB3020D210D03E8290) hs hlen hrl)]
   ·show exs _ _ _ _ _ []=_
    rw [show turn=PV.int (x:Int) from by show PV.int ((0:Int)+(x:Int))=_;rw [ct]];rfl
 ·have e:((ax 4).foldl (jN s.cps.toList) (p,[],none)).2.1=iD 4 (s.cps.toList.drop p):=by
   show ((jN s.cps.toList (jN s.cps.toList (jN s.cps.toList (jN s.cps.toList (p,[],none) 0) 1) 2) 3)).2.1=_;unfold jN iD iD iD iD iD;simp only [List.drop_drop,fq,ga,Nat.add_assoc]
  generalize (ax 4).foldl (jN s.cps.toList) (p,[],none)=z at e ⊢;obtain ⟨q,row,l⟩:=z;subst e;rcases l with _ | ⟨t,h,p⟩<;>exact bD (by kernel_rfl)
end
end Mine
end
section
namespace Mine
noncomputable section
noncomputable def Dw (spot:Int) (sp:Bool) (x:Int):Int:=bif sp then x+1 else x - eV x (spot+1)+spot+1
noncomputable def mD (v:Nat->Int) (sign:Nat):Nat->Int:=fun i=>Dw (i:Int) (sign == 32) (v i)
noncomputable def Dl (v:Nat->Int):PV:=.lst [.int (v 0),.int (v 1),.int (v 2),.int (v 3),.int (v 4),.int (v 5)]
noncomputable def Hi (c:Nat->Nat->Int):PV:=.lst [Dl (c 0),Dl (c 1),Dl (c 2),Dl (c 3),Dl (c 4)]
noncomputable def rI (c:Nat->Nat->Int) (i:Nat) (v:Nat->Int):Nat->Nat->Int:=fun j=>if j=i then v else c j
noncomputable def uR (c d:Nat->Int):Bool:=decide (eZ (d 0 - c 0) [d 1 - c 1,d 2 - c 2,d 3 - c 3,d 4 - c 4,d 5 - c 5] > 0)
noncomputable def EU (c:Nat->Nat->Int):PV:=.lst ([0,1,2,3,4].map fun i=>.lst ([0,1,2,3,4].map fun j=>.bool (uR (c i) (c j))))
noncomputable def dN (lead:List Nat):Nat->Int:=lead.foldl mD fun J=>0
noncomputable def Cd (L:PV) (a:(Nat->Nat->Int)×Option (PV×PV×Option PV)):SE:=[nm "leads" L,ow "columns" (Hi a.1)]++(match a.2 with | none=>[] | some (l,d,s)=>[nm "line" l,nm "lead" d]++(match s with | none=>[] | some s=>[nm "sign" s]))
theorem v8 (k:Nat) (lead:List Nat) (d:PV):∀ (w:List Nat) (a:(Nat->Nat->Int)×Option (PV×PV×Option PV)),(w.foldl (fun a s=>(rI a.1 k (mD (a.1 k) s),some (PV.int (k:Int),d,some (.str (sl [s]))))) a).1=rI a.1 k (w.foldl mD (a.1 k))
 | [],a=>by
  funext j;show a.1 j=if j=k then a.1 k else a.1 j
  split
  ·subst_vars;rfl
  ·rfl
 | s::w,a=>by
  rw [a9,a9,v8 k lead d w];funext j;unfold rI;dsimp only;split
  ·rw [if_pos rfl];first | done | rfl
  ·rfl
theorem EB {l0 l1 l2 l3 l4:List Nat} (h:∀ l∈[l0,l1,l2,l3,l4],l.length<=20/\∀ x∈l,x=32\/x=9) :
  e5 o0 Cy.W 120 Cy.params Cy.scope Cy.body [.lst (cI [l0,l1,l2,l3,l4])]=some (EU fun i=>dN ([l0,l1,l2,l3,l4].getD i [])):=by
 refine dY (σ:=[nm "leads" (.lst (cI [l0,l1,l2,l3,l4]))]) (by kernel_rfl) (by kernel_rfl) (aI:=[]) ?_;show exs _ _ _ (c6 173).names _ (db 173)=_
 conv=>lhs;arg 6;whnf
 generalize hL:PV.lst (cI [l0,l1,l2,l3,l4])=L
 let z:Nat->Int:=fun J=>0
 refine (aj (aI:=Cd L (fun J=>z,none)) (by subst hL;kernel_rfl)).trans ?_
 let g:Nat×List Nat->PV:=fun p=>.tup [.int (p.1:Int),.str (sl p.2)]
 let xs:List (Nat×List Nat):=[(0,l0),(1,l1),(2,l2),(3,l3),(4,l4)]
 let f:((Nat->Nat->Int)×Option (PV×PV×Option PV))->Nat×List Nat->((Nat->Nat->Int)×Option (PV×PV×Option PV)):=fun a p=>
  p.2.foldl (fun a s=>(rI a.1 p.1 (mD (a.1 p.1) s),some (.int (p.1:Int),.str (sl p.2),some (.str (sl [s]))))) (a.1,some (.int (p.1:Int),.str (sl p.2),(match a.2 with | none=>none | some (_,_,s)=>s)))
 refine (nX (Cd L) (fun i a=>True) f g 80 xs (fun J=>z,none) rfl (by subst hL;rfl) (by simp only [xs,aD,bB];exact pn [] 0x0D7519A18AA18A18A18A18A18085019) trivial ?_).trans ?_
 ·intro i a x n hi _ hx
  obtain ⟨c,last⟩:=a;have hx':x.1 < 5/\x.2∈[l0,l1,l2,l3,l4]:=by
   simp only [xs,ar,bg,or_false] at hx;rcases hx with rfl | rfl | rfl | rfl | rfl<;>simp
  refine xA hx' ?_;clear hx';intro hx1 hx2;refine xA (h _ hx2) ?_;intro hlen hsign;obtain ⟨k,lead⟩:=x;dsimp only at hx1 hlen hsign
  let a1:(Nat->Nat->Int)×Option (PV×PV×Option PV):=(c,some (.int (k:Int),.str (sl lead),(match last with | none=>none | some (_,_,s)=>s)))
  refine ⟨trivial,Cd L a1,by rcases last with _ | ⟨_,_,_ | _⟩<;>kernel_rfl,?_⟩;refine (nX (Cd L) (fun i a=>∃ c s,a=(c,some (.int (k:Int),.str (sl lead),s))) (fun a s=>(rI a.1 k (mD (a.1 k) s),some (.int (k:Int),.str (sl lead),some (.str (sl [s]))))) (fun s=>.str (sl [s])) 40 lead a1 rfl ?_ ?_ ⟨_,_,rfl⟩ ?_).trans (by rfl)
  ·refine Eq.trans (b:=if (sl lead).length<=1048576 then some ((sl lead).cps.toList.map fun c=>.str ⟨#[c]⟩) else none) (by rcases last with _ | ⟨_,_,_ | _⟩<;>kernel_rfl) ?_
   rw [d5,if_pos (by exact (pn [_] 0x0D1000003900D14190) hlen)];rfl
  ·exact (pn [_,_] 0x0DA4E191A18A028190D14190) hlen
  ·intro j a s m hj hP hs
   refine AE hP ?_;clear hP;rintro c o rfl;refine ⟨⟨_,_,rfl⟩,Cd L (c,some (.int (k:Int),.str (sl lead),some (.str (sl [s])))),by cases o<;>kernel_rfl,?_⟩;have hk:k=0\/k=1\/k=2\/k=3\/k=4:=by exact (pn [_] 0x1F1F1F1F2D4802D3802D2802D1802D0801D580) hx1
   rcases hsign s hs with rfl | rfl<;>rcases hk with rfl | rfl | rfl | rfl | rfl<;>kernel_rfl
 ·have e:(xs.foldl f (fun J=>z,none)).1=rI (rI (rI (rI (rI (fun J=>z) 0 (dN l0)) 1 (dN l1)) 2 (dN l2)) 3 (dN l3)) 4 (dN l4):=by
   show (f (f (f (f (f (fun J=>z,none) (0,l0)) (1,l1)) (2,l2)) (3,l3)) (4,l4)).1=_;have hf:∀ a p,(f a p).1=rI a.1 p.1 (p.2.foldl mD (a.1 p.1)):=fun a p=>v8 p.1 p.2 _ p.2 _;rw [hf,hf,hf,hf,hf];rfl
  generalize xs.foldl f (fun J=>z,none)=r at e ⊢;obtain ⟨c,last⟩:=r;dsimp only at e;have e2:(EU fun i=>dN ([l0,l1,l2,l3,l4].getD i []))=EU c:=by subst e;kernel_rfl
  rw [e2];subst hL;rcases last with _ | ⟨_,_,_ | _⟩<;>exact bD (by kernel_rfl)
end
end Mine
end
section
namespace Mine
noncomputable section
theorem em {l:List PV}{i:Nat}{v:PV} (h:l[i]?=some v) (hl:l.length<=1048576):item (.lst l) (.int (i:Int))=some v:=by
 have hi:i < l.length:=by
  rcases Nat.lt_or_ge i l.length with h' | h'
  ·exact h'
  ·rw [c9 h'] at h;cases h
 show (if l.length<=1048576 then (eG (i:Int) l.length).bind (l[·]?) else none)=_;rw [if_pos hl];unfold eG;rw [if_neg (by exact pn [_] 0x2F1E082C0),if_pos (by exact (pn [_,_] 0x1E2C12C01D10) hi)];exact h
theorem gU {l:List PV}{v:PV} (h:l.getLast?=some v) (hl:l.length<=1048576):item (.lst l) (.int (-1))=some v:=by
 show (if l.length<=1048576 then (eG (-1) l.length).bind (l[·]?) else none)=_;rw [if_pos hl];have hn:l≠[]:=by intro e;subst e;cases h
 have hlen:0 < l.length:=eR.mpr hn;unfold eG;rw [if_pos (by exact pn [] 0x1E083C18),if_pos (by exact (pn [_] 0x0E3C183C2C01D008) hlen)];show l[((-1:Int)+(l.length:Int)).toNat]?=_;rw [show ((-1:Int)+(l.length:Int)).toNat=l.length - 1 from by exact (pn [_] 0x2DB1802CA2C03C181D008) hlen,<- List.getLast?_eq_getElem?];exact h
noncomputable def C1 (st:WS):Prop:=st.1.length<=20/\st.2.1<=20
theorem vS {s s':Str}{a b:WS} (ha:C1 a) (hb:C1 b):o2.mth "Whitespace" "less" [jg s a,jg s' b]=some (.bool (gD a b)):=uV ha.1 hb.1 ha.2 hb.2
noncomputable def jq (lt:Nat->Nat->Bool) (a:List Int×List Nat) (here:Nat):List Int×List Nat:=
 (a.1++[((-1:Int)::(a.2.filter fun l=>lt l here).map fun (l:Nat)=>(l:Int)).getLast (by simp)],(a.2.filter fun l=>lt l here)++[here])
noncomputable def mB (lt:Nat->Nat->Bool) (n:Nat):List Int:=((ax n).foldl (jq lt) ([],[])).1
noncomputable def p7 (l:List Nat):PV:=.lst (l.map fun (x:Nat)=>.int (x:Int))
noncomputable def pX (sp:List (Str×WS)):PV:=.lst (sp.map fun p=>jg p.1 p.2)
noncomputable def ge (sp:List (Str×WS)) (i j:Nat):Bool:=gD (sp.getD i default).2 (sp.getD j default).2
noncomputable def sL (sp:List (Str×WS)) (a:(List Int×List Nat)×Option PV):SE:=[nm "spaces" (pX sp),ow "owners" (aL a.1.1),nm "pile" (p7 a.1.2)]++(match a.2 with | none=>[] | some h=>[nm "here" h])
theorem xg {α β γ:Type}{f:α->β->α}{g:β->γ}:∀ (xs:List β) (a:α×Option γ),(xs.foldl (fun (a:α×Option γ) x=>(f a.1 x,some (g x))) a).1=xs.foldl f a.1
 | [],a=>rfl
 | x::xs,a=>xg xs (f a.1 x,some (g x))
set_option maxHeartbeats 4000000 in
theorem CI {sp:List (Str×WS)} (hn:sp.length<=20) (hw:∀ p∈sp,C1 p.2) :
  e5 o2 u6.W 100 u6.params u6.scope u6.body [pX sp]=some (aL (mB (ge sp) sp.length)):=by
 have hlen:(sp.map fun p=>jg p.1 p.2).length=sp.length:=aa _;have hsp:∀ i,i < sp.length->(sp.map fun p=>jg p.1 p.2)[i]?=some (jg (sp.getD i default).1 (sp.getD i default).2)/\C1 (sp.getD i default).2:=by
  intro i hi;rw [aK,av hi,aq,av hi];exact ⟨rfl,hw _ (aY hi)⟩
 refine dY (σ:=[nm "spaces" (pX sp)]) (by kernel_rfl) (by kernel_rfl) (aI:=[]) ?_;show exs _ _ _ (c6 168).names _ (db 168)=_
 conv=>lhs;arg 6;whnf
 refine (aj (aI:=sL sp (([],[]),none)) (by rfl)).trans ?_;refine (nX (sL sp) (fun i a=>a.1.1.length<=i/\a.1.2.length<=i/\∀ l∈a.1.2,l < sp.length) (fun a (x:Nat)=>(jq (ge sp) a.1 x,some (PV.int ((0:Int)+(x:Int))))) (fun (x:Nat)=>.int ((0:Int)+(x:Int))) 60 (ax sp.length) (([],[]),none) rfl ?_ ?_ ⟨aE _,aE _,fun J h=>nomatch h⟩ ?_).trans ?_
 ·refine (x5 (j:=(sp.length:Int)) (by kernel_rfl) ?_ ?_).trans ?_
  ·refine b7 (v:=pX sp) (by kernel_rfl) (by rfl) ?_
   show (if (sp.map fun p=>jg p.1 p.2).length<=1048576 then some (PV.int ((sp.map fun p=>jg p.1 p.2).length:Int)) else none)=_;rw [hlen,if_pos (by exact (pn [_] 0x0D1000003900D14190) hn)]
  ·unfold fQ;simp;exact (pn [_] 0x0E100000392C00D14190) hn
  ·unfold gJ
   rw [show ((sp.length:Int) - 0).toNat=sp.length from by exact pn [_] 0x2D02CB082C0]
 ·rw [bf];exact (pn [_] 0x0D6119A18A03C190D14190) hn
 ·intro i a here n hi hP hx
  rw [bf] at hi;have hx:here < sp.length:=dT.mp hx;obtain ⟨⟨owners,pile⟩,l⟩:=a;refine ir hP ?_;clear hP;intro h1 h2 h3;dsimp only at h1 h2 h3;have hf:=aF (fun l=>ge sp l here) pile;refine ⟨⟨?_,?_,?_⟩,?_⟩
  ·unfold jq;dsimp only
   rw [ak];simp;exact (pn [_,_] 0x0D100D10) h1
  ·unfold jq;dsimp only
   rw [ak];simp;exact (pn [_,_,_] 0x0D120D020D10) h2 hf
  ·intro l hl
   rcases aM.mp hl with hl | hl
   ·exact h3 l ((aT.mp hl).1)
   ·rcases ae.mp hl with rfl;exact hx
  let hv:PV:=.int ((0:Int)+(here:Int))
  have hhv:hv=.int (here:Int):=by show PV.int ((0:Int)+(here:Int))=_;rw [ct]
  refine ⟨sL sp ((owners,pile),some hv),by cases l<;>kernel_rfl,?_⟩
  let q:=pile.filter fun l=>ge sp l here
  have hql:(q.map fun (x:Nat)=>PV.int (x:Int)).length<=100:=by rw [aa];show (pile.filter _).length<=100;exact (pn [_,_,_,_] 0x0D641930D230D121D010D14190) hn hi h2 hf
  refine (aj (aI:=sL sp ((owners,q),some hv)) ?_).trans ?_
  ·refine (bm (u:=p7 q) (by rfl) ?_).trans (by kernel_rfl)
   refine (bw (items:=pile.map fun (x:Nat)=>.int (x:Int)) (rs:=q.map fun (x:Nat)=>(.none,.int (x:Int))) (by rfl) ?_ ?_ ?_).trans ?_
   ·refine Eq.trans (b:=if (pile.map fun (x:Nat)=>PV.int (x:Int)).length<=1048576 then some (pile.map fun (x:Nat)=>.int (x:Int)) else none) (by rfl) (if_pos (by rw [aa];exact (pn [_,_,_] 0x0D1000003920D121D010D14190) hn hi h2))
   ·refine bx (fun l=>ge sp l here) (fun (x:Nat)=>.int (x:Int)) (fun (x:Nat)=>.int (x:Int)) 30 (by rfl) pile _ ?_ ?_
    ·exact (pn [_,_,_,_] 0x0DA39193A18A21E190D121D010D14190) hn hi h2
    ·intro x m hx'
     refine xA (hsp x (h3 x hx')) ?_;intro e1 w1;refine xA (hsp here hx) ?_;intro e2 w2;refine ⟨[nm "spaces" (pX sp),nm "here" hv,nm "line" (.int (x:Int))],by rfl,?_,fun J=>by rfl⟩;refine bj (lA (jO (c:="Whitespace") (fs:=eE (sp.getD x default).1 (sp.getD x default).2) (by rfl) ?_ (ay ?_ a8) (by rfl) (vS (s:=(sp.getD x default).1) (s':=(sp.getD here default).1) w1 w2)))
     ·exact bt (b:=pX sp) (k:=.int (x:Int)) (by intros;intro h;cases h) (by rfl) (by rfl) (by rfl) (em e1 (by rw [hlen];exact (pn [_] 0x0D1000003900D14190) hn))
     ·exact bt (b:=pX sp) (k:=.int (here:Int)) (by intros;intro h;cases h) (by rfl) (by rfl) (by rw [hhv];rfl) (em e2 (by rw [hlen];exact (pn [_] 0x0D1000003900D14190) hn))
   ·rw [aa];show (pile.filter _).length<=_;exact (pn [_,_,_,_] 0x0D1000003930D230D121D010D14190) hn hi h2 hf
   ·rw [ao];rfl
  let last:Int:=((-1:Int)::q.map fun (l:Nat)=>(l:Int)).getLast (by simp)
  refine (aj (aI:=sL sp ((owners++[last],q),some hv)) ?_).trans ?_
  ·refine (oq (l:=owners.map .int) (u:=.int last) (by rfl) ?_ ?_).trans ?_
   ·have:decide ((owners.map PV.int).length<=1048576)=true:=decide_eq_true (by rw [aa];exact (pn [_,_,_] 0x0D1000003920D121D010D14190) hn hi h1)
    rw [this];rfl
   ·refine bt (b:=.lst (.int (-1)::q.map fun (x:Nat)=>.int (x:Int))) (k:=.int (-1)) (by intros;intro h;cases h) (by rfl) ?_ (by rfl) ?_
    ·show ev _ _ _ _ _=_
     refine aW (a:=.lst [.int (-1)]) (b:=p7 q) (by rfl) (by rfl) ?_;show (if (decide ([PV.int (-1)].length<=1048576) && decide ((q.map fun (x:Nat)=>PV.int (x:Int)).length<=1048576))=true then some (PV.lst ([PV.int (-1)]++q.map fun (x:Nat)=>PV.int (x:Int))) else none)=_;rw [if_pos (by simp only [aR,decide_eq_true_eq];exact ⟨by decide,by exact (pn [_] 0x0D1000003900D64190) hql⟩)];rfl
    ·refine gU ?_ (by rw [aD];exact (pn [_] 0x0D10000039A1800D64190) hql)
     have e:(PV.int (-1)::q.map fun (x:Nat)=>PV.int (x:Int))=((-1:Int)::q.map fun (l:Nat)=>(l:Int)).map .int:=by rw [aw,ao];rfl
     rw [e,List.getLast?_map,bF (by simp)];rfl
   ·rw [show (owners.map PV.int++[PV.int last])=(owners++[last]).map PV.int from by rw [aN];rfl];rfl
  ·refine (aj (aI:=sL sp (jq (ge sp) (owners,pile) here,some hv)) ?_).trans (by rfl)
   refine (bm (u:=p7 (q++[here])) (by rfl) ?_).trans (by rfl);refine aW (a:=p7 q) (b:=p7 [here]) (by rfl) (by rw [hhv];rfl) ?_;show (if (decide ((q.map fun (x:Nat)=>PV.int (x:Int)).length<=1048576) && decide ([PV.int (here:Int)].length<=1048576))=true then some (PV.lst ((q.map fun (x:Nat)=>PV.int (x:Int))++[PV.int (here:Int)])) else none)=_;rw [if_pos (by simp only [aR,decide_eq_true_eq];exact ⟨by exact (pn [_] 0x0D1000003900D64190) hql,by simp⟩)];unfold p7;rw [aN];rfl
 ·have e:=xg (f:=jq (ge sp)) (g:=fun (x:Nat)=>PV.int ((0:Int)+(x:Int))) (ax sp.length) (([],[]),none)
  dsimp only at e;have e:((ax sp.length).foldl (fun (a:(List Int×List Nat)×Option PV) (x:Nat)=>(jq (ge sp) a.1 x,some (PV.int ((0:Int)+(x:Int))))) (([],[]),none)).1=(ax sp.length).foldl (jq (ge sp)) ([],[]):=e;unfold mB;rw [<- e];generalize (ax sp.length).foldl (fun (a:(List Int×List Nat)×Option PV) (x:Nat)=>(jq (ge sp) a.1 x,some (PV.int ((0:Int)+(x:Int))))) (([],[]),none)=r;obtain ⟨⟨a,b⟩,l⟩:=r
  cases l<;>exact bD (by kernel_rfl)
theorem oV (lt:Nat->Nat->Bool):∀ n,((ax n).foldl (jq lt) ([],[])).1.length=n/\(∀ l∈((ax n).foldl (jq lt) ([],[])).2,l < n)/\∀ i,i < n->-1<=((ax n).foldl (jq lt) ([],[])).1.getD i 0/\((ax n).foldl (jq lt) ([],[])).1.getD i 0 < (i:Int)
 | 0=>⟨rfl,fun J h=>(nomatch h),fun i h=>absurd h (jS i)⟩
 | n+1=>by
  refine ir (oV lt n) ?_;intro h1 h2 h3;rw [g9,dB,a9,List.foldl_nil];generalize (ax n).foldl (jq lt) ([],[])=a at h1 h2 h3;obtain ⟨own,pile⟩:=a;dsimp only at h1 h2 h3;unfold jq;dsimp only;refine ⟨by rw [ak,h1];rfl,?_,?_⟩
  ·intro l hl
   rcases aM.mp hl with hl | hl
   ·have:=h2 l ((aT.mp hl).1);exact (pn [_,_] 0x1DA18101D10) this
   ·rcases ae.mp hl with rfl;exact pn [_] 0x1DA1800
  ·intro i hi
   by_cases hin:i < n
   ·have:=h3 i hin
    rw [aq,List.getElem?_append_left (by exact (pn [_,_,_] 0x1D021D121DA18122D10) h1 hi hin),<- aq];exact this
   ·have:i=n:=by exact (pn [_,_] 0x2D102F1D101DA1810) hi hin
    subst this;rw [aq,f6 (by exact (pn [_,_] 0x0D102D10) h1),h1,ky];show -1<=(((-1:Int)::(pile.filter fun l=>lt l i).map fun (l:Nat)=>(l:Int)).getLast (by simp))/\(((-1:Int)::(pile.filter fun l=>lt l i).map fun (l:Nat)=>(l:Int)).getLast (by simp)) < (i:Int);have hm:=ju (l:=(-1:Int)::(pile.filter fun l=>lt l i).map fun (l:Nat)=>(l:Int)) (by simp);rcases ar.mp hm with e | hm
    ·rw [e];exact pn [_] 0x0F1E2C03C180E3C183C18
    ·refine bO (aB.mp hm) ?_;intro l hl e
     rw [<- e]
     have:=h2 l ((aT.mp hl).1);exact (pn [_,_] 0x0F1E2C12C00E2C03C181D10) this
end
end Mine
end
section
namespace Mine
noncomputable section
abbrev eA:=List (Int×List (Int×Int))
noncomputable def du (t:eA):PV:=.dct (t.map fun p=>(p.1,bc p.2))
noncomputable def eO (ab x o y:Int):List (Int×Int):=ia [(ab,x)] [(o,y)]
theorem zo {t s:List (Int×Int)} (ht:t.length<=20) (hs:s.length<=20):o1.fn "add_callers" [bc t,bc s]=some (bc (ia t s)):=zn ht hs
theorem zW {t:List (Int×Int)} (ht:t.length<=60):o1.fn "count_calls" [bc t]=some (.int (bY t)):=s8 ht
theorem CL (x:Int):o1.fn "ISTERMINAL" [.int x]=some (.bool (decide (x < 256))):=vm x
theorem EK (x:Int):o1.fn "ISNONTERMINAL" [.int x]=some (.bool (decide (x ≥ 256))):=yz x
theorem yP (x:Int):o1.fn "ISEOF" [.int x]=some (.bool (x == 0)):=yQ x
structure FY (x o y:Int):Prop where
 x1:7<=x
 x2:x < 256
 y1:7<=y
 y2:y < 256
 o:o=0\/256<=o
noncomputable def EX (Y A:PV) (a:eA×Option (PV×PV×PV×PV)):SE:=[nm "symbols" Y,nm "owners" A,ow "table" (du a.1)]++(match a.2 with | none=>[] | some (r,w,e,c)=>[nm "row" r,nm "owner" w,nm "ends" e,nm "calls" c])
theorem jj {l:List (Int×PV)}{k:Int}{v:PV} (h:∀ p∈l,p.1≠k):jc l k v=l++[(k,v)]:=by
 unfold jc;rw [if_neg];intro hh;refine bO (dM.mp hh) ?_;intro p hp e;exact h p hp (of_decide_eq_true e)
noncomputable def fG (a:Int):Int:=if a < 0 then 0 else 256+a
theorem zK {n:Nat}{x o y ab:Nat->Int} (hn:n<=5) (h:∀ i,i < n->FY (x i) (o i) (y i)) :
  e5 o1 qM.W 100 qM.params qM.scope qM.body [.lst ((ax n).map fun i=>aL [x i,256+(i:Int),y i,o i]),aL ((ax n).map ab)]=some (du ((0,[])::(ax n).map fun (i:Nat)=>(256+(i:Int),eO (fG (ab i)) (x i - 6) (o i) (y i - 6)))):=by
 generalize hY:PV.lst ((ax n).map fun i=>aL [x i,256+(i:Int),y i,o i])=Y;generalize hA:aL ((ax n).map ab)=A;refine dY (σ:=[nm "symbols" Y,nm "owners" A]) (by kernel_rfl) (by kernel_rfl) (aI:=[]) ?_;show exs _ _ _ (c6 178).names _ (db 178)=_
 conv=>lhs;arg 6;whnf
 refine (aj (aI:=EX Y A ([(0,[])],none)) (by rfl)).trans ?_
 let T:Nat->eA:=fun j=>(0,[])::(ax j).map fun (i:Nat)=>(256+(i:Int),eO (fG (ab i)) (x i - 6) (o i) (y i - 6))
 let f:(eA×Option (PV×PV×PV×PV))->Nat->(eA×Option (PV×PV×PV×PV)):=fun a i=>(a.1++[(256+(i:Int),eO (fG (ab i)) (x i - 6) (o i) (y i - 6))],some (aL [x i,256+(i:Int),y i,o i],.int (ab i),aL [256+(i:Int),o i],aL [x i - 6,y i - 6]))
 refine gV (EX Y A) (fun j a=>a.1=T j) f (fun i=>.tup [aL [x i,256+(i:Int),y i,o i],.int (ab i)]) 50 (ax n) ([(0,[])],none) rfl ?_ ?_ rfl ?_ ?_
 ·refine (t0 (l:=(ax n).map fun i=>aL [x i,256+(i:Int),y i,o i]) (m:=((ax n).map ab).map .int) (by rfl) (by rfl) (by subst hY;rfl) (by subst hA;rfl) (by simp;exact (pn [_] 0x0D1000003900D580) hn) (by simp;exact (pn [_] 0x0D1000003900D580) hn)).trans ?_
  rw [ao];generalize ax n=r;congr 1
  induction r with
  | nil=>rfl
  | cons i r ih=>rw [aw,aw,aw,lx,ih];rfl
 ·rw [bf];exact (pn [_] 0x0D6119A18A032190D580) hn
 ·intro i a j m hj hP
  have hin:i < n/\i=j:=by
   rw [aQ] at hj;refine xE hj ?_;clear hj;intro h1 h2;rw [List.getElem_range] at h2;rw [bf] at h1;exact ⟨h1,h2⟩
  refine xA hin ?_;clear hin;rintro hin rfl;obtain ⟨t,l⟩:=a;dsimp only at hP;subst hP;obtain ⟨x1,x2,y1,y2,ho⟩:=h i hin;refine ⟨?_,?_⟩
  ·show T i++_=T (i+1)
   show _=(0,[])::(ax (i+1)).map _;rw [g9,aN];rfl
  have hlenT:(T i).length<=20:=by show ((0,[])::_).length<=20;rw [aD,aa,bf];exact (pn [_,_] 0x0D1419A1811D010D580) hn hin
  have hkey:∀ p∈(T i).map (fun p=>(p.1,bc p.2)),p.1≠256+(i:Int):=by
   intro p hp;refine bO (aB.mp hp) ?_;rintro q hq rfl;dsimp only;rcases ar.mp hq with rfl | hq
   ·lia
   ·refine bO (aB.mp hq) ?_;rintro k hk rfl
    have:=dT.mp hk
    dsimp only;exact (pn [_,_] 0x2F2EA2C1010029A2C00100291D10) this
  generalize hTi:T i=t at hlenT hkey;show ∃ aI,_/\_=some (Fl.next,EX Y A (t++[(256+(i:Int),eO (fG (ab i)) (x i - 6) (o i) (y i - 6))],some (aL [x i,256+(i:Int),y i,o i],.int (ab i),aL [256+(i:Int),o i],aL [x i - 6,y i - 6])));generalize x i=x at *
  generalize y i=y at *
  generalize o i=o at *
  generalize ab i=ab
  let row:=[x,256+(i:Int),y,o]
  let rest:SE:=match l with | none=>[] | some (_,_,e,c)=>[nm "ends" e,nm "calls" c]
  let GS:SE:=[nm "symbols" Y,nm "owners" A,ow "table" (du t),nm "row" (aL row),nm "owner" (.int ab)]++rest
  refine ⟨GS,by cases l<;>kernel_rfl,?_⟩
  let rest2:SE:=match l with | none=>[] | some (_,_,e,c)=>[nm "calls" c]
  let DH:SE:=[nm "symbols" Y,nm "owners" A,ow "table" (du t),nm "row" (aL row),nm "owner" (.int ab),nm "ends" (aL [256+(i:Int),o])]++rest2
  have e1:row.filter (fun z=>decide (z ≥ 256) || z == 0)=[256+(i:Int),o]:=by
   show ([x,256+(i:Int),y,o]:List Int).filter _=_;have hx:(decide (x ≥ 256) || x == 0)=false:=by simp;exact (pz [] [_] 0x0F2F2E0801E01002901E01002900E078) x1 x2
   have hy:(decide (y ≥ 256) || y == 0)=false:=by simp;exact (pz [] [_] 0x0F2F2E0801E01002901E01002900E078) y1 y2
   have hi:(decide (256+(i:Int) ≥ 256) || 256+(i:Int) == 0)=true:=by simp;exact pn [_] 0x1F2E08A2C00100290EA2C0010029010029
   have ho':(decide (o ≥ 256) || o == 0)=true:=by simp;exact (pz [] [_] 0x1F2E0800E00100291F0E00100292E080) ho
   rw [aU (by rw [hx];decide),aZ (by rw [hi]),aU (by rw [hy];decide),aZ (by rw [ho']),List.filter_nil]
  have e2:row.filter (fun z=>decide (z < 256) && !(z == 0))=[x,y]:=by
   show ([x,256+(i:Int),y,o]:List Int).filter _=_;have hx:(decide (x < 256) && !(x == 0))=true:=by simp;exact (pz [] [_] 0x0F2F2E0801E01002901E01002900E078) x1 x2
   have hy:(decide (y < 256) && !(y == 0))=true:=by simp;exact (pz [] [_] 0x0F2F2E0801E01002901E01002900E078) y1 y2
   have hi:(decide (256+(i:Int) < 256) && !(256+(i:Int) == 0))=false:=by simp;exact pn [_] 0x2E08A2C00100291E010029A2C0010029
   have ho':(decide (o < 256) && !(o == 0))=false:=by simp;exact (pz [] [_] 0x2E0801E01002901F0E00100292E080) ho
   rw [aZ (by rw [hx]),aU (by rw [hi];decide),aZ (by rw [hy]),aU (by rw [ho'];decide),List.filter_nil]
  refine (aj (aI:=DH) ?_).trans ?_
  ·refine (bm (u:=aL [256+(i:Int),o]) (by rfl) ?_).trans (by rcases l with _ | ⟨_,_,e,c⟩<;>kernel_rfl)
   refine (bw (items:=row.map .int) (rs:=(row.filter fun z=>decide (z ≥ 256) || z == 0).map fun z=>(.none,.int z)) (by rfl) (by rcases l with _ | ⟨_,_,e,c⟩<;>kernel_rfl) ?_ (by rw [e1];simp)).trans (by rw [e1];kernel_rfl);refine bx (fun z=>decide (z ≥ 256) || z == 0) (fun z=>.int z) (fun z=>.int z) 30 (by rcases l with _ | ⟨_,_,e,c⟩<;>kernel_rfl) row _ ?_ ?_
   ·show 30+4+1<=_
    exact id (pn [_] 0x0DA2F190A18A481E19)
   ·intro z q hz
    refine ⟨[nm "one" (.int z)],by rcases l with _ | ⟨_,_,e,c⟩<;>kernel_rfl,?_,fun J=>by kernel_rfl⟩;refine bj (kI (ci (b:=decide (z ≥ 256)) (c:=z == 0) ?_ fun J=>?_))
    ·exact lA (fu (v':=.int z) (v:=.int z) (by rfl) (by rfl) (by rfl) (by rfl) (EK z))
    ·rw [show (z == 0)=((z == 0) || false) from (jy _).symm]
     exact ci (lA (fu (v':=.int z) (v:=.int z) (by rfl) (by rfl) (by rfl) (by rfl) (yP z))) fun J=>jk
  let HU:SE:=[nm "symbols" Y,nm "owners" A,ow "table" (du t),nm "row" (aL row),nm "owner" (.int ab),nm "ends" (aL [256+(i:Int),o]),nm "calls" (aL [x - 6,y - 6])]
  refine (aj (aI:=HU) ?_).trans ?_
  ·refine (bm (u:=aL [x - 6,y - 6]) (by rfl) ?_).trans (by rcases l with _ | ⟨_,_,e,c⟩<;>kernel_rfl)
   refine (bw (items:=row.map .int) (rs:=(row.filter fun z=>decide (z < 256) && !(z == 0)).map fun z=>(.none,.int (z - 6))) (by rfl) (by rcases l with _ | ⟨_,_,e,c⟩<;>kernel_rfl) ?_ (by rw [e2];simp)).trans (by rw [e2];kernel_rfl);refine bx (fun z=>decide (z < 256) && !(z == 0)) (fun z=>.int (z - 6)) (fun z=>.int z) 30 (by rcases l with _ | ⟨_,_,e,c⟩<;>kernel_rfl) row _ ?_ ?_
   ·show 30+4+1<=_
    exact id (pn [_] 0x0DA2E190A18A481E19)
   ·intro z q hz
    refine ⟨[nm "one" (.int z)],by rcases l with _ | ⟨_,_,e,c⟩<;>kernel_rfl,?_,fun J=>by kernel_rfl⟩;refine bj (hX (de (b:=decide (z < 256)) (c:=!(z == 0)) ?_ fun J=>?_))
    ·exact lA (fu (v':=.int z) (v:=.int z) (by rfl) (by rfl) (by rfl) (by rfl) (CL z))
    ·exact bj (Es (lA (fu (v':=.int z) (v:=.int z) (by rfl) (by rfl) (by rfl) (by rfl) (yP z))))
  refine (aj (aI:=EX Y A (t++[(256+(i:Int),eO (fG ab) (x - 6) o (y - 6))],some (aL row,.int ab,aL [256+(i:Int),o],aL [x - 6,y - 6]))) ?_).trans (by rfl);refine (fP (c:=du t) (k:=.int (256+(i:Int))) (u:=bc (eO (fG ab) (x - 6) o (y - 6))) (c':=du (t++[(256+(i:Int),eO (fG ab) (x - 6) o (y - 6))])) (by rfl) (by rfl) ?_ (by rfl) ?_).trans (by rfl)
  ·refine jn (vs:=[bc [(fG ab,x - 6)],bc [(o,y - 6)]]) (by rfl) (ay ?_ (ay (by rfl) a8)) (by rfl) (zo (by simp) (by simp))
   refine yH ?_ (by rfl);refine e7 (c:=decide (ab < 0)) (by rfl) (fun hc=>?_) (fun hc=>?_)
   ·unfold fG;rw [if_pos (of_decide_eq_true hc)];rfl
   ·unfold fG;rw [if_neg (of_decide_eq_false hc)];rfl
  ·show (if (t.map fun p=>(p.1,bc p.2)).length<=1048576 then some (PV.dct (jc (t.map fun p=>(p.1,bc p.2)) (256+(i:Int)) _)) else none)=_
   rw [if_pos (by rw [aa];exact (pn [_] 0x0D1000003900D14190) hlenT),jj hkey];unfold du;rw [aN];rfl
 ·intro b hb hP
  rw [bf] at hP;obtain ⟨t,l⟩:=b;dsimp only at hP;subst hP;rcases l with _ | ⟨r,w,e,c⟩<;>exact bD (by kernel_rfl)
end
end Mine
end
section
namespace Mine
noncomputable section
noncomputable def gB {α:Type} (l:List (Int×α)) (k:Int):Option α:=(l.find? fun p=>p.1=k).map (·.2)
theorem fJ {α:Type} (f:α->PV) (l:List (Int×α)) (k:Int):ej (l.map fun p=>(p.1,f p.2)) k=(gB l k).map f:=wc f l k
noncomputable def ie (l:List (Int×Str)):PV:=.dct (l.map fun p=>(p.1,.str p.2))
noncomputable def c0 (t:eA) (u v:Int):Bool:=((gB t u).bind fun r=>gI r v).isSome || ((gB t v).bind fun r=>gI r u).isSome
abbrev F0:=List Int×List (Int×Str)×List (Int×Int)
noncomputable def oO (t:eA) (order:List Int) (pieces:List (Int×Str)) (a:F0):F0:=
 let top:=a.1.getLastD 0
 match order.filter fun v=>!(gB a.2.1 v).isSome && c0 t top v with
 | v::_=>(a.1++[v],a.2.1++[(v,(gB a.2.1 top).getD default++(gB pieces top).getD default)],a.2.2++[(v,top)])
 | []=>if a.1.length < 2 then a else (a.1.dropLast,a.2)
noncomputable def j4 (t:eA) (order:List Int) (pieces:List (Int×Str)) (n:Nat):F0:=(ax n).foldl (fun a J=>oO t order pieces a) ([order.headD 0],[(order.headD 0,"")],[])
structure Ga (order:List Int) (i:Nat) (a:F0):Prop where
 ne:a.1≠[]
 road:∀ v∈a.1,v∈order
 seen:∀ v∈a.1,(gB a.2.1 v).isSome=true
 len:∀ p∈a.2.1,p.2.length<=2 * i
 own:∀ p∈a.2.2,(gB a.2.1 p.1).isSome=true
 l1:a.1.length<=i+1
 l2:a.2.1.length<=i+1
 l3:a.2.2.length<=i+1
theorem zk {α:Type}{l m:List (Int×α)}{k:Int} (h:(gB l k).isSome=true):gB (l++m) k=gB l k:=by
 unfold gB at h ⊢;rw [List.find?_append]
 cases hf:l.find? (fun p=>decide (p.1=k)) with
 | none=>rw [hf] at h;cases h
 | some p=>rfl
theorem iL {α:Type}{l:List (Int×α)}{k:Int}{v:α} (h:gB l k=some v):(k,v)∈l:=by
 unfold gB at h;refine bO (b3.mp h) ?_;rintro p hp rfl
 have:=g7 hp
 have hk:p.1=k:=of_decide_eq_true this;subst hk;exact c4 hp
theorem wh {α:Type}{l:List (Int×α)}{k:Int} (h:(gB l k).isSome=false):∀ p∈l,p.1≠k:=by
 intro p hp e;unfold gB at h;rw [bC] at h
 have:(l.find? fun p=>decide (p.1=k)).isSome=true:=by rw [fL];exact ⟨p,hp,decide_eq_true e⟩
 rw [this] at h;cases h
theorem je {α:Type}{l:List (Int×α)}{p:Int×α} (h:p∈l):(gB l p.1).isSome=true:=by
 unfold gB;rw [bC,fL];exact ⟨p,h,decide_eq_true rfl⟩
theorem fY {α:Type}{l:List (Int×α)} (h:(l.map (·.1)).Nodup) {p:Int×α} (hp:p∈l):gB l p.1=some p.2:=by
 induction l with
 | nil=>cases hp
 | cons q l ih=>
  rw [aw,bI] at h;unfold gB;rw [g8];rcases ar.mp hp with rfl | hp
  ·simp
  ·have:¬ q.1=p.1:=fun e=>h.1 (e ▸ b5 hp)
   simp only [this,decide_false];exact ih h.2 hp
theorem yE {α:Type} (l:List α):ms l none (some 1)=l.take 1:=by
 unfold ms b9;simp only [jU,d9,gc,bJ,pq];rw [if_neg (by exact pn [] 0x2F1E0818)]
 cases l with
 | nil=>rfl
 | cons a l=>rw [show min (1:Int).toNat (a::l).length=1 from by rw [aD];exact pn [_] 0x2D180CA1802C18]
theorem CW {α:Type} (l:List α):ms l none (some (-1))=l.dropLast:=by
 unfold ms b9;simp only [jU,d9,gc,bJ,pq];rw [if_pos (by exact pn [] 0x1E083C18),List.dropLast_eq_take];congr 1;exact pn [_] 0x2DB1802CA2C03C18
theorem fZ {l:List PV}{a b:Option Int}{r:List PV} (hl:l.length<=1048576) (h:ms l a b=r):mC (.lst l) a b=some (.lst r):=by
 show (if l.length<=1048576 then some (PV.lst (ms l a b)) else none)=_;rw [if_pos hl,h]
theorem pU {x y:List PV} (hx:x.length<=1048576) (hy:y.length<=1048576):jW .Add (.lst x) (.lst y)=some (.lst (x++y)):=by
 show (if (decide (x.length<=1048576) && decide (y.length<=1048576))=true then some (PV.lst (x++y)) else none)=_;rw [if_pos (by simp [hx,hy])]
theorem add_str {x y:Str} (hx:x.length<=1048576) (hy:y.length<=1048576):jW .Add (.str x) (.str y)=some (.str (x++y)):=by
 show (if (decide (x.length<=1048576) && decide (y.length<=1048576))=true then some (PV.str (x++y)) else none)=_;rw [if_pos (by simp [hx,hy])]
set_option tactic.hygienic true in
theorem A8 {t:eA}{order:List Int}{pieces:List (Int×Str)} (hp:∀ v∈order,∃ s,gB pieces v=some s/\s.length<=2) {i:Nat}{a:F0} (h:Ga order i a):Ga order (i+1) (oO t order pieces a):=by
 obtain ⟨road,leads,owners⟩:=a;obtain ⟨h1,h2,h3,h4,h5,h6,h7,h8⟩:=h;dsimp only at h1 h2 h3 h4 h5 h6 h7 h8;unfold oO;dsimp only;have htop:road.getLastD 0∈road:=by
  rw [bZ,bF h1];exact ju h1
 split
 ·rename_i v rest hf
  have hv:v∈order/\(!(gB leads v).isSome && c0 t (road.getLastD 0) v)=true:=by
   have:=aT.mp (show v∈order.filter _ from by rw [hf];exact am)
   exact this
  refine bO (hp _ (h2 _ htop)) ?_;intro s hs hsl;refine xE (aS.mp (h3 _ htop)) ?_;intro s' hs';refine ⟨by simp,?_,?_,?_,?_,?_,?_,?_⟩
  ·intro u hu
   rcases aM.mp hu with hu | hu
   ·exact h2 u hu
   ·rcases ae.mp hu with rfl;exact hv.1
  ·intro u hu
   rcases aM.mp hu with hu | hu
   ·dsimp only;rw [zk (h3 u hu)];exact h3 u hu
   ·rcases ae.mp hu with rfl
    exact je (p:=(u,_)) (b6 _ (ae.mpr rfl))
  ·intro p hp'
   rcases aM.mp hp' with hp' | hp'
   ·have:=h4 p hp';exact (pn [_,_] 0x0D4CA1812800D4C1280) this
   ·rcases ae.mp hp' with rfl
    dsimp only
    have:=h4 _ (iL hs')
    rw [hs,hs',bJ,bJ,Str.length_append];dsimp only at this;exact (pn [_,_,_] 0x0D4CA18228A010D4C22810D280) hsl this
  ·intro p hp'
   rcases aM.mp hp' with hp' | hp'
   ·dsimp only;rw [zk (h5 p hp')];exact h5 p hp'
   ·rcases ae.mp hp' with rfl
    exact je (p:=(v,_)) (b6 _ (ae.mpr rfl))
  all_goals (dsimp only;rw [ak,bd];lia)
 ·split
  ·exact ⟨h1,h2,h3,fun p hp=>by have:=h4 p hp;exact (pn [_,_] 0x0D4CA1812800D4C1280) this,h5,by dsimp only;exact (pn [_,_] 0x0DA18A18100DA1810) h6,by dsimp only;exact (pn [_,_] 0x0DA18A18100DA1810) h7,by dsimp only;exact (pn [_,_] 0x0DA18A18100DA1810) h8⟩
  ·rename_i hl
   refine ⟨?_,fun v hv=>h2 v (cb _ hv),fun v hv=>h3 v (cb _ hv),fun p hp=>by have:=h4 p hp;exact (pn [_,_] 0x0D4CA1812800D4C1280) this,h5,?_,by dsimp only;exact (pn [_,_] 0x0DA18A18100DA1810) h7,by dsimp only;exact (pn [_,_] 0x0DA18A18100DA1810) h8⟩
   ·intro e
    have:=congrArg ef e
    rw [dq,bB] at this;exact (pn [_] 0x2F2D08B1802F1D280) hl this
   ·dsimp only;rw [dq];exact (pn [_,_] 0x0DA18A181B1802F1D2800DA1810) h6 hl
theorem yI {α β γ:Type}{f:α->α}{g:α->β->γ}:∀ (xs:List β) (a:α×Option γ),(xs.foldl (fun (a:α×Option γ) x=>(f a.1,some (g a.1 x))) a).1=xs.foldl (fun a J=>f a) a.1
 | [],a=>rfl
 | x::xs,a=>yI xs (f a.1,some (g a.1 x))
noncomputable def pe (T O P:PV) (a:F0×Option (PV×PV)):SE:=[nm "table" T,nm "order" O,nm "pieces" P,nm "road" (aL a.1.1),ow "leads" (ie a.1.2.1),ow "owners" (bc a.1.2.2)]++(match a.2 with | none=>[] | some (t,f)=>[nm "turn" t,nm "fresh" f])
theorem BV {t:eA}{order:List Int}{pieces:List (Int×Str)} (h0:order≠[]) (hl:order.length<=10) (ht:∀ v∈order,(gB t v).isSome=true) (hp:∀ v∈order,∃ s,gB pieces v=some s/\s.length<=2) :
  e5 o0 uF.W 120 uF.params uF.scope uF.body [du t,aL order,ie pieces]=some (.tup [ie (j4 t order pieces 11).2.1,bc (j4 t order pieces 11).2.2]):=by
 generalize hT:du t=T;generalize hO:aL order=O;generalize hP:ie pieces=P;refine dY (σ:=[nm "table" T,nm "order" O,nm "pieces" P]) (by kernel_rfl) (by kernel_rfl) (aI:=[]) ?_;show exs _ _ _ (c6 183).names _ (db 183)=_
 conv=>lhs;arg 6;whnf
 have hol:(order.map PV.int).length<=1048576:=by rw [aa];exact (pn [_] 0x0D1000003900DA80) hl
 refine (aj (aI:=pe T O P (([order.headD 0],[(order.headD 0,"")],[]),none)) ?_).trans ?_
 ·cases order with
  | nil=>exact absurd rfl h0
  | cons a r=>
   subst hO;refine tS (xs:=["road","leads","owners"]) (ps:=[aL [a],ie [(a,"")],bc []]) (by rfl) (by rfl) ?_ (by rfl);refine ay ?_ (ay ?_ (ay (by rfl) a8))
   ·refine Bg (ay (bt (b:=aL (a::r)) (k:=.int ((0:Nat):Int)) (by intros;intro h;cases h) (by kernel_rfl) (by rfl) (by rfl) (em (by rfl) hol)) a8) (by simp)
   ·exact yH (bt (b:=aL (a::r)) (k:=.int ((0:Nat):Int)) (by intros;intro h;cases h) (by kernel_rfl) (by rfl) (by rfl) (em (by rfl) hol)) (by rfl)
 refine gV (pe T O P) (fun i a=>Ga order i a.1) (fun a (x:Nat)=>(oO t order pieces a.1,some (PV.int ((0:Int)+(x:Int)),aL (order.filter fun v=>!(gB a.1.2.1 v).isSome && c0 t (a.1.1.getLastD 0) v)))) (fun (x:Nat)=>.int ((0:Int)+(x:Int))) 60 (ax 11) (([order.headD 0],[(order.headD 0,"")],[]),none) rfl (by kernel_rfl) (by decide) ?_ ?_ ?_
 ·refine ⟨by simp,?_,?_,?_,fun J h=>(nomatch h),aE _,aE _,bP _⟩
  ·intro v hv
   rcases ae.mp hv with rfl
   cases order with
   | nil=>exact absurd rfl h0
   | cons a r=>exact am
  ·intro v hv
   rcases ae.mp hv with rfl
   exact je (l:=[(order.headD 0,(Str.ofString ""))]) (ae.mpr rfl)
  ·intro p hp
   rcases ae.mp hp with rfl;exact aE _
 ·intro i a x n hx hinv
  have hi:i<=11:=by
   rw [aQ] at hx;refine xE hx ?_;clear hx;intro h1 _;rw [bf] at h1;exact (pn [_] 0x0DB801DB80) h1
  refine ⟨A8 hp hinv,?_⟩;obtain ⟨⟨road,leads,owners⟩,l⟩:=a;obtain ⟨h1,h2,h3,h4,h5,h6,h7,h8⟩:=hinv;dsimp only at h1 h2 h3 h4 h5 h6 h7 h8;dsimp only;have hlast:road.getLast?=some (road.getLastD 0):=by rw [bZ,bF h1];rfl
  have htop:road.getLastD 0∈road:=by
   rw [bZ,bF h1];exact ju h1
  unfold oO;dsimp only;generalize hfresh:(order.filter fun v=>!(gB leads v).isSome && c0 t (road.getLastD 0) v)=fresh;generalize htopg:road.getLastD 0=top at *
  have hrl:(road.map PV.int).getLast?=some (.int top):=by rw [List.getLast?_map,hlast];rfl
  have hrlen:(road.map PV.int).length<=1048576:=by rw [aa];exact (pn [_,_] 0x0D1000003910DA18010DB80) hi h6
  have hfl:fresh.length<=10:=by
   have:=aF (fun v=>!(gB leads v).isSome && c0 t top v) order
   rw [hfresh] at this;exact (pn [_,_] 0x0DA810D010DA80) hl this
  have hflen:(fresh.map PV.int).length<=1048576:=by rw [aa];exact (pn [_] 0x0D1000003900DA80) hfl
  let turn:PV:=.int ((0:Int)+(x:Int))
  let GS:SE:=[nm "table" T,nm "order" O,nm "pieces" P,nm "road" (aL road),ow "leads" (ie leads),ow "owners" (bc owners)]++(match l with | none=>[nm "turn" turn] | some (t,f)=>[nm "turn" turn,nm "fresh" f])
  refine ⟨GS,by cases l<;>kernel_rfl,?_⟩
  let DH:SE:=pe T O P ((road,leads,owners),some (turn,aL fresh))
  refine xE (aS.mp (ht top (h2 _ htop))) ?_;intro row hrow;refine (aj (aI:=DH) ?_).trans ?_
  ·refine (bm (u:=aL fresh) (by rfl) ?_).trans (by cases l<;>kernel_rfl)
   refine (bw (items:=order.map .int) (rs:=(order.filter fun v=>!(gB leads v).isSome && c0 t top v).map fun z=>(.none,.int z)) (by rfl) ?_ ?_ ?_).trans ?_
   ·subst hO
    refine Eq.trans (b:=if (order.map PV.int).length<=1048576 then some (order.map .int) else none) (by cases l<;>kernel_rfl) (if_pos hol)
   ·refine bx (fun v=>!(gB leads v).isSome && c0 t top v) (fun z=>.int z) (fun z=>.int z) 30 (by cases l<;>kernel_rfl) order _ ?_ ?_
    ·exact (pn [_,_] 0x0DA39191A18A01E190DA80) hl
    ·intro v q hv
     refine xE (aS.mp (ht v hv)) ?_;intro row' hrow';refine ⟨[nm "table" T,nm "road" (aL road),ow "leads" (ie leads),nm "node" (.int v)],by cases l<;>kernel_rfl,?_,fun J=>by kernel_rfl⟩;subst hT;have er:∀ (u:Int) (r:List (Int×Int)),gB t u=some r->item (du t) (.int u)=some (bc r):=by
      intro u r hu;show ej _ _=_;rw [fJ bc t u,hu];rfl
     refine bj (hX (de (b:=!(gB leads v).isSome) ?_ fun J=>?_))
     ·refine br (iF (a:=.int v) (b:=ie leads) (by rfl) (by rfl) (by rfl) (by rfl) ?_)
      show ca (!·) (some (ej _ v).isSome)=_;rw [fJ PV.str leads v,bC];rfl
     ·have e:c0 t top v=((gI row v).isSome || ((gI row' top).isSome || false)):=by unfold c0;rw [hrow,hrow',jy];rfl
      rw [e];have hr:∀ {n:Nat}{p q r':Pos}{k:Nat},True:=trivial;refine bj (kI (ci ?_ fun J=>ci ?_ fun J=>jk))
      ·refine br (iF (a:=.int v) (b:=bc row) (by rfl) (by rfl) (by rfl) ?_ ?_)
       ·show ev _ _ _ _ _=_
        refine bt (b:=du t) (k:=.int top) (by intros;intro h;cases h) (by rfl) (by rfl) ?_ (er _ _ hrow);exact bt (b:=aL road) (k:=.int (-1)) (by intros;intro h;cases h) (by rfl) (by rfl) (by rfl) (gU hrl hrlen)
       ·show some (ej _ v).isSome=_
        rw [d2,bC]
      ·refine br (iF (a:=.int top) (b:=bc row') ?_ (by rfl) (by rfl) ?_ ?_)
       ·exact bt (b:=aL road) (k:=.int (-1)) (by intros;intro h;cases h) (by rfl) (by rfl) (by rfl) (gU hrl hrlen)
       ·show ev _ _ _ _ _=_
        exact bt (b:=du t) (k:=.int v) (by intros;intro h;cases h) (by rfl) (by rfl) (by rfl) (er _ _ hrow')
       ·show some (ej _ top).isSome=_
        rw [d2,bC]
   ·rw [hfresh,aa];exact (pn [_] 0x0D1000003900DA80) hfl
   ·rw [hfresh,ao];rfl
  cases fresh with
  | nil=>
   show exs _ _ _ _ DH _=some (Fl.next,pe T O P ((if road.length < 2 then (road,leads,owners) else (road.dropLast,leads,owners)),some (turn,aL [])));refine (aj (aI:=DH) (by rfl)).trans ?_;have hlen:ev o0 (n+50) (c6 183).names DH (.Name "road" default)=some (aL road):=by rfl
   by_cases h2':road.length < 2
   ·rw [if_pos h2']
    refine (aj (aI:=DH) ?_).trans (by rfl);refine (bm (u:=aL road) (by rfl) ?_).trans (by kernel_rfl);refine e7 (c:=true) ?_ (fun J=>?_) (fun h=>nomatch h)
    ·refine kI (ci (b:=false) (by kernel_rfl) fun J=>ci (b:=true) (c:=true) ?_ fun h=>nomatch h)
     refine br (da (a:=.int (road.length:Int)) (b:=.int 2) ?_ (by rfl) (by rfl) (congrArg some (decide_eq_true (by exact (pn [_] 0x1E282C01D280) h2'))));refine b7 (v:=aL road) (by kernel_rfl) (by rfl) ?_;show (if (road.map PV.int).length<=1048576 then some (PV.int ((road.map PV.int).length:Int)) else none)=_;rw [if_pos hrlen,aa]
    ·refine aW (a:=aL road) (b:=aL []) (by rfl) (by rfl) ((pU hrlen (by simp)).trans ?_)
     rw [cM,fm];rfl
   ·rw [if_neg h2']
    refine (aj (aI:=pe T O P ((road.dropLast,leads,owners),some (turn,aL []))) ?_).trans (by rfl);refine (bm (u:=aL road.dropLast) (by rfl) ?_).trans (by kernel_rfl);refine e7 (c:=false) ?_ (fun h=>nomatch h) (fun J=>?_)
    ·refine kI (ci (b:=false) (by kernel_rfl) fun J=>ci (b:=false) (c:=false) ?_ fun J=>jk)
     refine br (da (a:=.int (road.length:Int)) (b:=.int 2) ?_ (by rfl) (by rfl) (congrArg some (decide_eq_false (by exact (pn [_] 0x2F1E282C02F1D280) h2'))));refine b7 (v:=aL road) (by kernel_rfl) (by rfl) ?_;show (if (road.map PV.int).length<=1048576 then some (PV.int ((road.map PV.int).length:Int)) else none)=_;rw [if_pos hrlen,aa]
    ·exact fB (b:=aL road) (l:=none) (h:=some (-1)) (by rfl) (by rfl) (by rfl) (fZ hrlen ((CW _).trans (List.map_dropLast ..).symm))
  | cons v rest=>
   have hv:v∈order/\(!(gB leads v).isSome && c0 t top v)=true:=by
    have:=aT.mp (show v∈order.filter _ from by rw [hfresh];exact am)
    exact this
   have hvl:(gB leads v).isSome=false:=by
    have:=(aR _ _ |>.mp hv.2).1
    simpa using this
   have hvo:(gB owners v).isSome=false:=by
    cases ho:gB owners v with
    | none=>rfl
    | some u=>have:=h5 _ (iL ho);dsimp only at this;rw [hvl] at this;cases this
   refine bO (hp _ (h2 _ htop)) ?_;intro s hs hsl;refine xE (aS.mp (h3 _ htop)) ?_;intro s' hs';have hsl':s'.length<=2 * i:=h4 _ (iL hs');rw [hs,hs'];dsimp only [bJ]
   let HU:SE:=pe T O P ((road,leads,owners++[(v,top)]),some (turn,aL (v::rest)))
   let σe:SE:=pe T O P ((road,leads++[(v,s'++s)],owners++[(v,top)]),some (turn,aL (v::rest)))
   refine (aj (aI:=σe) ?_).trans ?_
   ·refine cn (c:=true) (by kernel_rfl) (fun J=>?_) (fun h=>nomatch h)
    refine (aj (aI:=HU) ?_).trans ((aj (aI:=σe) ?_).trans (by rfl))
    ·refine (fP (c:=bc owners) (k:=.int v) (u:=.int top) (c':=bc (owners++[(v,top)])) (by rfl) (by rfl) ?_ ?_ ?_).trans (by rfl)
     ·exact bt (b:=aL road) (k:=.int (-1)) (by intros;intro h;cases h) (by kernel_rfl) (by rfl) (by rfl) (gU hrl hrlen)
     ·exact bt (b:=aL (v::rest)) (k:=.int ((0:Nat):Int)) (by intros;intro h;cases h) (by kernel_rfl) (by rfl) (by rfl) (em (by rfl) hflen)
     ·show (if (owners.map fun p=>(p.1,PV.int p.2)).length<=1048576 then some (PV.dct (jc (owners.map fun p=>(p.1,PV.int p.2)) v (.int top))) else none)=_
      rw [if_pos (by rw [aa];exact (pn [_,_] 0x0D1000003910DA18010DB80) hi h8),jj]
      ·unfold bc;rw [aN];rfl
      ·intro p hp'
       refine bO (aB.mp hp') ?_;rintro q hq rfl;exact wh hvo q hq
    ·refine (fP (c:=ie leads) (k:=.int v) (u:=.str (s'++s)) (c':=ie (leads++[(v,s'++s)])) (by rfl) (by rfl) ?_ ?_ ?_).trans (by rfl)
     ·refine aW (a:=.str s') (b:=.str s) ?_ ?_ (add_str (by exact (pn [_,_] 0x0D1000003910D4C02810DB80) hi hsl') (by exact (pn [_] 0x0D1000003900D280) hsl))
      ·show ev _ _ _ _ _=_
       refine bt (b:=ie leads) (k:=.int top) (by intros;intro h;cases h) (by rfl) (by rfl) ?_ ?_
       ·exact bt (b:=aL road) (k:=.int (-1)) (by intros;intro h;cases h) (by rfl) (by rfl) (by rfl) (gU hrl hrlen)
       ·show ej _ _=_
        rw [fJ PV.str leads top,hs'];rfl
      ·subst hP
       refine bt (b:=ie pieces) (k:=.int top) (by intros;intro h;cases h) (by rfl) (by rfl) ?_ ?_
       ·exact bt (b:=aL road) (k:=.int (-1)) (by intros;intro h;cases h) (by rfl) (by rfl) (by rfl) (gU hrl hrlen)
       ·show ej _ _=_
        rw [fJ PV.str pieces top,hs];rfl
     ·exact bt (b:=aL (v::rest)) (k:=.int ((0:Nat):Int)) (by intros;intro h;cases h) (by rfl) (by rfl) (by rfl) (em (by rfl) hflen)
     ·show (if (leads.map fun p=>(p.1,PV.str p.2)).length<=1048576 then some (PV.dct (jc (leads.map fun p=>(p.1,PV.str p.2)) v (.str (s'++s)))) else none)=_
      rw [if_pos (by rw [aa];exact (pn [_,_] 0x0D1000003910DA18010DB80) hi h7),jj]
      ·unfold ie;rw [aN];rfl
      ·intro p hp'
       refine bO (aB.mp hp') ?_;rintro q hq rfl;exact wh hvl q hq
   ·refine (aj (aI:=pe T O P ((road++[v],leads++[(v,s'++s)],owners++[(v,top)]),some (turn,aL (v::rest)))) ?_).trans (by rfl)
    refine (bm (u:=aL (road++[v])) (by rfl) ?_).trans (by rfl);refine e7 (c:=true) (kI (ci (b:=true) (c:=true) (by rfl) fun h=>nomatch h)) (fun J=>?_) (fun h=>nomatch h);refine aW (a:=aL road) (b:=aL [v]) (by rfl) ?_ ((pU hrlen (by simp)).trans ?_)
    ·exact fB (b:=aL (v::rest)) (l:=none) (h:=some 1) (by rfl) (by rfl) (by rfl) (fZ hflen (yE _))
    ·unfold aL;rw [aN]
 ·intro b hb _
  have e:=yI (f:=fun a=>oO t order pieces a) (g:=fun (a:F0) (x:Nat)=>(PV.int ((0:Int)+(x:Int)),aL (order.filter fun v=>!(gB a.2.1 v).isSome && c0 t (a.1.getLastD 0) v))) (ax 11) (([order.headD 0],[(order.headD 0,"")],[]),none);have e:b.1=j4 t order pieces 11:=by rw [hb];exact e
  obtain ⟨b,l⟩:=b;dsimp only at e;subst e
  cases l<;>exact bD (by kernel_rfl)
end
end Mine
end
section
namespace Mine
noncomputable section
theorem Ef {α:Type} (l:List α) (p k:Nat) (h:p<=l.length):ms l (some (p:Int)) (some ((p:Int)+(k:Int)))=(l.drop p).take k:=by
 unfold ms b9;simp only [d9,bJ];rw [if_neg (by exact pn [_] 0x2F1E082C0),if_neg (by exact pn [_,_] 0x2F1E08A2C12C0),show ((p:Int)+(k:Int)).toNat=p+k from by exact pn [_,_] 0x2DA102CA2C12C0,show ((p:Int)).toNat=p from by exact pn [_] 0x2D02C2C0,fj h,List.drop_take];by_cases h2:p+k<=l.length
 ·rw [fj h2];congr 1;exact pn [_,_] 0x2D1B0A10
 ·rw [mG (by exact (pn [_,_,_] 0x0DA1022F0D2A10) h2),dI (by rw [df];exact pn [_,_] 0x0DB10B10),dI (by rw [df];exact (pn [_,_,_] 0x0D2B012F0D1A200D10) h h2)]
theorem vY {α:Type} (l:List α) (p:Nat) (h:p<=l.length):ms l (some (p:Int)) none=l.drop p:=by
 unfold ms b9;simp only [d9,bJ,jU,gc];rw [if_neg (by exact pn [_] 0x2F1E082C0),show ((p:Int)).toNat=p from by exact pn [_] 0x2D02C2C0,fj h,jt]
noncomputable def lL (bs:List Bool):Nat:=(bs.takeWhile id).length
theorem wp (bs:List Bool):jY false (bs.map PV.bool++[.bool false])=some (lL bs):=by
 have hall:∀ bs:List Bool,p4 (bs.map PV.bool++[.bool false])=true:=by
  intro bs
  induction bs with
  | nil=>rfl
  | cons b bs ih=>exact ih
 induction bs with
 | nil=>rfl
 | cons b bs ih=>
  cases b with
  | false=>exact ll (hall bs)
  | true=>exact DK (f:=(·+1)) ih
theorem Gw {s:Str} (hs:s.length<=1000) (hb:(s.cps.toList.takeWhile eU).length<=60):o2.fn "Whitespace" [.str s]=some (sG s):=De hs hb
noncomputable def q0 (b:List (Int×List Int)):PV:=.dct (b.map fun p=>(p.1,aL p.2))
noncomputable def zw (leads:List (Int×Str)):List (Str×WS):=leads.map fun p=>(p.2++"x",sf (p.2++"x"))
noncomputable def pf (leads:List (Int×Str)) (i:Nat):List Int:=((leads.map (·.1)).drop i).take (1+lL ((ax (leads.length - (i+1))).map fun j=>ge (zw leads) i (i+1+j)))
noncomputable def lU (leads:List (Int×Str)):List (Int×List Int):=(ax leads.length).map fun i=>((leads.map (·.1)).getD i 0,pf leads i)
structure EW (leads:List (Int×Str)):Prop where
 n:leads.length<=10
 nd:(leads.map (·.1)).Nodup
 sh:∀ p∈leads,p.2.length<=30
 ok:∀ p∈leads,C1 (sf (p.2++"x"))
theorem Bd (s:Str):sG s=jg s (sf s):=rfl
noncomputable def Ec (L S N:PV) (a:List (Int×List Int)×Option (PV×PV×PV)):SE:=[nm "leads" L,nm "spaces" S,nm "nodes" N,ow "blocks" (q0 a.1)]++(match a.2 with | none=>[] | some (s,n,l)=>[nm "spot" s,nm "node" n,nm "less" l])
theorem qf {α:Type} (f:α->PV):∀ (l:List α) (k:Nat),jZ k (l.map f)=(l.zipIdx k).map fun p=>.tup [.int (p.2:Int),f p.1]
 | [],_=>rfl
 | a::l,k=>by rw [aw,jZ,qf f l (k+1),List.zipIdx_cons,aw]
theorem CS {o:cV}{n:Nat}{sc:Sc}{σ:SE}{ob:Expr}{name:Str}{ap cp:Pos}{args:List Expr}{l vs:List PV}{r:PV} (hp:(dt ob && ap.endLine == cp.line && decide (args.length<=8))=true) (hb:ev o n sc σ ob=some (.lst l)) (ha:dK (ev o n sc σ) args=some vs) (hr:Cl (.lst l) name vs=some r) :
  ev o (n+1) sc σ (.Call (.Attribute ob name ap) args [] cp)=some r:=by
 exact (ll hp).trans ((dp hb).trans ((dp ha).trans hr))
theorem ry {o:cV}{n:Nat}{sc:Sc}{σ:SE}{ob:Expr}{name:Str}{ap cp:Pos}{args:List Expr}{l:List (Int×PV)}{vs:List PV}{r:PV} (hp:(dt ob && ap.endLine == cp.line && decide (args.length<=8))=true) (hb:ev o n sc σ ob=some (.dct l)) (ha:dK (ev o n sc σ) args=some vs) (hr:Cl (.dct l) name vs=some r) :
  ev o (n+1) sc σ (.Call (.Attribute ob name ap) args [] cp)=some r:=by
 exact (ll hp).trans ((dp hb).trans ((dp ha).trans hr))
theorem vk {o:cV}{n:Nat}{sc:Sc}{σ:SE}{e:Expr}{i:Int} (h:ev o n sc σ e=some (.int i)):evO o (n+1) sc σ (some e)=some (some i):=dp h
theorem yv {o:cV}{n:Nat}{sc:Sc}{σ:SE}{t c i:Expr}{p:Pos}{v:PV} (h:ev o n sc σ (.Subscript c i p)=some v):evI o (n+1) sc σ t (.Subscript c i p)=mM t v:=by
 exact dp h
theorem xS {l:List PV}{k:Nat}{f:Nat->PV} (h:∀ i,k<=i->i < l.length->l[i]?=some (f i)):l.drop k=(ax (l.length - k)).map fun j=>f (k+j):=by
 refine List.ext_getElem? fun j=>?_;rw [List.getElem?_drop,aK];by_cases hj:j < l.length - k
 ·rw [List.getElem?_range hj,h (k+j) (by exact pn [_,_] 0x0DA100) (by exact (pn [_,_,_] 0x1D1A021DB210) hj)];rfl
 ·rw [c9 (by exact (pn [_,_,_] 0x0DA0212F1DB210) hj),c9 (by rw [bf];exact (pn [_,_,_] 0x0D0B212F1DB210) hj)];rfl
theorem xR {leads:List (Int×Str)} (h:EW leads) (hbl:∀ p∈leads,((p.2++"x").cps.toList.takeWhile eU).length<=60) :
  e5 o2 nA.W 100 nA.params nA.scope nA.body [ie leads]=some (q0 (lU leads)):=by
 obtain ⟨hn,hnd,hsh,hok⟩:=h;generalize hL:ie leads=L;refine dY (σ:=[nm "leads" L]) (by kernel_rfl) (by kernel_rfl) (aI:=[]) ?_;show exs _ _ _ (c6 188).names _ (db 188)=_
 conv=>lhs;arg 6;whnf
 let sp:=zw leads
 let nodes:=leads.map (·.1)
 have hspl:sp.length=leads.length:=aa _;have hndl:nodes.length=leads.length:=aa _;refine (aj (aI:=Ec L (pX sp) (aL nodes) ([],none)) ?_).trans ?_
 ·refine tS (xs:=["spaces","nodes","blocks"]) (ps:=[pX sp,aL nodes,q0 []]) (by rfl) (by rfl) ?_ (by kernel_rfl)
  refine ay ?_ (ay ?_ (ay (by rfl) a8))
  ·refine (bw (items:=leads.map fun p=>.int p.1) (rs:=(leads.filter fun J=>true).map fun p=>(.none,sG (p.2++"x"))) (by kernel_rfl) ?_ ?_ ?_).trans ?_
   ·subst hL
    refine Eq.trans (b:=if (leads.map fun p=>(p.1,PV.str p.2)).length<=1048576 then some ((leads.map fun p=>(p.1,PV.str p.2)).map fun kv=>.int kv.1) else none) (by rfl) ?_;rw [if_pos (by rw [aa];exact (pn [_] 0x0D1000003900DA80) hn),ao];rfl
   ·refine bx (fun J=>true) (fun p=>sG (p.2++"x")) (fun p=>.int p.1) 30 (by kernel_rfl) leads _ ?_ ?_
    ·exact (pn [_] 0x0D6119A18A01E190DA80) hn
    ·intro p m hp
     refine ⟨[nm "leads" L,nm "node" (.int p.1)],by kernel_rfl,by rfl,fun J=>?_⟩;have hsh':=hsh p hp;refine fu (v':=.str (p.2++"x")) (v:=.str (p.2++"x")) (by kernel_rfl) ?_ (by kernel_rfl) ?_ (Gw ?_ (hbl p hp))
     ·show ev _ _ _ _ _=_
      refine aW (a:=.str p.2) (b:=.str "x") ?_ (by rfl) (add_str (by exact (pn [_] 0x0D1000003900D1E190) hsh') (by decide));show ev _ _ _ _ _=_;subst hL;refine bt (b:=ie leads) (k:=.int p.1) (by intros;intro h;cases h) (by rfl) (by rfl) (by rfl) ?_;show ej _ _=_;rw [fJ PV.str leads p.1,fY hnd hp];rfl
     ·refine aW (a:=.str p.2) (b:=.str "x") ?_ (by rfl) (add_str (by exact (pn [_] 0x0D1000003900D1E190) hsh') (by decide))
      show ev _ _ _ _ _=_;subst hL;refine bt (b:=ie leads) (k:=.int p.1) (by intros;intro h;cases h) (by rfl) (by rfl) (by rfl) ?_;show ej _ _=_;rw [fJ PV.str leads p.1,fY hnd hp];rfl
     ·rw [Str.length_append]
      have:Str.length "x"=1:=by decide
      exact (pn [_,_] 0x0D03E829A102D1810D1E190) hsh' this
   ·rw [aa]
    have:=aF (fun J=>true) leads
    exact (pn [_,_] 0x0D1000003910D010DA80) hn this
   ·rw [bS.mpr (fun J J=>rfl),ao]
    show some (PV.lst (leads.map _))=some (PV.lst ((leads.map _).map _));rw [ao];rfl
  ·subst hL
   refine b7 (v:=ie leads) (by kernel_rfl) (by rfl) ?_;show (if (leads.map fun p=>(p.1,PV.str p.2)).length<=1048576 then some (PV.lst ((leads.map fun p=>(p.1,PV.str p.2)).map fun p=>.int p.1)) else none)=_;rw [if_pos (by rw [aa];exact (pn [_] 0x0D1000003900DA80) hn),ao];show _=some (PV.lst ((leads.map _).map _));rw [ao];rfl
 have hsp:∀ i,i < leads.length->(sp.map fun p=>jg p.1 p.2)[i]?=some (jg (sp.getD i default).1 (sp.getD i default).2)/\C1 (sp.getD i default).2:=by
  intro i hi;have hi':i < sp.length:=by exact (pn [_,_,_] 0x1D021D122D10) hspl hi
  rw [aK,av hi',aq,av hi'];refine ⟨rfl,?_⟩;refine bO (aB.mp (aY hi')) ?_;intro p hp e;rw [bJ,<- e];exact hok p hp
 have hspm:(sp.map fun p=>jg p.1 p.2).length=leads.length:=by rw [aa,hspl]
 have hndm:(nodes.map PV.int).length=leads.length:=by rw [aa,hndl]
 let B:Nat->List (Int×List Int):=fun i=>(ax i).map fun i=>(nodes.getD i 0,pf leads i)
 refine gV (Ec L (pX sp) (aL nodes)) (fun i a=>a.1=B i) (fun a x=>(a.1++[(x.1,pf leads x.2)],some (.int (x.2:Int),.int x.1,.lst ((ax (leads.length - (x.2+1))).map fun j=>.bool (ge sp x.2 (x.2+1+j)))))) (fun x=>.tup [.int (x.2:Int),.int x.1]) 50 nodes.zipIdx ([],none) rfl ?_ ?_ rfl ?_ ?_
 ·refine (vT (l:=nodes.map .int) (by kernel_rfl) (by rfl) (by rfl) (by exact (pn [_,_] 0x0D1000003912D010DA80) hn hndm)).trans ?_
  rw [qf]
 ·rw [List.length_zipIdx];exact (pn [_,_] 0x0D6119A18A132192D010DA80) hn hndl
 ·intro i a x m hx hP
  obtain ⟨b,l⟩:=a;obtain ⟨node,spot⟩:=x;dsimp only at hP;subst hP;rw [List.getElem?_zipIdx] at hx;refine bO (b3.mp hx) ?_;intro nd hnd1 hnd2;have e1:nd=node/\i=spot:=by injection hnd2 with e1 e2;exact ⟨e1,by exact (pn [_,_] 0x2D102D1A008) e2⟩
  refine xA e1 ?_;clear e1;rintro rfl rfl;have hi:i < leads.length:=by
   rw [aQ] at hnd1;refine xE hnd1 ?_;clear hnd1;intro h1 _;exact (pn [_,_,_] 0x1D121D022D10) hndl h1
  dsimp only;have hkey:∀ p∈(B i).map (fun p=>(p.1,aL p.2)),p.1≠nd:=by
   intro p hp e;refine bO (aB.mp hp) ?_;rintro q hq rfl;refine bO (aB.mp hq) ?_;rintro k hk rfl;have hk:=dT.mp hk;dsimp only at e;have hki:k < nodes.length:=by exact (pn [_,_,_,_] 0x1D031D231D122D10) hndl hi hk
   rw [aq,av hki,bJ] at e;have hii:i < nodes.length:=by exact (pn [_,_,_] 0x1D021D122D10) hndl hi
   rw [av hii] at hnd1
   injection hnd1 with hnd1
   exact ln.mp hnd k i hki hii hk (e.trans hnd1.symm)
  have hBl:(B i).length<=10:=by show ((ax i).map _).length<=10;rw [aa,bf];exact (pn [_,_] 0x0DA811D010DA80) hn hi
  have hnext:B i++[(nd,pf leads i)]=B (i+1):=by
   show _=(ax (i+1)).map _;rw [g9,aN];show _=B i++[(nodes.getD i 0,_)];rw [aq,hnd1];rfl
  refine ⟨hnext,?_⟩;generalize B i=b at hkey hBl
  let bs:=(ax (leads.length - (i+1))).map fun j=>ge sp i (i+1+j)
  have hbs:bs.length<=10:=by show ((ax _).map _).length<=10;rw [aa,bf];exact (pn [_,_] 0x0DA8BA18100DA80) hn
  have hbsP:((ax (leads.length - (i+1))).map fun j=>PV.bool (ge sp i (i+1+j)))=bs.map .bool:=by show _=((ax _).map _).map _;rw [ao];rfl
  rw [hbsP]
  let GS:SE:=[nm "leads" L,nm "spaces" (pX sp),nm "nodes" (aL nodes),ow "blocks" (q0 b),nm "spot" (.int (i:Int)),nm "node" (.int nd)]++(match l with | none=>[] | some (_,_,l)=>[nm "less" l])
  refine ⟨GS,by rcases l with _ | ⟨_,_,l⟩<;>kernel_rfl,?_⟩
  let DH:SE:=Ec L (pX sp) (aL nodes) (b,some (.int (i:Int),.int nd,.lst (bs.map .bool)))
  refine (aj (aI:=DH) ?_).trans ?_
  ·refine (bm (u:=.lst (bs.map .bool)) (by rfl) ?_).trans (by rcases l with _ | ⟨_,_,l⟩<;>kernel_rfl)
   refine (bw (items:=(ax (leads.length - (i+1))).map fun j=>jg (sp.getD (i+1+j) default).1 (sp.getD (i+1+j) default).2) (rs:=((ax (leads.length - (i+1))).filter fun J=>true).map fun j=>(.none,.bool (ge sp i (i+1+j)))) (by kernel_rfl) ?_ ?_ ?_).trans ?_
   ·have hdrop:(sp.map fun p=>jg p.1 p.2).drop (i+1)=(ax (leads.length - (i+1))).map fun j=>jg (sp.getD (i+1+j) default).1 (sp.getD (i+1+j) default).2:=by
     rw [xS (f:=fun i=>jg (sp.getD i default).1 (sp.getD i default).2) fun k J hk=>(hsp k (by exact (pn [_,_,_] 0x1D121D022D10) hspm hk)).1,hspm]
    rw [<- hdrop];have hlen2:((sp.map fun p=>jg p.1 p.2).drop (i+1)).length<=1048576:=by rw [df];exact (pn [_,_,_] 0x0D10000039BA18212D010DA80) hn hspm
    refine Eq.trans (yv (v:=.lst ((sp.map fun p=>jg p.1 p.2).drop (i+1))) ?_) ?_
    ·exact fB (b:=pX sp) (l:=some ((i+1:Nat):Int)) (h:=none) (by rcases l with _ | ⟨_,_,l⟩<;>kernel_rfl) (by rcases l with _ | ⟨_,_,l⟩<;>kernel_rfl) (by kernel_rfl) (fZ (by exact (pn [_,_] 0x0D1000003912D010DA80) hn hspm) (vY _ _ (by exact (pn [_,_,_] 0x0D0A1821D122D10) hspm hi)))
    ·exact if_pos hlen2
   ·refine bx (fun J=>true) (fun j=>.bool (ge sp i (i+1+j))) (fun j=>jg (sp.getD (i+1+j) default).1 (sp.getD (i+1+j) default).2) 30 (by rcases l with _ | ⟨_,_,l⟩<;>kernel_rfl) _ _ ?_ ?_
    ·rw [bf];exact (pn [_,_,_] 0x0DA2F192A18ABA18101E190DA80) hn
    ·intro j q hj
     have hj:=dT.mp hj;refine xA (hsp i hi) ?_;intro e1 w1;refine xA (hsp (i+1+j) (by exact (pn [_,_,_] 0x1D1A0A1821DBA18210) hj)) ?_;intro e2 w2;refine ⟨[nm "spaces" (pX sp),nm "spot" (.int (i:Int)),nm "space" (jg (sp.getD (i+1+j) default).1 (sp.getD (i+1+j) default).2)],by rcases l with _ | ⟨_,_,l⟩<;>kernel_rfl,by kernel_rfl,fun J=>?_⟩;refine jO (c:="Whitespace") (fs:=eE (sp.getD i default).1 (sp.getD i default).2) (by rfl) ?_ (ay (by rfl) a8) (by rfl) (vS (s:=(sp.getD i default).1) (s':=(sp.getD (i+1+j) default).1) w1 w2);exact bt (b:=pX sp) (k:=.int (i:Int)) (by intros;intro h;cases h) (by rfl) (by rfl) (by rfl) (em e1 (by exact (pn [_,_] 0x0D1000003912D010DA80) hn hspm))
   ·rw [aa]
    have:=aF (fun J=>true) (ax (leads.length - (i+1)))
    rw [bf] at this;exact (pn [_,_,_] 0x0D1000003910DBA182010DA80) hn this
   ·rw [bS.mpr (fun J J=>rfl),ao]
    show some (PV.lst _)=some (PV.lst (((ax _).map _).map _));rw [ao];rfl
  ·refine (aj (aI:=Ec L (pX sp) (aL nodes) (b++[(nd,pf leads i)],some (.int (i:Int),.int nd,.lst (bs.map .bool)))) ?_).trans (by rfl)
   refine (fP (c:=q0 b) (k:=.int nd) (u:=aL (pf leads i)) (c':=q0 (b++[(nd,pf leads i)])) (by rfl) (by rfl) ?_ (by rfl) ?_).trans (by rfl)
   ·refine fB (b:=aL nodes) (l:=some (i:Int)) (h:=some ((i:Int)+((1+lL bs:Nat):Int))) (by rfl) (by rfl) (vk ?_) ?_
    ·refine aW (a:=.int ((i:Int)+1)) (b:=.int (lL bs:Int)) (by rfl) ?_ ?_
     ·refine CS (l:=bs.map PV.bool++[.bool false]) (vs:=[.bool false]) (by rfl) ?_ (by rfl) ?_
      ·exact aW (a:=.lst (bs.map PV.bool)) (b:=.lst [.bool false]) (by rfl) (by rfl) (pU (by rw [aa];exact (pn [_] 0x0D1000003900DA80) hbs) (by simp))
      ·show (if (bs.map PV.bool++[PV.bool false]).length<=1048576 then (jY false (bs.map PV.bool++[.bool false])).map fun (i:Nat)=>PV.int (i:Int) else none)=_
       rw [wp,if_pos (by rw [ak,aa];simp;exact (pn [_] 0x0D0FFFFF3900DA80) hbs)];rfl
     ·show some (PV.int ((i:Int)+1+(lL bs:Int)))=_
      congr 2;exact pn [_,_] 0x2EA2CA1182C0A2C1A182C0
    ·refine fZ (by exact (pn [_,_] 0x0D1000003912D010DA80) hn hndm) ?_
     rw [Ef _ _ _ (by exact (pn [_,_,_] 0x0D021D122D10) hndm hi)];show _=((nodes.drop i).take (1+lL bs)).map PV.int;rw [List.map_take,List.map_drop]
   ·show (if (b.map fun p=>(p.1,aL p.2)).length<=1048576 then some (PV.dct (jc (b.map fun p=>(p.1,aL p.2)) nd _)) else none)=_
    rw [if_pos (by rw [aa];exact (pn [_] 0x0D1000003900DA80) hBl),jj hkey];unfold q0;rw [aN];rfl
 ·intro b hb hP
  obtain ⟨b,l⟩:=b;dsimp only at hP;rw [List.length_zipIdx,hndl] at hP;subst hP;rcases l with _ | ⟨_,_,l⟩<;>exact bD (by kernel_rfl)
end
end Mine
end
section
namespace Mine
noncomputable section
noncomputable def ce (l:List Int) (k:Int):Bool:=l.any (· == k)
theorem fT (l:List Int) (k:Int):gT k (l.map .int)=some (ce l k):=by
 induction l with
 | nil=>rfl
 | cons a l ih=>rw [aw,gT,ih];rfl
theorem bA {l:List Int}{k:Int}:ce l k=true↔k∈l:=by
 unfold ce;simp [dM]
theorem iP:∀ (l:List (Int×PV)) (acc:List (Int×PV)),((acc++l).map (·.1)).Nodup->cj (l.map fun p=>(.int p.1,p.2)) acc=some (acc++l)
 | [],acc,_=>by rw [cM,cj,fm]
 | p::l,acc,h=>by
  have hk:∀ q∈acc,q.1≠p.1:=by
   intro q hq;rw [aN,aw] at h;exact (bq.mp h).2.2 _ (b5 hq) _ am
  show cj (l.map fun p=>(PV.int p.1,p.2)) (jc acc p.1 p.2)=_;rw [jj hk,iP l (acc++[(p.1,p.2)]) (by rw [bp];exact h),bp];rfl
theorem vh (t s:List (Int×Int)):(ia t s).length<=t.length+s.length:=by
 have h1:=lH (P:=fun (d:List (Int×Int)) k=>d.length<=k) (f:=fun d (p:Int×Int)=>pI d p.1 p.2) (fun d p k h=>aO (um d p.1 p.2) (by exact (pn [_,_] 0x0DA181A1800D10) h)) t [] 0 (aE _);have h2:=lH (P:=fun (d:List (Int×Int)) k=>d.length<=k) (f:=fun d (p:Int×Int)=>iV d p.1 p.2) (fun d p k h=>aO (rA d p.1 p.2) (by exact (pn [_,_] 0x0DA181A1800D10) h)) s _ t.length (by rw [di] at h1;exact h1);exact h2
theorem By {o:cV}{n:Nat}{sc:Sc}{σ:SE}{t ob:Expr}{name:Str}{ap p:Pos}{args:List Expr}{v:PV} (h:ev o n sc σ (.Call (.Attribute ob name ap) args [] p)=some v):evI o (n+1) sc σ t (.Call (.Attribute ob name ap) args [] p)=mM t v:=by
 exact dp h
theorem EA {o:cV}{n:Nat}{sc:Sc}{σ:SE}{t a b:Expr}{op:Operator}{p:Pos}{v:PV} (h:ev o n sc σ (.BinOp a op b p)=some v):evI o (n+1) sc σ t (.BinOp a op b p)=mM t v:=by
 exact dp h
noncomputable def f8 (t:eA) (some others:List Int) (node:Int):List (Int×Int):=((gB t node).getD []).filter fun p=>if ce some node=true then ce others p.1 else ce some p.1
noncomputable def wj (t:eA) (some others:List Int):List (Int×Int):=(some++others).foldl (fun fl node=>ia fl (f8 t some others node)) []
noncomputable def dG (t:eA) (some others:List Int):Int:=bY (wj t some others)
noncomputable def yn (r:List (Int×Int)):Prop:=r.length<=2/\(r.map (·.1)).Nodup
noncomputable def zh (T S O:PV) (a:List (Int×Int)×Option PV):SE:=[nm "table" T,nm "some" S,nm "others" O,nm "flow" (bc a.1)]++(match a.2 with | none=>[] | some n=>[nm "node" n])
theorem ze {α β γ:Type}{f:α->β->α}{g:β->γ} (xs:List β) (a:α):(xs.foldl (fun (a:α×Option γ) x=>(f a.1 x,some (g x))) (a,none)).1=xs.foldl f a:=xg xs (a,none)
theorem C2 {t:eA}{ss os:List Int} (hl:ss.length+os.length<=8) (ht:∀ v∈ss++os,∃ r,gB t v=some r/\yn r) :
  e5 o1 u9.W 100 u9.params u9.scope u9.body [du t,aL ss,aL os]=some (.int (dG t ss os)):=by
 generalize hT:du t=T;have hsl:(ss.map PV.int).length<=1048576:=by rw [aa];exact (pn [_,_] 0x0D1000003900D88A10) hl
 have hol:(os.map PV.int).length<=1048576:=by rw [aa];exact (pn [_,_] 0x0D1000003910D88A10) hl
 refine dY (σ:=[nm "table" T,nm "some" (aL ss),nm "others" (aL os)]) (by kernel_rfl) (by kernel_rfl) (aI:=[]) ?_;show exs _ _ _ (c6 193).names _ (db 193)=_
 conv=>lhs;arg 6;whnf
 refine (aj (aI:=zh T (aL ss) (aL os) ([],none)) (by rfl)).trans ?_;refine gV (zh T (aL ss) (aL os)) (fun i a=>a.1.length<=2 * i) (fun a x=>(ia a.1 (f8 t ss os x),some (PV.int x))) (fun x=>.int x) 50 (ss++os) ([],none) rfl ?_ ?_ (aE _) ?_ ?_
 ·refine Eq.trans (EA (v:=.lst ((ss++os).map .int)) ?_) ?_
  ·rw [aN]
   exact aW (a:=aL ss) (b:=aL os) (by rfl) (by rfl) (pU hsl hol)
  ·exact if_pos (by rw [aa,ak];exact (pn [_,_] 0x0D10000039A100D88A10) hl)
 ·rw [ak];exact (pn [_,_] 0x0D6119A18AA1032190D88A10) hl
 ·intro i a x m hx hP
  obtain ⟨fl,l⟩:=a;dsimp only at hP;have hi:i < ss.length+os.length/\x∈ss++os:=by
   have:=bK hx
   rw [aQ] at hx;refine xE hx ?_;clear hx;intro h1 _;rw [ak] at h1;exact ⟨h1,this⟩
  refine xA hi ?_;clear hi;intro hi hxm;refine fw (ht x hxm) ?_;intro r hr hr2 hrn;have hsel:f8 t ss os x=r.filter fun p=>if ce ss x=true then ce os p.1 else ce ss p.1:=by unfold f8;rw [hr];rfl
  have hsell:(f8 t ss os x).length<=2:=by
   rw [hsel];have:=aF (fun (p:Int×Int)=>if ce ss x=true then ce os p.1 else ce ss p.1) r;exact (pn [_,_] 0x0D2810D010D280) hr2 this
  have hseln:((f8 t ss os x).map (·.1)).Nodup:=by
   rw [hsel];exact List.Nodup.sublist (List.Sublist.map _ eS) hrn
  refine ⟨by have:=vh fl (f8 t ss os x);dsimp only;exact (pn [_,_,_,_] 0x0D4CA1812830DA2030D2820D4C1280) hP hsell this,zh T (aL ss) (aL os) (fl,some (.int x)),by cases l<;>kernel_rfl,?_⟩;refine (aj (aI:=zh T (aL ss) (aL os) (ia fl (f8 t ss os x),some (.int x))) ?_).trans (by rfl);refine (bm (u:=bc (ia fl (f8 t ss os x))) (by rfl) ?_).trans (by rfl);refine jn (vs:=[bc fl,bc (f8 t ss os x)]) (by rfl) (ay (by rfl) (ay ?_ a8)) (by rfl) (zo (by exact (pn [_,_,_,_] 0x0D141921DA1030D4C32820D88A10) hl hP hi) (by exact (pn [_] 0x0D141900D280) hsell));refine (jH (items:=r.map fun p=>.tup [.int p.1,.int p.2]) (rs:=(r.filter fun p=>if ce ss x=true then ce os p.1 else ce ss p.1).map fun p=>(.int p.1,.int p.2)) (by rfl) ?_ ?_ ?_).trans ?_
  ·subst hT
   refine Eq.trans (By (v:=.its (r.map fun p=>(p.1,PV.int p.2))) ?_) ?_
   ·refine ry (l:=r.map fun p=>(p.1,PV.int p.2)) (vs:=[]) (by rfl) ?_ a8 (by rfl)
    refine bt (b:=du t) (k:=.int x) (by intros;intro h;cases h) (by rfl) (by rfl) (by rfl) ?_;show ej _ _=_;rw [fJ bc t x,hr];rfl
   ·refine Eq.trans (b:=if (r.map fun p=>(p.1,PV.int p.2)).length<=1048576 then some ((r.map fun p=>(p.1,PV.int p.2)).map fun kv=>PV.tup [.int kv.1,kv.2]) else none) (by rfl) ?_
    rw [if_pos (by rw [aa];exact (pn [_] 0x0D1000003900D280) hr2),ud]
  ·refine ij (fun p=>if ce ss x=true then ce os p.1 else ce ss p.1) (fun p=>.int p.2) (fun p=>.int p.1) (fun p=>.tup [.int p.1,.int p.2]) 30 (by kernel_rfl) r _ ?_ ?_
   ·exact (pn [_,_] 0x0DA2E191A18A01E190D280) hr2
   ·intro p q hp
    refine ⟨[nm "some" (aL ss),nm "others" (aL os),nm "node" (.int x),nm "one" (.int p.1),nm "many" (.int p.2)],by rfl,?_,fun J=>⟨by rfl,by rfl⟩⟩;refine bj (br (iF (a:=.int p.1) (b:=aL (if ce ss x=true then os else ss)) (by rfl) (by rfl) (by rfl) ?_ ?_))
    ·show ev _ _ _ _ _=_
     refine e7 (c:=ce ss x) ?_ (fun hc=>?_) (fun hc=>?_)
     ·refine br (iF (a:=.int x) (b:=aL ss) (by rfl) (by rfl) (by rfl) (by rfl) ?_)
      exact fT ss x
     ·rw [if_pos hc];rfl
     ·rw [if_neg (by rw [hc];decide)];rfl
    ·show gT p.1 (List.map PV.int _)=_
     rw [fT];split<;>rfl
  ·rw [aa,<- hsel];exact (pn [_] 0x0D1000003900D280) hsell
  ·rw [<- hsel]
   have:=iP ((f8 t ss os x).map fun p=>(p.1,PV.int p.2)) [] (by rw [fq,ao];exact hseln)
   rw [ao] at this;show ca PV.dct (cj ((f8 t ss os x).map ((fun p=>(PV.int p.1,p.2)) ∘ fun p=>(p.1,PV.int p.2))) [])=_;rw [this];rfl
 ·intro b hb hP
  have e:=ze (f:=fun fl x=>ia fl (f8 t ss os x)) (g:=PV.int) (ss++os) [];rw [ak] at hP;obtain ⟨fl,l⟩:=b;dsimp only at hP;have e:fl=wj t ss os:=by
   have:(fl,l).1=_:=congrArg Prod.fst hb
   exact this.trans e
  subst e;refine bD (l5 (fu (v':=bc (wj t ss os)) (v:=bc (wj t ss os)) (by cases l<;>kernel_rfl) (by cases l<;>kernel_rfl) (by kernel_rfl) (by cases l<;>kernel_rfl) (zW (by exact (pn [_,_,_] 0x0D3C1920D4CA102820D88A10) hl hP))))
end
end Mine
end
section
namespace Mine
noncomputable section
noncomputable def gL (ps:List (Int×Int)):PV:=.lst (ps.map fun p=>.tup [.int p.1,.int p.2])
noncomputable def eI (m:List (Int×Int)) (p:Int×Int):List (Int×Int):=match gI m p.1,gI m p.2 with
 | some a,some b=>m.map fun q=>(q.1,if q.2=b then a else q.2)
 | _,_=>m
noncomputable def xy (pairs:List (Int×Int)) (nodes:List Int):List (Int×Int):=pairs.foldl eI (nodes.map fun v=>(v,v))
noncomputable def dX (pairs:List (Int×Int)) (nodes:List Int):Nat:=(((xy pairs nodes).map (·.2)).foldl step_dedup []).length
theorem gP (m:List (Int×Int)) (p:Int×Int):(eI m p).map (·.1)=m.map (·.1):=by
 unfold eI;split
 ·rw [ao];rfl
 ·rfl
noncomputable def G8 (P N:PV) (a:List (Int×Int)×Option (PV×PV)):SE:=[nm "pairs" P,nm "nodes" N,nm "marks" (bc a.1)]++(match a.2 with | none=>[] | some (x,y)=>[nm "one" x,nm "two" y])
theorem m7 (l:List Int):gz (l.map .int)=some l:=by
 induction l with
 | nil=>rfl
 | cons a l ih=>rw [aw,gz,ih];rfl
theorem uk (m:List (Int×Int)) (h:(m.map (·.1)).Nodup):ca PV.dct (cj (m.map fun p=>(PV.int p.1,PV.int p.2)) [])=some (bc m):=by
 have:=iP (m.map fun p=>(p.1,PV.int p.2)) [] (by rw [fq,ao];exact h)
 rw [ao] at this;show ca PV.dct (cj (m.map ((fun p=>(PV.int p.1,p.2)) ∘ fun p=>(p.1,PV.int p.2))) [])=_;rw [this];rfl
theorem xx {pairs:List (Int×Int)}{nodes:List Int} (hp:pairs.length<=60) (hn:nodes.length<=10) (hd:nodes.Nodup) :
  e5 o0 nI.W 120 nI.params nI.scope nI.body [gL pairs,aL nodes]=some (.int (dX pairs nodes:Int)):=by
 refine dY (σ:=[nm "pairs" (gL pairs),nm "nodes" (aL nodes)]) (by kernel_rfl) (by kernel_rfl) (aI:=[]) ?_;show exs _ _ _ (c6 198).names _ (db 198)=_
 conv=>lhs;arg 6;whnf
 refine (aj (aI:=G8 (gL pairs) (aL nodes) (nodes.map fun v=>(v,v),none)) ?_).trans ?_
 ·refine (bm (u:=bc (nodes.map fun v=>(v,v))) (by rfl) ?_).trans (by kernel_rfl)
  refine (jH (items:=nodes.map .int) (rs:=(nodes.filter fun J=>true).map fun v=>(.int v,.int v)) (by rfl) ?_ ?_ ?_).trans ?_
  ·refine Eq.trans (b:=if (nodes.map PV.int).length<=1048576 then some (nodes.map .int) else none) (by rfl) (if_pos (by rw [aa];exact (pn [_] 0x0D1000003900DA80) hn))
  ·refine ij (fun J=>true) (fun v=>.int v) (fun v=>.int v) (fun v=>.int v) 30 (by rfl) nodes _ ?_ ?_
   ·exact (pn [_] 0x0D7519A18A01E190DA80) hn
   ·intro v m hv
    exact ⟨[nm "node" (.int v)],by rfl,by rfl,fun J=>⟨by rfl,by rfl⟩⟩
  ·rw [aa];have:=aF (fun J=>true) nodes;exact (pn [_,_] 0x0D1000003910D010DA80) hn this
  ·rw [bS.mpr (fun J J=>rfl)]
   have:=uk (nodes.map fun v=>(v,v)) (by rw [ao];exact (show List.Nodup (nodes.map id) from by rw [ip];exact hd))
   rw [ao] at this;exact this
 refine gV (G8 (gL pairs) (aL nodes)) (fun J a=>a.1.map (·.1)=nodes) (fun a x=>(eI a.1 x,some (PV.int x.1,PV.int x.2))) (fun x=>.tup [.int x.1,.int x.2]) 50 pairs (nodes.map fun v=>(v,v),none) rfl ?_ ?_ ?_ ?_ ?_
 ·refine Eq.trans (b:=if (pairs.map fun p=>PV.tup [.int p.1,.int p.2]).length<=1048576 then some (pairs.map fun p=>PV.tup [.int p.1,.int p.2]) else none) (by rfl) (if_pos (by rw [aa];exact (pn [_] 0x0D1000003900D3C190) hp))
 ·exact (pn [_] 0x0D7519A18A032190D3C190) hp
 ·dsimp only
  rw [ao];show nodes.map id=nodes;rw [ip]
 ·intro i a x n hx hP
  obtain ⟨m,l⟩:=a;dsimp only at hP;have hml:m.length<=10:=by rw [<- aa (as:=m) (f:=(·.1)),hP];exact hn
  refine ⟨(gP m x).trans hP,G8 (gL pairs) (aL nodes) (m,some (.int x.1,.int x.2)),by cases l<;>kernel_rfl,?_⟩;obtain ⟨one,two⟩:=x;refine (aj (aI:=G8 (gL pairs) (aL nodes) (eI m (one,two),some (.int one,.int two))) ?_).trans (by rfl);refine cn (c:=(gI m one).isSome && (gI m two).isSome) ?_ (fun hc=>?_) (fun hc=>?_)
  ·refine hX (de ?_ fun J=>bj ?_)
   ·refine br (iF (a:=.int one) (b:=bc m) (by rfl) (by rfl) (by kernel_rfl) (by rfl) ?_)
    show some (ej _ one).isSome=_;rw [d2,bC]
   ·refine br (iF (a:=.int two) (b:=bc m) (by rfl) (by rfl) (by kernel_rfl) (by rfl) ?_)
    show some (ej _ two).isSome=_;rw [d2,bC]
  ·refine xA (aR _ _ |>.mp hc) ?_;intro h1 h2
   refine xE (aS.mp h1) ?_;intro a ha;refine xE (aS.mp h2) ?_;intro b hb;have hm:eI m (one,two)=m.map fun q=>(q.1,if q.2=b then a else q.2):=by unfold eI;dsimp only;rw [ha,hb]
   have hk:=(gP m (one,two)).trans hP;rw [hm] at hk ⊢;refine (aj (aI:=G8 (gL pairs) (aL nodes) (m.map fun q=>(q.1,if q.2=b then a else q.2),some (.int one,.int two))) ?_).trans (by rfl);refine (bm (u:=bc (m.map fun q=>(q.1,if q.2=b then a else q.2))) (by rfl) ?_).trans (by kernel_rfl);refine (jH (items:=m.map fun p=>.tup [.int p.1,.int p.2]) (rs:=(m.filter fun J=>true).map fun q=>(.int q.1,.int (if q.2=b then a else q.2))) (by kernel_rfl) ?_ ?_ ?_).trans ?_
   ·refine Eq.trans (b:=if (m.map fun p=>(p.1,PV.int p.2)).length<=1048576 then some ((m.map fun p=>(p.1,PV.int p.2)).map fun kv=>PV.tup [.int kv.1,kv.2]) else none) (by kernel_rfl) ?_
    rw [if_pos (by rw [aa];exact (pn [_] 0x0D1000003900DA80) hml),ud]
   ·refine ij (fun J=>true) (fun q=>.int (if q.2=b then a else q.2)) (fun q=>.int q.1) (fun p=>.tup [.int p.1,.int p.2]) 30 (by kernel_rfl) m _ ?_ ?_
    ·exact (pn [_,_] 0x0DA2D191A18A01E190DA80) hml
    ·intro q k hq
     have hgo:∀ (u:Int) (z:Int),gI m u=some z->item (bc m) (.int u)=some (.int z):=by
      intro u z hu;show ej _ _=_;rw [d2,hu];rfl
     refine ⟨[nm "marks" (bc m),nm "one" (.int one),nm "two" (.int two),nm "node" (.int q.1),nm "mark" (.int q.2)],by kernel_rfl,by rfl,fun J=>⟨?_,by rfl⟩⟩;refine e7 (c:=q.2 == b) ?_ (fun hc=>?_) (fun hc=>?_)
     ·refine br (da (a:=.int q.2) (b:=.int b) (by rfl) (by rfl) ?_ rfl)
      exact bt (b:=bc m) (k:=.int two) (by intros;intro h;cases h) (by rfl) (by rfl) (by rfl) (hgo _ _ hb)
     ·rw [if_pos (eq_of_beq hc)]
      exact bt (b:=bc m) (k:=.int one) (by intros;intro h;cases h) (by rfl) (by rfl) (by rfl) (hgo _ _ ha)
     ·rw [if_neg (by intro e;rw [e] at hc;simp at hc)];rfl
   ·rw [aa];have:=aF (fun J=>true) m;exact (pn [_,_] 0x0D1000003910D010DA80) hml this
   ·rw [bS.mpr (fun J J=>rfl)]
    have:=uk (m.map fun q=>(q.1,if q.2=b then a else q.2)) (by rw [hk];exact hd)
    rw [ao] at this;exact this
  ·have hm:eI m (one,two)=m:=by
    unfold eI;dsimp only
    cases h1:gI m one with
    | none=>rfl
    | some a=>cases h2:gI m two with
     | none=>rfl
     | some b=>rw [h1,h2] at hc;cases hc
   rw [hm];rfl
 ·intro b hb hP
  have e:=ze (f:=eI) (g:=fun (x:Int×Int)=>(PV.int x.1,PV.int x.2)) pairs (nodes.map fun v=>(v,v));obtain ⟨m,l⟩:=b;dsimp only at hP;have e:m=xy pairs nodes:=by
   have:(m,l).1=_:=congrArg Prod.fst hb
   exact this.trans e
  have hml:m.length<=10:=by rw [<- aa (as:=m) (f:=(·.1)),hP];exact hn
  unfold dX;rw [<- e]
  let ns:=m.map (·.2)
  have hns:ns.length=m.length:=aa _;have hfm:firstMet (fun i=>ns.getD i 0) ns.length=ns.foldl step_dedup []:=by
   unfold firstMet;congr 1;refine List.ext_getElem? fun j=>?_;rw [aK];by_cases hj:j < ns.length
   ·rw [List.getElem?_range hj,av hj]
    show some (ns.getD j 0)=_;rw [aq,av hj];rfl
   ·rw [c9 (by rw [bf];exact (pn [_,_,_] 0x0D202F1D022D10) hns hj),c9 (by exact (pn [_,_,_] 0x0D202F1D022D10) hns hj)];rfl
  have hdl:(ns.foldl step_dedup []).length<=10:=by
   rw [<- hfm];have:=firstMet_length_le (fun i=>ns.getD i 0) ns.length;exact (pn [_,_,_] 0x0DA820D122D010DA80) hml hns this
  refine bD (l5 (b7 (v:=.set (ns.foldl step_dedup []).length) (by cases l<;>kernel_rfl) ?_ ?_))
  ·show ev _ _ _ _ _=_
   refine b7 (v:=.vals (m.map fun p=>(p.1,PV.int p.2))) (by cases l<;>kernel_rfl) ?_ ?_
   ·show ev _ _ _ _ _=_
    exact ry (l:=m.map fun p=>(p.1,PV.int p.2)) (vs:=[]) (by rfl) (by cases l<;>kernel_rfl) a8 (by kernel_rfl)
   ·show (gz ((m.map fun p=>(p.1,PV.int p.2)).map (·.2))).bind (fun ns=>if ns.length+1 < scanBound then some (PV.set (firstMet (fun i=>ns.getD i 0) ns.length).length) else none)=_
    have:(m.map fun p=>(p.1,PV.int p.2)).map (·.2)=ns.map .int:=by rw [ao];show _=(m.map (·.2)).map PV.int;rw [ao];rfl
    rw [this,m7,Option.bind_some,hfm,if_pos (by unfold scanBound;exact (pn [_,_] 0x1D100029A1812D010DA80) hml hns)]
  ·show (if (ns.foldl step_dedup []).length<=1048576 then some (PV.int ((ns.foldl step_dedup []).length:Int)) else none)=_
   rw [if_pos (by exact (pn [_] 0x0D1000003900DA80) hdl)]
end
end Mine
end
section
namespace Mine
noncomputable section
theorem pP {a b:Str} (h:a.cps.toList=b.cps.toList):a=b:=by
 obtain ⟨⟨a⟩⟩:=a;obtain ⟨⟨b⟩⟩:=b;simp at h;rw [h]
theorem jG (a b:Str):(a++b).cps.toList=a.cps.toList++b.cps.toList:=by
 show (a.cps++b.cps).toList=_;exact Array.toList_append
theorem Bi (l:List Nat):(sl l).cps.toList=l:=rfl
theorem mZ (a b:List Nat):sl a++sl b=sl (a++b):=pP (by rw [jG];rfl)
theorem u8 {c:Nat}:∀ {a b x y:List Nat},c ∉ a->c ∉ b->a++c::x=b++c::y->a=b/\x=y
 | [],[],_,_,_,_,h=>⟨rfl,by injection h⟩
 | [],d::b,_,_,_,hb,h=>by injection h with h1 h2;exact absurd (h1 ▸ am) hb
 | d::a,[],_,_,ha,_,h=>by injection h with h1 h2;exact absurd (h1 ▸ am) ha
 | d::a,e::b,_,_,ha,hb,h=>by
  injection h with h1 h2
  refine xA (u8 (fun m=>ha (ai _ m)) (fun m=>hb (ai _ m)) h2) ?_;intro r1 r2;exact ⟨by rw [h1,r1],r2⟩
theorem uL {c:Nat}:∀ {A B:List Str},A≠[]->B≠[]->(∀ l∈A,c ∉ l.cps.toList)->(∀ l∈B,c ∉ l.cps.toList)->Str.join ⟨#[c]⟩ A=Str.join ⟨#[c]⟩ B->A=B
 | [],_,h,_,_,_,_=>absurd rfl h
 | _,[],_,h,_,_,_=>absurd rfl h
 | [a],[b],_,_,_,_,h=>by rw [show a=b from h]
 | [a],b::b'::B,_,_,hA,_,h=>by
  have h:a=b++⟨#[c]⟩++Str.join ⟨#[c]⟩ (b'::B):=h;exact absurd (by rw [h,jG,jG];simp) (hA a am)
 | a::a'::A,[b],_,_,_,hB,h=>by
  have h:a++⟨#[c]⟩++Str.join ⟨#[c]⟩ (a'::A)=b:=h;exact absurd (by rw [<- h,jG,jG];simp) (hB b am)
 | a::a'::A,b::b'::B,_,_,hA,hB,h=>by
  have h:a++⟨#[c]⟩++Str.join ⟨#[c]⟩ (a'::A)=b++⟨#[c]⟩++Str.join ⟨#[c]⟩ (b'::B):=h;have h:=congrArg (fun s:Str=>s.cps.toList) h;simp only [jG,bp] at h;refine xA (u8 (hA a am) (hB b am) h) ?_;intro h1 h2;rw [pP h1,uL (A:=a'::A) (B:=b'::B) (by simp) (by simp) (fun l hl=>hA l (ai _ hl)) (fun l hl=>hB l (ai _ hl)) (pP h2)]
theorem xY {c:Nat}{lines:List Str} (h:lines≠[]) (hf:∀ l∈lines,c ∉ l.cps.toList):Txt.split (Txt.join ⟨#[c]⟩ lines) ⟨#[c]⟩=lines:=by
 refine uL (c:=c) ?_ h ?_ hf ?_
 ·intro e
  have:=split_pos (Txt.join ⟨#[c]⟩ lines) ⟨#[c]⟩
  rw [e] at this;cases this
 ·exact StrLaws.split_free _ c
 ·rw [StrLaws.join_split]
  exact StrLaws.glued_eq_join _ _
end
end Mine
end
section
namespace Mine
noncomputable section
theorem fF {a b:Nat} (h:0 < b) (h2:b < 4294967296):jW .FloorDiv (.int (a:Int)) (.int (b:Int))=some (.int ((a / b:Nat):Int)):=by
 show (if (small (b:Int) && (b:Int) != 0)=true then some (PV.int (Int.fdiv (a:Int) (b:Int))) else none)=_;rw [if_pos (by unfold small;simp;exact id ((pn [_] 0x0F2F2D0801D0100000000000000009901D01000000005901D008) h h2)),wn]
theorem eB {a b:Nat} (h:0 < b):jW .Mod (.int (a:Int)) (.int (b:Int))=some (.int ((a % b:Nat):Int)):=by
 show (if ((b:Int) != 0)=true then some (PV.int (eV (a:Int) (b:Int))) else none)=_;rw [if_pos (by simp;exact id ((pn [_] 0x2F2D0801D008) h)),f7 _ (by exact id ((pn [_] 0x0E2C0081D008) h))];rfl
theorem Cz {α:Type} (l:List α) (k:Nat):ms l none (some (k:Int))=l.take k:=by
 unfold ms b9;simp only [jU,d9,gc,bJ,pq];rw [if_neg (by exact id (pn [_] 0x2F1E082C0)),show ((k:Int)).toNat=k from by exact id (pn [_] 0x2D02C2C0)];by_cases h:k<=l.length
 ·rw [fj h]
 ·rw [mG (by exact id ((pn [_,_] 0x0D012F0D10) h)),jt,dI (by exact id ((pn [_,_] 0x0D012F0D10) h))]
theorem wa {o:cV}{n:Nat}{sc:Sc}{σ:SE}{ob:Expr}{name:Str}{ap cp:Pos}{args:List Expr}{s:Str}{vs:List PV}{r:PV} (hp:(dt ob && ap.endLine == cp.line && decide (args.length<=8))=true) (hb:ev o n sc σ ob=some (.str s)) (ha:dK (ev o n sc σ) args=some vs) (hr:Cl (.str s) name vs=some r) :
  ev o (n+1) sc σ (.Call (.Attribute ob name ap) args [] cp)=some r:=by
 exact (ll hp).trans ((dp hb).trans ((dp ha).trans hr))
theorem xo (l:List Str):lv (l.map .str)=some l:=by
 induction l with
 | nil=>rfl
 | cons a l ih=>rw [aw,lv,ih];rfl
noncomputable def iB:List Str:=match ((db 158)[2]?:Option Stmt) with
 | some (.Assign _ (.Call (.Attribute (.Constant (.str s) _ _) _ _) _ _ _) _)=>Txt.split s " "
 | _=>[]
noncomputable def wO:Nat->Nat:=fun i=>match ((db 158)[0]?:Option Stmt) with
 | some (.Assign _ (.Tuple (.List es _::_) _ _) _)=>(match es[i]? with | some (.Constant (.int n) _ _)=>n.toNat | _=>0)
 | _=>0
noncomputable def gj (c:Nat->Nat):PV:=.lst [.int (c 0:Int),.int (c 1:Int),.int (c 2:Int),.int (c 3:Int),.int (c 4:Int),.int (c 5:Int)]
noncomputable def FL (c:Nat->Nat) (k v:Nat):Nat->Nat:=fun j=>if j=k then v else c j
noncomputable def kM (k:Nat):List Nat:=[[],[32],[9],[32,9]].getD k []
noncomputable def gt (l:List Nat) (cell:Nat):List Nat:=l.take (cell / 9216 % 6)++kM (cell / 2304 % 4)
noncomputable def bn (c:Nat->Nat):Nat->List Nat
 | 0=>[]
 | i+1=>gt (bn c i) (c i)
noncomputable def cN (k:Nat):Str:=iB.getD k ""
noncomputable def u4 (k:Nat):List Nat:=[[97],[98],[99],[100],[101],[]].getD k []
noncomputable def fi (c:Nat->Nat) (i:Nat):List Nat:=(cN (c i % 48)).cps.toList++[97+i]++(cN (c i / 48 % 48)).cps.toList++u4 (c i / 55296 % 6)
noncomputable def fA (c:Nat->Nat) (i:Nat):List Nat:=bn c (i+1)++fi c i++[32,9,120]
noncomputable def eL (c:Nat->Nat):List (List Nat):=[fA c 0,fA c 1,fA c 2,fA c 3,fA c 4]
noncomputable def gQ (c:Nat->Nat):List (List Nat):=[bn c 1,bn c 2,bn c 3,bn c 4,bn c 5]
noncomputable def jC (c:Nat->Nat):Str:=Txt.join "\n" ((eL c).map sl)
noncomputable def EC (S:PV) (c:Nat->Nat) (ls:List (List Nat)) (o:Option (PV×PV)) (rest:SE):SE:=[nm "script" S,ow "cells" (gj c),ow "leads" (.lst (cI ls))]++(match o with | none=>[] | some (s,n)=>[nm "spot" s,nm "number" n])++rest
theorem om:iB.length=48:=by kernel_rfl
theorem C3:(iB.all fun w=>decide (1<=w.length) && decide (w.length<=3))=true:=by kernel_rfl
theorem kJ (k:Nat) (h:k < 48):(iB.map PV.str)[k]?=some (.str (cN k))/\1<=(cN k).length/\(cN k).length<=3:=by
 have h':k < iB.length:=by rw [om];exact h
 unfold cN;rw [aK,av h',aq,av h'];refine ⟨rfl,?_⟩
 have:=bo.mp C3 _ (aY h')
 simpa using this
theorem iS (l:List Nat) (x:Nat):(gt l x).length<=7:=by
 unfold gt kM;rw [ak,cQ];have h1:x / 9216 % 6 < 6:=a5 _ (by exact id (pn [] 0x1D6808));have h2:x / 2304 % 4 < 4:=a5 _ (by exact id (pn [] 0x1D4808));generalize x / 2304 % 4=k at h2;have h3:([[],[32],[9],[32,9]].getD k []:List Nat).length<=2:=by
  rcases (show k=0\/k=1\/k=2\/k=3 by exact id ((pn [_] 0x1F1F1F2D3802D2802D1802D0801D480) h2)) with rfl | rfl | rfl | rfl<;>decide
 exact id ((pn [_,_,_] 0x0D78A10C200D2811D680) h1 h3)
theorem Cu (script:List Int) (hs:script.length<=1000):∃ c:Nat->Nat,e5 o0 wz.W 120 wz.params wz.scope wz.body [.lst (script.map .int)]=some (.tup [gj c,.lst (cI (gQ c)),.str (jC c)]):=by
 generalize hS:PV.lst (script.map .int)=S
 let ff:((Nat->Nat)×Option (PV×PV))->Int×Nat->((Nat->Nat)×Option (PV×PV)):=fun a x=>(FL a.1 (x.2 % 6) (a.1 (x.2 % 6)+(eV x.1 331776).toNat),some (.int (x.2:Int),.int x.1))
 let xs:=(script.take 60).zipIdx
 have hxl:xs.length<=60:=by show ((script.take 60).zipIdx).length<=60;rw [List.length_zipIdx,cQ];exact id (pn [_] 0x0D3C190C03C19)
 generalize hr:xs.foldl ff (wO,none)=r;obtain ⟨c,last⟩:=r;refine ⟨c,?_⟩;refine dY (σ:=[nm "script" S]) (by kernel_rfl) (by kernel_rfl) (aI:=[]) ?_;show exs _ _ _ (c6 158).names _ (db 158)=_
 conv=>lhs;arg 6;whnf
 refine (aj (aI:=EC S wO [[]] none []) (by rfl)).trans ?_;refine gV (fun a=>EC S a.1 [[]] a.2 []) (fun J J=>True) ff (fun x=>.tup [.int (x.2:Int),.int x.1]) 30 xs (wO,none) rfl ?_ (by exact id ((pn [_] 0x0D7519A18A01E190D3C190) hxl)) trivial ?_ ?_
 ·refine (vT (l:=(script.take 60).map .int) (by rfl) (by rfl) ?_ (by rw [aa,cQ];exact id (pn [_] 0x0D100000390C03C19))).trans (by rw [qf])
  subst hS;refine fB (b:=.lst (script.map .int)) (l:=none) (h:=some (60:Nat)) (by rfl) (by rfl) (by rfl) (fZ (by rw [aa];exact id ((pn [_] 0x0D1000003900D03E8290) hs)) ?_);rw [Cz,List.map_take]
 ·intro i a x n hx _
  obtain ⟨c,l⟩:=a;obtain ⟨num,spot⟩:=x;refine ⟨trivial,EC S c [[]] (some (.int (spot:Int),.int num)) [],by cases l<;>kernel_rfl,?_⟩;refine (aj (aI:=EC S (FL c (spot % 6) (c (spot % 6)+(eV num 331776).toNat)) [[]] (some (.int (spot:Int),.int num)) []) ?_).trans (by rfl);have hnn:0<=eV num 331776:=Int.fmod_nonneg_of_pos num (by decide);have hm:spot % 6 < 6:=a5 _ (by exact id (pn [] 0x1D6808));have hv:some (PV.int (eV num 331776))=some (.int ((eV num 331776).toNat:Int)):=by rw [Int.toNat_of_nonneg hnn]
  have hi:some (PV.int (eV (spot:Int) 6))=some (.int ((spot % 6:Nat):Int)):=by rw [f7 _ (by exact id (pn [] 0x0E6808))];rfl
  generalize (eV num 331776).toNat=d at hv;generalize spot % 6=k at hi hm;refine (rP (c:=gj c) (k:=.int (k:Int)) (a:=(c k:Int)) (b:=(d:Int)) (c':=gj (FL c k (c k+d))) (by rfl) (by rfl) ?_ ?_ ?_ ?_).trans (by rfl)
  ·exact Eq.trans (b:=some (PV.int (eV (spot:Int) 6))) (by rfl) hi
  ·rcases (show k=0\/k=1\/k=2\/k=3\/k=4\/k=5 by exact id ((pn [_] 0x1F1F1F1F1F2D5802D4802D3802D2802D1802D0801D680) hm)) with rfl | rfl | rfl | rfl | rfl | rfl<;>kernel_rfl
  ·exact Eq.trans (b:=some (PV.int (eV num 331776))) (by rfl) hv
  ·rcases (show k=0\/k=1\/k=2\/k=3\/k=4\/k=5 by exact id ((pn [_] 0x1F1F1F1F1F2D5802D4802D3802D2802D1802D0801D680) hm)) with rfl | rfl | rfl | rfl | rfl | rfl<;>kernel_rfl
 intro b hb _;rw [hr] at hb;subst hb;dsimp only;refine (aj (aI:=EC S c [[]] last [nm "words" (.lst (iB.map .str))]) (by cases last<;>kernel_rfl)).trans ?_;refine gV (fun (a:List (List Nat)×Option Nat)=>EC S c a.1 last ([nm "words" (.lst (iB.map .str))]++(match a.2 with | none=>[] | some x=>[nm "cell" (.int (x:Int))]))) (fun i a=>a.1≠[]/\a.1.length<=i+1/\∀ l∈a.1,l.length<=7) (fun a x=>(a.1++[gt (a.1.getLastD []) x],some x)) (fun x=>.int (x:Int)) 30 [c 0,c 1,c 2,c 3,c 4] ([[]],none) rfl ?_ ?_ ?_ ?_ ?_
 ·cases last<;>kernel_rfl
 ·show 30+5+1<=_
  exact id (pn [] 0x0D7319A18A581E19)
 ·exact ⟨by simp,aE _,fun l hl=>by rcases ae.mp hl with rfl;exact bP _⟩
 ·intro i a x n hx hP
  obtain ⟨ls,l⟩:=a;refine ir hP ?_;clear hP;intro h1 h2 h3;dsimp only at h1 h2 h3;have hi:i < 5:=by
   rw [aQ] at hx;refine xE hx ?_;clear hx;intro h _;exact h
  refine ⟨⟨by simp,by dsimp only;rw [ak];simp;exact id ((pn [_,_] 0x0DA18100DA1810) h2),?_⟩,?_⟩
  ·intro l hl
   rcases aM.mp hl with hl | hl
   ·exact h3 l hl
   ·rcases ae.mp hl with rfl;exact iS _ _
  have hlast:ls.getLast?=some (ls.getLastD []):=by rw [bZ,bF h1];rfl
  have hmem:ls.getLastD []∈ls:=by rw [bZ,bF h1];exact ju h1
  have hll:=h3 _ hmem;generalize ls.getLastD []=top at *
  refine ⟨EC S c ls last [nm "words" (.lst (iB.map .str)),nm "cell" (.int (x:Int))],by cases last<;>cases l<;>kernel_rfl,?_⟩;refine (aj (aI:=EC S c (ls++[gt top x]) last [nm "words" (.lst (iB.map .str)),nm "cell" (.int (x:Int))]) ?_).trans (by rfl);refine (oq (l:=cI ls) (u:=.str (sl (gt top x))) (by cases last<;>kernel_rfl) ?_ ?_).trans ?_
  ·have:decide ((cI ls).length<=1048576)=true:=decide_eq_true (by unfold cI;rw [aa];exact id ((pn [_,_] 0x0D1000003901D5810DA1810) h2 hi))
   rw [this];rfl
  ·have hk:x / 2304 % 4 < 4:=a5 _ (by exact id (pn [] 0x1D4808))
   refine aW (a:=.str (sl (top.take (x / 9216 % 6)))) (b:=.str (sl (kM (x / 2304 % 4)))) ?_ ?_ ?_
   ·show ev _ _ _ _ _=_
    refine fB (b:=.str (sl top)) (l:=none) (h:=some ((x / 9216 % 6:Nat):Int)) ?_ (by cases last<;>kernel_rfl) (vk ?_) ?_
    ·show ev _ _ _ _ _=_
     refine bt (b:=.lst (cI ls)) (k:=.int (-1)) (by intros;intro h;cases h) (by cases last<;>kernel_rfl) (by cases last<;>kernel_rfl) (by cases last<;>kernel_rfl) (gU ?_ ?_)
     ·unfold cI;rw [List.getLast?_map,hlast];rfl
     ·unfold cI;rw [aa];exact id ((pn [_,_] 0x0D1000003901D5810DA1810) h2 hi)
    ·refine aW (a:=.int ((x / 9216:Nat):Int)) (b:=.int ((6:Nat):Int)) ?_ (by rfl) (eB (by exact id (pn [] 0x1D6808)))
     show ev _ _ _ _ _=_;exact aW (a:=.int (x:Int)) (b:=.int ((9216:Nat):Int)) (by cases last<;>kernel_rfl) (by kernel_rfl) (fF (by exact id (pn [] 0x1D24002908)) (by exact id (pn [] 0x1D010000000059240029)))
    ·show (if (sl top).length<=1048576 then some (PV.str ⟨(ms top none (some ((x / 9216 % 6:Nat):Int))).toArray⟩) else none)=_
     rw [d5,if_pos (by exact id ((pn [_] 0x0D1000003900D780) hll)),Cz];rfl
   ·refine bt (b:=.lst (cI [[],[32],[9],[32,9]])) (k:=.int ((x / 2304 % 4:Nat):Int)) (by intros;intro h;cases h) (by rfl) (by rfl) ?_ (em ?_ (by decide))
    ·refine aW (a:=.int ((x / 2304:Nat):Int)) (b:=.int ((4:Nat):Int)) ?_ (by rfl) (eB (by exact id (pn [] 0x1D4808)))
     show ev _ _ _ _ _=_;exact aW (a:=.int (x:Int)) (b:=.int ((2304:Nat):Int)) (by cases last<;>kernel_rfl) (by kernel_rfl) (fF (by exact id (pn [] 0x1D09002908)) (by exact id (pn [] 0x1D010000000059090029)))
    ·generalize x / 2304 % 4=k at hk
     rcases (show k=0\/k=1\/k=2\/k=3 by exact id ((pn [_] 0x1F1F1F2D3802D2802D1802D0801D480) hk)) with rfl | rfl | rfl | rfl<;>rfl
   ·have hpl:(kM (x / 2304 % 4)).length<=2:=by
     generalize x / 2304 % 4=k at hk;rcases (show k=0\/k=1\/k=2\/k=3 by exact id ((pn [_] 0x1F1F1F2D3802D2802D1802D0801D480) hk)) with rfl | rfl | rfl | rfl<;>decide
    rw [add_str (by rw [d5,cQ];exact id ((pn [_,_] 0x0D100000390C010D780) hll)) (by rw [d5];exact id ((pn [_] 0x0D1000003900D280) hpl)),mZ];rfl
  ·rw [show (cI ls++[PV.str (sl (gt top x))])=cI (ls++[gt top x]) from by unfold cI;rw [aN];rfl]
   cases last<;>kernel_rfl
 intro b hb _;have hb:b=([]::gQ c,some (c 4)):=hb;subst hb;dsimp only
 let ws:Str×(Bool×PV):=nm "words" (.lst (iB.map .str))
 have hw3:∀ k,(cN (k % 48)).length<=3:=fun k=>(kJ (k % 48) (a5 _ (by exact id (pn [] 0x1D301908)))).2.2;have hol:∀ k,(u4 (k % 6)).length<=1:=by
  intro k;have hk:k % 6 < 6:=a5 _ (by exact id (pn [] 0x1D6808));generalize k % 6=k at hk;rcases (show k=0\/k=1\/k=2\/k=3\/k=4\/k=5 by exact id ((pn [_] 0x1F1F1F1F1F2D5802D4802D3802D2802D1802D0801D680) hk)) with rfl | rfl | rfl | rfl | rfl | rfl<;>decide
 have htl:∀ i,(fi c i).length<=8:=by
  intro i;have h1:=hw3 (c i);have h2:=hw3 (c i / 48);have h3:=hol (c i / 55296);unfold fi;rw [ak,ak,ak];have e1:∀ s:Str,s.cps.toList.length=s.length:=fun s=>bR;rw [e1,e1];simp only [bd];exact id ((pn [_,_,_] 0x0D88A2A1A1800D1820D3810D380) h1 h2 h3)
 have hla:∀ i,(bn c (i+1)).length<=7:=fun i=>iS _ _;have hll:∀ i,(fA c i).length<=18:=by
  intro i
  have:=htl i;have:=hla i
  unfold fA;rw [ak,ak];simp only [aD,bB];exact id ((pn [_,_] 0x0D1219AA18A18A1808A010D7810D880) ‹_› this)
 refine (aj (aI:=EC S c ([]::gQ c) last [ws,nm "cell" (.int (c 4:Int)),nm "texts" (.lst (cI ([0,1,2,3,4].map (fi c))))]) ?_).trans ?_
 ·refine (bm (u:=.lst (cI ([0,1,2,3,4].map (fi c)))) (by rfl) ?_).trans (by cases last<;>kernel_rfl)
  refine (bw (items:=[0,1,2,3,4].map fun (i:Nat)=>.tup [.int (i:Int),.int (c i:Int)]) (rs:=([0,1,2,3,4].filter fun J=>true).map fun (i:Nat)=>(.none,.str (sl (fi c i)))) (by rfl) (by cases last<;>kernel_rfl) ?_ (by simp)).trans (by kernel_rfl);refine bx (fun J=>true) (fun (i:Nat)=>.str (sl (fi c i))) (fun (i:Nat)=>.tup [.int (i:Int),.int (c i:Int)]) 30 (by cases last<;>kernel_rfl) [0,1,2,3,4] _ ?_ ?_
  ·show 30+5+1<=_
   exact id (pn [] 0x0D7119A18A581E19)
  ·intro i m hi
   have hi5:i < 5:=by simp at hi;exact id ((pn [_] 0x1D5801F1F1F1F2D4802D3802D2802D1802D080) hi)
   refine ⟨[ws,nm "spot" (.int (i:Int)),nm "cell" (.int (c i:Int))],by cases last<;>kernel_rfl,by kernel_rfl,fun J=>?_⟩;have h1:=hw3 (c i);have h2:=hw3 (c i / 48);have h3:=hol (c i / 55296);have e1:∀ s:Str,sl s.cps.toList=s:=fun s=>pP rfl;refine aW (a:=.str (cN (c i % 48)++sl [97+i]++cN (c i / 48 % 48))) (b:=.str (sl (u4 (c i / 55296 % 6)))) ?_ ?_ ?_
   ·show ev _ _ _ _ _=_
    refine aW (a:=.str (cN (c i % 48)++sl [97+i])) (b:=.str (cN (c i / 48 % 48))) ?_ ?_ (add_str ?_ ?_)
    ·show ev _ _ _ _ _=_
     refine aW (a:=.str (cN (c i % 48))) (b:=.str (sl [97+i])) ?_ ?_ (add_str (by exact id ((pn [_] 0x0D1000003900D380) h1)) (by rw [d5];simp))
     ·show ev _ _ _ _ _=_
      refine bt (b:=.lst (iB.map .str)) (k:=.int ((c i % 48:Nat):Int)) (by intros;intro h;cases h) (by rfl) (by rfl) ?_ (em (kJ _ (a5 _ (by exact id (pn [] 0x1D301908)))).1 (by rw [aa,om];exact id (pn [] 0x0D100000393019)));exact aW (a:=.int (c i:Int)) (b:=.int ((48:Nat):Int)) (by rfl) (by rfl) (eB (by exact id (pn [] 0x1D301908)))
     ·rcases (show i=0\/i=1\/i=2\/i=3\/i=4 by exact id ((pn [_] 0x1F1F1F1F2D4802D3802D2802D1802D0801D580) hi5)) with rfl | rfl | rfl | rfl | rfl<;>kernel_rfl
    ·refine bt (b:=.lst (iB.map .str)) (k:=.int ((c i / 48 % 48:Nat):Int)) (by intros;intro h;cases h) (by rfl) (by rfl) ?_ (em (kJ _ (a5 _ (by exact id (pn [] 0x1D301908)))).1 (by rw [aa,om];exact id (pn [] 0x0D100000393019)))
     refine aW (a:=.int ((c i / 48:Nat):Int)) (b:=.int ((48:Nat):Int)) ?_ (by rfl) (eB (by exact id (pn [] 0x1D301908)));show ev _ _ _ _ _=_;exact aW (a:=.int (c i:Int)) (b:=.int ((48:Nat):Int)) (by rfl) (by rfl) (fF (by exact id (pn [] 0x1D301908)) (by exact id (pn [] 0x1D0100000000593019)))
    ·rw [Str.length_append,d5];simp only [bd];exact id ((pn [_] 0x0D10000039A1800D380) h1)
    ·exact id ((pn [_] 0x0D1000003900D380) h2)
   ·refine bt (b:=.lst (cI [[97],[98],[99],[100],[101],[]])) (k:=.int ((c i / 55296 % 6:Nat):Int)) (by intros;intro h;cases h) (by rfl) (by rfl) ?_ (em ?_ (by decide))
    ·refine aW (a:=.int ((c i / 55296:Nat):Int)) (b:=.int ((6:Nat):Int)) ?_ (by rfl) (eB (by exact id (pn [] 0x1D6808)))
     show ev _ _ _ _ _=_;exact aW (a:=.int (c i:Int)) (b:=.int ((55296:Nat):Int)) (by rfl) (by rfl) (fF (by exact id (pn [] 0x1DD8002908)) (by exact id (pn [] 0x1D010000000059D80029)))
    ·have hk:c i / 55296 % 6 < 6:=a5 _ (by exact id (pn [] 0x1D6808))
     generalize c i / 55296 % 6=k at hk;rcases (show k=0\/k=1\/k=2\/k=3\/k=4\/k=5 by exact id ((pn [_] 0x1F1F1F1F1F2D5802D4802D3802D2802D1802D0801D680) hk)) with rfl | rfl | rfl | rfl | rfl | rfl<;>rfl
   ·rw [add_str (by rw [Str.length_append,Str.length_append,d5];simp only [bd];exact id ((pn [_,_] 0x0D10000039A1A1800D3810D380) h1 h2)) (by rw [d5];exact id ((pn [_] 0x0D1000003900D180) h3))]
    unfold fi;rw [<- mZ,<- mZ,<- mZ,e1,e1]
 ·refine bD (l5 (j3 (ay (by cases last<;>kernel_rfl) (ay (by cases last<;>kernel_rfl) (ay ?_ a8))) (by simp)))
  refine wa (s:="\n") (vs:=[.lst (((eL c).map sl).map .str)]) (by rfl) (by rfl) (ay ?_ a8) ?_
  ·refine (bw (items:=lx (cI (gQ c)) (cI ([0,1,2,3,4].map (fi c)))) (rs:=([0,1,2,3,4].filter fun J=>true).map fun (i:Nat)=>(.none,.str (sl (fA c i)))) (by rfl) ?_ ?_ (by simp)).trans (by rfl)
   ·exact t0 (l:=cI (gQ c)) (m:=cI ([0,1,2,3,4].map (fi c))) (by cases last<;>kernel_rfl) (by kernel_rfl) (by cases last<;>kernel_rfl) (by cases last<;>kernel_rfl) (by unfold cI gQ;simp) (by unfold cI;simp)
   ·refine bx (fun J=>true) (fun (i:Nat)=>.str (sl (fA c i))) (fun (i:Nat)=>.tup [.str (sl (bn c (i+1))),.str (sl (fi c i))]) 30 (by cases last<;>kernel_rfl) [0,1,2,3,4] _ ?_ ?_
    ·show 30+5+1<=_
     exact id (pn [] 0x0D6E19A18A581E19)
    ·intro i m hi
     have h1:=htl i;have h2:=hla i;refine ⟨[nm "lead" (.str (sl (bn c (i+1)))),nm "text" (.str (sl (fi c i)))],by cases last<;>kernel_rfl,by kernel_rfl,fun J=>?_⟩;refine aW (a:=.str (sl (bn c (i+1)++fi c i))) (b:=.str (sl [32,9,120])) ?_ (by rfl) ?_
     ·show ev _ _ _ _ _=_
      exact aW (a:=.str (sl (bn c (i+1)))) (b:=.str (sl (fi c i))) (by rfl) (by rfl) ((add_str (by rw [d5];exact id ((pn [_] 0x0D1000003900D780) h2)) (by rw [d5];exact id ((pn [_] 0x0D1000003900D880) h1))).trans (by rw [mZ]))
     ·exact (add_str (by rw [d5,ak];exact id ((pn [_,_] 0x0D10000039A010D7810D880) h1 h2)) (by rw [d5];simp)).trans (by rw [mZ];rfl)
  ·show (match lv (((eL c).map sl).map PV.str) with | some ss=>if JoinOk "\n" ss then some (PV.str (Txt.join "\n" ss)) else none | none=>none)=_
   rw [xo];dsimp only;have hj:JoinOk "\n" ((eL c).map sl)=true:=by
    unfold JoinOk;rw [StrLaws.joinTotal]
    have:Str.length "\n"=1:=by decide
    rw [this];unfold eL;simp only [aw,cM,cg,List.sum_nil,aD,bB,d5]
    have:=hll 0;have:=hll 1;have:=hll 2;have:=hll 3;have:=hll 4
    unfold Builtin.Str.tooLong;rw [Bool.not_eq_true',decide_eq_false_iff_not,bu];lia
   rw [if_pos hj];rfl
end
end Mine
end
section
namespace Mine
noncomputable section
noncomputable def nu (ts:Nat) (count:List Nat):Nat->Nat
 | 0=>0
 | n+1=>nu ts count n+n / ts * count.getD n 0
theorem nT {ts:Nat}{count:List Nat}:∀ {n:Nat},n<=ts->nu ts count n=0
 | 0,_=>rfl
 | n+1,h=>by
  rw [nu,nT (by exact id ((pn [_,_] 0x0D100D1A180) h)),Nat.div_eq_of_lt (by exact id ((pn [_,_] 0x1D100D1A180) h))];lia
theorem tf {ts:Nat}{count:List Nat}:∀ {k:Nat},nu ts count (count.length+k)=nu ts count count.length
 | 0=>rfl
 | k+1=>by
  rw [show count.length+(k+1)=(count.length+k)+1 from rfl,nu,tf,aq,c9 (by exact id (pn [_,_] 0x0DA100))];simp
theorem ym {ts:Nat}{count:List Nat}:∀ k:Nat,(ax k).foldl (fun il x=>il+(ts+x) / ts * count.getD (ts+x) 0) 0=nu ts count (ts+k)
 | 0=>by rw [Nat.add_zero,nT (aE _)];rfl
 | k+1=>by
  rw [g9,dB,ym k];rfl
theorem Bo {ts:Nat}{count:List Nat}{N:Nat} (h:count.length<=N):r9 count ts=nu ts count N:=by
 unfold r9;rw [ym];refine xE (Nat.exists_eq_add_of_le h) ?_;rintro d rfl;rw [tf];by_cases h2:ts<=count.length
 ·rw [show ts+(count.length - ts)=count.length from by exact id ((pn [_,_] 0x2D1AB0100D10) h2)]
 ·rw [show ts+(count.length - ts)=ts from by exact id ((pn [_,_] 0x2D0AB0102F0D10) h2),nT (aE _),nT (by exact id ((pn [_,_] 0x0D012F0D10) h2))]
theorem zy (count:List Nat) (b i:Nat):(ee count b).getD i 0=count.getD i 0+if i=b then 1 else 0:=by
 unfold ee;dsimp only;generalize hc:(if count.length<=b then count++be (b - count.length+1) 0 else count)=c;have hcl:b < c.length:=by
  rw [<- hc];split
  ·simp;exact id (pn [_,_] 0x1DAA18B1010)
  ·exact id ((pn [_,_] 0x1D012F0D10) ‹_›)
 have hcg:∀ i,c.getD i 0=count.getD i 0:=by
  intro i;rw [<- hc];split
  ·rw [aq,aq,List.getElem?_append]
   split
   ·rfl
   ·rw [c9 (l:=count) (by exact id ((pn [_,_] 0x0D012F1D10) ‹_›)),List.getElem?_replicate]
    split<;>rfl
  ·rfl
 rw [aq,List.getElem?_set];by_cases h:b=i
 ·subst h
  rw [if_pos rfl,if_pos hcl,if_pos rfl,bJ,hcg]
 ·rw [if_neg h,if_neg (Ne.symm h),<- aq,hcg];rfl
theorem dL (count:List Nat) (b:Nat):(ee count b).length=max count.length (b+1):=by
 unfold ee;dsimp only;rw [List.length_set];split
 ·rw [ak,List.length_replicate];exact id ((pn [_,_] 0x2D1CA1810AA18B0100D10) ‹_›)
 ·exact id ((pn [_,_] 0x2D1CA181002F0D10) ‹_›)
theorem vC {ts:Nat}{count:List Nat}{b:Nat}:∀ {N:Nat},nu ts (ee count b) N=nu ts count N+if b < N then b / ts else 0
 | 0=>by rw [nu,nu,if_neg (by exact id (pn [_] 0x2F1D080))]
 | N+1=>by
  rw [nu,nu,vC,zy];by_cases h:N=b
  ·subst h
   rw [if_neg (by exact id (pn [_] 0x2F1D00)),if_pos rfl,if_pos (by exact id (pn [_] 0x1DA1800)),Nat.mul_add];lia
  ·rw [if_neg h,Nat.add_zero]
   by_cases h2:b < N
   ·rw [if_pos h2,if_pos (by exact id ((pn [_,_] 0x1DA18101D10) h2))];exact id (pn [_,_,_] 0x2DA1A20A2A10)
   ·rw [if_neg h2,if_neg (by exact id ((pn [_,_] 0x2F1DA18012F1D012F2D10) h h2))];rfl
theorem zc {ts:Nat}{count:List Nat}{b:Nat}:r9 (ee count b) ts=r9 count ts+b / ts:=by
 rw [Bo (N:=count.length+b+1) (by rw [dL];exact id (pn [_,_] 0x0DA18A101CA1810)),Bo (N:=count.length+b+1) (by exact id (pn [_,_] 0x0DA18A100)),vC,if_pos (by exact id (pn [_,_] 0x1DA18A010))]
theorem kZ:∀ {l:List Nat}{c:Nat}{r:List Nat}{st:WS},(∀ x∈l,x=32\/x=9)->eU c=false->bE (l++c::r) st=bE l st
 | [],c,r,(count,b,n,nt),_,hc=>by
  have h1:c≠32:=fun e=>by subst e;cases hc
  have h2:c≠9:=fun e=>by subst e;cases hc
  show bE (c::r) (count,b,n,nt)=(count,b,n,nt);rw [bE.eq_2,if_neg h1,if_neg h2]
 | x::l,c,r,(count,b,n,nt),h,hc=>by
  rw [ga,bE,bE,kZ (fun y hy=>h y (ai _ hy)) hc,kZ (fun y hy=>h y (ai _ hy)) hc]
theorem kK:∀ (l:List Nat) (st:WS) (v:Nat->Int),(∀ x∈l,x=32\/x=9)->(∀ i,v i=(eY st (i+1):Int))->∀ i,(l.foldl mD v) i=(eY (bE l st) (i+1):Int)
 | [],(count,b,n,nt),v,_,hv=>hv
 | x::l,(count,b,n,nt),v,h,hv=>by
  rw [a9,bE];rcases h x am with rfl | rfl
  ·rw [if_pos rfl]
   refine kK l _ _ (fun y hy=>h y (ai _ hy)) fun i=>?_;show Dw (i:Int) (32 == 32) (v i)=_;rw [hv i];show ((eY (count,b,n,nt) (i+1):Int))+1=_;unfold eY;dsimp only;exact id (pn [_,_] 0x2E2CA1A180A182CA10)
  ·rw [if_neg (by decide),if_pos rfl]
   refine kK l _ _ (fun y hy=>h y (ai _ hy)) fun i=>?_;show Dw (i:Int) (9 == 32) (v i)=_;rw [hv i];show ((eY (count,b,n,nt) (i+1):Int)) - eV _ ((i:Int)+1)+(i:Int)+1=_;have hf:eV (eY (count,b,n,nt) (i+1):Int) ((i:Int)+1)=((b % (i+1):Nat):Int):=by
    rw [f7 _ (by exact id (pn [_] 0x0EA182C008)),show ((i:Int)+1)=((i+1:Nat):Int) from rfl];show (((eY (count,b,n,nt) (i+1)) % (i+1):Nat):Int)=_;unfold eY;dsimp only;rw [Nat.add_mul_mod_self_left]
   rw [hf];unfold eY;dsimp only;rw [zc];have hdm:=Nat.div_add_mod b (i+1);rw [show (i+1) * (r9 count (i+1)+b / (i+1)+(nt+1))=(i+1) * (r9 count (i+1)+nt)+(i+1) * (b / (i+1))+(i+1) from by rw [<- Nat.mul_add,<- Nat.mul_succ];congr 1;exact id (pn [_,_,_] 0x2DA18A1A20AA182A10)];exact id ((pn [_,_,_,_,_] 0x2E2CAAA184A0308A18A2C4B2C12CA322D2A10) hdm)
theorem iQ:∀ (l:List Nat) (st:WS),(∀ x∈l,x=32\/x=9)->(bE l st).2.2.1=st.2.2.1+l.length
 | [],(count,b,n,nt),_=>rfl
 | x::l,(count,b,n,nt),h=>by
  rw [bE,aD];rcases h x am with rfl | rfl
  ·rw [if_pos rfl,iQ l _ fun y hy=>h y (ai _ hy)];dsimp only;exact id (pn [_,_] 0x2DAA1810A1A180)
  ·rw [if_neg (by decide),if_pos rfl,iQ l _ fun y hy=>h y (ai _ hy)];dsimp only;exact id (pn [_,_] 0x2DAA1810A1A180)
theorem tm (l:List Nat) (h:∀ x∈l,x=32\/x=9):eY (bE l ([],0,0,0)) 1=l.length:=by
 have h1:=kK l ([],0,0,0) (fun J=>0) h (fun i=>by unfold eY r9;simp) 0;have h2:∀ (l:List Nat) (v:Nat->Int),(∀ x∈l,x=32\/x=9)->(l.foldl mD v) 0=v 0+(l.length:Int):=by
  intro l
  induction l with
  | nil=>intro v _;simp
  | cons x l ih=>
   intro v h;rw [a9,ih _ fun y hy=>h y (ai _ hy),aD]
   have:mD v x 0=v 0+1:=by
    show Dw 0 (x == 32) (v 0)=_;unfold Dw
    cases (x == 32)
    ·show v 0 - eV (v 0) (0+1)+0+1=_
     rw [f7 _ (by exact id (pn [] 0x0EA180808))];lia
    ·rfl
   rw [this];exact id (pz [_] [_] 0x2EA2CA1800A2C0A180)
 have h3:(l.foldl mD fun J=>0) 0=0+(l.length:Int):=h2 l (fun J=>0) h;rw [h1] at h3;have h4:((eY (bE l ([],0,0,0)) 1:Nat):Int)=0+(l.length:Int):=h3;exact id ((pn [_,_] 0x2D102EA2C1082C0) h3)
noncomputable def mV (m:Nat) (st:WS):Prop:=st.1.length<=m+1/\st.2.1<=m
theorem mU:∀ (l:List Nat) (st:WS) (m:Nat),(∀ x∈l,x=32\/x=9)->mV m (bE l st)->st.1.length<=m+1/\∀ k,mV m st->mV m (bE (l.take k) st)
 | [],(count,b,n,nt),m,_,h=>⟨h.1,fun k J=>by rw [List.take_nil];exact h⟩
 | x::l,(count,b,n,nt),m,hx,h=>by
  have hl:=fun y hy=>hx y (ai _ hy);rcases hx x am with rfl | rfl
  ·rw [bE,if_pos rfl] at h
   refine xA (mU l _ m hl h) ?_;intro h1 h2;refine ⟨h1,fun k hr=>?_⟩
   cases k with
   | zero=>exact hr
   | succ k=>
    rw [List.take_succ_cons,bE,if_pos rfl];by_cases hb:b+1<=m
    ·exact h2 k ⟨hr.1,hb⟩
    ·exfalso
     have hbad:∀ (l:List Nat) (count:List Nat) (b n nt:Nat),(∀ x∈l,x=32\/x=9)->¬ b<=m->¬ mV m (bE l (count,b,n,nt)):=by
      intro l
      induction l with
      | nil=>intro count b n nt _ hb h;exact hb h.2
      | cons y l ih=>
       intro count b n nt hy hb h;rcases hy y am with rfl | rfl
       ·rw [bE,if_pos rfl] at h
        exact ih _ _ _ _ (fun z hz=>hy z (ai _ hz)) (by exact id ((pn [_,_] 0x2F0D1A1802F0D10) hb)) h
       ·rw [bE,if_neg (by decide),if_pos rfl] at h
        have h3:∀ (l:List Nat) (st:WS),(∀ x∈l,x=32\/x=9)->st.1.length<=(bE l st).1.length:=by
         intro l
         induction l with
         | nil=>intro st _;exact aE _
         | cons z l ih2=>
          intro st hz;obtain ⟨count,b,n,nt⟩:=st;rcases hz z am with rfl | rfl
          ·rw [bE,if_pos rfl];exact ih2 (count,b+1,n+1,nt) fun w hw=>hz w (ai _ hw)
          ·rw [bE,if_neg (by decide),if_pos rfl]
           have:=ih2 (ee count b,0,n+1,nt+1) fun w hw=>hz w (ai _ hw)
           dsimp only at this ⊢;rw [dL] at this;exact id ((pn [_,_,_] 0x0D200D21CA1810) this)
        have h4:=h3 l (ee count b,0,n+1,nt+1) fun z hz=>hy z (ai _ hz);dsimp only at h4;rw [dL] at h4
        have:=h.1
        exact id ((pn [_,_,_,_] 0x2F0DA18130D31CA18022F0D10) hb h4 this)
     exact hbad l _ _ _ _ hl hb h
  ·rw [bE,if_neg (by decide),if_pos rfl] at h
   refine xA (mU l _ m hl h) ?_;intro h1 h2;dsimp only at h1;rw [dL] at h1;refine ⟨by dsimp only;exact id ((pn [_,_,_] 0x0DA18200DA1821CA1810) h1),fun k hr=>?_⟩
   cases k with
   | zero=>exact hr
   | succ k=>
    rw [List.take_succ_cons,bE,if_neg (by decide),if_pos rfl];exact h2 k ⟨by dsimp only;rw [dL];exact id ((pn [_,_,_] 0x0DA1821CA18100DA1821CA1810) h1),bP _⟩
theorem j6:∀ (l r:List Nat) (st:WS),(∀ x∈l,x=32\/x=9)->bE (l++r) st=bE r (bE l st)
 | [],r,(count,b,n,nt),_=>rfl
 | x::l,r,(count,b,n,nt),h=>by
  rw [ga,bE,bE];rcases h x am with rfl | rfl
  ·rw [if_pos rfl,if_pos rfl,j6 l r _ fun y hy=>h y (ai _ hy)]
  ·rw [if_neg (by decide),if_pos rfl,if_neg (by decide),if_pos rfl,j6 l r _ fun y hy=>h y (ai _ hy)]
theorem mV.mono {m m':Nat}{st:WS} (h:mV m st) (l:m<=m'):mV m' st:=⟨by have:=h.1;exact id ((pn [_,_,_] 0x0DA18120DA18020D10) l this),by have:=h.2;exact id ((pn [_,_,_] 0x0D120D020D10) l this)⟩
end
end Mine
end
section
namespace Mine
noncomputable section
theorem qo:∀ (l:List Int) (m:Int),(eZ m l > 0)↔(m > 0/\∀ x∈l,x > 0)
 | [],m=>by unfold eZ;simp
 | i::l,m=>by
  rw [eZ,qo l];constructor
  ·rintro ⟨h1,h2⟩
   split at h1
   ·exact ⟨by exact id ((pz [] [_,_] 0x1E1081E0081E10) ‹_› h1),fun x hx=>by rcases ar.mp hx with rfl | hx;exact h1;exact h2 x hx⟩
   ·exact ⟨by exact id ((pz [] [_] 0x1E0081E008) h1),fun x hx=>by rcases ar.mp hx with rfl | hx;exact id ((pz [] [_,_] 0x1E1082F1E011E008) h1 ‹_›);exact h2 x hx⟩
  ·rintro ⟨h1,h2⟩
   refine ⟨?_,fun x hx=>h2 x (ai _ hx)⟩
   have:=h2 i am
   split<;>lia
theorem jI {st:WS}{ts:Nat} (h:st.1.length<=ts):eY st ts=st.2.1+ts * st.2.2.2:=by
 unfold eY
 have:r9 st.1 ts=0:=by unfold r9;rw [show st.1.length - ts=0 from by exact id ((pn [_,_] 0x2D08B100D10) h)];rfl
 rw [this,di]
theorem Dn {p q m u v:Nat} (hq:q<=m) (h:p+(m+1) * u < q+(m+1) * v):u<=v:=Nat.le_of_not_lt fun l=>by
 have:=Nat.mul_le_mul_left (m+1) (show v+1<=u from l)
 rw [Nat.mul_succ] at this;exact id ((pn [_,_,_,_,_] 0x2F0D3AA18141DA40A320D10) hq h this)
theorem Gs {p q m u v:Nat} (hq:q<=m) (h:p+(m+1) * u < q+(m+1) * v) {ts:Nat} (ht:m+1<=ts):p+ts * u < q+ts * v:=by
 refine xE (Nat.le.dest ht) ?_;intro d e;subst e
 have:=Nat.mul_le_mul_left d (Dn hq h)
 rw [Nat.add_mul,Nat.add_mul _ d v];exact id ((pn [_,_,_,_,_,_] 0x1DAA532AA4100D541DA32A10) h this)
theorem rg {a b:WS}{m:Nat} (la:a.1.length<=m+1) (lb:b.1.length<=m+1) (hb:b.2.1<=m) (h:eY a (m+1) < eY b (m+1)):a.2.2.2<=b.2.2.2/\∀ ts,m+1<=ts->eY a ts < eY b ts:=by
 rw [jI la,jI lb] at h;exact ⟨Dn hb h,fun ts ht=>by rw [jI (aO la ht),jI (aO lb ht)];exact Gs hb h ht⟩
theorem y7 (a:WS):a.1.length<=dR a+1/\a.2.1<=dR a:=⟨by unfold dR;exact id (pn [_,_] 0x0DA181C1B1800),Nat.le_max_right _ _⟩
theorem CR {a b:WS} (lb:b.1.length<=6) (la:a.1.length<=6) (hb:b.2.1<=5) (a1:eY a 1=a.2.2.1) (b1:eY b 1=b.2.2.1):gD a b=true↔∀ ts,1<=ts->eY a ts < eY b ts:=by
 unfold gD;rw [<- a1,<- b1];by_cases h:eY b 1<=eY a 1
 ·rw [if_pos h]
  exact ⟨fun e=>(nomatch e),fun k=>absurd (k 1 (aE _)) (dS.mpr h)⟩
 rw [if_neg h];have h:=Nat.lt_of_not_le h;by_cases q:(eT a && eT b)=true
 ·rw [if_pos q,decide_eq_true_iff]
  refine xA (Bool.and_eq_true_iff.mp q) ?_;intro s1 s2;have s1:a.1.length<=1:=Int.ofNat_le.mp (of_decide_eq_true s1);have s2:b.1.length<=1:=Int.ofNat_le.mp (of_decide_eq_true s2);refine ⟨fun n ts ht=>?_,fun k=>(rg la lb hb (k 6 (by decide))).1⟩;rw [jI s1,jI s2,lQ,lQ] at h;rw [jI (aO s1 ht),jI (aO s2 ht)];refine xE (Nat.le.dest ht) ?_;intro d e;subst e
  have:=Nat.mul_le_mul_left d n
  rw [Nat.add_mul,Nat.add_mul _ d,lQ,lQ];exact id ((pn [_,_,_,_,_,_] 0x1DAA532AA4100D541DA32A10) h this)
 ·rw [if_neg q,bo]
  have pa:=y7 a;have pb:=y7 b;have x1:=Nat.le_max_left (dR a) (dR b);have x2:=Nat.le_max_right (dR a) (dR b);generalize max (dR a) (dR b)=m at x1 x2;refine ⟨fun k ts ht=>?_,fun k x J=>decide_eq_true (k _ (by exact id (pn [_] 0x0DA02818)))⟩;have k:∀ ts,1<=ts->ts<=m+1->eY a ts < eY b ts:=fun ts ht hm=>by
   rcases Nat.eq_or_lt_of_le ht with e | e
   ·rw [<- e];exact h
   ·have:=of_decide_eq_true (k (ts - 2) (dT.mpr (by exact id ((pn [_,_] 0x1D1B2801D0180DA18100D018) ht hm e))))
    rw [show 2+(ts - 2)=ts by exact id ((pn [_] 0x2D0AB280281D0180D018) ht e)] at this;exact this
  rcases ku ts (m+1) with e | e
  ·exact k ts ht e
  ·exact (rg (aO pa.1 (by exact id ((pn [_,_] 0x0DA181A1800D10) x1))) (aO pb.1 (by exact id ((pn [_,_] 0x0DA181A1800D10) x2))) (aO pb.2 x2) (k _ (by exact id (pn [_] 0x0DA18018)) (aE _))).2 ts e
theorem zO {a b:WS} (ha:mV 5 a) (hb:mV 5 b) (a1:eY a 1=a.2.2.1) (b1:eY b 1=b.2.2.1) :
  gD a b=decide (eY a 1 < eY b 1/\eY a 2 < eY b 2/\eY a 3 < eY b 3/\eY a 4 < eY b 4/\eY a 5 < eY b 5/\eY a 6 < eY b 6):=by
 refine dE.mpr ((CR hb.1 ha.1 hb.2 a1 b1).trans (Iff.trans ⟨fun k=>⟨k 1 (by decide),k 2 (by decide),k 3 (by decide),k 4 (by decide),k 5 (by decide),k 6 (by decide)⟩,fun k ts ht=>?_⟩ decide_eq_true_iff.symm));obtain ⟨k1,k2,k3,k4,k5,k6⟩:=k;rcases ku 6 ts with e | e
 ·exact (rg ha.1 hb.1 hb.2 k6).2 ts e
 ·rcases (show ts=1\/ts=2\/ts=3\/ts=4\/ts=5\/ts=6 by exact id ((pn [_] 0x1F1F1F1F1F2D6802D5802D4802D3802D2802D1800D6800D018) ht e)) with rfl | rfl | rfl | rfl | rfl | rfl<;>assumption
abbrev lj (l:List Nat):WS:=bE l ([],0,0,0)
theorem vR (l:List Nat) (h:∀ x∈l,x=32\/x=9) (i:Nat):dN l i=(eY (lj l) (i+1):Int):=
 kK l ([],0,0,0) (fun J=>0) h (fun i=>by unfold eY r9;simp) i
theorem Du {l m:List Nat} (hl:∀ x∈l,x=32\/x=9) (hm:∀ x∈m,x=32\/x=9) (rl:mV 5 (lj l)) (rm:mV 5 (lj m)):gD (lj l) (lj m)=uR (dN l) (dN m):=by
 have n1:=iQ l ([],0,0,0) hl;have n2:=iQ m ([],0,0,0) hm;rw [zO rl rm (by rw [tm l hl,n1,di]) (by rw [tm m hm,n2,di])];unfold uR;refine decide_eq_decide.mpr ?_;rw [qo];simp only [vR l hl,vR m hm,ar,bg,or_false,forall_eq_or_imp,forall_eq,di,Nat.reduceAdd]
 lia
theorem zZ (k:Nat):∀ x∈kM k,x=32\/x=9:=by
 unfold kM;intro x hx
 match k with
 | 0=>cases hx
 | 1=>simp at hx;exact id ((pn [_] 0x1F2D9802D201902D20190) hx)
 | 2=>simp at hx;exact id ((pn [_] 0x1F2D9802D201902D980) hx)
 | 3=>simp at hx;exact id ((pn [_] 0x1F2D9802D201901F2D9802D20190) hx)
 | k+4=>simp at hx
theorem iM (c:Nat->Nat):∀ i,∀ x∈bn c i,x=32\/x=9
 | 0,x,h=>nomatch h
 | i+1,x,h=>by
  rcases aM.mp h with h | h
  ·exact iM c i x (pr h)
  ·exact zZ _ x h
theorem xU {m:Nat}{st:WS} (h:mV m st):∀ k,mV (m+1) (bE (kM k) st):=by
 obtain ⟨count,b,n,nt⟩:=st;refine xA h ?_;clear h;intro h1 h2;dsimp only at h1 h2;intro k;unfold kM
 match k with
 | 0=>exact ⟨by show count.length<=_;exact id ((pn [_,_] 0x0DA18A18100DA1810) h1),by show b<=_;exact id ((pn [_,_] 0x0DA18100D10) h2)⟩
 | 1=>exact ⟨by show count.length<=_;exact id ((pn [_,_] 0x0DA18A18100DA1810) h1),by show b+1<=_;exact id ((pn [_,_] 0x0DA181A1800D10) h2)⟩
 | 2=>exact ⟨by show (ee count b).length<=_;rw [dL];exact id ((pn [_,_,_] 0x0DA18A1811CA18200D120DA1810) h1 h2),bP _⟩
 | 3=>exact ⟨by show (ee count (b+1)).length<=_;rw [dL];exact id ((pn [_,_,_] 0x0DA18A1811CA18A18200D120DA1810) h1 h2),bP _⟩
 | k+4=>exact ⟨by show count.length<=_;exact id ((pn [_,_] 0x0DA18A18100DA1810) h1),by show b<=_;exact id ((pn [_,_] 0x0DA18100D10) h2)⟩
theorem kg (c:Nat->Nat):∀ i,mV i (lj (bn c i))
 | 0=>⟨bP _,aE _⟩
 | i+1=>by
  have h:=kg c i;show mV (i+1) (lj ((bn c i).take _++kM _));unfold lj;rw [j6 _ _ _ fun x hx=>iM c i x (pr hx)];exact xU ((mU _ _ i (iM c i) h).2 _ ⟨bP _,bP _⟩) _
noncomputable def kB (x:Nat):Bool:=!(x == 32 || x == 9 || x == 10 || (97<=x && x<=101) || x == 120)
theorem CZ:(lc.all fun p=>p.1.cps.toList.all kB)=true:=by kernel_rfl
theorem Ch:((ax 48).all fun k=>(lc.lookup (cN k) == some (7+(k:Int))) && (cN k).cps.toList.all kB)=true:=by kernel_rfl
theorem CY {l:List (Str×Int)}{k:Str}{v:Int} (h:l.lookup k=some v):(k,v)∈l:=by
 induction l with
 | nil=>cases h
 | cons p l ih=>
  obtain ⟨a,b⟩:=p;rw [aP] at h;by_cases q:k == a
  ·rw [q] at h
   have:k=a:=eq_of_beq q
   subst this
   injection h with h;subst h;exact am
  ·rw [Bool.not_eq_true _ |>.mp q] at h
   exact ai _ (ih h)
theorem oM {l:List Nat}{x:Nat} (h:x∈l) (hx:kB x=false):tk l=none:=by
 cases e:tk l with
 | none=>rfl
 | some v=>
  have:=bo.mp (bo.mp CZ _ (CY e)) x h
  rw [hx] at this;cases this
theorem pR {k:Nat} (h:k < 48):tk (cN k).cps.toList=some (7+(k:Int))/\∀ x∈(cN k).cps.toList,kB x=true:=by
 have:=bo.mp Ch k (dT.mpr h)
 refine xA (aR _ _ |>.mp this) ?_;intro h1 h2;exact ⟨eq_of_beq h1,bo.mp h2⟩
theorem y9 {k:Nat} (h:k < 48) {x:Nat}{r:List Nat} (hx:kB x=false):cw ((cN k).cps.toList++x::r)=((cN k).cps.toList,7+(k:Int)):=by
 refine xA (pR h) ?_;intro h1 h2;have h3:=(kJ k h).2;have e:(cN k).length=(cN k).cps.toList.length:=bR.symm;rw [e] at h3;generalize (cN k).cps.toList=w at h1 h2 h3;unfold cw
 match w,h3 with
 | [a],_=>
  have e3:tk (([a]++x::r).take 3)=none:=oM (x:=x) (by simp) hx;have e2:tk (([a]++x::r).take 2)=none:=oM (x:=x) (by simp) hx;have e1:tk (([a]++x::r).take 1)=some (7+(k:Int)):=h1;rw [e3,e2,e1];rfl
 | [a,b],_=>
  have e3:tk (([a,b]++x::r).take 3)=none:=oM (x:=x) (by simp) hx;have e2:tk (([a,b]++x::r).take 2)=some (7+(k:Int)):=h1;rw [e3,e2];rfl
 | [a,b,d],_=>
  have e3:tk (([a,b,d]++x::r).take 3)=some (7+(k:Int)):=h1;rw [e3];rfl
 | [],h=>simp at h
 | a::b::d::e::w,h=>simp at h
theorem yR {x:Nat}{r:List Nat} (hx:kB x=false):cw (x::r)=([x],if x=32 then 0 else 159+(x:Int)):=by
 have e3:tk ((x::r).take 3)=none:=oM (x:=x) (by simp) hx;have e2:tk ((x::r).take 2)=none:=oM (x:=x) (by simp) hx;have e1:tk ((x::r).take 1)=none:=oM (x:=x) (by simp) hx;unfold cw;rw [e3,e2,e1];simp
noncomputable def pG (k:Nat):Int:=[256,257,258,259,260,0].getD k 0
noncomputable def oL (c:Nat->Nat) (i:Nat):List Int:=[7+(c i % 48:Nat),256+(i:Int),7+(c i / 48 % 48:Nat),pG (c i / 55296 % 6)]
theorem Ah (c:Nat->Nat) {i:Nat} (hi:i < 5):iD 4 (fi c i++[32,9,120])=oL c i/\Ax 4 (fi c i++[32,9,120]):=by
 have h1:c i % 48 < 48:=a5 _ (by exact id (pn [] 0x1D301908));have h2:c i / 48 % 48 < 48:=a5 _ (by exact id (pn [] 0x1D301908));have h3:c i / 55296 % 6 < 6:=a5 _ (by exact id (pn [] 0x1D6808));unfold fi oL;generalize c i % 48=k at h1;generalize c i / 48 % 48=k' at h2;generalize c i / 55296 % 6=j at h3;have hl:kB (97+i)=false:=by
  rcases (show i=0\/i=1\/i=2\/i=3\/i=4 by exact id ((pn [_] 0x1F1F1F1F2D4802D3802D2802D1802D0801D580) hi)) with rfl | rfl | rfl | rfl | rfl<;>rfl
 obtain ⟨y,r,hy,hyo,hyv⟩:∃ y r,u4 j++[32,9,120]=y::r/\kB y=false/\(if y=32 then (0:Int) else 159+(y:Int))=pG j:=by
  rcases (show j=0\/j=1\/j=2\/j=3\/j=4\/j=5 by exact id ((pn [_] 0x1F1F1F1F1F2D5802D4802D3802D2802D1802D0801D680) h3)) with rfl | rfl | rfl | rfl | rfl | rfl<;>exact ⟨_,_,rfl,rfl,rfl⟩
 have e0:(cN k).cps.toList++[97+i]++(cN k').cps.toList++u4 j++[32,9,120]=(cN k).cps.toList++(97+i)::((cN k').cps.toList++y::r):=by
  rw [bp _ (u4 j),hy];simp
 rw [e0];have r1:=y9 (r:=(cN k').cps.toList++y::r) h1 hl;have d1:((cN k).cps.toList++(97+i)::((cN k').cps.toList++y::r)).drop (cN k).cps.toList.length=(97+i)::((cN k').cps.toList++y::r):=pA ..;have r2:=yR (r:=(cN k').cps.toList++y::r) hl;have r3:=y9 (r:=r) h2 hyo;have d3:((cN k').cps.toList++y::r).drop (cN k').cps.toList.length=y::r:=pA ..;have r4:=yR (r:=r) hyo;have v2:(if 97+i=32 then (0:Int) else 159+((97+i:Nat):Int))=256+(i:Int):=by rw [if_neg (by exact id (pn [_] 0x2F2D2019A06119))];exact id (pn [_] 0x2EA2C0010029A2CA061199F19)
 constructor
 ·rw [iD,r1,d1,iD,r2]
  show _::_::iD 2 ((cN k').cps.toList++y::r)=_;rw [iD,r3,d3,iD,r4,iD,v2,hyv]
 ·refine ⟨by simp,?_⟩
  rw [r1,d1];refine ⟨by simp,?_⟩;rw [r2];refine ⟨by simp,?_⟩;show Ax 1 (((cN k').cps.toList++y::r).drop (cw ((cN k').cps.toList++y::r)).1.length);rw [r3,d3];exact ⟨by simp,trivial⟩
end
end Mine
end
section
namespace Mine
noncomputable section
noncomputable def fX (k:Nat):Stmt:=((db 203)[k]?).getD default
abbrev lT:Sc:=Er.scope.names
theorem Ck (script:List Int) (hs:script.length<=1000):∃ c:Nat->Nat,o3.fn "_law_page" [.lst (script.map .int)]=some (.tup [gj c,.lst (cI (gQ c)),.str (jC c)]):=Cu script hs
theorem Cx {s:Str}{p:Nat} (hs:s.length<=1000) (hp:p<=s.length) (ok:Ax 4 (s.cps.toList.drop p)):o3.fn "_law_symbols" [.str s,.int (p:Int)]=some (aL (iD 4 (s.cps.toList.drop p))):=CU hs hp ok
theorem EZ {s:Str} (hs:s.length<=1000) (hb:(s.cps.toList.takeWhile eU).length<=60):o3.fn "Whitespace" [.str s]=some (sG s):=De hs hb
theorem Ab {s s':Str}{a b:WS} (ha:C1 a) (hb:C1 b):o3.mth "Whitespace" "less" [jg s a,jg s' b]=some (.bool (gD a b)):=uV ha.1 hb.1 ha.2 hb.2
theorem CG {l0 l1 l2 l3 l4:List Nat} (h:∀ l∈[l0,l1,l2,l3,l4],l.length<=20/\∀ x∈l,x=32\/x=9):o3.fn "_law_farther" [.lst (cI [l0,l1,l2,l3,l4])]=some (EU fun i=>dN ([l0,l1,l2,l3,l4].getD i [])):=EB h
theorem Ay {sp:List (Str×WS)} (hn:sp.length<=20) (hw:∀ p∈sp,C1 p.2):o3.fn "_law_hang" [pX sp]=some (aL (mB (ge sp) sp.length)):=CI hn hw
theorem zI (x:Int):o3.fn "ISTERMINAL" [.int x]=some (.bool (decide (x < 256))):=vm x
theorem Be (x:Int):o3.fn "ISNONTERMINAL" [.int x]=some (.bool (decide (x ≥ 256))):=yz x
theorem Ba (x:Int):o3.fn "ISEOF" [.int x]=some (.bool (x == 0)):=yQ x
abbrev jK (c:Nat->Nat) (i:Nat):Str:=sl (fA c i)
noncomputable def uJ (c:Nat->Nat):List (Str×WS):=[0,1,2,3,4].map fun i=>(jK c i,lj (bn c (i+1)))
theorem zC (c:Nat->Nat) (i:Nat):∃ x r,fi c i++[32,9,120]=x::r/\eU x=false:=by
 have h:=pR (k:=c i % 48) (a5 _ (by exact id (pn [] 0x1D301908)));have h3:=(kJ (c i % 48) (a5 _ (by exact id (pn [] 0x1D301908)))).2;have e:(cN (c i % 48)).length=(cN (c i % 48)).cps.toList.length:=bR.symm;rw [e] at h3;unfold fi;generalize (cN (c i % 48)).cps.toList=w at h h3
 cases w with
 | nil=>simp at h3
 | cons x w=>
  refine ⟨x,_,by simp only [ga,bp];rfl,?_⟩;have hx:=h.2 x am;unfold kB at hx;unfold eU
  cases h1:(x == 32) with
  | true=>rw [h1] at hx;cases hx
  | false=>cases h2:(x == 9) with
   | true=>rw [h1,h2] at hx;cases hx
   | false=>rfl
theorem EG (c:Nat->Nat) (i:Nat):sf (jK c i)=lj (bn c (i+1)):=by
 refine jw (zC c i) ?_;intro x r h hx;show bE (fA c i) _=_;unfold fA;rw [bp,h,kZ (iM c (i+1)) hx]
theorem ib (c:Nat->Nat) (i:Nat):(fA c i).length<=40:=by
 unfold fA fi;have h1:=(kJ (c i % 48) (a5 _ (by exact id (pn [] 0x1D301908)))).2.2;have h2:=(kJ (c i / 48 % 48) (a5 _ (by exact id (pn [] 0x1D301908)))).2.2;have e:∀ s:Str,s.cps.toList.length=s.length:=fun s=>bR;have hl:(bn c (i+1)).length<=7:=iS _ _;have ho:(u4 (c i / 55296 % 6)).length<=1:=by
  have hk:c i / 55296 % 6 < 6:=a5 _ (by exact id (pn [] 0x1D6808));generalize c i / 55296 % 6=k at hk;rcases (show k=0\/k=1\/k=2\/k=3\/k=4\/k=5 by exact id ((pn [_] 0x1F1F1F1F1F2D5802D4802D3802D2802D1802D0801D680) hk)) with rfl | rfl | rfl | rfl | rfl | rfl<;>decide
 simp only [ak,e,aD,bB];exact id ((pn [_,_,_,_] 0x0D2819AA18A18A1808AA3A1AA1808020D1830D7820D3810D380) h1 h2 hl ho)
theorem rN (c:Nat->Nat) {i:Nat} (h:i<=5):C1 (lj (bn c i)):=⟨by have:=(kg c i).1;exact id ((pn [_,_] 0x0D141910DA18010D580) h this),by have:=(kg c i).2;exact id ((pn [_,_] 0x0D141910D010D580) h this)⟩
noncomputable def s1 (S:PV) (c:Nat->Nat):SE:=[nm "script" S,nm "cells" (gj c),nm "leads" (.lst (cI (gQ c))),nm "page" (.str (jC c))]
noncomputable def s2 (S:PV) (c:Nat->Nat):SE:=s1 S c++[nm "lines" (.lst (cI (eL c)))]
noncomputable def s3 (S:PV) (c:Nat->Nat):SE:=s2 S c++[nm "spaces" (pX (uJ c))]
noncomputable def s4 (S:PV) (c:Nat->Nat):SE:=s3 S c++[nm "symbols" (.lst ([0,1,2,3,4].map fun i=>aL (oL c i)))]
noncomputable def s5 (S:PV) (c:Nat->Nat):SE:=s4 S c++[nm "others" (aL ([0,1,2,3,4].map fun i=>pG (c i / 55296 % 6)))]
noncomputable def s6 (S:PV) (c:Nat->Nat):SE:=s5 S c++[nm "wrong" (.lst [])]
theorem Jo {S:PV}{c:Nat->Nat}{n:Nat}:ex o3 [] (n+20) lT (s1 S c) (fX 1)=some (.next,s2 S c):=by
 conv=>lhs;arg 6;whnf
 refine (bm (u:=.lst (cI (eL c))) (by rfl) ?_).trans (by kernel_rfl);refine wa (s:=jC c) (vs:=[.str "\n"]) (by rfl) (by rfl) (by rfl) ?_;have hp:(jC c).length<=1048576:=by
  show (Txt.join "\n" ((eL c).map sl)).length<=_;have e:Txt.join "\n" ((eL c).map sl)=Str.join "\n" ((eL c).map sl):=StrLaws.glued_eq_join _ _;rw [e];have h:=StrLaws.join_length_le "\n" ((eL c).map sl)
  have:Str.length "\n"=1:=by decide
  rw [this] at h;unfold eL at h ⊢;simp only [aw,cM,cg,List.sum_nil,aD,bB,d5] at h ⊢
  have:=ib c 0;have:=ib c 1;have:=ib c 2;have:=ib c 3;have:=ib c 4
  lia
 have hs:Txt.split (jC c) "\n"=(eL c).map sl:=by
  refine xY (c:=10) (by unfold eL;simp) ?_;intro l hl;refine bO (aB.mp hl) ?_;rintro w hw rfl;have hfree:∀ i,10 ∉ fA c i:=by
   intro i;unfold fA fi;have h1:=(pR (k:=c i % 48) (a5 _ (by exact id (pn [] 0x1D301908)))).2;have h2:=(pR (k:=c i / 48 % 48) (a5 _ (by exact id (pn [] 0x1D301908)))).2;have ho:10 ∉ u4 (c i / 55296 % 6):=by
    have hk:c i / 55296 % 6 < 6:=a5 _ (by exact id (pn [] 0x1D6808));generalize c i / 55296 % 6=k at hk;rcases (show k=0\/k=1\/k=2\/k=3\/k=4\/k=5 by exact id ((pn [_] 0x1F1F1F1F1F2D5802D4802D3802D2802D1802D0801D680) hk)) with rfl | rfl | rfl | rfl | rfl | rfl<;>decide
   simp only [aM,ar,bg,or_false];rintro ((h | (((h | h) | h) | h)) | h)
   ·rcases iM c (i+1) 10 h with h | h<;>lia
   ·have:=h1 10 h;cases this
   ·exact id ((pn [_] 0x2F2DA06119A8) h)
   ·have:=h2 10 h;cases this
   ·exact ho h
   ·exact id ((pn [] 0x2F1F1F2D7819A82D98A82D2019A8) h)
  show 10 ∉ w;unfold eL at hw;simp only [ar,bg,or_false] at hw;rcases hw with rfl | rfl | rfl | rfl | rfl<;>exact hfree _
 show (if (decide ((jC c).length<=1048576) && decide (0 < Str.length "\n") && decide ((Txt.split (jC c) "\n").length<=1048576))=true then some (PV.lst ((Txt.split (jC c) "\n").map PV.str)) else none)=_;have hg:(decide ((jC c).length<=1048576) && decide (0 < Str.length "\n") && decide ((Txt.split (jC c) "\n").length<=1048576))=true:=by
  rw [hs,decide_eq_true hp,decide_eq_true (show 0 < Str.length "\n" by decide)]
  have:((eL c).map sl).length<=1048576:=by unfold eL;simp
  rw [decide_eq_true this];rfl
 rw [if_pos hg,hs];unfold cI;rw [ao];try rfl
theorem Je {S:PV}{c:Nat->Nat}{n:Nat}:ex o3 [] (n+60) lT (s2 S c) (fX 2)=some (.next,s3 S c):=by
 conv=>lhs;arg 6;whnf
 refine (bm (u:=pX (uJ c)) (by rfl) ?_).trans (by kernel_rfl);refine (bw (items:=[0,1,2,3,4].map fun i=>.str (jK c i)) (rs:=([0,1,2,3,4].filter fun J=>true).map fun i=>(.none,jg (jK c i) (lj (bn c (i+1))))) (by rfl) (by kernel_rfl) ?_ (by simp)).trans (by rfl);refine bx (fun J=>true) (fun i=>jg (jK c i) (lj (bn c (i+1)))) (fun i=>.str (jK c i)) 30 (by rfl) [0,1,2,3,4] _ ?_ ?_
 ·show 30+5+1<=_
  exact id (pn [_] 0x0DA3A190A18A581E19)
 ·intro i m hi
  refine ⟨[nm "line" (.str (jK c i))],by kernel_rfl,by rfl,fun J=>?_⟩;rw [<- EG c i,<- Bd];refine fu (v':=.str (jK c i)) (v:=.str (jK c i)) (by kernel_rfl) (by rfl) (by kernel_rfl) (by rfl) (EZ ?_ ?_)
  ·rw [d5];have:=ib c i;exact id ((pn [_] 0x0D03E82900D28190) this)
  ·have:=(List.takeWhile_sublist (p:=eU) (l:=fA c i)).length_le
   have:=ib c i
   show ((fA c i).takeWhile eU).length<=60;exact id ((pn [_,_] 0x0D3C1900D281910D10) ‹_› this)
theorem Jr {S:PV}{c:Nat->Nat}{n:Nat}:ex o3 [] (n+60) lT (s3 S c) (fX 3)=some (.next,s4 S c):=by
 conv=>lhs;arg 6;whnf
 refine (bm (u:=.lst ([0,1,2,3,4].map fun i=>aL (oL c i))) (by rfl) ?_).trans (by kernel_rfl);refine (bw (items:=[0,1,2,3,4].map fun i=>.tup [.str (jK c i),jg (jK c i) (lj (bn c (i+1)))]) (rs:=([0,1,2,3,4].filter fun J=>true).map fun i=>(.none,aL (oL c i))) (by rfl) (by kernel_rfl) ?_ (by simp)).trans (by rfl);refine bx (fun J=>true) (fun i=>aL (oL c i)) (fun i=>.tup [.str (jK c i),jg (jK c i) (lj (bn c (i+1)))]) 30 (by kernel_rfl) [0,1,2,3,4] _ ?_ ?_
 ·show 30+5+1<=_
  exact id (pn [_] 0x0DA3A190A18A581E19)
 ·intro i m hi
  have hi5:i < 5:=by simp at hi;exact id ((pn [_] 0x1D5801F1F1F1F2D4802D3802D2802D1802D080) hi)
  refine ⟨[nm "line" (.str (jK c i)),nm "space" (jg (jK c i) (lj (bn c (i+1))))],by kernel_rfl,by rfl,fun J=>?_⟩;have hn:(lj (bn c (i+1))).2.2.1=(bn c (i+1)).length:=(iQ _ _ (iM c (i+1))).trans (di _);have hd:(fA c i).drop (bn c (i+1)).length=fi c i++[32,9,120]:=by
   unfold fA;rw [bp];exact pA ..
  refine xA (Ah c hi5) ?_;intro h1 h2;have hlen:=ib c i;have hcal:=Cx (s:=jK c i) (p:=(bn c (i+1)).length) (by rw [d5];exact id ((pn [_] 0x0D03E82900D28190) hlen)) (by rw [d5];unfold fA;simp only [ak];exact id (pn [_,_,_] 0x0DA2A100)) (by rw [Bi,hd];exact h2);rw [Bi,hd,h1] at hcal;refine jn (vs:=[.str (jK c i),.int ((bn c (i+1)).length:Int)]) (by kernel_rfl) (ay (by rfl) (ay ?_ a8)) (by rfl) hcal;rw [<- hn];kernel_rfl
theorem Cm (k:Nat) (h:k < 6):(([256,257,258,259,260,0]:List Int).map PV.int)[k]?=some (.int (pG k)):=by
 rcases (show k=0\/k=1\/k=2\/k=3\/k=4\/k=5 by exact id ((pn [_] 0x1F1F1F1F1F2D5802D4802D3802D2802D1802D0801D680) h)) with rfl | rfl | rfl | rfl | rfl | rfl<;>rfl
theorem Jd {S:PV}{c:Nat->Nat}{n:Nat}:ex o3 [] (n+60) lT (s4 S c) (fX 4)=some (.next,s5 S c):=by
 conv=>lhs;arg 6;whnf
 refine (bm (u:=aL ([0,1,2,3,4].map fun i=>pG (c i / 55296 % 6))) (by rfl) ?_).trans (by kernel_rfl);refine (bw (items:=[0,1,2,3,4].map fun i=>.int (c i:Int)) (rs:=([0,1,2,3,4].filter fun J=>true).map fun i=>(.none,.int (pG (c i / 55296 % 6)))) (by rfl) (by kernel_rfl) ?_ (by simp)).trans (by rfl);refine bx (fun J=>true) (fun i=>.int (pG (c i / 55296 % 6))) (fun i=>.int (c i:Int)) 30 (by kernel_rfl) [0,1,2,3,4] _ ?_ ?_
 ·show 30+5+1<=_
  exact id (pn [_] 0x0DA3A190A18A581E19)
 ·intro i m hi
  refine ⟨[nm "cell" (.int (c i:Int))],by kernel_rfl,by rfl,fun J=>?_⟩;refine bt (b:=aL [256,257,258,259,260,0]) (k:=.int ((c i / 55296 % 6:Nat):Int)) (by intros;intro h;cases h) (by rfl) (by rfl) ?_ (em (Cm _ (a5 _ (by exact id (pn [] 0x1D6808)))) (by decide));refine aW (a:=.int ((c i / 55296:Nat):Int)) (b:=.int ((6:Nat):Int)) ?_ (by rfl) (eB (by exact id (pn [] 0x1D6808)));show ev _ _ _ _ _=_;exact aW (a:=.int (c i:Int)) (b:=.int ((55296:Nat):Int)) (by rfl) (by rfl) (fF (by exact id (pn [] 0x1DD8002908)) (by exact id (pn [] 0x1D010000000059D80029)))
theorem Jp {S:PV}{c:Nat->Nat}{n:Nat}:ex o3 [] (n+90) lT (s5 S c) (fX 5)=some (.next,s6 S c):=by
 conv=>lhs;arg 6;whnf
 refine (bm (u:=.lst []) (by rfl) ?_).trans (by kernel_rfl)
 let fr:Nat->List PV:=fun i=>[0,1,2,3,4].map fun j=>.bool (uR (dN (bn c (i+1))) (dN (bn c (j+1))))
 let w:Nat->PV:=fun i=>jg (jK c i) (lj (bn c (i+1)))
 refine (bw (items:=[0,1,2,3,4].map fun i=>.tup [w i,.lst (fr i)]) (rs:=([0,1,2,3,4].filter fun J=>true).flatMap fun J=>[]) (by kernel_rfl) ?_ ?_ (by simp)).trans (by rfl)
 ·refine (t0 (l:=[0,1,2,3,4].map w) (m:=[0,1,2,3,4].map fun i=>.lst (fr i)) (by kernel_rfl) (by rfl) (by kernel_rfl) ?_ (by simp) (by simp)).trans (by rfl)
  refine fu (v':=.lst (cI (gQ c))) (v:=.lst (cI (gQ c))) (by kernel_rfl) (by rfl) (by rfl) (by rfl) ?_;refine (CG (l0:=bn c 1) (l1:=bn c 2) (l2:=bn c 3) (l3:=bn c 4) (l4:=bn c 5) ?_).trans (by kernel_rfl);intro l hl;simp only [ar,bg,or_false] at hl;have h7:∀ i,(bn c (i+1)).length<=20:=fun i=>by have:=iS (bn c i) (c i);show (gt _ _).length<=20;exact id ((pn [_] 0x0D141900D780) this)
  rcases hl with rfl | rfl | rfl | rfl | rfl<;>exact ⟨h7 _,iM c _⟩
 ·refine nQ (fun J=>true) (fun J=>[]) (fun i=>.tup [w i,.lst (fr i)]) 50 (by kernel_rfl) [0,1,2,3,4] _ ?_ ?_
  ·show 50+5+1<=_
   exact id (pn [_] 0x0DA58190A18A583219)
  ·intro i m hi
   have hi5:i < 5:=by simp at hi;exact id ((pn [_] 0x1D5801F1F1F1F2D4802D3802D2802D1802D080) hi)
   refine ⟨[nm "spaces" (pX (uJ c)),nm "one" (w i),nm "row" (.lst (fr i))],by kernel_rfl,by rfl,fun J=>⟨[0,1,2,3,4].map fun j=>.tup [w j,.bool (uR (dN (bn c (i+1))) (dN (bn c (j+1))))],by kernel_rfl,?_⟩⟩;refine bx (fun J=>false) (fun J=>.none) (fun j=>.tup [w j,.bool (uR (dN (bn c (i+1))) (dN (bn c (j+1))))]) 30 (by rfl) [0,1,2,3,4] _ ?_ ?_
   ·show 30+5+1<=_
    exact id (pn [_] 0x0DA32190A18A581E19)
   ·intro j q hj
    have hj5:j < 5:=by simp at hj;exact id ((pn [_] 0x1D5801F1F1F1F2D4802D3802D2802D1802D080) hj)
    refine ⟨[nm "spaces" (pX (uJ c)),nm "one" (w i),nm "row" (.lst (fr i)),nm "two" (w j),nm "far" (.bool (uR (dN (bn c (i+1))) (dN (bn c (j+1)))))],by kernel_rfl,?_,fun h=>nomatch h⟩;refine bj (br (da (a:=.bool (gD (lj (bn c (i+1))) (lj (bn c (j+1))))) (b:=.bool (uR (dN (bn c (i+1))) (dN (bn c (j+1))))) ?_ (by rfl) (by rfl) ?_))
    ·exact jO (c:="Whitespace") (fs:=eE (jK c i) (lj (bn c (i+1)))) (by rfl) (by rfl) (ay (by rfl) a8) (by rfl) (Ab (s:=jK c i) (s':=jK c j) (rN c (by exact id ((pn [_] 0x0D58A1801D580) hi5))) (rN c (by exact id ((pn [_] 0x0D58A1801D580) hj5))))
    ·rw [Du (iM c _) (iM c _) ((kg c (i+1)).mono (by exact id ((pn [_] 0x0D58A1801D580) hi5))) ((kg c (j+1)).mono (by exact id ((pn [_] 0x0D58A1801D580) hj5)))]
     show some (!(_ == _))=_;rw [beq_self_eq_true];rfl
end
end Mine
end
section
namespace Mine
noncomputable section
theorem sI {m:Nat}:∀ (l:List PV) (n:Nat),(∀ v∈l,∀ k,m<=k->nP k v v=some true)->m+l.length+1<=n->tP n l l=some true
 | [],n,_,h=>by
  refine xE (az (show 1<=n by simp at h;exact id ((pn [_,_] 0x0D1180D1A180) h))) ?_;rintro k rfl;rfl
 | v::l,n,hv,h=>by
  rw [aD] at h;refine xE (az (show 1<=n by exact id ((pn [_,_,_] 0x0D2180D2A18AA1810) h))) ?_;rintro k rfl;exact i4 (hv v am k (by exact id ((pn [_,_,_] 0x0D200DA182A18AA1810) h))) (sI l k (fun u hu=>hv u (ai _ hu)) (by exact id ((pn [_,_,_] 0x0D2A18A100DA182A18AA1810) h)))
theorem uN {n:Nat}{k:Int}{a b:PV}{as bs:List (Int×PV)} (h:ej bs k=some b) (h1:nP n a b=some true) (h2:n7 n as bs=some true):n7 (n+1) ((k,a)::as) bs=some true:=by
 show (match ej bs k with | none=>some false | some b=>dv (fun x y=>some (x && y)) (nP n a b) (n7 n as bs))=_;rw [h];exact i4 h1 h2
theorem tN {m:Nat}{l:List PV}{n:Nat} (hv:∀ v∈l,∀ k,m<=k->nP k v v=some true) (h:m+l.length+2<=n):nP n (.lst l) (.lst l)=some true:=by
 refine xE (az (show 1<=n by exact id ((pn [_,_,_] 0x0D2180D2A28A10) h))) ?_;rintro k rfl;exact sI l k hv (by exact id ((pn [_,_,_] 0x0D2A18A100DA182A28A10) h))
theorem t5 (i:Int) (k:Nat) (h:1<=k):nP k (.int i) (.int i)=some true:=by
 refine xE (az h) ?_;rintro k rfl;exact congrArg some (beq_self_eq_true _)
theorem y6 (s:Str) (k:Nat) (h:1<=k):nP k (.str s) (.str s)=some true:=by
 refine xE (az h) ?_;rintro k rfl;exact congrArg some (beq_self_eq_true _)
theorem BO (l:List Int) {n:Nat} (h:l.length+3<=n):nP n (aL l) (aL l)=some true:=
 tN (m:=1) (fun v hv k hk=>by refine bO (aB.mp hv) ?_;rintro i _ rfl;exact t5 i k hk) (by rw [aa];exact id ((pn [_,_] 0x0D1A28A0180D1A380) h))
theorem oF {n:Nat}{a b:PV} (h:nP n a b=some true):EJ n .NotEq a b=some false:=by
 show (nP n a b).map (!·)=_;rw [h];rfl
theorem Jh {S:PV}{c:Nat->Nat}{n:Nat}:ex o3 [] (n+90) lT (s6 S c) (fX 6)=some (.next,s6 S c):=by
 conv=>lhs;arg 6;whnf
 refine (bm (u:=.lst []) (by rfl) ?_).trans (by kernel_rfl)
 let xs:List Int:=[-1,0,255]++[0,1,2,3,4].flatMap (oL c)
 refine aW (a:=.lst []) (b:=.lst []) (by kernel_rfl) ?_ (by rfl);refine (bw (items:=xs.map .int) (rs:=(xs.filter fun J=>false).map fun i=>(.none,.int i)) (by rfl) (by kernel_rfl) ?_ (by rw [bL.mpr (by simp)];simp)).trans (by rw [bL.mpr (by simp)];rfl);refine bx (fun J=>false) (fun i=>.int i) (fun i=>.int i) 40 (by kernel_rfl) xs _ ?_ ?_
 ·have:xs.length=23:=rfl
  exact id ((pn [_,_] 0x0DA57191A18A028192D17190) this)
 ·intro x m hx
  refine ⟨[nm "one" (.int x)],by kernel_rfl,?_,fun h=>nomatch h⟩;refine bj (kI (ci (b:=false) (c:=false) ?_ fun J=>ci (b:=false) (c:=false) ?_ fun J=>ci (b:=false) (c:=false) ?_ fun J=>jk))
  ·refine br (da (a:=.bool (decide (x < 256))) (b:=.bool (decide (x < 256))) (fu (v':=.int x) (v:=.int x) (by rfl) (by rfl) (by rfl) (by rfl) (zI x)) (by rfl) (by rfl) ?_)
   show some (!(_ == _))=_;rw [beq_self_eq_true];rfl
  ·refine br (da (a:=.bool (decide (x ≥ 256))) (b:=.bool (decide (x > 255))) (fu (v':=.int x) (v:=.int x) (by rfl) (by rfl) (by rfl) (by rfl) (Be x)) (by rfl) (by rfl) ?_)
   show some (!(_ == _))=_;rw [show decide (x ≥ 256)=decide (x > 255) from decide_eq_decide.mpr (by exact id (⟨pz [] [_] 0x1E0FF190E0010029,pz [] [_] 0x0E00100291E0FF19⟩)),beq_self_eq_true];rfl
  ·refine br (da (a:=.bool (x == 0)) (b:=.bool (x == 0)) (fu (v':=.int x) (v:=.int x) (by rfl) (by rfl) (by rfl) (by rfl) (Ba x)) (by rfl) (by rfl) ?_)
   show some (!(_ == _))=_;rw [beq_self_eq_true];rfl
abbrev cA (c:Nat->Nat) (i:Nat):Nat:=c i % 48
abbrev cB (c:Nat->Nat) (i:Nat):Nat:=c i / 48 % 48
abbrev cO (c:Nat->Nat) (i:Nat):Int:=pG (c i / 55296 % 6)
theorem Jc {S:PV}{c:Nat->Nat}{n:Nat}:ex o3 [] (n+90) lT (s6 S c) (fX 7)=some (.next,s6 S c):=by
 conv=>lhs;arg 6;whnf
 refine cn (c:=false) (kI (ci (b:=false) (c:=false) (by kernel_rfl) fun J=>ci (b:=false) (c:=false) ?_ fun J=>jk)) (fun h=>nomatch h) fun J=>by rfl
 let v:PV:=.lst ([0,1,2,3,4].map fun i=>aL (oL c i))
 refine br (da (a:=v) (b:=v) (by rfl) (by rfl) ?_ (oF (tN (m:=8) ?_ ?_)))
 ·refine (bw (items:=[0,1,2,3,4].map fun (i:Nat)=>.int ((0:Int)+(i:Int))) (rs:=([0,1,2,3,4].filter fun J=>true).map fun i=>(.none,aL (oL c i))) (by kernel_rfl) (by kernel_rfl) ?_ (by simp)).trans (by rfl)
  refine bx (fun J=>true) (fun i=>aL (oL c i)) (fun (i:Nat)=>.int ((0:Int)+(i:Int))) 30 (by kernel_rfl) [0,1,2,3,4] _ ?_ ?_
  ·show 30+5+1<=_
   exact id (pn [_] 0x0DA53190A18A581E19)
  ·intro i m hi
   refine ⟨[nm "cells" (gj c),nm "others" (aL ([0,1,2,3,4].map (cO c))),nm "spot" (.int ((0:Int)+(i:Int)))],by kernel_rfl,by rfl,fun J=>?_⟩;have hi5:i < 5:=by simp at hi;exact id ((pn [_] 0x1D5801F1F1F1F2D4802D3802D2802D1802D080) hi)
   refine Bg (ay ?_ (ay ?_ (ay ?_ (ay ?_ a8)))) (by simp [oL])
   ·refine aW (a:=.int 7) (b:=.int (cA c i:Int)) (by rfl) ?_ rfl
    refine aW (a:=.int (c i:Int)) (b:=.int ((48:Nat):Int)) ?_ (by rfl) (eB (by exact id (pn [] 0x1D301908)));rcases (show i=0\/i=1\/i=2\/i=3\/i=4 by exact id ((pn [_] 0x1F1F1F1F2D4802D3802D2802D1802D0801D580) hi5)) with rfl | rfl | rfl | rfl | rfl<;>kernel_rfl
   ·exact aW (a:=.int 256) (b:=.int (i:Int)) (by rfl) (Eq.trans (b:=some (.int ((0:Int)+(i:Int)))) (by rfl) (by rw [ct])) rfl
   ·refine aW (a:=.int 7) (b:=.int (cB c i:Int)) (by rfl) ?_ rfl
    refine aW (a:=.int ((c i / 48:Nat):Int)) (b:=.int ((48:Nat):Int)) ?_ (by rfl) (eB (by exact id (pn [] 0x1D301908)));show ev _ _ _ _ _=_;refine aW (a:=.int (c i:Int)) (b:=.int ((48:Nat):Int)) ?_ (by rfl) (fF (by exact id (pn [] 0x1D301908)) (by exact id (pn [] 0x1D0100000000593019)));rcases (show i=0\/i=1\/i=2\/i=3\/i=4 by exact id ((pn [_] 0x1F1F1F1F2D4802D3802D2802D1802D0801D580) hi5)) with rfl | rfl | rfl | rfl | rfl<;>kernel_rfl
   ·rcases (show i=0\/i=1\/i=2\/i=3\/i=4 by exact id ((pn [_] 0x1F1F1F1F2D4802D3802D2802D1802D0801D580) hi5)) with rfl | rfl | rfl | rfl | rfl<;>kernel_rfl
 ·intro v hv k hk
  refine bO (aB.mp hv) ?_;rintro i _ rfl;exact BO _ (by show 4+3<=k;exact id ((pn [_] 0x0D0A38480D088) hk))
 ·show 8+5+2<=_
  exact id (pn [_] 0x0DA54190A28A5888)
noncomputable def s9 (S:PV) (c:Nat->Nat) (ab:Nat->Int):SE:=s6 S c++[nm "above" (aL ([0,1,2,3,4].map ab))]
theorem Js {S:PV}{c:Nat->Nat}:∃ ab:Nat->Int,(∀ i,i < 5->-1<=ab i/\ab i < (i:Int))/\∀ n,ex o3 [] (n+20) lT (s6 S c) (fX 8)=some (.next,s9 S c ab):=by
 have hb:=oV (ge (uJ c)) 5;refine ⟨fun i=>(mB (ge (uJ c)) 5).getD i 0,fun i hi=>hb.2.2 i hi,fun n=>?_⟩;have e:mB (ge (uJ c)) 5=[0,1,2,3,4].map fun i=>(mB (ge (uJ c)) 5).getD i 0:=by
  have hl:(mB (ge (uJ c)) 5).length=5:=hb.1;generalize mB (ge (uJ c)) 5=l at hl
  match l,hl with
  | [a,b,d,e,f],_=>rfl
 conv=>lhs;arg 6;whnf
 refine (bm (u:=aL (mB (ge (uJ c)) 5)) (by rfl) ?_).trans ?_
 ·refine fu (v':=pX (uJ c)) (v:=pX (uJ c)) (by kernel_rfl) (by kernel_rfl) (by rfl) (by rfl) (Ay (sp:=uJ c) (by unfold uJ;simp) ?_)
  intro p hp;refine bO (aB.mp hp) ?_;rintro i hi rfl;exact rN c (by simp at hi;exact id ((pn [_] 0x0D58A1801F1F1F1F2D4802D3802D2802D1802D080) hi))
 ·unfold s9
  rw [<- e];generalize mB (ge (uJ c)) 5=l;kernel_rfl
abbrev rX:=Int×Int×Int
noncomputable def e9 (x:rX):PV:=.tup [.int x.1,.int x.2.1,.int x.2.2]
noncomputable def ft (c:Nat->Nat) (ab:Nat->Int):List rX:=[0,1,2,3,4].map fun (i:Nat)=>(256+(i:Int),fG (ab i),1+(cA c i:Int))
noncomputable def gf (c:Nat->Nat):List rX:=[0,1,2,3,4].map fun (i:Nat)=>(256+(i:Int),cO c i,1+(cB c i:Int))
noncomputable def Jb (S:PV) (c:Nat->Nat) (ab:Nat->Int):SE:=s9 S c ab++[nm "calls" (.lst ((ft c ab).map e9))]
noncomputable def G3 (S:PV) (c:Nat->Nat) (ab:Nat->Int):SE:=s9 S c ab++[nm "calls" (.lst ((ft c ab++gf c).map e9))]
noncomputable def ah:List Int:=[0,256,257,258,259,260]
noncomputable def Hx (S:PV) (c:Nat->Nat) (ab:Nat->Int):SE:=G3 S c ab++[nm "nodes" (aL ah)]
theorem Jf {S:PV}{c:Nat->Nat}{ab:Nat->Int}{n:Nat}:ex o3 [] (n+90) lT (s9 S c ab) (fX 9)=some (.next,Jb S c ab):=by
 conv=>lhs;arg 6;whnf
 refine (bm (u:=.lst ((ft c ab).map e9)) (by rfl) ?_).trans (by kernel_rfl);refine (bw (items:=[0,1,2,3,4].map fun (i:Nat)=>.int ((0:Int)+(i:Int))) (rs:=([0,1,2,3,4].filter fun J=>true).map fun (i:Nat)=>(.none,e9 (256+(i:Int),fG (ab i),1+(cA c i:Int)))) (by kernel_rfl) (by kernel_rfl) ?_ (by simp)).trans (by rfl);refine bx (fun J=>true) (fun (i:Nat)=>e9 (256+(i:Int),fG (ab i),1+(cA c i:Int))) (fun (i:Nat)=>.int ((0:Int)+(i:Int))) 30 (by kernel_rfl) [0,1,2,3,4] _ ?_ ?_
 ·show 30+5+1<=_
  exact id (pn [_] 0x0DA58190A18A581E19)
 ·intro i m hi
  refine ⟨[nm "cells" (gj c),nm "above" (aL ([0,1,2,3,4].map ab)),nm "spot" (.int ((0:Int)+(i:Int)))],by kernel_rfl,by rfl,fun J=>?_⟩;have hi5:i < 5:=by simp at hi;exact id ((pn [_] 0x1D5801F1F1F1F2D4802D3802D2802D1802D080) hi)
  refine j3 (ay ?_ (ay ?_ (ay ?_ a8))) (by simp)
  ·exact aW (a:=.int 256) (b:=.int (i:Int)) (by rfl) (Eq.trans (b:=some (.int ((0:Int)+(i:Int)))) (by rfl) (by rw [ct])) rfl
  ·refine e7 (c:=decide (ab i ≥ 0)) ?_ (fun hc=>?_) (fun hc=>?_)
   ·rcases (show i=0\/i=1\/i=2\/i=3\/i=4 by exact id ((pn [_] 0x1F1F1F1F2D4802D3802D2802D1802D0801D580) hi5)) with rfl | rfl | rfl | rfl | rfl<;>kernel_rfl
   ·have hc:=of_decide_eq_true hc
    unfold fG;rw [if_neg (by lia)];rcases (show i=0\/i=1\/i=2\/i=3\/i=4 by exact id ((pn [_] 0x1F1F1F1F2D4802D3802D2802D1802D0801D580) hi5)) with rfl | rfl | rfl | rfl | rfl<;>kernel_rfl
   ·have hc:=of_decide_eq_false hc
    unfold fG;rw [if_pos (by lia)];rfl
  ·refine aW (a:=.int 1) (b:=.int (cA c i:Int)) (by rfl) ?_ rfl
   refine aW (a:=.int (c i:Int)) (b:=.int ((48:Nat):Int)) ?_ (by rfl) (eB (by exact id (pn [] 0x1D301908)));rcases (show i=0\/i=1\/i=2\/i=3\/i=4 by exact id ((pn [_] 0x1F1F1F1F2D4802D3802D2802D1802D0801D580) hi5)) with rfl | rfl | rfl | rfl | rfl<;>kernel_rfl
theorem IR {S:PV}{c:Nat->Nat}{ab:Nat->Int}{n:Nat}:ex o3 [] (n+90) lT (Jb S c ab) (fX 10)=some (.next,G3 S c ab):=by
 conv=>lhs;arg 6;whnf
 refine (bm (u:=.lst ((ft c ab++gf c).map e9)) (by rfl) ?_).trans (by kernel_rfl);refine aW (a:=.lst ((ft c ab).map e9)) (b:=.lst ((gf c).map e9)) (by kernel_rfl) ?_ (by rfl);refine (bw (items:=[0,1,2,3,4].map fun (i:Nat)=>.int ((0:Int)+(i:Int))) (rs:=([0,1,2,3,4].filter fun J=>true).map fun (i:Nat)=>(.none,e9 (256+(i:Int),cO c i,1+(cB c i:Int)))) (by kernel_rfl) (by kernel_rfl) ?_ (by simp)).trans (by rfl);refine bx (fun J=>true) (fun (i:Nat)=>e9 (256+(i:Int),cO c i,1+(cB c i:Int))) (fun (i:Nat)=>.int ((0:Int)+(i:Int))) 30 (by kernel_rfl) [0,1,2,3,4] _ ?_ ?_
 ·show 30+5+1<=_
  exact id (pn [_] 0x0DA57190A18A581E19)
 ·intro i m hi
  refine ⟨[nm "cells" (gj c),nm "others" (aL ([0,1,2,3,4].map (cO c))),nm "spot" (.int ((0:Int)+(i:Int)))],by kernel_rfl,by rfl,fun J=>?_⟩;have hi5:i < 5:=by simp at hi;exact id ((pn [_] 0x1D5801F1F1F1F2D4802D3802D2802D1802D080) hi)
  refine j3 (ay ?_ (ay ?_ (ay ?_ a8))) (by simp)
  ·exact aW (a:=.int 256) (b:=.int (i:Int)) (by rfl) (Eq.trans (b:=some (.int ((0:Int)+(i:Int)))) (by rfl) (by rw [ct])) rfl
  ·rcases (show i=0\/i=1\/i=2\/i=3\/i=4 by exact id ((pn [_] 0x1F1F1F1F2D4802D3802D2802D1802D0801D580) hi5)) with rfl | rfl | rfl | rfl | rfl<;>kernel_rfl
  ·refine aW (a:=.int 1) (b:=.int (cB c i:Int)) (by rfl) ?_ rfl
   refine aW (a:=.int ((c i / 48:Nat):Int)) (b:=.int ((48:Nat):Int)) ?_ (by rfl) (eB (by exact id (pn [] 0x1D301908)));show ev _ _ _ _ _=_;refine aW (a:=.int (c i:Int)) (b:=.int ((48:Nat):Int)) ?_ (by rfl) (fF (by exact id (pn [] 0x1D301908)) (by exact id (pn [] 0x1D0100000000593019)));rcases (show i=0\/i=1\/i=2\/i=3\/i=4 by exact id ((pn [_] 0x1F1F1F1F2D4802D3802D2802D1802D0801D580) hi5)) with rfl | rfl | rfl | rfl | rfl<;>kernel_rfl
theorem Ip {S:PV}{c:Nat->Nat}{ab:Nat->Int}{n:Nat}:ex o3 [] (n+90) lT (G3 S c ab) (fX 11)=some (.next,Hx S c ab):=by kernel_rfl
end
end Mine
end
section
namespace Mine
noncomputable section
abbrev ID:=List (Int×Int)
theorem wY (j:Int):gI [] j=none:=rfl
theorem fM (p:Int×Int) (d:ID) (j:Int):gI (p::d) j=if p.1=j then some p.2 else gI d j:=by
 unfold gI;rw [g8];by_cases h:p.1=j
 ·simp [h]
 ·simp [h]
theorem FQ (d e:ID) (j:Int):gI (d++e) j=(gI d j).or (gI e j):=by
 induction d with
 | nil=>rfl
 | cons p d ih=>
  rw [ga,fM,fM,ih];split<;>rfl
theorem j8 (d:ID) (j:Int):(gI d j).isSome=d.any (fun p=>decide (p.1=j)):=by
 unfold gI;rw [bC,dE,fL,dM]
set_option tactic.hygienic true in
theorem Bt (d:ID) (k v j:Int):gI (pI d k v) j=if j=k then some v else gI d j:=by
 unfold pI;split
 ·rename_i h
  rw [<- j8] at h
  induction d with
  | nil=>cases h
  | cons p d ih=>
   rw [fM] at h;rw [aw,fM,fM];by_cases hp:p.1=k
   ·rw [if_pos hp]
    dsimp only;by_cases hj:j=k
    ·rw [if_pos (by rw [hp,hj]),if_pos hj]
    ·have e1:¬ p.1=j:=fun e=>hj (by rw [<- e,hp])
     rw [if_neg e1,if_neg hj,if_neg e1];clear ih h
     induction d with
     | nil=>rfl
     | cons q d ih=>
      rw [aw,fM,fM,ih];by_cases hq:q.1=k
      ·rw [if_pos hq];dsimp only
       have e2:¬ q.1=j:=fun e=>hj (by rw [<- e,hq]);rw [if_neg e2,if_neg e2]
      ·rw [if_neg hq]
   ·rw [if_neg hp] at h
    rw [if_neg hp,ih h];by_cases hj:p.1=j
    ·rw [if_pos hj,if_neg (fun e=>hp (by rw [hj,e])),if_pos hj]
    ·rw [if_neg hj,if_neg hj]
 ·rename_i h
  rw [<- j8] at h;rw [FQ,fM,wY];by_cases hj:j=k
  ·subst hj
   have:gI d j=none:=by simpa using h
   rw [this];simp
  ·rw [if_neg (fun e=>hj e.symm),if_neg hj];cases gI d j<;>rfl
set_option tactic.hygienic true in
theorem yB {d:ID}{k v:Int} (h:(d.map (·.1)).Nodup):((pI d k v).map (·.1)).Nodup:=by
 unfold pI;split
 ·rw [ao]
  have:((fun x:Int×Int=>x.1) ∘ fun p:Int×Int=>if p.1=k then (p.1,v) else p)=fun p=>p.1:=by
   funext p;dsimp only [Function.comp];split<;>rfl
  rw [this];exact h
 ·rename_i hn
  rw [aN];refine bq.mpr ⟨h,by simp,?_⟩;intro a ha b hb e;refine bO (aB.mp ha) ?_;rintro p hp rfl;simp at hb;exact hn (dM.mpr ⟨p,hp,decide_eq_true (by rw [e,hb])⟩)
theorem tv {d:ID}{k v:Int} (h:(d.map (·.1)).Nodup):((iV d k v).map (·.1)).Nodup:=by
 unfold iV;split<;>exact yB h
set_option tactic.hygienic true in
theorem EN (d:ID) (k v j:Int):gI (iV d k v) j=if j=k then some ((gI d k).getD 0+v) else gI d j:=by
 unfold iV;split
 ·rename_i a h
  rw [Bt,h];rfl
 ·rename_i h
  rw [Bt,h];show (if j=k then some v else gI d j)=if j=k then some (0+v) else gI d j
  rw [ct]
noncomputable def pD (d s:ID):ID:=s.foldl (fun d p=>iV d p.1 p.2) d
theorem gO:∀ {s d:ID},(d.map (·.1)).Nodup->((pD d s).map (·.1)).Nodup
 | [],_,h=>h
 | p::s,d,h=>gO (s:=s) (tv h)
theorem yS:∀ (t acc:ID),((acc++t).map (·.1)).Nodup->t.foldl (fun d p=>pI d p.1 p.2) acc=acc++t
 | [],acc,_=>(fm _).symm
 | p::t,acc,h=>by
  have hk:pI acc p.1 p.2=acc++[p]:=by
   unfold pI;rw [if_neg];intro hh;refine bO (dM.mp hh) ?_;intro q hq e;have e:=of_decide_eq_true e;rw [aN,aw] at h;exact (bq.mp h).2.2 _ (b5 hq) _ am e
  rw [a9,hk,yS t (acc++[p]) (by rw [bp];exact h),bp];rfl
theorem jz {t s:ID} (h:(t.map (·.1)).Nodup):ia t s=pD t s:=by
 unfold ia pD;rw [yS t [] (by rw [fq];exact h),fq]
noncomputable def As (s:ID) (j:Int):Int:=(s.map fun p=>if p.1=j then p.2 else 0).sum
theorem D3 (s r:ID) (j:Int):As (s++r) j=As s j+As r j:=by unfold As;rw [aN,List.sum_append]
theorem rL (p:Int×Int) (s:ID) (j:Int):As (p::s) j=(if p.1=j then p.2 else 0)+As s j:=by unfold As;rw [aw,cg]
theorem yC:∀ (s d:ID) (j:Int),gI (pD d s) j=if (gI d j).isSome || s.any (fun p=>decide (p.1=j)) then some ((gI d j).getD 0+As s j) else none
 | [],d,j=>by
  show gI d j=_
  cases h:gI d j with
  | none=>rfl
  | some a=>show some a=some (a+0);rw [dH]
 | p::s,d,j=>by
  show gI (pD (iV d p.1 p.2) s) j=_;rw [yC s,EN,rL,fz];by_cases h:j=p.1
  ·subst h
   rw [if_pos (Eq.refl p.1),if_pos (Eq.refl p.1),decide_eq_true rfl,Bool.true_or,Bool.or_true];show some ((gI d p.1).getD 0+p.2+As s p.1)=some _;congr 1;exact id (pz [] [_,_,_] 0x2EAA210A2A10)
  ·have h':¬ p.1=j:=fun e=>h e.symm
   rw [if_neg h,if_neg h',decide_eq_false h',Bool.false_or,ct]
theorem BD (s r:ID):bY (s++r)=bY s+bY r:=by unfold bY;rw [aN,List.sum_append]
theorem gY (p:Int×Int) (s:ID):bY (p::s)=p.2+bY s:=by unfold bY;rw [aw,cg]
set_option tactic.hygienic true in
theorem zB {d:ID}{k v:Int} (h:(d.map (·.1)).Nodup):bY (iV d k v)=bY d+v:=by
 unfold iV;split
 ·rename_i a ha
  unfold pI;rw [if_pos (by rw [<- j8,ha];rfl)]
  induction d with
  | nil=>cases ha
  | cons p d ih=>
   rw [aw] at h;refine xA (bI.mp h) ?_;intro h1 h2;rw [fM] at ha;rw [aw,gY,gY];by_cases hp:p.1=k
   ·rw [if_pos hp] at ha
    injection ha with ha
    rw [if_pos hp]
    have:d.map (fun p=>if p.1=k then (p.1,a+v) else p)=d:=by
     have:∀ q∈d,(if q.1=k then (q.1,a+v) else q)=id q:=by
      intro q hq;rw [if_neg];· rfl
      intro e;exact h1 (by rw [hp,<- e];exact b5 hq)
     rw [cD this,ip]
    rw [this];dsimp only;exact id ((pz [] [_,_,_,_] 0x2EA2A30A3A212E10) ha)
   ·rw [if_neg hp] at ha
    rw [if_neg hp,ih h2 ha];exact id (pz [] [_,_,_] 0x2EA2A10AA210)
 ·rename_i ha
  unfold pI;rw [if_neg (by rw [<- j8,ha];exact e8),BD];unfold bY;simp
theorem tj:∀ {s d:ID},(d.map (·.1)).Nodup->bY (pD d s)=bY d+bY s
 | [],d,_=>by show bY d=bY d+0;exact id (pz [] [_] 0x2EA0800)
 | p::s,d,h=>by
  show bY (pD (iV d p.1 p.2) s)=_;rw [tj (tv h),zB h,gY];exact id (pz [] [_,_,_] 0x2EAA210A2A10)
theorem yq {α:Type} (k:α->Int) (g:Int->Int):∀ (l:List α) (d:ID) (j:Int),gI ((l.map fun x=>(k x,g (k x))).foldl (fun d p=>pI d p.1 p.2) d) j=if l.any (fun x=>decide (k x=j)) then some (g j) else gI d j
 | [],_,_=>rfl
 | x::l,d,j=>by
  rw [aw,a9,yq k g l,Bt,fz];by_cases h:j=k x
  ·subst h
   rw [if_pos rfl,decide_eq_true rfl,Bool.true_or,if_pos rfl];split<;>rfl
  ·rw [if_neg h,decide_eq_false (fun e=>h e.symm),Bool.false_or]
theorem Ac {l d:ID} (h:(d.map (·.1)).Nodup):((l.foldl (fun d p=>pI d p.1 p.2) d).map (·.1)).Nodup:=by
 induction l generalizing d with
 | nil=>exact h
 | cons p l ih=>exact ih (yB h)
theorem fV {α:Type} [BEq α] [LawfulBEq α]:∀ {l m:List α},l.Nodup->(∀ x∈l,x∈m)->l.length<=m.length
 | [],_,_,_=>bP _
 | x::l,m,h,hs=>by
  refine xA (bI.mp h) ?_;intro h1 h2;have hx:=hs x am
  have:=fV (l:=l) (m:=m.erase x) h2 fun y hy=>(List.mem_erase_of_ne (fun e=>h1 (by rw [<- e];exact hy))).mpr (hs y (ai _ hy))
  rw [List.length_erase_of_mem hx] at this
  have:=List.length_pos_of_mem hx
  rw [aD];exact id ((pn [_,_] 0x0D1A1801D1080DB1810) ‹_› this)
theorem FK {d:ID} (h:(d.map (·.1)).Nodup) {p:Int×Int} (hp:p∈d):gI d p.1=some p.2:=fY h hp
theorem xc {d e:ID}{n:Nat} (hd:(d.map (·.1)).Nodup) (he:(e.map (·.1)).Nodup) (h:∀ j,gI d j=gI e j) (hn:d.length+4<=n):nP n (bc d) (bc e)=some true:=by
 have hk:∀ {a b:ID},(∀ j,gI a j=gI b j)->∀ x∈a.map (·.1),x∈b.map (·.1):=by
  intro a b hab x hx;refine bO (aB.mp hx) ?_;rintro p hp rfl;have h1:(gI b p.1).isSome=true:=by rw [<- hab];exact je hp
  refine xE (aS.mp h1) ?_;intro v hv;exact aB.mpr ⟨(p.1,v),iL hv,rfl⟩
 have h1:=fV hd (hk h);have h2:=fV he (hk fun j=>(h j).symm);rw [aa,aa] at h1 h2;refine xE (az (show 1<=n by exact id ((pn [_,_] 0x0D1180D1A480) hn))) ?_;rintro k rfl;have hD:∀ (a:ID) (m:Nat),(∀ p∈a,gI e p.1=some p.2)->a.length+2<=m->n7 m (a.map fun p=>(p.1,PV.int p.2)) (e.map fun p=>(p.1,PV.int p.2))=some true:=by
  intro a
  induction a with
  | nil=>intro m _ hm;obtain ⟨k,rfl⟩:=az (show 1<=m by simp at hm;exact id ((pn [_] 0x0D0180D028) hm));rfl
  | cons p a ih=>
   intro m ha hm;rw [aD] at hm;refine xE (az (show 1<=m by exact id ((pn [_,_] 0x0D1180D1A28A180) hm))) ?_;rintro k rfl;exact uN (b:=.int p.2) (by rw [d2,ha p am];rfl) (t5 _ _ (by exact id ((pn [_,_] 0x0D1180DA181A28A180) hm))) (ih k (fun q hq=>ha q (ai _ hq)) (by exact id ((pn [_,_] 0x0D1A2800DA181A28A180) hm)))
 unfold bc;refine (if_pos (by rw [aa,aa];exact id ((pn [_,_] 0x2D100D010D10) h1 h2))).trans ?_;exact hD d k (fun p hp=>by rw [<- h];exact FK hd hp) (by exact id ((pn [_,_] 0x0D1A2800DA181A480) hn))
end
end Mine
end
section
namespace Mine
noncomputable section
noncomputable def zG (cs:List rX) (v one:Int):Int:=((cs.filter fun r=>(r.1 == v) && ((r.2.1 == one) && true)).map (·.2.2)).sum
noncomputable def kL (cs:List rX) (v:Int):ID:=((cs.filter fun x=>x.1 == v).map fun x=>(x.2.1,zG cs v x.2.1)).foldl (fun d p=>pI d p.1 p.2) []
noncomputable def xW (cs:List rX):eA:=ah.map fun v=>(v,kL cs v)
noncomputable def Gn (cs:List rX) (two:Int):Int:=((cs.filter fun r=>r.2.1 == two).map (·.2.2)).sum
noncomputable def H1 (cs:List rX):ID:=(cs.map fun x=>(x.2.1,Gn cs x.2.1)).foldl (fun d p=>pI d p.1 p.2) []
theorem oI:∀ (l d:ID),cj (l.map fun p=>(.int p.1,.int p.2)) (d.map fun p=>(p.1,PV.int p.2))=some ((l.foldl (fun d p=>pI d p.1 p.2) d).map fun p=>(p.1,PV.int p.2))
 | [],d=>by rw [cM,cj];rfl
 | p::l,d=>by
  show cj (l.map fun p=>(.int p.1,.int p.2)) (jc (d.map fun p=>(p.1,PV.int p.2)) p.1 (.int p.2))=_;rw [uH,oI l];rfl
structure G6 (cs:List rX):Prop where
 n:cs.length<=20
 w:∀ x∈cs,1<=x.2.2/\x.2.2<=48
theorem AW {l:List Int} (h:l.length<=1048576) (hw:∀ x∈l,x.natAbs<=1099511627776):o3.bi "sum" [.lst (l.map .int)]=some (.int l.sum):=by
 show (gz (l.map .int)).bind (fun ns=>if AF ns then some (PV.int ns.sum) else none)=_;rw [m7,Option.bind_some,if_pos];unfold AF;rw [decide_eq_true h,gG,bo];exact fun x hx=>decide_eq_true (hw x hx)
noncomputable def Hd (S:PV) (c:Nat->Nat) (ab:Nat->Int):SE:=Hx S c ab++[nm "due" (du (xW (ft c ab++gf c)))]
theorem u0 (c:Nat->Nat) (ab:Nat->Int):G6 (ft c ab++gf c):=by
 refine ⟨by unfold ft gf;simp,fun x hx=>?_⟩;rcases aM.mp hx with hx | hx
 ·refine bO (aB.mp hx) ?_;rintro i _ rfl
  have:cA c i < 48:=a5 _ (by exact id (pn [] 0x1D301908))
  dsimp only;lia
 ·refine bO (aB.mp hx) ?_;rintro i _ rfl
  have:cB c i < 48:=a5 _ (by exact id (pn [] 0x1D301908))
  dsimp only;lia
theorem zg {cs:List rX} (ok:G6 cs) (p:rX->Bool):((cs.filter p).map (·.2.2)).length<=1048576/\∀ x∈(cs.filter p).map (·.2.2),x.natAbs<=1099511627776:=by
 refine ⟨by rw [aa];have:=aF p cs;have:=ok.n;exact id ((pn [_,_] 0x0D1000003900D141910D10) ‹_› this),fun x hx=>?_⟩;refine bO (aB.mp hx) ?_;rintro y hy rfl
 have:=ok.w y (aT.mp hy).1
 lia
theorem Ie {S:PV}{c:Nat->Nat}{ab:Nat->Int}{n:Nat}:ex o3 [] (n+110) lT (Hx S c ab) (fX 12)=some (.next,Hd S c ab):=by
 conv=>lhs;arg 6;whnf
 have ok:=u0 c ab;refine (bm (u:=du (xW (ft c ab++gf c))) (by rfl) ?_).trans (by kernel_rfl);unfold Hx G3;generalize ft c ab++gf c=cs at ok;have hcl:(cs.map e9).length<=1048576:=by rw [aa];have:=ok.n;exact id ((pn [_] 0x0D1000003900D14190) this)
 refine (jH (items:=ah.map .int) (rs:=(ah.filter fun J=>true).map fun v=>(.int v,bc (kL cs v))) (by kernel_rfl) (by kernel_rfl) ?_ (by simp [ah])).trans ?_
 ·refine ij (fun J=>true) (fun v=>bc (kL cs v)) (fun v=>.int v) (fun v=>.int v) 90 (by kernel_rfl) ah _ ?_ ?_
  ·show 90+6+1<=_
   exact id (pn [_] 0x0DA6C190A18A685A19)
  ·intro v m hv
   refine ⟨[nm "calls" (.lst (cs.map e9)),nm "node" (.int v)],by kernel_rfl,by rfl,fun J=>⟨?_,by rfl⟩⟩;refine (jH (items:=cs.map e9) (rs:=(cs.filter fun x=>x.1 == v).map fun x=>(.int x.2.1,.int (zG cs v x.2.1))) (by kernel_rfl) ?_ ?_ ?_).trans ?_
   ·exact Eq.trans (b:=if (cs.map e9).length<=1048576 then some (cs.map e9) else none) (by rfl) (if_pos hcl)
   ·refine ij (fun x=>x.1 == v) (fun x=>.int (zG cs v x.2.1)) (fun x=>.int x.2.1) e9 60 (by kernel_rfl) cs _ ?_ ?_
    ·have:=ok.n;exact id ((pn [_,_] 0x0DA59191A18A03C190D14190) this)
    ·intro x q hx
     refine ⟨[nm "calls" (.lst (cs.map e9)),nm "node" (.int v),nm "called" (.int x.1),nm "one" (.int x.2.1),nm "many" (.int x.2.2)],by kernel_rfl,?_,fun J=>⟨?_,by rfl⟩⟩
     ·exact bj (br (da (a:=.int x.1) (b:=.int v) (by rfl) (by rfl) (by rfl) (by rfl)))
     ·have hs:=zg ok fun r=>(r.1 == v) && ((r.2.1 == x.2.1) && true)
      refine b7 (v:=.lst (((cs.filter fun r=>(r.1 == v) && ((r.2.1 == x.2.1) && true)).map (·.2.2)).map .int)) (by rfl) ?_ (AW hs.1 hs.2);show ev _ _ _ _ _=_;refine (bw (items:=cs.map e9) (rs:=(cs.filter fun r=>(r.1 == v) && ((r.2.1 == x.2.1) && true)).map fun r=>(.none,.int r.2.2)) (by rfl) ?_ ?_ ?_).trans ?_
      ·exact Eq.trans (b:=if (cs.map e9).length<=1048576 then some (cs.map e9) else none) (by rfl) (if_pos hcl)
      ·refine bx (fun r=>(r.1 == v) && ((r.2.1 == x.2.1) && true)) (fun r=>.int r.2.2) e9 30 (by kernel_rfl) cs _ ?_ ?_
       ·have:=ok.n;exact id ((pn [_,_] 0x0DA39191A18A01E190D14190) this)
       ·intro r k hr
        exact ⟨[nm "node" (.int v),nm "one" (.int x.2.1),nm "row" (e9 r)],by kernel_rfl,bj (by kernel_rfl),fun J=>by rfl⟩
      ·rw [aa] at hs ⊢;exact hs.1
      ·rw [ao,ao];rfl
   ·rw [aa];have:=aF (fun (x:rX)=>x.1 == v) cs;have:=ok.n;exact id ((pn [_,_] 0x0D1000003900D141910D10) ‹_› this)
   ·have:=oI ((cs.filter fun x=>x.1 == v).map fun x=>(x.2.1,zG cs v x.2.1)) []
    rw [ao] at this;exact congrArg (ca PV.dct) this
 ·have hn:(ah.map fun v=>(v,bc (kL cs v))).map (·.1)=ah:=by rw [ao];show ah.map id=_;rw [ip]
  have:=iP (ah.map fun v=>(v,bc (kL cs v))) [] (by rw [fq,hn];decide)
  rw [ao] at this;rw [bS.mpr (fun J J=>rfl)];refine (congrArg (ca PV.dct) this).trans ?_;show some (PV.dct _)=some (PV.dct ((ah.map _).map _));rw [ao];rfl
end
end Mine
end
section
namespace Mine
noncomputable section
noncomputable def qt (A a O b:Nat->Int):List rX:=([0,1,2,3,4].map fun (i:Nat)=>(256+(i:Int),A i,a i))++([0,1,2,3,4].map fun (i:Nat)=>(256+(i:Int),O i,b i))
noncomputable def gX (A a O b:Nat->Int):eA:=(0,[])::[0,1,2,3,4].map fun (i:Nat)=>(256+(i:Int),eO (A i) (a i) (O i) (b i))
theorem yr (A a O b:Nat->Int) {i:Nat} (hi:i < 5):(qt A a O b).filter (fun x=>x.1 == 256+(i:Int))=[(256+(i:Int),A i,a i),(256+(i:Int),O i,b i)]:=by
 rcases (show i=0\/i=1\/i=2\/i=3\/i=4 by exact id ((pn [_] 0x1F1F1F1F2D4802D3802D2802D1802D0801D580) hi)) with rfl | rfl | rfl | rfl | rfl<;>kernel_rfl
theorem F6 (A a O b:Nat->Int):(qt A a O b).filter (fun x=>x.1 == 0)=[]:=by rfl
theorem E0 (A a O b:Nat->Int) {i:Nat} (hi:i < 5) (k:Int):zG (qt A a O b) (256+(i:Int)) k=(if A i=k then a i else 0)+(if O i=k then b i else 0):=by
 unfold zG;rw [show (fun r:rX=>(r.1 == 256+(i:Int)) && ((r.2.1 == k) && true))=fun r=>(fun x:rX=>x.1 == 256+(i:Int)) r && (fun r:rX=>(r.2.1 == k) && true) r from rfl]
 have:(qt A a O b).filter (fun r=>(fun x:rX=>x.1 == 256+(i:Int)) r && (fun r:rX=>(r.2.1 == k) && true) r)=((qt A a O b).filter (fun x=>x.1 == 256+(i:Int))).filter (fun r=>(r.2.1 == k) && true):=by
  rw [List.filter_filter];congr 1;funext r;exact Bool.and_comm _ _
 rw [this,yr A a O b hi];by_cases h1:A i=k<;>by_cases h2:O i=k<;>simp [h1,h2]
theorem l7 (A a O b:Int):eO A a O b=if O=A then [(A,a+b)] else [(A,a),(O,b)]:=by
 unfold eO ia;by_cases h:O=A
 ·subst h
  rw [if_pos rfl];simp [pI,iV,gI]
 ·have h':¬ A=O:=fun e=>h e.symm
  rw [if_neg h];simp [pI,iV,gI,h']
theorem j1 (A a O b:Nat->Int) {i:Nat} (hi:i < 5):kL (qt A a O b) (256+(i:Int))=eO (A i) (a i) (O i) (b i):=by
 unfold kL;rw [yr A a O b hi,l7];simp only [aw,cM,a9,List.foldl_nil,E0 A a O b hi];by_cases h:O i=A i
 ·rw [if_pos h,h];simp [pI]
 ·have h':¬ A i=O i:=fun e=>h e.symm
  rw [if_neg h];simp [pI,h,h']
theorem B7 (A a O b:Nat->Int):kL (qt A a O b) 0=[]:=by
 unfold kL;rw [F6];rfl
theorem Cc (A a O b:Nat->Int):xW (qt A a O b)=gX A a O b:=by
 unfold xW gX ah;have h0:=j1 A a O b (i:=0) (by exact id (pn [] 0x1D5808));have h1:=j1 A a O b (i:=1) (by exact id (pn [] 0x1D5818));have h2:=j1 A a O b (i:=2) (by exact id (pn [] 0x1D5828));have h3:=j1 A a O b (i:=3) (by exact id (pn [] 0x1D5838));have h4:=j1 A a O b (i:=4) (by exact id (pn [] 0x1D5848));simp only [aw,cM,<- h0,<- h1,<- h2,<- h3,<- h4,B7];rfl
set_option tactic.hygienic true in
theorem gN (A a O b:Int):((eO A a O b).map (·.1)).Nodup:=by
 rw [l7];split
 ·simp
 ·rename_i h;simp;exact fun e=>h e.symm
theorem C7 (A a O b j:Int):As (eO A a O b) j=(if A=j then a else 0)+(if O=j then b else 0):=by
 rw [l7];unfold As;by_cases h:O=A
 ·subst h;by_cases h2:O=j<;>simp [h2]
 ·rw [if_neg h];simp
theorem wv (A a O b j:Int):(eO A a O b).any (fun p=>decide (p.1=j))=(decide (A=j) || decide (O=j)):=by
 rw [l7];by_cases h:O=A
 ·subst h;simp
 ·rw [if_neg h];simp
theorem eF (A a O b:Int):(eO A a O b).length<=2:=by rw [l7];split<;>simp
noncomputable def jL (t:eA):ID:=ah.foldl (fun w v=>ia w ((gB t v).getD [])) []
theorem qT (A a O b:Nat->Int):jL (gX A a O b)=pD [] (eO (A 0) (a 0) (O 0) (b 0)++(eO (A 1) (a 1) (O 1) (b 1)++(eO (A 2) (a 2) (O 2) (b 2)++(eO (A 3) (a 3) (O 3) (b 3)++eO (A 4) (a 4) (O 4) (b 4))))):=by
 have e:jL (gX A a O b)=ia (ia (ia (ia (ia (ia [] []) (eO (A 0) (a 0) (O 0) (b 0))) (eO (A 1) (a 1) (O 1) (b 1))) (eO (A 2) (a 2) (O 2) (b 2))) (eO (A 3) (a 3) (O 3) (b 3))) (eO (A 4) (a 4) (O 4) (b 4)):=by kernel_rfl
 have n0:(([]:ID).map (·.1)).Nodup:=ds;rewrite [e,jz n0];have e0:pD [] []=([]:ID):=rfl;rewrite [e0,jz n0];have n1:=gO (s:=eO (A 0) (a 0) (O 0) (b 0)) n0;rw [jz n1];have n2:=gO (s:=eO (A 1) (a 1) (O 1) (b 1)) n1;rw [jz n2];have n3:=gO (s:=eO (A 2) (a 2) (O 2) (b 2)) n2;rw [jz n3];have n4:=gO (s:=eO (A 3) (a 3) (O 3) (b 3)) n3;rw [jz n4];unfold pD;rw [dB,dB,dB,dB]
theorem FN (cs:List rX) (k:Int):Gn cs k=As (cs.map (·.2)) k:=by
 unfold Gn
 induction cs with
 | nil=>rfl
 | cons x cs ih=>
  rw [aw,rL,<- ih];by_cases h:x.2.1=k
  ·rw [aZ (by simp [h]),if_pos h];simp
  ·rw [aU (by simp [h]),if_neg h,ct]
theorem CD (A a O b:Nat->Int) (j:Int):gI (jL (gX A a O b)) j=gI (H1 (qt A a O b)) j:=by
 rw [qT,yC];unfold H1;rw [yq (fun x:rX=>x.2.1) (fun k=>Gn (qt A a O b) k),FN];simp only [wY,List.any_append,wv,D3,C7,qt,aN,aw,cM,rL,fz,List.any_nil,jy,Option.isSome_none,Bool.false_or,gc];have hb:((decide (A 0=j) || decide (O 0=j)) || ((decide (A 1=j) || decide (O 1=j)) || ((decide (A 2=j) || decide (O 2=j)) || ((decide (A 3=j) || decide (O 3=j)) || (decide (A 4=j) || decide (O 4=j)))))) =
   ((decide (A 0=j) || (decide (A 1=j) || (decide (A 2=j) || (decide (A 3=j) || decide (A 4=j))))) || (decide (O 0=j) || (decide (O 1=j) || (decide (O 2=j) || (decide (O 3=j) || decide (O 4=j)))))):=by
  ac_rfl
 rw [hb];have hz:As [] j=0:=rfl;rw [hz];congr 2;generalize (if A 0=j then a 0 else 0)=x0;generalize (if A 1=j then a 1 else 0)=x1;generalize (if A 2=j then a 2 else 0)=x2;generalize (if A 3=j then a 3 else 0)=x3;generalize (if A 4=j then a 4 else 0)=x4;generalize (if O 0=j then b 0 else 0)=y0;generalize (if O 1=j then b 1 else 0)=y1;generalize (if O 2=j then b 2 else 0)=y2;generalize (if O 3=j then b 3 else 0)=y3;generalize (if O 4=j then b 4 else 0)=y4
 lia
theorem xC (A a O b:Nat->Int):((jL (gX A a O b)).map (·.1)).Nodup:=by rw [qT];exact gO ds
theorem Eo (cs:List rX):((H1 cs).map (·.1)).Nodup:=Ac ds
theorem C0 (d s:ID):(pD d s).length<=d.length+s.length:=by
 unfold pD
 have:=lH (P:=fun (d:ID) k=>d.length<=k) (f:=fun d (p:Int×Int)=>iV d p.1 p.2) (fun d p k h=>aO (rA d p.1 p.2) (by exact id ((pn [_,_] 0x0DA181A1800D10) h))) s d d.length (aE _)
 exact this
theorem zv (A a O b:Nat->Int):(jL (gX A a O b)).length<=10:=by
 rw [qT];refine aO (C0 _ _) ?_;simp only [ak,bB]
 have:=eF (A 0) (a 0) (O 0) (b 0);have:=eF (A 1) (a 1) (O 1) (b 1);have:=eF (A 2) (a 2) (O 2) (b 2);have:=eF (A 3) (a 3) (O 3) (b 3);have:=eF (A 4) (a 4) (O 4) (b 4)
 exact id ((pn [_,_,_,_,_] 0x0DA8AAAAA43210080D2840D2830D2820D2810D280) ‹_› ‹_› ‹_› ‹_› this)
end
end Mine
end
section
namespace Mine
noncomputable section
abbrev wA (c:Nat->Nat) (i:Nat):Int:=1+(cA c i:Int)
abbrev wB (c:Nat->Nat) (i:Nat):Int:=1+(cB c i:Int)
abbrev kA (ab:Nat->Int) (i:Nat):Int:=fG (ab i)
noncomputable def Tt (c:Nat->Nat) (ab:Nat->Int):eA:=gX (kA ab) (wA c) (cO c) (wB c)
noncomputable def HH (S:PV) (c:Nat->Nat) (ab:Nat->Int):SE:=Hd S c ab++[nm "table" (du (Tt c ab))]
noncomputable def Fj (S:PV) (c:Nat->Nat) (ab:Nat->Int) (a:ID×Option Int):SE:=HH S c ab++[nm "whole" (bc a.1)]++(match a.2 with | none=>[] | some v=>[nm "node" (.int v)])
noncomputable def GT (S:PV) (c:Nat->Nat) (ab:Nat->Int):SE:=Fj S c ab (jL (Tt c ab),some 260)
theorem GF (k:Nat) (h:k < 6):pG k=0\/256<=pG k:=by
 rcases (show k=0\/k=1\/k=2\/k=3\/k=4\/k=5 by exact id ((pn [_] 0x1F1F1F1F1F2D5802D4802D3802D2802D1802D0801D680) h)) with rfl | rfl | rfl | rfl | rfl | rfl<;>decide
theorem IK {S:PV}{c:Nat->Nat}{ab:Nat->Int}{n:Nat}:ex o3 [] (n+60) lT (Hd S c ab) (fX 13)=some (.next,HH S c ab):=by
 conv=>lhs;arg 6;whnf
 refine (bm (u:=du (Tt c ab)) (by rfl) ?_).trans (by kernel_rfl);have h:=zK (n:=5) (x:=fun i=>7+(cA c i:Int)) (o:=cO c) (y:=fun i=>7+(cB c i:Int)) (ab:=ab) (aE _) fun i hi=>by
  have h1:cA c i < 48:=a5 _ (by exact id (pn [] 0x1D301908));have h2:cB c i < 48:=a5 _ (by exact id (pn [] 0x1D301908));exact ⟨by exact id (pn [_] 0x0EA2C07878),by exact id ((pn [_] 0x1E010029A2C0781D30190) h1),by exact id (pn [_] 0x0EA2C07878),by exact id ((pn [_] 0x1E010029A2C0781D30190) h2),GF _ (a5 _ (by exact id (pn [] 0x1D6808)))⟩
 have e:(((0,[])::(ax 5).map fun (i:Nat)=>(256+(i:Int),eO (fG (ab i)) (7+(cA c i:Int) - 6) (cO c i) (7+(cB c i:Int) - 6))):eA)=Tt c ab:=by
  have h1:∀ i,(7+(cA c i:Int) - 6)=wA c i:=fun i=>by show _=1+(cA c i:Int);exact id (pn [_] 0x2EA2C018B68A2C078)
  have h2:∀ i,(7+(cB c i:Int) - 6)=wB c i:=fun i=>by show _=1+(cB c i:Int);exact id (pn [_] 0x2EA2C018B68A2C078)
  simp only [h1,h2];rfl
 rw [e] at h;exact jn (vs:=[.lst ([0,1,2,3,4].map fun i=>aL (oL c i)),aL ([0,1,2,3,4].map ab)]) (by kernel_rfl) (ay (by kernel_rfl) (ay (by kernel_rfl) a8)) (by kernel_rfl) h
theorem H5 {S:PV}{c:Nat->Nat}{ab:Nat->Int}{n:Nat}:ex o3 [] (n+60) lT (HH S c ab) (fX 14)=some (.next,Fj S c ab ([],none)):=by kernel_rfl
theorem D7 (A a O b:Nat->Int) {v:Int} (hv:v∈ah):∃ r,gB (gX A a O b) v=some r/\yn r:=by
 simp only [ah,ar,bg,or_false] at hv;rcases hv with rfl | rfl | rfl | rfl | rfl | rfl
 ·exact ⟨[],by rfl,bP _,ds⟩
 ·exact ⟨eO (A 0) (a 0) (O 0) (b 0),by rfl,eF _ _ _ _,gN _ _ _ _⟩
 ·exact ⟨eO (A 1) (a 1) (O 1) (b 1),by rfl,eF _ _ _ _,gN _ _ _ _⟩
 ·exact ⟨eO (A 2) (a 2) (O 2) (b 2),by rfl,eF _ _ _ _,gN _ _ _ _⟩
 ·exact ⟨eO (A 3) (a 3) (O 3) (b 3),by rfl,eF _ _ _ _,gN _ _ _ _⟩
 ·exact ⟨eO (A 4) (a 4) (O 4) (b 4),by rfl,eF _ _ _ _,gN _ _ _ _⟩
theorem BH {t s:List (Int×Int)} (ht:t.length<=20) (hs:s.length<=20):o3.fn "add_callers" [bc t,bc s]=some (bc (ia t s)):=zn ht hs
theorem x9 {t:List (Int×Int)} (ht:t.length<=60):o3.fn "count_calls" [bc t]=some (.int (bY t)):=s8 ht
theorem j2 {t:eA}{v:Int}{r:ID} (h:gB t v=some r):item (du t) (.int v)=some (bc r):=by
 show ej _ _=_;rw [fJ bc t v,h];rfl
theorem H6 {S:PV}{c:Nat->Nat}{ab:Nat->Int}{n:Nat}:ex o3 [] (n+60) lT (Fj S c ab ([],none)) (fX 15)=some (.next,GT S c ab):=by
 conv=>lhs;arg 6;whnf
 refine (jJ (items:=ah.map .int) (by kernel_rfl)).trans ?_;refine Eq.trans (And.left (l9 (Fj S c ab) (fun i a=>a.1.length<=2 * i) (fun a v=>(ia a.1 ((gB (Tt c ab) v).getD []),some v)) .int 40 ah ([],none) _ 0 ?_ (bP _) ?_)) ?_
 ·show 40+6+1<=_
  exact id (pn [_] 0x0DA3B190A18A682819)
 ·intro i a v m hv hP
  rw [di] at hP;have hvm:=bK hv;have hi:i < 6:=by
   rw [aQ] at hv;refine xE hv ?_;clear hv;intro h _;exact h
  refine fw (D7 (kA ab) (wA c) (cO c) (wB c) hvm) ?_;intro r hr hr2 hrn;have hr:gB (Tt c ab) v=some r:=hr;obtain ⟨w,l⟩:=a;dsimp only at hP;have hlen:=vh w r;rw [hr];refine ⟨by show (ia w r).length<=_;exact id ((pn [_,_,_,_] 0x0D4CA18A2082830DA0130D4C22810D280) hr2 hP hlen),Fj S c ab (w,some v),by cases l<;>kernel_rfl,?_⟩;refine (aj (aI:=Fj S c ab (ia w r,some v)) ?_).trans (by rfl);refine (bm (u:=bc (ia w r)) (by rfl) ?_).trans (by kernel_rfl);refine jn (vs:=[bc w,bc r]) (by kernel_rfl) (ay (by kernel_rfl) (ay ?_ a8)) (by rfl) (BH (by exact id ((pn [_,_] 0x0D141910D4C02811D680) hi hP)) (by exact id ((pn [_] 0x0D141900D280) hr2)));exact bt (b:=du (Tt c ab)) (k:=.int v) (by intros;intro h;cases h) (by kernel_rfl) (by kernel_rfl) (by kernel_rfl) (j2 hr)
 ·rfl
theorem D8 {t:eA}{n:Nat} (hk:(t.map (·.1)).Nodup) (hr:∀ p∈t,(p.2.map (·.1)).Nodup/\p.2.length<=10) (hn:t.length+20<=n):nP n (du t) (du t)=some true:=by
 refine xE (az (show 1<=n by exact id ((pn [_,_] 0x0D1180D1A14190) hn))) ?_;rintro k rfl;unfold du;refine (if_pos rfl).trans ?_;have hD:∀ (a:eA) (m:Nat),(∀ p∈a,p∈t)->a.length+16<=m->n7 m (a.map fun p=>(p.1,bc p.2)) (t.map fun p=>(p.1,bc p.2))=some true:=by
  intro a
  induction a with
  | nil=>intro m _ hm;obtain ⟨k,rfl⟩:=az (show 1<=m by simp at hm;exact id ((pn [_] 0x0D0180D01019) hm));rfl
  | cons p a ih=>
   intro m ha hm;rw [aD] at hm;refine xE (az (show 1<=m by exact id ((pn [_,_] 0x0D1180D1A1019A180) hm))) ?_;rintro k rfl;have hp:=ha p am
   have:=(hr p hp).2
   exact uN (b:=bc p.2) (by rw [fJ bc t p.1,fY hk hp];rfl) (xc (hr p hp).1 (hr p hp).1 (fun J=>rfl) (by exact id ((pn [_,_,_] 0x0D1A4820DA820DA181A1019A180) hm this))) (ih k (fun q hq=>ha q (ai _ hq)) (by exact id ((pn [_,_] 0x0D1A101900DA181A1019A180) hm)))
 exact hD t k (fun p hp=>hp) (by exact id ((pn [_,_] 0x0D1A101900DA181A14190) hn))
theorem Bp (A a O b:Nat->Int):((gX A a O b).map (·.1)).Nodup:=by
 have:(gX A a O b).map (·.1)=ah:=by rfl
 rw [this];decide
theorem CT (A a O b:Nat->Int):∀ p∈gX A a O b,(p.2.map (·.1)).Nodup/\p.2.length<=10:=by
 intro p hp;rcases ar.mp hp with rfl | hp
 ·exact ⟨ds,bP _⟩
 ·refine bO (aB.mp hp) ?_;rintro i _ rfl
  exact ⟨gN _ _ _ _,by have:=eF (A i) (a i) (O i) (b i);dsimp only;exact id ((pn [_] 0x0DA800D280) this)⟩
theorem H8 {S:PV}{c:Nat->Nat}{ab:Nat->Int}{n:Nat}:ex o3 [] (n+110) lT (GT S c ab) (fX 16)=some (.next,GT S c ab):=by
 conv=>lhs;arg 6;whnf
 have hdue:xW (ft c ab++gf c)=Tt c ab:=Cc _ _ _ _;have ok:=u0 c ab;refine cn (c:=false) (kI (ci (b:=false) (c:=false) ?_ fun J=>ci (b:=false) (c:=false) ?_ fun J=>jk)) (fun h=>nomatch h) fun J=>by rfl
 ·refine br (da (a:=du (Tt c ab)) (b:=du (xW (ft c ab++gf c))) (by kernel_rfl) (by rfl) (by kernel_rfl) (oF ?_))
  rw [hdue];exact D8 (Bp _ _ _ _) (CT _ _ _ _) (by show 6+20<=_;exact id (pn [_] 0x0DA69190A141968))
 ·refine br (da (a:=bc (jL (Tt c ab))) (b:=bc (H1 (ft c ab++gf c))) (by kernel_rfl) (by rfl) ?_ (oF ?_))
  ·unfold GT Fj HH Hd Hx G3
   generalize jL (Tt c ab)=w;generalize du (Tt c ab)=T;generalize ft c ab++gf c=cs at ok;have hcl:(cs.map e9).length<=1048576:=by rw [aa];have:=ok.n;exact id ((pn [_] 0x0D1000003900D14190) this)
   refine (jH (items:=cs.map e9) (rs:=(cs.filter fun J=>true).map fun x=>(.int x.2.1,.int (Gn cs x.2.1))) (by kernel_rfl) ?_ ?_ ?_).trans ?_
   ·exact Eq.trans (b:=if (cs.map e9).length<=1048576 then some (cs.map e9) else none) (by kernel_rfl) (if_pos hcl)
   ·refine ij (fun J=>true) (fun x=>.int (Gn cs x.2.1)) (fun x=>.int x.2.1) e9 60 (by kernel_rfl) cs _ ?_ ?_
    ·have:=ok.n;exact id ((pn [_,_] 0x0DA67191A18A03C190D14190) this)
    ·intro x q hx
     refine ⟨[nm "calls" (.lst (cs.map e9)),nm "one" (.int x.1),nm "two" (.int x.2.1),nm "many" (.int x.2.2)],by kernel_rfl,by rfl,fun J=>⟨?_,by rfl⟩⟩;have hs:=zg ok fun r=>r.2.1 == x.2.1;refine b7 (v:=.lst (((cs.filter fun r=>r.2.1 == x.2.1).map (·.2.2)).map .int)) (by rfl) ?_ (AW hs.1 hs.2);show ev _ _ _ _ _=_;refine (bw (items:=cs.map e9) (rs:=(cs.filter fun r=>r.2.1 == x.2.1).map fun r=>(.none,.int r.2.2)) (by rfl) ?_ ?_ ?_).trans ?_
     ·exact Eq.trans (b:=if (cs.map e9).length<=1048576 then some (cs.map e9) else none) (by rfl) (if_pos hcl)
     ·refine bx (fun r=>r.2.1 == x.2.1) (fun r=>.int r.2.2) e9 30 (by kernel_rfl) cs _ ?_ ?_
      ·have:=ok.n;exact id ((pn [_,_] 0x0DA39191A18A01E190D14190) this)
      ·intro r k hr
       exact ⟨[nm "two" (.int x.2.1),nm "row" (e9 r)],by kernel_rfl,bj (by rfl),fun J=>by rfl⟩
     ·rw [aa] at hs ⊢;exact hs.1
     ·rw [ao,ao];rfl
   ·rw [aa];have:=aF (fun (_:rX)=>true) cs;have:=ok.n;exact id ((pn [_,_] 0x0D1000003900D141910D10) ‹_› this)
   ·rw [bS.mpr (fun J J=>rfl)]
    have:=oI (cs.map fun x=>(x.2.1,Gn cs x.2.1)) []
    rw [ao] at this;exact congrArg (ca PV.dct) this
  ·have hl:=zv (kA ab) (wA c) (cO c) (wB c)
   have hl:(jL (Tt c ab)).length<=10:=hl;exact xc (xC _ _ _ _) (Eo _) (CD _ _ _ _) (by exact id ((pn [_,_] 0x0DA68191A4800DA80) hl))
end
end Mine
end
section
namespace Mine
noncomputable section
noncomputable def zl {α:Type} (ch:α->Bool):Nat->KasT α->Bool
 | _,.ret a=>ch a
 | 0,.ask _ _ _=>false
 | n+1,.ask _ _ k=>zl ch n (k true) && zl ch n (k false)
theorem on {α:Type}{ch:α->Bool}{lt:Nat->Nat->Bool}:∀ {n:Nat}{t:KasT α},zl ch n t=true->ch (qX lt t)=true
 | _,.ret a,h=>by cases ‹Nat›<;>exact h
 | 0,.ask _ _ _,h=>nomatch h
 | n+1,.ask i j k,h=>by
  refine xA (aR _ _ |>.mp h) ?_;intro h1 h2;show ch (qX lt (k (lt i j)))=true
  cases lt i j with
  | true=>exact on h1
  | false=>exact on h2
theorem G9:zl (fun a=>(a.toList).isPerm (ax 6)) 40 (kas_sort 6)=true:=by kernel_rfl
theorem lC {ps:List (Int×Int)} (h:ps.length=6):(fO ps).Perm (ax 6):=by
 unfold fO;rw [if_neg (by exact id ((pn [_] 0x2F1D2802D680) h)),h];exact List.isPerm_iff.mp (on G9)
theorem Au {w0 w1:Int} (h0:w0=1\/w0=-1) (h1:w1=1\/w1=-1) (s u s' v:Int) :
  (mX (fun i j=>decide (i < j)) (-w0 * s) (w1 * u) (-w0 * s') (w1 * v)=true->qY (-w0) w1 s u s' v=-1) /\
  (mX (fun i j=>decide (i < j)) (-w0 * s) (w1 * u) (-w0 * s') (w1 * v)=false->(mX (fun i j=>decide (i > j)) (-w0 * s) (w1 * u) (-w0 * s') (w1 * v)=true->qY (-w0) w1 s u s' v=1) /\
   (mX (fun i j=>decide (i > j)) (-w0 * s) (w1 * u) (-w0 * s') (w1 * v)=false->qY (-w0) w1 s u s' v=0)):=by
 have e1:∀ a b:Int,(a == b)=decide (a=b):=fun a b=>by rw [dE];simp
 unfold mX qY;rw [e1,e1];rcases h0 with rfl | rfl<;>rcases h1 with rfl | rfl
 all_goals
  refine ⟨fun h=>?_,fun h=>⟨fun h'=>?_,fun h'=>?_⟩⟩
  all_goals
   by_cases a1:s=s'
   ·subst a1
    by_cases a2:u=v
    ·subst a2;simp_all
    ·simp_all<;>lia
   ·simp_all<;>lia
end
end Mine
end
section
namespace Mine
noncomputable section
noncomputable def cF (T:eA) (v:Int):ID:=(gB T v).getD []
structure rY (T:eA):Prop where
 keys:T.map (·.1)=ah
 rows:∀ p∈T,(p.2.map (·.1)).Nodup/\p.2.length<=2/\∀ q∈p.2,q.1∈ah/\1<=q.2/\q.2<=100
 conn:∀ v∈ah,v≠0->∃ u∈ah,u < v/\(gI (cF T v) u).isSome=true
theorem rY.row {T:eA} (h:rY T) {v:Int} (hv:v∈ah):gB T v=some (cF T v)/\yn (cF T v)/\∀ q∈cF T v,q.1∈ah/\1<=q.2/\q.2<=100:=by
 rw [<- h.keys] at hv;refine bO (aB.mp hv) ?_;rintro p hp rfl;have hn:(T.map (·.1)).Nodup:=by rw [h.keys];decide
 have e:=fY hn hp;have er:cF T p.1=p.2:=by unfold cF;rw [e];rfl
 rw [er];refine ir (h.rows p hp) ?_;intro h1 h2 h3;exact ⟨e,⟨h2,h1⟩,h3⟩
theorem rY.sum {T:eA} (h:rY T) {v:Int} (hv:v∈ah):0<=bY (cF T v)/\bY (cF T v)<=200:=by
 refine ir (h.row hv) ?_;rintro _ ⟨h2,_⟩ h3;generalize cF T v=r at h2 h3
 match r,h2 with
 | [],_=>unfold bY;simp
 | [p],_=>have:=h3 p am;unfold bY;simp;lia
 | [p,q],_=>have:=h3 p am;have:=h3 q (ai _ am);unfold bY;simp;lia
 | _::_::_::_,h=>simp at h
noncomputable def Iu (j:Nat->PV) (c:Nat->Nat) (T:eA):SE:=[nm "script" (j 0),nm "cells" (gj c),nm "leads" (j 1),nm "page" (j 2),nm "lines" (j 3),nm "spaces" (j 4),nm "symbols" (j 5),nm "others" (j 6),nm "wrong" (j 7),nm "above" (j 8),nm "calls" (j 9),nm "nodes" (aL ah),nm "due" (du T),nm "table" (du T),nm "whole" (j 10),nm "node" (j 11)]
theorem Gr (S:PV) (c:Nat->Nat) (ab:Nat->Int):∃ j,GT S c ab=Iu j c (Tt c ab):=by
 have hdue:xW (ft c ab++gf c)=Tt c ab:=Cc _ _ _ _;unfold GT Fj HH Hd;rw [hdue];exact ⟨fun k=>match k with | 0=>S | 1=>.lst (cI (gQ c)) | 2=>.str (jC c) | 3=>.lst (cI (eL c)) | 4=>pX (uJ c) | 5=>.lst ([0,1,2,3,4].map fun i=>aL (oL c i)) | 6=>aL ([0,1,2,3,4].map fun i=>pG (c i / 55296 % 6)) | 7=>.lst [] | 8=>aL ([0,1,2,3,4].map ab) | 9=>.lst ((ft c ab++gf c).map e9) | 10=>bc (jL (Tt c ab)) | _=>.int 260,by rfl⟩
noncomputable def kW (c:Nat->Nat) (p:Nat):Int:=1 - 2 * ((c 5 / p % 2:Nat):Int)
theorem lw (c:Nat->Nat) (p:Nat):kW c p=1\/kW c p=-1:=by
 unfold kW
 have:c 5 / p % 2 < 2:=a5 _ (by exact id (pn [] 0x1D2808))
 lia
noncomputable def Im (j:Nat->PV) (c:Nat->Nat) (T:eA):SE:=Iu j c T++[nm "ways" (aL [kW c 1,kW c 2])]
theorem Ih {j:Nat->PV}{c:Nat->Nat}{T:eA}{n:Nat}:ex o3 [] (n+60) lT (Iu j c T) (fX 17)=some (.next,Im j c T):=by
 conv=>lhs;arg 6;whnf
 refine (bm (u:=aL [kW c 1,kW c 2]) (by rfl) ?_).trans (by kernel_rfl);refine (bw (items:=[1,2].map fun (p:Nat)=>.int (p:Int)) (rs:=([1,2].filter fun J=>true).map fun (p:Nat)=>(.none,.int (kW c p))) (by kernel_rfl) (by rfl) ?_ (by simp)).trans (by rfl);refine bx (fun J=>true) (fun p=>.int (kW c p)) (fun (p:Nat)=>.int (p:Int)) 30 (by kernel_rfl) [1,2] _ ?_ ?_
 ·show 30+2+1<=_
  exact id (pn [_] 0x0DA3A190A18A281E19)
 ·intro p m hp
  have hp:p=1\/p=2:=by simpa using hp
  refine ⟨[nm "cells" (gj c),nm "part" (.int (p:Int))],by kernel_rfl,by rfl,fun J=>?_⟩;refine aW (a:=.int 1) (b:=.int (2 * ((c 5 / p % 2:Nat):Int))) (by rfl) ?_ rfl;refine aW (a:=.int 2) (b:=.int ((c 5 / p % 2:Nat):Int)) (by rfl) ?_ rfl;refine aW (a:=.int ((c 5 / p:Nat):Int)) (b:=.int ((2:Nat):Int)) ?_ (by rfl) (eB (by exact id (pn [] 0x1D2808)));show ev _ _ _ _ _=_;exact aW (a:=.int (c 5:Int)) (b:=.int (p:Int)) (by rfl) (by rfl) (fF (by exact id ((pn [_] 0x1D0081F2D2802D180) hp)) (by exact id ((pn [_] 0x1D01000000005901F2D2802D180) hp)))
noncomputable def yT (T:eA):PV:=.lst (ah.map fun v=>.tup [.int (bY (cF T v)),.int v])
noncomputable def It (j:Nat->PV) (c:Nat->Nat) (T:eA):SE:=Im j c T++[nm "comp" (oe (-(kW c 1)) (kW c 2)),nm "rows" (yT T)]
theorem EQ (d0 d1:Int):o3.fn "TupleComp" [.lst [.tup [.int 0,.int d0],.tup [.int 1,.int d1]]]=some (oe d0 d1):=Gc d0 d1
theorem BX (d0 d1 a b c d:Int):o3.mth "TupleComp" "compare" [oe d0 d1,.tup [.int a,.int b],.tup [.int c,.int d]]=some (.int (qY d0 d1 a b c d)):=DU d0 d1 a b c d
theorem Iz {j:Nat->PV}{c:Nat->Nat}{T:eA}{n:Nat} (ok:rY T):ex o3 [] (n+60) lT (Im j c T) (fX 18)=some (.next,It j c T):=by
 conv=>lhs;arg 6;whnf
 refine tS (xs:=["comp","rows"]) (ps:=[oe (-(kW c 1)) (kW c 2),yT T]) (by rfl) (by rfl) ?_ (by kernel_rfl);refine ay ?_ (ay ?_ a8)
 ·exact fu (v':=.lst [.tup [.int 0,.int (-(kW c 1))],.tup [.int 1,.int (kW c 2)]]) (v:=.lst [.tup [.int 0,.int (-(kW c 1))],.tup [.int 1,.int (kW c 2)]]) (by kernel_rfl) (by kernel_rfl) (by rfl) (by kernel_rfl) (EQ _ _)
 ·refine (bw (items:=ah.map .int) (rs:=(ah.filter fun J=>true).map fun v=>(.none,.tup [.int (bY (cF T v)),.int v])) (by kernel_rfl) (by rfl) ?_ (by simp [ah])).trans (by rfl)
  refine bx (fun J=>true) (fun v=>.tup [.int (bY (cF T v)),.int v]) .int 30 (by kernel_rfl) ah _ ?_ ?_
  ·show 30+6+1<=_
   exact id (pn [_] 0x0DA3A190A18A681E19)
  ·intro v m hv
   refine ir (ok.row hv) ?_;rintro hr ⟨hl,_⟩ _;refine ⟨[nm "table" (du T),nm "node" (.int v)],by kernel_rfl,by rfl,fun J=>?_⟩;refine j3 (ay ?_ (ay (by rfl) a8)) (by simp);have hs:∀ {n:Nat}{sc:Sc}{e:Expr},True:=trivial;refine fu (v':=bc (cF T v)) (v:=bc (cF T v)) (by rfl) ?_ (by rfl) ?_ (x9 (by exact id ((pn [_] 0x0D3C1900D280) hl)))
   ·show ev _ _ _ _ _=_
    exact bt (b:=du T) (k:=.int v) (by intros;intro h;cases h) (by rfl) (by rfl) (by rfl) (j2 hr)
   ·exact bt (b:=du T) (k:=.int v) (by intros;intro h;cases h) (by rfl) (by rfl) (by rfl) (j2 hr)
theorem ET {r:ID} (h:r.length<=2) (hw:∀ q∈r,1<=q.2/\q.2<=100):o3.bi "sum" [.vals (r.map fun p=>(p.1,PV.int p.2))]=some (.int (bY r)):=by
 show (gz ((r.map fun p=>(p.1,PV.int p.2)).map (·.2))).bind (fun ns=>if AF ns then some (PV.int ns.sum) else none)=_
 have:(r.map fun p=>(p.1,PV.int p.2)).map (·.2)=(r.map (·.2)).map .int:=by rw [ao,ao];rfl
 rw [this,m7,Option.bind_some,if_pos];· rfl
 unfold AF;rw [decide_eq_true (by rw [aa];exact id ((pn [_] 0x0D1000003900D280) h)),gG,bo];intro x hx;refine bO (aB.mp hx) ?_;rintro q hq rfl
 have:=hw q hq
 exact decide_eq_true (by lia)
theorem sD {n:Nat}{sc:Sc}{σ:SE}{q1 q2 q3 q4 q5 q6 q7:Pos}{T:eA}{v:Int} (ok:rY T) (hv:v∈ah) (hg:cU sc σ "sum"=true) (hl:(dt (.Subscript (.Name "due" q1) (.Name "node" q2) q3) && q4.endLine == q5.line && decide (([]:List Expr).length<=8))=true)
  (h1:evP o3 n sc σ (.Name "due" q1)=some (du T)) (h2:ev o3 n sc σ (.Name "node" q2)=some (.int v)) (hgt:dW o3 sc σ (.Name "due" q1)=none) :
  ev o3 (n+4) sc σ (.Call (.Name "sum" q6) [.Call (.Attribute (.Subscript (.Name "due" q1) (.Name "node" q2) q3) "values" q4) [] [] q5] [] q7)=some (.int (bY (cF T v))):=by
 refine ir (ok.row hv) ?_;rintro hr ⟨hl2,_⟩ hq;refine b7 (v:=.vals ((cF T v).map fun p=>(p.1,PV.int p.2))) hg ?_ (ET hl2 fun q h=>⟨(hq q h).2.1,(hq q h).2.2⟩);show ev _ _ _ _ _=_;refine ry (l:=(cF T v).map fun p=>(p.1,PV.int p.2)) (vs:=[]) hl ?_ a8 (by rfl);exact bt (b:=du T) (k:=.int v) (by intros;intro h;cases h) hgt h1 h2 (j2 hr)
noncomputable def lh (c:Nat->Nat) (T:eA) (v:Int):Int×Int:=(-(kW c 1) * bY (cF T v),kW c 2 * v)
noncomputable def Ix (j:Nat->PV) (c:Nat->Nat) (T:eA):SE:=It j c T++[nm "keys" (.lst (ah.map fun v=>vM (lh c T v)))]
theorem tI {w x:Int} (h:w=1\/w=-1):jW .Mult (.int w) (.int x)=some (.int (w * x)):=by
 show (if (small w || small x)=true then some (PV.int (w * x)) else none)=_;rw [if_pos (by rcases h with rfl | rfl<;>rfl)]
theorem H9 {j:Nat->PV}{c:Nat->Nat}{T:eA}{n:Nat} (ok:rY T):ex o3 [] (n+60) lT (It j c T) (fX 19)=some (.next,Ix j c T):=by
 conv=>lhs;arg 6;whnf
 refine (bm (u:=.lst (ah.map fun v=>vM (lh c T v))) (by rfl) ?_).trans (by kernel_rfl);refine (bw (items:=ah.map .int) (rs:=(ah.filter fun J=>true).map fun v=>(.none,vM (lh c T v))) (by kernel_rfl) (by kernel_rfl) ?_ (by simp [ah])).trans (by rfl);refine bx (fun J=>true) (fun v=>vM (lh c T v)) .int 30 (by kernel_rfl) ah _ ?_ ?_
 ·show 30+6+1<=_
  exact id (pn [_] 0x0DA3A190A18A681E19)
 ·intro v m hv
  refine ⟨[nm "due" (du T),nm "ways" (aL [kW c 1,kW c 2]),nm "node" (.int v)],by kernel_rfl,by rfl,fun J=>?_⟩;have hw:-(kW c 1)=1\/-(kW c 1)=-1:=by rcases lw c 1 with h | h<;>lia
  refine j3 (ay ?_ (ay ?_ a8)) (by simp)
  ·exact aW (a:=.int (-(kW c 1))) (b:=.int (bY (cF T v))) (by rfl) (sD ok hv (by rfl) (by rfl) (by rfl) (by rfl) (by rfl)) (tI hw)
  ·exact aW (a:=.int (kW c 2)) (b:=.int v) (by rfl) (by rfl) (tI (lw c 2))
noncomputable def sn (c:Nat->Nat) (T:eA) (u v:Int):Str:=toString (qY (-(kW c 1)) (kW c 2) (bY (cF T u)) u (bY (cF T v)) v)
noncomputable def uo (c:Nat->Nat) (T:eA):List PV:=(ah.flatMap fun u=>ah.map fun v=>.str (sn c T u v))++ah.map fun v=>.str (toString (bY (cF T v)))
noncomputable def G2 (j:Nat->PV) (c:Nat->Nat) (T:eA):SE:=Ix j c T++[nm "signs" (.lst (uo c T))]
theorem xn {a:Int} (h:a.natAbs<=1099511627776):o3.bi "str" [.int a]=some (.str (toString a)):=by
 show (if a.natAbs<=1099511627776 then some (PV.str (toString a)) else none)=_;rw [if_pos h]
theorem BU {w0 w1:Int} (h0:w0=1\/w0=-1) (h1:w1=1\/w1=-1) (a b c d:Int):(qY (-w0) w1 a b c d).natAbs<=1099511627776:=by
 unfold qY;rcases h0 with rfl | rfl<;>rcases h1 with rfl | rfl<;>(repeat' split)<;>decide
theorem Iw {j:Nat->PV}{c:Nat->Nat}{T:eA}{n:Nat} (ok:rY T):ex o3 [] (n+90) lT (Ix j c T) (fX 20)=some (.next,G2 j c T):=by
 conv=>lhs;arg 6;whnf
 refine (bm (u:=.lst (uo c T)) (by rfl) ?_).trans (by kernel_rfl);refine aW (a:=.lst (ah.flatMap fun u=>ah.map fun v=>.str (sn c T u v))) (b:=.lst (ah.map fun v=>.str (toString (bY (cF T v))))) ?_ ?_ (by rfl)
 ·show ev _ _ _ _ _=_
  let t:Int->PV:=fun v=>.tup [.int (bY (cF T v)),.int v]
  refine (bw (items:=ah.map t) (rs:=(ah.filter fun J=>true).flatMap fun u=>(ah.filter fun J=>true).map fun v=>(.none,.str (sn c T u v))) (by kernel_rfl) (by kernel_rfl) ?_ (by simp [ah])).trans (by rfl);refine nQ (fun J=>true) (fun u=>(ah.filter fun J=>true).map fun v=>(.none,.str (sn c T u v))) t 50 (by kernel_rfl) ah _ ?_ ?_
  ·show 50+6+1<=_
   exact id (pn [_] 0x0DA56190A18A683219)
  ·intro u m hu
   refine ⟨[nm "comp" (oe (-(kW c 1)) (kW c 2)),nm "rows" (yT T),nm "one" (t u)],by kernel_rfl,by rfl,fun J=>⟨ah.map t,by rfl,?_⟩⟩;refine bx (fun J=>true) (fun v=>.str (sn c T u v)) t 30 (by rfl) ah _ ?_ ?_
   ·show 30+6+1<=_
    exact id (pn [_] 0x0DA32190A18A681E19)
   ·intro v q hv
    refine ⟨[nm "comp" (oe (-(kW c 1)) (kW c 2)),nm "rows" (yT T),nm "one" (t u),nm "two" (t v)],by rfl,by rfl,fun J=>?_⟩;refine b7 (v:=.int (qY (-(kW c 1)) (kW c 2) (bY (cF T u)) u (bY (cF T v)) v)) (by rfl) ?_ (xn (BU (lw c 1) (lw c 2) _ _ _ _));show ev _ _ _ _ _=_;exact jO (c:="TupleComp") (fs:=[("comp_select_list",.lst [.tup [.int 0,.int (-(kW c 1))],.tup [.int 1,.int (kW c 2)]])]) (by rfl) (by rfl) (ay (by rfl) (ay (by rfl) a8)) (by rfl) (BX _ _ _ _ _ _)
 ·let t:Int->PV:=fun v=>.tup [.int (bY (cF T v)),.int v]
  refine (bw (items:=ah.map t) (rs:=(ah.filter fun J=>true).map fun v=>(.none,.str (toString (bY (cF T v))))) (by rfl) (by rfl) ?_ (by simp [ah])).trans (by rfl);refine bx (fun J=>true) (fun v=>.str (toString (bY (cF T v)))) t 30 (by kernel_rfl) ah _ ?_ ?_
  ·show 30+6+1<=_
   exact id (pn [_] 0x0DA57190A18A681E19)
  ·intro v q hv
   have hs:=ok.sum hv;refine ⟨[nm "row" (t v)],by kernel_rfl,by rfl,fun J=>?_⟩;exact b7 (v:=.int (bY (cF T v))) (by rfl) (by rfl) (xn (by lia))
theorem Id {j:Nat->PV}{c:Nat->Nat}{T:eA}{n:Nat} (ok:rY T):ex o3 [] (n+110) lT (G2 j c T) (fX 21)=some (.next,G2 j c T):=by
 conv=>lhs;arg 6;whnf
 refine cn (c:=false) ?_ (fun h=>nomatch h) fun J=>by rfl
 refine br (da (a:=.lst (uo c T)) (b:=.lst (uo c T)) (by kernel_rfl) (by rfl) ?_ (oF (tN (m:=1) ?_ ?_)))
 ·refine aW (a:=.lst (ah.flatMap fun u=>ah.map fun v=>.str (sn c T u v))) (b:=.lst (ah.map fun v=>.str (toString (bY (cF T v))))) ?_ ?_ (by rfl)
  ·show ev _ _ _ _ _=_
   let t:Int->PV:=fun v=>vM (lh c T v)
   let K:PV:=.lst (ah.map t)
   refine (bw (items:=ah.map t) (rs:=(ah.filter fun J=>true).flatMap fun u=>(ah.filter fun J=>true).map fun v=>(.none,.str (sn c T u v))) (by kernel_rfl) (by kernel_rfl) ?_ (by simp [ah])).trans (by rfl);refine nQ (fun J=>true) (fun u=>(ah.filter fun J=>true).map fun v=>(.none,.str (sn c T u v))) t 50 (by kernel_rfl) ah _ ?_ ?_
   ·show 50+6+1<=_
    exact id (pn [_] 0x0DA68190A18A683219)
   ·intro u m hu
    refine ⟨[nm "keys" K,nm "one" (t u)],by kernel_rfl,by rfl,fun J=>⟨ah.map t,by rfl,?_⟩⟩;refine bx (fun J=>true) (fun v=>.str (sn c T u v)) t 30 (by rfl) ah _ ?_ ?_
    ·show 30+6+1<=_
     exact id (pn [_] 0x0DA32190A18A681E19)
    ·intro v q hv
     refine xA (Au (lw c 1) (lw c 2) (bY (cF T u)) u (bY (cF T v)) v) ?_;intro g1 g2;refine ⟨[nm "keys" K,nm "one" (t u),nm "two" (t v)],by rfl,by rfl,fun J=>?_⟩;unfold sn;refine e7 (c:=mX (fun i j=>decide (i < j)) (lh c T u).1 (lh c T u).2 (lh c T v).1 (lh c T v).2) (by rfl) (fun hc=>?_) (fun hc=>?_)
     ·rw [g1 hc];rfl
     ·refine e7 (c:=mX (fun i j=>decide (i > j)) (lh c T u).1 (lh c T u).2 (lh c T v).1 (lh c T v).2) (by rfl) (fun hc'=>?_) (fun hc'=>?_)
      ·rw [(g2 hc).1 hc'];rfl
      ·rw [(g2 hc).2 hc'];rfl
  ·refine (bw (items:=ah.map .int) (rs:=(ah.filter fun J=>true).map fun v=>(.none,.str (toString (bY (cF T v))))) (by kernel_rfl) (by rfl) ?_ (by simp [ah])).trans (by rfl)
   refine bx (fun J=>true) (fun v=>.str (toString (bY (cF T v)))) .int 30 (by kernel_rfl) ah _ ?_ ?_
   ·show 30+6+1<=_
    exact id (pn [_] 0x0DA69190A18A681E19)
   ·intro v q hv
    have hs:=ok.sum hv;refine ⟨[nm "due" (du T),nm "node" (.int v)],by kernel_rfl,by rfl,fun J=>?_⟩;refine b7 (v:=.int (bY (cF T v))) (by rfl) ?_ (xn (by lia));show ev _ _ _ _ _=_;exact sD ok hv (by rfl) (by rfl) (by rfl) (by rfl) (by rfl)
 ·intro v hv k hk
  rcases aM.mp hv with hv | hv
  ·refine bO (mH.mp hv) ?_;intro u _ hv
   refine bO (aB.mp hv) ?_;rintro w _ rfl;exact y6 _ _ hk
  ·refine bO (aB.mp hv) ?_;rintro w _ rfl
   exact y6 _ _ hk
 ·show 1+42+2<=_
  exact id (pn [_] 0x0DA6B190A28A2A1918)
end
end Mine
end
section
namespace Mine
noncomputable section
abbrev Pa:=List (List Int)
noncomputable def aJ (p:List Int):Int:=p.getLastD 0
noncomputable def gS (adj:Int->Int->Bool) (order:List Int) (a:List Int×Pa):List Int×Pa:=
 match order.filter fun v=>!(a.2.map aJ).contains v && adj (aJ a.1) v with
 | v::_=>(a.1++[v],a.2++[a.1++[v]])
 | []=>if a.1.length < 2 then a else (a.1.dropLast,a.2)
theorem fg (p:List Int) (v:Int):aJ (p++[v])=v:=by
 unfold aJ;rw [bZ,List.getLast?_append];rfl
theorem g6 {p:List Int} (h:p≠[]):aJ p∈p:=by
 unfold aJ;rw [bZ,bF h];exact ju h
theorem dd {p:List Int} (h:p≠[]):p.dropLast++[aJ p]=p:=by
 unfold aJ;rw [bZ,bF h];exact List.dropLast_concat_getLast h
structure uZ (adj:Int->Int->Bool) (order:List Int) (r0:Int) (rd:List Int) (P:Pa):Prop where
 first:P.head?=some [r0]
 ne:∀ p∈P,p≠[]
 here:rd∈P
 up:∀ p∈P,2<=p.length->p.dropLast∈P
 nd:(P.map aJ).Nodup
 ord:∀ p∈P,aJ p∈order
 chain:∀ i,(h:i+1 < P.length)->P[i+1].dropLast <+: P[i]
 tail:∀ p,P.getLast?=some p->rd <+: p
 closed:∀ p∈P,aJ p ∉ rd->∀ v∈order,adj (aJ p) v=true->v∈P.map aJ
 tre:∀ i k,(hi:i < P.length)->(hk:k < P.length)->i < k->adj (aJ P[i]) (aJ P[k])=true->aJ P[i]∈P[k]
 tadj:∀ p∈P,2<=p.length->adj (aJ p.dropLast) (aJ p)=true
 two:∀ i,(h:i+1 < P.length)->2<=P[i+1].length
theorem uZ.start (adj:Int->Int->Bool) {order:List Int}{r0:Int} (h:r0∈order):uZ adj order r0 [r0] [[r0]] where
 first:=rfl
 ne:=fun p hp=>by rcases ae.mp hp with rfl;simp
 here:=ae.mpr rfl
 up:=fun p hp hl=>by rcases ae.mp hp with rfl;simp at hl
 nd:=by simp
 ord:=fun p hp=>by rcases ae.mp hp with rfl;exact h
 chain:=fun i h=>by simp at h
 tail:=fun p hp=>by injection hp with hp;rw [<- hp];exact jv _
 closed:=fun p hp hn=>by rcases ae.mp hp with rfl;exact absurd (by simp [aJ]) hn
 tre:=fun i k hi hk hik=>by simp at hi hk;lia
 tadj:=fun p hp hl=>by rcases ae.mp hp with rfl;simp at hl
 two:=fun i h=>by simp at h
set_option tactic.hygienic true in
theorem uZ.step {adj:Int->Int->Bool} (sym:∀ u v,adj u v=adj v u) {order:List Int}{r0:Int}{road:List Int}{P:Pa} (h:uZ adj order r0 road P):uZ adj order r0 (gS adj order (road,P)).1 (gS adj order (road,P)).2:=by
 have hroad:=h.ne _ h.here;unfold gS;dsimp only;split
 ·rename_i v rest hf
  have hv:v∈order/\v ∉ P.map aJ/\adj (aJ road) v=true:=by
   have:=aT.mp (show v∈order.filter _ from by rw [hf];exact am)
   refine xA this ?_;clear this;intro h1 h2;refine xA (aR _ _ |>.mp h2) ?_;intro h2 h3;refine ⟨h1,fun hm=>?_,h3⟩;rw [bQ.mpr hm] at h2;cases h2
  refine ir hv ?_;clear hv;intro hv1 hv2 hv3;have hPne:P≠[]:=by intro e;rw [e] at h;cases h.first
  have hmem:∀ p∈P++[road++[v]],p∈P\/p=road++[v]:=fun p hp=>by
   rcases aM.mp hp with hp | hp
   ·exact .inl hp
   ·exact .inr (ae.mp hp)
  show uZ adj order r0 (road++[v]) (P++[road++[v]]);refine ⟨?_,?_,b6 _ (ae.mpr rfl),?_,?_,?_,?_,?_,?_,?_,?_,?_⟩
  ·rw [List.head?_append,h.first];rfl
  ·intro p hp
   rcases hmem p hp with hp | rfl
   ·exact h.ne p hp
   ·simp
  ·intro p hp hl
   rcases hmem p hp with hp | rfl
   ·exact ba _ (h.up p hp hl)
   ·rw [ei];exact ba _ h.here
  ·rw [aN,List.map_singleton,fg]
   refine bq.mpr ⟨h.nd,by simp,?_⟩;intro a ha b hb e;rcases ae.mp hb with rfl
   exact hv2 (e ▸ ha)
  ·intro p hp
   rcases hmem p hp with hp | rfl
   ·exact h.ord p hp
   ·rw [fg];exact hv1
  ·intro i hi
   rw [ak,bd] at hi;by_cases hi2:i+1 < P.length
   ·rw [cH hi2,cH (by exact id ((pn [_,_] 0x1D101D1A180) hi2))];exact h.chain i hi2
   ·have e:i+1=P.length:=by exact id ((pn [_,_] 0x2D1A1802F1D1A1801DA181A180) hi hi2)
    rw [List.getElem_append_right (by exact id ((pn [_,_] 0x0DA18012F1D1A1801DA181A180) hi hi2)),cH (by exact id ((pn [_,_] 0x1D102F1D1A1801DA181A180) hi hi2))];have e2:(P++[road++[v]])[i+1]?=some (road++[v]):=by rw [f6 (by exact id ((pn [_,_] 0x0DA18012F1D1A1801DA181A180) hi hi2)),e,ky];rfl
    simp only [e,ky,List.getElem_cons_zero,ei];refine h.tail _ ?_;rw [List.getLast?_eq_getElem?,av (by exact id ((pn [_,_] 0x1D1B1812F1D1A1801DA181A180) hi hi2))];congr 2;exact id ((pn [_,_] 0x2D0B1812F1D1A1801DA181A180) hi hi2)
  ·intro p hp
   rw [List.getLast?_append] at hp
   injection hp with hp
   rw [<- hp];exact jv _
  ·intro p hp hn w hw ha
   rw [aN,aM]
   left
   rcases hmem p hp with hp | rfl
   ·exact h.closed p hp (fun hm=>hn (ba _ hm)) w hw ha
   ·rw [fg] at hn
    exact absurd (b6 _ (ae.mpr rfl)) hn
  ·intro i k hi hk hik ha
   rw [ak,bd] at hi hk;by_cases hk2:k < P.length
   ·have e1:(P++[road++[v]])[k]=P[k]:=cH hk2
    have e2:(P++[road++[v]])[i]=P[i]:=cH (by exact id ((pn [_,_,_] 0x1D101D121D201DA1810) hi hik hk2));rw [e1,e2] at ha;rw [e1,e2];exact h.tre i k (by exact id ((pn [_,_,_] 0x1D101D121D201DA1810) hi hik hk2)) hk2 hik ha
   ·have e:k=P.length:=by exact id ((pn [_,_] 0x2D102F1D101DA1810) hk hk2)
    subst e;have e1:(P++[road++[v]])[P.length]=road++[v]:=by simp
    have e2:(P++[road++[v]])[i]=P[i]:=cH (by exact id ((pn [_,_] 0x1D101D101DA1810) hi hik));rw [e1,e2,fg] at ha;rw [e1,e2];refine ba _ (Classical.byContradiction fun hn=>?_);exact hv2 (h.closed _ (aY (by exact id ((pn [_,_] 0x1D101D101DA1810) hi hik))) hn v hv1 ha)
  ·intro p hp hl
   rcases hmem p hp with hp | rfl
   ·exact h.tadj p hp hl
   ·rw [ei,fg];exact hv3
  ·intro i hi
   rw [ak,bd] at hi;by_cases hi2:i+1 < P.length
   ·rw [cH hi2];exact h.two i hi2
   ·rw [List.getElem_append_right (by exact id ((pn [_,_] 0x0DA18012F1D1A1801DA181A180) hi hi2))]
    have e:i+1=P.length:=by exact id ((pn [_,_] 0x2D1A1802F1D1A1801DA181A180) hi hi2)
    simp only [e,ky,List.getElem_cons_zero];rw [ak,bd]
    have:=eR.mpr hroad
    exact id ((pn [_] 0x0DA180281D008) this)
 ·rename_i hf
  split
  ·exact h
  ·rename_i hl
   have hl:2<=road.length:=by exact id ((pn [_] 0x0D0282F1D280) hl)
   refine ⟨h.first,h.ne,h.up _ h.here hl,h.up,h.nd,h.ord,h.chain,fun p hp=>?_,?_,h.tre,h.tadj,h.two⟩
   ·exact List.IsPrefix.trans (pB _) (h.tail p hp)
   ·intro p hp hn w hw ha
    by_cases hr:aJ p∈road
    ·have:aJ p=aJ road:=by
      rw [<- dd hroad] at hr;rcases aM.mp hr with hr | hr
      ·exact absurd hr hn
      ·exact ae.mp hr
     rw [this] at ha;refine Classical.byContradiction fun hc=>?_
     have:w∈order.filter fun v=>!(P.map aJ).contains v && adj (aJ road) v:=by
      refine aT.mpr ⟨hw,?_⟩;have hc':(P.map aJ).contains w=false:=by
       cases hcc:(P.map aJ).contains w with
       | false=>rfl
       | true=>exact absurd (bQ.mp hcc) hc
      rw [hc',ha];rfl
     rw [hf] at this
     cases this
    ·exact h.closed p hp hr w hw ha
noncomputable def li (adj:Int->Int->Bool) (order:List Int) (n:Nat):List Int×Pa:=(ax n).foldl (fun a J=>gS adj order a) ([order.headD 0],[[order.headD 0]])
theorem ou (adj:Int->Int->Bool) (order:List Int) (n:Nat):li adj order (n+1)=gS adj order (li adj order n):=by
 unfold li;rw [g9,dB];rfl
theorem nr {adj:Int->Int->Bool} (sym:∀ u v,adj u v=adj v u) {order:List Int} (h:order≠[]):∀ n,uZ adj order (order.headD 0) (li adj order n).1 (li adj order n).2
 | 0=>uZ.start adj (by cases order with | nil=>exact absurd rfl h | cons a r=>exact am)
 | n+1=>by rw [ou];exact (nr sym h n).step sym
noncomputable def vA (adj:Int->Int->Bool) (order:List Int) (a:List Int×Pa):Prop:=(order.filter fun v=>!(a.2.map aJ).contains v && adj (aJ a.1) v)=[]/\a.1.length < 2
theorem wk {adj:Int->Int->Bool}{order:List Int}{a:List Int×Pa} (h:vA adj order a):gS adj order a=a:=by
 unfold gS;rw [h.1];dsimp only;rw [if_pos h.2]
set_option tactic.hygienic true in
theorem Gb {adj:Int->Int->Bool}{order:List Int}{a:List Int×Pa}:vA adj order a\/2 * (gS adj order a).2.length+a.1.length=2 * a.2.length+1+(gS adj order a).1.length:=by
 by_cases h:vA adj order a
 ·exact .inl h
 ·right
  unfold gS;split
  ·dsimp only;rw [ak,ak,bd,bd];exact id (pn [_,_] 0x2DAA181A184C028A14CA18028)
  ·rename_i hf
   split
   ·rename_i hl;exact absurd ⟨hf,hl⟩ h
   ·rename_i hl;dsimp only;rw [dq];exact id ((pn [_,_] 0x2DAB180A184C128A04C1282F1D280) hl)
theorem uI (adj:Int->Int->Bool) (order:List Int):∀ n,vA adj order (li adj order n)\/2 * (li adj order n).2.length=n+1+(li adj order n).1.length
 | 0=>.inr rfl
 | n+1=>by
  rw [ou];rcases uI adj order n with h | h
  ·left;rw [wk h];exact h
  ·rcases Gb (adj:=adj) (order:=order) (a:=li adj order n) with h' | h'
   ·left;rw [wk h'];exact h'
   ·right;exact id ((pn [_,_,_,_,_] 0x2DA4A18A1814C3282DA4A184C028A24C3282DA2A1814C028) h h')
theorem xZ {adj:Int->Int->Bool} (sym:∀ u v,adj u v=adj v u) {order:List Int} (h:order≠[]) (h6:order.length<=6):vA adj order (li adj order 11):=by
 rcases uI adj order 11 with h' | h'
 ·exact h'
 ·exfalso
  have I:=nr sym h 11;have hl:((li adj order 11).2.map aJ).length<=order.length:=fV I.nd fun x hx=>by
   refine bO (aB.mp hx) ?_;rintro p hp rfl;exact I.ord p hp
  rw [aa] at hl
  have:=eR.mpr (I.ne _ I.here)
  exact id ((pn [_,_,_] 0x2F1D2080D012DA2A18B84C1280D680) h6 h' hl this)
end
end Mine
end
section
namespace Mine
noncomputable section
noncomputable def o5 (pc:Int->List Nat) (p:List Int):List Nat:=p.dropLast.flatMap pc
noncomputable def bW (pc:Int->List Nat) (P:Pa):List (Int×Str):=P.map fun p=>(aJ p,sl (o5 pc p))
noncomputable def ic (P:Pa):ID:=(P.drop 1).map fun p=>(aJ p,aJ p.dropLast)
theorem Ao (pc:Int->List Nat) (P:Pa) (v:Int):(gB (bW pc P) v).isSome=(P.map aJ).contains v:=by
 unfold gB bW;rw [bC,dE,fL,bQ];constructor
 ·rintro ⟨q,hq,e⟩
  refine bO (aB.mp hq) ?_;rintro p hp rfl;exact aB.mpr ⟨p,hp,of_decide_eq_true e⟩
 ·intro h
  refine bO (aB.mp h) ?_;rintro p hp rfl;exact ⟨_,b5 hp,decide_eq_true rfl⟩
theorem qZ {T:eA}{order:List Int}{pieces:List (Int×Str)}{pc:Int->List Nat} (sym:∀ u v,c0 T u v=c0 T v u) (h0:order≠[]) (hp:∀ v∈order,gB pieces v=some (sl (pc v))):∀ n,
  j4 T order pieces n=((li (c0 T) order n).1,bW pc (li (c0 T) order n).2,ic (li (c0 T) order n).2)
 | 0=>rfl
 | n+1=>by
  have e:j4 T order pieces (n+1)=oO T order pieces (j4 T order pieces n):=by
   unfold j4;rw [g9,dB];rfl
  rw [e,qZ sym h0 hp n,ou];have I:=nr sym h0 n;generalize li (c0 T) order n=a at I;obtain ⟨road,P⟩:=a;dsimp only at I ⊢;unfold oO gS;dsimp only;simp only [Ao];show (match order.filter fun v=>!(P.map aJ).contains v && c0 T (aJ road) v with | v::_=>_ | []=>_)=_;generalize (order.filter fun v=>!(P.map aJ).contains v && c0 T (aJ road) v)=fr
  cases fr with
  | cons v rest=>
   have hroad:=I.ne _ I.here;have hr:=I.here;have hnd:((bW pc P).map (·.1)).Nodup:=by unfold bW;rw [ao];exact I.nd
   have e1:gB (bW pc P) (road.getLastD 0)=some (sl (o5 pc road)):=fY (p:=(aJ road,sl (o5 pc road))) hnd (b5 (f:=fun p=>(aJ p,sl (o5 pc p))) hr);have e2:gB pieces (road.getLastD 0)=some (sl (pc (aJ road))):=hp _ (I.ord _ hr);rw [e1,e2];have e3:sl (o5 pc road)++sl (pc (aJ road))=sl (o5 pc (road++[v])):=by
    rw [mZ];unfold o5;rw [ei];congr 1
    conv=>rhs;rw [<- dd hroad]
    rw [kq];simp
   have hP:1<=P.length:=List.length_pos_of_mem hr;refine Prod.ext rfl (Prod.ext ?_ ?_)
   ·show bW pc P++[(v,sl (o5 pc road)++sl (pc (aJ road)))]=bW pc (P++[road++[v]])
    rw [e3];unfold bW;rw [aN];show _=_++[(aJ (road++[v]),_)];rw [fg]
   ·show ic P++[(v,aJ road)]=ic (P++[road++[v]])
    unfold ic;rw [List.drop_append_of_le_length hP,aN];show _=_++[(aJ (road++[v]),aJ (road++[v]).dropLast)];rw [fg,ei]
  | nil=>
   show (if road.length < 2 then _ else _)=((if road.length < 2 then (road,P) else (road.dropLast,P)).1,bW pc (if road.length < 2 then (road,P) else (road.dropLast,P)).2,ic (if road.length < 2 then (road,P) else (road.dropLast,P)).2);split<;>rfl
structure jV (adj:Int->Int->Bool) (order:List Int) (r0:Int) (P:Pa):Prop where
 first:P.head?=some [r0]
 ne:∀ p∈P,p≠[]
 up:∀ p∈P,2<=p.length->p.dropLast∈P
 nd:(P.map aJ).Nodup
 ord:∀ p∈P,aJ p∈order
 all:∀ v∈order,v∈P.map aJ
 chain:∀ i,(h:i+1 < P.length)->P[i+1].dropLast <+: P[i]
 tre:∀ i k,(hi:i < P.length)->(hk:k < P.length)->i < k->adj (aJ P[i]) (aJ P[k])=true->aJ P[i]∈P[k]
 tadj:∀ p∈P,2<=p.length->adj (aJ p.dropLast) (aJ p)=true
 two:∀ i,(h:i+1 < P.length)->2<=P[i+1].length
theorem Eb {T:eA} (ok:rY T) {order:List Int} (ho:order.Perm ah):jV (c0 T) order (order.headD 0) (li (c0 T) order 11).2:=by
 have sym:∀ u v,c0 T u v=c0 T v u:=fun u v=>by unfold c0;rw [Bool.or_comm]
 have h6:order.length=6:=ho.length_eq;have h0:order≠[]:=by intro e;rw [e] at h6;cases h6
 have I:=nr sym h0 11;refine xA (xZ sym h0 (by exact id ((pn [_] 0x0D6802D680) h6))) ?_;intro s1 s2;generalize li (c0 T) order 11=a at I s1 s2;obtain ⟨road,P⟩:=a;dsimp only at I s1 s2 ⊢;refine ⟨I.first,I.ne,I.up,I.nd,I.ord,?_,I.chain,I.tre,I.tadj,I.two⟩;have hr:=I.ne _ I.here;have hr1:∃ x,road=[x]:=by
  match road,hr,s2 with
  | [x],_,_=>exact ⟨x,rfl⟩
  | _::_::_,_,h=>simp at h;lia
 refine xE hr1 ?_;clear hr1;rintro x rfl;have closed:∀ u∈P.map aJ,∀ v∈order,c0 T u v=true->v∈P.map aJ:=by
  intro u hu v hv ha;refine bO (aB.mp hu) ?_;rintro p hp rfl;by_cases hx:aJ p∈[x]
  ·have hx:aJ p=x:=ae.mp hx
   refine Classical.byContradiction fun hc=>?_
   have:v∈order.filter fun v=>!(P.map aJ).contains v && c0 T (aJ [x]) v:=by
    refine aT.mpr ⟨hv,?_⟩;have hc':(P.map aJ).contains v=false:=by
     cases hcc:(P.map aJ).contains v with
     | false=>rfl
     | true=>exact absurd (bQ.mp hcc) hc
    rw [hc'];rw [hx] at ha;exact ha
   rw [s1] at this;cases this
  ·exact I.closed p hp hx v hv ha
 have mem:∀ v,v∈order↔v∈ah:=fun v=>ho.mem_iff;have edge:∀ v∈ah,v≠0->∃ u∈ah,u < v/\c0 T v u=true:=by
  intro v hv hv0;refine fw (ok.conn v hv hv0) ?_;intro u hu hlt hg;refine ⟨u,hu,hlt,?_⟩;unfold c0;rw [(ok.row hv).1];show ((gI (cF T v) u).isSome || _)=true;rw [hg];rfl
 have nn:∀ v∈ah,0<=v:=by decide
 have down:∀ n:Nat,∀ v∈ah,v.toNat<=n->v∈P.map aJ->(0:Int)∈P.map aJ:=by
  intro n
  induction n with
  | zero=>
   intro v hv hn hm
   have:=nn v hv
   have:v=0:=by exact id ((pz [] [_] 0x2E0800E0080D082C0) hn this)
   exact this ▸ hm
  | succ n ih=>
   intro v hv hn hm;by_cases h:v=0
   ·exact h ▸ hm
   ·refine fw (edge v hv h) ?_;intro u hu hlt ha
    have:=nn u hu
    exact ih u hu (by exact id ((pz [_] [_,_] 0x0D02C11E012F2E0800DA1802C0) hn h hlt)) (closed v hm u ((mem u).mpr hu) ha)
 have zero:(0:Int)∈P.map aJ:=by
  have hx:aJ [x]∈P.map aJ:=b5 I.here;have hxn:aJ [x]∈ah:=(mem _).mp (I.ord _ I.here);exact down _ _ hxn (aE _) hx
 have upw:∀ n:Nat,∀ v∈ah,v.toNat<=n->v∈P.map aJ:=by
  intro n
  induction n with
  | zero=>
   intro v hv hn
   have:=nn v hv
   have:v=0:=by exact id ((pz [] [_] 0x2E0800E0080D082C0) hn this)
   exact this ▸ zero
  | succ n ih=>
   intro v hv hn;by_cases h:v=0
   ·exact h ▸ zero
   ·refine fw (edge v hv h) ?_;intro u hu hlt ha
    have:=nn u hu
    rw [sym] at ha;exact closed u (ih u hu (by exact id ((pz [_] [_,_] 0x0D02C11E012F2E0800DA1802C0) hn h hlt))) v ((mem v).mpr hv) ha
 exact fun v hv=>upw _ v ((mem v).mp hv) (aE _)
end
end Mine
end
section
namespace Mine
noncomputable section
theorem AQ (st:WS) (x ts:Nat) (hx:x=32\/x=9) (h:1<=ts):eY st ts < eY (bE [x] st) ts:=by
 obtain ⟨count,b,n,nt⟩:=st;rcases hx with rfl | rfl
 ·show eY (count,b,n,nt) ts < eY (count,b+1,n+1,nt) ts
  unfold eY;dsimp only;exact id (pn [_,_] 0x1DA1A180A10)
 ·show eY (count,b,n,nt) ts < eY (ee count b,0,n+1,nt+1) ts
  unfold eY;dsimp only;rw [zc];have hdm:=Nat.div_add_mod b ts;have hm:b % ts < ts:=a5 _ (by exact id ((pn [_] 0x1D0080D018) h));rw [show ts * (r9 count ts+b / ts+(nt+1))=ts * (r9 count ts+nt)+ts * (b / ts)+ts from by rw [<- Nat.mul_add,<- Nat.mul_succ];congr 1;exact id (pn [_,_,_] 0x2DA18A1A20AA182A10)];exact id ((pn [_,_,_,_,_] 0x1DAA3A0408A421D312D2A10) hdm hm)
theorem yX (ts:Nat) (h:1<=ts):∀ (r:List Nat) (st:WS),(∀ x∈r,x=32\/x=9)->eY st ts<=eY (bE r st) ts/\(r≠[]->eY st ts < eY (bE r st) ts)
 | [],(count,b,n,nt),_=>⟨aE _,fun h=>absurd rfl h⟩
 | x::r,st,hr=>by
  have e:bE (x::r) st=bE r (bE [x] st):=j6 [x] r st fun y hy=>by rcases ae.mp hy with rfl;exact hr y am
  have h1:=AQ st x ts (hr x am) h;have h2:=(yX ts h r (bE [x] st) fun y hy=>hr y (ai _ hy)).1;rw [e];exact ⟨by exact id ((pn [_,_,_] 0x0D200D211D10) h1 h2),fun J=>by exact id ((pn [_,_,_] 0x1D200D211D10) h1 h2)⟩
theorem wP:∀ (r:List Nat) (st:WS),(∀ x∈r,x=32\/x=9)->st.2.2.2<=(bE r st).2.2.2
 | [],(count,b,n,nt),_=>aE _
 | x::r,(count,b,n,nt),hr=>by
  have hr':=fun y hy=>hr y (ai x hy);rw [bE];rcases hr x am with rfl | rfl
  ·rw [if_pos rfl];exact wP r (count,b+1,n+1,nt) hr'
  ·rw [if_neg (by decide),if_pos rfl];have:=wP r (ee count b,0,n+1,nt+1) hr';dsimp only at this ⊢;exact id ((pn [_,_] 0x0D100D1A180) this)
theorem Dy {l r:List Nat} (hl:∀ x∈l,x=32\/x=9) (hr:∀ x∈r,x=32\/x=9) (h:r≠[]):gD (lj l) (lj (l++r))=true:=by
 have e:lj (l++r)=bE r (lj l):=j6 l r _ hl;have n1:=iQ l ([],0,0,0) hl;have n2:=iQ r (lj l) hr;have hlen:=eR.mpr h;rw [e];unfold gD;rw [n2,if_neg (by exact id ((pn [_,_] 0x2F0D1A011D008) hlen))];split
 ·exact decide_eq_true (wP r _ hr)
 ·rw [bo]
  intro i _;exact decide_eq_true ((yX (2+i) (by exact id (pn [_] 0x0DA02818)) r _ hr).2 h)
theorem D4 {l m:List Nat} (hl:∀ x∈l,x=32\/x=9) (hm:∀ x∈m,x=32\/x=9) (h:m.length<=l.length):gD (lj l) (lj m)=false:=by
 have n1:(lj l).2.2.1=0+l.length:=iQ l ([],0,0,0) hl;have n2:(lj m).2.2.1=0+m.length:=iQ m ([],0,0,0) hm;unfold gD;rw [n1,n2,if_pos (by exact id ((pn [_,_] 0x0DA108A0080D10) h))]
section
variable {adj:Int->Int->Bool}{order:List Int}{r0:Int}{P:Pa}
theorem jV.inj (t:jV adj order r0 P) {i k:Nat} (hi:i < P.length) (hk:k < P.length) (e:aJ P[i]=aJ P[k]):i=k:=by
 rcases Nat.lt_trichotomy i k with h | h | h
 ·exact absurd (by rw [eX,eX];exact e) (ln.mp t.nd i k (by simpa using hi) (by simpa using hk) h)
 ·exact h
 ·exact absurd (by rw [eX,eX];exact e.symm) (ln.mp t.nd k i (by simpa using hk) (by simpa using hi) h)
theorem t6 {a b c:List Int} (h1:a <+: c) (h2:b <+: c):a <+: b\/b <+: a:=by
 rcases ku a.length b.length with h | h
 ·exact .inl (List.prefix_of_prefix_length_le h1 h2 h)
 ·exact .inr (List.prefix_of_prefix_length_le h2 h1 h)
theorem n9 {a b:List Int} (h:a <+: b) (hn:a≠b):a <+: b.dropLast:=by
 refine xE h ?_;clear h;rintro t rfl;have ht:t≠[]:=fun e=>hn (by rw [e,fm]);refine ⟨t.dropLast,?_⟩;rw [List.dropLast_append_of_ne_nil ht]
theorem jV.path (t:jV adj order r0 P):∀ k (hk:k < P.length),P[k].Nodup/\∀ x∈P[k],∃ m,∃ hm:m < P.length,m<=k/\aJ P[m]=x/\P[m] <+: P[k]
 | 0,hk=>by
  have e:P[0]=[r0]:=by have:=t.first;rw [nj,av hk] at this;injection this
  refine ⟨by rw [e];simp,fun x hx=>?_⟩;rw [e] at hx;exact ⟨0,hk,aE _,by rw [e];rcases ae.mp hx with rfl;rfl,jv _⟩
 | k+1,hk=>by
  refine xA (t.path k (by exact id ((pn [_,_] 0x1D101D1A180) hk))) ?_;intro h1 h2;have hc:=t.chain k hk;have hs:=dd (t.ne _ (aY hk));have hnot:aJ P[k+1] ∉ P[k]:=by
   intro hm;obtain ⟨m,hm,hmk,e,_⟩:=h2 _ hm
   have:=t.inj hm hk e
   exact id ((pn [_,_] 0x2F2DA18100D10) hmk this)
  refine ⟨?_,fun x hx=>?_⟩
  ·rw [<- hs]
   refine bq.mpr ⟨List.Nodup.sublist hc.sublist h1,by simp,?_⟩;intro a ha b hb e;rcases ae.mp hb with rfl
   exact hnot (e ▸ hc.subset ha)
  ·rw [<- hs] at hx
   rcases aM.mp hx with hx | hx
   ·obtain ⟨m,hm,hmk,e,hp⟩:=h2 x (hc.subset hx)
    refine ⟨m,hm,by exact id ((pn [_,_] 0x0DA18100D10) hmk),e,?_⟩;rcases t6 hp hc with hq | hq
    ·exact List.IsPrefix.trans hq (pB _)
    ·by_cases he:P[k+1].dropLast=P[m]
     ·rw [<- he];exact pB _
     ·exfalso
      have h3:=n9 hq he;have h4:=(t.path m (by exact id ((pn [_,_,_] 0x1D120D021D1A180) hk hmk))).1;rw [<- dd (t.ne _ (aY hm)),e] at h4;exact (bq.mp h4).2.2 x (h3.subset hx) x (ae.mpr rfl) rfl
   ·rcases ae.mp hx with rfl
    exact ⟨k+1,hk,aE _,rfl,jv _⟩
theorem jV.pre (t:jV adj order r0 P) {i k:Nat} (hi:i < P.length) (hk:k < P.length) (h:aJ P[i]∈P[k]):i<=k/\P[i] <+: P[k]:=by
 obtain ⟨m,hm,hmk,e,hp⟩:=(t.path k hk).2 _ h
 have:=t.inj hm hi e
 subst this;exact ⟨hmk,hp⟩
theorem jV.gone (t:jV adj order r0 P) {i:Nat} (hi:i < P.length):∀ d k,i < k->(hk:k+d < P.length)->aJ P[i] ∉ P[k]->aJ P[i] ∉ P[k+d]
 | 0,k,_,_,h=>h
 | d+1,k,hik,hk,h=>by
  have ih:=t.gone hi d k hik (by exact id ((pn [_,_,_] 0x1D2A101D2AA1810) hk)) h;intro hm;have hs:=dd (t.ne _ (aY hk));rw [<- hs] at hm;rcases aM.mp hm with hm | hm
  ·exact ih ((t.chain (k+d) hk).subset hm)
  ·have:=t.inj hi hk (ae.mp hm)
   exact id ((pn [_,_,_] 0x2F2DAA182101D10) hik this)
theorem wl:∀ (bs cs:List Bool),bs.length=cs.length->(∀ j,j < cs.length->(∀ k,k < j->cs[k]?=some true)->bs[j]?=cs[j]?)->lL bs=lL cs
 | [],[],_,_=>rfl
 | b::bs,c::cs,hl,h=>by
  have h0:=h 0 (by simp) (fun k hk=>by lia);have h0:b=c:=by simpa using h0
  subst h0
  cases b with
  | false=>rfl
  | true=>
   have:=wl bs cs (by simpa using hl) fun j hj hk=>by
    have:=h (j+1) (by simpa using hj) fun k hk'=>by
     cases k with
     | zero=>rfl
     | succ k=>simpa using hk k (by exact id ((pn [_,_] 0x1D101DA181A180) hk'))
    simpa using this
   show (true::bs.takeWhile id).length=(true::cs.takeWhile id).length;rw [aD,aD];show lL bs+1=lL cs+1;rw [this]
 | [],_::_,hl,_=>by simp at hl
 | _::_,[],hl,_=>by simp at hl
theorem wC {α:Type} (f:α->Bool):∀ (l:List α),l.take (lL (l.map f))=l.takeWhile f
 | []=>rfl
 | a::l=>by
  unfold lL;rw [aw,List.takeWhile_cons,List.takeWhile_cons]
  cases h:f a with
  | false=>simp
  | true=>
   have:=wC f l
   unfold lL at this;simp [this]
theorem nk {α:Type} (f:α->Bool):∀ (l:List α),(∀ i k,(hi:i < l.length)->(hk:k < l.length)->i < k->f l[i]=false->f l[k]=false)->l.takeWhile f=l.filter f
 | [],_=>rfl
 | a::l,h=>by
  cases hf:f a with
  | false=>
   rw [List.takeWhile_cons_of_neg (by simp [hf]),aU (by simp [hf])];refine (bL.mpr fun x hx=>?_).symm;obtain ⟨k,hk,rfl⟩:=a7.mp hx
   have:=h 0 (k+1) (by simp) (by simpa using hk) (by exact id (pn [_] 0x1DA18008)) hf
   simpa using this
  | true=>
   rw [List.takeWhile_cons_of_pos hf,aZ hf,nk f l fun i k hi hk hik e=>by
    have:=h (i+1) (k+1) (by simpa using hi) (by simpa using hk) (by exact id ((pn [_,_] 0x1DA181A1801D10) hik)) (by simpa using e)
    simpa using this]
structure Dm (pc:Int->List Nat) (order:List Int):Prop where
 ne:∀ v∈order,pc v≠[]
 le:∀ v∈order,(pc v).length<=2
 ok:∀ v∈order,∀ x∈pc v,x=32\/x=9
theorem jV.sub (t:jV adj order r0 P) {p:List Int} (hp:p∈P):∀ x∈p,x∈order:=by
 intro x hx;obtain ⟨k,hk,rfl⟩:=a7.mp hp;obtain ⟨m,hm,_,e,_⟩:=(t.path k hk).2 x hx;rw [<- e];exact t.ord _ (aY hm)
theorem jV.ldok (t:jV adj order r0 P) {pc:Int->List Nat} (po:Dm pc order) {p:List Int} (hp:p∈P):∀ x∈o5 pc p,x=32\/x=9:=by
 intro x hx;unfold o5 at hx;refine bO (mH.mp hx) ?_;intro v hv hx;exact po.ok v (t.sub hp v (cb _ hv)) x hx
noncomputable def gh (P:Pa) (x:Int):List Int:=(P.filter fun q=>q.contains x).map aJ
theorem oQ {q:List Int}{x:Int}:q.contains x=decide (x∈q):=by
 rw [dE,bQ,decide_eq_true_eq]
theorem jV.lt (t:jV adj order r0 P) {pc:Int->List Nat} (po:Dm pc order) {i k:Nat} (hi:i < P.length) (hk:k < P.length) (hik:i < k) (hb:∀ k',i < k'->(h:k' < k)->aJ P[i]∈P[k']) :
  gD (lj (o5 pc P[i])) (lj (o5 pc P[k]))=P[k].contains (aJ P[i]):=by
 have okI:=t.ldok po (aY hi);have okK:=t.ldok po (aY hk);rw [oQ];by_cases hm:aJ P[i]∈P[k]
 ·rw [decide_eq_true hm]
  have hp:=(t.pre hi hk hm).2;have hne:P[i]≠P[k]:=fun e=>by have:=t.inj hi hk (by rw [e]);exact id ((pn [_,_] 0x2F2D101D10) hik this)
  refine xE (n9 hp hne) ?_;intro r hr;have e:o5 pc P[k]=o5 pc P[i]++(pc (aJ P[i])++r.flatMap pc):=by
   unfold o5;rw [<- hr]
   conv=>lhs;rw [<- dd (t.ne _ (aY hi))]
   rw [kq,kq,bp];simp
  rw [e] at okK ⊢;refine Dy okI (fun x hx=>okK x (b6 _ hx)) ?_;intro e0;exact po.ne _ (t.ord _ (aY hi)) (List.append_eq_nil_iff.mp e0).1
 ·rw [decide_eq_false hm]
  refine D4 okI okK ?_;obtain ⟨k,rfl⟩:∃ k',k=k'+1:=⟨k - 1,by exact id ((pn [_,_] 0x2DA18B18111D10) hik)⟩;have hx:P[i] <+: P[k]:=by
   by_cases hik':i=k
   ·subst hik';exact jv _
   ·exact (t.pre hi (by exact id ((pn [_,_] 0x1D101D1A180) hk)) (hb k (by exact id ((pn [_,_] 0x1D102F2D101DA1810) hik hik')) (by exact id (pn [_] 0x1DA1800)))).2
  have hc:=t.chain k hk;have hpre:P[k+1].dropLast <+: P[i].dropLast:=by
   rcases t6 hx hc with h | h
   ·exact absurd (cb _ (h.subset (g6 (t.ne _ (aY hi))))) hm
   ·refine n9 h fun e=>hm ?_
    have:=g6 (t.ne _ (aY hi))
    rw [<- e] at this;exact cb _ (by rw [e] at this ⊢;exact this)
  refine xE hpre ?_;clear hpre;intro r hr;unfold o5;rw [<- hr,kq,ak];exact id ((pn [_,_,_,_] 0x0DA3221D1A180) hk)
theorem Hf {l:List Nat} (h:∀ x∈l,x=32\/x=9):sf (sl l++"x")=lj l:=by
 show bE (sl l++"x").cps.toList _=_;rw [jG];show bE (l++(120::[])) _=_;rw [kZ h rfl]
theorem jV.blocks (t:jV adj order r0 P) {pc:Int->List Nat} (po:Dm pc order):lU (bW pc P)=P.map fun p=>(aJ p,gh P (aJ p)):=by
 have hkeys:(bW pc P).map (·.1)=P.map aJ:=by unfold bW;rw [ao];rfl
 have hlen:(bW pc P).length=P.length:=by unfold bW;rw [aa]
 unfold lU;rw [hlen,hkeys];refine List.ext_getElem (by simp) fun i h1 h2=>?_;have hi:i < P.length:=by simpa using h1
 rw [eX,eX,List.getElem_range];have e1:(P.map aJ).getD i 0=aJ P[i]:=by rw [aq,aK,av hi];rfl
 rw [e1];congr 1;unfold pf;rw [hkeys,hlen]
 let x:=aJ P[i]
 have hlt:∀ k,k < P.length->ge (zw (bW pc P)) i k=gD (lj (o5 pc P[i])) (lj (o5 pc (P.getD k []))):=by
  intro k hk;have e:∀ k,(hk:k < P.length)->((zw (bW pc P)).getD k default).2=lj (o5 pc P[k]):=by
   intro k hk;unfold zw bW;rw [ao,aq,aK,av hk];show sf (sl (o5 pc P[k])++"x")=_;exact Hf (t.ldok po (aY hk))
  unfold ge;rw [e i hi,e k hk,aq,av hk];rfl
 have hrun:lL ((ax (P.length - (i+1))).map fun j=>ge (zw (bW pc P)) i (i+1+j))=lL ((P.drop (i+1)).map fun q=>q.contains x):=by
  refine wl _ _ (by simp) fun j hj hk=>?_;have hj:j < P.length - (i+1):=by simpa using hj
  have hjP:i+1+j < P.length:=by exact id ((pn [_,_,_] 0x1D1A2A1801DBA180121D10) hi hj)
  rw [aK,List.getElem?_range (by exact id ((pn [_,_,_] 0x1DBA182101DBA18210) hj)),aK,List.getElem?_drop,av hjP];show some (ge _ i (i+1+j))=some (P[i+1+j].contains x);congr 1;rw [hlt _ hjP,aq,av hjP];refine t.lt po hi hjP (by exact id (pn [_,_] 0x1DA1A1800)) fun k' h1 h2=>?_
  have:=hk (k' - (i+1)) (by exact id ((pn [_,_,_] 0x1D2BA18011DA2A18011D10) h1 h2))
  rw [aK,List.getElem?_drop,show i+1+(k' - (i+1))=k' from by exact id ((pn [_,_] 0x2D1ABA1801A1801D10) h1),av (by exact id ((pn [_,_,_,_] 0x1D231DA1A18031D2A1A180) hjP h2))] at this;have this:some (P[k'].contains x)=some true:=this
  injection this with this
  exact bQ.mp this
 rw [hrun];unfold gh;have hsplit:P=P.take i++(P[i]::P.drop (i+1)):=by rw [List.getElem_cons_drop,List.take_append_drop]
 have hf0:(P.take i).filter (fun q=>q.contains x)=[]:=by
  refine bL.mpr fun q hq=>?_;obtain ⟨k,hk,rfl⟩:=a7.mp hq;rw [cQ] at hk;rw [List.getElem_take];intro hc
  have:=(t.pre hi (by exact id ((pn [_,_,_] 0x1D121D0C1021D10) hi hk):k < P.length) (bQ.mp hc)).1
  exact id ((pn [_,_,_] 0x2F0D201D0C1021D10) hi hk this)
 have hfi:(fun q:List Int=>q.contains x) P[i]=true:=bQ.mpr (g6 (t.ne _ (aY hi)));have hfr:(P.drop (i+1)).filter (fun q=>q.contains x)=(P.drop (i+1)).take (lL ((P.drop (i+1)).map fun q=>q.contains x)):=by
  rw [wC,nk];intro a b ha hb hab e;rw [df] at ha hb;rw [List.getElem_drop] at e ⊢;rw [oQ] at e ⊢;have e:=of_decide_eq_false e
  have:=t.gone hi (b - a) (i+1+a) (by exact id (pn [_,_] 0x1DA1A1800)) (by exact id ((pn [_,_,_,_] 0x1D1AB03A0A1821D301DBA182131DBA18210) ha hb hab)) e
  refine decide_eq_false ?_;have h2:i+1+a+(b - a)=i+1+b:=by exact id ((pn [_,_,_] 0x2DA1A182AB01A0A1821D10) hab)
  simp only [h2] at this;exact this
 have hF:P.filter (fun q=>q.contains x)=P[i]::(P.drop (i+1)).take (lL ((P.drop (i+1)).map fun q=>q.contains x)):=by
  conv=>lhs;rw [hsplit]
  rw [List.filter_append,hf0,fq,aZ (p:=fun q:List Int=>q.contains x) hfi,hfr]
 rw [hF,<- List.map_drop];have hd:P.drop i=P[i]::P.drop (i+1):=(List.getElem_cons_drop ..).symm;rw [<- List.map_take,hd,Nat.add_comm 1,List.take_succ_cons]
end
end
end Mine
end
section
namespace Mine
noncomputable section
theorem wG {o:cV}{W:List Str}{n:Nat}{sc:Sc}{σ aI:SE}{ts:List Expr}{f:Str}{as:List Expr}{c:Nat}{q q' q'' p:Pos}{xs:List Str}{ps:List PV} (hn:c8 ts=some xs) (hw:xs.any W.contains=false) (hv:ev o n sc σ (.Call (.Name f q') as [] q'')=some (.tup ps)) (hl:xs.length=ps.length) (hb:dn sc xs ps σ=some aI) :
  ex o W (n+1) sc σ (.Assign [.Tuple ts c q] (.Call (.Name f q') as [] q'') p)=some (.next,aI):=by
 have e:Ee W (ev o n sc σ) sc σ ts (.Call (.Name f q') as [] q'')=some aI:=(dp hn).trans ((ll (by rw [hw];rfl)).trans ((dp hv).trans ((dp (a:=ps) rfl).trans ((if_pos hl).trans hb))));exact congrArg (ca lg) e
theorem At {o:cV}{n:Nat}{sc:Sc}{σ:SE}{t a:Expr}{f:Str}{q p:Pos}{v:PV} (h1:(f == ("range":Str))=false) (h2:(f == ("enumerate":Str))=false) (h3:(f == ("zip":Str))=false) (h:ev o n sc σ (.Call (.Name f q) [a] [] p)=some v):evI o (n+1) sc σ t (.Call (.Name f q) [a] [] p)=mM t v:=by
 have hk:nJ sc σ (.Call (.Name f q) [a] [] p)=none:=by
  show gd (cU sc σ f && (f == ("range":Str) || f == ("enumerate":Str) || f == ("zip":Str))) _=none;rw [h1,h2,h3];cases cU sc σ f<;>rfl
 show gd true _=_;rw [hk];exact dp h
theorem wV (l:List (Int×Int)):oi (l.map vM)=some l:=by
 induction l with
 | nil=>rfl
 | cons p l ih=>rw [aw];exact i4 (a:=p) rfl ih
noncomputable def iG (c:Nat->Nat) (T:eA):List (Int×Int):=ah.map (lh c T)
noncomputable def r7 (c:Nat->Nat) (T:eA):List Int:=(fO (iG c T)).map fun i=>ah.getD i 0
theorem u3 (c:Nat->Nat) (T:eA):(r7 c T).Perm ah:=by
 have h:=(lC (ps:=iG c T) rfl).map fun i=>ah.getD i 0;exact h
noncomputable def IA (j:Nat->PV) (c:Nat->Nat) (T:eA) (order:List Int):SE:=G2 j c T++[nm "order" (aL order)]
theorem II {j:Nat->PV}{c:Nat->Nat}{T:eA}{n:Nat}:ex o3 [] (n+60) lT (G2 j c T) (fX 22)=some (.next,IA j c T (r7 c T)):=by
 conv=>lhs;arg 6;whnf
 have hsl:(fO (iG c T)).length=6:=(lC (ps:=iG c T) rfl).length_eq;have hmem:∀ i∈fO (iG c T),i < 6:=fun i hi=>dT.mp ((lC (ps:=iG c T) rfl).mem_iff.mp hi);have hsort:o3.bi "sorted" [.lst (ah.map fun v=>vM (lh c T v))]=some (.lst ((fO (iG c T)).map fun i=>vM ((iG c T).getD i (0,0)))):=by
  show (match oi (ah.map fun v=>vM (lh c T v)) with | some ps=>if ps.length < 64 then some (PV.lst (vL ps)) else none | none=>none)=_;have e:(ah.map fun v=>vM (lh c T v))=(iG c T).map vM:=by unfold iG;rw [ao];rfl
  rw [e,wV];dsimp only;rw [if_pos (by unfold iG ah;simp)];rfl
 generalize hS:fO (iG c T)=S at hsl hmem hsort;have hord:r7 c T=S.map fun i=>ah.getD i 0:=by unfold r7;rw [hS]
 rw [hord];refine (bm (u:=aL (S.map fun i=>ah.getD i 0)) (by rfl) ?_).trans (by kernel_rfl);refine (bw (items:=S.map fun i=>vM ((iG c T).getD i (0,0))) (rs:=(S.filter fun J=>true).map fun i=>(.none,.int (ah.getD i 0))) (by kernel_rfl) ?_ ?_ ?_).trans ?_
 ·refine (At (by rfl) (by rfl) (by rfl) (b7 (by kernel_rfl) (by kernel_rfl) hsort)).trans ?_
  exact if_pos (by rw [aa];exact id ((pn [_] 0x0D1000003902D680) hsl))
 ·refine bx (fun J=>true) (fun i=>.int (ah.getD i 0)) (fun i=>vM ((iG c T).getD i (0,0))) 30 (by kernel_rfl) S _ ?_ ?_
  ·exact id ((pn [_,_] 0x0DA3A191A18A01E192D680) hsl)
  ·intro i m hi
   have hi:=hmem i hi;refine ⟨[nm "ways" (aL [kW c 1,kW c 2]),nm "key" (vM ((iG c T).getD i (0,0)))],by kernel_rfl,by rfl,fun J=>?_⟩;have ek:(iG c T).getD i (0,0)=lh c T (ah.getD i 0):=by
    rcases (show i=0\/i=1\/i=2\/i=3\/i=4\/i=5 by exact id ((pn [_] 0x1F1F1F1F1F2D5802D4802D3802D2802D1802D0801D680) hi)) with rfl | rfl | rfl | rfl | rfl | rfl<;>rfl
   rw [ek];refine aW (a:=.int (kW c 2)) (b:=.int (kW c 2 * ah.getD i 0)) (by rfl) (by rfl) ?_;rw [tI (lw c 2)];rcases lw c 2 with h | h<;>rw [h]<;>congr 2<;>lia
 ·rw [aa];have:=aF (fun (_:Nat)=>true) S;exact id ((pn [_,_] 0x0D1000003910D012D680) hsl this)
 ·rw [bS.mpr (fun J J=>rfl),ao]
  show some (PV.lst _)=some (PV.lst ((S.map _).map _));rw [ao];rfl
noncomputable def GU (k:Nat):List Nat:=[[32],[9],[32,32],[32,9]].getD k []
noncomputable def DR (c:Nat->Nat) (v:Int):List Nat:=GU (c 5 / 8 / 4 ^ (if v=0 then 0 else (v - 255).toNat) % 4)
noncomputable def GA (c:Nat->Nat):List (Int×Str):=ah.map fun v=>(v,sl (DR c v))
theorem w8 (k:Nat) (h:k < 4):GU k≠[]/\(GU k).length<=2/\∀ x∈GU k,x=32\/x=9:=by
 rcases (show k=0\/k=1\/k=2\/k=3 by exact id ((pn [_] 0x1F1F1F2D3802D2802D1802D0801D480) h)) with rfl | rfl | rfl | rfl<;>decide
theorem Fs (c:Nat->Nat) (order:List Int):Dm (DR c) order:=
 ⟨fun v J=>(w8 _ (a5 _ (by exact id (pn [] 0x1D4808)))).1,fun v J=>(w8 _ (a5 _ (by exact id (pn [] 0x1D4808)))).2.1,fun v J=>(w8 _ (a5 _ (by exact id (pn [] 0x1D4808)))).2.2⟩
theorem zN {t:eA}{order:List Int}{pieces:List (Int×Str)} (h0:order≠[]) (hl:order.length<=10) (ht:∀ v∈order,(gB t v).isSome=true) (hp:∀ v∈order,∃ s,gB pieces v=some s/\s.length<=2) :
  o3.fn "_law_walk" [du t,aL order,ie pieces]=some (.tup [ie (j4 t order pieces 11).2.1,bc (j4 t order pieces 11).2.2]):=BV h0 hl ht hp
noncomputable def GB (j:Nat->PV) (v:PV):Nat->PV:=fun k=>if k=1 then v else j k
noncomputable def Iv (j:Nat->PV) (c:Nat->Nat) (T:eA) (order:List Int) (ld:List (Int×Str)) (ow:ID):SE:=IA (GB j (ie ld)) c T order++[nm "owners" (bc ow)]
theorem E4 (i:Nat) (h:i<=100):jW .Pow (.int 4) (.int (i:Int))=some (.int ((4 ^ i:Nat):Int)):=by
 show (if (small 4 && decide ((0:Int)<=(i:Int)) && decide ((i:Int)<=4096))=true then some (PV.int ((4:Int) ^ ((i:Int)).toNat)) else none)=_;rw [if_pos (by simp [small];exact id ((pn [_] 0x0E1000292C00D64190) h)),Int.toNat_natCast];simp
theorem yL (c:Nat->Nat) {v:Int} (hv:v∈ah):gB (GA c) v=some (sl (DR c v)):=by
 simp only [ah,ar,bg,or_false] at hv;rcases hv with rfl | rfl | rfl | rfl | rfl | rfl<;>rfl
theorem IE {j:Nat->PV}{c:Nat->Nat}{T:eA}{n:Nat} (ok:rY T):ex o3 [] (n+60) lT (IA j c T (r7 c T)) (fX 23)=some (.next,Iv j c T (r7 c T) (j4 T (r7 c T) (GA c) 11).2.1 (j4 T (r7 c T) (GA c) 11).2.2):=by
 conv=>lhs;arg 6;whnf
 have hp:=u3 c T;generalize r7 c T=order at hp;have h6:order.length=6:=hp.length_eq;have h0:order≠[]:=by intro e;rw [e] at h6;cases h6
 refine wG (xs:=["leads","owners"]) (ps:=[ie (j4 T order (GA c) 11).2.1,bc (j4 T order (GA c) 11).2.2]) (by rfl) (by rfl) ?_ (by rfl) (by kernel_rfl);refine jn (vs:=[du T,aL order,ie (GA c)]) (by kernel_rfl) (ay (by kernel_rfl) (ay (by kernel_rfl) (ay ?_ a8))) (by rfl) (zN h0 (by exact id ((pn [_] 0x0DA802D680) h6)) (fun v hv=>by rw [(ok.row (hp.mem_iff.mp hv)).1];rfl) (fun v hv=>⟨_,yL c (hp.mem_iff.mp hv),by rw [d5];exact (Fs c order).le v hv⟩));refine (jH (items:=[0,1,2,3,4,5].map fun (i:Nat)=>.tup [.int (i:Int),.int (ah.getD i 0)]) (rs:=([0,1,2,3,4,5].filter fun J=>true).map fun (i:Nat)=>(.int (ah.getD i 0),.str (sl (GU (c 5 / 8 / 4 ^ i % 4))))) (by kernel_rfl) (by kernel_rfl) ?_ (by simp)).trans (by kernel_rfl);refine ij (fun J=>true) (fun i=>.str (sl (GU (c 5 / 8 / 4 ^ i % 4)))) (fun i=>.int (ah.getD i 0)) (fun (i:Nat)=>.tup [.int (i:Int),.int (ah.getD i 0)]) 30 (by kernel_rfl) [0,1,2,3,4,5] _ ?_ ?_
 ·show 30+6+1<=_
  exact id (pn [_] 0x0DA39190A18A681E19)
 ·intro i m hi
  have hi6:i < 6:=by simp at hi;exact id ((pn [_] 0x1D6801F1F1F1F1F2D5802D4802D3802D2802D1802D080) hi)
  refine ⟨[nm "cells" (gj c),nm "spot" (.int (i:Int)),nm "node" (.int (ah.getD i 0))],by kernel_rfl,by rfl,fun J=>⟨?_,by rfl⟩⟩;refine bt (b:=.lst (cI [[32],[9],[32,32],[32,9]])) (k:=.int ((c 5 / 8 / 4 ^ i % 4:Nat):Int)) (by intros;intro h;cases h) (by rfl) (by rfl) ?_ (em ?_ (by decide))
  ·refine aW (a:=.int ((c 5 / 8 / 4 ^ i:Nat):Int)) (b:=.int ((4:Nat):Int)) ?_ (by rfl) (eB (by exact id (pn [] 0x1D4808)))
   show ev _ _ _ _ _=_;have h4:4 ^ i < 4294967296:=Nat.lt_of_lt_of_le (Nat.pow_lt_pow_right (by exact id (pn [] 0x1D4818)) hi6) (by decide);refine aW (a:=.int ((c 5 / 8:Nat):Int)) (b:=.int ((4 ^ i:Nat):Int)) ?_ ?_ (fF (Nat.pow_pos (by exact id (pn [] 0x1D4808))) h4)
   ·show ev _ _ _ _ _=_
    exact aW (a:=.int (c 5:Int)) (b:=.int ((8:Nat):Int)) (by rfl) (by rfl) (fF (by exact id (pn [] 0x1D8808)) (by exact id (pn [] 0x1D01000000005988)))
   ·exact aW (a:=.int 4) (b:=.int (i:Int)) (by rfl) (by rfl) (E4 i (by exact id ((pn [_] 0x0D641901D680) hi6)))
  ·have hk:c 5 / 8 / 4 ^ i % 4 < 4:=a5 _ (by exact id (pn [] 0x1D4808))
   generalize c 5 / 8 / 4 ^ i % 4=k at hk;rcases (show k=0\/k=1\/k=2\/k=3 by exact id ((pn [_] 0x1F1F1F2D3802D2802D1802D0801D480) hk)) with rfl | rfl | rfl | rfl<;>rfl
noncomputable def I5 (j:Nat->PV) (c:Nat->Nat) (T:eA) (order:List Int) (ld:List (Int×Str)) (ow:ID) (b:List (Int×List Int)):SE:=Iv j c T order ld ow++[nm "blocks" (q0 b)]
theorem v6 {leads:List (Int×Str)} (h:EW leads) (hbl:∀ p∈leads,((p.2++"x").cps.toList.takeWhile eU).length<=60):o3.fn "_law_blocks" [ie leads]=some (q0 (lU leads)):=xR h hbl
theorem IM {j:Nat->PV}{c:Nat->Nat}{T:eA}{n:Nat}{order:List Int}{ld:List (Int×Str)}{ow:ID} (h:EW ld) (hbl:∀ p∈ld,((p.2++"x").cps.toList.takeWhile eU).length<=60):ex o3 [] (n+60) lT (Iv j c T order ld ow) (fX 24)=some (.next,I5 j c T order ld ow (lU ld)):=by
 conv=>lhs;arg 6;whnf
 refine (bm (u:=q0 (lU ld)) (by rfl) ?_).trans (by kernel_rfl);exact fu (v':=ie ld) (v:=ie ld) (by kernel_rfl) (by kernel_rfl) (by rfl) (by rfl) (v6 h hbl)
end
end Mine
end
section
namespace Mine
noncomputable section
set_option tactic.hygienic true in
theorem te:∀ (l acc:List Int) (x:Int),x∈l.foldl step_dedup acc↔x∈acc\/x∈l
 | [],acc,x=>by simp
 | a::l,acc,x=>by
  rw [a9,te l];unfold step_dedup;split
  ·rename_i h
   refine bO (dM.mp h) ?_;intro y hy e;have e:=eq_of_beq e;subst e;constructor
   ·rintro (h | h)
    ·exact .inl h
    ·exact .inr (ai _ h)
   ·rintro (h | h)
    ·exact .inl h
    ·rcases ar.mp h with rfl | h
     ·exact .inl hy
     ·exact .inr h
  ·rw [aM,ae,ar,or_assoc]
set_option tactic.hygienic true in
theorem o6:∀ (l acc:List Int),acc.Nodup->(l.foldl step_dedup acc).Nodup
 | [],_,h=>h
 | a::l,acc,h=>by
  rw [a9];refine o6 l _ ?_;unfold step_dedup;split
  ·exact h
  ·rename_i hn
   refine bq.mpr ⟨h,by simp,fun x hx y hy e=>?_⟩;rcases ae.mp hy with rfl
   exact hn (dM.mpr ⟨x,hx,by rw [e];exact beq_self_eq_true _⟩)
theorem sC {α β:Type}{f:α->β}:∀ {l:List α},l.Nodup->(∀ a∈l,∀ b∈l,f a=f b->a=b)->(l.map f).Nodup
 | [],_,_=>ds
 | a::l,h,hi=>by
  refine xA (bI.mp h) ?_;intro h1 h2;rw [aw];refine bI.mpr ⟨fun hm=>?_,sC h2 fun x hx y hy=>hi x (ai _ hx) y (ai _ hy)⟩;refine bO (aB.mp hm) ?_;intro b hb e
  have:=hi b (ai _ hb) a am e
  subst this;exact h1 hb
theorem zb {l m:List Int}{f:Int->Int} (h:l.Nodup) (hm:∀ a∈l,f a∈m) (hi:∀ a∈l,∀ b∈l,f a=f b->a=b):l.length<=m.length:=by
 have:=fV (sC h hi) (fun x hx=>by refine bO (aB.mp hx) ?_;rintro a ha rfl;exact hm a ha)
 rw [aa] at this;exact this
noncomputable def kr (m:ID) (x:Int):Int:=(gI m x).getD 0
theorem FI (m:ID) (g:Int->Int) (x:Int):gI (m.map fun q=>(q.1,g q.2)) x=(gI m x).map g:=by
 induction m with
 | nil=>rfl
 | cons p m ih=>
  rw [aw,fM,fM,ih];split<;>rfl
theorem BM {m:ID}{nodes:List Int} (h:m.map (·.1)=nodes) {x:Int} (hx:x∈nodes):gI m x=some (kr m x):=by
 rw [<- h] at hx;refine bO (aB.mp hx) ?_;rintro p hp rfl
 have:(gI m p.1).isSome=true:=je hp
 refine xE (aS.mp this) ?_;intro v hv;unfold kr;rw [hv];rfl
theorem AO {m:ID}{nodes:List Int} (h:m.map (·.1)=nodes) {x:Int} (hx:x ∉ nodes):gI m x=none:=by
 cases e:gI m x with
 | none=>rfl
 | some v=>exact absurd (by rw [<- h];exact aB.mpr ⟨_,iL e,rfl⟩) hx
theorem p8 {m:ID}{nodes:List Int} (h:m.map (·.1)=nodes) (p:Int×Int):(p.1∈nodes/\p.2∈nodes/\∀ x∈nodes,kr (eI m p) x=if kr m x=kr m p.2 then kr m p.1 else kr m x)\/((¬ (p.1∈nodes/\p.2∈nodes))/\eI m p=m):=by
 by_cases h1:p.1∈nodes
 ·by_cases h2:p.2∈nodes
  ·left
   refine ⟨h1,h2,fun x hx=>?_⟩;have e:eI m p=m.map fun q=>(q.1,if q.2=kr m p.2 then kr m p.1 else q.2):=by
    unfold eI;rw [BM h h1,BM h h2]
   rw [e];unfold kr;rw [FI m (fun z=>if z=(gI m p.2).getD 0 then (gI m p.1).getD 0 else z),BM h hx];rfl
  ·right
   refine ⟨fun h=>h2 h.2,?_⟩;unfold eI;rw [AO h h2]
   cases gI m p.1<;>rfl
 ·right
  refine ⟨fun h=>h1 h.1,?_⟩;unfold eI;rw [AO h h1]
theorem oT {nodes:List Int}{L:Int->Int}:∀ (pairs:List (Int×Int)) (m:ID),m.map (·.1)=nodes->(∀ p∈pairs,p.1∈nodes->p.2∈nodes->L p.1=L p.2) ->
  (∀ x∈nodes,∀ y∈nodes,kr m x=kr m y->L x=L y)->∀ x∈nodes,∀ y∈nodes,kr (pairs.foldl eI m) x=kr (pairs.foldl eI m) y->L x=L y
 | [],_,_,_,h=>h
 | p::pairs,m,hk,hp,h=>by
  rw [a9];refine oT pairs (eI m p) ((gP m p).trans hk) (fun q hq=>hp q (ai _ hq)) ?_;rcases p8 hk p with ⟨h1,h2,hm⟩ | ⟨_,e⟩
  ·have hL:=hp p am h1 h2
   intro x hx y hy e;rw [hm x hx,hm y hy] at e;by_cases a:kr m x=kr m p.2
   ·by_cases b:kr m y=kr m p.2
    ·exact h x hx y hy (a.trans b.symm)
    ·rw [if_pos a,if_neg b] at e
     rw [h x hx _ h2 a,<- hL,h _ h1 y hy e]
   ·by_cases b:kr m y=kr m p.2
    ·rw [if_neg a,if_pos b] at e
     rw [h y hy _ h2 b,<- hL,h x hx _ h1 e]
    ·rw [if_neg a,if_neg b] at e
     exact h x hx y hy e
  ·rw [e];exact h
theorem rK {nodes:List Int}{x y:Int} (hx:x∈nodes) (hy:y∈nodes):∀ (pairs:List (Int×Int)) (m:ID),m.map (·.1)=nodes->kr m x=kr m y->kr (pairs.foldl eI m) x=kr (pairs.foldl eI m) y
 | [],_,_,h=>h
 | p::pairs,m,hk,h=>by
  rw [a9];refine rK hx hy pairs (eI m p) ((gP m p).trans hk) ?_;rcases p8 hk p with ⟨_,_,hm⟩ | ⟨_,e⟩
  ·rw [hm x hx,hm y hy,h]
  ·rw [e];exact h
theorem qQ {nodes:List Int}:∀ (pairs:List (Int×Int)) (m:ID),m.map (·.1)=nodes->∀ p∈pairs,p.1∈nodes->p.2∈nodes->kr (pairs.foldl eI m) p.1=kr (pairs.foldl eI m) p.2
 | [],_,_,p,h,_,_=>nomatch h
 | q::pairs,m,hk,p,hp,h1,h2=>by
  rw [a9];have hk':=(gP m q).trans hk;rcases ar.mp hp with rfl | hp
  ·refine rK h1 h2 pairs _ hk' ?_
   rcases p8 hk p with ⟨_,_,hm⟩ | ⟨hn,_⟩
   ·rw [hm _ h1,hm _ h2,if_pos rfl]
    split
    ·rfl
    ·rfl
   ·exact absurd ⟨h1,h2⟩ hn
  ·exact qQ pairs _ hk' p hp h1 h2
theorem oG {pairs:List (Int×Int)}{nodes reps:List Int}{L:Int->Int} (hn:nodes.Nodup) (hr:reps.Nodup)
  (h1:∀ p∈pairs,p.1∈nodes->p.2∈nodes->L p.1=L p.2)
  (h2:∀ m:Int->Int,(∀ p∈pairs,p.1∈nodes->p.2∈nodes->m p.1=m p.2)->∀ x∈nodes,∀ y∈nodes,L x=L y->m x=m y)
  (h3:∀ z,z∈reps↔∃ x∈nodes,L x=z):dX pairs nodes=reps.length:=by
 let m0:ID:=nodes.map fun v=>(v,v)
 have hk0:m0.map (·.1)=nodes:=by show (nodes.map _).map _=_;rw [ao];show nodes.map id=_;rw [ip]
 have hid:∀ x∈nodes,kr m0 x=x:=by
  intro x hx
  have:gB m0 x=some x:=fY (l:=m0) (p:=(x,x)) (by rw [hk0];exact hn) (b5 (f:=fun v:Int=>(v,v)) hx)
  show (gI m0 x).getD 0=x;rw [show gI m0 x=some x from this];rfl
 let M:=xy pairs nodes
 have hkM:M.map (·.1)=nodes:=by
  have:∀ (ps:List (Int×Int)) (m:ID),(ps.foldl eI m).map (·.1)=m.map (·.1):=by
   intro ps
   induction ps with
   | nil=>intro m;rfl
   | cons p ps ih=>intro m;rw [a9,ih,gP]
  exact (this pairs m0).trans hk0
 have sound:∀ x∈nodes,∀ y∈nodes,kr M x=kr M y->L x=L y:=oT pairs m0 hk0 h1 fun x hx y hy e=>by rw [hid x hx,hid y hy] at e;rw [e]
 have full:∀ x∈nodes,∀ y∈nodes,L x=L y->kr M x=kr M y:=h2 (kr M) fun p hp a b=>qQ pairs m0 hk0 p hp a b;have hvals:M.map (·.2)=nodes.map (kr M):=by
  rw [<- hkM,ao];refine cD fun p hp=>?_;show p.2=(gI M p.1).getD 0;rw [show gI M p.1=some p.2 from fY (by rw [hkM];exact hn) hp];rfl
 unfold dX;show ((M.map (·.2)).foldl step_dedup []).length=_;rw [hvals];generalize hD:(nodes.map (kr M)).foldl step_dedup []=D;have hDn:D.Nodup:=by rw [<- hD];exact o6 _ _ ds
 have hDm:∀ d,d∈D↔∃ x∈nodes,kr M x=d:=by
  intro d;rw [<- hD,te];simp [aB]
 have find:∀ (f:Int->Int) (z:Int),(∃ x∈nodes,f x=z)->((nodes.find? fun x=>decide (f x=z)).getD 0)∈nodes/\f ((nodes.find? fun x=>decide (f x=z)).getD 0)=z:=by
  rintro f z ⟨x,hx,e⟩
  have:(nodes.find? fun x=>decide (f x=z)).isSome=true:=by rw [fL];exact ⟨x,hx,decide_eq_true e⟩
  refine xE (aS.mp this) ?_;intro y hy;rw [hy];exact ⟨c4 hy,by have:=g7 hy;exact of_decide_eq_true this⟩
 refine jT ?_ ?_
 ·refine zb (f:=fun d=>L ((nodes.find? fun x=>decide (kr M x=d)).getD 0)) hDn (fun d hd=>?_) fun a ha b hb e=>?_
  ·have:=find (kr M) d ((hDm d).mp hd)
   exact (h3 _).mpr ⟨_,this.1,rfl⟩
  ·have ea:=find (kr M) a ((hDm a).mp ha)
   have eb:=find (kr M) b ((hDm b).mp hb);rw [<- ea.2,<- eb.2];exact full _ ea.1 _ eb.1 e
 ·refine zb (f:=fun z=>kr M ((nodes.find? fun x=>decide (L x=z)).getD 0)) hr (fun z hz=>?_) fun a ha b hb e=>?_
  ·have:=find L z ((h3 z).mp hz)
   exact (hDm _).mpr ⟨_,this.1,rfl⟩
  ·have ea:=find L a ((h3 a).mp ha)
   have eb:=find L b ((h3 b).mp hb);rw [<- ea.2,<- eb.2];exact sound _ ea.1 _ eb.1 e
theorem C6 {l m:List Int} (h:l.Perm m):l.sum=m.sum:=by
 induction h with
 | nil=>rfl
 | cons x _ ih=>rw [cg,cg,ih]
 | swap x y l=>simp only [cg];exact id (pz [] [_,_,_] 0x2EAA201AA210)
 | trans _ _ h1 h2=>exact h1.trans h2
theorem qd {T:eA}{ss os:List Int} (h:∀ v∈ss++os,True):dG T ss os=((ss++os).map fun v=>bY (f8 T ss os v)).sum:=by
 unfold dG wj
 have:∀ (vs:List Int) (fl:ID),(fl.map (·.1)).Nodup->bY (vs.foldl (fun fl node=>ia fl (f8 T ss os node)) fl)=bY fl+(vs.map fun v=>bY (f8 T ss os v)).sum:=by
  intro vs
  induction vs with
  | nil=>intro fl _;simp
  | cons v vs ih=>
   intro fl hfl;rw [a9,ih _ (by rw [jz hfl];exact gO hfl),jz hfl,tj hfl,aw,cg];exact id (pz [] [_,_,_] 0x2EAA210A2A10)
 rw [this _ [] ds];show bY []+_=_;rw [show bY []=0 from rfl,ct]
theorem o8 {r:ID} (h:∀ q∈r,1<=q.2):0<=bY r/\(bY r=0->r=[]):=by
 induction r with
 | nil=>exact ⟨Int.le_refl _,fun J=>rfl⟩
 | cons q r ih=>
  have:=h q am
  have:=(ih fun p hp=>h p (ai _ hp)).1
  rw [gY];exact ⟨by exact id ((pz [] [_,_] 0x0EA10080E1080E018) ‹_› this),fun e=>by lia⟩
theorem mT:∀ {l:List Int},(∀ x∈l,0<=x)->0<=l.sum/\(l.sum=0->∀ x∈l,x=0)
 | [],_=>⟨Int.le_refl _,fun J x hx=>nomatch hx⟩
 | a::l,h=>by
  refine xA (mT fun x hx=>h x (ai _ hx)) ?_;intro h1 h2
  have:=h a am
  rw [cg];refine ⟨by exact id ((pz [] [_,_] 0x0EA01080E1080E008) h1 this),fun e x hx=>?_⟩;rcases ar.mp hx with rfl | hx
  ·exact id ((pz [] [_,_] 0x2E0812E08A010E1080E008) h1 this e)
  ·exact h2 (by exact id ((pz [] [_,_] 0x2E0802E08A010E1080E008) h1 this e)) x hx
end
end Mine
end
section
namespace Mine
noncomputable section
noncomputable def cP (P:Pa) (x:Int):List Int:=(P.find? fun p=>decide (aJ p=x)).getD []
structure Rd (adj:Int->Int->Bool) (N:List Int) (r0:Int) (path:Int->List Int):Prop where
 root:r0∈N/\path r0=[r0]
 last:∀ x∈N,path x≠[]/\aJ (path x)=x
 nd:∀ x∈N,(path x).Nodup
 sub:∀ x∈N,∀ y∈path x,y∈N/\path y <+: path x
 head:∀ x∈N,r0∈path x
 up:∀ x∈N,x≠r0->∃ y∈N,path x=path y++[x]/\adj y x=true
 tre:∀ x∈N,∀ y∈N,adj x y=true->x∈path y\/y∈path x
section
variable {adj:Int->Int->Bool}{order:List Int}{r0:Int}{P:Pa}
theorem jV.pathOf_eq (t:jV adj order r0 P) {p:List Int} (hp:p∈P):cP P (aJ p)=p:=by
 unfold cP
 have:(P.find? fun q=>decide (aJ q=aJ p)).isSome=true:=by rw [fL];exact ⟨p,hp,decide_eq_true rfl⟩
 refine xE (aS.mp this) ?_;intro q hq;have e:aJ q=aJ p:=by have:=g7 hq;exact of_decide_eq_true this
 have hqm:=c4 hq;rw [hq];obtain ⟨i,hi,rfl⟩:=a7.mp hqm;obtain ⟨k,hk,rfl⟩:=a7.mp hp
 have:=t.inj hi hk e
 subst this;rfl
theorem jV.path_mem (t:jV adj order r0 P) {x:Int} (hx:x∈order):cP P x∈P/\aJ (cP P x)=x:=by
 refine bO (aB.mp (t.all x hx)) ?_;rintro p hp rfl;rw [t.pathOf_eq hp];exact ⟨hp,rfl⟩
theorem jV.rd (t:jV adj order r0 P) (sym:∀ u v,adj u v=adj v u):Rd adj order r0 (cP P):=by
 have h0:0 < P.length:=by have:=t.first;cases P with | nil=>cases this | cons a b=>simp
 have e0:P[0]=[r0]:=by have:=t.first;rw [nj,av h0] at this;injection this
 have m0:[r0]∈P:=by rw [<- e0];exact aY h0
 have p0:cP P r0=[r0]:=t.pathOf_eq m0;have r0m:r0∈order:=t.ord _ m0;have sub:∀ x∈order,∀ y∈cP P x,y∈order/\cP P y <+: cP P x:=by
  intro x hx y hy;refine xA (t.path_mem hx) ?_;intro hm _;obtain ⟨k,hk,e⟩:=a7.mp hm;rw [<- e] at hy ⊢;obtain ⟨m,hm,_,e2,hp⟩:=(t.path k hk).2 y hy;rw [<- e2,t.pathOf_eq (aY hm)];exact ⟨t.ord _ (aY hm),hp⟩
 refine ⟨⟨r0m,p0⟩,fun x hx=>?_,fun x hx=>?_,sub,?_,?_,?_⟩
 ·refine xA (t.path_mem hx) ?_;intro hm e
  exact ⟨t.ne _ hm,e⟩
 ·refine xA (t.path_mem hx) ?_;intro hm _
  obtain ⟨k,hk,e⟩:=a7.mp hm;rw [<- e];exact (t.path k hk).1
 ·have key:∀ n,∀ p∈P,p.length<=n->r0∈p:=by
   intro n
   induction n with
   | zero=>intro p hp hl;exact absurd (mJ.mp (by exact id ((pn [_] 0x2D0800D080) hl))) (t.ne p hp)
   | succ n ih=>
    intro p hp hl;by_cases h2:2<=p.length
    ·exact cb _ (ih _ (t.up p hp h2) (by rw [dq];exact id ((pn [_,_] 0x0D1B1800D0280DA1810) hl h2)))
    ·obtain ⟨k,hk,e⟩:=a7.mp hp
     cases k with
     | zero=>rw [<- e,e0];exact ae.mpr rfl
     | succ k=>have:=t.two k hk;rw [e] at this;lia
  intro x hx;exact key _ _ (t.path_mem hx).1 (aE _)
 ·intro x hx hne
  refine xA (t.path_mem hx) ?_;intro hm e;have h2:2<=(cP P x).length:=by
   obtain ⟨k,hk,e'⟩:=a7.mp hm
   cases k with
   | zero=>rw [<- e',e0] at e;exact absurd e.symm (fun h=>hne (by rw [h];rfl))
   | succ k=>have:=t.two k hk;rw [e'] at this;exact this
  have hu:=t.up _ hm h2;refine ⟨aJ (cP P x).dropLast,t.ord _ hu,?_,?_⟩
  ·rw [t.pathOf_eq hu]
   conv=>lhs;rw [<- dd (t.ne _ hm)]
   rw [e]
  ·have:=t.tadj _ hm h2
   rw [e] at this;exact this
 ·intro x hx y hy ha
  refine xA (t.path_mem hx) ?_;intro hmx ex;refine xA (t.path_mem hy) ?_;intro hmy ey;obtain ⟨i,hi,e1⟩:=a7.mp hmx;obtain ⟨k,hk,e2⟩:=a7.mp hmy;rw [<- e1] at ex;rw [<- e2] at ey;rcases Nat.lt_trichotomy i k with h | h | h
  ·left
   have:=t.tre i k hi hk h (by rw [ex,ey];exact ha)
   rw [ex] at this;rw [<- e2];exact this
  ·subst h
   left
   rw [<- e2,<- ex];exact g6 (t.ne _ (aY hi))
  ·right
   have:=t.tre k i hk hi h (by rw [ex,ey,sym];exact ha)
   rw [ey] at this;rw [<- e1];exact this
theorem jV.blk (t:jV adj order r0 P) {x y:Int}:y∈gh P x↔y∈order/\x∈cP P y:=by
 unfold gh;rw [aB];constructor
 ·rintro ⟨q,hq,rfl⟩
  refine xA (aT.mp hq) ?_;intro hq hc;rw [t.pathOf_eq hq];exact ⟨t.ord _ hq,bQ.mp hc⟩
 ·rintro ⟨hy,hx⟩
  refine xA (t.path_mem hy) ?_;intro hm e;exact ⟨_,aT.mpr ⟨hm,bQ.mpr hx⟩,e⟩
theorem jV.blk_nodup (t:jV adj order r0 P) (x:Int):(gh P x).Nodup:=List.Nodup.sublist (List.Sublist.map _ eS) t.nd
end
section
variable {adj:Int->Int->Bool}{N:List Int}{r0:Int}{path:Int->List Int}
theorem C9 {p a b:List Int} (hp:p.Nodup) (ha:a <+: p) (hb:b <+: p) (na:a≠[]) (nb:b≠[]) (e:aJ a=aJ b):a=b:=by
 have key:∀ {a b:List Int},b.Nodup->a≠[]->b≠[]->aJ a=aJ b->a <+: b->a=b:=by
  intro a b hb na nb e h;refine Classical.byContradiction fun hne=>?_;have h1:=n9 h hne;have h2:=g6 na;rw [<- dd nb] at hb;exact (bq.mp hb).2.2 _ (h1.subset h2) _ (ae.mpr rfl) e
 rcases t6 ha hb with h | h
 ·exact key (List.Nodup.sublist hb.sublist hp) na nb e h
 ·exact (key (List.Nodup.sublist ha.sublist hp) nb na e.symm h).symm
theorem Rd.self (r:Rd adj N r0 path) {x:Int} (hx:x∈N):x∈path x:=by
 have:=r.last x hx
 have h:=g6 this.1;rw [this.2] at h;exact h
theorem Rd.trans (r:Rd adj N r0 path) {x y z:Int} (hz:z∈N) (h1:x∈path y) (h2:y∈path z):x∈path z:=(r.sub z hz y h2).2.subset h1
theorem Rd.asym (r:Rd adj N r0 path) {x y:Int} (hx:x∈N) (hy:y∈N) (h1:x∈path y) (h2:y∈path x):x=y:=by
 have a:=(r.sub y hy x h1).2;have b:=(r.sub x hx y h2).2;have e:path x=path y:=a.eq_of_length (jT a.length_le b.length_le);rw [<- (r.last x hx).2,<- (r.last y hy).2,e]
theorem Rd.comp (r:Rd adj N r0 path) {x y z:Int} (hz:z∈N) (h1:x∈path z) (h2:y∈path z):x∈path y\/y∈path x:=by
 refine xA (r.sub z hz x h1) ?_;intro mx px;refine xA (r.sub z hz y h2) ?_;intro my py;rcases t6 px py with h | h
 ·exact .inl (h.subset (r.self mx))
 ·exact .inr (h.subset (r.self my))
theorem Rd.parent (r:Rd adj N r0 path) {x y:Int} (hx:x∈N) (hy:y∈N) (e:path x=path y++[x]):(path x).dropLast=path y/\aJ (path x).dropLast=y/\y ∉ [x]:=by
 have e1:(path x).dropLast=path y:=by rw [e,ei]
 refine ⟨e1,by rw [e1];exact (r.last y hy).2,fun h=>?_⟩;have h:=ae.mp h;subst h
 have:=congrArg ef e
 rw [ak,bd] at this;exact id ((pn [_] 0x2F2DA1800) this)
theorem Rd.down (r:Rd adj N r0 path) {c:Int} (hc:c∈N) {Q:Int->Prop} (h0:Q c) (step:∀ y∈N,∀ x∈N,c∈path y->path x=path y++[x]->adj y x=true->Q y->Q x):∀ n,∀ x∈N,(path x).length<=n->c∈path x->Q x
 | 0,x,hx,hl,_=>absurd (mJ.mp (by exact id ((pn [_] 0x2D0800D080) hl))) (r.last x hx).1
 | n+1,x,hx,hl,hm=>by
  by_cases e:x=c
  ·exact e ▸ h0
  ·have hne:x≠r0:=by
    intro e0;rw [e0,r.root.2] at hm;exact e (by rw [e0];exact (ae.mp hm).symm)
   refine fw (r.up x hx hne) ?_;intro y hy ep ha;have hcy:c∈path y:=by
    rw [ep] at hm;rcases aM.mp hm with hm | hm
    ·exact hm
    ·exact absurd (ae.mp hm).symm e
   have hly:(path y).length<=n:=by
    have:=congrArg ef ep
    rw [ak,bd] at this;exact id ((pn [_,_,_] 0x0D122DA18200DA1810) hl this)
   exact step y hy x hx hcy ep ha (r.down hc h0 step n y hy hly hcy)
end
end
end Mine
end
section
namespace Mine
noncomputable section
theorem jf {T:eA} (ok:rY T) {u v:Int} (hu:u∈ah) (hv:v∈ah):c0 T u v=((gI (cF T u) v).isSome || (gI (cF T v) u).isSome):=by
 unfold c0;rw [(ok.row hu).1,(ok.row hv).1];rfl
theorem gg (T:eA) (u v:Int):c0 T u v=c0 T v u:=by unfold c0;rw [Bool.or_comm]
theorem pW {T:eA}{ss os:List Int}{v:Int}{q:Int×Int}:q∈f8 T ss os v↔q∈cF T v/\(if v∈ss then q.1∈os else q.1∈ss):=by
 unfold f8;rw [aT];show q∈cF T v/\_↔_;refine and_congr_right fun J=>?_;by_cases h:v∈ss
 ·rw [if_pos h,if_pos (bA.mpr h)];exact bA
 ·rw [if_neg h,if_neg (fun e=>h (bA.mp e))];exact bA
theorem tr {T:eA} (ok:rY T) {ss os:List Int} (hs:∀ x∈ss,x∈ah) (ho:∀ x∈os,x∈ah) (hd:∀ x∈os,x ∉ ss):dG T ss os=0↔∀ u∈ss,∀ v∈os,c0 T u v=false:=by
 have hall:∀ v∈ss++os,v∈ah:=fun v hv=>(aM.mp hv).elim (hs v) (ho v);have hnn:∀ v∈ss++os,0<=bY (f8 T ss os v)/\(bY (f8 T ss os v)=0->f8 T ss os v=[]):=fun v hv=>o8 fun q hq=>((ok.row (hall v hv)).2.2 q (pW.mp hq).1).2.1;rw [qd fun J J=>trivial];constructor
 ·intro e u hu v hv
  have hz:=(mT (l:=(ss++os).map fun v=>bY (f8 T ss os v)) fun x hx=>by refine bO (aB.mp hx) ?_;rintro w hw rfl;exact (hnn w hw).1).2 e;have hemp:∀ w∈ss++os,f8 T ss os w=[]:=fun w hw=>(hnn w hw).2 (hz _ (b5 hw));rw [jf ok (hs u hu) (ho v hv)]
  cases h1:gI (cF T u) v with
  | some a=>
   have:(v,a)∈f8 T ss os u:=pW.mpr ⟨iL h1,by rw [if_pos hu];exact hv⟩
   rw [hemp u (ba _ hu)] at this;cases this
  | none=>
   cases h2:gI (cF T v) u with
   | some a=>
    have:(u,a)∈f8 T ss os v:=pW.mpr ⟨iL h2,by rw [if_neg (hd v hv)];exact hu⟩
    rw [hemp v (b6 _ hv)] at this;cases this
   | none=>rfl
 ·intro h
  have hemp:∀ w∈ss++os,f8 T ss os w=[]:=by
   intro w hw;refine List.eq_nil_iff_forall_not_mem.mpr fun q hq=>?_;refine xA (pW.mp hq) ?_;intro hq hc;have hg:(gI (cF T w) q.1).isSome=true:=je hq;by_cases hws:w∈ss
   ·rw [if_pos hws] at hc
    have:=h w hws q.1 hc
    rw [jf ok (hs w hws) (ho _ hc),hg] at this;cases this
   ·rw [if_neg hws] at hc
    have hwo:w∈os:=(aM.mp hw).resolve_left hws
    have:=h q.1 hc w hwo
    rw [jf ok (hs _ hc) (ho _ hwo),hg,Bool.or_true] at this;cases this
  have:(ss++os).map (fun v=>bY (f8 T ss os v))=(ss++os).map fun J=>0:=cD fun w hw=>by rw [hemp w hw];rfl
  rw [this];have h0:∀ l:List Int,(l.map fun J=>(0:Int)).sum=0:=by
   intro l
   induction l with
   | nil=>rfl
   | cons a l ih=>rw [aw,cg,ih];rfl
  exact h0 _
theorem xH (r:ID) (p q:Int×Int->Bool):bY (r.filter p)=bY (r.filter fun x=>p x && q x)+bY (r.filter fun x=>p x && !(q x)):=by
 induction r with
 | nil=>rfl
 | cons x r ih=>
  cases hp:p x with
  | false=>
   rw [aU (by simp [hp]),aU (by simp [hp]),aU (by simp [hp]),ih]
  | true=>
   rw [aZ hp,gY,ih]
   cases hq:q x with
   | false=>rw [aU (by simp [hp,hq]),aZ (by simp [hp,hq]),gY];exact id (pz [] [_,_,_] 0x2EAA201AA210)
   | true=>rw [aZ (by simp [hp,hq]),aU (by simp [hp,hq]),gY];exact id (pz [] [_,_,_] 0x2EA2A10AA210)
theorem yG {l:List Int}{h:Int->Int}{x:Int} (hn:l.Nodup) (hx:x∈l) (hz:∀ v∈l,v≠x->h v=0):(l.map h).sum=h x:=by
 induction l with
 | nil=>cases hx
 | cons a l ih=>
  refine xA (bI.mp hn) ?_;intro h1 h2;rw [aw,cg];by_cases e:a=x
  ·subst e
   have:l.map h=l.map fun J=>0:=cD fun v hv=>hz v (ai _ hv) fun e=>h1 (e ▸ hv)
   rw [this];have h0:∀ l:List Int,(l.map fun J=>(0:Int)).sum=0:=by
    intro l
    induction l with
    | nil=>rfl
    | cons a l ih=>rw [aw,cg,ih];rfl
   rw [h0,dH]
  ·have hxl:x∈l:=(ar.mp hx).resolve_left fun e'=>e e'.symm
   rw [hz a am e,ih h2 hxl fun v hv=>hz v (ai _ hv),ct]
theorem yM (l:List Int) (f g:Int->Int):(l.map fun v=>f v+g v).sum=(l.map f).sum+(l.map g).sum:=by
 induction l with
 | nil=>rfl
 | cons a l ih=>simp only [aw,cg,ih];exact id (pz [] [_,_,_,_] 0x2EAA31A20AA32A10)
theorem DZ {l:List Int}{h:Int->Int}{x y:Int} (hn:l.Nodup) (hx:x∈l) (hy:y∈l) (hxy:x≠y) (hz:∀ v∈l,v≠x->v≠y->h v=0):(l.map h).sum=h x+h y:=by
 have e:l.map h=l.map fun v=>(if v=x then h v else 0)+(if v=x then 0 else h v):=cD fun v J=>by split<;>lia
 rw [e,yM,yG (x:=x) hn hx fun v J hne=>if_neg hne,yG (x:=y) hn hy fun v hv hne=>by
  by_cases e:v=x
  ·exact if_pos e
  ·rw [if_neg e];exact hz v hv e hne]
 rw [if_pos rfl,if_neg (Ne.symm hxy)]
theorem zM {T:eA} (ok:rY T) {ss os:List Int} (hp:(ss++os).Perm ah) {x y:Int} (hx:x∈ah) (hy:y∈ah) (hxy:x≠y) (hc:(x∈ss/\y∈os)\/(y∈ss/\x∈os)) :
  dG T ss os=dG T [x] [y]↔∀ u∈ss,∀ v∈os,c0 T u v=true->(u=x/\v=y)\/(u=y/\v=x):=by
 have hnd:(ss++os).Nodup:=hp.nodup_iff.mpr (by decide);have hdis:∀ v∈os,v ∉ ss:=fun v hv hs=>(bq.mp hnd).2.2 v hs v hv rfl;have hns:∀ v∈ss,v∈ah:=fun v hv=>hp.mem_iff.mp (ba _ hv);have hno:∀ v∈os,v∈ah:=fun v hv=>hp.mem_iff.mp (b6 _ hv)
 let cr:Int->Int×Int->Bool:=fun v p=>if ce ss v=true then ce os p.1 else ce ss p.1
 let isp:Int->Int×Int->Bool:=fun v p=>(v == x && p.1 == y) || (v == y && p.1 == x)
 let E:Int->Int:=fun v=>bY ((cF T v).filter fun p=>cr v p && !(isp v p))
 let H:Int->Int:=fun v=>bY ((cF T v).filter fun p=>cr v p && isp v p)
 have hsel:∀ v,f8 T ss os v=(cF T v).filter (cr v):=fun v=>rfl;have crx:∀ p:Int×Int,p.1=y->cr x p=true:=by
  intro p e;show (if ce ss x=true then ce os p.1 else ce ss p.1)=true;rcases hc with ⟨h1,h2⟩ | ⟨h1,h2⟩
  ·rw [if_pos (bA.mpr h1),e];exact bA.mpr h2
  ·rw [if_neg (fun h=>hdis x h2 (bA.mp h)),e];exact bA.mpr h1
 have cry:∀ p:Int×Int,p.1=x->cr y p=true:=by
  intro p e;show (if ce ss y=true then ce os p.1 else ce ss p.1)=true;rcases hc with ⟨h1,h2⟩ | ⟨h1,h2⟩
  ·rw [if_neg (fun h=>hdis y h2 (bA.mp h)),e];exact bA.mpr h1
  ·rw [if_pos (bA.mpr h1),e];exact bA.mpr h2
 have fl1:dG T ss os=(ah.map H).sum+(ah.map E).sum:=by
  rw [qd fun J J=>trivial,C6 (hp.map _),<- yM];congr 1;refine cD fun v J=>?_;rw [hsel];exact xH (cF T v) (cr v) (isp v)
 have fl2:dG T [x] [y]=(ah.map H).sum:=by
  rw [qd fun J J=>trivial,DZ (x:=x) (y:=y) (by decide) hx hy hxy]
  ·show bY (f8 T [x] [y] x)+(bY (f8 T [x] [y] y)+0)=_
   rw [dH];congr 2
   ·show (cF T x).filter _=(cF T x).filter _
    refine iK fun p J=>?_;have e1:ce [x] x=true:=bA.mpr (ae.mpr rfl);rw [if_pos e1];by_cases e:p.1=y
    ·rw [crx p e]
     have h1:ce [y] p.1=true:=bA.mpr (ae.mpr e);have h2:isp x p=true:=by show ((x == x && p.1 == y) || (x == y && p.1 == x))=true;rw [e];simp
     rw [h1,h2];rfl
    ·have h1:ce [y] p.1=false:=by cases h:ce [y] p.1 with | false=>rfl | true=>exact absurd (ae.mp (bA.mp h)) e
     have h2:isp x p=false:=by show ((x == x && p.1 == y) || (x == y && p.1 == x))=false;simp [e,hxy]
     rw [h1,h2,f0]
   ·show (cF T y).filter _=(cF T y).filter _
    refine iK fun p J=>?_;have e1:¬ ce [x] y=true:=fun h=>hxy (ae.mp (bA.mp h)).symm;rw [if_neg e1];by_cases e:p.1=x
    ·rw [cry p e]
     have h1:ce [x] p.1=true:=bA.mpr (ae.mpr e);have h2:isp y p=true:=by show ((y == x && p.1 == y) || (y == y && p.1 == x))=true;rw [e];simp
     rw [h1,h2];rfl
    ·have h1:ce [x] p.1=false:=by cases h:ce [x] p.1 with | false=>rfl | true=>exact absurd (ae.mp (bA.mp h)) e
     have h2:isp y p=false:=by show ((y == x && p.1 == y) || (y == y && p.1 == x))=false;simp [e,Ne.symm hxy]
     rw [h1,h2,f0]
  ·intro v _ h1 h2
   show bY ((cF T v).filter _)=0;rw [bL.mpr];· rfl
   intro p _;show ¬ (cr v p && ((v == x && p.1 == y) || (v == y && p.1 == x)))=true;simp [h1,h2]
 have hE:∀ v∈ah,0<=E v/\(E v=0->(cF T v).filter (fun p=>cr v p && !(isp v p))=[]):=fun v hv=>o8 fun q hq=>((ok.row hv).2.2 q (aT.mp hq).1).2.1;have hsum:=mT (l:=ah.map E) fun z hz=>by refine bO (aB.mp hz) ?_;rintro w hw rfl;exact (hE w hw).1
 rw [fl1,fl2];have key:(∀ v∈ah,(cF T v).filter (fun p=>cr v p && !(isp v p))=[])↔∀ u∈ss,∀ v∈os,c0 T u v=true->(u=x/\v=y)\/(u=y/\v=x):=by
  constructor
  ·intro h u hu v hv ha
   rw [jf ok (hns u hu) (hno v hv)] at ha;rcases dF _ _ |>.mp ha with h1 | h1
   ·refine xE (aS.mp h1) ?_;intro a ha
    have hm:=bL.mp (h u (hns u hu)) (v,a) (iL ha);have hcr:cr u (v,a)=true:=by show (if ce ss u=true then ce os v else ce ss v)=true;rw [if_pos (bA.mpr hu)];exact bA.mpr hv
    rw [hcr] at hm
    have:isp u (v,a)=true:=by cases hi:isp u (v,a) with | true=>rfl | false=>rw [hi] at hm;exact absurd rfl hm
    have:((u == x && v == y) || (u == y && v == x))=true:=this
    simpa using this
   ·refine xE (aS.mp h1) ?_;intro a ha
    have hm:=bL.mp (h v (hno v hv)) (u,a) (iL ha);have hcr:cr v (u,a)=true:=by show (if ce ss v=true then ce os u else ce ss u)=true;rw [if_neg (fun h=>hdis v hv (bA.mp h))];exact bA.mpr hu
    rw [hcr] at hm
    have:isp v (u,a)=true:=by cases hi:isp v (u,a) with | true=>rfl | false=>rw [hi] at hm;exact absurd rfl hm
    have:((v == x && u == y) || (v == y && u == x))=true:=this
    have this:(v=x/\u=y)\/(v=y/\u=x):=by simpa using this
    rcases this with ⟨a,b⟩ | ⟨a,b⟩
    ·exact .inr ⟨b,a⟩
    ·exact .inl ⟨b,a⟩
  ·intro h v hv
   refine bL.mpr fun p hpm hcon=>?_;refine xA (aR _ _ |>.mp hcon) ?_;intro c1 c2;have c2:isp v p=false:=by simpa using c2
   have hg:(gI (cF T v) p.1).isSome=true:=je hpm;have c1:(if ce ss v=true then ce os p.1 else ce ss p.1)=true:=c1;have hor:(v=x/\p.1=y)\/(v=y/\p.1=x):=by
    by_cases hs:v∈ss
    ·rw [if_pos (bA.mpr hs)] at c1
     have hpo:=bA.mp c1;exact h v hs p.1 hpo (by rw [jf ok hv (hno _ hpo),hg];rfl)
    ·rw [if_neg (fun e=>hs (bA.mp e))] at c1
     have hps:=bA.mp c1;have hvo:v∈os:=(aM.mp (hp.mem_iff.mpr hv)).resolve_left hs;rcases h p.1 hps v hvo (by rw [jf ok (hns _ hps) hv,hg,Bool.or_true]) with ⟨a,b⟩ | ⟨a,b⟩
     ·exact .inr ⟨b,a⟩
     ·exact .inl ⟨b,a⟩
   have:isp v p=true:=by
    show ((v == x && p.1 == y) || (v == y && p.1 == x))=true;rcases hor with ⟨a,b⟩ | ⟨a,b⟩<;>simp [a,b]
   rw [this] at c2;cases c2
 rw [<- key];constructor
 ·intro e v hv
  exact (hE v hv).2 (hsum.2 (by exact id ((pz [] [_,_] 0x2E0812E0A10) e)) _ (b5 hv))
 ·intro h
  have:ah.map E=ah.map fun J=>0:=cD fun v hv=>by show bY _=0;rw [h v hv];rfl
  rw [this];show _+(ah.map fun J=>(0:Int)).sum=_
  have:(ah.map fun J=>(0:Int)).sum=0:=by decide
  exact id ((pz [] [_,_] 0x2E1A012E080) this)
end
end Mine
end
section
namespace Mine
noncomputable section
noncomputable def jM (T:eA) (u v:Int):Bool:=decide (u < v) && c0 T v u
noncomputable def ck (T:eA):List (Int×Int):=ah.flatMap fun u=>(ah.filter fun v=>jM T u v).map fun v=>(u,v)
theorem eK {T:eA}{p:Int×Int}:p∈ck T↔p.1∈ah/\p.2∈ah/\p.1 < p.2/\c0 T p.1 p.2=true:=by
 unfold ck;rw [mH];constructor
 ·rintro ⟨u,hu,h⟩
  refine bO (aB.mp h) ?_;rintro v hv rfl;refine xA (aT.mp hv) ?_;intro hv h;refine xA (aR _ _ |>.mp h) ?_;intro h1 h2;exact ⟨hu,hv,of_decide_eq_true h1,by rw [gg];exact h2⟩
 ·rintro ⟨hu,hv,hlt,ha⟩
  refine ⟨p.1,hu,aB.mpr ⟨p.2,aT.mpr ⟨hv,?_⟩,rfl⟩⟩;unfold jM;rw [decide_eq_true hlt,gg,ha];rfl
section
variable {T:eA}{r0:Int}{path:Int->List Int}{blk:Int->List Int}{kids:List Int}
structure Wk (T:eA) (r0:Int) (pt:Int->List Int) (bl:Int->List Int) (ks:List Int):Prop where
 ok:rY T
 rd:Rd (c0 T) ah r0 pt
 blk:∀ x y,y∈bl x↔y∈ah/\x∈pt y
 bnd:∀ x,(bl x).Nodup
 kids:∀ c,c∈ks↔c∈ah/\c≠r0
 knd:ks.Nodup
noncomputable def dJ (path:Int->List Int) (c:Int):Int:=aJ (path c).dropLast
theorem Wk.par (w:Wk T r0 path blk kids) {c:Int} (hc:c∈kids):dJ path c∈ah/\path c=path (dJ path c)++[c]/\c0 T (dJ path c) c=true:=by
 refine xA ((w.kids c).mp hc) ?_;intro hcN hne;refine fw (w.rd.up c hcN hne) ?_;intro y hy e ha
 have:=(w.rd.parent hcN hy e).2.1
 unfold dJ;rw [this];exact ⟨hy,e,ha⟩
theorem Wk.par_of (w:Wk T r0 path blk kids) {x y:Int} (hx:x∈ah) (hy:y∈ah) (e:path x=path y++[x]):dJ path x=y:=(w.rd.parent hx hy e).2.1
noncomputable def zm (T:eA) (path:Int->List Int) (blk:Int->List Int) (kids:List Int) (v:Int):List Int:=kids.filter fun c=>dJ path c == v && dG T (blk c) (path v).dropLast == 0
theorem ik (w:Wk T r0 path blk kids) {v:Int} (hv:v∈ah) {u:Int}:u∈(path v).dropLast↔u∈path v/\u≠v:=by
 refine xA (w.rd.last v hv) ?_;intro hne hl;have hs:=dd hne;have hn:=w.rd.nd v hv;rw [<- hs,hl] at hn;constructor
 ·intro h
  exact ⟨cb _ h,fun e=>(bq.mp hn).2.2 u h v (ae.mpr rfl) e⟩
 ·rintro ⟨h1,h2⟩
  rw [<- hs,hl] at h1;exact (aM.mp h1).resolve_right fun h=>h2 (ae.mp h)
noncomputable def lp (path:Int->List Int) (v x:Int):Int:=(path x).getD (path v).length 0
theorem nq (w:Wk T r0 path blk kids) {v x:Int} (hv:v∈ah) (hx:x∈ah) (hm:v∈path x) (hne:x≠v):lp path v x∈kids/\path (lp path v x)=path v++[lp path v x]/\lp path v x∈path x/\dJ path (lp path v x)=v:=by
 refine xA (w.rd.sub x hx v hm) ?_;intro _ hp;refine xE hp ?_;clear hp;intro t ht;have htn:t≠[]:=by
  intro e;rw [e,fm] at ht;exact hne (by rw [<- (w.rd.last x hx).2,<- ht,(w.rd.last v hv).2])
 match t,htn,ht with
 | c::t,_,ht=>
  have ec:lp path v x=c:=by
   unfold lp;rw [<- ht,aq,f6 (aE _),ky];rfl
  have hcx:c∈path x:=by rw [<- ht];simp
  refine xA (w.rd.sub x hx c hcx) ?_;intro hcN hcp;have epre:path v++[c] <+: path x:=⟨t,by rw [<- ht];simp⟩;have epath:path c=path v++[c]:=C9 (w.rd.nd x hx) hcp epre (w.rd.last c hcN).1 (by simp) (by rw [(w.rd.last c hcN).2,fg]);have hcr:c≠r0:=by
   intro e;rw [e,w.rd.root.2] at epath
   have:=congrArg ef epath
   have hvl:=eR.mpr (w.rd.last v hv).1;rw [ak,bd] at this;exact id ((pn [_] 0x2F1D0082DA18018) this hvl)
  rw [ec];exact ⟨(w.kids c).mpr ⟨hcN,hcr⟩,epath,hcx,w.par_of hcN hv epath⟩
theorem rz (w:Wk T r0 path blk kids) {v x y:Int} (hv:v∈ah) (hx:x∈ah) (hy:y∈ah) (hm:v∈path x) (hne:x≠v) (hxy:x∈path y):lp path v y=lp path v x:=by
 refine xA (w.rd.sub y hy x hxy) ?_;intro _ hp;refine xE hp ?_;clear hp;intro t ht;unfold lp;refine xA (w.rd.sub x hx v hm) ?_;intro _ hp2;have hlt:(path v).length < (path x).length:=by
  rcases Nat.lt_or_ge (path v).length (path x).length with h | h
  ·exact h
  ·have:=hp2.eq_of_length (jT hp2.length_le h)
   exact absurd (by rw [<- (w.rd.last x hx).2,<- this,(w.rd.last v hv).2]) hne
 rw [<- ht,aq,List.getElem?_append_left hlt,<- aq]
theorem kP (w:Wk T r0 path blk kids) {v c:Int} (hv:v∈ah) (hc:c∈ah) (e:path c=path v++[c]):c ∉ path v:=by
 intro h;have hn:=w.rd.nd c hc;rw [e] at hn;exact (bq.mp hn).2.2 c h c (ae.mpr rfl) rfl
set_option tactic.hygienic true in
theorem GJ (w:Wk T r0 path blk kids) {v:Int} (hv:v∈ah):dX (ck T) (ah.filter fun x=>x != v)=(zm T path blk kids v).length+((path v).dropLast.take 1).length:=by
 let N':=ah.filter fun x=>x != v
 have hN':∀ x,x∈N'↔x∈ah/\x≠v:=fun x=>by show x∈ah.filter _↔_;rw [aT];simp
 let loose:=zm T path blk kids v
 have hloose:∀ c,c∈loose↔c∈kids/\dJ path c=v/\dG T (blk c) (path v).dropLast=0:=fun c=>by
  show c∈kids.filter _↔_;rw [aT];simp
 have nn:∀ x∈ah,(0:Int)<=x:=by decide
 let L:Int->Int:=fun x=>if v∈path x then (if lp path v x∈loose then lp path v x else -1) else -1
 have notloose:∀ c,c∈kids->dJ path c=v->c ∉ loose->∃ y∈ah,c∈path y/\∃ u∈(path v).dropLast,c0 T y u=true:=by
  intro c hc hp hn;refine ir (w.par hc) ?_;intro _ ep _;rw [hp] at ep;have hcN:=((w.kids c).mp hc).1;have hz:=tr w.ok (ss:=blk c) (os:=(path v).dropLast) (fun y hy=>((w.blk c y).mp hy).1) (fun u hu=>(w.rd.sub v hv u ((ik w hv).mp hu).1).1) (fun u hu hb=>by
   have h1:=((ik w hv).mp hu).1;have h2:=((w.blk c u).mp hb).2;exact kP w hv hcN ep (w.rd.trans hv h2 h1))
  refine Classical.byContradiction fun hcon=>hn ((hloose c).mpr ⟨hc,hp,hz.mpr fun y hy u hu=>?_⟩)
  cases ha:c0 T y u with
  | false=>rfl
  | true=>exact absurd ⟨y,((w.blk c y).mp hy).1,((w.blk c y).mp hy).2,u,hu,ha⟩ hcon
 let reps:=loose++(if (path v).dropLast=[] then [] else [-1])
 have hlen:reps.length=loose.length+((path v).dropLast.take 1).length:=by
  show (loose++_).length=_;rw [ak];congr 1
  cases (path v).dropLast with
  | nil=>rfl
  | cons a l=>rfl
 rw [<- hlen];have over_root:∀ x∈ah,v ∉ path x->(path v).dropLast≠[]:=by
  intro x hx hn;have hvr:v≠r0:=fun e=>hn (e ▸ w.rd.head x hx)
  have:=(ik w hv).mpr ⟨w.rd.head v hv,Ne.symm hvr⟩
  exact List.ne_nil_of_mem this
 refine oG (L:=L) (List.Nodup.sublist eS (by decide)) ?_ ?_ ?_ ?_
 ·refine bq.mpr ⟨List.Nodup.sublist eS w.knd,by split<;>simp,fun a ha b hb e=>?_⟩
  have h1:=nn a ((w.kids a).mp ((hloose a).mp ha).1).1;split at hb
  ·cases hb
  ·rcases ae.mp hb with rfl;exact id ((pz [] [_] 0x2F2E3C1800E008) h1 e)
 ·
  intro p hp hx' hy';refine pE (eK.mp hp) ?_;intro hx hy hlt ha;have hxv:=((hN' _).mp hx').2;have hyv:=((hN' _).mp hy').2;have key:∀ x y:Int,x∈ah->y∈ah->x≠v->y≠v->c0 T x y=true->x∈path y->L x=L y:=by
   intro x y hx hy hxv hyv ha hxy;show (if v∈path x then _ else _)=(if v∈path y then _ else _);by_cases h1:v∈path x
   ·rw [if_pos h1,if_pos (w.rd.trans hy h1 hxy),rz w hv hx hy h1 hxv hxy]
   ·rw [if_neg h1]
    by_cases h2:v∈path y
    ·rw [if_pos h2]
     refine pE (nq w hv hy h2 hyv) ?_;intro k1 k2 k3 k4;rw [if_neg];intro hl;refine ir ((hloose _).mp hl) ?_;intro _ _ hz;have hxo:x∈(path v).dropLast:=(ik w hv).mpr ⟨(w.rd.comp hy hxy h2).resolve_right h1,hxv⟩;have hcN:=((w.kids _).mp k1).1;have hzz:=(tr w.ok (ss:=blk (lp path v y)) (os:=(path v).dropLast) (fun z hz=>((w.blk _ z).mp hz).1) (fun u hu=>(w.rd.sub v hv u ((ik w hv).mp hu).1).1) (fun u hu hb=>by
      have h1:=((ik w hv).mp hu).1;have h2:=((w.blk _ u).mp hb).2;exact kP w hv hcN k2 (w.rd.trans hv h2 h1))).mp hz y ((w.blk _ y).mpr ⟨hy,k3⟩) x hxo
     rw [gg,ha] at hzz;cases hzz
    ·rw [if_neg h2]
  rcases w.rd.tre _ hx _ hy ha with h | h
  ·exact key _ _ hx hy hxv hyv ha h
  ·exact (key _ _ hy hx hyv hxv (by rw [gg];exact ha) h).symm
 ·
  intro m hm;have medge:∀ x y,x∈ah->y∈ah->x≠v->y≠v->c0 T x y=true->m x=m y:=by
   intro x y hx hy hxv hyv ha;rcases Int.lt_trichotomy x y with h | h | h
   ·exact hm (x,y) (eK.mpr ⟨hx,hy,h,ha⟩) ((hN' x).mpr ⟨hx,hxv⟩) ((hN' y).mpr ⟨hy,hyv⟩)
   ·rw [h]
   ·exact (hm (y,x) (eK.mpr ⟨hy,hx,h,by rw [gg];exact ha⟩) ((hN' y).mpr ⟨hy,hyv⟩) ((hN' x).mpr ⟨hx,hxv⟩)).symm
  have mroot:∀ x∈ah,v ∉ path x->m x=m r0:=by
   intro x hx hn;refine w.rd.down (c:=r0) w.rd.root.1 (Q:=fun x=>v ∉ path x->m x=m r0) (fun J=>rfl) ?_ _ x hx (aE _) (w.rd.head x hx) hn;intro y hy x hx _ ep ha ih hn;have hny:v ∉ path y:=fun h=>hn (by rw [ep];exact ba _ h);have hxv:x≠v:=fun e=>hn (by rw [ep,e];simp);have hyv:y≠v:=fun e=>hny (e ▸ w.rd.self hy);rw [<- ih hny];exact (medge y x hy hx hyv hxv ha).symm
  have mkid:∀ x∈ah,x≠v->v∈path x->m x=m (lp path v x):=by
   intro x hx hxv hvx;refine pE (nq w hv hx hvx hxv) ?_;intro k1 k2 k3 k4;have hcN:=((w.kids _).mp k1).1;generalize lp path v x=c at k1 k2 k3 k4 hcN;refine w.rd.down (c:=c) hcN (Q:=fun x=>m x=m c) rfl ?_ _ x hx (aE _) k3;intro y hy x hx hcy ep ha ih;have hvc:v∈path c:=by rw [k2];exact ba _ (w.rd.self hv)
   have hcv:c≠v:=fun e=>kP w hv hcN k2 (by rw [e];exact w.rd.self hv);have hyv:y≠v:=fun e=>by
    rw [e] at hcy;exact hcv (w.rd.asym hcN hv hcy hvc)
   have hxv:x≠v:=fun e=>by
    have hcx:c∈path x:=by rw [ep];exact ba _ hcy
    rw [e] at hcx;exact hcv (w.rd.asym hcN hv hcx hvc)
   rw [<- ih];exact (medge y x hy hx hyv hxv ha).symm
  have mminus:∀ x∈ah,x≠v->L x=-1->m x=m r0:=by
   intro x hx hxv hL;by_cases h:v∈path x
   ·refine pE (nq w hv hx h hxv) ?_;intro k1 k2 k3 k4
    have hcN:=((w.kids _).mp k1).1;have hL:(if v∈path x then (if lp path v x∈loose then lp path v x else -1) else -1)=-1:=hL;rw [if_pos h] at hL;have hnl:lp path v x ∉ loose:=by
     intro hl;rw [if_pos hl] at hL
     have:=nn _ hcN;lia
    refine bG (notloose _ k1 k4 hnl) ?_;intro y hy hcy u hu ha;rw [mkid x hx hxv h];have hvc:v∈path (lp path v x):=by rw [k2];exact ba _ (w.rd.self hv)
    have hcv:lp path v x≠v:=fun e=>kP w hv hcN k2 (by rw [e];exact w.rd.self hv);have hvy:v∈path y:=w.rd.trans hy hvc hcy;have hyv:y≠v:=fun e=>by
     rw [e] at hcy;exact hcv (w.rd.asym hcN hv hcy hvc)
    have hsame:lp path v y=lp path v x:=by
     rw [rz w hv hcN hy hvc hcv hcy,<- rz w hv hcN hx hvc hcv k3]
    rw [<- hsame,<- mkid y hy hyv hvy];refine xA ((ik w hv).mp hu) ?_;intro hu1 hu2;have huN:=(w.rd.sub v hv u hu1).1;rw [medge y u hy huN hyv hu2 ha];refine mroot u huN fun hvu=>hu2 (w.rd.asym huN hv hu1 hvu)
   ·exact mroot x hx h
  intro x hx' y hy' e;refine xA ((hN' x).mp hx') ?_;intro hx hxv;refine xA ((hN' y).mp hy') ?_;intro hy hyv;by_cases h1:L x=-1
  ·rw [mminus x hx hxv h1,mminus y hy hyv (e ▸ h1)]
  ·have get:∀ z,L z≠-1->v∈path z/\L z=lp path v z:=by
    intro z hz;have hz':(if v∈path z then (if lp path v z∈loose then lp path v z else -1) else -1)≠-1:=hz;by_cases a:v∈path z
    ·refine ⟨a,?_⟩
     show (if v∈path z then (if lp path v z∈loose then lp path v z else -1) else -1)=_;rw [if_pos a] at hz' ⊢;by_cases b:lp path v z∈loose
     ·rw [if_pos b]
     ·rw [if_neg b] at hz';exact absurd rfl hz'
    ·rw [if_neg a] at hz';exact absurd rfl hz'
   refine xA (get x h1) ?_;intro a1 a2;refine xA (get y (e ▸ h1)) ?_;intro b1 b2;rw [mkid x hx hxv a1,mkid y hy hyv b1,<- a2,<- b2,e]
 ·
  intro z;constructor
  ·intro hz
   rcases aM.mp hz with hz | hz
   ·refine ir ((hloose z).mp hz) ?_;intro hk hp _
    refine ir (w.par hk) ?_;intro _ ep _;rw [hp] at ep;have hzN:=((w.kids z).mp hk).1;have hvz:v∈path z:=by rw [ep];exact ba _ (w.rd.self hv)
    have hzv:z≠v:=fun e=>kP w hv hzN ep (by rw [e];exact w.rd.self hv);refine ⟨z,(hN' z).mpr ⟨hzN,hzv⟩,?_⟩;have en:lp path v z=z:=by
     unfold lp;rw [ep,aq,f6 (aE _),ky];rfl
    show (if v∈path z then (if lp path v z∈loose then lp path v z else -1) else -1)=z;rw [if_pos hvz,en,if_pos hz]
   ·split at hz
    ·cases hz
    ·rename_i hne
     rcases ae.mp hz with rfl
     have hvr:v≠r0:=by
      intro e;apply hne;rw [e,w.rd.root.2];rfl
     refine ⟨r0,(hN' r0).mpr ⟨w.rd.root.1,Ne.symm hvr⟩,?_⟩;show (if v∈path r0 then _ else _)=_;rw [if_neg];rw [w.rd.root.2];exact fun h=>hvr (ae.mp h)
  ·rintro ⟨x,hx',rfl⟩
   refine xA ((hN' x).mp hx') ?_;intro hx hxv;show (if v∈path x then (if lp path v x∈loose then lp path v x else -1) else -1)∈loose++_;by_cases h:v∈path x
   ·rw [if_pos h]
    by_cases hl:lp path v x∈loose
    ·rw [if_pos hl];exact ba _ hl
    ·rw [if_neg hl]
     refine pE (nq w hv hx h hxv) ?_;intro k1 k2 k3 k4;refine bG (notloose _ k1 k4 hl) ?_;intro _ _ _ u hu _;rw [if_neg (List.ne_nil_of_mem hu)];exact b6 _ (ae.mpr rfl)
   ·rw [if_neg h,if_neg (over_root x hx h)]
    exact b6 _ (ae.mpr rfl)
end
end
end Mine
end
section
namespace Mine
noncomputable section
section
variable {T:eA}{r0:Int}{path:Int->List Int}{blk:Int->List Int}{kids:List Int}
noncomputable def rU (path:Int->List Int) (kids:List Int) (a b one:Int):Bool:=decide (one∈kids) && (dJ path one == a || dJ path one == b)
noncomputable def ii (path:Int->List Int) (kids:List Int) (a b:Int):List Int:=[a,b].filter (rU path kids a b)
noncomputable def eP (blk:Int->List Int) (c:Int):List Int:=ah.filter fun x=>!(ce (blk c) x)
noncomputable def iw (T:eA) (path:Int->List Int) (blk:Int->List Int) (kids:List Int) (a b:Int):Bool:=match ii path kids a b with
 | []=>false
 | c::_=>dG T (blk c) (eP blk c) == dG T [a] [b]
noncomputable def cZ (T:eA) (a b:Int):List (Int×Int):=(ck T).filter fun p=>!(p.1 == a && (p.2 == b && true))
theorem tQ {a b:Int}{p:Int×Int}:p∈cZ T a b↔p∈ck T/\¬ (p.1=a/\p.2=b):=by
 unfold cZ;rw [aT];refine and_congr_right fun J=>?_;by_cases h1:p.1=a<;>by_cases h2:p.2=b<;>simp [h1,h2]
theorem j5 {c x:Int}:x∈eP blk c↔x∈ah/\x ∉ blk c:=by
 unfold eP;rw [aT];refine and_congr_right fun J=>?_;rw [Bool.not_eq_true',<- Bool.not_eq_true,bA]
theorem sB (w:Wk T r0 path blk kids) (c:Int):(blk c++eP blk c).Perm ah:=by
 refine (List.perm_ext_iff_of_nodup ?_ (by decide)).mpr fun x=>?_
 ·refine bq.mpr ⟨w.bnd c,List.Nodup.sublist eS (by decide),fun x hx y hy e=>?_⟩
  exact (j5.mp hy).2 (e ▸ hx)
 ·rw [aM,j5]
  constructor
  ·rintro (h | h)
   ·exact ((w.blk c x).mp h).1
   ·exact h.1
  ·intro h
   by_cases hb:x∈blk c
   ·exact .inl hb
   ·exact .inr ⟨h,hb⟩
theorem GD (w:Wk T r0 path blk kids) {a b:Int} (hp:(a,b)∈ck T):iw T path blk kids a b=decide (dX (cZ T a b) ah > 1):=by
 refine pE (eK.mp hp) ?_;intro ha hb hlt hab;dsimp only at ha hb hlt hab;have hne:a≠b:=fun e=>by exact id ((pz [] [_,_] 0x2F2E101E10) hlt e)
 have medge:∀ {m:Int->Int},(∀ p∈cZ T a b,p.1∈ah->p.2∈ah->m p.1=m p.2)->∀ x y,x∈ah->y∈ah->c0 T x y=true->¬ ((x=a/\y=b)\/(x=b/\y=a))->m x=m y:=by
  intro m hm x y hx hy hadj hnot;rcases Int.lt_trichotomy x y with h | h | h
  ·exact hm (x,y) (tQ.mpr ⟨eK.mpr ⟨hx,hy,h,hadj⟩,fun e=>hnot (.inl e)⟩) hx hy
  ·rw [h]
  ·exact (hm (y,x) (tQ.mpr ⟨eK.mpr ⟨hy,hx,h,by rw [gg];exact hadj⟩,fun e=>hnot (.inr ⟨e.2,e.1⟩)⟩) hy hx).symm
 have one:∀ (hj:∀ m:Int->Int,(∀ p∈cZ T a b,p.1∈ah->p.2∈ah->m p.1=m p.2)->∀ x∈ah,m x=m r0),decide (dX (cZ T a b) ah > 1)=false:=by
  intro hj
  have:dX (cZ T a b) ah=[(0:Int)].length:=by
   refine oG (L:=fun J=>0) (by decide) (by simp) (fun J J J J=>rfl) (fun m hm x hx y hy J=>by rw [hj m hm x hx,hj m hm y hy]) fun z=>?_;constructor
   ·intro h;exact ⟨r0,w.rd.root.1,(ae.mp h).symm⟩
   ·rintro ⟨_,_,rfl⟩;exact ae.mpr rfl
  rw [this];rfl
 have lowmem:∀ c,c∈ii path kids a b↔(c=a\/c=b)/\c∈kids/\(dJ path c=a\/dJ path c=b):=by
  intro c;unfold ii;rw [aT];unfold rU;simp
 unfold iw
 cases hlow:ii path kids a b with
 | nil=>
  dsimp only;refine (one fun m hm x hx=>?_).symm;refine w.rd.down (c:=r0) w.rd.root.1 (Q:=fun x=>m x=m r0) rfl ?_ _ x hx (aE _) (w.rd.head x hx);intro y hy x hx _ ep hadj ih;have hpar:=w.par_of hx hy ep;have hxk:x∈kids:=(w.kids x).mpr ⟨hx,fun e=>by
   rw [e,w.rd.root.2] at ep
   have:=congrArg ef ep
   have hl:=eR.mpr (w.rd.last y hy).1;rw [ak,bd] at this;exact id ((pn [_] 0x2F1D0082DA18018) this hl)⟩
  rw [<- ih];refine (medge hm y x hy hx hadj ?_).symm;rintro (⟨e1,e2⟩ | ⟨e1,e2⟩)
  ·have:x∈ii path kids a b:=(lowmem x).mpr ⟨.inr e2,hxk,.inl (by rw [hpar,e1])⟩
   rw [hlow] at this;cases this
  ·have:x∈ii path kids a b:=(lowmem x).mpr ⟨.inl e2,hxk,.inr (by rw [hpar,e1])⟩
   rw [hlow] at this;cases this
 | cons c rest=>
  dsimp only;refine ir ((lowmem c).mp (by rw [hlow];exact am)) ?_;intro hc1 hck hc2;refine ir (w.par hck) ?_;intro hpN hpe hpa;refine xA ((w.kids c).mp hck) ?_;intro hcN hcr;generalize hpp:dJ path c=p at hc2 hpN hpe hpa;have hcp:c ∉ path p:=kP w hpN hcN hpe;have hpc:p∈path c:=by rw [hpe];exact ba _ (w.rd.self hpN)
  have hpne:p≠c:=fun e=>hcp (by rw [e];exact w.rd.self hcN);have hset:(a=p/\b=c)\/(a=c/\b=p):=by
   rcases hc1 with e1 | e1<;>rcases hc2 with e2 | e2
   ·exact absurd (e2.trans e1.symm) hpne
   ·exact .inr ⟨e1.symm,e2.symm⟩
   ·exact .inl ⟨e2.symm,e1.symm⟩
   ·exact absurd (e2.trans e1.symm) hpne
  have hcb:c∈blk c:=(w.blk c c).mpr ⟨hcN,w.rd.self hcN⟩;have hpr:p∈eP blk c:=j5.mpr ⟨hpN,fun h=>hcp ((w.blk c p).mp h).2⟩;have hacross:(a∈blk c/\b∈eP blk c)\/(b∈blk c/\a∈eP blk c):=by
   rcases hset with ⟨e1,e2⟩ | ⟨e1,e2⟩
   ·exact .inr ⟨by rw [e2];exact hcb,by rw [e1];exact hpr⟩
   ·exact .inl ⟨by rw [e1];exact hcb,by rw [e2];exact hpr⟩
  have hflow:=zM w.ok (sB w c) ha hb hne hacross;have mout:∀ {m:Int->Int},(∀ p∈cZ T a b,p.1∈ah->p.2∈ah->m p.1=m p.2)->∀ x∈ah,c ∉ path x->m x=m r0:=by
   intro m hm x hx hn;refine w.rd.down (c:=r0) w.rd.root.1 (Q:=fun x=>c ∉ path x->m x=m r0) (fun J=>rfl) ?_ _ x hx (aE _) (w.rd.head x hx) hn;intro y hy x hx _ ep hadj ih hn;have hny:c ∉ path y:=fun h=>hn (by rw [ep];exact ba _ h);have hxc:x≠c:=fun e=>hn (by rw [ep,e];simp);have hyc:y≠c:=fun e=>hny (by rw [e];exact w.rd.self hcN);rw [<- ih hny];refine (medge hm y x hy hx hadj ?_).symm;rcases hset with ⟨e1,e2⟩ | ⟨e1,e2⟩
   ·rintro (⟨f1,f2⟩ | ⟨f1,f2⟩)
    ·exact hxc (f2.trans e2)
    ·exact hyc (f1.trans e2)
   ·rintro (⟨f1,f2⟩ | ⟨f1,f2⟩)
    ·exact hyc (f1.trans e1)
    ·exact hxc (f2.trans e1)
  have min:∀ {m:Int->Int},(∀ p∈cZ T a b,p.1∈ah->p.2∈ah->m p.1=m p.2)->∀ x∈ah,c∈path x->m x=m c:=by
   intro m hm x hx hcx;refine w.rd.down (c:=c) hcN (Q:=fun x=>m x=m c) rfl ?_ _ x hx (aE _) hcx;intro y hy x hx hcy ep hadj ih;have hyp:y≠p:=fun e=>hcp (e ▸ hcy);have hxp:x≠p:=fun e=>by
    have:c∈path x:=by rw [ep];exact ba _ hcy
    exact hcp (e ▸ this)
   rw [<- ih];refine (medge hm y x hy hx hadj ?_).symm;rcases hset with ⟨e1,e2⟩ | ⟨e1,e2⟩
   ·rintro (⟨f1,f2⟩ | ⟨f1,f2⟩)
    ·exact hyp (f1.trans e1)
    ·exact hxp (f2.trans e1)
   ·rintro (⟨f1,f2⟩ | ⟨f1,f2⟩)
    ·exact hxp (f2.trans e2)
    ·exact hyp (f1.trans e2)
  by_cases hal:∀ u∈blk c,∀ v∈eP blk c,c0 T u v=true->(u=a/\v=b)\/(u=b/\v=a)
  ·
   rw [hflow.mpr hal,beq_self_eq_true]
   have:dX (cZ T a b) ah=[(1:Int),0].length:=by
    refine oG (L:=fun x=>if c∈path x then 1 else 0) (by decide) (by simp) ?_ ?_ ?_
    ·intro q hq hx hy
     refine xA (tQ.mp hq) ?_;intro hq1 hq2;refine pE (eK.mp hq1) ?_;intro _ _ hql hqa;by_cases h1:c∈path q.1<;>by_cases h2:c∈path q.2
     ·rw [if_pos h1,if_pos h2]
     ·exfalso
      rcases hal q.1 ((w.blk c _).mpr ⟨hx,h1⟩) q.2 (j5.mpr ⟨hy,fun h=>h2 ((w.blk c _).mp h).2⟩) hqa with e | e
      ·exact hq2 e
      ·exact id ((pz [] [_,_,_,_] 0x2F0F2E032E121E321E10) hlt hql e)
     ·exfalso
      rcases hal q.2 ((w.blk c _).mpr ⟨hy,h2⟩) q.1 (j5.mpr ⟨hx,fun h=>h1 ((w.blk c _).mp h).2⟩) (by rw [gg];exact hqa) with e | e
      ·exact id ((pz [] [_,_,_,_] 0x2F0F2E122E031E321E10) hlt hql e)
      ·exact hq2 ⟨e.2,e.1⟩
     ·rw [if_neg h1,if_neg h2]
    ·intro m hm x hx y hy e
     by_cases h1:c∈path x<;>by_cases h2:c∈path y
     ·rw [min hm x hx h1,min hm y hy h2]
     ·rw [if_pos h1,if_neg h2] at e;cases e
     ·rw [if_neg h1,if_pos h2] at e;cases e
     ·rw [mout hm x hx h1,mout hm y hy h2]
    ·intro z
     constructor
     ·intro hz
      rcases ar.mp hz with rfl | hz
      ·exact ⟨c,hcN,if_pos (w.rd.self hcN)⟩
      ·rcases ae.mp hz with rfl
       exact ⟨p,hpN,if_neg hcp⟩
     ·rintro ⟨x,_,rfl⟩
      split<;>simp
   rw [this];rfl
  ·
   have hff:(dG T (blk c) (eP blk c) == dG T [a] [b])=false:=by
    cases h:(dG T (blk c) (eP blk c) == dG T [a] [b]) with
    | false=>rfl
    | true=>exact absurd (hflow.mp (eq_of_beq h)) hal
   rw [hff];refine (one fun m hm=>?_).symm;have hex:∃ u∈blk c,∃ v∈eP blk c,c0 T u v=true/\¬ ((u=a/\v=b)\/(u=b/\v=a)):=by
    refine Classical.byContradiction fun hc=>hal fun u hu v hv hadj=>Classical.byContradiction fun hn=>hc ⟨u,hu,v,hv,hadj,hn⟩
   obtain ⟨u,hu,v,hv,hadj,hn⟩:=hex;refine xA ((w.blk c u).mp hu) ?_;intro huN hcu;refine xA (j5.mp hv) ?_;intro hvN hvb;have hcv:c ∉ path v:=fun h=>hvb ((w.blk c v).mpr ⟨hvN,h⟩);have e1:=medge hm u v huN hvN hadj hn;have e2:=min hm u huN hcu;have e3:=mout hm v hvN hcv;intro x hx;by_cases h:c∈path x
   ·rw [min hm x hx h,<- e2,e1,e3]
   ·exact mout hm x hx h
end
end
end Mine
end
section
namespace Mine
noncomputable section
theorem w5 {s l:List Int} (h:s.Sublist l) (hn:l.Nodup):l.filter (fun x=>decide (x∈s))=s:=by
 induction h with
 | slnil=>rfl
 | @cons s l a h ih=>
  refine xA (bI.mp hn) ?_;intro h1 h2;rw [aU (by simpa using fun hm=>h1 (h.subset hm)),ih h2]
 | @cons_cons s l a h ih=>
  refine xA (bI.mp hn) ?_;intro h1 h2;rw [aZ (by simp)];congr 1
  conv=>rhs;rw [<- ih h2]
  refine iK fun x hx=>?_;refine decide_eq_decide.mpr ⟨fun hm=>(ar.mp hm).resolve_left fun e=>h1 (e ▸ hx),fun hm=>ai _ hm⟩
section
variable {adj:Int->Int->Bool}{order:List Int}{r0:Int}{P:Pa}
theorem jV.subl (t:jV adj order r0 P):∀ n k (hk:k < P.length),k<=n->(P[k]).Sublist ((P.take (k+1)).map aJ)
 | n,0,hk,_=>by
  have e:P[0]=[r0]:=by have:=t.first;rw [nj,av hk] at this;injection this
  have e2:P.take 1=[P[0]]:=by cases P with | nil=>simp at hk | cons a l=>rfl
  rw [e2,e];exact List.Sublist.refl _
 | 0,k+1,_,h=>by lia
 | n+1,k+1,hk,hn=>by
  have hmem:=aY hk;have h2:=t.two k hk;obtain ⟨m,hm,e⟩:=a7.mp (t.up _ hmem h2);have hlm:aJ P[m]∈P[k+1]:=by rw [e];exact cb _ (g6 (by intro h0;have:=congrArg ef h0;rw [dq,bB] at this;exact id ((pn [_,_,_] 0x2F2D08B1820D2281D1A180) hk h2 this)))
  have hle:=(t.pre hm hk hlm).1;have hmk:m<=k:=by
   rcases Nat.lt_or_ge k m with h | h
   ·exfalso
    have:m=k+1:=by exact id ((pn [_,_] 0x2DA18101D010DA1810) hle h)
    subst this
    have:=congrArg ef e
    rw [dq] at this;exact id ((pn [_,_,_] 0x2F2DB18221D1A1800D2281D1A180) hk h2 hm this)
   ·exact h
  have ih:=t.subl n m hm (by exact id ((pn [_,_,_] 0x0D120D020DA181A180) hn hmk));have hs:=dd (t.ne _ hmem);have ht:(P.take (k+1+1)).map aJ=(P.take (k+1)).map aJ++[aJ P[k+1]]:=by
   rw [List.take_succ_eq_append_getElem hk,aN];rfl
  rw [ht,<- hs,<- e];have hsub:(P.take (m+1)).Sublist (P.take (k+1)):=(List.take_prefix_take_left (by exact id ((pn [_,_] 0x0DA181A1800D100DA1810) hle hmk))).sublist;rw [fg];exact List.Sublist.append (ih.trans (hsub.map _)) (List.Sublist.refl _)
theorem jV.above (t:jV adj order r0 P) {v:Int} (hv:v∈order):(P.map aJ).filter (fun x=>ce (gh P x) v)=cP P v:=by
 refine xA (t.path_mem hv) ?_;intro hm _;obtain ⟨k,hk,e⟩:=a7.mp hm;have hs:(cP P v).Sublist (P.map aJ):=by
  rw [<- e];exact (t.subl k k hk (aE _)).trans ((List.take_sublist _ _).map _)
 conv=>rhs;rw [<- w5 hs t.nd]
 refine iK fun x J=>?_;rw [dE,bA,decide_eq_true_eq,t.blk];exact ⟨fun h=>h.2,fun h=>⟨hv,h⟩⟩
theorem jV.over (t:jV adj order r0 P) {v:Int} (hv:v∈order):(P.map aJ).filter (fun x=>ce (gh P x) v && !(x == v))=(cP P v).dropLast:=by
 have h:=t.above hv;have e:(P.map aJ).filter (fun x=>ce (gh P x) v && !(x == v))=((P.map aJ).filter (fun x=>ce (gh P x) v)).filter fun x=>!(x == v):=by
  rw [List.filter_filter];refine iK fun x J=>Bool.and_comm _ _
 rw [e,h];refine xA (t.path_mem hv) ?_;intro hm el;obtain ⟨k,hk,e2⟩:=a7.mp hm;have hn:=(t.path k hk).1;rw [e2] at hn;have hs:=dd (t.ne _ hm);rw [el] at hs;rw [<- hs] at hn
 conv=>lhs;rw [<- hs]
 rw [List.filter_append,bS.mpr]
 ·simp
 ·intro x hx
  have:x≠v:=fun e=>(bq.mp hn).2.2 x hx v (ae.mpr rfl) e
  simpa using this
noncomputable def iu (P:Pa):List Int:=(P.drop 1).map aJ
theorem jV.lasts (t:jV adj order r0 P):P.map aJ=r0::iu P:=by
 have:=t.first
 cases P with
 | nil=>cases this
 | cons p l=>injection this with this;subst this;rfl
theorem jV.kid (t:jV adj order r0 P) (c:Int):c∈iu P↔c∈order/\c≠r0:=by
 have hn:=t.nd;rw [t.lasts] at hn;refine xA (bI.mp hn) ?_;intro h1 _;constructor
 ·intro h
  refine ⟨?_,fun e=>h1 (e ▸ h)⟩
  have:c∈P.map aJ:=by rw [t.lasts];exact ai _ h
  refine bO (aB.mp this) ?_;rintro p hp rfl;exact t.ord p hp
 ·rintro ⟨h,hne⟩
  have:=t.all c h
  rw [t.lasts] at this;exact (ar.mp this).resolve_left hne
theorem jV.owners (t:jV adj order r0 P):ic P=(iu P).map fun v=>(v,dJ (cP P) v):=by
 unfold ic iu;rw [ao];refine cD fun p hp=>?_;show (aJ p,aJ p.dropLast)=(aJ p,aJ (cP P (aJ p)).dropLast);rw [t.pathOf_eq (List.drop_subset _ _ hp)]
end
theorem Rd.mono {adj:Int->Int->Bool}{N N':List Int}{r0:Int}{path:Int->List Int} (r:Rd adj N r0 path) (h:∀ x,x∈N↔x∈N'):Rd adj N' r0 path where
 root:=⟨(h _).mp r.root.1,r.root.2⟩
 last:=fun x hx=>r.last x ((h x).mpr hx)
 nd:=fun x hx=>r.nd x ((h x).mpr hx)
 sub:=fun x hx y hy=>⟨(h y).mp (r.sub x ((h x).mpr hx) y hy).1,(r.sub x ((h x).mpr hx) y hy).2⟩
 head:=fun x hx=>r.head x ((h x).mpr hx)
 up:=fun x hx hne=>by refine bO (r.up x ((h x).mpr hx) hne) ?_;intro y hy e;exact ⟨y,(h y).mp hy,e⟩
 tre:=fun x hx y hy=>r.tre x ((h x).mpr hx) y ((h y).mpr hy)
theorem Ht {T:eA} (ok:rY T) {order:List Int}{r0:Int}{P:Pa} (ho:order.Perm ah) (t:jV (c0 T) order r0 P):Wk T r0 (cP P) (gh P) (iu P) where
 ok:=ok
 rd:=(t.rd (gg T)).mono fun x=>ho.mem_iff
 blk:=fun x y=>by rw [t.blk,ho.mem_iff]
 bnd:=t.blk_nodup
 kids:=fun c=>by rw [t.kid,ho.mem_iff]
 knd:=by
  have hn:=t.nd;rw [t.lasts] at hn;exact (bI.mp hn).2
theorem w9 (f:Int->Int) (l:List Int) (j:Int):gI (l.map fun v=>(v,f v)) j=if j∈l then some (f j) else none:=by
 induction l with
 | nil=>simp [wY]
 | cons a l ih=>
  rw [aw,fM,ih];by_cases h:a=j
  ·subst h;rw [if_pos rfl,if_pos am]
  ·rw [if_neg h]
   by_cases h2:j∈l
   ·rw [if_pos h2,if_pos (ai _ h2)]
   ·rw [if_neg h2,if_neg (fun hm=>(ar.mp hm).elim (fun e=>h e.symm) h2)]
end
end Mine
end
section
namespace Mine
noncomputable section
theorem y8 {α:Type} (f:Int->α) {l:List Int}{v:Int} (h:v∈l):gB (l.map fun x=>(x,f x)) v=some (f v):=by
 induction l with
 | nil=>cases h
 | cons a l ih=>
  rw [aw];unfold gB;rw [g8];by_cases e:a=v
  ·subst e;simp
  ·simp only [e,decide_false]
   exact ih ((ar.mp h).resolve_left fun e'=>e e'.symm)
noncomputable def nO (ls:List Int) (bk:Int->List Int):PV:=q0 (ls.map fun x=>(x,bk x))
theorem i9 {ls:List Int}{bk:Int->List Int}{v:Int} (h:v∈ls):item (nO ls bk) (.int v)=some (aL (bk v)):=by
 show ej _ _=_;rw [fJ aL,y8 bk h];rfl
theorem u7 {ks:List Int}{par:Int->Int}{v:Int} (h:v∈ks):item (bc (ks.map fun x=>(x,par x))) (.int v)=some (.int (par v)):=by
 show ej _ _=_;rw [d2,show gI (ks.map fun x=>(x,par x)) v=some (par v) from y8 par h];rfl
noncomputable def HX (j:Nat->PV) (c:Nat->Nat) (T:eA) (order:List Int) (ld:List (Int×Str)) (ks:List Int) (par:Int->Int) (ls:List Int) (bk:Int->List Int):SE:=
 I5 j c T order ld (ks.map fun v=>(v,par v)) (ls.map fun x=>(x,bk x))
section
variable {j:Nat->PV}{c:Nat->Nat}{T:eA}{order:List Int}{ld:List (Int×Str)}{ks:List Int}{par:Int->Int}{ls:List Int}{bk:Int->List Int}{pth:Int->List Int}{r0:Int}{n:Nat}
theorem IN (hls:ls.Perm ah) (hab:∀ v∈ah,ls.filter (fun x=>ce (bk x) v)=pth v) (ho:∃ tl,order=r0::tl) (hp:order.Perm ah) (hk:∀ v,v∈ks↔v∈ah/\v≠r0) (hkn:ks.Nodup) (hpar:∀ v∈ks,∃ l,pth v=l++[par v,v]) :
  ex o3 [] (n+110) lT (HX j c T order ld ks par ls bk) (fX 25)=some (.next,HX j c T order ld ks par ls bk):=by
 conv=>lhs;arg 6;whnf
 have h6:ls.length=6:=hls.length_eq;have ho6:order.length=6:=hp.length_eq;refine xE ho ?_;clear ho;rintro tl rfl;have hnd:(r0::tl).Nodup:=hp.nodup_iff.mpr (by decide);refine xA (bI.mp hnd) ?_;intro hr htl;have htk:∀ v,v∈tl↔v∈ks:=by
  intro v;rw [hk,<- hp.mem_iff];constructor
  ·intro h;exact ⟨ai _ h,fun e=>hr (e ▸ h)⟩
  ·rintro ⟨h,hne⟩;exact (ar.mp h).resolve_left hne
 have htl6:tl.length<=6:=by rw [aD] at ho6;exact id ((pn [_] 0x0D6802D68A180) ho6)
 refine cn (c:=false) ?_ (fun h=>nomatch h) fun J=>by rfl
 refine br (da (a:=bc (tl.map fun v=>(v,par v))) (b:=bc (ks.map fun v=>(v,par v))) ?_ (by rfl) (by kernel_rfl) (oF ?_))
 ·refine (jH (items:=tl.map .int) (rs:=(tl.filter fun J=>true).map fun v=>(.int v,.int (par v))) (by kernel_rfl) ?_ ?_ ?_).trans ?_
  ·refine (yv (fB (b:=aL (r0::tl)) (l:=some ((1:Nat):Int)) (h:=none) (by kernel_rfl) (by rfl) (by rfl) (fZ (by rw [aa];exact id ((pn [_] 0x0D1000003902D680) ho6)) (vY _ _ (by rw [aa,aD];exact id (pn [_] 0x0DA18018)))))).trans ?_
   exact if_pos (by rw [df,aa];exact id ((pn [_] 0x0D10000039B1802D680) ho6))
  ·refine ij (fun J=>true) (fun v=>.int (par v)) (fun v=>.int v) (fun v=>.int v) 60 (by kernel_rfl) tl _ ?_ ?_
   ·exact id ((pn [_,_] 0x0DA6A191A18A03C190D680) htl6)
   ·intro v m hv
    have hvk:=(htk v).mp hv;have hvN:=((hk v).mp hvk).1;refine xE (hpar v hvk) ?_;intro l hl;have hpl:(pth v).length<=6:=by rw [<- hab v hvN];have:=aF (fun x=>ce (bk x) v) ls;exact id ((pn [_,_] 0x0D6810D012D680) h6 this)
    refine ⟨[nm "blocks" (nO ls bk),nm "node" (.int v)],by kernel_rfl,by rfl,fun J=>⟨?_,by rfl⟩⟩;refine bt (b:=aL [par v,v]) (k:=.int ((0:Nat):Int)) (by intros;intro h;cases h) (by rfl) ?_ (by rfl) (em (by rfl) (by simp));show ev _ _ _ _ _=_;refine fB (b:=aL (pth v)) (l:=some (-2)) (h:=none) ?_ (by rfl) (by rfl) (fZ (by rw [aa];exact id ((pn [_] 0x0D1000003900D680) hpl)) ?_)
    ·show ev _ _ _ _ _=_
     refine (bw (items:=ls.map .int) (rs:=(ls.filter fun x=>ce (bk x) v).map fun x=>(.none,.int x)) (by rfl) ?_ ?_ ?_).trans ?_
     ·refine Eq.trans (b:=if ((ls.map fun x=>(x,bk x)).map fun p=>(p.1,aL p.2)).length<=1048576 then some (((ls.map fun x=>(x,bk x)).map fun p=>(p.1,aL p.2)).map fun kv=>PV.int kv.1) else none) (by rfl) ?_
      rw [if_pos (by rw [aa,aa];exact id ((pn [_] 0x0D1000003902D680) h6)),ao,ao];rfl
     ·refine bx (fun x=>ce (bk x) v) .int .int 30 (by rfl) ls _ ?_ ?_
      ·exact id ((pn [_,_] 0x0DA37191A18A01E192D680) h6)
      ·intro x q hx
       refine ⟨[nm "blocks" (nO ls bk),nm "node" (.int v),nm "one" (.int x)],by rfl,?_,fun J=>by rfl⟩;refine bj (br (iF (a:=.int v) (b:=aL (bk x)) (by rfl) (by rfl) (by rfl) ?_ (fT _ _)));show ev _ _ _ _ _=_;exact bt (b:=nO ls bk) (k:=.int x) (by intros;intro h;cases h) (by rfl) (by rfl) (by rfl) (i9 hx)
     ·rw [aa];have:=aF (fun x=>ce (bk x) v) ls;exact id ((pn [_,_] 0x0D1000003910D012D680) h6 this)
     ·rw [ao,hab v hvN];rfl
    ·rw [hl]
     show ms ((l++[par v,v]).map PV.int) (some (-2)) none=_;unfold ms b9;simp only [d9,jU,bJ,gc,aa,ak,aD,bB];rw [if_pos (by exact id (pn [] 0x1E083C28)),dI (by simp),aN,show ((-2:Int)+((l.length+(0+1+1):Nat):Int)).toNat=(l.map PV.int).length from by rw [aa];exact id (pn [_] 0x2D02CA2CAA18A180803C28)];exact pA ..
  ·rw [aa];have:=aF (fun (_:Int)=>true) tl;exact id ((pn [_,_] 0x0D1000003910D010D680) htl6 this)
  ·rw [bS.mpr (fun J J=>rfl)]
   have:=uk (tl.map fun v=>(v,par v)) (by rw [ao];show (tl.map id).Nodup;rw [ip];exact htl)
   rw [ao] at this;exact this
 ·refine xc ?_ ?_ ?_ ?_
  ·rw [ao];show (tl.map id).Nodup;rw [ip];exact htl
  ·rw [ao];show (ks.map id).Nodup;rw [ip];exact hkn
  ·intro x
   rw [w9,w9];by_cases h:x∈tl
   ·rw [if_pos h,if_pos ((htk x).mp h)]
   ·rw [if_neg h,if_neg (fun h'=>h ((htk x).mpr h'))]
  ·rw [aa];exact id ((pn [_,_] 0x0DA6B191A4800D680) htl6)
noncomputable def FT (j:Nat->PV) (c:Nat->Nat) (T:eA) (order:List Int) (ld:List (Int×Str)) (ks:List Int) (par:Int->Int) (ls:List Int) (bk:Int->List Int):SE:=HX j c T order ld ks par ls bk++[nm "pairs" (gL (ck T))]
theorem lW (T:eA):(ck T).length<=36:=by
 have:∀ l:List Int,(l.flatMap fun u=>(ah.filter fun v=>jM T u v).map fun v=>(u,v)).length<=6 * l.length:=by
  intro l
  induction l with
  | nil=>exact aE _
  | cons u l ih=>
   rw [List.flatMap_cons,ak,aa,aD]
   have:=aF (fun v=>jM T u v) ah
   have e:ah.length=6:=rfl;exact id ((pn [_,_,_,_] 0x0D4CA18168A022D6830D320D4C1680) ih this e)
 exact this ah
theorem Ir (ok:rY T):ex o3 [] (n+110) lT (HX j c T order ld ks par ls bk) (fX 26)=some (.next,FT j c T order ld ks par ls bk):=by
 conv=>lhs;arg 6;whnf
 refine (bm (u:=gL (ck T)) (by rfl) ?_).trans (by kernel_rfl)
 let tp:Int×Int->PV:=fun p=>.tup [.int p.1,.int p.2]
 refine (bw (items:=ah.map .int) (rs:=(ah.filter fun J=>true).flatMap fun u=>(ah.filter fun v=>jM T u v).map fun v=>(.none,tp (u,v))) (by kernel_rfl) (by kernel_rfl) ?_ ?_).trans ?_
 ·refine nQ (fun J=>true) (fun u=>(ah.filter fun v=>jM T u v).map fun v=>(.none,tp (u,v))) .int 70 (by kernel_rfl) ah _ ?_ ?_
  ·show 70+6+1<=_
   exact id (pn [_] 0x0DA6C190A18A684619)
  ·intro u m hu
   refine ⟨[nm "nodes" (aL ah),nm "due" (du T),nm "one" (.int u)],by kernel_rfl,by rfl,fun J=>⟨ah.map .int,by rfl,?_⟩⟩;refine bx (fun v=>jM T u v) (fun v=>tp (u,v)) .int 40 (by rfl) ah _ ?_ ?_
   ·show 40+6+1<=_
    exact id (pn [_] 0x0DA46190A18A682819)
   ·intro v q hv
    refine xA (ok.row hu) ?_;intro ru _;refine xA (ok.row hv) ?_;intro rv _;refine ⟨[nm "nodes" (aL ah),nm "due" (du T),nm "one" (.int u),nm "two" (.int v)],by rfl,?_,fun J=>by rfl⟩;have e:jM T u v=(decide (u < v) && ((gI (cF T v) u).isSome || ((gI (cF T u) v).isSome || false))):=by unfold jM;rw [jf ok hv hu,jy]
    rw [e];refine bj (hX (de (b:=decide (u < v)) (by rfl) fun J=>bj (kI (ci ?_ fun J=>ci ?_ fun J=>jk))))
    ·refine br (iF (a:=.int u) (b:=bc (cF T v)) (by rfl) (by rfl) (by rfl) ?_ ?_)
     ·show ev _ _ _ _ _=_
      exact bt (b:=du T) (k:=.int v) (by intros;intro h;cases h) (by rfl) (by rfl) (by rfl) (j2 rv)
     ·show some (ej _ u).isSome=_
      rw [d2,bC]
    ·refine br (iF (a:=.int v) (b:=bc (cF T u)) (by rfl) (by rfl) (by rfl) ?_ ?_)
     ·show ev _ _ _ _ _=_
      exact bt (b:=du T) (k:=.int u) (by intros;intro h;cases h) (by rfl) (by rfl) (by rfl) (j2 ru)
     ·show some (ej _ v).isSome=_
      rw [d2,bC]
 ·have h:=lW T
  have e:((ah.filter fun J=>true).flatMap fun u=>(ah.filter fun v=>jM T u v).map fun v=>(PV.none,tp (u,v))).length=(ck T).length:=by
   rw [bS.mpr (fun J J=>rfl)];unfold ck;rw [List.length_flatMap,List.length_flatMap];simp only [aa]
  exact id ((pn [_,_] 0x0D1000003912D010D24190) h e)
 ·rw [bS.mpr (fun J J=>rfl)]
  unfold gL ck;rw [List.map_flatMap,List.map_flatMap];simp only [ao];rfl
theorem IQ (hls:ls.Perm ah) (htre:∀ p∈ck T,ce (bk p.2) p.1=true\/ce (bk p.1) p.2=true):ex o3 [] (n+110) lT (FT j c T order ld ks par ls bk) (fX 27)=some (.next,FT j c T order ld ks par ls bk):=by
 conv=>lhs;arg 6;whnf
 refine cn (c:=false) ?_ (fun h=>nomatch h) fun J=>by rfl
 have hlen:=lW T
 let tp:Int×Int->PV:=fun p=>.tup [.int p.1,.int p.2]
 refine br (da (a:=.lst []) (b:=.lst []) ?_ (by rfl) (by rfl) (by rfl));refine (bw (items:=(ck T).map tp) (rs:=((ck T).filter fun J=>false).map fun p=>(.none,.int 0)) (by kernel_rfl) ?_ ?_ ?_).trans ?_
 ·exact Eq.trans (b:=if ((ck T).map tp).length<=1048576 then some ((ck T).map tp) else none) (by kernel_rfl) (if_pos (by rw [aa];exact id ((pn [_] 0x0D1000003900D24190) hlen)))
 ·refine bx (fun J=>false) (fun J=>.int 0) tp 40 (by kernel_rfl) (ck T) _ ?_ ?_
  ·exact id ((pn [_,_] 0x0DA6A191A18A028190D24190) hlen)
  ·intro p q hp
   refine pE (eK.mp hp) ?_;intro h1 h2 _ _;refine ⟨[nm "blocks" (nO ls bk),nm "one" (.int p.1),nm "two" (.int p.2)],by kernel_rfl,?_,fun h=>nomatch h⟩;have e:false=((!(ce (bk p.2) p.1)) && ((!(ce (bk p.1) p.2)) && true)):=by
    rcases htre p hp with h | h<;>rw [h]<;>simp
   rw [e];refine bj (hX (de ?_ fun J=>de ?_ fun J=>sx))
   ·refine br (iF (a:=.int p.1) (b:=aL (bk p.2)) (by rfl) (by rfl) (by rfl) ?_ ?_)
    ·show ev _ _ _ _ _=_
     exact bt (b:=nO ls bk) (k:=.int p.2) (by intros;intro h;cases h) (by rfl) (by rfl) (by rfl) (i9 (hls.mem_iff.mpr h2))
    ·show ca (!·) (gT p.1 ((bk p.2).map .int))=_
     rw [fT];rfl
   ·refine br (iF (a:=.int p.2) (b:=aL (bk p.1)) (by rfl) (by rfl) (by rfl) ?_ ?_)
    ·show ev _ _ _ _ _=_
     exact bt (b:=nO ls bk) (k:=.int p.1) (by intros;intro h;cases h) (by rfl) (by rfl) (by rfl) (i9 (hls.mem_iff.mpr h1))
    ·show ca (!·) (gT p.2 ((bk p.1).map .int))=_
     rw [fT];rfl
 ·rw [bL.mpr (by simp)];simp
 ·rw [bL.mpr (by simp)];rfl
end
end
end Mine
end
section
namespace Mine
noncomputable section
theorem oK {t:eA}{ss os:List Int} (hl:ss.length+os.length<=8) (ht:∀ v∈ss++os,∃ r,gB t v=some r/\yn r):o3.fn "_law_flow" [du t,aL ss,aL os]=some (.int (dG t ss os)):=C2 hl ht
theorem oU {pairs:List (Int×Int)}{nodes:List Int} (hp:pairs.length<=60) (hn:nodes.length<=10) (hd:nodes.Nodup):o3.fn "_law_pieces" [gL pairs,aL nodes]=some (.int (dX pairs nodes:Int)):=xx hp hn hd
noncomputable def Fe (j:Nat->PV) (v:PV):Nat->PV:=fun k=>if k=11 then v else j k
section
variable {j:Nat->PV}{c:Nat->Nat}{T:eA}{order:List Int}{ld:List (Int×Str)}{ks:List Int}{par:Int->Int}{ls:List Int}{bk:Int->List Int}{pth:Int->List Int}{r0:Int}{n:Nat}
noncomputable def Ep (j:Nat->PV) (c:Nat->Nat) (T:eA) (order:List Int) (ld:List (Int×Str)) (ks:List Int) (par:Int->Int) (ls:List Int) (bk:Int->List Int) (a:PV×Option (PV×PV)):SE:=
 FT (Fe j a.1) c T order ld ks par ls bk++(match a.2 with | none=>[] | some (o,l)=>[nm "over" o,nm "loose" l])
theorem Ic (ok:rY T) (hls:ls.Perm ah) (hov:∀ v∈ah,ls.filter (fun x=>ce (bk x) v && !(x == v))=(pth v).dropLast) (hkl:ks.length<=6) (hkn:∀ x∈ks,x∈ah)
  (hfl:∀ x∈ks,∀ v∈ah,par x=v->(bk x).length+(pth v).dropLast.length<=8/\∀ y∈bk x++(pth v).dropLast,y∈ah)
  (hck:∀ v∈ah,dX (ck T) (ah.filter fun x=>x != v)=(ks.filter fun x=>par x == v && dG T (bk x) (pth v).dropLast == 0).length+((pth v).dropLast.take 1).length) :
  ∃ x y z,ex o3 [] (n+117) lT (FT j c T order ld ks par ls bk) (fX 28)=some (.next,Ep j c T order ld ks par ls bk (x,some (y,z))):=by
 have h6:ls.length=6:=hls.length_eq;refine ⟨.int 260,aL (pth 260).dropLast,aL (ks.filter fun x=>par x == 260 && dG T (bk x) (pth 260).dropLast == 0),?_⟩
 conv=>lhs;arg 6;whnf
 refine (jJ (items:=ah.map .int) (by kernel_rfl)).trans ?_;refine Eq.trans (congrArg (fun σ=>exF o3 [] (n+116) lT σ _ _ _) (show FT j c T order ld ks par ls bk=Ep j c T order ld ks par ls bk (j 11,none) by kernel_rfl)) ?_;refine Eq.trans (And.left (l9 (Ep j c T order ld ks par ls bk) (fun J J=>True) (fun a v=>(.int v,some (aL (pth v).dropLast,aL (ks.filter fun x=>par x == v && dG T (bk x) (pth v).dropLast == 0)))) .int 80 ah (j 11,none) _ 0 ?_ trivial ?_)) (by rfl)
 ·show 80+6+1<=_
  exact id (pn [_] 0x0DA74190A18A685019)
 ·intro i a v m hv _
  have hvN:=bK hv;refine ⟨trivial,Ep j c T order ld ks par ls bk (.int v,a.2),by rcases a with ⟨_,_ | ⟨_,_⟩⟩<;>kernel_rfl,?_⟩;obtain ⟨nd,l⟩:=a;dsimp only
  let over:=(pth v).dropLast
  have hovl:over.length<=6:=by
   show (pth v).dropLast.length<=6;rw [<- hov v hvN]
   have:=aF (fun x=>ce (bk x) v && !(x == v)) ls;exact id ((pn [_,_] 0x0D6810D012D680) h6 this)
  let loose:=ks.filter fun x=>par x == v && dG T (bk x) over == 0
  have hll:loose.length<=6:=by
   have:=aF (fun x=>par x == v && dG T (bk x) over == 0) ks
   show (ks.filter _).length<=6;exact id ((pn [_,_] 0x0D6810D010D680) hkl this)
  let rest:SE:=match l with | none=>[] | some (_,l)=>[nm "loose" l]
  let AH:SE:=FT (Fe j (.int v)) c T order ld ks par ls bk++[nm "over" (aL over)]++rest
  refine (aj (aI:=AH) ?_).trans ?_
  ·refine (bm (u:=aL over) (by rfl) ?_).trans (by rcases l with _ | ⟨_,_⟩<;>kernel_rfl)
   refine (bw (items:=ls.map .int) (rs:=(ls.filter fun x=>ce (bk x) v && !(x == v)).map fun x=>(.none,.int x)) (by kernel_rfl) ?_ ?_ ?_).trans ?_
   ·refine Eq.trans (b:=if ((ls.map fun x=>(x,bk x)).map fun p=>(p.1,aL p.2)).length<=1048576 then some (((ls.map fun x=>(x,bk x)).map fun p=>(p.1,aL p.2)).map fun kv=>PV.int kv.1) else none) (by rcases l with _ | ⟨_,_⟩<;>kernel_rfl) ?_
    rw [if_pos (by rw [aa,aa];exact id ((pn [_] 0x0D1000003902D680) h6)),ao,ao];rfl
   ·refine bx (fun x=>ce (bk x) v && !(x == v)) .int .int 40 (by rcases l with _ | ⟨_,_⟩<;>kernel_rfl) ls _ ?_ ?_
    ·exact id ((pn [_,_] 0x0DA4D191A18A028192D680) h6)
    ·intro x q hx
     refine ⟨[nm "node" (.int v),nm "blocks" (nO ls bk),nm "one" (.int x)],by rcases l with _ | ⟨_,_⟩<;>kernel_rfl,?_,fun J=>by kernel_rfl⟩;refine bj (hX (de ?_ fun J=>bj (by rfl)));refine br (iF (a:=.int v) (b:=aL (bk x)) (by rfl) (by rfl) (by rfl) ?_ (fT _ _));show ev _ _ _ _ _=_;exact bt (b:=nO ls bk) (k:=.int x) (by intros;intro h;cases h) (by rfl) (by rfl) (by rfl) (i9 hx)
   ·rw [aa];have:=aF (fun x=>ce (bk x) v && !(x == v)) ls;exact id ((pn [_,_] 0x0D1000003910D012D680) h6 this)
   ·rw [ao,hov v hvN];rfl
  refine (aj (aI:=Ep j c T order ld ks par ls bk (.int v,some (aL over,aL loose))) ?_).trans ?_
  ·refine (bm (u:=aL loose) (by rfl) ?_).trans (by rcases l with _ | ⟨_,_⟩<;>kernel_rfl)
   refine (bw (items:=ks.map .int) (rs:=loose.map fun x=>(.none,.int x)) (by kernel_rfl) ?_ ?_ ?_).trans ?_
   ·refine Eq.trans (b:=if ((ks.map fun x=>(x,par x)).map fun p=>(p.1,PV.int p.2)).length<=1048576 then some (((ks.map fun x=>(x,par x)).map fun p=>(p.1,PV.int p.2)).map fun kv=>PV.int kv.1) else none) (by rcases l with _ | ⟨_,_⟩<;>kernel_rfl) ?_
    rw [if_pos (by rw [aa,aa];exact id ((pn [_] 0x0D1000003900D680) hkl)),ao,ao];rfl
   ·refine bx (fun x=>par x == v && dG T (bk x) over == 0) .int .int 50 (by rcases l with _ | ⟨_,_⟩<;>kernel_rfl) ks _ ?_ ?_
    ·exact id ((pn [_,_] 0x0DA4C191A18A032190D680) hkl)
    ·intro x q hx
     have hxls:x∈ls:=hls.mem_iff.mpr (hkn x hx);refine ⟨[nm "table" (du T),nm "node" (.int v),nm "owners" (bc (ks.map fun x=>(x,par x))),nm "blocks" (nO ls bk),nm "over" (aL over),nm "one" (.int x)],by rcases l with _ | ⟨_,_⟩<;>kernel_rfl,?_,fun J=>by kernel_rfl⟩;refine bj (hX (de (b:=par x == v) ?_ fun hb=>bj ?_))
     ·refine br (da (a:=.int (par x)) (b:=.int v) ?_ (by rfl) (by rfl) rfl)
      exact bt (b:=bc (ks.map fun x=>(x,par x))) (k:=.int x) (by intros;intro h;cases h) (by rfl) (by rfl) (by rfl) (u7 hx)
     ·refine xA (hfl x hx v hvN (eq_of_beq hb)) ?_;intro f1 f2
      refine br (da (a:=.int (dG T (bk x) over)) (b:=.int 0) ?_ (by rfl) (by rfl) rfl);refine jn (vs:=[du T,aL (bk x),aL over]) (by rfl) (ay (by rfl) (ay ?_ (ay (by rfl) a8))) (by rfl) (oK f1 fun y hy=>⟨_,(ok.row (f2 y hy)).1,(ok.row (f2 y hy)).2.1⟩);exact bt (b:=nO ls bk) (k:=.int x) (by intros;intro h;cases h) (by rfl) (by rfl) (by rfl) (i9 hxls)
   ·rw [aa];exact id ((pn [_] 0x0D1000003900D680) hll)
   ·rw [ao];rfl
  refine (aj (aI:=Ep j c T order ld ks par ls bk (.int v,some (aL over,aL loose))) ?_).trans (by rfl);refine cn (c:=false) ?_ (fun h=>nomatch h) fun J=>by rfl
  let k:Int:=(loose.length:Int)+((over.take 1).length:Int)
  have hk:(dX (ck T) (ah.filter fun x=>x != v):Int)=k:=by rw [hck v hvN];rfl
  refine br (da (a:=.int k) (b:=.int k) ?_ (by rfl) ?_ (oF (t5 _ _ (by exact id (pn [_] 0x0DA4A19018)))))
  ·refine aW (a:=.int (loose.length:Int)) (b:=.int ((over.take 1).length:Int)) ?_ ?_ rfl
   ·show ev _ _ _ _ _=_
    refine b7 (v:=aL loose) (by kernel_rfl) (by kernel_rfl) ?_;show (if (loose.map PV.int).length<=1048576 then some (PV.int ((loose.map PV.int).length:Int)) else none)=_;rw [aa,if_pos (by exact id ((pn [_] 0x0D1000003900D680) hll))]
   ·refine b7 (v:=aL (over.take 1)) (by kernel_rfl) ?_ ?_
    ·show ev _ _ _ _ _=_
     exact fB (b:=aL over) (l:=none) (h:=some 1) (by kernel_rfl) (by rfl) (by rfl) (fZ (by rw [aa];exact id ((pn [_] 0x0D1000003900D680) hovl)) ((yE _).trans (List.map_take ..).symm))
    ·show (if ((over.take 1).map PV.int).length<=1048576 then some (PV.int (((over.take 1).map PV.int).length:Int)) else none)=_
     rw [aa,if_pos (by rw [cQ];exact id (pn [_] 0x0D100000390C018))]
  ·rw [<- hk]
   have hpl:=lW T;refine jn (vs:=[gL (ck T),aL (ah.filter fun x=>x != v)]) (by kernel_rfl) (ay (by kernel_rfl) (ay ?_ a8)) (by rfl) (oU (by exact id ((pn [_] 0x0D3C1900D24190) hpl)) (by have:=aF (fun x=>x != v) ah;have e:ah.length=6:=rfl;exact id ((pn [_,_] 0x0DA802D6810D10) this e)) (List.Nodup.sublist eS (by decide)));refine (bw (items:=ah.map .int) (rs:=(ah.filter fun x=>x != v).map fun x=>(.none,.int x)) (by kernel_rfl) (by kernel_rfl) ?_ ?_).trans ?_
   ·refine bx (fun x=>x != v) .int .int 30 (by kernel_rfl) ah _ ?_ ?_
    ·show 30+6+1<=_
     exact id (pn [_] 0x0DA48190A18A681E19)
    ·intro x q hx
     exact ⟨[nm "node" (.int v),nm "one" (.int x)],by kernel_rfl,bj (by rfl),fun J=>by rfl⟩
   ·rw [aa];have:=aF (fun x=>x != v) ah;have e:ah.length=6:=rfl;exact id ((pn [_,_] 0x0D1000003902D6810D10) this e)
   ·rw [ao];rfl
end
end
end Mine
end
section
namespace Mine
noncomputable section
theorem yA {o:cV}{n:Nat}{sc:Sc}{σ:SE}{x y:Expr}{p:Pos}{b d:Bool} (h1:ev o (n+1) sc σ x=some (.bool b)) (h2:b=true->ev o n sc σ y=some (.bool d)):ev o (n+3) sc σ (.BoolOp .And [x,y] p)=some (.bool (b && d)):=by
 refine (dp h1).trans ?_
 cases b with
 | false=>rfl
 | true=>exact h2 rfl
section
variable {j:Nat->PV}{c:Nat->Nat}{T:eA}{order:List Int}{ld:List (Int×Str)}{ks:List Int}{ls:List Int}{bk:Int->List Int}{pth:Int->List Int}{r0:Int}{n:Nat}
noncomputable def GW (E:SE) (b:Option (PV×PV×PV)):SE:=E++(match b with | none=>[] | some (p,l,a)=>[nm "pair" p,nm "low" l,nm "alone" a])
theorem IF {nd ov lo:PV} (ok:rY T) (hls:ls.Perm ah) (hkn:∀ x∈ks,x∈ah) (hkl:ks.length<=6)
  (hbl:∀ x∈ks,(bk x++eP bk x).Perm ah)
  (hck:∀ p∈ck T,iw T pth bk ks p.1 p.2=decide (dX (cZ T p.1 p.2) ah > 1)) :
  ∃ b,ex o3 [] (n+120) lT (Ep j c T order ld ks (dJ pth) ls bk (nd,some (ov,lo))) (fX 29)=some (.next,GW (Ep j c T order ld ks (dJ pth) ls bk (nd,some (ov,lo))) b):=by
 let tp:Int×Int->PV:=fun p=>.tup [.int p.1,.int p.2]
 let E:=Ep j c T order ld ks (dJ pth) ls bk (nd,some (ov,lo))
 let f:Option (PV×PV×PV)->Int×Int->Option (PV×PV×PV):=fun J p=>some (tp p,aL (ii pth ks p.1 p.2),.bool (iw T pth bk ks p.1 p.2))
 refine ⟨(ck T).foldl f none,?_⟩
 conv=>lhs;arg 6;whnf
 have hlen:=lW T;refine (jJ (items:=(ck T).map tp) ?_).trans ?_
 ·exact Eq.trans (b:=if ((ck T).map tp).length<=1048576 then some ((ck T).map tp) else none) (by kernel_rfl) (if_pos (by rw [aa];exact id ((pn [_] 0x0D1000003900D24190) hlen)))
 refine Eq.trans (congrArg (fun σ=>exF o3 [] (n+119) lT σ _ _ _) (show E=GW E none by kernel_rfl)) ?_;refine And.left (l9 (GW E) (fun J J=>True) f tp 82 (ck T) none _ 0 ?_ trivial ?_)
 ·exact id ((pn [_,_] 0x0DA77191A18A052190D24190) hlen)
 intro i a p m hpi _;have hp:=bK hpi;obtain ⟨x,y⟩:=p;refine pE (eK.mp hp) ?_;intro hx hy hlt _;dsimp only at hx hy hlt;refine ⟨trivial,?_⟩;show ∃ aI,_/\_=some (Fl.next,GW E (some (tp (x,y),aL (ii pth ks x y),.bool (iw T pth bk ks x y))))
 let rest:SE:=match a with | none=>[] | some (_,l,al)=>[nm "low" l,nm "alone" al]
 let rest2:SE:=match a with | none=>[] | some (_,_,al)=>[nm "alone" al]
 refine ⟨E++[nm "pair" (tp (x,y))]++rest,by rcases a with _ | ⟨_,_,_⟩<;>kernel_rfl,?_⟩;have hlowl:(ii pth ks x y).length<=2:=aF (rU pth ks x y) [x,y];refine (aj (aI:=E++[nm "pair" (tp (x,y)),nm "low" (aL (ii pth ks x y))]++rest2) ?_).trans ?_
 ·refine (bm (u:=aL (ii pth ks x y)) (by rfl) ?_).trans (by rcases a with _ | ⟨_,_,_⟩<;>kernel_rfl)
  refine (bw (items:=[x,y].map .int) (rs:=(ii pth ks x y).map fun z=>(.none,.int z)) (by kernel_rfl) (by rcases a with _ | ⟨_,_,_⟩<;>kernel_rfl) ?_ ?_).trans ?_
  ·refine bx (rU pth ks x y) .int .int 40 (by rcases a with _ | ⟨_,_,_⟩<;>kernel_rfl) [x,y] _ ?_ ?_
   ·show 40+2+1<=_
    exact id (pn [_] 0x0DA4F190A18A282819)
   ·intro z q hz
    refine ⟨[nm "owners" (bc (ks.map fun x=>(x,dJ pth x))),nm "pair" (tp (x,y)),nm "one" (.int z)],by rcases a with _ | ⟨_,_,_⟩<;>kernel_rfl,?_,fun J=>by kernel_rfl⟩;have e:rU pth ks x y z=(decide (z∈ks) && ((x == dJ pth z) || ((y == dJ pth z) || false))):=by
     unfold rU;rw [jy];congr 1;rw [dE];simp only [dF,beq_iff_eq];exact ⟨fun h=>h.imp Eq.symm Eq.symm,fun h=>h.imp Eq.symm Eq.symm⟩
    rw [e];refine bj (hX (de ?_ fun hb=>bj ?_))
    ·refine br (iF (a:=.int z) (b:=bc (ks.map fun x=>(x,dJ pth x))) (by rfl) (by rfl) (by rfl) (by rfl) ?_)
     show some (ej _ z).isSome=_;rw [d2,bC,w9];by_cases h:z∈ks
     ·rw [if_pos h,decide_eq_true h];rfl
     ·rw [if_neg h,decide_eq_false h];rfl
    ·refine br (iF (a:=.int (dJ pth z)) (b:=tp (x,y)) ?_ (by rfl) (by rfl) (by rfl) (by rfl))
     exact bt (b:=bc (ks.map fun x=>(x,dJ pth x))) (k:=.int z) (by intros;intro h;cases h) (by rfl) (by rfl) (by rfl) (u7 (of_decide_eq_true hb))
  ·rw [aa];exact id ((pn [_] 0x0D1000003900D280) hlowl)
  ·rw [ao];rfl
 refine (aj (aI:=GW E (some (tp (x,y),aL (ii pth ks x y),.bool (iw T pth bk ks x y)))) ?_).trans ?_
 ·refine (bm (u:=.bool (iw T pth bk ks x y)) (by rfl) ?_).trans (by rcases a with _ | ⟨_,_,_⟩<;>kernel_rfl)
  have hlm:∀ z∈ii pth ks x y,z∈ks:=by
   intro z hz
   have:=(aT.mp hz).2
   unfold rU at this;exact of_decide_eq_true (aR _ _ |>.mp this).1
  have halone:iw T pth bk ks x y=match ii pth ks x y with | []=>false | c::_=>dG T (bk c) (eP bk c) == dG T [x] [y]:=rfl
  generalize ii pth ks x y=low at hlowl hlm halone;rw [halone]
  cases low with
  | nil=>
   refine yA (b:=false) (d:=false) ?_ (fun h=>nomatch h);rcases a with _ | ⟨_,_,_⟩<;>kernel_rfl
  | cons z low=>
   have hzk:=hlm z am;have hzN:=hkn z hzk;have hperm:=hbl z hzk;have hsum:(bk z).length+(eP bk z).length=6:=by rw [<- ak];exact hperm.length_eq
   refine yA (b:=true) (d:=dG T (bk z) (eP bk z) == dG T [x] [y]) (by rcases a with _ | ⟨_,_,_⟩<;>kernel_rfl) (fun J=>?_);have hlow0:item (aL (z::low)) (.int ((0:Nat):Int))=some (.int z):=em (by rfl) (by rw [aa];exact id ((pn [_] 0x0D1000003900D280) hlowl));refine da (a:=.int (dG T (bk z) (eP bk z))) (b:=.int (dG T [x] [y])) ?_ (by rfl) ?_ rfl
   ·refine jn (vs:=[du T,aL (bk z),aL (eP bk z)]) (by rcases a with _ | ⟨_,_,_⟩<;>kernel_rfl) (ay (by rcases a with _ | ⟨_,_,_⟩<;>kernel_rfl) (ay ?_ (ay ?_ a8))) (by kernel_rfl) (oK (by exact id ((pn [_,_] 0x0D88A102D68A10) hsum)) fun y hy=>⟨_,(ok.row (hperm.mem_iff.mp hy)).1,(ok.row (hperm.mem_iff.mp hy)).2.1⟩)
    ·refine bt (b:=nO ls bk) (k:=.int z) (by intros;intro h;cases h) (by rcases a with _ | ⟨_,_,_⟩<;>kernel_rfl) (by rcases a with _ | ⟨_,_,_⟩<;>kernel_rfl) ?_ (i9 (hls.mem_iff.mpr hzN))
     exact bt (b:=aL (z::low)) (k:=.int ((0:Nat):Int)) (by intros;intro h;cases h) (by rcases a with _ | ⟨_,_,_⟩<;>kernel_rfl) (by rcases a with _ | ⟨_,_,_⟩<;>kernel_rfl) (by kernel_rfl) hlow0
    ·refine (bw (items:=ah.map .int) (rs:=(eP bk z).map fun w=>(.none,.int w)) (by rfl) (by rcases a with _ | ⟨_,_,_⟩<;>kernel_rfl) ?_ ?_).trans ?_
     ·refine bx (fun w=>!(ce (bk z) w)) .int .int 30 (by rcases a with _ | ⟨_,_,_⟩<;>kernel_rfl) ah _ ?_ ?_
      ·show 30+6+1<=_
       exact id (pn [_] 0x0DA49190A18A681E19)
      ·intro w q hw
       refine ⟨[nm "blocks" (nO ls bk),nm "low" (aL (z::low)),nm "one" (.int w)],by rcases a with _ | ⟨_,_,_⟩<;>kernel_rfl,?_,fun J=>by kernel_rfl⟩;refine bj (br (iF (a:=.int w) (b:=aL (bk z)) (by rfl) (by rfl) (by rfl) ?_ ?_))
       ·show ev _ _ _ _ _=_
        refine bt (b:=nO ls bk) (k:=.int z) (by intros;intro h;cases h) (by rfl) (by rfl) ?_ (i9 (hls.mem_iff.mpr hzN));exact bt (b:=aL (z::low)) (k:=.int ((0:Nat):Int)) (by intros;intro h;cases h) (by rfl) (by rfl) (by rfl) hlow0
       ·show ca (!·) (gT w ((bk z).map .int))=_
        rw [fT];rfl
     ·rw [aa];exact id ((pn [_,_] 0x0D1000003912D68A10) hsum)
     ·rw [ao];rfl
   ·refine jn (vs:=[du T,aL [x],aL [y]]) (by rcases a with _ | ⟨_,_,_⟩<;>kernel_rfl) (ay (by rcases a with _ | ⟨_,_,_⟩<;>kernel_rfl) (ay (by rcases a with _ | ⟨_,_,_⟩<;>kernel_rfl) (ay (by rcases a with _ | ⟨_,_,_⟩<;>kernel_rfl) a8))) (by kernel_rfl) (oK (by simp) fun v hv=>?_)
    have hvN:v∈ah:=by
     rcases aM.mp hv with hv | hv<;>rcases ae.mp hv with rfl
     ·exact hx
     ·exact hy
    exact ⟨_,(ok.row hvN).1,(ok.row hvN).2.1⟩
 ·refine (aj (aI:=GW E (some (tp (x,y),aL (ii pth ks x y),.bool (iw T pth bk ks x y)))) ?_).trans (by rfl)
  refine cn (c:=false) ?_ (fun h=>nomatch h) fun J=>by rfl
  have hc:=hck (x,y) hp;dsimp only at hc;have hcI:iw T pth bk ks x y=decide ((dX (cZ T x y) ah:Int) > 1):=by rw [hc];exact decide_eq_decide.mpr (by exact id (⟨pn [_] 0x1E2C0181D018,pn [_] 0x1D0181E2C018⟩))
  have hbut:(cZ T x y).length<=36:=by have:=aF (fun p:Int×Int=>!(p.1 == x && (p.2 == y && true))) (ck T);exact aO this hlen
  refine br (da (a:=.bool (iw T pth bk ks x y)) (b:=.bool (iw T pth bk ks x y)) (by kernel_rfl) (by rfl) ?_ ?_)
  ·refine (da (a:=.int (dX (cZ T x y) ah:Int)) (b:=.int 1) (c:=decide ((dX (cZ T x y) ah:Int) > 1)) ?_ (by rfl) (by rfl) rfl).trans (by rw [hcI])
   refine jn (vs:=[gL (cZ T x y),aL ah]) (by kernel_rfl) (ay ?_ (ay (by kernel_rfl) a8)) (by rfl) (oU (by exact id ((pn [_] 0x0D3C1900D24190) hbut)) (by decide) (by decide));refine (bw (items:=(ck T).map tp) (rs:=(cZ T x y).map fun q=>(.none,tp q)) (by kernel_rfl) ?_ ?_ ?_).trans ?_
   ·exact Eq.trans (b:=if ((ck T).map tp).length<=1048576 then some ((ck T).map tp) else none) (by kernel_rfl) (if_pos (by rw [aa];exact id ((pn [_] 0x0D1000003900D24190) hlen)))
   ·refine bx (fun q=>!(q.1 == x && (q.2 == y && true))) tp tp 30 (by kernel_rfl) (ck T) _ ?_ ?_
    ·exact id ((pn [_,_] 0x0DA49191A18A01E190D24190) hlen)
    ·intro q k hq
     exact ⟨[nm "pair" (tp (x,y)),nm "one" (tp q)],by kernel_rfl,bj (by rfl),fun J=>by rfl⟩
   ·rw [aa];exact id ((pn [_] 0x0D1000003900D24190) hbut)
   ·rw [ao];rfl
  ·show some (!(_ == _))=_
   rw [beq_self_eq_true];rfl
end
end
end Mine
end
section
namespace Mine
noncomputable section
theorem s0 {a:Int}{i:Nat} (hi:i < 5) (h1:-1<=a) (h2:a < (i:Int)):fG a∈ah/\fG a < 256+(i:Int):=by
 unfold fG;by_cases h:a < 0
 ·rw [if_pos h];exact ⟨by decide,by exact id (pn [_] 0x1EA2C001002908)⟩
 ·rw [if_neg h]
  refine ⟨?_,by exact id ((pz [_] [_] 0x1EA2C0010029A00100291E2C00) h2)⟩
  have:a=0\/a=1\/a=2\/a=3:=by exact id ((pz [_] [_] 0x1F1F1F2E3802E2802E1802E0802F1E0801E2C001D580) hi h2 h)
  rcases this with rfl | rfl | rfl | rfl<;>decide
theorem Ey (k:Nat) (h:k < 6):pG k∈ah:=by
 rcases (show k=0\/k=1\/k=2\/k=3\/k=4\/k=5 by exact id ((pn [_] 0x1F1F1F1F1F2D5802D4802D3802D2802D1802D0801D680) h)) with rfl | rfl | rfl | rfl | rfl | rfl<;>decide
theorem F9 (A a O b:Nat->Int) {i:Nat} (hi:i < 5):cF (gX A a O b) (256+(i:Int))=eO (A i) (a i) (O i) (b i):=by
 rcases (show i=0\/i=1\/i=2\/i=3\/i=4 by exact id ((pn [_] 0x1F1F1F1F2D4802D3802D2802D1802D0801D580) hi)) with rfl | rfl | rfl | rfl | rfl<;>kernel_rfl
theorem G5 (c:Nat->Nat) {ab:Nat->Int} (h:∀ i,i < 5->-1<=ab i/\ab i < (i:Int)):rY (Tt c ab) where
 keys:=by rfl
 rows:=by
  intro p hp;rcases ar.mp hp with rfl | hp
  ·exact ⟨ds,bP _,fun q hq=>nomatch hq⟩
  ·refine bO (aB.mp hp) ?_;rintro i hi rfl
   have hi:i < 5:=by simp at hi;exact id ((pn [_] 0x1D5801F1F1F1F2D4802D3802D2802D1802D080) hi)
   refine ⟨gN _ _ _ _,eF _ _ _ _,?_⟩;have hA:=(s0 hi (h i hi).1 (h i hi).2).1;have hO:=Ey (c i / 55296 % 6) (a5 _ (by exact id (pn [] 0x1D6808)));have ha:cA c i < 48:=a5 _ (by exact id (pn [] 0x1D301908));have hb:cB c i < 48:=a5 _ (by exact id (pn [] 0x1D301908));intro q hq;dsimp only at hq;rw [l7] at hq;split at hq
   ·rcases ae.mp hq with rfl
    exact ⟨hA,by show 1<=1+(cA c i:Int)+(1+(cB c i:Int));exact id (pn [_,_] 0x0EAA2C118A2C01818),by show 1+(cA c i:Int)+(1+(cB c i:Int))<=100;lia⟩
   ·rcases ar.mp hq with rfl | hq
    ·exact ⟨hA,by show 1<=1+(cA c i:Int);exact id (pn [_] 0x0EA2C01818),by show 1+(cA c i:Int)<=100;lia⟩
    ·rcases ae.mp hq with rfl
     exact ⟨hO,by show 1<=1+(cB c i:Int);exact id (pn [_] 0x0EA2C01818),by show 1+(cB c i:Int)<=100;lia⟩
 conn:=by
  intro v hv hv0
  have:∃ i:Nat,i < 5/\v=256+(i:Int):=by
   simp only [ah,ar,bg,or_false] at hv;rcases hv with rfl | rfl | rfl | rfl | rfl | rfl
   ·exact absurd rfl hv0
   ·exact ⟨0,by exact id (pn [] 0x1D5808),rfl⟩
   ·exact ⟨1,by exact id (pn [] 0x1D5818),rfl⟩
   ·exact ⟨2,by exact id (pn [] 0x1D5828),rfl⟩
   ·exact ⟨3,by exact id (pn [] 0x1D5838),rfl⟩
   ·exact ⟨4,by exact id (pn [] 0x1D5848),rfl⟩
  refine bO this ?_;clear this;rintro i hi rfl;refine xA (s0 hi (h i hi).1 (h i hi).2) ?_;intro h1 h2;refine ⟨fG (ab i),h1,h2,?_⟩;have e:cF (Tt c ab) (256+(i:Int))=eO (kA ab i) (wA c i) (cO c i) (wB c i):=F9 _ _ _ _ hi;rw [e,j8,wv,decide_eq_true rfl,Bool.true_or]
theorem Cj:db 203=(ax 31).map fX:=by kernel_rfl
theorem Jn {S:List Int}{c:Nat->Nat}{n:Nat} (h:o3.fn "_law_page" [.lst (S.map .int)]=some (.tup [gj c,.lst (cI (gQ c)),.str (jC c)])):ex o3 [] (n+20) lT [nm "script" (.lst (S.map .int))] (fX 0)=some (.next,s1 (.lst (S.map .int)) c):=by
 conv=>lhs;arg 6;whnf
 exact wG (xs:=["cells","leads","page"]) (ps:=[gj c,.lst (cI (gQ c)),.str (jC c)]) (by rfl) (by rfl) (fu (v':=.lst (S.map .int)) (v:=.lst (S.map .int)) (by kernel_rfl) (by rfl) (by rfl) (by rfl) h) (by rfl) (by kernel_rfl)
theorem Hu {T:eA} (ok:rY T) {order:List Int}{r0:Int}{P:Pa} (hp:order.Perm ah) (t:jV (c0 T) order r0 P) {pc:Int->List Nat} (po:Dm pc order):EW (bW pc P)/\∀ p∈bW pc P,((p.2++"x").cps.toList.takeWhile eU).length<=60:=by
 have hkeys:(bW pc P).map (·.1)=P.map aJ:=by unfold bW;rw [ao];rfl
 have hlen:(P.map aJ).length<=ah.length:=fV t.nd fun x hx=>by refine bO (aB.mp hx) ?_;rintro p hp' rfl;exact hp.mem_iff.mp (t.ord p hp')
 have e6:ah.length=6:=rfl;rw [aa] at hlen;have hll:∀ p∈P,(o5 pc p).length<=12:=by
  intro p hpP;obtain ⟨k,hk,rfl⟩:=a7.mp hpP;have hnd:=(t.path k hk).1;have hl6:P[k].length<=6:=by
   have:=fV hnd fun x hx=>hp.mem_iff.mp (t.sub hpP x hx)
   exact id ((pn [_,_,_,_] 0x0D6830D031D212D680) e6 hk this)
  unfold o5
  have:∀ l:List Int,(∀ x∈l,x∈order)->(l.flatMap pc).length<=2 * l.length:=by
   intro l
   induction l with
   | nil=>intro _;exact aE _
   | cons x l ih=>
    intro h;rw [List.flatMap_cons,ak,aD]
    have:=po.le x (h x am)
    have:=ih fun y hy=>h y (ai _ hy)
    exact id ((pn [_,_,_] 0x0D4CA18228A100D4C22810D280) ‹_› this)
  have h1:=this P[k].dropLast fun x hx=>t.sub hpP x (cb _ hx);rw [dq] at h1;exact id ((pn [_,_,_,_] 0x0DC830D4CB1822830D6821D10) hk hl6 h1)
 have each:∀ q∈bW pc P,∃ p∈P,q=(aJ p,sl (o5 pc p)):=fun q hq=>by
  refine bO (aB.mp hq) ?_;rintro p hp' rfl;exact ⟨p,hp',rfl⟩
 have hwok:∀ l:List Nat,(∀ x∈l,x=32\/x=9)->l.length<=12->C1 (lj l):=by
  intro l hl hlen
  have:∀ (l:List Nat) (st:WS),(∀ x∈l,x=32\/x=9)->(bE l st).1.length<=max st.1.length (st.2.1+l.length+1)/\(bE l st).2.1<=st.2.1+l.length:=by
   intro l
   induction l with
   | nil=>intro st _;obtain ⟨count,b,n,nt⟩:=st;exact ⟨Nat.le_max_left _ _,aE _⟩
   | cons x l ih=>
    intro st hx;obtain ⟨count,b,n,nt⟩:=st;have hx':=fun y hy=>hx y (ai x hy);rw [bE];rcases hx x am with rfl | rfl
    ·rw [if_pos rfl]
     have:=ih (count,b+1,n+1,nt) hx'
     dsimp only at this ⊢;rw [aD];exact id ((pn [_,_,_,_,_] 0x0F0DAA183240D1CA18AA1832100F0DA3A18240D1CA18A3A18210) this)
    ·rw [if_neg (by decide),if_pos rfl]
     have:=ih (ee count b,0,n+1,nt+1) hx'
     dsimp only at this ⊢;rw [dL] at this;rw [aD];exact id ((pn [_,_,_,_,_] 0x0F0DAA183240D1CA18AA1832100F0DA30840D1CA18A3081CA18210) this)
  have h:=this l ([],0,0,0) hl;dsimp only [bB] at h;exact ⟨by show (bE l ([],0,0,0)).1.length<=20;exact id ((pn [_,_,_] 0x0D141910F0DA00820D1CA18A0080810DC80) hlen h),by show (bE l ([],0,0,0)).2.1<=20;exact id ((pn [_,_,_] 0x0D141920F0DA00820D1CA18A0080810DC80) hlen h)⟩
 refine ⟨⟨?_,by rw [hkeys];exact t.nd,?_,?_⟩,?_⟩
 ·rw [<- aa (as:=bW pc P) (f:=(·.1)),hkeys,aa];exact id ((pn [_,_] 0x0DA802D6810D10) hlen e6)
 ·intro q hq
  refine bO (each q hq) ?_;rintro p hpP rfl
  have:=hll p hpP
  rw [d5];exact id ((pn [_] 0x0D1E1900DC80) this)
 ·intro q hq
  refine bO (each q hq) ?_;rintro p hpP rfl;dsimp only;rw [Hf (t.ldok po hpP)];exact hwok _ (t.ldok po hpP) (hll p hpP)
 ·intro q hq
  refine bO (each q hq) ?_;rintro p hpP rfl;dsimp only
  have:=(List.takeWhile_sublist (p:=eU) (l:=(sl (o5 pc p)++"x").cps.toList)).length_le
  have e:(sl (o5 pc p)++"x").cps.toList.length=(o5 pc p).length+1:=by rw [jG,ak];rfl
  have:=hll p hpP
  exact id ((pn [_,_,_] 0x0D3C1900DC822DA18210D10) ‹_› e this)
theorem wX (script:List Int) (hs:script.length<=63):yo script=some (.bool true):=by
 refine xE (Ck script (by exact id ((pn [_] 0x0D03E82900D3F190) hs))) ?_;intro c hc;refine bO (Js (S:=.lst (script.map .int)) (c:=c)) ?_;intro ab hab h8;refine xE (Gr (.lst (script.map .int)) c ab) ?_;intro j hj;have ok:rY (Tt c ab):=G5 c hab;generalize hT:Tt c ab=T at hj ok;have hp:=u3 c T;have h22:=fun n=>II (j:=j) (c:=c) (T:=T) (n:=n);have h23:=fun n=>IE (j:=j) (c:=c) (T:=T) (n:=n) ok;generalize r7 c T=order at hp h22 h23;have sym:∀ u v,c0 T u v=c0 T v u:=gg T;have h6:order.length=6:=hp.length_eq;have h0:order≠[]:=by intro e;rw [e] at h6;cases h6
 have hg:=qZ (T:=T) (order:=order) (pieces:=GA c) (pc:=DR c) sym h0 (fun v hv=>yL c (hp.mem_iff.mp hv)) 11;have t:=Eb ok hp;rw [hg] at h23;dsimp only at h23;generalize (li (c0 T) order 11).2=P at t h23;have po:=Fs c order;refine xA (Hu ok hp t po) ?_;intro ldok ldbl;have h24:=fun n=>IM (j:=j) (c:=c) (T:=T) (n:=n) (order:=order) (ow:=ic P) ldok ldbl;rw [t.blocks po,t.owners] at h24;rw [t.owners] at h23;have w:=Ht ok hp t;generalize hr0:order.headD 0=r0 at t w;have hls:(P.map aJ).Perm ah:=(List.perm_ext_iff_of_nodup t.nd (by decide)).mpr fun x=>⟨fun hx=>by refine bO (aB.mp hx) ?_;rintro p hp' rfl;exact hp.mem_iff.mp (t.ord p hp'),fun hx=>t.all x (hp.mem_iff.mpr hx)⟩;have hkl:(iu P).length<=6:=by
  have:(P.map aJ).length=6:=hls.length_eq
  rw [t.lasts,aD] at this;exact id ((pn [_] 0x0D6802D68A180) this)
 have hkn:∀ x∈iu P,x∈ah:=fun x hx=>((w.kids x).mp hx).1;have horder:∃ tl,order=r0::tl:=by
  cases order with
  | nil=>exact absurd rfl h0
  | cons a l=>exact ⟨l,by rw [<- hr0];rfl⟩
 have hmap:(P.map fun p=>(aJ p,gh P (aJ p)))=(P.map aJ).map fun x=>(x,gh P x):=by rw [ao];rfl
 rw [hmap] at h24;have h25:=fun n=>IN (j:=j) (c:=c) (T:=T) (order:=order) (ld:=bW (DR c) P) (ks:=iu P) (par:=dJ (cP P)) (ls:=P.map aJ) (bk:=gh P) (pth:=cP P) (r0:=r0) (n:=n) hls (fun v hv=>t.above (hp.mem_iff.mpr hv)) horder hp w.kids w.knd (fun v hv=>by
  refine ir (w.par hv) ?_;intro hpN hpe _;refine ⟨(cP P (dJ (cP P) v)).dropLast,?_⟩;refine xA (w.rd.last _ hpN) ?_;intro hne hl
  conv=>lhs;rw [hpe,<- dd hne,hl]
  rw [bp];rfl)
 have h26:=fun n=>Ir (j:=j) (c:=c) (T:=T) (order:=order) (ld:=bW (DR c) P) (ks:=iu P) (par:=dJ (cP P)) (ls:=P.map aJ) (bk:=gh P) (n:=n) ok;have h27:=fun n=>IQ (j:=j) (c:=c) (T:=T) (order:=order) (ld:=bW (DR c) P) (ks:=iu P) (par:=dJ (cP P)) (ls:=P.map aJ) (bk:=gh P) (n:=n) hls (fun p hpp=>by
  refine pE (eK.mp hpp) ?_;intro hx hy _ ha;rcases w.rd.tre _ hx _ hy ha with h | h
  ·exact .inr (bA.mpr ((w.blk _ _).mpr ⟨hy,h⟩))
  ·exact .inl (bA.mpr ((w.blk _ _).mpr ⟨hx,h⟩)))
 obtain ⟨x28,y28,z28,h28⟩:=Ic (j:=j) (c:=c) (T:=T) (order:=order) (ld:=bW (DR c) P) (ks:=iu P) (par:=dJ (cP P)) (ls:=P.map aJ) (bk:=gh P) (pth:=cP P) (n:=4) ok hls (fun v hv=>t.over (hp.mem_iff.mpr hv)) hkl hkn (fun x hx v hv hpv=>by
   have hov:=fun u=>ik w hv (u:=u);have hsub:∀ y∈gh P x++(cP P v).dropLast,y∈ah:=fun y hy=>by
    rcases aM.mp hy with hy | hy
    ·exact ((w.blk x y).mp hy).1
    ·exact (w.rd.sub v hv y ((hov y).mp hy).1).1
   refine ⟨?_,hsub⟩;refine ir (w.par hx) ?_;intro _ hpe _;rw [hpv] at hpe;have hnd:(gh P x++(cP P v).dropLast).Nodup:=by
    refine bq.mpr ⟨w.bnd x,List.Nodup.sublist (List.dropLast_sublist _) (w.rd.nd v hv),fun a ha b hb e=>?_⟩;subst e;exact kP w hv (hkn x hx) hpe (w.rd.trans hv ((w.blk x a).mp ha).2 ((hov a).mp hb).1)
   have:=fV hnd hsub
   rw [ak] at this;have e6:ah.length=6:=rfl;exact id ((pn [_,_,_] 0x0D88A102D6820D2A10) this e6)) (fun v hv=>GJ w hv)
 refine xE (IF (j:=j) (c:=c) (T:=T) (order:=order) (ld:=bW (DR c) P) (ks:=iu P) (ls:=P.map aJ) (bk:=gh P) (pth:=cP P) (n:=0) (nd:=x28) (ov:=y28) (lo:=z28) ok hls hkn hkl (fun x J=>sB w x) (fun p hpp=>GD w (a:=p.1) (b:=p.2) hpp)) ?_;intro b29 h29;refine dY (σ:=[nm "script" (.lst (script.map .int))]) (by kernel_rfl) (by kernel_rfl) (aI:=[]) ?_;show exs o3 [] 150 lT _ (db 203)=_;rw [Cj];show exs o3 [] 150 lT _ [fX 0,fX 1,fX 2,fX 3,fX 4,fX 5,fX 6,fX 7,fX 8,fX 9,fX 10,fX 11,fX 12,fX 13,fX 14,fX 15,fX 16,fX 17,fX 18,fX 19,fX 20,fX 21,fX 22,fX 23,fX 24,fX 25,fX 26,fX 27,fX 28,fX 29,fX 30]=_;refine (aj (Jn (n:=129) hc)).trans ?_;refine (aj (Jo (n:=128))).trans ?_;refine (aj (Je (n:=87))).trans ?_;refine (aj (Jr (n:=86))).trans ?_;refine (aj (Jd (n:=85))).trans ?_;refine (aj (Jp (n:=54))).trans ?_;refine (aj (Jh (n:=53))).trans ?_;refine (aj (Jc (n:=52))).trans ?_;refine (aj (h8 121)).trans ?_;refine (aj (Jf (n:=50))).trans ?_;refine (aj (IR (n:=49))).trans ?_;refine (aj (Ip (n:=48))).trans ?_;refine (aj (Ie (n:=27))).trans ?_;refine (aj (IK (n:=76))).trans ?_;refine (aj (H5 (n:=75))).trans ?_;refine (aj (H6 (n:=74))).trans ?_;refine (aj (H8 (n:=23))).trans ?_;rw [hj];refine (aj (Ih (n:=72))).trans ?_;refine (aj (Iz (n:=71) ok)).trans ?_;refine (aj (H9 (n:=70) ok)).trans ?_;refine (aj (Iw (n:=39) ok)).trans ?_;refine (aj (Id (n:=18) ok)).trans ?_;refine (aj (h22 67)).trans ?_;refine (aj (h23 66)).trans ?_;refine (aj (h24 65)).trans ?_;refine (aj (h25 14)).trans ?_;refine (aj (h26 13)).trans ?_;refine (aj (h27 12)).trans ?_;refine (aj h28).trans ?_;refine (aj h29).trans ?_;exact bD (by rcases b29 with _ | ⟨_,_,_⟩<;>kernel_rfl)
end
end Mine
end
section
namespace Mine
theorem head.tw8912104118211102971:True:=⟨⟩
theorem head.tw18433677622606106133:True:=⟨⟩
theorem head.tw15436542981012472205:True:=⟨⟩
theorem head.tw12604462930493870256:True:=⟨⟩
theorem head.tw6211381574409162282:True:=⟨⟩
theorem head.tw9062998866958442273:True:=⟨⟩
theorem head.tw16572314662081343053:True:=⟨⟩
theorem head.tw11821203517306503961:True:=⟨⟩
theorem head.tw17212568112599259466:True:=⟨⟩
theorem head.tw11290360913936777911:True:=⟨⟩
theorem head.tw13337238644230332656:True:=⟨⟩
theorem head.tw10079960370226730655:True:=⟨⟩
theorem head.tw2355103038987944067:True:=⟨⟩
theorem head.tw4964814941381164201:True:=⟨⟩
theorem head.tw8535708456716222715:True:=⟨⟩
theorem head.tw8812732774380208333:True:=⟨⟩
theorem head.tw18134755911535582296:True:=⟨⟩
theorem head.tw8874674299285249911:True:=⟨⟩
theorem head.tw16817119741492734445:True:=⟨⟩
theorem head.tw69809265629811306:True:=⟨⟩
theorem head.tw8101760021730824546:True:=⟨⟩
theorem head.tw11105056867450500199:True:=⟨⟩
theorem head.tw4709128311485490483:True:=⟨⟩
theorem head.tw9592777112578238593:True:=⟨⟩
theorem head.tw15798066900824788120:True:=⟨⟩
theorem head.tw649443455394278489:True:=⟨⟩
theorem head.tw15539854500240908086:True:=⟨⟩
theorem head.tw15510365090734361527:True:=⟨⟩
theorem head.tw15895748673760503845:True:=⟨⟩
theorem head.tw12310735299239354703:True:=⟨⟩
theorem head.tw16031315777459398524:True:=⟨⟩
theorem head.tw3501597964444990463:True:=⟨⟩
theorem head.tw10668533816033670360:True:=⟨⟩
theorem head.tw1457377512435260902:True:=⟨⟩
theorem head.tw10015159338476511836:True:=⟨⟩
theorem head.tw3986194592780655508:True:=⟨⟩
theorem head.tw12892129938458570674:True:=⟨⟩
theorem head.tw3160712208675142370:True:=⟨⟩
theorem head.tw16128420640991077102:True:=⟨⟩
theorem head.tw7802898811600756450:True:=⟨⟩
theorem head.tw5944575059761466720:True:=⟨⟩
theorem head.tw9658139154387788515:True:=⟨⟩
theorem head.tw8603420104599213669:True:=⟨⟩
theorem head.tw11308087075614649832:True:=⟨⟩
theorem head.tw6846597200999610202:True:=⟨⟩
theorem head.tw7494366503370351645:True:=⟨⟩
theorem head.tw14139502460874162764:True:=⟨⟩
theorem head.tw6857060684267632606:True:=⟨⟩
theorem head.tw17674571679781333832:True:=⟨⟩
theorem head.tw12858780395421280599:True:=⟨⟩
theorem head.tw12704426703380559182:True:=⟨⟩
theorem head.tw5599997604879368025:True:=⟨⟩
theorem head.tw4634529909781848996:True:=⟨⟩
theorem head.tw7994106446794305319:True:=⟨⟩
theorem head.tw14877080517539528568:True:=⟨⟩
theorem head.tw15148963937461231693:True:=⟨⟩
theorem head.tw12475708393154427166:True:=⟨⟩
theorem head.tw6202090305015876224:True:=⟨⟩
theorem head.tw18143917106301475762:True:=⟨⟩
theorem head.tw14788773977795034992:True:=⟨⟩
theorem head.tw18384547517478447814:True:=⟨⟩
theorem head.tw17782148633632673465:True:=⟨⟩
theorem head.tw497287684792784471:True:=⟨⟩
theorem head.tw11005904730967762025:True:=⟨⟩
theorem head.tw11807956919867999880:True:=⟨⟩
theorem head.tw6507506987150044280:True:=⟨⟩
theorem head.tw12330954535739239725:True:=⟨⟩
theorem head.tw17411354535832351560:True:=⟨⟩
theorem head.tw1665017035384295647:True:=⟨⟩
theorem head.tw3688799982635324794:True:=⟨⟩
theorem head.tw7712916153251135833:True:=⟨⟩
theorem head.tw12987040726578829979:True:=⟨⟩
theorem head.tw5508695066786827253:True:=⟨⟩
theorem head.tw12239634837161043421:True:=⟨⟩
theorem head.tw6100774026682323163:True:=⟨⟩
theorem head.tw14527164170590304321:True:=⟨⟩
theorem head.tw1414592758211122379:True:=⟨⟩
theorem head.tw10366927770000222440:True:=⟨⟩
theorem head.tw1748456618969930982:True:=⟨⟩
theorem head.tw7658410731251134818:True:=⟨⟩
theorem head.tw15064752311394979489:True:=⟨⟩
theorem head.tw5506250874072839755:True:=⟨⟩
theorem head.tw5650451955626385410:True:=⟨⟩
theorem head.tw18332285231265401824:True:=⟨⟩
theorem head.tw10533634037010066435:True:=⟨⟩
theorem head.tw18051680202136193954:True:=⟨⟩
theorem head.tw16640130746408290383:True:=⟨⟩
theorem head.tw4433315090154635215:True:=⟨⟩
theorem head.tw15296082917334920728:True:=⟨⟩
theorem head.tw10898857373019930491:True:=⟨⟩
theorem head.tw17332727794074296334:True:=⟨⟩
theorem head.tw16847831306532103052:True:=⟨⟩
theorem head.tw11426403942048686318:True:=⟨⟩
theorem head.tw17552560543380974038:True:=⟨⟩
theorem head.tw14699756766385990792:True:=⟨⟩
theorem head.tw8773370040425892893:True:=⟨⟩
theorem head.tw12870424476946447624:True:=⟨⟩
theorem head.tw4693820183103290663:True:=⟨⟩
theorem head.tw12147184966966947637:True:=⟨⟩
theorem head.tw2393098407364606883:True:=⟨⟩
theorem head.tw3547240966391284428:True:=⟨⟩
theorem head.tw1652378952554205198:True:=⟨⟩
theorem head.tw2340069552987342377:True:=⟨⟩
theorem head.tw10018764681926925449:True:=⟨⟩
theorem head.tw9074772780463953568:True:=⟨⟩
theorem head.tw3991279037241028524:True:=⟨⟩
theorem head.tw8866670633112419022:True:=⟨⟩
theorem head.tw16204097306538826291:True:=⟨⟩
theorem head.tw13294958713779813728:True:=⟨⟩
theorem head.tw16714887947964762639:True:=⟨⟩
theorem head.tw2581250870941146908:True:=⟨⟩
theorem head.tw4063747431996464497:True:=⟨⟩
theorem head.tw14417885227837004991:True:=⟨⟩
theorem head.tw11692735721529064706:True:=⟨⟩
theorem head.tw13078646160514809887:True:=⟨⟩
theorem head.tw7313386461004707312:True:=⟨⟩
theorem head.tw17464823870196871000:True:=⟨⟩
theorem head.tw10261356005730403935:True:=⟨⟩
theorem head.tw3088210815446039105:True:=⟨⟩
theorem head.tw17789423225533864492:True:=⟨⟩
theorem head.tw13906610036690215845:True:=⟨⟩
theorem head.tw16997897962222511:True:=⟨⟩
theorem head.tw17142359554024780413:True:=⟨⟩
theorem head.tw5764021196749891206:True:=⟨⟩
theorem head.tw12740806245664736207:True:=⟨⟩
theorem head.tw18328473556755899883:True:=⟨⟩
theorem head.tw17525636777796739105:True:=⟨⟩
theorem head.tw5651425540991249520:True:=⟨⟩
theorem head.tw10356212845559719233:True:=⟨⟩
theorem head.tw11770459041652445329:True:=⟨⟩
theorem head.tw467416434755642258:True:=⟨⟩
theorem head.tw5331137831679937033:True:=⟨⟩
theorem head.tw5438144065070405397:True:=⟨⟩
theorem head.tw3089916443595474862:True:=⟨⟩
theorem head.tw1111766255153513783:True:=⟨⟩
theorem head.tw8402214883040486957:True:=⟨⟩
theorem head.tw14699528089545365996:True:=⟨⟩
theorem head.tw11484358847640170188:True:=⟨⟩
theorem head.tw16111715859725283846:True:=⟨⟩
theorem head.tw17854896373637125580:True:=⟨⟩
theorem head.tw9746458257258439470:True:=⟨⟩
theorem head.tw4381510469713062047:True:=⟨⟩
theorem head.tw8185714761375850791:True:=⟨⟩
theorem head.tw8159583801465064534:True:=⟨⟩
theorem head.tw1499353310998574721:True:=⟨⟩
theorem head.tw10010264046613662565:True:=⟨⟩
theorem head.tw15350242876123346281:True:=⟨⟩
theorem head.tw5092371620264689978:True:=⟨⟩
theorem head.tw5629256929840616583:True:=⟨⟩
theorem head.tw10987702880554017565:True:=⟨⟩
theorem head.tw6474009502463322548:True:=⟨⟩
theorem head.tw7512725033676591148:True:=⟨⟩
theorem head.tw9280153536138602973:True:=⟨⟩
theorem head.tw6587087628758450585:True:=⟨⟩
theorem head.tw11862927689305589065:True:=⟨⟩
theorem head.tw11194998557105285118:True:=⟨⟩
theorem head.tw16874305072444578374:True:=⟨⟩
theorem head.tw13954853420313727417:True:=⟨⟩
theorem head.tw13086575352542018947:True:=⟨⟩
theorem head.tw13335025841360890868:True:=⟨⟩
theorem head.tw7876399200375917224:True:=⟨⟩
theorem head.tw9101448428047585222:True:=⟨⟩
theorem head.tw15037083628117588352:True:=⟨⟩
theorem head.tw4415685298772064003:True:=⟨⟩
theorem head.tw1276956409769668328:True:=⟨⟩
theorem head.tw7090939061502383884:True:=⟨⟩
theorem head.tw17508272824862286709:True:=⟨⟩
theorem head.tw12032222614953749359:True:=⟨⟩
theorem head.tw1463646239528298992:True:=⟨⟩
theorem head.tw3547030090768783262:True:=⟨⟩
theorem head.tw11714945338242495837:True:=⟨⟩
theorem head.tw9325057278558614444:True:=⟨⟩
theorem head.tw9674239543357970916:True:=⟨⟩
theorem head.tw8382746154173761051:True:=⟨⟩
theorem head.tw17700853532424174462:True:=⟨⟩
theorem head.tw14842460003800876886:True:=⟨⟩
theorem head.tw13988103294471073821:True:=⟨⟩
theorem head.tw15782939476341012554:True:=⟨⟩
theorem head.tw14393718171448925343:True:=⟨⟩
theorem head.tw7758381527925395934:True:=⟨⟩
theorem head.tw3103639331685909893:True:=⟨⟩
theorem head.tw2400818531096893172:True:=⟨⟩
theorem head.tw2260579728952749127:True:=⟨⟩
theorem head.tw6737735255597943219:True:=⟨⟩
theorem head.tw5638995163158488052:True:=⟨⟩
theorem head.tw4023466491090337370:True:=⟨⟩
theorem head.tw10865165270600546614:True:=⟨⟩
theorem head.tw18416563613846182222:True:=⟨⟩
theorem head.tw17243387458012846398:True:=⟨⟩
theorem head.tw1212124681294104184:True:=⟨⟩
theorem head.tw14643560169476415855:True:=⟨⟩
theorem Aw {a:Str} (h:EV a=true):a="raw"\/a="n"\/a="nt"\/a="norm"\/a="is_simple":=by
 have h:((((a == ("raw":Str)) || (a == ("n":Str))) || (a == ("nt":Str))) || (a == ("norm":Str)) || (a == ("is_simple":Str)))=true:=h;simp only [dF,beq_iff_eq,or_assoc] at h;exact h
set_option Elab.async true in
theorem head:PySem.Challenge.rw_wz0028_02.Holds:=by
 w_on;o_law;k_head;(case hw=>w_witness2)
 k_fill
 intro w GK aG mg mb G Y fa o pm cd doc dV kV ho hd hcd hD hmg hg args vals as hpre hlay hrd hwl hlo;have KX:=kIn_of Y;have KO:HW w.params (head.heap_1_39 w.params):=by
  clear hd hcd hD ho Y hmg hg hpre hlay hrd hwl hlo KX G;refine { n3:=?_,gfn:=?_,gl1:=?_,gl2:=?_,gval:=?_,non1:=?_,non2:=?_,keep:=?_,f1:=⟨?_,?_,?_,?_,?_⟩,f2:=⟨?_,?_,?_,?_,?_⟩,f3:=⟨?_,?_,?_,?_,?_⟩,f4:=⟨?_,?_,?_,?_,?_,?_⟩,p1:=?_,p2:=?_,p3:=?_,m2:=?_,m3:=?_,c1:=?_,c2:=?_,c5:=?_,t1:=?_,t2:=?_,t3:=?_,t4:=?_ }
  ·exact ⟨_,_,_,_,_,rfl⟩
  ·repeat' (first | kernel_rfl | refine And.intro ?_ ?_)
  ·repeat' (first | kernel_rfl | refine And.intro ?_ ?_)
  ·repeat' (first | kernel_rfl | refine And.intro ?_ ?_)
  ·repeat' (first | kernel_rfl | refine And.intro ?_ ?_)
  ·repeat' (first | kernel_rfl | refine And.intro ?_ ?_)
  ·repeat' (first | kernel_rfl | refine And.intro ?_ ?_)
  ·repeat' (first | kernel_rfl | refine And.intro ?_ ?_)
  ·refine ⟨by kernel_rfl,by kernel_rfl,by kernel_rfl,⟨by kernel_rfl,by kernel_rfl,by kernel_rfl,by kernel_rfl,by kernel_rfl⟩,fun vals h=>by obtain ⟨a,b,e⟩:=tJ h;subst e;kernel_rfl⟩
  ·refine ⟨by kernel_rfl,by kernel_rfl,by kernel_rfl,⟨by kernel_rfl,by kernel_rfl,by kernel_rfl,by kernel_rfl,by kernel_rfl⟩,fun vals h=>by obtain ⟨a,e⟩:=qb h;subst e;kernel_rfl⟩
  ·refine ⟨by kernel_rfl,by kernel_rfl,by kernel_rfl,⟨by kernel_rfl,by kernel_rfl,by kernel_rfl,by kernel_rfl,by kernel_rfl⟩,fun vals h=>by obtain ⟨a,e⟩:=qb h;subst e;kernel_rfl⟩
  ·refine ⟨by kernel_rfl,by kernel_rfl,by kernel_rfl,⟨by kernel_rfl,by kernel_rfl,by kernel_rfl,by kernel_rfl,by kernel_rfl⟩,fun vals h=>by obtain ⟨a,e⟩:=qb h;subst e;kernel_rfl⟩
  ·refine ⟨by kernel_rfl,by kernel_rfl,by kernel_rfl,⟨by kernel_rfl,by kernel_rfl,by kernel_rfl,by kernel_rfl,by kernel_rfl⟩,fun vals h=>by obtain ⟨a,e⟩:=qb h;subst e;kernel_rfl⟩
  ·refine ⟨by kernel_rfl,by kernel_rfl,by kernel_rfl,⟨by kernel_rfl,by kernel_rfl,by kernel_rfl,by kernel_rfl,by kernel_rfl⟩,fun vals h=>by obtain ⟨a,e⟩:=qb h;subst e;kernel_rfl⟩
  ·refine ⟨by kernel_rfl,by kernel_rfl,by kernel_rfl,⟨by kernel_rfl,by kernel_rfl,by kernel_rfl,by kernel_rfl,by kernel_rfl⟩,fun vals h=>by obtain ⟨a,b,e⟩:=tJ h;subst e;kernel_rfl⟩
  ·refine ⟨by kernel_rfl,by kernel_rfl,by kernel_rfl,⟨by kernel_rfl,by kernel_rfl,by kernel_rfl,by kernel_rfl,by kernel_rfl⟩,fun vals h=>by obtain ⟨a,e⟩:=qb h;subst e;kernel_rfl⟩
  ·refine ⟨by kernel_rfl,by kernel_rfl,by kernel_rfl,⟨by kernel_rfl,by kernel_rfl,by kernel_rfl,by kernel_rfl,by kernel_rfl⟩,fun vals h=>by obtain ⟨a,e⟩:=qb h;subst e;kernel_rfl⟩
  ·refine ⟨by kernel_rfl,by kernel_rfl,by kernel_rfl,⟨by kernel_rfl,by kernel_rfl,by kernel_rfl,by kernel_rfl,by kernel_rfl⟩,fun vals h=>by obtain ⟨a,b,e⟩:=tJ h;subst e;kernel_rfl⟩
  ·refine ⟨by kernel_rfl,by kernel_rfl,by kernel_rfl,⟨by kernel_rfl,by kernel_rfl,by kernel_rfl,by kernel_rfl,by kernel_rfl⟩,fun vals h=>by obtain ⟨a,b,c,e⟩:=FX h;subst e;kernel_rfl⟩
  ·refine ⟨by kernel_rfl,by kernel_rfl,by kernel_rfl,⟨by kernel_rfl,by kernel_rfl,by kernel_rfl,by kernel_rfl,by kernel_rfl⟩,fun vals h=>by obtain ⟨a,e⟩:=qb h;subst e;kernel_rfl⟩
  ·refine ⟨by kernel_rfl,by kernel_rfl,by kernel_rfl,⟨by kernel_rfl,by kernel_rfl,by kernel_rfl,by kernel_rfl,by kernel_rfl⟩,fun vals h=>by obtain ⟨a,b,c,e⟩:=FX h;subst e;kernel_rfl⟩
  ·refine ⟨by kernel_rfl,by kernel_rfl,by kernel_rfl,⟨by kernel_rfl,by kernel_rfl,by kernel_rfl,by kernel_rfl,by kernel_rfl⟩,fun vals h=>by obtain ⟨a,b,e⟩:=tJ h;subst e;kernel_rfl⟩
  ·refine ⟨by kernel_rfl,by kernel_rfl,by kernel_rfl,⟨by kernel_rfl,by kernel_rfl,by kernel_rfl,by kernel_rfl,by kernel_rfl⟩,fun vals h=>by obtain ⟨a,e⟩:=qb h;subst e;kernel_rfl⟩
  ·refine ⟨by kernel_rfl,by kernel_rfl,by kernel_rfl,⟨by kernel_rfl,by kernel_rfl,by kernel_rfl,by kernel_rfl,by kernel_rfl⟩,fun vals h=>by obtain ⟨a,b,e⟩:=tJ h;subst e;kernel_rfl⟩
  ·refine ⟨by kernel_rfl,by kernel_rfl,by kernel_rfl,⟨by kernel_rfl,by kernel_rfl,by kernel_rfl,by kernel_rfl,by kernel_rfl⟩,fun vals h=>by obtain ⟨a,e⟩:=qb h;subst e;kernel_rfl⟩
  ·refine ⟨by kernel_rfl,by kernel_rfl,by kernel_rfl,⟨by kernel_rfl,by kernel_rfl,by kernel_rfl,by kernel_rfl,by kernel_rfl⟩,fun vals h=>by obtain ⟨a,b,e⟩:=tJ h;subst e;kernel_rfl⟩
  ·refine ⟨by kernel_rfl,by kernel_rfl,by kernel_rfl,⟨by kernel_rfl,by kernel_rfl,by kernel_rfl,by kernel_rfl,by kernel_rfl⟩,fun vals h=>by obtain ⟨a,b,e⟩:=tJ h;subst e;kernel_rfl⟩
  ·refine ⟨by kernel_rfl,by kernel_rfl,by kernel_rfl,⟨by kernel_rfl,by kernel_rfl,by kernel_rfl,by kernel_rfl,by kernel_rfl⟩,fun vals h=>by obtain ⟨a,b,e⟩:=tJ h;subst e;kernel_rfl⟩
  ·refine ⟨by kernel_rfl,by kernel_rfl,by kernel_rfl,⟨by kernel_rfl,by kernel_rfl,by kernel_rfl,by kernel_rfl,by kernel_rfl⟩,fun vals h=>by obtain ⟨a,b,c,e⟩:=FX h;subst e;kernel_rfl⟩
  ·repeat' (first | kernel_rfl | refine And.intro ?_ ?_)
  ·intro a ha
   rcases Aw ha with rfl | rfl | rfl | rfl | rfl<;>repeat' (first | kernel_rfl | refine And.intro ?_ ?_)
  ·repeat' (first | kernel_rfl | refine And.intro ?_ ?_)
  ·repeat' (first | kernel_rfl | refine And.intro ?_ ?_)
  ·repeat' (first | kernel_rfl | refine And.intro ?_ ?_)
  ·repeat' (first | kernel_rfl | refine And.intro ?_ ?_)
  ·repeat' (first | kernel_rfl | refine And.intro ?_ ?_)
  ·exact ⟨⟨_,rfl⟩,⟨_,rfl⟩⟩
  ·exact ⟨_,_,rfl⟩
  ·show pZ w.params [_,_,_,_,_,_,_,_,_,_,_,_,_,_,_,_,_,_,_,_,_,_,_,_,_,_,_,_,_,_,_,_,_,_,_,_,_,_,_,_,_,_,_,_,_,_,_,_]
   repeat (first | exact trivial | refine ⟨⟨_,_,rfl,rfl⟩,?_⟩)
  ·unfold lS;kernel_rfl
  ·kernel_rfl
 refine Ground.open G ?_;intro T B D TE TW;clear hd hcd hD ho Y TE TW D B;have hmg:mg ("law":Str)=some (.ref fa):=hmg
 wrow_args hpre hlay hrd hwl hlo
 have W:=‹Well w.params aG.heap (.ref _) (ofPy (.list _))›;refine wpAny_mono (z5 wX T.g T.b T.nolimit T.builtins KO KX hmg (by lia) W) (fun v s' z=>?_) fun J J x=>x.elim;obtain ⟨rfl,k,os,gb⟩:=z;refine ⟨.inl ⟨.bool true,.bool true,[],rfl,raisesW_false ?_,.bool true,?_,?_⟩,k,os,gb (by rw [hg];exact .of_eq rfl)⟩
 ·wrow_none_raised
 ·wrow_post
 ·exact fun J=>⟨ds,fun J h=>nomatch h⟩
end Mine
end
theorem PySem.Challenge.cw_wz0028_02_holds : PySem.Challenge.rw_wz0028_02.Holds :=
  Mine.head
