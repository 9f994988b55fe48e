import PyProof.Rows.All
import Wide.All
import OpenK.AllK
import Wide.FinOn
import KE.KIsAll
import KE.KIsNot
import PyProof.Rows.StrKeys3
import PyProof.AutoIntOps
import KE.KxPercentT
import KE.KDictSum
import PyProof.EqKinds
import KE.KDictList
import PyProof.Rows.SortStr
import PyProof.Rows.SortWalk
import PyProof.Rows.StrJoinRep
import KE.LcTurns
import Lean
import PySem.Challenge.RW_qm0001_01
set_option Elab.async false
set_option maxRecDepth 100000
set_option autoImplicit false
set_option genSizeOf false
set_option genInjectivity false
set_option genCtorIdx false
set_option backward.match.sparseCases false
set_option linter.all false
set_option tactic.hygienic false
noncomputable section
open And renaming imp->ia
open Array renaming getElem?_toList->ey,length_toList->hF,mk->j7,toList_append->la,getElem?_eq_none_iff->ox,getElem?_eq_getElem->oT,toArray_toList->r8,mem_toList_iff->B1,any_toList->J0,toList_inj->J2
open Bool renaming and_eq_true->di,not_eq_true'->ib,and_false->kK,or_eq_false_iff->kO,or_eq_true->k5,eq_false_iff->n5,and_true->rF,false_ne_true->to,true_and->E',or_true->I7
open Char renaming toNat->m4
open Exists renaming imp->nm
open ForInStep renaming yield->y0
open Int renaming le_refl->gt,ofNat_le->g5,ofNat_lt->g7,natCast_nonneg->j1,le_trans->kE,not_lt->mw,toNat_of_nonneg->m6,mul_le_mul_of_nonneg_right->rh,ofNat->ri,mul_le_mul_of_nonneg_left->rS,add_sub_cancel->tT,add_assoc->u',not_le->x3,natCast_add->x6,fmod_lt_of_pos->F6,add_left_comm->F7,add_zero->F8,zero_le_ofNat->F9,toNat_le->G1,ne_of_gt->G2,sub_zero->I4,sub_pos->NS,natCast_mul->N2,sub_le_self->N7,add_le_add->P1,add_nonneg->Y',le_add_one->Zr,ofNat_sub->ZD,mul_zero->ZI,zero_mul->ZJ,add_comm->ZQ,mul_add->ZU,mul_one->ZV
open LawfulBEq renaming eq_of_beq->ga
open List renaming length_append->bs,mem_singleton->ce,getElem?_eq_some_iff->df,getElem?_eq_getElem->dt,append_assoc->dx,append_nil->dE,length_cons->eb,mem_append->e8,mem_cons_self->f8,mem_cons_of_mem->f9,mem_of_getElem?->g8,length_map->hZ,eq_nil_of_length_eq_zero->h6,length_take->h7,map_cons->ic,getElem?_take->i4,getElem?_append_left->i7,all_cons->i',map_append->j0,lookup_cons->j3,replicate->j4,mem_map->j6,all_eq_true->kd,length_drop->ko,mem_of_mem_take->kV,nodup_append->k4,dropLast_concat_getLast->k6,length_nil->k7,mem_map_of_mem->k9,not_mem_nil->ls,getElem?_append_right->lD,map_eq_nil_iff->m5,cons_append->nb,size_toArray->n0,getElem?_map->n7,getElem?_concat_length->n8,range->n9,map->oC,getElem?_eq_none_iff->oI,getElem_of_mem->o1,zip_cons_cons->po,filterMap_map->pq,range_succ_eq_map->qp,map_map->qA,contains_iff_mem->qS,length_replicate->q9,take_append_drop->rb,length->rT,take_left'->se,filterMap_cons->su,drop->tg,pairwise_iff_getElem->t6,getElem?_set->t9,lookup->u7,take_sublist->u9,getElem_mem->wi,getElem_cons_zero->w3,append_inj_right'->w7,append_eq_nil_iff->w8,take_of_length_le->x5,nodup_cons->x8,of_mem_zip->y1,length_set->y2,nil_append->y3,mem_append_right->y8,append_inj_left'->y9,getElem?_append->zS,not_lt->z8,drop_zero->A1,mem_of_mem_drop->A',mergeSort_perm->E3,map_congr_left->E4,any_cons->E6,pairwise_cons->F4,getElem?_drop->F5,cons_eq_cons->G3,pairwise_map->I5,reverse_cons->I8,map_fst_zip->J9,map_snd_zip->J',isEmpty_iff->MV,map_reverse->M5,getLast_mem->NB,map_id->NR,find?_cons->N3,forIn_cons->N6,isPerm_iff->N8,filterMap->V1,nodup_nil->Xs,drop_nil->Zx,take_nil->Zy,map_take->ZC,take->ZG
open List.Pairwise renaming map->u8,imp->a0c
open List.cons renaming inj->hX
open Nat renaming le_add_right->bi,le_refl->ds,le_trans->ef,beq->e6,eq_of_beq_eq_true->g6,zero_le->hB,le_of_ble_eq_true->hS,le_add_left->im,le_of_lt->i5,add_le_add_left->i8,toDigits->j5,ble->k0,mul_le_mul_left->k8,mul_le_mul_right->ms,succ_le_succ->m9,toDigitsCore->na,add_sub_cancel_left->ne,lt_of_lt_of_le->no,sub_eq_zero_of_le->nw,min_eq_left->o5,sub_le->o8,not_lt->pr,le_of_eq->p9,ble_eq_true_of_le->rc,le_of_not_lt->rj,le_succ->r9,ne_of_lt->s6,ne_of_gt->s8,sub_add_cancel->tm,add_sub_cancel->tC,pos_of_ne_zero->tS,lt_irrefl->vk,min_le_right->v5,zero_add->wS,lt_or_ge->w2,add_zero->w5,add_lt_of_lt_sub'->zw,add_le_add_right->B0,add_sub_cancel'->D2,pos_iff_ne_zero->E5,digitChar->E8,lt_trichotomy->I3,succ_mul->I',lt_succ_self->L2,not_lt_zero->N5,sub_zero->ZO
open Option renaming some->au,none->ct,isSome_iff_exists->o4,isNone_iff_eq_none->t8,map->Zs
open Option.some renaming inj->j8
open PyProof.Rows renaming toString_length_le->o9,iadd_int->y6,Fr->N9,Subscript_->Q',getItem_tuple->S',joinParts_cons->V3,floordiv_int->Zu,getItem_str->Zz,truthy_int->ZF,notIn_str->ZM,mod_int'->ZS,iadd_str->ZT,add_int->ZW,sub_int->ZX,neg_int->ZY,add_str->ZZ,len_str->Z0,tail_any->Z2,eq_int->Z3,ne_int->Z4,lt_int->Z5,gt_int->Z6,eq_str->Z7,ne_str->Z8,lt_str->Z9,in_str->Z_
open PySem renaming sizeLine_eq->bw,wpAny_bind->cT,wpAny_pure->fe,wpAny->hJ,compareOp->hW,OsState->ie,wpAny_holding->il,treeTable->iv,Str->i2,World->i3,Params->i9,Around->j9,wpAny_standAt->kF,strKind->li,wpAny_execs_cons->lj,wpAny_loadName_local->lP,Operator->l9,getMethod_builtin->n4,wpAny_Assign_stores->o2,wpAny_Constant_int->o6,typeIs_str->rr,CmpOp->r7,wpAny_Name->tn,IntMulOk->tq,JoinOk->tE,slot_list_getitem->u4,sliceBounds_plain->u5,wpAny_getItem_list_slice->v4,Meets->v7,wpAny_isInstance->v8,wpAny_call->ws,call_meets->wt,wpAny_pyNext_list_item->w6,clipAt_nat->w9,wpAny_execs_nil->x7,wpAny_pyNext_list_end->y7,wpAny_bindName->z4,wpAny_loadPart->z5,wpAny_of_eq->z7,evalPart_none->E7,wpAny_Constant_str->Fb,wpAny_getItem_list->F3,list_append->G0,slot_dict_getitem->Ix,wpAny_pyIter_list->I1,NameKind->I2,codeAny_call_def->M1,Sem->NO,wpAny_BinOp->NP,Tok->N',wpAny_mono->P2,sliceRange_one->Tr,strKind_is->Tx,typeIs_int->T2,wpAny_seqItems->U2,wpAny_UnaryOp->Zv,wpAny_release->Zw,evalPart_some->ZA,wpAny_ite->ZH,BoolOp->ZK,call_meetsIn->ZN,BindsTo->ZP,call->a0a
open PySem.Builtin renaming divisionGoesByPylong->hU
open PySem.Builtin.Int renaming intTooBig->q8,intBits->sh
open PySem.Builtin.Range renaming rangeFitsLong->s9,rangeSize->v',small->Z'
open PySem.Builtin.Str renaming occurrences->dV,strSliceIndices->n6,Percent->C0,tooLong->E0,Writer->J1
open PySem.F renaming slot_list_append->m0,plainAttrs_list->pw,slot_list_pop->q7,args_list_append_2->tx,slot_str_mod->tH,entry_list_append->t7,type_list_append->vJ,plainAttrs_dict->v6,args_str_mod_2->v9,entry_list_pop->wx,slot_dict_copy->wR,slot_dict_keys->w4,fills_str_mod->x9,entry_str_mod->ya
open PySem.Heap renaming get?_push_of_some->e5,get?_push_size->ix,lt_size->lF,get?_update_self->nu,dictOf_iff->sb,SameBut->F',size_push->V2
open PySem.Heap.SameBut renaming update->o3
open PySem.Keeper renaming boundFrame->u6,machine->z9,frame->I0
open PySem.Obj renaming mapSeq->o7,putName->NQ
open PySem.PyData renaming keyHash->lw
open PySem.Str renaming ofString->a',ofString->j2,empty->tl,length_append->Gs,empty->N4,length->T1,join->Zt
open PySem.Txt renaming startswith->m8,mul->rC,join->z6,slice->LW
open PySem.W renaming boot_drawn->iy,boot_heap->i6,listOf->m7,piece_app->rs,segRun_of->rz,lookIn_dict->un,boot_toks->D1,ghost_fresh->N0,InstAt->P',get_value->ZE,putName_dict->ZL,hideAll_none->ZR
open PySem.W.KPc renaming Good->lx,good_add->p',obj_none->qg,good_mono->E9,range_list->U1,finish_ok->ZB
namespace Mine.Internal.Mine
open PySem PySem.W PyProof.Rows PySem.Calls
section
abbrev sy:=Bool->Nat->Nat
noncomputable def mU(i k:Nat):sy:=λb j=>cond b 0 (cond (e6 i j) k 0)
noncomputable def jM{α:Type}(z:α):List α->Nat->α
 |[],_=>z|x::r,i=>match i with
  |0=>x|j+1=>jM z r j
def xX{α:Type}(z:Bool)(v n:Nat->α)(p:α->α->α)(m:Nat->α->α)(s:α->α->α):Nat->Nat->(α->sy->Nat->Prop)->Prop
 |0,c,k=>k (n 0) (mU 0 0) c|f+1,c,k=>
  jM (k (n 0) (mU 0 0) c) [k (v (c % 16)) (mU (c % 16+1) 1) (c/16),
   xX z v n p m s f (c/16) λx a c=>xX z v n p m s f c λy b c=>k (p x y) (λt j=>a t j+b t j) c,
   xX z v n p m s f (c/268435456) λy b d=>k (m (c/16 % 16777216) y) (λt j=>c/16 % 16777216*b t j) d,
   k (n (c/16 % 16)) (mU 0 (c/16 % 16)) (c/256),k (n (c/16 % 256)) (mU 0 (c/16 % 256)) (c/4096),
   k (n (c/16 % 65536)) (mU 0 (c/16 % 65536)) (c/1048576),k (n (c/16 % 268435456)) (mU 0 (c/16 % 268435456)) (c/4294967296),
   cond z (xX z v n p m s f (c/16) λx a c=>xX z v n p m s f c λy b c=>k (s x y) (λt j=>a t j+b (!t) j) c) (k (n 0) (mU 0 0) c)] (c % 16-7)
def Cv{α:Type}(P:Nat->Nat->(α->sy->Nat->Prop)->Prop)(le:α->α->Prop)(nn:Nat->Bool)(l F:Nat):Nat->Nat->sy->Prop
 |0,c,A=>P F c λx a c=>P F c λy b _=>cond ((n9 l).all λj=>cond (nn j) (k0 (b true j+a false j+A false j) (b false j+a true j+A true j)) (e6 (b true j+a false j+A false j) (b false j+a true j+A true j))) (le x y) True|h+1,c,A=>P F (c/16) λx a C=>P F C λy b C=>le x y->Cv P le nn l F h C (λt j=>c % 16*(b t j+a (!t) j)+A t j)
noncomputable def eu:List Int->(Nat->Nat)->Int
 |[],_=>0|x::r,f=>f 0*x+eu r λi=>f (i+1)
theorem M8(a b c d:Int):a+b+(c+d)=a+c+(b+d):=by rw[u',u',F7 b]
theorem kQ:∀l f g,eu l (λj=>f j+g j)=eu l f+eu l g
 |[],_,_=>rfl|x::r,f,g=>by show((f 0+g 0:Nat):Int)*x+eu r _=f 0*x+_+(g 0*x+_);rw[kQ r (λj=>f (j+1)) λj=>g (j+1),x6,Int.add_mul];exact M8 ..
theorem uT:∀l (k:Nat) f,eu l (λj=>k*f j)=k*eu l f
 |[],_,_=>(ZI _).symm|x::r,k,f=>by show((k*f 0:Nat):Int)*x+eu r _=k*(f 0*x+_);rw[uT r k λj=>f (j+1),ZU,N2,Int.mul_assoc]
theorem M9(l):eu l (λ_=>0)=0:=(uT l 0 λ_=>0).trans (ZJ _)
theorem YZ(k:Nat):∀l i,eu l (λj=>cond (e6 i j) k 0)=k*jM 0 l i
 |[],_=>(ZI _).symm|x::r,0=>by show k*x+eu r (λ_=>0)=k*x;rw[M9,F8]|x::r,i+1=>by show((0:Nat):Int)*x+eu r (λj=>cond (e6 i j) k 0)=_;rw[YZ k r i];exact(congrArg (· +_) (ZJ _)).trans (Int.zero_add _)
theorem Y0:∀l f g,(∀j,j<l.length->f j<=g j/\(0<=jM 0 l j\/f j=g j))->eu l f<=eu l g
 |[],_,_,_=>gt _
 |x::r,f,g,h=>P1 (by
   have⟨a,b⟩:=h 0 (Nat.succ_pos _);rcases b with b|b
   ·exact rh (g5.2 a) b
   ·exact b▸gt _) (Y0 r _ _ λj q=>h (j+1) (Nat.succ_lt_succ q))
def M_{α:Type}(io:α->Int)(l:List Int)(x:α)(a:sy):Prop:=io x+eu l (a true)=eu l (a false)
def Y1(P:Prop->Prop):List Prop->Prop
 |[]=>True|x::r=>P x/\Y1 P r
theorem Y2{P:Prop->Prop}{z:Prop}(h:P z):∀l i,Y1 P l->P (jM z l i)
 |[],_,_=>h|x::r,0,g=>g.1|x::r,i+1,g=>Y2 h r i g.2
section
variable {α:Type} {io:α->Int} {l:List Int} {z:Bool} {v n:Nat->α} {p:α->α->α} {m:Nat->α->α} {s:α->α->α}
 (hv:∀i,io (v i)=jM 0 l (i+1)) (hn:∀k:Nat,io (n k)=k*jM 0 l 0) (hp:∀x y,io (p x y)=io x+io y) (hm:∀(k:Nat) x,io (m k x)=k*io x) (hs:z=true->∀x y,io (s x y)=io x-io y)
include hv hn hp hm hs
theorem Y3{P:Prop->Prop}:∀(f c:Nat) (k:α->sy->Nat->Prop),(∀x a c,M_ io l x a->P (k x a c))->P (xX z v n p m s f c k):=by
 have u (x i) (k:Nat) (h:io x=k*jM 0 l i):M_ io l x (mU i k):=by show io x+eu l (λ_=>0)=eu l (λj=>cond (e6 i j) k 0);rw[M9,YZ,h,F8]
 intro f
 induction f with
 |zero=>exact λc k h=>h _ _ _ (u _ _ _ (hn 0))|succ f I=>
  intro c k h;have N (k C):P (_):=h (n k) (mU 0 k) C (u _ _ _ (hn k));refine Y2 (N _ _) _ _ ⟨h _ _ _ (u _ _ _ ((hv _).trans (Int.one_mul _).symm)),I _ _ λx a c e=>I _ _ λy b c H=>h _ _ _ ?_,I _ _ λy b d H=>h _ _ _ ?_,N _ _,N _ _,N _ _,N _ _,?_,trivial⟩
  ·show io _+eu l (λj=>a true j+b true j)=eu l (λj=>a false j+b false j);rw[kQ,kQ,hp,←e,←H];exact M8 ..
  ·show io _+eu l (λj=>_*b true j)=eu l (λj=>_*b false j);rw[uT,uT,hm,←H,ZU]
  ·cases z with
   |false=>exact N _ _|true=>
    refine I _ _ λx a c e=>I _ _ λy b c H=>h _ _ _ ?_
    show io _+eu l (λj=>a true j+b false j)=eu l (λj=>a false j+b true j);rw[kQ,kQ,hs rfl,←e,←H,F7 _ (io y),←u',Int.sub_add_cancel,←u']
theorem M'{le:α->α->Prop}{nn:Nat->Bool}(H:∀x y,le x y↔io x<=io y)(i:∀j,nn j=true->0<=jM 0 l j):∀F h c A,eu l (A true)<=eu l (A false)->Cv (xX z v n p m s) le nn l.length F h c A:=by
 have o {P:Prop->Prop}:=Y3 (P:=P) hv hn hp hm hs;intro F h
 induction h with
 |zero=>
  refine λc A q=>o (P:=λx=>x) _ _ _ λx a c d=>o (P:=λx=>x) _ _ _ λy b c f=>?_
  cases e:List.all _ _
  ·trivial
  ·refine(H x y).2 ?_;have w:=Y0 l (λj=>b true j+a false j+A false j) (λj=>b false j+a true j+A true j) λj q=>by
    have w:=kd.1 e j (List.mem_range.2 q);cases g:nn j
    ·rw[g]at w;have w:=g6 w;exact⟨p9 w,.inr w⟩
    ·rw[g]at w;exact⟨hS w,.inl (i j g)⟩
   rw[kQ l (λj=>b true j+a false j),kQ,kQ l (λj=>b false j+a true j),kQ,←d,←f]at w
   lia
 |succ h I=>
  refine λc A q=>o (P:=λx=>x) _ _ _ λx a c d=>o (P:=λx=>x) _ _ _ λy b c f=>λg=>I _ _ ?_
  have g:=(H x y).1 g;rw[kQ l λj=>_*(b true j+a (!true) j),uT,kQ,kQ l λj=>_*(b false j+a (!false) j),uT,kQ];have d:io x+eu l (a true)=eu l (a false):=d;have f:io y+eu l (b true)=eu l (b false):=f;exact P1 (rS (by show eu l (b true)+eu l (a false)<=eu l (b false)+eu l (a true);lia) (j1 _)) q
end
abbrev mV(l:List Nat)(n h c:Nat):Prop:=Cv (xX false (jM 0 l) (λk=>k) (· +·) (· *·) (· +·)) (· <=·) (λ_=>true) n 9 h c λ_ _=>0
abbrev mW(l:List Int)(n h c:Nat):Prop:=Cv (xX true (jM 0 l) ri (· +·) (ri · *·) (· -·)) (· <=·) (λj=>e6 j 0) n 9 h c λ_ _=>0
theorem nU(l:List Nat)(h c:Nat):mV l (l.length+1) h c:=by
 have m (l:List Nat) (i):jM 0 (l.map ri) i=jM 0 l i:=by
  induction l generalizing i with
  |nil=>rfl|cons x r I=>cases i;rfl;exact I _
 have:=M' (l:=1::l.map ri) (v:=jM 0 l) (n:=λk=>k) (p:=(· +·)) (m:=(· *·)) (s:=(· +·)) (io:=ri) (z:=false) (le:=(· <=·)) (nn:=λ_=>true) (λi=>(m l i).symm) (λk=>(ZV k).symm) x6 N2 nofun (λ_ _=>g5.symm)
  (λj _=>by cases j;exact F9 1;exact m l _▸j1 _) 9 h c (λ_ _=>0) (gt _)
 rw[eb,hZ]at this;exact this
theorem nV(l:List Int)(h c:Nat):mW l (l.length+1) h c:=
 M' (l:=1::l) (v:=jM 0 l) (n:=ri) (p:=(· +·)) (m:=(ri · *·)) (s:=(· -·)) (io:=id) (z:=true) (le:=(· <=·)) (nn:=λj=>e6 j 0) (λi=>rfl) (λk=>(ZV k).symm) (λ_ _=>rfl) (λ_ _=>rfl) (λ_ _ _=>rfl) (λ_ _=> .rfl)
  (λj e=>g6 e▸F9 1) 9 h c (λ_ _=>0) (gt _)
theorem cO{a b c:Nat}(h:a<=b)(k:b<=c:=by decide):a<=c:=ef h k
theorem bv{α:Type}{a b:α}{l:List α}(h:a∈b::l):a=b\/a∈l:=List.mem_cons.mp h
theorem gh{α:Prop}(h:1<=0):α:=nomatch h
theorem An{α:Prop}(h:(1:Int)<=0):α:=absurd h (by decide)
theorem aJ{a b:Nat}(h:a=b):a<=b:=p9 h
theorem jd{a b:Int}(h:a=b):a<=b:=Int.le_of_eq h
theorem ea{a b:Nat}(h:a<=b)(g:b<=a):a=b:=Nat.le_antisymm h g
theorem OP{a b:Int}(h:a<=b)(g:b<=a):a=b:=Int.le_antisymm h g
theorem Zh{a b:Nat}(h:¬b<=a):a+1<=b:=Nat.lt_of_not_le h
theorem JS{a b:Nat}(h:¬b<a):a<=b:=rj h
theorem Zi{a b:Int}(h:¬b<=a):a+1<=b:=Int.lt_of_not_ge h
theorem wj{a b:Int}(h:¬b<a):a<=b:=mw.1 h
theorem jb(n:Nat):(0:Int)<=n:=j1 n
theorem cX{a b:Nat}(h:b<=a):a-b+b<=a:=p9 (tm h)
theorem d_(a b:Nat):a<=a-b+b:=Nat.sub_add_eq_max a b▸Nat.le_max_left a b
theorem NI{a b:Nat}(h:1<=a-b):a-b+b<=a:=cX (i5 (Nat.lt_of_sub_pos h))
theorem oh{n:Nat}(h:n<=1000000):(-1000000000:Int)<=n/\(n:Int)<=1000000000:=⟨kE (by decide) (j1 n),kE (g5.2 h) (by decide)⟩
theorem gv(k:Nat){a b:Nat}(h:a<=b):k*a<=k*b:=k8 k h
theorem Zj(c:Nat):mV [] 1 (c % 16) (c/16):=nU ..
theorem Zk(c:Nat):mW [] 1 (c % 16) (c/16):=nV ..
theorem aO{a:Nat}(c:Nat):mV [a] 2 (c % 16) (c/16):=nU ..
theorem dj{a:Int}(c:Nat):mW [a] 2 (c % 16) (c/16):=nV ..
theorem aC{a b:Nat}(c:Nat):mV [a,b] 3 (c % 16) (c/16):=nU ..
theorem eI{a b:Int}(c:Nat):mW [a,b] 3 (c % 16) (c/16):=nV ..
theorem bc{a b d:Nat}(c:Nat):mV [a,b,d] 4 (c % 16) (c/16):=nU ..
theorem sP{a b d:Int}(c:Nat):mW [a,b,d] 4 (c % 16) (c/16):=nV ..
theorem bS{a b d e:Nat}(c:Nat):mV [a,b,d,e] 5 (c % 16) (c/16):=nU ..
theorem Zl{a b d e:Int}(c:Nat):mW [a,b,d,e] 5 (c % 16) (c/16):=nV ..
theorem fN{a b d e f:Nat}(c:Nat):mV [a,b,d,e,f] 6 (c % 16) (c/16):=nU ..
theorem Zm{a b d e f:Int}(c:Nat):mW [a,b,d,e,f] 6 (c % 16) (c/16):=nV ..
theorem sN{a b d e f g:Nat}(c:Nat):mV [a,b,d,e,f,g] 7 (c % 16) (c/16):=nU ..
theorem Zn{a b d e f g:Int}(c:Nat):mW [a,b,d,e,f,g] 7 (c % 16) (c/16):=nV ..
theorem Ib{a b d e f g h:Nat}(c:Nat):mV [a,b,d,e,f,g,h] 8 (c % 16) (c/16):=nU ..
theorem Zo{a b d e f g h:Int}(c:Nat):mW [a,b,d,e,f,g,h] 8 (c % 16) (c/16):=nV ..
theorem Zp{a b d e f g h i:Nat}(c:Nat):mV [a,b,d,e,f,g,h,i] 9 (c % 16) (c/16):=nU ..
theorem Zq{a b d e f g h i:Int}(c:Nat):mW [a,b,d,e,f,g,h,i] 9 (c % 16) (c/16):=nV ..
end
section
variable {A B C D E F G H:Type} {c p0 p1 p2 p3 p4 p5 p6 p7:Prop} {q0 q1 q2 q3 q4 q5 q6:A->Prop} {r0 r1 r2 r3 r4 r5:A->B->Prop} {s0 s1 s2 s3 s4 s5:A->B->C->Prop} {t0 t1 t2 t3 t4 t5:A->B->C->D->Prop} {u0 u1 u2 u3:A->B->C->D->E->Prop} {v0 v1:A->B->C->D->E->F->Prop} {w0 w1:A->B->C->D->E->F->G->Prop} {x0 x1 x2:A->B->C->D->E->F->G->H->Prop}
theorem ai(h:p0)(H:p1):p0/\p1:=⟨h,H⟩
theorem cz(h:p0)(H:p1)(a:p2):p0/\p1/\p2:=⟨h,H,a⟩
theorem gU(h:p0)(H:p1)(a:p2)(b:p3):p0/\p1/\p2/\p3:=⟨h,H,a,b⟩
theorem vI(h:p0)(H:p1)(a:p2)(b:p3)(c:p4):p0/\p1/\p2/\p3/\p4:=⟨h,H,a,b,c⟩
theorem TV(h:p0)(H:p1)(a:p2)(b:p3)(c:p4)(d:p5):p0/\p1/\p2/\p3/\p4/\p5:=⟨h,H,a,b,c,d⟩
theorem TU(h:p0)(H:p1)(a:p2)(b:p3)(c:p4)(d:p5)(e:p6):p0/\p1/\p2/\p3/\p4/\p5/\p6:=⟨h,H,a,b,c,d,e⟩
theorem KL(h:p0)(H:p1)(a:p2)(b:p3)(c:p4)(d:p5)(e:p6)(f:p7):p0/\p1/\p2/\p3/\p4/\p5/\p6/\p7:=⟨h,H,a,b,c,d,e,f⟩
theorem lG(h:p0)(H:p1)(b:p2)(a:A)(c:q0 a)(d:q1 a):p0/\p1/\p2/\∃a,q0 a/\q1 a:=⟨h,H,b,a,c,d⟩
theorem qY(h:p0)(a:A)(H:q0 a):p0/\∃a,q0 a:=⟨h,a,H⟩
theorem ba(a:A)(h:q0 a):∃a,q0 a:=⟨a,h⟩
theorem aE(a:A)(h:q0 a)(H:q1 a):∃a,q0 a/\q1 a:=⟨a,h,H⟩
theorem bx(a:A)(h:q0 a)(H:q1 a)(b:q2 a):∃a,q0 a/\q1 a/\q2 a:=⟨a,h,H,b⟩
theorem ii(a:A)(h:q0 a)(H:q1 a)(b:q2 a)(c:q3 a):∃a,q0 a/\q1 a/\q2 a/\q3 a:=⟨a,h,H,b,c⟩
theorem H4(a:A)(h:q0 a)(H:q1 a)(b:q2 a)(c:q3 a)(d:q4 a):∃a,q0 a/\q1 a/\q2 a/\q3 a/\q4 a:=⟨a,h,H,b,c,d⟩
theorem Kp(a:A)(h:q0 a)(H:q1 a)(b:q2 a)(c:q3 a)(d:q4 a)(e:q5 a)(f:q6 a):∃a,q0 a/\q1 a/\q2 a/\q3 a/\q4 a/\q5 a/\q6 a:=⟨a,h,H,b,c,d,e,f⟩
theorem RM(a:A)(h:q0 a)(H:q1 a)(c:q2 a)(d:q3 a)(b:B)(e:r0 a b):∃a,q0 a/\q1 a/\q2 a/\q3 a/\∃b,r0 a b:=⟨a,h,H,c,d,b,e⟩
theorem rE(a:A)(h:q0 a)(H:q1 a)(b:B)(c:r0 a b):∃a,q0 a/\q1 a/\∃b,r0 a b:=⟨a,h,H,b,c⟩
theorem TW(a:A)(h:q0 a)(b:B)(H:r0 a b)(c:r1 a b)(d:r2 a b)(e:r3 a b):∃a,q0 a/\∃b,r0 a b/\r1 a b/\r2 a b/\r3 a b:=⟨a,h,b,H,c,d,e⟩
theorem Y8(a:A)(h:q0 a)(b:B)(c:C)(d:D)(H:t0 a b c d)(e:t1 a b c d)(f:t2 a b c d)(g:t3 a b c d):∃a,q0 a/\∃b c d,t0 a b c d/\t1 a b c d/\t2 a b c d/\t3 a b c d:=⟨a,h,b,c,d,H,e,f,g⟩
theorem oz(a:A)(b:B)(h:r0 a b):∃a b,r0 a b:=⟨a,b,h⟩
theorem cg(a:A)(b:B)(h:r0 a b)(H:r1 a b):∃a b,r0 a b/\r1 a b:=⟨a,b,h,H⟩
theorem dy(a:A)(b:B)(h:r0 a b)(H:r1 a b)(c:r2 a b):∃a b,r0 a b/\r1 a b/\r2 a b:=⟨a,b,h,H,c⟩
theorem eE(a:A)(b:B)(h:r0 a b)(H:r1 a b)(c:r2 a b)(d:r3 a b):∃a b,r0 a b/\r1 a b/\r2 a b/\r3 a b:=⟨a,b,h,H,c,d⟩
theorem Au(a:A)(b:B)(h:r0 a b)(H:r1 a b)(c:r2 a b)(d:r3 a b)(e:r4 a b):∃a b,r0 a b/\r1 a b/\r2 a b/\r3 a b/\r4 a b:=⟨a,b,h,H,c,d,e⟩
theorem SX(a:A)(b:B)(h:r0 a b)(H:r1 a b)(c:r2 a b)(d:r3 a b)(e:r4 a b)(f:r5 a b):∃a b,r0 a b/\r1 a b/\r2 a b/\r3 a b/\r4 a b/\r5 a b:=⟨a,b,h,H,c,d,e,f⟩
theorem BD(a:A)(b:B)(c:C)(h:s0 a b c):∃a b c,s0 a b c:=⟨a,b,c,h⟩
theorem ju(a:A)(b:B)(c:C)(h:s0 a b c)(H:s1 a b c):∃a b c,s0 a b c/\s1 a b c:=⟨a,b,c,h,H⟩
theorem pJ(a:A)(b:B)(c:C)(h:s0 a b c)(H:s1 a b c)(d:s2 a b c):∃a b c,s0 a b c/\s1 a b c/\s2 a b c:=⟨a,b,c,h,H,d⟩
theorem jt(a:A)(b:B)(c:C)(h:s0 a b c)(H:s1 a b c)(d:s2 a b c)(e:s3 a b c):∃a b c,s0 a b c/\s1 a b c/\s2 a b c/\s3 a b c:=⟨a,b,c,h,H,d,e⟩
theorem ni(a:A)(b:B)(c:C)(h:s0 a b c)(H:s1 a b c)(d:s2 a b c)(e:s3 a b c)(f:s4 a b c):∃a b c,s0 a b c/\s1 a b c/\s2 a b c/\s3 a b c/\s4 a b c:=⟨a,b,c,h,H,d,e,f⟩
theorem TX(a:A)(b:B)(c:C)(h:s0 a b c)(H:s1 a b c)(d:s2 a b c)(e:s3 a b c)(f:s4 a b c)(g:s5 a b c):∃a b c,s0 a b c/\s1 a b c/\s2 a b c/\s3 a b c/\s4 a b c/\s5 a b c:=⟨a,b,c,h,H,d,e,f,g⟩
theorem TY(a:A)(b:B)(c:C)(d:D)(h:t0 a b c d):∃a b c d,t0 a b c d:=⟨a,b,c,d,h⟩
theorem TZ(a:A)(b:B)(c:C)(d:D)(h:t0 a b c d)(H:t1 a b c d):∃a b c d,t0 a b c d/\t1 a b c d:=⟨a,b,c,d,h,H⟩
theorem T0(a:A)(b:B)(c:C)(d:D)(h:t0 a b c d)(H:t1 a b c d)(e:t2 a b c d):∃a b c d,t0 a b c d/\t1 a b c d/\t2 a b c d:=⟨a,b,c,d,h,H,e⟩
theorem T3(a:A)(b:B)(c:C)(d:D)(h:t0 a b c d)(H:t1 a b c d)(e:t2 a b c d)(f:t3 a b c d):∃a b c d,t0 a b c d/\t1 a b c d/\t2 a b c d/\t3 a b c d:=⟨a,b,c,d,h,H,e,f⟩
theorem JR(a:A)(b:B)(c:C)(d:D)(h:t0 a b c d)(H:t1 a b c d)(e:t2 a b c d)(f:t3 a b c d)(g:t4 a b c d):∃a b c d,t0 a b c d/\t1 a b c d/\t2 a b c d/\t3 a b c d/\t4 a b c d:=⟨a,b,c,d,h,H,e,f,g⟩
theorem OM(a:A)(b:B)(c:C)(d:D)(e:E)(h:u0 a b c d e)(H:u1 a b c d e)(f:u2 a b c d e):∃a b c d e,u0 a b c d e/\u1 a b c d e/\u2 a b c d e:=⟨a,b,c,d,e,h,H,f⟩
theorem qB(a:A)(b:B)(c:C)(d:D)(e:E)(h:u0 a b c d e)(H:u1 a b c d e)(f:u2 a b c d e)(g:u3 a b c d e):∃a b c d e,u0 a b c d e/\u1 a b c d e/\u2 a b c d e/\u3 a b c d e:=⟨a,b,c,d,e,h,H,f,g⟩
theorem It(a:A)(b:B)(c:C)(d:D)(e:E)(f:F)(h:v0 a b c d e f)(H:v1 a b c d e f):∃a b c d e f,v0 a b c d e f/\v1 a b c d e f:=⟨a,b,c,d,e,f,h,H⟩
theorem Iv(a:A)(b:B)(c:C)(d:D)(e:E)(f:F)(g:G)(h:w0 a b c d e f g)(H:w1 a b c d e f g):∃a b c d e f g,w0 a b c d e f g/\w1 a b c d e f g:=⟨a,b,c,d,e,f,g,h,H⟩
theorem kz(a:A)(b:B)(c:C)(d:D)(e:E)(f:F)(g:G)(h:H)(j:x0 a b c d e f g h)(k:x1 a b c d e f g h)(i:x2 a b c d e f g h):∃a b c d e f g h,x0 a b c d e f g h/\x1 a b c d e f g h/\x2 a b c d e f g h:=⟨a,b,c,d,e,f,g,h,j,k,i⟩
theorem aV(h:p0/\p1)(f:p0->p1->c):c:=by obtain⟨x0,x1⟩:=h;exact f x0 x1
theorem cS(h:p0/\p1/\p2)(f:p0->p1->p2->c):c:=by obtain⟨x0,x1,x2⟩:=h;exact f x0 x1 x2
theorem me(h:p0/\p1/\p2/\p3)(f:p0->p1->p2->p3->c):c:=by obtain⟨x0,x1,x2,x⟩:=h;exact f x0 x1 x2 x
theorem sO(h:p0/\p1/\p2/\p3/\p4)(f:p0->p1->p2->p3->p4->c):c:=by obtain⟨x0,x1,x2,x,X⟩:=h;exact f x0 x1 x2 x X
theorem pQ(h:p0/\p1/\p2/\p3/\p4/\p5)(f:p0->p1->p2->p3->p4->p5->c):c:=by obtain⟨x0,x1,x2,x,X,a⟩:=h;exact f x0 x1 x2 x X a
theorem KP(h:p0/\p1/\p2/\p3/\p4/\p5/\p6)(f:p0->p1->p2->p3->p4->p5->p6->c):c:=by obtain⟨x0,x1,x2,x,X,a,b⟩:=h;exact f x0 x1 x2 x X a b
theorem mj(h:p0/\p1/\p2/\p3/\p4/\p5/\p6/\p7)(f:p0->p1->p2->p3->p4->p5->p6->p7->c):c:=by obtain⟨x0,x1,x2,x,X,a,b,d⟩:=h;exact f x0 x1 x2 x X a b d
theorem lE(h:p0/\p1/\p2/\∃a,q0 a/\q1 a)(f:p0->p1->p2->∀a,q0 a->q1 a->c):c:=by obtain⟨x0,x1,x2,x,X,b⟩:=h;exact f x0 x1 x2 x X b
theorem T4(h:p0/\∃a A b,s0 a A b/\s1 a A b/\s2 a A b/\s3 a A b)(f:p0->∀a A b,s0 a A b->s1 a A b->s2 a A b->s3 a A b->c):c:=by obtain⟨x0,x1,x2,x,X,d,e,g⟩:=h;exact f x0 x1 x2 x X d e g
theorem bf(h:∃a,q0 a)(f:∀a,q0 a->c):c:=by obtain⟨x0,x1⟩:=h;exact f x0 x1
theorem ap(h:∃a,q0 a/\q1 a)(f:∀a,q0 a->q1 a->c):c:=by obtain⟨x0,x1,x2⟩:=h;exact f x0 x1 x2
theorem bY(h:∃a,q0 a/\q1 a/\q2 a)(f:∀a,q0 a->q1 a->q2 a->c):c:=by obtain⟨x0,x1,x2,x⟩:=h;exact f x0 x1 x2 x
theorem kq(h:∃a,q0 a/\q1 a/\q2 a/\q3 a)(f:∀a,q0 a->q1 a->q2 a->q3 a->c):c:=by obtain⟨x0,x1,x2,x,X⟩:=h;exact f x0 x1 x2 x X
theorem T5(h:∃a,q0 a/\q1 a/\q2 a/\q3 a/\q4 a)(f:∀a,q0 a->q1 a->q2 a->q3 a->q4 a->c):c:=by obtain⟨x0,x1,x2,x,X,b⟩:=h;exact f x0 x1 x2 x X b
theorem Kr(h:∃a,q0 a/\q1 a/\q2 a/\q3 a/\q4 a/\q5 a/\q6 a)(f:∀a,q0 a->q1 a->q2 a->q3 a->q4 a->q5 a->q6 a->c):c:=by obtain⟨x0,x1,x2,x,X,b,d,e⟩:=h;exact f x0 x1 x2 x X b d e
theorem Sd(h:∃a,q0 a/\q1 a/\q2 a/\q3 a/\∃A,r0 a A)(f:∀a,q0 a->q1 a->q2 a->q3 a->∀A,r0 a A->c):c:=by obtain⟨x0,x1,x2,x,X,b,d⟩:=h;exact f x0 x1 x2 x X b d
theorem T6(h:∃a,q0 a/\q1 a/\∃A,r0 a A)(f:∀a,q0 a->q1 a->∀A,r0 a A->c):c:=by obtain⟨x0,x1,x2,x,X⟩:=h;exact f x0 x1 x2 x X
theorem Y9(h:∃a,q0 a/\∃A,r0 a A/\r1 a A/\r2 a A/\r3 a A)(f:∀a,q0 a->∀A,r0 a A->r1 a A->r2 a A->r3 a A->c):c:=by obtain⟨x0,x1,x2,x,X,b,d⟩:=h;exact f x0 x1 x2 x X b d
theorem jg(h:∃a A,r0 a A)(f:∀a A,r0 a A->c):c:=by obtain⟨x0,x1,x2⟩:=h;exact f x0 x1 x2
theorem dJ(h:∃a A,r0 a A/\r1 a A)(f:∀a A,r0 a A->r1 a A->c):c:=by obtain⟨x0,x1,x2,x⟩:=h;exact f x0 x1 x2 x
theorem dz(h:∃a A,r0 a A/\r1 a A/\r2 a A)(f:∀a A,r0 a A->r1 a A->r2 a A->c):c:=by obtain⟨x0,x1,x2,x,X⟩:=h;exact f x0 x1 x2 x X
theorem fA(h:∃a A,r0 a A/\r1 a A/\r2 a A/\r3 a A)(f:∀a A,r0 a A->r1 a A->r2 a A->r3 a A->c):c:=by obtain⟨x0,x1,x2,x,X,b⟩:=h;exact f x0 x1 x2 x X b
theorem sZ(h:∃a A,r0 a A/\r1 a A/\r2 a A/\r3 a A/\r4 a A)(f:∀a A,r0 a A->r1 a A->r2 a A->r3 a A->r4 a A->c):c:=by obtain⟨x0,x1,x2,x,X,b,d⟩:=h;exact f x0 x1 x2 x X b d
theorem Kz(h:∃a A,r0 a A/\r1 a A/\r2 a A/\r3 a A/\r4 a A/\r5 a A)(f:∀a A,r0 a A->r1 a A->r2 a A->r3 a A->r4 a A->r5 a A->c):c:=by obtain⟨x0,x1,x2,x,X,b,d,e⟩:=h;exact f x0 x1 x2 x X b d e
theorem ro(h:∃a A b,s0 a A b)(f:∀a A b,s0 a A b->c):c:=by obtain⟨x0,x1,x2,x⟩:=h;exact f x0 x1 x2 x
theorem kU(h:∃a A b,s0 a A b/\s1 a A b)(f:∀a A b,s0 a A b->s1 a A b->c):c:=by obtain⟨x0,x1,x2,x,X⟩:=h;exact f x0 x1 x2 x X
theorem kb(h:∃a A b,s0 a A b/\s1 a A b/\s2 a A b)(f:∀a A b,s0 a A b->s1 a A b->s2 a A b->c):c:=by obtain⟨x0,x1,x2,x,X,d⟩:=h;exact f x0 x1 x2 x X d
theorem qz(h:∃a A b,s0 a A b/\s1 a A b/\s2 a A b/\s3 a A b)(f:∀a A b,s0 a A b->s1 a A b->s2 a A b->s3 a A b->c):c:=by obtain⟨x0,x1,x2,x,X,d,e⟩:=h;exact f x0 x1 x2 x X d e
theorem AN(h:∃a A b,s0 a A b/\s1 a A b/\s2 a A b/\s3 a A b/\s4 a A b)(f:∀a A b,s0 a A b->s1 a A b->s2 a A b->s3 a A b->s4 a A b->c):c:=by obtain⟨x0,x1,x2,x,X,d,e,g⟩:=h;exact f x0 x1 x2 x X d e g
theorem kg(h:∃a A b,s0 a A b/\s1 a A b/\s2 a A b/\s3 a A b/\s4 a A b/\s5 a A b)(f:∀a A b,s0 a A b->s1 a A b->s2 a A b->s3 a A b->s4 a A b->s5 a A b->c):c:=by obtain⟨x0,x1,x2,x,X,d,e,g,i⟩:=h;exact f x0 x1 x2 x X d e g i
theorem pC(h:∃a A b d,t0 a A b d)(f:∀a A b d,t0 a A b d->c):c:=by obtain⟨x0,x1,x2,x,X⟩:=h;exact f x0 x1 x2 x X
theorem BE(h:∃a A b d,t0 a A b d/\t1 a A b d/\t2 a A b d)(f:∀a A b d,t0 a A b d->t1 a A b d->t2 a A b d->c):c:=by obtain⟨x0,x1,x2,x,X,e,g⟩:=h;exact f x0 x1 x2 x X e g
theorem KO(h:∃a A b d,t0 a A b d/\t1 a A b d/\t2 a A b d/\t3 a A b d)(f:∀a A b d,t0 a A b d->t1 a A b d->t2 a A b d->t3 a A b d->c):c:=by obtain⟨x0,x1,x2,x,X,e,g,i⟩:=h;exact f x0 x1 x2 x X e g i
theorem QS(h:∃a A b d,t0 a A b d/\t1 a A b d/\t2 a A b d/\t3 a A b d/\t4 a A b d)(f:∀a A b d,t0 a A b d->t1 a A b d->t2 a A b d->t3 a A b d->t4 a A b d->c):c:=by obtain⟨x0,x1,x2,x,X,e,g,i,j⟩:=h;exact f x0 x1 x2 x X e g i j
theorem rK(h:∃a A b d,t0 a A b d/\t1 a A b d/\t2 a A b d/\t3 a A b d/\t4 a A b d/\t5 a A b d)(f:∀a A b d,t0 a A b d->t1 a A b d->t2 a A b d->t3 a A b d->t4 a A b d->t5 a A b d->c):c:=by obtain⟨x0,x1,x2,x,X,e,g,i,j,k⟩:=h;exact f x0 x1 x2 x X e g i j k
theorem I9(h:∃a A b d e,u0 a A b d e/\u1 a A b d e/\u2 a A b d e)(f:∀a A b d e,u0 a A b d e->u1 a A b d e->u2 a A b d e->c):c:=by obtain⟨x0,x1,x2,x,X,g,i,j⟩:=h;exact f x0 x1 x2 x X g i j
theorem Nv(h:∃a A b d e,u0 a A b d e/\u1 a A b d e/\u2 a A b d e/\u3 a A b d e)(f:∀a A b d e,u0 a A b d e->u1 a A b d e->u2 a A b d e->u3 a A b d e->c):c:=by obtain⟨x0,x1,x2,x,X,g,i,j,k⟩:=h;exact f x0 x1 x2 x X g i j k
theorem NX(h:∃a A b d e g,v0 a A b d e g/\v1 a A b d e g)(f:∀a A b d e g,v0 a A b d e g->v1 a A b d e g->c):c:=by obtain⟨x0,x1,x2,x,X,i,j,k⟩:=h;exact f x0 x1 x2 x X i j k
theorem pv(h:∃a A b d e g i,w0 a A b d e g i/\w1 a A b d e g i)(f:∀a A b d e g i,w0 a A b d e g i->w1 a A b d e g i->c):c:=by obtain⟨x0,x1,x2,x,X,j,k,l,m⟩:=h;exact f x0 x1 x2 x X j k l m
end
theorem cP{α:Type}{a:α}{p:Prop}(h:none=au a):p:=nomatch h
theorem bZ{p:Prop}(h:false=true):p:=nomatch h
mutual
inductive gs where
 |k|g|o|e|p|m|q|s|c|r|l
 |a|f|t|h|i|u|j|n
inductive Zb where
 |a
end
noncomputable def gs.ctorIdx(x:gs):Nat:= @gs.casesOn (λ_=>Nat) x 0 1 2 3 4 5 6 7 8 9 10 11 12 13 14 15 16 17 18
noncomputable def gs.b:gs->Value
 | .k=> .builtin "len"| .g=> .builtin "isinstance"| .o=> .builtin "sorted"| .e=> .type "str"| .p=> .builtin "ord"| .m=> .builtin "chr"| .q=> .builtin "max"| .s=> .builtin "any"| .c=> .builtin "all"| .r=> .type "range"| .l=> .type "bool"| .a=> .builtin "list.append"| .f=> .builtin "list.pop"| .t=> .builtin "list.extend"| .h=> .builtin "str.join"| .i=> .builtin "str.startswith"| .u=> .builtin "str.encode"| .j=> .builtin "dict.keys"| .n=> .builtin "dict.copy"
inductive V where
 |g|l (b:Bool)|q (i:Int)|e (s:Str)
 |t (b:Array UInt8)
 |cy (a:Addr)|h (a:Addr)|j (b:gs)
 |D (xs:List V)
 |u (xs:List V)
 |c (es:List (Str×V))
 |p (C:Addr) (fs:List (Nat×V))
 |v (n:Nat)
 |o (i:Nat)
 |k (C:Addr) (i:Nat)
 |E (C:Addr) (i:Nat) (f:Addr)
 |x|r
 |m (d:V)
noncomputable def V.ctorIdx(x:V):Nat:= @V.casesOn (λ_=>Nat) x 0 (λ_=>1) (λ_=>2) (λ_=>3) (λ_=>4) (λ_=>5) (λ_=>6) (λ_=>7) (λ_=>8) (λ_=>9) (λ_=>10) (λ_ _=>11) (λ_=>12) (λ_=>13) (λ_ _=>14) (λ_ _ _=>15) 16 17 (λ_=>18)
inductive aG where
 |u (xs:List V)
 |F (es:List (Str×V))
 |a (fs:List (Nat×V))
 |d (b:Int) (xs:List V)
abbrev af:=List aG
abbrev bu:=V->af->Prop
abbrev ah:=List (Nat×V)
structure aK where
 c:Program
 ae:i3
 a:Frag
 d:Heap
 f:ie
 e:Str->Option Value
 h:Str->Option Value
 aA:Nat->Str
 g:∀i j,aA i=aA j->i=j
structure aD where
 b:Addr->Option Obj
 d:List Addr
 bE:List Value:=[]
def dm(W:aD)(v:Value)(P:Addr->Obj->Prop):Prop:=∃a o,v=.ref a/\W.b a=au o/\P a o
def Lz(o:Obj)(vs:List Value):Prop:=∃d i n s,o=⟨.type "tuple",d,.seq i n,s⟩/\i.toList=vs
def xj(o:Obj)(vs:List Value):Prop:=∃i n,o=listOf i n/\i.toList=vs
def BH(o:Obj)(es:List DictEntry):Prop:=∃n,o=dictOf es n
def UQ(o:Obj)(n:Nat):Prop:=(∃t u v,o={cls:=.type "range",data:=.fields #[.int 0 t,.int (n:Nat) u,.int 1 v]})/\n<1000000
def xk(B:aK)(a:Addr)(o:Obj)(kvs:List (Str×Value)):Prop:=(a==sysModules)=false/\o.IsDictOf (li B.c B.ae) kvs
def kL(W:aD)(C:Addr)(i:Nat)(v:Value):Prop:=dm W v λ_ o=>∃d,o=instObj C d/\W.d[i]? =au d
mutual
def aY(B:aK)(W:aD)(v:Value):V->Prop
 | .g=>v=.none| .l b=>v=.bool b| .q i=>∃t,v=.int i t| .e s=>∃t,v=.str s t/\s.length<=sizeLine| .t b=>∃t,v=.bytes b t| .cy a=>v=.ref a| .h a=>v=.ref a| .j b=>v=b.b| .D X=>dm W v λ_ o=>∃c,Lz o c/\bp B W c X| .u X=>dm W v λ_ o=>∃c,xj o c/\bp B W c X| .c E=>dm W v λa o=>∃K,xk B a o K/\gP B W K E| .p C F=>dm W v λ_ o=>∃D,o=instObj C D/\dm W (.ref D) λ_ o=>∃E,BH o E/\er B W E F| .v n=>dm W v λ_ o=>UQ o n| .o i=>∃a,v=.ref a/\W.d[i]? =au a| .k C i=>kL W C i v| .E C i f=>dm W v λ_ o=>∃x,o=methodObj (.ref f) x/\kL W C i x| .x=>∃i t,v=.int i t| .m d=>dm W v λ_ o=>∃x,o={cls:=.type "dict_keys",data:=.fields #[x]}/\aY B W x d| .r=>handedIn v=true
def bp(B:aK)(W:aD)(c:List Value):List V->Prop
 |[]=>c=[]|x::X=>match c with
  |[]=>False|v::r=>aY B W v x/\bp B W r X
def gP(B:aK)(W:aD)(K:List (Str×Value)):List (Str×V)->Prop
 |[]=>K=[]|(k,x)::E=>match K with
  |[]=>False|p::r=>p.1=k/\aY B W p.2 x/\gP B W r E
def er(B:aK)(W:aD)(E:List DictEntry):List (Nat×V)->Prop
 |[]=>E=[]|(k,x)::F=>match E with
  |[]=>False|e::r=>((∃t,e.key=.str (B.aA k) t)/\e.hash=lw B.ae.params (B.aA k))/\aY B W e.val x/\er B W r F
end
structure hG(W W':aD):Prop where
 b:∀a o,W.b a=au o->W'.b a=au o
 d:∃more,W'.d=W.d++more
 bE:W'.bE=W.bE
theorem hG.a{W:aD}:hG W W:=⟨λ_ _ h=>h,(ba [] (by simp)),rfl⟩
theorem hG.e{W W' w:aD}(h:hG W W')(H:hG W' w):hG W w:=by
 refine bf h.d λm c=>?_;refine bf H.d λM E=>?_
 exact⟨λA o x=>H.b A o (h.b A o x),(ba (m++M) (by rw[E,c,dx])),H.bE.trans h.bE⟩
theorem hG.g{W W':aD}(h:hG W W'){i:Nat}{a:Addr}(e:W.d[i]? =au a):W'.d[i]? =au a:=by
 refine bf h.d λm q=>?_
 rw[q,i7 (by have:=(df.mp e).1;exact this)];exact e
theorem dm.a{W W':aD}{v:Value}{P p:Addr->Obj->Prop}(h:∀a o,W.b a=au o->W'.b a=au o)(k:∀a o,P a o->p a o)(x:dm W v P):dm W' v p:=nm (λa=>nm λo r=>(cz r.1 (h a o r.2.1) (k a o r.2.2))) x
theorem kL.a{W W':aD}{C i v}(h:∀a o,W.b a=au o->W'.b a=au o)(g:∀a,W.d[i]? =au a->W'.d[i]? =au a)(x:kL W C i v):kL W' C i v:=dm.a h (λ_ _=>nm λ_=>ia id (g _)) x
structure ur(p:Nat->Prop)(W W':aD):Prop where
 b:∀a o,W.b a=au o->W'.b a=au o
 d:∀i a,p i->W.d[i]? =au a->W'.d[i]? =au a
structure xl(p:Nat->Prop)(W W':aD):Prop extends ur p W W' where
 bE:W'.bE=W.bE
mutual
def mO(p:Nat->Prop):V->Prop
 | .D X=>jp p X| .u X=>jp p X| .c e=>lM p e| .p _ f=>jI p f| .o i=>p i| .k _ i=>p i| .E _ i _=>p i| .m d=>mO p d|_=>True
def jp(p:Nat->Prop):List V->Prop
 |[]=>True|x::X=>mO p x/\jp p X
def lM(p:Nat->Prop):List (Str×V)->Prop
 |[]=>True|(_,x)::X=>mO p x/\lM p X
def jI(p:Nat->Prop):List (Nat×V)->Prop
 |[]=>True|(_,x)::X=>mO p x/\jI p X
end
mutual
theorem aY.f{B:aK}{p:Nat->Prop}{W W':aD}(K:ur p W W'):∀(x:V) {v:Value},mO p x->aY B W v x->aY B W' v x
 | .g,_,_,Q| .l _,_,_,Q| .q _,_,_,Q| .e _,_,_,Q| .t _,_,_,Q| .cy _,_,_,Q| .h _,_,_,Q| .j _,_,_,Q| .x,_,_,Q| .r,_,_,Q=>Q| .D X,_,L,Q=>dm.a K.b (λ_ _=>nm λ_=>ia id (bp.f K X L)) Q| .u X,_,L,Q=>dm.a K.b (λ_ _=>nm λ_=>ia id (bp.f K X L)) Q| .c s,_,L,Q=>dm.a K.b (λ_ _=>nm λ_=>ia id (gP.f K s L)) Q| .p _ F,_,L,Q=>dm.a K.b (λ_ _=>nm λ_=>ia id (dm.a K.b λ_ _=>nm λ_=>ia id (er.f K F L))) Q| .v _,_,_,Q=>dm.a K.b (λ_ _=>id) Q| .o I,_,L,Q=>Q.imp λ_=>ia id (K.d I _ L)| .k _ I,_,L,Q=>kL.a K.b (λA=>K.d I A L) Q| .E _ I _,_,L,Q=>dm.a K.b (λ_ _=>nm λ_=>ia id (kL.a K.b λA=>K.d I A L)) Q| .m t,_,L,Q=>dm.a K.b (λ_ _=>nm λ_=>ia id (aY.f K t L)) Q
theorem bp.f{B:aK}{p:Nat->Prop}{W W':aD}(K:ur p W W'):∀(X:List V) {n:List Value},jp p X->bp B W n X->bp B W' n X
 |[],_,_,Q=>Q|x::X,[],_,Q=>Q|x::X,_::_,L,Q=>Q.imp (aY.f K x L.1) (bp.f K X L.2)
theorem gP.f{B:aK}{p:Nat->Prop}{W W':aD}(K:ur p W W'):∀(X:List (Str×V)) {n:List (Str×Value)},lM p X->gP B W n X->gP B W' n X
 |[],_,_,Q=>Q|(_,x)::X,[],_,Q=>Q|(_,x)::X,_::_,L,Q=>Q.imp id (ia (aY.f K x L.1) (gP.f K X L.2))
theorem er.f{B:aK}{p:Nat->Prop}{W W':aD}(K:ur p W W'):∀(X:List (Nat×V)) {n:List DictEntry},jI p X->er B W n X->er B W' n X
 |[],_,_,Q=>Q|(_,x)::X,[],_,Q=>Q|(_,x)::X,_::_,L,Q=>Q.imp id (ia (aY.f K x L.1) (er.f K X L.2))
end
mutual
theorem mO.c{p:Nat->Prop}(h:∀i,p i):∀x:V,mO p x
 | .g| .l _| .q _| .e _| .t _| .cy _| .h _| .j _| .x| .r| .v _=>trivial| .D X| .u X=>jp.c h X| .c e=>lM.c h e| .p _ f=>jI.c h f| .o i| .k _ i| .E _ i _=>h i| .m d=>mO.c h d
theorem jp.c{p:Nat->Prop}(h:∀i,p i):∀X:List V,jp p X
 |[]=>trivial|x::X=>(ai (mO.c h x) (jp.c h X))
theorem lM.c{p:Nat->Prop}(h:∀i,p i):∀X:List (Str×V),lM p X
 |[]=>trivial|(_,x)::X=>(ai (mO.c h x) (lM.c h X))
theorem jI.c{p:Nat->Prop}(h:∀i,p i):∀X:List (Nat×V),jI p X
 |[]=>trivial|(_,x)::X=>(ai (mO.c h x) (jI.c h X))
end
theorem hG.j{W W':aD}(h:hG W W'):xl (λ_=>True) W W':=⟨⟨h.b,λ_ _ _=>h.g⟩,h.bE⟩
section
variable {B:aK} {W W':aD} (h:hG W W')
include h
theorem aY.c{v x}(q:aY B W v x):aY B W' v x:=aY.f h.j.1 x (mO.c (λ_=>trivial) x) q
theorem bp.c{v x}(q:bp B W v x):bp B W' v x:=bp.f h.j.1 x (jp.c (λ_=>trivial) x) q
end
def nL(B:aK)(W:aD)(a:Addr)(o:Obj):aG->Prop
 | .u x=>∃v,xj o v/\bp B W v x/\x.length<=sizeLine| .F e=>∃k,xk B a o k/\gP B W k e/\e.length<=900| .a f=>∃e,BH o e/\er B W e f/\f.length<=900| .d b x=>∃v,xj o (W.bE++v)/\bp B W v x/\(W.bE.length:Int)<=b/\b+(x.length:Int)<=(sizeLine:Int)
def rL(p:Nat->Prop):aG->Prop
 | .u x| .d _ x=>jp p x| .F e=>lM p e| .a f=>jI p f
theorem rL.c{p:Nat->Prop}(h:∀i,p i):∀x:aG,rL p x
 | .u X| .d _ X=>jp.c h X| .F e=>lM.c h e| .a f=>jI.c h f
theorem nL.f{B:aK}{p:Nat->Prop}{W W':aD}(K:xl p W W'){a:Addr}{o:Obj}:∀{mo:aG},rL p mo->nL B W a o mo->nL B W' a o mo
 | .u x,l,q=>q.imp λ_=>ia id (ia (bp.f K.1 x l) id)| .F e,l,q=>q.imp λ_=>ia id (ia (gP.f K.1 e l) id)| .a F,l,q=>q.imp λ_=>ia id (ia (er.f K.1 F l) id)| .d _ x,l,q=>q.imp λ_=>ia (K.bE.symm▸id) (ia (bp.f K.1 x l) (ia (K.bE.symm▸id) id))
def eG(B:aK)(W:aD)(h:Heap)(a:Addr)(mo:aG):Prop:=∃o,h.get? a=au o/\nL B W a o mo
section
variable {B:aK} {W:aD}
theorem aY.g:aY B W .none .g:=rfl
theorem aY.l(b):aY B W (.bool b) (.l b):=rfl
theorem aY.q(i t):aY B W (.int i t) (.q i):=(ba t rfl)
theorem aY.e(s t)(l:s.length<=sizeLine):aY B W (.str s t) (.e s):=(aE t rfl l)
theorem aY.cy(a):aY B W (.ref a) (.cy a):=rfl
theorem aY.j(b:gs):aY B W b.b (.j b):=rfl
theorem aY.x(i t):aY B W (.int i t) .x:=(oz i t rfl)
theorem aY.r{v}(h:handedIn v=true):aY B W v .r:=h
theorem aY.D{a d items n s xs}(h:W.b a=au ⟨.type "tuple",d,.seq items n,s⟩)(g:bp B W items.toList xs):aY B W (.ref a) (.D xs):=⟨a,_,rfl,h,_,(TZ _ _ _ _ rfl rfl),g⟩
theorem aY.u{a items n xs}(h:W.b a=au (listOf items n))(g:bp B W items.toList xs):aY B W (.ref a) (.u xs):=⟨a,_,rfl,h,_,(cg _ _ rfl rfl),g⟩
theorem aY.v{a t u v}{n:Nat}(h:W.b a=au {cls:=.type "range",data:=.fields #[.int 0 t,.int (n:Nat) u,.int 1 v]})(g:n<1000000):aY B W (.ref a) (.v n):=⟨a,_,rfl,h,(BD _ _ _ rfl),g⟩
theorem aY.o{i a}(h:W.d[i]? =au a):aY B W (.ref a) (.o i):=(aE a rfl h)
theorem aY.k{i C x a}(h:W.d[i]? =au a)(g:W.b x=au (instObj C a)):aY B W (.ref x) (.k C i):=⟨x,_,rfl,g,a,rfl,h⟩
theorem aY.E{q f v C i}(h:W.b q=au (methodObj (.ref f) v))(g:aY B W v (.k C i)):aY B W (.ref q) (.E C i f):=⟨q,_,rfl,h,v,rfl,g⟩
theorem aY.m{a d x}(h:W.b a=au {cls:=.type "dict_keys",data:=.fields #[d]})(g:aY B W d x):aY B W (.ref a) (.m x):=⟨a,_,rfl,h,d,rfl,g⟩
theorem bp.j:bp B W [] []:=rfl
theorem bp.p{v vs x xs}(h:aY B W v x)(g:bp B W vs xs):bp B W (v::vs) (x::xs):=(ai h g)
theorem bp.i{x xs}:∀{vs},bp B W vs (x::xs)->∃v r,vs=v::r/\aY B W v x/\bp B W r xs
 |v::r,h=>(cg v r rfl h)
theorem bp.k{x vs}(h:bp B W vs [x]):∃v,vs=[v]/\aY B W v x:=by refine dz h.i λv r E h G=>?_;subst G;exact(aE v E h)
theorem bp.l{x y vs}(h:bp B W vs [x,y]):∃v w,vs=[v,w]/\aY B W v x/\aY B W w y:=by refine dz h.i λv r n h G=>?_;refine ap G.k λw E q=>?_;exact(dy v w (E▸n) h q)
theorem bp.a:∀{xs vs},bp B W vs xs->vs.length=xs.length
 |[],_,h=>congrArg rT h|_::_,_::_,h=>congrArg (· +1) h.2.a
theorem er.j:er B W [] []:=rfl
theorem er.a:∀{xs vs},er B W vs xs->vs.length=xs.length
 |[],_,h=>congrArg rT h|_::_,_::_,h=>congrArg (· +1) h.2.2.a
theorem gP.a:∀{xs vs},gP B W vs xs->vs.length=xs.length
 |[],_,h=>congrArg rT h|_::_,_::_,h=>congrArg (· +1) h.2.2.a
theorem eG.u{h a items n xs}(g:h.get? a=au (listOf items n))(v:bp B W items.toList xs)(l:xs.length<=sizeLine):eG B W h a (.u xs):=⟨_,g,_,(cg _ _ rfl rfl),v,l⟩
theorem eG.a{h a es n i}(g:h.get? a=au (dictOf es n))(v:er B W es i)(l:i.length<=900):eG B W h a (.a i):=⟨_,g,_,(ba _ rfl),v,l⟩
theorem eG.F{h a o kvs i}(g:h.get? a=au o)(t:xk B a o kvs)(v:gP B W kvs i)(l:i.length<=900):eG B W h a (.F i):=⟨_,g,_,t,v,l⟩
theorem eG.d{h a items n b vs xs}(g:h.get? a=au (listOf items n))(e:items.toList=W.bE++vs)(v:bp B W vs xs)(l:(W.bE.length:Int)<=b)(m:b+(xs.length:Int)<=(sizeLine:Int)):eG B W h a (.d b xs):=⟨_,g,vs,(cg _ _ rfl e),v,l,m⟩
end
structure aS(B:aK)(W:aD)(σ:af)(s:Shared):Prop where
 cm:∀a o,B.d.get? a=au o->W.b a=au o
 b:∀a o,W.b a=au o->s.heap.get? a=au o
 k:W.d.length=σ.length
 p:∀(i:Nat) (a:Addr) (mo:aG),W.d[i]? =au a->σ[i]? =au mo->eG B W s.heap a mo
 d:W.d.Nodup
 e:∀a∈W.d,W.b a=ct
 h:s.gens= #[]
 f:s.os=B.f
structure cK(W:aD)(h:Heap)(W':aD)(h':Heap):Prop where
 b:∀a o,W.b a=au o->W'.b a=au o
 j:∀a o,W'.b a=au o->W.b a=au o\/h.get? a=none
 d:∃more,W'.d=W.d++more/\∀a∈more,h.get? a=none
 f:∀a o,h.get? a=au o->a∉W.d->h'.get? a=au o
 c:∀a o,h.get? a=au o->∃o',h'.get? a=au o'
 bE:W'.bE=W.bE
theorem cK.i{W W':aD}{h H:Heap}(e:cK W h W' H):hG W W':=⟨e.b,let⟨m,x,_⟩:=e.d;⟨m,x⟩,e.bE⟩
theorem us{h H:Heap}(m:∀a o,h.get? a=au o->∃O,H.get? a=au O){a:Addr}(e:H.get? a=none):h.get? a=none:=by
 cases q:h.get? a with
 |none=>rfl|some o=>refine bf (m a o q) λO z=>?_;rw[e]at z;(injection z;done)
theorem pV(h:Heap):h.get? h.objs.size=none:=by
 cases q:h.get? h.objs.size with
 |none=>rfl|some o=>exact absurd (lF q) (vk _)
theorem cK.a{W:aD}{h:Heap}:cK W h W h:=⟨λ_ _ x=>x,λ_ _ x=> .inl x,(aE [] (by simp) (by simp)),λ_ _ x _=>x,λ_ o x=>(ba o x),rfl⟩
theorem cK.e{W W' w:aD}{h p H:Heap}(e:cK W h W' p)(f:cK W' p w H):cK W h w H:=by
 refine ap e.d λm E q=>?_;refine ap f.d λM F s=>?_
 refine⟨λA o x=>f.b A o (e.b A o x),λA o x=>?_,(aE (m++M) (by rw[F,E,dx]) (λA t=>?_)),λA o x n=>?_,λA o x=>(e.c A o x).elim λO y=>f.c A O y,f.bE.trans e.bE⟩
 ·rcases f.j A o x with y|y
  ·exact e.j A o y
  ·exact .inr (us e.c y)
 ·rcases e8.mp t with y|y
  ·exact q A y
  ·exact us e.c (s A y)
 ·refine f.f A o (e.f A o x n) λr=>?_
  rw[E]at r;rcases e8.mp r with y|y
  ·exact n y
  ·rw[q A y]at x;(injection x;done)
theorem cK.l{W W':aD}{h H:Heap}(e:cK W h W' H){a:Addr}{o:Obj}(n:a∉W.d)(l:h.get? a=au o):a∉W'.d:=by
 refine ap e.d λm E p=>?_
 rw[E];intro q;rcases e8.mp q with y|y
 ·exact n y
 ·rw[p a y]at l;(injection l;done)
theorem cK.k{W W':aD}{h H:Heap}(e:cK W h W' H){a:Addr}{o:Obj}(n:W.b a=none)(l:h.get? a=au o):W'.b a=none:=by
 cases q:W'.b a with
 |none=>rfl|some o=>
  rcases e.j a o q with y|y
  ·rw[n]at y;(injection y;done)
  ·rw[l]at y;(injection y;done)
theorem aS.a{B:aK}{W:aD}{σ:af}{s:Shared}(R:aS B W σ s){t:Nat}:aS B W σ {s with toks:=t}:=⟨R.cm,R.b,R.k,R.p,R.d,R.e,R.h,R.f⟩
theorem eG.b{B:aK}{W:aD}{h H:Heap}{a:Addr}{mo:aG}(x:eG B W h a mo)(e:∀o,h.get? a=au o->H.get? a=au o):eG B W H a mo:=x.imp λ_=>ia (e _) id
theorem eG.f{B:aK}{p:Nat->Prop}{W W':aD}(K:xl p W W'){h:Heap}{a:Addr}{mo:aG}(l:rL p mo)(x:eG B W h a mo):eG B W' h a mo:=x.imp λ_=>ia id (nL.f K l)
theorem eG.c{B:aK}{W W':aD}{h:Heap}{a:Addr}{mo:aG}(x:eG B W h a mo)(e:hG W W'):eG B W' h a mo:=x.f e.j (rL.c (λ_=>trivial) mo)
theorem aS.q{B:aK}{W:aD}{σ:af}{s s':Shared}(R:aS B W σ s)(k:∀a o,s.heap.get? a=au o->s'.heap.get? a=au o)(g:s'.gens=s.gens)(o:s'.os=s.os):aS B W σ s':=⟨R.cm,λa O h=>k _ _ (R.b a O h),R.k,λI a M h H=>(R.p I a M h H).b λ_ E=>k _ _ E,R.d,R.e,g.trans R.h,o.trans R.f⟩
theorem aS.m{B:aK}{W:aD}{σ:af}{s:Shared}(R:aS B W σ s):W.b s.heap.objs.size=none:=by
 cases Q:W.b s.heap.objs.size with
 |none=>rfl|some O=>exact absurd (lF (R.b _ _ Q)) (vk _)
theorem aS.r{B:aK}{W:aD}{σ:af}{s:Shared}(R:aS B W σ s){i:Nat}{a:Addr}(e:W.d[i]? =au a):∃mo,σ[i]? =au mo/\eG B W s.heap a mo/\a<s.heap.objs.size:=by
 have L:=(df.mp e).1;rw[R.k]at L;have Q:=R.p i a _ e (dt L);refine ap (id Q) λO G _=>?_
 exact(bx _ (dt L) Q (lF G))
theorem aS.i{B:aK}{W:aD}{σ:af}{s:Shared}(R:aS B W σ s){a:Addr}(e:a∈W.d):a<s.heap.objs.size:=by
 obtain⟨I,h,rfl⟩:=o1 e;refine bY (R.r (dt h)) λ_ _ _ L=>?_
 exact L
theorem aS.t{B:aK}{W:aD}{σ:af}{s:Shared}(R:aS B W σ s):s.heap.objs.size∉W.d:=λh=>absurd (R.i h) (vk _)
noncomputable def aD.g(W:aD)(a:Addr)(o:Obj):aD:=⟨λB=>if B=a then au o else W.b B,W.d,W.bE⟩
noncomputable def aD.c(W:aD)(a:Addr):aD:=⟨W.b,W.d++[a],W.bE⟩
theorem aD.a{W:aD}{a:Addr}{o:Obj}(h:W.b a=none):hG W (W.g a o):=⟨λB O E=>by
 show(if B=a then au o else W.b B)=au O
 by_cases q:B=a
 ·subst q;rw[h]at E;(injection E;done)
 ·rw[if_neg q];exact E,(ba [] (by simp[aD.g])),rfl⟩
theorem aD.i{W:aD}{a:Addr}:hG W (W.c a):=⟨λ_ _ E=>E,(ba [a] rfl),rfl⟩
set_option tactic.hygienic true in
theorem aS.n{B:aK}{W:aD}{σ:af}{s:Shared}(R:aS B W σ s)(o:Obj)(y:o.isFreed=false):
  aS B (W.g s.heap.objs.size o) σ {s with heap:=s.heap.push o}/\cK W s.heap (W.g s.heap.objs.size o) (s.heap.push o)/\(W.g s.heap.objs.size o).b s.heap.objs.size=au o:=by
 have L:=aD.a (o:=o) R.m;refine(cz ⟨λA O E=>L.b _ _ (R.cm A O E),λA O E=>?_,R.k,λI A M h z=>((R.p I A M h z).c L).b λ_ E=>e5 _ E,R.d,λA H=>?_,R.h,R.f⟩ ⟨L.b,λA O E=>?_,(aE [] (by simp[aD.g]) (by simp)),λA O E _=>e5 _ E,λA O E=>(ba O (e5 _ E)),rfl⟩ (by simp[aD.g]))
 ·simp only[aD.g]at E;split at E
  ·rename_i Q;subst Q;(injection E with Z;subst Z);exact ix _ y
  ·exact e5 _ (R.b A O E)
 ·simp only[aD.g];rw[if_neg (s6 (R.i H))];exact R.e A H
 ·simp only[aD.g]at E;split at E
  ·rename_i Q;subst Q;exact .inr (pV _)
  ·exact .inl E
set_option tactic.hygienic true in
theorem aS.s{B:aK}{W:aD}{σ:af}{s:Shared}(R:aS B W σ s)(o:Obj)(mo:aG)
  (C:eG B W (s.heap.push o) s.heap.objs.size mo):
  aS B (W.c s.heap.objs.size) (σ++[mo]) {s with heap:=s.heap.push o}/\cK W s.heap (W.c s.heap.objs.size) (s.heap.push o)/\(W.c s.heap.objs.size).d[σ.length]? =au s.heap.objs.size:=by
 refine(cz ⟨R.cm,λD O E=>e5 _ (R.b D O E),by simp[aD.c,R.k],λI D M h H=>?_,?_,λD z=>?_,R.h,R.f⟩ ⟨λ_ _ E=>E,λ_ _ E=> .inl E,(aE [_] rfl (by simpa using pV s.heap)),λD O E _=>e5 _ E,λD O E=>(ba O (e5 _ E)),rfl⟩ ?_)
 ·simp only[aD.c]at h;rw[zS]at h H;rw[R.k]at h;split at h
  ·rename_i L;rw[if_pos L]at H;exact((R.p I D M h H).c aD.i).b λ_ E=>e5 _ E
  ·rename_i L;rw[if_neg L]at H;cases Q:I-σ.length with
   |zero=>rw[Q]at h H;(injection h with Z;subst Z);(injection H with Z;subst Z);exact C.c aD.i|succ J=>rw[Q]at h;(injection h;done)
 ·simp only[aD.c];rw[k4];refine(cz R.d (by simp) (λD z F A=>?_));rw[ce]at A;subst A;exact s6 (R.i z)
 ·simp only[aD.c]at z⊢;rcases e8.mp z with y|y
  ·exact R.e D y
  ·rw[ce]at y;subst y;exact R.m
 ·simp[aD.c,←R.k]
set_option tactic.hygienic true in
theorem aS.o{B:aK}{W:aD}{σ:af}{s s':Shared}{i:Nat}{a:Addr}{mo:aG}(R:aS B W σ s)(e:W.d[i]? =au a)(A:F' a s.heap s'.heap)
  (C:eG B W s'.heap a mo)(g:s'.gens=s.gens)(o:s'.os=s.os):aS B W (σ.set i mo) s'/\cK W s.heap W s'.heap:=by
 have H:a∈W.d:=g8 e;refine(ai ⟨R.cm,λG O h=>?_,by simp[R.k],λJ G M h y=>?_,R.d,R.e,g.trans R.h,o.trans R.f⟩ ⟨λ_ _ X=>X,λ_ _ X=> .inl X,(aE [] (by simp) (by simp)),λG O h I=>?_,λG O h=>?_,rfl⟩)
 ·have:G≠a:=λQ=>by subst Q;rw[R.e G H]at h;(injection h;done)
  exact(A.2 G this).trans (R.b G O h)
 ·rw[t9]at y;split at y
  ·rename_i Q;subst Q;rw[e]at h;(injection h with Z;subst Z);split at y
   ·(injection y with Z;subst Z);exact C
   ·(injection y;done)
  ·rename_i Q;have N:G≠a:=by
    rintro rfl;have L:=(df.mp e).1;have D:=(df.mp h).1;have E:=(df.mp e).2;have F:=(df.mp h).2;have P:=t6.mp R.d;rcases Nat.lt_or_gt_of_ne Q with z|z
    ·exact P _ _ L D z (E.trans F.symm)
    ·exact P _ _ D L z (F.trans E.symm)
   exact(R.p J G M h y).b λ_ X=>(A.2 G N).trans X
 ·have:G≠a:=λQ=>I (Q▸H)
  exact(A.2 G this).trans h
 ·by_cases Q:G=a
  ·subst Q;exact C.imp λ_=>And.left
  ·exact(ba O ((A.2 G Q).trans h))
noncomputable def aH(x:Nat):ah->Option V
 |[]=>none|(y,v)::r=>match e6 x y with
  |true=>au v|false=>aH x r
def aU(x:Nat)(v:V):ah->ah
 |[]=>[(x,v)]|(y,w)::r=>match e6 x y with
  |true=>(x,v)::r|false=>(y,w)::aU x v r
theorem fh(x y:Nat)(v:V)(r:ah):aH x ((y,v)::r)=if x=y then au v else aH x r:=by show(match e6 x y with|true=>au v|false=>aH x r)=_;rw[BT.beq_eq];by_cases h:x=y<;>simp[h]
theorem lh(x y:Nat)(v w:V)(r:ah):aU x v ((y,w)::r)=if x=y then(x,v)::r else(y,w)::aU x v r:=by show(match e6 x y with|true=>(x,v)::r|false=>(y,w)::aU x v r)=_;rw[BT.beq_eq];by_cases h:x=y<;>simp[h]
theorem fP(x y:Nat)(v:V):∀l:ah,aH y (aU x v l)=if y=x then au v else aH y l
 |[]=>by show aH y [(x,v)]=_;rw[fh]|(z,w)::r=>by
  rw[lh]
  by_cases h:x=z
  ·subst h;rw[if_pos rfl,fh,fh]
   by_cases q:y=x<;>simp[q]
  ·rw[if_neg h,fh,fP x y v r,fh]
   by_cases q:y=z
   ·subst q;have:¬y=x:=λe=>h e.symm
    simp[this]
   ·simp[q]
structure cM where
 c:Str
 a:Scope
 h:Addr
 d:Value
 b:List (Str×Addr):=[]
 bg:List (Addr×Obj):=[]
noncomputable abbrev cM.bA(F:cM)(L:Addr):Env:=envX F.c F.a L F.h F.d F.b
def gZ(B:aK)(F:cM)(W:aD)(m:Str->Option Value)(x:Nat)(v:Value):Prop:=match F.a.names.lookup (B.aA x)with
 |some .local=>m (B.aA x)=au v|some .free|some .cell=>∃a o,F.b.lookup (B.aA x)=au a/\W.b a=au o/\o.data=.cell (au v)|_=>False
theorem gZ.d{B:aK}{F:cM}{W w:aD}{m M:Str->Option Value}{x:Nat}{v:Value}(h:gZ B F W m x v)(e:∀a o,W.b a=au o->w.b a=au o)
  (g:F.a.names.lookup (B.aA x)=au .local->m (B.aA x)=au v->M (B.aA x)=au v):gZ B F w M x v:=by
 delta gZ at h⊢;cases q:F.a.names.lookup (B.aA x)with
 |none=>rw[q]at h;exact h|some k=>
  rw[q]at h;cases k with
  |«local»=>exact g q h|free|cell=>(refine dz h λa o H b c=>?_;clear h);exact(dy a o H (e _ _ b) c)|_=>exact h
theorem gZ.a{B:aK}{F:cM}{W:aD}{m:Str->Option Value}{x:Nat}{v:Value}(q:F.a.names.lookup (B.aA x)=au .local):gZ B F W m x v=(m (B.aA x)=au v):=by delta gZ;rw[q]
def dF(B:aK)(F:cM)(W:aD)(L:Addr)(lm:ah)(h:Heap):Prop:=W.b L=none/\L∉W.d/\(∀p∈F.bg,W.b p.1=au p.2)/\∃m,h.Ns L m/\∀x M,aH x lm=au M->∃v,gZ B F W m x v/\aY B W v M
theorem dF.a{B:aK}{F:cM}{W w:aD}{L:Addr}{lm:ah}{h c:Heap}(f:dF B F W L lm h)(e:cK W h w c):dF B F w L lm c:=by
 obtain⟨A,b,s,m,⟨o,E,g,H,r⟩,D⟩:=f;refine(lG (e.k A H) (e.l b H) (λp q=>e.b _ _ (s p q)) m (ju o E g (e.f _ _ H b) r) (λx M q=>?_));refine ap (D x M q) λv Q i=>?_
 exact(aE v (Q.d e.b λ_ z=>z) (i.c e.i))
structure eZ(A:j9)(n:Nat):Prop where
 d:A.depth+n<=900
 b:A.units+5*n<=9000
 a:A.handled=none
theorem eZ.c{A:j9}{n m:Nat}(h:eZ A n)(l:m<=n):eZ A m:=⟨by have:=h.d;exact bc 0x384c0280384c12811012 l this,by have:=h.b;exact bc 0x2328c00000059282328c100000592811052 l this,h.a⟩
def jq(B:aK)(W:aD)(h:Heap)(k:bu)(Q:Value->Shared->Prop):Prop:=∀v s w m a,k m a->aS B w a s->cK W h w s.heap->aY B w v m->Q v s
theorem jq.a{B:aK}{W g:aD}{h H:Heap}{k Q}(p:jq B W h k Q)(e:cK W h g H):jq B g H k Q:=λv s w m f A b c d=>p v s w m f A b (e.e c) d
def rM(B:aK)(W:aD)(h:Heap)(k:Bool->af->Prop)(Q:Bool->Shared->Prop):Prop:=∀b s w a,k b a->aS B w a s->cK W h w s.heap->Q b s
theorem rM.a{B:aK}{W f:aD}{h H:Heap}{k Q}(p:rM B W h k Q)(e:cK W h f H):rM B f H k Q:=λb s w d x y c=>p b s w d x y (e.e c)
def UR(B:aK)(W:aD)(h:Heap)(k:List V->af->Prop)(Q:List Value->Shared->Prop):Prop:=∀v s w m a,k m a->aS B w a s->cK W h w s.heap->bp B w v m->Q v s
def LA(B:aK)(W:aD)(h:Heap)(k:af->Prop)(Q:Unit->Shared->Prop):Prop:=∀s w a,k a->aS B w a s->cK W h w s.heap->Q () s
noncomputable abbrev aK.b(B:aK):Model:=PySem.model B.c B.ae
section
variable (B:aK) (F:cM) (n:Nat)
def bh(e:Expr)(lm:ah)(σ:af)(k:bu):Prop:=∀A W s L Q E,eZ A n->aS B W σ s->dF B F W L lm s.heap->jq B W s.heap k Q->hJ B.b A (eval e (F.bA L)) Q E s
def gQ(es:List Expr)(lm:ah)(σ:af)(k:List V->af->Prop):Prop:=∀A W s L Q E,eZ A n->aS B W σ s->dF B F W L lm s.heap->UR B W s.heap k Q->∀pos,hJ B.b A (spliced (backTo pos (starEach es (F.bA L)))) Q E s
def eV(e:Expr)(lm:ah)(σ:af)(k:Bool->af->Prop):Prop:=∀A W s L Q E,eZ A n->aS B W σ s->dF B F W L lm s.heap->rM B W s.heap k Q->hJ B.b A (isTrue e (F.bA L) (eval e (F.bA L))) Q E s
def jJ(op:ZK)(es:List Expr)(lm:ah)(σ:af)(k:Bool->af->Prop):Prop:=∀A W s L Q E,eZ A n->aS B W σ s->dF B F W L lm s.heap->rM B W s.heap k Q->hJ B.b A (allTrue op es (F.bA L)) Q E s
def jr(t:Value->NO Value)(a:V)(σ:af)(k:bu):Prop:=∀A W s v Q E,eZ A n->aS B W σ s->aY B W v a->jq B W s.heap k Q->hJ B.b A (t v) Q E s
def fq(t:Value->NO Bool)(a:V)(σ:af)(k:Bool->af->Prop):Prop:=∀A W s v Q E,eZ A n->aS B W σ s->aY B W v a->rM B W s.heap k Q->hJ B.b A (t v) Q E s
def ch(t:Value->Value->NO Value)(a b:V)(σ:af)(k:bu):Prop:=∀A W s v c Q E,eZ A n->aS B W σ s->aY B W v a->aY B W c b->jq B W s.heap k Q->hJ B.b A (t v c) Q E s
def xm(t:Value->Value->NO Unit)(a b:V)(σ:af)(k:af->Prop):Prop:=∀A W s v c Q E,eZ A n->aS B W σ s->aY B W v a->aY B W c b->LA B W s.heap k Q->hJ B.b A (t v c) Q E s
def BI(t:Value->Value->Value->NO Unit)(a b c:V)(σ:af)(k:af->Prop):Prop:=∀A W s v d e Q E,eZ A n->aS B W σ s->aY B W v a->aY B W d b->aY B W e c->LA B W s.heap k Q->hJ B.b A (t v d e) Q E s
def eW(f:V)(args:List V)(K:List (Nat×V))(σ:af)(k:bu):Prop:=
 ∀A W s a b v Q E,eZ A n->aS B W σ s->aY B W a f->bp B W b args->v.map (·.1)=K.map (λp=>B.aA p.1)->bp B W (v.map (·.2)) (K.map (·.2))->
  jq B W s.heap k Q->hJ B.b A (call a b v) Q E s
end
section
variable {B:aK} {F:cM} {n:Nat} {lm:ah} {σ:af} {k:bu} {pos:Pos}
theorem bh.c{e:Expr}{K:bu}(h:bh B F n e lm σ k)(x:∀v σ',k v σ'->K v σ'):bh B F n e lm σ K:=λA W D L Q I N R O P=>h A W D L Q I N R O λv S C M σ' T U X Y=>P v S C M σ' (x _ _ T) U X Y
theorem eV.c{e:Expr}{k K:Bool->af->Prop}(h:eV B F n e lm σ k)(H:∀v σ',k v σ'->K v σ'):eV B F n e lm σ K:=λA W s L Q E r R g p=>h A W s L Q E r R g λv S w σ' i j C=>p v S w σ' (H _ _ i) j C
theorem bh.a{x:Nat}{v:V}(I:F.a.kind=.function)(C:F.a.names.lookup (B.aA x)=au .local)(K:(B.aA x==("__debug__":Str))=false)(M:aH x lm=au v)(h:k v σ):
  bh B F n (.Name (B.aA x) pos) lm σ k:=λA W S L Q T U R X Y=>by
 (refine lE X λ_ _ _ Z N O=>?_;clear X);refine ap (O x v M) λa0 D P=>?_
 rw[gZ.a C]at D;exact tn (lP (env:=F.bA L) I C N D (Y a0 S W v σ h R .a P)) K
theorem bh.i{x:Nat}{v:V}(I:F.a.kind=.function)(D:F.a.names.lookup (B.aA x)=au .free)(K:(B.aA x==("__debug__":Str))=false)(M:(B.aA x==("__classdict__":Str))=false)(N:aH x lm=au v)(h:k v σ):
  bh B F n (.Name (B.aA x) pos) lm σ k:=λA W X L Q Y Z R a0 a1=>by
 (refine lE a0 λ_ _ _ a2 hn O=>?_;clear a0);refine ap (O x v N) λa3 C P=>?_
 unfold gZ at C;rw[D]at C;(refine dz C λa4 a5 S T U=>?_;clear C);exact tn (wpAny_loadName_free (env:=F.bA L) (hn:=M) I D S (aE a5 (R.b _ _ T) U) (a1 a3 X W v σ h R .a P)) K
theorem bh.e{x:Nat}{v:V}(I:F.a.kind=.function)(D:F.a.names.lookup (B.aA x)=au .cell)(K:(B.aA x==("__debug__":Str))=false)(M:aH x lm=au v)(h:k v σ):
  bh B F n (.Name (B.aA x) pos) lm σ k:=λA W X L Q Y Z R a0 a1=>by
 (refine lE a0 λ_ _ _ a2 U N=>?_;clear a0);refine ap (N x v M) λa3 C O=>?_
 unfold gZ at C;rw[D]at C;(refine dz C λa4 a5 P S T=>?_;clear C);exact tn (wpAny_loadName_cell (env:=F.bA L) I D P (aE a5 (R.b _ _ S) T) (a1 a3 X W v σ h R .a O)) K
theorem bh.j{c:Nat}(h:k .g σ):bh B F n (.Constant .none c pos) lm σ k:=λA W S L Q x C R D P=>wpAny_Constant_none (P _ S W _ σ h R .a .g)
theorem bh.l{c:Nat}{b:Bool}(h:k (.l b) σ):bh B F n (.Constant (.bool b) c pos) lm σ k:=λA W S L Q x C R D P=>wpAny_Constant_bool (P _ S W _ σ h R .a (.l b))
theorem bh.o{c:Nat}{i:Int}(h:k (.q i) σ):bh B F n (.Constant (.int i) c pos) lm σ k:=λA W S L Q x C R D P=>o6 (P _ _ W _ σ h R.a .a (.q i _))
theorem bh.b{c:Nat}{x:Str}(C:x.length<=sizeLine)(h:k (.e x) σ):bh B F n (.Constant (.str x) c pos) lm σ k:=λA W S L Q D I R K P=>Fb (P _ _ W _ σ h R.a .a (.e x _ C))
theorem bh.H{a b:Expr}{op:l9}(h:bh B F n a lm σ λx C=>bh B F n b lm C λy D=>ch B n (binaryOp op) x y D k):bh B F n (.BinOp a op b pos) lm σ k:=
 λA W a0 L Q a1 a2 R a3 a4=>NP (h A W a0 L _ a1 a2 R a3 λva S M x C N O I P=>N A M S L _ a1 a2 O (a3.a I) λvb T U y D X Y K Z=>X A U T va vb Q a1 a2 Y (P.c K.i) Z (a4.a (I.e K)))
theorem bh.d{a:Expr}(h:bh B F n a lm σ λx D=>fq B n truthy x D λb C=>k (.l (!b)) C):bh B F n (.UnaryOp .Not a pos) lm σ k:=λA W a0 L Q a1 a2 R a3 a4=>Zv (h A W a0 L _ a1 a2 R a3 λZ S I x D K M N O=>not_value (K A I S Z _ a1 a2 M O λb P T C U X Y=>a4 _ P T _ C U X (N.e Y) (.l _)))
theorem bh.p{a:Expr}(h:bh B F n a lm σ λx C=>jr B n (unaryOp .USub) x C k):bh B F n (.UnaryOp .USub a pos) lm σ k:=λA W P L Q T U R X Y=>Zv (h A W P L _ T U R X λO S D x C I K M N=>I A D S O _ T U K N (Y.a M))
theorem bh.f{t a b:Expr}(h:eV B F n t lm σ λc x=>(c=true->bh B F n a lm x k)/\(c=false->bh B F n b lm x k)):bh B F n (.IfExp t a b pos) lm σ k:=
 λA W M L Q N O R P T=>wpAny_IfExp (h A W M L _ N O R P λc S D x I K C=>by
  cases c
  ·exact(I.2 rfl) A D S L Q N O K (P.a C) (T.a C)
  ·exact(I.1 rfl) A D S L Q N O K (P.a C) (T.a C))
theorem bh.q{a b:Expr}(h:bh B F n a lm σ λx I=>fq B n truthy x I λc C=>(c=true->k x C)/\(c=false->bh B F n b lm C k)):bh B F n (.BoolOp .Or [a,b] pos) lm σ k:=
 λA W a0 L Q a1 a2 R a3 a4=>wpAny_Or2 (h A W a0 L _ a1 a2 R a3 λZ S P x I T U K M=>T A P S Z _ a1 a2 U M λc X Y C N O D=>by
  cases c
  ·exact(N.2 rfl) A Y X L Q a1 a2 O (a3.a (K.e D)) (a4.a (K.e D))
  ·exact a4 _ _ _ _ _ (N.1 rfl) O (K.e D) (M.c D.i))
theorem bh.pU{a b:Expr}(h:bh B F n a lm σ λx I=>fq B n truthy x I λc C=>(c=false->k x C)/\(c=true->bh B F n b lm C k)):bh B F n (.BoolOp .And [a,b] pos) lm σ k:=
 λA W a0 L Q a1 a2 R a3 a4=>wpAny_And2 (h A W a0 L _ a1 a2 R a3 λZ S P x I T U K M=>T A P S Z _ a1 a2 U M λc X Y C N O D=>by
  cases c
  ·exact a4 _ _ _ _ _ (N.1 rfl) O (K.e D) (M.c D.i)
  ·exact(N.2 rfl) A Y X L Q a1 a2 O (a3.a (K.e D)) (a4.a (K.e D)))
set_option backward.match.sparseCases true in
theorem LB{M:Model}{A:j9}{E:Value->Shared->Prop}{s:Shared}{op:ZK}{x y:NO Value}{rest:List (NO Value)}{Q:Value->Shared->Prop}
  (h:hJ M A x (λv a=>hJ M A (truthy v) (λt S=>match op,t with| .And,false| .Or,true=>Q v S|_,_=>hJ M A (boolOp pos op (y::rest)) Q E S) E a) E s):
  hJ M A (boolOp pos op (x::y::rest)) Q E s:=by
 refine cT (f:=λv=>standAt pos>>=λ_=>holding [v] (truthy v)>>=λt=>match op,t with| .And,false| .Or,true=>pure v|_,_=>boolOp pos op (y::rest)) (P2 h (λv a b=>cT (kF (cT (il (P2 b (λt S H=>?_) λ_ _ x=>x))))) λ_ _ x=>x);cases op<;>cases t<;>first|exact fe H|exact H
theorem bh.r{a b c:Expr}{rest:List Expr}(h:bh B F n a lm σ λx I=>fq B n truthy x I λt C=>(t=true->k x C)/\(t=false->bh B F n (.BoolOp .Or (b::c::rest) pos) lm C k)):
  bh B F n (.BoolOp .Or (a::b::c::rest) pos) lm σ k:=λA W a0 L Q a1 a2 R a3 a4=>by
 show hJ _ _ (boolOp pos .Or (eval a (F.bA L)::eval b (F.bA L)::evalEach (c::rest) (F.bA L))) Q a1 a0;refine LB (h A W a0 L _ a1 a2 R a3 λZ S P x I T U K M=>T A P S Z _ a1 a2 U M λt X Y C N O D=>?_);cases t
 ·exact(N.2 rfl) A Y X L Q a1 a2 O (a3.a (K.e D)) (a4.a (K.e D))
 ·exact a4 _ _ _ _ _ (N.1 rfl) O (K.e D) (M.c D.i)
theorem bh.s{a b c:Expr}{rest:List Expr}(h:bh B F n a lm σ λx I=>fq B n truthy x I λt C=>(t=false->k x C)/\(t=true->bh B F n (.BoolOp .And (b::c::rest) pos) lm C k)):
  bh B F n (.BoolOp .And (a::b::c::rest) pos) lm σ k:=λA W a0 L Q a1 a2 R a3 a4=>by
 show hJ _ _ (boolOp pos .And (eval a (F.bA L)::eval b (F.bA L)::evalEach (c::rest) (F.bA L))) Q a1 a0;refine LB (h A W a0 L _ a1 a2 R a3 λZ S P x I T U K M=>T A P S Z _ a1 a2 U M λt X Y C N O D=>?_);cases t
 ·exact a4 _ _ _ _ _ (N.1 rfl) O (K.e D) (M.c D.i)
 ·exact(N.2 rfl) A Y X L Q a1 a2 O (a3.a (K.e D)) (a4.a (K.e D))
theorem bh.y{a b:Expr}{op:r7}(hm:behindInMarks op b=false)(h:bh B F n a lm σ λx C=>bh B F n b lm C λy D=>ch B n (hW op) x y D k):bh B F n (.Compare a [op] [b] pos) lm σ k:=
 λA W a0 L Q a1 a2 R a3 a4=>wpAny_Compare1 (h A W a0 L _ a1 a2 R a3 λva S M x C N O I P=>N A M S L _ a1 a2 O (a3.a I) λvb T U y D X Y K Z=>X A U T va vb Q a1 a2 Y (P.c K.i) Z (a4.a (I.e K))) hm
theorem bh.J{a b c:Expr}{op a0:r7}(hm:lastMarks [op,a0] [b,c]=false)
  (h:bh B F n a lm σ λx D=>bh B F n b lm D λy I=>ch B n (hW op) x y I λz K=>fq B n truthy z K λt C=>(t=false->k z C)/\(t=true->bh B F n c lm C λy' M=>ch B n (hW a0) y y' M k)):
  bh B F n (.Compare a [op,a0] [b,c] pos) lm σ k:=
 λA W c1 L Q c2 c3 R c4 c5=>Compare_chain (h A W c1 L _ c2 c3 R c4 λva a1 a2 x D a3 a4 O a5=>chain_link (a3 A a2 a1 L _ c2 c3 a4 (c4.a O) λvb a6 a7 y I a8 a9 P S=>
  a8 A a7 a6 va vb _ c2 c3 a9 (a5.c P.i) S λvc b0 b1 z K b2 b3 T U=>b2 A b1 b0 vc _ c2 c3 b3 U λt b4 b5 C X Y N=>by
   have c6:=((O.e P).e T).e N;cases t
   ·exact c5 _ _ _ _ _ (X.1 rfl) Y c6 (U.c N.i)
   ·exact chain_last ((X.2 rfl) A b5 b4 L _ c2 c3 Y (c4.a c6) λvd b6 b7 y' M b8 b9 Z c0=>b8 A b7 b6 vb vd Q c2 c3 b9 (S.c ((T.e N).e Z).i) c0 (c5.a (c6.e Z))))) hm
theorem eV.b{e:Expr}(o:∀L w,isTrue e (F.bA L) w=(do let v←w;standAt e.pos;holding [v] (truthy v))){k:Bool->af->Prop}(h:bh B F n e lm σ λx g=>fq B n truthy x g k):eV B F n e lm σ k:=λA W s L Q E r R t p=>wpAny_isTrue_value (h A W s L _ E r R t λq S i x g H j l m=>H A i S q Q E r j m (p.a l)) (o L _)
theorem eV.d{e:Expr}{k:Bool->af->Prop}(h:eV B F n e lm σ λb g=>k (!b) g):eV B F n (.UnaryOp .Not e pos) lm σ k:=λA W s L Q E r R j p=>wpAny_isTrue_Not (h A W s L _ E r R j λb S w i l C D=>p _ S w i l C D)
theorem eV.a{op:ZK}{es:List Expr}{k:Bool->af->Prop}(h:jJ B F n op es lm σ k):eV B F n (.BoolOp op es pos) lm σ k:=λA W s L Q E r R e p=>wpAny_isTrue_BoolOp (h A W s L Q E r R e p)
theorem jJ.c{k:Bool->af->Prop}(h:k true σ):jJ B F n .And [] lm σ k:=λA W s L Q E r R f p=>wpAny_allTrue_And_nil (p _ s W σ h R .a)
theorem jJ.d{k:Bool->af->Prop}(h:k false σ):jJ B F n .Or [] lm σ k:=λA W s L Q E r R f p=>wpAny_allTrue_Or_nil (p _ s W σ h R .a)
theorem jJ.a{e:Expr}{es:List Expr}{k:Bool->af->Prop}(h:eV B F n e lm σ λb g=>(b=true->jJ B F n .And es lm g k)/\(b=false->k false g)):jJ B F n .And (e::es) lm σ k:=
 λA W s L Q E r R f p=>wpAny_allTrue_And_cons (h A W s L _ E r R f λb S w g H j i=>by
  cases b
  ·exact p _ _ _ _ (H.2 rfl) j i
  ·exact(H.1 rfl) A w S L Q E r j (f.a i) (p.a i))
theorem jJ.b{e:Expr}{es:List Expr}{k:Bool->af->Prop}(h:eV B F n e lm σ λb g=>(b=false->jJ B F n .Or es lm g k)/\(b=true->k true g)):jJ B F n .Or (e::es) lm σ k:=
 λA W s L Q E r R f p=>wpAny_allTrue_Or_cons (h A W s L _ E r R f λb S w g H j i=>by
  cases b
  ·exact(H.1 rfl) A w S L Q E r j (f.a i) (p.a i)
  ·exact p _ _ _ _ (H.2 rfl) j i)
theorem eV.y{a b:Expr}{op:r7}(O:behindInMarks op b=false){k:Bool->af->Prop}(h:bh B F n a lm σ λx e=>bh B F n b lm e λy g=>ch B n (hW op) x y g λz i=>fq B n truthy z i k):
  eV B F n (.Compare a [op] [b] pos) lm σ k:=
 λA W s L Q E r R X p=>wpAny_isTrue_Compare1 (h A W s L _ E r R X λP S w x e H m j v=>H A w S L _ E r m (X.a j) λT o q y g t u l C=>t A q o P T _ E r u (v.c l.i) C λU D G z i I K M N=>I A G D U Q E r K N (p.a ((j.e l).e M))) O
theorem eV.J{a b c:Expr}{op O:r7}(hm:lastMarks [op,O] [b,c]=false){k:Bool->af->Prop}
  (h:bh B F n a lm σ λx i=>bh B F n b lm i λy j=>ch B n (hW op) x y j λz l=>fq B n truthy z l λt g=>(t=false->k false g)/\(t=true->bh B F n c lm g λy' m=>ch B n (hW O) y y' m λz' o=>fq B n truthy z' o k)):
  eV B F n (.Compare a [op,O] [b,c] pos) lm σ k:=
 λA W s L Q E r R b6 p=>isTrue_chain (h A W s L _ E r R b6 λva S I x i K M q N=>test_link (K A I S L _ E r M (b6.a q) λvb P T y j U X u v=>
  U A T P va vb _ E r X (N.c u.i) v λvc Y Z z l a0 a1 w a2=>a0 A Z Y vc _ E r a1 a2 λt a3 a4 g H C D=>by
   have e:=((q.e u).e w).e D;cases t
   ·exact p _ _ _ _ (H.1 rfl) C e
   ·exact test_last ((H.2 rfl) A a4 a3 L _ E r C (b6.a e) λvd a5 a6 y' m a7 a8 G a9=>a7 A a6 a5 vb vd _ E r a8 (v.c ((w.e D).e G).i) a9 λve b0 b1 z' o b2 b3 b4 b5=>b2 A b1 b0 ve Q E r b3 b5 (p.a ((e.e G).e b4))))) hm
theorem gQ.j{k:List V->af->Prop}(h:k [] σ):gQ B F n [] lm σ k:=λA W s L Q E r R f P pos=>wpAny_items_nil (P _ s W _ σ h R .a .j)
theorem gQ.p{e:Expr}{es:List Expr}{k:List V->af->Prop}(u:isStarred e=false)(h:bh B F n e lm σ λx b=>gQ B F n es lm b λxs a=>k (x::xs) a):gQ B F n (e::es) lm σ k:=
 λA W s L Q E r R f P pos=>wpAny_items_cons (h A W s L _ E r R f λy S w x b H i d v=>H A w S L _ E r i (f.a d) (λz l m xs a o q g t=>P _ l m _ a o q (d.e g) (.p (v.c g.i) t)) pos)
  (by cases e<;>first|rfl|(injection u;done))
theorem bh.t{es:List Expr}{c:Nat}(T:es.length<=60)(h:gQ B F n es lm σ λxs x=>xs.length<=60/\k (.D xs) x):bh B F n (.Tuple es c pos) lm σ k:=
 λA W U L Q X Y R Z a0=>wpAny_Tuple (h A W U L _ X Y R Z (λP S O xs x C K M D=>by
  have a1:=bp.a D;refine(ai (by rw[a1,bw];exact aO 0x1000000d03cb011 C.1) ?_);refine cS (K.n {cls:=.type "tuple",data:=.seq P.toArray} rfl) λN I a2=>?_
  exact a0 _ _ _ _ _ C.2 N (M.e I) (.D a2 (by simpa using D.c I.i))) pos)
theorem bh.u{es:List Expr}(h:gQ B F n es lm σ λxs x=>xs.length<=60/\k (.o x.length) (x++[.u xs])):bh B F n (.List es pos) lm σ k:=
 λA W T L Q U X R Y Z=>wpAny_List (h A W T L _ U X R Y (λP S O xs x C I K D=>by have a0:=bp.a D;refine(ai (by rw[a0,bw];exact aO 0x1000000d03cb011 C.1) ?_);(refine cS (I.s {cls:=.type "list",data:=.seq P.toArray} (.u xs) (.u (n:=0) (ix _ rfl) (by simpa using D) (by rw[bw];exact aO 0x1000000d03cb011 C.1))) λM N a1=>?_);exact Z _ _ _ _ _ C.2 M (K.e N) (.o a1)) pos)
end
inductive bH where
 |a|g|b|f (v:V)
noncomputable def bH.ctorIdx(x:bH):Nat:= @bH.casesOn (λ_=>Nat) x 0 1 2 (λ_=>3)
inductive US(B:aK)(W:aD):Flow->bH->Prop
 |a:US B W .next .a
 |g:US B W .brk .g
 |b:US B W .cont .b
 |f {v x}:aY B W v x->US B W (.ret v) (.f x)
structure fW(L:Addr)(W:aD)(h:Heap)(W':aD)(h':Heap):Prop where
 b:∀a o,W.b a=au o->W'.b a=au o
 j:∀a o,W'.b a=au o->W.b a=au o\/h.get? a=none
 d:∃more,W'.d=W.d++more/\∀a∈more,h.get? a=none
 f:∀a o,a≠L->h.get? a=au o->a∉W.d->h'.get? a=au o
 c:∀a o,h.get? a=au o->∃o',h'.get? a=au o'
 bE:W'.bE=W.bE
theorem fW.i{L:Addr}{W w:aD}{h H:Heap}(e:fW L W h w H):hG W w:=⟨e.b,let⟨m,x,_⟩:=e.d;⟨m,x⟩,e.bE⟩
theorem fW.a{L:Addr}{W:aD}{h:Heap}:fW L W h W h:=⟨λ_ _ x=>x,λ_ _ x=> .inl x,(aE [] (by simp) (by simp)),λ_ _ _ x _=>x,λ_ o x=>(ba o x),rfl⟩
theorem cK.h{L:Addr}{W w:aD}{h H:Heap}(e:cK W h w H):fW L W h w H:=⟨e.b,e.j,e.d,λA o _ x y=>e.f A o x y,e.c,e.bE⟩
theorem fW.e{L:Addr}{W k w:aD}{h p H:Heap}(e:fW L W h k p)(f:fW L k p w H):fW L W h w H:=by
 refine ap e.d λm E q=>?_;refine ap f.d λM F s=>?_
 refine⟨λA o x=>f.b A o (e.b A o x),λA o x=>?_,(aE (m++M) (by rw[F,E,dx]) (λA t=>?_)),λA o z x n=>?_,λA o x=>(e.c A o x).elim λO y=>f.c A O y,f.bE.trans e.bE⟩
 ·rcases f.j A o x with y|y
  ·exact e.j A o y
  ·exact .inr (us e.c y)
 ·rcases e8.mp t with y|y
  ·exact q A y
  ·exact us e.c (s A y)
 ·refine f.f A o z (e.f A o z x n) λr=>?_
  rw[E]at r;rcases e8.mp r with y|y
  ·exact n y
  ·rw[q A y]at x;(injection x;done)
theorem fW.g{L:Addr}{W w:aD}{h H:Heap}(e:fW L W h w H)(n:h.get? L=none):cK W h w H:=⟨e.b,e.j,e.d,λA o x y=>e.f A o (λq=>by subst q;rw[n]at x;(injection x;done)) x y,e.c,e.bE⟩
def ut(B:aK)(F:cM)(L:Addr)(W:aD)(h:Heap)(k:bH->ah->af->Prop)(Q:Flow->Shared->Prop):Prop:=∀f s w m l a,k m l a->aS B w a s->fW L W h w s.heap->dF B F w L l s.heap->US B w f m->Q f s
theorem ut.a{B:aK}{F:cM}{L:Addr}{W i:aD}{h H:Heap}{k Q}(p:ut B F L W h k Q)(e:fW L W h i H):ut B F L i H k Q:=λv s w m l g A b c d f=>p v s w m l g A b (e.e c) d f
section
variable (B:aK) (F:cM) (n:Nat)
def ec(st:Stmt)(lm:ah)(σ:af)(k:bH->ah->af->Prop):Prop:=∀A W s L Q E,eZ A n->aS B W σ s->dF B F W L lm s.heap->ut B F L W s.heap k Q->hJ B.b A (exec st (F.bA L)) Q E s
def e_(st:List Stmt)(lm:ah)(σ:af)(k:bH->ah->af->Prop):Prop:=∀A W s L Q E,eZ A n->aS B W σ s->dF B F W L lm s.heap->ut B F L W s.heap k Q->hJ B.b A (execs st (F.bA L)) Q E s
def kh(t:Expr)(v:V)(lm:ah)(σ:af)(k:ah->af->Prop):Prop:=
 ∀A W s L b Q E,eZ A n->aS B W σ s->dF B F W L lm s.heap->aY B W b v->
  (∀S w l a,k l a->aS B w a S->fW L W s.heap w S.heap->dF B F w L l S.heap->Q () S)->hJ B.b A (assign t (F.bA L) b) Q E s
end
section
variable {B:aK} {F:cM} {n:Nat} {lm:ah} {σ:af} {k:bH->ah->af->Prop} {pos:Pos}
theorem ec.c{st:Stmt}{K:bH->ah->af->Prop}(h:ec B F n st lm σ k)(H:∀f l σ',k f l σ'->K f l σ'):ec B F n st lm σ K:=λA W s L Q E r R f P=>h A W s L Q E r R f λv S w m l σ' j q C D t=>P v S w m l σ' (H _ _ _ j) q C D t
theorem e_.j(h:k .a lm σ):e_ B F n [] lm σ k:=λA W s L Q E r R f P=>x7 (P _ s W _ lm σ h R .a f .a)
def xc(B:aK)(F:cM)(n:Nat)(rest:List Stmt)(k:bH->ah->af->Prop):bH->ah->af->Prop
 | .a,lm,σ=>e_ B F n rest lm σ k|f,lm,σ=>k f lm σ
theorem e_.p{st:Stmt}{rest:List Stmt}(h:ec B F n st lm σ (xc B F n rest k)):e_ B F n (st::rest) lm σ k:=
 λA W s L Q E r R o P=>lj (h A W s L _ E r R o λm S w M l i q t c d e=>by
  cases e with
  |a=>exact q A w S L Q E r t d (P.a c)|g=>exact P _ _ _ _ _ _ q t c d .g|b=>exact P _ _ _ _ _ _ q t c d .b|f v=>exact P _ _ _ _ _ _ q t c d (.f v))
theorem ec.p(h:k .a lm σ):ec B F n (.Pass pos) lm σ k:=λA W s L Q E r R j P=>wpAny_Pass (P _ s W _ lm σ h R .a j .a)
theorem ec.g(h:k .g lm σ):ec B F n (.Break pos) lm σ k:=λA W s L Q E r R j P=>wpAny_Break (P _ s W _ lm σ h R .a j .g)
theorem ec.d{t:Expr}{a b:List Stmt}(h:eV B F n t lm σ λc j=>(c=true->e_ B F n a lm j k)/\(c=false->e_ B F n b lm j k)):ec B F n (.If t a b pos) lm σ k:=
 λA W s L Q E r R u P=>wpAny_If (h A W s L _ E r R u λc S w j H q m=>by
  cases c
  ·exact(H.2 rfl) A w S L Q E r q (u.a m) (P.a m.h)
  ·exact(H.1 rfl) A w S L Q E r q (u.a m) (P.a m.h))
theorem ec.f{e:Expr}(h:bh B F n e lm σ λv j=>k (.f v) lm j):ec B F n (.Return (au e) pos) lm σ k:=λA W s L Q E r R u P=>wpAny_Return_some (h A W s L _ E r R u λv S w x j H q m t=>P _ _ _ _ _ _ H q m.h (u.a m) (.f t))
theorem ec.e(h:k (.f .g) lm σ):ec B F n (.Return none pos) lm σ k:=λA W s L Q E r R j P=>wpAny_Return_none (P _ _ _ _ _ _ h R .a j (.f .g))
theorem ec.l{e:Expr}(u:F.a.kind=.function)(y:∀L,swapsWith e none pos.line (F.bA L)=pure false)(h:bh B F n e lm σ λ_ j=>k .a lm j):ec B F n (.Expr e pos) lm σ k:=λA W s L Q E r R z P=>wpAny_Expr_any (h A W s L _ E r R z λv S w x j H q m t=>P _ _ _ _ _ _ H q m.h (z.a m) .a) (by delta interactive;show(F.a.kind==.module&&_)=false;rw[u];rfl) (y L)
theorem xe{A:j9}{W:aD}{s:Shared}{L:Addr}{x:Nat}{v:Value}{mv:V}{Q:Unit->Shared->Prop}{E:Value->Shared->Prop}(j:F.a.kind=.function)(g:F.a.names.lookup (B.aA x)=au .local)
  (R:aS B W σ s)(f:dF B F W L lm s.heap)(k:aY B W v mv)
  (q:∀s',aS B W σ s'->fW L W s.heap W s'.heap->dF B F W L (aU x mv lm) s'.heap->Q () s'):hJ B.b A (storeName (F.bA L) (B.aA x) v) Q E s:=by
 (refine lE f λa b S m l n=>?_;clear f);refine wpAny_storeName_local (env:=F.bA L) g l (λC h H=>?_) (by show(F.a.kind==.class||(F.a.kind==.module&&L !=mainGlobals))=false;rw[j];rfl);refine q _ ⟨R.cm,λc o e=>?_,R.k,λi c p e r=>?_,R.d,R.e,R.h,R.f⟩ ⟨λ_ _ x=>x,λ_ _ x=> .inl x,(aE [] (by simp) (by simp)),λc o z e _=>(H.2 c z).trans e,λc o e=>by
   by_cases z:c=L
   ·subst z;(refine kU h λO _ _ d _=>?_;clear h);exact(ba O d)
   ·exact(ba o ((H.2 c z).trans e)),rfl⟩
  (lG a b S _ h (λy M e=>?_))
 ·have:c≠L:=λq=>by rw[q,a]at e;(injection e;done)
  exact(H.2 c this).trans (R.b c o e)
 ·have:c≠L:=λq=>b (q▸g8 e)
  exact(R.p i c p e r).b λo x=>(H.2 c this).trans x
 ·rw[fP]at e
  by_cases q:y=x
  ·rw[if_pos q]at e;(injection e with Z;subst Z);exact(aE v (by rw[q,gZ.a g,if_pos rfl]) k)
  ·rw[if_neg q]at e;refine ap (n y M e) λw t u=>?_
   exact(aE w (t.d (λ_ _ z=>z) λ_ z=>by rw[if_neg λz=>q (B.g _ _ z)];exact z) u)
theorem kh.a{x:Nat}{v:V}{k:ah->af->Prop}(H:F.a.kind=.function)(b:F.a.names.lookup (B.aA x)=au .local)(h:k (aU x v lm) σ):kh B F n (.Name (B.aA x) pos) v lm σ k:=
 λA W s L d Q E r R f e p=>by
 show hJ _ _ (do standAt pos;bindName (F.bA L) (B.aA x) d) Q E s;exact cT (kF (z4 (xe H b R f e λS g i j=>p _ _ _ _ h g i j)))
theorem kh.w{o:Expr}{a:Str}{v:V}{k:ah->af->Prop}(h:bh B F n o lm σ λO b=>xm B n (λx y=>setAttr x a y) O v b λd=>k lm d):kh B F n (.Attribute o a pos) v lm σ k:=
 λA W s L i Q E r R f D p=>by
 show hJ _ _ (do let O←holding [i] (eval o (F.bA L));standAt pos.atName;holding [i,O] (setAttr O a i);release [i,O] []) Q E s;refine cT (il (h A W s L _ E r R f λG S j O b H l e q=>cT (kF (cT (il (H A j S G i _ E r l q (D.c e.i) λz C d t u g=>Zw ?_))))));exact p _ _ _ _ t u (e.e g).h (f.a (e.e g))
theorem kh.m{o i:Expr}{v:V}{k:ah->af->Prop}(h:bh B F n o lm σ λO d=>bh B F n i lm d λJ g=>BI B n setItem O J v g λj=>k lm j):kh B F n (.Subscript o i pos) v lm σ k:=
 λA W s L N Q E r R f P p=>by
 rw[arm_assign_Subscript];refine cT (il (h A W s L _ E r R f λT S q O d H t e u=>cT (il (H A q S L _ E r t (f.a e) λU x y J g z C b D=>?_))));refine cT (kF (cT (il (z A y x T U N _ E r C (u.c b.i) D (P.c (e.e b).i) λK M j G I l=>Zw ?_))));exact p _ _ _ _ G I ((e.e b).e l).h (f.a ((e.e b).e l))
theorem ec.a{t j:Expr}(M:∀L,swapsWith j (au t) pos.line (F.bA L)=pure false)(N:∀L,swappedStores [t] j (F.bA L)=pure none)
  (O:∀L,(assignEach [t] (F.bA L)).map (·.2)=[assign t (F.bA L)])
  (h:bh B F n j lm σ λv m=>kh B F n t v lm m λw q=>k .a w q):ec B F n (.Assign [t] j pos) lm σ k:=
 λA W s L Q E r R T U=>o2 (h A W s L _ E r R T λP S x v m H y u z=>by rw[O L];exact H A x S L P _ E r y (T.a u) z λJ K w q C D G I=>U _ _ _ _ _ _ C D (u.h.e G) I .a) (M L) (N L)
end
structure B7 where
 e:Addr
 a:List Nat
 b:List (Nat×Addr)
 c:List (Nat×Value)
noncomputable def xL(n:Nat->Str)(K:Frag)(C:Addr)(p:Nat×Addr):Bool:=findIn K (.ref C) (n p.1)==au (au (.ref p.2))&&isFn K (.ref p.2)&&specialIn K (.ref p.2) "__get__"==au (au (.builtin "function.__get__"))&&takesIn K (.ref p.2)==au false&& !copiedNames.contains (n p.1)
noncomputable def Cj(n:Nat->Str)(K:Frag)(C:Addr)(p:Nat×Value):Bool:=findIn K (.ref C) (n p.1)==au (au p.2)&&specialIn K p.2 "__get__"==au none&&handedIn p.2&& !copiedNames.contains (n p.1)
noncomputable def lI(n:Nat->Str)(K:Frag)(T:B7):Bool:=
 plainOver K T.e&&hasDictIn K T.e&&findIn K (.ref T.e) "__setattr__"==au (au (.builtin "object.__setattr__"))&&findIn K (.ref T.e) "__getattribute__"==au (au (.builtin "object.__getattribute__"))&&
 findIn K (.ref T.e) "__getattr__"==au none&&T.a.all (λx=>findIn K (.ref T.e) (n x)==au none)&&T.b.all (xL n K T.e)&&T.c.all (Cj n K T.e)
structure gR(B:aK):Prop where
 d:B.a.In B.d
 a:B.d.NoLimit
 e:B.d.Ns mainGlobals B.e
 h:B.d.Ns builtinsNs B.h
 f:∃o,B.d.get? sysModules=au o
theorem aS.j{B:aK}{W:aD}{σ:af}{s:Shared}(R:aS B W σ s):∀b o,B.d.get? b=au o->s.heap.get? b=au o:=λb o E=>R.b _ _ (R.cm _ _ E)
theorem gR.c{B:aK}(G:gR B){W:aD}{σ:af}{s:Shared}(R:aS B W σ s):(s.heap.objs.size==sysModules)=false:=by
 refine bf G.f λo H=>?_
 have:=lF (R.b _ _ (R.cm _ _ H));exact beq_eq_false_iff_ne.mpr (s8 this)
theorem gR.b{B:aK}(G:gR B){W:aD}{σ:af}{s:Shared}(R:aS B W σ s):B.a.In s.heap:=G.d.keeps R.j
noncomputable def eS(x:Str):List (Str×V)->Option V
 |[]=>none|(y,v)::r=>if x=y then au v else eS x r
def gb(x:Str)(v:V):List (Str×V)->List (Str×V)
 |[]=>[(x,v)]|(y,w)::r=>if x=y then(x,v)::r else(y,w)::gb x v r
theorem er.b{B:aK}{W:aD}{x:Nat}:∀{fs:List (Nat×V)} {es:List DictEntry},er B W es fs->es.any (·.refKey)=false/\
  match aH x fs with|some mv=>∃e,es.find? (·.key.isStr (B.aA x))=au e/\aY B W e.val mv|none=>es.find? (·.key.isStr (B.aA x))=none
 |[],_,h=>by subst h;exact(ai rfl rfl)|(y,w)::fs,e::es,h=>by
  obtain⟨⟨⟨t,H⟩,_⟩,c,d⟩:=h;refine aV (er.b (x:=x) d) λi I=>?_
  have k:e.key.isStr (B.aA x)=(B.aA y==B.aA x):=by rw[H];rfl
  refine(ai ?_ ?_)
  ·rw[E6,i,DictEntry.refKey,H];rfl
  ·rw[fh,N3,k]
   by_cases q:x=y
   ·subst q;rw[beq_self_eq_true,if_pos rfl];exact(aE e rfl c)
   ·rw[if_neg q,beq_eq_false_iff_ne.mpr λz=>q (B.g _ _ z).symm];exact I
theorem er.g{B:aK}{W:aD}{x:Nat}{es:List DictEntry}{fs:List (Nat×V)}(h:er B W es fs):match aH x fs with|some mv=>∃v,getL (B.aA x) es=au (au v)/\aY B W v mv|none=>getL (B.aA x) es=au none:=by
 refine aV (er.b (x:=x) h) λa i=>?_
 unfold getL;cases q:aH x fs with
 |some mv=>rw[q]at i;(refine ap i λe c d=>?_;clear i);exact(aE _ (by rw[c]) d)|none=>rw[q]at i;dsimp only at i⊢;rw[i];dsimp only;rw[a];rfl
theorem er.aU{B:aK}{W:aD}{x:Nat}{v:Value}{mv:V}{t:N'}(H:aY B W v mv):∀{fs:List (Nat×V)} {es:List DictEntry},er B W es fs->er B W (putL (B.aA x) (lw B.ae.params (B.aA x)) (.str (B.aA x) t) v es) (aU x mv fs)
 |[],_,h=>by subst h;exact(cz ⟨(ba t rfl),rfl⟩ H rfl)|(y,w)::fs,e::es,h=>by
  obtain⟨⟨⟨T,c⟩,d⟩,k,i⟩:=h;have K:e.key.isStr (B.aA x)=(B.aA y==B.aA x):=by rw[c];rfl
  unfold putL;rw[K,lh]
  by_cases q:x=y
  ·subst q;rw[beq_self_eq_true,if_pos rfl,if_pos rfl];exact(cz ⟨(ba T c),d⟩ H i)
  ·rw[if_neg q,beq_eq_false_iff_ne.mpr λz=>q (B.g _ _ z).symm,if_neg to];exact(cz ⟨(ba T c),d⟩ k (er.aU H i))
theorem XT(x:Nat)(v:V):∀l:ah,(aU x v l).length<=l.length+1
 |[]=>by simp[aU]|(y,w)::r=>by
  rw[lh];split
  ·simp
  ·simp only[eb];have:=XT x v r;exact aC 0x1a1a1881a081a18011 this
theorem dm.d{W:aD}{v:Value}{P:Addr->Obj->Prop}(h:dm W v P):handedIn v=true:=by(refine dJ h λa _ e _=>?_;clear h;subst e);rfl
theorem aY.d{B:aK}{W:aD}{v:Value}:∀{x:V},aY B W v x->handedIn v=true
 | .g,H| .l _,H| .cy _,H| .h _,H=>by subst H;rfl| .q _,H| .e _,H| .t _,H| .o _,H=>by refine bf H λ_ H=>?_;first|(cases H;rfl)|(refine aV H λH _=>?_;subst H;rfl)
 | .x,H=>by refine jg H λ_ _ H=>?_;subst H;rfl| .j b,H=>by subst H;cases b<;>rfl
 | .D _,H| .u _,H| .c _,H| .p _ _,H| .v _,H| .k _ _,H| .E _ _ _,H| .m _,H=>dm.d H| .r,H=>H
section
variable {B:aK} {n:Nat} {σ:af} {k:bu} {T:B7} {a i:Nat} {fs:List (Nat×V)} {mv:V} {f:Addr}
theorem pY(h:lI B.aA B.a T=true):plainOver B.a T.e=true/\hasDictIn B.a T.e=true/\findIn B.a (.ref T.e) "__setattr__"=au (au (.builtin "object.__setattr__"))/\
  findIn B.a (.ref T.e) "__getattribute__"=au (au (.builtin "object.__getattribute__"))/\findIn B.a (.ref T.e) "__getattr__"=au none/\
  (∀x∈T.a,findIn B.a (.ref T.e) (B.aA x)=au none)/\(∀p∈T.b,xL B.aA B.a T.e p=true)/\(∀p∈T.c,Cj B.aA B.a T.e p=true):=by
 simp only[lI,di,kd,beq_iff_eq]at h;obtain⟨⟨⟨⟨⟨⟨⟨a,b⟩,c⟩,d⟩,e⟩,f⟩,g⟩,h⟩:=h;exact(KL a b c d e f g h)
theorem xC{x:Nat}{l:List Nat}(h:l.contains x=true):x∈l:=qS.mp h
theorem Ck{α a:Type}[BEq α][LawfulBEq α]{x:α}{v:a}:∀{l:List (α×a)},l.lookup x=au v->(x,v)∈l
 |(y,w)::r,h=>by
  rw[j3]at h;cases q:x==y with
  |true=>rw[q]at h;(injection h with z;subst z);rw[ga q];exact .head _|false=>rw[q]at h;exact .tail _ (Ck h)
theorem sg{W:aD}{s:Shared}{x:Value}{C:Addr}(R:aS B W σ s)(a:aY B W x (.k C i))(h:σ[i]? =au (.a fs)):
  ∃X d es m,x=.ref X/\W.d[i]? =au d/\s.heap.get? d=au (dictOf es m)/\er B W es fs/\fs.length<=900/\P' s.heap X (instObj C d) C (au (dictOf es m)):=by
 obtain⟨X,_,rfl,b,d,rfl,H⟩:=a;obtain⟨_,g,es,⟨m,rfl⟩,e,l⟩:=R.p i d _ H h;exact⟨X,d,es,m,rfl,H,g,e,l,⟨R.b _ _ b,rfl,rfl,g⟩⟩
theorem Cl{W:aD}{s:Shared}{x:Value}{C:Addr}(R:aS B W σ s)(h:aY B W x (.p C fs)):
  ∃X d es m,x=.ref X/\er B W es fs/\P' s.heap X (instObj C d) C (au (dictOf es m)):=by
 obtain⟨X,_,rfl,H,d,rfl,_,_,e,a,es,⟨m,rfl⟩,b⟩:=h;(injection e with z;subst z);exact(T0 X d es m rfl b ⟨R.b _ _ H,rfl,rfl,R.b _ _ a⟩)
theorem LQ(G:gR B){e:Bool}(d:lI B.aA B.a T=true)(f:T.a.contains a=true)(H:σ[i]? =au (.a fs))(j:aH a fs=au mv)(h:k mv σ):
  jr B n (λx=>getAttr x (B.aA a) e) (.k T.e i) σ k:=λA W s y Q E r R l p=>by
 (refine rK (sg R l H) λX D z m b _ g o _ I=>?_;subst b);refine KP (pY d) λC P F t J u _=>?_
 have q:=o.g (x:=a);rw[j]at q;(refine ap q λv w c=>?_;clear q);exact ZE (G.b R) I t (findObj_own P (u a (xC f)) rfl (by rw[un];exact w)) (c.d) (p _ _ _ _ _ h R.a .a c)
theorem U6(G:gR B){e:Bool}(H:lI B.aA B.a T=true)(d:T.a.contains a=true)(f:aH a fs=au mv)(h:k mv σ):
  jr B n (λx=>getAttr x (B.aA a) e) (.p T.e fs) σ k:=λA W s t Q E r R g p=>by
 (refine BE (Cl R g) λX D u m b i I=>?_;subst b);refine KP (pY H) λw P y j z l _=>?_
 have q:=i.g (x:=a);rw[f]at q;(refine ap q λv o c=>?_;clear q);exact ZE (G.b R) I j (findObj_own P (l a (xC d)) rfl (by rw[un];exact o)) (c.d) (p _ _ _ _ _ h R.a .a c)
theorem U8(G:gR B){e:Bool}{v:Value}{mv:V}(f:lI B.aA B.a T=true)(j:T.c.lookup a=au v)(H:σ[i]? =au (.a fs))(l:aH a fs=none)(b:∀W σ s,aS B W σ s->aY B W v mv)(h:k mv σ):
  jr B n (λx=>getAttr x (B.aA a) e) (.k T.e i) σ k:=λA W s y Q E r R o p=>by
 (refine rK (sg R o H) λX D z m d _ g t _ I=>?_;subst d);refine mj (pY f) λC P F u J K _ w=>?_
 have c:=w _ (Ck j);simp only[Cj,di,beq_iff_eq,ib]at c;have q:=t.g (x:=a);rw[l]at q;exact ZE (G.b R) I u (findObj_cls P c.1.1.1 c.1.1.2 c.1.2 c.2 (by rw[un];exact q)) c.1.2 (p _ _ _ _ _ h R.a .a (b _ _ _ R))
theorem U7(G:gR B){e:Bool}(o:lI B.aA B.a T=true)(t:T.b.lookup a=au f)(H:σ[i]? =au (.a fs))(u:aH a fs=none)(h:k (.E T.e i f) σ):
  jr B n (λx=>getAttr x (B.aA a) e) (.k T.e i) σ k:=λA W s D Q E r R l p=>by
 (refine rK (sg R l H) λX F J m j _ g v _ I=>?_;subst j);refine mj (pY o) λK P L w y M C N=>?_
 have c:=C _ (Ck t);simp only[xL,di,beq_iff_eq,ib]at c;have q:=v.g (x:=a);rw[u]at q;refine cS (R.n (methodObj (.ref f) (.ref X)) rfl) λd b z=>?_
 refine get_bind (G.b R) I w (findObj_fn P c.1.1.1.1 c.1.1.2 c.1.2 c.2 (by rw[un];exact q)) y ?_;refine ws (fn_get (s:={s with toks:=s.toks+1}) (G.b R.a) (beq_iff_eq.mp c.1.1.1.2) (handed_on rfl ?_));exact p _ _ _ _ _ h d.a b (.E z (l.c b.i))
def lS(B:aK)(n:Nat)(a:Str)(o:V)(σ:af)(f:V)(first:List V):Prop:=∀A W s v (p:NO Bool) Q E,eZ A n->aS B W σ s->aY B W v o->(∀S w F b,aS B w σ S->cK W s.heap w S.heap->aY B w F f->bp B w b first->Q (F,b) S)->hJ B.b A (getMethod v a p) Q E s
theorem WP(G:gR B)(b:lI B.aA B.a T=true)(d:T.b.lookup a=au f)(h:σ[i]? =au (.a fs))(j:aH a fs=none):lS B n (B.aA a) (.k T.e i) σ (.cy f) [.k T.e i]:=
 λA W s v u Q E r R H p=>by
 (refine rK (sg R H h) λX D k m e _ g l _ I=>?_;subst e);refine mj (pY b) λw y z P o C t F=>?_
 have c:=t _ (Ck d);simp only[xL,di,beq_iff_eq,ib]at c;have q:=l.g (x:=a);rw[j]at q;exact method_fn (G.b R) I P o c.1.1.1.1 (beq_iff_eq.mp c.1.1.1.2) (by show(lookIn (B.aA a) (dictOf k m)).map _=_;rw[un,q];rfl) (p s W _ _ R .a (.cy _) (.p H .j))
theorem U9(G:gR B){v:V}(w:lI B.aA B.a T=true)(C:T.a.contains a=true)(H:σ[i]? =au (.a fs))(D:fs.length<=800){k:af->Prop}(h:k (σ.set i (.a (aU a v fs)))):
  xm B n (λx y=>setAttr x (B.aA a) y) (.k T.e i) v σ k:=λA W s va c Q E r R F J p=>by
 (refine rK (sg R F H) λxa d f m j l g o _ I=>?_;subst j);refine mj (pY w) λP K L p4 p5 M p7 p8=>?_
 have q:=o.g (x:=a);have hs:(getL (B.aA a) f).isSome=true:=by
  cases z:aH a fs with
  |some mv=>rw[z]at q;(refine ap q λv N _=>?_;clear q);rw[N];rfl|none=>rw[z]at q;rw[q];rfl
 have O:takerIn B.a T.e (B.aA a)=au none:=by unfold takerIn;rw[M a (xC C)];rfl
 refine set_plain (G.b R) I L (osa_open (s:={s with toks:=s.toks+1}) (G.b R.a) I P O λb=>?_);refine ap (any_some K) λcd U t=>?_
 obtain⟨X,_,_,Id⟩:=I;have S:=nu (h:=s.heap) (NQ (B.aA a) (lw B.ae.params (B.aA a)) (.str (B.aA a) (s.toks+1)) c) g (by rw[ZL];rfl);rw[ZL]at S;have Y:F' d s.heap (s.heap.update d (NQ (B.aA a) (lw B.ae.params (B.aA a)) (.str (B.aA a) (s.toks+1)) c)):=o3 ..;have e:er B W (putL (B.aA a) (lw B.ae.params (B.aA a)) (.str (B.aA a) (s.toks+1)) c f) (aU a v fs):=o.aU J;have u:(aU a v fs).length<=900:=by have:=XT a v fs;exact aC 0x384c00320c111a18012 this D
 refine aV (R.o (s':={s with heap:=s.heap.update d (NQ (B.aA a) (lw B.ae.params (B.aA a)) (.str (B.aA a) (s.toks+1)) c)}) l Y (.a S e u) rfl rfl) λZ e'=>?_
 refine cT (fe (cT (cT (z5 X (cT ((looks_clsIn (G.b R.a) U).here ?_))))));rw[t];refine fe (a:=au d) (cT (fe (cT ?_)));unfold nsSet;refine cT (cT (wpAny_askSetting (fe (cT (wpAny_mkText (cT (z5 g ?_)))))));have rk:aRefKeyMayBeTheName (B.aA a) f.toArray=false:=by
  rw[aRefKeyMayBeTheName_at];have:f.toArray.any (·.refKey)=false:=by rw[←J0];exact(er.b (x:=a) o).1
  rw[this,kK]
 dsimp only;rw[rk];refine wpAny_updatePart g ?_;refine cT (wpAny_lookBehind S (pastItsLine_dict (by rw[n0,e.a,bw];exact cO ‹_›)) ?_);exact fe (p _ _ _ h Z.a e')
end
theorem XY:(sizeLine:Int)<2^63:=by rw[bw];decide
theorem qc{n:Nat}(h:n<=sizeLine):(n:Int)<2^63:=by have:=XY;lia
theorem XZ{n:Nat}(h:n<=sizeLine):¬(n:Int)>=2^63:=by have:=qc h;lia
section
variable {B:aK} {n:Nat} {σ:af} {i:Nat}
theorem U_{k:Bool->af->Prop}(h:k false σ):fq B n truthy .g σ k:=λA W s v Q E r R H p=>by subst H;exact truthy_none (p _ _ _ _ h R .a)
theorem wb{k:Bool->af->Prop}{b:Bool}(h:k b σ):fq B n truthy (.l b) σ k:=λA W s v Q E r R H p=>by subst H;exact wpAny_truthy_bool (p _ _ _ _ h R .a)
theorem U'{k:Bool->af->Prop}{a:Int}(h:k (a !=0) σ):fq B n truthy (.q a) σ k:=λA W s v Q E r R H p=>by(refine bf H λ_ e=>?_;clear H;subst e);(with_reducible refine ZF ?_);exact p _ _ _ _ h R .a
theorem Va{k:Bool->af->Prop}{x:Str}(h:k (x.length !=0) σ):fq B n truthy (.e x) σ k:=λA W s v Q E r R H p=>by
  (refine ap H λ_ e l=>?_;clear H;subst e);refine PyProof.Rows.SBL.truthy (qc l) (p _ _ _ _ ?_ R.a .a);have:((x.length:Int) !=0)=(x.length !=0):=by
   by_cases q:x.length=0
   ·rw[q];rfl
   ·have a:(x.length:Int)≠0:=by lia
    rw[bne_iff_ne.mpr q,bne_iff_ne.mpr a]
  rw[this];exact h
theorem pZ{W:aD}{s:Shared}{v:Value}{xs:List V}(R:aS B W σ s)(H:aY B W v (.D xs)):∃a items,v=.ref a/\s.heap.IsTuple a items/\items.size=xs.length/\bp B W items.toList xs:=by obtain⟨a,_,rfl,b,_,⟨d,items,m,S,rfl,rfl⟩,h⟩:=H;exact(eE a items rfl (rE _ (R.b _ _ b) rfl m rfl) (by rw[←h.a,hF]) h)
theorem Mt{items:Array Value}{xs:List V}(z:items.size=xs.length):(!items.isEmpty)=(!xs.isEmpty):=by rw[Array.isEmpty,z];cases xs<;>rfl
theorem Vb{k:Bool->af->Prop}{xs:List V}(H:xs.length<=sizeLine)(h:k (!xs.isEmpty) σ):fq B n truthy (.D xs) σ k:=λA W s v Q E r R b p=>by(refine fA (pZ R b) λa i e t z _=>?_;subst e);exact truthy_tuple t (qc (z▸H)) (p _ _ _ _ (Mt z▸h) R.a .a)
theorem kl{W:aD}{s:Shared}{v:Value}{xs:List V}(R:aS B W σ s)(H:aY B W v (.o i))(h:σ[i]? =au (.u xs)):
  ∃a items m,v=.ref a/\W.d[i]? =au a/\s.heap.get? a=au (m7 items m)/\bp B W items.toList xs/\xs.length<=sizeLine/\items.size=xs.length:=by
 (refine ap H λa E b=>?_;clear H;subst E);obtain⟨_,g,_,⟨items,m,rfl,rfl⟩,e,l⟩:=R.p i a _ b h;exact(TX a items m rfl b g e l (by rw[←e.a,hF]))
theorem km{h:Heap}{a:Addr}{items:Array Value}{m:Nat}(g:h.get? a=au (m7 items m)):h.IsList a items:=(rE _ g rfl m rfl)
theorem Vd{k:Bool->af->Prop}{xs:List V}(H:σ[i]? =au (.u xs))(h:k (!xs.isEmpty) σ):fq B n truthy (.o i) σ k:=λA W s v Q E r R c p=>by(refine kg (kl R c H) λa I m b _ g e l z=>?_;subst b);exact wpAny_truthy_list (km g) (qc (z▸l)) (p _ _ _ _ (Mt z▸h) R.a .a)
section
variable {k:bu} {a b:Int}
theorem Vf(h:k (.q (a+b)) σ):ch B n (binaryOp .Add) (.q a) (.q b) σ k:=λA W s v f Q E r R H d p=>by(refine bf H λ_ e=>?_;clear H;subst e);(refine bf d λ_ c=>?_;clear d;subst c);(with_reducible refine ZW ?_);exact p _ _ _ _ _ h R.a .a (.q _ _)
theorem Vh(h:k (.q (a-b)) σ):ch B n (binaryOp .Sub) (.q a) (.q b) σ k:=λA W s v f Q E r R H d p=>by(refine bf H λ_ e=>?_;clear H;subst e);(refine bf d λ_ c=>?_;clear d;subst c);(with_reducible refine ZX ?_);exact p _ _ _ _ _ h R.a .a (.q _ _)
theorem Vo(h:k (.q (a+b)) σ):ch B n (inplaceOp .Add) (.q a) (.q b) σ k:=λA W s v f Q E r R H d p=>by(refine bf H λ_ e=>?_;clear H;subst e);(refine bf d λ_ c=>?_;clear d;subst c);(with_reducible refine y6 ?_);exact p _ _ _ _ _ h R.a .a (.q _ _)
theorem Vn{b:Int}(h:k .x σ):ch B n (inplaceOp .Add) .x (.q b) σ k:=λA W s v d Q E r R H c p=>by(refine jg H λ_ _ e=>?_;clear H;subst e);(refine bf c λ_ a=>?_;clear c;subst a);(with_reducible refine y6 ?_);exact p _ _ _ _ _ h R.a .a (.x _ _)
theorem Vq(h:k (.q (a-b)) σ):ch B n (inplaceOp .Sub) (.q a) (.q b) σ k:=λA W s v f Q E r R H d p=>by(refine bf H λ_ e=>?_;clear H;subst e);(refine bf d λ_ c=>?_;clear d;subst c);(with_reducible refine PySem.P.isub_int ?_);exact p _ _ _ _ _ h R.a .a (.q _ _)
theorem Vi(f:tq a b)(h:k (.q (a*b)) σ):ch B n (binaryOp .Mult) (.q a) (.q b) σ k:=λA W s v g Q E r R H d p=>by(refine bf H λ_ e=>?_;clear H;subst e);(refine bf d λ_ c=>?_;clear d;subst c);(with_reducible refine PySem.P.mul_int ?_ f);exact p _ _ _ _ _ h R.a .a (.q _ _)
theorem Vk(f:b≠0)(h:k (.q (a.fmod b)) σ):ch B n (binaryOp .Mod) (.q a) (.q b) σ k:=λA W s v g Q E r R H d p=>by(refine bf H λ_ e=>?_;clear H;subst e);(refine bf d λ_ c=>?_;clear d;subst c);(with_reducible refine ZS f ?_);exact p _ _ _ _ _ h R.a .a (.q _ _)
theorem Vl(f:b≠0)(g:hU a b=false)(h:k (.q (a.fdiv b)) σ):ch B n (binaryOp .FloorDiv) (.q a) (.q b) σ k:=λA W s v i Q E r R H d p=>by(refine bf H λ_ e=>?_;clear H;subst e);(refine bf d λ_ c=>?_;clear d;subst c);(with_reducible refine Zu f ?_ (.inl g));exact p _ _ _ _ _ h R.a .a (.q _ _)
theorem Vs(h:k (.q (-a)) σ):jr B n (unaryOp .USub) (.q a) σ k:=λA W s v Q E r R H p=>by(refine bf H λ_ e=>?_;clear H;subst e);(with_reducible refine ZY ?_);exact p _ _ _ _ _ h R.a .a (.q _ _)
theorem VC(h:k (.l (a==b)) σ):ch B n (hW .Eq) (.q a) (.q b) σ k:=λA W s v f Q E r R H d p=>by(refine bf H λ_ e=>?_;clear H;subst e);(refine bf d λ_ c=>?_;clear d;subst c);(with_reducible refine Z3 ?_);exact p _ _ _ _ _ h R .a (.l _)
theorem VH(h:k (.l (a !=b)) σ):ch B n (hW .NotEq) (.q a) (.q b) σ k:=λA W s v f Q E r R H d p=>by(refine bf H λ_ e=>?_;clear H;subst e);(refine bf d λ_ c=>?_;clear d;subst c);(with_reducible refine Z4 ?_);exact p _ _ _ _ _ h R .a (.l _)
theorem Vu(h:k (.l (decide (a<b))) σ):ch B n (hW .Lt) (.q a) (.q b) σ k:=λA W s v f Q E r R H d p=>by(refine bf H λ_ e=>?_;clear H;subst e);(refine bf d λ_ c=>?_;clear d;subst c);(with_reducible refine Z5 ?_);exact p _ _ _ _ _ h R .a (.l _)
theorem Vw(h:k (.l (decide (a<=b))) σ):ch B n (hW .LtE) (.q a) (.q b) σ k:=λA W s v f Q E r R H d p=>by(refine bf H λ_ e=>?_;clear H;subst e);(refine bf d λ_ c=>?_;clear d;subst c);(with_reducible refine PySem.P.le_int ?_);exact p _ _ _ _ _ h R .a (.l _)
theorem Vy(h:k (.l (decide (b<a))) σ):ch B n (hW .Gt) (.q a) (.q b) σ k:=λA W s v f Q E r R H d p=>by(refine bf H λ_ e=>?_;clear H;subst e);(refine bf d λ_ c=>?_;clear d;subst c);(with_reducible refine Z6 ?_);exact p _ _ _ _ _ h R .a (.l _)
theorem Vz(h:k (.l (decide (b<=a))) σ):ch B n (hW .GtE) (.q a) (.q b) σ k:=λA W s v f Q E r R H d p=>by(refine bf H λ_ e=>?_;clear H;subst e);(refine bf d λ_ c=>?_;clear d;subst c);(with_reducible refine PySem.P.ge_int ?_);exact p _ _ _ _ _ h R .a (.l _)
end
section
variable {k:bu}
noncomputable def ot:V->Bool
 | .g=>true|_=>false
noncomputable def rV:V->Bool
 | .r=>true|_=>false
theorem dm.c{W:aD}{v:Value}{P:Addr->Obj->Prop}(h:dm W v P):(v==.none)=false:=by(refine dJ h λa _ e _=>?_;clear h;subst e);rfl
theorem aY.h{B:aK}{W:aD}{v:Value}:∀{x:V},aY B W v x->rV x=false->(v==.none)=ot x
 | .g,H,_| .l _,H,_| .cy _,H,_| .h _,H,_=>by subst H;rfl| .q _,H,_| .e _,H,_| .t _,H,_| .o _,H,_=>by refine bf H λ_ H=>?_;first|(cases H;rfl)|(refine aV H λH _=>?_;subst H;rfl)
 | .x,H,_=>by refine jg H λ_ _ H=>?_;subst H;rfl| .j b,H,_=>by subst H;cases b<;>rfl
 | .D _,H,_| .u _,H,_| .c _,H,_| .p _ _,H,_| .v _,H,_| .k _ _,H,_| .E _ _ _,H,_| .m _,H,_=>dm.c H
theorem VA{x:V}(H:rV x=false)(h:k (.l (ot x)) σ):ch B n (hW .Is) x .g σ k:=λA W s v c Q E r R a b p=>by subst b;exact PySem.is_none (by rw[a.h H];exact p _ _ _ _ _ h R .a (.l _))
theorem VB{x:V}(H:rV x=false)(h:k (.l (!ot x)) σ):ch B n (hW .IsNot) x .g σ k:=λA W s v c Q E r R a b p=>by subst b;exact PySem.isNot_none (by rw[a.h H];exact p _ _ _ _ _ h R .a (.l _))
theorem VE{x:Str}(h:k (.l false) σ):ch B n (hW .Eq) (.e x) .g σ k:=λA W s v b Q E r R H a p=>by(refine ap H λ_ e _=>?_;clear H;subst e);subst a;(with_reducible refine PySem.EqNone.eq_str_none ?_);exact p _ _ _ _ _ h R .a (.l _)
theorem VF{x:Str}(h:k (.l false) σ):ch B n (hW .Eq) .g (.e x) σ k:=λA W s v b Q E r R a H p=>by subst a;(refine ap H λ_ e _=>?_;clear H;subst e);(with_reducible refine PySem.EqNone.eq_none_str ?_);exact p _ _ _ _ _ h R .a (.l _)
theorem VJ{x:Str}(h:k (.l true) σ):ch B n (hW .NotEq) (.e x) .g σ k:=λA W s v b Q E r R H a p=>by(refine ap H λ_ e _=>?_;clear H;subst e);subst a;(with_reducible refine PySem.EqNone.ne_str_none ?_);exact p _ _ _ _ _ h R .a (.l _)
theorem VK{x:Str}(h:k (.l true) σ):ch B n (hW .NotEq) .g (.e x) σ k:=λA W s v b Q E r R a H p=>by subst a;(refine ap H λ_ e _=>?_;clear H;subst e);(with_reducible refine PySem.EqNone.ne_none_str ?_);exact p _ _ _ _ _ h R .a (.l _)
end
section
variable {k:bu} {x y:Str}
theorem VD(h:k (.l (x==y)) σ):ch B n (hW .Eq) (.e x) (.e y) σ k:=λA W s v c Q E r R H b p=>by(refine ap H λ_ e _=>?_;clear H;subst e);(refine ap b λ_ a _=>?_;clear b;subst a);(with_reducible refine Z7 ?_);exact p _ _ _ _ _ h R .a (.l _)
theorem VI(h:k (.l (x !=y)) σ):ch B n (hW .NotEq) (.e x) (.e y) σ k:=λA W s v c Q E r R H b p=>by(refine ap H λ_ e _=>?_;clear H;subst e);(refine ap b λ_ a _=>?_;clear b;subst a);(with_reducible refine Z8 ?_);exact p _ _ _ _ _ h R .a (.l _)
theorem Vv(h:k (.l (decide (x.cps.toList<y.cps.toList))) σ):ch B n (hW .Lt) (.e x) (.e y) σ k:=λA W s v c Q E r R H b p=>by(refine ap H λ_ e _=>?_;clear H;subst e);(refine ap b λ_ a _=>?_;clear b;subst a);(with_reducible refine Z9 ?_);exact p _ _ _ _ _ h R .a (.l _)
theorem Vx(h:k (.l (!decide (y.cps.toList<x.cps.toList))) σ):ch B n (hW .LtE) (.e x) (.e y) σ k:=λA W s v c Q E r R H b p=>by(refine ap H λ_ e _=>?_;clear H;subst e);(refine ap b λ_ a _=>?_;clear b;subst a);(with_reducible refine PySem.P.le_str ?_);exact p _ _ _ _ _ h R .a (.l _)
theorem VL(h:k (.l !(dV y x 0 y.length 1).isEmpty) σ):ch B n (hW .In) (.e x) (.e y) σ k:=λA W s v c Q E r R H b p=>by(refine ap H λ_ e _=>?_;clear H;subst e);(refine ap b λ_ a _=>?_;clear b;subst a);(with_reducible refine Z_ ?_);exact p _ _ _ _ _ h R .a (.l _)
theorem VO(h:k (.l (dV y x 0 y.length 1).isEmpty) σ):ch B n (hW .NotIn) (.e x) (.e y) σ k:=λA W s v c Q E r R H b p=>by(refine ap H λ_ e _=>?_;clear H;subst e);(refine ap b λ_ a _=>?_;clear b;subst a);(with_reducible refine ZM ?_);exact p _ _ _ _ _ (by simpa using h) R .a (.l _)
theorem Vg(H:x.length+y.length<=sizeLine)(h:k (.e (x++y)) σ):ch B n (binaryOp .Add) (.e x) (.e y) σ k:=λA W s v d Q E r R b c p=>by(refine ap b λ_ e _=>?_;clear b;subst e);(refine ap c λ_ a _=>?_;clear c;subst a);(with_reducible refine ZZ ?_ H);exact λt T=>p _ _ _ _ _ h R.a .a (.e _ _ (by rw[Gs];exact H))
theorem Vp(H:x.length+y.length<=sizeLine)(h:k (.e (x++y)) σ):ch B n (inplaceOp .Add) (.e x) (.e y) σ k:=λA W s v d Q E r R b c p=>by(refine ap b λ_ e _=>?_;clear b;subst e);(refine ap c λ_ a _=>?_;clear c;subst a);(with_reducible refine ZT ?_ H);exact λt T=>p _ _ _ _ _ h R.a .a (.e _ _ (by rw[Gs];exact H))
theorem gs.d{B:aK}{W:aD}{v:Value}{b:gs}(h:aY B W v (.j b)):v=b.b:=h
theorem eW.c{k:bu}{f:gs}{a:V}(h:jr B n (λx=>call f.b [x] []) a σ k):eW B n (.j f) [a] [] σ k:=λA W s j l m Q E r R H b g _ p=>by(refine ap b.k λv e i=>?_;subst e);obtain rfl:=m5.mp g;subst H;exact h A W s _ Q E r R i p
theorem eW.d{k:bu}{f:gs}{a b:V}(h:ch B n (λx y=>call f.b [x,y] []) a b σ k):eW B n (.j f) [a,b] [] σ k:=λA W s m o q Q E r R H g i _ p=>by(refine dz g.l λv w e j l=>?_;subst e);obtain rfl:=m5.mp i;subst H;exact h A W s _ _ Q E r R j l p
theorem Wb(h:k (.q x.length) σ):eW B n (.j .k) [.e x] [] σ k:=.c λA W s v Q E r R H p=>by(refine ap H λ_ e l=>?_;clear H;subst e);exact Z0 (XZ l) (p _ _ _ _ _ h R.a .a (.q _ _))
end
end
section
variable {B:aK} {F:cM} {n:Nat} {lm:ah} {σ:af} {k:bu} {i:Nat} {pos:Pos}
theorem bp.g{B:aK}{W:aD}:∀{xs:List V} {vs:List Value},bp B W vs xs->∀{j:Nat} {x:V},xs[j]? =au x->∃v,vs[j]? =au v/\aY B W v x
 |_::_,v::_,H,0,x,E=>(aE v rfl (j8 E▸H.1))|_::_,_::_,H,j+1,x,E=>bp.g H.2 (j:=j) E
theorem bp.b{B:aK}{W:aD}{w:List Value}{ys:List V}(H:bp B W w ys):∀{xs:List V} {vs:List Value},bp B W vs xs->bp B W (vs++w) (xs++ys)
 |[],_,n=>by subst n;exact H|_::_,_::_,n=>(ai n.1 (bp.b H n.2))
theorem bp.h{B:aK}{W:aD}:∀{xs:List V} {vs:List Value},bp B W vs xs->∀j,bp B W (vs.eraseIdx j) (xs.eraseIdx j)
 |[],_,H,_=>by subst H;exact .j|_::_,_::_,H,0=>H.2|_::_,_::_,H,j+1=>(ai H.1 (bp.h H.2 j))
theorem bp.m{B:aK}{W:aD}:∀{xs:List V} {vs:List Value},bp B W vs xs->∀j,bp B W (vs.drop j) (xs.drop j)
 |_,_,H,0=>H|[],_,H,_=>by subst H;rw[Zx,Zx];exact .j|_::_,_::_,H,j+1=>bp.m H.2 j
theorem bp.e{B:aK}{W:aD}:∀{xs:List V} {vs:List Value},bp B W vs xs->∀j,bp B W (vs.take j) (xs.take j)
 |_,_,H,0=> .j|[],_,H,_=>by subst H;rw[Zy,Zy];exact .j|_::_,_::_,H,j+1=>(ai H.1 (bp.e H.2 j))
section
variable {xs:List V}
theorem Wc(H:σ[i]? =au (.u xs))(h:k (.q xs.length) σ):eW B n (.j .k) [.o i] [] σ k:=.c λA W s v Q E r R c p=>by(refine kg (kl R c H) λa I m b _ g e l z=>?_;subst b);refine PySem.Calls.call_len_list (km g) (qc (aC 0x1000000d01000000d111012 (aJ z) l)) ?_;rw[z];exact p _ _ _ _ _ h R.a .a (.q _ _)
theorem Wk{v:V}(H:σ[i]? =au (.u xs))(f:xs.length<sizeLine)(h:k .g (σ.set i (.u (xs++[v])))):eW B n (.j .a) [.o i,v] [] σ k:=.d λA W s u b Q E r R j o p=>by(refine kg (kl R j H) λa I m c d g e l z=>?_;subst c);have S:=nu (h:=s.heap) (o7 λx=>x.push b) g rfl;(refine aV (R.o (s':={s with heap:=s.heap.update a (o7 λx=>x.push b)}) d (o3 ..) (.u S (by simpa using (bp.b (.p o .j) e)) (by simp;trivial)) rfl rfl) λq t=>?_);exact wt m0 (aE _ g rfl) t7 (tx _ _) (G0 a I m b (aC 0x1000000d01000000d1a1811012 (aJ z) f)) (ai g (p _ _ _ _ _ h q t .g))
theorem Mu{W:aD}{s:Shared}{v:Value}{b:Int}(R:aS B W σ s)(H:aY B W v (.o i))(h:σ[i]? =au (.d b xs)):
  ∃a items m vs,v=.ref a/\W.d[i]? =au a/\s.heap.get? a=au (m7 items m)/\items.toList=W.bE++vs/\bp B W vs xs/\(W.bE.length:Int)<=b/\b+(xs.length:Int)<=(sizeLine:Int):=by
 (refine ap H λa E c=>?_;clear H;subst E);obtain⟨_,g,vs,⟨items,m,rfl,e⟩,w,l,z⟩:=R.p i a _ c h;exact⟨a,items,m,vs,rfl,c,g,e,w,l,z⟩
theorem Wl{v:V}{b:Int}(H:σ[i]? =au (.d b xs))(D:b+(xs.length:Int)<(sizeLine:Int))(h:k .g (σ.set i (.d b (xs++[v])))):eW B n (.j .a) [.o i,v] [] σ k:=.d λA W s F c Q E r R q t p=>by
 (refine pC (Mu R q H) λa I m vs d=>sO d λf j g e o=>cS o λw l z=>?_;subst f);have S:=nu (h:=s.heap) (o7 λx=>x.push c) g rfl;have u:I.size=W.bE.length+vs.length:=by rw[←hF,e,bs]
 have G:=w.a;(refine aV (R.o (s':={s with heap:=s.heap.update a (o7 λx=>x.push c)}) j (o3 ..) (.d S (vs:=vs++[c]) (by rw[Array.toList_push,e,dx]) (bp.b (.p t .j) w) l (by rw[bs];show b+((xs.length+1:Nat):Int)<=_;lia)) rfl rfl) λy C=>?_);exact wt m0 (aE _ g rfl) t7 (tx _ _) (G0 a I m c (by lia)) (ai g (p _ _ _ _ _ h y C .g))
theorem Mv{Q:Value->Shared->Prop}{W:aD}{s:Shared}{a:Addr}{items:Array Value}{m j:Nat}{y:Value}{x:V}(R:aS B W σ s)(H:W.d[i]? =au a)(g:s.heap.get? a=au (m7 items m))(e:bp B W items.toList xs)(l:xs.length<=sizeLine)(b:j<items.size):
  let s':={s with heap:=s.heap.update a (o7 λx=>x.eraseIdxIfInBounds j)}
  aS B W (σ.set i (.u (xs.eraseIdx j))) s'/\cK W s.heap W s'.heap:=by
 have S:=nu (h:=s.heap) (o7 λx=>x.eraseIdxIfInBounds j) g rfl;refine R.o (s':={s with heap:=s.heap.update a (o7 λx=>x.eraseIdxIfInBounds j)}) H (o3 ..) (.u S ?_ ?_) rfl rfl
 ·have:(items.eraseIdxIfInBounds j).toList=items.toList.eraseIdx j:=by
   rw[Array.eraseIdxIfInBounds,dif_pos b,Array.toList_eraseIdx]
  rw[this];exact e.h j
 ·exact ef (List.length_eraseIdx_le _ _) l
theorem Mw{j m:Nat}(h:j<m):seqIndex? (j:Int) m=au j:=by unfold seqIndex?;rw[if_neg (mw.2 (jb j)),if_pos (by rw[decide_eq_true (jb j),decide_eq_true (g7.2 h)];rfl)];rfl
theorem X0{s:Shared}{A:j9}{Q E:Value->Shared->Prop}{a:Addr}{items:Array Value}{m:Nat}{q:Int}{j:Nat}{t:N'}{y:Value}
  (g:s.heap.get? a=au (m7 items m))(H:Builtin.List.listFitsIndex q=true)(b:seqIndex? q items.size=au j)(c:items[j]? =au y)(d:items.size<=sizeLine)
  (h:Q y {s with heap:=s.heap.update a (o7 λxs=>xs.eraseIdxIfInBounds j)}):hJ B.b A (call (.builtin "list.pop") [.ref a,.int q t] []) Q E s:=
 wt (self:=.ref a) (rest:=[.int q t]) q7 (aE _ g rfl) wx (PySem.F.args_list_pop_2 (.ref a) (.int q t)) (PySem.MeetsSeq.list_pop_at a items m q t j y H b c d) (ai g h)
theorem Wn{q:Int}{j:Nat}{x:V}(v:q=j)(H:σ[i]? =au (.u xs))(w:xs[j]? =au x)(h:k x (σ.set i (.u (xs.eraseIdx j)))):eW B n (.j .f) [.o i,.q q] [] σ k:=.d λA W s K L Q E r R D C p=>by
 (refine kg (kl R D H) λa I m b c g e l z=>?_;subst b);(refine bf C λt d=>?_;clear C;subst d);refine ap (e.g w) λy F o=>?_
 have u:j<I.size:=by have:=(df.mp w).1;exact bc 0x11a2801a2811012 (aJ z.symm) this
 refine aV (Mv (Q:=Q) (x:=x) (y:=y) R c g e l u) λG J=>?_
 have f:=qc (n:=j) (bc 0x1000000d01000000d2121111a0813 u (aJ z) l);refine X0 g (di _ _▸(ai (decide_eq_true (by lia)) (decide_eq_true (by exact sP 0x21a0821a1811012 (jd v) f)))) ?_ (by rw[←ey];exact F) (aC 0x1000000d01000000d111012 (aJ z) l) (p _ _ _ _ _ h G J o);subst v;exact Mw u
theorem Wd{x:V}(H:σ[i]? =au (.u (xs++[x])))(h:k x (σ.set i (.u xs))):eW B n (.j .f) [.o i] [] σ k:=.c λA W s v Q E r R o p=>by
 (refine kg (kl R o H) λa I m b c g e l z=>?_;subst b);have Z:I.size=xs.length+1:=by rw[z];simp
 refine ap (e.g (j:=xs.length) (x:=x) (by simp)) λy q d=>?_
 refine aV (Mv (Q:=Q) (x:=x) (y:=y) (j:=I.size-1) R c g e l (aC 0x11a0811a0811 (cX (aC 75717281809 (aJ Z.symm))))) λf t=>?_
 have u:(xs++[x]).eraseIdx (I.size-1)=xs:=by rw[Z,tC,List.eraseIdx_append_of_length_le (ds _)];simp
 rw[u]at f;exact wt q7 (aE _ g rfl) wx (PySem.F.args_list_pop_1 _) (PySem.MeetsSeq.list_pop_last a I m y (by rw[←ey,Z,tC];exact q) (aC 0x1000000d01000000d111012 (aJ z) l)) (ai g (p _ _ _ _ _ h f t d))
theorem Co{W:aD}{s:Shared}{v:Value}(R:aS B W σ s)(H:aY B W v (.o i))(h:σ[i]? =au (.u xs)):∃a o,v=.ref a/\s.heap.get? a=au o/\o.cls=.type "list"/\o.dict=none:=by(refine qz (kl R H h) λa I m e _ g _=>?_;subst e);exact(eE a _ rfl g rfl rfl)
theorem WW{b:Int}(h:σ[i]? =au (.d b xs)):lS B n "append" (.o i) σ (.j .a) [.o i]:=λA W s v P Q E r R H p=>by(refine KO (Mu R H h) λa I m d c _ g _=>?_;subst c);exact n4 (aE _ g rfl) pw m0 vJ (λb e=>by(injection e with z;subst z);exact(aE _ g rfl)) (p s W _ _ R .a (.j .a) (.p H .j))
theorem WU(h:σ[i]? =au (.u xs)):lS B n "append" (.o i) σ (.j .a) [.o i]:=λA W s v P Q E r R H p=>by(refine fA (Co R H h) λa o f g c d=>?_;subst f);exact n4 (aE _ g c) pw m0 vJ (λb e=>by(injection e with z;subst z);exact(aE _ g d)) (p s W _ _ R .a (.j .a) (.p H .j))
theorem WV(h:σ[i]? =au (.u xs)):lS B n "pop" (.o i) σ (.j .f) [.o i]:=λA W s v P Q E r R H p=>by(refine fA (Co R H h) λa o f g c d=>?_;subst f);exact n4 (aE _ g c) pw q7 PySem.F.type_list_pop (λb e=>by(injection e with z;subst z);exact(aE _ g d)) (p s W _ _ R .a (.j .f) (.p H .j))
end
def kN(B:aK)(σ:af)(o:V):Prop:=∃T i,typeLookup (.type T) "__getitem__"=pure (au (.builtin i))/\∀W s v,aS B W σ s->aY B W v o->s.TypeIs v T
theorem Mx{xs:List V}(h:σ[i]? =au (.u xs)):kN B σ (.o i):=(cg ("list") _ u4.lookup (λW s v R H=>by(refine fA (Co R H h) λa o e g c d=>?_;subst e);exact(aE _ g c)))
theorem X1{xs:List V}:kN B σ (.D xs):=(cg ("tuple") _ slot_tuple_getitem.lookup (λW s v R h=>by obtain⟨a,i,rfl,⟨o,g,c,_⟩,_⟩:=pZ R h;exact(aE o g c)))
theorem My{x:Str}:kN B σ (.e x):=(cg ("str") _ slot_str_getitem.lookup (λW s v R h=>by(refine ap h λ_ e _=>?_;clear h;subst e);exact rr _ _ _))
theorem bh.m{v sl:Expr}(hs:∀o i,subscripted sl false o i=operate [o,i] (getItem o i))
  (h:bh B F n v lm σ λo C=>bh B F n sl lm C λi x=>kN B x o/\ch B n getItem o i x k):bh B F n (.Subscript v sl pos) lm σ k:=
 λA W a0 L Q a1 a2 R a3 a4=>Q' (h A W a0 L _ a1 a2 R a3 λvo P U o C X Y K M=>X A U P L _ a1 a2 Y (a3.a K) λvi S N i x D O I Z=>by obtain⟨⟨T,id,hl,ht⟩,D⟩:=D;exact Z2 (ht N S vo O (M.c I.i)) hl (D A N S vo vi Q a1 a2 O (M.c I.i) Z (a4.a (K.e I))) (hs vo vi))
theorem VU{xs:List V}{j:Int}{x:V}(H:σ[i]? =au (.u xs))(q:0<=j)(f:xs[j.toNat]? =au x)(h:k x σ):kN B σ (.o i)/\ch B n getItem (.o i) (.q j) σ k:=
 (ai (Mx H) (λA W s v w Q E r R t o p=>by
  (refine kg (kl R t H) λa I m b _ g e l z=>?_;subst b);(refine bf o λ_ c=>?_;clear o;subst c);refine ap (e.g f) λy u d=>?_
  have C:j.toNat<xs.length:=(df.mp f).1;have:=qc (n:=xs.length) l;exact F3 (km g) q (by lia) (by rw[←ey];exact u) (p _ _ _ _ _ h R .a d)))
theorem VQ{xs:List V}{j:Nat}{x:V}(o:j<1000)(d:xs[j]? =au x)(h:k x σ):kN B σ (.D xs)/\ch B n getItem (.D xs) (.q j) σ k:=
 (ai X1 (λA W s v q Q E r R g f p=>by
  (refine bf f λ_ e=>?_;clear f;subst e);(refine fA (pZ R g) λa i b t z l=>?_;subst b);refine ap (l.g d) λy m H=>?_
  have c:j<i.size:=by have:=(df.mp d).1;exact bc 0x11a2801a2811012 (aJ z.symm) this
  exact S' (j:=j) t (by lia) (by lia) (Mw c) (by rw[←ey];exact m) (p _ _ _ _ _ h R .a H)))
noncomputable def gT(x:Str)(j:Int):Option Nat:=(seqIndex? j x.length).bind (x.cps[·]?)
theorem VS{x:Str}{j:Int}{c:Nat}(f: -1000000000<=j/\j<=1000000000)(d:gT x j=au c)(h:k (.e ⟨#[c]⟩) σ):kN B σ (.e x)/\ch B n getItem (.e x) (.q j) σ k:=
 (ai My (λA W s v g Q E r R H b p=>by(refine ap H λ_ e _=>?_;clear H;subst e);(refine bf b λ_ a=>?_;clear b;subst a);exact Zz (by rw[kO];exact(ai (decide_eq_false (by lia)) (decide_eq_false (by lia)))) d (p _ _ _ _ _ h R.a .a (.e _ _ (by show 1<=sizeLine;rw[bw];decide)))))
noncomputable def nR:V->Option (Option Int)
 | .g=>au none| .q i=>au (au i)|_=>none
def oR(B:aK)(F:cM)(n:Nat):Option Expr->ah->af->bu->Prop
 |none,_,σ,k=>k .g σ|some e,lm,σ,k=>bh B F n e lm σ k
theorem oR.bD{e:Option Expr}(h:oR B F n e lm σ k):∀A W s L Q E,eZ A n->aS B W σ s->dF B F W L lm s.heap->jq B W s.heap k Q->hJ B.b A (evalPart e (F.bA L)) Q E s:=by
 intro A W s L Q E r R f p;cases e with
 |none=>rw[E7];exact fe (p _ _ _ _ _ h R .a .g)|some e=>rw[ZA];exact h A W s L Q E r R f p
noncomputable def eX(x:Str)(lo hi:Option Int):Str:=⟨((x.cps.toList.drop (lo.elim 0 (clipAt x.length))).take (hi.elim x.length (clipAt x.length)-lo.elim 0 (clipAt x.length))).toArray⟩
theorem AT(x:Str)(lo hi:Option Int):(eX x lo hi).length<=x.length:=by show(ZG _ (tg _ x.cps.toList)).length<=x.cps.size;rw[h7,ko,hF];exact ef (v5 _ _) (o8 _ _)
noncomputable def np(xs:List V)(lo hi:Option Int):List V:=(xs.drop (lo.elim 0 (clipAt xs.length))).take (hi.elim xs.length (clipAt xs.length)-lo.elim 0 (clipAt xs.length))
def xw(B:aK)(n:Nat)(o l u:V)(σ:af)(k:bu):Prop:=
 ∃L h,nR l=au L/\nR u=au h/\kN B σ o/\
  ((∃x,o=.e x/\k (.e (eX x L h)) σ)\/(∃i xs,o=.o i/\σ[i]? =au (.u xs)/\k (.o σ.length) (σ++[.u (np xs L h)])))
theorem VX{x:Str}{l u:V}{lo hi:Option Int}(H:nR l=au lo)(a:nR u=au hi)(h:k (.e (eX x lo hi)) σ):xw B n (.e x) l u σ k:=(eE lo hi H a My (.inl (aE x rfl h)))
theorem VY{xs:List V}{l u:V}{lo hi:Option Int}(H:σ[i]? =au (.u xs))(a:nR l=au lo)(b:nR u=au hi)(h:k (.o σ.length) (σ++[.u (np xs lo hi)])):xw B n (.o i) l u σ k:=(eE lo hi a b (Mx H) (.inr (dy i xs rfl H h)))
theorem Mz{B:aK}{W:aD}{v:Value}{m:V}{o:Option Int}(h:aY B W v m)(e:nR m=au o):∃q:Option (Int×N'),v=partValue q/\q.map (·.1)=o/\IsPart v o:=by
 cases m with
 |g=>subst h;(injection e with z;subst z);exact(bx none rfl rfl .none)|q i=>(refine bf h λt E=>?_;clear h;subst E);(injection e with z;subst z);exact(bx (au (_,t)) rfl rfl (.int _ _))|_=>exact cP e
theorem MA(n:Nat)(i:Int):clipAt n i<=n:=G1.2 (Int.max_le.2 ⟨j1 _,Int.min_le_right _ _⟩)
theorem MB(n:Nat)(o:Option Int):o.elim n (clipAt n)<=n:=match o with
 |none=>ds _|some i=>MA n i
theorem MC(n:Nat)(o:Option Int):o.elim 0 (clipAt n)<=n:=match o with
 |none=>hB _|some i=>MA n i
theorem X2{a b n:Nat}(H:a<=n)(c:b<=n):a+(b-a)<=n:=(Nat.le_total a b).elim (λh=>by rw[D2 h];exact c) λh=>by rw[nw h];exact H
theorem MD{α:Type}(l:List α)(lo hi:Option Int):((sliceRange (sliceBounds lo hi none l.length).1 (sliceBounds lo hi none l.length).2.1 1).filterMap (l[·]?))=
  (l.drop (lo.elim 0 (clipAt l.length))).take (hi.elim l.length (clipAt l.length)-lo.elim 0 (clipAt l.length)):=by
 rw[u5];simp only[Tr];refine PySem.StrLaws.picks l _ _ ?_;exact X2 (MC _ _) (MB _ _)
end
noncomputable def rH(K:Frag)(C:Addr):Bool:=plainGet K C "__class__"&&hasDictIn K C&&findIn K (.ref C) "__class__"==au (au (.builtin "object.__class__"))&&
 specialIn K (.builtin "object.__class__") "__get__"==au (au (.builtin "getset_descriptor.__get__"))&&takesIn K (.builtin "object.__class__")==au true&&mroIn K C (.type "object")==au true
set_option tactic.hygienic true in
theorem MM{K:Frag}{x C:Addr}{o O:Obj}(h:rH K C=true):KitX K (.ref x) (.ref C) (λa=>InstAt a x o C (au O)):=by
 simp only[rH,di,beq_iff_eq]at h;obtain⟨⟨⟨⟨⟨g,d⟩,i⟩,j⟩,l⟩,m⟩:=h;refine ap (any_some d) λt H _=>?_
 refine⟨λM a _ I=>I.type,λM a X _=>?_,λa T u p n S X f=>?_,λ{_ _ _ _ _ _} X I q=>kin_class g d i j l m X I q⟩
 ·unfold clsIn at H;split at H
  ·rename_i r D c s b;intro A Q E v k q;delta isType loadHead;exact cT (z5 (k _ _ (X _ _ b)) (fe q))
  ·(injection H;done)
 ·refine n5.mpr λq=>?_
  have e:=Value.ref.inj (beq_iff_eq.mp q);subst e;unfold clsIn at H;split at H
  ·rename_i r D c s b;rw[X _ _ b]at f;cases f
  ·(injection H;done)
theorem aS.c{B:aK}{W:aD}{σ:af}{s s':Shared}(R:aS B W σ s)(H:∀b o,s.heap.get? b=au o->s'.heap.get? b=au o)(y:s'.gens=s.gens)(z:s'.os=s.os):aS B W σ s'/\cK W s.heap W s'.heap:=⟨R.q H y z,λ_ _ X=>X,λ_ _ X=> .inl X,(aE [] ((dE _).symm) nofun),λ_ _ E _=>H _ _ E,λ_ O E=>(ba O (H _ _ E)),rfl⟩
set_option tactic.hygienic true in
theorem aS.w{B:aK}{W:aD}{σ:af}{s s':Shared}{mo:aG}(R:aS B W σ s)(z:∀b o,s.heap.get? b=au o->s'.heap.get? b=au o)(D:s'.gens=s.gens)(E:s'.os=s.os)(F:eG B W s'.heap s.heap.objs.size mo):
  aS B (W.c s.heap.objs.size) (σ++[mo]) s'/\cK W s.heap (W.c s.heap.objs.size) s'.heap/\(W.c s.heap.objs.size).d[σ.length]? =au s.heap.objs.size:=by
 refine(cz ⟨R.cm,λG O I=>z _ _ (R.b G O I),by simp[aD.c,R.k],λi G M J H=>?_,?_,λG A=>?_,D.trans R.h,E.trans R.f⟩ ⟨λ_ _ I=>I,λ_ _ I=> .inl I,(aE [_] rfl (by simpa using pV s.heap)),λG O I _=>z _ _ I,λG O I=>(ba O (z _ _ I)),rfl⟩ ?_)
 ·simp only[aD.c]at J;rw[zS]at J H;rw[R.k]at J;split at J
  ·rename_i L;rw[if_pos L]at H;exact((R.p i G M J H).c aD.i).b λ_ I=>z _ _ I
  ·rename_i L;rw[if_neg L]at H;cases Q:i-σ.length with
   |zero=>rw[Q]at J H;(injection J with Z;subst Z);(injection H with Z;subst Z);exact F.c aD.i|succ K=>rw[Q]at J;(injection J;done)
 ·simp only[aD.c];rw[k4];refine(cz R.d (by simp) (λG A b C=>?_));rw[ce]at C;subst C;exact s6 (R.i A)
 ·simp only[aD.c]at A⊢;rcases e8.mp A with y|y
  ·exact R.e G y
  ·rw[ce]at y;subst y;exact R.m
 ·simp[aD.c,←R.k]
section
variable {B:aK} {F:cM} {n:Nat} {lm:ah} {σ:af} {k:bu} {i:Nat} {pos:Pos}
theorem Wf(G:gR B){C D:Addr}{f:List (Nat×V)}{b:Bool}(H:rH B.a C=true)(e:kitOne B.a (.ref C) (.ref D)=au b)(h:k (.l b) σ):eW B n (.j .g) [.p C f,.h D] [] σ k:=.d λA W s v g Q E r R c d p=>by(refine BE (Cl R c) λx i j m a l I=>?_;subst a);subst d;exact kia_one (MM H) (G.b R) I e (λq=>by(injection q;done)) λt=>p _ _ _ _ _ h R.a .a (.l _)
noncomputable def xN:V->Option Addr
 | .h D=>au D|_=>none
theorem Yk{x:V}{D:Addr}(h:xN x=au D):x=.h D:=by
 cases x with
 |h _=>(injection h with z;subst z);rfl|_=>exact cP h
def uP:List V->Option (List Addr)
 |[]=>au []|x::r=>match xN x with
  |some D=>match uP r with
   |some l=>au (D::l)|none=>none
  |none=>none
theorem Yl{W:aD}:∀{xs:List V} {l:List Addr} {vs:List Value},uP xs=au l->bp B W vs xs->vs=l.map .ref
 |[],_,_,h,q=>by(injection h with z;subst z);exact q|x::xs,l,v::vs,h,q=>by
  replace h:(match xN x with|some D=>(match uP xs with|some l=>au (D::l)|none=>none)|none=>none)=au l:=h;cases E:xN x with
  |none=>rw[E]at h;exact cP h|some D=>
   cases Yk E;cases q.1;cases e:uP xs with
   |none=>rw[e]at h;exact cP h|some L=>rw[e]at h;(injection h with z;subst z);rw[Yl e q.2];rfl
theorem Wg(G:gR B){C:Addr}{xs:List V}{l:List Addr}{f:List (Nat×V)}{b:Bool}(H:rH B.a C=true)(g:uP xs=au l)(e:kitAny B.a (.ref C) (l.map .ref)=au b)(h:k (.l b) σ):eW B n (.j .g) [.p C f,.D xs] [] σ k:=.d λA W s v t Q E r R j o p=>by(refine BE (Cl R j) λx D u m c w I=>?_;subst c);obtain⟨a,_,rfl,z,_,⟨d,i,M,S,rfl,rfl⟩,Z⟩:=o;rw[←Yl g Z]at e;exact kia_tup (its:=i.toList) (MM H) (G.b R) I (by rw[r8];exact R.b _ _ z) e (λq=>by(injection q;done)) λT=>p _ _ _ _ _ h R.a .a (.l _)
theorem Vj{a:Str}{i:Int}(j: -1000000<=i/\i<=1000000)(o:a.length*i.toNat<=sizeLine)(h:k (.e (rC a i)) σ):ch B n (binaryOp .Mult) (.e a) (.q i) σ k:=λA W s v q Q E r R H c p=>by
  (refine ap H λ_ e d=>?_;clear H;subst e);(refine bf c λ_ b=>?_;clear c;subst b);have t:=bw;have f:E0 (a.length*i.toNat)=false:=by delta E0;exact decide_eq_false (by lia)
  refine SB.mul (cz ?_ (λg l=>?_) (λg l=>f)) λT K=>p _ _ _ _ _ h R.a .a (.e _ _ ?_)
  ·rw[kO];exact(ai (decide_eq_false (by lia)) (decide_eq_false (by lia)))
  ·have m:(a.length:Int)<=16777216:=dj 0x1000000d01000000d011 (g5.2 d);have u:(a.length:Int)<=(2^63-1)/i:=by
    rw[Int.le_ediv_iff_mul_le (by exact dj 0x1a0a801a11 (wj g))];have:(a.length:Int)*i<=16777216*1000000:=by refine kE (rS j.2 (dj 0xa00a11 (jb _))) ?_;exact rh m (by trivial)
    lia
   lia
  ·delta rC;split
   ·show 0<=sizeLine;trivial
   ·split
    ·exact d
    ·exact fits_reps f
theorem Wh{a b:Str}(h:k (.l (m8 a b)) σ):eW B n (.j .i) [.e a,.e b] [] σ k:=.d λA W s v f Q E r R H d p=>by(refine ap H λ_ e _=>?_;clear H;subst e);(refine ap d λ_ c _=>?_;clear d;subst c);exact SC.startswith (p _ _ _ _ _ h R .a (.l _))
theorem WR{a:Str}:lS B n "startswith" (.e a) σ (.j .i) [.e a]:=λA W s v P Q E r R h p=>by(refine ap h λt e H=>?_;clear h;subst e);exact GM.startswith (p s W _ _ R .a (.j .i) (.p (.e _ _ H) .j))
theorem WQ{a:Str}:lS B n "join" (.e a) σ (.j .h) [.e a]:=λA W s v P Q E r R h p=>by(refine ap h λt e H=>?_;clear h;subst e);exact GM.join (p s W _ _ R .a (.j .h) (.p (.e _ _ H) .j))
noncomputable def sn:V->Option Str
 | .e x=>au x|_=>none
theorem BW{x:V}{D:Str}(h:sn x=au D):x=.e D:=by
 cases x with
 |e _=>(injection h with z;subst z);rfl|_=>exact cP h
def nF:List V->Option (List Str)
 |[]=>au []|x::r=>match sn x with
  |some y=>match nF r with
   |some l=>au (y::l)|none=>none
  |none=>none
theorem Ym{W:aD}:∀{xs:List V} {l:List Str} {vs:List Value},nF xs=au l->bp B W vs xs->∃L:List (Str×N'),vs=strValues L/\L.map (·.1)=l
 |[],_,_,h,q=>by(injection h with z;subst z);subst q;exact(aE [] rfl rfl)|x::xs,l,v::vs,h,q=>by
  replace h:(match sn x with|some y=>(match nF xs with|some l=>au (y::l)|none=>none)|none=>none)=au l:=h;cases E:sn x with
  |none=>rw[E]at h;exact cP h|some y=>
   cases BW E;refine ap q.1 λt a _=>?_
   cases e:nF xs with
   |none=>rw[E,e]at h;(injection h;done)|some c=>
    rw[E,e]at h;(injection h with z;subst z);refine ap (Ym e q.2) λL E b=>?_
    exact(aE ((y,t)::L) (by rw[a,E];rfl) (congrArg (y::·) b))
theorem Wi{S:Str}{xs:List V}{l:List Str}(c:σ[i]? =au (.u xs))(j:nF xs=au l)(H:tE S l=true)(h:k (.e (z6 S l)) σ):eW B n (.j .h) [.e S,.o i] [] σ k:=.d λA W s v w Q E r R f o p=>by
 (refine kg (kl R o c) λa I m d q g e x z=>?_;subst d);(refine ap f λ_ b _=>?_;clear f;subst b);refine ap (Ym j e) λL t u=>?_
 refine SC.join (l:=L) (texts:=l) ?_ u H λT K=>p _ _ _ _ _ h R.a .a (.e _ _ ?_)
 ·rw[←t,r8];exact km g
 ·exact joinFit_length (by delta tE at H;rw[ib]at H;exact H)
theorem V7{c:Nat}(h:k (.q c) σ):eW B n (.j .p) [.e ⟨#[c]⟩] [] σ k:=.c λA W s v Q E r R H p=>by(refine ap H λ_ e _=>?_;clear H;subst e);exact PySem.P.ord_of_char (p _ _ _ _ _ h R.a .a (.q _ _))
theorem V8{i:Int}(hi:0<=i/\i<10^9)(h:k (.e (a' (toString i))) σ):eW B n (.j .e) [.q i] [] σ k:=.c λA W s v Q E r R H p=>by
 (refine bf H λ_ e=>?_;clear H;subst e);refine str_of_int_fit (N:=10^9) (by split<;>lia) (by decide) λa=>p _ _ _ _ _ h R.a .a (.e _ _ ?_)
 have:=o9 (k:=9) hi.1 (by decide) hi.2;rw[bw];exact aO 0x1000000d09a011 this
theorem Vm{a b:Int}(H:0<b)(d:2<=a)(i:¬q8 (((sh a:Nat):Int)*b)=true)(h:k (.q (a^b.toNat)) σ):ch B n (binaryOp .Pow) (.q a) (.q b) σ k:=λA W s v j Q E r R f g p=>by(refine bf f λ_ e=>?_;clear f;subst e);(refine bf g λ_ c=>?_;clear g;subst c);refine AutoIntOps.pow_4 (dj 0xa01a0a811 H) (by simp;exact G2 (dj 0x1a0a801a0a811 H)) (by simp;exact ai (G2 (dj 0x1a0a802a11 d)) (G2 (dj 0x1a1a802a11 d))) (by simp;lia) i ?_;exact p _ _ _ _ _ h R.a .a (.q _ _)
set_option tactic.hygienic true in
theorem Wj{a b:Int}(h:k (.q (if b>a then b else a)) σ):eW B n (.j .q) [.q a,.q b] [] σ k:=.d λA W s v l Q E r R H d p=>by
 (refine bf H λ_ e=>?_;clear H;subst e);(refine bf d λ_ c=>?_;clear d;subst c);refine max_two_ints r.a λi t j=>?_
 refine aV (R.c (s':={s with heap:=i,toks:=t}) j rfl rfl) λf g=>?_
 split
 ·rename_i q;rw[if_pos q]at h;exact p _ _ _ _ _ h f g (.q _ _)
 ·rename_i q;rw[if_neg q]at h;exact p _ _ _ _ _ h f g (.q _ _)
theorem V9{m:Nat}(c:m<1000000)(h:k (.v m) σ):eW B n (.j .r) [.q (m:Nat)] [] σ k:=.c λA W s v Q E r R H p=>by
 (refine bf H λ_ e=>?_;clear H;subst e);refine call_range_1 ?_;refine cS (R.n {cls:=.type "range",data:=.fields #[.int 0 s.toks,.int (m:Nat) ‹N'›,.int 1 (s.toks+1)]} rfl) λa b z=>?_
 exact p _ _ _ _ _ h a.a b (.v z c)
def sr(B:aK)(W:aD)(h:Heap)(a:Addr)(f:List (Str×V))(kvs:List (Str×Value)):Prop:=(a==sysModules)=false/\h.DictOf (li B.c B.ae) a kvs/\gP B W kvs f
theorem nS{W:aD}{s:Shared}{v:Value}{f:List (Str×V)}(R:aS B W σ s)(h:aY B W v (.c f)):∃a kvs,v=.ref a/\sr B W s.heap a f kvs:=by obtain⟨a,o,rfl,H,kvs,⟨b,c⟩,d⟩:=h;exact⟨a,kvs,rfl,b,sb.mpr (aE o (R.b _ _ H) c),d⟩
theorem Ct{W:aD}{s:Shared}{v:Value}{f:List (Str×V)}(R:aS B W σ s)(H:aY B W v (.o i))(h:σ[i]? =au (.F f)):∃a kvs,v=.ref a/\W.d[i]? =au a/\sr B W s.heap a f kvs/\f.length<=900:=by(refine ap H λa e b=>?_;clear H;subst e);obtain⟨o,g,kvs,⟨c,d⟩,j,k⟩:=R.p i a _ b h;exact(eE a kvs rfl b (cz c (sb.mpr (aE o g d)) j) k)
theorem MN{W:aD}{x:Str}:∀{f:List (Str×V)} {kvs:List (Str×Value)},gP B W kvs f->
  match eS x f with|some m=>∃v,valueAt kvs x=au v/\aY B W v m|none=>valueAt kvs x=none
 |[],_,h=>by subst h;rfl|(y,m)::f,(Y,v)::kvs,h=>by
  (refine cS h λE a b=>?_;clear h;subst E);have i:=MN (x:=x) b;unfold eS valueAt;rw[N3]
  by_cases q:x=Y
  ·subst q;rw[if_pos rfl];simpa using a
  ·rw[if_neg q];simp only[decide_eq_false λe:Y=x=>q e.symm];exact i
theorem Yn{W:aD}{x:Str}{v:Value}{mv:V}(H:aY B W v mv):∀{f:List (Str×V)} {kvs:List (Str×Value)},(kvs.map (·.1)).Nodup->gP B W kvs f->gP B W (stored kvs x v) (gb x mv f)
 |[],_,_,h=>by subst h;exact(cz rfl H rfl)|(y,m)::f,(Y,w)::kvs,n,h=>by
  (refine cS h λE a b=>?_;clear h;subst E);rw[ic,x8]at n;unfold gb
  by_cases q:x=Y
  ·subst q;have e:stored ((x,w)::kvs) x v=(x,v)::kvs:=by
    unfold stored;rw[if_pos (by simp),ic,if_pos rfl,map_store_of_not_mem kvs x v n.1]
   rw[e,if_pos rfl];exact(cz rfl H b)
  ·have e:stored ((Y,w)::kvs) x v=(Y,w)::stored kvs x v:=by
    unfold stored;rw[E6,decide_eq_false (λz:Y=x=>q z.symm),Bool.false_or];split
    ·rw[ic,if_neg λz=>q z.symm]
    ·rfl
   rw[e,if_neg q];exact(cz rfl a (Yn H n.2 b))
theorem Yo{W:aD}{x:Str}{kvs:List (Str×Value)}{f:List (Str×V)}(h:gP B W kvs f):(eS x f).isSome=(valueAt kvs x).isSome:=by
 have:=MN (B:=B) (x:=x) h;cases q:eS x f with
 |none=>rw[q]at this;dsimp only at this;rw[this];rfl|some m=>rw[q]at this;(refine ap this λv e _=>?_;clear this);rw[e];rfl
theorem Yp{W:aD}:∀{f:List (Str×V)} {kvs:List (Str×Value)},gP B W kvs f->kvs.map (·.1)=f.map (·.1)
 |[],_,h=>by subst h;rfl|_::_,_::_,h=>G3.mpr (ai h.1 (Yp h.2.2))
theorem Yq{x:Str}{v:Value}{b:V}{f:List (Str×V)}{W:aD}{s:Shared}{A:j9}{Q E:Value->Shared->Prop}{t:N'}{a:Addr}{kvs:List (Str×Value)}(R:aS B W σ s)(H:sr B W s.heap a f kvs)(h:k (.l (eS x f).isSome) σ)(p:jq B W s.heap k Q):
  hJ B.b A (hW .In (.str x t) (.ref a)) Q E s:=by
 exact wpAny_in_of (Tx B.c B.ae x t) H.1 H.2.1.mapOf (p _ _ _ _ _ (Yo H.2.2▸h) R.a .a (.l _))
theorem VM{x:Str}{f:List (Str×V)}(h:k (.l (eS x f).isSome) σ):ch B n (hW .In) (.e x) (.c f) σ k:=λA W s i j Q E r R d g p=>by(refine dJ (nS R g) λa K e H=>?_;subst e);(refine ap d λ_ c _=>?_;clear d;subst c);exact Yq (b:=.g) (v:=.none) R H h p
theorem MO{x:Str}{mv:V}{f:List (Str×V)}{W:aD}{s:Shared}{A:j9}{Q E:Value->Shared->Prop}{t:N'}{a:Addr}{kvs:List (Str×Value)}(R:aS B W σ s)(H:sr B W s.heap a f kvs)(b:eS x f=au mv)(h:k mv σ)(p:jq B W s.heap k Q):
  hJ B.b A (getItem (.ref a) (.str x t)) Q E s:=by
 have:=MN (B:=B) (x:=x) H.2.2;rw[b]at this;(refine ap this λv q c=>?_;clear this);exact wpAny_getItem_of (Tx B.c B.ae x t) H.2.1.mapOf q (p _ _ _ _ _ h R.a .a c)
theorem uQ{W:aD}{s:Shared}{a:Addr}{f:List (Str×V)}{kvs:List (Str×Value)}(H:sr B W s.heap a f kvs):s.TypeIs (.ref a) "dict":=H.2.1.mapOf.typeIs
theorem VT{x:Str}{mv:V}{f:List (Str×V)}(i:eS x f=au mv)(h:k mv σ):kN B σ (.c f)/\ch B n getItem (.c f) (.e x) σ k:=
 (ai ⟨"dict",_,Ix.lookup,λW s v R d=>by
  (refine dJ (nS R d) λa K e H=>?_;subst e);exact uQ H⟩ (λA W s j l Q E r R d g p=>by
  (refine dJ (nS R d) λa K b H=>?_;subst b);(refine ap g λ_ c _=>?_;clear g;subst c);exact MO R H i h p))
theorem VV{x:Str}{mv:V}{F:List (Str×V)}(b:σ[i]? =au (.F F))(j:eS x F=au mv)(h:k mv σ):kN B σ (.o i)/\ch B n getItem (.o i) (.e x) σ k:=
 (ai ⟨"dict",_,Ix.lookup,λW s v R f=>by
  (refine fA (Ct R f b) λa K e _ H _=>?_;subst e);exact uQ H⟩ (λA W s l m Q E r R f g p=>by
  (refine fA (Ct R f b) λa K c _ H _=>?_;subst c);(refine ap g λ_ d _=>?_;clear g;subst d);exact MO R H j h p))
theorem MP{W:aD}{s:Shared}{v:Value}{xs:List V}(R:aS B W σ s)(h:aY B W v (.u xs)):∃a items m,v=.ref a/\s.heap.get? a=au (m7 items m)/\bp B W items.toList xs:=by obtain⟨a,_,rfl,H,_,⟨items,m,rfl,rfl⟩,b⟩:=h;exact(pJ a items m rfl (R.b _ _ H) b)
theorem VR{xs:List V}{j:Nat}{x:V}(t:j<1000000)(o:xs[j]? =au x)(h:k x σ):kN B σ (.u xs)/\ch B n getItem (.u xs) (.q j) σ k:=
 (ai ⟨"list",_,u4.lookup,λW s v R H=>by
  (refine kb (MP R H) λa i m b g _=>?_;subst b);exact(aE _ g rfl)⟩ (λA W s u w Q E r R H l p=>by
  (refine kb (MP R H) λa i m c g e=>?_;subst c);(refine bf l λ_ d=>?_;clear l;subst d);refine ap (e.g o) λy q f=>?_
  exact F3 (km g) (dj 0xa00a11 (jb _)) (by lia) (by rw[←ey];exact q) (p _ _ _ _ _ h R .a f)))
theorem Vc{k:Bool->af->Prop}{f:List (Str×V)}(e:f.length<=900)(h:k (!f.isEmpty) σ):fq B n truthy (.c f) σ k:=λA W s v Q E r R H p=>by
 obtain⟨a,K,rfl,b,c,d⟩:=nS R H;have l:=d.a;refine wpAny_truthy_dict b c (by lia) (p _ _ _ _ ?_ R.a .a);have:K.isEmpty=f.isEmpty:=by cases K<;>cases f<;>simp_all
 rw[this];exact h
theorem Yr(x:Str)(v:V):∀f:List (Str×V),(gb x v f).length<=f.length+1
 |[]=>ds _|(y,w)::f=>by
  unfold gb;split
  ·exact r9 _
  ·exact m9 (Yr x v f)
theorem V0{x:Str}{v:V}{f:List (Str×V)}{k:af->Prop}(H:σ[i]? =au (.F f))(j:f.length<=800)(h:k (σ.set i (.F (gb x v f)))):BI B n setItem (.o i) (.e x) v σ k:=λA W s J L M Q E r R t m u p=>by
 obtain⟨a,K,rfl,b,⟨w,c,q⟩,O⟩:=Ct R t H;(refine ap m λ_ e _=>?_;clear m;subst e);have N:(K.map (·.1)).Nodup:=by(refine kg c λ_ _ _ _ _ _ _ _ y=>?_;clear c);exact y
 have l:=q.a;refine wpAny_setItem_pairs (Tx B.c B.ae x _) c (λz d g=>?_) (hsz:=by rw[bw];exact aC 0x1000000d00320c111012 (aJ l) j);refine ap (sb.mp d) λo C D=>?_
 have F:=Yr x v f;refine aV (R.o (s':={s with heap:=z,toks:=s.toks+1}) b g (.F C (ai w D) (Yn u N q) (aC 0x384c00320c111a18012 F j)) rfl rfl) λG I=>?_
 exact p _ _ _ h G I
theorem V_(G:gR B){f:List (Str×V)}(H:f.length<=900)(h:k (.o σ.length) (σ++[.F f])):eW B n (.j .n) [.c f] [] σ k:=.c λA W s v Q E r R d p=>by
 obtain⟨a,K,rfl,e,b,c⟩:=nS R d;have l:=c.a;refine ZN wR (b.mapOf.typeIs) PySem.F.entry_dict_copy (PySem.F.args_dict_copy_1 _) (meets_dict_copy (li B.c B.ae) a e) (bx K b (by rw[bw];exact aC 0x1000000d00384c111012 (aJ l) H) (λg D u i=>?_));refine ap (sb.mp D) λo j m=>?_
 refine cS (R.w (s':={s with heap:=g}) i rfl rfl (.F j (ai (G.c R) m) c H)) λq t z=>?_
 exact p _ _ _ _ _ h q t (.o z)
theorem WT{f:List (Str×V)}:lS B n "copy" (.c f) σ (.j .n) [.c f]:=λA W s v P Q E r R c p=>by
 refine dJ (nS R c) λa k e H=>?_
 subst e;obtain⟨_,⟨o,j,l,d,⟨g,h,i⟩,_⟩,_⟩:=id H;exact n4 (uQ H) v6 wR PySem.F.type_dict_copy (λb e=>by(injection e with z;subst z);exact(aE _ d h)) (p s W _ _ R .a (.j .n) (.p c .j))
end
inductive cp where
 |a|h (v:V) (σ:af)|bM (p:Prop) (v:V) (σ:af)
 |b (p:Prop) (o:Option V) (σ:af)|m (p:Prop) (o:Option Nat) (σ:af)
 |j (xs:List V) (f:List V->af)
def cp.bD(o:cp)(k:bu):Prop:=match o with
 | .a=>False| .h v σ=>k v σ| .bM p v σ=>p/\k v σ| .b p o σ=>∃x,p/\o=au x/\k x σ| .m p o σ=>∃c,p/\o=au c/\k (.e ⟨#[c]⟩) σ| .j X f=>∃y x,X=y++[x]/\k x (f y)
inductive cE where
 |a|h (v:V)|bM (p:Prop) (v:V)
 |b (p:Prop) (o:Option V)|m (p:Prop) (o:Option Nat)
noncomputable def cE.i(o:cE)(σ:af):cp:=match o with
 | .a=> .a| .h v=> .h v σ| .bM p v=> .bM p v σ| .b p o=> .b p o σ| .m p o=> .m p o σ
abbrev cE.bD(o:cE)(σ:af)(k:bu):Prop:=(o.i σ).bD k
inductive nO where
 |a|h (b:Bool)|bM (p:Prop) (b:Bool)
def nO.bD(o:nO)(σ:af)(k:Bool->af->Prop):Prop:=match o with
 | .a=>False| .h v=>k v σ| .bM p v=>p/\k v σ
noncomputable def dW(a:V)(f:Int->cE):cE:=match a with
 | .q i=>f i|_=> .a
noncomputable def gH(a:V)(f:Str->cE):cE:=match a with
 | .e s=>f s|_=> .a
noncomputable def sm(a:V)(f:Int->cE)(g:Str->cE):cE:=match a with
 | .q i=>f i| .e s=>g s|_=> .a
noncomputable def xt(a:V)(f:cE):cE:=match a with
 | .g=>f|_=> .a
section
variable {a:V} {σ:af} {k:bu}
theorem dG{f:Int->cE}(h:(dW a f).bD σ k):∃i,a=.q i/\(f i).bD σ k:=by
 cases a with
 |q i=>exact(aE i rfl h)|_=>exact h.elim
theorem gG{f:Str->cE}(h:(gH a f).bD σ k):∃i,a=.e i/\(f i).bD σ k:=by
 cases a with
 |e i=>exact(aE i rfl h)|_=>exact h.elim
theorem xr{f:Int->cE}{g:Str->cE}(h:(sm a f g).bD σ k):(∃i,a=.q i/\(f i).bD σ k)\/∃i,a=.e i/\(g i).bD σ k:=by
 cases a with
 |q i=>exact .inl (aE i rfl h)|e i=>exact .inr (aE i rfl h)|_=>exact h.elim
theorem Vt{f:cE}(h:(xt a f).bD σ k):a=.g/\f.bD σ k:=by
 cases a with
 |g=>exact(ai rfl h)|_=>exact h.elim
end
section
open Builtin Builtin.Str
set_option maxHeartbeats 4000000
noncomputable def xO(k n:Nat):List Nat:=j4 (k-(((j5 16 n).map m4).map λc=>if isAsciiLower c then c-32 else c).length) 48++(((j5 16 n).map m4).map λc=>if isAsciiLower c then c-32 else c)
def iI(k n:Nat):Str:=⟨(xO k n).toArray⟩
theorem Ys{c:C0}{k:Nat}(h:c.width=au k)(H:c.prec=none)(a:c.sign=false)(b:c.blank=false)(d:c.ljust=false)(e:c.zero=true)(f:c.alt=false)(g:c.type=88):c=⟨false,false,false,false,true,au k,none,88⟩:=by show Percent.mk c.ljust c.sign c.blank c.alt c.zero c.width c.prec c.type=_;rw[h,H,a,b,d,e,f,g]
set_option backward.match.sparseCases true in
theorem Yt{t:List Nat}(h:∀x∈t,x≠45/\x≠43):(match t with|45::r=>([45],r)|43::r=>([43],r)|_=>(([]:List Nat),t))=([],t):=by
 split
 ·exact absurd rfl (h 45 (.head _)).1
 ·exact absurd rfl (h 43 (.head _)).2
 ·rfl
noncomputable def Yu(k:Nat)(p:List Nat×List Nat):List Nat:=p.1++[]++j4 (k-(p.1.length+0+p.2.length)) 48++p.2
set_option backward.match.sparseCases true in
theorem Yv{k:Nat}{t:List Nat}{p:List Nat×List Nat}(h:p=([],t)):(match(if(decide (k<=t.length)&&true&&true&&true)=true then none else au (Yu k p))with|none=>t|some l=>l)=j4 (k-t.length) 48++t:=by
 subst h;cases q:decide (k<=t.length)with
 |false=>exact congrArg (λn=>j4 (k-n) 48++t) (wS _)|true=>exact(congrArg (λn=>j4 n 48++t) (nw (of_decide_eq_true q))).symm
theorem MQ{c:C0}{k:Nat}{t:List Nat}(h:c.width=au k)(H:c.prec=none)(a:c.sign=false)(b:c.blank=false)(d:c.ljust=false)(e:c.zero=true)(f:c.alt=false)(g:c.type=88)(i:∀x∈t,x≠45/\x≠43):
  (match percentField c true t with|none=>t|some l=>l)=j4 (k-t.length) 48++t:=by
 rw[Ys h H a b d e f g];exact Yv (Yt i)
theorem MR{c:C0}{n:Int}{d:List Nat}(hn:0<=n)(h:c.prec=none)(H:c.alt=false)(a:c.type=88):percentInt c (decide (n<0)) d=d.map λc=>if isAsciiLower c then c-32 else c:=by delta percentInt;have:decide (n<0)=false:=decide_eq_false (mw.2 (dj 0xa00a11 hn));simp[h,H,a,this]
def sv(x:Char):Prop:=(x.toNat≠45/\x.toNat≠43)/\¬(isAsciiLower x.toNat=true/\(x.toNat-32=45\/x.toNat-32=43))
theorem Yw:∀m,m<16->sv (E8 m):=by delta sv;decide
theorem Yx:∀(f n:Nat) (a:List Char),(∀x∈a,sv x)->∀x∈na 16 f n a,sv x
 |0,n,a,h=>by simpa [na]using h|f+1,n,a,h=>by
  have c:=Yw (n % 16) (Nat.mod_lt _ (by decide));have b:∀x∈E8 (n % 16)::a,sv x:=by
   intro x H;rcases bv H with rfl|H
   ·exact c
   ·exact h x H
  unfold na;dsimp only;split
  ·exact b
  ·exact Yx f _ _ b
set_option tactic.hygienic true in
theorem Yy:∀(f n d:Nat) (a:List Char),1<=d->n<16^d->(na 16 f n a).length<=a.length+d
 |0,n,d,a,H,h=>by simp[na]|f+1,n,d,a,H,h=>by
  unfold na;dsimp only;split
  ·simp;trivial
  ·rename_i q;have b:2<=d:=by
    rcases w2 d 2 with z|z
    ·have:d=1:=ea (aO 0x1a02a1a0811 z) (aO 27269649 H);subst this;have:n/16=0:=Nat.div_eq_of_lt (by simpa using h);exact absurd this (by simpa using q)
    ·exact z
   obtain⟨e,rfl⟩:∃e,d=e+1:=(ba (d-1) (ea (aC 0x1a1801a18011 (d_ _ _)) (aC 0x11a0811a0811 (cX (aO 27273745 b)))));have:=Yy f (n/16) e (E8 (n % 16)::a) (aO 0x1a1a082a11 b) (by rw[Nat.pow_succ]at h;exact Nat.div_lt_of_lt_mul (by lia));simp at this⊢;exact bc 0x1a2818021a188011 this
set_option tactic.hygienic true in
theorem MS(n:Nat):∀x∈((j5 16 n).map m4).map (λc=>if isAsciiLower c then c-32 else c),x≠45/\x≠43:=by
 intro x h;(refine ap (j6.mp h) λy H e=>?_;subst e);(refine ap (j6.mp H) λc a E=>?_;subst E);have:=Yx _ _ [] (by simp) c a;unfold sv at this;split
 ·rename_i q;exact(ai (λz=>this.2 (ai q (.inl z))) (λz=>this.2 (ai q (.inr z))))
 ·exact this.1
theorem A_{k K:Nat}{n:Int}(h:0<=n)(b:n<10^9)(H:k<=8/\K=8):(iI k n.natAbs).length<=K:=by
 (refine aV H λH e=>?_;subst e);have a:=Yy (n.natAbs+1) n.natAbs 8 [] (by decide) (by lia);delta iI xO T1;simp only[n0,bs,q9,hZ,j5];simp at a
 lia
theorem Yz{c:C0}{k:Nat}{n:Int}(hn:0<=n)(h:percentField c true (percentInt c (decide (n<0)) ((j5 16 n.natAbs).map m4))=none)(d:c.width=au k)(H:c.prec=none)(e:c.sign=false)(f:c.blank=false)(g:c.ljust=false)(i:c.zero=true)(a:c.alt=false)(b:c.type=88):
  (⟨(percentInt c (decide (n<0)) ((j5 16 n.natAbs).map m4)).toArray⟩:Str)=iI k n.natAbs:=by
 rw[MR hn H a b]at h⊢;have:=MQ d H e f g i a b (MS n.natAbs);rw[h]at this;delta iI xO;exact congrArg (λl:List Nat=>(⟨l.toArray⟩:Str)) this
theorem YA{c:C0}{k:Nat}{n:Int}{l:List Nat}(hn:0<=n)(h:percentField c true (percentInt c (decide (n<0)) ((j5 16 n.natAbs).map m4))=au l)(d:c.width=au k)(H:c.prec=none)(e:c.sign=false)(f:c.blank=false)(g:c.ljust=false)(i:c.zero=true)(a:c.alt=false)(b:c.type=88):
  (⟨l.toArray⟩:Str)=iI k n.natAbs:=by
 rw[MR hn H a b]at h;have:=MQ d H e f g i a b (MS n.natAbs);rw[h]at this;delta iI xO;exact congrArg (λl:List Nat=>(⟨l.toArray⟩:Str)) this
abbrev jL:=List Value×J1×List Nat
abbrev uR:=Nat->jL->NO (ForInStep jL)
def oW(c:C0)(p:List Value)(w:J1)(t:List Nat)(x:List Nat×Option Value×Bool):NO (ForInStep jL):=match percentField c x.2.2 x.1 with
 |none=>pure (.yield (p,w.add ⟨x.1.toArray⟩ (if t.isEmpty=true then x.2.1 else none),t))|some l=>pure (.yield (p,w.add ⟨l.toArray⟩,t))
def YB(n:Int)(D:NO (List Nat×Option Value×Bool)):Prop:=∀{prog:Program} {wd:i3} {A:j9} {E:Value->Shared->Prop} {s:Shared} {Q:List Nat×Option Value×Bool->Shared->Prop},((n.natAbs:Nat):Int).natAbs.log2<1920->
 (∀k,Q (percentInt {type:=100} (decide (n<0)) (j2 (toString ((n.natAbs:Nat):Int))).cps.toList,none,true) {s with toks:=k})->hJ (model prog wd) A D Q E s
structure qh(f:uR)(fo:Value)(L:Nat):Prop where
 a:∀i p w r,∃(X Y:NO (ForInStep jL)),f i (p,w,r)=if tooLong w.total=true then X else if r.isEmpty=true then pure (.done (p,w,r))else if(!(r.span (· !=37)).1.isEmpty)=true then pure (.yield (p,w.add ⟨(r.span (· !=37)).1.toArray⟩ (if((r.span (· !=37)).1.length==L)=true then au fo else none),(r.span (· !=37)).2))else Y
 c:∀i p w t,∃X,f i (p,w,37::37::t)=if tooLong w.total=true then X else pure (.yield (p,w.add "%",t))
 e:∀i p w y u t,∃X,f i (.str y u::p,w,37::115::t)=if tooLong w.total=true then X else holding [.str y u] (pure (y.cps.toList,au (.str y u),false))>>=oW {type:=115} p w t
 d:∀i p w n u t,∃X D,f i (.int n u::p,w,37::100::t)=(if tooLong w.total=true then X else holding [.int n u] D>>=oW {type:=100} p w t)/\YB n D
 b:∀i p w n u t,∃X,f i (.int n u::p,w,37::48::50::88::t)=if tooLong w.total=true then X else holding [.int n u] (pure (percentInt {zero:=true,width:=au 2,type:=88} (n<0) ((j5 16 n.natAbs).map m4),none,true))>>=oW {zero:=true,width:=au 2,type:=88} p w t
 g:∀i p w n u t,∃X,f i (.int n u::p,w,37::48::52::88::t)=if tooLong w.total=true then X else holding [.int n u] (pure (percentInt {zero:=true,width:=au 4,type:=88} (n<0) ((j5 16 n.natAbs).map m4),none,true))>>=oW {zero:=true,width:=au 4,type:=88} p w t
 h:∀i p w n u t,∃X,f i (.int n u::p,w,37::48::56::88::t)=if tooLong w.total=true then X else holding [.int n u] (pure (percentInt {zero:=true,width:=au 8,type:=88} (n<0) ((j5 16 n.natAbs).map m4),none,true))>>=oW {zero:=true,width:=au 8,type:=88} p w t
theorem MT:∃(body:Value->i2->Value->Bool->Option i2->Bool->uR) (d:Value->Bool->Option i2->Bool->jL->NO Fin) (kk:Value->i2->Value->Bool->Option i2->Bool->Option (Array Value)->NO Fin),
  (∀fo F args,percentFormat fo F args=isInstance args (.type "tuple")>>=λa=>asStr? args>>=λb=>fillsMappingSlot args>>=λc=>if a=true then seqItems? args>>=kk fo F args a b c else pure [args]>>=λp=>forIn [:F.length] (p,({}:J1),F.cps.toList) (body fo F args a b c)>>=d args a b c)/\
  (∀fo F args a b c xs,kk fo F args a b c (au xs)=pure xs.toList>>=λp=>forIn [:F.length] (p,({}:J1),F.cps.toList) (body fo F args a b c)>>=d args a b c)/\
  (∀args a b c w r,d args a b c ([],w,r)=w.finish "str.__mod__")/\∀fo F args a b c,qh (body fo F args a b c) fo F.length:=by
 refine(jt ?b ?p ?f ?eq ?e2 ?e3 ?tu)
 case eq=>intro fo F args;delta percentFormat;rfl
 case e2=>intros;rfl
 case e3=>intros;rfl
 case tu=>
  intro fo e args a b c;constructor
  ·intros;exact(oz _ _ rfl)
  ·intros;exact(ba _ rfl)
  ·intros;exact(ba _ rfl)
  ·intros i p w n u t;refine(cg ?X9 ?D9 ?e9 ?g9)
   case e9=>rfl
   case g9=>
    intro prog wd A E s Q h k
    repeat kpc_if
    refine cT (z7 (a:=_) rfl ?_)
    repeat kpc_if
    refine cT (wpAny_mkInt (cT (call_gives F.slot_int_repr (T2 _ _ _) F.entry_int_repr (F.args_int_repr_1 _) (gives_int_repr _ _ h) (ai (int_text_fits h) ?_))));exact cT (z7 (a:=au _) rfl (fe (k _)))
  ·intros;exact(ba _ rfl)
  ·intros;exact(ba _ rfl)
  ·intros;exact(ba _ rfl)
section
variable {prog:Program} {wd:i3} {A:j9} {E:Value->Shared->Prop} {s:Shared} {Q:jL->Shared->Prop} {f:uR} {fo:Value} {L i N:Nat} {l:List Nat} {p:List Value} {w:J1} {T y:i2} {r a t:List Nat}
def YC(prog:Program)(wd:i3)(A:j9)(E:Value->Shared->Prop)(f:uR)(l:List Nat)(Q:jL->Shared->Prop)(r:ForInStep jL)(s:Shared):Prop:=match r with
 | .done b=>Q b s| .yield b=>hJ (model prog wd) A (forIn l b f) Q E s
theorem sw{g X:NO (ForInStep jL)}{b:jL}(G:lx w T N)(H:N<=16777216)(e:f i b=if tooLong w.total=true then X else g)
  (h:hJ (model prog wd) A g (YC prog wd A E f l Q) E s):hJ (model prog wd) A (forIn (i::l) b f) Q E s:=
 KPc.turn (by rw[e];refine ZH ?_;rw[if_neg (KPc.short_good G H)];exact P2 h (λr s z=>by cases r<;>exact z) λ_ _ z=>z)
theorem qi(U:qh f fo L)(G:lx w T N)(H:N<=16777216)(h:r.span (· !=37)=(a,t))(b:a.isEmpty=false)(c:r.isEmpty=false)(d:(a.length==L)=false)(g:(⟨a.toArray⟩:i2)=y)
  (k:∀W,lx W (T++y) (N+y.length)->hJ (model prog wd) A (forIn l (p,W,t) f) Q E s):hJ (model prog wd) A (forIn (i::l) (p,w,r) f) Q E s:=by
 refine jg (U.a i p w r) λX Y e=>?_
 rw[c,h]at e;dsimp only at e;rw[b,d]at e;subst g;exact sw G H e (fe (k _ (p' G (qg rfl))))
theorem qj(U:qh f fo L)(G:lx w T N)(h:N<=16777216)(k:Q (p,w,[]) s):∀l:List Nat,hJ (model prog wd) A (forIn l (p,w,[]) f) Q E s
 |[]=>fe k|i::l=>by
  refine jg (U.a i p w []) λX Y e=>?_
  exact sw G h e (fe k)
theorem MU(U:qh f fo L)(G:lx w T N)(h:N<=16777216)(k:∀W,lx W (T++"%") (N+1)->hJ (model prog wd) A (forIn l (p,W,t) f) Q E s):hJ (model prog wd) A (forIn (i::l) (p,w,37::37::t) f) Q E s:=by
 refine bf (U.c i p w t) λX e=>?_
 exact sw G h e (fe (k _ (p' G (qg rfl))))
theorem YD{c:Prop}[Decidable c]{v:Value}{u:N'}(h:v=.str y u):KPc.Obj (if c then au v else none) y:=by
 split
 ·exact KPc.obj_some (congrArg au h)
 ·exact qg rfl
theorem MW{u:N'}(U:qh f fo L)(G:lx w T N)(h:N<=16777216)(k:∀W,lx W (T++y) (N+y.length)->hJ (model prog wd) A (forIn l (p,W,t) f) Q E s):hJ (model prog wd) A (forIn (i::l) (.str y u::p,w,37::115::t) f) Q E s:=by
 refine bf (U.e i p w y u t) λX e=>?_
 refine sw G h e (cT (il (fe (fe (k _ (p' (x:=y) G ?_))))));exact YD rfl
theorem MX{n:Int}{u:N'}(U:qh f fo L)(G:lx w T N)(h:N<=16777216)(hn:0<=n/\n<10^10)(k:∀W j,lx W (T++j2 (toString n)) (N+10)->hJ (model prog wd) A (forIn l (p,W,t) f) Q E {s with toks:=j}):
  hJ (model prog wd) A (forIn (i::l) (.int n u::p,w,37::100::t) f) Q E s:=by
 refine dJ (U.d i p w n u t) λX D e H=>?_
 have a:((n.natAbs:Nat):Int)=n:=Int.natAbs_of_nonneg hn.1;have b:((n.natAbs:Nat):Int).natAbs.log2<1920:=shown (N:=2^1920) (by lia) (by lia) (gt _);refine sw G h e (cT (il (H b λj=>?_)));have c:percentInt {type:=100} (decide (n<0)) (j2 (toString ((n.natAbs:Nat):Int))).cps.toList=(j2 (toString n)).cps.toList:=by rw[KPc.int_text _ rfl (.inl rfl) rfl hn.1,a]
 have d:∀l,percentField {type:=100} true l=none:=λ_=>rfl
 delta oW;rw[d,c];refine fe (k _ j ?_);have g:(⟨(j2 (toString n)).cps.toList.toArray⟩:i2)=j2 (toString n):=congrArg PySem.Str.mk (r8 ..);rw[g];exact E9 (p' G (qg (ite_self _))) (i8 (o9 hn.1 (by decide) hn.2) _)
theorem xP{n:Int}{u:N'}{c:C0}{kk:Nat}{r:List Nat}{X:NO (ForInStep jL)}(G:lx w T N)(v:N<=16777216)(hn:0<=n/\n<10^9)(x:kk<=8)
  (e:f i (.int n u::p,w,r)=if tooLong w.total=true then X else holding [.int n u] (pure (percentInt c (decide (n<0)) ((j5 16 n.natAbs).map m4),none,true))>>=oW c p w t)
  (h:c.width=au kk)(H:c.prec=none)(a:c.sign=false)(b:c.blank=false)(d:c.ljust=false)(g:c.zero=true)(j:c.alt=false)(m:c.type=88)
  (k:∀W,lx W (T++iI kk n.natAbs) (N+8)->hJ (model prog wd) A (forIn l (p,W,t) f) Q E s):hJ (model prog wd) A (forIn (i::l) (.int n u::p,w,r) f) Q E s:=by
 have o:=A_ (k:=kk) (K:=8) hn.1 hn.2 (ai x rfl);refine sw G v e (cT (il (fe ?_)));delta oW;dsimp only;cases q:percentField c true (percentInt c (decide (n<0)) ((j5 16 n.natAbs).map m4))with
 |none=>refine fe (k _ ?_);rw[Yz hn.1 q h H a b d g j m];exact E9 (p' G (qg (ite_self _))) (i8 o _)|some l=>refine fe (k _ ?_);rw[YA hn.1 q h H a b d g j m];exact E9 (p' G (qg rfl)) (i8 o _)
end
def xQ(F:i2)(vs:List Value)(t:i2):Prop:=∀(f:uR) (fo:Value) (prog:Program) (wd:i3) (A:j9) (s:Shared) (Q:jL->Shared->Prop) (E:Value->Shared->Prop) (w:J1),qh f fo F.length->lx w N4 0->
 (∀W N j,lx W t N->N<=16777216->Q ([],W,[]) {s with toks:=j})->hJ (model prog wd) A (forIn (List.range' 0 F.length 1) (vs,w,F.cps.toList) f) Q E s
theorem MY{F c:i2}{v:Value}{t:N'}(d:«str.__mod__» ⟨[.str F t,v],[]⟩=percentFormat (.str F t) F v)
  (e:∀{prog:Program} {wd:i3} {A:j9} {E:Value->Shared->Prop} {s:Shared} {Q:Bool->Shared->Prop},Q false s->hJ (model prog wd) A (isInstance v (.type "tuple")) Q E s)
  (H:∃b,asStr? v=pure b)(a:∃b,fillsMappingSlot v=pure b)(h:xQ F [v] c):v7 («str.__mod__» ⟨[.str F t,v],[]⟩) (λ_ R s=>∀T k,R (.ok (.ret (.str c T))) {s with toks:=k}):=by
 obtain⟨B,f,K,g,_,i,U⟩:=MT;refine bf H λm H=>?_
 refine bf a λn a=>?_
 refine KPc.meets_of λprog wd A s Q E q=>?_
 rw[d,g];refine cT (e (cT (z7 H (cT (z7 a (ZH (KPc.ite_no to (cT (fe (cT ?_))))))))));rw[U1];refine h _ _ prog wd A s _ E _ (U ..) KPc.good0 λw N j G l=>?_
 rw[i];exact ZB G l rfl λT k=>q T k
theorem YE{F e:i2}{x y:Value}{a:Addr}{t:N'}(h:xQ F [x,y] e):v7 («str.__mod__» ⟨[.str F t,.ref a],[]⟩) (λ_ R s=>IsTup s.heap a #[x,y]/\∀b k,R (.ok (.ret (.str e b))) {s with toks:=k}):=by
 obtain⟨B,f,K,i,l,m,U⟩:=MT;refine KPt.meets_tup λprog wd A s Q E H q=>?_
 (refine T6 H λo g c n d=>?_;clear H);rw[KPt.entry_is_r,i];refine cT (v8 (T:="tuple") (aE o g c) KPt.sub_tt (cT (KPt.asStr_ref g d (cT (KPt.fills_ref (aE o g c) λ_=>ZH (KPc.ite_yes rfl (cT (U2 g d ?_))))))));rw[l];refine cT (fe (cT ?_));rw[U1];refine h _ _ prog wd A s _ E _ (U ..) KPc.good0 λw N j G p=>?_
 rw[m];exact ZB G p rfl λb k=>q b k
theorem MZ{F T y:i2}{t u:N'}(h:xQ F [.str y u] T):v7 («str.__mod__» ⟨[.str F t,.str y u],[]⟩) (λ_ R s=>∀a k,R (.ok (.ret (.str T a))) {s with toks:=k}):=MY (KPc.entry_is_s ..) (λq=>v8 (rr _ _ _) PySem.F.sub_str_tuple q) (ba (au y) rfl) (KPc.fills_str y u) h
theorem xR{F T:i2}{n:Int}{t u:N'}(h:xQ F [.int n u] T):v7 («str.__mod__» ⟨[.str F t,.int n u],[]⟩) (λ_ R s=>∀a k,R (.ok (.ret (.str T a))) {s with toks:=k}):=MY (KPc.entry_is ..) (λq=>v8 (T2 _ _ _) PySem.F.sub_int_tuple q) (ba none rfl) (ba false (KPc.fills n u)) h
theorem nK{w:J1}{T:i2}{N:Nat}(g:lx w (N4++T) N):lx w T N:=by rw[KPc.empty_app]at g;exact g
theorem YF{a b:Int}{t u v:N'}{p:Addr}(c:0<=a)(h:a<10^10)(d:0<=b)(H:b<10^10):v7 («str.__mod__» ⟨[.str ⟨#[37,100,46,37,100]⟩ t,.ref p],[]⟩) (λ_ R s=>IsTup s.heap p #[.int a u,.int b v]/\∀T k,R (.ok (.ret (.str (j2 (toString a)++"."++j2 (toString b)) T))) {s with toks:=k}):=
 YE λf fo prog wd A s Q E w U G q=>MX U G (by decide) (ai c h) λW j e=>qi U (nK e) (by decide) (a:=[46]) (t:=[37,100]) (by decide+kernel) rfl rfl (by decide+kernel) (y:=".") (by decide+kernel) λl i=>MX U i (by decide) (ai d H) λm J g=>qj U g (by decide) (q _ _ _ g (by decide)) _
theorem YG{a:i2}{t u:N'}(h:a.length<=1000000):v7 («str.__mod__» ⟨[.str ⟨#[37,37,89,65,77,76,32,37,115]⟩ t,.str a u],[]⟩) (λ_ R s=>∀T k,R (.ok (.ret (.str ("%"++"YAML "++a) T))) {s with toks:=k}):=
 MZ λf fo prog wd A s Q E w U G q=>MU U G (by decide) λW b=>qi U (nK b) (by trivial) (a:=[89,65,77,76,32]) (t:=[37,115]) (by decide+kernel) rfl rfl (by decide+kernel) (y:="YAML ") (by decide+kernel) λd c=>
  have z:0+1+("YAML ":i2).length<=6:=by decide
  MW U c (by trivial) λe g=>qj U g (aC 0x1000000d011a0a8886a11a0a88100f4240d012 h z) (q _ _ _ g (aC 0x1000000d011a0a8886a11a0a88100f4240d012 h z)) _
theorem YH{a:i2}{t u:N'}(h:a.length<=1000000):v7 («str.__mod__» ⟨[.str ⟨#[33,60,37,115,62]⟩ t,.str a u],[]⟩) (λ_ R s=>∀T k,R (.ok (.ret (.str ("!<"++a++">") T))) {s with toks:=k}):=
 MZ λf fo prog wd A s Q E w U G q=>qi U G (by decide) (a:=[33,60]) (t:=[37,115,62]) (by decide+kernel) rfl rfl (by decide+kernel) (y:="!<") (by decide+kernel) λW b=>MW U (nK b) (by decide) λd c=>
  have z:0+("!<":i2).length+a.length<=1000002:=by rw[show("!<":i2).length=2 by decide];exact aO 0xf4242d02a0a8800f4240d011 h
  qi U c (by exact cO ‹_›) (a:=[62]) (t:=[]) (by decide+kernel) rfl rfl (by decide+kernel) (y:=">") (by decide+kernel) λe g=>have Z:(">":i2).length=1:=by decide
  qj U g (bc 0x1000000d2100a8881a2100f4242d100a8812 z (aJ Z)) (q _ _ _ g (bc 0x1000000d2100a8881a2100f4242d100a8812 z (aJ Z))) _
theorem YI{n:Int}{t u:N'}(h:0<=n)(H:n<10^9):v7 («str.__mod__» ⟨[.str ⟨#[37,37,37,48,50,88]⟩ t,.int n u],[]⟩) (λ_ R s=>∀T k,R (.ok (.ret (.str ("%"++iI 2 n.natAbs) T))) {s with toks:=k}):=xR λf fo prog wd A s Q E w U G q=>MU U G (by decide) λW a=>(U.b _ _ W n u []).elim λX e=>xP (kk:=2) (nK a) (by trivial) (ai h H) (by decide) e rfl rfl rfl rfl rfl rfl rfl rfl λb g=>qj U g (by decide) (q _ _ _ g (by decide)) _
theorem YJ{n:Int}{t u:N'}(h:0<=n)(H:n<10^9):v7 («str.__mod__» ⟨[.str ⟨#[92,120,37,48,50,88]⟩ t,.int n u],[]⟩) (λ_ R s=>∀T k,R (.ok (.ret (.str ("\\x"++iI 2 n.natAbs) T))) {s with toks:=k}):=
 xR λf fo prog wd A s Q E w U G q=>qi U G (by decide) (a:=[92,120]) (t:=[37,48,50,88]) (by decide+kernel) rfl rfl (by decide+kernel) (y:="\\x") (by decide+kernel) λW b=>(U.b _ _ W n u []).elim λX e=>xP (kk:=2) (nK b) (by decide) (ai h H) (by decide) e rfl rfl rfl rfl rfl rfl rfl rfl λc g=>qj U g (by decide) (q _ _ _ g (by decide)) _
theorem YK{n:Int}{t u:N'}(h:0<=n)(H:n<10^9):v7 («str.__mod__» ⟨[.str ⟨#[92,117,37,48,52,88]⟩ t,.int n u],[]⟩) (λ_ R s=>∀T k,R (.ok (.ret (.str ("\\u"++iI 4 n.natAbs) T))) {s with toks:=k}):=
 xR λf fo prog wd A s Q E w U G q=>qi U G (by decide) (a:=[92,117]) (t:=[37,48,52,88]) (by decide+kernel) rfl rfl (by decide+kernel) (y:="\\u") (by decide+kernel) λW b=>(U.g _ _ W n u []).elim λX e=>xP (kk:=4) (nK b) (by decide) (ai h H) (by decide) e rfl rfl rfl rfl rfl rfl rfl rfl λc g=>qj U g (by decide) (q _ _ _ g (by decide)) _
theorem YL{n:Int}{t u:N'}(h:0<=n)(H:n<10^9):v7 («str.__mod__» ⟨[.str ⟨#[92,85,37,48,56,88]⟩ t,.int n u],[]⟩) (λ_ R s=>∀T k,R (.ok (.ret (.str ("\\U"++iI 8 n.natAbs) T))) {s with toks:=k}):=
 xR λf fo prog wd A s Q E w U G q=>qi U G (by decide) (a:=[92,85]) (t:=[37,48,56,88]) (by decide+kernel) rfl rfl (by decide+kernel) (y:="\\U") (by decide+kernel) λW b=>(U.h _ _ W n u []).elim λX e=>xP (kk:=8) (nK b) (by decide) (ai h H) (by decide) e rfl rfl rfl rfl rfl rfl rfl rfl λc g=>qj U g (by decide) (q _ _ _ g (by decide)) _
noncomputable def BN:Nat->Option Str
 |0=>au ⟨#[37,37,89,65,77,76,32,37,115]⟩|2=>au ⟨#[37,100,46,37,100]⟩|3=>au ⟨#[37,37,37,48,50,88]⟩|4=>au ⟨#[92,120,37,48,50,88]⟩|5=>au ⟨#[92,117,37,48,52,88]⟩|6=>au ⟨#[92,85,37,48,56,88]⟩|8=>au ⟨#[33,60,37,115,62]⟩|_=>none
section
variable {B:aK} {n:Nat} {σ:af} {k:bu}
theorem M0{f a T:Str}(i:∀t u,v7 («str.__mod__» ⟨[.str f t,.str a u],[]⟩) (λ_ R s=>∀d k,R (.ok (.ret (.str T d))) {s with toks:=k}))(j:T.length<=sizeLine)(h:k (.e T) σ):ch B n (binaryOp .Mod) (.e f) (.e a) σ k:=λA W s v l Q E r R H g p=>by(refine ap H λ_ b _=>?_;clear H;subst b);(refine ap g λ_ c _=>?_;clear g;subst c);exact binaryOp_meets (T:="str") (op:=.Mod) (rr s f _) (rr s a _) x9 tH ya (v9 _ _) (i _ _) (λd K=>(ai (λe=>nomatch e) (p _ _ _ _ _ h R.a .a (.e _ _ j))))
theorem xS{f T:Str}{i:Int}(g:∀t u,v7 («str.__mod__» ⟨[.str f t,.int i u],[]⟩) (λ_ R s=>∀c k,R (.ok (.ret (.str T c))) {s with toks:=k}))(j:T.length<=sizeLine)(h:k (.e T) σ):ch B n (binaryOp .Mod) (.e f) (.q i) σ k:=λA W s v l Q E r R H d p=>by
 (refine ap H λ_ a _=>?_;clear H;subst a);(refine bf d λ_ b=>?_;clear d;subst b);exact AutoFloatOps.binaryOp_left_meets (T:="str") (U:="int") (op:=.Mod) (by decide) (rr s f _) (λS=>T2 S i _) x9 F.fills_int_mod F.sub_int_str tH F.slot_int_rmod ya (v9 _ _)
  (g _ _) (λc K=>(ai (λe=>nomatch e) (p _ _ _ _ _ h R.a .a (.e _ _ j))))
theorem YM{f T:Str}{x y:V}(u:∀{W:aD} {a b:Value},aY B W a x->aY B W b y->∀t p,v7 («str.__mod__» ⟨[.str f t,.ref p],[]⟩) (λ_ R s=>IsTup s.heap p #[a,b]/\∀m k,R (.ok (.ret (.str T m))) {s with toks:=k}))(C:T.length<=sizeLine)(h:k (.e T) σ):
  ch B n (binaryOp .Mod) (.e f) (.D [x,y]) σ k:=λA W s J K Q E r R q D p=>by
 (refine ap q λ_ d _=>?_;clear q;subst d);(refine fA (pZ R D) λa i j H _ z=>?_;subst j);refine dz z.l λv w e G I=>?_
 obtain rfl:i= #[v,w]:=J2.mp e;have l:s.TypeIs (.ref a) "tuple":=by(refine bY H λo g c _=>?_;clear H);exact(aE o g c)
 exact KPt.bin_left (T:="str") (U:="tuple") (op:=.Mod) (by decide) (rr s f _) l x9 KPt.fills_tuple tH
  (wt tH (rr s f _) ya (v9 _ _) (u G I _ _) (ai H (λm L=>(ai (λe=>nomatch e) (p _ _ _ _ _ h R.a .a (.e _ _ C))))))
noncomputable def xT(v:V)(f:V->V->cE):cE:=match v with
 | .D x=>match x with
  |[]=> .a|a::r=>match r with
   |[]=> .a|b::r=>match r with
    |[]=>f a b|_::_=> .a
 |_=> .a
theorem YN{v:V}{f:V->V->cE}(h:(xT v f).bD σ k):∃a b,v=.D [a,b]/\(f a b).bD σ k:=by
 cases v with
 |D x=>
  cases x with
  |nil=>exact h.elim|cons a r=>cases r with
   |nil=>exact h.elim|cons b r=>cases r with
    |nil=>exact(cg a b rfl h)|cons _ _=>exact h.elim
 |_=>exact h.elim
def xU(p:Str)(k:Nat)(v:V):cE:=dW v λa=> .bM (0<=a/\a<10^9) (.e (p++iI k a.natAbs))
def xG(i:Nat)(v:V):cE:=match i with
 |0=>gH v λa=> .bM (a.length<=1000000) (.e ("%"++"YAML "++a))|1=>xT v λa b=>gH a λa=>gH b λb=> .bM (a.length<=1000000/\b.length<=1000000) (.e ("%"++"TAG "++a++" "++b))|2=>xT v λa b=>dW a λa=>dW b λb=> .bM (0<=a/\a<10^10/\0<=b/\b<10^10) (.e (a' (toString a)++"."++a' (toString b)))|3=>xU "%" 2 v|4=>xU "\\x" 2 v|5=>xU "\\u" 4 v|6=>xU "\\U" 8 v|7=>xT v λa b=>gH a λa=>gH b λb=> .bM (a.length<=1000000/\b.length<=1000000) (.e (a++b))|8=>gH v λa=> .bM (a.length<=1000000) (.e ("!<"++a++">"))|_=> .a
theorem de(a b:Str):(a++b).length=a.length+b.length:=by show(a.cps++b.cps).size=a.cps.size+b.cps.size;exact Array.size_append
theorem xV{k:Nat}{a:Int}{l:Str}(h:0<=a/\a<10^9)(H:k<=8)(b:l.length<=10):(l++iI k a.natAbs).length<=sizeLine:=by have:=A_ (K:=8) h.1 h.2 (ai H rfl);rw[de,bw];exact aC 0x1000000d1088a11aa012 b this
theorem W9{i:Nat}{f:Str}{v:V}(c:BN i=au f)(h:(xG i v).bD σ k):ch B n (binaryOp .Mod) (.e f) v σ k:=by
 have r:=bw
 match i with
 |0=>obtain⟨a,rfl,H,d⟩:=gG h;(injection c with z;subst z);exact M0 (λt u=>YG H) (by rw[de,de,show("%":Str).length=1 by decide,show("YAML ":Str).length=5 by decide];exact aO 0x1000000d05a1a8800f4240d011 H) d
 |1=>exact cP c|2=>
  (refine dJ (YN h) λa b e h=>?_;subst e);(refine ap (dG h) λa E h=>?_;subst E);obtain⟨b,rfl,⟨H,d,l,m⟩,h⟩:=dG h;(injection c with z;subst z);exact YM (λ{W x y} o q t p=>by(refine bf o λ_ g=>?_;clear o;subst g);(refine bf q λ_ j=>?_;clear q;subst j);exact YF H d l m) (by have H:=o9 (k:=10) H (by decide) d;have d:=o9 (k:=10) l (by decide) m;rw[de,de,show(".":Str).length=1 by decide];exact aC 0x1000000d11a088aa11aa012 H d) h
 |3=>obtain⟨a,rfl,H,h⟩:=dG h;(injection c with z;subst z);exact xS (λt u=>YI H.1 H.2) (xV H (by decide) (by decide)) h
 |4=>obtain⟨a,rfl,H,h⟩:=dG h;(injection c with z;subst z);exact xS (λt u=>YJ H.1 H.2) (xV H (by decide) (by decide)) h
 |5=>obtain⟨a,rfl,H,h⟩:=dG h;(injection c with z;subst z);exact xS (λt u=>YK H.1 H.2) (xV H (by decide) (by decide)) h
 |6=>obtain⟨a,rfl,H,h⟩:=dG h;(injection c with z;subst z);exact xS (λt u=>YL H.1 H.2) (xV H (by decide) (by decide)) h
 |7=>exact cP c|8=>obtain⟨a,rfl,H,d⟩:=gG h;(injection c with z;subst z);exact M0 (λt u=>YH H) (by rw[de,de,show("!<":Str).length=2 by decide,show(">":Str).length=1 by decide];exact aO 0x1000000d1a02a8800f4240d011 H) d
 |_+9=>(injection c;done)
end
end
section
open PySem.SeqAt
inductive sx where
 |h|f (x:Bool)|b (x:Int)|a (x:Str)
noncomputable def uS:V->Option sx
 | .g=>au .h| .l b=>au (.f b)| .q i=>au (.b i)| .e s=>au (.a s)|_=>none
def Cu(v:Value):sx->Prop
 | .h=>v=.none| .f b=>v=.bool b| .b i=>∃t,v=.int i t| .a s=>∃t,v=.str s t
theorem M2{B:aK}{W:aD}{v:Value}{x:V}{y:sx}(h:uS x=au y)(H:aY B W v x):Cu v y:=by
 cases x with
 |g|l _|q _=>(injection h with z;subst z);exact H|e _=>(injection h with z;subst z);(refine ap H λt E _=>?_;clear H);exact(ba t E)|_=>exact cP h
noncomputable def M3:sx->sx->Option Bool
 | .h,y=>match y with
  | .h=>au true|_=>au false
 | .f a,y=>match y with
  | .f c=>au (a==c)| .h=>au false| .a _=>au false| .b _=>none
 | .b a,y=>match y with
  | .b c=>au (a==c)| .h=>au false| .a _=>au false| .f _=>none
 | .a a,y=>match y with
  | .a c=>au (a==c)|_=>au false
def xW(x y:V):Option Bool:=match uS x with
 |some a=>match uS y with
  |some b=>M3 a b|none=>none
 |none=>none
noncomputable def nT:Value->Value->Bool
 | .none,.none=>true| .bool a,.bool b=>a==b| .int a _,.int b _=>a==b| .str a _,.str b _=>a==b|_,_=>false
theorem YO{A:j9}{s:Shared}{a b:Value}{x y:sx}{r:Bool}(c:Cu a x)(H:Cu b y)(h:M3 x y=au r):EqAt A s a b r/\nT a b=r:=by
 cases x with
 |h=>subst c;cases y with
  |h=>subst H;(injection h with z;subst z);exact(ai (EqAt.same _) rfl)|f _=>subst H;(injection h with z;subst z);exact(ai (EqAt.none_bool _) rfl)|b _=>(refine bf H λ_ e=>?_;clear H;subst e);(injection h with z;subst z);exact(ai (EqAt.none_int _ _) rfl)|a _=>(refine bf H λ_ E=>?_;clear H;subst E);(injection h with z;subst z);exact(ai (EqAt.none_str _ _) rfl)
 |f _=>subst c;cases y with
  |h=>subst H;(injection h with z;subst z);exact(ai (EqAt.bool_none _) rfl)|f _=>subst H;(injection h with z;subst z);exact(ai (EqAt.bool_bool _ _) rfl)|b _=>(injection h;done)|a _=>(refine bf H λ_ d=>?_;clear H;subst d);(injection h with z;subst z);exact(ai (EqAt.bool_str _ _ _) rfl)
 |b _=>(refine bf c λ_ g=>?_;clear c;subst g);cases y with
  |h=>subst H;(injection h with z;subst z);exact(ai (EqAt.int_none _ _) rfl)|f _=>(injection h;done)|b _=>(refine bf H λ_ i=>?_;clear H;subst i);(injection h with z;subst z);exact(ai (EqAt.int_int _ _ _ _) rfl)|a _=>(refine bf H λ_ j=>?_;clear H;subst j);(injection h with z;subst z);exact(ai (EqAt.int_str _ _ _ _) rfl)
 |a _=>(refine bf c λ_ k=>?_;clear c;subst k);cases y with
  |h=>subst H;(injection h with z;subst z);exact(ai (EqAt.str_none _ _) rfl)|f _=>subst H;(injection h with z;subst z);exact(ai (EqAt.str_bool _ _ _) rfl)|b _=>(refine bf H λ_ l=>?_;clear H;subst l);(injection h with z;subst z);exact(ai (EqAt.str_int _ _ _ _) rfl)|a _=>(refine bf H λ_ m=>?_;clear H;subst m);(injection h with z;subst z);exact(ai (EqAt.str_str _ _ _ _) rfl)
theorem M4{B:aK}{W:aD}{A:j9}{s:Shared}{a b:Value}{x y:V}{r:Bool}(H:aY B W a x)(c:aY B W b y)(h:xW x y=au r):EqAt A s a b r/\nT a b=r:=by
 delta xW at h;cases e:uS x with
 |none=>rw[e]at h;exact cP h|some a=>cases E:uS y with
  |none=>rw[e,E]at h;(injection h;done)|some b=>rw[e,E]at h;exact YO (M2 e H) (M2 E c) h
noncomputable def pU(f:Bool->Bool->Bool)(x y:Option Bool):Option Bool:=match x with
 |some b=>match y with
  |some c=>au (f b c)|none=>none
 |none=>none
theorem M6{f:Bool->Bool->Bool}{x y:Option Bool}{r:Bool}(h:pU f x y=au r):∃b c,x=au b/\y=au c/\f b c=r:=by
 cases x with
 |none=>(injection h;done)|some b=>cases y with
  |none=>(injection h;done)|some c=>(injection h with z;subst z);exact(dy b c rfl rfl rfl)
def Cp(a:V):List V->Option Bool
 |[]=>au false|x::r=>pU or (xW x a) (Cp a r)
theorem YQ{B:aK}{W:aD}{A:j9}{s:Shared}{a:Value}{x:V}(f:aY B W a x):∀{ys:List V} {vs:List Value} {r:Bool},bp B W vs ys->Cp x ys=au r->(∀v∈vs,EqAt A s v a (nT v a))/\vs.any (λv=>nT v a)=r:=by
 intro ys;induction ys with
 |nil=>exact λ{vs r} H h=>by subst H;(injection h with z;subst z);exact(ai nofun rfl)
 |cons y ys i=>
  intro vs r H h;obtain _|⟨v,vs⟩:=vs
  ·exact H.elim
  (refine dz (M6 h) λb c g j e=>?_;subst e);refine aV (M4 (A:=A) (s:=s) H.1 f g) λk E=>?_
  obtain⟨l,m⟩:=i H.2 j;refine(ai (λw d=>?_) (by rw[E6,E,m]));rcases bv d with rfl|d
  ·rw[E];exact k
  ·exact l w d
def uD:List V->List V->Option Bool
 |[],y=>match y with
  |[]=>au true|_::_=>none
 |x::X,y=>match y with
  |[]=>none|y::Y=>pU and (xW x y) (uD X Y)
theorem YR{B:aK}{W:aD}{A:j9}{s:Shared}:∀{xs ys:List V} {vs a:List Value} {r:Bool},bp B W vs xs->bp B W a ys->uD xs ys=au r->vs.length=a.length/\
  (∀(j:Nat) (H:j<vs.length) (d:j<a.length),EqAt A s vs[j] a[j] (nT vs[j] a[j]))/\(vs.zip a).all (λp=>nT p.1 p.2)=r
 |[],ys,vs,a,r,c,b,h=>by
  cases ys with
  |nil=>subst c;subst b;(injection h with z;subst z);exact(cz rfl (λj H=>absurd H (N5 _)) rfl)|cons _ _=>(injection h;done)
 |x::xs,ys,v::vs,a,r,c,b,h=>by
  cases ys with
  |nil=>(injection h;done)|cons y ys=>cases a with
   |nil=>exact b.elim|cons w a=>
    (refine dz (M6 h) λp q H d e=>?_;subst e);refine aV (M4 (A:=A) (s:=s) c.1 b.1 H) λf E=>?_
    obtain⟨l,g,i⟩:=YR c.2 b.2 d;refine(cz (congrArg (· +1) l) (λj H d=>?_) (by rw[po,i',E,i]));cases j with
    |zero=>rw[w3,w3,E];exact f|succ j=>exact g j _ _
theorem YS{f:Value->Value->Bool}:∀(vs W:List Value),vs.length=W.length->(n9 vs.length).all (λj=>match vs[j]?,W[j]? with|some a,au b=>f a b|_,_=>false)=(vs.zip W).all (λp=>f p.1 p.2)
 |[],[],_=>rfl|[],_::_,h=>by(injection h;done)|_::_,[],h=>by(injection h;done)|v::vs,w::W,h=>by have i:=YS (f:=f) vs W (by simpa using h);rw[eb,qp,i',List.all_map,po,i',←i];rfl
section
variable {B:aK} {F:cM} {n:Nat} {lm:ah} {σ:af} {k:bu} {i:Nat} {pos:Pos}
theorem VN{a:V}{xs:List V}{r:Bool}(H:σ[i]? =au (.u xs))(c:Cp a xs=au r)(h:k (.l r) σ):ch B n (hW .In) a (.o i) σ k:=λA W s d u Q E w R f j p=>by
 (refine kg (kl R j H) λx I m b l g e L z=>?_;subst b);refine aV (YQ (A:=A.in1) (s:=s) f e c) λo q=>?_
 refine in_listAt (λv=>nT v d) (km g) (λy t=>o y (by simpa using t)) (p _ _ _ _ _ ?_ R .a (.l _));rw[←J0,q];exact h
theorem VG{xs ys:List V}{r:Bool}(H:uD xs ys=au r)(h:k (.l r) σ):ch B n (hW .Eq) (.D xs) (.D ys) σ k:=λA W s C D Q E m R o t p=>by
 (refine fA (pZ R o) λa I c T Z u=>?_;subst c);(refine fA (pZ R t) λb i d v F w=>?_;subst d);refine cS (YR (A:=A.in1) (s:=s) u w H) λl x y=>?_
 have L:I.size=i.size:=l;have z:=m.b;refine eq_tupleAt (e:=λj=>match I.toList[j]?,i.toList[j]? with|some a,au b=>nT a b|_,_=>false) T v (by show A.units<_;rw[show cLine=9900 from rfl];exact aC 0x26acc1a082328c100000590811 z) (λj q g=>?_) (p _ _ _ _ _ ?_ R .a (.l _))
 ·have:=x j (by simpa using q) (by simpa using g)
  simpa [q,g]using this
 ·have:=YS (f:=nT) I.toList i.toList l;rw[L,Nat.min_self,beq_self_eq_true,rF];rw[hF,L]at this;rw[this,y];exact h
end
end
noncomputable def iB(a b:Str):Bool:=!decide (b.cps.toList<a.cps.toList)
def ku(l:List Str):List Str:=l.mergeSort iB
theorem M7(a b c:Str)(h:iB a b=true)(H:iB b c=true):iB a c=true:=by delta iB at*;simp only[ib,decide_eq_false_iff_not,z8]at*;exact List.le_trans h H
theorem YT(a b:Str):(iB a b||iB b a)=true:=by
 delta iB;rcases List.le_total a.cps.toList b.cps.toList with h|h
 ·rw[show decide (b.cps.toList<a.cps.toList)=false from decide_eq_false (z8.mpr h)];rfl
 ·rw[show decide (a.cps.toList<b.cps.toList)=false from decide_eq_false (z8.mpr h),Bool.or_comm];rfl
theorem YU(a b:Str)(h:iB a b=true)(H:iB b a=true):a=b:=by unfold iB at*;simp only[ib,decide_eq_false_iff_not,z8]at*;have:=List.le_antisymm h H;obtain⟨x⟩:=a;obtain⟨y⟩:=b;exact congrArg Str.mk (J2.mp this)
theorem YV:∀(p:Str) (l:List Str),risingS p l=true->(p::l).Pairwise λa b=>iB a b=true
 |p,[],_=>by simp|p,x::l,h=>by
  unfold risingS at h;rw[di]at h;have i:=YV x l h.2;have c:iB p x=true:=by delta iB;have:=h.1;rw[ib,ltCps_eq]at this;rw[this];rfl
  rw[F4];refine(ai (λy H=>?_) i);rcases bv H with rfl|H
  ·exact c
  ·exact M7 _ _ _ c ((F4.mp i).1 y H)
theorem Ay{l l':List Str}(h:l'.Perm l)(H:sortedS l'=true):l'=ku l:=by
 have c:l'.Pairwise λa b=>iB a b=true:=by
  cases l' with
  |nil=>simp|cons x r=>exact YV x r H
 have d:(ku l).Pairwise λa b=>iB a b=true:=List.pairwise_mergeSort M7 YT l
 exact List.Perm.eq_of_pairwise (λa b _ _=>YU a b) c d (h.trans (E3 l iB).symm)
section
variable {B:aK} {F:cM} {n:Nat} {lm:ah} {σ:af} {k:bu} {i:Nat} {pos:Pos}
theorem YW{W:aD}{s:Shared}{A:j9}{Q E:Value->Shared->Prop}{a:Addr}{f:List (Str×V)}{kvs:List (Str×Value)}{x:V}(R:aS B W σ s)(H:sr B W s.heap a f kvs)(b:aY B W (.ref a) x)(h:k (.m x) σ)(p:jq B W s.heap k Q):hJ B.b A (call (.builtin "dict.keys") [.ref a]) Q E s:=by
 refine ZN w4 (uQ H) PySem.F.entry_dict_keys (PySem.F.args_dict_keys_1 _) (kdl_meets_keys (li B.c B.ae) a H.1) (ai ⟨kvs,H.2.1⟩ ?_);refine cS (R.n {cls:=.type "dict_keys",data:=.fields #[.ref a]} rfl) λr e z=>?_
 exact p _ _ _ _ _ h r e (.m z (b.c e.i))
theorem V'{f:List (Str×V)}(h:k (.m (.c f)) σ):eW B n (.j .j) [.c f] [] σ k:=.c λA W s v Q E r R b p=>by(refine dJ (nS R b) λa K e H=>?_;subst e);exact YW R H b h p
theorem WS{f:List (Str×V)}:lS B n "keys" (.c f) σ (.j .j) [.c f]:=λA W s v P Q E r R c p=>by
 refine dJ (nS R c) λa k e H=>?_
 subst e;obtain⟨_,⟨o,j,l,d,⟨g,h,i⟩,_⟩,_⟩:=id H;exact n4 (uQ H) v6 w4 PySem.F.type_dict_keys (λb e=>by(injection e with z;subst z);exact(aE _ d h)) (p s W _ _ R .a (.j .j) (.p c .j))
theorem YX{W:aD}:∀{vs:List Value} {ss:List Str},StrsAre vs ss->(∀x∈ss,x.length<=sizeLine)->bp B W vs (ss.map .e):=by
 intro vs ss h
 induction h with
 |nil=>intro _;exact bp.j
 |cons _ _ _ i=>intro H;exact .p (.e _ _ (H _ (by simp))) (i λy a=>H y (by simp[a]))
theorem YY{prog:Program}{w:i3}{kvs:List (Str×Value)}:∀{vs:List Value} {m:Nat},(∀(j:Nat) (v:Value),vs[j]? =au v->∃k x,kvs[m+j]? =au (k,x)/\(li prog w).is k v=true)->vs.length+m=kvs.length->StrsAre vs ((kvs.drop m).map (·.1))
 |[],m,h,H=>by rw[List.drop_eq_nil_of_le (by simp at H;exact aC 1052689 (aJ H.symm))];exact .nil|v::vs,m,h,H=>by
  refine dJ (h 0 v rfl) λy x b d=>?_
  have c:m<kvs.length:=by simp at H;exact bc 0x21a18211a08811 (aJ H)
  rw[List.drop_eq_getElem_cons c,ic];have e:kvs[m]=(y,x):=by rw[w5,dt c]at b;exact j8 b
  rw[e];have a:v.isStrOf y=true:=d;delta Value.isStrOf at a;cases v<;>first|cases a|skip
  have f:=ga a;subst f;refine .cons _ _ (YY (prog:=prog) (w:=w) (m:=m+1) (λj u g=>?_) (by simp at H⊢;exact ea (bc 0x21a1808211a08811 (aJ H)) (bc 0x1a2818021a188011 (aJ H.symm))));have:=h (j+1) u g
  rwa [show m+(j+1)=m+1+j by exact ea (aC 0x11a0881a18080) (aC 0x1a180811a0880)]at this
theorem Wa{f:List (Str×V)}(z:f.length<64)(Y:∀p∈f,p.1.length<=sizeLine)(h:k (.o σ.length) (σ++[.u ((ku (f.map (·.1))).map .e)])):eW B n (.j .o) [.m (.c f)] [] σ k:=.c λA W s va Q E r R Z p=>by
  obtain⟨a,_,rfl,C,d,rfl,h2⟩:=Z;refine dJ (nS R h2) λad kvs e H=>?_
  subst e;(refine cS H λhs hd D=>?_;clear H);have F:=Yp D;have g:kvs.length=f.length:=by have:=congrArg rT F;simpa using this
  refine bf hd.dictAt λep G=>?_
  refine call_function_entry kind_sorted plain_sorted entry_sorted (args_sorted1 _) ?_;unfold Builtin.«sorted»;refine cT (m:=checkCount "sorted" 1 1 _) (fe ?_);refine cT (kdu_collect (A:=A.in1) (kdl_keys (knd:=li B.c B.ae) (kvs:=kvs) (ep:=ep)) r.a (ai ⟨_,R.b _ _ C,rfl,rfl⟩ G) (by rw[bw];exact aC 0x1000000d040b1a1811012 (aJ g) z) λi T c I l=>?_);have u:c.toList.length=kvs.length:=by rw[hF];exact l.1
  have J:StrsAre c.toList (kvs.map (·.1)):=by
   have:=YY (prog:=B.c) (w:=B.ae) (kvs:=kvs) (vs:=c.toList) (m:=0) (λj v e=>by rw[wS];exact l.2 j v (by rw[←ey];exact e)) (by trivial)
   simpa using this
  refine cT (wpAny_newList ?_ (by rw[u,bw];exact aC 0x1000000d040b1a1811012 (aJ g) z));have q:(i.push (seqObj "list" c.toList.toArray 0)).get? i.objs.size=au (seqObj "list" c.toList.toArray 0):=ix _ rfl;refine cT (il (wpAny_call_entry (s:={s with heap:=i.push (seqObj "list" c.toList.toArray 0),toks:=T}) slot_list_sort (aE _ q rfl) entry_list_sort
   (list_sort_treeK strKind_oneLt q J.keysOf (λP U X e=>keyKind_strs (by rw[←e];exact J)) (by have C:c.toList.length=f.length:=u.trans g;exact aC 0x40b1a0840b1a1811012 (aJ C) z) λS a1 a2=>(aE _ rfl ?_)) (args_list_sort _)))
  refine fe (aE _ rfl ?_);refine bY (sorted_out_str J a1 a2) λL q1 M q3=>?_
  have e1:L=ku (f.map (·.1)):=by rw[←F];exact Ay M q3
  subst e1;refine aV (R.c (s':={s with heap:=i,toks:=T}) I rfl rfl) λR1 E1=>?_
  have K:∀b o,i.get? b=au o->(sortedHeap (i.push (seqObj "list" c.toList.toArray 0)) i.objs.size c.toList ((arrOf S).map (·.2))).get? b=au o:=λb o e=>by have y:=lF e;rw[sortedHeap_old (s6 y) (by rw[size_push'];exact Nat.lt_succ_of_lt y)];exact e5 _ e
  refine bf (sortedHeap_at (out:=(arrOf S).map (·.2)) q) λee he=>?_
  have N:∀x∈ku (f.map (·.1)),x.length<=sizeLine:=λx hx=>by
   have:x∈f.map (·.1):=by rw[F]at M;exact M.mem_iff.mp hx
   (refine ap (j6.mp this) λpp hp O=>?_;subst O);exact Y pp hp
  have t:(ku (f.map (·.1))).length=f.length:=by have:=(E3 (f.map (·.1)) iB).length_eq;unfold ku;rw[this];simp
  (refine cS (R1.w (s':={s with heap:=sortedHeap (i.push (seqObj "list" c.toList.toArray 0)) i.objs.size c.toList ((arrOf S).map (·.2)),toks:=T}) K rfl rfl
   (.u (n:=ee) he (YX q1 N) (by rw[hZ,t,bw];exact aO 0x1000000d040b1a0811 z))) λR2 E2 z2=>?_)
  exact p _ _ _ _ _ h R2 (E1.e E2) (.o z2)
end
inductive aq where
 |g|l (b:Bool)|q (i:Int)|e (s:Str)
 |d (x:Nat)|G (x:Nat)
 |w (o:aq) (f:Nat)
 |H (op:l9) (a b:aq)
 |M (a:aq)|n (a:aq)
 |y (op:r7) (a b:aq)|J (op op':r7) (a b c:aq)
 |C (a b:aq)|A (a b:aq)
 |B (t a b:aq)
 |z (f args kws:aq)
 |E (o:aq) (f:Nat) (args kws:aq)
 |m (o i:aq)
 |K (o lo hi:aq)
 |D (xs:aq)|u (xs:aq)|F (kvs:aq)
 |N (elt:aq) (x:Nat) (it test:aq)
 |L (i:Nat) (a:aq)
 |j|p (h t:aq)|I (k:Nat) (v r:aq)
inductive ag where
 |j|d (s r:ag)
 |p|g
 |l (e:aq)|f (e:aq)
 |i (t v:aq)|m (ts v:aq)|q (ts v:aq)|h (t:aq) (op:l9) (v:aq)
 |B (c:aq) (a b:ag)|k (c:aq) (a:ag)|o (t it:aq) (a:ag)
 |n
structure kS where
 a:List Nat
 b:List (Nat×Addr)
 c:List (Nat×V)
 d:List Addr
 e:Option Addr
 f:Bool
structure gI where
 a:List Nat
 b:List V
 c:ag
 iT:Option (Option Nat):=none
structure dq where
 h:List (Addr×kS)
 b:List (Nat×V)
 a:List (Addr×gI)
noncomputable def br{α:Type}(x:Nat):List (Nat×α)->Option α
 |[]=>ct|(y,v)::r=>match e6 x y with
  |true=>au v|false=>br x r
noncomputable def cV(x:Nat):List Nat->Bool
 |[]=>false|y::r=>match e6 x y with
  |true=>true|false=>cV x r
def mP:List Nat->Bool
 |[]=>true|x::r=>match cV x r with
  |true=>false|false=>mP r
noncomputable def rZ{α:Type}(p:α->Bool):List α->Bool
 |[]=>true|x::r=>match p x with
  |true=>rZ p r|false=>false
noncomputable def jC{α:Type}:List Nat->List α->List (Nat×α)
 |x::r,v::s=>(x,v)::jC r s|_,_=>[]
noncomputable def fn{α:Type}:Nat->List α->List α
 |0,l=>l|n+1,[]=>[]|n+1,_::l=>fn n l
noncomputable def aQ{α:Type}:List α->Nat
 |[]=>0|_::r=>aQ r+1
def ki{α:Type}(l:List (Nat×α)):List Nat->Option (List α)
 |[]=>au []|x::r=>match br x l with
  |some v=>match ki l r with
   |some a=>au (v::a)|Option.none=>ct
  |Option.none=>ct
noncomputable def jD{α:Type}:List α->List α->List α
 |[],s=>s|x::r,s=>x::jD r s
def ll{α:Type}(ps:List Nat)(d P:List α)(k:List (Nat×α)):Option (List α):=
 match k0 (aQ P) (aQ ps)&&(k0 (aQ d) (aQ ps)&&(mP ps&&(mP (k.map (·.1))&&(rZ (λp=>cV p.1 (fn (aQ P) ps)) k))))with
 |true=>ki (jD (jC ps P) (jD k (jC (fn (aQ ps-aQ d) ps) d))) ps|false=>ct
abbrev eN:=Addr->List V->af->bu->Prop
noncomputable def eY{α:Type}(i:Nat)(v:α):List α->List α
 |[]=>[]|x::r=>match i with
  |0=>v::r|j+1=>x::eY j v r
noncomputable def ME:V->Option Int
 | .q x=>au x|_=>ct
theorem Wm{x:V}{D:Int}(h:ME x=au D):x=.q D:=by
 cases x with
 |q _=>(injection h with z;subst z);rfl|_=>exact cP h
noncomputable def cn{α:Type}:Nat->List α->Option α
 |_,[]=>ct|0,x::_=>au x|j+1,_::r=>cn j r
def cH(σ:af)(o:aG):af:=jD σ [o]
noncomputable def eF{α:Type}:Nat->List α->List α
 |0,_=>[]|_+1,[]=>[]|n+1,x::r=>x::eF n r
def bG(m:Nat)(v:V):Prop:=mO (λi=>i<m) v
def ck(m:Nat)(v:List V):Prop:=jp (λi=>i<m) v
def lg(m:Nat)(v:List (Str×V)):Prop:=lM (λi=>i<m) v
def fF(m:Nat)(v:List (Nat×V)):Prop:=jI (λi=>i<m) v
def lQ(m:Nat)(v:aG):Prop:=rL (λi=>i<m) v
def bo(m:Nat):af->Prop
 |[]=>True|x::X=>lQ m x/\bo m X
section
variable {m:Nat}
theorem bG.g:bG m .g:=trivial
theorem bG.l(b):bG m (.l b):=trivial
theorem bG.q(b):bG m (.q b):=trivial
theorem bG.e(b):bG m (.e b):=trivial
theorem bG.x:bG m .x:=trivial
theorem bG.r:bG m .r:=trivial
theorem bG.D{xs}(h:ck m xs):bG m (.D xs):=h
theorem bG.c{xs}(h:lg m xs):bG m (.c xs):=h
theorem bG.p{C xs}(h:fF m xs):bG m (.p C xs):=h
theorem bG.o{i}(h:i<m):bG m (.o i):=h
theorem bG.k{C i}(h:i<m):bG m (.k C i):=h
theorem bG.E{C i f}(h:i<m):bG m (.E C i f):=h
theorem ck.j:ck m []:=trivial
theorem ck.p{x xs}(h:bG m x)(g:ck m xs):ck m (x::xs):=(ai h g)
theorem lg.j:lg m []:=trivial
theorem lg.p{k x xs}(h:bG m x)(g:lg m xs):lg m ((k,x)::xs):=(ai h g)
theorem fF.j:fF m []:=trivial
theorem fF.p{k x xs}(h:bG m x)(g:fF m xs):fF m ((k,x)::xs):=(ai h g)
theorem lQ.u{xs}(h:ck m xs):lQ m (.u xs):=h
theorem lQ.d{b:Int}{xs}(h:ck m xs):lQ m (.d b xs):=h
theorem lQ.F{xs}(h:lg m xs):lQ m (.F xs):=h
theorem lQ.a{xs}(h:fF m xs):lQ m (.a xs):=h
theorem bo.j:bo m []:=trivial
theorem bo.p{x xs}(h:lQ m x)(g:bo m xs):bo m (x::xs):=(ai h g)
end
def kP(σ:af)(a:V)(f:Nat->aG->cp):cp:=match a with
 | .o i=>match cn i σ with
  |some o=>f i o|Option.none=> .a
 |_=> .a
noncomputable def nQ(o:aG)(f:List V->cp):cp:=match o with
 | .u x=>f x|_=> .a
theorem mR{σ:af}{a:V}{f:Nat->aG->cp}{k:bu}(h:(kP σ a f).bD k):∃i o,a=.o i/\cn i σ=au o/\(f i o).bD k:=by
 cases a with
 |o i=>
  replace h:(match cn i σ with
   |some o=>f i o|Option.none=> .a:cp).bD k:=h
  cases e:cn i σ with
  |none=>rw[e]at h;exact h.elim|some o=>rw[e]at h;exact(dy i o rfl e h)
 |_=>exact h.elim
theorem rX{o:aG}{f:List V->cp}{k:bu}(h:(nQ o f).bD k):∃xs,o=.u xs/\(f xs).bD k:=by
 cases o with
 |u xs=>exact(aE xs rfl h)|_=>exact h.elim
def si(σ:af)(a:V)(f:Addr->Nat->List (Nat×V)->cp):cp:=match a with
 | .k D i=>match cn i σ with
  |some o=>match o with
   | .a F=>f D i F|_=> .a
  |Option.none=> .a
 |_=> .a
theorem xq{σ:af}{a:V}{f:Addr->Nat->List (Nat×V)->cp}{k:bu}(h:(si σ a f).bD k):∃D i F,a=.k D i/\cn i σ=au (.a F)/\(f D i F).bD k:=by
 cases a with
 |k D i=>
  replace h:(match cn i σ with
   |some o=>(match o with
    | .a F=>f D i F|_=> .a:cp)
   |Option.none=> .a:cp).bD k:=h
  cases e:cn i σ with
  |none=>rw[e]at h;exact h.elim|some o=>rw[e]at h;cases o with
   |a F=>exact(pJ D i F rfl e h)|_=>exact h.elim
 |_=>exact h.elim
noncomputable def eM{α:Type}(o:Option α)(f:α->cp):cp:=match o with
 |some c=>f c|Option.none=> .a
theorem iP{α:Type}{o:Option α}{f:α->cp}{k:bu}(h:(eM o f).bD k):∃c,o=au c/\(f c).bD k:=by
 cases o with
 |none=>exact h.elim|some c=>exact(aE c rfl h)
noncomputable def mA(b:Bool)(f:cp):cp:=match b with
 |true=>f|false=> .a
theorem uB{b:Bool}{f:cp}{k:bu}(h:(mA b f).bD k):b=true/\f.bD k:=by
 cases b with
 |true=>exact(ai rfl h)|false=>exact h.elim
noncomputable def xB:Option V->Option Nat
 |some v=>match v with
  | .o j=>au j|_=>ct
 |Option.none=>ct
theorem WI{o:Option V}{j:Nat}(h:xB o=au j):o=au (.o j):=by
 cases o with
 |none=>(injection h;done)|some v=>cases v with
  |o j=>(injection h with z;subst z);rfl|_=>exact cP h
def uF(m:Nat)(v:V)(σ:af):cp:=.bM (bG m v/\bo m (eF m σ)) v (eF m σ)
noncomputable def uL(o:aG)(f:List (Str×V)->cp):cp:=match o with
 | .F e=>f e|_=> .a
theorem L0{o:aG}{f:List (Str×V)->cp}{k:bu}(h:(uL o f).bD k):∃es,o=.F es/\(f es).bD k:=by
 cases o with
 |F es=>exact(aE es rfl h)|_=>exact h.elim
def uG(x m:Nat)(v:V)(σ:af)(_:Addr)(i:Nat)(f:List (Nat×V)):cp:=match xB (aH x f)with
 |some j=>eM (cn j σ) λo=>uL o λe=> .bM (m<=j/\i<m/\bG m v/\bo m (eF m (eY i (.a (aU x (.c e) f)) σ))) v (eF m (eY i (.a (aU x (.c e) f)) σ))|Option.none=>uF m v σ
def X3(x m:Nat)(v a:V)(σ:af):cp:=si σ a (uG x m v σ)
def sa(f:Option (Option Nat))(m:Nat)(vs:List V)(v:V)(σ:af):cp:=match f with
 |Option.none=> .h v σ|some o=>match o with
  |Option.none=>uF m v σ|some x=>match vs with
   |a::_=>X3 x m v a σ|[]=> .a
abbrev XS(f:Option (Option Nat))(m:Nat)(vs:List V)(v:V)(σ:af)(k:bu):Prop:=(sa f m vs v σ).bD k
section
variable (T:dq) (C:eN)
def tW(f:Nat)(σ:af)(D:Addr)(i:Nat)(F:List (Nat×V)):cp:=eM (br D T.h) λc=>match aH f F with
 |some v=>mA (cV f c.a) (.h v σ)|Option.none=>match br f c.b with
  |some g=> .h (.E D i g) σ|Option.none=>eM (br f c.c) λv=> .h v σ
def tV(f:Nat)(o:V)(σ:af):cp:=match o with
 | .p D F=>eM (br D T.h) λc=>eM (aH f F) λv=>mA (cV f c.a) (.h v σ)|o=>si σ o (tW T f σ)
abbrev sX(f:Nat)(o:V)(σ:af)(k:bu):Prop:=(tV T f o σ).bD k
def Cb(f:Nat)(o v:V)(σ:af):cp:=si σ o λD i F=>eM (br D T.h) λc=>mA (cV f c.a&&k0 (aQ F) 800) (.h .g (eY i (.a (aU f v F)) σ))
abbrev aj(f:Nat)(o v:V)(σ:af)(k:af->Prop):Prop:=(Cb T f o v σ).bD λ_ σ=>k σ
end
def eD(t:Bool)(a b:Prop):Prop:=match t with
 |true=>a|false=>b
theorem pB{t:Bool}{a b:Prop}(h:t=true->a)(g:t=false->b):eD t a b:=by
 cases t
 ·exact g rfl
 ·exact h rfl
theorem tF{a b:Prop}(h:a):eD true a b:=h
theorem tD{a b:Prop}(h:b):eD false a b:=h
theorem fc{t:Bool}{a b:Prop}(h:eD t a b):(t=true->a)/\(t=false->b):=by
 cases t
 ·exact(ai nofun (λ_=>h))
 ·exact(ai (λ_=>h) nofun)
def X4(v:V)(σ:af):nO:=match v with
 | .g=> .h false| .l b=> .h b| .q i=> .h (i !=0)| .e s=> .h (s.length !=0)| .D x=> .bM (x.length<=sizeLine) (!x.isEmpty)| .c f=> .bM (f.length<=900) (!f.isEmpty)| .o i=>match cn i σ with
  |some o=>match o with
   | .u x=> .h (!x.isEmpty)|_=> .a
  |Option.none=> .a
 |_=> .a
abbrev eh(v:V)(σ:af)(k:Bool->af->Prop):Prop:=(X4 v σ).bD σ k
def X5(op:l9)(a b:V):cE:=match op with
 | .Add=>sm a (λa=>dW b λb=> .h (.q (a+b))) λa=>gH b λb=> .bM (a.length+b.length<=sizeLine) (.e (a++b))| .Sub=>dW a λa=>dW b λb=> .h (.q (a-b))| .Mult=>sm a (λa=>dW b λb=> .bM (tq a b) (.q (a*b))) λa=>dW b λi=> .bM ((-1000000<=i/\i<=1000000)/\a.length*i.toNat<=sizeLine) (.e (rC a i))| .Mod=>dW a λa=>dW b λb=> .bM (b≠0) (.q (a.fmod b))| .FloorDiv=>dW a λa=>dW b λb=> .bM (b≠0/\hU a b=false) (.q (a.fdiv b))| .Pow=>dW a λa=>dW b λb=> .bM (0<b/\2<=a/\¬q8 (((sh a:Nat):Int)*b)=true) (.q (a^b.toNat))|_=> .a
abbrev pe(op:l9)(a b:V)(σ:af)(k:bu):Prop:=(X5 op a b).bD σ k
def X6(op:l9)(a b:V):cE:=match op with
 | .Add=>match a with
  | .x=>dW b λ_=> .h .x|a=>sm a (λa=>dW b λb=> .h (.q (a+b))) λa=>gH b λb=> .bM (a.length+b.length<=sizeLine) (.e (a++b))
 | .Sub=>dW a λa=>dW b λb=> .h (.q (a-b))|_=> .a
abbrev rU(op:l9)(a b:V)(σ:af)(k:bu):Prop:=(X6 op a b).bD σ k
def X7(a:V):cE:=dW a λa=> .h (.q (-a))
abbrev LT(a:V)(σ:af)(k:bu):Prop:=(X7 a).bD σ k
def MF(n:Bool)(a b:V):cE:=match a with
 | .q a=>dW b λb=> .h (.l (match n with
  |false=>a==b|true=>a !=b))
 | .e a=>match b with
  | .e b=> .h (.l (match n with
   |false=>a==b|true=>a !=b))
  |b=>xt b (.h (.l n))
 | .g=>gH b λ_=> .h (.l n)| .D x=>match n with
  |false=>match b with
   | .D y=>match uD x y with
    |some r=> .h (.l r)|Option.none=> .a
   |_=> .a
  |true=> .a
 |_=> .a
def BV(a b:V)(f:Bool->Bool):cE:=xt b (match rV a with
 |true=> .a|false=> .h (.l (f (ot a))))
def xu(a:V)(σ:af)(_:Nat)(o:aG):cp:=nQ o λx=>eM (Cp a x) λr=> .h (.l r) σ
def X8(a b:V)(σ:af):cp:=match b with
 | .e b=>cE.i (gH a λa=> .h (.l !(dV b a 0 b.length 1).isEmpty)) σ| .c f=>cE.i (gH a λa=> .h (.l (eS a f).isSome)) σ|b=>kP σ b (xu a σ)
def Cc(op:r7)(a b:V)(σ:af):cp:=match op with
 | .Lt=>cE.i (sm a (λa=>dW b λb=> .h (.l (decide (a<b)))) λa=>gH b λb=> .h (.l (decide (a.cps.toList<b.cps.toList)))) σ| .LtE=>cE.i (sm a (λa=>dW b λb=> .h (.l (decide (a<=b)))) λa=>gH b λb=> .h (.l (!decide (b.cps.toList<a.cps.toList)))) σ| .Gt=>cE.i (dW a λa=>dW b λb=> .h (.l (decide (b<a)))) σ| .GtE=>cE.i (dW a λa=>dW b λb=> .h (.l (decide (b<=a)))) σ| .Is=>cE.i (BV a b id) σ| .IsNot=>cE.i (BV a b not) σ| .Eq=>cE.i (MF false a b) σ| .NotEq=>cE.i (MF true a b) σ| .In=>X8 a b σ| .NotIn=>cE.i (gH a λa=>gH b λb=> .h (.l (dV b a 0 b.length 1).isEmpty)) σ
abbrev jv(op:r7)(a b:V)(σ:af)(k:bu):Prop:=(Cc op a b σ).bD k
noncomputable def qK(o:Option V):cE:=match o with
 |some v=> .h v|Option.none=> .a
def tK(i:V)(o:aG)(σ:af):cp:=match o with
 | .u X=>cE.i (dW i λi=> .b (0<=i) X[i.toNat]?) σ| .F f=>cE.i (gH i λx=>qK (eS x f)) σ|_=> .a
def Cd(o i:V)(σ:af):cp:=match o with
 | .D X=>cE.i (dW i λi=> .b (0<=i/\i<1000) X[i.toNat]?) σ| .u X=>cE.i (dW i λi=> .b (0<=i/\i<1000000) X[i.toNat]?) σ| .e s=>cE.i (dW i λi=> .m (-1000000000<=i/\i<=1000000000) (gT s i)) σ| .c f=>cE.i (gH i λx=>qK (eS x f)) σ|o=>kP σ o λ_ o=>tK i o σ
abbrev pf(o i:V)(σ:af)(k:bu):Prop:=(Cd o i σ).bD k
def xx(lo hi:Option Int)(σ:af)(_:Nat)(o:aG):cp:=nQ o λx=> .h (.o (aQ σ)) (cH σ (.u (np x lo hi)))
def Ce(o l u:V)(σ:af):cp:=eM (nR l) λL=>eM (nR u) λh=>match o with
 | .e s=> .h (.e (eX s L h)) σ|o=>kP σ o (xx L h σ)
abbrev LY(o l u:V)(σ:af)(k:bu):Prop:=(Ce o l u σ).bD k
def Cf(o i v:V)(σ:af):cp:=kP σ o λj o=>uL o λf=>eM (sn i) λx=> .bM (f.length<=800) .g (eY j (.F (gb x v f)) σ)
abbrev LZ(o i v:V)(σ:af)(k:af->Prop):Prop:=(Cf o i v σ).bD λ_ σ=>k σ
def BX(s:List Addr):List Addr->Bool
 |[]=>false|D::r=>match cV D s with
  |true=>true|false=>BX s r
def L3{α:Type}(t:List (Nat×α)):List Addr->Bool
 |[]=>true|D::r=>(br D t).isSome&&L3 t r
def xy(σ:af)(_:Nat)(o:aG):cp:=nQ o λx=> .h (.q x.length) σ
def wM(y:V)(σ:af)(i:Nat)(o:aG):cp:=match o with
 | .u x=> .bM (x.length<sizeLine) .g (eY i (.u (x++[y])) σ)| .d b x=> .bM (b+(x.length:Int)<(sizeLine:Int)) .g (eY i (.d b (x++[y])) σ)|_=> .a
def L4(b:gs)(a:V)(σ:af):cp:=match b with
 | .p=>cE.i (gH a λs=>match s.cps.toList with
  |[c]=> .h (.q c)|_=> .a) σ
 | .e=>cE.i (dW a λi=> .bM (0<=i/\i<10^9) (.e (a' (toString i)))) σ| .r=>cE.i (dW a λm=> .bM (0<=m/\m<1000000) (.v m.toNat)) σ| .n=>match a with
  | .c f=> .bM (f.length<=900) (.o (aQ σ)) (cH σ (.F f))|_=> .a
 | .j=>match a with
  | .c f=> .h (.m (.c f)) σ|_=> .a
 | .o=>match a with
  | .m d=>match d with
   | .c f=> .bM (f.length<64/\∀p∈f,p.1.length<=sizeLine) (.o (aQ σ)) (cH σ (.u ((ku (f.map (·.1))).map .e)))|_=> .a
  |_=> .a
 | .k=>match a with
  | .e s=> .h (.q s.length) σ|a=>kP σ a (xy σ)
 | .f=>kP σ a λi o=>nQ o λx=> .j x λy=>eY i (.u y) σ|_=> .a
def L5(T:dq)(b:gs)(x y:V)(σ:af):cp:=match b with
 | .g=>match x with
  | .p C _=>eM (br C T.h) λc=>match y with
   | .h D=>eM (br D T.h) λ_=> .h (.l (cV D c.d)) σ| .D X=>eM (uP X) λl=>mA (L3 T.h l) (.h (.l (BX c.d l)) σ)|_=> .a
  |_=> .a
 | .i=>cE.i (gH x λa=>gH y λb=> .h (.l (m8 a b))) σ| .h=>eM (sn x) λs=>kP σ y λ_ o=>nQ o λX=>eM (nF X) λl=> .bM (tE s l=true) (.e (z6 s l)) σ| .q=>cE.i (dW x λa=>dW y λb=> .h (.q (if b>a then b else a))) σ| .a=>kP σ x (wM y σ)| .f=>kP σ x λi o=>nQ o λX=>eM (ME y) λq=> .b (0<=q) X[q.toNat]? (eY i (.u (X.eraseIdx q.toNat)) σ)|_=> .a
def uI(T:dq)(b:gs)(args:List V)(σ:af):cp:=match args with
 |[]=> .a|x::r=>match r with
  |[]=>L4 b x σ|y::r=>match r with
   |[]=>L5 T b x y σ|_::_=> .a
abbrev Wp(T:dq)(b:gs)(args:List V)(σ:af)(k:bu):Prop:=(uI T b args σ).bD k
inductive sd where
 |a|cy (g:Addr) (vs:List V)|j (b:gs) (args:List V)|c (D:Addr) (frz:Bool) (g:Addr) (vs:List V)
noncomputable def jY{α:Type}(o:Option α)(f:α->sd):sd:=match o with
 |some c=>f c|Option.none=> .a
def pG(T:dq)(f:V)(args:List V)(k:List (Nat×V))(m:Nat):sd:=match f with
 | .cy g=>jY (br g T.a) λm=>jY (ll m.a m.b args k) λv=> .cy g v| .E D i g=>jY (br g T.a) λm=>jY (ll m.a m.b (.k D i::args) k) λv=> .cy g v| .j b=>match k with
  |[]=> .j b args|_::_=> .a
 | .h D=>jY (br D T.h) λc=>jY c.e λg=>jY (br g T.a) λd=>jY (ll d.a d.b (.k D m::args) k) λv=> .c D c.f g v|_=> .a
def mG(D:Addr)(f:Bool)(m:Nat)(v:V)(σ:af):cp:=mA (ot v) (match f with
 |false=> .h (.k D m) σ|true=>eM (cn m σ) λo=>match o with
  | .a F=> .bM (fF m F/\bo m (eF m σ)) (.p D F) (eF m σ)|_=> .a)
section
variable (T:dq) (C:eN)
def fS(f:V)(args:List V)(K:List (Nat×V))(σ:af)(k:bu):Prop:=match pG T f args K (aQ σ)with
 | .a=>False| .cy g c=>C g c σ k| .j b A=>(uI T b A σ).bD k| .c D F g c=>C g c (cH σ (.a [])) λv a=>(mG D F (aQ σ) v a).bD k
inductive oQ where
 |a|h (f:V) (first:List V)
noncomputable def ir{α:Type}(o:Option α)(f:α->oQ):oQ:=match o with
 |some c=>f c|Option.none=> .a
noncomputable def B8(f i:Nat)(o:aG):oQ:=match o with
 | .u _=>match f with
  |0=> .h (.j .a) [.o i]|1=> .h (.j .f) [.o i]|_=> .a
 | .d _ _=>match f with
  |0=> .h (.j .a) [.o i]|_=> .a
 |_=> .a
def mH(f:Nat)(o:V)(σ:af):oQ:=match o with
 | .k D i=>ir (br D T.h) λc=>ir (cn i σ) λo=>match o with
  | .a F=>match aH f F with
   |some v=>match cV f c.a with
    |true=> .h v []|false=> .a
   |Option.none=>ir (br f c.b) λg=> .h (.cy g) [.k D i]
  |_=> .a
 | .e s=>match f with
  |3=> .h (.j .h) [.e s]|4=> .h (.j .i) [.e s]|_=> .a
 | .c F=>match f with
  |6=> .h (.j .j) [.c F]|7=> .h (.j .n) [.c F]|_=> .a
 | .o i=>ir (cn i σ) λo=>B8 f i o|_=> .a
def oD(f:Nat)(o:V)(σ:af)(k:V->List V->af->Prop):Prop:=match mH T f o σ with
 | .a=>False| .h F first=>k F first σ
structure xM where
 az:ah->af->bu->Prop
 a:ah->af->(Bool->af->Prop)->Prop
 c:ah->af->(List V->af->Prop)->Prop
 h:ah->af->(List (Nat×V)->af->Prop)->Prop
def bN(e:ah->af->bu->Prop):xM:=⟨e,λl b k=>e l b λx a=>eh x a k,λ_ _ _=>False,λ_ _ _=>False⟩
def hV(e:ah->af->bu->Prop)(t:ah->af->(Bool->af->Prop)->Prop):xM:=⟨e,t,λ_ _ _=>False,λ_ _ _=>False⟩
noncomputable def iO(l:ah->af->(List V->af->Prop)->Prop)(n:ah->af->(List (Nat×V)->af->Prop)->Prop):xM:=⟨λ_ _ _=>False,λ_ _ _=>False,l,n⟩
def ae:aq->xM
 | .g=>bN λ_ j k=>k .g j| .l b=>bN λ_ j k=>k (.l b) j| .q i=>bN λ_ j k=>k (.q i) j| .e s=>bN λ_ j k=>k (.e s) j| .d x=>bN λL j k=>match aH x L with
  |some v=>k v j|Option.none=>False
 | .G x=>bN λ_ j k=>match br x T.b with
  |some v=>k v j|Option.none=>False
 | .w o f=>bN λL j k=>(ae o).az L j λv d=>sX T f v d k| .H O a b=>bN λL j k=>(ae a).az L j λx d=>(ae b).az L d λy g=>pe O x y g k| .M a=>bN λL j k=>(ae a).az L j λx d=>LT x d k| .n a=>hV (λL j k=>(ae a).az L j λx d=>eh x d λb g=>k (.l (!b)) g) λL j k=>(ae a).a L j λb d=>k (!b) d| .y O a b=>hV (λL j k=>(ae a).az L j λx d=>(ae b).az L d λy g=>jv O x y g k) λL j k=>(ae a).az L j λx d=>(ae b).az L d λy g=>jv O x y g λz m=>eh z m k| .J O A a b c=>hV
   (λL j k=>(ae a).az L j λx d=>(ae b).az L d λy g=>jv O x y g λz m=>eh z m λt n=>eD t ((ae c).az L n λY p=>jv A y Y p k) (k z n))
   λL j k=>(ae a).az L j λx d=>(ae b).az L d λy g=>jv O x y g λz m=>eh z m λt n=>eD t ((ae c).az L n λY p=>jv A y Y p λZ w=>eh Z w k) (k false n)
 | .C a b=>hV (λL j k=>(ae a).az L j λx d=>eh x d λc g=>eD c ((ae b).az L g k) (k x g)) λL j k=>(ae a).a L j λc d=>eD c ((ae b).a L d k) (k false d)| .A a b=>hV (λL j k=>(ae a).az L j λx d=>eh x d λc g=>eD c (k x g) ((ae b).az L g k)) λL j k=>(ae a).a L j λc d=>eD c (k true d) ((ae b).a L d k)| .B t a b=>hV (λL j k=>(ae t).a L j λc d=>eD c ((ae a).az L d k) ((ae b).az L d k)) λL j k=>(ae t).a L j λc d=>eD c ((ae a).a L d k) ((ae b).a L d k)| .z f B D=>bN λL j k=>(ae f).az L j λv d=>(ae B).c L d λq g=>(ae D).h L g λK m=>fS T C v q K m k| .E o f B D=>bN λL j k=>(ae o).az L j λv d=>oD T f v d λF first g=>(ae B).c L g λq m=>(ae D).h L m λK n=>fS T C F (jD first q) K n k
 | .m o i=>bN λL j k=>(ae o).az L j λx d=>(ae i).az L d λy g=>pf x y g k| .K o l u=>bN λL j k=>(ae o).az L j λx d=>(ae l).az L d λy g=>(ae u).az L g λz m=>LY x y z m k| .D X=>bN λL j k=>(ae X).c L j λq d=>match k0 (aQ q) 60 with
  |true=>k (.D q) d|false=>False
 | .u X=>bN λL j k=>(ae X).c L j λq d=>match k0 (aQ q) 60 with
  |true=>k (.o (aQ d)) (cH d (.u q))|false=>False
 | .L i a=>bN λL j k=>(ae a).az L j λv d=>(xG i v).bD d k| .F _=>bN λ_ _ _=>False| .N _ _ _ _=>bN λ_ _ _=>False| .j=>iO (λ_ j k=>k [] j) (λ_ j k=>k [] j)| .p h t=>iO (λL j k=>(ae h).az L j λv d=>(ae t).c L d λq g=>k (v::q) g) λ_ _ _=>False| .I x e r=>iO (λ_ _ _=>False) λL j k=>(ae e).az L j λv d=>(ae r).h L d λq g=>k ((x,v)::q) g
noncomputable def wN(o:Option aG):Option (List V):=match o with
 |some o=>match o with
  | .u x=>au x|_=>ct
 |Option.none=>ct
theorem Ch{o:Option aG}{xs:List V}(h:wN o=au xs):o=au (.u xs):=by
 cases o with
 |none=>(injection h;done)|some o=>cases o with
  |u _=>(injection h with z;subst z);rfl|_=>exact cP h
def j_(v:V)(σ:af):Option (List V):=
 match v with
 | .o j=>wN (cn j σ)| .u X=>au X| .D X=>au X| .v n=>au ((n9 n).map λ(k:Nat)=> .q (k:Int))| .e x=>au (x.cps.toList.map λc=> .e ⟨#[c]⟩)| .t b=>au (b.toList.map λc=> .q (c.toNat:Int))|_=>ct
noncomputable def mI(v:V)(xs:List V):Option (Nat×List V):=
 match v with
 | .o j=>au (j,xs)|_=>ct
def ji(s:Option (Nat×List V))(σ:af):Prop:=match s with
 |some (j,a)=>cn j σ=au (.u a)|Option.none=>True
noncomputable def xJ:V->Option (List V)
 | .D x=>au x|_=>ct
theorem Xx{x:V}{D:List V}(h:xJ x=au D):x=.D D:=by
 cases x with
 |D _=>(injection h with z;subst z);rfl|_=>exact cP h
noncomputable def kW:aq->Option Nat
 | .d x=>au x|_=>ct
theorem vM{x:aq}{D:Nat}(h:kW x=au D):x=.d D:=by
 cases x with
 |d _=>(injection h with z;subst z);rfl|_=>exact cP h
def mS:aq->List V->ah->Option ah
 | .j,a,l=>match a with
  |[]=>au l|_::_=>ct
 | .p t r,a,l=>match a with
  |[]=>ct|v::a=>match kW t with
   |some x=>mS r a (aU x v l)|Option.none=>ct
 |_,_,_=>ct
def jT(t:aq)(v:V)(lm:ah)(σ:af)(k:ah->af->Prop):Prop:=
 match t with
 | .d x=>k (aU x v lm) σ| .w o f=>(ae T C o).az lm σ λO a=>aj T f O v a λb=>k lm b| .m o i=>(ae T C o).az lm σ λO a=>(ae T C i).az lm a λI b=>LZ O I v b λc=>k lm c|_=>False
def sY:aq->V->ah->af->(ah->af->Prop)->Prop
 | .j,_,L,b,k=>k L b| .p t r,v,L,b,k=>jT T C t v L b λl a=>sY r v l a k|_,_,_,_,_=>False
def iU(r:ah->af->(bH->ah->af->Prop)->Prop)(k:bH->ah->af->Prop)(fl:bH)(lm:ah)(σ:af):Prop:=match fl with
 | .a=>r lm σ k| .g=>k .g lm σ| .b=>k .b lm σ| .f v=>k (.f v) lm σ
def nE(I:ah->af->Prop)(k:bH->ah->af->Prop)(fl:bH)(lm:ah)(σ:af):Prop:=match fl with
 | .a=>I lm σ| .b=>I lm σ| .g=>k .a lm σ| .f v=>k (.f v) lm σ
def bj:ag->ah->af->(bH->ah->af->Prop)->Prop
 | .j,l,h,k=>k .a l h| .d s r,l,h,k=>bj s l h (iU (bj r) k)| .p,l,h,k=>k .a l h| .g,l,h,k=>k .g l h| .l e,l,h,k=>(ae T C e).az l h λ_ d=>k .a l d| .f e,l,h,k=>(ae T C e).az l h λv d=>k (.f v) l d| .i t e,l,h,k=>(ae T C e).az l h λv d=>jT T C t v l d λL g=>k .a L g| .m p e,l,h,k=>(ae T C e).az l h λv d=>sY T C p v l d λL g=>k .a L g| .h t O e,l,h,k=>match t with
  | .d x=>match aH x l with
   |some v=>(ae T C e).az l h λy d=>rU O v y d λz g=>k .a (aU x z l) g|Option.none=>False
  | .w o f=>(ae T C o).az l h λq d=>sX T f q d λv g=>(ae T C e).az l g λy i=>rU O v y i λz j=>aj T f q z j λn=>k .a l n|_=>False
 | .B c a b,l,h,k=>(ae T C c).a l h λt d=>eD t (bj a l d k) (bj b l d k)| .k c a,l,h,k=>∃I:Nat->ah->af->Prop,(∃m,I m l h)/\∀m l h,I m l h->(ae T C c).a l h λt d=>eD t (bj a l d (nE (λL g=>∃M,M<m/\I M L g) k)) (k .a l d)| .o t e a,l,h,k=>(ae T C e).az l h λv d=>match j_ v d with
  |Option.none=>False|some X=>∃I:List V->ah->af->Prop,I X l d/\(∀r l h,I r l h->ji (mI v X) h)/\
    (∀y r l h,I (y::r) l h->jT T C t y l h λL g=>ji (mI v X) g/\bj a L g (nE (I r) k))/\(∀l h,I [] l h->k .a l h)
 | .q p e,l,h,k=>(ae T C e).az l h λv d=>match xJ v with
  |some u=>match mS p u l with
   |some L=>k .a L d|Option.none=>False
  |Option.none=>False
 | .n,_,_,_=>False
end
def uH(f:Option (Option Nat))(m:Nat)(vs:List V)(k:bu)(fl:bH)(_:ah)(σ:af):Prop:=match fl with
 | .f v=>(sa f m vs v σ).bD k| .a=>(sa f m vs .g σ).bD k| .g=>False| .b=>False
def aZ(T:dq):Nat->eN
 |0=>λ_ _ _ _=>False|n+1=>λg v a k=>match br g T.a with
  |some m=>e6 (aQ m.a) (aQ v)=true/\bj T (aZ T n) m.c (jC m.a v) a (uH m.iT (aQ a) v k)|Option.none=>False
theorem xz(a b:Nat):e6 a b=decide (a=b):=BT.beq_eq a b
theorem BU{x:Nat}:∀{l:List Nat},cV x l=true↔x∈l
 |[]=>by simp[cV]|y::r=>by
  unfold cV;rw[xz]
  by_cases q:x=y
  ·subst q;simp
  ·simp[q,BU (l:=r)]
theorem BR:∀{l:List Nat},mP l=true↔l.Nodup
 |[]=>by simp[mP]|x::r=>by
  unfold mP;have h:=BU (x:=x) (l:=r);have H:=BR (l:=r);cases q:cV x r with
  |true=>simp[h.mp q]|false=>
   have:x∉r:=λm=>by rw[h.mpr m]at q;(injection q;done)
   simp[this,H]
theorem WB{α:Type}{p:α->Bool}:∀{l:List α},rZ p l=true↔∀x∈l,p x=true
 |[]=>by simp[rZ]|x::r=>by
  unfold rZ;cases q:p x with
  |true=>simp[q,WB (l:=r)]|false=>simp[q]
theorem L7{α:Type}:∀(n:Nat) (l:List α),fn n l=l.drop n
 |0,l=>by cases l<;>rfl
 |_+1,[]=>rfl|n+1,_::l=>L7 n l
theorem gO{α:Type}:∀l:List α,aQ l=l.length
 |[]=>rfl|_::r=>congrArg (· +1) (gO r)
theorem oN{α:Type}:∀l r:List α,jD l r=l++r
 |[],_=>rfl|x::l,r=>congrArg (x::·) (oN l r)
theorem B4{α:Type}:∀(l:List Nat) (r:List α),jC l r=l.zip r
 |[],r=>by cases r<;>rfl
 |_::_,[]=>rfl|x::l,v::r=>congrArg ((x,v)::·) (B4 l r)
theorem kD{α:Type}:∀(i:Nat) (l:List α),cn i l=l[i]?
 |i,[]=>by cases i<;>rfl
 |0,_::_=>rfl|j+1,_::r=>kD j r
theorem jH{α:Type}(v:α):∀(l:List α) (i:Nat),eY i v l=l.set i v
 |[],i=>by cases i<;>rfl
 |_::_,0=>rfl|x::r,j+1=>congrArg (x::·) (jH v r j)
theorem uC{α:Type}(x:Nat):∀l:List (Nat×α),br x l=l.lookup x
 |[]=>rfl|(y,w)::r=>by
  rw[j3,br,xz,uC x r]
  by_cases q:x=y
  ·subst q;simp
  ·rw[show(x==y)=false from beq_eq_false_iff_ne.mpr q];simp[q]
section
variable {B:aK} {F:cM} {n:Nat} {lm:ah} {σ:af} {k:bu} {pos:Pos}
def LO(B:aK)(x:Nat)(mv:V):Prop:=∃v,(B.e (B.aA x)=au v\/(B.e (B.aA x)=none/\B.h (B.aA x)=au v))/\∀W σ s,aS B W σ s->aY B W v mv
theorem bh.G{x:Nat}{mv:V}(G:gR B)(D:LO B x mv)(I:F.a.kind=.function)(K:∀L,(F.bA L).kindOf (B.aA x)=au .globalImplicit)(M:(B.aA x==("__debug__":Str))=false)(h:k mv σ):
  bh B F n (.Name (B.aA x) pos) lm σ k:=λA W T L Q U X R Y Z=>by
 (refine ap D λa0 C O=>?_;clear D);have N:=G.e.keeps R.j;have P:=G.h.keeps R.j;have a1:=Z a0 T W mv σ h R .a (O W σ T R);rcases C with C|⟨C,S⟩
 ·exact Name_function_global I (K L) (loadGlobal_global (env:=F.bA L) N C a1) M
 ·exact Name_function_global I (K L) (loadGlobal_builtin (env:=F.bA L) N C P S a1) M
noncomputable def uz:Expr->Bool
 | .Call (.Name ..) [] [] _=>false|_=>true
theorem MG{o:Expr}{a:Str}{env:Env}{w:NO Value}(h:uz o=true):attributeBase o a env w=w:=by
 cases o with
 |Call f A k _=>cases f with
  |Name=>cases A with
   |cons=>rfl|nil=>cases k with
    |cons=>rfl|nil=>(injection h;done)
  |_=>rfl
 |_=>rfl
theorem bh.w{o:Expr}{a:Str}(ho:uz o=true)(h:bh B F n o lm σ λx C=>jr B n (λv=>getAttr v a true) x C k):bh B F n (.Attribute o a pos) lm σ k:=
 λA W a2 L Q a3 a4 R a5 a6=>by
 rw[arm_eval_Attribute,MG ho];refine cT (h A W a2 L _ a3 a4 R a5 λvo S D ov C I K M N=>cT (kF (cT (il (I A D S vo _ a3 a4 K N λY Z a0 a1 X O P T U=>?_)))));exact cT (wpAny_letTemporaryGo (fe (a6 _ _ _ _ _ O P (M.e T) U)))
end
section
variable (B:aK) (F:cM) (n:Nat)
def oO(f:V):Prop:=∀W σ s v,aS B W σ s->aY B W v f->∃k,(k=I0\/k=z9\/k=u6)/\Looks B.b s.heap (keeperOf v) k
def iZ(ks:List Keyword)(lm:ah)(σ:af)(k:List (Nat×V)->af->Prop):Prop:=
 ∀A W s L Q E,eZ A n->aS B W σ s->dF B F W L lm s.heap->(∀v S w K a,k K a->K.map (λp=>au (B.aA p.1))=ks.map (·.arg)->aS B w a S->cK W s.heap w S.heap->bp B w v (K.map (·.2))->Q v S)->
  ∀pos,hJ B.b A (evalAll ((backToKw pos (keywordEach ks (F.bA L))).map (·.2))) Q E s
end
section
variable {B:aK} {F:cM} {n:Nat} {lm:ah} {σ:af} {pos:Pos}
theorem iZ.j{k:List (Nat×V)->af->Prop}(h:k [] σ):iZ B F n [] lm σ k:=λA W s L Q E r R f P pos=>wpAny_evalAll_nil (P _ s W _ σ h rfl R .a .j)
theorem iZ.p{x:Nat}{e:Expr}{q:Pos}{ks:List Keyword}{k:List (Nat×V)->af->Prop}(h:bh B F n e lm σ λv b=>iZ B F n ks lm b λK a=>k ((x,v)::K) a):
  iZ B F n (⟨au (B.aA x),e,q⟩::ks) lm σ k:=λA W s L Q E r R f P pos=>by
 show hJ _ _ (evalAll ((do let v←eval e (F.bA L);standAt pos;pure v)::(backToKw pos (keywordEach ks (F.bA L))).map (·.2))) Q E s;refine wpAny_evalAll_cons (cT (h A W s L _ E r R f λC S w v b H i d l=>cT (kF (fe ?_))));exact H A w S L _ E r i (f.a d) (λD m o K a t z u g y=>P _ m o _ a t (by simp[z]) u (d.e g) (.p (l.c g.i) y)) pos
def kM(es:List Expr):Bool:=es.all λe=>!isStarred e
theorem Cq{e:Expr}(h:isStarred e=false)(es:List Expr)(env:Env):starEach (e::es) env=(false,eval e env)::starEach es env:=by cases e<;>first|rfl|(injection h;done)
theorem X_{env:Env}{pos:Pos}:∀{es:List Expr},kM es=true->(backTo pos (starEach es env)).any (·.1)=false
 |[],_=>rfl|e::es,h=>by simp only[kM,i',di,ib]at h;rw[Cq h.1];show(false||(backTo pos (starEach es env)).any (·.1))=false;rw[X_ (by simpa [kM]using h.2)];rfl
theorem X'{env:Env}{pos:Pos}:∀{es:List Expr},kM es=true->(backTo pos (starEach es env)).all (!·.1)=true
 |[],_=>rfl|e::es,h=>by simp only[kM,i',di,ib]at h;rw[Cq h.1];show(!false&&(backTo pos (starEach es env)).all (!·.1))=true;rw[X' (by simpa [kM]using h.2)];rfl
noncomputable def lO(ks:List Keyword):Bool:=ks.all (·.arg.isSome)
theorem Cr{env:Env}{pos:Pos}:∀{ks:List Keyword},lO ks=true->(backToKw pos (keywordEach ks env)).all (·.1.isSome)=true
 |[],_=>rfl|⟨a,e,q⟩::ks,h=>by simp only[lO,i',di]at h;show(a.isSome&&(backToKw pos (keywordEach ks env)).all (·.1.isSome))=true;rw[h.1,Cr (by simpa [lO]using h.2)];rfl
theorem Yb{env:Env}{pos:Pos}:∀{ks:List Keyword},lO ks=true->(backToKw pos (keywordEach ks env)).any (·.1.isNone)=false
 |[],_=>rfl|⟨a,e,q⟩::ks,h=>by simp only[lO,i',di]at h;show(a.isNone||(backToKw pos (keywordEach ks env)).any (·.1.isNone))=false;rw[Yb (by simpa [lO]using h.2)];cases a<;>first|rfl|(simp at h)
theorem MH{env:Env}{pos:Pos}:∀{ks:List Keyword},(backToKw pos (keywordEach ks env)).filterMap (·.1)=ks.filterMap (·.arg)
 |[]=>rfl|⟨a,e,q⟩::ks=>by show V1 (·.1) ((a,_)::backToKw pos (keywordEach ks env))=_;rw[su,su,MH]
theorem MI{A:j9}{W:aD}{s:Shared}{L:Addr}{l:Value}{f:V}{m:List Value}{first:List V}{es:List Expr}{ks:List Keyword}{k:bu}{Q E:Value->Shared->Prop}
  (D:kM es=true)(hn:lO ks=true)(r:eZ A n)(R:aS B W σ s)(N:dF B F W L lm s.heap)(O:aY B W l f)(G:bp B W m first)
  (h:gQ B F n es lm σ λvs b=>iZ B F n ks lm b λd a=>oO B f/\eW B n f (first++vs) d a k)(p:jq B W s.heap k Q):
  hJ B.b A (callWith pos l m (backTo pos (starEach es (F.bA L))) (backToKw pos (keywordEach ks (F.bA L)))) Q E s:=by
 refine callWith_of (P:=λh=>∃k,(k=I0\/k=z9\/k=u6)/\Looks B.b h (keeperOf l) k) (by rw[X_ D,Yb hn];rfl) (λh x=>x) ?_;have K:hJ B.b A (spliced (backTo pos (starEach es (F.bA L)))) (λvs c=>hJ B.b A (evalAll ((backToKw pos (keywordEach ks (F.bA L))).map (·.2)))
   (λd S=>(∃k,(k=I0\/k=z9\/k=u6)/\Looks B.b S.heap (keeperOf l) k)/\
    hJ B.b A (call l (m++vs) (((backToKw pos (keywordEach ks (F.bA L))).filterMap (·.1)).zip d)) Q E S) E c) E s:=by
  refine h A W s L _ E r R N (λvs c o X b t u g y=>?_) pos;refine t A o c L _ E r u (N.a g) (λz S w d a H T i j v=>?_) pos;have e:=g.e j;refine(ai (H.1 w a S l i (O.c e.i)) (H.2 A w S l _ _ Q E r i (O.c e.i) (bp.b (y.c j.i) (G.c e.i)) ?_ ?_ (p.a e)))
  ·rw[MH];have I:z.length=d.length:=by rw[v.a];simp
   have J:(ks.filterMap (·.arg))=d.map λp=>B.aA p.1:=by
    have:ks.filterMap (·.arg)=(ks.map (·.arg)).filterMap id:=by simp[pq]
    rw[this,←T];simp[pq]
   rw[J,J9 (by simp[I])]
  ·rw[MH];have I:z.length=d.length:=by rw[v.a];simp
   have J:(ks.filterMap (·.arg))=d.map λp=>B.aA p.1:=by
    have:ks.filterMap (·.arg)=(ks.map (·.arg)).filterMap id:=by simp[pq]
    rw[this,←T];simp[pq]
   rw[J,J' (by simp[I])];exact v
 cases es with
 |nil=>refine evalArgs_kw_nil (Cr hn) ?_;have:spliced (backTo pos (starEach [] (F.bA L)))=pure []:=rfl;rw[this]at K;exact λU q C=>K U q C U q C|cons e es=>
  have M:isStarred e=false:=by simp only[kM,i',di,ib]at D;exact D.1
  rw[Cq M]at K⊢;exact evalArgs_kw (Cr hn) K
theorem bh.z{O:Expr}{es:List Expr}{ks:List Keyword}{k:bu}(T:∀env,eval (.Call O es ks pos) env=(do callWith pos (←eval O env) [] (backTo pos (starEach es env)) (backToKw pos (keywordEach ks env))))(U:kM es=true)(hn:lO ks=true)
  (h:bh B F n O lm σ λf x=>gQ B F n es lm x λvs D=>iZ B F n ks lm D λX I=>oO B f/\eW B n f vs X I k):bh B F n (.Call O es ks pos) lm σ k:=
 λA W Z L Q a0 a1 R f a2=>by
 rw[T];exact cT (h A W Z L _ a0 a1 R f λY S P a3 x K M C N=>MI U hn a1 M (f.a C) N .j K (a2.a C))
theorem bh.E{o:Expr}{a:Str}{q:Pos}{es:List Expr}{ks:List Keyword}{k:bu}(ho:uz o=true)(hp:(q.endLine==pos.line)=true)(hl:es.length+ks.length<29)(Z:kM es=true)(hn:lO ks=true)
  (h:bh B F n o lm σ λx C=>∃f first,lS B n a x C f first/\gQ B F n es lm C λvs M=>iZ B F n ks lm M λkv N=>oO B f/\eW B n f (first++vs) kv N k):bh B F n (.Call (.Attribute o a q) es ks pos) lm σ k:=
 λA W a2 L Q a3 a4 R f a5=>by
 rw[arm_eval_Call,MG ho];have X:methodCallForm (es.length+ks.length) (backTo pos (starEach es (F.bA L))) (backToKw pos (keywordEach ks (F.bA L)))=true:=by
  delta methodCallForm;rw[X' Z,Cr hn];have:(es.length+ks.length+if(backToKw pos (keywordEach ks (F.bA L))).isEmpty=true then 0 else 1)<30:=by split<;>lia
  rw[decide_eq_true this];rfl
 delta methodCall;rw[X];refine cT (h A W a2 L _ a3 a4 R f λvo S O x C D P I T=>cT (kF ?_));refine dJ D λfm first hm D=>?_
 refine cT (il ?_);delta calleeOf;rw[if_pos rfl];refine hm A O S vo _ _ a3 a4 P T λa0 a1 fv vs U K hv Y=>?_
 refine cT (m:=methodCallPos true o (F.bA L) q pos) ?_;delta methodCallPos;rw[if_pos (by rw[hp];rfl)];exact fe (MI Z hn a4 U (f.a (I.e K)) hv Y D (a5.a (I.e K)))
end
theorem MJ(lo hi:Option Int)(n:Nat):n6 lo hi 1 n=sliceRange (sliceBounds lo hi none n).1 (sliceBounds lo hi none n).2.1 1:=by cases lo<;>cases hi<;>rfl
set_option tactic.hygienic true in
theorem Yc(x:Str)(lo hi:Option Int):LW x lo hi=eX x lo hi:=by
 have k:(n6 lo hi 1 x.length).filterMap (x.cps[·]?)=(x.cps.toList.drop (lo.elim 0 (clipAt x.length))).take (hi.elim x.length (clipAt x.length)-lo.elim 0 (clipAt x.length)):=by
  have:=MD x.cps.toList lo hi;rw[MJ];delta T1
  simpa using this
 have H:(n6 lo hi 1 x.length).length=hi.elim x.length (clipAt x.length)-lo.elim 0 (clipAt x.length):=by rw[MJ,u5];simp only[Tr,hZ,List.length_range]
 delta LW eX;split
 ·rename_i h;simp only[beq_self_eq_true,E',beq_iff_eq,H]at h;have a:=MB x.length hi;have b:=MC x.length lo;have e:lo.elim 0 (clipAt x.length)=0:=ea (bS 0xa1321031210813 (cX (bS 0x302113211013 b (o8 _ _) (aJ h.symm))) (aJ h.symm) a) (aO 160);have E:hi.elim x.length (clipAt x.length)=x.length:=ea (aC 1052689 a) (bc 8624607250 (aJ h.symm) (o8 _ _));rw[e,E];cases x with
  |mk c=>simp only[T1,A1,ZO];rw[←hF,List.take_length]
 ·rw[k]
theorem Br(items:Array Value)(lo hi:Option Int):(slicePick items lo hi none).toList=(items.toList.drop (lo.elim 0 (clipAt items.size))).take (hi.elim items.size (clipAt items.size)-lo.elim 0 (clipAt items.size)):=by have:=MD items.toList lo hi;rw[hF]at this;rw[←this];delta slicePick;rw[u5];simp
section
variable {B:aK} {F:cM} {n:Nat} {lm:ah} {σ:af} {k:bu} {pos:Pos}
theorem bh.v{v:Expr}{lo hi:Option Expr}{q:Pos}(h:bh B F n v lm σ λo K=>oR B F n lo lm K λl M=>oR B F n hi lm M λu N=>xw B n o l u N k):
  bh B F n (.Subscript v (.Slice lo hi none q) pos) lm σ k:=λA W c8 L Q c9 d0 R d1 d2=>by
 refine Q' (h A W c8 L _ c9 d0 R d1 λvo Z a0 o K a1 a2 O a3=>wpAny_Slice (a1.bD A a0 Z L _ c9 d0 a2 (d1.a O) λvl a4 a5 l M a6 a7 P a8=>a6.bD A a5 a4 L _ c9 d0 a7 (d1.a (O.e P)) λvu a9 b0 u N b1 b2 S b3=>?_));rw[E7];obtain⟨D,I,hl,hu,⟨T,id,b8,b9⟩,hk⟩:=b1;(refine bY (Mz (a8.c S.i) hl) λql c0 c1 pl=>?_;subst c0);(refine bY (Mz b3 hu) λqu c2 c3 pu=>?_;subst c2);refine cS (b2.n {cls:=.type "slice",data:=.fields #[partValue ql,partValue qu,.none]} rfl) λC Y d3=>?_
 have X:=a3.c ((P.e S).e Y).i;have ee:=(O.e P).e (S.e Y);refine fe ?_;refine Z2 (b9 _ _ vo C X) b8 (ops:=[_,_]) ?_ rfl;rcases hk with⟨x,rfl,hk⟩|⟨d4,xs,rfl,c4,hk⟩
 ··(refine ap X λd5 c5 hx=>?_;clear X;subst c5);refine wpAny_getItem_str_slice (l:=ql) (u:=qu) (st:=none) (bx _ (ix _ rfl) rfl rfl) rfl (post_val_or_str (ai ?_ (λt' kk=>?_)))
   ·show(LW x (ql.map (·.1)) (qu.map (·.1))).length<=sizeLine;exact ef (Txt.slice_le _ _ _) hx
   ·show Q (.str (LW x (ql.map (·.1)) (qu.map (·.1))) t') _;rw[c1,c3,Yc];exact d2 _ _ _ _ _ hk (C.a) ee (.e _ _ (ef (AT _ _ _) hx))
 ·(refine kg (kl C X c4) λd6 U d7 c6 c7 d8 d9 l zz=>?_;subst c6);refine v4 (lo:=D) (hi:=I) (st:=none) (km d8) (Heap.IsSliceOf.new ..) pl pu .none (by simp) ?_ (aC 0x1000000d01000000d111012 (aJ zz) l);have hv:bp B (b0.g a9.heap.objs.size {cls:=.type "slice",data:=.fields #[partValue ql,partValue qu,.none]}) (slicePick U D I none).toList (np xs D I):=by
   rw[Br,zz];exact(d9.m _).e _
  have b4:(np xs D I).length<=sizeLine:=ef (by delta np;rw[h7,ko];exact ef (v5 _ _) (o8 _ _)) l;refine cS (C.s {cls:=.type "list",data:=.seq (slicePick U D I none)} (.u (np xs D I)) (.u (n:=0) (ix _ rfl) hv b4)) λb5 b6 b7=>?_
  exact d2 _ _ _ _ _ hk b5 (ee.e b6) (.o b7)
end
def qd(it:Addr)(h H:Heap):Prop:=∀a o,a≠it->h.get? a=au o->H.get? a=au o
theorem qd.a{it:Addr}{h H:Heap}(x:F' it h H):qd it h H:=λA o n e=>(x.2 A n).trans e
theorem aS.l{B:aK}{W:aD}{σ:af}{s s':Shared}{it:Addr}(R:aS B W σ s)(x:qd it s.heap s'.heap)(H:W.b it=none)(y:it∉W.d)(g:s'.gens=s.gens)(o:s'.os=s.os):aS B W σ s':=⟨R.cm,λA O C=>x _ _ (λQ=>by rw[Q,H]at C;(injection C;done)) (R.b A O C),R.k,λI A M C E=>(R.p I A M C E).b λ_ Q=>x _ _ (λz=>y (z▸g8 C)) Q,R.d,R.e,g.trans R.h,o.trans R.f⟩
theorem dF.l{B:aK}{F:cM}{W:aD}{L it:Addr}{lm:ah}{h H:Heap}(f:dF B F W L lm h)(x:qd it h H)(n:L≠it):dF B F W L lm H:=by obtain⟨A,b,s,m,⟨o,e,E,c,r⟩,D⟩:=f;exact(lG A b s m (ju o e E (x _ _ n c) r) D)
theorem so{α:Type}{l r:List α}{x:α}{i:Nat}(h:l.drop i=x::r):l[i]? =au x/\l.drop (i+1)=r:=by
 have H:(l.drop i)[0]? =au x:=by rw[h];rfl
 rw[F5,w5]at H;refine(ai H ?_);rw[←List.drop_drop,h];rfl
theorem sq{α:Type}{l:List α}{i:Nat}(h:l.drop i=[]):l[i]? =none:=by
 have H:(l.drop i)[0]? =none:=by rw[h];rfl
 rw[F5,w5]at H;exact H
inductive mT(B:aK)(W:aD)(σ:af)(h:Heap)(it:Addr):Option (Nat×List V)->List V->Prop
 |o {j l all i}:W.d[j]? =au l->σ[j]? =au (.u all)->h.IsListIter it l i->mT B W σ h it (au (j,all)) (all.drop i)
 |u {l items m all i}:W.b l=au (listOf items m)->bp B W items.toList all->h.IsListIter it l i->mT B W σ h it none (all.drop i)
 |D {l d items m sl all i}:W.b l=au ⟨.type "tuple",d,.seq items m,sl⟩->bp B W items.toList all->h.IsTupleIter it l i->mT B W σ h it none (all.drop i)
 |v {x left:Nat}:IsRangeIter h it x left 1->mT B W σ h it none ((n9 left).map λ(k:Nat)=> .q ((x+k:Nat):Int))|a {x t i}:h.IsStrIter it "str_ascii_iterator" x t i->mT B W σ h it none ((x.cps.toList.drop i).map λc=> .e ⟨#[c]⟩)|e {x t i}:h.IsStrIter it "str_iterator" x t i->mT B W σ h it none ((x.cps.toList.drop i).map λc=> .e ⟨#[c]⟩)|f {b t i}:KBw.IsBytesIter h it b t i->mT B W σ h it none ((b.toList.drop i).map λc=> .q (c.toNat:Int))
theorem ji.i{src:Option (Nat×List V)}{σ:af}(h:ji src σ){j:Nat}{a:List V}(e:src=au (j,a)):σ[j]? =au (.u a):=by subst e;rw[←kD];exact h
theorem mT.c{B:aK}{W w:aD}{σ σ':af}{h d:Heap}{it:Addr}{src xs}(J:mT B W σ h it src xs)(le:hG W w)(k:∀o,h.get? it=au o->d.get? it=au o)(g:ji src σ'):mT B w σ' d it src xs:=by
 cases J with
 |o A i C=>(refine ap C λo H r=>?_;clear C);exact .o (le.g A) (g.i rfl) (aE o (k _ H) r)|u A i C=>(refine ap C λo H r=>?_;clear C);exact .u (le.b _ _ A) (i.c le) (aE o (k _ H) r)|D A i C=>(refine ap C λo H r=>?_;clear C);exact .D (le.b _ _ A) (i.c le) (aE o (k _ H) r)|v A=>exact .v (k _ A)|a C=>(refine ap C λo H r=>?_;clear C);exact .a (aE o (k _ H) r)|e C=>(refine ap C λo H r=>?_;clear C);exact .e (aE o (k _ H) r)|f C=>(refine ap C λo H r=>?_;clear C);exact .f (aE o (k _ H) r)
theorem mT.b{B:aK}{W:aD}{σ:af}{h:Heap}{it:Addr}{src xs}(J:mT B W σ h it src xs):∃o,h.get? it=au o:=by
 cases J with
 |o A d C|u A d C|D A d C=>(refine ap C λo H _=>?_;clear C);exact(ba o H)|v A=>exact(ba _ A)|a C|e C|f C=>(refine ap C λo H _=>?_;clear C);exact(ba o H)
section
variable {B:aK} {A:j9} {W:aD} {σ:af} {s:Shared} {it:Addr} {src:Option (Nat×List V)} {Q:Option Value->Shared->Prop} {E:Value->Shared->Prop}
theorem Yd{x:V}{r:List V}(R:aS B W σ s)(J:mT B W σ s.heap it src (x::r))(N:W.b it=none)(L:it∉W.d)
  (M:∀s' v,aS B W σ s'->qd it s.heap s'.heap->aY B W v x->mT B W σ s'.heap it src r->Q (au v) s'):hJ B.b A (pyNext (.ref it)) Q E s:=by
 generalize h:x::r=xs at J;cases J with
 | @o j l P i a0 b c=>
  refine aV (so h.symm) λH n=>?_
  refine kg (kl (v:=.ref l) R (.o a0) b) λal I m G _ g a1 ln z=>?_
  (injection G with Z;subst Z);refine ap (a1.g H) λv p q=>?_
  refine w6 c (km g) (by rw[←ey];exact p) λw C S=>?_
  exact M _ v (R.l (.a S) N L rfl rfl) (.a S) q (n▸.o a0 b C)
 | @u l I m P i a0 b c=>
  refine aV (so h.symm) λH n=>?_
  refine ap (b.g H) λv p q=>?_
  refine w6 c (km (R.b _ _ a0)) (by rw[←ey];exact p) λw C S=>?_
  exact M _ v (R.l (.a S) N L rfl rfl) (.a S) q (n▸.u a0 b C)
 | @D l d I m sl P i a0 b c=>
  refine aV (so h.symm) λH n=>?_
  refine ap (b.g H) λv p q=>?_
  refine wpAny_pyNext_tuple_item c (rE _ (R.b _ _ a0) rfl m rfl) (by rw[←ey];exact p) λw C S=>?_
  exact M _ v (R.l (.a S) N L rfl rfl) (.a S) q (n▸.D a0 b C)
 | @v a0 left c=>
  cases left with
  |zero=>simp at h|succ k=>
   rw[qp,ic]at h;refine aV (hX h) λG O=>?_
   refine wpAny_pyNext_range_item c (g7.2 (aO 0x1a081a0a80)) λw C S=>?_
   refine M _ _ (R.l (s':={s with heap:=w,toks:=s.toks+1}) (.a S) N L rfl rfl) (.a S) ?_ ?_
   ·rw[G];exact .q _ _
   ·have U:IsRangeIter w it (((a0+1:Nat):Nat):Int) ((k:Nat):Int) 1:=by
     have X:(a0:Int)+1=((a0+1:Nat):Int):=by trivial
     have Y:((k+1:Nat):Int)-1=((k:Nat):Int):=by lia
     rw[X,Y]at C;exact C
    have:r=(n9 k).map λ(j:Nat)=>V.q ((a0+1+j:Nat):Int):=by
     rw[O,qA];refine E4 λj _=>?_
     show V.q ((a0+(j+1):Nat):Int)=_
     congr 2;exact ea (aC 0x11a0881a18080) (aC 0x1a180811a0880)
    rw[this];exact .v U
 | @a y t i c=>
  cases F:y.cps.toList.drop i with
  |nil=>rw[F]at h;(injection h;done)|cons T K=>
   rw[F,ic]at h;refine aV (hX h) λG O=>?_
   refine aV (so F) λH n=>?_
   refine wpAny_pyNext_ascii_item c (by rw[←ey];exact H) λw C S=>?_
   refine M _ _ (R.l (s':={s with heap:=w,toks:=s.toks+1}) (.a S) N L rfl rfl) (.a S) ?_ ?_
   ·rw[G];exact .e _ _ (by show 1<=sizeLine;rw[bw];decide)
   ·rw[O,←n];exact .a C
 | @e y t i c=>
  cases F:y.cps.toList.drop i with
  |nil=>rw[F]at h;(injection h;done)|cons T K=>
   rw[F,ic]at h;refine aV (hX h) λG O=>?_
   refine aV (so F) λH n=>?_
   refine wpAny_pyNext_wide_item c (by rw[←ey];exact H) λw C S=>?_
   refine M _ _ (R.l (s':={s with heap:=w,toks:=s.toks+1}) (.a S) N L rfl rfl) (.a S) ?_ ?_
   ·rw[G];exact .e _ _ (by show 1<=sizeLine;rw[bw];decide)
   ·rw[O,←n];exact .e C
 | @f b t i c=>
  cases F:b.toList.drop i with
  |nil=>rw[F]at h;(injection h;done)|cons T K=>
   rw[F,ic]at h;refine aV (hX h) λG O=>?_
   refine aV (so F) λH n=>?_
   refine KBw.next_item c (c:=T) (by rw[←ey];exact H) λw C S=>?_
   refine M _ _ (R.l (s':={s with heap:=w,toks:=s.toks+1}) (.a S) N L rfl rfl) (.a S) ?_ ?_
   ·rw[G];exact .q _ _
   ·rw[O,←n];exact .f C
end
section
variable {B:aK} {A:j9} {W:aD} {σ:af} {s:Shared} {it:Addr} {src:Option (Nat×List V)} {E:Value->Shared->Prop}
theorem Ye{Q:Option Value->Shared->Prop}(p:A.handled=none)(R:aS B W σ s)(J:mT B W σ s.heap it src [])(N:W.b it=none)(w:it∉W.d)
  (C:∀s',aS B W σ s'->qd it s.heap s'.heap->Q none s'):hJ B.b A (pyNext (.ref it)) Q E s:=by
 have F:∀r,Heap.ExtBut it s.heap r->Q none {s with heap:=r}:=λr x=>C _ (R.l (s':={s with heap:=r}) (λM O n P=>x M O n P) N w rfl rfl) λM O n P=>x M O n P
 generalize h:([]:List V)=X at J;cases J with
 | @o j l q i M b c=>
  have H:=sq h.symm;refine kg (kl (v:=.ref l) R (.o M) b) λK I m G _ g P L z=>?_
  (injection G with Z;subst Z);exact y7 p c (km g) (by rw[ox,z];exact oI.mp H) F
 | @u l I m q i M b c=>have H:=sq h.symm;have z:=b.a;rw[hF]at z;exact y7 p c (km (R.b _ _ M)) (by rw[ox,z];exact oI.mp H) F| @D l d I m S q i M b c=>have H:=sq h.symm;have z:=b.a;rw[hF]at z;exact wpAny_pyNext_tuple_end p c (rE _ (R.b _ _ M) rfl m rfl) (by rw[ox,z];exact oI.mp H) F| @v M left c=>
  cases left with
  |succ k=>simp[qp]at h|zero=>exact wpAny_pyNext_range_end p c (by trivial) F
 | @a y t i c=>have H:=sq (m5.mp h.symm);exact wpAny_pyNext_ascii_end p c (by rw[←ey];exact H) F| @e y t i c=>have H:=sq (m5.mp h.symm);exact wpAny_pyNext_wide_end p c (by rw[←ey];exact H) F| @f b t i c=>have H:=sq (m5.mp h.symm);exact KBw.next_end p c (by rw[←ey];exact H) F
theorem qe{o:Obj}{W:aD}(R:aS B W σ s)(h:o.isFreed=false):aS B W σ {s with heap:=s.heap.push o}/\cK W s.heap W (s.heap.push o)/\W.b s.heap.objs.size=none/\s.heap.objs.size∉W.d/\s.heap.get? s.heap.objs.size=none/\(s.heap.push o).get? s.heap.objs.size=au o:=by refine(TV (R.q (λ_ _ e=>e5 _ e) rfl rfl) ⟨λ_ _ x=>x,λ_ _ x=> .inl x,(aE [] (by simp) (by simp)),λ_ _ e _=>e5 _ e,λ_ O e=>(ba O (e5 _ e)),rfl⟩ R.m R.t (pV _) (ix _ h))
theorem Yg{x:V}{xs:List V}{v:Value}{Q:Value->Shared->Prop}(R:aS B W σ s)(H:aY B W v x)(hi:j_ x σ=au xs)
  (C:∀s' it,aS B W σ s'->cK W s.heap W s'.heap->W.b it=none->it∉W.d->s.heap.get? it=none->mT B W σ s'.heap it (mI x xs) xs->Q (.ref it) s'):hJ B.b A (pyIter v) Q E s:=by
 cases x with
 |o j=>
  (refine kg (kl R H ((kD _ _).symm.trans (Ch hi))) λa items m J K g P O z=>?_;subst J);refine I1 (km g) ?_;refine pQ (qe (o:={cls:=.type "list_iterator",data:=.fields #[.ref a,.int 0 0]}) R rfl) λr c n p q w=>?_
  exact C _ _ r c n p q (.o (i:=0) K ((kD _ _).symm.trans (Ch hi)) (bx _ w rfl rfl))
 |u Y=>
  (injection hi with Z;subst Z);obtain⟨a,_,rfl,F,_,⟨items,m,rfl,rfl⟩,G⟩:=H;refine I1 (km (R.b _ _ F)) ?_;refine pQ (qe (o:={cls:=.type "list_iterator",data:=.fields #[.ref a,.int 0 0]}) R rfl) λr c n p q w=>?_
  exact C _ _ r c n p q (.u (i:=0) F G (bx _ w rfl rfl))
 |D Y=>
  (injection hi with Z;subst Z);obtain⟨a,_,rfl,F,_,⟨d,items,m,S,rfl,rfl⟩,G⟩:=H;refine wpAny_pyIter_tuple (items:=items) (rE _ (R.b _ _ F) rfl m rfl) ?_;refine pQ (qe (o:={cls:=.type "tuple_iterator",data:=.fields #[.ref a,.int 0 0]}) R rfl) λr c n p q w=>?_
  exact C _ _ r c n p q (.D (i:=0) F G (bx _ w rfl rfl))
 |v k=>
  (injection hi with Z;subst Z);obtain⟨a,_,rfl,F,⟨T,U,v,rfl⟩,G⟩:=H;have I:v' 0 (k:Int) 1=((k:Nat):Int):=by unfold v';simp;lia
  refine wpAny_pyIter_range (R.b _ _ F) ?_ ?_
  ·unfold Z';rw[I];have f (z:Int) (h:0<=z/\z<2000000):s9 z=true:=by
    unfold s9;simp;lia
   simp[f (k:Int) (ai (dj 0xa00a11 (jb _)) (dj 0x1e8480d1a0800f4240d1a0811 (g7.2 G))),f 0 (by trivial),f 1 (by trivial)]
   try lia
  rw[I];refine pQ (qe (o:={cls:=.type "range_iterator",data:=.fields #[rawInt 0,rawInt ((k:Nat):Int),rawInt 1]}) R rfl) λr c n p q w=>?_
  refine C _ _ r c n p q ?_;have:(n9 k).map (λ(j:Nat)=>V.q (j:Int))=(n9 k).map λ(j:Nat)=>V.q ((0+j:Nat):Int):=E4 λj _=>by rw[wS]
  rw[this];exact .v (x:=0) (left:=k) w
 |e y=>
  (injection hi with Z;subst Z);(refine ap H λT L l=>?_;clear H;subst L);cases N:y.cps.all (· <128)with
  |true=>
   refine wpAny_pyIter_ascii N ?_;refine pQ (qe (o:={cls:=.type "str_ascii_iterator",data:=.fields #[.str y T,.int 0 0]}) R rfl) λr c n p q w=>?_
   exact C _ _ r c n p q (.a (i:=0) (bx _ w rfl rfl))
  |false=>
   refine wpAny_pyIter_wide N ?_;refine pQ (qe (o:={cls:=.type "str_iterator",data:=.fields #[.str y T,.int 0 0]}) R rfl) λr c n p q w=>?_
   exact C _ _ r c n p q (.e (i:=0) (bx _ w rfl rfl))
 |t b=>
  (injection hi with Z;subst Z);(refine bf H λT M=>?_;clear H;subst M);refine KBw.pyIter_bytes ?_;refine pQ (qe (o:={cls:=.type "bytes_iterator",data:=.fields #[.bytes b T,.int 0 0]}) R rfl) λr c n p q w=>?_
  exact C _ _ r c n p q (.f (i:=0) (bx _ w rfl rfl))
 |_=>(injection hi;done)
end
section
variable {B:aK} {F:cM} {n:Nat} {lm:ah} {σ:af} {k:bH->ah->af->Prop} {pos:Pos}
def MK(B:aK)(F:cM)(L:Addr)(W:aD)(h:Heap)(I:Nat->ah->af->Prop)(m:Nat)(s':Shared):Prop:=∃w l a,I m l a/\aS B w a s'/\fW L W h w s'.heap/\dF B F w L l s'.heap
theorem ec.b{t:Expr}{body:List Stmt}(I:Nat->ah->af->Prop)(m₀:Nat)(h0:I m₀ lm σ)
  (T:∀m lm σ,I m lm σ->eV B F n t lm σ λb j=>(b=true->e_ B F n body lm j (nE (λq u=>∃M,M<m/\I M q u) k))/\(b=false->k .a lm j)):ec B F n (.While t body [] pos) lm σ k:=λA W s L Q E r R a0 a1=>by
 refine wpAny_While (codeAny_whileLoop (MK B F L W s.heap I) (λm K Z=>ro Z λN q j Z=>me Z λhI O P v=>?_) m₀ (jt W lm σ h0 R .a a0));refine T m q j hI A N K L _ _ r O v λb S G u hb H w=>?_
 have a2:=P.e w.h;cases b with
 |false=>exact x7 (a1 _ S G _ q u (hb.2 rfl) H a2 (v.a w) .a)|true=>
  refine(hb.1 rfl) A G S L _ _ r H (v.a w) λfl U X mf x y J z C D hf=>?_
  have next (J:∃M,M<m/\I M x y):∃M,M<m/\MK B F L W s.heap I M U:=ap J λM hl Y=>aE M hl (jt X x y Y z (a2.e C) D)
  cases hf with
  |a=>exact next J|b=>exact next J|g=>exact a1 _ _ _ _ _ _ J z (a2.e C) D .a|f hv=>exact a1 _ _ _ _ _ _ J z (a2.e C) D (.f hv)
theorem dF.d{B:aK}{F:cM}{W:aD}{L it:Addr}{lm:ah}{h:Heap}(f:dF B F W L lm h)(n:h.get? it=none):L≠it:=λq=>by obtain⟨_,_,_,m,⟨o,e,E,H,_⟩,_⟩:=f;rw[q,n]at H;(injection H;done)
theorem fW.l{L it:Addr}{W w:aD}{h k H:Heap}(e:fW L W h w k)(b:qd it k H)(n:h.get? it=none):fW L W h w H:=
 have N {A o} (e:h.get? A=au o):A≠it:=λq=>by rw[q,n]at e;(injection e;done)
 ⟨e.b,e.j,e.d,λA o m q z=>b _ _ (N q) (e.f A o m q z),λA o q=>bf (e.c A o q) λO y=>ba O (b _ _ (N q) y),e.bE⟩
theorem fW.h{L it:Addr}{W w:aD}{h k:Heap}{o:Obj}(e:fW L W h w k)(g:h.get? it=au o)(m:W.b it=none)(M:it∉W.d):w.b it=none/\it∉w.d:=by
 refine ai ?_ (ap e.d λp E n H=>?_)
 ·cases z:w.b it with
  |none=>rfl|some o=>
   rcases e.j it o z with y|y
   ·rw[m]at y;(injection y;done)
   ·rw[g]at y;(injection y;done)
 ·rw[E]at H;rcases e8.mp H with y|y
  ·exact M y
  ·rw[n it y]at g;(injection g;done)
def ML(B:aK)(F:cM)(L:Addr)(W:aD)(h:Heap)(b:aD)(it:Addr)(src:Option (Nat×List V))(I:List V->ah->af->Prop)(m:Nat)(s':Shared):Prop:=∃w l a r,r.length=m/\I r l a/\aS B w a s'/\fW L W h w s'.heap/\dF B F w L l s'.heap/\w.b it=none/\it∉w.d/\mT B w a s'.heap it src r
theorem ec.o{x t:Expr}{body:List Stmt}(ht:∀it v,letOwnedTupleGo t it v=pure ())(hs:∀L v,foldedSetIterable x (F.bA L) v=pure v)
  (h:bh B F n x lm σ λv u=>∃xs,j_ v u=au xs/\∃I:List V->ah->af->Prop,I xs lm u/\(∀r lm σ,I r lm σ->ji (mI v xs) σ)/\
   (∀y r lm σ,I (y::r) lm σ->kh B F n t y lm σ λa8 D=>ji (mI v xs) D/\e_ B F n body a8 D (nE (I r) k))/\(∀lm σ,I [] lm σ->k .a lm σ)):ec B F n (.For t x body [] pos) lm σ k:=λA W s L Q E r R d1 d2=>by
 refine wpAny_For (h A W s L _ _ r R d1 λvx c8 G v u b0 b1 C b2=>?_) (hs L);refine ap b0 λxs hi Z=>kq Z λI hI b3 b4 done=>Yg b1 b2 hi λc9 it b5 a0 n1 n2 n3 J=>?_
 have H:=(d1.a C).d n3;have a1:s.heap.get? it=none:=us C.c n3;refine codeAny_forLoop (ML B F L W s.heap G it (mI v xs) I) (λm d0 Z=>pC Z λa2 K M j Z=>mj Z λe1 N a3 a4 a5 m1 m2 a6=>?_) xs.length
  ⟨G,lm,u,xs,rfl,hI,b5,((C.e a0).h),(d1.a (C.e a0)),n1,n2,J⟩ (λv=>ht _ v)
 cases j with
 |nil=>exact Ye r.a a3 a6 m1 m2 λS O w=>x7 (d2 _ S a2 .a K M (done _ _ N) O (a4.l w a1) (a5.l w H) .a)|cons y j=>
  refine Yd a3 a6 m1 m2 λS vy O w a9 a7=>b4 y j K M N A a2 S L vy _ _ r O (a5.l w H) a9 λb6 b7 c5 c6 b8 b9 c0 c1=>b8.2 A b7 b6 L _ _ r b9 c1 λfl c2 c3 mf P T hm U c4 X hf=>?_
  have ee:=c0.e c4;have d3:=(a4.l w a1).e ee;have next (Y:I j P T):∃m',m'<m/\ML B F L W s.heap G it (mI v xs) I m' c2:=bf a7.b λoi c7=>aV (ee.h c7 m1 m2) λq1 q2=>⟨j.length,e1▸L2 _,c3,P,T,j,rfl,Y,U,d3,X,q1,q2,a7.c ee.i (λd4 q=>ee.f it d4 (λz=>H z.symm) q m2) (b3 _ _ _ Y)⟩
  cases hf with
  |a=>exact next hm|b=>exact next hm|g=>exact d2 _ _ _ _ _ _ hm U d3 X .a|f hv=>exact d2 _ _ _ _ _ _ hm U d3 X (.f hv)
end
theorem Yh{a:Type}(f:(Str×Value)->(List (Str×Value)×a)->NO (ForInStep (List (Str×Value)×a)))(e:a):
  ∀(l s:List (Str×Value)),(∀pre x p,l=pre++x::p->f x (s++pre,e)=pure (.yield (s++pre++[x],e)))->forIn l (s,e) f=pure (s++l,e)
 |[],s,_=>by simp|x::l,s,h=>by
  rw[N6];have H:=h [] x l rfl;simp only[dE]at H;rw[H];show(forIn l (s++[x],e) f)=_;rw[Yh f e l (s++[x]) λpre y p q=>?_]
  ·simp
  ·have:=h (x::pre) y p (by rw[q];rfl)
   simpa using this
theorem Cs{α:Type}(y:Str):∀(l r:List (Str×α)),(l++r).lookup y=(l.lookup y).or (r.lookup y)
 |[],r=>by simp|(k,v)::l,r=>by rw[nb,j3,j3];cases y==k<;>simp[Cs y l r]
set_option tactic.hygienic true in
theorem Yi(f:(Str×Value)->List (Str×Value)->NO (ForInStep (List (Str×Value))))(H:∀x s,f x s=pure (.yield (if(s.lookup x.1).isNone then s++[x]else s))):
  ∀(l s:List (Str×Value)),∃s',forIn l s f=pure s'/\∀y,s'.lookup y=(s++l).lookup y
 |[],s=>(aE s (by simp) (by simp))|x::l,s=>by
  refine ap (Yi f H l (if(s.lookup x.1).isNone then s++[x]else s)) λs' e h=>?_
  refine(aE s' ?_ (λy=>?_))
  ·rw[N6,H];exact e
  ·rw[h y];split
   ·simp
   ·rename_i q;rw[Cs,Cs];cases z:s.lookup y with
    |some v=>simp|none=>
     obtain⟨k,v⟩:=x;rw[j3];have:(y==k)=false:=by rw[beq_eq_false_iff_ne];rintro rfl;simp[z]at q
     rw[this]
theorem nj{α b:Type}{m:NO α}{a:α}{K:α->NO b}{X:NO b}(h:m=pure a)(e:K a=X):m>>=K=X:=by subst h;exact e
theorem bq{c:Prop}{D:Decidable c}{α:Type}{a b x:α}(h:¬c)(e:b=x):ite c a b=x:=(if_neg h).trans e
theorem Yj(F G a K I J L M O C Q A c i j m o)(args:Args)(N:List Str)(hn:N=oC (·.arg) a)(vs:List Value)(r:Option (Array Value))(R:args.pos.length<=N.length)(t:∀x∈args.kw,N.contains x.1=true)(u:∀x∈args.kw,(N.zip args.pos).lookup x.1=none)(H:(args.kw.map (·.1)).Nodup):
  ∃k,bindArgs ⟨F,G,⟨[],a,none,[],K,none,I⟩,J,L,M,O,C,Q,A,c,i,j,m,o⟩ args=(seqItems? C>>=k)/\∀r d,(r.getD #[]).toList=d->d.length<=N.length->(∀n∈N.take (N.length-d.length),((N.zip args.pos++args.kw).lookup n).isSome=true)->
   N.filterMap (λn=>((N.zip args.pos++args.kw++(N.drop (N.length-d.length)).zip d).lookup n).map (n,·))=N.zip vs->k r=pure (N.zip vs):=by
 subst hn;refine(aE _ (nj (Yh _ [] args.kw _ λP x D q=>?_) rfl) λr d T U W w=>?_)
 ·have E:x∈args.kw:=q▸y8 _ (f8 ..);rw[q,j0,ic,k4]at H;have g:(u7 x.1 ((oC (·.arg) a).zip args.pos++P)).isSome=false:=by
   refine congrArg Option.isSome (a₂:=none) ((Cs _ _ _).trans ?_);rw[u x E,Option.none_or,List.lookup_eq_none_iff.2 λp z=>bne_iff_ne.mpr λe=>H.2.2 p.1 (k9 z) x.1 (f8 ..) e.symm]
  exact(if_pos (congrArg (· ||_) (t x E))).trans (bq (λe=>to (g.symm.trans e)) rfl)
 ·subst T;have b:tg ((r.getD #[]).toList.length-(oC (·.arg) a).length) (r.getD #[]).toList=(r.getD #[]).toList:=congrArg (tg · _) (nw U);refine bq (λe=>pr.2 R (of_decide_eq_true (Bool.and_eq_true_iff.1 e).1)) (bq (λe=>?_) ?_)
  ·have g:((oC (·.arg) a).take ((oC (·.arg) a).length-(r.getD #[]).toList.length)).filter (λn=>(u7 n ((oC (·.arg) a).zip args.pos++args.kw)).isNone)=[]:=
    List.filter_eq_nil_iff.2 λn B e=>by have:=W n B;rw[t8.1 e]at this;cases this
   rw[←b]at g;exact absurd ((congrArg (λl=>!l.isEmpty) g).symm.trans e) nofun
  refine ap (Yi _ ?_ _ _) λS e h=>nj e ?_
  ·rintro ⟨x,v⟩ s;show(if(u7 x s).isNone=true then pure (y0 (s++[(x,v)]))else pure (y0 s))=pure (y0 (if(u7 x s).isNone=true then s++[(x,v)]else s));cases(u7 x s).isNone<;>rfl
  ·have h:∀y,S.lookup y=((oC (·.arg) a).zip args.pos++args.kw++((oC (·.arg) a).drop ((oC (·.arg) a).length-(tg ((r.getD #[]).toList.length-(oC (·.arg) a).length) (r.getD #[]).toList).length)).zip (tg ((r.getD #[]).toList.length-(oC (·.arg) a).length) (r.getD #[]).toList)).lookup y:=h;rw[b]at h;refine congrArg (pure (f:=NO)) (Eq.trans ?_ w);show((oC Arg.arg a)++[]).filterMap (λn=>(S.lookup n).map (n,·))=_;rw[dE];exact congrArg (V1 · _) (funext λn=>congrArg _ (h n))
theorem WC(fd:FuncData)(args:Args)(d:List Value)(N:List Str)(vs:List Value)(q:fd.params.vararg=none)(H:fd.params.kwarg=none)(a:fd.params.posonlyargs=[])(b:fd.params.kwonlyargs=[])
  (hn:fd.params.args.map (·.arg)=N)(s:args.pos.length<=N.length)(t:d.length<=N.length)(c:∀x∈args.kw,N.contains x.1=true)(e:∀x∈args.kw,(N.zip args.pos).lookup x.1=none)(f:(args.kw.map (·.1)).Nodup)
  (u:∀n∈N.take (N.length-d.length),((N.zip args.pos++args.kw).lookup n).isSome=true)
  (i:N.filterMap (λn=>((N.zip args.pos++args.kw++(N.drop (N.length-d.length)).zip d).lookup n).map (n,·))=N.zip vs):
  ∃k,bindArgs fd args=(seqItems? fd.defaults>>=k)/\∀r,(r.getD #[]).toList=d->k r=pure (N.zip vs):=by
 obtain⟨v,w,⟨P,y,J,L,K,M,D⟩,z,B,C,E,F,G,A,j,l,m,o,p⟩:=fd;subst q H a b;exact ap (Yj v w y K D z B C E F G A j l m o p args N hn.symm vs none s c e f) λk h g=>aE k h λr I=>g r d I t u i
structure xn where
 b:Nat
 d:Expr
 f:Expr
 a:Expr
 c:List Expr
 h:Nat
 ae:List Keyword
 e:Option Expr
 g:Option Expr
abbrev uu(k:Nat)(e:Expr):xn:=⟨k,e,e,e,[],0,[],none,none⟩
abbrev uv(k:Nat)(e:Expr)(l:List Expr)(n:Nat):xn:=⟨k,e,e,e,l,n,[],none,none⟩
abbrev BJ(k:Nat)(e a:Expr):xn:=⟨k,a,e,e,[],0,[],none,none⟩
def nM:Expr->xn
 | .BinOp l o r p=>⟨0,l,r,.BinOp l o r p,[],0,[],none,none⟩| .UnaryOp o e p=>BJ 0 (.UnaryOp o e p) e| .IfExp t b c p=>⟨0,t,b,c,[],0,[],none,none⟩| .Compare l o C p=>⟨0,l,.Compare l o C p,.Compare l o C p,C,0,[],none,none⟩| .Call f A K p=>⟨0,f,.Call f A K p,.Call f A K p,A,0,K,none,none⟩| .Attribute e n p=>BJ 1 (.Attribute e n p) e| .Subscript v s p=>⟨0,v,s,.Subscript v s p,[],0,[],none,none⟩| .FormattedValue v c f p=>BJ 0 (.FormattedValue v c f p) v| .BoolOp o g p=>uv 0 (.BoolOp o g p) g 0| .List E p=>uv 0 (.List E p) E 0| .Tuple E k p=>uv 2 (.Tuple E k p) E k| .JoinedStr E p=>uv 0 (.JoinedStr E p) E 0| .Constant v k p=>uv 0 (.Constant v k p) [] k| .Slice L h S p=>⟨3,.Slice L h S p,.Slice L h S p,.Slice L h S p,[],0,[],L,h⟩| .ListComp a b c d=>uu 4 (.ListComp a b c d)| .SetComp a b c d=>uu 4 (.SetComp a b c d)| .DictComp a b c d e=>uu 4 (.DictComp a b c d e)| .Set E p q=>uu 5 (.Set E p q)|e=>uu 0 e
abbrev uw(k:Nat)(e:Expr):Bool:=!(e6 (nM e).b k)
def LC(e:Expr):Bool:=uw 3 e
def LD(e:Expr):Bool:=uw 1 e
def lB(e:Expr):Bool:=uw 4 e
def LE(e:Expr):Bool:=uw 5 e
def LF(e:Expr):Bool:=uw 2 e
def dc(e:Expr):Expr:=(nM e).d
def iA(e:Expr):Expr:=(nM e).f
def LG(e:Expr):Expr:=(nM e).a
def da(e:Expr):List Expr:=(nM e).c
def pW(e:Expr):List Keyword:=(nM e).ae
def lN(e:Expr):Nat:=(nM e).h
def LH(e:Expr):Option Expr:=(nM e).e
def LI(e:Expr):Option Expr:=(nM e).g
noncomputable def cC:List Expr->Expr
 |[]=> .Constant .none 0 ⟨0,0,0,0⟩|e::_=>e
noncomputable def et{α:Type}:List α->List α
 |[]=>[]|_::r=>r
noncomputable def BK:List Keyword->Keyword
 |[]=>⟨none,.Constant .none 0 ⟨0,0,0,0⟩,⟨0,0,0,0⟩⟩|e::_=>e
noncomputable def ux:aq->Bool
 | .g=>true|_=>false
structure nN where
 az:Expr->Expr×Bool
 f:ZK->List Expr->List Expr×Bool
 c:List Expr->List Expr×Bool
 b:List Keyword->List Keyword×Bool
noncomputable def nN.bN(e:Expr->Expr×Bool):nN:=⟨e,λ_ l=>(l,false),λl=>(l,false),λl=>(l,false)⟩
noncomputable def nN.iO(l:List Expr->List Expr×Bool)(k:List Keyword->List Keyword×Bool):nN:=⟨λg=>(g,false),λ_ l=>(l,false),l,k⟩
def iY(op:ZK)(a b:nN)(l:List Expr):List Expr×Bool:=match et l with
 |[]=>(l,false)|y::r=>match r with
  |[]=>([(a.az (cC l)).1,(b.az y).1],(a.az (cC l)).2&&(b.az y).2)|_::_=>((a.az (cC l)).1::(b.f op (y::r)).1,(a.az (cC l)).2&&(b.f op (y::r)).2)
def rN(l:aq)(m:nN):Option Expr->Option Expr×Bool
 |none=>(none,ux l)|some e=>(au (m.az e).1,(m.az e).2)
noncomputable def uy(n:Nat->Str)(s:Scope)(x:Nat)(g:Expr):Expr×Bool:=(.Name (n x) g.pos,(s.names.lookup (n x)==au .local||(s.names.lookup (n x)==au .cell||s.names.lookup (n x)==au .free&& !(n x==("__classdict__":Str))))&& !(n x==("__debug__":Str)))
noncomputable def BL:aq->Option (aq×aq)
 | .p h t=>au (h,t)|_=>none
noncomputable def LJ:aq->Option aq
 | .D x=>au x|_=>none
noncomputable def pg:aq->Bool
 | .j=>true|_=>false
def BM(a:aq):Option (Nat×Nat):=(LJ a).bind λX=>(BL X).bind λp=>(kW p.1).bind λx=>(BL p.2).bind λq=>(kW q.1).bind λy=>bif pg q.2 then au (x,y)else none
noncomputable def oM(n:Nat->Str)(s:Scope)(x:Nat)(g:Expr):Expr×Bool:=(.FormattedValue (uy n s x (dc g)).1 115 none g.pos,(uy n s x (dc g)).2)
def rO(n:Nat->Str)(s:Scope)(i:Nat)(a:aq)(g:Expr):Expr×Bool:=match BM a with
 |some p=>bif e6 i 1 then(.JoinedStr [.Constant (.str "%TAG ") (lN (cC (da g))) (cC (da g)).pos,(oM n s p.1 (cC (et (da g)))).1,.Constant (.str " ") (lN (cC (et (et (da g))))) (cC (et (et (da g)))).pos,(oM n s p.2 (cC (et (et (et (da g)))))).1] g.pos,
    (oM n s p.1 (cC (et (da g)))).2&&(oM n s p.2 (cC (et (et (et (da g)))))).2)
  else bif e6 i 7 then(.JoinedStr [(oM n s p.1 (cC (da g))).1,(oM n s p.2 (cC (et (da g)))).1] g.pos,(oM n s p.1 (cC (da g))).2&&(oM n s p.2 (cC (et (da g)))).2)
  else(g,false)
 |none=>(g,false)
def bK(n:Nat->Str)(S:Scope):aq->nN
 | .g=> .bN λg=>(.Constant .none (lN g) g.pos,true)| .l b=> .bN λg=>(.Constant (.bool b) (lN g) g.pos,true)| .q i=> .bN λg=>(.Constant (.int i) (lN g) g.pos,true)| .e s=> .bN λg=>(.Constant (.str s) (lN g) g.pos,k0 s.length 1000)| .d x=> .bN (uy n S x)| .G x=> .bN λg=>(.Name (n x) g.pos,S.names.lookup (n x)==au .globalImplicit&& !(n x==("__debug__":Str)))| .w o f=> .bN λg=>(.Attribute ((bK n S o).az (dc g)).1 (n f) g.pos,uz ((bK n S o).az (dc g)).1&&((bK n S o).az (dc g)).2)| .H O a b=> .bN λg=>(.BinOp ((bK n S a).az (dc g)).1 O ((bK n S b).az (iA g)).1 g.pos,((bK n S a).az (dc g)).2&&((bK n S b).az (iA g)).2)| .M a=> .bN λg=>(.UnaryOp .USub ((bK n S a).az (dc g)).1 g.pos,((bK n S a).az (dc g)).2)| .n a=> .bN λg=>(.UnaryOp .Not ((bK n S a).az (dc g)).1 g.pos,((bK n S a).az (dc g)).2)
 | .y O a b=> .bN λg=>(.Compare ((bK n S a).az (dc g)).1 [O] [((bK n S b).az (cC (da g))).1] g.pos,
   !behindInMarks O ((bK n S b).az (cC (da g))).1&&(((bK n S a).az (dc g)).2&&((bK n S b).az (cC (da g))).2))
 | .J O d a b c=> .bN λg=>(.Compare ((bK n S a).az (dc g)).1 [O,d] [((bK n S b).az (cC (da g))).1,((bK n S c).az (cC (et (da g)))).1] g.pos,
   !lastMarks [O,d] [((bK n S b).az (cC (da g))).1,((bK n S c).az (cC (et (da g)))).1]&&(((bK n S a).az (dc g)).2&&(((bK n S b).az (cC (da g))).2&&((bK n S c).az (cC (et (da g)))).2)))
 | .C a b=>⟨λg=>(.BoolOp .And (iY .And (bK n S a) (bK n S b) (da g)).1 g.pos,(iY .And (bK n S a) (bK n S b) (da g)).2),
   λO l=>match O with
    | .And=>iY .And (bK n S a) (bK n S b) l| .Or=>(l,false),λl=>(l,false),λl=>(l,false)⟩
 | .A a b=>⟨λg=>(.BoolOp .Or (iY .Or (bK n S a) (bK n S b) (da g)).1 g.pos,(iY .Or (bK n S a) (bK n S b) (da g)).2),
   λO l=>match O with
    | .Or=>iY .Or (bK n S a) (bK n S b) l| .And=>(l,false),λl=>(l,false),λl=>(l,false)⟩
 | .B t a b=> .bN λg=>(.IfExp ((bK n S t).az (dc g)).1 ((bK n S a).az (iA g)).1 ((bK n S b).az (LG g)).1 g.pos,((bK n S t).az (dc g)).2&&(((bK n S a).az (iA g)).2&&((bK n S b).az (LG g)).2))
 | .z f A k=> .bN λg=>(.Call ((bK n S f).az (dc g)).1 ((bK n S A).c (da g)).1 ((bK n S k).b (pW g)).1 g.pos,
   LD ((bK n S f).az (dc g)).1&&(kM ((bK n S A).c (da g)).1&&(lO ((bK n S k).b (pW g)).1&&(((bK n S f).az (dc g)).2&&(((bK n S A).c (da g)).2&&((bK n S k).b (pW g)).2)))))
 | .E o f A k=> .bN λg=>(.Call (.Attribute ((bK n S o).az (dc (dc g))).1 (n f) (dc g).pos) ((bK n S A).c (da g)).1 ((bK n S k).b (pW g)).1 g.pos,
   uz ((bK n S o).az (dc (dc g))).1&&((dc g).pos.endLine==g.pos.line&&(decide (((bK n S A).c (da g)).1.length+((bK n S k).b (pW g)).1.length<29)&&(kM ((bK n S A).c (da g)).1&&
    (lO ((bK n S k).b (pW g)).1&&(((bK n S o).az (dc (dc g))).2&&(((bK n S A).c (da g)).2&&((bK n S k).b (pW g)).2)))))))
 | .m o i=> .bN λg=>(.Subscript ((bK n S o).az (dc g)).1 ((bK n S i).az (iA g)).1 g.pos,LC ((bK n S i).az (iA g)).1&&(((bK n S o).az (dc g)).2&&((bK n S i).az (iA g)).2))
 | .K o l u=> .bN λg=>(.Subscript ((bK n S o).az (dc g)).1 (.Slice (rN l (bK n S l) (LH (iA g))).1 (rN u (bK n S u) (LI (iA g))).1 none (iA g).pos) g.pos,
   ((bK n S o).az (dc g)).2&&((rN l (bK n S l) (LH (iA g))).2&&(rN u (bK n S u) (LI (iA g))).2))
 | .D X=> .bN λg=>(.Tuple ((bK n S X).c (da g)).1 (lN g) g.pos,k0 ((bK n S X).c (da g)).1.length 60&&((bK n S X).c (da g)).2)| .u X=> .bN λg=>(.List ((bK n S X).c (da g)).1 g.pos,((bK n S X).c (da g)).2)| .L i a=> .bN λg=>match BN i with
  |some f=>(.BinOp (.Constant (.str f) (lN (dc g)) (dc g).pos) .Mod ((bK n S a).az (iA g)).1 g.pos,k0 f.length 1000&&((bK n S a).az (iA g)).2)|none=>rO n S i a g
 | .j=> .iO (λ_=>([],true)) λ_=>([],true)| .p h t=> .iO (λl=>(((bK n S h).az (cC l)).1::((bK n S t).c (et l)).1,!isStarred ((bK n S h).az (cC l)).1&&(((bK n S h).az (cC l)).2&&((bK n S t).c (et l)).2))) λl=>(l,false)| .I x v r=> .iO (λl=>(l,false)) λl=>(⟨au (n x),((bK n S v).az (BK l).value).1,(BK l).pos⟩::((bK n S r).b (et l)).1,((bK n S v).az (BK l).value).2&&((bK n S r).b (et l)).2)| .F _=> .bN λg=>(g,false)| .N _ _ _ _=> .bN λg=>(g,false)
def hO(n:Nat->Str)(s:Scope)(x:aq)(g:Expr):Expr×Bool:=match x with
 | .d x=>(.Name (n x) g.pos,s.names.lookup (n x)==au .local)| .w o f=>(.Attribute ((bK n s o).az (dc g)).1 (n f) g.pos,((bK n s o).az (dc g)).2)| .m o i=>(.Subscript ((bK n s o).az (dc g)).1 ((bK n s i).az (iA g)).1 g.pos,((bK n s o).az (dc g)).2&&((bK n s i).az (iA g)).2)|_=>(g,false)
def ge(n:Nat->Str)(s:Scope):aq->List Expr->List Expr×Bool
 | .j,_=>([],true)| .p t r,l=>((hO n s t (cC l)).1::(ge n s r (et l)).1,(hO n s t (cC l)).2&&(ge n s r (et l)).2)|_,l=>(l,false)
structure UT where
 az:Expr
 a:List Expr
 f:List Stmt
 e:List Stmt
 b:Bool
noncomputable def uA:Stmt->UT
 | .Return v _=>⟨v.getD (cC []),[],[],[],v.isNone⟩| .Assign T e _=>⟨e,T,[],[],false⟩| .AugAssign t _ e _=>⟨e,[t],[],[],false⟩| .For t e b _ _=>⟨e,[t],b,[],false⟩| .While e b _ _=>⟨e,[],b,[],false⟩| .If e b o _=>⟨e,[],b,o,false⟩| .Expr e _=>⟨e,[],[],[],false⟩|_=>⟨cC [],[],[],[],false⟩
def cJ(s:Stmt):Expr:=(uA s).az
def fp(s:Stmt):List Expr:=(uA s).a
def pP(s:Stmt):List Stmt:=(uA s).f
def LK(s:Stmt):List Stmt:=(uA s).e
def xo(s:Stmt):Bool:=(uA s).b
noncomputable def wY:List Stmt->Stmt
 |[]=> .Pass ⟨0,0,0,0⟩|e::_=>e
structure BO where
 a:Stmt->Stmt×Bool
 f:List Stmt->List Stmt×Bool
noncomputable def BO.d(s:Stmt->Stmt×Bool):BO:=⟨s,λl=>(l,false)⟩
noncomputable def LL:aq->Bool
 | .d _=>true|_=>false
def iL(n:Nat->Str)(S:Scope):ag->BO
 | .j=>⟨λg=>(g,false),λ_=>([],true)⟩| .d s r=>⟨λg=>(g,false),λl=>(((iL n S s).a (wY l)).1::((iL n S r).f (et l)).1,((iL n S s).a (wY l)).2&&((iL n S r).f (et l)).2)⟩| .p=> .d λg=>(.Pass g.pos,true)| .g=> .d λg=>(.Break g.pos,true)| .l e=> .d λg=>(.Expr ((bK n S e).az (cJ g)).1 g.pos,lB ((bK n S e).az (cJ g)).1&&((bK n S e).az (cJ g)).2)| .f e=> .d λg=>match xo g with
  |true=>(.Return none g.pos,ux e)|false=>(.Return (au ((bK n S e).az (cJ g)).1) g.pos,((bK n S e).az (cJ g)).2)
 | .i t v=> .d λg=>(.Assign [(hO n S t (cC (fp g))).1] ((bK n S v).az (cJ g)).1 g.pos,lB ((bK n S v).az (cJ g)).1&&((hO n S t (cC (fp g))).2&&((bK n S v).az (cJ g)).2))| .m T v=> .d λg=>match T with
  | .p t T=>match et (fp g)with
   |[]=>(g,false)|y::r=>(.Assign ((hO n S t (cC (fp g))).1::(ge n S T (y::r)).1) ((bK n S v).az (cJ g)).1 g.pos,lB ((bK n S v).az (cJ g)).1&&((hO n S t (cC (fp g))).2&&((ge n S T (y::r)).2&&((bK n S v).az (cJ g)).2)))
  |_=>(g,false)
 | .q T v=> .d λg=>(.Assign [.Tuple (ge n S T (da (cC (fp g)))).1 (lN (cC (fp g))) (cC (fp g)).pos] ((bK n S v).az (cJ g)).1 g.pos,
   lB ((bK n S v).az (cJ g)).1&&(LF ((bK n S v).az (cJ g)).1&&((ge n S T (da (cC (fp g)))).2&&((bK n S v).az (cJ g)).2)))
 | .h t O v=> .d λg=>match t with
  | .d x=>(.AugAssign (.Name (n x) (cC (fp g)).pos) O ((bK n S v).az (cJ g)).1 g.pos,S.names.lookup (n x)==au .local&&((bK n S v).az (cJ g)).2)| .w o f=>(.AugAssign (.Attribute ((bK n S o).az (dc (cC (fp g)))).1 (n f) (cC (fp g)).pos) O ((bK n S v).az (cJ g)).1 g.pos,((bK n S o).az (dc (cC (fp g)))).2&&((bK n S v).az (cJ g)).2)|_=>(g,false)
 | .B c a b=> .d λg=>(.If ((bK n S c).az (cJ g)).1 ((iL n S a).f (pP g)).1 ((iL n S b).f (LK g)).1 g.pos,((bK n S c).az (cJ g)).2&&(((iL n S a).f (pP g)).2&&((iL n S b).f (LK g)).2))| .k c a=> .d λg=>(.While ((bK n S c).az (cJ g)).1 ((iL n S a).f (pP g)).1 [] g.pos,((bK n S c).az (cJ g)).2&&((iL n S a).f (pP g)).2)| .o t e a=> .d λg=>(.For (hO n S t (cC (fp g))).1 ((bK n S e).az (cJ g)).1 ((iL n S a).f (pP g)).1 [] g.pos,LE ((bK n S e).az (cJ g)).1&&(LL t&&((hO n S t (cC (fp g))).2&&(((bK n S e).az (cJ g)).2&&((iL n S a).f (pP g)).2))))| .n=> .d λg=>(g,true)
theorem aI{a b:Bool}(h:(a&&b)=true):a=true/\b=true:=(di _ _).mp h
noncomputable def Bx(v:Value)(x:V):Bool:=match x with
 | .g=>v==.none| .l c=>v==.bool c| .q j=>match v with
  | .int i _=>i==j|_=>false
 | .e t=>match v with
  | .str s _=>s==t&&k0 s.length 1000|_=>false
 |_=>false
def LM:List Value->List V->Bool
 |[],X=>match X with
  |[]=>true|_::_=>false
 |v::a,X=>match X with
  |[]=>false|x::X=>Bx v x&&LM a X
theorem KF{B:aK}{W:aD}{v:Value}{x:V}(h:Bx v x=true):aY B W v x:=by
 cases x with
 |g=>exact ga h|l b=>exact ga h|q j=>cases v with
  |int i t=>cases ga (a:=i) (b:=j) h;exact .q _ _
  |_=>exact bZ h
 |e t=>cases v with
  |str s _=>refine aV (aI h) λH c=>?_;cases ga H;exact .e _ _ (by rw[bw];have:=hS c;exact cO ‹_›)
  |_=>exact bZ h
 |_=>exact bZ h
theorem UU{B:aK}{W:aD}:∀{vs:List Value} {xs:List V},LM vs xs=true->bp B W vs xs
 |[],[],_=>rfl|v::vs,x::xs,h=>(ai (KF (aI h).1) (UU (aI h).2))
def rQ(K:Frag)(f:Addr):Option FuncData:=match K.lookup f with
 |some o=>match o.data with
  | .func F=>au F|_=>none
 |none=>none
theorem UV{K:Frag}{f:Addr}{fd:FuncData}(h:rQ K f=au fd):∃o,K.lookup f=au o/\o.data=.func fd:=by
 delta rQ at h;cases e:K.lookup f with
 |none=>rw[e]at h;exact cP h|some o=>
  rw[e]at h;obtain⟨_,_,d,_⟩:=o;refine(aE _ rfl ?_);cases d with
  |func fd=>(injection h with z;subst z);rfl|_=>exact cP h
def BP(K:Frag)(v:Value)(d:List V):Bool:=match v with
 | .none=>d.isEmpty| .ref a=>match K.lookup a with
  |some o=>o.cls==.type "tuple"&&match o.data with
   | .seq i _=>LM i.toList d|_=>false
  |none=>false
 |_=>false
noncomputable def vV:List Bool->Bool
 |[]=>true|b::r=>b&&vV r
theorem UW{α:Type}{i:Nat}{b:α}{p:Prop}(e:cn i []=au b):p:=by cases i<;>(injection e;done)
theorem UX:∀{l:List Bool},vV l=true->∀(i:Nat) {b:Bool},cn i l=au b->b=true
 |[],_,_,_,e=>UW e|b::_,h,0,_,e=>j8 e▸(aI h).1|_::_,h,i+1,_,e=>UX (aI h).2 i e
def LN(n:Nat->Str)(K:Frag)(fd:FuncData)(m:gI):List Bool:=
 [fd.params.vararg.isNone,fd.params.kwarg.isNone,fd.params.posonlyargs.isEmpty,fd.params.kwonlyargs.isEmpty,fd.params.args.map (·.arg)==m.a.map n,mP m.a,k0 m.b.length m.a.length,fd.globals==mainGlobals,fd.builtins==builtinsNs,fd.closure.isEmpty,
  fd.scope.kind==.function,!fd.scope.isGenerator,!fd.scope.isCoroutine,fd.scope.names.all (λx=>x.2 !=.cell),m.a.all (λp=>fd.scope.names.lookup (n p)==au .local),codeIn K fd.code fd.qualname,BP K fd.defaults m.b]
def UY(n:Nat->Str)(K:Frag)(fd:FuncData)(m:gI):Bool:=vV (LN n K fd m)
def rR(fd:FuncData):Option (List Stmt):=match fd.body with
 | .stmts b=>au b| .expr _=>none
noncomputable def BB(K:Frag)(p:Addr×gI):Option (Option (List Stmt×Bool)):=(rQ K p.1).map λf=>(rR f).map λb=>(b,true)
def BA(n:Nat->Str)(K:Frag)(p:Addr×gI):Option (Option (List Stmt×Bool)):=(rQ K p.1).map λf=>(rR f).map λb=>(iL n f.scope p.2.c).f b
def Bz(n:Nat->Str)(K:Frag)(p:Addr×gI):Bool:=match rQ K p.1 with
 |some f=>UY n K f p.2&&(rR f).isSome|none=>false
structure pX(B:aK)(f:Addr)(m:gI)(fd:FuncData)(body:List Stmt):Prop where
 g:∃o,B.a.lookup f=au o/\o.data=.func fd
 k:fd.params.vararg=none
 I:fd.params.kwarg=none
 l:fd.params.posonlyargs=[]
 n:fd.params.kwonlyargs=[]
 i:fd.params.args.map (·.arg)=m.a.map B.aA
 d:m.a.Nodup
 b:m.b.length<=m.a.length
 bA:∀L,callEnv fd L f=(⟨fd.qualname,fd.scope,f,fd.code,[],[]⟩:cM).bA L
 j:fd.scope.kind=.function
 q:fd.scope.isGenerator=false
 t:fd.scope.isCoroutine=false
 e:∀x∈fd.scope.names,x.2≠.cell
 a:∀p∈m.a,fd.scope.names.lookup (B.aA p)=au .local
 c:codeIn B.a fd.code fd.qualname=true
 u:∃dv:List Value,(∀W,bp B W dv m.b)/\∀(s:Shared),B.a.In s.heap->∃r:Option (Array Value),(r.getD #[]).toList=dv/\∀(M:Model) (A:j9) (E:Value->Shared->Prop) (Q:Option (Array Value)->Shared->Prop),Q r s->hJ M A (seqItems? fd.defaults) Q E s
 v:fd.body=.stmts body
 h:(iL B.aA fd.scope m.c).f body=(body,true)
theorem UZ{B:aK}{v:Value}{D:List V}(h:BP B.a v D=true):∃b:List Value,(∀W,bp B W b D)/\∀(s:Shared),B.a.In s.heap->∃r:Option (Array Value),(r.getD #[]).toList=b/\∀(M:Model) (A:j9) (E:Value->Shared->Prop) (Q:Option (Array Value)->Shared->Prop),Q r s->hJ M A (seqItems? v) Q E s:=by
 cases v with
 |none=>
  cases D with
  |nil=>exact(aE [] (λW=>rfl) (λs _=>(aE none rfl (λM A E Q q=>fe q))))|cons _ _=>(injection h;done)
 |ref a=>
  delta BP at h;dsimp only at h;cases e:B.a.lookup a with
  |none=>rw[e]at h;exact bZ h|some o=>
   rw[e]at h;obtain⟨c,d,f,S⟩:=o;refine aV (aI h) λg H=>?_
   obtain rfl:=ga g;cases f with
   |seq i n=>exact(aE i.toList (λW=>UU H) (λs X=>(aE (au i) rfl (λM A E Q q=>U2 (X _ _ e) rfl q))))|_=>exact bZ H
 |_=>exact bZ h
theorem U0{fd:FuncData}{f L:Addr}(h:fd.globals=mainGlobals)(H:fd.builtins=builtinsNs)(a:fd.closure=[]):callEnv fd L f=(⟨fd.qualname,fd.scope,f,fd.code,[],[]⟩:cM).bA L:=by cases fd;subst h;subst H;subst a;rfl
theorem By{α:Type}{o:Option α}(h:o.isNone=true):o=none:=t8.mp h
theorem BQ{α:Type}{o:List α}(h:o.isEmpty=true):o=[]:=MV.mp h
theorem jw{b:Bool}(h:(!b)=true):b=false:=(ib _).mp h
theorem U3{fd:FuncData}{b:List Stmt}(h:rR fd=au b):fd.body=.stmts b:=by
 delta rR at h;cases e:fd.body with
 |stmts _=>rw[e]at h;(injection h with z;subst z);rfl|expr _=>rw[e]at h;exact cP h
theorem KN{l:List (Str×I2)}(h:l.all (λx=>x.2 !=.cell)=true):∀x∈l,x.2≠.cell:=λx H=>bne_iff_ne.mp (kd.mp h x H)
theorem U4{l:List Nat}{f:Nat->Option I2}(h:l.all (λp=>f p==au .local)=true):∀p∈l,f p=au .local:=λp H=>ga (kd.mp h p H)
theorem TM{B:aK}{f:Addr}{m:gI}(h:Bz B.aA B.a (f,m)=true)(g:BA B.aA B.a (f,m)=BB B.a (f,m)):∃fd body,pX B f m fd body:=by
 delta Bz at h;delta BB BA at g;dsimp only at h g;cases e:rQ B.a f with
 |none=>rw[e]at h;exact bZ h|some fd=>
  rw[e]at h g;refine aV (aI h) λh a=>?_
  cases E:rR fd with
  |none=>rw[E]at a;exact bZ a|some body=>
   replace g:=j8 g;dsimp only at g;rw[E]at g;have H:=UX (l:=LN B.aA B.a fd m) h;exact⟨fd,body,UV e,By (H 0 rfl),By (H 1 rfl),BQ (H 2 rfl),BQ (H 3 rfl),ga (H 4 rfl),BR.mp (H 5 rfl),hS (H 6 rfl),
    λL=>U0 (ga (H 7 rfl)) (ga (H 8 rfl)) (BQ (H 9 rfl)),ga (H 10 rfl),jw (H 11 rfl),jw (H 12 rfl),KN (H 13 rfl),U4 (H 14 rfl),H 15 rfl,UZ (H 16 rfl),U3 E,j8 g⟩
set_option backward.match.sparseCases true in
def BS(Q E:Value->Shared->Prop)(r:Result)(s':Shared):Prop:=match r with
 | .ok (.ret v)=>Q v s'| .ok _=>False| .error e=>E e s'
def bF(B:aK)(T:dq)(n:Nat)(f:Addr)(vs:List V)(σ:af)(k:bu):Prop:=
 ∀(m:gI),br f T.a=au m->∀F b,pX B f m F b->∀(A:j9) (W:aD) (s:Shared) (p:List Value) (K:List (Str×Value)) (v:List Value) (Q E:Value->Shared->Prop),eZ A n->aS B W σ s->
  ZP s F ⟨p,K⟩ ((m.a.map B.aA).zip v)->bp B W v vs->jq B W s.heap k Q->codeAny B.b A (.call (.ref f) ⟨p,K⟩) (BS Q E) s
structure U5(B:aK)(T:dq)(D:Addr)(c:kS):Prop where
 a:rH B.a D=true/\∀D' c',br D' T.h=au c'->kitOne B.a (.ref D) (.ref D')=au (cV D' c.d)
 b:∃cs:List (Nat×Value),lI B.aA B.a ⟨D,c.a,c.b,cs⟩=true/\∀x mv,br x c.c=au mv->∃v,cs.lookup x=au v/\∀W σ s,aS B W σ s->aY B W v mv
 e:∀g,c.e=au g->makesIn B.a D=true/\findIn B.a (.ref D) "__init__"=au (au (.ref g))/\typeIn B.a (.ref g)=au (.type "function")/\keepIn B.a (.ref D)=true
structure cL(B:aK)(T:dq):Prop where
 bM:gR B
 h:∀D c,br D T.h=au c->U5 B T D c
 b:∀x mv,br x T.b=au mv->LO B x mv
 a:∀g m,br g T.a=au m->∃fd body,pX B g m fd body
 i:B.aA 0="append"/\B.aA 1="pop"/\B.aA 2="extend"/\B.aA 3="join"/\B.aA 4="startswith"/\B.aA 5="encode"/\B.aA 6="keys"/\B.aA 7="copy"
section
variable {B:aK} {T:dq} {n:Nat} {σ:af} {k:bu}
theorem xp{x:Nat}{l:List Nat}(h:cV x l=true):l.contains x=true:=qS.mpr (BU.mp h)
theorem fX{i:Nat}{σ:af}{o:aG}(h:cn i σ=au o):σ[i]? =au o:=(kD i σ).symm.trans h
theorem LP(O:cL B T){f:Nat}{o:V}{e:Bool}(h:sX T f o σ k):jr B n (λx=>getAttr x (B.aA f) e) o σ k:=by
 cases o with
 |p D F=>
  refine ap (iP h) λc l h=>?_
  refine ap (iP h) λv H h=>?_
  refine aV (uB h) λm h=>?_
  obtain⟨_,⟨C,d,j⟩,_⟩:=O.h _ _ l;exact U6 O.bM (T:=⟨D,c.a,c.b,C⟩) d (xp m) H h
 |k D i=>
  have r:=xq (f:=tW T f σ) (a:=.k D i) h;clear h;(refine kb r λ_ _ F e b h=>?_;clear r);cases e;refine ap (iP h) λc l h=>?_
  obtain⟨_,⟨C,d,j⟩,_⟩:=O.h _ _ l;cases H:aH f F with
  |some v=>
   rw[H]at h;refine aV (uB h) λm h=>?_
   exact LQ O.bM (T:=⟨D,c.a,c.b,C⟩) d (xp m) (fX b) H h
  |none=>
   rw[H]at h;cases q:br f c.b with
   |some g=>rw[q]at h;exact U7 O.bM (T:=⟨D,c.a,c.b,C⟩) d ((uC _ _).symm.trans q) (fX b) H h|none=>
    rw[q]at h;refine ap (iP h) λv s h=>?_
    refine ap (j _ _ s) λR t u=>?_
    exact U8 O.bM (T:=⟨D,c.a,c.b,C⟩) d t (fX b) H u h
 |_=>exact h.elim
theorem LR(O:cL B T){f:Nat}{o v:V}{k:af->Prop}(h:aj T f o v σ k):xm B n (λx y=>setAttr x (B.aA f) y) o v σ k:=by
 have b:=xq h;clear h;(refine kb b λD i F e H h=>?_;clear b;subst e);refine ap (iP h) λc d h=>?_
 refine aV (uB h) λa h=>?_
 refine aV (aI a) λa g=>?_
 obtain⟨_,⟨C,j,l⟩,_⟩:=O.h _ _ d;refine U9 O.bM (T:=⟨D,c.a,c.b,C⟩) j (xp a) (fX H) (gO F▸hS g) ?_;rw[←jH];exact h
theorem mQ{v:V}{k:Bool->af->Prop}(h:eh v σ k):fq B n truthy v σ k:=by
 cases v with
 |g=>exact U_ h|l=>exact wb h|q=>exact U' h|e=>exact Va h|D=>exact Vb h.1 h.2|c=>exact Vc h.1 h.2|o i=>
  replace h:(match cn i σ with
   |some O=>(match O with
    | .u x=> .h (!x.isEmpty)|_=> .a:nO)
   |Option.none=> .a:nO).bD σ k:=h
  cases E:cn i σ with
  |none=>rw[E]at h;exact h.elim|some O=>rw[E]at h;cases O with
   |u x=>exact Vd (fX E) h|_=>exact h.elim
 |_=>exact h.elim
theorem Ve{op:l9}{a b:V}(h:pe op a b σ k):ch B n (binaryOp op) a b σ k:=by
 cases op with
 |Add=>
  have H:=xr h;clear h;rcases H with⟨i,rfl,h⟩|⟨i,rfl,h⟩
  ·have H:=dG h;clear h;(refine ap H λj e h=>?_;clear H;subst e);exact Vf h
  ·have H:=gG h;clear h;obtain⟨j,rfl,c,h⟩:=H;exact Vg c h
 |Sub=>have H:=dG h;clear h;(refine ap H λi E h=>?_;clear H;subst E);have H:=dG h;clear h;(refine ap H λj d h=>?_;clear H;subst d);exact Vh h|Mult=>
  have H:=xr h;clear h;rcases H with⟨i,rfl,h⟩|⟨i,rfl,h⟩
  ·have H:=dG h;clear h;obtain⟨j,rfl,c,h⟩:=H;exact Vi c h
  ·have H:=dG h;clear h;obtain⟨j,rfl,c,h⟩:=H;exact Vj c.1 c.2 h
 |Mod=>have H:=dG h;clear h;(refine ap H λi f h=>?_;clear H;subst f);have H:=dG h;clear h;obtain⟨j,rfl,c,h⟩:=H;exact Vk c h
 |FloorDiv=>have H:=dG h;clear h;(refine ap H λi g h=>?_;clear H;subst g);have H:=dG h;clear h;obtain⟨j,rfl,c,h⟩:=H;exact Vl c.1 c.2 h
 |Pow=>have H:=dG h;clear h;(refine ap H λi l h=>?_;clear H;subst l);have H:=dG h;clear h;obtain⟨j,rfl,c,h⟩:=H;exact Vm c.1 c.2.1 c.2.2 h
 |_=>exact h.elim
theorem LS{op:l9}{a b:V}(h:rU op a b σ k):ch B n (inplaceOp op) a b σ k:=by
 cases op with
 |Add=>
  cases a with
  |x=>have H:=dG h;clear h;(refine ap H λj d h=>?_;clear H;subst d);exact Vn h|q i=>have H:=dG h;clear h;(refine ap H λj f h=>?_;clear H;subst f);exact Vo h|e i=>have H:=gG h;clear h;obtain⟨j,rfl,g,h⟩:=H;exact Vp g h
  |_=>exact h.elim
 |Sub=>have H:=dG h;clear h;(refine ap H λi E h=>?_;clear H;subst E);have H:=dG h;clear h;(refine ap H λj c h=>?_;clear H;subst c);exact Vq h|_=>exact h.elim
theorem Vr{a:V}(h:LT a σ k):jr B n (unaryOp .USub) a σ k:=by have H:=dG h;clear h;(refine ap H λi e h=>?_;clear H;subst e);exact Vs h
theorem LU{a b:V}{f:Bool->Bool}(h:(BV a b f).bD σ k):b=.g/\rV a=false/\k (.l (f (ot a))) σ:=by
 refine aV (Vt h) λE h=>?_
 refine(ai E ?_);cases e:rV a with
 |true=>rw[e]at h;exact h.elim|false=>rw[e]at h;exact(ai rfl h)
theorem LV{a:V}{f:Str->cE}{g:cE}(h:(match a with
  | .e b=>f b|b=>xt b g:cE).bD σ k):(∃s,a=.e s/\(f s).bD σ k)\/(a=.g/\g.bD σ k):=by
 cases a with
 |e s=>exact .inl (aE s rfl h)|g=>exact .inr (ai rfl h)|_=>exact h.elim
theorem rW{op:r7}{a b:V}(h:jv op a b σ k):ch B n (hW op) a b σ k:=by
 cases op with
 |Lt=>
  have H:=xr h;clear h;rcases H with⟨i,rfl,h⟩|⟨i,rfl,h⟩
  ·have H:=dG h;clear h;(refine ap H λj E h=>?_;clear H;subst E);exact Vu h
  ·have H:=gG h;clear h;(refine ap H λj d h=>?_;clear H;subst d);exact Vv h
 |LtE=>
  have H:=xr h;clear h;rcases H with⟨i,rfl,h⟩|⟨i,rfl,h⟩
  ·have H:=dG h;clear h;(refine ap H λj l h=>?_;clear H;subst l);exact Vw h
  ·have H:=gG h;clear h;(refine ap H λj m h=>?_;clear H;subst m);exact Vx h
 |Gt=>have H:=dG h;clear h;(refine ap H λi p h=>?_;clear H;subst p);have H:=dG h;clear h;(refine ap H λj t h=>?_;clear H;subst t);exact Vy h|GtE=>have H:=dG h;clear h;(refine ap H λi u h=>?_;clear H;subst u);have H:=dG h;clear h;(refine ap H λj v h=>?_;clear H;subst v);exact Vz h|Is=>have H:=LU h;clear h;(refine cS H λw L h=>?_;clear H;subst w);exact VA L h|IsNot=>have H:=LU h;clear h;(refine cS H λx L h=>?_;clear H;subst x);exact VB L h|Eq=>
  cases a with
  |q i=>have H:=dG h;clear h;(refine ap H λj y h=>?_;clear H;subst y);exact VC h|e i=>
   have H:=LV h;clear h;rcases H with⟨j,rfl,h⟩|⟨rfl,h⟩
   ·exact VD h
   ·exact VE h
  |g=>have H:=gG h;clear h;(refine ap H λj z h=>?_;clear H;subst z);exact VF h|D X=>
   cases b with
   |D Y=>
    replace h:(match uD X Y with
     |some r=> .h (.l r)|none=> .a:cE).bD σ k:=h
    cases P:uD X Y with
    |none=>rw[P]at h;exact h.elim|some r=>rw[P]at h;exact VG P h
   |_=>exact h.elim
  |_=>exact h.elim
 |NotEq=>
  cases a with
  |q i=>have H:=dG h;clear h;(refine ap H λj A h=>?_;clear H;subst A);exact VH h|e i=>
   have H:=LV h;clear h;rcases H with⟨j,rfl,h⟩|⟨rfl,h⟩
   ·exact VI h
   ·exact VJ h
  |g=>have H:=gG h;clear h;(refine ap H λj C h=>?_;clear H;subst C);exact VK h|_=>exact h.elim
 |In=>
  cases b with
  |e s=>have H:=gG h;clear h;(refine ap H λi F h=>?_;clear H;subst F);exact VL h|c O=>have H:=gG h;clear h;(refine ap H λi G h=>?_;clear H;subst G);exact VM h|o j=>
   have H:=mR (f:=xu a σ) (a:=.o j) h;clear h;(refine dz H λ_ Q P M h=>?_;clear H);(injection P with Z;subst Z);have H:=rX h;clear h;(refine ap H λX I h=>?_;clear H;subst I);refine ap (iP h) λr N h=>?_
   exact VN (fX M) N h
  |_=>exact h.elim
 |NotIn=>have H:=gG h;clear h;(refine ap H λi J h=>?_;clear H;subst J);have H:=gG h;clear h;(refine ap H λj K h=>?_;clear H;subst K);exact VO h
theorem LX{o:Option V}(h:(qK o).bD σ k):∃v,o=au v/\k v σ:=by
 cases o with
 |none=>exact h.elim|some v=>exact(aE v rfl h)
theorem VP{o i:V}(h:pf o i σ k):kN B σ o/\ch B n getItem o i σ k:=by
 cases o with
 |D X=>
  have H:=dG h;clear h;obtain⟨i,rfl,x,b,d,h⟩:=H;have:=VQ (B:=B) (n:=n) (σ:=σ) (k:=k) (j:=i.toNat) (by lia) d h
  rwa [m6 b.1]at this
 |u X=>
  have H:=dG h;clear h;obtain⟨i,rfl,x,b,d,h⟩:=H;have:=VR (B:=B) (n:=n) (σ:=σ) (k:=k) (j:=i.toNat) (by lia) d h
  rwa [m6 b.1]at this
 |e s=>have H:=dG h;clear h;obtain⟨i,rfl,x,b,d,h⟩:=H;exact VS b d h
 |c p=>have H:=gG h;clear h;(refine ap H λx E h=>?_;clear H;subst E);refine ap (LX h) λv m h=>?_;exact VT m h|o j=>
  have H:=mR (f:=λ_ o=>tK i o σ) (a:=.o j) h;clear h;(refine dz H λ_ o q g h=>?_;clear H);(injection q with z;subst z);cases o with
  |u X=>have H:=dG h;clear h;obtain⟨i,rfl,x,b,d,h⟩:=H;exact VU (fX g) b d h
  |F p=>have H:=gG h;clear h;(refine ap H λx l h=>?_;clear H;subst l);refine ap (LX h) λv m h=>?_;exact VV (fX g) m h|_=>exact h.elim
 |_=>exact h.elim
theorem VW{o l u:V}(h:LY o l u σ k):xw B n o l u σ k:=by
 refine ap (iP h) λL c h=>?_
 refine ap (iP h) λg d h=>?_
 cases o with
 |e s=>exact VX c d h|o j=>have H:=mR (f:=xx L g σ) (a:=.o j) h;clear h;(refine dz H λ_ o i b h=>?_;clear H);(injection i with z;subst z);have H:=rX h;clear h;(refine ap H λx E h=>?_;clear H;subst E);refine VY (fX b) c d ?_;rw[←gO,←oN];exact h|_=>exact h.elim
theorem VZ{o i v:V}{k:af->Prop}(h:LZ o i v σ k):BI B n setItem o i v σ k:=by have H:=mR h;clear h;(refine dz H λj o E b h=>?_;clear H;subst E);have H:=L0 h;clear h;(refine ap H λf a h=>?_;clear H;subst a);have H:=iP h;clear h;obtain⟨x,e,c,h⟩:=H;obtain rfl:=BW e;refine V0 (fX b) c ?_;rw[←jH];exact h
theorem V5(O:cL B T){C:Addr}{c:kS}(H:br C T.h=au c):∀{l:List Addr},L3 T.h l=true->kitAny B.a (.ref C) (l.map .ref)=au (BX c.d l)
 |[],_=>rfl|D::l,h=>by
  refine aV (aI h) λa h=>?_
  cases b:br D T.h with
  |none=>rw[b]at a;exact bZ a|some d=>
   have e:=(O.h _ _ H).a.2 D d b;rw[ic];unfold kitAny BX;rw[e];cases cV D c.d with
   |true=>rfl|false=>exact V5 O H h
theorem BY{σ:af}{o:aG}{k:bu}(h:k (.o (aQ σ)) (cH σ o)):k (.o σ.length) (σ++[o]):=by rw[←gO,←oN];exact h
theorem V6(O:cL B T){b:gs}{a:V}(h:(L4 b a σ).bD k):eW B n (.j b) [a] [] σ k:=by
 cases b with
 |p=>
  have H:=gG h;clear h;(refine ap H λs E h=>?_;clear H;subst E);obtain⟨⟨l⟩⟩:=s;cases l with
  |nil=>exact h.elim|cons C R=>cases R with
   |nil=>exact V7 h|cons _ _=>exact h.elim
 |e=>have H:=dG h;clear h;obtain⟨i,rfl,u,h⟩:=H;exact V8 u h
 |r=>
  have H:=dG h;clear h;obtain⟨m,rfl,u,h⟩:=H;have:=V9 (B:=B) (n:=n) (σ:=σ) (k:=k) (m:=m.toNat) (by lia) h
  rwa [m6 u.1]at this
 |n=>cases a with
  |c F=>exact V_ O.bM h.1 (BY h.2)|_=>exact h.elim
 |j=>cases a with
  |c F=>exact V' h|_=>exact h.elim
 |o=>cases a with
  |m d=>cases d with
   |c F=>exact Wa h.1.1 h.1.2 (BY h.2)|_=>exact h.elim
  |_=>exact h.elim
 |k=>cases a with
  |e s=>exact Wb h|o i=>have H:=mR (f:=xy σ) (a:=.o i) h;clear h;(refine dz H λ_ v w g h=>?_;clear H);(injection w with z;subst z);have H:=rX h;clear h;(refine ap H λX q h=>?_;clear H;subst q);exact Wc (fX g) h|_=>exact h.elim
 |f=>have H:=mR h;clear h;(refine dz H λi v t g h=>?_;clear H;subst t);have H:=rX h;clear h;obtain⟨X,rfl,y,x,rfl,h⟩:=H;refine Wd (fX g) ?_;rw[←jH];exact h
 |_=>exact h.elim
theorem We(O:cL B T){b:gs}{x y:V}(h:(L5 T b x y σ).bD k):eW B n (.j b) [x,y] [] σ k:=by
 cases b with
 |g=>cases x with
  |p C P=>
   refine ap (iP h) λc G h=>?_
   cases y with
   |h R=>refine ap (iP h) λQ J h=>?_;exact Wf O.bM (O.h _ _ G).a.1 ((O.h _ _ G).a.2 _ _ J) h|D X=>
    refine ap (iP h) λl I h=>?_
    refine aV (uB h) λK h=>?_
    exact Wg O.bM (O.h _ _ G).a.1 I (V5 O G K) h
   |_=>exact h.elim
  |_=>exact h.elim
 |i=>have H:=gG h;clear h;(refine ap H λU E h=>?_;clear H;subst E);have H:=gG h;clear h;(refine ap H λb r h=>?_;clear H;subst r);exact Wh h|h=>have H:=iP h;clear h;(refine ap H λS e h=>?_;clear H);obtain rfl:=BW e;have H:=mR h;clear h;(refine dz H λW o s m h=>?_;clear H;subst s);have H:=rX h;clear h;(refine ap H λX t h=>?_;clear H;subst t);obtain⟨l,I,L,h⟩:=iP h;exact Wi (fX m) I L h
 |q=>have H:=dG h;clear h;(refine ap H λU v h=>?_;clear H;subst v);have H:=dG h;clear h;(refine ap H λb w h=>?_;clear H;subst w);exact Wj h|a=>
  have H:=mR h;clear h;(refine dz H λW o z m h=>?_;clear H;subst z);cases o with
  |u X=>refine Wk (fX m) h.1 ?_;rw[←jH];exact h.2|d b X=>refine Wl (fX m) h.1 ?_;rw[←jH];exact h.2|_=>exact h.elim
 |f=>have H:=mR h;clear h;(refine dz H λW o A m h=>?_;clear H;subst A);have H:=rX h;clear h;(refine ap H λX F h=>?_;clear H;subst F);have H:=iP h;clear h;obtain⟨Y,e,x,M,N,h⟩:=H;obtain rfl:=Wm e;rw[jH]at h;exact Wn (j:=_) (m6 M).symm (fX m) N h
 |_=>exact h.elim
theorem Wo(O:cL B T){b:gs}{args:List V}(h:Wp T b args σ k):eW B n (.j b) args [] σ k:=by
 cases args with
 |nil=>exact h.elim|cons x r=>cases r with
  |nil=>exact V6 O h|cons y r=>cases r with
   |nil=>exact We O h|cons _ _=>exact h.elim
theorem Wq{f:Addr}(X:∃m fd body,pX B f m fd body)(G:gR B):oO B (.cy f):=λW σ s v R h=>by
 (refine ro X λm fd body F=>?_;clear X);refine ap F.g λo H a=>?_
 subst h;refine(aE .frame (.inl rfl) ((Looks.ld (part:=none) (G.b R _ _ H)).andThen ?_));rw[a];exact .now
theorem Wr{b:gs}:oO B (.j b):=λW σ s v R h=>by rw[gs.d h];refine(aE .machine (.inr (.inl rfl)) ?_);cases b<;>exact Looks.of_pure rfl
theorem Ws{D f:Addr}{i:Nat}(X:∃m fd body,pX B f m fd body)(G:gR B):oO B (.E D i f):=λW σ s v R h=>by
 (refine ro X λm fd body F=>?_;clear X);refine ap F.g λo H a=>?_
 ·obtain⟨q,_,rfl,b,v,rfl,c⟩:=h;refine(aE .boundFrame (.inr (.inr rfl)) ((Looks.ld (part:=none) (R.b _ _ b)).andThen ?_));refine(Looks.ld (part:=none) (G.b R _ _ H)).andThen ?_;rw[a];exact .now
theorem Wt{D:Addr}(h:keepIn B.a (.ref D)=true)(G:gR B):oO B (.h D):=λW σ s v R H=>by
 subst H;refine ap (keeps_K (M:=B.b) h s.heap (G.b R)) λk a b=>?_
 exact(aE k a b)
theorem BZ{α:Type}(n:Nat->Str)(I:∀i j,n i=n j->i=j)(x:Nat):∀l:List (Nat×α),(l.map λp=>(n p.1,p.2)).lookup (n x)=br x l
 |[]=>rfl|(y,v)::r=>by
  rw[ic,j3,br,xz]
  by_cases q:x=y
  ·subst q;simp
  ·rw[show(n x==n y)=false from beq_eq_false_iff_ne.mpr λe=>q (I _ _ e),BZ n I x r];simp[q]
end
theorem Wu{B:aK}{W:aD}{x:Nat}{v:V}:∀{l:List (Nat×Value)} {l':List (Nat×V)},l.map (·.1)=l'.map (·.1)->bp B W (l.map (·.2)) (l'.map (·.2))->br x l'=au v->∃r,br x l=au r/\aY B W r v
 |[],[],_,_,h=>cP h|(y,w)::l,(Y,a)::l',b,H,h=>by
  refine aV (G3.mp b) λE c=>?_
  replace E:y=Y:=E;subst E;replace h:(match e6 x y with
   |true=>au a|false=>br x l')=au v:=h
  show∃r,(match e6 x y with
   |true=>au w|false=>br x l)=au r/\_
  cases e:e6 x y with
  |true=>rw[e]at h;(injection h with z;subst z);exact(aE w rfl H.1)|false=>rw[e]at h;exact Wu c H.2 h
theorem B2{α:Type}{l:List (Nat×α)}{x:Nat}{ps:List Nat}{vs:List α}(h:ki l (x::ps)=au vs):∃v w,br x l=au v/\ki l ps=au w/\vs=v::w:=by
 replace h:(match br x l with
  |some v=>(match ki l ps with
   |some vs=>au (v::vs)|none=>none)
  |none=>none)=au vs:=h
 cases e:br x l with
 |none=>rw[e]at h;exact cP h|some v=>cases E:ki l ps with
  |none=>rw[e,E]at h;exact cP h|some w=>rw[e,E]at h;(injection h with z;subst z);exact(dy v w rfl rfl rfl)
theorem Wv{α:Type}{l:List (Nat×α)}{x:Nat}{ps:List Nat}{v:α}{w:List α}(h:br x l=au v)(g:ki l ps=au w):ki l (x::ps)=au (v::w):=by
 show(match br x l with
  |some v=>(match ki l ps with
   |some a=>au (v::a)|none=>none)
  |none=>none)=_
 rw[h,g]
theorem Ww{B:aK}{W:aD}:∀(ps:List Nat) {l:List (Nat×Value)} {l':List (Nat×V)} {vs:List V},l.map (·.1)=l'.map (·.1)->bp B W (l.map (·.2)) (l'.map (·.2))->ki l' ps=au vs->
  ∃a,ki l ps=au a/\bp B W a vs
 |[],l,l',vs,H,b,h=>by(injection h with z;subst z);exact(aE [] rfl .j)|x::ps,l,l',vs,H,b,h=>by
  (refine dz (B2 h) λv j c d e=>?_;subst e);refine ap (Ww ps H b d) λw g G=>?_
  refine ap (Wu H b c) λr f i=>?_
  exact⟨r::w,Wv f g,i,G⟩
theorem Wx{α:Type}(N:Nat->Str)(I:∀i j,N i=N j->i=j)(l:List (Nat×α)):∀(ps:List Nat) {vs:List α},ki l ps=au vs->
  (ps.map N).filterMap (λn=>((l.map λp=>(N p.1,p.2)).lookup n).map (n,·))=(ps.map N).zip vs
 |[],vs,h=>by(injection h with z;subst z);rfl|x::ps,vs,h=>by(refine dz (B2 h) λv w H a e=>?_;subst e);rw[ic,su,BZ N I,H];simp only[Option.map_some,po];rw[Wx N I l ps a]
theorem Wy{α:Type}{l:List (Nat×α)}:∀{ps:List Nat} {vs:List α},ki l ps=au vs->∀x∈ps,∃v,br x l=au v
 |y::ps,vs,h,x,H=>by
  (refine dz (B2 h) λv w a b e=>?_;subst e);cases H with
  |head=>exact(ba v a)|tail _ H=>exact Wy b x H
theorem L6{α:Type}{x:Nat}:∀{l:List (Nat×α)},(∀p∈l,p.1≠x)->br x l=none
 |[],_=>rfl|(y,v)::r,h=>by rw[br,xz,decide_eq_false λq=>h (y,v) (.head _) q.symm];exact L6 λp H=>h p (.tail _ H)
theorem rY{α a:Type}:∀(l:List α) (r:List a),(l.zip r).map (·.1)=l.take r.length
 |[],_=>by simp|_::_,[]=>by simp|x::l,y::r=>by simp[rY l r]
theorem xA{α a:Type}:∀(l:List α) (r:List a),(l.zip r).map (·.2)=r.take l.length
 |[],_=>by simp|_::_,[]=>by simp|x::l,y::r=>by simp[xA l r]
theorem B3{α a b:Type}(f:α->a):∀(l:List α) (r:List b),(l.map f).zip r=(l.zip r).map λp=>(f p.1,p.2)
 |[],_=>by simp|_::_,[]=>by simp|x::l,y::r=>by simp[B3 f l r]
theorem Wz{α:Type}{ps:List Nat}{d P:List α}{k:List (Nat×α)}{vs:List α}(h:ll ps d P k=au vs):(k0 (aQ P) (aQ ps)&&(k0 (aQ d) (aQ ps)&&(mP ps&&(mP (k.map (·.1))&&(rZ (λp=>cV p.1 (fn (aQ P) ps)) k)))))=true/\
  ki (jD (jC ps P) (jD k (jC (fn (aQ ps-aQ d) ps) d))) ps=au vs:=by
 delta ll at h;cases e:(k0 (aQ P) (aQ ps)&&(k0 (aQ d) (aQ ps)&&(mP ps&&(mP (k.map (·.1))&&(rZ (λp=>cV p.1 (fn (aQ P) ps)) k)))))with
 |true=>rw[e]at h;exact(ai rfl h)|false=>rw[e]at h;exact cP h
theorem WA{B:aK}{W:aD}{f:Addr}{m:gI}{fd:FuncData}{body:List Stmt}{s:Shared}(F:pX B f m fd body)(X:B.a.In s.heap){args:List V}{K:List (Nat×V)}{vs:List V}{P:List Value}{d:List (Str×Value)}
  (h:ll m.a m.b args K=au vs)(hp:bp B W P args)(S:d.map (·.1)=K.map (λp=>B.aA p.1))(t:bp B W (d.map (·.2)) (K.map (·.2))):
  ∃g,bp B W g vs/\ZP s fd ⟨P,d⟩ ((m.a.map B.aA).zip g):=by
 have⟨u,h⟩:=Wz h
 ·obtain⟨c1,u⟩:=aI u;obtain⟨c2,u⟩:=aI u;obtain⟨T,u⟩:=aI u;obtain⟨c4,N⟩:=aI u;rw[gO,gO]at c1 c2;have c1:=hS c1;have c2:=hS c2;have T:=BR.mp T;have c4:=BR.mp c4;have N:=WB.mp N;simp only[BU,L7,gO]at N;rw[oN,oN,B4,B4,gO,gO,L7]at h;refine ap F.u λD w o=>?_
  refine ap (o s X) λr hr U=>?_
  have L:=hp.a;have i:=(w W).a;have Y:d=((K.map (·.1)).zip (d.map (·.2))).map λ(p:Nat×Value)=>(B.aA p.1,p.2):=by
   rw[←B3,qA];have:K.map (B.aA∘(·.1))=d.map (·.1):=S.symm;rw[this];clear S t this hp hr U h c4 N F X o L i w
   induction d with
   |nil=>rfl|cons a l ih=>simp[←ih]
  have Z:(d.map (·.2)).length=K.length:=by have:=t.a;simpa using this
  let R:List (Nat×Value):=(K.map (·.1)).zip (d.map (·.2))
  have a2:R.map (·.1)=K.map (·.1):=J9 (by simp[Z]);have a3:R.map (·.2)=d.map (·.2):=J' (by simp[Z]);have j:((m.a.zip P)++(R++(m.a.drop (m.a.length-m.b.length)).zip D)).map (·.1)=((m.a.zip args)++(K++(m.a.drop (m.a.length-m.b.length)).zip m.b)).map (·.1):=by simp only[j0,a2];rw[rY,rY,rY,rY,L,i]
  have n:bp B W (((m.a.zip P)++(R++(m.a.drop (m.a.length-m.b.length)).zip D)).map (·.2)) (((m.a.zip args)++(K++(m.a.drop (m.a.length-m.b.length)).zip m.b)).map (·.2)):=by
   simp only[j0,a3];refine bp.b (bp.b ?_ t) ?_
   ·rw[xA,xA];exact(w W).e _
   ·rw[xA,xA];exact hp.e _
  refine ap (Ww m.a j n h) λg a0 z=>?_
  refine(aE g z ?_);have I:=B.g;have ez:(m.a.map B.aA).zip P=(m.a.zip P).map λp=>(B.aA p.1,p.2):=B3 _ _ _
  have a1:(m.a.map B.aA).Nodup:=u8 _ (λa b C e=>C (I _ _ e)) T;have c:(m.a.map B.aA).length=m.a.length:=by simp
  (refine ap (WC fd ⟨P,d⟩ D (m.a.map B.aA) g F.k F.I F.l F.n F.i (by rw[c,L];exact c1) (by rw[c,i];exact c2)
   (λx O=>by
    have:x.1∈K.map λp=>B.aA p.1:=by rw[←S];exact k9 O
    refine ap (j6.mp this) λp G J=>?_
    rw[qS,←J];exact k9 (A' (N p G)))
   (λx O=>by
    have:x.1∈K.map λp=>B.aA p.1:=by rw[←S];exact k9 O
    refine ap (j6.mp this) λp G J=>?_
    rw[←J,ez,BZ B.aA I];refine L6 λq hq e=>?_
    have h1:q.1∈m.a.take P.length:=by rw[←rY];exact k9 hq
    have h2:=N p G;rw[e,L]at h1;have nd:=T;rw[←rb args.length m.a,k4]at nd;exact nd.2.2 _ h1 _ h2 rfl)
   (by rw[S,show K.map (λp=>B.aA p.1)=(K.map (·.1)).map B.aA by rw[qA];rfl];exact u8 _ (λa b C e=>C (I _ _ e)) c4)
   (λx O=>by
    rw[c,←ZC]at O;(refine ap (j6.mp O) λy hy a4=>?_;subst a4);have H:d=R.map λp=>(B.aA p.1,p.2):=Y
    rw[ez,H,←j0,BZ B.aA I];refine bf (Wy a0 y (kV hy)) λv hv=>?_
    have a5:br y ((m.a.drop (m.a.length-m.b.length)).zip D)=none:=by
     refine L6 λq hq e=>?_
     have h2:q.1∈m.a.drop (m.a.length-m.b.length):=(y1 hq).1;rw[e]at h2;rw[i]at hy;have nd:=T;rw[←rb (m.a.length-m.b.length) m.a,k4]at nd;exact nd.2.2 _ hy _ h2 rfl
    rw[←dx,uC,List.lookup_append,←uC,←uC,a5]at hv;simp only[Option.or_none]at hv;rw[hv];rfl)
   (by
    have H:d=R.map λp=>(B.aA p.1,p.2):=Y
    have e3:(tg ((m.a.map B.aA).length-D.length) (m.a.map B.aA)).zip D=((m.a.drop (m.a.length-m.b.length)).zip D).map λp=>(B.aA p.1,p.2):=by rw[c,i,←List.map_drop,B3]
    rw[e3,ez,H,←j0,←j0,dx];exact Wx B.aA I _ m.a a0)) λk a6 a7=>?_)
  intro M A E Q q;rw[a6];exact cT (U M A E _ (by rw[a7 r hr];exact fe q))
theorem r_{α:Type}:∀(n:Nat) (l:List α),eF n l=l.take n
 |0,l=>by cases l<;>rfl
 |n+1,[]=>rfl|n+1,x::l=>congrArg (x::·) (r_ n l)
theorem bo.g{m:Nat}:∀{σ:af},bo m σ->∀{i:Nat} {mo:aG},σ[i]? =au mo->lQ m mo
 |_::_,h,0,_,e=>j8 e▸h.1|_::_,h,i+1,_,e=>bo.g h.2 (i:=i) e
abbrev uE(m:Nat)(W w:aD):Prop:=xl (λi=>i<m) W w
noncomputable def aD.aW(W:aD)(m:Nat):aD:=⟨W.b,W.d.take m,W.bE⟩
theorem aD.f{W:aD}{m:Nat}:uE m W (W.aW m):=⟨⟨λ_ _ h=>h,λI A l h=>by show(W.d.take m)[I]? =_;rw[i4,if_pos l];exact h⟩,rfl⟩
set_option tactic.hygienic true in
theorem aS.aW{B:aK}{W:aD}{σ:af}{s:Shared}(R:aS B W σ s){m:Nat}(l:bo m (σ.take m)):aS B (W.aW m) (σ.take m) s:=
 ⟨R.cm,R.b,by simp[aD.aW,R.k],λI A M C H=>(by
  have y:(W.d.take m)[I]? =au A:=C;rw[i4]at y;have L:=l.g H;rw[i4]at H;split at y
  ·rename_i Q;rw[if_pos Q]at H;exact(R.p I A M y H).f aD.f L
  ·(injection y;done)),R.d.sublist (u9 _ _),λA z=>R.e A (kV z),R.h,R.f⟩
theorem cK.aW{W w:aD}{h H:Heap}(e:cK W h w H){m:Nat}(n:W.d.length=m):cK W h (w.aW m) H:=by
 refine ap e.d λM E o=>?_
 refine⟨e.b,e.j,(aE [] ?_ (by simp)),e.f,e.c,e.bE⟩;show w.d.take m=W.d++[];rw[E,←n,se,dE];rfl
theorem WD{m x j:Nat}{d:List (Str×V)}:∀{f:List (Nat×V)},aH x f=au (.o j)->fF m (aU x (.c d) f)->lg m d
 |[],h,_=>cP h|(y,w)::f,h,l=>by
  rw[fh]at h;rw[lh]at l
  by_cases q:x=y
  ·rw[if_pos q]at l;exact l.1
  ·rw[if_neg q]at l h;exact WD h l.2
theorem WE{B:aK}{m x j:Nat}{W b:aD}{D:List (Str×V)}(K:uE m W b)(H:∀v,aY B W v (.o j)->aY B b v (.c D)):∀{f:List (Nat×V)} {es:List DictEntry},er B W es f->aH x f=au (.o j)->
  fF m (aU x (.c D) f)->er B b es (aU x (.c D) f)/\(aU x (.c D) f).length=f.length
 |[],_,_,h,_=>cP h|(y,w)::f,e::es,⟨a,c,d⟩,h,l=>by
  rw[fh]at h;rw[lh]at l⊢
  by_cases q:x=y
  ·subst q;rw[if_pos rfl]at h l⊢;(injection h with z;subst z);exact(ai ⟨a,H _ c,er.f K.1 f l.2 d⟩ rfl)
  ·rw[if_neg q]at h l⊢;refine aV (WE K H d h l.2) λp P=>?_
   exact(ai ⟨a,aY.f K.1 w l.1 c,p⟩ (congrArg (· +1) P))
theorem B5{l:List Addr}(n:l.Nodup){i j:Nat}{a:Addr}(h:l[i]? =au a)(g:l[j]? =au a):i=j:=by
 obtain⟨L,H⟩:=df.mp h;obtain⟨b,c⟩:=df.mp g;have p:=t6.mp n;rcases I3 i j with z|z|z
 ·exact absurd (H.trans c.symm) (p _ _ L b z)
 ·exact z
 ·exact absurd (c.trans H.symm) (p _ _ b L z)
theorem WF{l:List Addr}(n:l.Nodup){m j:Nat}{a:Addr}(b:m<=j)(g:l[j]? =au a):a∉l.take m:=λh=>by
 refine bf (List.getElem?_of_mem h) λi H=>?_
 rw[i4]at H;split at H
 ·have:=B5 n H g;lia
 ·exact cP H
theorem L8{W:aD}{m:Nat}{a:Addr}{o:Obj}(H:W.b a=none):uE m W ((W.g a o).aW m):=⟨⟨(aD.a H).b,λi b l h=>by show(W.d.take m)[i]? =_;rw[i4,if_pos l];exact h⟩,rfl⟩
set_option tactic.hygienic true in
theorem aS.u{B:aK}{W:aD}{σ σ':af}{s:Shared}(R:aS B W σ s){m j:Nat}{a:Addr}{o:Obj}(H:W.d[j]? =au a)(A:s.heap.get? a=au o)(C:m<=j)(D:σ'.length=(σ.take m).length)
  (O:∀i b mo,i<m->W.d[i]? =au b->σ'[i]? =au mo->eG B ((W.g a o).aW m) s.heap b mo):aS B ((W.g a o).aW m) σ' s:=by
 have E:W.b a=none:=R.e a (g8 H);refine⟨λb O G=>(aD.a E).b _ _ (R.cm b O G),λb O G=>?_,?_,λi b mo I F=>?_,R.d.sublist (u9 _ _),λb z=>?_,R.h,R.f⟩
 ·simp only[aD.aW,aD.g]at G;split at G
  ·rename_i Q;subst Q;(injection G with Z;subst Z);exact A
  ·exact R.b b O G
 ·show(W.d.take m).length=_;rw[D,h7,h7,R.k]
 ·have y:(W.d.take m)[i]? =au b:=I;rw[i4]at y;split at y
  ·rename_i Q;exact O i b mo Q y F
  ·exact cP y
 ·show(if b=a then _ else W.b b)=none;rw[if_neg λ(G:b=a)=>WF R.d C H (G▸z),R.e b (kV z)]
set_option tactic.hygienic true in
theorem aS.g{B:aK}{W:aD}{σ:af}{s:Shared}(R:aS B W σ s){m i j x:Nat}{F:List (Nat×V)}{D:List (Str×V)}(hi:σ[i]? =au (.a F))(J:aH x F=au (.o j))(M:σ[j]? =au (.F D))(Q:m<=j)(C:i<m)
  (l:bo m ((σ.set i (.a (aU x (.c D) F))).take m)):
  ∃a o,W.d[j]? =au a/\s.heap.get? a=au o/\W.b a=none/\uE m W ((W.g a o).aW m)/\aS B ((W.g a o).aW m) ((σ.set i (.a (aU x (.c D) F))).take m) s:=by
 have S:j<W.d.length:=by rw[R.k];exact(df.mp M).1
 have H:=dt S;generalize W.d[j]=a at H;obtain⟨O,a0,E,T,U,lz⟩:=R.p j a _ H M;have N:W.b a=none:=R.e a (g8 H);have K:=L8 (m:=m) (o:=O) N;have G:i<σ.length:=(df.mp hi).1;have P:fF m (aU x (.c D) F):=l.g (i:=i) (mo:=.a (aU x (.c D) F)) (by rw[i4,if_pos C,t9,if_pos rfl,if_pos G]);have X:lg m D:=WD J P;have z:∀a1,aY B W a1 (.o j)->aY B ((W.g a O).aW m) a1 (.c D):=λa1 z=>by(refine ap z λ_ I A=>?_;clear z;subst I);cases H.symm.trans A;exact⟨a,O,rfl,by show(if a=a then _ else _)=_;rw[if_pos rfl],E,T,gP.f K.1 D X U⟩
 refine(Au a O H a0 N K (R.u H a0 Q (by rw[h7,h7,y2]) λY a2 mo a3 A y=>?_));have Z:=l.g y;rw[i4,if_pos a3,t9]at y;split at y
 ·rename_i q';subst q';(injection y with z_;subst z_);obtain⟨oi,g',es,fo,en,L⟩:=R.p i a2 _ A hi;refine aV (WE K z en J P) λp1 p2=>?_
  exact⟨oi,g',es,fo,p1,p2▸L⟩
 ·exact(R.p Y a2 mo A y).f K Z
theorem aS.x{B:aK}{W:aD}{σ:af}{s:Shared}(R:aS B W σ s){m j:Nat}{a:Addr}{o:Obj}(H:W.d[j]? =au a)(z:s.heap.get? a=au o)(A:m<=j)(l:bo m (σ.take m)):
  uE m W ((W.g a o).aW m)/\aS B ((W.g a o).aW m) (σ.take m) s:=by
 have K:=L8 (m:=m) (o:=o) (R.e a (g8 H));refine(ai K (R.u H z A rfl λI D M Q C y=>?_));have L:=l.g y;rw[i4,if_pos Q]at y;exact(R.p I D M C y).f K L
set_option tactic.hygienic true in
theorem cK.g{B:aK}{W w:aD}{σ':af}{h:Heap}{s':Shared}(e:cK W h w s'.heap)(R:aS B w σ' s'){m j:Nat}{a:Addr}{o:Obj}(n:W.d.length=m)(p:m<=j)(H:w.d[j]? =au a)(u:s'.heap.get? a=au o):cK W h ((w.g a o).aW m) s'.heap:=by
 refine ap e.d λM E r=>?_
 have s:w.b a=none:=R.e a (g8 H);have t:h.get? a=none:=by rw[E,lD (by exact bc 8624607250 (aJ n) p)]at H;exact r a (g8 H)
 refine⟨λv O q=>(aD.a (o:=o) s).b _ _ (e.b v O q),λv O q=>?_,(aE [] ?_ (by simp)),e.f,e.c,e.bE⟩
 ·simp only[aD.aW,aD.g]at q;split at q
  ·rename_i z;subst z;exact .inr t
  ·exact e.j v O q
 ·show w.d.take m=W.d++[];rw[E,←n,se,dE];rfl
theorem WG{a:Type}{x:Str}{v:a}:∀{l:List (Str×a)},(x,v)∈l->(l.map (·.1)).Nodup->l.lookup x=au v
 |(y,w)::r,h,n=>by
  rw[ic,x8]at n;rw[j3];rcases bv h with e|h
  ·cases e;simp
  ·have:x≠y:=λe=>n.1 (e▸k9 (f:=(·.1)) h)
   rw[beq_eq_false_iff_ne.mpr this];exact WG h n.2
theorem WH{B:aK}{W:aD}{x:Nat}{mv:V}:∀{ps:List Nat} {vs:List V} {a:List Value},bp B W a vs->aH x (ps.zip vs)=au mv->∃v,(B.aA x,v)∈(ps.map B.aA).zip a/\aY B W v mv
 |[],_,_,_,h=>cP h|_::_,[],_,_,h=>cP h|p::ps,_::_,v::_,H,h=>by
  rw[po,fh]at h
  by_cases q:x=p
  ·subst q;rw[if_pos rfl]at h;(injection h with z;subst z);exact(aE _ (.head _) H.1)
  ·rw[if_neg q]at h;refine ap (WH H.2 h) λv b c=>?_
   exact(aE v (.tail _ b) c)
section
variable {B:aK} {m:Nat} {vs:List V} {v:Value} {mv:V} {W W':aD} {h:Heap} {σ':af} {s':Shared} {k:bu}
theorem L9(b:W.d.length=m)(R:aS B W' σ' s')(e:cK W h W' s'.heap)(c:aY B W' v mv)(d:(uF m mv σ').bD k):∃w a,k mv a/\aS B w a s'/\cK W h w s'.heap/\aY B w v mv:=by obtain⟨⟨L,l⟩,H⟩:=d;rw[r_]at l H;exact(eE _ _ H (R.aW l) (e.aW b) (aY.f aD.f.1 mv L c))
theorem L_{f:Option (Option Nat)}(g:W.d.length=m)(R:aS B W' σ' s')(e:cK W h W' s'.heap)(c:aY B W' v mv)(H:(sa f m vs mv σ').bD k):∃w b,k mv b/\aS B w b s'/\cK W h w s'.heap/\aY B w v mv:=by
 cases f with
 |none=>exact(eE W' σ' H R e c)|some o=>cases o with
  |none=>exact L9 g R e c H|some x=>cases vs with
   |nil=>exact H.elim|cons a r=>
    have d:=xq H;clear H;(refine kb d λD i F E q H=>?_;clear d;subst E);unfold uG at H;cases l:xB (aH x F)with
    |none=>rw[l]at H;exact L9 g R e c H|some j=>
     rw[l]at H;refine ap (iP H) λo s H=>?_
     have d:=L0 H;clear H;obtain⟨C,rfl,⟨L,t,u,n⟩,p⟩:=d;rw[r_,jH]at n p;refine sZ (R.g (fX q) (WI l) (fX s) L t n) λa o y z G K A=>?_
     exact(eE _ _ p A (e.g R g L y z) (aY.f K.1 mv u c))
end
theorem WJ{B:aK}{T:dq}{f:Addr}{m:gI}{n:Nat}{vs:List V}{σ:af}{k:bu}(G:gR B)(hm:br f T.a=au m)(O:vs.length=m.a.length)
  (h:∀fd body,pX B f m fd body->e_ B ⟨fd.qualname,fd.scope,f,fd.code,[],[]⟩ n body (m.a.zip vs) σ (uH m.iT (aQ σ) vs k)):bF B T (n+1) f vs σ k:=λm' t fd body F A W s a0 kw l Q E r R hb P p=>by
 rw[hm]at t;(injection t with z_;subst z_);refine ap F.g λo ho hd=>?_
 have X:=G.b R;have S:=P.a;have U:A.depth+(n+1)<=900:=r.d;have ru:A.units+5*(n+1)<=9000:=r.b;refine(M1 (fd:=fd) (body:=body) (by rw[show recursionLimit=1000 from rfl];exact aC 0x3e8c1a080384c1a180811 U) (X _ _ ho) hd (G.a.keeps R.j) (codeRec_of X F.c) F.v hb F.e ?_ (λi I H=>?_) F.t F.q F.j)
 ·intro y J;refine aV (y1 J) λC _=>?_
  refine ap (j6.mp C) λq hq e=>?_
  rw[←e];exact F.a q hq
 ·have u:aS B W σ {s with heap:=i,toks:=s.toks+((m.a.map B.aA).zip l).length}:=R.q (s':={s with heap:=i,toks:=s.toks+((m.a.map B.aA).zip l).length}) H rfl rfl;have N:((((m.a.map B.aA).zip l).reverse).map (·.1)).Nodup:=by
   rw[M5,rY];show List.Pairwise _ _;rw[List.pairwise_reverse];exact((u8 _ (λa2 a3 K e=>K (B.g _ _ e)) F.d:(m.a.map B.aA).Nodup).sublist (u9 _ _)).imp λh e=>h e.symm
  have fr:dF B ⟨fd.qualname,fd.scope,f,fd.code,[],[]⟩ W s.heap.objs.size (m.a.zip vs) i:=(lG R.m R.t (λ_ q=>absurd q ls) _ I (λx mv q=>by
   refine ap (WH P q) λv C h2=>?_
   have S:x∈m.a:=by
    refine aV (y1 C) λh3 _=>?_
    refine ap (j6.mp h3) λy J e=>?_
    exact B.g _ _ e▸J
   exact(aE v ((gZ.a (F:=⟨fd.qualname,fd.scope,f,fd.code,[],[]⟩) (F.a _ S)).symm▸WG (List.mem_reverse.mpr C) N) h2)))
  have w:cK W s.heap W i:=⟨λ_ _ x=>x,λ_ _ x=> .inl x,(aE [] (by simp) (by simp)),λ_ _ e _=>H _ _ e,λ_ ob e=>(ba ob (H _ _ e)),rfl⟩;rw[F.bA];refine h fd body F (A.deeper _) W _ _ _ _ ⟨by show A.depth+1+n<=900;exact aC 0x384c11a0880384c1a180811 U,by show A.units+3+5*n<=9000;exact aC 0x2328c100000593a0882328c1a1800000590811 ru,r.a⟩ u fr ?_;intro fl s' W' mf a1 σ' D Y e' f' hf;have j:cK W s.heap W' s'.heap:=(w.h.e e').g (pV _);have Z:W.d.length=aQ σ:=by rw[gO,R.k]
  cases hf with
  |a=>
   refine fA (L_ Z Y j .g D) λL z a2 a3 c d=>?_
   exact p _ _ _ _ _ a2 a3 c d
  |f M=>
   refine fA (L_ Z Y j M D) λL z a2 a3 c d=>?_
   exact p _ _ _ _ _ a2 a3 c d
  |g=>exact D.elim|b=>exact D.elim
section
variable {B:aK} {T:dq} {C:eN} {n:Nat} {σ:af} {k:bu}
theorem B6(O:cL B T)(d:∀g vs σ k,C g vs σ k->bF B T n g vs σ k){g:Addr}{m:gI}{args:List V}{K:List (Nat×V)}{vs:List V}(c:br g T.a=au m)(e:ll m.a m.b args K=au vs)(h:C g vs σ k)
  {A:j9}{W:aD}{s:Shared}{P:List Value}{a:List (Str×Value)}{Q E:Value->Shared->Prop}(r:eZ A n)(R:aS B W σ s)(f:bp B W P args)(e1:a.map (·.1)=K.map (λp=>B.aA p.1))(i:bp B W (a.map (·.2)) (K.map (·.2)))(p:jq B W s.heap k Q):
  codeAny B.b A (.call (.ref g) ⟨P,a⟩) (BS Q E) s:=by
 refine jg (O.a _ _ c) λj b F=>?_
 refine ap (WA F (O.bM.b R) e f e1 i) λv l H=>?_
 exact d _ _ _ _ h m c j b F A W s P a v Q E r R H l p
theorem WK{W:aD}{h:Heap}{o:Obj}(H:o=emptyDict):eG B W (h.push o) h.objs.size (.a []):=by subst H;exact .a (es:=[]) (n:=0) (ix _ rfl) .j (hB _)
theorem WL{D m:Nat}{f:Bool}{W c:aD}{h:Heap}{s':Shared}{x d:Addr}{σ':af}{mv:V}{v:Value}(n:W.d.length=m)(R:aS B c σ' s')(e:cK W h c s'.heap)(p:aY B c v mv)(q:c.d[m]? =au d)(Q:c.b x=au (instObj D d))
  (H:(mG D f m mv σ').bD k):v=.none/\∃w M b,k M b/\aS B w b s'/\cK W h w s'.heap/\aY B w (.ref x) M:=by
 refine aV (uB H) λs H=>?_
 have i:v=.none:=by
  cases mv with
  |g=>exact p|_=>exact bZ s
 refine(ai i ?_);cases f with
 |false=>exact(jt c _ σ' H R e (.k q Q))|true=>
  refine ap (iP H) λo j H=>?_
  cases o with
  |a F=>
   obtain⟨⟨L,l⟩,H⟩:=H;rw[r_]at l H;obtain⟨o,G,E,⟨N,rfl⟩,t,u⟩:=R.p _ _ _ q (fX j);refine aV (R.x q G (ds m) l) λK r=>?_
   exact⟨_,_,_,H,r,e.g R n (ds _) q G,x,_,rfl,K.b _ _ Q,d,rfl,d,_,rfl,by show(if d=d then _ else _)=_;rw[if_pos rfl],E,(ba N rfl),er.f K.1 F L t⟩
  |_=>exact H.elim
theorem WM(O:cL B T)(F:∀g vs σ k,C g vs σ k->bF B T n g vs σ k){D g:Addr}{c:kS}{m:gI}{args vs:List V}{K:List (Nat×V)}(G:br D T.h=au c)(I:c.e=au g)(J:br g T.a=au m)(L:ll m.a m.b (.k D (aQ σ)::args) K=au vs)
  (h:C g vs (cH σ (.a [])) λv d=>(mG D c.f (aQ σ) v d).bD k):eW B (n+1) (.h D) args K σ k:=λA W s vf l M Q E r R N U Y e2 p=>by
 refine me ((O.h _ _ G).e _ I) λmk fi ty kp=>?_
 subst N;have X:=O.bM.b R;refine cS (R.s emptyDict (.a []) (WK rfl)) λi j z=>?_
 refine cS (i.n (instObj D s.heap.objs.size) rfl) λa b Z=>?_
 have sz:({s with heap:=s.heap.push emptyDict}:Shared).heap.objs.size=s.heap.objs.size+1:=V2 _ _;rw[sz]at a b Z;have f:=j.e b;rw[←gO]at z;have H:eZ (A.under (.builtin "type.__call__" ⟨.ref D::l,M⟩)) n:=⟨by have:=r.d;show A.depth+1+n<=900;lia,by have:=r.b;show A.units+1+5*n<=9000;lia,r.a⟩;have P:cH σ (.a [])=σ++[.a []]:=oN _ _;rw[P]at h;obtain⟨hh,gg,dd,tt,os⟩:=s;refine ws (make_core (makes_of X mk) (looks_findIn X fi) (λS=>bind_fn X S ty) (.inl rfl) ?_);refine codeAny_mono (B6 (Q:=λv o=>v=.none/\Q (.ref (hh.objs.size+1)) o) (E:=E) O F J L h H a (.p (.k z Z) (U.c f.i)) Y (e2.c f.i) ?_) ?_
 ·intro v o W' mv a0 q R' t hv;refine T4 (WL (W:=W) (R.k.trans (gO _).symm) R' (f.e t) hv (t.i.g z) (t.b _ _ Z) q) λhn a1 a2 y q u w x=>?_
  exact(ai hn (p _ _ _ _ _ q u w x))
 ·intro r o H;rcases r with e|(v|_|_|_)<;>first|exact H|exact H.elim
theorem oP{α:Type}{o:Option α}{f:α->sd}{P:sd->Prop}(h:P (jY o f))(hn:¬P .a):∃c,o=au c/\P (f c):=by
 cases o with
 |none=>exact absurd h hn|some c=>exact(aE c rfl h)
def kB(T:dq)(C:eN)(m:Nat)(σ:af)(k:bu)(c:sd):Prop:=match c with
 | .a=>False| .cy g d=>C g d σ k| .j b A=>(uI T b A σ).bD k| .c D f g d=>C g d (cH σ (.a [])) λv a=>(mG D f m v a).bD k
theorem Ma(O:cL B T)(e:∀g vs σ k,C g vs σ k->bF B T n g vs σ k){f:V}{args:List V}{K:List (Nat×V)}(h:fS T C f args K σ k):oO B f/\eW B (n+1) f args K σ k:=by
 replace h:kB T C (aQ σ) σ k (pG T f args K (aQ σ)):=h;cases f with
 |cy g=>
  refine ap (oP (P:=kB T C (aQ σ) σ k) h id) λm H h=>?_
  refine ap (oP (P:=kB T C (aQ σ) σ k) h id) λvs d h=>?_
  refine jg (O.a _ _ H) λl a F=>?_
  refine(ai (Wq (BD m l a F) O.bM) (λA W s I o J Q N r R t u w y p=>?_));subst t;exact ws (B6 O e H d h (r.c (r9 _)) R u w y p)
 |E D i g=>
  refine ap (oP (P:=kB T C (aQ σ) σ k) h id) λm H h=>?_
  refine ap (oP (P:=kB T C (aQ σ) σ k) h id) λvs d h=>?_
  refine jg (O.a _ _ H) λl a F=>?_
  refine(ai (Ws (BD m l a F) O.bM) (λA W s I o J Q N r R t u w y p=>?_));obtain⟨q,_,rfl,L,v,rfl,M⟩:=t;exact ws (method_call (R.b _ _ L) (B6 O e H d h (r.c (r9 _)) R (.p (x:=.k D i) M u) w y p))
 |j b=>cases K with
  |nil=>exact(ai Wr (Wo O h))|cons _ _=>exact h.elim
 |h D=>
  refine ap (oP (P:=kB T C (aQ σ) σ k) h id) λc z h=>?_
  refine ap (oP (P:=kB T C (aQ σ) σ k) h id) λg G h=>?_
  refine ap (oP (P:=kB T C (aQ σ) σ k) h id) λm H h=>?_
  refine ap (oP (P:=kB T C (aQ σ) σ k) h id) λvs d h=>?_
  exact(ai (Wt ((O.h _ _ z).e _ G).2.2.2 O.bM) (WM O e z G H d h))
 |_=>exact h.elim
end
section
variable {B:aK} {T:dq} {C:eN} {n:Nat} {σ:af}
theorem WN(G:gR B){K:B7}{a i:Nat}{f:List (Nat×V)}{mv:V}(j:lI B.aA B.a K=true)(l:K.a.contains a=true)(h:σ[i]? =au (.a f))(t:aH a f=au mv):lS B n (B.aA a) (.k K.e i) σ mv []:=
 λA W s v F Q E r R o p=>by
 refine rK (sg R o h) λX J es m u _ g L _ I=>?_
 refine mj (pY j) λN O T P w x U Y=>?_
 subst u;refine method_usual (G.b R) I P w (x a (xC l)) rfl ?_;exact LQ (n:=n) (e:=false) G j l h t (k:=λv b=>v=mv/\b=σ) (ai rfl rfl) A W s _ _ E r R o λy S z M b q C D H=>by(refine aV q λc d=>?_;clear q;subst c;subst d);exact p S z y [] C D H .j
def kj(k:V->List V->Prop)(c:oQ):Prop:=match c with
 | .a=>False| .h f first=>k f first
theorem xD{α:Type}{o:Option α}{f:α->oQ}{k:V->List V->Prop}(h:kj k (ir o f)):∃c,o=au c/\kj k (f c):=by
 cases o with
 |none=>exact h.elim|some c=>exact(aE c rfl h)
theorem WO(O:cL B T){f:Nat}{o:V}{k:V->List V->af->Prop}(h:oD T f o σ k):∃p first,lS B n (B.aA f) o σ p first/\k p first σ:=by
 replace h:kj (λf l=>k f l σ) (mH T f o σ):=h;cases o with
 |k D i=>
  refine ap (xD (f:=λ(y:kS)=>ir (cn i σ) λo=>match o with
   | .a F=>(match aH f F with
    |some v=>(match cV f y.a with
     |true=> .h v []|false=> .a)
    |Option.none=>ir (br f y.b) λg=> .h (.cy g) [.k D i])
   |_=> .a) h) λy r h=>?_
  obtain⟨_,⟨C,q,t⟩,_⟩:=O.h _ _ r;refine ap (xD h) λo H h=>?_
  cases o with
  |a F=>
   dsimp only at h;cases j:aH f F with
   |some v=>
    rw[j]at h;cases m:cV f y.a with
    |true=>rw[m]at h;exact(cg _ _ (WN O.bM (K:=⟨D,y.a,y.b,C⟩) q (xp m) (fX H) j) h)|false=>rw[m]at h;exact h.elim
   |none=>
    rw[j]at h;refine ap (xD h) λg w h=>?_
    exact(cg _ _ (WP O.bM (T:=⟨D,y.a,y.b,C⟩) q ((uC _ _).symm.trans w) (fX H) j) h)
  |_=>exact h.elim
 |e s=>match f,h with
  |0,h|1,h|2,h|_+5,h=>exact h.elim|3,h=>refine O.i.2.2.2.1.symm▸ ?_;exact(cg _ _ WQ h)|4,h=>refine O.i.2.2.2.2.1.symm▸ ?_;exact(cg _ _ WR h)
 |c F=>match f,h with
  |0,h|1,h|2,h|3,h|4,h|5,h|_+8,h=>exact h.elim|6,h=>refine O.i.2.2.2.2.2.2.1.symm▸ ?_;exact(cg _ _ WS h)|7,h=>refine O.i.2.2.2.2.2.2.2.symm▸ ?_;exact(cg _ _ WT h)
 |o i=>
  refine ap (xD (f:=λo=>B8 f i o) h) λo H h=>?_
  cases o with
  |u x=>match f,h with
   |0,h=>refine O.i.1.symm▸ ?_;exact(cg _ _ (WU (fX H)) h)|1,h=>refine O.i.2.1.symm▸ ?_;exact(cg _ _ (WV (fX H)) h)|_+2,h=>exact h.elim
  |d b x=>match f,h with
   |0,h=>refine O.i.1.symm▸ ?_;exact(cg _ _ (WW (fX H)) h)|_+1,h=>exact h.elim
  |_=>exact h.elim
 |_=>exact h.elim
end
section
variable (B:aK) (T:dq) (C:eN) (n:Nat) (F:cM)
structure bW(x:aq):Prop where
 az:∀g lm σ k,((bK B.aA F.a x).az g).2=true->(ae T C x).az lm σ k->bh B F n ((bK B.aA F.a x).az g).1 lm σ k
 a:∀g lm σ k,((bK B.aA F.a x).az g).2=true->(ae T C x).a lm σ k->eV B F n ((bK B.aA F.a x).az g).1 lm σ k
 f:∀op l,((bK B.aA F.a x).f op l).2=true->∃e1 e2 r,((bK B.aA F.a x).f op l).1=e1::e2::r/\(∀lm σ k,(ae T C x).a lm σ k->jJ B F n op (e1::e2::r) lm σ k)/\∀p lm σ k,(ae T C x).az lm σ k->bh B F n (.BoolOp op (e1::e2::r) p) lm σ k
 c:∀l lm σ k,((bK B.aA F.a x).c l).2=true->(ae T C x).c lm σ k->gQ B F n ((bK B.aA F.a x).c l).1 lm σ k
 h:∀c lm σ k,((bK B.aA F.a x).b c).2=true->(ae T C x).h lm σ k->iZ B F n ((bK B.aA F.a x).b c).1 lm σ k
end
section
variable {B:aK} {T:dq} {C:eN} {n:Nat} {F:cM} {σ:af} {lm:ah}
theorem ch.c{t:Value->Value->NO Value}{a b:V}{k K:bu}(h:ch B n t a b σ k)(H:∀v σ',k v σ'->K v σ'):ch B n t a b σ K:=λA W s e f Q E r R g i p=>h A W s e f Q E r R g i λv S w m σ' a b C d=>p v S w m σ' (H _ _ a) b C d
theorem fq.c{t:Value->NO Bool}{a:V}{k K:Bool->af->Prop}(h:fq B n t a σ k)(H:∀v σ',k v σ'->K v σ'):fq B n t a σ K:=λA W s d Q E r R e p=>h A W s d Q E r R e λv S w σ' a b C=>p v S w σ' (H _ _ a) b C
theorem gQ.c{es:List Expr}{k K:List V->af->Prop}(h:gQ B F n es lm σ k)(H:∀v σ',k v σ'->K v σ'):gQ B F n es lm σ K:=λA W s L Q E r R f P=>h A W s L Q E r R f λv S w m σ' a b C d=>P v S w m σ' (H _ _ a) b C d
theorem iZ.c{es:List Keyword}{k K:List (Nat×V)->af->Prop}(h:iZ B F n es lm σ k)(H:∀v σ',k v σ'->K v σ'):iZ B F n es lm σ K:=λA W s L Q E r R f P=>h A W s L Q E r R f λv S w m σ' a b C d e=>P v S w m σ' (H _ _ a) b C d e
theorem bW.bN{x:aq}{f:Expr->Expr×Bool}(l:bK B.aA F.a x=.bN f)(m:∀g,(f g).2=true->∀L w,isTrue (f g).1 (F.bA L) w=(do let v←w;standAt (f g).1.pos;holding [v] (truthy v)))
  (p:(ae T C x).a=λlm σ k=>(ae T C x).az lm σ λy i=>eh y i k)(e:∀g lm σ k,(f g).2=true->(ae T C x).az lm σ k->bh B F n (f g).1 lm σ k):bW B T C n F x:=by
 constructor<;>refine l.symm▸ ?_
 ·exact e
 ·intro g lm σ k o q;rw[p]at q;exact .b (m g o) ((e g lm σ _ o q).c λv i H=>mQ H)
 ·exact λ_ _ o=>bZ o
 ·exact λ_ _ _ _ o=>bZ o
 ·exact λ_ _ _ _ o=>bZ o
theorem bW.hV{x:aq}{f:Expr->Expr×Bool}(H:bK B.aA F.a x=.bN f)(e:∀g lm σ k,(f g).2=true->(ae T C x).az lm σ k->bh B F n (f g).1 lm σ k)(t:∀g lm σ k,(f g).2=true->(ae T C x).a lm σ k->eV B F n (f g).1 lm σ k):bW B T C n F x:=by
 constructor<;>refine H.symm▸ ?_
 ·exact e
 ·exact t
 ·exact λ_ _ o=>bZ o
 ·exact λ_ _ _ _ o=>bZ o
 ·exact λ_ _ _ _ o=>bZ o
theorem bW.iO{x:aq}{f:List Expr->List Expr×Bool}{q:List Keyword->List Keyword×Bool}(H:bK B.aA F.a x=.iO f q)(l:∀g lm σ k,(f g).2=true->(ae T C x).c lm σ k->gQ B F n (f g).1 lm σ k)(m:∀g lm σ k,(q g).2=true->(ae T C x).h lm σ k->iZ B F n (q g).1 lm σ k):bW B T C n F x:=by
 constructor<;>refine H.symm▸ ?_
 ·exact λ_ _ _ _ o=>bZ o
 ·exact λ_ _ _ _ o=>bZ o
 ·exact λ_ _ o=>bZ o
 ·exact l
 ·exact m
theorem Mb{n:Nat}(h:k0 n 1000=true):n<=sizeLine:=by refine bw.symm▸ ?_;have:=hS h;exact cO ‹_›
theorem WX{L:Addr}{x:Str}{k:I2}(h:(F.a.names.lookup x==au k)=true):(F.bA L).kindOf x=au k:=ga h
theorem Mc(b:F.a.kind=.function){x:Nat}:bW B T C n F (.d x):=.bN rfl (λ_ _ _ _=>rfl) rfl λg lm σ k o h=>by
 refine aV (aI o) λH c=>?_
 replace h:(match aH x lm with|some v=>k v σ|none=>False):=h;cases a:aH x lm with
 |none=>rw[a]at h;exact h.elim|some v=>
  rw[a]at h;rcases(k5 _ _).mp H with H|H
  ·exact .a b (ga H) (jw c) a h
  rcases(k5 _ _).mp H with H|H
  ·exact .e b (ga H) (jw c) a h
  ·exact .i b (ga (aI H).1) (jw c) (jw (aI H).2) a h
theorem WY(O:cL B T)(a:F.a.kind=.function){x:Nat}:bW B T C n F (.G x):=.bN rfl (λ_ _ _ _=>rfl) rfl λg lm σ k o h=>by
 refine aV (aI o) λb c=>?_
 replace h:(match br x T.b with|some v=>k v σ|none=>False):=h;cases H:br x T.b with
 |none=>rw[H]at h;exact h.elim|some v=>rw[H]at h;exact .G O.bM (O.b _ _ H) a (λL=>WX b) (jw c) h
theorem WZ{s:Expr}(h:LC s=true)(o i:Value):subscripted s false o i=operate [o,i] (getItem o i):=by
 cases s with
 |Slice=>exact bZ h|_=>rfl
theorem oR.c{lo:Option Expr}{k K:bu}(h:oR B F n lo lm σ k)(H:∀v σ',k v σ'->K v σ'):oR B F n lo lm σ K:=by
 cases lo with
 |none=>exact H _ _ h|some e=>exact bh.c h H
theorem Md{x:aq}(h:ux x=true):x=.g:=by
 cases x with
 |g=>rfl|_=>exact bZ h
theorem Me{l:aq}{lo:Option Expr}{k:bu}(i:bW B T C n F l)(o:(rN l (bK B.aA F.a l) lo).2=true)(h:(ae T C l).az lm σ k):oR B F n (rN l (bK B.aA F.a l) lo).1 lm σ k:=by
 cases lo with
 |none=>cases Md o;exact h
 |some e=>exact i.az _ _ _ _ o h
theorem W0{a xs:aq}(h:LJ a=au xs):a=.D xs:=by
 cases a with
 |D _=>(injection h with z;subst z);rfl|_=>exact cP h
theorem Mf{a:aq}{p:aq×aq}(h:BL a=au p):a=.p p.1 p.2:=by
 cases a with
 |p _ _=>(injection h with z;subst z);rfl|_=>exact cP h
theorem vL{a:aq}(h:pg a=true):a=.j:=by
 cases a with
 |j=>rfl|_=>exact bZ h
theorem uJ{α c:Type}{a:Option α}{f:α->Option c}{b:c}(h:a.bind f=au b):∃x,a=au x/\f x=au b:=Option.bind_eq_some_iff.mp h
theorem W6{a:aq}{p:Nat×Nat}(h:BM a=au p):a=.D (.p (.d p.1) (.p (.d p.2) .j)):=by
 refine ap (uJ h) λX b h=>?_
 refine ap (uJ h) λc e h=>?_
 refine ap (uJ h) λx f h=>?_
 refine ap (uJ h) λd g h=>?_
 refine ap (uJ h) λy i h=>?_
 cases H:pg d.2 with
 |true=>rw[H]at h;(injection h with z;subst z);rw[W0 b,Mf e,vM f,Mf g,vM i,vL H]|false=>rw[H]at h;exact cP h
def nP(B:aK)(F:cM)(n:Nat)(es:List Expr)(out:Str)(lm:ah)(σ:af)(k:bu):Prop:=∀A W s L Q E,eZ A n->aS B W σ s->dF B F W L lm s.heap->jq B W s.heap k Q->hJ B.b A (joinParts out (evalEach es (F.bA L))) Q E s
section
variable {lm:ah} {k:bu} {es:List Expr} {out:Str} {pos:Pos}
theorem nP.j(l:out.length<=sizeLine)(h:k (.e out) σ):nP B F n [] out lm σ k:=λA W s L Q E r R f p=>joinParts_nil (p _ _ W _ σ h R.a .a (.e out _ l)) l
theorem nP.b{x:Str}{c:Nat}(l:(out++x).length<=sizeLine)(h:nP B F n es (out++x) lm σ k):nP B F n (.Constant (.str x) c pos::es) out lm σ k:=λA W s L Q E r R f p=>V3 (rest:=evalEach es (F.bA L)) (Fb (ai l (h A W {s with toks:=s.toks+1} L Q E r R.a f p)))
theorem nP.a{e:Expr}{x:Str}(u:x.length<=sizeLine)(l:(out++x).length<=sizeLine)(y:∀k,k (.e x) σ->bh B F n e lm σ k)(h:nP B F n es (out++x) lm σ k):nP B F n (.FormattedValue e 115 none pos::es) out lm σ k:=λA W s L Q E r R f p=>by refine V3 (rest:=evalEach es (F.bA L)) ?_;show hJ _ A (do let v←eval e (F.bA L);standAt pos;formatted pos (←holding [v] (converted 115 v)) none) _ E s;refine cT (y (λv g=>v=.e x/\g=σ) (ai rfl rfl) A W s L _ E r R f λv S w M i G d c H=>?_);(refine aV G λm o=>?_;clear G;subst m;subst o);(refine ap H λt q _=>?_;clear H;subst q);refine cT (kF (cT (il ?_)));show hJ _ A (habitSame "fstring-hands-on-the-str" (.str x t)) _ E S;refine habitSame_str (λz D=>?_) u;show hJ _ A (formatField (.str x z) tl) _ E _;refine formatField_str (λC T=>(ai l ?_)) u;exact h A w {S with toks:=T} L Q E r d.a (f.a c) (p.a c)
theorem bh.g{a b:Expr}(h:nP B F n (a::b::es) tl lm σ k):bh B F n (.JoinedStr (a::b::es) pos) lm σ k:=λA W S L Q x C R D P=>JoinedStr_many (h A W S L Q x C R D P)
end
theorem xE(x:Str):tl++x=x:=by obtain⟨x⟩:=x;exact congrArg Str.mk Array.empty_append
theorem xF(T:dq)(C:eN)(H:F.a.kind=.function){x:Nat}{g:Expr}{v:V}(o:(uy B.aA F.a x g).2=true)(a:aH x lm=au v)(k:bu)(h:k v σ):bh B F n (uy B.aA F.a x g).1 lm σ k:=(Mc (T:=T) (C:=C) H).az g lm σ k o (by
 show match aH x lm with
  |some v=>k v σ|none=>False
 refine a.symm▸ ?_;exact h)
theorem Mg(d:F.a.kind=.function){i:Nat}{a:aq}{g:Expr}(o:(rO B.aA F.a i a g).2=true):(∃es pos,(rO B.aA F.a i a g).1=.JoinedStr es pos)/\∀lm σ k,(ae T C (.L i a)).az lm σ k->bh B F n (rO B.aA F.a i a g).1 lm σ k:=by
 have r:=bw;delta rO at o⊢;cases f:BM a with
 |none=>rw[f]at o;exact bZ o|some p=>
  cases W6 f;rw[f]at o;have G:∀{lm σ k i},(ae T C (.L i (.D (.p (.d p.1) (.p (.d p.2) .j))))).az lm σ k->∃v u,aH p.1 lm=au v/\aH p.2 lm=au u/\(xG i (.D [v,u])).bD σ k:=λ{lm σ k i} h=>by
   replace h:(match aH p.1 lm with
    |some v=>(match aH p.2 lm with
     |some u=>(xG i (.D [v,u])).bD σ k|none=>False)
    |none=>False):=h
   cases b:aH p.1 lm with
   |none=>rw[b]at h;exact h.elim|some v=>
    cases c:aH p.2 lm with
    |none=>rw[b,c]at h;exact h.elim|some u=>rw[b,c]at h;exact(dy v u rfl rfl h)
  cases q:e6 i 1 with
  |true=>
   obtain rfl:=g6 q;refine aV (aI o) λO j=>?_
   refine(ai ⟨_,_,rfl⟩ (λlm σ k h=>?_));refine dz (G h) λv u b c h=>?_
   (refine ap (gG h) λx E h=>?_;subst E);obtain⟨y,rfl,⟨l,L⟩,h⟩:=gG h;have e:tl++("%TAG ":Str)=("%":Str)++"TAG ":=by decide+kernel
   rw[←e]at h;have z:(tl++("%TAG ":Str)).length=5:=by decide+kernel
   have Z:(" ":Str).length=1:=by decide
   exact .g (.b (by refine z.symm▸ ?_;trivial) (.a (by exact cO ‹_›) (by(rewrite[de];refine z.symm▸ ?_);exact aO 0x1000000d05a800f4240d011 l) (λk H=>xF T C d O b k H) (.b (by(rewrite[de,de];refine z.symm▸Z.symm▸ ?_);exact aO 0x1000000d1a05a8800f4240d011 l) (.a (by exact cO ‹_›) (by(rewrite[de,de,de];refine z.symm▸Z.symm▸ ?_);exact aC 0x1000000d11a05a88800f4240d1100f4240d012 l L) (λk H=>xF T C d j c k H) (.j (by(rewrite[de,de,de];refine z.symm▸Z.symm▸ ?_);exact aC 0x1000000d11a05a88800f4240d1100f4240d012 l L) h)))))
  |false=>
   cases Q:e6 i 7 with
   |true=>
    obtain rfl:=g6 Q;refine aV (aI o) λO j=>?_
    refine(ai ⟨_,_,rfl⟩ (λlm σ k h=>?_));refine dz (G h) λv u b c h=>?_
    (refine ap (gG h) λx m h=>?_;subst m);obtain⟨y,rfl,⟨l,L⟩,h⟩:=gG h;rw[←xE x]at h;exact .g (.a (by exact cO ‹_›) (by rw[xE];exact cO ‹_›) (λk H=>xF T C d O b k H) (.a (by exact cO ‹_›) (by rw[de,xE];exact aC 0x1000000d10800f4240d1100f4240d012 l L) (λk H=>xF T C d j c k H) (.j (by rw[de,xE];exact aC 0x1000000d10800f4240d1100f4240d012 l L) h)))
   |false=>rw[q,Q]at o;exact bZ o
theorem W8(c:F.a.kind=.function){i:Nat}{a:aq}(I:bW B T C n F a):bW B T C n F (.L i a):=by
 cases H:BN i with
 |none=>
  refine .bN (f:=rO B.aA F.a i a) (by show nN.bN _=_;exact H.symm▸rfl) (λg o L w=>?_) rfl λg lm σ k o h=>(Mg c o).2 lm σ k h
  refine jg ((Mg (T:=T) (C:=C) (n:=n) c o).1) λes pos e=>?_
  refine e.symm▸ ?_;rfl
 |some f=>
  exact .bN (f:=λg=>(.BinOp (.Constant (.str f) (lN (dc g)) (dc g).pos) .Mod ((bK B.aA F.a a).az (iA g)).1 g.pos,k0 f.length 1000&&((bK B.aA F.a a).az (iA g)).2)) (by show nN.bN _=_;exact H.symm▸rfl) (λ_ _ _ _=>rfl) rfl
   λg lm σ k o h=> .H (.b (Mb (aI o).1) ((I.az _ _ _ _ (aI o).2 h).c λy b h=>W9 H h))
theorem xH{vs:List V}{σ:af}{P:Prop}(h:match k0 (aQ vs) 60 with
  |true=>P|false=>False):vs.length<=60/\P:=by
 cases q:k0 (aQ vs) 60 with
 |true=>rw[q]at h;exact(ai (gO vs▸hS q) h)|false=>rw[q]at h;exact h.elim
theorem eV.f{t a b:Expr}{pos:Pos}{k:Bool->af->Prop}(h:eV B F n t lm σ λc e=>(c=true->eV B F n a lm e k)/\(c=false->eV B F n b lm e k)):eV B F n (.IfExp t a b pos) lm σ k:=
 λA W s L Q E r R j p=>by
 rw[arm_isTrue_IfExp];refine cT (h A W s L _ E r R j λc S w e H i g=>?_);cases c
 ·exact(H.2 rfl) A w S L Q E r i (j.a g) (p.a g)
 ·exact(H.1 rfl) A w S L Q E r i (j.a g) (p.a g)
theorem W_{op:r7}{a b:aq}(i:bW B T C n F a)(I:bW B T C n F b):bW B T C n F (.y op a b):=.hV rfl
 (λg lm σ k o h=> .y (jw (aI o).1) ((i.az _ _ _ _ (aI (aI o).2).1 h).c λv c h=>(I.az _ _ _ _ (aI (aI o).2).2 h).c λy d h=>rW h))
 λg lm σ k o h=> .y (jw (aI o).1) ((i.az _ _ _ _ (aI (aI o).2).1 h).c λv c h=>(I.az _ _ _ _ (aI (aI o).2).2 h).c λy d h=>ch.c (rW h) λz e h=>mQ h)
theorem Xa{op O:r7}{a b c:aq}(I:bW B T C n F a)(s:bW B T C n F b)(u:bW B T C n F c):bW B T C n F (.J op O a b c):=.hV rfl
 (λg lm σ k o h=>by
  refine aV (aI o) λH o=>?_;refine aV (aI o) λl o=>?_;refine aV (aI o) λm p=>?_
  exact .J (jw H) ((I.az _ _ _ _ l h).c λv d h=>(s.az _ _ _ _ m h).c λy e h=>ch.c (rW h) λz f h=>fq.c (mQ h) λt i h=>(ai ((fc h).2) (λq=>(u.az _ _ _ _ p ((fc h).1 q)).c λY j h=>rW h))))
 λg lm σ k o h=>by
  refine aV (aI o) λH o=>?_;refine aV (aI o) λl o=>?_;refine aV (aI o) λm p=>?_
  exact .J (jw H) ((I.az _ _ _ _ l h).c λv d h=>(s.az _ _ _ _ m h).c λy e h=>ch.c (rW h) λz f h=>fq.c (mQ h) λt i h=>(ai ((fc h).2) (λq=>(u.az _ _ _ _ p ((fc h).1 q)).c λY j h=>ch.c (rW h) λZ r h=>mQ h)))
theorem Xb{t a b:aq}(i:bW B T C n F t)(I:bW B T C n F a)(e:bW B T C n F b):bW B T C n F (.B t a b):=.hV rfl
 (λg lm σ k o h=> .f ((i.a _ _ _ _ (aI o).1 h).c λc d h=>(ai (λH=>I.az _ _ _ _ (aI (aI o).2).1 ((fc h).1 H)) (λH=>e.az _ _ _ _ (aI (aI o).2).2 ((fc h).2 H)))))
 λg lm σ k o h=> .f ((i.a _ _ _ _ (aI o).1 h).c λc d h=>(ai (λH=>I.a _ _ _ _ (aI (aI o).2).1 ((fc h).1 H)) (λH=>e.a _ _ _ _ (aI (aI o).2).2 ((fc h).2 H))))
theorem B9{a b:aq}(i:bW B T C n F a)(I:bW B T C n F b){l:List Expr}(o:(iY .And (bK B.aA F.a a) (bK B.aA F.a b) l).2=true):
  ∃e1 E r,(iY .And (bK B.aA F.a a) (bK B.aA F.a b) l).1=e1::E::r/\(∀lm σ k,(ae T C (.C a b)).a lm σ k->jJ B F n .And (e1::E::r) lm σ k)/\∀p lm σ k,(ae T C (.C a b)).az lm σ k->bh B F n (.BoolOp .And (e1::E::r) p) lm σ k:=by
 delta iY at o⊢;cases e:et l with
 |nil=>rw[e]at o;exact bZ o|cons y r=>
  rw[e]at o;cases r with
  |nil=>
   refine aV (aI o) λg j=>?_
   exact(pJ _ _ [] rfl (λlm σ k h=> .a ((i.a _ _ _ _ g h).c λc d h=>(ai (λH=> .a ((I.a _ _ _ _ j ((fc h).1 H)).c λc f h=>(ai (λH=> .c (H▸h)) (λH=>H▸h)))) ((fc h).2)))) (λp lm σ k h=> .pU ((i.az _ _ _ _ g h).c λx d h=>fq.c (mQ h) λc f h=>(ai ((fc h).2) (λH=>I.az _ _ _ _ j ((fc h).1 H))))))
  |cons z r=>
   refine aV (aI o) λg j=>?_
   refine kb (I.f _ _ j) λe1 E R m q s=>?_
   exact(pJ _ e1 (E::R) (by dsimp only;exact m.symm▸rfl) (λlm σ k h=> .a ((i.a _ _ _ _ g h).c λc d h=>(ai (λH=>q _ _ _ ((fc h).1 H)) ((fc h).2)))) (λp lm σ k h=> .s ((i.az _ _ _ _ g h).c λx d h=>fq.c (mQ h) λc f h=>(ai ((fc h).2) (λH=>s p _ _ _ ((fc h).1 H))))))
theorem B_{a b:aq}(i:bW B T C n F a)(I:bW B T C n F b){l:List Expr}(o:(iY .Or (bK B.aA F.a a) (bK B.aA F.a b) l).2=true):
  ∃e1 E r,(iY .Or (bK B.aA F.a a) (bK B.aA F.a b) l).1=e1::E::r/\(∀lm σ k,(ae T C (.A a b)).a lm σ k->jJ B F n .Or (e1::E::r) lm σ k)/\∀p lm σ k,(ae T C (.A a b)).az lm σ k->bh B F n (.BoolOp .Or (e1::E::r) p) lm σ k:=by
 delta iY at o⊢;cases e:et l with
 |nil=>rw[e]at o;exact bZ o|cons y r=>
  rw[e]at o;cases r with
  |nil=>
   refine aV (aI o) λg j=>?_
   exact(pJ _ _ [] rfl (λlm σ k h=> .b ((i.a _ _ _ _ g h).c λc d h=>(ai (λH=> .b ((I.a _ _ _ _ j ((fc h).2 H)).c λc f h=>(ai (λH=> .d (H▸h)) (λH=>H▸h)))) ((fc h).1)))) (λp lm σ k h=> .q ((i.az _ _ _ _ g h).c λx d h=>fq.c (mQ h) λc f h=>(ai ((fc h).1) (λH=>I.az _ _ _ _ j ((fc h).2 H))))))
  |cons z r=>
   refine aV (aI o) λg j=>?_
   refine kb (I.f _ _ j) λe1 E R m q s=>?_
   exact(pJ _ e1 (E::R) (by dsimp only;exact m.symm▸rfl) (λlm σ k h=> .b ((i.a _ _ _ _ g h).c λc d h=>(ai (λH=>q _ _ _ ((fc h).2 H)) ((fc h).1)))) (λp lm σ k h=> .r ((i.az _ _ _ _ g h).c λx d h=>fq.c (mQ h) λc f h=>(ai ((fc h).1) (λH=>s p _ _ _ ((fc h).2 H))))))
theorem Xc{a b:aq}(i:bW B T C n F a)(I:bW B T C n F b):bW B T C n F (.C a b) where
 az g lm σ k o h:=by
  refine kb (B9 i I o) λe E r H _ d=>?_
  show bh B F n (.BoolOp .And (iY .And (bK B.aA F.a a) (bK B.aA F.a b) (da g)).1 g.pos) lm σ k;refine H.symm▸ ?_;exact d _ _ _ _ h
 a g lm σ k o h:=by
  refine kb (B9 i I o) λe E r H j _=>?_
  show eV B F n (.BoolOp .And (iY .And (bK B.aA F.a a) (bK B.aA F.a b) (da g)).1 g.pos) lm σ k;refine H.symm▸ ?_;exact .a (j _ _ _ h)
 f O l o:=by
  cases O with
  |And=>exact B9 i I o|Or=>exact bZ o
 c _ _ _ _ o:=bZ o
 h _ _ _ _ o:=bZ o
theorem Xd{a b:aq}(i:bW B T C n F a)(I:bW B T C n F b):bW B T C n F (.A a b) where
 az g lm σ k o h:=by
  refine kb (B_ i I o) λe E r H _ d=>?_
  show bh B F n (.BoolOp .Or (iY .Or (bK B.aA F.a a) (bK B.aA F.a b) (da g)).1 g.pos) lm σ k;refine H.symm▸ ?_;exact d _ _ _ _ h
 a g lm σ k o h:=by
  refine kb (B_ i I o) λe E r H j _=>?_
  show eV B F n (.BoolOp .Or (iY .Or (bK B.aA F.a a) (bK B.aA F.a b) (da g)).1 g.pos) lm σ k;refine H.symm▸ ?_;exact .a (j _ _ _ h)
 f O l o:=by
  cases O with
  |Or=>exact B_ i I o|And=>exact bZ o
 c _ _ _ _ o:=bZ o
 h _ _ _ _ o:=bZ o
theorem Xe{f:Expr}{es:List Expr}{ks:List Keyword}{pos:Pos}(h:LD f=true)(env:Env):eval (.Call f es ks pos) env=(do callWith pos (←eval f env) [] (backTo pos (starEach es env)) (backToKw pos (keywordEach ks env))):=by
 cases f with
 |Attribute=>exact bZ h|_=>rfl
theorem jn(O:cL B T)(H:F.a.kind=.function)(e:∀g vs σ k,C g vs σ k->bF B T n g vs σ k):∀x,bW B T C (n+1) F x
 | .g=> .bN rfl (λ_ _ _ _=>rfl) rfl λ_ _ _ _ _ h=> .j h| .l _=> .bN rfl (λ_ _ _ _=>rfl) rfl λ_ _ _ _ _ h=> .l h| .q _=> .bN rfl (λ_ _ _ _=>rfl) rfl λ_ _ _ _ _ h=> .o h| .e _=> .bN rfl (λ_ _ _ _=>rfl) rfl λ_ _ _ _ d h=> .b (Mb d) h| .d _=>Mc H| .G _=>WY O H| .w o _=> .bN rfl (λ_ _ _ _=>rfl) rfl λ_ _ _ _ d h=> .w (aI d).1 (((jn O H e o).az _ _ _ _ (aI d).2 h).c λ_ _ h=>LP O h)| .H _ a b=> .bN rfl (λ_ _ _ _=>rfl) rfl λ_ _ _ _ d h=> .H (((jn O H e a).az _ _ _ _ (aI d).1 h).c λ_ _ h=>((jn O H e b).az _ _ _ _ (aI d).2 h).c λ_ _ h=>Ve h)| .M a=> .bN rfl (λ_ _ _ _=>rfl) rfl λ_ _ _ _ d h=> .p (((jn O H e a).az _ _ _ _ d h).c λ_ _ h=>Vr h)| .n a=> .hV rfl (λ_ _ _ _ d h=> .d (((jn O H e a).az _ _ _ _ d h).c λ_ _ h=>mQ h)) λ_ _ _ _ d h=> .d ((jn O H e a).a _ _ _ _ d h)| .y _ a b=>W_ (jn O H e a) (jn O H e b)| .J _ _ a b c=>Xa (jn O H e a) (jn O H e b) (jn O H e c)| .C a b=>Xc (jn O H e a) (jn O H e b)| .A a b=>Xd (jn O H e a) (jn O H e b)| .B t a b=>Xb (jn O H e t) (jn O H e a) (jn O H e b)| .z f A K=> .bN rfl (λ_ _ _ _=>rfl) rfl λ_ _ _ _ d h=>by
  refine aV (aI d) λj d=>?_;refine aV (aI d) λm d=>?_;refine aV (aI d) λp d=>?_;refine aV (aI d) λq d=>?_;refine aV (aI d) λs w=>?_
  exact .z (Xe j) m p (((jn O H e f).az _ _ _ _ q h).c λ_ _ h=>gQ.c ((jn O H e A).c _ _ _ _ s h) λ_ _ h=>iZ.c ((jn O H e K).h _ _ _ _ w h) λ_ _ h=>Ma O e h)
 | .E o f A K=> .bN rfl (λ_ _ _ _=>rfl) rfl λ_ _ _ _ d h=>by
  refine aV (aI d) λj d=>?_;refine aV (aI d) λm d=>?_;refine aV (aI d) λp d=>?_;refine aV (aI d) λq d=>?_;refine aV (aI d) λs d=>?_;refine aV (aI d) λw d=>?_;refine aV (aI d) λE G=>?_
  refine .E j m (of_decide_eq_true p) q s (((jn O H e o).az _ _ _ _ w h).c λv y h=>?_);refine dJ (WO (n:=n+1) O h) λI first J h=>?_
  exact(cg I first J (gQ.c ((jn O H e A).c _ _ _ _ E h) λvs z h=>iZ.c ((jn O H e K).h _ _ _ _ G h) λL D h=>Ma O e (oN first vs▸h)))
 | .m o i=> .bN rfl (λ_ _ _ _=>rfl) rfl λ_ _ _ _ d h=> .m (WZ (aI d).1) (((jn O H e o).az _ _ _ _ (aI (aI d).2).1 h).c λ_ _ h=>((jn O H e i).az _ _ _ _ (aI (aI d).2).2 h).c λ_ _ h=>VP h)| .K o l u=> .bN rfl (λ_ _ _ _=>rfl) rfl λ_ _ _ _ d h=> .v (((jn O H e o).az _ _ _ _ (aI d).1 h).c λ_ _ h=>(Me (jn O H e l) (aI (aI d).2).1 h).c λ_ _ h=>(Me (jn O H e u) (aI (aI d).2).2 h).c λ_ _ h=>VW h)| .D X=> .bN rfl (λ_ _ _ _=>rfl) rfl λ_ _ _ _ d h=> .t (hS (aI d).1) (gQ.c ((jn O H e X).c _ _ _ _ (aI d).2 h) λ_ σ h=>xH (σ:=σ) h)| .u X=> .bN rfl (λ_ _ _ _=>rfl) rfl λ_ _ _ _ d h=> .u (gQ.c ((jn O H e X).c _ _ _ _ d h) λ_ σ h=>(xH (σ:=σ) h).imp id BY)| .L i a=>W8 H (jn O H e a)| .F _=> .bN rfl (λ_ d=>bZ d) rfl λ_ _ _ _ d=>bZ d| .N _ _ _ _=> .bN rfl (λ_ d=>bZ d) rfl λ_ _ _ _ d=>bZ d| .j=> .iO rfl (λ_ _ _ _ _ h=> .j h) λ_ _ _ _ _ h=> .j h| .p a r=> .iO rfl (λ_ _ _ _ d h=> .p (jw (aI d).1) (((jn O H e a).az _ _ _ _ (aI (aI d).2).1 h).c λ_ _ h=>gQ.c ((jn O H e r).c _ _ _ _ (aI (aI d).2).2 h) λ_ _ h=>h)) λ_ _ _ _ d=>bZ d| .I _ a r=> .iO rfl (λ_ _ _ _ d=>bZ d) λ_ _ _ _ d h=> .p (((jn O H e a).az _ _ _ _ (aI d).1 h).c λ_ _ h=>iZ.c ((jn O H e r).h _ _ _ _ (aI d).2 h) λ_ _ h=>h)
end
section
variable {B:aK} {T:dq} {C:eN} {n:Nat} {F:cM} {σ:af} {lm:ah} {pos:Pos}
theorem jr.c{t:Value->NO Value}{a:V}{k K:bu}(h:jr B n t a σ k)(H:∀v σ',k v σ'->K v σ'):jr B n t a σ K:=λA W s e Q E r R f p=>h A W s e Q E r R f λv S w m σ' a b C d=>p v S w m σ' (H _ _ a) b C d
theorem kh.c{t:Expr}{v:V}{k K:ah->af->Prop}(h:kh B F n t v lm σ k)(H:∀l σ',k l σ'->K l σ'):kh B F n t v lm σ K:=λA W s L e Q E r R f g p=>h A W s L e Q E r R f g λS i l σ' j b C d=>p S i l σ' (H _ _ j) b C d
theorem ec.h{x:Nat}{e:Expr}{op:l9}{q:Pos}{v:V}{k:bH->ah->af->Prop}(U:F.a.kind=.function)(T:F.a.names.lookup (B.aA x)=au .local)(hl:aH x lm=au v)
  (h:bh B F n e lm σ λy j=>ch B n (inplaceOp op) v y j λz t=>k .a (aU x z lm) t):ec B F n (.AugAssign (.Name (B.aA x) q) op e pos) lm σ k:=λA W s L Q E r R a2 a3=>by
 refine wpAny_AugAssign_Name ?_;have X:=a2;(refine lE X λ_ _ _ m hn hm=>?_;clear X);refine ap (hm x v hl) λw Y h2=>?_
 rw[gZ.a T]at Y;refine lP (env:=F.bA L) U T hn Y ?_;refine h A W s L _ E r R a2 λvy S D y j H G u I=>H A D S _ _ _ E r G (h2.c u.i) I λvz Z a0 z t J K C M=>?_
 exact xe U T K (a2.a (u.e C)) M λa1 N O P=>a3 _ _ _ _ _ _ J N ((u.e C).h.e O) P .a
theorem ec.i{o e:Expr}{a:Str}{op:l9}{q:Pos}{k:bH->ah->af->Prop}
  (h:bh B F n o lm σ λov j=>jr B n (λx=>getAttr x a true) ov j λv m=>bh B F n e lm m λy t=>ch B n (inplaceOp op) v y t λz u=>xm B n (λx y=>setAttr x a y) ov z u λw=>k .a lm w):
  ec B F n (.AugAssign (.Attribute o a q) op e pos) lm σ k:=λA W s L Q E r R b3 b4=>by
 refine wpAny_AugAssign_AttributeAny ?_;refine h A W s L _ E r R b3 λvo S K ov j M N G H=>M A K S vo _ E r N H λvv O P v m T U C X=>?_
 refine T A P O L _ E r U (b3.a (G.e C)) λvy Y Z y t a0 a1 D a2=>a0 A Z Y vv vy _ E r a1 (X.c D.i) a2 λvz a3 a4 z u a5 a6 I a7=>?_
 have a8:=((G.e C).e D).e I;refine a5 A a4 a3 vo vz _ E r a6 (H.c ((C.e D).e I).i) a7 λb1 b2 w a9 b0 J=>?_
 exact b4 _ _ _ _ _ _ a9 b0 (a8.e J).h (b3.a (a8.e J)) .a
def B'(B:aK)(F:cM)(n:Nat):List Expr->V->ah->af->(ah->af->Prop)->Prop
 |[],_,lm,σ,k=>k lm σ|t::r,v,lm,σ,k=>kh B F n t v lm σ λl a=>B' B F n r v l a k
theorem Xf{v:V}:∀{ts:List Expr} {lm:ah} {σ:af} {k:ah->af->Prop},B' B F n ts v lm σ k->∀A W s L e (Q:Unit->Shared->Prop) E,eZ A n->aS B W σ s->dF B F W L lm s.heap->aY B W e v->
  (∀s' w l σ',k l σ'->aS B w σ' s'->fW L W s.heap w s'.heap->dF B F w L l s'.heap->Q () s')->hJ B.b A (assignAll e (ts.map λt=>assign t (F.bA L))) Q E s
 |[],lm,σ,k,h,A,W,s,L,e,Q,E,r,R,f,H,p=>fe (p _ _ _ _ h R .a f)|[t],lm,σ,k,h,A,W,s,L,e,Q,E,r,R,f,H,p=>h A W s L e Q E r R f H λs' w l σ' a b c d=>p _ _ _ _ a b c d|t::T::ts,lm,σ,k,h,A,W,s,L,e,Q,E,r,R,f,H,p=>by refine cT (il (h A W s L e _ E r R f H λs' w l σ' a b c d=>?_));exact Xf (ts:=T::ts) a A w s' L e Q E r b d (H.c c.i) λS j g i m o C D=>p _ _ _ _ m o (c.e C) D
theorem uK{n:Nat->Str}{s:Scope}{x:aq}{g:Expr}(h:(hO n s x g).2=true):(∀(es:List Expr) (env:Env),assignEach ((hO n s x g).1::es) env=(false,assign (hO n s x g).1 env)::assignEach es env)/\∀(r:List Expr) (v:Expr) (env:Env),swappedStores ((hO n s x g).1::r) v env=pure none:=by
 cases x with
 |d|w|m=>exact(ai (λ_ _=>rfl) (λ_ _ _=>rfl))|_=>exact bZ h
theorem Mh{n:Nat->Str}{s:Scope}:∀{ts:aq} {l:List Expr},(ge n s ts l).2=true->∀env,assignEach (ge n s ts l).1 env=(ge n s ts l).1.map λe=>(false,assign e env):=by
 intro ts
 induction ts with
 |j=>intro _ _ _;rfl
 |p t r _ i=>intro l h env;show assignEach ((hO n s t (cC l)).1::(ge n s r (et l)).1) env=_;rw[(uK (aI h).1).1,i (aI h).2];rfl
 |_=>intro _ h _;exact bZ h
theorem Xg{ts:List Expr}{a:Expr}{k:bH->ah->af->Prop}(x:∀env,assignEach ts env=ts.map λe=>(false,assign e env))(y:∀L,swapsWithSole ts a pos.line (F.bA L)=pure false)(z:∀L,swappedStores ts a (F.bA L)=pure none)
  (h:bh B F n a lm σ λv b=>B' B F n ts v lm b λl c=>k .a l c):ec B F n (.Assign ts a pos) lm σ k:=
 λA W s L Q E r R f p=>o2 (h A W s L _ E r R f λC S w v b H g d i=>by rw[x,qA];exact Xf H A w S L C _ E r g (f.a d) i λt u l c j m o q=>p _ _ _ _ _ _ j m (d.h.e o) q .a) (y L) (z L)
theorem rG{v:Expr}{t:Option Expr}{l:Nat}{env:Env}(h:lB v=true):swapsWith v t l env=pure false:=by
 delta swapsWith;cases v with
 |ListComp|SetComp|DictComp=>exact bZ h|_=>rfl
theorem Xh(g:F.a.kind=.function):∀{ts:aq} {l:List Expr} {vs:List V} {lm a:ah},(ge B.aA F.a ts l).2=true->mS ts vs lm=au a->(ge B.aA F.a ts l).1.length=vs.length/\
  ∀{A W s L b} {Q:Unit->Shared->Prop} {E},eZ A n->aS B W σ s->dF B F W L lm s.heap->bp B W b vs->
  (∀s',aS B W σ s'->fW L W s.heap W s'.heap->dF B F W L a s'.heap->Q () s')->hJ B.b A (assignInOrder ((ge B.aA F.a ts l).1.map λe=>assign e (F.bA L)) b) Q E s:=by
 intro ts
 induction ts with
 |j=>
  intro l vs lm a _ u;cases vs with
  |nil=>(injection u with z;subst z);exact(ai rfl (λr R f H P=>by subst H;exact fe (P _ R .a f)))|cons _ _=>exact cP u
 |p t ts _ i=>
  intro l vs lm a h u;cases vs with
  |nil=>exact cP u|cons v vs=>
   replace u:(match kW t with
    |some x=>mS ts vs (aU x v lm)|none=>none)=au a:=u
   cases e:kW t with
   |none=>rw[e]at u;exact cP u|some x=>
    rw[e]at u;cases vM e;refine aV (i (aI h).2 u) λI k=>?_
    refine(ai (congrArg (· +1) I) (λ{A W s L b Q E} r R f H P=>?_));cases b with
    |nil=>exact H.elim|cons w y=>refine cT (il ?_);show hJ _ _ (do standAt (cC l).pos;bindName (F.bA L) (B.aA x) _) _ E s;exact cT (kF (z4 (xe g (ga (aI h).1) R f H.1 λs' m o q=>k r m q H.2 λS c C d=>P _ c (o.e C) d)))
 |_=>intro _ _ _ _ h _;exact bZ h
theorem Xi(l:List (Bool×(Value->NO Unit)))(h:∀x∈l,x.1=false):l.findIdx? (·.1)=none:=List.findIdx?_eq_none_iff.mpr h
theorem Xj{ts:aq}{l:List Expr}{x:Expr}{c:Nat}{q:Pos}{lm:ah}{k:bH->ah->af->Prop}(P:F.a.kind=.function)(M:(ge B.aA F.a ts l).2=true)
  (T:∀L,swapsWithSole [.Tuple (ge B.aA F.a ts l).1 c q] x pos.line (F.bA L)=pure false)(U:∀L,swappedStores [.Tuple (ge B.aA F.a ts l).1 c q] x (F.bA L)=pure none)
  (h:bh B F n x lm σ λv d=>∃vs g,v=.D vs/\mS ts vs lm=au g/\k .a g d):ec B F n (.Assign [.Tuple (ge B.aA F.a ts l).1 c q] x pos) lm σ k:=
 λA W s L Q E r R f p=>o2 (h A W s L _ E r R f λva S N v d H i j w=>by
  (refine dz H λvs g D X G=>?_;clear H;subst D);(refine fA (pZ i w) λa I J t Z Y=>?_;subst J);show hJ _ _ (assign (.Tuple (ge B.aA F.a ts l).1 c q) (F.bA L) (.ref a)) _ E S;have u:=Mh M (F.bA L);refine aV (Xh (n:=n) (σ:=d) P M X) λu1 u2=>?_
  refine wpAny_assign_Tuple r.a t (by rw[u,hZ,u1,Z]) (by rw[u];refine Xi _ λx hx=>?_;(refine ap (j6.mp hx) λy _ K=>?_;subst K);rfl) λh' x'=>?_
  (refine aV (i.c (s':={S with heap:=h'}) (λb o e=>x' b o (λz=>by rw[z,pV]at e;(injection e;done)) e) rfl rfl) λC m=>?_);rw[u,qA];exact u2 r C (f.a (j.e m)) Y λO b' c' d'=>p _ _ _ _ _ _ G b' ((j.e m).h.e c') d' .a) (T L) (U L)
theorem xI(O:cL B T)(H:F.a.kind=.function)(c:∀g vs σ k,C g vs σ k->bF B T n g vs σ k){t:aq}{g:Expr}{v:V}{lm:ah}{k:ah->af->Prop}(b:(hO B.aA F.a t g).2=true)(h:jT T C t v lm σ k):kh B F (n+1) (hO B.aA F.a t g).1 v lm σ k:=by
 cases t with
 |d=>exact .a H (ga b) h|w=>exact .w (((jn O H c _).az _ _ _ _ b h).c λo a h=>LR O h)|m=>exact .m (((jn O H c _).az _ _ _ _ (aI b).1 h).c λo a h=>((jn O H c _).az _ _ _ _ (aI b).2 h).c λi e h=>VZ h)|_=>exact h.elim
theorem Xk(O:cL B T)(b:F.a.kind=.function)(c:∀g vs σ k,C g vs σ k->bF B T n g vs σ k):∀{ts:aq} {l:List Expr} {v:V} {lm:ah} {σ:af} {k:ah->af->Prop},(ge B.aA F.a ts l).2=true->sY T C ts v lm σ k->B' B F (n+1) (ge B.aA F.a ts l).1 v lm σ k:=by
 intro ts
 induction ts with
 |j=>intro l v lm σ k _ h;exact h
 |p t r _ i=>intro l v lm σ k H h;exact(xI O b c (aI H).1 h).c λl a h=>i (aI H).2 h
 |_=>intro l v lm σ k H h;exact h.elim
structure js(B:aK)(T:dq)(C:eN)(n:Nat)(F:cM)(x:ag):Prop where
 a:∀g lm σ k,((iL B.aA F.a x).a g).2=true->bj T C x lm σ k->ec B F n ((iL B.aA F.a x).a g).1 lm σ k
 f:∀l lm σ k,((iL B.aA F.a x).f l).2=true->bj T C x lm σ k->e_ B F n ((iL B.aA F.a x).f l).1 lm σ k
theorem js.d{x:ag}{f:Stmt->Stmt×Bool}(h:iL B.aA F.a x=.d f)(s:∀g lm σ k,(f g).2=true->bj T C x lm σ k->ec B F n (f g).1 lm σ k):js B T C n F x:=by
 constructor<;>rw[h]
 ·exact s
 ·exact λ_ _ _ _ o=>bZ o
theorem Xl{x y:ag}(i:js B T C n F x)(I:js B T C n F y):js B T C n F (.d x y):=⟨λ_ _ _ _ o=>bZ o,λl lm σ k o h=> .p ((i.a _ _ _ _ (aI o).1 h).c λf L b h=>by
 cases f with
 |a=>exact I.f _ _ _ _ (aI o).2 h|_=>exact h)⟩
theorem Xm{e:aq}(i:bW B T C n F e):js B T C n F (.f e):=⟨λg lm σ k o h=>by
 replace o:((match xo g with
  |true=>(.Return none g.pos,ux e)|false=>(.Return (au ((bK B.aA F.a e).az (cJ g)).1) g.pos,((bK B.aA F.a e).az (cJ g)).2):Stmt×Bool)).2=true:=o
 show ec B F n (match xo g with
  |true=>(.Return none g.pos,ux e)|false=>(.Return (au ((bK B.aA F.a e).az (cJ g)).1) g.pos,((bK B.aA F.a e).az (cJ g)).2):Stmt×Bool).1 lm σ k
 cases q:xo g with
 |true=>rw[q]at o;cases Md o;exact .e h
 |false=>rw[q]at o;exact .f (i.az _ _ _ _ o h),λ_ _ _ _ o=>bZ o⟩
theorem Xn{c:aq}{x:ag}(i:bW B T C n F c)(d:js B T C n F x):js B T C n F (.k c x):=.d rfl λg lm σ k o h=>by obtain⟨I,⟨M,H⟩,a⟩:=h;exact .b I M H λm lm σ e=>(i.a _ _ _ _ (aI o).1 (a m lm σ e)).c λt b h=>(ai (λf=>d.f _ _ _ _ (aI o).2 ((fc h).1 f)) ((fc h).2))
theorem Xo{x:aq}(h:LL x=true):∃i,x=.d i:=by
 cases x with
 |d i=>exact(ba i rfl)|_=>exact bZ h
theorem Xp{x:Expr}(h:LE x=true)(env:Env)(v:Value):foldedSetIterable x env v=pure v:=by
 cases x with
 |Set=>exact bZ h|_=>rfl
theorem Xq(O:cL B T)(f:F.a.kind=.function)(j:∀g vs σ k,C g vs σ k->bF B T n g vs σ k){t e:aq}{x:ag}(m:bW B T C (n+1) F e)(p:js B T C (n+1) F x):js B T C (n+1) F (.o t e x):=.d rfl λg lm σ k o h=>by
 refine aV (aI o) λq o=>?_;refine aV (aI o) λs o=>?_;refine aV (aI o) λu o=>?_;refine aV (aI o) λw z=>?_
 (refine bf (Xo s) λi E=>?_;subst E);refine .o (λi v=>rfl) (λL v=>Xp q _ v) ((m.az _ _ _ _ w h).c λv a h=>?_);cases H:j_ v a with
 |none=>rw[H]at h;exact h.elim|some X=>rw[H]at h;(refine kq h λI d b c done=>?_;clear h);exact(TW X rfl I d b (λy r lm σ d=>(xI O f j u (c y r lm σ d)).c λl A h=>(ai h.1 (p.f _ _ _ _ z h.2))) done)
theorem Xr(O:cL B T)(H:F.a.kind=.function)(c:∀g vs σ k,C g vs σ k->bF B T n g vs σ k){t e:aq}(i:bW B T C (n+1) F e):js B T C (n+1) F (.i t e):=.d rfl λg lm σ k o h=>by
 refine aV (aI o) λd o=>?_;refine aV (aI o) λa f=>?_
 exact .a (λL=>rG d) (λL=>(uK a).2 _ _ _) (λL=>by rw[(uK a).1];rfl) ((i.az _ _ _ _ f h).c λv b h=>xI O H c a h)
theorem Xu(O:cL B T)(H:F.a.kind=.function)(d:∀g vs σ k,C g vs σ k->bF B T n g vs σ k){ts e:aq}(i:bW B T C (n+1) F e):js B T C (n+1) F (.m ts e):=⟨λg lm σ k o h=>by
 cases ts with
 |p t ts=>
  replace o:(match et (fp g)with
   |[]=>(g,false)|y::r=>(.Assign ((hO B.aA F.a t (cC (fp g))).1::(ge B.aA F.a ts (y::r)).1) ((bK B.aA F.a e).az (cJ g)).1 g.pos,lB ((bK B.aA F.a e).az (cJ g)).1&&((hO B.aA F.a t (cC (fp g))).2&&((ge B.aA F.a ts (y::r)).2&&((bK B.aA F.a e).az (cJ g)).2))):Stmt×Bool).2=true:=o
  show ec B F (n+1) (match et (fp g)with
   |[]=>(g,false)|y::r=>(.Assign ((hO B.aA F.a t (cC (fp g))).1::(ge B.aA F.a ts (y::r)).1) ((bK B.aA F.a e).az (cJ g)).1 g.pos,lB ((bK B.aA F.a e).az (cJ g)).1&&((hO B.aA F.a t (cC (fp g))).2&&((ge B.aA F.a ts (y::r)).2&&((bK B.aA F.a e).az (cJ g)).2))):Stmt×Bool).1 lm σ k
  cases q:et (fp g)with
  |nil=>rw[q]at o;exact bZ o|cons y r=>
   rw[q]at o;dsimp only at o⊢;refine aV (aI o) λf o=>?_;refine aV (aI o) λa o=>?_;refine aV (aI o) λb l=>?_
   exact Xg (λE=>by rw[(uK a).1,Mh b];rfl) (λL=>by
    cases ts with
    |p=>rfl|j=>exact rG f|_=>exact bZ b) (λL=>(uK a).2 _ _ _) ((i.az _ _ _ _ l h).c λv c h=>(xI O H d a h).c λ_ _ h=>Xk O H d b h)
 |_=>exact bZ o,λ_ _ _ _ o=>bZ o⟩
theorem Xv{es:List Expr}{c:Nat}{q:Pos}{x:Expr}{env:Env}(h:LF x=true):swappedStores [.Tuple es c q] x env=pure none:=by
 cases x with
 |Tuple=>exact bZ h|_=>rfl
theorem Xw(H:F.a.kind=.function){ts e:aq}(i:bW B T C n F e):js B T C n F (.q ts e):=.d rfl λg lm σ k o h=>by
 refine aV (aI o) λO o=>?_;refine aV (aI o) λf o=>?_;refine aV (aI o) λj m=>?_
 refine Xj H j (λL=>rG (t:=au (.Tuple (ge B.aA F.a ts (da (cC (fp g)))).1 (lN (cC (fp g))) (cC (fp g)).pos)) (l:=g.pos.line) (env:=F.bA L) O) (λL=>Xv f) ((i.az _ _ _ _ m h).c λv b h=>?_);cases E:xJ v with
 |none=>rw[E]at h;exact h.elim|some d=>
  rw[E]at h;dsimp only at h;cases c:mS ts d lm with
  |none=>rw[c]at h;exact h.elim|some a=>rw[c]at h;exact(dy d a (Xx E) c h)
theorem Xy(O:cL B T)(l:F.a.kind=.function)(m:∀g vs σ k,C g vs σ k->bF B T n g vs σ k){t e:aq}{op:l9}(I:bW B T C (n+1) F e):js B T C (n+1) F (.h t op e):=⟨λg lm σ k c h=>by
 cases t with
 |d x=>
  refine aV (aI c) λp q=>?_
  replace h:(match aH x lm with
   |some v=>(ae T C e).az lm σ λy a=>rU op v y a λz b=>k .a (aU x z lm) b|none=>False):=h
  cases H:aH x lm with
  |none=>rw[H]at h;exact h.elim|some v=>rw[H]at h;exact .h l (ga p) H ((I.az _ _ _ _ q h).c λy a h=>LS h)
 |w o f=>exact .i (((jn O l m _).az _ _ _ _ (aI c).1 h).c λr a h=>jr.c (LP O h) λv b h=>(I.az _ _ _ _ (aI c).2 h).c λy i h=>ch.c (LS h) λz j h=>LR O h)|_=>exact h.elim,λ_ _ _ _ c=>bZ c⟩
theorem wU(O:cL B T)(H:F.a.kind=.function)(a:∀g vs σ k,C g vs σ k->bF B T n g vs σ k):∀x,js B T C (n+1) F x
 | .j=>⟨λ_ _ _ _ o=>bZ o,λ_ _ _ _ _ h=> .j h⟩| .d x y=>Xl (wU O H a x) (wU O H a y)| .p=> .d rfl λ_ _ _ _ _ h=> .p h| .g=> .d rfl λ_ _ _ _ _ h=> .g h| .l e=> .d rfl λ_ _ _ _ o h=> .l H (λL=>rG (aI o).1) ((jn O H a e).az _ _ _ _ (aI o).2 h)| .f e=>Xm (jn O H a e)| .i t e=>Xr O H a (jn O H a e)| .m f e=>Xu O H a (jn O H a e)| .q f e=>Xw H (jn O H a e)| .h t i e=>Xy O H a (jn O H a e)| .B c x y=> .d rfl λ_ _ _ _ o h=> .d (((jn O H a c).a _ _ _ _ (aI o).1 h).c λt b h=>(ai (λd=>(wU O H a x).f _ _ _ _ (aI (aI o).2).1 ((fc h).1 d)) (λd=>(wU O H a y).f _ _ _ _ (aI (aI o).2).2 ((fc h).2 d))))| .k c x=>Xn (jn O H a c) (wU O H a x)| .o t e x=>Xq O H a (jn O H a e) (wU O H a x)| .n=> .d rfl λ_ _ _ _ _ h=>h.elim
end
theorem Ca{B:aK}{T:dq}(O:cL B T):∀n g vs σ k,aZ T n g vs σ k->bF B T (2*n) g vs σ k
 |0,_,_,_,_,h=>h.elim|n+1,g,vs,σ,k,h=>by
  replace h:(match br g T.a with
   |some m=>e6 (aQ m.a) (aQ vs)=true/\bj T (aZ T n) m.c (jC m.a vs) σ (uH m.iT (aQ σ) vs k)|none=>False):=h
  cases H:br g T.a with
  |none=>rw[H]at h;exact h.elim|some m=>
   rw[H]at h;refine aV h λa h=>?_
   rw[Nat.beq_eq,gO,gO]at a;refine WJ O.bM H a.symm λf b F=>?_
   rw[B4]at h;have:=((wU (F:=⟨f.qualname,f.scope,g,f.code,[],[]⟩) O F.j (Ca O n)) m.c).f b _ _ _ (by rw[F.h]) h;rw[F.h]at this;exact this
def bO(l lm:ah):Prop:=∀x v,aH x l=au v->aH x lm=au v
theorem bO.a{l:ah}:bO l l:=λ_ _ h=>h
theorem bO.j{l:ah}:bO [] l:=λ_ _ h=>cP h
theorem bO.e{a b c:ah}(h:bO a b)(g:bO b c):bO a c:=λx v q=>g x v (h x v q)
theorem bO.aU{l lm:ah}(h:bO l lm)(x:Nat)(v:V):bO (aU x v l) (aU x v lm):=λy w q=>by
 rw[fP]at q⊢
 by_cases E:y=x
 ·rw[if_pos E]at q⊢;exact q
 ·rw[if_neg E]at q⊢;exact h y w q
theorem bO.p{l lm:ah}{x:Nat}{v:V}(h:aH x lm=au v)(g:bO l lm):bO ((x,v)::l) lm:=λy w q=>by
 rw[fh]at q
 by_cases E:y=x
 ·rw[if_pos E]at q;rw[E];exact h.trans q
 ·rw[if_neg E]at q;exact g y w q
noncomputable def jK(P:List V)(d:Nat):aG->aG
 | .d b x=> .d (b-(d:Int)) (P++x)|o=>o
structure bU(P:List V)(d:Nat)(σ τ:af):Prop where
 b:τ=σ.map (jK P d)
 k:P.length<=d
 f:∀m,ck m P
theorem Mi(o:aG):jK [] 0 o=o:=by
 cases o with
 |d b x=>exact congrArg (λz=>aG.d z x) (I4 b)|_=>rfl
theorem bU.a(σ:af):bU [] 0 σ σ:=⟨by rw[show jK [] 0=id from funext Mi,NR],ds 0,λ_=>trivial⟩
theorem bU.c{σ τ:af}(h:bU [] 0 σ τ):τ=σ:=by rw[h.b,show jK [] 0=id from funext Mi,NR]
section
variable {P:List V} {d:Nat} {σ τ:af}
theorem bU.aQ(s:bU P d σ τ):aQ τ=aQ σ:=by rw[gO,gO,s.b,hZ]
theorem bU.g(s:bU P d σ τ){i:Nat}{o:aG}(h:cn i σ=au o):cn i τ=au (jK P d o):=by rw[kD]at h;rw[kD,s.b,n7,h];rfl
theorem bU.h(s:bU P d σ τ)(i:Nat){o O:aG}(e:O=jK P d o):bU P d (eY i o σ) (eY i O τ):=by subst e;rw[jH,jH,s.b];exact⟨List.map_set.symm,s.k,s.f⟩
theorem bU.i(s:bU P d σ τ){o O:aG}(e:O=jK P d o):bU P d (cH σ o) (cH τ O):=by subst e;delta cH;rw[oN,oN,s.b];exact⟨by rw[j0];rfl,s.k,s.f⟩
theorem bU.e(s:bU P d σ τ)(m:Nat):bU P d (eF m σ) (eF m τ):=by rw[r_,r_,s.b];exact⟨ZC.symm,s.k,s.f⟩
theorem ry{p:Nat->Prop}:∀{a b:List V},jp p a->jp p b->jp p (a++b)
 |[],_,_,g=>g|_::_,_,h,g=>(ai h.1 (ry h.2 g))
theorem Xz{m:Nat}(H:ck m P):∀{σ:af},bo m σ->bo m (σ.map (jK P d))
 |[],_=>trivial|o::σ,h=>by
  refine(ai ?_ (Xz H h.2));cases o with
  |d b x=>exact ry H h.1|_=>exact h.1
theorem bU.j(s:bU P d σ τ){m:Nat}(h:bo m σ):bo m τ:=s.b▸Xz (s.f m) h
def cw(P:List V)(d:Nat)(o O:cp):Prop:=∀k K:bu,(∀v s S,bU P d s S->k v s->K v S)->o.bD k->O.bD K
theorem cw.a{o:cp}:cw P d .a o:=λ_ _ _ A=>A.elim
theorem cw.h{v:V}(s:bU P d σ τ):cw P d (.h v σ) (.h v τ):=λ_ _ q A=>q _ _ _ s A
theorem cw.bM{p m:Prop}{v:V}(h:p->m)(s:bU P d σ τ):cw P d (.bM p v σ) (.bM m v τ):=λ_ _ q A=>(ai (h A.1) (q _ _ _ s A.2))
theorem cw.b{p:Prop}{o:Option V}(s:bU P d σ τ):cw P d (.b p o σ) (.b p o τ):=λ_ _ q ⟨x,A,B,C⟩=>⟨x,A,B,q _ _ _ s C⟩
theorem cw.j{xs:List V}{f g:List V->af}(s:∀ys,bU P d (f ys) (g ys)):cw P d (.j xs f) (.j xs g):=λ_ _ q ⟨x,y,A,B⟩=>⟨x,y,A,q _ _ _ (s _) B⟩
theorem cw.i(o:cE)(s:bU P d σ τ):cw P d (o.i σ) (o.i τ):=by
 cases o with
 |a=>exact .a|h=>exact .h s|bM=>exact .bM id s|b=>exact .b s|m=>exact λ_ _ q ⟨x,A,B,C⟩=>⟨x,A,B,q _ _ _ s C⟩
theorem cw.g{α:Type}{o:Option α}{f g:α->cp}(h:∀c,cw P d (f c) (g c)):cw P d (eM o f) (eM o g):=by
 cases o with
 |none=>exact .a|some c=>exact h c
theorem cw.c{b:Bool}{f g:cp}(h:cw P d f g):cw P d (mA b f) (mA b g):=by
 cases b with
 |false=>exact .a|true=>exact h
theorem cw.k{a:V}{f g:Addr->Nat->List (Nat×V)->cp}(s:bU P d σ τ)(h:∀D i F,cw P d (f D i F) (g D i F)):cw P d (si σ a f) (si τ a g):=λm K q r=>by
 obtain⟨D,i,F,rfl,n,r⟩:=xq r;have E:=s.g n;show(match cn i τ with
  |some o=>(match o with
   | .a F=>g D i F|_=> .a:cp)
  |none=> .a:cp).bD K
 rw[E];exact h _ _ _ m K q r
theorem cw.e{a:V}{f g:Nat->aG->cp}(s:bU P d σ τ)(h:∀i o,cw P d (f i o) (g i (jK P d o))):cw P d (kP σ a f) (kP τ a g):=λm K q r=>by
 obtain⟨i,o,rfl,n,r⟩:=mR r;have E:=s.g n;show(match cn i τ with
  |some o=>g i o|none=> .a:cp).bD K
 rw[E];exact h _ _ m K q r
theorem cw.f{i:Nat}{f g:aG->cp}(s:bU P d σ τ)(h:∀o,cw P d (f o) (g (jK P d o))):cw P d (eM (cn i σ) f) (eM (cn i τ) g):=by
 cases E:cn i σ with
 |none=>exact .a|some o=>rw[s.g E];exact h o
theorem cw.u{o:aG}{f g:List V->cp}(h:∀xs,cw P d (f xs) (g xs)):cw P d (nQ o f) (nQ (jK P d o) g):=by
 cases o with
 |u xs=>exact h xs|_=>exact .a
theorem cw.l{o:aG}{f g:List (Str×V)->cp}(h:∀xs,cw P d (f xs) (g xs)):cw P d (uL o f) (uL (jK P d o) g):=by
 cases o with
 |F xs=>exact h xs|_=>exact .a
theorem Mj{T:dq}{f:Nat}{o:V}(s:bU P d σ τ):cw P d (tV T f o σ) (tV T f o τ):=by
 cases o with
 |p=>exact .g λ_=> .g λ_=> .c (.h s)|k D i=>
  refine cw.k (a:=.k D i) (f:=tW T f σ) (g:=tW T f τ) s λD i F=> .g λc=>?_
  cases aH f F with
  |some v=>exact .c (.h s)|none=>cases br f c.b with
   |some g=>exact .h s|none=>exact .g λ_=> .h s
 |_=>exact .a
theorem Mk{T:dq}{f:Nat}{o v:V}(s:bU P d σ τ):cw P d (Cb T f o v σ) (Cb T f o v τ):=.k s λ_ i _=> .g λ_=> .c (.h (s.h i rfl))
theorem oS{v:V}{k K:Bool->af->Prop}(s:bU P d σ τ)(q:∀b,k b σ->K b τ)(h:eh v σ k):eh v τ K:=by
 cases v with
 |g|l|q|e=>exact q _ h|D|c=>exact(ai h.1 (q _ h.2))|o i=>
  replace h:(match cn i σ with
   |some O=>(match O with
    | .u x=> .h (!x.isEmpty)|_=> .a:nO)
   |Option.none=> .a:nO).bD σ k:=h
  cases E:cn i σ with
  |none=>rw[E]at h;exact h.elim|some O=>
   rw[E]at h;show(match cn i τ with
    |some O=>(match O with
     | .u x=> .h (!x.isEmpty)|_=> .a:nO)
    |Option.none=> .a:nO).bD τ K
   rw[s.g E];cases O with
   |u x=>exact q _ h|_=>exact h.elim
 |_=>exact h.elim
theorem sj{op:r7}{a b:V}(s:bU P d σ τ):cw P d (Cc op a b σ) (Cc op a b τ):=by
 cases op with
 |In=>cases b with
  |e|c=>exact .i _ s|o j=>exact cw.e (a:=.o j) (f:=xu a σ) (g:=xu a τ) s λ_ _=> .u λ_=> .g λ_=> .h s|_=>exact .a
 |_=>exact .i _ s
theorem XA{o i:V}(s:bU P d σ τ):cw P d (Cd o i σ) (Cd o i τ):=by
 cases o with
 |D|u|e|c=>exact .i _ s|o j=>
  refine cw.e (a:=.o j) (f:=λ_ o=>tK i o σ) (g:=λ_ o=>tK i o τ) s λ_ o=>?_
  cases o with
  |u|F=>exact .i _ s|_=>exact .a
 |_=>exact .a
theorem XB{o l u:V}(s:bU P d σ τ):cw P d (Ce o l u σ) (Ce o l u τ):=.g λL=> .g λh=>by
 cases o with
 |e=>exact .h s|o j=>exact cw.e (a:=.o j) (f:=xx L h σ) (g:=xx L h τ) s λ_ _=> .u λ_=>by rw[s.aQ];exact .h (s.i rfl)|_=>exact .a
theorem XC{o i v:V}(s:bU P d σ τ):cw P d (Cf o i v σ) (Cf o i v τ):=.e s λj _=> .l λ_=> .g λ_=> .bM id (s.h j rfl)
theorem XD{p:Prop}{f:List (Str×V)}(s:bU P d σ τ):cw P d (.bM p (.o (aQ σ)) (cH σ (.F f))) (.bM p (.o (aQ τ)) (cH τ (.F f))):=by rw[s.aQ];exact .bM id (s.i rfl)
theorem XE{p:Prop}{f:List V}(s:bU P d σ τ):cw P d (.bM p (.o (aQ σ)) (cH σ (.u f))) (.bM p (.o (aQ τ)) (cH τ (.u f))):=by rw[s.aQ];exact .bM id (s.i rfl)
theorem XF{T:dq}{b:gs}{as:List V}(s:bU P d σ τ):cw P d (uI T b as σ) (uI T b as τ):=by
 cases as with
 |nil=>exact .a|cons x R=>cases R with
  |nil=>cases b with
   |p|e|r=>exact .i _ s|n=>cases x with
    |c F=>exact XD s|_=>exact .a
   |j=>cases x with
    |c=>exact .h s|_=>exact .a
   |o=>cases x with
    |m d=>cases d with
     |c=>exact XE s|_=>exact .a
    |_=>exact .a
   |k=>cases x with
    |e=>exact .h s|o J=>exact cw.e (a:=.o J) (f:=xy σ) (g:=xy τ) s λ_ _=> .u λ_=> .h s|_=>exact .a
   |f=>exact .e s λI _=> .u λ_=> .j λ_=>s.h I rfl|_=>exact .a
  |cons y R=>cases R with
   |cons=>exact .a|nil=>cases b with
    |g=>cases x with
     |p=>
      refine .g λ_=>?_
      cases y with
      |h=>exact .g λ_=> .h s|D=>exact .g λ_=> .c (.h s)|_=>exact .a
     |_=>exact .a
    |i|q=>exact .i _ s|h=>exact .g λ_=> .e s λ_ _=> .u λ_=> .g λ_=> .bM id s|a=>
     refine cw.e (a:=x) (f:=wM y σ) (g:=wM y τ) s λI O=>?_
     cases O with
     |u X=>exact .bM id (s.h I rfl)|d b X=>refine .bM (λH=>?_) (s.h I (by show aG.d _ _=aG.d _ _;rw[dx]));have:=s.k;rw[bs];lia|_=>exact .a
    |f=>exact .e s λI _=> .u λ_=> .g λ_=> .b (s.h I rfl)|_=>exact .a
theorem Ml{m:Nat}{v:V}(s:bU P d σ τ):cw P d (uF m v σ) (uF m v τ):=.bM (ia id (s.e m).j) (s.e m)
theorem XG{f:Option (Option Nat)}{m:Nat}{vs:List V}{v:V}(s:bU P d σ τ):cw P d (sa f m vs v σ) (sa f m vs v τ):=by
 cases f with
 |none=>exact .h s|some o=>cases o with
  |none=>exact Ml s|some x=>cases vs with
   |nil=>exact .a|cons a r=>
    refine cw.k (a:=a) (f:=uG x m v σ) (g:=uG x m v τ) s λ_ i F=>?_
    delta uG;cases xB (aH x F)with
    |none=>exact Ml s|some j=>exact cw.f s λ_=> .l λe=>have z:=(s.h i (o:=.a (aU x (.c e) F)) rfl).e m;.bM (ia id (ia id (ia id z.j))) z
theorem XH{D:Addr}{f:Bool}{m:Nat}{v:V}(s:bU P d σ τ):cw P d (mG D f m v σ) (mG D f m v τ):=.c (by
 cases f with
 |false=>exact .h s|true=>
  refine cw.f s λo=>?_
  cases o with
  |a=>exact .bM (ia id (s.e m).j) (s.e m)|_=>exact .a)
end
def lT{α:Type}(P:List V)(d:Nat)(k K:α->af->Prop):Prop:=∀v s S,bU P d s S->k v s->K v S
def p_(P:List V)(d:Nat)(C C':eN):Prop:=∀g v σ τ k K,bU P d σ τ->lT P d k K->C g v σ k->C' g v τ K
section
variable {T:dq} {P:List V} {d:Nat}
theorem XI{f:Nat}{o:V}{σ τ:af}{k b:V->List V->af->Prop}(s:bU P d σ τ)(q:∀v l,k v l σ->b v l τ)(h:oD T f o σ k):oD T f o τ b:=by
 have K:∀{j:oQ},kj (λv l=>k v l σ) j->kj (λv l=>b v l τ) j:=λ{j} h=>by
  cases j with
  |a=>exact h|h=>exact q _ _ h
 replace h:kj (λv l=>k v l σ) (mH T f o σ):=h;show kj (λv l=>b v l τ) (mH T f o τ);have C:∀(i:Nat) (g:aG->oQ),(∀o,kj (λv l=>k v l σ) (g o)->kj (λv l=>b v l τ) (g (jK P d o)))->kj (λv l=>k v l σ) (ir (cn i σ) g)->kj (λv l=>b v l τ) (ir (cn i τ) g):=λi g H h=>by
  cases E:cn i σ with
  |none=>rw[E]at h;exact h.elim|some o=>rw[E]at h;rw[s.g E];exact H o h
 cases o with
 |k D i=>
  replace h:kj (λv l=>k v l σ) (ir (br D T.h) λj=>ir (cn i σ) λo=>match o with
   | .a F=>(match aH f F with
    |some v=>(match cV f j.a with
     |true=> .h v []|false=> .a)
    |Option.none=>ir (br f j.b) λg=> .h (.cy g) [.k D i])
   |_=> .a):=h
  show kj (λv l=>b v l τ) (ir (br D T.h) λj=>ir (cn i τ) λo=>match o with
   | .a F=>(match aH f F with
    |some v=>(match cV f j.a with
     |true=> .h v []|false=> .a)
    |Option.none=>ir (br f j.b) λg=> .h (.cy g) [.k D i])
   |_=> .a)
  cases E:br D T.h with
  |none=>rw[E]at h;exact h.elim
  |some j=>rw[E]at h;exact C i _ (λo h=>by
    cases o with
    |a=>exact K h|_=>exact h.elim) h
 |o i=>exact C i (λo=>B8 f i o) (λo h=>by
   cases o with
   |u=>exact K h|d=>exact K h|_=>exact h.elim) h
 |e|c=>exact K h|_=>exact h.elim
theorem lU{t:Bool}{a b A B:Prop}(h:eD t a b)(f:a->A)(g:b->B):eD t A B:=by
 cases t
 ·exact g h
 ·exact f h
end
section
variable {T:dq} {C C':eN} {P:List V} {d:Nat} (hC:p_ P d C C')
include hC
theorem Mm{f:V}{as:List V}{ks:List (Nat×V)}{σ τ:af}{k K:bu}(s:bU P d σ τ)(q:lT P d k K)(h:fS T C f as ks σ k):fS T C' f as ks τ K:=by
 replace h:kB T C (aQ σ) σ k (pG T f as ks (aQ σ)):=h;show kB T C' (aQ τ) τ K (pG T f as ks (aQ τ));rw[s.aQ];cases e:pG T f as ks (aQ σ)with
 |a=>rw[e]at h;exact h.elim|cy g i=>rw[e]at h;exact hC _ _ _ _ _ _ s q h|j b as=>rw[e]at h;exact XF s k K q h|c D F g i=>rw[e]at h;exact hC _ _ _ _ _ _ (s.i (o:=.a []) rfl) (λv S l r A=>XH r k K q A) h
end
structure qa(T:dq)(C C':eN)(P:List V)(d:Nat)(x:aq):Prop where
 az:∀{l lm σ τ k k'},bO l lm->bU P d σ τ->lT P d k k'->(ae T C x).az l σ k->(ae T C' x).az lm τ k'
 a:∀{l lm σ τ k k'},bO l lm->bU P d σ τ->lT P d k k'->(ae T C x).a l σ k->(ae T C' x).a lm τ k'
 c:∀{l lm σ τ k k'},bO l lm->bU P d σ τ->lT P d k k'->(ae T C x).c l σ k->(ae T C' x).c lm τ k'
 h:∀{c lm σ τ k k'},bO c lm->bU P d σ τ->lT P d k k'->(ae T C x).h c σ k->(ae T C' x).h lm τ k'
section
variable {T:dq} {C C':eN} {P:List V} {d:Nat}
theorem qa.bN{x:aq}{f:eN->ah->af->bu->Prop}(h:∀C,ae T C x=Mine.bN (f C))(q:∀{l lm σ τ k K},bO l lm->bU P d σ τ->lT P d k K->f C l σ k->f C' lm τ K):qa T C C' P d x:=by
 constructor<;>rw[h C,h C']
 ·exact q
 ·exact λu s r A=>q (k:=λx e=>eh x e _) u s (λv s S z A=>oS z (λb=>r b _ _ z) A) A
 ·exact λ_ _ _ A=>A
 ·exact λ_ _ _ A=>A
theorem qa.hV{x:aq}{f:eN->ah->af->bu->Prop}{g:eN->ah->af->(Bool->af->Prop)->Prop}(h:∀C,ae T C x=Mine.hV (f C) (g C))(q:∀{l lm σ τ k K},bO l lm->bU P d σ τ->lT P d k K->f C l σ k->f C' lm τ K)
  (Q:∀{l lm σ τ k K},bO l lm->bU P d σ τ->lT P d k K->g C l σ k->g C' lm τ K):qa T C C' P d x:=by
 constructor<;>rw[h C,h C']
 ·exact q
 ·exact Q
 ·exact λ_ _ _ A=>A
 ·exact λ_ _ _ A=>A
theorem qa.iO{x:aq}{f:eN->ah->af->(List V->af->Prop)->Prop}{g:eN->ah->af->(List (Nat×V)->af->Prop)->Prop}(h:∀C,ae T C x=Mine.iO (f C) (g C))(q:∀{l lm σ τ k K},bO l lm->bU P d σ τ->lT P d k K->f C l σ k->f C' lm τ K)
  (Q:∀{l lm σ τ k K},bO l lm->bU P d σ τ->lT P d k K->g C l σ k->g C' lm τ K):qa T C C' P d x:=by
 constructor<;>rw[h C,h C']
 ·exact λ_ _ _ A=>A
 ·exact λ_ _ _ A=>A
 ·exact q
 ·exact Q
theorem gY(hC:p_ P d C C'):∀x,qa T C C' P d x:=by
 intro x
 induction x with
 |g|l|q|e=>exact .bN (λ_=>rfl) λ_ s r a=>r _ _ _ s a|d x=>
  exact .bN (λ_=>rfl) λ{a1 lm σ τ k k'} a2 s r a=>by
   cases a3:aH x a1 with
   |none=>rw[a3]at a;exact a.elim|some v=>rw[a3]at a;rw[a2 _ _ a3];exact r _ _ _ s a
 |G x=>
  exact .bN (λ_=>rfl) λ_ s r a=>by
   cases a3:br x T.b with
   |none=>rw[a3]at a;exact a.elim|some v=>rw[a3]at a;exact r _ _ _ s a
 |w o _ R=>exact .bN (λ_=>rfl) λa2 s r a=>R.az a2 s (λ_ _ _ s a=>Mj s _ _ r a) a|H _ a b O Q=>exact .bN (λ_=>rfl) λa2 s r h=>O.az a2 s (λ_ _ _ s h=>Q.az a2 s (λ_ _ _ s h=>cw.i _ s _ _ r h) h) h|M a O=>exact .bN (λ_=>rfl) λa2 s r h=>O.az a2 s (λ_ _ _ s h=>cw.i _ s _ _ r h) h|n a O=>exact .hV (λ_=>rfl) (λa2 s r h=>O.az a2 s (λ_ _ _ s h=>oS s (λ_=>r _ _ _ s) h) h) λa2 s r h=>O.a a2 s (λ_ _ _ s h=>r _ _ _ s h) h|y _ a b O Q=>
  exact .hV (λ_=>rfl) (λa2 s r h=>O.az a2 s (λ_ _ _ s h=>Q.az a2 s (λ_ _ _ s h=>sj s _ _ r h) h) h)
    λa2 s r h=>O.az a2 s (λ_ _ _ s h=>Q.az a2 s (λ_ _ _ s h=>sj s _ _ (λ_ _ _ s h=>oS s (λ_=>r _ _ _ s) h) h) h) h
 |J _ _ a b c O Q Y=>
  exact .hV (λ_=>rfl)
    (λa2 s r h=>O.az a2 s (λ_ _ _ s h=>Q.az a2 s (λ_ _ _ s h=>sj s _ _ (λ_ _ _ s h=>oS s (λ_ h=>lU h (λh=>Y.az a2 s (λ_ _ _ s h=>sj s _ _ r h) h) (r _ _ _ s)) h) h) h) h)
    λa2 s r h=>O.az a2 s (λ_ _ _ s h=>Q.az a2 s (λ_ _ _ s h=>sj s _ _ (λ_ _ _ s h=>oS s (λ_ h=>lU h (λh=>Y.az a2 s (λ_ _ _ s h=>sj s _ _ (λ_ _ _ s h=>oS s (λ_=>r _ _ _ s) h) h) h) (r _ _ _ s)) h) h) h) h
 |C a b O Q=>exact .hV (λ_=>rfl) (λa2 s r h=>O.az a2 s (λ_ _ _ s h=>oS s (λ_ h=>lU h (λh=>Q.az a2 s r h) (r _ _ _ s)) h) h) λa2 s r h=>O.a a2 s (λ_ _ _ s h=>lU h (λh=>Q.a a2 s r h) (r _ _ _ s)) h|A a b O Q=>exact .hV (λ_=>rfl) (λa2 s r h=>O.az a2 s (λ_ _ _ s h=>oS s (λ_ h=>lU h (r _ _ _ s) (λh=>Q.az a2 s r h)) h) h) λa2 s r h=>O.a a2 s (λ_ _ _ s h=>lU h (r _ _ _ s) (λh=>Q.a a2 s r h)) h|B t a b S O Q=>exact .hV (λ_=>rfl) (λa2 s r h=>S.a a2 s (λ_ _ _ s h=>lU h (λh=>O.az a2 s r h) (λh=>Q.az a2 s r h)) h) λa2 s r h=>S.a a2 s (λ_ _ _ s h=>lU h (λh=>O.a a2 s r h) (λh=>Q.a a2 s r h)) h|z f as ks Z U W=>exact .bN (λ_=>rfl) λa2 s r h=>Z.az a2 s (λ_ _ _ s h=>U.c a2 s (λ_ _ _ s h=>W.h a2 s (λ_ _ _ s h=>Mm hC s r h) h) h) h|E o f as ks R U W=>exact .bN (λ_=>rfl) λa2 s r h=>R.az a2 s (λ_ _ _ s h=>XI s (λ_ _ h=>U.c a2 s (λ_ _ _ s h=>W.h a2 s (λ_ _ _ s h=>Mm hC s r h) h) h) h) h|m o i R a0=>exact .bN (λ_=>rfl) λa2 s r h=>R.az a2 s (λ_ _ _ s h=>a0.az a2 s (λ_ _ _ s h=>XA s _ _ r h) h) h|K o a b R O Q=>exact .bN (λ_=>rfl) λa2 s r h=>R.az a2 s (λ_ _ _ s h=>O.az a2 s (λ_ _ _ s h=>Q.az a2 s (λ_ _ _ s h=>XB s _ _ r h) h) h) h|D xs X=>
  exact .bN (λ_=>rfl) λa2 s r h=>X.c a2 s (λvs _ _ s h=>by
    refine aV (xH (σ:=[]) h) λa3 h=>?_
    rw[gO,rc a3];exact r _ _ _ s h) h
 |u xs X=>
  exact .bN (λ_=>rfl) λa2 s r h=>X.c a2 s (λvs _ _ s h=>by
    refine aV (xH (σ:=[]) h) λa3 h=>?_
    rw[gO vs,rc a3,s.aQ];exact r _ _ _ (s.i (o:=.u vs) rfl) h) h
 |L _ a O=>exact .bN (λ_=>rfl) λa2 s r h=>O.az a2 s (λ_ _ _ s h=>cw.i _ s _ _ r h) h|F|N=>exact .bN (λ_=>rfl) λ_ _ _ h=>h|j=>exact .iO (λ_=>rfl) (λ_ s r h=>r _ _ _ s h) λ_ s r h=>r _ _ _ s h|p a t O S=>exact .iO (λ_=>rfl) (λa2 s r h=>O.az a2 s (λ_ _ _ s h=>S.c a2 s (λ_ _ _ s h=>r _ _ _ s h) h) h) λ_ _ _ h=>h|I _ a t O S=>exact .iO (λ_=>rfl) (λ_ _ _ h=>h) λa2 s r h=>O.az a2 s (λ_ _ _ s h=>S.h a2 s (λ_ _ _ s h=>r _ _ _ s h) h) h
theorem Cg(hC:p_ P d C C'){t:aq}{v:V}{l lm:ah}{σ τ:af}{k K:ah->af->Prop}(u:bO l lm)(s:bU P d σ τ)(r:∀l' L s s',bO l' L->bU P d s s'->k l' s->K L s')(h:jT T C t v l σ k):jT T C' t v lm τ K:=by
 cases t with
 |d x=>exact r _ _ _ _ (u.aU x v) s h|w o f=>exact(gY hC o).az u s (λ_ _ _ s h=>Mk s (λ_ σ=>k l σ) (λ_ σ=>K lm σ) (λ_ _ _ s h=>r _ _ _ _ u s h) h) h|m o i=>exact(gY hC o).az u s (λ_ _ _ s h=>(gY hC i).az u s (λ_ _ _ s h=>XC s (λ_ σ=>k l σ) (λ_ σ=>K lm σ) (λ_ _ _ s h=>r _ _ _ _ u s h) h) h) h|_=>exact h.elim
theorem XJ(hC:p_ P d C C'){t:aq}:∀{v:V} {l lm:ah} {σ τ:af} {k K:ah->af->Prop},bO l lm->bU P d σ τ->(∀l' L s s',bO l' L->bU P d s s'->k l' s->K L s')->sY T C t v l σ k->sY T C' t v lm τ K:=by
 induction t with
 |j=>intro v l lm σ τ k K u s r h;exact r _ _ _ _ u s h
 |p t q _ i=>intro v l lm σ τ k K u s r h;exact Cg hC u s (λ_ _ _ _ u s h=>i u s r h) h
 |_=>intro v l lm σ τ k K u s r h;exact h.elim
theorem XK{t:aq}:∀{vs:List V} {l lm l':ah},bO l lm->mS t vs l=au l'->∃L,mS t vs lm=au L/\bO l' L:=by
 induction t with
 |j=>
  intro vs l lm l' u h;cases vs with
  |nil=>(injection h with z;subst z);exact(aE lm rfl u)|cons _ _=>exact cP h
 |p t q _ i=>
  intro vs l lm l' u h;cases vs with
  |nil=>exact cP h|cons v vs=>
   replace h:(match kW t with
    |some x=>mS q vs (aU x v l)|none=>none)=au l':=h
   show∃L,(match kW t with
    |some x=>mS q vs (aU x v lm)|none=>none)=au L/\bO l' L
   cases e:kW t with
   |none=>rw[e]at h;exact cP h|some x=>rw[e]at h;exact i (u.aU x v) h
 |_=>intro vs l lm l' u h;exact cP h
theorem bU.l{σ τ:af}(s:bU P d σ τ){i:Nat}{xs:List V}(h:cn i σ=au (.u xs)):cn i τ=au (.u xs):=s.g h
theorem XL{v:V}{σ τ:af}(s:bU P d σ τ){xs:List V}(h:j_ v σ=au xs):j_ v τ=au xs:=by
 cases v with
 |o j=>show wN (cn j τ)=_;rw[s.l (Ch h)];rfl|_=>exact h
theorem Mn{S:Option (Nat×List V)}{σ τ:af}(s:bU P d σ τ)(h:ji S σ):ji S τ:=by
 cases S with
 |none=>trivial|some p=>exact s.l h
def xK(P:List V)(d:Nat)(k K:bH->ah->af->Prop):Prop:=∀f l L s S,bO l L->bU P d s S->k f l s->K f L S
theorem uM{I J:ah->af->Prop}{k K:bH->ah->af->Prop}(q:xK P d k K)(j:∀l lm s s',bO l lm->bU P d s s'->I l s->J lm s'):xK P d (nE I k) (nE J K):=λF l lm s s' u z h=>by
 cases F with
 |a|b=>exact j _ _ _ _ u z h|g|f=>exact q _ _ _ _ _ u z h
theorem wL(hC:p_ P d C C'):∀(x:ag) {l lm:ah} {σ τ:af} {k K:bH->ah->af->Prop},bO l lm->bU P d σ τ->xK P d k K->bj T C x l σ k->bj T C' x lm τ K:=by
 intro x
 induction x with
 |j=>intro l lm σ τ k K u s r a0;exact r _ _ _ _ _ u s a0
 |d x y D F=>
  intro l lm σ τ k K u s r a0;exact D u s (λR l lm s Z u z a0=>by
    cases R with
    |a=>exact F u z r a0|_=>exact r _ _ _ _ _ u z a0) a0
 |p=>intro l lm σ τ k K u s r a0;exact r _ _ _ _ _ u s a0
 |g=>intro l lm σ τ k K u s r a0;exact r _ _ _ _ _ u s a0
 |l e=>intro l lm σ τ k K u s r a0;exact(gY hC e).az u s (λ_ _ _ s a0=>r _ _ _ _ _ u s a0) a0
 |f e=>intro l lm σ τ k K u s r a0;exact(gY hC e).az u s (λ_ _ _ s a0=>r _ _ _ _ _ u s a0) a0
 |i t e=>intro l lm σ τ k K u s r a0;exact(gY hC e).az u s (λ_ _ _ s a0=>Cg hC u s (λ_ _ _ _ u s a0=>r _ _ _ _ _ u s a0) a0) a0
 |m t e=>intro l lm σ τ k K u s r a0;exact(gY hC e).az u s (λ_ _ _ s a0=>XJ hC u s (λ_ _ _ _ u s a0=>r _ _ _ _ _ u s a0) a0) a0
 |q t e=>
  intro l lm σ τ k K u s r a0;exact(gY hC e).az u s (λv _ _ s a0=>by
    cases O:xJ v with
    |none=>rw[O]at a0;exact a0.elim|some S=>
     rw[O]at a0;dsimp only at a0⊢;cases J:mS t S l with
     |none=>rw[J]at a0;exact a0.elim|some l'=>
      rw[J]at a0;refine ap (XK u J) λU W X=>?_
      rw[W];exact r _ _ _ _ _ X s a0) a0
 |h t Q e=>
  intro l lm σ τ k K u s r a0;exact by
    cases t with
    |d x=>
     replace a0:(match aH x l with
      |some v=>(ae T C e).az l _ λy A=>rU Q v y A λz G=>_|none=>False):=a0
     show(match aH x lm with
      |some v=>(ae T C' e).az lm _ λy A=>rU Q v y A λz G=>_|none=>False)
     cases L:aH x l with
     |none=>rw[L]at a0;exact a0.elim|some v=>rw[L]at a0;rw[u _ _ L];exact(gY hC e).az u s (λ_ _ _ s a0=>cw.i _ s _ _ (λz _ _ s a0=>r _ _ _ _ _ (u.aU x z) s a0) a0) a0
    |w a1 a2=>exact(gY hC a1).az u s (λ_ _ _ s a0=>Mj s _ _ (λ_ _ _ s a0=>(gY hC e).az u s (λ_ _ _ s a0=>cw.i _ s _ _ (λ_ _ _ s a0=>Mk s (λ_ σ=>_) (λ_ σ=>_) (λ_ _ _ s a0=>r _ _ _ _ _ u s a0) a0) a0) a0) a0) a0|_=>exact a0.elim
 |B c x y D F=>intro l lm σ τ k K u s r a0;exact(gY hC c).a u s (λ_ _ _ s a0=>lU a0 (λa0=>D u s r a0) λa0=>F u s r a0) a0
 |k c x D=>
  intro l lm σ τ k K u s r a0;obtain⟨I,⟨a3,M⟩,E⟩:=a0;exact⟨λa3 lm τ=>∃l σ,bO l lm/\bU P d σ τ/\I a3 l σ,⟨a3,_,_,u,s,M⟩,λa3 lm τ ⟨l,σ,u,s,a0⟩=>(gY hC c).a u s (λ_ _ _ s a0=>lU a0 (λa0=>D u s (uM r λ_ _ _ _ u s ⟨Y,a4,b⟩=>⟨Y,a4,_,_,u,s,b⟩) a0) (r _ _ _ _ _ u s)) (E a3 l σ a0)⟩
 |o t e x D=>
  intro l lm σ τ k K u s r a0;exact(gY hC e).az u s (λv A _ s a0=>by
    cases N:j_ v A with
    |none=>rw[N]at a0;exact a0.elim|some xs=>
     rw[N]at a0;rw[XL s N];(refine kq a0 λI M H E done=>?_;clear a0);exact⟨λa5 lm τ=>∃l σ,bO l lm/\bU P d σ τ/\I a5 l σ,⟨_,_,u,s,M⟩,λa5 lm τ ⟨l,σ,u,s,a0⟩=>Mn s (H _ _ _ a0),λy a5 lm τ ⟨l,σ,u,s,a0⟩=>Cg hC u s (λ_ _ _ _ u s a0=>⟨Mn s a0.1,D u s (uM r λ_ _ _ _ u s b=>⟨_,_,u,s,b⟩) a0.2⟩) (E y a5 l σ a0),λlm τ ⟨l,σ,u,s,a0⟩=>r _ _ _ _ _ u s (done l σ a0)⟩) a0
 |n=>intro l lm σ τ k K u s r a0;exact a0.elim
theorem uN{T:dq}:∀n,p_ P d (aZ T n) (aZ T n)
 |0=>λ_ _ _ _ _ _ _ _ h=>h.elim|n+1=>λg v σ τ k K s q h=>by
  replace h:(match br g T.a with
   |some m=>e6 (Mine.aQ m.a) (Mine.aQ v)=true/\bj T (aZ T n) m.c (jC m.a v) σ (uH m.iT (Mine.aQ σ) v k)|none=>False):=h
  show(match br g T.a with
   |some m=>e6 (Mine.aQ m.a) (Mine.aQ v)=true/\bj T (aZ T n) m.c (jC m.a v) τ (uH m.iT (Mine.aQ τ) v K)|none=>False)
  cases H:br g T.a with
  |none=>rw[H]at h;exact h.elim|some m=>
   rw[H]at h;refine(ai h.1 (wL (uN n) m.c .a s (λF l L σ τ u z h=>?_) h.2));rw[s.aQ];cases F with
   |a|f=>exact XG z _ _ q h|_=>exact h
end
theorem aP{a b:Prop}(h:a)(e:a=b:=by kernel_rfl!):b:=e▸h
def pK(T:dq)(C:eN)(i:Nat)(a:ag)(s:Option (Nat×List V))(xs:List V)(lm:ah)(σ:af)(k:bH->ah->af->Prop):Prop:=∃I:List V->ah->af->Prop,I xs lm σ/\(∀r lm σ,I r lm σ->ji s σ)/\(∀y r lm σ,I (y::r) lm σ->jT T C (.d i) y lm σ λl b=>ji s b/\bj T C a l b (nE (I r) k))/\(∀lm σ,I [] lm σ->k .a lm σ)
section
variable {T:dq} {n:Nat}
theorem tQ{k K:bH->ah->af->Prop}(q:∀fl l lm s,bO l lm->k fl l s->K fl lm s):xK [] 0 k K:=λfl l lm s S u z h=>z.c▸q fl l lm s u h
theorem qW{s:ag}{l lm:ah}{σ:af}{k K:bH->ah->af->Prop}(u:bO l lm)(h:bj T (aZ T n) s l σ k)(q:∀fl l lm s,bO l lm->k fl l s->K fl lm s):bj T (aZ T n) s lm σ K:=wL (uN n) s u (.a σ) (tQ q) h
theorem XM{c:aq}{l lm:ah}{σ:af}{k K:Bool->af->Prop}(u:bO l lm)(h:(ae T (aZ T n) c).a l σ k)(q:∀b s,k b s->K b s):(ae T (aZ T n) c).a lm σ K:=(gY (uN n) c).a u (.a σ) (λb s S z h=>z.c▸q b s h) h
def ip(fl:bH)(l':ah)(σ':af)(f:bH)(l:ah)(s:af):Prop:=f=fl/\bO l' l/\s=σ'
theorem ip.a{fl:bH}{l':ah}{σ':af}(f:bH)(l lm:ah)(s:af)(u:bO l lm)(h:ip fl l' σ' f l s):ip fl l' σ' f lm s:=(cz h.1 (h.2.1.e u) h.2.2)
theorem ip.d{fl:bH}{l':ah}{σ':af}{k:bH->ah->af->Prop}(H:∀L,bO l' L->k fl L σ')(f:bH)(l lm:ah)(s:af)(u:bO l lm)(h:ip fl l' σ' f l s):k f lm s:=by(refine cS h λe v E=>?_;clear h;subst e;subst E);exact H _ (v.e u)
end
def Ci(fl:bH)(l:ah)(σ:af)(k:bH->ah->af->Prop):Prop:=k fl l σ
def ij(b:Bool)(σ:af)(k:Bool->af->Prop):Prop:=k b σ
def Mo(v:V)(σ:af)(k:bu):Prop:=k v σ
def AA(l:ah)(σ:af)(k:ah->af->Prop):Prop:=k l σ
def bM{α:Type}(p:Prop)(f:α->Prop)(k:α):Prop:=p/\f k
def vO{α:Type}(t:Bool)(f g:α->Prop)(k:α):Prop:=eD t (f k) (g k)
section
variable (T:dq) (n:Nat) (g:Addr) (vs:List V) (σ:af)
def AV(y:ag)(lm:ah)(k:bH->ah->af->Prop):Prop:=aZ T n g vs σ λ_ s=>bj T (aZ T n) y lm s k
def dP(lm:ah)(k:bH->ah->af->Prop):Prop:=aZ T n g vs σ λ_ s=>k .a lm s
def XN(lm:ah)(k:bH->ah->af->Prop):Prop:=aZ T n g vs σ λv s=>k (.f v) lm s
def XO(i:Nat)(y:ag)(lm:ah)(k:bH->ah->af->Prop):Prop:=aZ T n g vs σ λv s=>bj T (aZ T n) y (aU i v lm) s k
def AB(o f:Nat)(y:ag)(lm:ah)(k:bH->ah->af->Prop):Prop:=aZ T n g vs σ λv s=>jT T (aZ T n) (.w (.d o) f) v lm s λl s=>bj T (aZ T n) y l s k
def XQ(k:Bool->af->Prop):Prop:=aZ T n g vs σ λv s=>eh v s k
end
section
variable (T:dq) (n:Nat)
def bd(g:Addr)(vs:List V)(σ:af)(v:V)(σ':af):Prop:=∀k:bu,k v σ'->aZ T n g vs σ k
def aR(x:aq)(lm:ah)(σ:af)(v:V)(σ':af):Prop:=∀k:bu,k v σ'->(ae T (aZ T n) x).az lm σ k
def aN(x:aq)(lm:ah)(σ:af)(b:Bool)(σ':af):Prop:=∀k:Bool->af->Prop,k b σ'->(ae T (aZ T n) x).a lm σ k
def av(s:ag)(lm:ah)(σ:af)(fl:bH)(l:ah)(σ':af):Prop:=∀k:bH->ah->af->Prop,(∀L,bO l L->k fl L σ')->bj T (aZ T n) s lm σ k
def gW(x:Nat)(a:ag)(s:Option (Nat×List V))(xs:List V)(lm:ah)(σ:af)(fl:bH)(l:ah)(σ':af):Prop:=∀k:bH->ah->af->Prop,(∀L,bO l L->k fl L σ')->pK T (aZ T n) x a s xs lm σ k
end
section
variable {T:dq} {n:Nat} {lm l l' l1 l2:ah} {σ σ' σ1 σ2:af} {fl:bH} {x y:ag} {c:aq} {v:V}
theorem av.F{s:ag}(h:bj T (aZ T n) s lm σ λf l s'=>f=fl/\bO l' l/\s'=σ'):av T n s lm σ fl l' σ':=λK H=>qW .a h (ip.d H)
theorem av.i{s:ag}(h:av T n s lm σ fl l' σ'):bj T (aZ T n) s lm σ (ip fl l' σ'):=h _ λ_ Z=>(cz rfl Z rfl)
theorem av.p{s:ag}(q:bO l lm)(h:av T n s l σ fl l' σ'):av T n s lm σ fl l' σ':=λK H=>qW q h.i (ip.d H)
theorem av.m{s:ag}(h:av T n s lm σ fl l1 σ')(q:bO l' l1):av T n s lm σ fl l' σ':=λK H=>h K λ_ Z=>H _ (q.e Z)
theorem av.j:av T n .j lm σ .a lm σ:=λK H=>H _ .a
theorem av.d(h:av T n x lm σ .a l1 σ1)(g:av T n y l1 σ1 fl l' σ'):av T n (.d x y) lm σ fl l' σ':=λK H=>h _ λ_ Z=>g.p Z K H
theorem av.k(h:av T n x lm σ (.f v) l1 σ1):av T n (.d x y) lm σ (.f v) l1 σ1:=λK H=>h _ λ_ Z=>H _ Z
theorem av.B{t:Bool}(h:aN T n c lm σ t σ1)(g:t=true->av T n x lm σ1 fl l' σ')(l:t=false->av T n y lm σ1 fl l' σ'):av T n (.B c x y) lm σ fl l' σ':=λK H=>h _ (pB (λQ=>g Q K H) λQ=>l Q K H)
theorem av.C{t:Bool}(e:ij t σ=(ae T (aZ T n) c).a lm σ)(H:t=true->av T n x lm σ fl l' σ')(g:t=false->av T n y lm σ fl l' σ'):av T n (.B c x y) lm σ fl l' σ':=.B (λK l=>aP l (congrFun e K)) H g
theorem av.a(h:aN T n c lm σ true σ1)(H:av T n x lm σ1 fl l' σ'):av T n (.B c x y) lm σ fl l' σ':=λK g=>h _ (tF (H K g))
theorem av.bq(h:aN T n c lm σ false σ1)(H:av T n y lm σ1 fl l' σ'):av T n (.B c x y) lm σ fl l' σ':=λK g=>h _ (tD (H K g))
theorem av.f(H:av T n x lm σ fl l' σ')(e:ij true σ=(ae T (aZ T n) c).a lm σ:=by kernel_rfl!):av T n (.B c x y) lm σ fl l' σ':=.a (λK g=>aP g (congrFun e K)) H
theorem av.e(H:av T n y lm σ fl l' σ')(e:ij false σ=(ae T (aZ T n) c).a lm σ:=by kernel_rfl!):av T n (.B c x y) lm σ fl l' σ':=.bq (λK g=>aP g (congrFun e K)) H
theorem av.s(h:aN T n c lm σ false σ1):av T n (.k c x) lm σ .a lm σ1:=λK H=>(aE (λ_ l S=>l=lm/\S=σ) ⟨0,rfl,rfl⟩ (by rintro _ _ _ ⟨rfl,rfl⟩;exact h _ (tD (H _ .a))))
theorem av.q(h:aN T n c lm σ true σ1)(y:av T n x lm σ1 .a l1 σ2)(r:av T n (.k c x) l1 σ2 fl l' σ'):av T n (.k c x) lm σ fl l' σ':=.F (by
 obtain⟨I,⟨J,G⟩,g⟩:=r.i;refine(aE (λQ l S=>(∃L,bO L l/\I Q L S)\/(Q=J+1/\l=lm/\S=σ)) (ba (J+1) (.inr (cz rfl rfl rfl))) (λQ l S H=>?_));rcases H with⟨L,U,H⟩|⟨rfl,rfl,rfl⟩
 ·exact XM U (g Q L S H) λK S h=>lU h (λh=>qW U h λfl N K S v h=>uM (P:=[]) (d:=0) (tQ ip.a) (λ_ _ _ _ U Z ⟨M,O,Q⟩=>⟨M,O,.inl ⟨_,U,Z.c▸Q⟩⟩) fl N K S S v (.a S) h) (ip.a _ _ _ _ U)
 ·exact h _ (tF (y _ λ_ Z=>(aE J (L2 J) (.inl (aE _ Z G))))))
theorem XR{i:Nat}{a:ag}{S:Option (Nat×List V)}{xs:List V}{k K:bH->ah->af->Prop}(u:bO l lm)(h:pK T (aZ T n) i a S xs l σ k)(q:∀fl l lm s,bO l lm->k fl l s->K fl lm s):pK T (aZ T n) i a S xs lm σ K:=by(refine kq h λI c H t done=>?_;clear h);refine⟨λr lm σ=>∃l,bO l lm/\I r l σ,⟨_,u,c⟩,λr lm σ ⟨l,_,h⟩=>H _ _ _ h,λy r lm σ ⟨l,u,h⟩=>?_,λlm σ ⟨l,u,h⟩=>q _ _ _ _ u (done _ _ h)⟩;have h:=t y r l σ h;exact(ai h.1 (qW (u.aU i y) h.2 λfl a b s v h=>uM (P:=[]) (d:=0) (tQ q) (λ_ _ _ _ u z q=>(aE _ u (z.c▸q))) fl a b s s v (.a s) h))
theorem gW.i{i:Nat}{a:ag}{s:Option (Nat×List V)}{xs:List V}(h:gW T n i a s xs lm σ fl l' σ'):pK T (aZ T n) i a s xs lm σ (ip fl l' σ'):=h _ λ_ z=>(cz rfl z rfl)
theorem gW.j{i:Nat}{a:ag}{S:Option (Nat×List V)}(h:ji S σ):gW T n i a S [] lm σ .a lm σ:=λk H=>(ii (λr l s=>r=[]/\l=lm/\s=σ) (cz rfl rfl rfl) (by rintro _ _ _ ⟨_,_,rfl⟩;exact h) (by rintro _ _ _ _ ⟨e,_⟩;(injection e;done)) (by rintro _ _ ⟨_,rfl,rfl⟩;exact H _ .a))
theorem gW.p{i:Nat}{a:ag}{S:Option (Nat×List V)}{xs:List V}(g:ji S σ)(m:av T n a (aU i v lm) σ .a l1 σ1)(r:gW T n i a S xs l1 σ1 fl l' σ'):gW T n i a S (v::xs) lm σ fl l' σ':=λk o=>by
 refine kq r.i λI w c t done=>?_
 refine XR .a (k:=ip fl l' σ') (ii (λq l s=>(∃L,bO L l/\I q L s)\/(q=v::xs/\l=lm/\s=σ)) (.inr (cz rfl rfl rfl)) (λq l s H=>?_) (λy q l s H=>?_) (λl s H=>?_)) (ip.d o)
 ·rcases H with⟨L,u,H⟩|⟨_,_,rfl⟩
  ·exact c _ _ _ H
  ·exact g
 ·rcases H with⟨L,u,H⟩|⟨e,rfl,rfl⟩
  ·have h:=t y q L s H;exact(ai h.1 (qW (u.aU i y) h.2 λfl a b s v h=>uM (P:=[]) (d:=0) (tQ ip.a) (λ_ _ _ _ u z q=> .inl (aE _ u (z.c▸q))) fl a b s s v (.a s) h))
  ·cases e;exact(ai g (m _ λ_ z=> .inl (aE _ z w)))
 ·rcases H with⟨L,u,H⟩|⟨e,_⟩
  ·exact ip.a _ _ _ _ u (done _ _ H)
  ·(injection e;done)
theorem gW.f{i:Nat}{a:ag}{S:Option (Nat×List V)}{xs:List V}{u:V}(h:ji S σ)(H:av T n a (aU i v lm) σ (.f u) l1 σ1):gW T n i a S (v::xs) lm σ (.f u) l1 σ1:=λk b=>(ii (λq l s=>q=v::xs/\l=lm/\s=σ) (cz rfl rfl rfl) (by rintro _ _ _ ⟨_,_,rfl⟩;exact h) (by rintro _ _ _ _ ⟨e,rfl,rfl⟩;(injection e with Z;subst Z);exact(ai h (H _ λ_ z=>b _ z))) (by rintro _ _ ⟨e,_⟩;(injection e;done)))
theorem av.o{i:Nat}{e:aq}{xs:List V}(h:aR T n e lm σ v σ1)(hi:j_ v σ1=au xs)(r:gW T n i x (mI v xs) xs lm σ1 fl l' σ'):av T n (.o (.d i) e x) lm σ fl l' σ':=λK H=>by
 refine h _ ?_;show match j_ v σ1 with
  |none=>False|some xs=>_
 rw[hi];exact r K H
theorem av.b(h:Ci fl l' σ'=bj T (aZ T n) x lm σ:=by kernel_rfl!):av T n x lm σ fl l' σ':=λK H=>aP (H _ .a) (congrFun h K)
theorem av.fy{p:Prop}(H:p)(h:bM p (Ci fl l' σ')=bj T (aZ T n) x lm σ:=by kernel_rfl!):av T n x lm σ fl l' σ':=λK c=>aP (ai H (c _ .a)) (congrFun h K)
theorem av.sG{p q:Prop}(H:p)(c:q)(h:bM p (bM q (Ci fl l' σ'))=bj T (aZ T n) x lm σ:=by kernel_rfl!):av T n x lm σ fl l' σ':=λK g=>aP ⟨H,c,g _ .a⟩ (congrFun h K)
theorem aN.b{t:Bool}(h:ij t σ'=(ae T (aZ T n) c).a lm σ:=by kernel_rfl!):aN T n c lm σ t σ':=λk H=>aP H (congrFun h k)
theorem aR.b(h:Mo v σ'=(ae T (aZ T n) c).az lm σ:=by kernel_rfl!):aR T n c lm σ v σ':=λk H=>aP H (congrFun h k)
theorem aR.fy{p:Prop}(H:p)(h:bM p (Mo v σ')=(ae T (aZ T n) c).az lm σ:=by kernel_rfl!):aR T n c lm σ v σ':=λk a=>aP (ai H a) (congrFun h k)
theorem av.bE{lm1:ah}(r:av T n y lm1 σ1 fl l' σ')(e:bj T (aZ T n) y lm1 σ1=bj T (aZ T n) x lm σ:=by kernel_rfl!):av T n x lm σ fl l' σ':=λK H=>aP (r K H) (congrFun e K)
theorem av.r{lm1:ah}{p:Prop}(H:p)(r:av T n y lm1 σ1 fl l' σ')(e:bM p (bj T (aZ T n) y lm1 σ1)=bj T (aZ T n) x lm σ:=by kernel_rfl!):av T n x lm σ fl l' σ':=λK c=>aP (ai H (r K c)) (congrFun e K)
theorem av.eD{t:Bool}{y yb:ag}{l lb:ah}{c σb:af}(g:t=true->av T n y l c fl l' σ')(v:t=false->av T n yb lb σb fl l' σ')(e:vO t (bj T (aZ T n) y l c) (bj T (aZ T n) yb lb σb)=bj T (aZ T n) x lm σ:=by kernel_rfl!):av T n x lm σ fl l' σ':=λK H=>aP (pB (λQ=>g Q K H) λQ=>v Q K H) (congrFun e K)
theorem av.A{g:Addr}{vs:List V}(K:V->af->(bH->ah->af->Prop)->Prop)(h:bd T n g vs σ1 v σ2)(H:∀k:bH->ah->af->Prop,(∀l,bO l' l->k fl l σ')->K v σ2 k)(e:∀k:bH->ah->af->Prop,aZ T n g vs σ1 (λv s=>K v s k)=bj T (aZ T n) x lm σ k):av T n x lm σ fl l' σ':=λk c=>aP (h (λv s=>K v s k) (H k c)) (e k)
theorem av.z{g:Addr}{vs:List V}{lm1:ah}(h:bd T n g vs σ1 v σ2)(r:av T n y lm1 σ2 fl l' σ')(e:AV T n g vs σ1 y lm1=bj T (aZ T n) x lm σ:=by kernel_rfl!):av T n x lm σ fl l' σ':=.A (λ_ S K=>bj T (aZ T n) y lm1 S K) h (λK H=>r K H) (congrFun e)
theorem av.D{g:Addr}{vs:List V}{lm1:ah}{p:Prop}(H:p)(h:bd T n g vs σ1 v σ2)(r:av T n y lm1 σ2 fl l' σ')(e:bM p (AV T n g vs σ1 y lm1)=bj T (aZ T n) x lm σ:=by kernel_rfl!):av T n x lm σ fl l' σ':=λK c=>aP (ai H (h (λ_ S=>bj T (aZ T n) y lm1 S K) (r K c))) (congrFun e K)
theorem av.h{g:Addr}{vs:List V}(lm1:ah)(h:bd T n g vs σ1 v σ2)(e:dP T n g vs σ1 lm1=bj T (aZ T n) x lm σ:=by kernel_rfl!):av T n x lm σ .a lm1 σ2:=.A (λ_ S K=>K .a lm1 S) h (λK H=>H _ .a) (congrFun e)
theorem av.u{g:Addr}{vs:List V}{lm1:ah}(h:bd T n g vs σ1 v σ2)(e:XN T n g vs σ1 lm1=bj T (aZ T n) x lm σ:=by kernel_rfl!):av T n x lm σ (.f v) lm1 σ2:=.A (λv S K=>K (.f v) lm1 S) h (λK H=>H _ .a) (congrFun e)
theorem av.w{g:Addr}{vs:List V}{lm1:ah}{i:Nat}(h:bd T n g vs σ1 v σ2)(r:av T n y (aU i v lm1) σ2 fl l' σ')(e:XO T n g vs σ1 i y lm1=bj T (aZ T n) x lm σ:=by kernel_rfl!):av T n x lm σ fl l' σ':=.A (λv S K=>bj T (aZ T n) y (aU i v lm1) S K) h (λK H=>r K H) (congrFun e)
theorem av.E{g:Addr}{vs:List V}{lm1:ah}{o f:Nat}{σ3:af}(h:bd T n g vs σ1 v σ2)(H:AA lm1 σ3=jT T (aZ T n) (.w (.d o) f) v lm1 σ2)(r:av T n y lm1 σ3 fl l' σ')(e:AB T n g vs σ1 o f y lm1=bj T (aZ T n) x lm σ:=by kernel_rfl!):av T n x lm σ fl l' σ':=.A (λv S K=>jT T (aZ T n) (.w (.d o) f) v lm1 S λl S=>bj T (aZ T n) y l S K) h (λK c=>aP (r K c) (congrFun H λl S=>bj T (aZ T n) y l S K)) (congrFun e)
theorem aN.z{g:Addr}{vs:List V}{b:Bool}(h:bd T n g vs σ1 v σ2)(H:ij b σ2=eh v σ2)(e:XQ T n g vs σ1=(ae T (aZ T n) c).a lm σ:=by kernel_rfl!):aN T n c lm σ b σ2:=λk a=>aP (h (λv s=>eh v s k) (aP a (congrFun H k))) (congrFun e k)
theorem bd.d{g:Addr}{vs:List V}(m:gI)(H:fl=.f v\/fl=.a/\v=.g)(h:av T n m.c (jC m.a vs) σ fl l' σ')(b:br g T.a=au m:=by kernel_rfl!)(c:e6 (aQ m.a) (aQ vs)=true:=by rfl)(f:m.iT=none:=by rfl):bd T (n+1) g vs σ v σ':=λk i=>by
 show match br g T.a with
  |some m=>_/\_|none=>False
 rw[b];refine(ai c (h _ λl _=>?_));rw[f];rcases H with rfl|⟨rfl,rfl⟩<;>exact i
theorem bd.e{g:Addr}{vs:List V}(m:gI)(h:av T n m.c (jC m.a vs) σ .a l' σ')(H:br g T.a=au m:=by kernel_rfl!)(b:e6 (aQ m.a) (aQ vs)=true:=by rfl)(c:m.iT=none:=by rfl):bd T (n+1) g vs σ .g σ':=.d m (.inr ⟨rfl,rfl⟩) h H b c
theorem bd.a{g:Addr}{vs:List V}(m:gI)(H:br g T.a=au m)(b:e6 (aQ m.a) (aQ vs)=true)(c:fl=.f v\/fl=.a/\v=.g)(h:av T n m.c (jC m.a vs) σ fl l' σ1)(f:∀k,k v σ'->XS m.iT (aQ σ) vs v σ1 k):bd T (n+1) g vs σ v σ':=λk i=>by
 show match br g T.a with
  |some m=>_/\_|none=>False
 rw[H];refine(ai b (h _ λl _=>?_));rcases c with rfl|⟨rfl,rfl⟩<;>exact f k i
abbrev A6(P:List V)(σ a:af):Prop:=bU P 2 σ a
theorem bU.d{P:List V}{d:Nat}{σ m:af}(s:bU P d σ m)(σ':af):bU P d σ' (σ'.map (jK P d)):=⟨rfl,s.k,s.f⟩
theorem bd.t{P:List V}{d:Nat}{g:Addr}{vs:List V}{f:af}(h:bd T n g vs σ v σ')(s:bU P d σ f):∃c,bU P d σ' c/\bd T n g vs f v c:=⟨_,s.d σ',λk H=>uN n _ _ _ _ _ k s (λi S j z ⟨A,b⟩=>by subst A b;rw[z.b];exact H) (h (λi S=>i=v/\S=σ') ⟨rfl,rfl⟩)⟩
theorem av.t{P:List V}{d:Nat}{s:ag}{g:af}(h:av T n s lm σ fl l' σ')(z:bU P d σ g):∃c,bU P d σ' c/\av T n s lm g fl l' c:=⟨_,z.d σ',λK H=>wL (uN n) s .a z (λv x y S l U z ⟨G,Q,R⟩=>by subst G R;rw[z.b];exact H _ (Q.e U)) h.i⟩
theorem aN.t{P:List V}{d:Nat}{b:Bool}{g:af}(h:aN T n c lm σ b σ')(z:bU P d σ g):∃e,bU P d σ' e/\aN T n c lm g b e:=⟨_,z.d σ',λk H=>(gY (uN n) c).a .a z (λf S i z ⟨p,r⟩=>by subst p r;rw[z.b];exact H) (h (λa s=>a=b/\s=σ') ⟨rfl,rfl⟩)⟩
end
mutual
def gq(f:Nat->Nat):V->V
 | .D X=> .D (fU f X)| .u X=> .u (fU f X)| .c e=> .c (uO f e)| .p C F=> .p C (eo f F)| .o i=> .o (f i)| .k C i=> .k C (f i)| .E C i g=> .E C (f i) g| .m d=> .m (gq f d)| .g=> .g| .l b=> .l b| .q i=> .q i| .e s=> .e s| .t b=> .t b| .cy a=> .cy a| .h a=> .h a| .j b=> .j b| .v n=> .v n| .x=> .x| .r=> .r
def fU(f:Nat->Nat):List V->List V
 |[]=>[]|x::X=>gq f x::fU f X
def uO(f:Nat->Nat):List (Str×V)->List (Str×V)
 |[]=>[]|(k,x)::X=>(k,gq f x)::uO f X
def eo(f:Nat->Nat):List (Nat×V)->List (Nat×V)
 |[]=>[]|(k,x)::X=>(k,gq f x)::eo f X
end
theorem Cm(f:Nat->Nat):∀xs,(fU f xs).length=xs.length
 |[]=>rfl|_::xs=>congrArg (· +1) (Cm f xs)
theorem XU(f:Nat->Nat):∀xs,(uO f xs).length=xs.length
 |[]=>rfl|_::xs=>congrArg (· +1) (XU f xs)
theorem Mp(f:Nat->Nat):∀xs,(eo f xs).length=xs.length
 |[]=>rfl|_::xs=>congrArg (· +1) (Mp f xs)
structure oU(f:Nat->Nat)(W w:aD):Prop where
 b:w.b=W.b
 d:∀i:Nat,w.d[i]? =W.d[f i]?
section
variable {B:aK} {f:Nat->Nat} {W w:aD}
theorem dm.b{v:Value}{P Q:Addr->Obj->Prop}(e:w.b=W.b)(h:∀a o,P a o=Q a o):dm W v P=dm w v Q:=by delta dm;rw[e];exact congrArg (λF:Addr->Obj->Prop=>∃a o,v=.ref a/\W.b a=au o/\F a o) (funext λa=>funext (h a))
theorem kL.b{C i v}(S:oU f W w):kL W C (f i) v=kL w C i v:=dm.b S.b λ_ o=>by rw[S.d]
theorem oV{a b c d:Prop}(h:a=b)(g:c=d):(a/\c)=(b/\d):=h▸g▸rfl
mutual
theorem aY.gq(S:oU f W w):∀(x:V) (v:Value),aY B W v (Mine.gq f x)=aY B w v x
 | .g,_| .l _,_| .q _,_| .e _,_| .t _,_| .cy _,_| .h _,_| .j _,_| .x,_| .r,_=>rfl| .D X,_=>dm.b S.b λ_ O=>congrArg (λP:List Value->Prop=>∃n,Lz O n/\P n) (funext (bp.gq S X))| .u X,_=>dm.b S.b λ_ O=>congrArg (λP:List Value->Prop=>∃n,xj O n/\P n) (funext (bp.gq S X))| .c s,_=>dm.b S.b λA O=>congrArg (λP:List (Str×Value)->Prop=>∃n,xk B A O n/\P n) (funext (gP.gq S s))| .p C F,_=>dm.b S.b λ_ O=>congrArg (λP:Addr->Prop=>∃t,O=instObj C t/\P t) (funext λt=>dm.b S.b λ_ O=>congrArg (λP:List DictEntry->Prop=>∃s,BH O s/\P s) (funext (er.gq S F)))| .v _,_=>dm.b S.b λ_ _=>rfl| .o I,v=>congrArg (λQ:Option Addr=>∃A,v=.ref A/\Q=au A) (S.d I).symm| .k _ _,_=>kL.b S| .E C I G,_=>dm.b S.b λ_ O=>congrArg (λP:Value->Prop=>∃x,O=methodObj (.ref G) x/\P x) (funext λx=>kL.b S)| .m y,_=>dm.b S.b λ_ O=>congrArg (λP:Value->Prop=>∃x,O={cls:=.type "dict_keys",data:=.fields #[x]}/\P x) (funext (aY.gq S y))
theorem bp.gq(S:oU f W w):∀(X:List V) (n:List Value),bp B W n (fU f X)=bp B w n X
 |[],_=>rfl|_::_,[]=>rfl|x::X,v::n=>oV (aY.gq S x v) (bp.gq S X n)
theorem gP.gq(S:oU f W w):∀(X:List (Str×V)) (n:List (Str×Value)),gP B W n (uO f X)=gP B w n X
 |[],_=>rfl|(_,_)::_,[]=>rfl|(K,x)::X,z::n=>oV rfl (oV (aY.gq S x z.2) (gP.gq S X n))
theorem er.gq(S:oU f W w):∀(X:List (Nat×V)) (n:List DictEntry),er B W n (eo f X)=er B w n X
 |[],_=>rfl|(_,_)::_,[]=>rfl|(_,x)::X,H::n=>oV rfl (oV (aY.gq S x H.val) (er.gq S X n))
end
def qb(f:Nat->Nat)(Bf:List V):aG->aG
 | .u x=> .u (fU f x)| .F e=> .F (uO f e)| .a F=> .a (eo f F)| .d _ x=> .u (Bf++fU f x)
theorem nL.gq(S:oU f W w){Bf:List V}(h:bp B W w.bE Bf){a:Addr}{o:Obj}:∀{mo:aG},nL B w a o mo->nL B W a o (qb f Bf mo)
 | .u x,q=>q.imp λv=>ia id (ia (bp.gq S x v).mpr ((Cm f x).symm▸id))| .F e,q=>q.imp λv=>ia id (ia (gP.gq S e v).mpr ((XU f e).symm▸id))| .a F,q=>q.imp λv=>ia id (ia (er.gq S F v).mpr ((Mp f F).symm▸id))| .d b x,⟨v,l,q,m,M⟩=>⟨w.bE++v,l,bp.b ((bp.gq S x v).mpr q) h,by rw[bs,Cm,←h.a];lia⟩
end
def bB:List Nat->Nat->Nat->Nat
 |[],N,i=>N+i|j::_,_,0=>j|_::r,N,i+1=>bB r N i
def lv(f:Nat->Nat)(Bf:List V):List Nat->af->af->af
 |[],b,a=>a++b.map (qb f Bf)|j::c,m::b,a=>lv f Bf c b (eY j (qb f Bf m) a)|_::_,[],a=>a
theorem XV{B:aK}{W:aD}{h:Heap}{f:Nat->Nat}{Bf:List V}{N:Nat}:∀(ι:List Nat) (σ b:af),b.length=N->ι.length<=σ.length->(∀(j:Nat) a M,j∉ι->W.d[j]? =au a->b[j]? =au M->eG B W h a M)->
  (∀(i:Nat) a mo,σ[i]? =au mo->W.d[bB ι N i]? =au a->eG B W h a (qb f Bf mo))->(lv f Bf ι σ b).length=N+(σ.length-ι.length)/\∀(j:Nat) a M,W.d[j]? =au a->(lv f Bf ι σ b)[j]? =au M->eG B W h a M
 |[],σ,b,l,_,d,c=>by
  refine(ai (by show(b++σ.map _).length=_;rw[bs,hZ,l];rfl) (λj a M g H=>?_));replace H:(b++σ.map (qb f Bf))[j]? =au M:=H
  by_cases q:j<b.length
  ·rw[i7 q]at H;exact d j a M ls g H
  ·rw[lD (rj q),n7]at H;(refine ap (Option.map_eq_some_iff.mp H) λmo m E=>?_;subst E);refine c _ a mo m ?_;show W.d[N+(j-b.length)]? =_;rw[←l,D2 (rj q)];exact g
 |J::ι,mo::σ,b,l,k,d,c=>by
  rw[eb,eb]at*;have I:=XV ι σ (eY J (qb f Bf mo) b) (by rw[jH,y2];exact l) (Nat.le_of_succ_le_succ k) (λj a M n g H=>?_) λi a mo m o=>c (i+1) a mo m o
  ·exact(ai (I.1.trans (ea (fN 0x148348023811a28181a0812 (d_ _ _) (cX (aC 0x101a181a0811 k))) (fN 0x1483481a081a28381218012 (d_ _ _) (cX (aC 0x1a181a081a181a0811 k))))) I.2)
  ·rw[jH]at H
   by_cases q:J=j
   ·subst q;rw[List.getElem?_set_self (by rw[←y2 (i:=J) (a:=qb f Bf mo)];exact(df.mp H).1)]at H;(injection H with z;subst z);exact c 0 a mo rfl g
   ·rw[List.getElem?_set_ne q]at H;exact d j a M (λh=>(bv h).elim (λe=>q e.symm) n) g H
 |_::_,[],_,_,k,_,_=>absurd k (Nat.not_succ_le_zero _)
theorem eG.e{B:aK}{W w:aD}(l:hG W w){h H:Heap}{a:Addr}(k:∀o,h.get? a=au o->H.get? a=au o){mo:aG}(x:eG B W h a mo):eG B w H a mo:=(x.c l).b k
noncomputable def aD.e(W:aD)(ι:List Nat)(pre:List Value):aD:=⟨W.b,ι.map λj=>(W.d[j]?).getD 0,pre⟩
theorem Mq{a more:List Addr}:∀{ι:List Nat} (i:Nat),(∀j∈ι,j<a.length)->((ι.map λj=>(a[j]?).getD 0)++more)[i]? =(a++more)[bB ι a.length i]?
 |[],i,_=>by show more[i]? =(a++more)[a.length+i]?;rw[lD (bi _ _),ne]|j::ι,0,h=>by have H:=h j (f8 ..);show au _=(a++more)[j]?;rw[i7 H];show au ((a[j]?).getD 0)=_;rw[dt H];rfl|j::ι,i+1,h=>Mq i λj H=>h j (f9 _ H)
theorem Mr{W:aD}{ι:List Nat}{pre:List Value}(h:∀j∈ι,j<W.d.length):oU (bB ι W.d.length) W (W.e ι pre):=⟨rfl,λi=>by have:=Mq (more:=[]) i h;rw[dE,dE]at this;exact this⟩
theorem aS.v{B:aK}{W:aD}{σ:af}{s:Shared}(R:aS B W σ s){a:Addr}(h:a∈W.d):s.heap.get? a≠none:=λE=>by obtain⟨I,H,rfl⟩:=o1 h;obtain⟨_,_,⟨O,G,_⟩,_⟩:=R.r (dt H);rw[G]at E;(injection E;done)
theorem Ms{B:aK}{W:aD}{p σ:af}{s:Shared}(R:aS B W p s){ι:List Nat}(nd:ι.Nodup)(F:∀j∈ι,j<p.length)(hl:σ.length=ι.length){pre:List Value}{Bf:List V}(hp:bp B W pre Bf)
  (u:∀(i:Nat) a mo,σ[i]? =au mo->W.d[bB ι p.length i]? =au a->eG B (W.e ι pre) s.heap a mo):
  aS B (W.e ι pre) σ s/\∀s' w σ',aS B w σ' s'->cK (W.e ι pre) s.heap w s'.heap->∃I,aS B I (lv (bB ι p.length) Bf ι σ' p) s'/\cK W s.heap I s'.heap/\∀x v,aY B w v x->aY B I v (gq (bB ι p.length) x):=by
 have H:∀j∈ι,j<W.d.length:=λj z=>R.k▸F j z
 have S:=Mr (pre:=pre) H;rw[←R.k]at u⊢;have l:∀a∈(W.e ι pre).d,a∈W.d:=λa c=>by(refine ap (j6.mp c) λj z J=>?_;subst J);rw[dt (H j z)];exact wi _
 refine(ai ⟨R.cm,R.b,(hZ _).trans hl.symm,λi a mo K L=>u i a mo L (S.d i▸K),?_,λa c=>R.e a (l a c),R.h,R.f⟩ (λs' w σ' r E=>?_))
 ·refine I5.mpr (nd.imp_of_mem λ{x y} O P Q e=>Q ?_);rw[dt (H x O),dt (H y P)]at e;exact B5 R.d (dt (H x O)) ((dt (H y P)).trans (congrArg au (id e:W.d[x]'(H x O)=W.d[y]'(H y P)).symm))
 refine ap E.d λm k A=>?_
 have T:oU (bB ι W.d.length) ⟨w.b,W.d++m,W.bE⟩ w:=⟨rfl,λi=>by rw[k];exact Mq i H⟩;have Y:hG W ⟨w.b,W.d++m,W.bE⟩:=⟨E.b,(ba m rfl),rfl⟩;have n:ι.length+m.length=σ'.length:=by have:=r.k;rw[k,bs]at this;exact(congrArg (· +m.length) (hZ _).symm).trans this
 have G:=XV (B:=B) (W:=⟨w.b,W.d++m,W.bE⟩) (h:=s'.heap) (f:=bB ι W.d.length) (Bf:=Bf) (N:=W.d.length) ι σ' p R.k.symm (n▸bi _ _) (λj a M z d Z=>?_) λi a mo K d=>?_
 ·refine(bx ⟨w.b,W.d++m,W.bE⟩ ⟨r.cm,r.b,?_,λi a mo h1 h2=>G.2 i a mo h1 h2,?_,λa c=>?_,r.h,r.f⟩ ⟨E.b,E.j,(aE m rfl A),λa o d hn=>E.f a o d λU=>hn (l a U),E.c,rfl⟩ (λx v q=>(aY.gq T x v).mpr q))
  ·rw[G.1,←n,ne];exact bs
  ·have C:=r.d;rw[k]at C;refine k4.mpr (cz R.d ((k4.mp C).2.1) (λa d b hb e=>?_));subst e;have:=R.i d;exact absurd (A a hb) (R.v d)
  ·rcases e8.mp c with c|c
   ·show w.b a=none;cases q:w.b a with
    |none=>rfl|some o=>
     rcases E.j a o q with y|y
     ·exact y.symm.trans (R.e a c)
     ·exact absurd y (R.v c)
   ·exact r.e a (k▸y8 _ c)
 ·have X:j<W.d.length:=by rw[R.k];exact(df.mp Z).1
  rw[i7 X]at d;refine(R.p j a M d Z).e Y λo L=>E.f a o L λU=>z ?_
  refine ap (j6.mp U) λj' t e=>?_
  rw[dt (H j' t)]at e;rw[←B5 R.d ((dt (H j' t)).trans (congrArg au e)) d];exact t
 ·refine ap (r.p i a mo ((T.d i).trans d) K) λo g x=>?_
  have D:w.bE=pre:=E.bE;exact(aE o g (nL.gq T (D▸hp.c Y) x))
def wJ(x y:V):Prop:=x=y\/match x with
 | .x=>∃i,y=.q i| .r=>match y with
  | .g| .l _| .c _=>True|_=>False
 |_=>False
theorem wJ.b{B:aK}{W:aD}{v:Value}{x y:V}(r:wJ x y)(h:aY B W v y):aY B W v x:=by
 rcases r with rfl|r
 ·exact h
 cases x with
 |x=>(refine bf r λi e=>?_;clear r;subst e);(refine bf h λt E=>?_;clear h;subst E);exact .x _ _|r=>cases y with
  |g|l=>subst h;exact .r rfl|c=>exact dm.d h|_=>exact r.elim
 |_=>exact r.elim
def gc:List (Nat×V)->List (Nat×V)->Prop
 |[],Y=>Y=[]|(k,x)::r,Y=>match Y with
  |[]=>False|(K,y)::Y=>k=K/\wJ x y/\gc r Y
theorem gc.b{B:aK}{W:aD}:∀{f Fs:List (Nat×V)} {es:List DictEntry},gc f Fs->er B W es Fs->er B W es f/\f.length=Fs.length
 |[],_,_,r,h=>by subst r;exact(ai h rfl)|(_,_)::_,[],_,r,_=>r.elim|(_,_)::_,(_,_)::_,[],_,h=>h.elim|(_,_)::f,(_,_)::Fs,e::es,r,h=>by(refine cS r λE R c=>?_;clear r;subst E);have i:=gc.b c h.2.2;exact(ai ⟨h.1,R.b h.2.1,i.1⟩ (congrArg (· +1) i.2))
def XW(f:Nat->Nat)(Bf:List V)(p:Prop)(M:aG):aG->Prop
 | .u x=>M=.u (fU f x)| .a a=>∃F,M=.a F/\gc (eo f a) F| .d b x=>p/\M=.u (Bf++fU f x)/\(Bf.length:Int)<=b/\b+(x.length:Int)<=(sizeLine:Int)| .F _=>False
theorem bp.d{B:aK}{W:aD}:∀{a b:List V} {vs:List Value},bp B W vs (a++b)->bp B W (vs.take a.length) a/\bp B W (vs.drop a.length) b
 |[],_,_,H=>(ai .j H)|_::_,_,[],H=>H.elim|_::_,_,_::_,H=>(ai ⟨H.1,(bp.d H.2).1⟩ ((bp.d H.2).2))
theorem bF.G{B:aK}{T:dq}{n:Nat}{g:Addr}{ι:List Nat}{io:Nat}{Bf vs:List V}{σ σ' e:af}{v:V}{k:bu}
  (h:bF B T n g vs σ λx s=>x=v/\s=σ')(nd:ι.Nodup)(H:∀j∈ι,j<e.length)(hl:σ.length=ι.length)(C:∃X,e[bB ι e.length io]? =au (.u (Bf++X)))
  (hc:∀(i:Nat) mo M,σ[i]? =au mo->e[bB ι e.length i]? =au M->XW (bB ι e.length) Bf (i=io) M mo)(hk:(∀b xs,σ'[io]? =au (.d b xs)->b+(xs.length:Int)<=(sizeLine:Int))->k (gq (bB ι e.length) v) (lv (bB ι e.length) Bf ι σ' e)):bF B T n g (fU (bB ι e.length) vs) e k:=by
 intro m hm fd f a2 A W s P kw t Q E r R J K p;obtain⟨X,w⟩:=C;have U:bB ι e.length io<W.d.length:=by rw[R.k];exact(df.mp w).1
 obtain⟨_,gJ,_,⟨I,nJ,rfl,rfl⟩,Y,_⟩:=R.p _ _ _ (dt U) w;have S:=Mr (W:=W) (ι:=ι) (pre:=I.toList.take Bf.length) λj hj=>R.k▸H j hj
 rw[R.k]at S;obtain⟨Rw,out⟩:=Ms R nd H hl (pre:=I.toList.take Bf.length) Y.d.1 λi a3 mo hi Z=>by
  obtain⟨M,hM,x,_⟩:=R.r Z;have a4:=hc i mo M hi hM;obtain⟨o,g,x⟩:=x;refine⟨o,g,?_⟩;cases mo with
  |u xs=>subst a4;obtain⟨vs,L,q,l⟩:=x;exact⟨vs,L,(bp.gq S xs vs).mp q,Cm _ xs▸l⟩
  |a fs=>obtain⟨Fs,rfl,a4⟩:=a4;obtain⟨vs,L,q,l⟩:=x;have z:=a4.b q;exact⟨vs,L,(er.gq S fs vs).mp z.1,Mp _ fs▸z.2▸l⟩
  |d b xs=>obtain⟨rfl,rfl,l1,l2⟩:=a4;cases Z.symm.trans (dt U);cases gJ.symm.trans g;obtain⟨_,⟨a1,n2,D,rfl⟩,q,_⟩:=x;delta m7 at D;injection D with _ _ h3 _;injection h3 with h4 _;subst h4;exact⟨I.toList.drop Bf.length,⟨I,nJ,rfl,(rb _ _).symm⟩,(bp.gq S xs _).mp q.d.2,by show((I.toList.take Bf.length).length:Int)<=_;rw[Y.d.1.a];exact l1,l2⟩
  |F=>exact a4.elim
 refine h m hm fd f a2 A _ s P kw t Q E r Rw J ((bp.gq S vs t).mp K) ?_;rintro rv s' w' mv a0 ⟨rfl,rfl⟩ N e' y;obtain⟨W',R2,D,q⟩:=out s' w' _ N e';refine p rv s' W' _ _ (hk λb xs C=>?_) R2 D (q _ _ y);have O:io<w'.d.length:=by rw[N.k];exact(df.mp C).1
 obtain⟨_,_,_,_,_,_,l⟩:=N.p io _ _ (dt O) C;exact l
section
variable {B:aK} {T:dq} {n n':Nat} {g:Addr} {vs:List V} {σ:af} {k k':bu}
theorem bF.i(h:n<=n')(q:bF B T n g vs σ k):bF B T n' g vs σ k:=λm H f b F A W s p K v Q E r=>q m H f b F A W s p K v Q E (r.c h)
theorem bF.c(q:bF B T n g vs σ k)(h:∀v s,k v s->k' v s):bF B T n g vs σ k':=λm H j d F A W s P K e Q E r R b v p=>q m H j d F A W s P K e Q E r R b v λv S w M f a=>p v S w M f (h _ _ a)
theorem Ki(O:cL B T){m:Nat}(h:2*m<=n):p_ [] 0 (aZ T m) (bF B T n):=λg vs σ c k k' s q a=>by have e:=s.c;subst e;exact(bF.c (Ca O m g vs _ k a) λv s b=>q v s s (.a s) b).i h
theorem aR.h(O:cL B T){m:Nat}(h:2*m<=n){x:aq}{lm:ah}{v:V}{σ':af}(r:aR T m x lm σ v σ')(H:k v σ'):(ae T (bF B T n) x).az lm σ k:=(gY (Ki O h) x).az .a (.a σ) (λa s S z q=>by have e:=z.c;subst e;(refine aV q λE c=>?_;clear q;subst E;subst c);exact H) (r (λa s=>a=v/\s=σ') (ai rfl rfl))
theorem bd.h(O:cL B T){m:Nat}(h:2*m<=n){v:V}{σ':af}(r:bd T m g vs σ v σ')(H:k v σ'):bF B T n g vs σ k:=(Ca O m g vs σ k (r k H)).i h
end
theorem Cn{α:Type}{a b:α}{c d:List α}(h:a=b)(g:c=d):a::c=b::d:=h▸g▸rfl
mutual
theorem RG(f:Nat->Nat):∀x:V,bG 0 x->gq f x=x
 | .g,_| .l _,_| .q _,_| .e _,_| .t _,_| .cy _,_| .h _,_| .j _,_| .x,_| .r,_| .v _,_=>rfl| .D X,l=>congrArg V.D (oG f X l)| .u X,l=>congrArg V.u (oG f X l)| .c X,l=>congrArg V.c (Zc f X l)| .p C X,l=>congrArg (V.p C) (Zd f X l)| .o _,l| .k _ _,l| .E _ _ _,l=>absurd l (N5 _)| .m d,l=>congrArg V.m (RG f d l)
theorem oG(f:Nat->Nat):∀x:List V,ck 0 x->fU f x=x
 |[],_=>rfl|x::X,l=>Cn (RG f x l.1) (oG f X l.2)
theorem Zc(f:Nat->Nat):∀x:List (Str×V),lg 0 x->uO f x=x
 |[],_=>rfl|(k,x)::X,l=>Cn (congrArg (Prod.mk k) (RG f x l.1)) (Zc f X l.2)
theorem Zd(f:Nat->Nat):∀x:List (Nat×V),fF 0 x->eo f x=x
 |[],_=>rfl|(k,x)::X,l=>Cn (congrArg (Prod.mk k) (RG f x l.1)) (Zd f X l.2)
end
mutual
theorem Ze(p:Nat->Prop)(f:Nat->Nat):∀x:V,mO p (gq f x)=mO (λi=>p (f i)) x
 | .g| .l _| .q _| .e _| .t _| .cy _| .h _| .j _| .x| .r| .v _| .o _| .k _ _| .E _ _ _=>rfl| .D X| .u X=>Zf p f X| .c X=>Zg p f X| .p _ X=>J7 p f X| .m d=>Ze p f d
theorem Zf(p:Nat->Prop)(f:Nat->Nat):∀x:List V,jp p (fU f x)=jp (λi=>p (f i)) x
 |[]=>rfl|x::X=>oV (Ze p f x) (Zf p f X)
theorem Zg(p:Nat->Prop)(f:Nat->Nat):∀x:List (Str×V),lM p (uO f x)=lM (λi=>p (f i)) x
 |[]=>rfl|(_,x)::X=>oV (Ze p f x) (Zg p f X)
theorem J7(p:Nat->Prop)(f:Nat->Nat):∀x:List (Nat×V),jI p (eo f x)=jI (λi=>p (f i)) x
 |[]=>rfl|(_,x)::X=>oV (Ze p f x) (J7 p f X)
end
mutual
theorem mO.a{p q:Nat->Prop}(h:∀i,p i->q i):∀x:V,mO p x->mO q x
 | .g,l| .l _,l| .q _,l| .e _,l| .t _,l| .cy _,l| .h _,l| .j _,l| .x,l| .r,l| .v _,l=>l| .o _,l| .k _ _,l| .E _ _ _,l=>h _ l| .D X,l| .u X,l=>jp.a h X l| .c X,l=>lM.a h X l| .p _ X,l=>jI.a h X l| .m d,l=>mO.a h d l
theorem jp.a{p q:Nat->Prop}(h:∀i,p i->q i):∀x:List V,jp p x->jp q x
 |[],l=>l|x::X,l=>ia (mO.a h x) (jp.a h X) l
theorem lM.a{p q:Nat->Prop}(h:∀i,p i->q i):∀x:List (Str×V),lM p x->lM q x
 |[],l=>l|(_,x)::X,l=>ia (mO.a h x) (lM.a h X) l
theorem jI.a{p q:Nat->Prop}(h:∀i,p i->q i):∀x:List (Nat×V),jI p x->jI q x
 |[],l=>l|(_,x)::X,l=>ia (mO.a h x) (jI.a h X) l
end
theorem gc.a:∀f:List (Nat×V),gc f f
 |[]=>rfl|(_,_)::f=>(cz rfl (.inl rfl) (gc.a f))
theorem e_.a{B:aK}{F:cM}{n m:Nat}{st:List Stmt}{lm:ah}{σ:af}{k:bH->ah->af->Prop}(o:aQ σ=m)
  (h:e_ B F n st lm σ λfl c σ'=>∃l,bO l c/\(∀x v,aH x l=au v->bG m v)/\(∀v,fl=.f v->bG m v)/\bo m (eF m σ')/\k fl l (eF m σ')):e_ B F n st lm σ k:=λA W s L Q E r R a0 a1=>by
 refine h A W s L Q E r R a0 λfl S w t c σ' a2 y e d C=>?_
 refine T5 a2 λl u D G H a2=>?_
 rw[r_]at H a2;have K:=aD.f (W:=w) (m:=m);have I:W.d.length=m:=by rw[←o,gO,R.k]
 (refine lE d λJ N O P T U=>?_;clear d);refine a1 fl S (w.aW m) t l _ a2 (y.aW H) ?_ (lG J (λq=>N (kV q)) O P T (λx M q=>?_)) ?_
 ·refine ap e.d λi X e2=>?_
  refine⟨e.b,e.j,(aE [] ?_ (by simp)),e.f,e.c,e.bE⟩;show w.d.take m=W.d++[];rw[X,←I,se,dE];rfl
 ·refine ap (U x M (u _ _ q)) λv Y Z=>?_
  exact(aE v (Y.d (λ_ _ z=>z) λ_ z=>z) (aY.f K.1 M (D _ _ q) Z))
 ·cases C with
  |a=>exact .a|g=>exact .g|b=>exact .b|f hv=>exact .f (aY.f K.1 _ (G _ rfl) hv)
theorem XX(env:Env)(b:List Stmt):∀a:List Stmt,execs (a++b) env=(execs a env>>=λf=>(match f with
 | .next=>execs b env|f=>pure f))|[]=>by rw[y3,show execs [] env=pure .next from rfl,pure_bind]|s::a=>by rw[nb,execs_cons,execs_cons,bind_assoc];refine congrArg (exec s env>>=·) (funext λf=>?_);cases f<;>first|exact XX env b a|rw[pure_bind]
theorem e_.b{B:aK}{F:cM}{n:Nat}{a b:List Stmt}{lm:ah}{σ:af}{k:bH->ah->af->Prop}(h:e_ B F n a lm σ (xc B F n b k)):e_ B F n (a++b) lm σ k:=λA W s L Q E r R o P=>by
 rw[XX];refine cT (h A W s L _ E r R o λm S w M l i a c d e g=>?_);cases g with
 |a=>exact a A w S L Q E r c e (P.a d)|g=>exact fe (P _ _ _ _ _ _ a c d e .g)|b=>exact fe (P _ _ _ _ _ _ a c d e .b)|f H=>exact fe (P _ _ _ _ _ _ a c d e (.f H))
theorem bh.h{B:aK}{T:dq}{F:cM}{n m:Nat}{lm:ah}{σ:af}{k:bu}{P q:Pos}(O:cL B T){x:Nat}{f ca:Addr}{oc:Value}{od:Option Addr}{sl:Array (Option Value)}{co:Obj}{fd:FuncData}{body:List Stmt}{M:Array Value}{t:N'}{D:ag}{U X:ah}{v:V}{σ':af}
  (hk:F.a.kind=.function)(hx:F.a.names.lookup (B.aA x)=au .local)(hd:(B.aA x==("__debug__":Str))=false)(hl:aH x lm=au (.cy f))
  (sf:(f,(⟨oc,od,.func fd,sl⟩:Obj))∈F.bg)(hc:fd.code=.ref ca)(sc:(ca,co)∈F.bg)(a7:co.data=.fields M)(hq:M[1]? =au (.str fd.qualname t))(a8:fd.body=.stmts body)
  (hb:∀s,ZP s fd ⟨[],[]⟩ [])(he:∀L,callEnv fd L f=(⟨fd.qualname,fd.scope,f,fd.code,fd.closure,F.bg⟩:cM).bA L)(N:∀x∈fd.scope.names,x.2≠.cell)(Y:fd.scope.isCoroutine=false)(Z:fd.scope.isGenerator=false)(a0:fd.scope.kind=.function)
  (a9:∀y mv,aH y U=au mv->∃c o w,fd.scope.names.lookup (B.aA y)=au .free/\fd.closure.lookup (B.aA y)=au c/\(c,o)∈F.bg/\o.data=.cell (au w)/\∀W,aY B W w mv)
  (K:(iL B.aA fd.scope D).f body=(body,true))(hn:2*m+3<=n)(b0:bj T (aZ T m) D U [] (ip (.f v) X σ'))(ka:k (gq (bB [] σ.length) v) (lv (bB [] σ.length) [] [] σ' σ)):bh B F n (.Call (.Name (B.aA x) q) [] [] P) lm σ k:=λA W s L Q b9 c0 R fr c1=>by
 (refine lE fr λ_ _ st mm b1 b2=>?_;clear fr);refine ap (b2 x _ hl) λvf h1 h2=>?_
 rw[gZ.a hx]at h1;subst h2;have gf:=R.b _ _ (st _ sf);rw[show eval (.Call (.Name (B.aA x) q) [] [] P) (F.bA L)=(do callWith P (←eval (.Name (B.aA x) q) (F.bA L)) [] (backTo P (starEach [] (F.bA L))) (backToKw P (keywordEach [] (F.bA L))))from rfl];refine cT (tn (lP (env:=F.bA L) hk hx b1 h1 ?_) hd);refine PySem.W.callWith_F0 (TY _ _ _ _ gf) (ws (show codeAny B.b A (.call (.ref f) ⟨[]++[],[]⟩) (BS Q b9) s from ?_));have rm:A.depth+n<=900:=c0.d;have ru:A.units+5*n<=9000:=c0.b;refine aV (Ms R (ι:=[]) (σ:=[]) (pre:=[]) (Bf:=[]) Xs (λ_ c2=>absurd c2 ls) rfl .j λc3 c4 mo c2=>cP c2) λRw b3=>?_
 refine M1 (fd:=fd) (body:=body) (binds:=[]) (by rw[show recursionLimit=1000 from rfl];exact aC 0x3e8c1a080384c10811 rm) gf rfl (O.bM.a.keeps R.j) (T3 ca co M t hc (R.b _ _ (st _ sc)) a7 hq) a8 (hb s) N (λx c2=>absurd c2 ls) (λI S C=>?_) Y Z a0;have a1:aS B (W.e [] []) [] {s with heap:=I,toks:=s.toks+([]:List (Str×Value)).length}:=Rw.q (s':={s with heap:=I,toks:=s.toks+([]:List (Str×Value)).length}) C rfl rfl;have a2:cK (W.e [] []) s.heap (W.e [] []) I:=⟨λ_ _ x=>x,λ_ _ x=> .inl x,(aE [] (by simp) (by simp)),λ_ _ c5 _=>C _ _ c5,λ_ ob c5=>(ba ob (C _ _ c5)),rfl⟩;rw[he];have ex:=((wU (F:=⟨fd.qualname,fd.scope,f,fd.code,fd.closure,F.bg⟩) O a0 (Ca O m)) D).f body _ _ _ (by rw[K]) b0;rw[K]at ex;refine ex (A.deeper _) _ _ _ _ _ ⟨by show A.depth+1+(2*m+1)<=900;exact bc 0x384c1a0000002981a2880384c128113a00000029812 hn rm,by show A.units+3+5*(2*m+1)<=9000;exact bc 0x2328c1a00000029800000593a2882328c1000005928113a00000029852 hn ru,c0.a⟩ a1 (lG R.m ls st _ S (λy mv hy=>?_)) ?_
 ·refine AN (a9 y mv hy) λc o w h1 h2 h3 h4 h5=>?_
  refine(aE w ?_ (h5 _));show(match fd.scope.names.lookup (B.aA y)with
   |some .local=>_|some .free|some .cell=>∃c4 o,fd.closure.lookup (B.aA y)=au c4/\W.b c4=au o/\o.data=.cell (au w)|_=>False)
  rw[h1];exact(dy c o h2 (st _ h3) h4)
 ·intro fl s' W' mf b8 b6 a3 R' e' f' hf;have a4:cK (W.e [] []) s.heap W' s'.heap:=(a2.h.e e').g (pV _);(refine cS a3 λb4 _ b5=>?_;clear a3;subst b4;subst b5);cases hf with
  |f hv=>
   refine bY (b3 s' W' _ R' a4) λb7 a5 a6 q=>?_
   exact c1 _ _ _ _ _ ka a5 a6 (q _ _ hv)
namespace Hd
noncomputable abbrev cx:Program:=PySem.Challenge.pw_qm0001_01
noncomputable abbrev cu:Value:=.none
noncomputable abbrev iM(b:Bool):Value:=.bool b
noncomputable abbrev gE(i:Int)(t:Nat):Value:=.int i t
noncomputable abbrev cb(x:String)(t:Nat):Value:=.str (a' x) t
noncomputable abbrev du(x:String):Value:=.type x
noncomputable abbrev pR(x:String):Value:=.builtin x
noncomputable abbrev aT(a:Nat):Value:=.ref a
abbrev az(P:i9)(x:String)(t:Nat)(v:Value):DictEntry:=⟨lw P (a' x),cb x t,v⟩
noncomputable def bg(i:Nat):Stmt:=(cx.main.body[i]?).getD default
def KQ(i j:Nat):Stmt:=match bg i with
 | .ClassDef _ _ _ b _ _ _ _ _ _ _=>(b[j]?).getD default|s=>s
def xf(s:Stmt)(q:Str)(d k doc p:Value)(A:Option Addr)(cd c:Value)(g:Addr):Data:=match s with
 | .FunctionDef name a b _ _ _ scope _ _ _=> .func {name,qualname:=q,params:=a,body:=.stmts b,scope,globals:=g,closure:=[],defaults:=d,kwdefaults:=k,doc:=doc,pyModule:=p,annotations:=A,code:=cd,closureTuple:=c,builtins:=builtinsNs}|_=> .plain
abbrev cy(s:Stmt)(q:String)(D k d p:Value)(a:Option Addr)(cd c:Value):Data:=xf s (a' q) D k d p a cd c mainGlobals
abbrev T7(s:Stmt)(q:String):Data:=xf s (a' q) .none .none .none .none none .none .none 0
noncomputable abbrev gl(name:String)(bases mro:List Value)(ns:Addr)(q:String)(h:Bool)(s:List Value)(a:Bool):Data:=.cls {name:=a' name,bases,mro,ns,qualname:=a' q,hasDict:=h,subclasses:=s,abstract:=a}
noncomputable abbrev xg(d:Data):Obj:={cls:=.none,data:=d}
noncomputable abbrev lJ(t:String)(d:Data):Obj:={cls:=.type t,data:=d}
noncomputable abbrev Y_(c:Value)(D:Option Addr)(d:Data):Obj:={cls:=c,dict:=D,data:=d}
noncomputable abbrev KR(c:Value)(D:Option Addr)(d:Data)(s:Array (Option Value)):Obj:={cls:=c,dict:=D,data:=d,slots:=s}
noncomputable def T8:BT->Nat->List Obj->BT
 |t,_,[]=>t|t,n,o::r=>T8 (t.ins n o) (n+1) r
noncomputable def T9:BT->List (Nat×Obj)->BT
 |t,[]=>t|t,x::r=>T9 (t.set x.1 λ_=>x.2) r
abbrev mL(t:BT)(n:Nat)(s:List (Nat×Obj))(i:List Obj):BT:=T8 (T9 t s) n i
def T_(P:i9):BT:=mL .nil 0 [] [boot_o_0 P,boot_o_1 P,boot_o_2 P,boot_o_3 P,boot_o_4 P,boot_o_5 P,boot_o_6 P,boot_o_7 P,boot_o_8 P,boot_o_9 P,boot_o_10 P]
noncomputable def T':Nat:=11
theorem mM{p:Program}{w:i3}{N:Nat}{ann:Option Value}{b n:Nat}{s:SharedT}{t:Thread}{r:Option (Flow×SharedT×Code×Pos)}
  (h:PySem.W.Fast.tw10110043849684766642 PySem.W.Fast.tw14364793385576792824 p w N ann b n s t=r):segRunT iv p w N ann b n s t=r:=by
 rw[PySem.W.Fast.te10110043849684766642,PySem.W.Fast.te14364793385576792824];exact h
def KS:Nat->List String->List Value
 |_,[]=>[]|k,x::r=>cb x k::KS (k+1) r
abbrev bJ(l:List Value):Obj:=lJ "tuple" (.seq l.toArray 0)
abbrev bB(l:List Value):Obj:=xg (.fields l.toArray)
def oJ(c:Int):List (Int×Nat)->List Value
 |[]=>[]|x::r=>gE x.1 0::gE c 0::aT x.2::oJ c r
noncomputable def Ua(P:i9):List (Str×Nat×Value)->List DictEntry
 |[]=>[]|x::r=>⟨lw P x.1,.str x.1 x.2.1,x.2.2⟩::Ua P r
abbrev pS(P:i9)(n:Nat)(l:List (Str×Nat×Value)):Obj:=lJ "dict" (.dict (Ua P l).toArray n)
abbrev KT(k:Nat):Value:=cb "/claim/cut.py" k
abbrev KU(n q:Str)(k:Nat)(l N g:Int)(a:Nat)(op:Bool)(b c d f:Value)(z:Nat):Obj:=lJ "code" (.fields [.str n k,.str q (k+1),KT (k+2),gE l 0,gE N 0,gE 0 0,gE 0 0,gE g 0,aT a,iM op,gE 181 0,aT (a+1),b,c,d,f,gE z 0,gE l 0,KT (z+1)].toArray)
abbrev KV(n:String)(k:Nat)(l g:Int)(a:Nat)(op:Bool):Obj:=KU (a' n) (a' n) k l 0 g a op cu cu cu cu (k+3)
abbrev KW(c b:Nat)(m:Value):Obj:=KR (du "frame") none .plain [au (aT c),au (aT 3),au (aT b),none,au m,none,au (aT 0)].toArray
def rD:Stmt->Str
 | .FunctionDef n _ _ _ _ _ _ _ _ _=>n|_=>tl
def mN(s:Stmt)(c:Str)(d m:Value)(k a:Nat)(l N:Int)(xs:List String)(r:List Obj):List Obj:=
 let n:=rD s
 let q:Str:=⟨c.cps++n.cps⟩
 bJ []::bB []::bJ (KS (k+3) xs)::bJ []::xg (xf s q .none .none .none .none none .none .none 0)::KU n q k l N 3 a true cu (aT (a+2)) (aT (a+3)) (aT (a+4)) (k+3+xs.length)::lJ "function" (xf s q d cu cu m none (aT (a+5)) cu mainGlobals)::r
abbrev Ub:Obj:=lJ "builtin_function_or_method" (.fields [pR "type.__prepare__",du "type"].toArray)
abbrev Uc(a:Nat)(r:List Obj):List Obj:=lJ "super" (.fields [aT a,aT a,aT a].toArray)::lJ "builtin_function_or_method" (.fields [pR "object.__init_subclass__",aT a].toArray)::r
abbrev oK(n:String)(b m:List Value)(N:Nat)(s:List Value)(x:Option Value)(t u:Nat)(i:String):Obj:=KR (du "type") none (gl n b m N n true s false) [x,none,au (cb n t),au (cb n u),au (pR i),au (iM true)].toArray
abbrev uc:=(Int×Int×List Value×List String)⊕(Str×Nat×Obj)
noncomputable abbrev lK{α:Type}(d:List Value)(x y:α):α:=match d with
 |[]=>x|_=>y
def Ud:Nat->Nat->List uc->Nat×Nat
 |k,a,[]=>(k,a)|k,a,.inl (_,_,d,x)::r=>Ud (k+6+x.length) (lK d a (a+1)+7) r|k,a,.inr (_,q,_)::r=>Ud (k+q) (a+1) r
def Ue(i:Nat)(c:Str)(m:Value)(e:List Obj):Nat->Nat->Nat->List uc->List Obj
 |_,_,_,[]=>e|j,k,a,.inl (l,n,d,X)::r=>lK d (λx=>x) (bJ d::·) (mN (KQ i j) c (lK d cu (aT a)) m k (lK d a (a+1)) l n X (Ue i c m e (j+1) (k+6+X.length) (lK d a (a+1)+7) r))|j,k,a,.inr (_,q,o)::r=>o::Ue i c m e (j+1) (k+q) (a+1) r
def KY(i:Nat)(e:List (Str×Nat×Value)):Nat->Nat->Nat->List uc->List (Str×Nat×Value)
 |_,_,_,[]=>e|j,k,a,.inl (_,_,d,x)::r=>(rD (KQ i j),k+5+x.length,aT (lK d a (a+1)+6))::KY i e (j+1) (k+6+x.length) (lK d a (a+1)+7) r|j,k,a,.inr (n,q,_)::r=>(n,k+q-1,aT a)::KY i e (j+1) (k+q) (a+1) r
def Uf:Nat->List uc->List (Int×Nat)
 |_,[]=>[]|a,.inl (l,_,d,_)::r=>(l,lK d a (a+1)+5)::Uf (lK d a (a+1)+7) r|a,.inr _::r=>Uf (a+1) r
abbrev KZ(t T:Nat)(x:String)(v w:Value):Obj:=lJ "getset_descriptor" (.fields [cb x t,aT T,v,w].toArray)
abbrev Ug(t T:Nat):Obj:=KZ t T "__dict__" (pR "function.__dict__") (pR "function.__dict__#set")
abbrev K0(t T:Nat):Obj:=KZ t T "__weakref__" (pR "ExceptionGroup.__weakref__") cu
def Uh(t T:Nat):Nat->List (Str×Nat×Value)
 |0=>[("__doc__",t+1,cu)]|1=>[("__weakref__",t+2,aT (T+1)),("__doc__",t+3,cu)]|_=>[("__dict__",t+2,aT (T+1)),("__weakref__",t+4,aT (T+2)),("__doc__",t+5,cu)]
def Ui(t T:Nat)(r:List Obj):Nat->List Obj
 |0=>r|1=>K0 (t+1) T::r|_=>Ug (t+1) T::K0 (t+3) T::r
def g_(P:i9)(x i:Nat)(m:Value)(n q:String)(l:Int)(b M S:List Value)(a k:Nat)(s:List uc)(st:List String)(r:List Obj):List Obj:=
 let z:=Ud (k+10) (a+7) s
 let t:=z.1+st.length
 let T:=z.2+2
 let e:Str×Nat×Value:=("__module__",k+5,m)
 let E:Str×Nat×Value:=("__firstlineno__",k+9,gE l (k+8))
 let c:Str×Nat×Value:=("__static_attributes__",t,aT z.2)
 bJ b::Ub::pS P (4+s.length) (e::("__qualname__",k+7,cb n (k+6))::E::KY i [c] 0 (k+10) (a+7) s)::bJ []::bB (oJ 4 (Uf (a+7) s))::KV n k l 0 (a+3) false::KW (a+5) (a+2) m::
  Ue i ⟨(a' n).cps.push 46⟩ m (bJ (KS z.1 st)::pS P (2+x) (e::E::KY i (c::Uh t T x) 0 (k+10) (a+7) s)::
   oK n (lK b [du "object"] b) (aT T::M) (z.2+1) S (lK b none (au (aT a))) (k-2) (k+6) q::Ui t T (Uc T r) x) 0 (k+10) (a+7) s
def Uj:List (Str×Nat×Value):=("__doc__",166,cu)::("__package__",167,cu)::("__loader__",168,pR "__main__.__loader__#opaque")::("__spec__",169,cu)::("__annotations__",170,aT 6)::("__builtins__",171,aT 4)::("__file__",173,cb "/claim/cut.py" 172)::("__cached__",174,cu)::("_wall",193,aT 21)::("YAMLError",215,aT 31)::("Event",255,aT 59)::("NodeEvent",284,aT 81)::("CollectionStartEvent",319,aT 101)::("CollectionEndEvent",335,aT 113)::("StreamStartEvent",364,aT 133)::("StreamEndEvent",380,aT 145)::("DocumentStartEvent",413,aT 165)::("DocumentEndEvent",442,aT 185)::("AliasEvent",458,aT 197)::("ScalarEvent",495,aT 217)::("SequenceStartEvent",511,aT 229)::("SequenceEndEvent",527,aT 241)::("MappingStartEvent",543,aT 253)::("MappingEndEvent",559,aT 265)::("EmitterError",577,aT 277)::("ScalarAnalysis",620,aT 296)::("Emitter",1271,aT 736)::("Rows",1314,aT 771)::("_law_HEADS",1322,aT 782)::("_law_SIGNS",1328,aT 789)::("_law_STYLES",1334,aT 796)::("_law_PAIRS",1340,aT 803)::("_law_TAGS",1346,aT 810)::("_law_HANDLES",1356,aT 813)::("_law_draw",1363,aT 820)::("_law_value",1372,aT 827)::("_law_node",1389,aT 834)::("law",1395,aT 839)::[]
abbrev oL(P:i9)(n:Nat)(m:Value):Obj:=pS P (n+1) (("__name__",165,m)::Uj.take n)
noncomputable def pT:List (Int×Nat):=[(1,20),(5,27),(8,40),(16,69),(22,89),(31,109),(33,121),(39,141),(41,153),(49,173),(55,193),(57,205),(67,225),(69,237),(71,249),(73,261),(76,273),(78,285),(89,306),(963,746),(974,781),(976,788),(978,795),(980,802),(982,809),(985,819),(987,826),(995,833),(1026,838)]
def K1(P:i9):BT:=mL (T_ P) T' []<|bJ []::bB []::KV "<module>" 182 1 0 11 false::KW 13 3 (cb "__main__" 164)::[]
noncomputable def K2:Nat:=15
noncomputable def K3:Nat:=187
def K4(P:i9):BT:=mL (K1 P) K2 [(2,xg (.dict [az P "type.__subclasses__.Exception.0" 212 (gE 31 0),az P "type.__subclasses__.Exception.n" 213 (gE 1 0)].toArray 2)),(3,oL P 13 (cb "yaml.events" 216)),(12,bB (oJ 0 (pT.take 5)))]<|(mN (bg 0) "" cu (cb "__main__" 164) 187 15 1 1 ["k"]<|(g_ P 1 0 (cb "yaml.error" 194) "YAMLError" "Exception.__new__" 5 [du "Exception"] [du "Exception",du "BaseException",du "object"] [] 22 198 [] []<|(g_ P 2 4 (cb "yaml.events" 216) "Event" "object.__new__" 8 [du "object"] [du "object"] [aT 81] 35 220 [.inl (10,3,[cu,cu],["self","start_mark","end_mark"]),.inl (14,1,[],["self"])] ["end_mark","start_mark"]<|(g_ P 0 5 (cb "yaml.events" 216) "NodeEvent" "object.__new__" 16 [aT 59] [aT 59,du "object"] [aT 101] 64 258 [.inl (18,4,[cu,cu],["self","anchor","start_mark","end_mark"])] ["anchor","end_mark","start_mark"]<|(g_ P 0 6 (cb "yaml.events" 216) "CollectionStartEvent" "object.__new__" 22 [aT 81] [aT 81,aT 59,du "object"] [] 84 287 [.inl (24,7,[cu,cu,cu],["self","anchor","tag","implicit","start_mark","end_mark","flow_style"])] ["anchor","end_mark","flow_style","implicit","start_mark","tag"]<|[])))))
noncomputable def K5:Nat:=104
noncomputable def Uk:Nat:=320
def K6(P:i9):BT:=mL (K4 P) K5 [(3,oL P 18 (cb "yaml.events" 216)),(12,bB (oJ 0 (pT.take 10))),(59,oK "Event" [du "object"] [aT 59,du "object"] 58 [aT 81,aT 113,aT 133,aT 145,aT 165,aT 185] (au (aT 35)) 218 226 "object.__new__")]<|(g_ P 0 0 (cb "yaml.events" 216) "CollectionEndEvent" "object.__new__" 31 [aT 59] [aT 59,du "object"] [] 104 322 [] []<|(g_ P 0 8 (cb "yaml.events" 216) "StreamStartEvent" "object.__new__" 33 [aT 59] [aT 59,du "object"] [] 116 338 [.inl (35,4,[cu,cu,cu],["self","start_mark","end_mark","encoding"])] ["encoding","end_mark","start_mark"]<|(g_ P 0 0 (cb "yaml.events" 216) "StreamEndEvent" "object.__new__" 39 [aT 59] [aT 59,du "object"] [] 136 367 [] []<|(g_ P 0 10 (cb "yaml.events" 216) "DocumentStartEvent" "object.__new__" 41 [aT 59] [aT 59,du "object"] [] 148 383 [.inl (43,6,[cu,cu,cu,cu,cu],["self","start_mark","end_mark","explicit","version","tags"])] ["end_mark","explicit","start_mark","tags","version"]<|(g_ P 0 11 (cb "yaml.events" 216) "DocumentEndEvent" "object.__new__" 49 [aT 59] [aT 59,du "object"] [] 168 416 [.inl (51,4,[cu,cu,cu],["self","start_mark","end_mark","explicit"])] ["end_mark","explicit","start_mark"]<|[])))))
noncomputable def K7:Nat:=188
noncomputable def fy:Nat:=443
def K8(P:i9):BT:=mL (K6 P) K7 [(3,oL P 22 (cb "yaml.events" 216)),(12,bB (oJ 0 (pT.take 14))),(81,oK "NodeEvent" [aT 59] [aT 81,aT 59,du "object"] 80 [aT 101,aT 197,aT 217] (au (aT 64)) 256 264 "object.__new__"),(101,oK "CollectionStartEvent" [aT 81] [aT 101,aT 81,aT 59,du "object"] 100 [aT 229] (au (aT 84)) 285 293 "object.__new__"),(113,oK "CollectionEndEvent" [aT 59] [aT 113,aT 59,du "object"] 112 [aT 241] (au (aT 104)) 320 328 "object.__new__")]<|(g_ P 0 0 (cb "yaml.events" 216) "AliasEvent" "object.__new__" 55 [aT 81] [aT 81,aT 59,du "object"] [] 188 445 [] []<|(g_ P 0 13 (cb "yaml.events" 216) "ScalarEvent" "object.__new__" 57 [aT 81] [aT 81,aT 59,du "object"] [] 200 461 [.inl (59,8,[cu,cu,cu],["self","anchor","tag","implicit","value","start_mark","end_mark","style"])] ["anchor","end_mark","implicit","start_mark","style","tag","value"]<|(g_ P 0 0 (cb "yaml.events" 216) "SequenceStartEvent" "object.__new__" 67 [aT 101] [aT 101,aT 81,aT 59,du "object"] [] 220 498 [] []<|(g_ P 0 0 (cb "yaml.events" 216) "SequenceEndEvent" "object.__new__" 69 [aT 113] [aT 113,aT 59,du "object"] [] 232 514 [] []<|[]))))
noncomputable def K9:Nat:=244
noncomputable def sG:Nat:=528
def K_(P:i9):BT:=mL (K8 P) K9 [(3,oL P 26 (cb "yaml.emitter" 560)),(12,bB (oJ 0 (pT.take 18))),(31,oK "YAMLError" [du "Exception"] [aT 31,du "Exception",du "BaseException",du "object"] 30 [aT 277] (au (aT 22)) 196 204 "Exception.__new__"),(101,oK "CollectionStartEvent" [aT 81] [aT 101,aT 81,aT 59,du "object"] 100 [aT 229,aT 253] (au (aT 84)) 285 293 "object.__new__"),(113,oK "CollectionEndEvent" [aT 59] [aT 113,aT 59,du "object"] 112 [aT 241,aT 265] (au (aT 104)) 320 328 "object.__new__")]<|(g_ P 0 0 (cb "yaml.events" 216) "MappingStartEvent" "object.__new__" 71 [aT 101] [aT 101,aT 81,aT 59,du "object"] [] 244 530 [] []<|(g_ P 0 0 (cb "yaml.events" 216) "MappingEndEvent" "object.__new__" 73 [aT 113] [aT 113,aT 59,du "object"] [] 256 546 [] []<|(g_ P 0 0 (cb "yaml.emitter" 560) "EmitterError" "Exception.__new__" 76 [aT 31] [aT 31,du "Exception",du "BaseException",du "object"] [] 268 564 [] []<|(g_ P 2 20 (cb "yaml.emitter" 560) "ScalarAnalysis" "object.__new__" 78 [] [du "object"] [] 280 580 [.inl (80,9,[],["self","scalar","empty","multiline","allow_flow_plain","allow_block_plain","allow_single_quoted","allow_double_quoted","allow_block"])] ["allow_block","allow_block_plain","allow_double_quoted","allow_flow_plain","allow_single_quoted","empty","multiline","scalar"]<|[]))))
noncomputable def K':Nat:=301
noncomputable def Ul:Nat:=621
def La(P:i9):BT:=mL (K_ P) K' [(3,oL P 27 (cb "yaml.emitter" 560)),(12,bB (oJ 0 (pT.take 19)))]<|(g_ P 2 21 (cb "yaml.emitter" 560) "Emitter" "object.__new__" 89 [] [du "object"] [] 301 623 [.inr ("DEFAULT_TAG_PREFIXES",7,pS P 2 [("!",633,cb "!" 634),("tag:yaml.org,2002:",635,cb "!!" 636)]),.inl (92,7,[cu,cu,cu,cu,cu],["self","stream","canonical","indent","width","allow_unicode","line_break"]),.inl (128,1,[],["self"]),.inl (131,2,[],["self","event"]),.inl (138,1,[],["self","event"]),.inl (151,2,[],["self","count","level","event"]),.inl (164,3,[iM false,iM false],["self","flow","indentless"]),.inl (174,1,[],["self"]),.inl (181,1,[],["self"]),.inl (184,1,[],["self"]),.inl (187,2,[iM false],["self","first","version_text","handles","handle","prefix","handle_text","prefix_text","implicit"]),.inl (220,1,[],["self"]),.inl (231,1,[],["self"]),.inl (235,5,[iM false,iM false,iM false,iM false],["self","root","sequence","mapping","simple_key"]),.inl (260,1,[],["self"]),.inl (266,1,[],["self"]),.inl (272,1,[],["self"]),.inl (278,1,[],["self"]),.inl (290,1,[],["self"]),.inl (306,1,[],["self"]),.inl (312,1,[],["self"]),.inl (329,1,[],["self"]),.inl (350,1,[],["self"]),.inl (355,1,[],["self"]),.inl (362,1,[],["self","indentless"]),.inl (367,1,[],["self"]),.inl (370,2,[iM false],["self","first"]),.inl (380,1,[],["self"]),.inl (384,1,[],["self"]),.inl (387,2,[iM false],["self","first"]),.inl (401,1,[],["self"]),.inl (406,1,[],["self"]),.inl (412,1,[],["self"]),.inl (415,1,[],["self"]),.inl (418,1,[],["self","event"]),.inl (424,1,[],["self","length"]),.inl (440,2,[],["self","indicator"]),.inl (450,1,[],["self","tag"]),.inl (472,1,[],["self"]),.inl (488,1,[],["self","split"]),.inl (507,2,[],["self","version","major","minor"]),.inl (513,2,[],["self","handle","ch"]),.inl (523,2,[],["self","prefix","chunks","start","end","ch","data"]),.inl (545,2,[],["self","tag","handle","suffix","prefixes","prefix","chunks","start","end","ch","data","suffix_text"]),.inl (578,2,[],["self","anchor","ch"]),.inl (586,2,[],["self","scalar","block_indicators","flow_indicators","line_breaks","special_characters","leading_space","leading_break","trailing_space","trailing_break","break_space","space_break","preceded_by_whitespace","followed_by_whitespace","previous_space","previous_break","index","ch","unicode_characters","allow_flow_plain","allow_block_plain","allow_single_quoted","allow_double_quoted","allow_block"]),.inl (684,1,[],["self"]),.inl (687,1,[],["self"]),.inl (690,1,[],["self"]),.inl (693,5,[iM false,iM false],["self","indicator","need_whitespace","whitespace","indention","data"]),.inl (704,1,[],["self","indent","data"]),.inl (714,2,[cu],["self","data"]),.inl (723,2,[],["self","version_text","data"]),.inl (728,3,[],["self","handle_text","prefix_text","data"]),.inl (733,3,[iM true],["self","text","split","spaces","breaks","start","end","ch","data","br"]),.inr ("ESCAPE_REPLACEMENTS",46,pS P 15 [("\x00",1120,cb "0" 1121),("\x07",1122,cb "a" 1123),("\x08",1124,cb "b" 1125),("\t",1126,cb "t" 1127),("\n",1128,cb "n" 1129),("\x0b",1130,cb "v" 1131),("\x0c",1132,cb "f" 1133),("\r",1134,cb "r" 1135),("\x1b",1136,cb "e" 1137),("\"",1138,cb "\"" 1139),("\\",1140,cb "\\" 1141),("\u0085",1142,cb "N" 1143),("\u00a0",1144,cb "_" 1145),("\u2028",1146,cb "L" 1147),("\u2029",1148,cb "P" 1149)]),.inl (780,3,[iM true],["self","text","split","start","end","ch","data"]),.inl (821,2,[],["self","text","hints"]),.inl (832,2,[],["self","text","hints","leading_space","spaces","breaks","start","end","ch","br","data"]),.inl (880,2,[],["self","text","hints","breaks","start","end","ch","br","data"]),.inl (912,3,[iM true],["self","text","split","data","spaces","breaks","start","end","ch","br"])] ["allow_unicode","analysis","best_indent","best_line_break","best_width","canonical","column","encoding","event","events","flow_level","indent","indention","indents","line","mapping_context","open_ended","prepared_anchor","prepared_tag","root_context","sequence_context","simple_key_context","state","states","stream","style","tag_prefixes","whitespace"]<|[])
noncomputable def Lb:Nat:=741
noncomputable def Um:Nat:=1272
def Lc(P:i9):BT:=mL (La P) Lb [(3,oL P 33 (cb "law_qm0001_01" 1315)),(12,bB (oJ 0 (pT.take 25)))]<|(g_ P 2 22 (cb "yaml.emitter" 560) "Rows" "object.__new__" 963 [] [du "object"] [] 741 1274 [.inl (965,1,[],["self"]),.inl (968,2,[],["self","data"]),.inl (971,1,[],["self"])] ["rows"]<|(mN (bg 24) "" cu (cb "law_qm0001_01" 1315) 1317 776 974 0 []<|(mN (bg 25) "" cu (cb "law_qm0001_01" 1315) 1323 783 976 0 []<|(mN (bg 26) "" cu (cb "law_qm0001_01" 1315) 1329 790 978 0 []<|(mN (bg 27) "" cu (cb "law_qm0001_01" 1315) 1335 797 980 0 []<|(mN (bg 28) "" cu (cb "law_qm0001_01" 1315) 1341 804 982 0 []<|[]))))))
noncomputable def Ld:Nat:=811
noncomputable def Un:Nat:=1347
def Le(P:i9):BT:=mL (Lc P) Ld [(3,oL P 34 (cb "law_qm0001_01" 1315))]<|pS P 1 [("!e!",1347,cb "t:" 1348)]::pS P 2 [("!!",1350,cb "t:" 1351),("!",1352,cb "tag:" 1353)]::lJ "list" (.seq [cu,aT 811,aT 812].toArray 0)::[]
noncomputable def Lf:Nat:=814
noncomputable def Uo:Nat:=1357
def KA(P:i9):Obj:=lJ "code" (.fields [(cb "law" 1390),(cb "law" 1391),(cb "/claim/cut.py" 1392),(gE 1026 0),(gE 1 0),(gE 0 0),(gE 0 0),(gE 3 0),(aT 835),(iM true),(gE 181 0),(aT 836),cu,cu,cu,(aT 837),(gE 1393 0),(gE 1026 0),(cb "/claim/cut.py" 1394)].toArray)
def Lg(P:i9):BT:=mL (Le P) Lf [(3,oL P 38 (cb "law_qm0001_01" 1315)),(12,bB (oJ 0 (pT.take 29)))]<|(mN (bg 30) "" cu (cb "law_qm0001_01" 1315) 1357 814 985 1 ["tape"]<|(mN (bg 31) "" cu (cb "law_qm0001_01" 1315) 1364 821 987 1 ["n","value","_"]<|(mN (bg 32) "" cu (cb "law_qm0001_01" 1315) 1373 828 995 3 ["tape","deep","events","a","anchor","b","tag","pair","many","silent","i"]<|bJ []::bB []::xg (T7 (bg 33) "law")::KA P::lJ "function" (cy (bg 33) "law" cu cu cu (cb "law_qm0001_01" 1315) none (aT 838) cu)::[])))
noncomputable def Lh:Nat:=840
noncomputable def Li:Nat:=1396
def Lj:List Stmt:=[bg 0,bg 1,bg 2,bg 3,bg 4,bg 5,bg 6]
noncomputable abbrev wr:Pos:=⟨22,0,30,36⟩
def Lk:List Stmt:=[bg 7,bg 8,bg 9,bg 10,bg 11]
noncomputable abbrev wu:Pos:=⟨49,0,54,32⟩
def Ll:List Stmt:=[bg 12,bg 13,bg 14,bg 15]
noncomputable abbrev Lm:Pos:=⟨69,0,70,8⟩
def Ln:List Stmt:=[bg 16,bg 17,bg 18,bg 19,bg 20]
noncomputable abbrev ud:Pos:=⟨78,0,88,38⟩
def ue:List Stmt:=[bg 21]
noncomputable abbrev uf:Pos:=⟨89,0,962,20⟩
def Lo:List Stmt:=[bg 22,bg 23,bg 24,bg 25,bg 26,bg 27,bg 28]
noncomputable abbrev ug:Pos:=⟨982,0,983,63⟩
def uh:List Stmt:=[bg 29]
noncomputable abbrev ui:Pos:=⟨984,0,984,12⟩
def Lp:List Stmt:=[bg 30,bg 31,bg 32,bg 33]
noncomputable abbrev Lq:Pos:=⟨1026,0,1070,45⟩
noncomputable abbrev Lr:Pos:=⟨0,0,0,0⟩
noncomputable abbrev jR:Pos:=⟨0,0,0,0⟩
noncomputable abbrev iN:Pos:=⟨0,0,0,0⟩
def Ls:List Stmt:=Lj++(Lk++(Ll++(Ln++(ue++(Lo++(uh++(Lp++[])))))))
def bA:Env:={scope:=cx.main.scope,locals:=mainNs,globals:=mainNs,cells:=[],code:=(aT 13),frame:=au 14}
def dP:Code:=.body Ls bA
abbrev gF:Option Value:=(au (aT 6))
def BF(w:i3)(os:ie):SharedT:=⟨K1 w.params,K2,(i6 w.params).life,j7 [],iy,K3,os⟩
def Lu(w:i3)(os:ie):SharedT:=⟨K4 w.params,K5,(i6 w.params).life,j7 [],iy,Uk,os⟩
def Lv(w:i3)(os:ie):SharedT:=⟨K6 w.params,K7,(i6 w.params).life,j7 [],iy,fy,os⟩
def Lw(w:i3)(os:ie):SharedT:=⟨K8 w.params,K9,(i6 w.params).life,j7 [],iy,sG,os⟩
def uj(w:i3)(os:ie):SharedT:=⟨K_ w.params,K',(i6 w.params).life,j7 [],iy,Ul,os⟩
def uk(w:i3)(os:ie):SharedT:=⟨La w.params,Lb,(i6 w.params).life,j7 [],iy,Um,os⟩
def ul(w:i3)(os:ie):SharedT:=⟨Lc w.params,Ld,(i6 w.params).life,j7 [],iy,Un,os⟩
def um(w:i3)(os:ie):SharedT:=⟨Le w.params,Lf,(i6 w.params).life,j7 [],iy,Uo,os⟩
def uo(w:i3)(os:ie):SharedT:=⟨Lg w.params,Lh,(i6 w.params).life,j7 [],iy,Li,os⟩
def Lx(w:i3)(os:ie):Shared:=⟨(BF w os).abs.heap,j7 [],iy,K3,os⟩
theorem bE(w:i3)(os:ie):topGo iv cx w 11 gF 12 ⟨i6 w.params,j7 [],iy,D1,os⟩ (topStub cx)=au (Lx w os,⟨denote iv dP,dP,jR,[topFrame iN]⟩):=by kernel_rfl
theorem Up(w:i3)(os:ie):segRun iv cx w 11 gF 1 1 (Lx w os) (blockOf Ls bA dP jR [topFrame iN])=au (.next,(BF w os).abs,dP,Lr):=by kernel_rfl
theorem nK(w:i3)(os:ie):segRunT iv cx w 11 gF 1 1024 (BF w os) (piecesOf Lj bA dP Lr [topFrame iN])=au (.next,Lu w os,dP,wr):=mM (by kernel_rfl)
theorem Uq(w:i3)(os:ie):segRunT iv cx w 11 gF 1 1181 (Lu w os) (piecesOf Lk bA dP wr [topFrame iN])=au (.next,Lv w os,dP,wu):=mM (by kernel_rfl)
theorem Ur(w:i3)(os:ie):segRunT iv cx w 11 gF 1 968 (Lv w os) (piecesOf Ll bA dP wu [topFrame iN])=au (.next,Lw w os,dP,Lm):=mM (by kernel_rfl)
theorem Us(w:i3)(os:ie):segRunT iv cx w 11 gF 1 927 (Lw w os) (piecesOf Ln bA dP Lm [topFrame iN])=au (.next,uj w os,dP,ud):=mM (by kernel_rfl)
theorem Ut(w:i3)(os:ie):segRunT iv cx (w.withFollow "special-get-raises" false) 11 gF 1 2474 (uj (w.withFollow "special-get-raises" false) os) (piecesOf ue bA dP ud [topFrame iN])=au (.next,uk (w.withFollow "special-get-raises" false) os,dP,uf):=mM (by kernel_rfl)
theorem Uu(w:i3)(os:ie):segRunT iv cx (w.withFollow "special-get-raises" true) 11 gF 1 2474 (uj (w.withFollow "special-get-raises" true) os) (piecesOf ue bA dP ud [topFrame iN])=au (.next,uk (w.withFollow "special-get-raises" true) os,dP,uf):=mM (by kernel_rfl)
theorem Uv(w:i3)(os:ie):segRunT iv cx w 11 gF 1 2474 (uj w os) (piecesOf ue bA dP ud [topFrame iN])=au (.next,uk w os,dP,uf):=byRow2 "special-get-raises" (P:=λw=>∀os,segRunT iv cx w 11 gF 1 2474 (uj w os) (piecesOf ue bA dP ud [topFrame iN])=au (.next,uk w os,dP,uf)) Ut Uu w os
theorem Uw(w:i3)(os:ie):segRunT iv cx w 11 gF 1 434 (uk w os) (piecesOf Lo bA dP uf [topFrame iN])=au (.next,ul w os,dP,ug):=mM (by kernel_rfl)
theorem Ux(w:i3)(os:ie):segRunT iv cx (w.withFollow "special-get-raises" false) 11 gF 1 60 (ul (w.withFollow "special-get-raises" false) os) (piecesOf uh bA dP ug [topFrame iN])=au (.next,um (w.withFollow "special-get-raises" false) os,dP,ui):=mM (by kernel_rfl)
theorem Uy(w:i3)(os:ie):segRunT iv cx (w.withFollow "special-get-raises" true) 11 gF 1 60 (ul (w.withFollow "special-get-raises" true) os) (piecesOf uh bA dP ug [topFrame iN])=au (.next,um (w.withFollow "special-get-raises" true) os,dP,ui):=mM (by kernel_rfl)
theorem Uz(w:i3)(os:ie):segRunT iv cx w 11 gF 1 60 (ul w os) (piecesOf uh bA dP ug [topFrame iN])=au (.next,um w os,dP,ui):=byRow2 "special-get-raises" (P:=λw=>∀os,segRunT iv cx w 11 gF 1 60 (ul w os) (piecesOf uh bA dP ug [topFrame iN])=au (.next,um w os,dP,ui)) Ux Uy w os
theorem UA(w:i3)(os:ie):segRunT iv cx w 11 gF 1 126 (um w os) (piecesOf Lp bA dP ui [topFrame iN])=au (.next,uo w os,dP,Lq):=mM (by kernel_rfl)
theorem UB(w:i3)(os:ie):topRun iv cx w 11 gF 2 (uo w os).abs ⟨doneF .next,dP,Lq,[topFrame iN]⟩=au (uo w os).abs:=by kernel_rfl
theorem bD(w:i3)(os:ie):topRun iv cx w 11 gF (12+(1+(1024+(1181+(968+(927+(2474+(434+(60+(126+2)))))))))) ⟨i6 w.params,j7 [],iy,D1,os⟩ (topStub cx)=au (uo w os).abs:=go_top (bE w os) (piece_block (Up w os) (rs (rz (nK w os)) (rs (rz (Uq w os)) (rs (rz (Ur w os)) (rs (rz (Us w os)) (rs (rz (Uv w os)) (rs (rz (Uw w os)) (rs (rz (Uz w os)) (rs (rz (UA w os)) (piece_nil (UB w os)))))))))))
def nH:Program:=view cx [33]
noncomputable def pO:List Str:=[a' "_wall",a' "YAMLError",a' "Event",a' "NodeEvent",a' "CollectionStartEvent",a' "CollectionEndEvent",a' "StreamStartEvent",a' "StreamEndEvent",a' "DocumentStartEvent",a' "DocumentEndEvent",a' "AliasEvent",a' "ScalarEvent",a' "SequenceStartEvent",a' "SequenceEndEvent",a' "MappingStartEvent",a' "MappingEndEvent",a' "EmitterError",a' "ScalarAnalysis",a' "Emitter",a' "Rows",a' "_law_HEADS",a' "_law_SIGNS",a' "_law_STYLES",a' "_law_PAIRS",a' "_law_TAGS",a' "_law_HANDLES",a' "_law_draw",a' "_law_value",a' "_law_node"]
noncomputable def uq:Nat:=14498
abbrev Za:=uo
abbrev KB:Nat:=Lh
abbrev tY:=Lg
noncomputable abbrev BG:Nat:=11
noncomputable abbrev Ly:Nat:=(12+(1+(1024+(1181+(968+(927+(2474+(434+(60+(126+2))))))))))
def iT(P:i9):List (Addr×Obj):=(n9 840).map λa=>(a,((tY P).get a).getD (boot_o_0 P))
abbrev xh:Nat:=Li
noncomputable abbrev UC:Nat:=33
noncomputable abbrev kf:OpenLaw:=PySem.Challenge.rw_qm0001_01
theorem pU{a b:Bool}(x:a=true)(y:b=true):and a b=true:=by rw[x,y];rfl
theorem UD:PySem.W.Fast.tw8377067652309620493 cx=true:=by kernel_rfl
theorem UE:PySem.W.Fast.tw8326940854005059898 {strict:=false,foot:=none,bare:=[]} cx.main.body=true:=by kernel_rfl
theorem UF:PySem.W.Fast.tw17119622794617984870 cx cx.main.body (λ_ n=>PySem.W.Fast.tw17868728402115742887 n)=true:=by kernel_rfl
theorem UG:kf.wellSaid=true:=by
 rw[PySem.W.Fast.te9446332074065402090];delta PySem.W.Fast.tw9446332074065402090 PySem.W.Fast.tw17960256430627541270 PySem.W.Fast.tw2436336058641802641 PySem.W.Fast.tw12908688711261696721
 repeat' (with_reducible refine pU ?_ ?_)
 ·kernel_rfl
 ·kernel_rfl
 ·refine Eq.trans (congrArg PySem.W.Fast.tw8377067652309620493 ?_) UD;kernel_rfl
 ·kernel_rfl
 ·refine Eq.trans (congr (congrArg PySem.W.Fast.tw8326940854005059898 ?_) ?_) UE<;>kernel_rfl
 ·refine Eq.trans (congr (congr (congrArg PySem.W.Fast.tw17119622794617984870 ?_) ?_) rfl) UF<;>kernel_rfl
 all_goals kernel_rfl
theorem UH:∀w:i3,(fencedOpening iv cx w uq).map (λs=>(s.heap,s.gens,s.drawn,s.toks))=au (i6 w.params,j7 [],iy,D1):=boot_open (p:=cx) (N:=uq) (by kernel_rfl) (by kernel_rfl) (λs=>by kernel_rfl)
theorem UI(w:i3):((i6 w.params).isNs mainGlobals&&(j7 ([]:List GenState)).size==0,(i6 w.params).objs.size,(i6 w.params).nsMap mainGlobals "__annotations__")=(true,BG,gF):=by kernel_rfl
def jo(P:i9):Heap:=absHeap (tY P) KB (i6 P).life
noncomputable abbrev xi:Shared->Bool:=λs=>recOk (RowW.records (kf.row.toRowW)) s
theorem UJ(w:i3)(os:ie):(staticsOk (importedModules cx.main.body) (i6 w.params) (jo w.params)&&namesBound cx (jo w.params)&&gensDone ⟨jo w.params,j7 [],iy,xh,os⟩&&laidKept (i6 w.params) (jo w.params))=true:=by kernel_rfl
theorem UK(w:i3)(os:ie):openSeen nH pO (importedModules cx.main.body) xi true ⟨jo w.params,j7 [],iy,xh,os⟩=openGood nH pO:=by rw[PySem.W.Fast.te4187177175401517315];kernel_rfl
theorem UL(w:i3)(os:ie):topRun iv cx w BG gF Ly ⟨i6 w.params,j7 [],iy,D1,os⟩ (topStub cx)=au ⟨jo w.params,j7 [],iy,xh,os⟩:=(bD w os).trans (by kernel_rfl)
theorem fI:LeftO cx nH pO xi (λs=>s.heap) (λw=>jo w.params) uq true:=
 LeftO.of_pieces (p:=cx) (q:=nH) (loose:=pO) (Xt:=xi) (Yf:=λs=>s.heap) (Ya:=λw=>jo w.params) (N:=uq) (g0:=true) (H₀:=i6) (H₁:=jo) (gs₀:=j7 []) (gs₁:=j7 []) (d₀:=iy) (d₁:=iy) (k₀:=D1) (k₁:=xh) (m₀:=BG) (ann:=gF) (M:=Ly)
  UH UI UL (by kernel_rfl) λw=>funext λo=>looks_pair (UJ w o) (looks_pair (UK w o) rfl)
def ke:DefRec:=match bg UC with
 | .FunctionDef n a b _ _ _ s _ _ q=>⟨n,a,b,s,q⟩|_=>⟨tl,default,[],default,default⟩
def Bv(w:i3)(h:Heap):Prop:=∀a o,(jo w.params).get? a=au o->h.get? a=au o
theorem UM:defOf nH kf.row.name=au (ke,[]):=by kernel_rfl
theorem UN:kf.row.prog.theDef kf.row.name=au (ke.params,ke.body,ke.scope):=by kernel_rfl
theorem UO:(chainsOk nH&&opensWell kf.row.prog&&(frees kf.row.toRowW&&kf.row.within.isEmpty))=true:=by kernel_rfl
theorem UP:kf.row.prog.tablesWhole=true:=by kernel_rfl
theorem bz(W:WalkO nH pO (λ_ _=>True) Bv kf.row.toRowW ke [] λf vs=>a0a f vs):kf.Holds:=
 holds_law UG λK=>holds_open (r:=kf.row) (q:=nH) (loose:=pO) (Xt:=xi) (XP:=λ_ _=>True) (Yf:=λs=>s.heap) (Ya:=λw=>jo w.params) (YP:=Bv) (d:=ke) (kwd:=[]) (N:=uq)
  fI (λw s e a o x=>by rw[e];exact x) (λw h H y k a o e=>k _ _ (y a o e)) (λ_ _=>trivial) (λ_ _ _ _ _=>trivial) UM UN (by kernel_rfl) (λs e=>recFacts_of e) (by kernel_rfl) K UO
  ⟨rfl,rfl,rfl,rfl,rfl,UP⟩ ⟨[.list []],by decide+kernel,by decide+kernel⟩ W
end Hd
namespace L1
noncomputable def nW:List String:=["append","pop","extend","join","startswith","encode","keys","copy","k","self","start_mark","end_mark","anchor","tag","implicit","flow_style","encoding","explicit","version","tags","value","style","scalar","empty","multiline","allow_flow_plain","allow_block_plain","allow_single_quoted","allow_double_quoted","allow_block","stream","canonical","indent","width","allow_unicode","line_break","analysis","prepared_tag","prepared_anchor","tag_prefixes","best_line_break","best_indent","best_width","open_ended","indention","whitespace","column","line","simple_key_context","mapping_context","sequence_context","root_context","flow_level","indents","event","events","state","expect_stream_start","states","_wall","need_more_events","DocumentStartEvent","isinstance","need_events","SequenceStartEvent","MappingStartEvent","count","len","level","CollectionStartEvent","CollectionEndEvent","DocumentEndEvent","StreamEndEvent","flow","indentless","StreamStartEvent","expect_first_document_start","write_stream_start","first","expect_document_start","expect_document_root","write_indent","write_indicator","check_empty_document","handle","handles","prefix_text","handle_text","write_tag_directive","prefix","prepare_tag_prefix","prepare_tag_handle","sorted","DEFAULT_TAG_PREFIXES","version_text","write_version_directive","prepare_version","expect_nothing","write_stream_end","flush_stream","root","expect_node","expect_document_end","sequence","mapping","simple_key","AliasEvent","expect_alias","ScalarEvent","expect_scalar","check_empty_sequence","expect_flow_sequence","expect_block_sequence","check_empty_mapping","expect_flow_mapping","expect_block_mapping","process_tag","process_anchor","process_scalar","increase_indent","expect_first_flow_sequence_item","SequenceEndEvent","expect_flow_sequence_item","expect_first_flow_mapping_key","MappingEndEvent","check_simple_key","expect_flow_mapping_simple_value","expect_flow_mapping_value","expect_flow_mapping_key","expect_first_block_sequence_item","expect_block_sequence_item","expect_first_block_mapping_key","expect_block_mapping_key","expect_block_mapping_simple_value","expect_block_mapping_value","length","analyze_scalar","prepare_tag","NodeEvent","prepare_anchor","indicator","choose_scalar_style","split","write_double_quoted","write_single_quoted","write_folded","write_literal","write_plain","minor","major","ch","chunks","end","start","data","ord","suffix_text","suffix","prefixes","line_breaks","ScalarAnalysis","block_indicators","flow_indicators","space_break","special_characters","break_space","trailing_space","leading_space","leading_break","trailing_break","index","followed_by_whitespace","preceded_by_whitespace","previous_break","previous_space","unicode_characters","need_whitespace","write","write_line_break","text","breaks","spaces","br","ESCAPE_REPLACEMENTS","hints","str","determine_block_hints","rows","tape","n","_","range","_law_SIGNS","_law_HEADS","deep","a","i","many","_law_node","silent","b","_law_TAGS","_law_draw","_law_value","pair","_law_STYLES","_law_PAIRS","script","done","tail","whole","emit","d","shut","head","mark","max","alone","fresh","_law_HANDLES","Rows","newline","o","p","Emitter","dispose"]
noncomputable abbrev cF:aq:=.d 9
noncomputable abbrev xY(a b:aq)(c:ag):ag:=.d (.i a b) c
abbrev aM(a:Nat):aq:=.w cF a
noncomputable abbrev iC(a:aq)(b c d:ag):ag:=.d (.B a b c) d
abbrev be(a:Nat)(b:aq)(c:ag):ag:=xY (.d a) b c
noncomputable abbrev sA(a:aq)(b:ag):ag:=.d (.l a) b
abbrev fC(a:aq)(b:Nat)(c d:aq)(e:ag):ag:=sA (.E a b c d) e
noncomputable abbrev cc(a:aq):aq:=.p a .j
noncomputable abbrev bt:aq:=.l true
abbrev cj(a:Nat)(b:aq)(c:ag):ag:=xY (aM a) b c
noncomputable abbrev cv(a:r7)(b:Nat)(c:aq):aq:=.y a (.d b) c
abbrev cI(a b:aq):aq:=.p a (cc b)
noncomputable abbrev lV(a:Nat)(b c:aq):aq:=.z (.G a) b c
noncomputable abbrev bX:aq:=.l false
abbrev bl(a:aq)(b c:ag):ag:=iC a b .j c
noncomputable abbrev b_:aq:=.d 152
abbrev fY(a:aq)(b:Nat)(c:aq)(d:ag):ag:=fC a b c .j d
abbrev h_(a:Nat):aq:=cc (.d a)
noncomputable abbrev qk(a:Str)(b:aq):aq:=.p (.e a) b
abbrev eO(a:Nat)(b:aq):aq:=lV a b .j
noncomputable abbrev jN:aq:=.e "\n\u0085\u2028\u2029"
abbrev fD:aq:=aM 54
noncomputable abbrev cW(a:ag):ag:=.d a .j
noncomputable abbrev ft(a:l9)(b:aq)(c:Int):aq:=.H a b (.q c)
abbrev dw(a:Nat)(b:aq)(c:ag):ag:=fY cF a b c
abbrev ew(a:r7)(b:aq):aq:=cv a 150 b
abbrev cQ(a:aq):ag:=cW (.f a)
abbrev kR(a b:Nat):aq:=eO a (h_ b)
noncomputable abbrev dX:aq:=.d 153
noncomputable abbrev cR:aq:=.q 1
abbrev dg(a b:Nat)(c:ag):ag:=cj a (.d b) c
noncomputable abbrev cZ:aq:=.q 0
noncomputable abbrev eP:aq:=.d 179
abbrev cr(a:Nat)(b:aq):ag:=be a b .j
noncomputable abbrev ff:aq:=.d 150
abbrev dY(a:Str)(b:aq):aq:=cI (.e a) b
noncomputable abbrev eA(a:aq)(b:Nat)(c:aq):aq:=.E a b c .j
abbrev qm(a:Nat)(b c:aq):aq:=eO a (cI b c)
abbrev dQ(a b:Nat)(c:aq)(d:ag):ag:=fY (aM a) b c d
abbrev ed(a:r7)(b:Str):aq:=ew a (.e b)
abbrev eB(a:l9)(b:Nat)(c:Int):aq:=ft a (.d b) c
abbrev ig(a:Nat)(b:ag):ag:=dw a .j b
abbrev eC(a b:Str)(c:aq):aq:=qk a (qk b c)
abbrev eQ(a:Nat)(b:aq)(c:Nat):aq:=qm a b (.G c)
abbrev fu:aq:=aM 46
abbrev db(a:aq)(b c:ag):ag:=iC a b c .j
abbrev gS:aq:=h_ 154
abbrev fw(a:Nat)(b:aq)(c:Nat)(d:aq)(e:ag):ag:=cj a (eA b c d) e
abbrev dH(a:Nat):aq:=kR 67 a
abbrev dM(a:Nat):aq:=.w fD a
abbrev dI(a:aq)(b:ag):ag:=bl a b .j
noncomputable abbrev dN(a:Nat)(b:aq):aq:=.I a b .j
abbrev dZ(a:Nat):ag:=ig a .j
def oX:ag:=dg 10 10 (dg 11 11 .j)
def xZ:ag:=dg 12 12 (dg 10 10 (dg 11 11 .j))
def sB:ag:=dg 12 12 (dg 13 13 (dg 14 14 (dg 10 10 (dg 11 11 (dg 15 15 .j)))))
def x_:ag:=dg 10 10 (dg 11 11 (dg 16 16 .j))
def yc:ag:=dg 10 10 (dg 11 11 (dg 17 17 (dg 18 18 (dg 19 19 .j))))
def yd:ag:=dg 10 10 (dg 11 11 (dg 17 17 .j))
def ye:ag:=dg 12 12 (dg 13 13 (dg 14 14 (dg 20 20 (dg 10 10 (dg 11 11 (dg 21 21 .j))))))
def uU:aq:=cv .In 35 (.u (qk "\r" (dY "\n" (.e "\r\n"))))
def yf:ag:=dg 40 35 .j
def Cw:ag:=bl uU yf (cj 39 .g (cj 38 .g (cj 37 .g (cj 36 .g (cj 21 .g .j)))))
def Cx:ag:=cj 40 (.e "\n") Cw
def uV:aq:=.C (.d 33) (cv .Gt 33 (ft .Mult (aM 41) 2))
def yg:ag:=dg 42 33 .j
def Cy:ag:=bl uV yg Cx
def Cz:ag:=cj 42 (.q 80) Cy
def qn:aq:=.C (.d 32) (.J .Lt .Lt cR (.d 32) (.q 10))
def uW:ag:=dg 41 32 .j
def yh:ag:=bl qn uW Cz
def yi:ag:=dg 30 30 (cj 16 .g (cj 58 (.u .j) (cj 56 (aM 57) (cj 55 (.u .j) (cj 54 .g (cj 53 (.u .j) (cj 32 .g (cj 52 cZ (cj 51 bX (cj 50 bX (cj 49 bX (cj 48 bX (cj 47 cZ (cj 46 cZ (cj 45 bt (cj 44 bt (cj 43 bX (dg 31 31 (dg 34 34 (cj 41 (.q 2) yh))))))))))))))))))))
def yj:ag:=yi
def uX:aq:=.n (eA cF 60 .j)
def yk:ag:=cj 54 .g .j
def uY:ag:=ig 56 yk
def uZ:ag:=fw 54 (aM 55) 1 (cc cZ) uY
def CA:ag:=cW (.k uX uZ)
def CB:ag:=dQ 55 0 (h_ 54) CA
def CC:ag:=db (eQ 62 (.d 54) 61) (cQ (eA cF 63 (cc cR))) (db (eQ 62 (.d 54) 64) (cQ (eA cF 63 (cc (.q 2)))) (db (eQ 62 (.d 54) 65) (cQ (eA cF 63 (cc (.q 3)))) (cQ bX)))
def CD:ag:=be 54 (.m (aM 55) cZ) CC
def yl:ag:=bl (.n (aM 55)) (cQ bt) CD
def CE:aq:=qm 62 (.d 54) (.D (cI (.G 61) (.G 69)))
def CF:ag:=cW (.h (.d 68) .Add cR)
def CG:ag:=db (qm 62 (.d 54) (.D (cI (.G 71) (.G 70)))) (cW (.h (.d 68) .Sub cR)) (dI (eQ 62 (.d 54) 72) (cr 68 (.M cR)))
def ym:ag:=iC CE CF CG (dI (cv .Lt 68 cZ) (cQ bX))
def CH:ag:=.d (.o (.d 54) (.K (aM 55) cR .g) ym) (cQ (.y .Lt (eO 67 (cc (aM 55))) (eB .Add 66 1)))
def CI:ag:=be 68 cZ CH
def CJ:ag:=dQ 53 0 (cc (aM 32)) (db (.y .Is (aM 32) .g) (db (.d 73) (cj 32 (aM 41) .j) (cj 32 cZ .j)) (dI (.n (.d 74)) (cW (.h (aM 32) .Add (aM 41)))))
def CK:ag:=cj 56 (aM 76) .j
def CL:ag:=db (eQ 62 fD 75) (ig 77 CK) (cW .n)
def CM:ag:=cQ (.E cF 79 .j (dN 78 bt))
noncomputable def yn:aq:=.n (.d 14)
def CN:aq:=aM 31
def CO:ag:=dI CN (dZ 81)
def CP:ag:=dw 82 (dY "---" bt) CO
def CQ:ag:=ig 81 CP
def CR:aq:=dM 19
def CS:ag:=dw 88 (cI (.d 87) (.d 86)) .j
def CT:ag:=be 86 (eA cF 90 (h_ 89)) CS
def CU:ag:=be 87 (eA cF 91 (h_ 84)) CT
def CV:ag:=xY (.m (aM 39) (.d 89)) (.d 84) CU
def CW:ag:=be 89 (.m (dM 19) (.d 84)) CV
def yo:ag:=cW (.o (.d 84) (.d 85) CW)
def CX:ag:=be 85 (eO 92 (cc (eA (dM 19) 6 .j))) yo
def CY:ag:=bl CR CX (be 14 (.C (.d 78) (.C (.n (dM 17)) (.C (.n (aM 31)) (.C (.n (dM 18)) (.C (.n (dM 19)) (.n (eA cF 83 .j))))))) (bl yn CQ (cj 56 (aM 80) .j)))
def yp:aq:=dM 18
def CZ:ag:=dw 95 (h_ 94) .j
def C1:ag:=be 94 (eA cF 96 (cc (dM 18))) CZ
def yq:aq:=.C (.A (dM 18) (dM 19)) (aM 43)
def C2:ag:=dw 82 (dY "..." bt) (dZ 81)
def C3:ag:=cj 56 (aM 97) .j
def C4:ag:=ig 98 C3
def yr:ag:=db (eQ 62 fD 61) (bl yq C2 (bl yp C1 (fw 39 (aM 93) 7 .j CY))) (db (eQ 62 fD 72) (bl (aM 43) (dw 82 (dY "..." bt) (dZ 81)) C4) (cW .n))
def C5:ag:=cj 56 (aM 79) .j
def C6:ag:=ig 99 C5
def C7:aq:=dM 17
def C8:ag:=bl C7 (dw 82 (dY "..." bt) (dZ 81)) C6
def C9:ag:=db (eQ 62 fD 71) (ig 81 C8) (cW .n)
def yt:ag:=dQ 58 0 (cc (aM 102)) (fC cF 101 .j (dN 100 bt) .j)
def C_:ag:=yt
def Da:aq:=.A (aM 52) (.A (aM 31) (.A (dM 15) (eA cF 110 .j)))
def Db:ag:=dZ 111
def Dc:ag:=dZ 112
def Dd:aq:=.A (aM 52) (.A (aM 31) (.A (dM 15) (eA cF 113 .j)))
def De:ag:=dZ 114
def Dg:ag:=dZ 115
def u_:ag:=db (eQ 62 fD 108) (dZ 109) (db (eQ 62 fD 64) (db Da Db Dc) (dI (eQ 62 fD 65) (db Dd De Dg)))
def vg:ag:=ig 116 u_
def qo:ag:=db (eQ 62 fD 106) (dZ 107) (db (qm 62 fD (.D (cI (.G 108) (.G 69)))) (dw 117 (cc (.e "&")) vg) (cW .n))
def Dh:ag:=dg 51 100 (dg 50 103 (dg 49 104 (dg 48 105 qo)))
def Di:ag:=fw 56 (aM 58) 1 .j .j
def Dj:ag:=bl (.y .Is (dM 12) .g) (cW .n) (dw 117 (cc (.e "*")) Di)
def Dk:ag:=fw 32 (aM 53) 1 .j (fw 56 (aM 58) 1 .j .j)
def Dl:ag:=ig 118 Dk
def Dm:ag:=fC cF 119 .j (dN 73 bt) Dl
def Dn:ag:=cj 56 (aM 120) .j
def Do:ag:=.d (.h (aM 52) .Add cR) (fC cF 119 .j (dN 73 bt) Dn)
def Dp:ag:=fC cF 82 (dY "[" bt) (dN 45 bt) Do
def Dq:ag:=fw 56 (aM 58) 1 .j .j
def Dr:ag:=fw 32 (aM 53) 1 .j (.d (.h (aM 52) .Sub cR) (dw 82 (dY "]" bX) Dq))
def Ds:ag:=dQ 58 0 (cc (aM 122)) (fC cF 101 .j (dN 103 bt) .j)
def Du:ag:=bl (.A (aM 31) (.y .Gt fu (aM 42))) (dZ 81) Ds
def yu:ag:=db (eQ 62 fD 121) Dr Du
def Dv:ag:=fw 56 (aM 58) 1 .j .j
def yv:aq:=aM 31
def Dw:ag:=dZ 81
def Dx:ag:=dw 82 (dY "," bX) Dw
def Dy:ag:=bl yv Dx (dw 82 (dY "]" bX) Dv)
def Dz:ag:=fw 32 (aM 53) 1 .j (.d (.h (aM 52) .Sub cR) Dy)
def DA:ag:=dQ 58 0 (cc (aM 122)) (fC cF 101 .j (dN 103 bt) .j)
def DB:ag:=bl (.A (aM 31) (.y .Gt fu (aM 42))) (dZ 81) DA
def DC:ag:=dw 82 (dY "," bX) DB
def yw:ag:=db (eQ 62 fD 121) Dz DC
def DD:ag:=cj 56 (aM 123) .j
def DE:ag:=.d (.h (aM 52) .Add cR) (fC cF 119 .j (dN 73 bt) DD)
def DF:ag:=fC cF 82 (dY "{" bt) (dN 45 bt) DE
def DG:ag:=fw 56 (aM 58) 1 .j .j
def DH:ag:=fw 32 (aM 53) 1 .j (.d (.h (aM 52) .Sub cR) (dw 82 (dY "}" bX) DG))
def yx:aq:=.C (.n (aM 31)) (eA cF 125 .j)
def DI:ag:=dQ 58 0 (cc (aM 126)) (fC cF 101 .j (.I 104 bt (dN 105 bt)) .j)
def yy:ag:=dQ 58 0 (cc (aM 127)) (fC cF 101 .j (dN 104 bt) .j)
def DJ:ag:=dw 82 (dY "?" bt) yy
def yz:ag:=bl (.A (aM 31) (.y .Gt fu (aM 42))) (dZ 81) (db yx DI DJ)
def yA:ag:=db (eQ 62 fD 124) DH yz
def DK:ag:=fw 56 (aM 58) 1 .j .j
def yB:aq:=aM 31
def DM:ag:=dZ 81
def DN:ag:=dw 82 (dY "," bX) DM
def DO:ag:=bl yB DN (dw 82 (dY "}" bX) DK)
def DP:ag:=fw 32 (aM 53) 1 .j (.d (.h (aM 52) .Sub cR) DO)
def DQ:ag:=bl (.A (aM 31) (.y .Gt fu (aM 42))) (dZ 81) (db (.C (.n (aM 31)) (eA cF 125 .j)) (dQ 58 0 (cc (aM 126)) (fC cF 101 .j (.I 104 bt (dN 105 bt)) .j)) (dw 82 (dY "?" bt) (dQ 58 0 (cc (aM 127)) (fC cF 101 .j (dN 104 bt) .j))))
def DR:ag:=dw 82 (dY "," bX) DQ
def yC:ag:=db (eQ 62 fD 124) DP DR
def yD:ag:=dQ 58 0 (cc (aM 128)) (fC cF 101 .j (dN 104 bt) .j)
def DS:ag:=dw 82 (dY ":" bX) yD
def DT:ag:=DS
def yE:ag:=dQ 58 0 (cc (aM 128)) (fC cF 101 .j (dN 104 bt) .j)
def DU:ag:=bl (.A (aM 31) (.y .Gt fu (aM 42))) (dZ 81) (dw 82 (dY ":" bt) yE)
def DV:ag:=DU
def DW:ag:=cj 56 (aM 129) .j
def DX:ag:=be 74 (.C (aM 49) (.n (aM 44))) (fC cF 119 .j (.I 73 bX (dN 74 (.d 74))) DW)
def DY:ag:=cQ (.E cF 130 .j (dN 78 bt))
def yF:aq:=.C (.n (.d 78)) (eQ 62 fD 121)
def DZ:ag:=fw 32 (aM 53) 1 .j (fw 56 (aM 58) 1 .j .j)
def yG:ag:=dQ 58 0 (cc (aM 130)) (fC cF 101 .j (dN 103 bt) .j)
def D0:ag:=fC cF 82 (dY "-" bt) (dN 44 bt) yG
def D3:ag:=ig 81 D0
def yH:ag:=db yF DZ D3
def D4:ag:=cj 56 (aM 131) .j
def D5:ag:=fC cF 119 .j (dN 73 bX) D4
def D6:ag:=cQ (.E cF 132 .j (dN 78 bt))
def yI:aq:=.C (.n (.d 78)) (eQ 62 fD 124)
def D7:ag:=fw 32 (aM 53) 1 .j (fw 56 (aM 58) 1 .j .j)
def D8:aq:=eA cF 125 .j
def D_:ag:=dQ 58 0 (cc (aM 133)) (fC cF 101 .j (.I 104 bt (dN 105 bt)) .j)
def yJ:ag:=dQ 58 0 (cc (aM 134)) (fC cF 101 .j (dN 104 bt) .j)
def Ea:ag:=fC cF 82 (dY "?" bt) (dN 44 bt) yJ
def yK:ag:=db D8 D_ Ea
def Eb:ag:=ig 81 yK
def yL:ag:=db yI D7 Eb
def yM:ag:=dQ 58 0 (cc (aM 132)) (fC cF 101 .j (dN 104 bt) .j)
def Ec:ag:=dw 82 (dY ":" bX) yM
def Ed:ag:=Ec
def yN:ag:=dQ 58 0 (cc (aM 132)) (fC cF 101 .j (dN 104 bt) .j)
def Ee:ag:=fC cF 82 (dY ":" bt) (dN 44 bt) yN
def Ef:ag:=ig 81 Ee
def Eg:ag:=Ef
def Eh:ag:=cQ (.C (eQ 62 fD 64) (.C (aM 55) (eQ 62 (.m (aM 55) cZ) 121)))
def Ei:ag:=cQ (.C (eQ 62 fD 65) (.C (aM 55) (eQ 62 (.m (aM 55) cZ) 124)))
def Ej:ag:=be 54 (.m (aM 55) cZ) (cQ (.C (eQ 62 (.d 54) 108) (.C (.y .Is (.w (.d 54) 12) .g) (.C (.y .Is (.w (.d 54) 13) .g) (.C (.w (.d 54) 14) (.y .Eq (.w (.d 54) 20) (.e "")))))))
def Ek:ag:=bl (.A (.n (eQ 62 fD 61)) (.n (aM 55))) (cQ bX) Ej
def yO:aq:=eQ 62 fD 108
def El:ag:=bl (.y .Is (aM 36) .g) (fw 36 cF 136 (cc (dM 20)) .j) (cW (.h (.d 135) .Add (eO 67 (cc (.w (aM 36) 22)))))
def yP:aq:=.C (qm 62 fD (.D (cI (.G 108) (.G 69)))) (.y .IsNot (dM 13) .g)
def Em:ag:=bl (.y .Is (aM 37) .g) (fw 37 cF 137 (cc (dM 13)) .j) (cW (.h (.d 135) .Add (eO 67 (cc (aM 37)))))
def yQ:aq:=.C (eQ 62 fD 138) (.y .IsNot (dM 12) .g)
def En:ag:=bl (.y .Is (aM 38) .g) (fw 38 cF 139 (cc (dM 12)) .j) (cW (.h (.d 135) .Add (eO 67 (cc (aM 38)))))
def Eo:ag:=be 135 cZ (bl yQ En (bl yP Em (bl yO El (cQ (.C (cv .Lt 135 (.q 128)) (.A (eQ 62 fD 106) (.A (.C (eQ 62 fD 108) (.C (.n (.w (aM 36) 23)) (.n (.w (aM 36) 24)))) (.A (eA cF 110 .j) (eA cF 113 .j)))))))))
def Ep:ag:=bl (aM 38) (dw 82 (cI (.H .Add (.d 140) (aM 38)) bt) .j) (cj 38 .g .j)
def yR:ag:=bl (.y .Is (dM 12) .g) (cj 38 .g (cQ .g)) (bl (.y .Is (aM 38) .g) (fw 38 cF 139 (cc (dM 12)) .j) Ep)
def Er:ag:=bl (aM 37) (dw 82 (cI (aM 37) bt) .j) (cj 37 .g .j)
def yS:ag:=bl (cv .Is 13 .g) (cW .n) (bl (.y .Is (aM 37) .g) (fw 37 cF 137 (h_ 13) .j) Er)
def yT:aq:=eQ 62 fD 108
def Es:aq:=.C (.m (dM 14) cZ) (cv .Is 13 .g)
def yU:aq:=.C (.A (.n (aM 31)) (cv .Is 13 .g)) (.A (.C (.y .Eq (aM 21) (.e "")) (.m (dM 14) cZ)) (.C (.y .NotEq (aM 21) (.e "")) (.m (dM 14) cR)))
def Et:ag:=cj 37 .g (cQ .g)
def yV:aq:=.y .Is (aM 21) .g
def yW:ag:=fw 21 cF 141 .j .j
def yX:aq:=.C (.A (.n (aM 31)) (cv .Is 13 .g)) (dM 14)
def Eu:ag:=cj 37 .g (cQ .g)
def yY:ag:=iC yT (bl yV yW (bl yU Et (dI Es (be 13 (.e "!") (cj 37 .g .j))))) (dI yX Eu) yS
def yZ:ag:=be 13 (dM 13) yY
def qq:ag:=yZ
def Ev:ag:=cQ (.e "\"")
def Ew:aq:=.A (.n (dM 21)) (.y .Eq (dM 21) (.e "'"))
def Ex:aq:=.C (.w (aM 36) 27) (.n (.C (aM 48) (.w (aM 36) 24)))
def y_:ag:=bl Ew (dI Ex (cQ (.e "'"))) Ev
def Ey:aq:=.C (.n (aM 52)) (.C (.n (aM 48)) (.w (aM 36) 29))
def Ez:ag:=bl (.C (dM 21) (.y .In (dM 21) (.e "|>"))) (dI Ey (cQ (dM 21))) y_
def EA:aq:=.C (.n (dM 21)) (.m (dM 14) cZ)
def EB:aq:=.C (.n (.C (aM 48) (.A (.w (aM 36) 23) (.w (aM 36) 24)))) (.A (.C (aM 52) (.w (aM 36) 25)) (.C (.n (aM 52)) (.w (aM 36) 26)))
def EC:ag:=bl EA (dI EB (cQ (.e ""))) Ez
def ED:aq:=.A (.y .Eq (dM 21) (.e "\"")) (aM 31)
def EE:ag:=bl ED (cQ (.e "\"")) EC
def EF:ag:=bl (.y .Is (aM 36) .g) (fw 36 cF 136 (cc (dM 20)) .j) EE
def EG:ag:=cj 36 .g (cj 21 .g .j)
def za:ag:=iC (.y .Eq (aM 21) (.e "\"")) (dw 143 (cI (.w (aM 36) 22) (.d 142)) .j) (db (.y .Eq (aM 21) (.e "'")) (dw 144 (cI (.w (aM 36) 22) (.d 142)) .j) (db (.y .Eq (aM 21) (.e ">")) (dw 145 (cc (.w (aM 36) 22)) .j) (db (.y .Eq (aM 21) (.e "|")) (dw 146 (cc (.w (aM 36) 22)) .j) (dw 147 (cI (.w (aM 36) 22) (.d 142)) .j)))) EG
def EH:ag:=bl (.y .Is (aM 36) .g) (fw 36 cF 136 (cc (dM 20)) .j) (bl (.y .Is (aM 21) .g) (fw 21 cF 141 .j .j) (be 142 (.n (aM 48)) za))
def EI:ag:=.d (.q (cI (.d 149) (.d 148)) (.d 18)) (bl (cv .NotEq 149 cR) (cW .n) (cQ (.L 2 (.D (cI (.d 149) (.d 148))))))
def EJ:aq:=.n (.A (.J .LtE .LtE (.e "0") ff (.e "9")) (.A (.J .LtE .LtE (.e "A") ff (.e "Z")) (.A (.J .LtE .LtE (.e "a") ff (.e "z")) (ed .In "-_"))))
def EK:ag:=dI EJ (cW .n)
def EL:aq:=.A (.y .NotEq (.m (.d 84) cZ) (.e "!")) (.y .NotEq (.m (.d 84) (.M cR)) (.e "!"))
def EM:ag:=bl (.n (.d 84)) (cW .n) (bl EL (cW .n) (.d (.o ff (.K (.d 84) cR (.M cR)) EK) (cQ (.d 84))))
def EN:aq:=cv .Lt 153 b_
def vh:aq:=cv .Lt 152 (dH 89)
def EO:aq:=.A (.J .LtE .LtE (.e "0") ff (.e "9")) (.A (.J .LtE .LtE (.e "A") ff (.e "Z")) (.A (.J .LtE .LtE (.e "a") ff (.e "z")) (ed .In "-;/?!:@&=+$,_.~*'()[]")))
def EP:ag:=be 150 (.m (.d 89) b_) (db EO (cW (.h b_ .Add cR)) (bl (cv .Lt 153 b_) (fY (.d 151) 0 (cc (.K (.d 89) dX b_)) .j) (.d (.m (cI dX b_) (ft .Add b_ 1)) (be 154 (eA ff 5 (cc (.e "utf-8"))) (cW (.o ff (.d 154) (fY (.d 151) 0 (cc (.L 3 (kR 155 150))) .j)))))))
def EQ:aq:=.y .Eq (.m (.d 89) cZ) (.e "!")
def ER:ag:=bl EQ (cr 152 cR) (.d (.k vh EP) (bl EN (fY (.d 151) 0 (cc (.K (.d 89) dX b_)) .j) (cQ (eA (.e "") 3 (h_ 151)))))
def ES:ag:=bl (.n (.d 89)) (cW .n) (be 151 (.u .j) (.d (.m (cI dX b_) cZ) ER))
noncomputable def ET:aq:=.d 84
def zb:ag:=db ET (cQ (.L 7 (.D (cI (.d 84) (.d 156))))) (cQ (.L 8 (.d 156)))
def vj:aq:=cv .Lt 152 (dH 157)
def EU:aq:=.A (.J .LtE .LtE (.e "0") ff (.e "9")) (.A (.J .LtE .LtE (.e "A") ff (.e "Z")) (.A (.J .LtE .LtE (.e "a") ff (.e "z")) (.A (ed .In "-;/?:@&=+$,_.~*'()[]") (.C (ed .Eq "!") (cv .NotEq 84 (.e "!"))))))
def EV:ag:=be 150 (.m (.d 157) b_) (db EU (cW (.h b_ .Add cR)) (bl (cv .Lt 153 b_) (fY (.d 151) 0 (cc (.K (.d 157) dX b_)) .j) (.d (.m (cI dX b_) (ft .Add b_ 1)) (be 154 (eA ff 5 (cc (.e "utf-8"))) (cW (.o ff (.d 154) (fY (.d 151) 0 (cc (.L 3 ff)) .j)))))))
def EW:ag:=.d (.k vj EV) (bl (cv .Lt 153 b_) (fY (.d 151) 0 (cc (.K (.d 157) dX b_)) .j) (be 156 (eA (.e "") 3 (h_ 151)) zb))
def EX:aq:=.C (eA (.d 13) 4 (h_ 89)) (.A (cv .Eq 89 (.e "!")) (.y .Lt (dH 89) (dH 13)))
def zc:ag:=cr 157 (.K (.d 13) (dH 89) .g)
def zd:ag:=dI EX (be 84 (.m (aM 39) (.d 89)) zc)
def EY:ag:=.d (.o (.d 89) (.d 158) zd) (be 151 (.u .j) (.d (.m (cI dX b_) cZ) EW))
def ze:ag:=bl (.n (.d 13)) (cW .n) (bl (cv .Eq 13 (.e "!")) (cQ (.d 13)) (be 84 .g (be 157 (.d 13) (be 158 (eO 92 (cc (eA (aM 39) 6 .j))) EY))))
def EZ:aq:=.n (.A (.J .LtE .LtE (.e "0") ff (.e "9")) (.A (.J .LtE .LtE (.e "A") ff (.e "Z")) (.A (.J .LtE .LtE (.e "a") ff (.e "z")) (ed .In "-_"))))
def E_:ag:=dI EZ (cW .n)
def Fc:ag:=bl (.n (.d 12)) (cW .n) (.d (.o ff (.d 12) E_) (cQ (.d 12)))
noncomputable def Fd:aq:=.d 161
def Fe:ag:=cr 26 bX
noncomputable def Ff:aq:=.d 162
def Fg:ag:=cr 25 bX
noncomputable def Fh:aq:=.d 159
def Fi:ag:=cW (.m (cI (.d 25) (.d 26)) bX)
noncomputable def Fj:aq:=.A (.d 163) (.d 164)
def Fk:ag:=cW (.m (.p (.d 25) (.p (.d 26) (cI (.d 27) (.d 29)))) bX)
noncomputable def Fl:aq:=.d 165
def Fm:ag:=cW (.m (.p (.d 25) (cI (.d 26) (.d 27))) bX)
noncomputable def Fn:aq:=.d 166
def Fo:ag:=cr 29 bX
noncomputable def Fp:aq:=.A (.d 167) (.A (.d 168) (.A (.d 166) (.d 169)))
def Fq:ag:=cW (.m (cI (.d 25) (.d 26)) bX)
def Fr:ag:=be 25 bt (be 26 bt (be 27 bt (be 28 bt (be 29 bt (bl Fp Fq (bl Fn Fo (bl Fl Fm (bl Fj Fk (bl Fh Fi (bl Ff Fg (bl Fd Fe (cQ (lV 160 .j (.I 22 (.d 22) (.I 23 bX (.I 24 (.d 159) (.I 25 (.d 25) (.I 26 (.d 26) (.I 27 (.d 27) (.I 28 (.d 28) (dN 29 (.d 29))))))))))))))))))))))
def zf:aq:=cv .Lt 170 (dH 22)
def Ft:aq:=ed .Eq " "
def Fu:ag:=bl (cv .Eq 170 cZ) (cr 167 bt) (bl (cv .Eq 170 (ft .Sub (dH 22) 1)) (cr 166 bt) (bl (.d 173) (cr 165 bt) (be 174 bt (cr 173 bX))))
def Fv:ag:=db (ew .In jN) (bl (cv .Eq 170 cZ) (cr 168 bt) (bl (cv .Eq 170 (ft .Sub (dH 22) 1)) (cr 169 bt) (bl (.d 174) (cr 163 bt) (be 174 bX (cr 173 bt))))) (be 174 bX (cr 173 bX))
def Fw:aq:=.n (.A (ed .Eq "\n") (.J .LtE .LtE (.e " ") ff (.e "~")))
def Fx:ag:=db (.C (.A (ed .Eq "\u0085") (.A (.J .LtE .LtE (.e "\u00a0") ff (.e "\ud7ff")) (.A (.J .LtE .LtE (.e "\ue000") ff (.e "\ufffd")) (.J .LtE .Lt (.e "𐀀") ff (.e "􏿿"))))) (ed .NotEq "\ufeff")) (be 175 bt (dI (.n (aM 34)) (cr 164 bt))) (cr 164 bt)
def zg:aq:=ew .In jN
def Fy:ag:=cr 159 bt
def Fz:aq:=cv .Eq 170 cZ
def FA:ag:=bl (ed .In "#,[]{}&*!|>'\"%@`") (be 162 bt (cr 161 bt)) (bl (ed .In "?:") (be 162 bt (dI (.d 171) (cr 161 bt))) (dI (.C (ed .Eq "-") (.d 171)) (be 162 bt (cr 161 bt))))
def FB:ag:=bl (ed .In ",?[]{}") (cr 162 bt) (bl (ed .Eq ":") (be 162 bt (dI (.d 171) (cr 161 bt))) (dI (.C (ed .Eq "#") (.d 172)) (be 162 bt (cr 161 bt))))
def zh:ag:=be 150 (.m (.d 22) (.d 170)) (iC Fz FA FB (bl zg Fy (bl Fw Fx (iC Ft Fu Fv (.d (.h (.d 170) .Add cR) (be 172 (ed .In "\x00 \t\r\n\u0085\u2028\u2029") (cr 171 (.A (.y .GtE (eB .Add 170 1) (dH 22)) (.y .In (.m (.d 22) (eB .Add 170 1)) (.e "\x00 \t\r\n\u0085\u2028\u2029"))))))))))
def FC:ag:=.d (.k zf zh) Fr
def zi:aq:=.A (eA (.d 22) 4 (cc (.e "---"))) (eA (.d 22) 4 (cc (.e "...")))
def FE:ag:=be 161 bt (cr 162 bt)
def FF:ag:=bl zi FE (be 172 bt (be 171 (.A (.y .Eq (dH 22) cR) (.y .In (.m (.d 22) cR) (.e "\x00 \t\r\n\u0085\u2028\u2029"))) (be 174 bX (be 173 bX (be 170 cZ FC)))))
noncomputable def FG:aq:=.n (.d 22)
def zj:ag:=bl FG (cQ (lV 160 .j (.I 22 (.d 22) (.I 23 bt (.I 24 bX (.I 25 bX (.I 26 bt (.I 27 bt (.I 28 bt (dN 29 bX)))))))))) (be 161 bX (be 162 bX (be 159 bX (be 164 bX (be 167 bX (be 168 bX (be 166 bX (be 169 bX (be 165 bX (be 163 bX FF))))))))))
def FH:ag:=cW .p
def FI:ag:=cW .p
def FJ:ag:=dZ 99
def zk:ag:=dg 45 45 (cj 44 (.C (aM 44) (.d 44)) (.d (.h fu .Add (dH 154)) (cj 43 bX (dQ 30 177 gS .j))))
def zm:ag:=iC (.A (aM 45) (.n (.d 176))) (cr 154 (.d 140)) (cr 154 (.H .Add (.e " ") (.d 140))) zk
def zn:ag:=dQ 30 177 gS .j
def zo:ag:=dI (.y .Lt fu (.d 32)) (cj 45 bt (be 154 (.H .Mult (.e " ") (.H .Sub (.d 32) fu)) (dg 46 32 zn)))
def zp:aq:=.A (.n (aM 44)) (.A (.y .Gt fu (.d 32)) (.C (.y .Eq fu (.d 32)) (.n (aM 45))))
def sC:ag:=bl zp (dZ 178) zo
def zq:ag:=be 32 (.A (aM 32) cZ) sC
def zr:ag:=cj 45 bt (cj 44 bt (.d (.h (aM 47) .Add cR) (cj 46 cZ (dQ 30 177 gS .j))))
def vm:ag:=bl (cv .Is 154 .g) (cr 154 (aM 40)) zr
def FK:ag:=dZ 178
def FL:ag:=dQ 30 177 gS FK
def FM:ag:=be 154 (.L 0 (.d 94)) FL
def FN:ag:=dZ 178
def FO:ag:=dQ 30 177 gS FN
def FP:ag:=be 154 (.L 1 (.D (cI (.d 87) (.d 86)))) FO
def FQ:aq:=cv .LtE 152 (dH 179)
def FR:ag:=cr 153 (ft .Add b_ 1)
def FS:ag:=bl (ed .Eq "'") (be 154 (.e "''") (.d (.h fu .Add (.q 2)) (dQ 30 177 gS FR))) (bl (ew .IsNot .g) (be 181 (ed .Eq " ") (cr 180 (ew .In jN))) (cW (.h b_ .Add cR)))
noncomputable def FT:aq:=.d 181
def FU:aq:=.A (ew .Is .g) (ed .NotEq " ")
def FV:aq:=.C (.y .Eq (ft .Add dX 1) b_) (.C (.y .Gt fu (aM 42)) (.C (.d 142) (.C (cv .NotEq 153 cZ) (cv .NotEq 152 (dH 179)))))
def FW:ag:=dZ 81
def FX:ag:=be 154 (.K eP dX b_) (.d (.h fu .Add (dH 154)) (dQ 30 177 gS .j))
def FY:ag:=iC FV FW FX (cr 153 b_)
def FZ:ag:=dI FU FY
def F0:aq:=.A (ew .Is .g) (ew .NotIn jN)
def F_:ag:=cr 153 b_
def zt:aq:=.y .Eq (.m eP dX) (.e "\n")
def Ga:ag:=dZ 178
def Gb:ag:=bl zt Ga (.d (.o (.d 182) (.K eP dX b_) (db (cv .Eq 182 (.e "\n")) (dZ 178) (dw 178 (h_ 182) .j))) (ig 81 F_))
def zu:aq:=.A (ew .Is .g) (.A (ed .In " \n\u0085\u2028\u2029") (ed .Eq "'"))
def Gc:aq:=cv .Lt 153 b_
def Gd:ag:=cr 153 b_
def Ge:ag:=dI Gc (be 154 (.K eP dX b_) (.d (.h fu .Add (dH 154)) (dQ 30 177 gS Gd)))
def Gf:ag:=db (.d 180) (dI F0 Gb) (dI zu Ge)
def zv:ag:=be 150 .g (bl (cv .Lt 152 (dH 179)) (cr 150 (.m eP b_)) (iC FT FZ Gf FS))
def Gg:ag:=.d (.k FQ zv) (dw 82 (dY "'" bX) .j)
def Gh:ag:=be 181 bX (be 180 bX (.d (.m (cI dX b_) cZ) Gg))
def Gi:ag:=dw 82 (dY "'" bt) Gh
def Gj:aq:=cv .LtE 152 (dH 179)
def zx:aq:=.C (.J .Lt .Lt cZ b_ (ft .Sub (dH 179) 1)) (.C (.A (ed .Eq " ") (cv .GtE 153 b_)) (.C (.y .Gt (.H .Add fu (.H .Sub b_ dX)) (aM 42)) (.d 142)))
def Gk:aq:=.y .Eq (.m eP dX) (.e " ")
def Gl:ag:=.d (.h fu .Add (dH 154)) (dQ 30 177 gS .j)
def Gm:ag:=dI Gk (be 154 (.e "\\") Gl)
def Gn:ag:=cj 45 bX (cj 44 bX Gm)
def Go:ag:=ig 81 Gn
def zy:aq:=cv .Lt 153 b_
def Gp:ag:=cr 153 b_
def Gq:ag:=bl zy Gp (.d (.h fu .Add (dH 154)) (dQ 30 177 gS Go))
def Gr:ag:=be 154 (.H .Add (.K eP dX b_) (.e "\\")) Gq
def zA:aq:=.A (ew .Is .g) (.A (ed .In "\"\\\u0085\u2028\u2029\ufeff") (.n (.A (.J .LtE .LtE (.e " ") ff (.e "~")) (.C (aM 34) (.A (.J .LtE .LtE (.e "\u00a0") ff (.e "\ud7ff")) (.J .LtE .LtE (.e "\ue000") ff (.e "\ufffd")))))))
def Gu:ag:=cr 153 (ft .Add b_ 1)
def vn:aq:=ew .In (aM 183)
def Gv:ag:=cr 154 (.H .Add (.e "\\") (.m (aM 183) ff))
def Gw:ag:=db (ed .LtE "\u00ff") (cr 154 (.L 4 (kR 155 150))) (db (ed .LtE "\uffff") (cr 154 (.L 5 (kR 155 150))) (cr 154 (.L 6 (kR 155 150))))
def zB:aq:=cv .Lt 153 b_
def Gx:ag:=cr 153 b_
def Gy:ag:=be 154 (.K eP dX b_) (.d (.h fu .Add (dH 154)) (dQ 30 177 gS Gx))
def Gz:ag:=bl zB Gy (dI (ew .IsNot .g) (iC vn Gv Gw (.d (.h fu .Add (dH 154)) (dQ 30 177 gS Gu))))
def GA:ag:=bl zA Gz (bl zx Gr (cW (.h b_ .Add cR)))
def zC:ag:=be 150 .g (bl (cv .Lt 152 (dH 179)) (cr 150 (.m eP b_)) GA)
def GB:ag:=.d (.k Gj zC) (dw 82 (dY "\"" bX) .j)
def GC:ag:=.d (.m (cI dX b_) cZ) GB
def GD:ag:=dw 82 (dY "\"" bt) GC
def zD:aq:=.y .NotIn (.m eP (.M cR)) jN
def GE:ag:=cW (.h (.d 184) .Add (.e "-"))
def GF:aq:=.A (.y .Eq (dH 179) cR) (.y .In (.m eP (.M (.q 2))) jN)
def GG:ag:=dI GF (cW (.h (.d 184) .Add (.e "+")))
def zE:aq:=.y .In (.m eP cZ) (.e " \n\u0085\u2028\u2029")
def GH:ag:=cW (.h (.d 184) .Add (eO 185 (cc (aM 41))))
def GI:ag:=bl eP (bl zE GH (db zD GE GG)) (cQ (.d 184))
def GJ:ag:=be 184 (.e "") GI
def GK:aq:=cv .LtE 152 (dH 179)
noncomputable def zF:aq:=.d 180
def GL:aq:=.A (ew .Is .g) (ew .NotIn jN)
def zG:ag:=cr 153 b_
def vp:aq:=.C (.n (.d 167)) (.C (ew .IsNot .g) (.C (ed .NotEq " ") (.y .Eq (.m eP dX) (.e "\n"))))
def zH:ag:=dZ 178
def GN:ag:=bl vp zH (be 167 (ed .Eq " ") (.d (.o (.d 182) (.K eP dX b_) (db (cv .Eq 182 (.e "\n")) (dZ 178) (dw 178 (h_ 182) .j))) (bl (ew .IsNot .g) (dZ 81) zG)))
def zI:ag:=dI GL GN
def GO:aq:=ed .NotEq " "
def zJ:ag:=cr 153 b_
def GP:aq:=.C (.y .Eq (ft .Add dX 1) b_) (.y .Gt fu (aM 42))
def GQ:ag:=iC GP (dZ 81) (be 154 (.K eP dX b_) (.d (.h fu .Add (dH 154)) (dQ 30 177 gS .j))) zJ
def GR:aq:=.A (ew .Is .g) (ed .In " \n\u0085\u2028\u2029")
def zK:ag:=cr 153 b_
def zL:ag:=db (.d 181) (dI GO GQ) (dI GR (be 154 (.K eP dX b_) (.d (.h fu .Add (dH 154)) (dQ 30 177 gS (bl (ew .Is .g) (dZ 178) zK)))))
def qr:ag:=be 150 .g (bl (cv .Lt 152 (dH 179)) (cr 150 (.m eP b_)) (iC zF zI zL (bl (ew .IsNot .g) (be 180 (ew .In jN) (cr 181 (ed .Eq " "))) (cW (.h b_ .Add cR)))))
def GS:ag:=cW (.k GK qr)
def GT:ag:=be 167 bt (be 181 bX (be 180 bt (.d (.m (cI dX b_) cZ) GS)))
def zM:aq:=.y .Eq (.K (.d 184) (.M cR) .g) (.e "+")
def GU:ag:=cj 43 bt .j
def GV:ag:=bl zM GU (ig 178 GT)
def GW:ag:=dw 82 (cI (.H .Add (.e ">") (.d 184)) bt) GV
def GX:ag:=be 184 (eA cF 186 (h_ 179)) GW
def GY:aq:=cv .LtE 152 (dH 179)
noncomputable def zN:aq:=.d 180
def zO:ag:=cr 153 b_
def zP:ag:=dI (.A (ew .Is .g) (ew .NotIn jN)) (.d (.o (.d 182) (.K eP dX b_) (db (cv .Eq 182 (.e "\n")) (dZ 178) (dw 178 (h_ 182) .j))) (bl (ew .IsNot .g) (dZ 81) zO))
def GZ:aq:=.A (ew .Is .g) (ew .In jN)
def zQ:ag:=cr 153 b_
def zR:ag:=dI GZ (be 154 (.K eP dX b_) (dQ 30 177 gS (bl (ew .Is .g) (dZ 178) zQ)))
def qs:ag:=be 150 .g (bl (cv .Lt 152 (dH 179)) (cr 150 (.m eP b_)) (iC zN zP zR (bl (ew .IsNot .g) (cr 180 (ew .In jN)) (cW (.h b_ .Add cR)))))
def G4:ag:=cW (.k GY qs)
def G5:ag:=be 180 bt (.d (.m (cI dX b_) cZ) G4)
def zT:aq:=.y .Eq (.K (.d 184) (.M cR) .g) (.e "+")
def G6:ag:=cj 43 bt .j
def G7:ag:=bl zT G6 (ig 178 G5)
def G8:ag:=dw 82 (cI (.H .Add (.e "|") (.d 184)) bt) G7
def G9:ag:=be 184 (eA cF 186 (h_ 179)) G8
def G_:aq:=cv .LtE 152 (dH 179)
def zU:ag:=bl (ew .IsNot .g) (be 181 (ed .Eq " ") (cr 180 (ew .In jN))) (cW (.h b_ .Add cR))
noncomputable def zV:aq:=.d 181
def G':aq:=ed .NotEq " "
def zW:ag:=cr 153 b_
def Ha:aq:=.C (.y .Eq (ft .Add dX 1) b_) (.C (.y .Gt fu (aM 42)) (.d 142))
def Hb:ag:=cj 45 bX (cj 44 bX .j)
def Hc:ag:=iC Ha (ig 81 Hb) (be 154 (.K eP dX b_) (.d (.h fu .Add (dH 154)) (dQ 30 177 gS .j))) zW
def zX:ag:=dI G' Hc
def He:aq:=.A (ew .Is .g) (ed .In " \n\u0085\u2028\u2029")
def zY:ag:=cr 153 b_
def zZ:ag:=db (.d 180) (dI (ew .NotIn jN) (bl (.y .Eq (.m eP dX) (.e "\n")) (dZ 178) (.d (.o (.d 182) (.K eP dX b_) (db (cv .Eq 182 (.e "\n")) (dZ 178) (dw 178 (h_ 182) .j))) (ig 81 (cj 45 bX (cj 44 bX (cr 153 b_))))))) (dI He (be 154 (.K eP dX b_) (.d (.h fu .Add (dH 154)) (dQ 30 177 gS zY))))
def qt:ag:=be 150 .g (bl (cv .Lt 152 (dH 179)) (cr 150 (.m eP b_)) (iC zV zX zZ zU))
def Hf:ag:=cW (.k G_ qt)
def Aa:aq:=.n (aM 45)
def Hg:ag:=be 154 (.e " ") (.d (.h fu .Add (dH 154)) (dQ 30 177 gS .j))
def Hh:aq:=.n eP
def Ab:ag:=bl Hh (cQ .g) (bl Aa Hg (cj 45 bX (cj 44 bX (be 181 bX (be 180 bX (.d (.m (cI dX b_) cZ) Hf))))))
def sD:ag:=bl (aM 51) (cj 43 bt .j) Ab
def Hi:ag:=cj 187 (.u .j) .j
def Ac:ag:=dQ 187 0 gS .j
def Hj:ag:=cQ (eA (.e "") 3 (cc (aM 187)))
def Hk:ag:=cQ (.u (eC "w" "" (eC "x y" "a\nb\n" (eC "x: y" "- z" (eC "it's" "k\n\n" (eC "---" "... d" (eC " l" "t " (eC "\n" "a\n b" (eC "a #b" "a:b" (eC "p,q" "?" (eC "-" "%Y" (eC "\t" "\u00e9" (dY "\u2028\u2028" (.e "aa bb cc dd e"))))))))))))))
def Hl:ag:=cQ (.u (eC "a" "\n" (eC " " ":" (eC "#" "-" (eC "?" "," (eC "[" "]" (eC "{" "}" (eC "'" "\"" (eC "\\" "%" (eC "&" "*" (eC "!" "|" (eC ">" "." (eC "@" "`" (eC "~" "=" (eC "\t" "\x00" (eC "\x07" "\u0085" (eC "\u2028" "\u00e9" (eC "😀" "\ufeff" (dY "b" (.e "c"))))))))))))))))))))
def Hm:ag:=cQ (.u (.p .g (eC "'" "\"" (dY "|" (.e ">")))))
def Hn:ag:=cQ (.u (.p (.D (cI bt bt)) (.p (.D (cI bt bX)) (cI (.D (cI bX bt)) (.D (cI bX bX))))))
def Ho:ag:=cQ (.u (.p .g (qk "t:b" (eC "!" "tag:yaml.org,2002:s" (dY "!n" (.e "w"))))))
def Hp:ag:=cQ (.B (.d 188) (eA (.d 188) 1 (cc cZ)) cZ)
def Hq:aq:=cv .Gt 189 cZ
def Hr:ag:=dI Hq (be 20 (.H .Add (.d 20) (.m (eO 192 .j) (eB .Mod 189 36))) (cr 189 (eB .FloorDiv 189 36)))
def Hs:ag:=.d (.o (.d 190) (eO 191 (cc (.q 3))) Hr) (cQ (.d 20))
def Ht:ag:=be 20 (.m (eO 193 .j) (eB .Mod 189 24)) (be 189 (eB .FloorDiv 189 24) Hs)
def Hu:ag:=cQ .g
def Hv:aq:=.y .Eq (eB .Mod 195 5) (.q 3)
def Ad:aq:=.A (cv .Eq 196 cZ) (.d 188)
def Hw:ag:=dI Ad (sA (eO 198 (.p (.d 188) (cI (eB .Sub 194 1) (.d 55)))) .j)
def Hx:ag:=.d (.o (.d 196) (kR 191 197) Hw) (fY (.d 55) 0 (cc (eO 121 .j)) .j)
def Hy:ag:=fY (.d 55) 0 (cc (lV 64 (.p (.d 12) (cI (.d 13) (.d 199))) (dN 15 (.y .Eq (eB .Mod 200 2) cR)))) Hx
def Hz:ag:=sA (eO 198 (.p (.d 188) (cI (eB .Sub 194 1) (.d 55)))) .j
def HA:ag:=dI (.A (cv .Eq 196 cZ) (.d 188)) (sA (eO 198 (.p (.d 188) (cI (eB .Sub 194 1) (.d 55)))) Hz)
def HB:ag:=.d (.o (.d 196) (kR 191 197) HA) (fY (.d 55) 0 (cc (eO 124 .j)) .j)
def HC:ag:=fY (.d 55) 0 (cc (lV 65 (.p (.d 12) (cI (.d 13) (.d 199))) (dN 15 (.y .Eq (eB .Mod 200 2) cR)))) HB
def HD:ag:=iC Hv Hy HC Hu
def sE:ag:=be 197 (ft .Mod (ft .Add (eB .FloorDiv 195 20) 1) 3) (be 13 (.m (eO 201 .j) (ft .Mod (eB .FloorDiv 200 4) 6)) (be 199 (.A (cv .Is 13 .g) (.y .Eq (ft .Mod (eB .FloorDiv 200 2) 2) cR)) HD))
def HE:aq:=.A (.y .Lt (eB .Mod 195 5) (.q 2)) (cv .Eq 194 cZ)
def HF:ag:=cQ .g
def HG:aq:=.C (cv .Is 13 .g) (cv .Eq 204 (.D (cI bX bX)))
def HH:ag:=cr 204 (.D (cI bX bt))
def HI:ag:=be 13 (.m (eO 201 .j) (ft .Mod (eB .FloorDiv 200 20) 6)) (be 204 (.m (eO 206 .j) (ft .Mod (eB .FloorDiv 200 5) 4)) (bl HG HH (fY (.d 55) 0 (cc (lV 108 (.p (.d 12) (.p (.d 13) (cI (.d 204) (eO 203 (cc (kR 202 188)))))) (dN 21 (.m (eO 205 .j) (eB .Mod 200 5))))) HF)))
def HJ:aq:=.y .Eq (eB .Mod 195 5) (.q 2)
def HK:ag:=fY (.d 55) 0 (cc (eO 106 (cc (.m (.u (eC "a1" "x-y_" (dY "0" (.e "Z9")))) (ft .Mod (eB .FloorDiv 195 5) 4))))) (cQ .g)
def HL:ag:=bl HJ HK (be 12 (.m (.u (.p .g (qk "a1" (dY "x-y_" (.e "0"))))) (ft .Mod (eB .FloorDiv 195 5) 4)) (be 200 (kR 202 188) (bl HE HI sE)))
def HM:ag:=be 195 (.B (.A (.d 188) (cv .Eq 194 (.q 3))) (kR 202 188) (.q 2)) HL
def Ae:ag:=cQ (.y .Eq (eA (.w (.d 210) 30) 179 .j) (.H .Add (.d 208) (.d 209)))
def Af:ag:=fY (.d 210) 211 (cc (eO 72 .j)) Ae
def Ag:aq:=.A (cv .Eq 66 cZ) (.C (.d 188) (cv .Lt 66 (.q 3)))
def HN:ag:=cW (.h (.d 66) .Add cR)
def HO:aq:=.y .NotEq (eA (.w (.d 210) 30) 179 .j) (.d 208)
def HP:ag:=cQ bX
def HQ:ag:=bl HO HP HN
def vq:ag:=fY (.d 210) 211 (cc (lV 61 .j (.I 17 (.y .Eq (eB .Mod 212 2) cR) (.I 18 (.d 18) (dN 19 (.d 19)))))) (.d (.o (.d 54) (.d 55) (fY (.d 210) 211 (h_ 54) .j)) HQ)
def sF:ag:=be 208 (.H .Add (.d 208) eP) vq
def HR:aq:=.C (.n (.d 213)) (.C (cv .Eq 179 (.H .Add (.d 214) (.d 215))) (.y .In (.K (.d 214) (.M cR) .g) (.u (qk "" (eC "\n" "\r" (dY "\u0085" (.e "\u2028")))))))
def HS:ag:=cr 179 (.d 214)
def HT:ag:=be 209 (.d 215) HS
def HU:ag:=bl HR HT sF
def HV:ag:=be 214 (.K eP .g (qm 216 cZ (.H .Sub (dH 179) (dH 215)))) HU
def Ah:ag:=be 209 (.e "") HV
def HW:aq:=.A (cv .IsNot 18 .g) (cv .IsNot 19 .g)
def vr:ag:=bl HW (cr 208 (.H .Add (.d 208) (.d 209))) Ah
def vt:ag:=fY (.d 217) 211 (cc (eO 75 .j)) (fY (.d 217) 211 (cc (lV 61 .j (.I 17 (.A (cv .Gt 66 cZ) (.y .Eq (eB .Mod 212 2) cR)) (.I 18 (.d 18) (dN 19 (.d 19)))))) (.d (.o (.d 54) (.d 55) (fY (.d 217) 211 (h_ 54) .j)) (fY (.d 217) 211 (cc (eO 72 .j)) (be 179 (eA (.w (.d 217) 30) 179 .j) vr))))
def Ai:ag:=be 212 (kR 202 188) (be 18 (.m (.u (.p .g (.p (.D (cI cR cR)) (cI (.D (cI cR cZ)) (.D (cI cR (.q 2))))))) (ft .Mod (eB .FloorDiv 212 4) 4)) (be 19 (.m (.G 219) (ft .Mod (eB .FloorDiv 212 16) 3)) (be 213 (.y .Eq (ft .Mod (eB .FloorDiv 212 2) 2) cR) (be 55 (.u .j) (sA (eO 198 (.p (.d 188) (cI (.q 3) (.d 55)))) (fY (.d 55) 0 (cc (lV 71 .j (dN 17 (.d 213)))) (be 217 (.z (.d 218) .j .j) vt)))))))
def HX:ag:=be 208 (.e "") (be 209 (.e "") (be 66 cZ (.d (.k Ag Ai) Af)))
def HY:ag:=fY (.d 210) 211 (cc (eO 75 .j)) HX
def Y4:ag:=be 210 (.z (.d 218) .j .j) HY
def qv:ag:=cQ (lV 224 (cc (eO 220 .j)) (.I 31 (.y .Eq (eB .Mod 222 4) (.q 3)) (.I 32 (.m (.u (.p .g (.p (.q 4) (.p (.q 9) (.p cR (cI (.q 3) (.q 12))))))) (eB .Mod 223 6)) (.I 33 (.m (.u (.p .g (.p (.q 10) (.p cR (cI (.q 30) (ft .Pow (.q 10) 6)))))) (ft .Mod (eB .FloorDiv 223 6) 5)) (.I 34 (.y .Eq (ft .Mod (eB .FloorDiv 222 4) 2) cR) (dN 35 (.d 221)))))))
noncomputable def oY:V:=.c [("!",.e "!"),("tag:yaml.org,2002:",.e "!!")]
noncomputable def nX:V:=.c [("\x00",.e "0"),("\x07",.e "a"),("\x08",.e "b"),("\t",.e "t"),("\n",.e "n"),("\x0b",.e "v"),("\x0c",.e "f"),("\r",.e "r"),("\x1b",.e "e"),("\"",.e "\""),("\\",.e "\\"),("\u0085",.e "N"),("\u00a0",.e "_"),("\u2028",.e "L"),("\u2029",.e "P")]
noncomputable def vw:V:=.u [.g,.c [("!e!",.e "t:")],.c [("!!",.e "t:"),("!",.e "tag:")]]
noncomputable def HZ:List (Nat×V):=[(59,.cy 21),(138,.h 81),(69,.h 101),(70,.h 113),(75,.h 133),(72,.h 145),(61,.h 165),(71,.h 185),(106,.h 197),(108,.h 217),(64,.h 229),(121,.h 241),(65,.h 253),(124,.h 265),(160,.h 296),(224,.h 736),(220,.h 771),(193,.cy 782),(192,.cy 789),(205,.cy 796),(206,.cy 803),(201,.cy 810),(219,vw),(202,.cy 820),(203,.cy 827),(198,.cy 834),(67,.j .k),(62,.j .g),(92,.j .o),(185,.j .e),(155,.j .p),(216,.j .q),(191,.j .r)]
def vA:List (Addr×kS):=[(59,⟨[10,11],[],[],[59],au 49,true⟩),
 (81,⟨[12,10,11],[],[],[81,59],au 78,true⟩),
 (101,⟨[12,13,14,10,11,15],[],[],[101,81,59],au 98,true⟩),
 (113,⟨[10,11],[],[],[113,59],au 49,true⟩),
 (133,⟨[10,11,16],[],[],[133,59],au 130,true⟩),
 (145,⟨[10,11],[],[],[145,59],au 49,true⟩),
 (165,⟨[10,11,17,18,19],[],[],[165,59],au 162,true⟩),
 (185,⟨[10,11,17],[],[],[185,59],au 182,true⟩),
 (197,⟨[12,10,11],[],[],[197,81,59],au 78,true⟩),
 (217,⟨[12,13,14,20,10,11,21],[],[],[217,81,59],au 214,true⟩),
 (229,⟨[12,13,14,10,11,15],[],[],[229,101,81,59],au 98,true⟩),
 (241,⟨[10,11],[],[],[241,113,59],au 49,true⟩),
 (253,⟨[12,13,14,10,11,15],[],[],[253,101,81,59],au 98,true⟩),
 (265,⟨[10,11],[],[],[265,113,59],au 49,true⟩),
 (296,⟨[22,23,24,25,26,27,28,29],[],[],[296],au 293,true⟩),
 (736,⟨[30,16,58,56,55,54,53,32,52,51,50,49,48,47,46,45,44,43,31,34,41,42,40,39,38,37,36,21],[(225,323),(211,330),(60,337),(63,344),(119,352),(57,359),(97,366),(76,373),(79,381),(102,388),(80,395),(101,403),(107,410),(109,417),(111,424),(120,431),(122,438),(114,445),(123,452),(128,459),(126,466),(127,473),(112,480),(129,487),(130,495),(115,502),(131,509),(132,517),(133,524),(134,531),(110,538),(113,545),(83,552),(125,559),(117,566),(116,573),(141,580),(118,587),(96,594),(91,601),(90,608),(137,615),(139,622),(136,629),(99,636),(77,643),(98,650),(82,658),(81,665),(178,673),(95,680),(88,687),(144,695),(143,704),(186,711),(145,718),(146,725),(147,733)],[(93,oY),(183,nX)],[736],au 316,false⟩),
 (771,⟨[187],[(177,761),(179,768)],[],[771],au 754,false⟩)]
def vB:List (Addr×gI):=[(21,⟨[8],[],((.d (.k ((.l true)) (.d .p .j)) .j)),none⟩),
 (49,⟨[9,10,11],[.g,.g],oX,none⟩),
 (56,⟨[9],[],((.d (.f (.e "an event")) .j)),none⟩),
 (78,⟨[9,12,10,11],[.g,.g],xZ,none⟩),
 (98,⟨[9,12,13,14,10,11,15],[.g,.g,.g],sB,none⟩),
 (130,⟨[9,10,11,16],[.g,.g,.g],x_,none⟩),
 (162,⟨[9,10,11,17,18,19],[.g,.g,.g,.g,.g],yc,none⟩),
 (182,⟨[9,10,11,17],[.g,.g,.g],yd,none⟩),
 (214,⟨[9,12,13,14,20,10,11,21],[.g,.g,.g],ye,none⟩),
 (293,⟨[9,22,23,24,25,26,27,28,29],[],((.d (.i (.w (.d 9) 22) (.d 22)) (.d (.i (.w (.d 9) 23) (.d 23)) (.d (.i (.w (.d 9) 24) (.d 24)) (.d (.i (.w (.d 9) 25) (.d 25)) (.d (.i (.w (.d 9) 26) (.d 26)) (.d (.i (.w (.d 9) 27) (.d 27)) (.d (.i (.w (.d 9) 28) (.d 28)) (.d (.i (.w (.d 9) 29) (.d 29)) .j))))))))),none⟩),
 (316,⟨[9,30,31,32,33,34,35],[.g,.g,.g,.g,.g],yj,none⟩),
 (323,⟨[9],[],((.d (.l (.z (.G 59) (.p (.q 0) .j) .j)) .j)),none⟩),
 (330,⟨[9,54],[],CB,none⟩),
 (337,⟨[9],[],yl,none⟩),
 (344,⟨[9,66],[],CI,au none⟩),
 (352,⟨[9,73,74],[.l false,.l false],CJ,none⟩),
 (359,⟨[9],[],CL,none⟩),
 (366,⟨[9],[],((.d .n .j)),none⟩),
 (373,⟨[9],[],CM,none⟩),
 (381,⟨[9,78],[.l false],yr,au (au 39)⟩),
 (388,⟨[9],[],C9,none⟩),
 (395,⟨[9],[],C_,none⟩),
 (403,⟨[9,100,103,104,105],[.l false,.l false,.l false,.l false],Dh,none⟩),
 (410,⟨[9],[],Dj,none⟩),
 (417,⟨[9],[],Dm,none⟩),
 (424,⟨[9],[],Dp,none⟩),
 (431,⟨[9],[],yu,none⟩),
 (438,⟨[9],[],yw,none⟩),
 (445,⟨[9],[],DF,none⟩),
 (452,⟨[9],[],yA,none⟩),
 (459,⟨[9],[],yC,none⟩),
 (466,⟨[9],[],DT,none⟩),
 (473,⟨[9],[],DV,none⟩),
 (480,⟨[9],[],DX,none⟩),
 (487,⟨[9],[],DY,none⟩),
 (495,⟨[9,78],[.l false],yH,none⟩),
 (502,⟨[9],[],D5,none⟩),
 (509,⟨[9],[],D6,none⟩),
 (517,⟨[9,78],[.l false],yL,none⟩),
 (524,⟨[9],[],Ed,none⟩),
 (531,⟨[9],[],Eg,none⟩),
 (538,⟨[9],[],Eh,none⟩),
 (545,⟨[9],[],Ei,none⟩),
 (552,⟨[9],[],Ek,none⟩),
 (559,⟨[9],[],Eo,none⟩),
 (566,⟨[9,140],[],yR,none⟩),
 (573,⟨[9],[],qq,none⟩),
 (580,⟨[9],[],EF,none⟩),
 (587,⟨[9],[],EH,none⟩),
 (594,⟨[9,18],[],EI,none⟩),
 (601,⟨[9,84],[],EM,none⟩),
 (608,⟨[9,89],[],ES,au none⟩),
 (615,⟨[9,13],[],ze,au none⟩),
 (622,⟨[9,12],[],Fc,none⟩),
 (629,⟨[9,22],[],zj,none⟩),
 (636,⟨[9],[],FH,none⟩),
 (643,⟨[9],[],FI,none⟩),
 (650,⟨[9],[],FJ,none⟩),
 (658,⟨[9,140,176,45,44],[.l false,.l false],zm,none⟩),
 (665,⟨[9],[],zq,none⟩),
 (673,⟨[9,154],[.g],vm,none⟩),
 (680,⟨[9,94],[],FM,none⟩),
 (687,⟨[9,87,86],[],FP,none⟩),
 (695,⟨[9,179,142],[.l true],Gi,none⟩),
 (704,⟨[9,179,142],[.l true],GD,none⟩),
 (711,⟨[9,179],[],GJ,none⟩),
 (718,⟨[9,179],[],GX,none⟩),
 (725,⟨[9,179],[],G9,none⟩),
 (733,⟨[9,179,142],[.l true],sD,none⟩),
 (754,⟨[9],[],Hi,none⟩),
 (761,⟨[9,154],[],Ac,none⟩),
 (768,⟨[9],[],Hj,none⟩),
 (782,⟨[],[],Hk,none⟩),
 (789,⟨[],[],Hl,none⟩),
 (796,⟨[],[],Hm,none⟩),
 (803,⟨[],[],Hn,none⟩),
 (810,⟨[],[],Ho,none⟩),
 (820,⟨[188],[],Hp,au none⟩),
 (827,⟨[189],[],Ht,au none⟩),
 (834,⟨[188,194,55],[],HM,au none⟩)]
def aa:dq:=⟨vA,HZ,vB⟩
structure cN where
 b:Bool
 d:Bool
 j:Int
 c:Int
 a:Str
structure aF where
 b:Int
 l:Bool
 h:Bool
 e:Bool
 a:List V
structure aw where
 a:cN
 ae:aF
 c:V
 k:Int
 f:V
 d:V
 q:V
 v:V
 t:V
 b:V
 p:List V
 h:List V
 g:List V
 bJ:V
 o:V
 n:V
 l:V
 bg:V
noncomputable def iQ:Int:=12100000
noncomputable def fx(e:aw):List (Nat×V):=[(30,.k 771 1),(16,.g),(58,.o 3),(56,e.t),(55,.o 5),(54,e.b),(53,.o 4),(32,e.c),(52,.q e.k),(51,e.f),(50,e.d),
 (49,e.q),(48,e.v),(47,.x),(46,.q e.ae.b),(45,.l e.ae.l),(44,.l e.ae.h),(43,.l e.ae.e),
 (31,.l e.a.b),(34,.l e.a.d),(41,.q e.a.j),(42,.q e.a.c),(40,.e e.a.a),(39,e.bJ),(38,e.o),(37,e.n),(36,e.l),(21,e.bg)]
def ac(e:aw):af:=[.a (fx e),.a [(187,.o 2)],.d iQ e.ae.a,.u e.p,.u e.h,.u e.g]
noncomputable abbrev aB:V:=.k 736 0
structure nY(e:aw):Prop where
 f:∃b,e.f=.l b
 q:∃b,e.q=.l b
 v:∃b,e.v=.l b
def aw.aj(e:aw)(w:aF):aw:={e with ae:=w}
noncomputable def Aj:V->Nat
 | .e s=>s.length+1|_=>100000000
def ao:List V->Nat
 |[]=>0|x::r=>Aj x+ao r
theorem Na(x:V):1<=Aj x:=by cases x<;>first|exact im .. |exact(by decide:1<=100000000)
theorem eH(a b:List V):ao (a++b)=ao a+ao b:=by
 induction a with
 |nil=>exact(wS _).symm|cons x a i=>exact(congrArg (Aj x+·) i).trans (Nat.add_assoc ..).symm
theorem mX(s:Str):ao [.e s]=s.length+1:=rfl
theorem vC(a:List V):a.length<=ao a:=by
 induction a with
 |nil=>exact hB _|cons x a i=>exact ef (p9 (Nat.add_comm a.length 1)) (Nat.add_le_add (Na x) i)
def aL(w:aF)(k:Nat):Prop:=ao w.a+k<=4600000
theorem aL.a{w:aF}{k:Nat}(h:aL w k):iQ+(w.a.length:Int)<(sizeLine:Int):=by have:=vC w.a;delta aL at h;rw[bw];delta iQ;lia
def aF.aU(w:aF)(s:Str):aF:={w with a:=w.a++[.e s]}
def aF.f(w:aF)(s:Str):aF:={w with b:=w.b+(s.length:Int),a:=w.a++[.e s]}
noncomputable def aF.g(w:aF)(s:Str):aF:={w with b:=0,l:=true,h:=true,a:=w.a++[.e s]}
noncomputable def aF.k(w:aF)(s:Str)(n:Bool):Str:=match w.l|| !n with
 |true=>s|false=>(" ":Str)++s
noncomputable def aF.d(w:aF)(s:Str)(n W i:Bool):aF:=⟨w.b+((w.k s n).length:Int),W,w.h&&i,false,w.a++[.e (w.k s n)]⟩
def aF.j(w:aF)(i:Int):Bool:=match w.h with
 |false=>true|true=>match decide (i<w.b)with
  |true=>true|false=>match w.b==i with
   |true=>!w.l|false=>false
def aF.i(w:aF)(i:Int):aF:=match decide (w.b<i)with
 |true=>{w with b:=i,l:=true,a:=w.a++[.e (rC (" ":Str) (i-w.b))]}|false=>w
def aF.c(w:aF)(i:Int)(nl:Str):aF:=(match w.j i with
 |true=>w.g nl|false=>w).i i
theorem lW(n:Nat)(e:aw)(s:Str)(h:aL e.ae 0):bd aa (n+1) 761 [.k 771 1,.e s] (ac e) .g (ac (e.aj (e.ae.aU s))):=.e ⟨[9,154],[],Ac,none⟩ (l':=[(9,.k 771 1),(154,.e s)]) (.fy h.a)
abbrev H0:ah:=[(9,aB)]
theorem H1(n:Nat)(e:aw)(s:Str)(h:aL e.ae 0)(lm:ah)(H:aH 9 lm=au aB)(a:aH 154 lm=au (.e s)):av aa (n+1) zr lm (ac e) .a [] (ac (e.aj (e.ae.g s))):=.p (l:=[(9,aB),(154,.e s)]) (.p H (.p a .j)) (.m (.h [(9,aB),(154,.e s)] (lW n (e.aj ⟨0,true,true,e.ae.e,e.ae.a⟩) s h)) .j)
theorem Nb(n:Nat)(e:aw)(s:Str)(h:aL e.ae 0):bd aa (n+2) 673 [aB,.e s] (ac e) .g (ac (e.aj (e.ae.g s))):=.e ⟨[9,154],[.g],vm,none⟩ (.bE (H1 n e s h [(9,aB),(154,.e s)] rfl rfl))
theorem mY(n:Nat)(e:aw)(h:aL e.ae 0):bd aa (n+2) 673 [aB,.g] (ac e) .g (ac (e.aj (e.ae.g e.a.a))):=.e ⟨[9,154],[.g],vm,none⟩ (.bE (H1 n e e.a.a h [(9,aB),(154,.e e.a.a)] rfl rfl))
theorem Nc(n:Nat)(e:aw)(i:Int):aN aa n zp [(9,aB),(32,.q i)] (ac e) (e.ae.j i) (ac e):=λk h=>by
 refine aP (a:=Mine.eD (!e.ae.h) (k true (ac e)) (Mine.eD (decide (i<e.ae.b)) (k true (ac e)) (Mine.eD (e.ae.b==i) (k (!e.ae.l) (ac e)) (k false (ac e))))) ?_;delta aF.j at h;cases H:e.ae.h
 ·rw[H]at h;exact h
 ·rw[H]at h;cases b:decide (i<e.ae.b)
  ·rw[b]at h;cases c:e.ae.b==i
   ·rw[c]at h;exact h
   ·rw[c]at h;exact h
  ·rw[b]at h;exact h
theorem H2{c i:Int}(h:c<i)(H:0<=c)(a:i<=1000000):((-1000000:Int)<=i-c/\i-c<=1000000)/\(" ":Str).length*(i-c).toNat<=sizeLine:=
 have b:=kE (N7 i H) a
 ⟨⟨kE (by decide) (Int.le_of_lt (NS.2 h)),b⟩,by rw[show(" ":Str).length=1 from rfl,Nat.one_mul,bw];exact G1.2 (kE b (by decide))⟩
theorem Nd(n:Nat)(e:aw)(i:Int)(h:aL e.ae 0)(hi:0<=e.ae.b/\i<=1000000):av aa (n+1) zo [(9,aB),(32,.q i)] (ac e) .a [] (ac (e.aj (e.ae.i i))):=by
 have a:=bw;refine .d (.C (t:=decide (e.ae.b<i)) (by kernel_rfl!) (λq=>?_) λq=>?_) .j
 ·delta aF.i;rw[q];have q:=of_decide_eq_true q;have H:=H2 q hi.1 hi.2;exact .r (y:=zn) (lm1:=[(9,aB),(32,.q i),(154,.e (rC (" ":Str) (i-e.ae.b)))]) (σ1:=ac (e.aj ⟨i,true,e.ae.h,e.ae.e,e.ae.a⟩)) H
   (.m (.h [(9,aB),(32,.q i),(154,.e (rC (" ":Str) (i-e.ae.b)))] (lW n (e.aj ⟨i,true,e.ae.h,e.ae.e,e.ae.a⟩) _ h)) .j) (by kernel_rfl!)
 ·delta aF.i;rw[q];exact .m .j .j
theorem kT(w:aF)(s:Str):ao (w.g s).a=ao w.a+(s.length+1):=eH _ _
theorem nZ{e:aw}{x:V}(h:e.c=x):e={e with c:=x}:=by subst h;rfl
theorem lX(n:Nat)(e:aw)(i:Int)(hi:e.c=.g/\i=0\/e.c=.q i)(h:aL e.ae 10)(hn:e.a.a.length<=2)(H:0<=e.ae.b/\i<=1000000):bd aa (n+3) 665 [aB] (ac e) .g (ac (e.aj (e.ae.c i e.a.a))):=by
 refine .e ⟨[9],[],zq,none⟩ (l':=[]) ?_;have a:aL e.ae 0:=by delta aL at h⊢;exact aO 0x4630c0d0a0804630c0daa0811 h
 have m:av aa (n+2) sC [(9,aB),(32,.q i)] (ac e) .a [] (ac (e.aj (e.ae.c i e.a.a))):=by
  delta aF.c;refine .d (l1:=[(9,aB),(32,.q i)]) (.B (Nc _ e i) (λq=>?_) λq=>?_) (Nd (n+1) (e.aj (match e.ae.j i with
   |true=>e.ae.g e.a.a|false=>e.ae)) i ?_ ?_)
  ·rw[q];exact .h [(9,aB),(32,.q i)] (mY n e a)
  ·rw[q];exact .j
  ·cases e.ae.j i
   ·exact a
   ·show ao (e.ae.g e.a.a).a+0<=_;rw[kT];delta aL at h;exact aC 0x4630c0d0a1a180882a1104630c0daa0812 h hn
  ·cases e.ae.j i
   ·exact H
   ·exact(ai (gt 0) H.2)
 refine hi.elim (λh=>?_) λh=>?_
 ·rw[h.2,nZ h.1]at m;rw[h.2,nZ h.1];exact .bE m
 ·rw[nZ h]at m⊢;refine .eD (t:=i !=0) (λ_=>m) (yb:=sC) (lb:=[(9,aB),(32,.q 0)]) (σb:=ac {e with c:=.q i}) (λq=>?_);rw[bne_eq_false_iff_eq.1 q]at m⊢;exact m
theorem fz(n:Nat)(e:aw)(s:Str)(N w i:Bool)(h:aL e.ae 0)(H:s.length<=1000):bd aa (n+2) 658 [aB,.e s,.l N,.l w,.l i] (ac e) .g (ac (e.aj (e.ae.d s N w i))):=by
 have x:=bw;have u:(" ":Str).length+s.length<=sizeLine:=by rw[show(" ":Str).length=1 from rfl];exact aO 0x1000000d01a803e8c011 H
 refine .e ⟨[9,140,176,45,44],[.l false,.l false],zm,none⟩ (l':=[]) ?_;obtain⟨c,⟨C,W,j,o,r⟩,a,F,R,k,m,S,f,g,b,I,E,t,p,P,A,q⟩:=e;have l (d:Str) (v:d=aF.k ⟨C,W,j,o,r⟩ s N):av aa (n+1) zk [(9,aB),(140,.e s),(176,.l N),(45,.l w),(44,.l i),(154,.e d)] (ac ⟨c,⟨C,W,j,o,r⟩,a,F,R,k,m,S,f,g,b,I,E,t,p,P,A,q⟩) .a []
   (ac ((aw.mk c ⟨C,W,j,o,r⟩ a F R k m S f g b I E t p P A q).aj (aF.d ⟨C,W,j,o,r⟩ s N w i))):=by
  delta aF.d;rw[←v];cases j
  ·exact .m (.h [(9,aB),(140,.e s),(176,.l N),(45,.l w),(44,.l i),(154,.e d)]
    (lW n (aw.mk c ⟨C+(d.length:Int),w,false,false,r⟩ a F R k m S f g b I E t p P A q) d h) (by kernel_rfl!)) .j
  ·exact .m (.h [(9,aB),(140,.e s),(176,.l N),(45,.l w),(44,.l i),(154,.e d)]
    (lW n (aw.mk c ⟨C+(d.length:Int),w,i,false,r⟩ a F R k m S f g b I E t p P A q) d h) (by kernel_rfl!)) .j
 cases W<;>cases N<;>first|exact .bE (l _ rfl) (by kernel_rfl!)|exact .r u (l _ rfl) (by kernel_rfl!)
theorem NY(n:Nat)(e:aw)(s:Str)(h:aL e.ae 100)(H:s.length<=10):bd aa (n+3) 680 [aB,.e s] (ac e) .g (ac (e.aj ((e.ae.aU ("%"++"YAML "++s)).g e.a.a))):=by
 have a:aL e.ae 0:=by delta aL at h⊢;exact aO 0x4630c0d0a0804630c0d64b0811 h
 have b:aL (e.ae.aU ("%"++"YAML "++s)) 0:=by delta aL aF.aU at*;rw[eH,mX,de,de,show("%":Str).length=1 by decide,show("YAML ":Str).length=5 by decide];exact aC 0x4630c0d0a1a15a1a888088aa1104630c0d64b0812 h H
 have c:s.length<=1000000:=by exact cO ‹_›
 refine .e ⟨[9,94],[],FM,none⟩ (l':=[]) ?_;refine .r (y:=FL) (lm1:=[(9,aB),(94,.e s),(154,.e ("%"++"YAML "++s))]) (σ1:=ac e) c ?_;refine .z (y:=FK) (lm1:=[(9,aB),(94,.e s),(154,.e ("%"++"YAML "++s))]) (lW (n+1) e ("%"++"YAML "++s) a) ?_;exact .m (.h [(9,aB),(94,.e s),(154,.e ("%"++"YAML "++s))] (mY n (e.aj (e.ae.aU ("%"++"YAML "++s))) b)) .j
theorem Iw(n:Nat)(e:aw):bd aa (n+1) 636 [aB] (ac e) .g (ac e):=.e ⟨[9],[],FH,none⟩ (l':=[(9,aB)]) .b
theorem NZ(n:Nat)(e:aw):bd aa (n+1) 643 [aB] (ac e) .g (ac e):=.e ⟨[9],[],FI,none⟩ (l':=[(9,aB)]) .b
theorem N_(n:Nat)(e:aw):bd aa (n+2) 650 [aB] (ac e) .g (ac e):=.e ⟨[9],[],FJ,none⟩ (l':=[(9,aB)]) (.h [(9,aB)] (Iw n e))
def gV(v:V)(b:Int):Prop:=v=.g\/∃i:Int,v=.q i/\0<=i/\i<=b
noncomputable def tc(b:Int)(v:V)(f l:Bool):V:=match v with
 | .g=>match f with
  |true=> .q b|false=> .q 0
 | .q i=>match l with
  |true=> .q i|false=> .q (i+b)
 |_=> .g
def aw.H(e:aw)(K L:Bool):aw:={e with h:=e.h++[e.c],c:=tc e.a.j e.c K L}
theorem td(n:Nat)(e:aw)(f l:Bool)(b:Int)(hi:gV e.c b)(H:e.h.length<sizeLine):bd aa (n+1) 352 [aB,.l f,.l l] (ac e) .g (ac (e.H f l)):=by
 refine .e ⟨[9,73,74],[.l false,.l false],CJ,none⟩ (l':=[(9,aB),(73,.l f),(74,.l l)]) ?_;refine hi.elim (λh=>?_) λh=>ap h λi h _=>?_
 ·rw[nZ h];cases f<;>exact .fy H (by kernel_rfl!)
 ·rw[nZ h];cases l<;>exact .fy H (by kernel_rfl!)
def dB(c:Nat):Prop:=c=10\/c=13\/c=133\/c=8232
noncomputable def eR:List Nat:=[46,46,46]
def bV(T:List Nat)(p:Nat->Prop):Prop:=∃h c,T=h++[c]/\p c
def ou(T:List Nat):Prop:=T=[]\/bV T dB
def iR(T:List Nat):Prop:=∃h,T=h++eR/\ou h
def ON(nl T:List Nat):Prop:=∃h,T=h++eR++nl/\ou h
structure i_(nl T:List Nat):Prop where
 a:¬iR T
 b:¬ON nl T
def dh(nl:List Nat):Prop:=nl=[10]\/nl=[13]\/nl=[13,10]
theorem dh.k{nl:List Nat}(h:dh nl):nl.length<=2:=by rcases h with rfl|rfl|rfl<;>decide
theorem dh.j{nl:List Nat}(h:dh nl):bV nl λc=>c=10\/c=13:=by
 rcases h with rfl|rfl|rfl
 ·exact(cg [] 10 rfl (.inl rfl))
 ·exact(cg [] 13 rfl (.inr rfl))
 ·exact(cg [13] 10 rfl (.inl rfl))
theorem bV.b{T p:List Nat}{q:Nat->Prop}(h:bV p q):bV (T++p) q:=by obtain⟨h,C,rfl,H⟩:=h;exact⟨T++h,C,by simp,H⟩
theorem bV.a{T:List Nat}{p q:Nat->Prop}(h:bV T p)(P:∀c,p c->q c):bV T q:=by
 refine dJ h λh c e H=>?_
 exact(cg h c e (P c H))
theorem bV.c{T:List Nat}{p q:Nat->Prop}(h:bV T p)(g:bV T q):∃c,p c/\q c:=by
 refine dJ h λh c e f=>?_
 (refine dJ g λi C E H=>?_;clear g);rw[e]at E;have:=w7 E rfl;(injection this with z;subst z);exact(aE c f H)
theorem pc{h:List Nat}:bV (h++eR) λc=>c=46:=(cg (h++[46,46]) 46 (by simp[eR]) rfl)
theorem qw{nl T:List Nat}(hn:dh nl)(h:bV T λc=>c≠46/\c≠10/\c≠13):i_ nl T:=by
 constructor
 ·rintro ⟨g,rfl,_⟩;refine ap (h.c pc) λc a H=>?_
  exact a.1 H
 ·rintro ⟨g,rfl,_⟩;refine ap (h.c (hn.j.b)) λc a H=>?_
  rcases H with H|H
  ·exact a.2.1 H
  ·exact a.2.2 H
theorem oa{nl T:List Nat}(hn:dh nl)(h:¬iR T):i_ nl (T++nl):=by
 constructor
 ·rintro ⟨g,e,_⟩;have L:bV (T++nl) _:=hn.j.b;rw[e]at L;refine ap (L.c pc) λc H a=>?_
  subst a;rcases H with H|H<;>cases H
 ·rintro ⟨g,e,l⟩;have:=y9 e rfl;exact h (aE g this l)
def og(p:List Nat):Prop:=∀c∈p,¬dB c
theorem IR{T p:List Nat}(H:og p)(h:iR (T++p)):(p=[]/\iR T)\/(ou T/\p=eR)\/(bV T λc=>c=46):=by
 refine ap h λg e l=>?_
 rcases List.append_eq_append_iff.mp e with⟨a,rfl,rfl⟩|⟨c,rfl,q⟩
 ·cases a with
  |nil=>exact .inr (.inl ⟨dE T▸l,rfl⟩)|cons x r=>
   rcases l with h|h
   ·exact absurd (w8.mp h).2 nofun
   ·refine dJ h λf c e b=>?_
    have:=congrArg List.getLast? e;rw[List.getLast?_append,List.getLast?_concat]at this;exact absurd b (H c (List.mem_append_left _ (List.mem_of_getLast? this)))
 ·match c,q with
  |[],q=>exact .inr (.inl ⟨(dE g).symm▸l,q.symm⟩)|[x],q=>injection q with q _;exact .inr (.inr ⟨g,x,rfl,q.symm⟩)|[x,y],q=>injection q with _ q;injection q with q _;exact .inr (.inr ⟨g++[x],y,by rw[dx];rfl,q.symm⟩)|x::y::z::r,q=>injection q with Q q;injection q with d q;injection q with i q;obtain⟨rfl,rfl⟩:=w8.mp q.symm;subst Q;subst d;subst i;exact .inl ⟨rfl,g,rfl,l⟩
theorem Am{T p:List Nat}(f:og p)(h:bV T λc=>c≠46/\¬dB c):¬iR (T++p):=λi=>by
 rcases IR f i with⟨rfl,g,rfl,_⟩|⟨L,_⟩|l
 ·refine ap (h.c pc) λc H d=>?_
  exact H.1 d
 ·rcases L with rfl|L
  ·(refine dJ h λa b e _=>?_;clear h);simp at e
  ·refine ap (h.c L) λc H d=>?_
   exact H.2 d
 ·refine ap (h.c l) λc H d=>?_
  exact H.1 d
theorem OO{T p:List Nat}(H:og p)(h:¬bV T λc=>c=46)(a:p≠eR):¬iR (T++p):=λq=>by
 rcases IR H q with⟨rfl,g,rfl,_⟩|⟨_,e⟩|l
 ·exact h pc
 ·exact a e
 ·exact h l
noncomputable def bP:List V->List Nat
 |[]=>[]| .e s::r=>s.cps.toList++bP r|_::r=>bP r
theorem AL(a b:List V):bP (a++b)=bP a++bP b:=by
 induction a with
 |nil=>rfl|cons x a i=>cases x<;>simp[bP,i]
theorem jQ(a:List V)(s:Str):bP (a++[.e s])=bP a++s.cps.toList:=by rw[AL];simp[bP]
structure gu(w:aF):Prop where
 b:0<=w.b
 a:w.b=0->ou (bP w.a)
theorem dO(s:Str):s.cps.toList.length=s.length:=hF
theorem gu.f{w:aF}(g:gu w)(s:Str):gu (w.f s):=by
 have:=g.b;refine⟨?_,λh=>?_⟩
 ·show 0<=w.b+(s.length:Int);exact eI 0x1080a10a100a12 this (jb _)
 ·have h:w.b+(s.length:Int)=0:=h;show ou (bP (w.a++[.e s]));rw[jQ];have H:s.cps.toList=[]:=h6 (by rw[dO];lia);rw[H,dE];exact g.a (OP (eI 0xa010a10a10812 (jd h) (jb _)) (dj 0xa00a11 this))
theorem gu.g{w:aF}{s:Str}(h:bV s.cps.toList dB):gu (w.g s):=by refine⟨gt 0,λ_=>?_⟩;show ou (bP (w.a++[.e s]));rw[jQ];exact .inr h.b
set_option tactic.hygienic true in
theorem gu.i{w:aF}(g:gu w)(i:Int):gu (w.i i):=by
 have:=g.b;delta aF.i;split
 ·rename_i q;have q:=of_decide_eq_true q;exact⟨by show 0<=i;exact eI 0x10a00a111a0812 q this,λh=>by have h:i=0:=h;exact An (eI 0xa1a0a1111a08100a13 this q (jd h))⟩
 ·exact g
theorem o_{nl:Str}(h:dh nl.cps.toList):bV nl.cps.toList dB:=h.j.a λc H=>by
 rcases H with rfl|rfl
 ·exact .inl rfl
 ·exact .inr (.inl rfl)
theorem gu.c{w:aF}(g:gu w)(i:Int){nl:Str}(h:dh nl.cps.toList):gu (w.c i nl):=by
 delta aF.c;split
 ·exact(gu.g (o_ h)).i i
 ·exact g.i i
theorem IS(i:Int)(h:0<i):(rC (" ":Str) i).cps.toList=j4 i.toNat 32:=by rw[show(" ":Str)=⟨#[32]⟩from rfl];exact mul_one_list 32 i
theorem OQ(i:Int)(h:0<i)(T:List Nat):bV (T++(rC (" ":Str) i).cps.toList) λc=>c=32:=by rw[IS i h];obtain⟨k,H⟩:∃k,i.toNat=k+1:=(ba (i.toNat-1) (tm (Int.lt_toNat.2 h)).symm);rw[H,List.replicate_succ'];exact(show bV (j4 k 32++[32]) (λc=>c=32)from(cg _ 32 rfl rfl)).b
theorem sH{w:aF}{i:Int}(h:w.b<i):bV (bP (w.i i).a) λc=>c=32:=by delta aF.i;rw[decide_eq_true h];show bV (bP (w.a++[_])) _;rw[jQ];exact OQ _ (by exact eI 0x1e1a0a811a0811 h) _
set_option tactic.hygienic true in
theorem IT(w:aF)(i:Int)(h:0<=w.b/\i<=1000):ao (w.i i).a<=ao w.a+1001:=by
 delta aF.i;split
 ·rename_i q;have q:=of_decide_eq_true q;show ao (w.a++[_])<=_;rw[eH,mX];have:(rC (" ":Str) (i-w.b)).length=(i-w.b).toNat:=by
   rw[←dO,IS _ (by exact eI 0x1e1a0a811a0811 q),q9]
  rw[this];exact i8 (m9 (G1.2 (kE (N7 _ h.1) h.2))) _
 ·exact bi _ _
theorem jO(w:aF)(s:Str):ao (w.f s).a=ao w.a+(s.length+1):=eH _ _
theorem H_(w:aF)(s:Str):ao (w.aU s).a=ao w.a+(s.length+1):=eH _ _
theorem fO(w:aF)(s:Str)(n a b:Bool):ao (w.d s n a b).a<=ao w.a+(s.length+2):=by
 show ao (w.a++[_])<=_;rw[eH,mX];have:(w.k s n).length<=s.length+1:=by
  delta aF.k;split
  ·exact bi _ _
  ·rw[de,show(" ":Str).length=1 from rfl];exact aO 6987717248
 exact bc 0x2a18281a08281a18011 this
theorem m_(w:aF)(i:Int)(nl:Str)(h:0<=w.b/\i<=1000)(hn:nl.length<=2):ao (w.c i nl).a<=ao w.a+1004:=by
 delta aF.c;split
 ·have:=IT (w.g nl) i (ai (gt 0) h.2);rw[kT]at this;exact bc 0x3ecc1802a2103e9c1a28188012 this hn
 ·have:=IT w i h;exact aC 0x3ecc18003e9c18011 this
abbrev dr(text:Str)(s e:Nat)(x:ah):ah:=(9,aB)::(179,.e text)::(153,.q (s:Nat))::(152,.q (e:Nat))::x
abbrev a_(text:Str)(s e:Nat)(v:V)(x:ah):ah:=(9,aB)::(179,.e text)::(153,.q (s:Nat))::(152,.q (e:Nat))::(150,v)::x
set_option tactic.hygienic true in
theorem _root_.Mine.Internal.Mine.bO.b{p:Nat×V}{a b:ah}(h:bO a b):bO (p::a) (p::b):=λy w q=>by
 obtain⟨x,v⟩:=p;rw[fh]at q⊢;split at q
 ·rename_i e;rw[if_pos e];exact q
 ·rename_i e;rw[if_neg e];exact h _ _ q
set_option tactic.hygienic true in
theorem _root_.Mine.Internal.Mine.bO.d{a b:ah}{x:Nat}{v:V}(h:bO a b)(H:aH x a=none):bO a (aU x v b):=λy w q=>by
 rw[fP];split
 ·rename_i e;subst e;rw[H]at q;(injection q;done)
 ·exact h _ _ q
set_option tactic.hygienic true in
theorem _root_.Mine.Internal.Mine.bO.c{a b:ah}{x:Nat}{v:V}(h:bO a b)(H:aH x a=none):bO ((x,v)::a) (aU x v b):=λy w q=>by
 rw[fh]at q;rw[fP];split at q
 ·rename_i e;rw[if_pos e];exact q
 ·rename_i e;rw[if_neg e];exact h _ _ q
theorem _root_.Mine.Internal.Mine.bO.f{a b:ah}{x:Nat}{u v:V}(h:bO a b)(H:aH x a=none):bO ((x,v)::a) (aU x v (aU x u b)):=.c (h.d H) H
theorem jc{x:Str}{e:Nat}(h:e<x.length):∃c,gT x (e:Int)=au c/\x.cps[e]? =au c:=by
 have H:e<x.cps.size:=h;refine(aE (x.cps[e]) ?_ (oT H));unfold gT seqIndex?;have a:¬((e:Int)<0):=mw.2 (dj 0xa00a11 (jb _));rw[if_neg a];have b:(decide (0<=(e:Int))&&decide ((e:Int)<(x.length:Int)))=true:=by rw[di];exact(ai (decide_eq_true (dj 0xa00a11 (wj a))) (decide_eq_true (eI 0x11a0811a0811 (g7.2 h))))
 rw[if_pos b];exact oT H
section
variable {n:Nat} {fl:bH} {l':ah} {σ σ':af} {rest:ag} {text:Str} {s e:Nat} {x:ah}
theorem md(h:aH 150 x=none)(d:text.length<=1000)(f:∀c,text.cps[e]? =au c->e<text.length->av aa n rest (a_ text s e (.e ⟨#[c]⟩) x) σ fl l' σ')(g:text.length<=e->av aa n rest (a_ text s e .g x) σ fl l' σ'):
  av aa n (.d (.i (.d 150) .g) (.d (.B (.y .Lt (.d 152) (.z (.G 67) (.p (.d 179) .j) .j)) (.d (.i (.d 150) (.m (.d 179) (.d 152))) .j) .j) rest)) (dr text s e x) σ fl l' σ':=λk H=>by
 refine aP (a:=Mine.eD (decide ((e:Int)<(text.length:Int))) (∃c,((-1000000000:Int)<=(e:Int)/\(e:Int)<=1000000000)/\gT text (e:Int)=au c/\bj aa (aZ aa n) rest (aU 150 (.e ⟨#[c]⟩) (aU 150 .g (dr text s e x))) σ k) (bj aa (aZ aa n) rest (aU 150 .g (dr text s e x)) σ k)) ?_;refine pB (λq=>?_) λq=>?_
 ·have q:=of_decide_eq_true q;have q:e<text.length:=aC 0x11a0811a0811 (g7.1 q);refine ap (jc q) λc a b=>?_
  exact(bx c (oh (aC 0xf4240d003e8c1111a0812 q d)) a ((f c b q).p (.b (.b (.b (.b (.f .a h))))) k H))
 ·have q:=of_decide_eq_false q;exact(g (aC 1052689 (g5.1 (wj q)))).p (.b (.b (.b (.b (.c .a h))))) k H
def aW(x:Str)(s e:Nat):Str:=eX x (au (s:Int)) (au (e:Int))
theorem jP(x:Str)(s e:Nat):(aW x s e).length<=x.length:=AT _ _ _
theorem pb(x:Str)(s e:Nat)(h:e<=x.length)(H:s<=e):(aW x s e).cps.toList=(x.cps.toList.drop s).take (e-s):=by delta aW eX;simp only[Option.elim];rw[w9,w9,o5 h,o5 (ef H h)]
set_option tactic.hygienic true in
theorem nc{v:V}{e0:aw}(H:aH 154 x=none)(a:aL e0.ae 0)(r:av aa (n+1) rest (a_ text s e v x) (ac (e0.aj (e0.ae.f (aW text s e)))) fl l' σ'):
  av aa (n+1) (.d (.i (.d 154) (.K (.d 179) (.d 153) (.d 152))) (.d (.h (.w (.d 9) 46) .Add (.z (.G 67) (.p (.d 154) .j) .j)) (.d (.l (.E (.w (.d 9) 30) 177 (.p (.d 154) .j) .j)) rest))) (a_ text s e v x) (ac e0) fl l' σ':=by
 have h:∀v,aH 154 ((9,aB)::(179,V.e text)::(153,V.q (s:Nat))::(152,V.q (e:Nat))::(150,v)::x)=none:=λv=>H
 refine .d (l1:=(154,.e (aW text s e))::a_ text s e v x) (σ1:=ac e0) (.m (.b (l':=aU 154 (.e (aW text s e)) (a_ text s e v x))) (.c .a (h v))) ?_;refine .z (y:=rest) (lm1:=(154,.e (aW text s e))::a_ text s e v x) (lW n (e0.aj ⟨e0.ae.b+((aW text s e).length:Int),e0.ae.l,e0.ae.h,e0.ae.e,e0.ae.a⟩) (aW text s e) a) ?_;exact r.p λy w q=>by
  rw[fh];split
  ·rename_i z;subst z;rw[h]at q;(injection q;done)
  ·exact q
set_option tactic.hygienic true in
theorem H'{v:V}{e0:aw}(H:aH 154 x=none)(a:aL e0.ae 0)(r:av aa (n+1) rest (a_ text s e v x) (ac (e0.aj (e0.ae.aU (aW text s e)))) fl l' σ'):
  av aa (n+1) (.d (.i (.d 154) (.K (.d 179) (.d 153) (.d 152))) (.d (.l (.E (.w (.d 9) 30) 177 (.p (.d 154) .j) .j)) rest)) (a_ text s e v x) (ac e0) fl l' σ':=by
 have h:∀v,aH 154 ((9,aB)::(179,V.e text)::(153,V.q (s:Nat))::(152,V.q (e:Nat))::(150,v)::x)=none:=λv=>H
 refine .d (l1:=(154,.e (aW text s e))::a_ text s e v x) (σ1:=ac e0) (.m (.b (l':=aU 154 (.e (aW text s e)) (a_ text s e v x))) (.c .a (h v))) ?_;refine .z (y:=rest) (lm1:=(154,.e (aW text s e))::a_ text s e v x) (lW n e0 (aW text s e) a) ?_;exact r.p λy w q=>by
  rw[fh];split
  ·rename_i z;subst z;rw[h]at q;(injection q;done)
  ·exact q
noncomputable def gi(nl:Str):aF->List Nat->aF
 |w,[]=>w
 |w,c::r=>gi nl (w.g (match(⟨#[c]⟩:Str)==("\n":Str)with
  |true=>nl|false=>⟨#[c]⟩)) r
theorem sL(nl:Str)(hn:nl.length<=2):∀(cs:List Nat) (w:aF),ao (gi nl w cs).a<=ao w.a+3*cs.length
 |[],w=>ds _|c::r,w=>by
  refine ef (sL nl hn r _) ?_;rw[kT,eb];have:(match(⟨#[c]⟩:Str)==("\n":Str)with
   |true=>nl|false=>(⟨#[c]⟩:Str)).length<=2:=by
   split
   ·exact hn
   ·show 1<=2;trivial
  exact bc 0x1a28000003918200000391a081882a011 this
set_option tactic.hygienic true in
theorem PC{v:V}{e0:aw}(a:aH 182 x=none)(hn:e0.a.a.length<=2):∀(cs:List Nat) (w:aF),aL w (3*cs.length)->
  gW aa (n+2) 182 (.d (.B (.y .Eq (.d 182) (.e "\n")) (.d (.l (.E (.d 9) 178 .j .j)) .j) (.d (.l (.E (.d 9) 178 (.p (.d 182) .j) .j)) .j)) .j) none (cs.map λc=> .e ⟨#[c]⟩) (a_ text s e v x) (ac (e0.aj w)) .a (a_ text s e v x) (ac (e0.aj (gi e0.a.a w cs)))
 |[],w,h=> .j trivial|c::r,w,h=>by
  have b:aL w 0:=by delta aL at h⊢;exact aC 0x4630c0d0a0804630c0d100000390811 h
  have H:aH 182 ((9,aB)::(179,V.e text)::(153,V.q (s:Nat))::(152,V.q (e:Nat))::(150,v)::x)=none:=a;have d:aH 182 (aU 182 (.e ⟨#[c]⟩) (a_ text s e v x))=au (.e ⟨#[c]⟩):=by rw[fP,if_pos rfl]
  refine .p (l1:=a_ text s e v x) (σ1:=ac (e0.aj (w.g (match(⟨#[c]⟩:Str)==("\n":Str)with
   |true=>e0.a.a|false=>⟨#[c]⟩)))) trivial (.p (l:=(182,.e ⟨#[c]⟩)::a_ text s e v x) (.c .a H) ?_) (PC a hn r _ ?_)
  ·refine .m (l1:=(182,.e ⟨#[c]⟩)::a_ text s e v x) (.d (.C (t:=(⟨#[c]⟩:Str)==("\n":Str)) (by kernel_rfl!) (λq=>?_) λq=>?_) .j) (λy w q=>by
    rw[fh];split
    ·rename_i z;subst z;rw[H]at q;(injection q;done)
    ·exact q)
   ·rw[q];exact .h _ (mY n (e0.aj w) b)
   ·rw[q];exact .h _ (Nb n (e0.aj w) ⟨#[c]⟩ b)
  ·delta aL at h⊢;rw[kT];have:(match(⟨#[c]⟩:Str)==("\n":Str)with
    |true=>e0.a.a|false=>(⟨#[c]⟩:Str)).length<=2:=by
    split
    ·exact hn
    ·show 1<=2;trivial
   rw[eb]at h;exact bc 0x4630c0d100000391a280882a2104630c0d1a1800000390812 h this
theorem sM{v:V}{e0:aw}(H:aH 182 x=none)(hn:e0.a.a.length<=2)(a:text.length<=1000)(h:aL e0.ae (3*text.length))(r:av aa (n+2) rest (a_ text s e v x) (ac (e0.aj (gi e0.a.a e0.ae (aW text s e).cps.toList))) fl l' σ'):
  av aa (n+2) (.d (.o (.d 182) (.K (.d 179) (.d 153) (.d 152)) (.d (.B (.y .Eq (.d 182) (.e "\n")) (.d (.l (.E (.d 9) 178 .j .j)) .j) (.d (.l (.E (.d 9) 178 (.p (.d 182) .j) .j)) .j)) .j)) rest) (a_ text s e v x) (ac e0) fl l' σ':=by
 refine .d (.o (v:=.e (aW text s e)) (σ1:=ac e0) (xs:=(aW text s e).cps.toList.map λc=> .e ⟨#[c]⟩) .b rfl (PC (e0:=e0) H hn _ e0.ae ?_)) r;have:=jP text s e;delta aL at h⊢;rw[dO];exact bc 0x4630c0d200000390812304630c0d100000390812 h this
end
theorem gu.d{w:aF}(g:0<=w.b){s:Str}(H:0<s.length)(n a b:Bool):gu (w.d s n a b):=by
 have h:0<(w.k s n).length:=by
  delta aF.k;split
  ·exact H
  ·rw[de];exact bi _ _
 refine⟨?_,λq=>?_⟩
 ·show 0<=w.b+((w.k s n).length:Int);exact eI 0x1080a10a100a12 g (jb _)
 ·have q:w.b+((w.k s n).length:Int)=0:=q;exact An (eI 0xa1a11a0a810a108100a13 g (jd q) (g7.2 h))
set_option tactic.hygienic true in
theorem Jz{w:aF}(g:0<=w.b)(i:Int):0<=(w.i i).b:=by
 delta aF.i;split
 ·rename_i q;have q:=of_decide_eq_true q;show 0<=i;exact eI 0x10a00a111a0812 q g
 ·exact g
theorem A3{w:aF}(g:0<=w.b)(i:Int)(nl:Str):0<=(w.c i nl).b:=by
 delta aF.c;split
 ·exact Jz (w:=w.g nl) (gt 0) i
 ·exact Jz g i
theorem nv{w:aF}(g:0<=w.b)(s:Str):0<=(w.f s).b:=by show 0<=w.b+(s.length:Int);exact eI 0x1080a10a100a12 g (jb _)
theorem Qh(nl:Str):∀(cs:List Nat) (w:aF),0<=w.b->0<=(gi nl w cs).b
 |[],_,h=>h|c::r,w,_=>Qh nl r _ (gt 0)
section
variable {n:Nat} {lm:ah} {σ:af} {a b:aq}
theorem iS{ta:Bool}(h:aN aa n a lm σ ta σ)(g:ta=true->∃t,aN aa n b lm σ t σ):∃t,aN aa n (.C a b) lm σ t σ:=by
 cases ta
 ·exact(ba false (λk H=>h _ (tD H)))
 ·refine bf (g rfl) λt r=>?_
  exact(ba t (λk H=>h _ (tF (r k H))))
theorem l_{ta:Bool}(h:aN aa n a lm σ ta σ)(g:ta=false->∃t,aN aa n b lm σ t σ):∃t,aN aa n (.A a b) lm σ t σ:=by
 cases ta
 ·refine bf (g rfl) λt r=>?_
  exact(ba t (λk H=>h _ (tD (r k H))))
 ·exact(ba true (λk H=>h _ (tF H)))
end
noncomputable def gw:Str:="\n\u0085\u2028\u2029"
noncomputable def A4:Str:=" \n\u0085\u2028\u2029"
def cU(c:Nat):Bool:=!(dV gw ⟨#[c]⟩ 0 gw.length 1).isEmpty
def mZ(c:Nat):Bool:=!(dV A4 ⟨#[c]⟩ 0 A4.length 1).isEmpty
theorem of(c:Nat):cU c=true↔c=10\/c=133\/c=8232\/c=8233:=by delta cU;rw[StrLaws.found_one,show gw.cps.toList=[10,133,8232,8233]from rfl];simp
theorem sQ(c:Nat):mZ c=true↔c=32\/c=10\/c=133\/c=8232\/c=8233:=by delta mZ;rw[StrLaws.found_one,show A4.cps.toList=[32,10,133,8232,8233]from rfl];simp
theorem vF(c d:Nat):((⟨#[c]⟩:Str)==⟨#[d]⟩)=decide (c=d):=by rw[Bool.eq_iff_iff,beq_iff_eq,decide_eq_true_eq];exact⟨λh=>by injection h with h;simpa using h,λh=>by rw[h]⟩
def ww(v:V)(t:Str)(e:Nat):Prop:=(v=.g/\t.length<=e)\/∃c,v=.e ⟨#[c]⟩/\t.cps[e]? =au c/\e<t.length
structure bW(e:aw)(i:Int):Prop where
 d:e.c=.q i
 c:0<i
 b:i<=1000
 a:dh e.a.a.cps.toList
theorem bW.k{e:aw}{i:Int}(h:bW e i):e.a.a.length<=2:=by rw[←dO];exact h.a.k
theorem bW.aj{e:aw}{i:Int}(h:bW e i)(w:aF):bW (e.aj w) i:=⟨h.d,h.c,h.b,h.a⟩
abbrev cq(s b S:Bool):ah:=[(181,.l s),(180,.l b),(142,.l S)]
abbrev wy(n:Nat)(t:Str)(s e:Nat)(v:V)(a b c:Bool)(e0:aw):Prop:=∃S w,av aa (n+3) (.B FT FZ Gf) (a_ t s e v (cq a b c)) (ac e0) .a (a_ t S e v (cq a b c)) (ac (e0.aj w))/\(S=s\/S=e)/\0<=w.b/\ao w.a<=ao e0.ae.a+2000
theorem JA(n:Nat)(T:Str)(s e:Nat)(v:V)(G B S:Bool)(e0:aw)(i:Int)(o:bW e0 i)(h:T.length<=64)(z:ww v T e)(L:s<=e)(I:e<=T.length)(M:B=true->s<e)(f:aL e0.ae 2000)(H:0<=e0.ae.b):wy n T s e v G B S e0:=by
 have A:aL e0.ae 0:=by delta aL at f⊢;exact aO 0x4630c0d0a0804630c0d07d0c0811 f
 have C:=jP T s e;have j:=jO e0.ae (aW T s e);have D:=m_ e0.ae i e0.a.a (ai H o.b) o.k;cases G with
 |true=>
  have P:∀t:Bool,∃w,av aa (n+3) (match t with
    |true=>FW|false=>FX) (a_ T s e v (cq true B S)) (ac e0) .a (a_ T s e v (cq true B S)) (ac (e0.aj w))/\0<=w.b/\ao w.a<=ao e0.ae.a+2000
   |true=>(bx _ (.h _ (lX n e0 i (.inr o.d) (by delta aL at f⊢;exact aO 0x4630c0daa0804630c0d07d0c0811 f) o.k (ai H (by have:=o.b;exact dj 0xf4240d003e8c011 this)))) (A3 H _ _) (aC 0x7d0c18003ecc18011 D))|false=>(bx _ (nc (n:=n+2) rfl A .j) (nv H _) (bS 0x7d0c18040b313211a2818013 (aJ j) C h))
  obtain⟨t,u⟩:∃t,aN aa (n+3) FV (a_ T s e v (cq true B S)) (ac e0) t (ac e0):=
   iS (ta:=(s:Int)+1==(e:Int)) .b λ_=>iS (ta:=decide (e0.a.c<e0.ae.b)) .b λ_=>iS (ta:=S) .b λ_=>iS (ta:=(s:Int) !=0) .b λ_=>(ba ((e:Int) !=(T.length:Int)) .b)
  refine bY (P t) λw r p q=>?_
  have b:av aa (n+3) FY (a_ T s e v (cq true B S)) (ac e0) .a (a_ T e e v (cq true B S)) (ac (e0.aj w)):=by
   refine .d (l1:=a_ T s e v (cq true B S)) (σ1:=ac (e0.aj w)) ?_ .b;cases t
   ·exact .bq u r
   ·exact .a u r
  have g:∀t:Bool,(ij t (ac e0)=(ae aa (aZ aa (n+3)) FU).a (a_ T s e v (cq true B S)) (ac e0))->wy n T s e v true B S e0:=λt h=>by
   cases t
   ·exact(eE s e0.ae (.f (.d (.e (e:=h) .j) .j)) (.inl rfl) H (by exact bi _ _))
   ·exact(eE e w (.f (.d (.f (e:=h) b) .j)) (.inr rfl) p q)
  rcases z with⟨rfl,_⟩|⟨c,rfl,_⟩
  ·exact g true (by kernel_rfl!)
  ·exact g ((⟨#[c]⟩:Str) !=(" ":Str)) (by kernel_rfl!)
 |false=>
  cases B with
  |true=>
   have E:=M rfl;refine ap (jc (x:=T) (e:=s) (bc 0x11a2801a2811012 I E)) λc N _=>?_
   have d:aN aa (n+3) zt (a_ T s e v (cq false true S)) (ac e0) ((⟨#[c]⟩:Str)==("\n":Str)) (ac e0):=λk O=>aP (a:=∃c,((-1000000000:Int)<=(s:Int)/\(s:Int)<=1000000000)/\gT T (s:Int)=au c/\k ((⟨#[c]⟩:Str)==("\n":Str)) (ac e0)) (bx c (oh (bc 0xf4240d040b212111013 L I h)) N O)
   obtain⟨W,R,U,Q⟩:∃W,av aa (n+3) (.B zt Ga .j) (a_ T s e v (cq false true S)) (ac e0) .a (a_ T s e v (cq false true S)) (ac (e0.aj W))/\0<=W.b/\ao W.a<=ao e0.ae.a+3:=by
    cases l:((⟨#[c]⟩:Str)==("\n":Str))
    ·rw[l]at d;exact(bx e0.ae (.bq d .j) H (by exact bi _ _))
    ·rw[l]at d;exact(bx _ (.a d (.h _ (mY (n+1) e0 A))) (gt 0) (by rw[kT];have:=o.k;exact aC 0x3a181a08182a011 this))
   have J:=sL e0.a.a o.k (aW T s e).cps.toList W;rw[dO]at J;have F:=Qh e0.a.a (aW T s e).cps.toList W U;have K:=m_ (gi e0.a.a W (aW T s e).cps.toList) i e0.a.a (ai F o.b) o.k;have b:av aa (n+3) Gb (a_ T s e v (cq false true S)) (ac e0) .a (a_ T e e v (cq false true S)) (ac (e0.aj ((gi e0.a.a W (aW T s e).cps.toList).c i e0.a.a))):=by refine .d R (sM (n:=n+1) (e0:=e0.aj W) rfl o.k (by exact cO ‹_›) (by delta aL at f⊢;show ao W.a+3*T.length<=_;exact bc 0x4630c0d000000391804630c0d07d0c2813a281140b033 h Q f) ?_);exact .z (y:=F_) (lm1:=a_ T s e v (cq false true S)) (lX n (e0.aj (gi e0.a.a W (aW T s e).cps.toList)) i (.inr o.d) (by delta aL at f⊢;show ao (gi _ _ _).a+10<=_;exact fN 0x4630c0daa0804630c0d07d0c48140b333a48113232000003918015 J C Q h f) o.k (ai F (by have:=o.b;exact dj 0xf4240d003e8c011 this))) .b
   have g:∀t:Bool,(ij t (ac e0)=(ae aa (aZ aa (n+3)) F0).a (a_ T s e v (cq false true S)) (ac e0))->wy n T s e v false true S e0:=λt h=>by
    cases t
    ·exact(eE s e0.ae (.e (.d (.f (.d (.e (e:=h) .j) .j)) .j)) (.inl rfl) H (by exact bi _ _))
    ·exact(eE e _ (.e (.d (.f (.d (.f (e:=h) b) .j)) .j)) (.inr rfl) (A3 F _ _) (by lia))
   rcases z with⟨rfl,_⟩|⟨c,rfl,_⟩
   ·exact g true (by kernel_rfl!)
   ·exact g ((dV gw ⟨#[c]⟩ 0 gw.length 1).isEmpty) (by kernel_rfl!)
  |false=>
   obtain⟨m,w,b,X,Y,Z⟩:∃m w,av aa (n+3) Ge (a_ T s e v (cq false false S)) (ac e0) .a (a_ T m e v (cq false false S)) (ac (e0.aj w))/\(m=s\/m=e)/\0<=w.b/\ao w.a<=ao e0.ae.a+2000:=by
    have d:aN aa (n+3) Gc (a_ T s e v (cq false false S)) (ac e0) (decide ((s:Int)<(e:Int))) (ac e0):=.b;cases l:decide ((s:Int)<(e:Int))
    ·rw[l]at d;exact(eE s e0.ae (.d (.bq d .j) .j) (.inl rfl) H (by exact bi _ _))
    ·rw[l]at d;exact(eE e (e0.ae.f (aW T s e)) (.d (.a d (nc (n:=n+2) rfl A (.b (x:=Gd) (l':=a_ T e e v (cq false false S))))) .j) (.inr rfl) (nv H _) (bS 0x7d0c18040b313211a2818013 (aJ j) C h))
   have g:∀t:Bool,aN aa (n+3) zu (a_ T s e v (cq false false S)) (ac e0) t (ac e0)->wy n T s e v false false S e0:=λt h=>by
    cases t
    ·exact(eE s e0.ae (.e (.d (.e (.d (.bq h .j) .j)) .j)) (.inl rfl) H (by exact bi _ _))
    ·exact(eE m w (.e (.d (.e (.d (.a h b) .j)) .j)) X Y Z)
   rcases z with⟨rfl,_⟩|⟨c,rfl,_⟩
   ·exact g true .b
   ·obtain⟨t,u⟩:∃t,aN aa (n+3) zu (a_ T s e (.e ⟨#[c]⟩) (cq false false S)) (ac e0) t (ac e0):=
     l_ (ta:=false) .b λ_=>l_ (ta:=mZ c) .b λ_=>(ba ((⟨#[c]⟩:Str)==("'":Str)) .b)
    exact g t u
theorem QP(n:Nat)(t:Str)(s e c:Nat)(b B S:Bool)(e0:aw)(f:s<=e)(g:aL e0.ae 10)(i:0<=e0.ae.b):
  ∃s' d w,av aa (n+1) FS (a_ t s e (.e ⟨#[c]⟩) (cq b B S)) (ac e0) .a (dr t s' (e+1) (cq ((⟨#[c]⟩:Str)==(" ":Str)) d S)) (ac (e0.aj w))/\s'<=e+1/\(d=true->s'<e+1)/\0<=w.b/\ao w.a<=ao e0.ae.a+10:=by
 have l:aL e0.ae 0:=by delta aL at g⊢;exact aO 0x4630c0d0a0804630c0daa0811 g
 cases H:(⟨#[c]⟩:Str)==("'":Str)
 ·refine(ni s (cU c) e0.ae (.d (l1:=a_ t s e (.e ⟨#[c]⟩) (cq b B S)) (σ1:=ac e0) (.bq (λk m=>?_) .j) (.m (l1:=a_ t s (e+1) (.e ⟨#[c]⟩) (cq ((⟨#[c]⟩:Str)==(" ":Str)) (cU c) S)) .b ?_)) (aC 7004491793 f) (λ_=>(aC 0x1a181a081011 f)) i (by exact bi _ _))
  ·exact aP (a:=k ((⟨#[c]⟩:Str)==("'":Str)) (ac e0)) (by rw[H];exact m)
  ·exact .p rfl (.p rfl (.p rfl (.p rfl (.p rfl (.p rfl (.p rfl .j))))))
 ·have o:c=39:=by
   have p:("'":Str)=⟨#[39]⟩:=rfl;rw[p,vF]at H;exact of_decide_eq_true H
  subst o;have j:=jO e0.ae ("''":Str);rw[show("''":Str).length=2 from rfl]at j;refine(ni (e+1) false (e0.ae.f ("''":Str)) (.d (l1:=a_ t (e+1) e (.e ⟨#[39]⟩) (cq b B S)) (σ1:=ac (e0.aj (e0.ae.f ("''":Str)))) (.f ?_) (.m (l1:=a_ t (e+1) (e+1) (.e ⟨#[39]⟩) (cq ((⟨#[39]⟩:Str)==(" ":Str)) false S)) .b ?_)) (by exact ds _) (λh=>by(injection h;done)) (nv i _) (aC 0xaa1801a2a818011 (aJ j)))
  ·refine .m (l1:=aU 154 (.e ("''":Str)) (a_ t (e+1) e (.e ⟨#[39]⟩) (cq b B S))) (.z (y:=FR) (lm1:=aU 154 (.e ("''":Str)) (a_ t s e (.e ⟨#[39]⟩) (cq b B S))) (lW n (e0.aj ⟨e0.ae.b+2,e0.ae.l,e0.ae.h,e0.ae.e,e0.ae.a⟩) ("''":Str) l) .b) (.d .a rfl)
  ·exact .p rfl (.p rfl (.p rfl (.p rfl (.p rfl (.p rfl (.p rfl .j))))))
theorem QQ(n:Nat)(t:Str)(s e:Nat)(S b a:Bool)(e0:aw)(i:Int)(o:bW e0 i)(l:t.length<=64)(m:s<=e)(u:e<=t.length)(v:b=true->s<e)(f:aL e0.ae 2010)(x:0<=e0.ae.b):
  ∃s' k B W,av aa (n+3) zv (dr t s e (cq S b a)) (ac e0) .a (dr t s' (e+1) (cq k B a)) (ac (e0.aj W))/\s'<=e+1/\(B=true->s'<e+1)/\0<=W.b/\ao W.a<=ao e0.ae.a+2010:=by
 have H:aL e0.ae 2000:=by delta aL at f⊢;exact aO 0x4630c0d07d0c0804630c0d07dac0811 f
 by_cases g:e<t.length
 ·refine ap (jc g) λc _ y=>?_
  refine fA (JA n t s e (.e ⟨#[c]⟩) S b a e0 i o l (.inr (bx c rfl y g)) m u v H x) λj w r A p q=>?_
  (refine AN (QP (n+2) t j e c S b a (e0.aj w) (by rcases A with rfl|rfl<;>lia) (by delta aL at f⊢;show ao w.a+10<=_;exact aC 0x4630c0daa0804630c0d07dac18107d0c18012 q f) p) λC D z R E F P G=>?_);have Q:ao z.a<=ao w.a+10:=G;refine(JR C ((⟨#[c]⟩:Str)==(" ":Str)) D z (md rfl (by exact cO ‹_›) (λI d _=>?_) (λh=>(gh (aC 0xa1a01111a0812 g h)))) E F P (bc 0x7dac182aa082107d0c18012 q Q));rw[y]at d;(injection d with Z;subst Z);exact .d r R
 ·refine fA (JA n t s e .g S b a e0 i o l (.inl (ai rfl (aC 1052689 (JS g)))) m u v H x) λj w r A p q=>?_
  refine(JR j S b w (md rfl (by exact cO ‹_›) (λI _ h=>by trivial) (λh=> .d r (.m (l1:=a_ t j (e+1) .g (cq S b a)) .b (.p rfl (.p rfl (.p rfl (.p rfl (.p rfl (.p rfl (.p rfl .j)))))))))) (by rcases A with rfl|rfl<;>lia) (λ_=>by rcases A with rfl|rfl<;>lia) p (aC 0x7dac18007d0c18011 q))
theorem QR(n:Nat)(t:Str)(c:Bool)(e0:aw)(i:Int)(o:bW e0 i)(m:t.length<=64):∀(d s e:Nat) (S b:Bool) (w:aF),t.length+1-e=d->s<=e->e<=t.length+1->(b=true->s<e)->aL w (2010*d)->0<=w.b->
  ∃W,av aa (n+3) (.k FQ zv) (dr t s e (cq S b c)) (ac (e0.aj w)) .a [(9,aB)] (ac (e0.aj W))/\0<=W.b/\ao W.a<=ao w.a+2010*d
 |0,s,e,S,b,w,h,p,f,r,H,g=>by have:¬((e:Int)<=(t.length:Int)):=x3.2 (g7.2 (bc 0x21a080a112181a0812 (d_ _ _) (aJ h)));refine(bx w (.m (.s (λk j=>aP (a:=k (decide ((e:Int)<=(t.length:Int))) (ac (e0.aj w))) (by rw[decide_eq_false this];exact j))) (.p rfl .j)) g (by exact bi _ _))|d+1,s,e,S,b,w,h,p,f,r,H,g=>by have:(e:Int)<=(t.length:Int):=g5.2 (bS 0x2101a3811a2810812 (cX (aC 0x1a1801a18011 f)) (aJ h.symm));(refine QS (QQ n t s e S b c (e0.aj w) i (o.aj w) m p (aC 1052689 (g5.1 this)) r (by delta aL at H⊢;show ao w.a+2010<=_;exact aC 0x4630c0d07dac0804630c0d1a180007da90811 H) g) λv l B u R A x P Q=>?_);have q:ao u.a<=ao w.a+2010:=Q;(refine bY (QR n t c e0 i o m d v (e+1) l B u (ea (fN 0x141a281a384813081a2811a18013 (aJ h) (d_ _ _) (cX (aC 0x1a181a081011 (g5.1 this)))) (fN 0x301a2841811a48381a28111a0813 (aJ h.symm) (d_ _ _) (cX (aC 0x1a1801a18011 f)))) A (aC 0x1a181a081011 (g5.1 this)) x (by delta aL at H⊢;exact bc 0x4630c0d10007da92807dac082104630c0d1a180007da90812 H q) P) λy z C D=>?_);exact(bx y (.q (λk j=>aP (a:=k (decide ((e:Int)<=(t.length:Int))) (ac (e0.aj w))) (by rw[decide_eq_true this];exact j)) R z) C (bS 0x1a380007da918230007da9082107dac18012 q D))
structure bL(nl:Str)(w:aF):Prop where
 b:gu w
 l:w.l=true->¬bV (bP w.a) λc=>c=46
 n:w.e=true\/i_ nl.cps.toList (bP w.a)
structure ja(nl:Str)(k:Nat)(w w':aF):Prop extends bL nl w' where
 ao:ao w'.a<=ao w.a+k
theorem JT{nl:Str}(hn:dh nl.cps.toList){k:Nat}{w W:aF}{q:Str}{c:Nat}(H:q=⟨#[c]⟩)(a:c≠46/\c≠10/\c≠13)(b:0<=W.b)(h:ao W.a+3<=ao w.a+k):ja nl k w (W.d q false false false):=by
 subst H;refine⟨⟨.d b (show 0<(⟨#[c]⟩:Str).length from Nat.one_pos) _ _ _,(λh=>by(injection h;done)),.inr (qw hn ?_)⟩,?_⟩
 ·show bV (bP (W.a++[.e (W.k ⟨#[c]⟩ false)])) _;rw[jQ];refine bV.b ?_;have:W.k ⟨#[c]⟩ false=⟨#[c]⟩:=by delta aF.k;cases W.l<;>rfl
  rw[this];exact(cg [] c rfl a)
 ·have:=fO W ⟨#[c]⟩ false false false;have d:(⟨#[c]⟩:Str).length=1:=rfl;exact fN 0x21831a412a4808312183a0813 h this (aJ d)
theorem Ou(n:Nat)(t:Str)(s:Bool)(e0:aw)(i:Int)(o:bW e0 i)(a:t.length<=16)(H:aL e0.ae 35000)(d:0<=e0.ae.b):
  ∃W,bd aa (n+4) 695 [aB,.e t,.l s] (ac e0) .g (ac (e0.aj W))/\ja e0.a.a 35000 e0.ae W:=by
 have b:=fO e0.ae ("'":Str) true false false;rw[show("'":Str).length=1 from rfl]at b;have e:2010*(t.length+1)<=2010*17:=k8 _ (aO 0x11b1a0810b011 a);(refine bY (QR n t s e0 i o (aO 0x40b010b011 a) (t.length+1) 0 0 false false (e0.ae.d ("'":Str) true false false) (ea (aC 0x1a1801a18011 (o8 _ _)) (aC 0x11a080a181a0811 (d_ _ _))) (ds _) (aO 27295904) (λh=>by(injection h;done)) (by delta aL at H⊢;exact bc 0x4630c0d1a080007da91804630c0d88b8c2812a1a8281110b0007da900007da913 (gv 2010 a) b H) (gu.d d (by decide) _ _ _).b) λw r p q=>?_);refine(aE (w.d ("'":Str) false false false) (.e ⟨[9,179,142],[.l true],Gi,none⟩ (l':=[(9,aB)]) ?_) (JT o.a (c:=39) rfl (by decide) p (bS 0x88b8c183a2810b0007da930007da911a380007da908212a1a818013 b q (gv 2010 a))));refine .z (y:=Gh) (lm1:=[(9,aB),(179,.e t),(142,.l s)]) (fz (n+1) e0 ("'":Str) true false false (by delta aL at H⊢;exact aO 0x4630c0d0a0804630c0d88b8c0811 H) (by decide)) ?_;refine .bE (y:=Gg) (lm1:=[(9,aB),(179,.e t),(142,.l s),(181,.l false),(180,.l false),(153,.q (0:Nat)),(152,.q (0:Nat))]) (σ1:=ac (e0.aj (e0.ae.d ("'":Str) true false false))) ?_;refine .d (l1:=[(9,aB)]) (r.p (.p rfl (.p rfl (.p rfl (.p rfl (.p rfl (.p rfl (.p rfl .j)))))))) ?_;exact .h [(9,aB)] (fz (n+1) (e0.aj w) ("'":Str) false false false (by delta aL at H⊢;show ao w.a+0<=_;exact bS 0x4630c0d0a0804630c0d88b8c3812a1a8381110b0007da920007da911a280007da918014 q (gv 2010 a) b H) (by decide))
section
variable {n:Nat} {lm:ah} {σ:af} {a b:aq}
theorem As(h:∃t,aN aa n a lm σ t σ):∃t,aN aa n (.n a) lm σ t σ:=by(refine bf h λt r=>?_;clear h);exact(ba (!t) (λk H=>r (λb s=>k (!b) s) H))
theorem At(h:∃t,aN aa n a lm σ t σ)(g:∃t,aN aa n b lm σ t σ):∃t,aN aa n (.A a b) lm σ t σ:=by(refine bf h λt r=>?_;clear h);exact l_ r λ_=>g
theorem Ri{ta:Bool}(h:aN aa n a lm σ ta σ)(g:∃t,aN aa n b lm σ t σ):∃t,aN aa n (.C a b) lm σ t σ/\(t=true->ta=true):=by
 cases ta
 ·exact(aE false (λk H=>h _ (tD H)) (λq=>q))
 ·(refine bf g λt r=>?_;clear g);exact(aE t (λk H=>h _ (tF (r k H))) (λ_=>rfl))
theorem A9{b1 b2 b3:Bool}(e:vO b1 (ij b2 σ) (ij b3 σ)=(ae aa (aZ aa n) a).a lm σ):∃t,aN aa n a lm σ t σ:=by
 cases b1
 ·exact(ba b3 (λk h=>aP h (congrFun e k)))
 ·exact(ba b2 (λk h=>aP h (congrFun e k)))
theorem Rj{b1 b2:Bool}(e:vO b1 (ij b2 σ) (ij false σ)=(ae aa (aZ aa n) a).a lm σ):aN aa n a lm σ (b1&&b2) σ:=by
 cases b1
 ·exact λk h=>aP h (congrFun e k)
 ·exact λk h=>aP h (congrFun e k)
end
structure fE(t:Str):Prop where
 k:t.length<=16
 a:∀c∈t.cps.toList,c<1114112
 b:13∉t.cps.toList
 d:8233∉t.cps.toList
theorem fE.i{t:Str}(h:fE t){e c:Nat}(H:t.cps[e]? =au c):c∈t.cps.toList:=by rw[←ey]at H;exact g8 H
theorem Rk:∀(f:List (Str×V)) (x:Str) (v:V),(f.all λp=>match p.2 with
  | .e z=>decide (z.length<=1)|_=>false)=true->eS x f=au v->∃z,v=.e z/\z.length<=1
 |[],_,_,_,h=>by(injection h;done)|(y,w)::r,x,v,H,h=>by
  rw[i',di]at H;unfold eS at h;split at h
  ·(injection h with Z;subst Z);have:=H.1;dsimp only at this;split at this
   ·exact(aE _ rfl (of_decide_eq_true this))
   ·(injection this;done)
  ·exact Rk r x v H.2 h
def tN:List (Str×V):=match nX with
 | .c f=>f|_=>[]
theorem Rl:(tN.all λp=>match p.2 with
  | .e z=>decide (z.length<=1)|_=>false)=true:=by decide+kernel
noncomputable abbrev dK(s:Bool):ah:=[(142,.l s)]
abbrev jl(d t:Str)(s e:Nat)(v:V)(x:ah):ah:=(154,.e d)::a_ t s e v x
theorem Rm(n:Nat)(t:Str)(s e c:Nat)(b:Bool)(e0:aw)(w:c<1114112):∃z:Str,z.length<=12/\av aa n (.B vn Gv Gw) (a_ t s e (.e ⟨#[c]⟩) (dK b)) (ac e0) .a (jl z t s e (.e ⟨#[c]⟩) (dK b)) (ac e0):=by
 have x:=bw;have S:∀z:Str,bO (jl z t s e (.e ⟨#[c]⟩) (dK b)) (aU 154 (.e z) (a_ t s e (.e ⟨#[c]⟩) (dK b))):=λz=> .c .a rfl
 have H:(0:Int)<=(c:Int)/\(c:Int)<10^9:=by lia
 have f:∀k,k<=8->(iI k (c:Int).natAbs).length<=8:=λk h=>A_ (K:=8) H.1 H.2 (ai h rfl)
 cases g:(eS ⟨#[c]⟩ tN).isSome
 ·have i:aN aa n vn (a_ t s e (.e ⟨#[c]⟩) (dK b)) (ac e0) false (ac e0):=λk h=>aP (a:=k (eS ⟨#[c]⟩ tN).isSome (ac e0)) (by rw[g];exact h)
  cases j: !decide (("\u00ff":Str).cps.toList<(⟨#[c]⟩:Str).cps.toList)
  ·cases l: !decide (("\uffff":Str).cps.toList<(⟨#[c]⟩:Str).cps.toList)
   ·refine(aE ("\\U"++iI 8 (c:Int).natAbs) (by rw[de,show("\\U":Str).length=2 from rfl];have:=f 8 (by trivial);exact aO 0xca02a88a011 this) (.m (.bq i (.d (.bq (σ1:=ac e0) (λk h=>aP (a:=k (!decide (("\u00ff":Str).cps.toList<(⟨#[c]⟩:Str).cps.toList)) (ac e0)) (by rw[j];exact h)) (.d (.bq (σ1:=ac e0) (λk h=>aP (a:=k (!decide (("\uffff":Str).cps.toList<(⟨#[c]⟩:Str).cps.toList)) (ac e0)) (by rw[l];exact h)) (.fy H)) .j)) .j)) (S _)))
   ·refine(aE ("\\u"++iI 4 (c:Int).natAbs) (by rw[de,show("\\u":Str).length=2 from rfl];have:=f 4 (by trivial);exact aO 0xca02a88a011 this) (.m (.bq i (.d (.bq (σ1:=ac e0) (λk h=>aP (a:=k (!decide (("\u00ff":Str).cps.toList<(⟨#[c]⟩:Str).cps.toList)) (ac e0)) (by rw[j];exact h)) (.d (.a (σ1:=ac e0) (λk h=>aP (a:=k (!decide (("\uffff":Str).cps.toList<(⟨#[c]⟩:Str).cps.toList)) (ac e0)) (by rw[l];exact h)) (.fy H)) .j)) .j)) (S _)))
  ·refine(aE ("\\x"++iI 2 (c:Int).natAbs) (by rw[de,show("\\x":Str).length=2 from rfl];have:=f 2 (by trivial);exact aO 0xca02a88a011 this) (.m (.bq i (.d (.a (σ1:=ac e0) (λk h=>aP (a:=k (!decide (("\u00ff":Str).cps.toList<(⟨#[c]⟩:Str).cps.toList)) (ac e0)) (by rw[j];exact h)) (.fy H)) .j)) (S _)))
 ·have o:aN aa n vn (a_ t s e (.e ⟨#[c]⟩) (dK b)) (ac e0) true (ac e0):=λk h=>aP (a:=k (eS ⟨#[c]⟩ tN).isSome (ac e0)) (by rw[g];exact h)
  refine bf (o4.mp g) λv m=>?_
  (refine ap (Rk _ _ _ Rl m) λz E d=>?_;subst E);have p:("\\":Str).length+z.length<=sizeLine:=by rw[show("\\":Str).length=1 from rfl];exact aO 0x1000000d01a81a011 d
  refine(aE ("\\"++z) (by rw[de,show("\\":Str).length=1 from rfl];exact aO 0xca01a81a011 d) (.m (.a o (λk h=>?_)) (S _)));refine aP (a:=(qK (eS ⟨#[c]⟩ tN)).bD (ac e0) λv q=>pe .Add (.e "\\") v q λu r=>k .a (aU 154 u (a_ t s e (.e ⟨#[c]⟩) (dK b))) r) ?_;rw[m];exact(ai p (h _ .a))
theorem Be{n:Nat}{fl:bH}{l':ah}{σ':af}{rest:ag}{d t:Str}{s e:Nat}{v:V}{x:ah}{e0:aw}(h:aL e0.ae 0)(r:av aa (n+1) rest (jl d t s e v x) (ac (e0.aj (e0.ae.f d))) fl l' σ'):
  av aa (n+1) (.d (.h (.w (.d 9) 46) .Add (.z (.G 67) (.p (.d 154) .j) .j)) (.d (.l (.E (.w (.d 9) 30) 177 (.p (.d 154) .j) .j)) rest)) (jl d t s e v x) (ac e0) fl l' σ':=
 .z (y:=rest) (lm1:=jl d t s e v x) (lW n (e0.aj ⟨e0.ae.b+(d.length:Int),e0.ae.l,e0.ae.h,e0.ae.e,e0.ae.a⟩) d h) r
theorem Bg{d t:Str}{s e:Nat}{v:V}{S:Bool}:bO (a_ t s e v (dK S)) (jl d t s e v (dK S)):=.p rfl (.p rfl (.p rfl (.p rfl (.p rfl (.p rfl .j)))))
theorem RU(n:Nat)(T:Str)(s e:Nat)(v:V)(S:Bool)(e0:aw)(d:fE T)(m:ww v T e)(j:s<=e)(H:aL e0.ae 100)(f:0<=e0.ae.b):
  ∃s' W,av aa (n+3) (.B zA Gz .j) (a_ T s e v (dK S)) (ac e0) .a (a_ T s' e v (dK S)) (ac (e0.aj W))/\s'<=e+1/\0<=W.b/\ao W.a<=ao e0.ae.a+100:=by
 have h:=d.k;have o:aL e0.ae 0:=by delta aL at H⊢;exact aO 0x4630c0d0a0804630c0d64b0811 H
 have u:=jP T s e;have g:=jO e0.ae (aW T s e);obtain⟨a,w,r,A,p,q⟩:∃a w,av aa (n+3) (.B zB Gy .j) (a_ T s e v (dK S)) (ac e0) .a (a_ T a e v (dK S)) (ac (e0.aj w))/\a<=e/\0<=w.b/\ao w.a<=ao e0.ae.a+65:=by
  have b:aN aa (n+3) zB (a_ T s e v (dK S)) (ac e0) (decide ((s:Int)<(e:Int))) (ac e0):=.b;cases k:decide ((s:Int)<(e:Int))
  ·rw[k]at b;exact(eE s e0.ae (.bq b .j) j f (by exact bi _ _))
  ·rw[k]at b;exact(eE e (e0.ae.f (aW T s e)) (.a b (nc (n:=n+2) rfl o (.b (x:=Gx) (l':=a_ T e e v (dK S))))) (ds _) (nv f _) (bS 0x41b18010b313211a2818013 (aJ g) u h))
 have y:aL w 0:=by delta aL at H⊢;exact aC 0x4630c0d0a0804630c0d64b18141b18012 q H
 rcases m with⟨rfl,_⟩|⟨c,rfl,B,_⟩
 ·exact(eE a w (.f (.d r (.d (.e .j) .j))) (aC 7004491793 A) p (aC 0x64b18041b18011 q))
 ·obtain⟨t,l⟩:∃t,aN aa (n+3) zA (a_ T s e (.e ⟨#[c]⟩) (dK S)) (ac e0) t (ac e0):=
   l_ (ta:=false) .b λ_=>l_ (ta:=!(dV ("\"\\\u0085\u2028\u2029\ufeff":Str) ⟨#[c]⟩ 0 ("\"\\\u0085\u2028\u2029\ufeff":Str).length 1).isEmpty) .b λ_=>As (At
    (A9 (b1:=!decide ((⟨#[c]⟩:Str).cps.toList<(" ":Str).cps.toList)) (b2:=!decide (("~":Str).cps.toList<(⟨#[c]⟩:Str).cps.toList)) (b3:=false) (by kernel_rfl!))
    (iS (ta:=e0.a.d) .b λ_=>At
     (A9 (b1:=!decide ((⟨#[c]⟩:Str).cps.toList<("\u00a0":Str).cps.toList)) (b2:=!decide (("\ud7ff":Str).cps.toList<(⟨#[c]⟩:Str).cps.toList)) (b3:=false) (by kernel_rfl!))
     (A9 (b1:=!decide ((⟨#[c]⟩:Str).cps.toList<("\ue000":Str).cps.toList)) (b2:=!decide (("\ufffd":Str).cps.toList<(⟨#[c]⟩:Str).cps.toList)) (b3:=false) (by kernel_rfl!))))
  cases t
  ·exact(eE s e0.ae (.bq l .j) (aC 7004491793 j) f (by exact bi _ _))
  ·refine ap (Rm (n+3) T a e c S (e0.aj w) (d.a c (d.i B))) λz i R=>?_
   have C:=jO w z;refine(eE (e+1) (w.f z) (.a l (.d r (.d (.f (.d R (Be (n:=n+2) (e0:=e0.aj w) y (.m (l1:=jl z T (e+1) e (.e ⟨#[c]⟩) (dK S)) (.b (x:=Gu)) Bg)))) .j))) (ds _) (nv p _) (bS 0x64b182ca311a38082141b18013 q (aJ C) i))
theorem RV(n:Nat)(T:Str)(s e:Nat)(v:V)(S:Bool)(e0:aw)(i:Int)(O:bW e0 i)(F:fE T)(G:ww v T e)(C:s<=e+1)(o:aL e0.ae 1300)(r:0<=e0.ae.b):
  ∃s' u,av aa (n+3) (.B zx Gr .j) (a_ T s e v (dK S)) (ac e0) .a (a_ T s' e v (dK S)) (ac (e0.aj u))/\s'<=e+1/\0<=u.b/\ao u.a<=ao e0.ae.a+1300:=by
 have h:=F.k;have I:=bw;have J:aL e0.ae 0:=by delta aL at o⊢;exact aO 0x4630c0d0a0804630c0d0514c0811 o
 have D:=jP T s e;obtain⟨t,E,x⟩:∃t,aN aa (n+3) zx (a_ T s e v (dK S)) (ac e0) t (ac e0)/\(t=true->(decide ((0:Int)<(e:Int))&&decide ((e:Int)<(T.length:Int)-1))=true):=by
  refine Ri (Rj (b1:=decide ((0:Int)<(e:Int))) (b2:=decide ((e:Int)<(T.length:Int)-1)) (by kernel_rfl!)) ?_;obtain⟨Y,K⟩:∃t,aN aa (n+3) (.A (.y .Eq (.d 150) (.e " ")) (.y .GtE (.d 153) (.d 152))) (a_ T s e v (dK S)) (ac e0) t (ac e0):=by
   rcases G with⟨rfl,_⟩|⟨c,rfl,_⟩
   ·exact l_ (ta:=false) .b λ_=>(ba (decide ((e:Int)<=(s:Int))) .b)
   ·exact l_ (ta:=(⟨#[c]⟩:Str)==(" ":Str)) .b λ_=>(ba (decide ((e:Int)<=(s:Int))) .b)
  exact iS K λ_=>iS (ta:=decide (e0.a.c<e0.ae.b+((e:Int)-(s:Int)))) .b λ_=>(ba S .b)
 cases t
 ·exact(eE s e0.ae (.bq E .j) C r (by exact bi _ _))
 ·have x:=x rfl;rw[di,decide_eq_true_eq,decide_eq_true_eq]at x;have L:(aW T s e).length+("\\":Str).length<=sizeLine:=by rw[show("\\":Str).length=1 from rfl];exact aC 0x1000000d1a0810b111012 D h
  have H:(aW T s e++("\\":Str)).length<=65:=by rw[de,show("\\":Str).length=1 from rfl];exact aC 0x41b1a0810b111012 D h
  obtain⟨b,R,M,b2⟩:∃b,av aa (n+3) (.B zy Gp .j) (jl (aW T s e++("\\":Str)) T s e v (dK S)) (ac e0) .a (jl (aW T s e++("\\":Str)) T b e v (dK S)) (ac e0)/\b<=e+1/\b<T.length:=by
   have f:aN aa (n+3) zy (jl (aW T s e++("\\":Str)) T s e v (dK S)) (ac e0) (decide ((s:Int)<(e:Int))) (ac e0):=.b;cases p:decide ((s:Int)<(e:Int))
   ·rw[p]at f;exact(bx s (.bq f .j) C (by lia))
   ·rw[p]at f;exact(bx e (.a f .b) (by exact bi _ _) (by lia))
  refine ap (jc b2) λc N _=>?_
  generalize z:aW T s e++("\\":Str)=d at R H;have g:=jO e0.ae d;have j:=m_ (e0.ae.f d) i e0.a.a (ai (nv r d) O.b) O.k;have m:=A3 (nv r d) i e0.a.a;generalize A:(e0.ae.f d).c i e0.a.a=W at j m;obtain⟨q,P,Q,U⟩:∃q,av aa (n+3) Gm (jl d T b e v (dK S)) (ac (e0.aj ⟨W.b,false,false,W.e,W.a⟩)) .a (a_ T b e v (dK S)) (ac (e0.aj q))/\0<=q.b/\ao q.a<=ao W.a+2:=by
   have f:aN aa (n+3) Gk (jl d T b e v (dK S)) (ac (e0.aj ⟨W.b,false,false,W.e,W.a⟩)) ((⟨#[c]⟩:Str)==(" ":Str)) (ac (e0.aj ⟨W.b,false,false,W.e,W.a⟩)):=λk X=>aP (a:=∃c,((-1000000000:Int)<=(b:Int)/\(b:Int)<=1000000000)/\gT T (b:Int)=au c/\k ((⟨#[c]⟩:Str)==(" ":Str)) (ac (e0.aj ⟨W.b,false,false,W.e,W.a⟩))) (bx c (oh (aC 0xf4240d010b1111a0812 b2 h)) N X)
   cases p:(⟨#[c]⟩:Str)==(" ":Str)
   ·rw[p]at f;exact(bx _ (.m (.d (.bq f .j) .j) Bg) m (bi (ao W.a) 2))
   ·rw[p]at f;have B:ao (aF.f ⟨W.b,false,false,W.e,W.a⟩ ("\\":Str)).a=ao W.a+(1+1):=jO ⟨W.b,false,false,W.e,W.a⟩ ("\\":Str);refine(bx (aF.f ⟨W.b,false,false,W.e,W.a⟩ ("\\":Str)) (.m (.d (.a f (.bE (y:=Gl) (lm1:=jl ("\\":Str) T b e v (dK S)) (σ1:=ac (e0.aj ⟨W.b,false,false,W.e,W.a⟩)) (Be (n:=n+2) (e0:=e0.aj ⟨W.b,false,false,W.e,W.a⟩) ?_ .j))) .j) Bg) (nv (w:=⟨W.b,false,false,W.e,W.a⟩) m _) (aC 0x2a1801a1a818011 (aJ B)));delta aL at o⊢;show ao W.a+0<=_;exact bS 0x4630c0d0a0841b3104630c0d0514c2811a38281103ecc18014 j (aJ g) o H
  refine(eE b q (.a E ?_) M Q (fN 0x514c18441b212a384103ecc08311a2818014 (aJ g) j U H));refine .r (y:=Gq) (lm1:=aU 154 (.e d) (a_ T s e v (dK S))) (σ1:=ac e0) L (.p (l:=jl d T s e v (dK S)) (.c .a rfl) (.d R (Be (n:=n+2) (rest:=Go) J ?_))) ((by subst z;kernel_rfl!));refine .z (y:=Gn) (lm1:=jl d T b e v (dK S)) (lX n (e0.aj (e0.ae.f d)) i (.inr O.d) (by delta aL at o⊢;show ao (e0.ae.f d).a+10<=_;exact bc 0x4630c0daa0841b2104630c0d0514c1811a2818013 (aJ g) o H) O.k (ai (nv r d) (by have:=O.b;exact dj 0xf4240d003e8c011 this))) ?_;rw[show(e0.aj (e0.ae.f d)).aj ((e0.aj (e0.ae.f d)).ae.c i (e0.aj (e0.ae.f d)).a.a)=e0.aj W from by rw[←A];rfl];exact .bE P
theorem RW(n:Nat)(t:Str)(s e:Nat)(S:Bool)(e0:aw)(i:Int)(o:bW e0 i)(f:fE t)(u:s<=e)(B:e<=t.length)(b:aL e0.ae 1400)(x:0<=e0.ae.b):
  ∃s' W,av aa (n+3) zC (dr t s e (dK S)) (ac e0) .a (dr t s' (e+1) (dK S)) (ac (e0.aj W))/\s'<=e+1/\0<=W.b/\ao W.a<=ao e0.ae.a+1400:=by
 have g:=f.k;have G:∀v,ww v t e->∃s' W,av aa (n+3) GA (a_ t s e v (dK S)) (ac e0) .a (dr t s' (e+1) (dK S)) (ac (e0.aj W))/\s'<=e+1/\0<=W.b/\ao W.a<=ao e0.ae.a+1400:=λv j=>by(refine fA (RU n t s e v S e0 f j u (by delta aL at b⊢;exact aO 0x4630c0d64b0804630c0d0578c0811 b) x) λa w r A p q=>?_);(refine fA (RV n t a e v S (e0.aj w) i (o.aj w) f j A (by delta aL at b⊢;show ao w.a+1300<=_;exact aC 0x4630c0d0514c0804630c0d0578c18164b18012 q b) p) λk l R y P z=>?_);have Q:ao l.a<=ao w.a+1300:=z;exact(eE k l (.d r (.d R (.m (l1:=a_ t k (e+1) v (dK S)) .b (.p rfl (.p rfl (.p rfl (.p rfl (.p rfl .j)))))))) y P (bc 0x578c1820514c082164b18012 q Q))
 by_cases d:e<t.length
 ·refine ap (jc d) λc _ m=>?_
  refine fA (G (.e ⟨#[c]⟩) (.inr (bx c rfl m d))) λa w r A p q=>?_
  refine(eE a w (md rfl (by exact cO ‹_›) (λC H _=>?_) (λh=>(gh (aC 0xa1a01111a0812 d h)))) A p q);rw[m]at H;cases H;exact r
 ·refine fA (G .g (.inl (ai rfl (aC 1052689 (JS d))))) λa w r A p q=>?_
  exact(eE a w (md rfl (by exact cO ‹_›) (λC _ h=>by trivial) (λh=>r)) A p q)
theorem RX(n:Nat)(t:Str)(S:Bool)(e0:aw)(i:Int)(o:bW e0 i)(g:fE t):∀(d s e:Nat) (w:aF),t.length+1-e=d->s<=e->e<=t.length+1->aL w (1400*d)->0<=w.b->
  ∃W,av aa (n+3) (.k Gj zC) (dr t s e (dK S)) (ac (e0.aj w)) .a [(9,aB)] (ac (e0.aj W))/\0<=W.b/\ao W.a<=ao w.a+1400*d
 |0,s,e,w,h,j,b,H,c=>by have:¬((e:Int)<=(t.length:Int)):=x3.2 (g7.2 (bc 0x21a080a112181a0812 (d_ _ _) (aJ h)));refine(bx w (.m (.s (λk f=>aP (a:=k (decide ((e:Int)<=(t.length:Int))) (ac (e0.aj w))) (by rw[decide_eq_false this];exact f))) (.p rfl .j)) c (by exact bi _ _))|d+1,s,e,w,h,j,b,H,c=>by have:(e:Int)<=(t.length:Int):=g5.2 (bS 0x2101a3811a2810812 (cX (aC 0x1a1801a18011 b)) (aJ h.symm));(refine fA (RW n t s e S (e0.aj w) i (o.aj w) g j (aC 1052689 (g5.1 this)) (by delta aL at H⊢;show ao w.a+1400<=_;exact aC 0x4630c0d0578c0804630c0d1a1800057890811 H) c) λm l r A p Q=>?_);have q:ao l.a<=ao w.a+1400:=Q;(refine bY (RX n t S e0 i o g d m (e+1) l (ea (fN 0x141a281a384813081a2811a18013 (aJ h) (d_ _ _) (cX (aC 0x1a181a081011 (g5.1 this)))) (fN 0x301a2841811a48381a28111a0813 (aJ h.symm) (d_ _ _) (cX (aC 0x1a1801a18011 b)))) A (aC 0x1a181a081011 (g5.1 this)) (by delta aL at H⊢;exact bc 0x4630c0d10005789280578c082104630c0d1a1800057890812 H q) p) λu R P v=>?_);exact(bx u (.q (λk f=>aP (a:=k (decide ((e:Int)<=(t.length:Int))) (ac (e0.aj w))) (by rw[decide_eq_true this];exact f)) r R) P (bS 0x1a3800057891823000578908210578c18012 q v))
theorem Ov(n:Nat)(t:Str)(s:Bool)(e0:aw)(i:Int)(o:bW e0 i)(b:fE t)(H:aL e0.ae 35000)(d:0<=e0.ae.b):
  ∃W,bd aa (n+4) 704 [aB,.e t,.l s] (ac e0) .g (ac (e0.aj W))/\ja e0.a.a 35000 e0.ae W:=by
 have h:=b.k;have a:=fO e0.ae ("\"":Str) true false false;rw[show("\"":Str).length=1 from rfl]at a;have e:1400*(t.length+1)<=1400*17:=k8 _ (aO 0x11b1a0810b011 h);(refine bY (RX n t s e0 i o b (t.length+1) 0 0 (e0.ae.d ("\"":Str) true false false) (ea (aC 0x1a1801a18011 (o8 _ _)) (aC 0x11a080a181a0811 (d_ _ _))) (ds _) (aO 27295904) (by delta aL at H⊢;exact bc 0x4630c0d1a0800057891804630c0d88b8c2812a1a8281110b00057890000578913 (gv 1400 h) a H) (gu.d d (by decide) _ _ _).b) λw r p q=>?_);refine(aE (w.d ("\"":Str) false false false) (.e ⟨[9,179,142],[.l true],GD,none⟩ (l':=[(9,aB)]) ?_) (JT o.a (c:=34) rfl (by decide) p (bS 0x88b8c183a2810b00057893000578911a38000578908212a1a818013 a q (gv 1400 h))));refine .z (y:=GC) (lm1:=[(9,aB),(179,.e t),(142,.l s)]) (fz (n+1) e0 ("\"":Str) true false false (by delta aL at H⊢;exact aO 0x4630c0d0a0804630c0d88b8c0811 H) (by decide)) ?_;refine .bE (y:=GB) (lm1:=[(9,aB),(179,.e t),(142,.l s),(153,.q (0:Nat)),(152,.q (0:Nat))]) (σ1:=ac (e0.aj (e0.ae.d ("\"":Str) true false false))) ?_;refine .d (l1:=[(9,aB)]) (r.p (.p rfl (.p rfl (.p rfl (.p rfl (.p rfl .j)))))) ?_;exact .h [(9,aB)] (fz (n+1) (e0.aj w) ("\"":Str) false false false (by delta aL at H⊢;show ao w.a+0<=_;exact bS 0x4630c0d0a0804630c0d88b8c3812a1a8381110b00057892000578911a28000578918014 q (gv 1400 h) a H) (by decide))
theorem oZ(w:aF)(s:Str):bP (w.f s).a=bP w.a++s.cps.toList:=jQ _ _
theorem ma(w:aF)(s:Str):bP (w.g s).a=bP w.a++s.cps.toList:=jQ _ _
theorem sJ{t:Str}{s e c:Nat}(a:s<=e)(b:e<=t.length)(h:c∈(aW t s e).cps.toList):∃j,s<=j/\j<e/\t.cps[j]? =au c:=by rw[pb t s e b a]at h;obtain⟨k,H,E⟩:=o1 h;rw[h7,ko]at H;rw[List.getElem_take,List.getElem_drop]at E;have H:=Nat.lt_min.1 H;have d:s+k<t.cps.toList.length:=zw H.2;exact(bx (s+k) (by exact bi _ _) (zw H.1) (by rw[←ey,dt d,E]))
theorem sK{t:Str}{s e:Nat}(d:s<e)(a:e<=t.length){p:Nat->Prop}(h:∀j c,s<=j->j<e->t.cps[j]? =au c->p c):bV (aW t s e).cps.toList p:=by
 have b:(aW t s e).cps.toList.length=e-s:=by rw[pb t s e a (by exact i5 ‹_›),h7,ko,dO];exact o5 (Nat.sub_le_sub_right a s)
 have H:(aW t s e).cps.toList≠[]:=λq=>by rw[q]at b;simp at b;exact gh (bc 0xa1a028110a2111a0813 d (aJ b.symm) (d_ _ _))
 refine(cg _ ((aW t s e).cps.toList.getLast H) ((k6 H).symm) ?_);refine bY (sJ (by exact i5 ‹_›) a (NB H)) λj f g i=>?_
 exact h j _ f g i
theorem mc{t:Str}{j c:Nat}(h:t.cps[j]? =au c):c∈t.cps.toList:=by rw[←ey]at h;exact g8 h
theorem Km{t:Str}(hn:og t.cps.toList){s e:Nat}(H:s<=e)(a:e<=t.length):og (aW t s e).cps.toList:=λc b=>by
 refine bY (sJ H a b) λj _ _ h=>?_
 exact hn c (mc h)
structure lY(t:Str):Prop where
 h:fE t
 a:og t.cps.toList
 b:∀c∈t.cps.toList,cU c=false
 eR:¬eR<+:t.cps.toList
 d:t.length≠0
theorem Ss{t:Str}(h:¬eR<+:t.cps.toList){e:Nat}(H:e<=t.length):(aW t 0 e).cps.toList≠eR:=λq=>by rw[pb t 0 e H (by exact im _ _),A1,ZO]at q;exact h (q▸List.take_prefix _ _)
structure rB(text:Str)(s e:Nat)(sp:Bool)(w:aF):Prop where
 d:s<=e
 l:w.l=false
 h:w.h=false
 b:gu w
 a:sp=false->(s=0/\¬bV (bP w.a) λc=>c=46)\/bV (bP w.a) λc=>c=32
 f:sp=true->s<e/\(¬iR (bP w.a))/\∀j c,s<=j->j<e->text.cps[j]? =au c->c=32
structure Kn(w w':aF)(k:Nat):Prop where
 l:w'.l=false
 b:gu w'
 a:¬iR (bP w'.a)
 j:bV (bP w'.a) λc=>¬dB c
 e:w'.e=w.e
 ao:ao w'.a<=ao w.a+k
theorem vH:¬dB 32:=by rintro (h|h|h|h)<;>cases h
theorem qx{T:List Nat}(h:bV T λc=>c=32):(¬iR T)/\bV T λc=>¬dB c:=by
 refine(ai ?_ (h.a λc H=>by subst H;exact vH));rintro ⟨g,rfl,_⟩;refine ap (h.c pc) λc a b=>?_
 exact gh (aO 0xa1a02eb120b012 (aJ a) (aJ b.symm))
abbrev St(n:Nat)(t:Str)(s e:Nat)(v:V)(S:Bool)(e0:aw):Prop:=∃w,av aa (n+3) Hc (a_ t s e v (cq true false S)) (ac e0) .a (a_ t e e v (cq true false S)) (ac (e0.aj w))/\w.l=false/\w.h=false/\gu w/\(bV (bP w.a) λc=>c=32)/\w.e=e0.ae.e/\ao w.a<=ao e0.ae.a+1100
theorem Ko(n:Nat)(T:Str)(s e:Nat)(v:V)(S:Bool)(e0:aw)(i:Int)(o:bW e0 i)(l:lY T)(m:e<=T.length)(I:rB T s e true e0.ae)(H:aL e0.ae 1100):St n T s e v S e0:=by
 have h:=l.h.k;refine cS (I.f rfl) λY u p=>?_
 have q:aL e0.ae 0:=by delta aL at H⊢;exact aO 0x4630c0d0a0804630c0d044cc0811 H
 have r:=jP T s e;obtain⟨t,d⟩:∃t,aN aa (n+3) Ha (a_ T s e v (cq true false S)) (ac e0) t (ac e0):=iS (ta:=(s:Int)+1==(e:Int)) .b λ_=>iS (ta:=decide (e0.a.c<e0.ae.b)) .b λ_=>(ba S .b)
 cases t
 ·refine(Kp (e0.ae.f (aW T s e)) (.d (.bq d (nc (n:=n+2) rfl q .j)) (.b (x:=zW))) I.l I.h (I.b.f _) ?_ rfl (by rw[jO];exact bc 0x44cc281a082810b111012 r h));rw[oZ];exact(sK Y m p).b
 ·have f:=m_ e0.ae i e0.a.a (ai I.b.b o.b) o.k;have g:e0.ae.j i=true:=by delta aF.j;rw[I.h]
  have a:=I.b.c i o.a;have j:bV (bP (e0.ae.c i e0.a.a).a) λc=>c=32:=by delta aF.c;rw[g];exact sH (w:=e0.ae.g e0.a.a) o.c
  have k:(e0.ae.c i e0.a.a).e=e0.ae.e:=by delta aF.c;rw[g];delta aF.i;split<;>rfl
  generalize b:e0.ae.c i e0.a.a=W at f a j k;refine(Kp ⟨W.b,false,false,W.e,W.a⟩ (.d (l1:=a_ T s e v (cq true false S)) (σ1:=ac (e0.aj ⟨W.b,false,false,W.e,W.a⟩)) (.a d ?_) (.b (x:=zW))) rfl rfl ⟨a.b,a.a⟩ j k (ef f (aO 0x44cc0803ecc080)));refine .z (y:=Hb) (lm1:=a_ T s e v (cq true false S)) (lX n e0 i (.inr o.d) (by delta aL at H⊢;exact aO 0x4630c0daa0804630c0d044cc0811 H) o.k (ai I.b.b (by have:=o.b;exact dj 0xf4240d003e8c011 this))) ?_;rw[b];exact .b
theorem Kq{t:Str}{s e:Nat}{w:aF}(H:lY t)(a:e<=t.length)(I:rB t s e false w):¬iR (bP w.a++(aW t s e).cps.toList):=by
 rcases I.a rfl with⟨rfl,h⟩|h
 ·exact OO (Km H.a I.d a) h (Ss H.eR a)
 ·exact Am (Km H.a I.d a) (h.a λc b=>by subst b;exact(ai (by decide) vH))
abbrev Su(n:Nat)(t:Str)(s e:Nat)(c a:Bool)(e0:aw):Prop:=∃b S w,av aa (n+3) qt (dr t s e (cq c false a)) (ac e0) .a (dr t b (e+1) (cq S false a)) (ac (e0.aj w))/\rB t b (e+1) S w/\w.e=e0.ae.e/\ao w.a<=ao e0.ae.a+1100
theorem Sv(n:Nat)(t:Str)(s e:Nat)(b S:Bool)(e0:aw)(i:Int)(O:bW e0 i)(q:lY t)(A:e<t.length)(I:rB t s e b e0.ae)(v:aL e0.ae 1100):Su n t s e b S e0:=by
 have l:=q.h.k;have D:aL e0.ae 0:=by delta aL at v⊢;exact aO 0x4630c0d0a0804630c0d044cc0811 v
 have E:=jP t s e;refine ap (jc A) λc _ u=>?_
 have f:=q.b c (mc u);have m:((⟨#[c]⟩:Str)==(" ":Str))=decide (c=32):=vF c 32;have o:∀a W,av aa (n+3) zU (a_ t a e (.e ⟨#[c]⟩) (cq b false S)) (ac (e0.aj W)) .a (dr t a (e+1) (cq (decide (c=32)) false S)) (ac (e0.aj W)):=λa W=>by
  have r:av aa (n+3) zU (a_ t a e (.e ⟨#[c]⟩) (cq b false S)) (ac (e0.aj W)) .a (dr t a (e+1) (cq ((⟨#[c]⟩:Str)==(" ":Str)) (cU c) S)) (ac (e0.aj W)):=.m (l1:=a_ t a (e+1) (.e ⟨#[c]⟩) (cq ((⟨#[c]⟩:Str)==(" ":Str)) (cU c) S)) .b (.p rfl (.p rfl (.p rfl (.p rfl (.p rfl (.p rfl (.p rfl .j)))))))
  rw[m,f]at r;exact r
 have w:∀a W,av aa (n+3) (.B zV zX zZ) (a_ t s e (.e ⟨#[c]⟩) (cq b false S)) (ac e0) .a (a_ t a e (.e ⟨#[c]⟩) (cq b false S)) (ac (e0.aj W))->av aa (n+3) qt (dr t s e (cq b false S)) (ac e0) .a (dr t a (e+1) (cq (decide (c=32)) false S)) (ac (e0.aj W)):=λa W r=>md rfl (by exact cO ‹_›) (λU p _=>by rw[u]at p;(injection p with z;subst z);exact .d r (o a W)) λh=>(gh (aC 0xa1a01111a0812 A h))
 cases b with
 |true=>
  refine cS (I.f rfl) λY F G=>?_
  have T:aN aa (n+3) G' (a_ t s e (.e ⟨#[c]⟩) (cq true false S)) (ac e0) (!decide (c=32)) (ac e0):=by rw[←m];exact .b
  by_cases H:c=32
  ·rw[decide_eq_true H]at T w;refine(jt s true e0.ae (w s e0.ae (.f (.d (.bq T .j) .j))) ⟨(aC 0x1a18011a0811 Y),I.l,I.h,I.b,λh=>(by(injection h;done)),λ_=>(cz (aC 0x1a181a0811a0811 Y) F (λj d y B k=>?_))⟩ rfl (by exact bi _ _))
   by_cases J:j=e
   ·subst J;rw[u]at k;(injection k with z;subst z);exact H
   ·exact G j d y (by lia) k
  ·rw[decide_eq_false H]at T w;refine Kr (Ko n t s e (.e ⟨#[c]⟩) S e0 i O q (by exact i5 ‹_›) I v) λC R K L M N P Q=>?_
   exact(jt e false C (w e C (.f (.d (.a T R) .j))) ⟨by exact bi _ _,K,L,M,λ_=> .inr N,λh=>(by(injection h;done))⟩ P Q)
 |false=>
  have T:aN aa (n+3) He (a_ t s e (.e ⟨#[c]⟩) (cq false false S)) (ac e0) (mZ c) (ac e0):=.b
  by_cases H:c=32
  ·rw[decide_eq_true H]at w;have g:mZ c=true:=(sQ c).mpr (.inl H);rw[g]at T;refine(jt e true (e0.ae.f (aW t s e)) (w e _ (.e (.d (.e (.d (.a T (nc (n:=n+2) rfl D (.b (x:=zY) (l':=a_ t e e (.e ⟨#[c]⟩) (cq false false S))))) .j)) .j))) ⟨by exact bi _ _,I.l,I.h,I.b.f _,λh=>(by(injection h;done)),λ_=>(cz (by exact ds _) ?_ (λj d y B k=>?_))⟩ rfl (by rw[jO];exact bc 0x44cc281a082810b111012 E l))
   ·rw[oZ];exact Kq q (by exact i5 ‹_›) I
   ·have:j=e:=ea (aC 0x101a181a0811 B) (aC 1052689 y);subst this;rw[u]at k;(injection k with z;subst z);exact H
  ·rw[decide_eq_false H]at w;have g:mZ c=false:=by
    refine n5.mpr λh=>?_
    rcases(sQ c).mp h with h|h
    ·exact H h
    ·rw[(of c).mpr h]at f;(injection f;done)
   rw[g]at T;exact(jt s false e0.ae (w s e0.ae (.e (.d (.e (.d (.bq T .j) .j)) .j))) ⟨by have:=I.d;exact aC 7004491793 this,I.l,I.h,I.b,I.a,λh=>(by(injection h;done))⟩ rfl (by exact bi _ _))
theorem Sw(n:Nat)(t:Str)(s:Nat)(S a:Bool)(e0:aw)(i:Int)(o:bW e0 i)(H:lY t)(I:rB t s t.length S e0.ae)(d:aL e0.ae 1100):
  ∃s' W,av aa (n+3) qt (dr t s t.length (cq S false a)) (ac e0) .a (dr t s' (t.length+1) (cq S false a)) (ac (e0.aj W))/\Kn e0.ae W 1100:=by
 have b:=H.h.k;have g:aL e0.ae 0:=by delta aL at d⊢;exact aO 0x4630c0d0a0804630c0d044cc0811 d
 have k:=jP t s t.length;have w:∀s' W,av aa (n+3) (.B zV zX zZ) (a_ t s t.length .g (cq S false a)) (ac e0) .a (a_ t s' t.length .g (cq S false a)) (ac (e0.aj W))->av aa (n+3) qt (dr t s t.length (cq S false a)) (ac e0) .a (dr t s' (t.length+1) (cq S false a)) (ac (e0.aj W)):=λs' W r=>md rfl (by exact cO ‹_›) (λC _ h=>(gh (aO 0xa1a01a0811 h))) λ_=> .d r (.m (l1:=a_ t s' (t.length+1) .g (cq S false a)) .b (.p rfl (.p rfl (.p rfl (.p rfl (.p rfl (.p rfl (.p rfl .j))))))))
 cases S with
 |true=>
  refine Kr (Ko n t s t.length .g a e0 i o H (ds _) I d) λf R l v m A p q=>?_
  exact(cg t.length f (w _ f (.f (.d (.f R) .j))) ⟨l,m,(qx A).1,(qx A).2,p,q⟩)
 |false=>
  refine(cg t.length (e0.ae.f (aW t s t.length)) (w _ _ (.e (.d (.e (.d (.f (nc (n:=n+2) rfl g (.b (x:=zY) (l':=a_ t t.length t.length .g (cq false false a))))) .j)) .j))) ⟨I.l,I.b.f _,?_,?_,rfl,by rw[jO];exact bc 0x44cc281a082810b111012 k b⟩)
  ·rw[oZ];exact Kq H (ds _) I
  ·rw[oZ];have e:=I.d
   by_cases y:s=t.length
   ·have u:=H.d;rcases I.a rfl with⟨h,_⟩|h
    ·lia
    ·have:(aW t s t.length).cps.toList=[]:=h6 (by rw[pb t s _ (ds _) e,h7];lia);rw[this,dE];exact(qx h).2
   ·exact(sK (by lia) (ds _) λj c _ _ h=>H.a c (mc h)).b
theorem Nf(n:Nat)(t:Str)(f:Bool)(e0:aw)(i:Int)(o:bW e0 i)(g:lY t):∀(d s e:Nat) (S:Bool) (w:aF),t.length-e=d->e<=t.length->rB t s e S w->aL w (1100*(d+1))->
  ∃l,av aa (n+3) (.k G_ qt) (dr t s e (cq S false f)) (ac (e0.aj w)) .a [(9,aB)] (ac (e0.aj l))/\Kn w l (1100*(d+1))
 |0,s,e,S,w,h,H,I,b=>by
  have:e=t.length:=by exact ea (aC 1052689 H) (bc 0x200a11218012 (d_ _ _) (aJ h))
  subst this;refine dJ (Sw n t s S f (e0.aj w) i (o.aj w) g I b) λm W r P=>?_
  refine(aE W (.q (λk c=>aP (a:=k (decide ((t.length:Int)<=(t.length:Int))) (ac (e0.aj w))) (by rw[decide_eq_true (gt _)];exact c)) r (.m (.s (λk c=>aP (a:=k (decide (((t.length+1:Nat):Int)<=(t.length:Int))) (ac (e0.aj W))) (by rw[decide_eq_false (by exact x3.2 (g7.2 (aO 6987817088)))];exact c))) (.p rfl .j))) P)
 |d+1,s,e,S,w,h,H,I,b=>by have:(e:Int)<=(t.length:Int):=eI 1052689 (g5.2 H);(refine qz (Sv n t s e S f (e0.aj w) i (o.aj w) g (bS 0x21a1801a381210812 (cX (aC 1052689 H)) (aJ h.symm)) I (by delta aL at b⊢;show ao w.a+1100<=_;exact aC 0x4630c0d044cc0804630c0d1a1a18800044c90811 b)) λm j W r p O Q=>?_);have q:ao W.a<=ao w.a+1100:=Q;(refine ap (Nf n t f e0 i o g d m (e+1) j W (ea (fN 0x1421a38481308211a18013 (aJ h) (d_ _ _) (cX (bS 0x21a1801a381210812 (cX (aC 1052689 H)) (aJ h.symm)))) (fN 0x30241811a48382111a0813 (aJ h.symm) (d_ _ _) (cX (aC 1052689 H)))) (bS 0x21a1801a381210812 (cX (aC 1052689 H)) (aJ h.symm)) p (by delta aL at b⊢;exact bc 0x4630c0d1a1800044c928044cc082104630c0d1a1a18800044c90812 b q)) λu R P=>?_);exact(aE u (.q (λk c=>aP (a:=k (decide ((e:Int)<=(t.length:Int))) (ac (e0.aj w))) (by rw[decide_eq_true this];exact c)) r R) ⟨P.l,P.b,P.a,P.j,P.e.trans O,by have:=P.ao;exact bS 0x1a1a38800044c91821a3800044c90821044cc18012 q this⟩)
theorem Ak{nl T:List Nat}(hn:dh nl)(h:¬iR T)(l:bV T λc=>¬dB c):i_ nl T:=⟨h,by
 rintro ⟨g,rfl,_⟩;refine ap (l.c (hn.j.b)) λc H a=>?_
 refine H ?_;rcases a with rfl|rfl
 ·exact .inl rfl
 ·exact .inr (.inl rfl)⟩
theorem bL.e{nl:Str}{w:aF}(h:bL nl w):bL nl {w with e:=true}:=⟨⟨h.b.b,h.b.a⟩,h.l,.inl rfl⟩
abbrev n_(t:Str)(s:Bool):ah:=[(9,aB),(179,.e t),(142,.l s)]
theorem Al{e:aw}{x:V}(h:e.f=x):e={e with f:=x}:=by subst h;rfl
theorem Ne(n:Nat)(t:Str)(s:Bool)(e0:aw)(d:t.length=0)(J:bL e0.a.a e0.ae)(h:∃b,e0.f=.l b):
  ∃W,bd aa (n+4) 733 [aB,.e t,.l s] (ac e0) .g (ac (e0.aj W))/\ja e0.a.a 0 e0.ae W:=by
 have H:∀w,av aa (n+3) Ab (n_ t s) (ac (e0.aj w)) (.f .g) [] (ac (e0.aj w)):=λw=>by refine .k (.a (σ1:=ac (e0.aj w)) (λk f=>aP (a:=k (!(t.length !=0)) (ac (e0.aj w))) (by rw[d];exact f)) (.m (l1:=n_ t s) .b .j))
 refine bf h λr c=>?_
 rw[Al c]at H⊢;cases r
 ·exact⟨e0.ae,.d ⟨[9,179,142],[.l true],sD,none⟩ (.inl rfl) (.bE (H e0.ae)),J,ds _⟩
 ·exact⟨{e0.ae with e:=true},.d ⟨[9,179,142],[.l true],sD,none⟩ (.inl rfl) (.bE (H {e0.ae with e:=true})),J.e,ds _⟩
theorem H3(n:Nat)(t:Str)(s:Bool)(e0:aw)(i:Int)(o:bW e0 i)(d:lY t)(b:aL e0.ae 20000)(J:bL e0.a.a e0.ae):
  ∃W,av aa (n+3) Ab (n_ t s) (ac e0) .a [] (ac (e0.aj W))/\ja e0.a.a 20000 e0.ae W:=by
 have H:=d.h.k;have l:aN aa (n+3) Hh (n_ t s) (ac e0) false (ac e0):=λk m=>aP (a:=k (!(t.length !=0)) (ac e0)) (by rw[bne_iff_ne.mpr d.d];exact m)
 obtain⟨w,r,A,p,v,g⟩:∃w,av aa (n+3) (.B Aa Hg .j) (n_ t s) (ac e0) .a (n_ t s) (ac (e0.aj w))/\gu w/\(¬bV (bP w.a) λc=>c=46)/\w.e=e0.ae.e/\ao w.a<=ao e0.ae.a+2:=by
  have T:aN aa (n+3) Aa (n_ t s) (ac e0) (!e0.ae.l) (ac e0):=.b;cases e:e0.ae.l
  ·rw[e]at T;refine(H4 (e0.ae.f (" ":Str)) (.a T (.m (l1:=aU 154 (.e (" ":Str)) (n_ t s)) (.h _ (lW (n+2) (e0.aj ⟨e0.ae.b+1,e0.ae.l,e0.ae.h,e0.ae.e,e0.ae.a⟩) (" ":Str) (by delta aL at b⊢;show ao e0.ae.a+0<=_;exact aO 0x4630c0d0a0804630c0d4e20c0811 b))) (.d .a rfl))) (J.b.f _) ?_ rfl ?_)
   ·rw[oZ];intro h;refine ap (h.c (show bV (bP e0.ae.a++[32]) (λc=>c=32)from(cg _ 32 rfl rfl))) λc q u=>?_
    exact gh (aO 0xa1a20b0102eb12 (aJ q.symm) (aJ u))
   ·rw[jO,show(" ":Str).length=1 from rfl];exact ds _
  ·rw[e]at T;exact(H4 e0.ae (.bq T .j) J.b (J.l e) rfl (by exact bi _ _))
 have x:1100*(t.length+1)<=1100*17:=k8 _ (aO 0x11b1a0810b011 H);(refine ap (Nf n t s e0 i o d t.length 0 0 false ⟨w.b,false,false,w.e,w.a⟩ rfl (hB _) ⟨ds _,rfl,rfl,⟨A.b,A.a⟩,λ_=> .inl (ai rfl p),λh=>by(injection h;done)⟩ (by delta aL at b⊢;show ao w.a+_<=_;exact bc 0x4630c0d1a0800044c91804630c0d4e20c2812a281110b00044c9000044c913 (gv 1100 H) g b)) λj R P=>?_);have f:ao j.a<=ao w.a+1100*(t.length+1):=P.ao;refine⟨j,.d (.bq l .j) (.d r (.bE (y:=Hf) (lm1:=[(9,aB),(179,.e t),(142,.l s),(181,.l false),(180,.l false),(153,.q (0:Nat)),(152,.q (0:Nat))]) (σ1:=ac (e0.aj ⟨w.b,false,false,w.e,w.a⟩)) (.d (l1:=[(9,aB)]) (R.p (.p rfl (.p rfl (.p rfl (.p rfl (.p rfl (.p rfl (.p rfl .j)))))))) (.m .j .j)))),⟨P.b,λh=>?_,.inr (Ak o.a P.a P.j)⟩,(bS 0x4e20c18210b00044c9300044c911a3800044c908212a18013 g f (gv 1100 H))⟩;rw[P.l]at h;(injection h;done)
theorem Ng(n:Nat)(t:Str)(s:Bool)(e0:aw)(i:Int)(o:bW e0 i)(c:t.length=0\/lY t)(f:aL e0.ae 35000)(J:bL e0.a.a e0.ae)(h:∃b,e0.f=.l b):
  ∃w,bd aa (n+4) 733 [aB,.e t,.l s] (ac e0) .g (ac (e0.aj w))/\ja e0.a.a 35000 e0.ae w:=by
 rcases c with g|c
 ·refine ap (Ne n t s e0 g J h) λw r W=>?_
  exact⟨w,r,W.tobL,by have:=W.ao;exact aC 0x88b8c1800a18011 this⟩
 ·refine bf h λR H=>?_
  have d:ao e0.ae.a+35000<=4600000:=f;have a:ao e0.ae.a+20000<=4600000:=aO 0x4630c0d4e20c0804630c0d88b8c0811 d;cases R
  ·refine ap (H3 n t s e0 i o c a J) λw r W=>⟨w,.e ⟨[9,179,142],[.l true],sD,none⟩ (.bE r ?_),W.tobL,ef W.ao (i8 (by decide) _)⟩
   rw[Al H]
   kernel_rfl!
  ·refine ap (H3 n t s (e0.aj {e0.ae with e:=true}) i ⟨o.d,o.c,o.b,o.a⟩ c a J.e) λw r W=>⟨w,.e ⟨[9,179,142],[.l true],sD,none⟩ (.bE r ?_),W.tobL,ef W.ao (i8 (by decide) _)⟩
   rw[Al H]
   kernel_rfl!
theorem H5{x:Str}{d:Nat}(H:0<d)(h:d<=x.length):∃c,gT x (-(d:Int))=au c:=by
 have a:x.length-d<x.cps.size:=by show x.length-d<x.length;exact bc 0x21a0811a0a81210812 (cX (aC 1052689 h)) H
 refine(ba (x.cps[x.length-d]) ?_);unfold gT seqIndex?;rw[if_pos (Int.neg_neg_of_pos (g7.2 H)),show-(d:Int)+(x.length:Int)=((x.length-d:Nat):Int) by rw[ZD h,ZQ];rfl,if_pos (by rw[decide_eq_true (jb _),decide_eq_true (show((x.length-d:Nat):Int)<x.length from g7.2 a)];rfl)];exact oT a
def Nh(j:Int)(o:Option Nat)(f:Nat->Bool)(σ:af)(k:Bool->af->Prop):Prop:=∃c,((-1000000000:Int)<=j/\j<=1000000000)/\o=au c/\k (f c) σ
theorem vD{n:Nat}{lm:ah}{σ:af}{a:aq}{x:Str}{j:Int}{f:Nat->Bool}(h:∃c,gT x j=au c)(H: -1000000000<=j/\j<=1000000000)
  (e:Nh j (gT x j) f σ=(ae aa (aZ aa n) a).a lm σ):∃t,aN aa n a lm σ t σ:=by
 refine bf h λc h=>?_
 exact(ba (f c) (λk b=>aP (bx c H h b) (congrFun e k)))
def kn(l:List Nat):Prop:=∀c∈l,c≠46/\¬dB c
abbrev lZ(h t:Str):ah:=[(9,aB),(179,.e t),(184,.e h)]
theorem H6{b:Int}(h:2<=b/\b<=9):b=2\/b=3\/b=4\/b=5\/b=6\/b=7\/b=8\/b=9:=by have e:=m6 (kE (by decide) h.1);generalize b.toNat=n at e;subst e;exact(by decide:∀n:Nat,n<10->2<=n->((n:Int)=2\/(n:Int)=3\/(n:Int)=4\/(n:Int)=5\/(n:Int)=6\/(n:Int)=7\/(n:Int)=8\/(n:Int)=9)) _ (Nat.lt_succ_of_le (g5.1 h.2)) (g5.1 h.1)
theorem Ni{b:Int}(h:2<=b/\b<=9):(a' (toString b)).length=1/\kn (a' (toString b)).cps.toList:=by
 have k:∀s:Str,∀d:Nat,s=⟨#[d]⟩->d≠46/\¬dB d->s.length=1/\kn s.cps.toList:=λs d H a=>by subst H;exact(ai rfl (λc e=>by rw[ce.mp e];exact a))
 rcases H6 h with rfl|rfl|rfl|rfl|rfl|rfl|rfl|rfl
 ·exact k _ 50 rfl (ai (by decide) (by delta dB;trivial))
 ·exact k _ 51 rfl (ai (by decide) (by delta dB;trivial))
 ·exact k _ 52 rfl (ai (by decide) (by delta dB;trivial))
 ·exact k _ 53 rfl (ai (by decide) (by delta dB;trivial))
 ·exact k _ 54 rfl (ai (by decide) (by delta dB;trivial))
 ·exact k _ 55 rfl (ai (by decide) (by delta dB;trivial))
 ·exact k _ 56 rfl (ai (by decide) (by delta dB;trivial))
 ·exact k _ 57 rfl (ai (by decide) (by delta dB;trivial))
theorem vE{a b:Str}(d:kn a.cps.toList)(e:kn b.cps.toList):kn (a++b).cps.toList:=λc H=>by
 rw[show(a++b).cps=a.cps++b.cps from rfl,la,e8]at H;rcases H with h|h
 ·exact d c h
 ·exact e c h
theorem H7(n:Nat)(T:Str)(e0:aw)(i:T.length≠0)(I:T.length<=64)(s:2<=e0.a.j/\e0.a.j<=9):
  ∃h:Str,bd aa (n+1) 711 [aB,.e T] (ac e0) (.e h) (ac e0)/\h.length<=2/\kn h.cps.toList:=by
 have v:=bw;refine aV (Ni s) λB w=>?_
 have o:∀(d:Nat),d≠46/\¬dB d->kn (⟨#[d]⟩:Str).cps.toList:=λd A c l=>by rw[ce.mp l];exact A
 have p:kn ("":Str).cps.toList:=λc l=>by cases l
 obtain⟨X,R,l1,m⟩:∃X:Str,av aa n (.B zE GH .j) (lZ "" T) (ac e0) .a (lZ X T) (ac e0)/\X.length<=1/\kn X.cps.toList:=by
  obtain⟨t,g⟩:∃t,aN aa n zE (lZ "" T) (ac e0) t (ac e0):=vD (x:=T) (j:=((0:Nat):Int)) (f:=λc=>mZ c) (by refine ap (jc (x:=T) (e:=0) (by lia)) λc h _=>?_;exact(ba c h)) (by trivial) (by kernel_rfl!);cases t
  ·exact(bx ("") (.bq g .j) (hB _) p)
  ·have C:("":Str).length+(a' (toString e0.a.j)).length<=sizeLine:=by rw[B,show("":Str).length=0 from rfl];trivial
   have D:0<=e0.a.j/\e0.a.j<10^9:=by lia
   exact(bx (("":Str)++a' (toString e0.a.j)) (.a g (.sG D C)) (by rw[de,B];exact ds _) (vE p w))
 obtain⟨b,E,L,M⟩:∃b:Str,av aa n (.B zD GE GG) (lZ X T) (ac e0) .a (lZ b T) (ac e0)/\b.length<=2/\kn b.cps.toList:=by
  have H:∀z:Str,z.length=1->X.length+z.length<=sizeLine:=λz F=>(aC 0x1000000d1081a111a012 l1 (aJ F))
  obtain⟨t,g⟩:∃t,aN aa n zD (lZ X T) (ac e0) t (ac e0):=vD (x:=T) (j:= -((1:Nat):Int)) (f:=λc=>(dV gw ⟨#[c]⟩ 0 gw.length 1).isEmpty) (H5 (by trivial) (by lia)) (by trivial) (by kernel_rfl!);cases t
  ·obtain⟨u,r⟩:∃t,aN aa n GF (lZ X T) (ac e0) t (ac e0):=by
    refine l_ (ta:=(T.length:Int)==1) .b λq=>?_
    have q:¬(T.length:Int)=1:=by simpa using q
    exact vD (x:=T) (j:= -((2:Nat):Int)) (f:=λc=>cU c) (H5 (by trivial) (by lia)) (by trivial) (by kernel_rfl!)
   cases u
   ·exact(bx X (.bq g (.d (.bq r .j) .j)) (by exact cO ‹_›) m)
   ·exact(bx (X++("+":Str)) (.bq g (.d (.a r (.fy (H "+" rfl))) .j)) (by rw[de];exact B0 l1 1) (vE m (o 43 (ai (by decide) (by delta dB;trivial)))))
  ·exact(bx (X++("-":Str)) (.a g (.fy (H "-" rfl))) (by rw[de];exact B0 l1 1) (vE m (o 45 (ai (by decide) (by delta dB;trivial)))))
 refine(bx b (.d ⟨[9,179],[],GJ,none⟩ (.inl rfl) (l':=lZ b T) ?_) L M);refine .bE (y:=GI) (lm1:=lZ "" T) (σ1:=ac e0) (.d (l1:=lZ b T) (σ1:=ac e0) (.a (σ1:=ac e0) (λk G=>aP (a:=k (T.length !=0) (ac e0)) (by rw[bne_iff_ne.mpr i];exact G)) (.d R (.d E .j))) .b)
theorem Nj{nl:Str}(hn:dh nl.cps.toList){w:aF}(h:i_ nl.cps.toList (bP w.a)){c:Nat}(a:cU c=true)(b:c≠8233):i_ nl.cps.toList (bP (w.g (match(⟨#[c]⟩:Str)==("\n":Str)with
  |true=>nl|false=>⟨#[c]⟩)).a)/\bV (bP (w.g (match(⟨#[c]⟩:Str)==("\n":Str)with
  |true=>nl|false=>⟨#[c]⟩)).a) dB:=by
 have e:((⟨#[c]⟩:Str)==("\n":Str))=decide (c=10):=vF c 10;rw[ma,e]
 by_cases q:c=10
 ·rw[decide_eq_true q];exact(ai (oa hn h.a) ((o_ hn).b))
 ·rw[decide_eq_false q];have f:c=133\/c=8232:=by
   rcases(of c).mp a with h|h|h|h
   ·exact absurd h q
   ·exact .inl h
   ·exact .inr h
   ·exact absurd h b
  have l:bV (bP w.a++[c]) λd=>d=c:=(cg _ c rfl rfl)
  refine(ai (qw hn (l.a λd H=>by subst H;lia)) (l.a λd H=>by subst H;delta dB;lia))
theorem Nk{nl:Str}(hn:dh nl.cps.toList):∀(cs:List Nat) (w:aF),(∀c∈cs,cU c=true/\c≠8233)->i_ nl.cps.toList (bP w.a)->i_ nl.cps.toList (bP (gi nl w cs).a)/\(cs≠[]->bV (bP (gi nl w cs).a) dB/\(gi nl w cs).b=0/\(gi nl w cs).h=true)/\(gi nl w cs).e=w.e
 |[],w,_,h=>(cz h (λq=>absurd rfl q) rfl)|c::r,w,H,h=>by
  refine aV (Nj hn h (H c (f8 ..)).1 (H c (f8 ..)).2) λp P=>?_
  refine cS (Nk hn r _ (λd a=>H d (f9 _ a)) p) λQ b e=>?_
  refine(cz Q (λ_=>?_) e);cases r with
  |nil=>exact(cz P rfl rfl)|cons _ _=>exact b (by simp)
structure gj(t:Str):Prop where
 h:fE t
 d:t.length≠0
theorem gj.a{t:Str}(h:gj t){c:Nat}(e:c∈t.cps.toList)(H:cU c=false):¬dB c:=by
 rintro (rfl|rfl|rfl|rfl)
 ·rw[(of 10).mpr (.inl rfl)]at H;(injection H;done)
 ·exact h.h.b e
 ·rw[(of 133).mpr (.inr (.inl rfl))]at H;(injection H;done)
 ·rw[(of 8232).mpr (.inr (.inr (.inl rfl)))]at H;(injection H;done)
theorem gj.b{t:Str}(h:gj t){c:Nat}(H:c∈t.cps.toList):c≠8233:=λq=>h.h.d (q▸H)
theorem H8{w:aF}{i:Int}{nl:Str}(h:w.b=0)(H:w.h=true)(hi:0<i):(w.c i nl).b=i/\bV (bP (w.c i nl).a) λc=>c=32:=by
 have a:w.j i=false:=by delta aF.j;(refine H.symm▸h.symm▸ ?_;rewrite[decide_eq_false (by exact mw.2 (dj 0xa01a0a811 hi))]);dsimp only;exact(show((0:Int)==i)=false from beq_eq_false_iff_ne.mpr (Int.ne_of_lt (dj 0x1a0a801a0a811 hi))).symm▸rfl
 have b:w.c i nl=w.i i:=by delta aF.c;exact a.symm▸rfl
 refine b.symm▸ ?_;refine(ai ?_ (sH (eI 0x11a0811a0a810a012 (jd h) hi)));delta aF.i;exact(decide_eq_true (show w.b<i by exact eI 0x11a0811a0a810a012 (jd h) hi)).symm▸rfl
structure sI(nl:Str)(i:Int)(text:Str)(s e:Nat)(bk:Bool)(w:aF):Prop where
 d:s<=e
 f:bk=true->i_ nl.cps.toList (bP w.a)/\(∀j c,s<=j->j<e->text.cps[j]? =au c->cU c=true)/\(s<e\/(w.b=0/\w.h=true))
 a:bk=false->(bV (bP w.a) λc=>c=32)/\w.b=i/\∀j c,s<=j->j<e->text.cps[j]? =au c->cU c=false
 b:0<=w.b
noncomputable abbrev fM(b:Bool):ah:=[(180,.l b)]
theorem vG{nl:Str}(hn:dh nl.cps.toList){t:Str}(k:gj t){s e:Nat}(g:e<=t.length){w:aF}(H:s<=e)(l:i_ nl.cps.toList (bP w.a))(m:∀j c,s<=j->j<e->t.cps[j]? =au c->cU c=true)(b:s<e\/(w.b=0/\w.h=true)):
  i_ nl.cps.toList (bP (gi nl w (aW t s e).cps.toList).a)/\(gi nl w (aW t s e).cps.toList).b=0/\(gi nl w (aW t s e).cps.toList).h=true/\(s<e->bV (bP (gi nl w (aW t s e).cps.toList).a) dB):=by
 refine cS (Nk hn (aW t s e).cps.toList w (λc n=>by
  refine bY (sJ H g n) λj d f i=>?_
  exact(ai (m j c d f i) (k.b (mc i)))) l) λQ o r=>?_
 have a:(aW t s e).cps.toList.length=e-s:=by(refine(pb t s e g H).symm▸h7.symm▸ko.symm▸ ?_;rewrite[dO]);lia
 rcases w2 s e with h|h
 ·(refine cS (o λq=>by rw[q]at a;simp at a;exact gh (bc 0xa1a1082121a1810a013 (aJ a.symm) h (d_ _ _))) λz Z p=>?_);exact(gU Q Z p (λ_=>z))
 ·have:(aW t s e).cps.toList=[]:=h6 (ea (bS 0xa0231321811013 (aJ a) (cX (aC 1052689 H)) h) (aO 160));rw[this]at Q⊢;rcases b with b|⟨d,f⟩
  ·exact gh (aC 0xa1a01a1811012 h b)
  ·exact(gU Q d f (λh=>by lia))
theorem H9{nl:Str}{i:Int}{t:Str}(k:gj t){s e:Nat}{w:aF}(a:e<=t.length)(I:sI nl i t s e false w):(¬iR (bP w.a++(aW t s e).cps.toList))/\bV (bP w.a++(aW t s e).cps.toList) λc=>¬dB c:=by
 refine cS (I.a rfl) λn m N=>?_
 have l:og (aW t s e).cps.toList:=λc b=>by
  refine bY (sJ I.d a b) λj d f H=>?_
  exact k.a (mc H) (N j c d f H)
 refine(ai (Am l (n.a λc b=>by subst b;exact(ai (by decide) vH))) ?_);rcases w2 s e with h|h
 ·exact(sK h a λj c d f H=>k.a (mc H) (N j c d f H)).b
 ·have g:=I.d;have:(aW t s e).cps.toList=[]:=h6 (by refine(pb t s e a g).symm▸h7.symm▸ ?_;lia);(refine this.symm▸ ?_;rewrite[dE]);exact(qx n).2
theorem Nl(n:Nat)(t:Str)(s e:Nat)(m:Bool)(e0:aw)(i:Int)(o:bW e0 i)(C:gj t)(K:e<t.length)(I:sI e0.a.a i t s e m e0.ae)(p:aL e0.ae 1300):
  ∃s' B W,av aa (n+3) qs (dr t s e (fM m)) (ac e0) .a (dr t s' (e+1) (fM B)) (ac (e0.aj W))/\sI e0.a.a i t s' (e+1) B W/\(B=true->s'<e+1)/\ao W.a<=ao e0.ae.a+1300:=by
 have H:=C.h.k;have P:aL e0.ae 0:=by delta aL at p⊢;exact aO 0x4630c0d0a0804630c0d0514c0811 p
 have D:=jP t s e;refine ap (jc K) λc _ L=>?_
 have w:∀s' W,av aa (n+3) (.B zN zP zR) (a_ t s e (.e ⟨#[c]⟩) (fM m)) (ac e0) .a (a_ t s' e (.e ⟨#[c]⟩) (fM m)) (ac (e0.aj W))->av aa (n+3) qs (dr t s e (fM m)) (ac e0) .a (dr t s' (e+1) (fM (cU c))) (ac (e0.aj W)):=λs' W r=>md rfl (by exact cO ‹_›) (λc' v _=>by rw[L]at v;(injection v with Z;subst Z);exact .d r (.m (l1:=a_ t s' (e+1) (.e ⟨#[c]⟩) (fM (cU c))) .b (.p rfl (.p rfl (.p rfl (.p rfl (.p rfl .j))))))) λh=>(gh (aC 0xa1a01111a0812 K h))
 have ext:∀{s':Nat} {b:Bool},cU c=b->(∀j d,s'<=j->j<e->t.cps[j]? =au d->cU d=b)->∀j d,s'<=j->j<e+1->t.cps[j]? =au d->cU d=b:=λR S j d A y E=>by
  by_cases q:j=e
  ·subst q;rw[L]at E;(injection E with Z;subst Z);exact R
  ·exact S j d A (by lia) E
 have f:=I.d;cases m with
 |true=>
  refine cS (I.f rfl) λY M U=>?_
  cases g:cU c
  ·rw[g]at w;have l:(dV gw ⟨#[c]⟩ 0 gw.length 1).isEmpty=true:=by
    have:(!(dV gw ⟨#[c]⟩ 0 gw.length 1).isEmpty)=false:=g
    simpa using this
   refine me (vG o.a C (by exact i5 ‹_›) f Y M U) λX Q N q4=>?_
   have z:=sL e0.a.a o.k (aW t s e).cps.toList e0.ae;rw[dO]at z;generalize F:gi e0.a.a e0.ae (aW t s e).cps.toList=u at X Q N q4 z;refine aV (H8 (nl:=e0.a.a) Q N o.c) λO z2=>?_
   have G:=m_ u i e0.a.a (ai (dj 0xa00a11 (jd Q.symm)) o.b) o.k;refine(jt e false (u.c i e0.a.a) (w e _ (.f (.d (.a (σ1:=ac e0) (λk J=>aP (a:=k (dV gw ⟨#[c]⟩ 0 gw.length 1).isEmpty (ac e0)) (by refine l.symm▸ ?_;exact J)) (sM (n:=n+1) rfl o.k (by exact cO ‹_›) (by delta aL at p⊢;exact aC 0x4630c0d100000390810b1304630c0d0514c0812 p H) ?_)) .j))) ⟨by exact bi _ _,λh=>(by(injection h;done)),λ_=>(cz z2 O (ext g λj d A y _=>(gh (aC 0xa1a01a1811012 A y)))),by refine O.symm▸ ?_;have:=o.c;exact dj 0xa01a0a811 this⟩ (λ_=>by trivial) (fN 0x514c18310b4342303ecc08312000003918014 z G D H));refine F.symm▸ ?_;exact .d (l1:=a_ t s e (.e ⟨#[c]⟩) (fM true)) (σ1:=ac (e0.aj (u.c i e0.a.a))) (.f (.h _ (lX n (e0.aj u) i (.inr o.d) (by delta aL at p⊢;show ao u.a+10<=_;exact bS 0x4630c0daa0810b3332304630c0d0514c1812000003918014 z p D H) o.k (ai (by show 0<=u.b;exact dj 0xa00a11 (jd Q.symm)) (by have:=o.b;exact dj 0xf4240d003e8c011 this))))) (.b (x:=zO) (l':=a_ t e e (.e ⟨#[c]⟩) (fM true)))
  ·rw[g]at w;have l:(dV gw ⟨#[c]⟩ 0 gw.length 1).isEmpty=false:=by
    have:(!(dV gw ⟨#[c]⟩ 0 gw.length 1).isEmpty)=true:=g
    simpa using this
   exact(jt s true e0.ae (w s _ (.f (.d (.bq (σ1:=ac e0) (λk J=>aP (a:=k (dV gw ⟨#[c]⟩ 0 gw.length 1).isEmpty (ac e0)) (by refine l.symm▸ ?_;exact J)) .j) .j))) ⟨(aC 7004491793 f),λ_=>(cz Y (ext g M) (.inl (aC 0x1a181a081011 f))),λh=>(by(injection h;done)),I.b⟩ (λ_=>(aC 0x1a181a081011 f)) (by exact bi _ _))
 |false=>
  refine cS (I.a rfl) λn1 n2 n3=>?_
  have T:aN aa (n+3) GZ (a_ t s e (.e ⟨#[c]⟩) (fM false)) (ac e0) (cU c) (ac e0):=.b;cases g:cU c
  ·rw[g]at w T;exact(jt s false e0.ae (w s _ (.e (.d (.bq T .j) .j))) ⟨(aC 7004491793 f),λh=>(by(injection h;done)),λ_=>(cz n1 n2 (ext g n3)),I.b⟩ (λ_=>by trivial) (by exact bi _ _))
  ·rw[g]at w T;refine aV (H9 C (by exact i5 ‹_›) I) λd1 d2=>?_
   have hw:=H_ e0.ae (aW t s e);refine(jt e true (e0.ae.aU (aW t s e)) (w e _ (.e (.d (.a T (H' (n:=n+2) rfl P (.d (l1:=a_ t s e (.e ⟨#[c]⟩) (fM false)) (σ1:=ac (e0.aj (e0.ae.aU (aW t s e)))) (.e .j) (.b (x:=zQ) (l':=a_ t e e (.e ⟨#[c]⟩) (fM false)))))) .j))) ⟨by exact bi _ _,λ_=>(cz ?_ (ext g λj d A y _=>(gh (aC 0xa1a01a1811012 A y))) (.inl (by exact ds _))),λh=>(by(injection h;done)),I.b⟩ (λ_=>by exact ds _) (bS 0x514c18010b313211a2818013 (aJ hw) D H));show i_ _ (bP (e0.ae.a++[_]));rw[jQ];exact Ak o.a d1 d2
theorem qy{T:List Nat}(h:bV T dB):¬bV T λc=>c=46:=λq=>by
 refine ap (h.c q) λc H a=>?_
 subst a;rcases H with h|h|h|h<;>cases h
theorem Nm(n:Nat)(t:Str)(s:Nat)(b:Bool)(e0:aw)(i:Int)(o:bW e0 i)(c:gj t)(I:sI e0.a.a i t s t.length b e0.ae)(l:b=true->s<t.length)(a:aL e0.ae 1300):
  ∃s' W,av aa (n+3) qs (dr t s t.length (fM b)) (ac e0) .a (dr t s' (t.length+1) (fM b)) (ac (e0.aj W))/\ja e0.a.a 1300 e0.ae W:=by
 have H:=c.h.k;have m:aL e0.ae 0:=by delta aL at a⊢;exact aO 0x4630c0d0a0804630c0d0514c0811 a
 have d:=jP t s t.length;have w:∀s' W,av aa (n+3) (.B zN zP zR) (a_ t s t.length .g (fM b)) (ac e0) .a (a_ t s' t.length .g (fM b)) (ac (e0.aj W))->av aa (n+3) qs (dr t s t.length (fM b)) (ac e0) .a (dr t s' (t.length+1) (fM b)) (ac (e0.aj W)):=λs' W r=>md rfl (by exact cO ‹_›) (λC _ h=>(gh (aO 0xa1a01a0811 h))) λ_=> .d r (.m (l1:=a_ t s' (t.length+1) .g (fM b)) .b (.p rfl (.p rfl (.p rfl (.p rfl (.p rfl .j))))))
 have e:=I.d;cases b with
 |true=>
  refine cS (I.f rfl) λy Y p=>?_
  refine me (vG o.a c (ds _) e y Y p) λQ u v q=>?_
  have q:=q (l rfl);have B:=sL e0.a.a o.k (aW t s t.length).cps.toList e0.ae;rw[dO]at B;refine(cg t.length _ (w _ _ (.f (.d (.f (sM (n:=n+1) rfl o.k (by exact cO ‹_›) (by delta aL at a⊢;exact aC 0x4630c0d100000390810b1304630c0d0514c0812 a H) (.d (l1:=a_ t s t.length .g (fM true)) (σ1:=ac (e0.aj (gi e0.a.a e0.ae (aW t s t.length).cps.toList))) (.e .j) (.b (x:=zO) (l':=a_ t t.length t.length .g (fM true)))))) .j))) ⟨⟨⟨(dj 0xa00a11 (jd u.symm)),λ_=> .inr q⟩,λ_=>qy q,.inr Q⟩,(bS 0x514c18010b333232000003918013 B d H)⟩)
 |false=>
  refine aV (H9 c (ds _) I) λD z=>?_
  have j:=H_ e0.ae (aW t s t.length);have f:=kT (e0.ae.aU (aW t s t.length)) e0.a.a;have g:=o.k;have k:bV (bP ((e0.ae.aU (aW t s t.length)).g e0.a.a).a) dB:=by rw[ma];exact(o_ o.a).b
  refine(cg t.length ((e0.ae.aU (aW t s t.length)).g e0.a.a) (w _ _ (.e (.d (.f (H' (n:=n+2) rfl m (.d (l1:=a_ t s t.length .g (fM false)) (σ1:=ac (e0.aj ((e0.ae.aU (aW t s t.length)).g e0.a.a))) (.f (.h _ (mY (n+1) (e0.aj (e0.ae.aU (aW t s t.length))) (by delta aL at a⊢;show ao (e0.ae.aU _).a+0<=_;exact bS 0x4630c0d0a0810b3132104630c0d0514c1811a2818014 (aJ j) a d H)))) (.b (x:=zQ) (l':=a_ t t.length t.length .g (fM false)))))) .j))) ⟨⟨⟨gt 0,λ_=> .inr k⟩,λ_=>qy k,.inr ?_⟩,(sN 0x514c18310b515212a411a4808311a2818015 (aJ j) (aJ f) g d H)⟩);rw[ma];refine oa o.a ?_;show¬iR (bP (e0.ae.a++[_]));rw[jQ];exact D
theorem Nn(n:Nat)(t:Str)(e0:aw)(i:Int)(o:bW e0 i)(j:gj t):∀(d s e:Nat) (b:Bool) (w:aF),t.length-e=d->e<=t.length->sI e0.a.a i t s e b w->(b=true->e=t.length->s<e)->aL w (1300*(d+1))->
  ∃m,av aa (n+3) (.k GY qs) (dr t s e (fM b)) (ac (e0.aj w)) .a [(9,aB)] (ac (e0.aj m))/\ja e0.a.a (1300*(d+1)) w m
 |0,s,e,b,w,H,c,I,p,f=>by
  have:e=t.length:=by exact ea (aC 1052689 c) (bc 0x200a11218012 (d_ _ _) (aJ H))
  subst this;refine dJ (Nm n t s b (e0.aj w) i (o.aj w) j I (λh=>p h rfl) f) λS W r P=>?_
  refine(aE W (.q (λk g=>aP (a:=k (decide ((t.length:Int)<=(t.length:Int))) (ac (e0.aj w))) (by refine(decide_eq_true (gt _)).symm▸ ?_;exact g)) r (.m (.s (λk g=>aP (a:=k (decide (((t.length+1:Nat):Int)<=(t.length:Int))) (ac (e0.aj W))) (by rw[decide_eq_false (by exact x3.2 (g7.2 (aO 6987817088)))];exact g))) (.p rfl .j))) P)
 |d+1,s,e,b,w,H,c,I,p,f=>by have:(e:Int)<=(t.length:Int):=eI 1052689 (g5.2 c);(refine qz (Nl n t s e b (e0.aj w) i (o.aj w) j (bS 0x21a1801a381210812 (cX (aC 1052689 c)) (aJ H.symm)) I (by delta aL at f⊢;show ao w.a+1300<=_;exact aC 0x4630c0d0514c0804630c0d1a1a18800051490811 f)) λS B W r u l Q=>?_);have q:ao W.a<=ao w.a+1300:=Q;(refine ap (Nn n t e0 i o j d S (e+1) B W (ea (fN 0x1421a38481308211a18013 (aJ H) (d_ _ _) (cX (bS 0x21a1801a381210812 (cX (aC 1052689 c)) (aJ H.symm)))) (fN 0x30241811a48382111a0813 (aJ H.symm) (d_ _ _) (cX (aC 1052689 c)))) (bS 0x21a1801a381210812 (cX (aC 1052689 c)) (aJ H.symm)) u (λh _=>l h) (by delta aL at f⊢;exact bc 0x4630c0d1a180005149280514c082104630c0d1a1a18800051490812 f q)) λv R P=>?_);exact(aE v (.q (λk g=>aP (a:=k (decide ((e:Int)<=(t.length:Int))) (ac (e0.aj w))) (by refine(decide_eq_true this).symm▸ ?_;exact g)) r R) ⟨P.tobL,by have:=P.ao;exact bS 0x1a1a38800051491821a38000514908210514c18012 q this⟩)
theorem Ia{w:aF}{q:Nat}{h:Str}(b:q≠46/\¬dB q)(d:kn h.cps.toList):¬iR (bP (w.d ((⟨#[q]⟩:Str)++h) true false false).a):=by
 have l:bV ((⟨#[q]⟩:Str)++h).cps.toList λc=>c≠46/\¬dB c:=by
  have t:kn ((⟨#[q]⟩:Str)++h).cps.toList:=vE (λc f=>by rw[ce.mp f];exact b) d;have H:((⟨#[q]⟩:Str)++h).cps.toList≠[]:=λz=>by have:=congrArg rT z;rw[dO,de]at this;have a:(⟨#[q]⟩:Str).length=1:=rfl;rw[a]at this;simp at this
  exact(cg _ _ ((k6 H).symm) (t _ (NB H)))
 have L:bV (bP (w.d ((⟨#[q]⟩:Str)++h) true false false).a) λc=>c≠46/\¬dB c:=by
  show bV (bP (w.a++[.e (w.k ((⟨#[q]⟩:Str)++h) true)])) _;rw[jQ];refine bV.b ?_;delta aF.k;cases w.l
  ·show bV (((" ":Str)++((⟨#[q]⟩:Str)++h)).cps.toList) _;rw[show((" ":Str)++((⟨#[q]⟩:Str)++h)).cps=(" ":Str).cps++((⟨#[q]⟩:Str)++h).cps from rfl,la];exact l.b
  ·exact l
 rintro ⟨g,e,_⟩;rw[e]at L;refine ap (L.c pc) λc a i=>?_
 exact a.1 i
abbrev mh(h t:Str):ah:=[(9,aB),(179,.e t),(184,.e h)]
theorem No(n:Nat)(t:Str)(e0:aw)(i:Int)(O:bW e0 i)(u:2<=e0.a.j/\e0.a.j<=9)(k:gj t)(d:aL e0.ae 35000)(J:bL e0.a.a e0.ae):
  ∃p,bd aa (n+4) 725 [aB,.e t] (ac e0) .g (ac (e0.aj p))/\ja e0.a.a 35000 e0.ae p:=by
 have H:=k.h.k;have f:=O.k;have v:=bw;refine bY (H7 (n+2) t e0 k.d (by exact cO ‹_›) u) λh R g x=>?_
 have z:("|":Str).length+h.length<=sizeLine:=by rw[show("|":Str).length=1 from rfl];exact aO 0x1000000d01a82a011 g
 have a:=fO e0.ae (("|":Str)++h) true false false;have l:=Ia (w:=e0.ae) (q:=124) (ai (by decide) (by delta dB;trivial)) x;rw[show(⟨#[124]⟩:Str)="|"from rfl]at l;rw[de,show("|":Str).length=1 from rfl]at a;generalize m:e0.ae.d (("|":Str)++h) true false false=W at a l;obtain⟨o,A⟩:∃o,av aa (n+3) (.B zT G6 .j) (mh h t) (ac (e0.aj W)) .a (mh h t) (ac (e0.aj {W with e:=o})):=by
  have T:aN aa (n+3) zT (mh h t) (ac (e0.aj W)) (eX h (au (-1)) none==("+":Str)) (ac (e0.aj W)):=.b;cases r:eX h (au (-1)) none==("+":Str)
  ·rw[r]at T;exact(ba W.e (.bq T .j))
  ·rw[r]at T;exact(ba true (.a T .b))
 have b:=kT {W with e:=o} e0.a.a;have s:ao (aF.g {W with e:=o} e0.a.a).a=ao W.a+(e0.a.a.length+1):=b;have D:1300*(t.length+1)<=1300*17:=k8 _ (aO 0x11b1a0810b011 H);(refine ap (Nn n t e0 i O k t.length 0 0 true (aF.g {W with e:=o} e0.a.a) rfl (hB _) ⟨ds _,λ_=>(cz (by rw[ma];exact oa O.a l) (λj c _ h=>by trivial) (.inr (ai rfl rfl))),(λh=>by(injection h;done)),gt 0⟩ (λ_ h=>by have:=k.d;lia) (by delta aL at d⊢;exact sN 0x4630c0d1a080005149182a5104630c0d88b8c4812a51a8848212a311a38281110b00051490000514916 (gv 1300 H) (aJ b) f a d g)) λB C P=>?_);refine⟨B,.e ⟨[9,179],[],G9,none⟩ (l':=[]) ?_,P.tobL,by have:=P.ao;exact Ib 0x88b8c1852a212a4110b00051496000514911a68000514938511a4808312a21a8818016 a (aJ b) this (gv 1300 H) f g⟩;refine .w (i:=184) (lm1:=[(9,aB),(179,.e t)]) (y:=G8) R ?_;refine .D (y:=G7) (lm1:=mh h t) z (fz (n+1) e0 (("|":Str)++h) true false false (by delta aL at d⊢;exact aO 0x4630c0d0a0804630c0d88b8c0811 d) (by rw[de,show("|":Str).length=1 from rfl];exact aO 0x3e8c01a82a011 g)) ?_;rw[m];refine .d A (.z (y:=G5) (lm1:=mh h t) (mY (n+1) (e0.aj {W with e:=o}) (by delta aL at d⊢;show ao W.a+0<=_;exact bc 0x4630c0d0a082a2104630c0d88b8c1812a21a8818013 a d g)) ?_);refine .bE (y:=G4) (lm1:=[(9,aB),(179,.e t),(184,.e h),(180,.l true),(153,.q (0:Nat)),(152,.q (0:Nat))]) (σ1:=ac (e0.aj (aF.g {W with e:=o} e0.a.a))) ?_;exact .d (l1:=[(9,aB)]) (C.p (.p rfl (.p rfl (.p rfl (.p rfl (.p rfl .j)))))) (.m .j .j)
theorem Np{w:aF}{i:Int}{nl:Str}(hi:0<i)(h:i<w.b\/bV (bP w.a) λc=>c=32):i<=(w.c i nl).b/\bV (bP (w.c i nl).a) λc=>c=32:=by
 delta aF.c;cases H:w.j i
 ·dsimp only;have a:¬i<w.b:=λq=>by
   delta aF.j at H;rw[decide_eq_true q]at H;cases b:w.h<;>rw[b]at H<;>(injection H;done)
  rcases(Int.lt_or_le w.b i)with q|q
  ·refine(ai ?_ (sH q));delta aF.i;rw[decide_eq_true q];exact gt i
  ·have:w.i i=w:=by delta aF.i;rw[decide_eq_false (by exact mw.2 (eI 1052689 q))]
   rw[this];exact(ai q (h.resolve_left a))
 ·dsimp only;refine(ai ?_ (sH (w:=w.g nl) hi));delta aF.i;rw[decide_eq_true (show(w.g nl).b<i from hi)];exact gt i
structure pd(nl:Str)(i:Int)(text:Str)(s e:Nat)(sp bk:Bool)(w:aF):Prop where
 d:s<=e
 g:bk=true->i_ nl.cps.toList (bP w.a)/\(∀j c,s<=j->j<e->text.cps[j]? =au c->cU c=true)/\(s<e\/(w.b=0/\w.h=true))
 f:bk=false->sp=true->s<e/\(¬iR (bP w.a))/\(i<w.b\/bV (bP w.a) λc=>c=32)/\i<=w.b/\∀j c,s<=j->j<e->text.cps[j]? =au c->c=32
 a:bk=false->sp=false->(bV (bP w.a) λc=>c=32)/\i<=w.b/\∀j c,s<=j->j<e->text.cps[j]? =au c->cU c=false
 b:0<=w.b
abbrev dC(l s b:Bool):ah:=[(167,.l l),(181,.l s),(180,.l b)]
theorem Ic{i:Int}{t:Str}(g:gj t){s e:Nat}{w:aF}(b:e<=t.length)(S:s<=e)(h:bV (bP w.a) λc=>c=32)(k:∀j c,s<=j->j<e->t.cps[j]? =au c->cU c=false):(¬iR (bP (w.f (aW t s e)).a))/\(bV (bP (w.f (aW t s e)).a) λc=>¬dB c)/\(i<=w.b->i<(w.f (aW t s e)).b\/bV (bP (w.f (aW t s e)).a) λc=>c=32):=by
 have m:og (aW t s e).cps.toList:=λc a=>by
  refine bY (sJ S b a) λj d f H=>?_
  exact g.a (mc H) (k j c d f H)
 have l:(aW t s e).cps.toList.length=e-s:=by rw[pb t s e b S,h7,ko,dO];lia
 rw[oZ];refine(ai (Am m (h.a λc a=>by subst a;exact(ai (by decide) vH))) ?_);rcases w2 s e with q|q
 ·refine(ai ((sK q b λj c d f H=>g.a (mc H) (k j c d f H)).b) (λa=> .inl ?_));show i<w.b+((aW t s e).length:Int);rw[dO]at l
  lia
 ·have:(aW t s e).cps.toList=[]:=h6 (ea (bS 0xa0231321811013 (aJ l) (cX (aC 1052689 S)) q) (aO 160));rw[this,dE];exact(ai ((qx h).2) (λ_=> .inr h))
theorem Ie(n:Nat)(T:Str)(s e:Nat)(v:V)(l:Bool)(e0:aw)(i:Int)(o:bW e0 i)(b:gj T)(d:e<=T.length)(I:pd e0.a.a i T s e true false e0.ae)(H:aL e0.ae 1300):
  ∃w,av aa (n+3) GQ (a_ T s e v (dC l true false)) (ac e0) .a (a_ T e e v (dC l true false)) (ac (e0.aj w))/\(bV (bP w.a) λc=>c=32)/\i<=w.b/\ao w.a<=ao e0.ae.a+1300:=by
 have h:=b.h.k;refine sO (I.f rfl rfl) λy p Y f g=>?_
 have j:aL e0.ae 0:=by delta aL at H⊢;exact aO 0x4630c0d0a0804630c0d0514c0811 H
 have k:=jP T s e;obtain⟨t,a⟩:∃t,aN aa (n+3) GP (a_ T s e v (dC l true false)) (ac e0) t (ac e0):=iS (ta:=(s:Int)+1==(e:Int)) .b λ_=>(ba (decide (e0.a.c<e0.ae.b)) .b)
 cases t
 ·refine(ii (e0.ae.f (aW T s e)) (.d (.bq a (nc (n:=n+2) rfl j .j)) (.b (x:=zJ))) ?_ ?_ (by rw[jO];exact bc 0x514c281a082810b111012 k h))
  ·rw[oZ];exact(sK y d g).b
  ·show i<=e0.ae.b+((aW T s e).length:Int);exact sP 0x218020a11012 f (jb _)
 ·have m:=m_ e0.ae i e0.a.a (ai I.b o.b) o.k;refine aV (Np (nl:=e0.a.a) o.c Y) λz Z=>?_
  refine(ii _ (.d (l1:=a_ T s e v (dC l true false)) (σ1:=ac (e0.aj (e0.ae.c i e0.a.a))) (.a a (.h _ (lX n e0 i (.inr o.d) (by delta aL at H⊢;exact aO 0x4630c0daa0804630c0d0514c0811 H) o.k (ai I.b (by have:=o.b;exact dj 0xf4240d003e8c011 this))))) (.b (x:=zJ))) Z z (aC 0x514c18003ecc18011 m))
theorem Nq(n:Nat)(T:Str)(s e c:Nat)(l S:Bool)(e0:aw)(i:Int)(o:bW e0 i)(r:gj T)(u:e<T.length)(I:pd e0.a.a i T s e S true e0.ae)(a:aL e0.ae 1300):
  ∃L b,av aa (n+3) GN (a_ T s e (.e ⟨#[c]⟩) (dC l S true)) (ac e0) .a (a_ T e e (.e ⟨#[c]⟩) (dC L S true)) (ac (e0.aj b))/\(bV (bP b.a) λc=>c=32)/\b.b=i/\ao b.a<=ao e0.ae.a+1300:=by
 have h:=r.h.k;have g:=o.k;have H:=I.d;refine cS (I.g rfl) λy Y A=>?_
 have C:aL e0.ae 0:=by delta aL at a⊢;exact aO 0x4630c0d0a0804630c0d0514c0811 a
 have v:=jP T s e;refine ap (jc (x:=T) (e:=s) (bc 0x11a2802111a0812 u H)) λd D _=>?_
 obtain⟨t,z⟩:∃t,aN aa (n+3) vp (a_ T s e (.e ⟨#[c]⟩) (dC l S true)) (ac e0) t (ac e0):=
  iS (ta:=!l) .b λ_=>iS (ta:=true) .b λ_=>iS (ta:=(⟨#[c]⟩:Str) !=(" ":Str)) .b λ_=>vD (x:=T) (j:=((s:Nat):Int)) (f:=λd=>(⟨#[d]⟩:Str)==("\n":Str)) (ba d D) (oh (bc 0xf4240d010b2121a1811013 H u h)) (by kernel_rfl!)
 obtain⟨w,R,P,E,p⟩:∃w,av aa (n+3) (.B vp zH .j) (a_ T s e (.e ⟨#[c]⟩) (dC l S true)) (ac e0) .a (a_ T s e (.e ⟨#[c]⟩) (dC l S true)) (ac (e0.aj w))/\i_ e0.a.a.cps.toList (bP w.a)/\(s<e\/(w.b=0/\w.h=true))/\ao w.a<=ao e0.ae.a+3:=by
  cases t
  ·exact(ii e0.ae (.bq z .j) y A (by exact bi _ _))
  ·exact(ii (e0.ae.g e0.a.a) (.a z (.h _ (mY (n+1) e0 C))) (by rw[ma];exact oa o.a y.a) (.inr (ai rfl rfl)) (by rw[kT];exact aC 0x3a181a08182a011 g))
 refine me (vG o.a r (by exact i5 ‹_›) H P Y E) λF q Q G=>?_
 have B:=sL e0.a.a o.k (aW T s e).cps.toList w;rw[dO]at B;generalize k:gi e0.a.a w (aW T s e).cps.toList=W at F q Q G B;refine aV (H8 (nl:=e0.a.a) q Q o.c) λZ J=>?_
 have m:=m_ W i e0.a.a (ai (dj 0xa00a11 (jd q.symm)) o.b) o.k;refine(eE ((⟨#[c]⟩:Str)==(" ":Str)) (W.c i e0.a.a) (.d R (.d (l1:=a_ T s e (.e ⟨#[c]⟩) (dC ((⟨#[c]⟩:Str)==(" ":Str)) S true)) (σ1:=ac (e0.aj w)) .b (sM (n:=n+1) (e0:=e0.aj w) rfl o.k (by exact cO ‹_›) (by delta aL at a⊢;show ao w.a+3*T.length<=_;exact bc 0x4630c0d000000391804630c0d0514c2813a281110b033 h p a) ?_))) J Z (sN 0x514c18410b5353303ecc28413000003908213a18015 p B m v h));rw[show(e0.aj w).aj (gi (e0.aj w).a.a (e0.aj w).ae (aW T s e).cps.toList)=e0.aj W from by rw[←k];rfl];exact .d (l1:=a_ T s e (.e ⟨#[c]⟩) (dC ((⟨#[c]⟩:Str)==(" ":Str)) S true)) (σ1:=ac (e0.aj (W.c i e0.a.a))) (.f (.h _ (lX n (e0.aj W) i (.inr o.d) (by delta aL at a⊢;show ao W.a+10<=_;exact fN 0x4630c0daa0810b3304630c0d0514c4813a48113232000003918015 B v p a h) o.k (ai (by show 0<=W.b;exact dj 0xa00a11 (jd q.symm)) (by have:=o.b;exact dj 0xf4240d003e8c011 this))))) (.b (x:=zG))
theorem Nr(c:Nat):(dV gw ⟨#[c]⟩ 0 gw.length 1).isEmpty=!cU c:=by delta cU;simp
theorem Ns(n:Nat)(t:Str)(s e:Nat)(l S o:Bool)(e0:aw)(i:Int)(O:bW e0 i)(N:gj t)(R:e<t.length)(I:pd e0.a.a i t s e S o e0.ae)(P:aL e0.ae 1300):
  ∃s' L C B W,av aa (n+3) qr (dr t s e (dC l S o)) (ac e0) .a (dr t s' (e+1) (dC L C B)) (ac (e0.aj W))/\pd e0.a.a i t s' (e+1) C B W/\(B=true->s'<e+1)/\ao W.a<=ao e0.ae.a+1300:=by
 have D:=N.h.k;have E:=O.c;have h0:aL e0.ae 0:=by delta aL at P⊢;exact aO 0x4630c0d0a0804630c0d0514c0811 P
 have hz:=jP t s e;refine ap (jc R) λc _ U=>?_
 have b:=I.d;have F:((⟨#[c]⟩:Str)==(" ":Str))=decide (c=32):=vF c 32;have w:∀s' L W,av aa (n+3) (.B zF zI zL) (a_ t s e (.e ⟨#[c]⟩) (dC l S o)) (ac e0) .a (a_ t s' e (.e ⟨#[c]⟩) (dC L S o)) (ac (e0.aj W))->av aa (n+3) qr (dr t s e (dC l S o)) (ac e0) .a (dr t s' (e+1) (dC L (decide (c=32)) (cU c))) (ac (e0.aj W)):=λs' L W r=>by rw[←F];exact md rfl (by exact cO ‹_›) (λc' G _=>by rw[U]at G;(injection G with Z;subst Z);exact .d r (.m (l1:=a_ t s' (e+1) (.e ⟨#[c]⟩) (dC L ((⟨#[c]⟩:Str)==(" ":Str)) (cU c))) .b (.p rfl (.p rfl (.p rfl (.p rfl (.p rfl (.p rfl (.p rfl .j))))))))) λh=>(gh (aC 0xa1a01111a0812 R h))
 have a:∀{p:Nat->Prop},p c->∀j d,e<=j->j<e+1->t.cps[j]? =au d->p d:=λh j d k u A=>by have:j=e:=ea (aC 0x101a181a0811 u) (aC 1052689 k);subst this;rw[U]at A;(injection A with Z;subst Z);exact h
 have ext:∀{s':Nat} {p:Nat->Prop},p c->(∀j d,s'<=j->j<e->t.cps[j]? =au d->p d)->∀j d,s'<=j->j<e+1->t.cps[j]? =au d->p d:=λv J j d k u A=>by
  by_cases q:j=e
  ·subst q;rw[U]at A;(injection A with Z;subst Z);exact v
  ·exact J j d k (by lia) A
 have next:∀W,(bV (bP W.a) λc=>c=32)->i<=W.b->pd e0.a.a i t e (e+1) (decide (c=32)) (cU c) W:=λW v J=>⟨by exact bi _ _,λH=>(cz (qw O.a (v.a λd hd=>by subst hd;decide)) (a H) (.inl (by exact ds _))),λH z=>(vI (by exact ds _) ((qx v).1) (.inr v) J (a (of_decide_eq_true z))),λH _=>(cz v J (a H)),(eI 0x10a01a0a811012 J E)⟩
 cases o with
 |true=>
  refine cS (I.g rfl) λY y K=>?_
  have T:aN aa (n+3) GL (a_ t s e (.e ⟨#[c]⟩) (dC l S true)) (ac e0) (!cU c) (ac e0):=by rw[←Nr];exact .b
  cases H:cU c
  ·rw[H]at T w next
   refine fA (Nq n t s e c l S e0 i O N R I P) λM m X k u A=>?_
   exact(qB e M _ _ m (w e M m (.f (.d (.a T X) .j))) (next m k (eI 1052689 (jd u.symm))) (λ_=>by trivial) A)
  ·rw[H]at T w;exact(qB s l _ _ e0.ae (w s l _ (.f (.d (.bq T .j) .j))) ⟨(aC 7004491793 b),λ_=>(cz Y (ext H y) (.inl (aC 0x1a181a081011 b))),λh=>(by(injection h;done)),λh=>(by(injection h;done)),I.b⟩ (λ_=>(aC 0x1a181a081011 b)) (by exact bi _ _))
 |false=>
  cases S with
  |true=>
   refine sO (I.f rfl rfl) λY y K y4 y5=>?_
   have T:aN aa (n+3) GO (a_ t s e (.e ⟨#[c]⟩) (dC l true false)) (ac e0) (!decide (c=32)) (ac e0):=by rw[←F];exact .b
   by_cases Q:c=32
   ·have H:cU c=false:=by subst Q;rw[n5];intro h;have:=(of 32).mp h;trivial
    rw[decide_eq_true Q]at T w;rw[H]at w;exact(qB s l _ _ e0.ae (w s l _ (.e (.d (.f (.d (.bq T .j) .j)) .j))) ⟨(aC 7004491793 b),λh=>(by(injection h;done)),λ_ _=>(vI (aC 0x1a181a081011 b) y K y4 (ext Q y5)),λ_ h=>(by(injection h;done)),I.b⟩ (λh=>(by(injection h;done))) (by exact bi _ _))
   ·rw[decide_eq_false Q]at T w next
    refine kq (Ie n t s e (.e ⟨#[c]⟩) l e0 i O N (by exact i5 ‹_›) I P) λm X k u A=>?_
    exact(qB e l _ _ m (w e l m (.e (.d (.f (.d (.a T X) .j)) .j))) (next m k u) (λ_=>by exact ds _) A)
  |false=>
   refine cS (I.a rfl rfl) λY y K=>?_
   have T:aN aa (n+3) GR (a_ t s e (.e ⟨#[c]⟩) (dC l false false)) (ac e0) (mZ c) (ac e0):=.b;cases f:mZ c
   ·rw[f]at T;have a0:¬c=32:=λq=>by rw[(sQ c).mpr (.inl q)]at f;(injection f;done)
    have H:cU c=false:=by
     refine n5.mpr λh=>?_
     rw[(sQ c).mpr (.inr ((of c).mp h))]at f;(injection f;done)
    rw[decide_eq_false a0,H]at w;exact(qB s l _ _ e0.ae (w s l _ (.e (.d (.e (.d (.bq T .j) .j)) .j))) ⟨(aC 7004491793 b),λh=>(by(injection h;done)),λ_ h=>(by(injection h;done)),λ_ _=>(cz Y y (ext H K)),I.b⟩ (λh=>(by(injection h;done))) (by exact bi _ _))
   ·rw[f]at T;refine cS (Ic (i:=i) N (by exact i5 ‹_›) b Y K) λd1 d2 d3=>?_
    have g:i<=(e0.ae.f (aW t s e)).b:=by show i<=e0.ae.b+((aW t s e).length:Int);exact sP 0x218020a11012 y (jb _)
    refine(qB e l _ _ (e0.ae.f (aW t s e)) (w e l _ (.e (.d (.e (.d (.a T (nc (n:=n+2) rfl h0 (.d (l1:=a_ t s e (.e ⟨#[c]⟩) (dC l false false)) (σ1:=ac (e0.aj (e0.ae.f (aW t s e)))) (.e .j) (.b (x:=zK) (l':=a_ t e e (.e ⟨#[c]⟩) (dC l false false)))))) .j)) .j))) ⟨by exact bi _ _,λH=>(cz (Ak O.a d1 d2) (a H) (.inl (by exact ds _))),λH z=>(vI (by exact ds _) d1 (d3 y) g (a (of_decide_eq_true z))),λH z=>?_,(eI 0x10a01a0a811012 g E)⟩ (λ_=>by exact ds _) (by rw[jO];exact bc 0x514c281a082810b111012 hz D));rcases(sQ c).mp f with h|h
    ·rw[decide_eq_true h]at z;(injection z;done)
    ·rw[(of c).mpr h]at H;(injection H;done)
theorem Nt(n:Nat)(t:Str)(s:Nat)(l S b:Bool)(e0:aw)(i:Int)(o:bW e0 i)(f:gj t)(I:pd e0.a.a i t s t.length S b e0.ae)(C:b=true->s<t.length)(a:aL e0.ae 1300):
  ∃s' L W,av aa (n+3) qr (dr t s t.length (dC l S b)) (ac e0) .a (dr t s' (t.length+1) (dC L S b)) (ac (e0.aj W))/\ja e0.a.a 1300 e0.ae W:=by
 have H:=f.h.k;have c:=o.c;have g:=o.k;have D:aL e0.ae 0:=by delta aL at a⊢;exact aO 0x4630c0d0a0804630c0d0514c0811 a
 have j:=jP t s t.length;have w:∀s' L W,av aa (n+3) (.B zF zI zL) (a_ t s t.length .g (dC l S b)) (ac e0) .a (a_ t s' t.length .g (dC L S b)) (ac (e0.aj W))->av aa (n+3) qr (dr t s t.length (dC l S b)) (ac e0) .a (dr t s' (t.length+1) (dC L S b)) (ac (e0.aj W)):=λs' L W r=>md rfl (by exact cO ‹_›) (λP _ h=>(gh (aO 0xa1a01a0811 h))) λ_=> .d r (.m (l1:=a_ t s' (t.length+1) .g (dC L S b)) .b (.p rfl (.p rfl (.p rfl (.p rfl (.p rfl (.p rfl (.p rfl .j))))))))
 have e:=I.d;cases b with
 |true=>
  refine cS (I.g rfl) λy m Y=>?_
  refine me (vG o.a f (ds _) e y m Y) λE F T Q=>?_
  have Q:=Q (C rfl);have B:=sL e0.a.a o.k (aW t s t.length).cps.toList e0.ae;rw[dO]at B;have G:av aa (n+3) (.B vp zH .j) (a_ t s t.length .g (dC l S true)) (ac e0) .a (a_ t s t.length .g (dC l S true)) (ac e0):=by
   cases l
   ·exact .e .j
   ·exact .e .j
  refine(ju t.length false _ (w _ _ _ (.f (.d (.f (.d G (.d (l1:=a_ t s t.length .g (dC false S true)) (σ1:=ac e0) .b (sM (n:=n+1) rfl o.k (by exact cO ‹_›) (by delta aL at a⊢;exact aC 0x4630c0d100000390810b1304630c0d0514c0812 a H) (.d (l1:=a_ t s t.length .g (dC false S true)) (σ1:=ac (e0.aj (gi e0.a.a e0.ae (aW t s t.length).cps.toList))) (.e .j) (.b (x:=zG) (l':=a_ t t.length t.length .g (dC false S true)))))))) .j))) ⟨⟨⟨(dj 0xa00a11 (jd F.symm)),λ_=> .inr Q⟩,λ_=>qy Q,.inr E⟩,(bS 0x514c18010b333232000003918013 B j H)⟩)
 |false=>
  cases S with
  |true=>
   refine kq (Ie n t s t.length .g l e0 i o f (ds _) I a) λp R A u J=>?_
   refine(ju t.length l p (w _ l p (.e (.d (.f (.d (.f R) .j)) .j))) ⟨⟨⟨(eI 0x10a01a0a811012 u c),λh=>(An (eI 0xa1a0a1110101a0a813 c u (jd h)))⟩,λ_ q=>?_,.inr (qw o.a (A.a λd K=>by subst K;decide))⟩,J⟩);refine ap (A.c q) λd M N=>?_
   exact gh (aO 0xa1a02eb120b012 (aJ M) (aJ N.symm))
  |false=>
   refine cS (I.a rfl rfl) λy m Y=>?_
   refine cS (Ic (i:=i) f (ds _) e y Y) λO U X=>?_
   have v:=jO e0.ae (aW t s t.length);have k:=kT (e0.ae.f (aW t s t.length)) e0.a.a;have z:bV (bP ((e0.ae.f (aW t s t.length)).g e0.a.a).a) dB:=by rw[ma];exact(o_ o.a).b
   refine(ju t.length l ((e0.ae.f (aW t s t.length)).g e0.a.a) (w _ l _ (.e (.d (.e (.d (.f (nc (n:=n+2) rfl D (.d (l1:=a_ t s t.length .g (dC l false false)) (σ1:=ac (e0.aj ((e0.ae.f (aW t s t.length)).g e0.a.a))) (.f (.h _ (mY (n+1) (e0.aj (e0.ae.f (aW t s t.length))) (by delta aL at a⊢;show ao (e0.ae.f _).a+0<=_;exact bS 0x4630c0d0a0810b3132104630c0d0514c1811a2818014 (aJ v) a j H)))) (.b (x:=zK) (l':=a_ t t.length t.length .g (dC l false false)))))) .j)) .j))) ⟨⟨⟨gt 0,λ_=> .inr z⟩,λ_=>qy z,.inr ?_⟩,(sN 0x514c18310b515212a411a4808311a2818015 (aJ v) (aJ k) g j H)⟩);rw[ma];exact oa o.a O
theorem Nu(n:Nat)(t:Str)(e0:aw)(i:Int)(o:bW e0 i)(j:gj t):∀(d s e:Nat) (l S b:Bool) (w:aF),t.length-e=d->e<=t.length->pd e0.a.a i t s e S b w->(b=true->e=t.length->s<e)->aL w (1300*(d+1))->
  ∃u,av aa (n+3) (.k GK qr) (dr t s e (dC l S b)) (ac (e0.aj w)) .a [(9,aB)] (ac (e0.aj u))/\ja e0.a.a (1300*(d+1)) w u
 |0,s,e,l,S,b,w,H,c,I,v,f=>by
  have:e=t.length:=by exact ea (aC 1052689 c) (bc 0x200a11218012 (d_ _ _) (aJ H))
  subst this;refine kU (Nt n t s l S b (e0.aj w) i (o.aj w) j I (λh=>v h rfl) f) λx L W r P=>?_
  refine(aE W (.q (λk g=>aP (a:=k (decide ((t.length:Int)<=(t.length:Int))) (ac (e0.aj w))) (by rw[decide_eq_true (gt _)];exact g)) r (.m (.s (λk g=>aP (a:=k (decide (((t.length+1:Nat):Int)<=(t.length:Int))) (ac (e0.aj W))) (by rw[decide_eq_false (by exact x3.2 (g7.2 (aO 6987817088)))];exact g))) (.p rfl .j))) P)
 |d+1,s,e,l,S,b,w,H,c,I,v,f=>by have:(e:Int)<=(t.length:Int):=eI 1052689 (g5.2 c);(refine Nv (Ns n t s e l S b (e0.aj w) i (o.aj w) j (bS 0x21a1801a381210812 (cX (aC 1052689 c)) (aJ H.symm)) I (by delta aL at f⊢;show ao w.a+1300<=_;exact aC 0x4630c0d0514c0804630c0d1a1a18800051490811 f)) λx L m B W r y p Q=>?_);have q:ao W.a<=ao w.a+1300:=Q;(refine ap (Nu n t e0 i o j d x (e+1) L m B W (ea (fN 0x1421a38481308211a18013 (aJ H) (d_ _ _) (cX (bS 0x21a1801a381210812 (cX (aC 1052689 c)) (aJ H.symm)))) (fN 0x30241811a48382111a0813 (aJ H.symm) (d_ _ _) (cX (aC 1052689 c)))) (bS 0x21a1801a381210812 (cX (aC 1052689 c)) (aJ H.symm)) y (λh _=>p h) (by delta aL at f⊢;exact bc 0x4630c0d1a180005149280514c082104630c0d1a1a18800051490812 f q)) λz R P=>?_);exact(aE z (.q (λk g=>aP (a:=k (decide ((e:Int)<=(t.length:Int))) (ac (e0.aj w))) (by rw[decide_eq_true this];exact g)) r R) ⟨P.tobL,by have:=P.ao;exact bS 0x1a1a38800051491821a38000514908210514c18012 q this⟩)
theorem Nw(n:Nat)(t:Str)(e0:aw)(i:Int)(O:bW e0 i)(s:2<=e0.a.j/\e0.a.j<=9)(k:gj t)(d:aL e0.ae 35000)(J:bL e0.a.a e0.ae):
  ∃p,bd aa (n+4) 718 [aB,.e t] (ac e0) .g (ac (e0.aj p))/\ja e0.a.a 35000 e0.ae p:=by
 have H:=k.h.k;have f:=O.k;have u:=bw;refine bY (H7 (n+2) t e0 k.d (by exact cO ‹_›) s) λh R g v=>?_
 have x:(">":Str).length+h.length<=sizeLine:=by rw[show(">":Str).length=1 from rfl];exact aO 0x1000000d01a82a011 g
 have a:=fO e0.ae ((">":Str)++h) true false false;have l:=Ia (w:=e0.ae) (q:=62) (ai (by decide) (by delta dB;trivial)) v;rw[show(⟨#[62]⟩:Str)=">"from rfl]at l;rw[de,show(">":Str).length=1 from rfl]at a;generalize m:e0.ae.d ((">":Str)++h) true false false=W at a l;obtain⟨o,z⟩:∃o,av aa (n+3) (.B zM GU .j) (mh h t) (ac (e0.aj W)) .a (mh h t) (ac (e0.aj {W with e:=o})):=by
  have T:aN aa (n+3) zM (mh h t) (ac (e0.aj W)) (eX h (au (-1)) none==("+":Str)) (ac (e0.aj W)):=.b;cases r:eX h (au (-1)) none==("+":Str)
  ·rw[r]at T;exact(ba W.e (.bq T .j))
  ·rw[r]at T;exact(ba true (.a T .b))
 have b:ao (aF.g {W with e:=o} e0.a.a).a=ao W.a+(e0.a.a.length+1):=kT {W with e:=o} e0.a.a;have C:1300*(t.length+1)<=1300*17:=k8 _ (aO 0x11b1a0810b011 H);(refine ap (Nu n t e0 i O k t.length 0 0 true false true (aF.g {W with e:=o} e0.a.a) rfl (hB _) ⟨ds _,λ_=>(cz (by rw[ma];exact oa O.a l) (λj c _ h=>(gh (aO 0xa1a0a1a0811 h))) (.inr (ai rfl rfl))),(λh=>by(injection h;done)),(λh=>by(injection h;done)),gt 0⟩ (λ_ h=>by have:=k.d;lia) (by delta aL at d⊢;exact sN 0x4630c0d1a080005149182a5104630c0d88b8c4812a51a8848212a311a38281110b00051490000514916 (gv 1300 H) (aJ b) f a d g)) λA B P=>?_);refine⟨A,.e ⟨[9,179],[],GX,none⟩ (l':=[]) ?_,P.tobL,by have:=P.ao;exact Ib 0x88b8c1852a212a4110b00051496000514911a68000514938511a4808312a21a8818016 a (aJ b) this (gv 1300 H) f g⟩;refine .w (i:=184) (lm1:=[(9,aB),(179,.e t)]) (y:=GW) R ?_;refine .D (y:=GV) (lm1:=mh h t) x (fz (n+1) e0 ((">":Str)++h) true false false (by delta aL at d⊢;exact aO 0x4630c0d0a0804630c0d88b8c0811 d) (by rw[de,show(">":Str).length=1 from rfl];exact aO 0x3e8c01a82a011 g)) ?_;rw[m];refine .d z (.z (y:=GT) (lm1:=mh h t) (mY (n+1) (e0.aj {W with e:=o}) (by delta aL at d⊢;show ao W.a+0<=_;exact bc 0x4630c0d0a082a2104630c0d88b8c1812a21a8818013 a d g)) ?_);refine .bE (y:=GS) (lm1:=[(9,aB),(179,.e t),(184,.e h),(167,.l true),(181,.l false),(180,.l true),(153,.q (0:Nat)),(152,.q (0:Nat))]) (σ1:=ac (e0.aj (aF.g {W with e:=o} e0.a.a))) ?_;exact .d (l1:=[(9,aB)]) (B.p (.p rfl (.p rfl (.p rfl (.p rfl (.p rfl (.p rfl (.p rfl .j)))))))) (.m .j .j)
section
variable {n:Nat} {lm:ah} {σ:af}
theorem eg{x:Nat}{v:V}(h:aH x lm=au v):aR aa n (.d x) lm σ v σ:=λk H=>by
 show match aH x lm with
  |some v=>k v σ|none=>False
 rw[h];exact H
theorem je{s:Str}:aR aa n (.e s) lm σ (.e s) σ:=λk h=>h
theorem nf{i:Int}:aR aa n (.q i) lm σ (.q i) σ:=λk h=>h
theorem sR{op:r7}{a b:aq}{x y v:V}(H:aR aa n a lm σ x σ)(c:aR aa n b lm σ y σ)(h:∀k:bu,k v σ->jv op x y σ k):aR aa n (.y op a b) lm σ v σ:=λk d=>H _ (c _ (h k d))
theorem gx{op:r7}{a b:aq}{x y:V}{t:Bool}(H:aR aa n a lm σ x σ)(c:aR aa n b lm σ y σ)(h:∀k:bu,k (.l t) σ->jv op x y σ k):aN aa n (.y op a b) lm σ t σ:=λk d=>H _ (c _ (h _ d))
theorem If{op o:r7}{a b c:aq}{x y z:V}{t u:Bool}(d:aR aa n a lm σ x σ)(e:aR aa n b lm σ y σ)(f:aR aa n c lm σ z σ)(h:∀k:bu,k (.l t) σ->jv op x y σ k)(g:∀k:bu,k (.l u) σ->jv o y z σ k):aN aa n (.J op o a b c) lm σ (t&&u) σ:=λk H=>d _ (e _ (h _ (by
  cases t
  ·exact H
  ·exact f _ (g _ H))))
theorem qC{x:Nat}{t:Str}(h:aH x lm=au (.e t)):aR aa n (.z (.G 67) (.p (.d x) .j) .j) lm σ (.q (t.length:Nat)) σ:=λk H=>by
 show match aH x lm with
  |some v=>_|none=>False
 rw[h];exact H
theorem Ao{op:l9}{a b:aq}{x y v:V}(H:aR aa n a lm σ x σ)(c:aR aa n b lm σ y σ)(h:∀k:bu,k v σ->pe op x y σ k):aR aa n (.H op a b) lm σ v σ:=λk d=>H _ (c _ (h k d))
theorem sS{a b:aq}{x y v:V}(H:aR aa n a lm σ x σ)(c:aR aa n b lm σ y σ)(h:∀k:bu,k v σ->pf x y σ k):aR aa n (.m a b) lm σ v σ:=λk d=>H _ (c _ (h k d))
theorem sT{t:Str}{j:Int}{c:Nat}(H: -1000000000<=j/\j<=1000000000)(h:gT t j=au c)(k:bu)(a:k (.e ⟨#[c]⟩) σ):pf (.e t) (.q j) σ k:=(bx c H h a)
theorem Ig{a b:aq}{t:Bool}(H:aR aa n a lm σ (.l t) σ)(c:t=false->∃u,aR aa n b lm σ (.l u) σ):∃u,aR aa n (.A a b) lm σ (.l u) σ:=by
 cases t
 ·refine bf (c rfl) λu r=>?_
  exact(ba u (λk h=>H _ (by exact r k h)))
 ·exact(ba true (λk h=>H _ (by exact h)))
theorem oj{x:Nat}{e:aq}{v:V}(h:aR aa n e lm σ v σ):av aa n (.i (.d x) e) lm σ .a (aU x v lm) σ:=λk H=>h _ (H _ .a)
end
noncomputable def Nx(x:Nat):Bool:=e6 x 150||Nat.beq x 22
def qD:aq->Bool
 | .d x=>Nx x| .e _=>true|_=>false
def pg:aq->Bool
 | .j=>true|_=>false
noncomputable def Ih(g:Nat):aq->Bool
 | .G x=>e6 x g|_=>false
noncomputable def Ap(g:Nat):aq->Bool
 | .d x=>e6 x g|_=>false
def Ii:aq->Bool
 | .p t r=>Ap 22 t&&pg r|_=>false
def Aq:aq->Bool
 | .d x=>e6 x 170| .q _=>true| .H o a b=>o==.Sub&&(Aq a&&Aq b)| .z f A k=>Ih 67 f&&(Ii A&&pg k)|_=>false
def Ij(fl:List Nat):aq->Bool
 | .d x=>cV x fl| .n a=>Ij fl a| .C a b=>Ij fl a&&Ij fl b| .A a b=>Ij fl a&&Ij fl b| .y O a b=>(O==.Eq&&(Aq a&&Aq b))||((O==.Eq||(O==.NotEq||O==.In))&&(qD a&&qD b))| .J O d a b c=>(O==.LtE&&(d==.LtE||d==.Lt))&&(qD a&&(qD b&&qD c))| .w o f=>Ap 9 o&&e6 f 34|_=>false
def vK(x:Nat):Bool:=cV x [9,22,150,170]
def sU(up:List Nat)(p:Nat->Bool)(b:Bool)(t:aq):Bool:=match kW t with
 |some x=>!vK x&&(!cV x up||b==p x)|none=>false
def Ar(up:List Nat)(p:Nat->Bool)(b:Bool):aq->Bool
 | .j=>true| .p t r=>sU up p b t&&Ar up p b r|_=>false
noncomputable def ph:aq->Option Bool
 | .l b=>au b|_=>none
def Ny(fl up:List Nat)(p:Nat->Bool):ag->Bool
 | .j=>true| .d a b=>Ny fl up p a&&Ny fl up p b| .B c a b=>Ij fl c&&(Ny fl up p a&&Ny fl up p b)| .i t v=>match ph v with
  |some b=>sU up p b t|none=>false
 | .m T v=>match ph v with
  |some b=>Ar up p b T|none=>false
 |_=>false
theorem Ik{x:aq}{b:Bool}(h:ph x=au b):x=.l b:=by
 cases x with
 |l _=>(injection h with z;subst z);rfl|_=>exact cP h
theorem Il{g:Nat}{x:aq}(h:Ap g x=true):x=.d g:=by
 cases x with
 |d _=>rw[g6 h]|_=>exact bZ h
theorem Nz{g:Nat}{x:aq}(h:Ih g x=true):x=.G g:=by
 cases x with
 |G _=>rw[g6 h]|_=>exact bZ h
theorem vL{x:aq}(h:pg x=true):x=.j:=by
 cases x with
 |j=>rfl|_=>exact bZ h
theorem NA{x:aq}(h:Ii x=true):x=.p (.d 22) .j:=by
 cases x with
 |p t r=>rw[Il (aI h).1,vL (aI h).2]|_=>exact bZ h
theorem qE{a b:Bool}(h:(a||b)=true):a=true\/b=true:=(k5 _ _).mp h
structure eJ(fl:List Nat)(text:Str)(idx c:Nat)(lm:ah):Prop where
 f:aH 9 lm=au aB
 d:aH 22 lm=au (.e text)
 g:aH 150 lm=au (.e ⟨#[c]⟩)
 e:aH 170 lm=au (.q (idx:Nat))
 r:∀x,cV x fl=true->∃b,aH x lm=au (.l b)
theorem sV{a b:Nat}(h:e6 a b=true):a=b:=g6 h
theorem eJ.b{fl:List Nat}{text:Str}{idx c:Nat}{lm:ah}(I:eJ fl text idx c lm){x:Nat}{b:Bool}(i:vK x=false):eJ fl text idx c (aU x (.l b) lm):=by
 have h:∀y,vK y=true->aH y (aU x (.l b) lm)=aH y lm:=λy H=>by rw[fP,if_neg];intro e;subst e;rw[i]at H;(injection H;done)
 refine⟨(h _ rfl).trans I.f,(h _ rfl).trans I.d,(h _ rfl).trans I.g,(h _ rfl).trans I.e,λy H=>?_⟩;rw[fP];split
 ·exact(ba b rfl)
 ·exact I.r y H
section
variable {n:Nat} {fl:List Nat} {text:Str} {idx c:Nat} {lm:ah} {e:aw} (I:eJ fl text idx c lm)
include I
theorem sW{x:aq}(h:qD x=true):∃s,aR aa n x lm (ac e) (.e s) (ac e):=by
 cases x with
 |d x=>rcases qE h with h|h<;>(cases sV h;first|exact(ba _ (eg I.g))|exact(ba _ (eg I.d)))
 |e s=>exact(ba s je)|_=>exact bZ h
theorem Im:∀{x:aq},Aq x=true->∃i,aR aa n x lm (ac e) (.q i) (ac e):=by
 intro x
 induction x with
 |d x=>intro h;cases sV h;exact(ba _ (eg I.e))
 |q i=>intro _;exact(ba i nf)
 |H O a b c g=>
  intro h;refine aV (aI h) λm l=>?_
  cases ga m;refine bf (c (aI l).1) λi r=>?_
  refine bf (g (aI l).2) λj R=>?_
  exact(ba (i-j) (Ao r R λk o=>o))
 |z f A K _ _ _=>intro h;cases Nz (aI h).1;cases NA (aI (aI h).2).1;cases vL (aI (aI h).2).2;exact(ba _ (qC I.d))
 |_=>intro h;exact bZ h
theorem NC:∀x:aq,Ij fl x=true->∃t,aN aa n x lm (ac e) t (ac e):=by
 intro x
 induction x with
 |d x=>intro h;obtain⟨b,z⟩:=I.r x h;exact⟨b,λk g=>(eg z:aR aa n (.d x) lm (ac e) (.l b) (ac e)) (λv s=>eh v s k) g⟩
 |n a B=>intro h;exact As (B h)
 |C a b m p=>intro h;obtain⟨t,r⟩:=m (aI h).1;exact iS r λ_=>p (aI h).2
 |A a b m p=>intro h;exact At (m (aI h).1) (p (aI h).2)
 |y O a b _ _=>
  intro h;rcases qE h with h|h
  ·obtain⟨H,u⟩:=aI h;cases ga H;obtain⟨i,R⟩:=Im I (aI u).1;obtain⟨j,q⟩:=Im I (aI u).2;exact⟨_,gx R q λk g=>g⟩
  ·obtain⟨H,h⟩:=aI h;obtain⟨i,R⟩:=sW I (aI h).1;obtain⟨j,q⟩:=sW I (aI h).2;rcases qE H with H|H
   ·cases ga H;exact⟨_,gx R q λk g=>g⟩
   ·rcases qE H with H|H<;>(cases ga H;exact⟨_,gx R q λk g=>g⟩)
 |J O D a b c _ _ _=>intro h;obtain⟨H,h⟩:=aI h;obtain⟨i,R⟩:=sW I (aI h).1;obtain⟨j,q⟩:=sW I (aI (aI h).2).1;obtain⟨l,E⟩:=sW I (aI (aI h).2).2;cases ga (aI H).1;rcases qE (aI H).2 with H|H<;>(cases ga H;exact⟨_,If R q E (λk g=>g) λk g=>g⟩)
 |w o f _=>intro h;cases Il (aI h).1;cases sV (aI h).2;refine⟨e.a.d,λk g=>?_⟩;refine(eg I.f:aR aa n (.d 9) lm (ac e) aB (ac e)) (λv s=>sX aa 34 v s λv s=>eh v s k) ?_;exact aP g
 |_=>intro h;exact bZ h
end
theorem Io{fl up:List Nat}{p:Nat->Bool}{text:Str}{idx c:Nat}{b:Bool}{t:aq}{lm:ah}(h:sU up p b t=true)(I:eJ fl text idx c lm):
  ∃x,t=.d x/\eJ fl text idx c (aU x (.l b) lm)/\∀y,cV y up=true->aH y lm=au (.l (p y))->aH y (aU x (.l b) lm)=au (.l (p y)):=by
 delta sU at h;cases e:kW t with
 |none=>rw[e]at h;exact bZ h|some x=>
  rw[e]at h;refine aV (aI h) λd H=>?_
  refine(bx x (vM e) (I.b (jw d)) (λy a q=>?_));rw[fP]
  by_cases E:y=x
  ·rw[if_pos E];subst E;rcases qE H with H|H
   ·rw[jw H]at a;exact bZ a
   ·rw[ga H]
  ·rw[if_neg E];exact q
theorem NE{n:Nat}{fl up:List Nat}{p:Nat->Bool}{text:Str}{idx c:Nat}{b:Bool}{e:aw}:∀{ts:aq} {lm:ah},Ar up p b ts=true->eJ fl text idx c lm->
  ∃l,(∀k:ah->af->Prop,k l (ac e)->sY aa (aZ aa n) ts (.l b) lm (ac e) k)/\eJ fl text idx c l/\∀x,cV x up=true->aH x lm=au (.l (p x))->aH x l=au (.l (p x)):=by
 intro ts
 induction ts with
 |j=>intro lm h I;exact(bx lm (λk H=>H) I (λ_ _ q=>q))
 |p t r _ i=>
  intro lm h I;(refine bY (Io (aI h).1 I) λx E d M=>?_;subst E);refine bY (i (aI h).2 d) λl R f m=>?_
  exact(bx l (λk H=>R k H) f (λy a q=>m y a (M y a q)))
 |_=>intro lm h;exact bZ h
theorem pi{n:Nat}{fl up:List Nat}{p:Nat->Bool}{text:Str}{idx c:Nat}{e:aw}:∀(s:ag) {lm:ah},Ny fl up p s=true->eJ fl text idx c lm->
  ∃l,av aa n s lm (ac e) .a l (ac e)/\eJ fl text idx c l/\∀x,cV x up=true->aH x lm=au (.l (p x))->aH x l=au (.l (p x)):=by
 intro s
 induction s with
 |j=>intro lm h I;exact(bx lm .j I (λ_ _ h=>h))
 |d a b f g=>
  intro lm h I;refine bY (f (aI h).1 I) λL R o M=>?_
  refine bY (g (aI h).2 o) λz A C D=>?_
  exact(bx z (.d R A) C (λx w q=>D x w (M x w q)))
 |B c a b f g=>
  intro lm h I;refine bf (NC (n:=n) (e:=e) I c (aI h).1) λt y=>?_
  cases t
  ·refine bY (g (aI (aI h).2).2 I) λL R o M=>?_
   exact(bx L (.bq y R) o M)
  ·refine bY (f (aI (aI h).2).1 I) λL R o M=>?_
   exact(bx L (.a y R) o M)
 |i t v=>
  intro lm h I;replace h:(match ph v with
   |some b=>sU up p b t|none=>false)=true:=h
  cases E:ph v with
  |none=>rw[E]at h;exact bZ h|some b=>rw[E]at h;cases Ik E;(refine bY (Io h I) λx u o M=>?_;subst u);exact(bx _ (λk H=>H _ .a) o M)
 |m T v=>
  intro lm h I;replace h:(match ph v with
   |some b=>Ar up p b T|none=>false)=true:=h
  cases E:ph v with
  |none=>rw[E]at h;exact bZ h|some b=>
   rw[E]at h;cases Ik E;refine bY (NE (n:=n) (e:=e) h I) λl r F G=>?_
   exact(bx l (λk H=>r _ (H _ .a)) F G)
 |_=>intro lm h;exact bZ h
noncomputable abbrev kX:List Nat:=[161,162,159,164,167,168,166,169,165,163,172,171,174,173]
noncomputable abbrev ng:List Nat:=[161,162,159,25,26]
def jR(x:Nat):Bool:=cV x [161,162,159]
structure qF(text:Str)(idx:Nat)(lm:ah):Prop where
 f:aH 9 lm=au aB
 d:aH 22 lm=au (.e text)
 e:aH 170 lm=au (.q (idx:Nat))
 r:∀x,cV x kX=true->∃b,aH x lm=au (.l b)
theorem eJ.c{t:Str}{i c:Nat}{lm:ah}(I:eJ kX t i c lm):qF t i lm:=⟨I.f,I.d,I.e,I.r⟩
theorem qF.a{t:Str}{i c:Nat}{lm:ah}(I:qF t i lm):eJ kX t i c (aU 150 (.e ⟨#[c]⟩) lm):=by
 have h:∀y,¬y=150->aH y (aU 150 (.e ⟨#[c]⟩) lm)=aH y lm:=λy H=>by rw[fP,if_neg H]
 refine⟨(h _ (by decide)).trans I.f,(h _ (by decide)).trans I.d,by rw[fP,if_pos rfl],(h _ (by decide)).trans I.e,λy H=>?_⟩;rw[h y (λq=>by subst q;(injection H;done))];exact I.r y H
abbrev kr(lm l:ah):Prop:=∀x,cV x ng=true->aH x lm=au (.l (jR x))->aH x l=au (.l (jR x))
theorem vN{x:Nat}{v:V}{lm:ah}(h:cV x ng=false):kr lm (aU x v lm):=λy H q=>by
 rw[fP,if_neg]
 ·exact q
 ·rintro rfl;rw[h]at H;(injection H;done)
theorem NF{n:Nat}{e:aw}{c x:Nat}{lm:ah}{t:Str}{i:Nat}(I:eJ kX t i c lm):aN aa n (.y .In (.d 150) (.e "\n\u0085\u2028\u2029")) lm (ac e) (cU c) (ac e):=gx (eg I.g) je λk h=>h
set_option tactic.hygienic true in
theorem NG(n:Nat)(T:Str)(i:Nat)(lm:ah)(e:aw)(D:T.length<=1000)(hi:i<T.length)(I:qF T i lm):
  ∃c L,T.cps[i]? =au c/\av aa n zh lm (ac e) .a L (ac e)/\eJ kX T (i+1) c L/\kr lm L/\(cU c=true->aH 159 L=au (.l true)):=by
 refine ap (jc hi) λc K N=>?_
 have O:eJ kX T i c (aU 150 (.e ⟨#[c]⟩) lm):=I.a;have P:av aa n (.i (.d 150) (.m (.d 22) (.d 170))) lm (ac e) .a (aU 150 (.e ⟨#[c]⟩) lm) (ac e):=oj (sS (eg I.d) (eg I.e) λk H=>sT (oh (aC 0xf4240d003e8c1111a0812 hi D)) K k H);refine bY (pi (n:=n) (e:=e) (up:=ng) (p:=jR) (.B Fz FA FB) (by decide+kernel) O) λm Q B S=>?_
 obtain⟨o,U,W,X,Y⟩:∃o,av aa n (.B zg Fy .j) m (ac e) .a o (ac e)/\eJ kX T i c o/\kr m o/\(cU c=true->aH 159 o=au (.l true)):=by
  have z:aN aa n zg m (ac e) (cU c) (ac e):=NF (x:=0) B;cases E:cU c
  ·rw[E]at z;exact(ii m (.bq z .j) B (λ_ _ q=>q) (λh=>by(injection h;done)))
  ·rw[E]at z;refine(ii (aU 159 (.l true) m) (.a z (.d (oj λk H=>H) .j)) (B.b rfl) (λy f q=>?_) (λ_=>by rw[fP,if_pos rfl]));rw[fP];split
   ·rename_i q;subst q;rfl
   ·exact q
 refine bY (pi (n:=n) (e:=e) (up:=ng) (p:=jR) (.B Fw Fx .j) (by decide+kernel) W) λZ R C M=>?_
 refine bY (pi (n:=n) (e:=e) (up:=ng) (p:=jR) (.B Ft Fu Fv) (by decide+kernel) C) λg r3 r F=>?_
 have s:aH 170 (aU 170 (.q ((i+1:Nat):Int)) g)=au (.q ((i+1:Nat):Int)):=by rw[fP,if_pos rfl]
 have A:∀{x:Nat} {v:V},∀y,¬y=x->∀l,aH y (aU x v l)=aH y l:=λy f l=>by rw[fP,if_neg f]
 have G:eJ kX T (i+1) c (aU 170 (.q ((i+1:Nat):Int)) g):=⟨(A _ (by decide) _).trans r.f,(A _ (by decide) _).trans r.d,(A _ (by decide) _).trans r.g,s,λy f=>by rw[A y (λq=>by subst q;(injection f;done))];exact r.r y f⟩
 have r4:av aa n (.h (.d 170) .Add (.q 1)) g (ac e) .a (aU 170 (.q ((i+1:Nat):Int)) g) (ac e):=λk H=>by
  show match aH 170 g with
   |some v=>_|none=>False
  rw[r.e];exact H _ .a
 have r5:av aa n (.i (.d 172) (.y .In (.d 150) (.e "\x00 \t\r\n\u0085\u2028\u2029"))) (aU 170 (.q ((i+1:Nat):Int)) g) (ac e) .a _ (ac e):=oj (sR (eg G.g) je λk H=>H);have w:=G.b (x:=172) (b:=!(dV ("\x00 \t\r\n\u0085\u2028\u2029":Str) ⟨#[c]⟩ 0 ("\x00 \t\r\n\u0085\u2028\u2029":Str).length 1).isEmpty) rfl;obtain⟨u,r6⟩:∃u,aR aa n (.A (.y .GtE (.H .Add (.d 170) (.q 1)) (.z (.G 67) (.p (.d 22) .j) .j)) (.y .In (.m (.d 22) (.H .Add (.d 170) (.q 1))) (.e "\x00 \t\r\n\u0085\u2028\u2029"))) (aU 172 (.l (!(dV ("\x00 \t\r\n\u0085\u2028\u2029":Str) ⟨#[c]⟩ 0 ("\x00 \t\r\n\u0085\u2028\u2029":Str).length 1).isEmpty)) (aU 170 (.q ((i+1:Nat):Int)) g)) (ac e) (.l u) (ac e):=by
  refine Ig (t:=decide ((T.length:Int)<=((i+1:Nat):Int)+1)) (sR (Ao (eg w.e) nf λk H=>H) (qC w.d) λk H=>H) λq=>?_
  have q:=of_decide_eq_false q;refine ap (jc (x:=T) (e:=i+1+1) (by lia)) λd hd _=>?_
  exact(ba _ (sR (sS (eg w.d) (Ao (eg w.e) nf λk H=>H) λk H=>sT (j:=((i+1+1:Nat):Int)) (by exact oh (aC 0xf4240d1a1a08803e8c1111a0812 hi D)) hd k H) je λk H=>H))
 have I6:=w.b (x:=171) (b:=u) rfl;have J:∀(a b d:V),kr g (aU 171 d (aU 172 b (aU 170 a g))):=λa b d y f q=>vN rfl y f (vN rfl y f (vN rfl y f q))
 refine(Au c _ N (.d P (.d Q (.d U (.d R (.d r3 (.d r4 (.d r5 (.d (oj r6) .j)))))))) I6 (λy f q=>J _ _ _ y f (F y f (M y f (X y f (S y f (vN (x:=150) rfl y f q)))))) (λh=>J _ _ _ _ rfl (F _ rfl (M _ rfl (Y h)))))
theorem NH(n:Nat)(t:Str)(e:aw)(s:t.length<=1000):∀(d i:Nat) (lm:ah),t.length-i=d+1->qF t i lm->(∀j c,j<i->t.cps[j]? =au c->cU c=true->aH 159 lm=au (.l true))->
  ∃c l,av aa n (.k zf zh) lm (ac e) .a l (ac e)/\eJ kX t t.length c l/\kr lm l/\(∀c∈t.cps.toList,cU c=true->aH 159 l=au (.l true))
 |d,i,lm,H,I,x=>by
  have b:i<t.length:=by exact bS 0x21a1801a381210812 (NI (aC 75717281809 (aJ H.symm))) (aJ H.symm)
  refine sZ (NG n t i lm e s b I) λc L z R m M B=>?_
  have u:∀{lm i} (I:qF t i lm),aN aa n zf lm (ac e) (decide ((i:Int)<(t.length:Int))) (ac e):=λI=>gx (eg I.e) (qC I.d) λk A=>A
  have a:=u I;rw[decide_eq_true (by exact eI 0x11a0811a0811 (g7.2 b))]at a;have f:∀j c,j<i+1->t.cps[j]? =au c->cU c=true->aH 159 L=au (.l true):=λj d O o v=>by
   by_cases q:j=i
   ·subst q;rw[z]at o;(injection o with Z;subst Z);exact B v
   ·exact M _ rfl (x j d (by lia) o v)
  match d,H with
  |0,H=>have g:=u m.c;rw[decide_eq_false (by exact mw.2 (g5.2 (bc 0x1a2801a0a811218012 (d_ _ _) (aJ H))))]at g;refine(eE c L (.q a R (.s g)) (by rw[show t.length=i+1 by exact ea (bc 0x1a2801a0a811218012 (d_ _ _) (aJ H)) (aC 0x11a0811a0811 b)];exact m) M (λC p h=>?_));obtain⟨j,r,E⟩:=o1 p;rw[dO]at r;exact f j C (bS 0x1a381a081a0a8213281111a0813 r (d_ _ _) (aJ H)) (by rw[←ey,dt (by rw[dO];exact r),E]) h
  |d+1,H=>
   refine fA (NH n t e s d (i+1) L (ea (fN 0x1a18421a38481308211a1a188013 (aJ H) (d_ _ _) (cX (aC 0x11a0811a0811 b))) (fN 0x31a08241811a48382111a1a08813 (aJ H.symm) (d_ _ _) (cX (aC 4313450513 b)))) m.c f) λD F G J K N=>?_
   exact(eE D F (.q a R G) J (λy w q=>K y w (M y w q)) N)
theorem NJ{x:Str}(h:eR<+:x.cps.toList):m8 x ("...":Str)=true:=by
 delta m8;have H:(3:Nat)<=x.length:=by have:=h.length_le;rw[dO]at this;exact this
 rw[di];refine(ai (decide_eq_true (by rw[show("...":Str).length=3 from rfl];trivial)) ?_);rw[StrLaws.subAt_eq,A1,show("...":Str).length=3 from rfl,show("...":Str).cps.toList=eR from rfl,beq_iff_eq];exact(List.prefix_iff_eq_take.mp h).symm
def Ip(lm:ah):List Nat->Bool
 |[]=>true|x::r=>match aH x lm with
  |some (.l _)=>Ip lm r|_=>false
set_option tactic.hygienic true in
theorem NK{lm:ah}:∀{l:List Nat},Ip lm l=true->∀x,cV x l=true->∃b,aH x lm=au (.l b)
 |[],_,x,h=>by(injection h;done)|y::r,H,x,h=>by
  unfold Ip at H;unfold cV at h;split at H
  ·rename_i b a;split at h
   ·rename_i e;have:=sV e;subst this;exact(ba b a)
   ·exact NK H x h
  ·(injection H;done)
theorem NL{n:Nat}{lm:ah}{σ:af}{a:aq}{b1 b2:Bool}(e:vO b1 (ij true σ) (ij b2 σ)=(ae aa (aZ aa n) a).a lm σ):aN aa n a lm σ (b1||b2) σ:=by
 cases b1
 ·exact λk h=>aP h (congrFun e k)
 ·exact λk h=>aP h (congrFun e k)
set_option tactic.hygienic true in
theorem eJ.a{fl:List Nat}{text:Str}{i c x:Nat}{b:Bool}{lm:ah}(I:eJ fl text i c lm)(j:vK x=false):eJ (x::fl) text i c (aU x (.l b) lm):=by
 have h:=I.b (x:=x) (b:=b) j;refine⟨h.f,h.d,h.g,h.e,λy H=>?_⟩;unfold cV at H;split at H
 ·rename_i e;have:=sV e;subst this;exact(ba b (by rw[fP,if_pos rfl]))
 ·exact h.r y H
structure mi(text:Str)(lm:ah):Prop where
 b:eR<+:text.cps.toList->aH 161 lm=au (.l true)/\aH 162 lm=au (.l true)
 f:∀c∈text.cps.toList,cU c=true->aH 159 lm=au (.l true)
theorem mi.a{text:Str}{l l':ah}(m:mi text l)(u:kr l l'):mi text l':=⟨λh=>(ai (u _ rfl (m.b h).1) (u _ rfl (m.b h).2)),λc H h=>u _ rfl (m.f c H h)⟩
noncomputable def dR(text:Str)(em ml afp abp asq adq ab:Bool):V:=.p 296 [(22,.e text),(23,.l em),(24,.l ml),(25,.l afp),(26,.l abp),(27,.l asq),(28,.l adq),(29,.l ab)]
theorem Av{m:Nat}{text:Str}{em ml afp abp asq adq ab:Bool}:fF m [(22,.e text),(23,.l em),(24,.l ml),(25,.l afp),(26,.l abp),(27,.l asq),(28,.l adq),(29,.l ab)]:=.p (.e _) (.p (.l _) (.p (.l _) (.p (.l _) (.p (.l _) (.p (.l _) (.p (.l _) (.p (.l _) .j)))))))
structure s_(text:Str)(afp abp ab:Bool):Prop where
 a:afp=true\/abp=true->text.length=0\/lY text
 b:ab=true->gj text
abbrev Iq(text:Str)(ml afp abp asq adq ab:Bool):ah:=[(9,aB),(22,.e text),(159,.l ml),(25,.l afp),(26,.l abp),(27,.l asq),(28,.l adq),(29,.l ab)]
theorem Ir{b:Bool}{G:Prop}(h:b=true)(g:b=false):G:=absurd (h.symm.trans g) nofun
abbrev pj:List Nat:=29::28::27::26::25::kX
section
variable {n:Nat} {text:Str} {c x:Nat} {b:Bool} {l l2 l6 l7 l8 lm:ah} {e:aw}
theorem pk:av aa n (.i (.d x) (.l b)) l (ac e) .a (aU x (.l b) l) (ac e):=λk h=>h _ .a
theorem tb(a:cV x [161,162,159]=false)(m:mi text l):mi text (aU x (.l b) l):=by
 have H:∀y,cV y [161,162,159]=true->aH y (aU x (.l b) l)=aH y l:=λy d=>by rw[fP,if_neg];exact λq=>Ir d (q▸a)
 exact⟨λh=>(ai ((H _ rfl).trans (m.b h).1) ((H _ rfl).trans (m.b h).2)),λc e h=>(H _ rfl).trans (m.f c e h)⟩
set_option tactic.hygienic true in
theorem vP(h:jR x=false):kr l (aU x (.l false) l):=λy H q=>by
 rw[fP];split
 ·rename_i e;subst e;rw[h]
 ·exact q
theorem qG(h:aH x l=au (.l b)):aN aa n (.d x) l (ac e) b (ac e):=λk H=>(eg h:aR aa n _ _ (ac e) _ (ac e)) (λv s=>eh v s k) H
theorem vQ{v:V}:aH x (aU x v l)=au v:=by rw[fP,if_pos rfl]
theorem NM(I:eJ pj text text.length c l)(M:mi text l):∃l',av aa n (.B Fh Fi .j) l (ac e) .a l' (ac e)/\eJ pj text text.length c l'/\kr l l'/\((∀c∈text.cps.toList,cU c=false)\/(aH 25 l'=au (.l false)/\aH 26 l'=au (.l false))):=by
 refine bf (I.r 159 rfl) λb H=>?_
 cases b
 ·exact(ii l (.bq (qG H) .j) I (λ_ _ q=>q) (.inl λc d=>n5.2 λh=>nomatch (M.f c d h).symm.trans H))
 ·exact(ii (aU 26 (.l false) (aU 25 (.l false) l)) (.a (qG H) (.d (l1:=aU 26 (.l false) (aU 25 (.l false) l)) (σ1:=ac e) (λk f=>f _ .a) .j)) ((I.b rfl).b rfl) (λy a q=>vP rfl y a (vP rfl y a q)) (.inr (ai (by rw[fP,if_neg (by decide)];exact vQ) vQ)))
theorem NN(I:eJ pj text text.length c l)(M:mi text l):∃l',av aa n (.B Ff Fg .j) l (ac e) .a l' (ac e)/\eJ pj text text.length c l'/\kr l l'/\((¬eR<+:text.cps.toList)\/aH 25 l'=au (.l false)):=by
 refine bf (I.r 162 rfl) λb H=>?_
 cases b
 ·exact(ii l (.bq (qG H) .j) I (λ_ _ q=>q) (.inl λh=>nomatch (M.b h).2.symm.trans H))
 ·exact(ii (aU 25 (.l false) l) (.a (qG H) (.d pk .j)) (I.b rfl) (vP rfl) (.inr vQ))
theorem NT(I:eJ pj text text.length c l)(M:mi text l):∃l',av aa n (.B Fd Fe .j) l (ac e) .a l' (ac e)/\eJ pj text text.length c l'/\kr l l'/\((¬eR<+:text.cps.toList)\/aH 26 l'=au (.l false)):=by
 refine bf (I.r 161 rfl) λb H=>?_
 cases b
 ·exact(ii l (.bq (qG H) .j) I (λ_ _ q=>q) (.inl λh=>nomatch (M.b h).1.symm.trans H))
 ·exact(ii (aU 26 (.l false) l) (.a (qG H) (.d pk .j)) (I.b rfl) (vP rfl) (.inr vQ))
theorem NU(d:fE text)(H:text.length≠0){afp abp ab:Bool}(e:aH 25 l8=au (.l afp))(i:aH 26 l8=au (.l abp))(U:kr l6 l7)(u:kr l7 l8)(F:(∀c∈text.cps.toList,cU c=false)\/(aH 25 l6=au (.l false)/\aH 26 l6=au (.l false)))
  (l:(¬eR<+:text.cps.toList)\/aH 25 l7=au (.l false))(m:(¬eR<+:text.cps.toList)\/aH 26 l8=au (.l false)):s_ text afp abp ab:=by
 have n {x:Nat} {b:Bool} (h:aH x l8=au (.l b)) (g:aH x l8=au (.l false)) (q:b=true):False:=by subst q;exact nomatch h.symm.trans g
 refine⟨λj=> .inr ?_,λ_=>⟨d,H⟩⟩;have a:∀c∈text.cps.toList,cU c=false:=F.elim id λf=>j.elim (λh=>(n e (u _ rfl (U _ rfl f.1)) h).elim) λh=>(n i (u _ rfl (U _ rfl f.2)) h).elim
 exact⟨d,λc k=>(⟨d,H⟩:gj text).a k (a c k),a,j.elim (λh=>l.elim id λf=>(n e (u _ rfl f) h).elim) λh=>m.elim id λf=>(n i f h).elim,H⟩
theorem NV(n:Nat)(text:Str)(c:Nat)(lm:ah)(e:aw)(d:bo 6 (ac e))(f:fE text)(h:text.length≠0)(I:eJ kX text text.length c lm)(M:mi text lm):
  ∃ml afp abp asq adq ab,av aa (n+1) Fr lm (ac e) (.f (dR text false ml afp abp asq adq ab)) [] (ac e)/\s_ text afp abp ab:=by
 have g:eJ pj text text.length c _:=((((I.a (x:=25) (b:=true) rfl).a (x:=26) (b:=true) rfl).a (x:=27) (b:=true) rfl).a (x:=28) (b:=true) rfl).a (x:=29) (b:=true) rfl;refine bY (pi (n:=n+1) (e:=e) (up:=ng) (p:=jR) (.B Fp Fq .j) (by decide+kernel) g) λl2 r j k=>bY (pi (n:=n+1) (e:=e) (up:=ng) (p:=jR) (.B Fn Fo .j) (by decide+kernel) j) λS R o s=>bY (pi (n:=n+1) (e:=e) (up:=ng) (p:=jR) (.B Fl Fm .j) (by decide+kernel) o) λT t v w=>bY (pi (n:=n+1) (e:=e) (up:=ng) (p:=jR) (.B Fj Fk .j) (by decide+kernel) v) λW y z A=>?_
 have m:=((((tb rfl (tb rfl (tb rfl (tb rfl (tb rfl M)))):mi text _).a k).a s).a w).a A;refine kq (NM (n:=n+1) (e:=e) z m) λl6 B C u F=>kq (NN (n:=n+1) (e:=e) C (m.a u)) λl7 D E U G=>kq (NT (n:=n+1) (e:=e) E ((m.a u).a U)) λl8 J i K L=>?_
 refine bf (i.r 159 rfl) λml N=>bf (i.r 25 rfl) λafp H=>bf (i.r 26 rfl) λabp a=>bf (i.r 27 rfl) λasq O=>bf (i.r 28 rfl) λadq P=>bf (i.r 29 rfl) λab Q=>?_
 refine(It ml afp abp asq adq ab (.d pk (.d pk (.d pk (.d pk (.d pk (.d r (.d R (.d t (.d y (.d B (.d D (.d J ?_)))))))))))) (NU f h H a U K F G L));exact .p (l:=Iq text ml afp abp asq adq ab) (.p i.f (.p i.d (.p N (.p H (.p a (.p O (.p P (.p Q .j)))))))) (.m (l1:=Iq text ml afp abp asq adq ab) (.sG (p:=true=true) (q:=fF 6 [(22,.e text),(23,.l false),(24,.l ml),(25,.l afp),(26,.l abp),(27,.l asq),(28,.l adq),(29,.l ab)]/\bo 6 (ac e)) rfl (ai Av d)) .j)
end
abbrev pn(t:Str)(d:Bool):ah:=[(9,aB),(22,.e t),(161,.l d),(162,.l d),(159,.l false),(164,.l false),(167,.l false),(168,.l false),(166,.l false),(169,.l false),(165,.l false),(163,.l false)]
abbrev Iu(t:Str)(d f:Bool):ah:=pn t d++[(172,.l true),(171,.l f),(174,.l false),(173,.l false),(170,.q (0:Nat))]
theorem NW(n:Nat)(T:Str)(e:aw)(l:bo 6 (ac e))(m:fE T):
  ∃em ml afp abp asq adq ab,bd aa (n+2) 629 [aB,.e T] (ac e) (dR T em ml afp abp asq adq ab) (ac e)/\s_ T afp abp ab:=by
 have o:=m.k
 by_cases b:T.length=0
 ·refine(Iv true false false true true true false (.d ⟨[9,22],[],zj,none⟩ (.inl rfl) (l':=[(9,aB),(22,.e T)]) ?_) ⟨λ_=> .inl b,λh=>by(injection h;done)⟩);refine .k (.a (σ1:=ac e) (λk H=>aP (a:=k (!(T.length !=0)) (ac e)) (by rw[b];exact H)) ?_);exact .sG (p:=true=true) (q:=fF 6 [(22,.e T),(23,.l true),(24,.l false),(25,.l false),(26,.l true),(27,.l true),(28,.l true),(29,.l false)]/\bo 6 (ac e)) rfl (ai Av l)
 ·have s:aN aa (n+1) FG [(9,aB),(22,.e T)] (ac e) false (ac e):=λk H=>aP (a:=k (!(T.length !=0)) (ac e)) (by rw[bne_iff_ne.mpr b];exact H)
  obtain⟨d,R,r⟩:∃d,av aa (n+1) (.B zi FE .j) (pn T false) (ac e) .a (pn T d) (ac e)/\(eR<+:T.cps.toList->d=true):=by
   have g:aN aa (n+1) zi (pn T false) (ac e) (m8 T ("---":Str)||Txt.startswith T ("...":Str)) (ac e):=NL (by kernel_rfl!);cases i:(m8 T ("---":Str)||Txt.startswith T ("...":Str))
   ·rw[i]at g;refine(aE false (.bq g .j) (λh=>?_));rw[NJ h,I7]at i;(injection i;done)
   ·rw[i]at g;exact(aE true (.a g .b) (λ_=>rfl))
  obtain⟨f,v⟩:∃f,aR aa (n+1) (.A (.y .Eq (.z (.G 67) (.p (.d 22) .j) .j) (.q 1)) (.y .In (.m (.d 22) (.q 1)) (.e "\x00 \t\r\n\u0085\u2028\u2029"))) (pn T d++[(172,.l true)]) (ac e) (.l f) (ac e):=by
   refine Ig (t:=(T.length:Int)==1) (sR (qC rfl) nf λk H=>H) λq=>?_
   have q:¬(T.length:Int)=1:=by simpa using q
   refine ap (jc (x:=T) (e:=1) (Nat.lt_of_le_of_ne (tS b) λh=>q (congrArg ri h.symm))) λc w _=>?_
   exact(ba _ (sR (sS (eg rfl) nf λk H=>sT (j:=((1:Nat):Int)) (by trivial) w k H) je λk H=>H))
  refine fA (NH (n+1) T e (by exact cO ‹_›) (T.length-1) 0 (Iu T d f) (tm (tS b)).symm ⟨rfl,rfl,rfl,NK rfl⟩ (λj c h=>by trivial)) λc L z I u B=>?_
  (refine NX (NV n T c L e l m b I ⟨λh=>(ai (u _ rfl (by rw[r h];rfl)) (u _ rfl (by rw[r h];rfl))),B⟩) λml afp abp asq adq ab A O=>?_);refine(Iv false ml afp abp asq adq ab (.d ⟨[9,22],[],zj,none⟩ (.inl rfl) (l':=[]) ?_) O);refine .d (.bq s .j) (.bE (y:=FF) (lm1:=pn T false) (σ1:=ac e) (.d R (.d (l1:=pn T d++[(172,.l true)]) (σ1:=ac e) .b (.d (oj v) (.bE (y:=FC) (lm1:=Iu T d f) (σ1:=ac e) (.d z A))))))
noncomputable def vR(a b:Str)(c:Nat):Bool:=!decide ((⟨#[c]⟩:Str).cps.toList<a.cps.toList)&& !decide (b.cps.toList<(⟨#[c]⟩:Str).cps.toList)
noncomputable def vS(s:Str)(c:Nat):Bool:=!(dV s ⟨#[c]⟩ 0 s.length 1).isEmpty
section
variable {n:Nat} {lm:ah} {σ:af} {a b:aq} {t u:Bool} {c x:Nat}
theorem eK(H:aN aa n a lm σ t σ)(c:aN aa n b lm σ u σ):aN aa n (.A a b) lm σ (t||u) σ:=λk h=>H _ (by
 cases t
 ·exact c k h
 ·exact h)
theorem gy(H:aN aa n a lm σ t σ)(c:aN aa n b lm σ u σ):aN aa n (.C a b) lm σ (t&&u) σ:=λk h=>H _ (by
 cases t
 ·exact h
 ·exact c k h)
theorem Aw(h:aN aa n a lm σ t σ):aN aa n (.n a) lm σ (!t) σ:=λk H=>h (λb s=>k (!b) s) H
theorem kt{p q:Str}(h:aH x lm=au (.e ⟨#[c]⟩)):aN aa n (.J .LtE .LtE (.e p) (.d x) (.e q)) lm σ (vR p q c) σ:=If je (eg h) je (λk H=>H) λk H=>H
theorem vT{p:Str}(h:aH x lm=au (.e ⟨#[c]⟩)):aN aa n (.y .In (.d x) (.e p)) lm σ (vS p c) σ:=gx (eg h) je λk H=>H
end
def Ax(c:Nat):Bool->Bool:=λr=>vR "0" "9" c||(vR "A" "Z" c||(vR "a" "z" c||r))
def ol(c:Nat):Bool:=Ax c (vS "-_" c)
theorem Oa(n:Nat)(a:Str)(σ:af)(b:a.length≠0)(h:∀c∈a.cps.toList,ol c=true):bd aa (n+1) 622 [aB,.e a] σ (.e a) σ:=by
 refine .d ⟨[9,12],[],Fc,none⟩ (.inl rfl) (l':=[(9,aB),(12,.e a)]) ?_;have l:∀C:List Nat,(∀c∈C,ol c=true)->gW aa n 150 E_ none (C.map λc=> .e ⟨#[c]⟩) [(9,aB),(12,.e a)] σ .a [(9,aB),(12,.e a)] σ:=λC=>by
  induction C with
  |nil=>intro _;exact .j trivial
  |cons c r i=>intro H;refine .p trivial ?_ (i λd e=>H d (f9 _ e));have f:=H c (f8 ..);have t:aN aa n EZ [(9,aB),(12,.e a),(150,.e ⟨#[c]⟩)] σ (!ol c) σ:=Aw (eK (kt rfl) (eK (kt rfl) (eK (kt rfl) (vT rfl))));rw[f]at t;exact .m (l1:=[(9,aB),(12,.e a),(150,.e ⟨#[c]⟩)]) (.d (.bq t .j) .j) (.p rfl (.p rfl .j))
 refine .d (.bq (σ1:=σ) (λk g=>aP (a:=k (!(a.length !=0)) σ) (by rw[bne_iff_ne.mpr b];exact g)) .j) ?_;exact .d (.o (v:=.e a) (σ1:=σ) (xs:=a.cps.toList.map λc=> .e ⟨#[c]⟩) .b rfl (l _ h)) .b
def vU(H:V)(c:Nat):Bool:=Ax c (vS "-;/?:@&=+$,_.~*'()[]" c||((⟨#[c]⟩:Str)=="!"&&(match H with
 | .e h=>h !=("!":Str)|_=>true)))
abbrev jx(t s:Str)(h:V)(e:Nat):ah:=[(9,aB),(13,.e t),(84,h),(157,.e s),(151,.o 7),(153,.q (0:Nat)),(152,.q (e:Nat))]
theorem Ob(n:Nat)(t s:Str)(H:V)(σ:af)(g:H=.g\/∃h,H=.e h)(i:s.length<=1000)(j:∀c∈s.cps.toList,vU H c=true):∀(d E:Nat),s.length-E=d->E<=s.length->av aa n (.k vj EV) (jx t s H E) σ .a (jx t s H s.length) σ
 |0,E,a,b=>by have:E=s.length:=ea (aC 1052689 b) (bc 0x200a11218012 (d_ _ _) (aJ a));subst this;have T:aN aa n vj (jx t s H s.length) σ (decide ((s.length:Int)<(s.length:Int))) σ:=.b;rw[decide_eq_false (by exact mw.2 (dj 0))]at T;exact .s T|d+1,E,a,b=>by
  refine ap (jc (x:=s) (e:=E) (by exact bS 0x21a1801a381210812 (cX (aC 1052689 b)) (aJ a.symm))) λc m o=>?_
  have p:=j c (mc o);have T:aN aa n vj (jx t s H E) σ (decide ((E:Int)<(s.length:Int))) σ:=.b;rw[decide_eq_true (by exact g7.2 (bS 0x21a1801a381210812 (cX (aC 1052689 b)) (aJ a.symm)))]at T;have l:aN aa n EU (jx t s H E++[(150,.e ⟨#[c]⟩)]) σ (vU H c) σ:=by
   refine eK (kt rfl) (eK (kt rfl) (eK (kt rfl) (eK (vT rfl) (gy (gx (eg rfl) je λk f=>f) ?_))));rcases g with rfl|⟨h,rfl⟩
   ·exact gx (eg rfl) je λk f=>f
   ·exact gx (eg rfl) je λk f=>f
  rw[p]at l;refine .q T (.d (l1:=jx t s H E++[(150,.e ⟨#[c]⟩)]) (σ1:=σ) (oj (sS (eg rfl) (eg rfl) λk f=>sT (oh (aC 0xf4240d003e8c111012 b i)) m k f)) (.d (l1:=jx t s H (E+1)) (σ1:=σ) (.a l (.m (l1:=jx t s H (E+1)++[(150,.e ⟨#[c]⟩)]) .b ?_)) .j)) (Ob n t s H σ g i j d (E+1) (ea (fN 0x1421a38481308211a18013 (aJ a) (d_ _ _) (cX (bS 0x21a1801a381210812 (cX (aC 1052689 b)) (aJ a.symm)))) (fN 0x30241811a48382111a0813 (aJ a.symm) (d_ _ _) (cX (aC 1052689 b)))) (bS 0x21a1801a381210812 (cX (aC 1052689 b)) (aJ a.symm)));exact .p rfl (.p rfl (.p rfl (.p rfl (.p rfl (.p rfl (.p rfl .j))))))
noncomputable def qH(t p:Str):Bool:=m8 t p&&((p==("!":Str))||decide ((p.length:Int)<(t.length:Int)))
def te(t:Str)(D:List (Str×V)):List Str->V×Str->V×Str
 |[],r=>r
 |p::P,r=>te t D P (match qH t p with
  |true=>((eS p D).getD .g,eX t (au (p.length:Int)) none)|false=>r)
noncomputable def nh:V->Bool
 | .g=>true| .e h=>decide (h.length<=10)|_=>false
noncomputable def om(H:V)(s:Str):Str:=match H with
 | .e h=>match h.length !=0 with
  |true=>h++s|false=>("!<":Str)++s++(">":Str)
 |_=>("!<":Str)++s++(">":Str)
def gK(s:Str):Str:=z6 ("":Str) [aW s 0 s.length]
noncomputable def qI(s:Str):Bool:=match s.cps.toList.getLast? with
 |some c=>c !=46&&(c !=10&&c !=13)|none=>false
def vV:List Bool->Prop
 |[]=>True|b::r=>b=true/\vV r
theorem Oc:∀{l:List Bool},l.all id=true->vV l
 |[],_=>trivial|_::_,h=>aV ((di _ _).mp h) λa b=>(ai a (Oc b))
def qJ(D:List (Str×V))(ps:List Str)(t:Str):Bool:=
 let r:=te t D ps (.g,t)
 List.all [decide (t.length≠0),!(t==("!":Str)),decide (D.length<64),D.all (λp=>decide (p.1.length<=100)),ps.isPerm (D.map (·.1)),sortedS ps,
  ps.all (λp=>match eS p D with
   |some v=>nh v|none=>false),decide (t.length<=50),decide (r.2.length<=50),decide (r.2.length≠0),r.2.cps.toList.all (vU r.1),decide ((gK r.2).length<=50),tE ("":Str) [aW r.2 0 r.2.length],qI (om r.1 (gK r.2)),decide ((om r.1 (gK r.2)).length<=70)] id
abbrev jS(t s:Str)(h:V):ah:=[(9,aB),(13,.e t),(84,h),(157,.e s),(158,.o 6)]
theorem Od{t:Str}{D:List (Str×V)}:∀{ps:List Str} {r:V×Str},nh r.1=true->(∀p∈ps,∃v,eS p D=au v/\nh v=true)->nh (te t D ps r).1=true
 |[],r,h,_=>h|p::ps,r,h,H=>by
  refine ap (H p (f8 ..)) λv a b=>?_
  unfold te;refine Od (ps:=ps) ?_ λq c=>H q (f9 _ c)
  cases qH t p
  ·exact h
  ·show nh ((eS p D).getD .g)=true;rw[a];exact b
theorem Iy{e:aw}{x:V}(h:e.bJ=x):e={e with bJ:=x}:=by subst h;rfl
theorem Oe(n:Nat)(t:Str)(D:List (Str×V))(A:List V)(e:aw)(H:e.bJ=.c D)(f:t.length<=50):∀(ps:List Str) (r:V×Str),(∀p∈ps,(∃v,eS p D=au v))->
  gW aa n 89 zd (au (6,A)) (ps.map .e) (jS t r.2 r.1) (ac e++[.u A]) .a (jS t (te t D ps r).2 (te t D ps r).1) (ac e++[.u A])
 |[],r,_=> .j rfl|p::ps,r,c=>by
  refine bf (c p (f8 ..)) λv d=>?_
  refine .p (l1:=jS t (match qH t p with
   |true=>((eS p D).getD .g,eX t (au (p.length:Int)) none)|false=>r).2 (match qH t p with
   |true=>((eS p D).getD .g,eX t (au (p.length:Int)) none)|false=>r).1) rfl ?_ (Oe n t D A _ H f ps _ λq b=>c q (f9 _ b))
  have T:aN aa n EX (jS t r.2 r.1++[(89,.e p)]) (ac e++[.u A]) (qH t p) (ac e++[.u A]):=gy .b (eK (gx (eg rfl) je λk h=>h) (gx (qC rfl) (qC rfl) λk h=>h))
  cases b:qH t p
  ·rw[b]at T;exact .m (l1:=jS t r.2 r.1++[(89,.e p)]) (.d (.bq T .j) .j) (.p rfl (.p rfl (.p rfl (.p rfl (.p rfl .j)))))
  ·rw[b]at T;rw[d];refine .m (l1:=jS t (eX t (au (p.length:Int)) none) v++[(89,.e p)]) (.d (.a T (λk h=>?_)) .j) (.p rfl (.p rfl (.p rfl (.p rfl (.p rfl .j)))));have l:av aa n zc (aU 84 v (jS t r.2 r.1++[(89,.e p)])) (ac e++[.u A]) .a (jS t (eX t (au (p.length:Int)) none) v++[(89,.e p)]) (ac e++[.u A]):=.b;rw[Iy H]at l h⊢;exact aP (a:=(qK (eS p D)).bD (ac {e with bJ:=.c D}++[.u A]) λv s=>bj aa (aZ aa n) zc (aU 84 v (jS t r.2 r.1++[(89,.e p)])) s k) (by rw[d];exact l k h)
theorem Of{o:Option V}(h:(match o with
  |some v=>nh v|none=>false)=true):∃v,o=au v/\nh v=true:=by
 cases o with
 |none=>cases h
 |some v=>exact(aE v rfl h)
def vW(H:V):Prop:=H=.g\/∃h,H=.e h/\h.length<=10
theorem vW.d:∀{H:V},nh H=true->vW H
 | .g,_=> .inl rfl| .e h,g=> .inr (aE h rfl (of_decide_eq_true g))
theorem Og(n:Nat)(t s:Str)(H:V)(σ:af)(c:vW H)(a:(gK s).length<=1000000):
  av aa n zb (jx t s H s.length++[(156,.e (gK s))]) σ (.f (.e (om H (gK s)))) (jx t s H s.length++[(156,.e (gK s))]) σ:=by
 rcases c with rfl|⟨h,rfl,d⟩
 ·exact .k (.e (.k (.fy a)))
 ·have T:aN aa n ET (jx t s (.e h) s.length++[(156,.e (gK s))]) σ (h.length !=0) σ:=.b;delta om;dsimp only;cases b:h.length !=0
  ·exact .k (.bq (b▸T) (.k (.fy a)))
  ·exact .k (.a (b▸T) (.k (.fy (p:=h.length<=1000000/\(gK s).length<=1000000) (ai (ef d (by decide)) a))))
theorem Oh(n:Nat)(e:aw)(D:List (Str×V))(ps:List Str)(t s:Str)(H:V)(d:e.bJ=.c D)(o:t.length≠0)(r:(t==("!":Str))=false)(u:D.length<64/\∀p∈D,p.1.length<=sizeLine)(b:ku (D.map (·.1))=ps)
  (L:gW aa n 89 zd (au (6,ps.map .e)) (ps.map .e) (jS t t .g) (ac e++[.u (ps.map .e)]) .a (jS t s H) (ac e++[.u (ps.map .e)]))(m:vW H)(w:s.length<=50)(f:s.length≠0)(g:s.cps.toList.all (vU H)=true)
  (i:(gK s).length<=50)(j:tE ("":Str) [aW s 0 s.length]=true)(x:bo 6 (ac e)):bd aa (n+1) 615 [aB,.e t] (ac e) (.e (om H (gK s))) (ac e):=by
 have z:(0:Nat)<sizeLine:=by trivial
 refine .a (fl:=.f (.e (om H (gK s)))) (l':=[]) (σ1:=ac e++[aG.u (ps.map V.e),.u [.e (aW s 0 s.length)]]) ⟨[9,13],[],ze,au none⟩ (by kernel_rfl!) rfl (.inl rfl) ?_ (λk c=>aP (a:=(bG 6 (.e (om H (gK s)))/\bo 6 (ac e))/\k (.e (om H (gK s))) (ac e)) (ai ⟨.e _,x⟩ c));refine .d (.bq (σ1:=ac e) (λk c=>aP (a:=k (!(t.length !=0)) (ac e)) (by rw[bne_iff_ne.mpr o];exact c)) .j) ?_;refine .d (.bq (σ1:=ac e) (λk c=>aP (a:=k (t==("!":Str)) (ac e)) (by rw[r];exact c)) .j) ?_;refine .r (p:=D.length<64/\∀p∈D,p.1.length<=sizeLine) u (y:=EY) (lm1:=jS t t .g) (σ1:=ac e++[.u ((ku (D.map (·.1))).map .e)]) ?_ (by rw[Iy d];kernel_rfl!);rw[b];refine .d (l1:=jS t s H) (σ1:=ac e++[aG.u (ps.map V.e)]) (.o (v:=.o 6) (σ1:=ac e++[aG.u (ps.map V.e)]) (xs:=ps.map .e) .b rfl L) ?_;refine .bE (y:=EW) (lm1:=[(9,aB),(13,.e t),(84,H),(157,.e s),(158,.o 6),(151,.o 7),(153,.q (0:Nat)),(152,.q (0:Nat))]) (σ1:=ac e++[aG.u (ps.map V.e),.u []]) ?_;refine .p (l:=jx t s H 0) (.p rfl (.p rfl (.p rfl (.p rfl (.p rfl (.p rfl (.p rfl .j))))))) ?_;refine .d (Ob n t s H _ (m.imp id λ⟨h,q,_⟩=>⟨h,q⟩) (ef w (by decide)) (kd.1 g) s.length 0 rfl (hB _)) ?_;refine .d (l1:=jx t s H s.length) (σ1:=ac e++[aG.u (ps.map V.e),.u [.e (aW s 0 s.length)]]) (.a (σ1:=ac e++[aG.u (ps.map V.e),.u []]) (λk c=>aP (a:=k (decide (((0:Nat):Int)<(s.length:Int))) _) (by rw[decide_eq_true (g7.2 (tS f))];exact c)) (.fy z)) ?_;refine .r (p:=tE ("":Str) [aW s 0 s.length]=true) j (y:=zb) (lm1:=jx t s H s.length++[(156,.e (gK s))]) (σ1:=ac e++[aG.u (ps.map V.e),.u [.e (aW s 0 s.length)]]) ?_;exact .m (Og n t s H _ m (ef i (by decide))) .j
theorem Oi(n:Nat)(e:aw)(D:List (Str×V))(ps:List Str)(t:Str)(H:e.bJ=.c D)(j:qJ D ps t=true)(k:bo 6 (ac e)):
  ∃r:Str,bd aa (n+1) 615 [aB,.e t] (ac e) (.e r) (ac e)/\qI r=true/\r.length<=70:=
 mj (Oc j) λl m o q s u w h=>mj h λx y c d f g i h=>by
  have a:∀p∈ps,∃v,eS p D=au v/\nh v=true:=λp b=>Of (kd.1 w p b)
  exact bx _ (Oh n e D ps t _ _ H (of_decide_eq_true l) ((ib _).mp m) (ai (of_decide_eq_true o) λp b=>ef (of_decide_eq_true (kd.1 q p b)) (by decide)) (Ay (N8.mp s) u).symm (Oe n t D (ps.map .e) e H (of_decide_eq_true x) ps (.g,t) λp b=>ap (a p b) λv h _=>⟨v,h⟩)
   (.d (Od (r:=(.g,t)) rfl a)) (of_decide_eq_true y) (of_decide_eq_true c) d (of_decide_eq_true f) g k) i (of_decide_eq_true h.1)
noncomputable def bb:Option Str->V
 |none=> .g|some s=> .e s
inductive cA where
 |h (a:Str)
 |b (a t:Option Str) (i0 i1:Bool) (v:Str) (st:Option Str)
 |c (a t:Option Str) (imp fl:Bool)
 |d (a t:Option Str) (imp fl:Bool)
noncomputable def cA.ctorIdx(x:cA):Nat:= @cA.casesOn (λ_=>Nat) x (λ_=>0) (λ_ _ _ _ _ _=>1) (λ_ _ _ _=>2) (λ_ _ _ _=>3)
def cA.a:cA->V
 | .h A=> .p 197 [(12,.e A),(10,.g),(11,.g)]| .b A t I k v s=> .p 217 [(12,bb A),(13,bb t),(14,.D [.l I,.l k]),(20,.e v),(10,.g),(11,.g),(21,bb s)]| .c A t l F=> .p 229 [(12,bb A),(13,bb t),(14,.l l),(10,.g),(11,.g),(15,.l F)]| .d A t l F=> .p 253 [(12,bb A),(13,bb t),(14,.l l),(10,.g),(11,.g),(15,.l F)]
noncomputable def cA.j:cA->Option Str
 | .h A=>au A| .b A .. =>A| .c A .. =>A| .d A .. =>A
noncomputable def fQ:V:=.p 241 [(10,.g),(11,.g)]
noncomputable def fR:V:=.p 265 [(10,.g),(11,.g)]
theorem iD{e:aw}{x:V}(h:e.b=x):e={e with b:=x}:=by subst h;rfl
def aw.y(e:aw)(w:aF)(pa:V):aw:={e with ae:=w,o:=pa}
def aw.E(e:aw)(pa:V):aw:={e with o:=pa}
theorem Oj{l:List Nat}{c:Nat}(h:l.getLast?=au c):∃g,l=g++[c]:=by
 have H:l≠[]:=λq=>by rw[q]at h;(injection h;done)
 refine(ba l.dropLast ?_);rw[List.getLast?_eq_some_getLast H]at h;(injection h with z;subst z);exact(k6 H).symm
set_option tactic.hygienic true in
theorem vX{s:Str}(h:qI s=true):bV s.cps.toList λc=>c≠46/\c≠10/\c≠13:=by
 delta qI at h;split at h
 ·rename_i c H;refine bf (Oj H) λg a=>?_
  simp only[di,bne_iff_ne]at h;exact(cg g c a h)
 ·(injection h;done)
theorem bV.d{s:Str}{p:Nat->Prop}(h:bV s.cps.toList p):0<s.length:=by(refine dJ h λg C e _=>?_;clear h);rw[←dO,e];simp
theorem Ok{w:aF}{s:Str}{n:Bool}{p:Nat->Prop}(h:bV s.cps.toList p):bV (w.k s n).cps.toList p:=by
 delta aF.k;split
 ·exact h
 ·rw[show((" ":Str)++s).cps=(" ":Str).cps++s.cps from rfl,la];exact h.b
theorem gL{nl:Str}(hn:dh nl.cps.toList){w:aF}(H:0<=w.b){s:Str}(h:bV s.cps.toList λc=>c≠46/\c≠10/\c≠13)(n a b:Bool):bL nl (w.d s n a b):=by
 have l:bV (bP (w.d s n a b).a) λc=>c≠46/\c≠10/\c≠13:=by show bV (bP (w.a++[.e (w.k s n)])) _;rw[jQ];exact(Ok h).b
 refine⟨.d H h.d _ _ _,λ_ q=>?_,.inr (qw hn l)⟩;refine ap (l.c q) λc d e=>?_
 exact d.1 e
structure gz(a:Str):Prop where
 k:a.length<=10
 h:∀c∈a.cps.toList,ol c=true
 j:qI a=true
theorem gz.d{a:Str}(h:gz a):a.length≠0:=E5.mp (vX h.j).d
abbrev tf(i:Str):ah:=[(9,aB),(140,.e i)]
theorem qL{e:aw}{x:List V}(h:e.g=x):e={e with g:=x}:=by subst h;rfl
theorem Iz{e:aw}{x:V}(h:e.o=x):e={e with o:=x}:=by subst h;rfl
theorem Az{n:Nat}{X:aq}{lm lm1 l':ah}{σ σ1 b σ3 σ':af}{a v:V}{g:Addr}{o f:Nat}{y z:ag}{fl:bH}(H:aR aa n X lm σ a σ1)(h:bd aa n g [aB,a] σ1 v b)(c:AA lm1 σ3=jT aa (aZ aa n) (.w (.d o) f) v lm1 b)(r:av aa n y lm1 σ3 fl l' σ')
  (e:(λk=>(ae aa (aZ aa n) X).az lm σ λa s=>AB aa n g [aB,a] s o f y lm1 k)=bj aa (aZ aa n) z lm σ):av aa n z lm σ fl l' σ':=λk d=>aP (H (λa s=>AB aa n g [aB,a] s o f y lm1 k) (h (λv s=>jT aa (aZ aa n) (.w (.d o) f) v lm1 s λl s=>bj aa (aZ aa n) y l s k) (aP (a:=AA lm1 σ3 λl s=>bj aa (aZ aa n) y l s k) (r k d) (congrFun c _)))) (congrFun e k)
section
variable {n:Nat} {e:aw} {nd:cA} {x:ah}
theorem AC(h:e.b=nd.a):aR aa n (.w (.w (.d 9) 54) 12) ((9,aB)::x) (ac e) (bb nd.j) (ac e):=by rw[iD h];cases nd<;>exact .b (by kernel_rfl!)
theorem IA{a:Str}(b:e.b=nd.a)(H:e.o=.g\/∃a,nd.j=au a/\e.o=.e a)(d:nd.j=au a)(g:gz a):
  av aa (n+1) (.B (.y .Is (.w (.d 9) 38) .g) (.d (.i (.w (.d 9) 38) (.E (.d 9) 139 (.p (.w (.w (.d 9) 54) 12) .j) .j)) .j) .j) ((9,aB)::x) (ac e) .a ((9,aB)::x) (ac (e.E (.e a))):=by
 have c:=AC (n:=n+1) (x:=x) b;rw[d]at c;refine H.elim (λH=>?_) λh=>ap h λA i H=>?_
 ·rw[Iz H]at c⊢;exact .f (Az (o:=9) (f:=38) (y:=.j) (lm1:=(9,aB)::x) c (Oa n a _ g.d g.h) (by kernel_rfl!) .j (by kernel_rfl!))
 ·rw[Iz (H.trans (congrArg V.e (j8 (i.symm.trans d))))];exact .e .j
end
theorem Ol(n:Nat)(e:aw)(i a:Str)(hi:i.length=1)(h:gz a)(hn:dh e.a.a.cps.toList)(d:0<=e.ae.b)(b:aL e.ae 100):
  av aa (n+2) Ep (tf i) (ac (e.E (.e a))) .a [] (ac (e.y (e.ae.d (i++a) true false false) .g))/\bL e.a.a (e.ae.d (i++a) true false false)/\ao (e.ae.d (i++a) true false false).a<=ao e.ae.a+20:=by
 have f:=bw;have H:=h.k;have c:=fO e.ae (i++a) true false false;rw[de]at c;have g:i.length+a.length<=sizeLine:=aC 0x1000000d108aa111a012 (aJ hi) H;refine(cz ?_ (gL hn d (by rw[show(i++a).cps=i.cps++a.cps from rfl,la];exact(vX h.j).b) _ _ _) (bS 0x14b180aa311a212a328818013 c (aJ hi) H));refine .d (l1:=tf i) (σ1:=ac ((e.E (.e a)).aj (e.ae.d (i++a) true false false))) (.a (σ1:=ac (e.E (.e a))) (λk j=>aP (a:=k (a.length !=0) (ac (e.E (.e a)))) (by rw[bne_iff_ne.mpr h.d];exact j)) ?_) (.m (l1:=tf i) .b .j);exact .D (y:=.j) (lm1:=tf i) g (fz n (e.E (.e a)) (i++a) true false false (by delta aL at b⊢;show ao e.ae.a+0<=_;exact aO 0x4630c0d0a0804630c0d64b0811 b) (by rw[de];exact aC 0x3e8c108aa111a012 (aJ hi) H)) .j
theorem vY(n:Nat)(e:aw)(nd:cA)(i:Str)(hi:i.length=1)(H:e.b=nd.a)(d:e.o=.g\/∃a,nd.j=au a/\e.o=.e a)(g:∀a,nd.j=au a->gz a)(hn:dh e.a.a.cps.toList)(J:bL e.a.a e.ae)(j:aL e.ae 100):
  ∃w,bd aa (n+3) 566 [aB,.e i] (ac e) .g (ac (e.y w .g))/\bL e.a.a w/\ao w.a<=ao e.ae.a+20:=by
 have b:=AC (n:=n+2) (x:=[(140,.e i)]) H;cases c:nd.j with
 |none=>rw[c]at b;exact(bx e.ae (.d ⟨[9,140],[],yR,none⟩ (.inl rfl) (l':=tf i) (.k (.a (σ1:=ac e) (gx b (λk h=>h:aR aa (n+2) .g _ _ .g _) λk h=>h) .b))) J (by exact bi _ _))|some a=>rw[c]at b;have f:=g a c;exact cS (Ol n e i a hi f hn J.b.b j) λr l m=>(bx _ (.e ⟨[9,140],[],yR,none⟩ (l':=[]) (.d (.bq (σ1:=ac e) (gx b (λk h=>h:aR aa (n+2) .g _ _ .g _) λk h=>h) .j) (.d (IA H d c f) r))) l m)
def aw.x(e:aw)(an:V):aw:={e with l:=an}
def aw.j(e:aw)(an st:V):aw:={e with l:=an,bg:=st}
def kY(v:Str)(a:V):Prop:=∃em ml afp abp asq adq ab,a=dR v em ml afp abp asq adq ab/\s_ v afp abp ab
def qM(v:Str)(a:V):Prop:=a=.g\/kY v a
theorem AD{e:aw}{x:V}(h:e.l=x):e={e with l:=x}:=by subst h;rfl
theorem AE(n:Nat)(e:aw)(x:ah){a t:Option Str}{i0 i1:Bool}{v:Str}{st:Option Str}(H:e.b=(cA.b a t i0 i1 v st).a)(d:qM v e.l)(g:fE v)(i:bo 6 (ac e)):
  ∃b,av aa (n+2) (.B (.y .Is (.w (.d 9) 36) .g) (.d (.i (.w (.d 9) 36) (.E (.d 9) 136 (.p (.w (.w (.d 9) 54) 20) .j) .j)) .j) .j) ((9,aB)::x) (ac e) .a ((9,aB)::x) (ac (e.x b))/\kY v b:=by
 have c:aR aa (n+2) (.w (.w (.d 9) 54) 20) ((9,aB)::x) (ac e) (.e v) (ac e):=by rw[iD H];exact .b
 refine d.elim (λh=>pv (NW n v _ i g) λem ml afp abp asq adq ab r O=>⟨_,?_,em,ml,afp,abp,asq,adq,ab,rfl,O⟩) λA=>⟨e.l,pv A λem ml afp abp asq adq ab h _=>?_,A⟩
 ·rw[AD h]at r c⊢;exact .f (Az (o:=9) (f:=36) (y:=.j) (lm1:=(9,aB)::x) (σ3:=ac (e.x (dR v em ml afp abp asq adq ab))) c r (by kernel_rfl!) .j (by kernel_rfl!))
 ·rw[AD h];exact .e .j
def kZ(st:Option Str):Prop:=st=none\/st=au ("'":Str)\/st=au ("\"":Str)\/st=au ("|":Str)\/st=au (">":Str)
def kx(i0:Bool)(v s:Str):Prop:=(s=("":Str)/\i0=true/\(v.length=0\/lY v))\/s=("'":Str)\/s=("\"":Str)\/((s=("|":Str)\/s=(">":Str))/\gj v)
def aw.i(e:aw)(sk:Bool)(N:cA)(an:V):aw:={e with b:=N.a,l:=an,v:=.l sk}
theorem Om{e:aw}{n:cA}{a:V}{sk:Bool}(h:e.b=n.a)(H:e.v=.l sk):e.i sk n a=e.x a:=by delta aw.i aw.x;rw[←h,←H]
abbrev aX:ah:=[(9,aB)]
section
variable {n:Nat} {e:aw} {a t:Option Str} {i0 i1 em ml afp abp asq adq ab sk:Bool} {v:Str} {st:Option Str}
theorem On{lm:ah}(h:aH 9 lm=au aB){x:ah}(H:lm=(9,aB)::x):aN aa n (.m (.w (.w (.d 9) 54) 14) (.q 0)) lm (ac (e.i sk (.b a t i0 i1 v st) (dR v em ml afp abp asq adq ab))) i0 (ac (e.i sk (.b a t i0 i1 v st) (dR v em ml afp abp asq adq ab))):=λk b=>by subst H;exact aP (a:=∃y:V,((0:Int)<=0/\(0:Int)<1000)/\([V.l i0,.l i1]:List V)[(0:Int).toNat]? =au y/\eh y (ac (e.i sk (.b a t i0 i1 v st) (dR v em ml afp abp asq adq ab))) k) (bx (.l i0) (by decide) rfl b)
theorem Oo(h:kZ st):∃S,av aa n y_ aX (ac (e.i sk (.b a t i0 i1 v st) (dR v em ml afp abp asq adq ab))) (.f (.e S)) aX (ac (e.i sk (.b a t i0 i1 v st) (dR v em ml afp abp asq adq ab)))/\(S=("'":Str)\/S=("\"":Str)):=by
 have l:av aa n Ev aX (ac (e.i sk (.b a t i0 i1 v st) (dR v em ml afp abp asq adq ab))) (.f (.e "\"")) aX (ac (e.i sk (.b a t i0 i1 v st) (dR v em ml afp abp asq adq ab))):=.b;obtain⟨u,b⟩:∃u,aN aa n Ex aX (ac (e.i sk (.b a t i0 i1 v st) (dR v em ml afp abp asq adq ab))) u (ac (e.i sk (.b a t i0 i1 v st) (dR v em ml afp abp asq adq ab))):=iS (ta:=asq) .b λ_=>As (iS (ta:=sk) .b λ_=>(ba ml .b))
 have i:∃S,av aa n y_ aX (ac (e.i sk (.b a t i0 i1 v st) (dR v em ml afp abp asq adq ab))) (.f (.e S)) aX (ac (e.i sk (.b a t i0 i1 v st) (dR v em ml afp abp asq adq ab)))/\(S=("'":Str)\/S=("\"":Str)):=by
  obtain⟨s,H⟩:∃s,aN aa n Ew aX (ac (e.i sk (.b a t i0 i1 v st) (dR v em ml afp abp asq adq ab))) s (ac (e.i sk (.b a t i0 i1 v st) (dR v em ml afp abp asq adq ab))):=by
   rcases h with rfl|rfl|rfl|rfl|rfl
   ·exact(ba true .b)
   ·exact(ba true .b)
   ·exact(ba false .b)
   ·exact(ba false .b)
   ·exact(ba false .b)
  cases s
  ·exact(aE _ (.d (.bq H .j) l) (.inr rfl))
  ·cases u
   ·exact(aE _ (.d (.a H (.d (.bq b .j) .j)) l) (.inr rfl))
   ·exact(aE ("'") (.k (.a H (.k (.a b .b)))) (.inl rfl))
 exact i
set_option tactic.hygienic true in
theorem Op(f:kZ st)(j:s_ v afp abp ab):∃b,av aa n EE aX (ac (e.i sk (.b a t i0 i1 v st) (dR v em ml afp abp asq adq ab))) (.f (.e b)) aX (ac (e.i sk (.b a t i0 i1 v st) (dR v em ml afp abp asq adq ab)))/\kx i0 v b:=by
 refine ap (Oo (n:=n) (e:=e) (sk:=sk) (a:=a) (t:=t) (i0:=i0) (i1:=i1) (em:=em) (ml:=ml) (afp:=afp) (abp:=abp) (asq:=asq) (adq:=adq) (ab:=ab) (v:=v) (st:=st) f) λS r l=>?_
 have o:kx i0 v S:=.inr (l.elim .inl λh=> .inr (.inl h));obtain⟨c,R,O⟩:∃b,av aa n Ez aX (ac (e.i sk (.b a t i0 i1 v st) (dR v em ml afp abp asq adq ab))) (.f (.e b)) aX (ac (e.i sk (.b a t i0 i1 v st) (dR v em ml afp abp asq adq ab)))/\kx i0 v b:=by
  obtain⟨u,H,i⟩:∃u,aN aa n Ey aX (ac (e.i sk (.b a t i0 i1 v st) (dR v em ml afp abp asq adq ab))) u (ac (e.i sk (.b a t i0 i1 v st) (dR v em ml afp abp asq adq ab)))/\(u=true->ab=true):=by refine(aE _ (gy (t:=!(e.k !=0)) .b (gy (t:=!sk) .b (u:=ab) .b)) (λh=>?_));rw[di,di]at h;exact h.2.2
  rcases f with rfl|rfl|rfl|rfl|rfl
  ·exact(aE S (.d (.e .j) r) o)
  ·exact(aE S (.d (.e .j) r) o)
  ·exact(aE S (.d (.e .j) r) o)
  ·cases u
   ·exact(aE S (.d (.f (.d (.bq H .j) .j)) r) o)
   ·exact(aE ("|") (.k (.f (.k (.a H .b)))) (.inr (.inr (.inr (ai (.inl rfl) (j.b (i rfl)))))))
  ·cases u
   ·exact(aE S (.d (.f (.d (.bq H .j) .j)) r) o)
   ·exact(aE (">") (.k (.f (.k (.a H .b)))) (.inr (.inr (.inr (ai (.inr rfl) (j.b (i rfl)))))))
 obtain⟨g,m,k⟩:∃b,av aa n EC aX (ac (e.i sk (.b a t i0 i1 v st) (dR v em ml afp abp asq adq ab))) (.f (.e b)) aX (ac (e.i sk (.b a t i0 i1 v st) (dR v em ml afp abp asq adq ab)))/\kx i0 v b:=by
  obtain⟨s,d,p⟩:∃s,aN aa n EA aX (ac (e.i sk (.b a t i0 i1 v st) (dR v em ml afp abp asq adq ab))) s (ac (e.i sk (.b a t i0 i1 v st) (dR v em ml afp abp asq adq ab)))/\(s=true->i0=true):=by
   obtain⟨u,H⟩:∃u,aN aa n (.n (.w (.w (.d 9) 54) 21)) aX (ac (e.i sk (.b a t i0 i1 v st) (dR v em ml afp abp asq adq ab))) u (ac (e.i sk (.b a t i0 i1 v st) (dR v em ml afp abp asq adq ab))):=by
    cases st
    ·exact(ba true .b)
    ·rename_i z;exact(ba (!(z.length !=0)) .b)
   refine(aE _ (gy H (On rfl rfl)) (λh=>?_));rw[di]at h;exact h.2
  obtain⟨u,H,i⟩:∃u,aN aa n EB aX (ac (e.i sk (.b a t i0 i1 v st) (dR v em ml afp abp asq adq ab))) u (ac (e.i sk (.b a t i0 i1 v st) (dR v em ml afp abp asq adq ab)))/\(u=true->afp=true\/abp=true):=by refine(aE _ (gy (Aw (gy (t:=sk) .b (eK (t:=em) .b (u:=ml) .b))) (eK (gy (t:=e.k !=0) .b (u:=afp) .b) (gy (t:=!(e.k !=0)) .b (u:=abp) .b))) (λh=>?_));rw[di,k5,di,di]at h;exact h.2.elim (λh=> .inl h.2) λh=> .inr h.2
  cases s
  ·exact(aE c (.d (.bq d .j) R) O)
  ·cases u
   ·exact(aE c (.d (.a d (.d (.bq H .j) .j)) R) O)
   ·exact(aE ("") (.k (.a d (.k (.a H .b)))) (.inl (cz rfl (p rfl) (j.a (i rfl)))))
 obtain⟨s,d⟩:∃s,aN aa n ED aX (ac (e.i sk (.b a t i0 i1 v st) (dR v em ml afp abp asq adq ab))) s (ac (e.i sk (.b a t i0 i1 v st) (dR v em ml afp abp asq adq ab))):=by
  cases st
  ·exact l_ (ta:=false) .b λ_=>(ba e.a.b .b)
  ·rename_i z;exact l_ (ta:=z==("\"":Str)) .b λ_=>(ba e.a.b .b)
 cases s
 ·exact(aE g (.d (.bq d .j) m) k)
 ·exact(aE ("\"") (.k (.a d .b)) (.inr (.inr (.inl rfl))))
end
theorem IB(n:Nat)(e:aw){a t:Option Str}{i0 i1:Bool}{v:Str}{st:Option Str}(c:e.b=(cA.b a t i0 i1 v st).a)(g:qM v e.l)(i:fE v)(d:kZ st)(j:bo 6 (ac e))(h:∃b,e.v=.l b):
  ∃A s,bd aa (n+3) 580 [aB] (ac e) (.e s) (ac (e.x A))/\kY v A/\kx i0 v s:=by
 refine bf h λsk h=>?_
 refine ap (AE n e [] c g i j) λA r H=>?_
 have f:=H;(refine pv H λem ml afp abp asq adq ab E O=>?_;clear H;subst E);refine ap (Op (n:=n+2) (e:=e) (sk:=sk) (a:=a) (t:=t) (i0:=i0) (i1:=i1) (em:=em) (ml:=ml) (asq:=asq) (adq:=adq) d O) λs R o=>?_
 rw[Om c h]at R;exact(dy _ s (.d ⟨[9],[],EF,none⟩ (.inl rfl) (.d r R)) f o)
def aw.iT(e:aw)(w:aF):aw:={e with ae:=w,l:=.g,bg:=.g}
def AF(i0:Bool)(v:Str)(st:V):Prop:=st=.g\/∃s,st=.e s/\kx i0 v s
theorem bW.j{e:aw}{i:Int}(h:bW e i)(A st:V):bW (e.j A st) i:=⟨h.d,h.c,h.b,h.a⟩
theorem AG{e:aw}{x:V}(h:e.bg=x):e={e with bg:=x}:=by subst h;rfl
theorem Oq(n:Nat)(e:aw){a t:Option Str}{i0 i1:Bool}{v:Str}{st:Option Str}(H:e.b=(cA.b a t i0 i1 v st).a)(i:kY v e.l)(c:AF i0 v e.bg)(j:fE v)(d:kZ st)(k:bo 6 (ac e))(g:∃b,e.v=.l b)(x:ah):
  ∃A s,av aa (n+3) (.B (.y .Is (.w (.d 9) 21) .g) (.d (.i (.w (.d 9) 21) (.E (.d 9) 141 .j .j)) .j) .j) ((9,aB)::x) (ac e) .a ((9,aB)::x) (ac (e.j A (.e s)))/\kY v A/\kx i0 v s:=by
 refine c.elim (λh=>dz (IB n e H (.inr i) j d k g) λA s r l m=>(dy A s ?_ l m)) λc=>ap c λs h O=>(dy e.l s ?_ i O)
 ·rw[AG h]at r⊢;exact .f (.E (o:=9) (f:=21) (y:=.j) (lm1:=(9,aB)::x) (σ3:=ac (e.j A (.e s))) r (by kernel_rfl!) .j)
 ·rw[AG h];exact .e .j
def jf:V->Prop
 | .r| .l _=>True|_=>False
theorem jf.r:jf .r:=trivial
theorem jf.l(b:Bool):jf (.l b):=trivial
theorem jf.f{m:Nat}:∀{x:V},jf x->bG m x
 | .r,_| .l _,_=>trivial
structure ei(e:aw):Prop where
 t:bG 6 e.t
 b:bG 6 e.b
 c:bG 6 e.c
 bJ:bG 6 e.bJ
 o:bG 6 e.o
 n:bG 6 e.n
 l:bG 6 e.l
 bg:bG 6 e.bg
 a:ck 6 e.ae.a
 p:ck 6 e.p
 h:ck 6 e.h
 g:ck 6 e.g
 r:jf e.f/\jf e.d/\jf e.q/\jf e.v
theorem ei.d{e:aw}(h:ei e):bo 6 (ac e):=
 .p (.a (.p (.k (by decide)) (.p .g (.p (.o (by decide)) (.p h.t (.p (.o (by decide)) (.p h.b (.p (.o (by decide)) (.p h.c (.p (.q _) (.p h.r.1.f (.p h.r.2.1.f (.p h.r.2.2.1.f (.p h.r.2.2.2.f (.p .x (.p (.q _) (.p (.l _) (.p (.l _) (.p (.l _)
  (.p (.l _) (.p (.l _) (.p (.q _) (.p (.q _) (.p (.e _) (.p h.bJ (.p h.o (.p h.n (.p h.l (.p h.bg .j)))))))))))))))))))))))))))))
  (.p (.a (.p (.o (by decide)) .j)) (.p (.d h.a) (.p (.u h.p) (.p (.u h.h) (.p (.u h.g) .j)))))
theorem ei.x{e:aw}{A:V}(h:ei e)(H:bG 6 A):ei (e.x A):=⟨h.t,h.b,h.c,h.bJ,h.o,h.n,H,h.bg,h.a,h.p,h.h,h.g,h.r⟩
theorem kY.f{v:Str}{a:V}(h:kY v a){m:Nat}:bG m a:=by(refine pv h λE M A b c d g e _=>?_;clear h;subst e);exact .p Av
theorem kx.a{i0:Bool}{v s:Str}(h:kx i0 v s){G:Str->Prop}(g0:v.length=0\/lY v->G "")(g:G "'")(b:G "\"")(c:gj v->G "|")(d:gj v->G ">"):G s:=by
 rcases h with h|h|h|h
 ·exact h.1▸g0 h.2.2
 ·exact h▸g
 ·exact h▸b
 ·exact h.1.elim (λq=>q▸c h.2) λq=>q▸d h.2
theorem Os{e:aw}{x:V}(h:e.v=x):e={e with v:=x}:=by subst h;rfl
theorem th{n:Nat}{e:aw}{a A:V}{s:Str}{sk:Bool}{w:aF}(h:e.v=.l sk)
  (R:av aa (n+4) (.B (.y .Is (.w (.d 9) 36) .g) (.d (.i (.w (.d 9) 36) (.E (.d 9) 136 (.p (.w (.w (.d 9) 54) 20) .j) .j)) .j) .j) [(9,aB)] (ac e) .a [(9,aB)] (ac (e.x a)))
  (b:av aa (n+4) (.B (.y .Is (.w (.d 9) 21) .g) (.d (.i (.w (.d 9) 21) (.E (.d 9) 141 .j .j)) .j) .j) [(9,aB)] (ac (e.x a)) .a [(9,aB)] (ac (e.j A (.e s)))){c:aq}{x y:ag}(H:za=.d (.B c x y) EG)
  (r:av aa (n+4) (.B c x y) [(9,aB),(142,.l (!sk))] (ac (e.j A (.e s))) .a [(9,aB),(142,.l (!sk))] (ac ((e.j A (.e s)).aj w))):bd aa (n+5) 587 [aB] (ac e) .g (ac (e.iT w)):=
 .e ⟨[9],[],EH,none⟩ (l':=[]) (.d R (.d b (.bE (y:=za) (lm1:=[(9,aB),(142,.l (!sk))]) (σ1:=ac (e.j A (.e s))) (by rw[H];exact .d r (.m (l1:=[(9,aB),(142,.l (!sk))]) .b .j)) (by rw[Os h];kernel_rfl!))))
theorem Ot(n:Nat)(e:aw){a t:Option Str}{i0 i1:Bool}{v:Str}{st:Option Str}(i:Int)(O:bW e i)(y:2<=e.a.j/\e.a.j<=9)(b:e.b=(cA.b a t i0 i1 v st).a)(C:qM v e.l)(D:AF i0 v e.bg)(p:fE v)(q:kZ st)(z:ei e)(c:aL e.ae 35000)(J:bL e.a.a e.ae)(u:nY e):
  ∃w,bd aa (n+5) 587 [aB] (ac e) .g (ac (e.iT w))/\ja e.a.a 35000 e.ae w:=by
 refine ap (AE (n+2) e [] b C p z.d) λA d f=>?_
 refine dz (Oq (n+1) (e.x A) b f D p q (z.x f.f).d u.v []) λF s R x g=>?_
 refine pv x λE M j k l m B I _=>bf u.v λS h=>?_
 subst I;have o s:=O.j (dR v E M j k l m B) (.e s);refine g.a (G:=λs=>av aa (n+4) (.B (.y .Is (.w (.d 9) 21) .g) (.d (.i (.w (.d 9) 21) (.E (.d 9) 141 .j .j)) .j) .j) [(9,aB)] (ac (e.x A)) .a [(9,aB)] (ac (e.j (dR v E M j k l m B) (.e s)))->∃w,bd aa (n+5) 587 [aB] (ac e) .g (ac (e.iT w))/\ja e.a.a 35000 e.ae w)
  (λK R=>?_) (λR=>?_) (λR=>?_) (λH R=>?_) (λH R=>?_) R
 ·exact ap (Ng n v (!S) _ i (o _) K c J u.f) λw r W=>(aE w (th h d R rfl (.e (.d (.e (.d (.e (.d (.e (.h _ r)) .j)) .j)) .j))) W)
 ·exact ap (Ou n v (!S) _ i (o _) p.k c J.b.b) λw r W=>(aE w (th h d R rfl (.e (.d (.f (.h _ r)) .j))) W)
 ·exact ap (Ov n v (!S) _ i (o _) p c J.b.b) λw r W=>(aE w (th h d R rfl (.f (.h _ r))) W)
 ·exact ap (No n v _ i (o _) y H c J) λw r W=>(aE w (th h d R rfl (.e (.d (.e (.d (.e (.d (.f (.h _ r)) .j)) .j)) .j))) W)
 ·exact ap (Nw n v _ i (o _) y H c J) λw r W=>(aE w (th h d R rfl (.e (.d (.e (.d (.f (.h _ r)) .j)) .j))) W)
def px(D:List (Str×V))(ps:List Str)(t:Str):Prop:=t=("!":Str)\/qJ D ps t=true
def qN(r:Str):Prop:=qI r=true/\r.length<=70
theorem IC(n:Nat)(e:aw)(D:List (Str×V))(ps:List Str)(t:Str)(h:e.bJ=.c D)(H:px D ps t)(b:bo 6 (ac e)):
  ∃r:Str,bd aa (n+1) 615 [aB,.e t] (ac e) (.e r) (ac e)/\qN r:=by
 rcases H with rfl|H
 ·refine⟨"!",.a (fl:=.f (.e "!")) (l':=[]) (σ1:=ac e) ⟨[9,13],[],ze,au none⟩ (by kernel_rfl!) rfl (.inl rfl) (.m (l1:=[(9,aB),(13,.e "!")]) .b .j) (λk c=>aP (a:=(bG 6 (.e "!")/\bo 6 (ac e))/\k (.e "!") (ac e)) (ai ⟨.e _,b⟩ c)),by decide+kernel,by decide⟩
 ·refine bY (Oi n e D ps t h H b) λr d f g=>?_
  exact⟨r,d,f,g⟩
def vZ(p:V):Prop:=p=.g\/∃r,p=.e r/\qN r
def aw.z(e:aw)(pt:V):aw:={e with n:=pt}
def aw.D(e:aw)(w:aF):aw:={e with ae:=w,n:=.g}
abbrev eT(v:V):ah:=[(9,aB),(13,v)]
theorem Ow(n:Nat)(e:aw)(r:Str)(v:V)(h:qN r)(hn:dh e.a.a.cps.toList)(b:0<=e.ae.b)(H:aL e.ae 100):
  av aa (n+2) Er (eT v) (ac (e.z (.e r))) .a [] (ac (e.D (e.ae.d r true false false)))/\bL e.a.a (e.ae.d r true false false)/\ao (e.ae.d r true false false).a<=ao e.ae.a+72:=by
 have f:=h.2;have c:=fO e.ae r true false false;refine(cz ?_ (gL hn b (vX h.1) _ _ _) (bc 0x48b18046b212a2818012 c h.2));refine .d (l1:=eT v) (σ1:=ac ((e.z (.e r)).aj (e.ae.d r true false false))) (.a (σ1:=ac (e.z (.e r))) (λk d=>aP (a:=k (r.length !=0) (ac (e.z (.e r)))) (by rw[bne_iff_ne.mpr (E5.mp (vX h.1).d)];exact d)) ?_) (.m (l1:=eT v) .b .j);exact .h _ (fz n (e.z (.e r)) r true false false (by delta aL at H⊢;show ao e.ae.a+0<=_;exact aO 0x4630c0d0a0804630c0d64b0811 H) (by exact cO ‹_›))
theorem v_{e:aw}{x:V}(h:e.n=x):e={e with n:=x}:=by subst h;rfl
theorem AH(n:Nat)(e:aw)(D:List (Str×V))(ps:List Str)(t:Str)(a:e.bJ=.c D)(c:px D ps t)(d:bo 6 (ac e))(b:vZ e.n)(hn:dh e.a.a.cps.toList)(g:0<=e.ae.b)(i:aL e.ae 100):
  ∃w,av aa (n+2) yS (eT (.e t)) (ac e) .a [] (ac (e.D w))/\bL e.a.a w/\ao w.a<=ao e.ae.a+72:=by
 have F {r:Str} (H:qN r) (h:av aa (n+2) (.B (.y .Is (.w (.d 9) 37) .g) (.d (.i (.w (.d 9) 37) (.E (.d 9) 137 (.p (.d 13) .j) .j)) .j) .j) (eT (.e t)) (ac e) .a (eT (.e t)) (ac (e.z (.e r)))):
   ∃w,av aa (n+2) yS (eT (.e t)) (ac e) .a [] (ac (e.D w))/\bL e.a.a w/\ao w.a<=ao e.ae.a+72:=
  cS (Ow n e r (.e t) H hn g i) λj J k=>(bx _ (.d (l1:=eT (.e t)) (σ1:=ac e) (.e .j) (.d h j)) J k)
 refine b.elim (λh=>ap (IC (n+1) e D ps t a c d) λr R H=>F H ?_) λh=>ap h λr h H=>F H ?_
 ·rw[v_ h]at R⊢;exact .f (.E (o:=9) (f:=37) (y:=.j) (lm1:=eT (.e t)) R (by kernel_rfl!) .j)
 ·rw[v_ h];exact .e .j
structure ID(e:aw)(D:List (Str×V))(ps:List Str)(t:Option Str):Prop where
 bJ:e.bJ=.c D
 a:∀x,t=au x->px D ps x
 n:vZ e.n
theorem jy{n:Nat}{x:aq}{lm:ah}{σ σ':af}{t T:Bool}(h:aN aa n x lm σ t σ')(e:t=T):aN aa n x lm σ T σ':=e▸h
section
variable {n:Nat} {e:aw} {C:Addr} {a t:Option Str} {imp fl u:Bool} {v:V}
theorem Ox(H:C=229\/C=253)(h:e.b=.p C [(12,bb a),(13,bb t),(14,.l imp),(10,.g),(11,.g),(15,.l fl)]):aN aa n yT (eT v) (ac e) false (ac e)/\aN aa n (.w (.w (.d 9) 54) 14) (eT v) (ac e) imp (ac e):=by rw[iD h];rcases H with rfl|rfl<;>exact(ai .b .b)
theorem IE(H:C=229\/C=253)(h:e.b=.p C [(12,bb a),(13,bb t),(14,.l imp),(10,.g),(11,.g),(15,.l fl)]){f':bH}{l':ah}{σ':af}(r:av aa n yY (eT (bb t)) (ac e) f' l' σ'):av aa n yZ aX (ac e) f' l' σ':=by rw[iD h]at r⊢;rcases H with rfl|rfl<;>exact .bE r (by kernel_rfl!)
theorem Oy:av aa n Eu (eT v) (ac e) (.f .g) [] (ac (e.D e.ae)):=.m (l1:=eT v) .b .j
end
theorem IF(n:Nat)(e:aw)(D:List (Str×V))(ps:List Str){C:Addr}(c:C=229\/C=253){a t:Option Str}{imp fl:Bool}(H:e.b=.p C [(12,bb a),(13,bb t),(14,.l imp),(10,.g),(11,.g),(15,.l fl)])(d:ID e D ps t)(j:t=none->imp=true)(k:bo 6 (ac e))(hn:dh e.a.a.cps.toList)(l:aL e.ae 100)(J:bL e.a.a e.ae):
  ∃w,bd aa (n+3) 573 [aB] (ac e) .g (ac (e.D w))/\bL e.a.a w/\ao w.a<=ao e.ae.a+72:=by
 refine aV (Ox (n:=n+2) (v:=bb t) c H) λi I=>?_
 have f (u:Bool) (m:aN aa (n+2) (.y .Is (.d 13) .g) (eT (bb t)) (ac e) u (ac e)) (b:Bool) (o:((!e.a.b||u)&&imp)=b):aN aa (n+2) yX (eT (bb t)) (ac e) b (ac e):=jy (gy (eK .b m) I) o;have E (h:aN aa (n+2) yX (eT (bb t)) (ac e) true (ac e)):∃w,bd aa (n+3) 573 [aB] (ac e) .g (ac (e.D w))/\bL e.a.a w/\ao w.a<=ao e.ae.a+72:=(bx e.ae (.d ⟨[9],[],qq,none⟩ (.inl rfl) (IE c H (.k (.bq i (.k (.a h Oy)))))) J (bi _ _))
 cases t with
 |none=>exact E (f true .b _ (by rw[j rfl,I7];rfl))|some t=>
  cases g:((!e.a.b||false)&&imp)
  ·exact bY (AH n _ D ps t d.bJ (d.a t rfl) k d.n hn J.b.b l) λw r p q=>(bx w (.e ⟨[9],[],qq,none⟩ (IE c H (.d (.bq i (.d (.bq (f false .b _ g) .j) .j)) r))) p q)
  ·exact E (f false .b _ g)
def aw.F(e:aw)(w:aF)(an:V)(S:Str):aw:={e with ae:=w,n:=.g,l:=an,bg:=.e S}
theorem AI{n:Nat}{e:aw}{a t:Option Str}{i0 i1:Bool}{v:Str}{st:Option Str}(h:e.b=(cA.b a t i0 i1 v st).a){x:ah}:aN aa n (.m (.w (.w (.d 9) 54) 14) (.q 0)) ((9,aB)::x) (ac e) i0 (ac e)/\aN aa n (.m (.w (.w (.d 9) 54) 14) (.q 1)) ((9,aB)::x) (ac e) i1 (ac e):=by
 rw[iD h];refine(ai (λk H=>?_) (λk H=>?_))
 ·exact aP (a:=∃y:V,((0:Int)<=0/\(0:Int)<1000)/\([V.l i0,.l i1]:List V)[(0:Int).toNat]? =au y/\eh y (ac {e with b:=(cA.b a t i0 i1 v st).a}) k) (bx (.l i0) (by decide) rfl H)
 ·exact aP (a:=∃y:V,((0:Int)<=1/\(1:Int)<1000)/\([V.l i0,.l i1]:List V)[(1:Int).toNat]? =au y/\eh y (ac {e with b:=(cA.b a t i0 i1 v st).a}) k) (bx (.l i1) (by decide) rfl H)
theorem Oz{n:Nat}{e:aw}{a:V}{s:Str}{x:ah}(h:e.bg=.g)(r:bd aa n 580 [aB] (ac e) (.e s) (ac (e.x a))):av aa n (.B yV yW .j) ((9,aB)::x) (ac e) .a ((9,aB)::x) (ac (e.j a (.e s))):=by rw[AG h]at r⊢;exact .f (.E (o:=9) (f:=21) (y:=.j) (lm1:=(9,aB)::x) (σ3:=ac (e.j a (.e s))) r (by kernel_rfl!) .j)
theorem OA{c i0 i1:Bool}{v s:Str}(h:i0=true\/i1=true)(a:kx i0 v s)(H:((!c||true)&&(((s==("":Str))&&i0)||((s !=("":Str))&&i1)))=false):i0=true:=by
 rcases h with h|h
 ·exact h
 ·subst h;rw[I7,E',kO,rF]at H;have e:s=("":Str):=by simpa using H.2
  rcases a with h|h|h|h
  ·exact h.2.1
  ·exact absurd (e.symm.trans h) (by decide)
  ·exact absurd (e.symm.trans h) (by decide)
  ·rcases h.1 with h|h<;>exact absurd (e.symm.trans h) (by decide)
theorem OB(n:Nat)(e:aw)(D:List (Str×V))(ps:List Str){a t:Option Str}{i0 i1:Bool}{v:Str}{st:Option Str}(g:e.b=(cA.b a t i0 i1 v st).a)(l:ID e D ps t)(N:t=none->i0=true\/i1=true)(O:qM v e.l)(P:e.bg=.g)(Q:fE v)(m:kZ st)(H:ei e)(hn:dh e.a.a.cps.toList)(I:aL e.ae 100)(J:bL e.a.a e.ae)(S:nY e):
  ∃w A s,bd aa (n+4) 573 [aB] (ac e) .g (ac (e.F w A s))/\kY v A/\kx i0 v s/\bL e.a.a w/\ao w.a<=ao e.ae.a+72:=by
 refine dz (IB n e g O Q m H.d S.v) λA s T d c=>?_
 have f:(e.j A (.e s)).b=(cA.b a t i0 i1 v st).a:=g;have o:bo 6 (ac (e.j A (.e s))):=(⟨H.t,H.b,H.c,H.bJ,H.o,H.n,d.f,.e _,H.a,H.p,H.h,H.g,H.r⟩:ei (e.j A (.e s))).d;have R:av aa (n+3) (.B yV yW .j) (eT (bb t)) (ac e) .a (eT (bb t)) (ac (e.j A (.e s))):=Oz P T;have B:∀{F:bH} {L:ah} {k:af},av aa (n+3) yY (eT (bb t)) (ac e) F L k->av aa (n+3) yZ aX (ac e) F L k:=λr=>by rw[iD g]at r⊢;exact .bE r
 have i:aN aa (n+3) yT (eT (bb t)) (ac e) true (ac e):=by rw[iD g];exact .b
 have K:∀u:Bool,(ij u (ac (e.j A (.e s)))=(ae aa (aZ aa (n+3)) (.y .Is (.d 13) .g)).a (eT (bb t)) (ac (e.j A (.e s))))->
   aN aa (n+3) yU (eT (bb t)) (ac (e.j A (.e s))) ((!e.a.b||u)&&(((s==("":Str))&&i0)||((s !=("":Str))&&i1))) (ac (e.j A (.e s))):=λu p=>
  gy (eK .b (.b p)) (eK (gy .b (AI f).1) (gy .b (AI f).2))
 have q:∀{x:V},av aa (n+3) Et (eT x) (ac (e.j A (.e s))) (.f .g) [] (ac (e.F e.ae A s)):=λ{x}=> .m (l1:=eT x) .b .j
 have E (h:aN aa (n+3) yU (eT (bb t)) (ac (e.j A (.e s))) true (ac (e.j A (.e s)))):∃w A s,bd aa (n+4) 573 [aB] (ac e) .g (ac (e.F w A s))/\kY v A/\kx i0 v s/\bL e.a.a w/\ao w.a<=ao e.ae.a+72:=(ni e.ae A s (.d ⟨[9],[],qq,none⟩ (.inl rfl) (B (.k (.a i (.d R (.k (.a h q))))))) d c J (bi _ _))
 have M (u:Bool) (p:aN aa (n+3) (.y .Is (.d 13) .g) (eT (bb t)) (ac (e.j A (.e s))) u (ac (e.j A (.e s)))) (b:Bool) (U:(i0&&u)=b):aN aa (n+3) Es (eT (bb t)) (ac (e.j A (.e s))) b (ac (e.j A (.e s))):=jy (gy (AI f).1 p) U;cases t with
 |some t=>
  have C:=K false (by kernel_rfl!);cases j:((!e.a.b||false)&&(((s==("":Str))&&i0)||((s !=("":Str))&&i1)))
  ·exact bY (AH (n+1) (e.j A (.e s)) D ps t l.bJ (l.a t rfl) o l.n hn J.b.b I) λw r y z=>(ni w A s (.e ⟨[9],[],qq,none⟩ (B (.d (.a i (.d R (.d (.bq (jy C j) .j) (.d (.bq (M false .b _ (kK _)) .j) .j)))) r))) d c y z)
  ·exact E (jy C j)
 |none=>
  have C:=K true (by kernel_rfl!);cases j:((!e.a.b||true)&&(((s==("":Str))&&i0)||((s !=("":Str))&&i1)))
  ·have G:bo 6 (ac ((e.j A (.e s)).z .g)):=(⟨H.t,H.b,H.c,H.bJ,H.o,.g,d.f,.e _,H.a,H.p,H.h,H.g,H.r⟩:ei ((e.j A (.e s)).z .g)).d;exact bY (AH (n+1) ((e.j A (.e s)).z .g) D ps ("!":Str) l.bJ (.inl rfl) G (.inl rfl) hn J.b.b I) λw r y z=>(ni w A s (.e ⟨[9],[],qq,none⟩ (B (.d (l1:=eT (.e "!")) (σ1:=ac ((e.j A (.e s)).z .g)) (.a i (.d R (.d (.bq (jy C j) .j) (.d (.a (M true .b _ (by rw[OA (N rfl) c j];rfl)) .b) .j)))) r))) d c y z)
  ·exact E (jy C j)
inductive ay where
 |b (x:cA)
 |fQ|fR
 |c (ex:Bool) (ver tags:V)
 |d (ex:Bool)
 |i|g
noncomputable def cA.e:cA->Addr
 | .h _=>197| .b .. =>217| .c .. =>229| .d .. =>253
noncomputable def ay.e:ay->Addr
 | .b x=>x.e| .fQ=>241| .fR=>265| .c .. =>165| .d _=>185| .i=>133| .g=>145
noncomputable def ay.a:ay->V
 | .b x=>x.a| .fQ=>Mine.L1.fQ| .fR=>Mine.L1.fR| .c E v t=> .p 165 [(10,.g),(11,.g),(17,.l E),(18,v),(19,t)]| .d E=> .p 185 [(10,.g),(11,.g),(17,.l E)]| .i=> .p 133 [(10,.g),(11,.g),(16,.g)]| .g=> .p 145 [(10,.g),(11,.g)]
def eL(C D:Addr):Bool:=match br C aa.h with
 |some c=>cV D c.d|none=>false
def oq(C:Addr):Bool:=(br C aa.h).isSome
theorem OC(x:ay):∃f,x.a=.p x.e f:=by
 cases x with
 |b y=>cases y<;>exact(ba _ rfl)
 |_=>exact(ba _ rfl)
theorem OD(x:ay):oq x.e=true:=by
 cases x with
 |b y=>cases y<;>kernel_rfl!
 |_=>kernel_rfl!
theorem ti{n:Nat}{lm:ah}{σ:af}{o:aq}{x:ay}{g:Nat}{D:Addr}(H:aR aa n o lm σ x.a σ)(i:br g aa.b=au (.h D))(a:oq D=true):aR aa n (.z (.G 62) (.p o (.p (.G g) .j)) .j) lm σ (.l (eL x.e D)) σ:=λk h=>by
 refine bf (OC x) λF j=>?_
 have e:=OD x;unfold oq at e a;refine bf (o4.mp e) λc f=>?_
 refine bf (o4.mp a) λd l=>?_
 rw[j]at H;delta eL at h;rw[f]at h;have b:(ae aa (aZ aa n) (.p o (.p (.G g) .j))).c lm σ λm s=>fS aa (aZ aa n) (.j .g) m [] s k:=by
  refine H _ ?_;show match br g aa.b with
   |some v=>_|none=>False
  rw[i];show(eM (br x.e aa.h) λc=>eM (br D aa.h) λ_=> .h (.l (cV D c.d)) σ).bD k;rw[f];show(eM (br D aa.h) λ_=> .h (.l (cV D c.d)) σ).bD k;rw[l];exact h
 exact aP b
theorem wa{n:Nat}{lm:ah}{σ:af}{o:aq}{x:ay}{g:Nat}{D:Addr}(h:aR aa n o lm σ x.a σ)(H:br g aa.b=au (.h D))(a:oq D=true):aN aa n (.z (.G 62) (.p o (.p (.G g) .j)) .j) lm σ (eL x.e D) σ:=λk b=>ti h H a (λv s=>eh v s k) b
theorem tj{n:Nat}{e:aw}{x:ah}:aR aa n (.w (.d 9) 54) ((9,aB)::x) (ac e) e.b (ac e):=.b
theorem IG{n:Nat}{e:aw}{x:ah}{y:V}{r:List V}(h:e.g=y::r):aR aa n (.m (.w (.d 9) 55) (.q 0)) ((9,aB)::x) (ac e) y (ac e):=λk H=>aP (a:=∃z,(0:Int)<=0/\e.g[(0:Int).toNat]? =au z/\k z (ac e)) (bx y (by decide) (by rw[h];rfl) H)
def qO(b:Bool)(D:Addr):List ay->V
 |[]=>match b with
  |true=> .o 5|false=> .l false
 |x::_=> .l (b&&eL x.e D)
theorem qP{n:Nat}{lm:ah}{σ:af}{a b:aq}{t:Bool}{v:V}(H:aR aa n a lm σ (.l t) σ)(c:t=false->v=.l false)(d:t=true->aR aa n b lm σ v σ):aR aa n (.C a b) lm σ v σ:=λk h=>H _ (by
 cases t
 ·rw[c rfl]at h;exact h
 ·exact d rfl k h)
theorem IH{n:Nat}{e:aw}{ev:ay}{q:List ay}(b G:Nat)(D d:Addr)(c:e.b=ev.a)(H:e.g=q.map ay.a)(i:br b aa.b=au (.h D))(j:oq D=true)(l:br G aa.b=au (.h d))(m:oq d=true):
  aR aa n (.C (.z (.G 62) (.p (.w (.d 9) 54) (.p (.G b) .j)) .j) (.C (.w (.d 9) 55) (.z (.G 62) (.p (.m (.w (.d 9) 55) (.q 0)) (.p (.G G) .j)) .j))) aX (ac e) (qO (eL ev.e D) d q) (ac e):=by
 have R:aR aa n (.z (.G 62) (.p (.w (.d 9) 54) (.p (.G b) .j)) .j) aX (ac e) (.l (eL ev.e D)) (ac e):=ti (by have:=tj (n:=n) (e:=e) (x:=[]);rw[c]at this;exact this) i j;refine qP R (λh=>?_) λh=>?_
 ·rw[h];cases q<;>rfl
 ·rw[h];intro k f;cases q with
  |nil=>
   refine aP (a:=k (.o 5) (ac {e with g:=[]})) ?_ ?_
   ·have:e={e with g:=[]}:=qL H;rw[←this];exact f
   ·have:e={e with g:=[]}:=qL H;rw[this];kernel_rfl!
  |cons y r=>
   have o:aR aa n (.z (.G 62) (.p (.m (.w (.d 9) 55) (.q 0)) (.p (.G G) .j)) .j) aX (ac e) (.l (eL y.e d)) (ac e):=ti (IG H) l m;have p:=o k (by rw[show qO true d (y::r)=.l (true&&eL y.e d)from rfl,E']at f;exact f);have:e={e with g:=y.a::r.map ay.a}:=qL H;refine aP (a:=(ae aa (aZ aa n) (.z (.G 62) (.p (.m (.w (.d 9) 55) (.q 0)) (.p (.G G) .j)) .j)).az aX (ac e) k) p ?_;rw[this]
   kernel_rfl!
theorem II(n:Nat)(e:aw)(ev:ay)(q:List ay)(h:e.b=ev.a)(H:e.g=q.map ay.a):bd aa (n+1) 538 [aB] (ac e) (qO (eL ev.e 229) 241 q) (ac e):=.d ⟨[9],[],Eh,none⟩ (.inl rfl) (l':=aX) (.k λk a=>IH 64 121 _ _ h H (by kernel_rfl!) (by kernel_rfl!) (by kernel_rfl!) (by kernel_rfl!) _ (a _ .a))
theorem IJ(n:Nat)(e:aw)(ev:ay)(q:List ay)(h:e.b=ev.a)(H:e.g=q.map ay.a):bd aa (n+1) 545 [aB] (ac e) (qO (eL ev.e 253) 265 q) (ac e):=.d ⟨[9],[],Ei,none⟩ (.inl rfl) (l':=aX) (.k λk a=>IH 65 124 _ _ h H (by kernel_rfl!) (by kernel_rfl!) (by kernel_rfl!) (by kernel_rfl!) _ (a _ .a))
theorem AJ{e:aw}{b:Bool}{D:Addr}{q:List ay}(a:e.g=q.map ay.a):∃t,(∀k:Bool->af->Prop,k t (ac e)->eh (qO b D q) (ac e) k)/\(t=true->∃y r,q=y::r/\b=true/\eL y.e D=true)/\(t=false->b=true->∀y r,q=y::r->eL y.e D=false):=by
 cases q with
 |nil=>
  refine(bx false (λk H=>?_) (λh=>by(injection h;done)) (λ_ _ y r h=>by(injection h;done)));have:e={e with g:=[]}:=qL a;cases b
  ·exact H
  ·rw[this]at H⊢;exact aP H
 |cons y r=>
  refine(bx (b&&eL y.e D) (λk H=>H) (λh=>(dy y r rfl ((di _ _▸h).1) ((di _ _▸h).2))) (λh c Y R d=>?_));(injection d with z;subst z);subst c
  simpa using h
noncomputable def cA.i:cA->Option Str
 | .h _=>none| .b _ t .. =>t| .c _ t .. =>t| .d _ t .. =>t
structure gM(D:List (Str×V))(ps:List Str)(nd:cA):Prop where
 j:∀a,nd.j=au a->gz a
 e:∀t,nd.i=au t->px D ps t
 b:∀a t i0 i1 v st,nd=.b a t i0 i1 v st->fE v/\kZ st/\(t=none->i0=true\/i1=true)
 c:∀a t i f,nd=.c a t i f->t=none->i=true
 d:∀a t i f,nd=.d a t i f->t=none->i=true
def OE(nd:cA)(a:V):Prop:=match nd with
 | .b _ _ _ _ v _=>qM v a|_=>a=.g
def AK(nd:cA)(p:V):Prop:=p=.g\/∃t r,nd.i=au t/\p=.e r/\qN r
theorem AK.bg{nd:cA}{p:V}(h:AK nd p):vZ p:=by
 rcases h with h|⟨t,r,_,h,g⟩
 ·exact .inl h
 ·exact .inr (aE r h g)
structure fg(nd:cA)(pa pt an:V):Prop where
 o:pa=.g\/∃a,nd.j=au a/\pa=.e a
 n:AK nd pt
 l:OE nd an
def aw.m(e:aw)(pa pt an:V):aw:={e with o:=pa,n:=pt,l:=an}
theorem fg.g(nd:cA):fg nd .g .g .g:=⟨.inl rfl,.inl rfl,by cases nd<;>first|exact .inl rfl|exact rfl⟩
theorem fg.f{nd:cA}{p P A:V}(h:fg nd p P A):bG 6 p/\bG 6 P/\bG 6 A:=by
 refine(cz ?_ ?_ ?_)
 ·rcases h.o with rfl|⟨a,_,rfl⟩
  ·exact .g
  ·exact .e _
 ·rcases h.n with rfl|⟨_,a,_,rfl,_⟩
  ·exact .g
  ·exact .e _
 ·have:=h.l;cases nd with
  |b a t i I v s=>
   rcases this with rfl|h
   ·exact .g
   ·exact h.f
  |_=>subst this;exact .g
section
variable {n:Nat} {e:aw} {nd:cA} {x:ah}
theorem OF(H:e.b=nd.a){t:Str}(a:nd.i=au t):aR aa n (.w (.w (.d 9) 54) 13) ((9,aB)::x) (ac e) (.e t) (ac e):=by
 rw[iD H];cases nd with
 |h=>exact nomatch a|_=>cases a;exact .b
theorem OG{D:List (Str×V)}{ps:List Str}{t:Str}(a:e.b=nd.a)(b:e.bJ=.c D)(H:vZ e.n)(g:nd.i=au t)(i:px D ps t)(j:bo 6 (ac e)):
  ∃r,av aa (n+1) (.B (.y .Is (.w (.d 9) 37) .g) (.d (.i (.w (.d 9) 37) (.E (.d 9) 137 (.p (.w (.w (.d 9) 54) 13) .j) .j)) .j) .j) ((9,aB)::x) (ac e) .a ((9,aB)::x) (ac (e.z (.e r)))/\qN r:=by
 refine H.elim (λH=>?_) λh=>ap h λr H c=>(aE r ?_ c)
 ·refine ap (IC n e D ps t b i j) λr R c=>(aE r ?_ c)
  have d:=OF (n:=n+1) (x:=x) a g;rw[v_ H]at d R⊢;exact .f (Az (o:=9) (f:=37) (y:=.j) (lm1:=(9,aB)::x) d R (by kernel_rfl!) .j (by kernel_rfl!))
 ·rw[v_ H];exact .e .j
theorem IK{lm:ah}{σ:af}{a b:aq}{c v:V}{t:Bool}(H:aR aa n a lm σ c σ)(d:∀k:Bool->af->Prop,k t σ->eh c σ k)(e:t=true->v=c)(f:t=false->aR aa n b lm σ v σ):aR aa n (.A a b) lm σ v σ:=λk h=>H _ (d _ (by
 cases t
 ·exact f rfl k h
 ·rw[e rfl]at h;exact h))
theorem IL{lm:ah}{σ:af}{a:aq}{t:Bool}(h:aR aa n a lm σ (.l t) σ):aR aa n (.n a) lm σ (.l (!t)) σ:=λk H=>h _ H
theorem wb{t:Bool}{σ:af}(k:Bool->af->Prop)(h:k t σ):eh (.l t) σ k:=h
end
abbrev jU(l:Int):ah:=[(9,aB),(135,.q l)]
def mn(n:Nat)(x:aq)(lm:ah)(σ:af):Prop:=∃v t,aR aa n x lm σ v σ/\∀k:Bool->af->Prop,k t σ->eh v σ k
section
variable {n:Nat} {lm:ah} {σ:af} {a b:aq} {t:Bool}
theorem mn.l(h:aR aa n a lm σ (.l t) σ):mn n a lm σ:=(cg _ t h wb)
theorem mn.A(h:mn n a lm σ)(g:mn n b lm σ):mn n (.A a b) lm σ:=dJ h λv t r H=>dJ g λc T R d=>by
 cases t
 ·exact(cg c T (IK r H nofun λ_=>R) d)
 ·exact(cg v true (IK r H (λ_=>rfl) nofun) H)
theorem mn.C(h:aR aa n a lm σ (.l t) σ)(g:t=true->mn n b lm σ):mn n (.C a b) lm σ:=by
 cases t
 ·exact(cg (.l false) false (qP h (λ_=>rfl) nofun) wb)
 ·exact dJ (g rfl) λv T r H=>(cg v T (qP h nofun λ_=>r) H)
end
def wc(nd:cA)(a:V):Prop:=match nd with
 | .b _ _ _ _ v _=>kY v a|_=>True
theorem wc.d{nd:cA}{a:V}(h:wc nd a)(g:eL (ay.b nd).e 217=true):∃v,kY v a:=by
 cases nd with
 |b=>exact(ba _ h)|_=>exact Ir g (by kernel_rfl!)
theorem OH(n:Nat)(e:aw)(nd:cA)(q:List ay)(l:Int)(H:e.b=nd.a)(a:e.g=q.map ay.a)(b:wc nd e.l):
  mn (n+1) (.C (.y .Lt (.d 135) (.q 128)) (.A (.z (.G 62) (.p (.w (.d 9) 54) (.p (.G 106) .j)) .j) (.A (.C (.z (.G 62) (.p (.w (.d 9) 54) (.p (.G 108) .j)) .j) (.C (.n (.w (.w (.d 9) 36) 23)) (.n (.w (.w (.d 9) 36) 24)))) (.A (.E (.d 9) 110 .j .j) (.E (.d 9) 113 .j .j))))) (jU l) (ac e):=by
 have r:aR aa (n+1) (.w (.d 9) 54) (jU l) (ac e) (ay.b nd).a (ac e):=(congrArg (aR aa (n+1) _ _ _ · _) H)▸tj;refine .C (t:=decide (l<128)) .b λ_=> .A (.l (ti (D:=197) r (by kernel_rfl!) (by kernel_rfl!))) (.A (.C (ti (D:=217) r (by kernel_rfl!) (by kernel_rfl!)) λh=>?_) (.A ?_ ?_))
 ·refine bf (b.d h) λv A=>pv A λE m f g i j o h _=>?_
  rw[AD h];exact .C (t:=!E) (IL .b) λ_=> .l (t:=!m) (IL .b)
 ·exact ap (AJ a) λt c _=>⟨_,t,λk d=>aP (II n e (.b nd) q H a k d),c⟩
 ·exact ap (AJ a) λt c _=>⟨_,t,λk d=>aP (IJ n e (.b nd) q H a k d),c⟩
theorem ei.m{e:aw}{P f A:V}(h:ei e)(H:bG 6 P)(i:bG 6 f)(j:bG 6 A):ei (e.m P f A):=⟨h.t,h.b,h.c,h.bJ,H,i,j,h.bg,h.a,h.p,h.h,h.g,h.r⟩
theorem OI(nd:cA):eL (ay.b nd).e 81=true:=by cases nd<;>kernel_rfl!
theorem IM{α:Type}(o:Option α){G:Prop}(h:o=none->G)(g:∀a,o=au a->G):G:=by
 cases o with
 |none=>exact h rfl|some a=>exact g a rfl
section
variable {n:Nat} {e:aw} {nd:cA} {l:Int}
theorem IN(h:e.b=nd.a):aR aa n (.w (.d 9) 54) (jU l) (ac e) (ay.b nd).a (ac e):=(congrArg (aR aa n _ _ _ · _) h)▸tj
theorem IO(H:e.b=nd.a):aN aa n yP (jU l) (ac e) (!ot (bb nd.i)) (ac e):=by
 rw[iD H];cases nd with
 |h a=>exact .b|b a t=>cases t<;>exact .b (by kernel_rfl!)
 |c a t=>cases t<;>exact .b (by kernel_rfl!)
 |d a t=>cases t<;>exact .b (by kernel_rfl!)
theorem IP(h:e.b=nd.a):aN aa n yQ (jU l) (ac e) (true&& !ot (bb nd.j)) (ac e):=
 gy (jy (wa (D:=81) (IN h) (by kernel_rfl!) (by kernel_rfl!)) (OI nd)) (gx (AC h) (λk H=>H:aR aa n .g _ _ .g _) λk H=>by cases a:nd.j<;>(rw[a]at H;exact H))
theorem OJ(h:e.b=nd.a)(H:fg nd e.o e.n e.l)(o:∀a,nd.j=au a->gz a):∃l1 p,av aa (n+2) (.B yQ En .j) (jU l) (ac e) .a (jU l1) (ac (e.m p e.n e.l))/\fg nd p e.n e.l:=by
 refine IM nd.j (λb=>?_) λa b=>?_
 ·exact⟨l,e.o,.bq (jy (IP h) (by rw[b];rfl)) .j,H.o,H.n,H.l⟩
 ·exact⟨l+(a.length:Int),.e a,.a (jy (IP h) (by rw[b];rfl)) (.d (IA h H.o b (o a b)) .b),.inr (aE a b rfl),H.n,H.l⟩
theorem OK{D:List (Str×V)}{ps:List Str}(h:e.b=nd.a)(b:e.bJ=.c D)(H:fg nd e.o e.n e.l)(o:∀t,nd.i=au t->px D ps t)(c:bo 6 (ac e)):∃l1 p,av aa (n+2) (.B yP Em .j) (jU l) (ac e) .a (jU l1) (ac (e.m e.o p e.l))/\fg nd e.o p e.l:=by
 refine IM nd.i (λa=>?_) λt a=>?_
 ·exact⟨l,e.n,.bq (jy (IO h) (by rw[a];rfl)) .j,H.o,H.n,H.l⟩
 ·refine ap (OG (n:=n+1) (x:=[(135,.q l)]) h b H.n.bg a (o t a) c) λr R d=>?_
  exact⟨l+(r.length:Int),.e r,.a (jy (IO h) (by rw[a];rfl)) (.d R .b),H.o,.inr (dy t r a rfl d),H.l⟩
theorem OL(h:e.b=nd.a)(H:fg nd e.o e.n e.l)(o:∀a t i0 i1 v st,nd=.b a t i0 i1 v st->fE v)(f:bo 6 (ac e)):∃l1 A,av aa (n+2) (.B yO El .j) (jU l) (ac e) .a (jU l1) (ac (e.m e.o e.n A))/\fg nd e.o e.n A/\wc nd A:=by
 have d:aN aa (n+2) yO (jU l) (ac e) (eL (ay.b nd).e 217) (ac e):=wa (IN h) (by kernel_rfl!) (by kernel_rfl!);cases nd with
 |b a t i0 i1 v st=>
  refine ap (AE n e [(135,.q l)] h H.l (o _ _ _ _ _ _ rfl) f) λA r c=>?_
  refine(dy (l+(v.length:Int)) A (.a (jy d (by kernel_rfl!)) (.d r ?_)) ⟨H.o,H.n,.inr c⟩ c);refine pv c λm M g i j k p E _=>?_
  subst E;exact .b
 |_=>exact(dy l e.l (.bq (jy d (by kernel_rfl!)) .j) H trivial)
end
theorem IQ(n:Nat)(e:aw)(D:List (Str×V))(ps:List Str)(nd:cA)(q:List ay)(H:e.b=nd.a)(g:e.g=q.map ay.a)(c:e.bJ=.c D)(i:fg nd e.o e.n e.l)(o:gM D ps nd)(b:ei e):
  ∃v t p P a,bd aa (n+3) 559 [aB] (ac e) v (ac (e.m p P a))/\(∀k:Bool->af->Prop,k t (ac (e.m p P a))->eh v (ac (e.m p P a)) k)/\fg nd p P a:=
 dJ (OJ (l:=0) H i o.j) λl1 p r f=>dJ (OK (e:=e.m p e.n e.l) H c f o.e (b.m f.f.1 b.n b.l).d) λy P R d=>
  dz (OL (e:=e.m p P e.l) H d (λ_ _ _ _ _ _ h=>(o.b _ _ _ _ _ _ h).1) (b.m d.f.1 d.f.2.1 b.l).d) λL a j m s=>dJ (OH (n+1) (e.m p P a) nd q L H g s) λv t u w=>OM v t p P a (.d ⟨[9],[],Eo,none⟩ (.inl rfl) (l':=[]) (.d (l1:=jU 0) (σ1:=ac e) .b (.d r (.d R (.d j (.k λk x=>u _ (x _ .j))))))) w m
mutual
inductive bQ where
 |i|b|c|d|f|q|e|r|j|m|k|s|n|t|l|o|p|g
inductive Y5 where
 |a
end
noncomputable def bQ.ctorIdx(x:bQ):Nat:= @bQ.casesOn (λ_=>Nat) x 0 1 2 3 4 5 6 7 8 9 10 11 12 13 14 15 16 17
noncomputable def bQ.h:bQ->Addr
 | .i=>359| .b=>373| .c=>381| .d=>388| .f=>395| .q=>431| .e=>438| .r=>452| .j=>459| .m=>466| .k=>473| .s=>487| .n=>495| .t=>509| .l=>517| .o=>524| .p=>531| .g=>366
noncomputable def bQ.a(s:bQ):V:=.E 736 0 s.h
def aw.J(e:aw)(ys:List V)(x:V):aw:={e with h:=ys,c:=x}
def aw.I(e:aw)(ys:List V)(x:V):aw:={e with p:=ys,t:=x}
def aw.A(e:aw)(x:V):aw:={e with p:=e.p++[x]}
section
variable {n:Nat} {e:aw} {l l':ah} {fl:bH} {σ':af} {rest:ag}
theorem py{ys:List V}{x:V}(h:e.h=ys++[x])(r:av aa n rest ((9,aB)::l) (ac (e.J ys x)) fl l' σ'):
  av aa n (.d (.i (.w (.d 9) 32) (.E (.w (.d 9) 53) 1 .j .j)) rest) ((9,aB)::l) (ac e) fl l' σ':=λk H=>
 aP (a:=∃ys x,e.h=ys++[x]/\bj aa (aZ aa n) rest ((9,aB)::l) (ac (e.J ys x)) k) (cg ys x h (r k H))
theorem ow{ys:List V}{x:V}(h:e.p=ys++[x])(r:av aa n rest ((9,aB)::l) (ac (e.I ys x)) fl l' σ'):
  av aa n (.d (.i (.w (.d 9) 56) (.E (.w (.d 9) 58) 1 .j .j)) rest) ((9,aB)::l) (ac e) fl l' σ':=λk H=>
 aP (a:=∃ys x,e.p=ys++[x]/\bj aa (aZ aa n) rest ((9,aB)::l) (ac (e.I ys x)) k) (cg ys x h (r k H))
end
def aw.u(e:aw)(w:aF)(ss:List V)(s:V):aw:={e with ae:=w,p:=ss,t:=s,o:=.g,n:=.g,l:=.g,bg:=.g}
theorem OR{e:aw}{w:aF}{ss:List V}{s:V}(h:e.n=.g)(H:e.l=.g)(a:e.bg=.g):e.u w ss s=(e.y w .g).I ss s:=by cases e;subst h H a;rfl
theorem OS{e:aw}{w:aF}{ss:List V}{s:V}(h:e.o=.g)(H:e.n=.g):e.u w ss s=(((e.H true false).iT w).J e.h e.c).I ss s:=by cases e;subst h H;rfl
theorem tr{m:Nat}{l:List V}{x:V}(h:ck m l)(g:bG m x):ck m (l++[x]):=by
 induction l with
 |nil=>exact .p g .j|cons y r i=>exact .p h.1 (i h.2)
theorem OT(n:Nat)(e:aw)(a:Str)(H:e.b=(cA.h a).a)(b:e.o=.g\/∃A,(cA.h a).j=au A/\e.o=.e A)(g:gz a)(hn:dh e.a.a.cps.toList)(J:bL e.a.a e.ae)(i:aL e.ae 100){ss:List V}{s:V}(j:e.p=ss++[s])(c:e.n=.g)(d:e.l=.g)(f:e.bg=.g):
  ∃w,bd aa (n+4) 410 [aB] (ac e) .g (ac (e.u w ss s))/\bL e.a.a w/\ao w.a<=ao e.ae.a+20:=by
 (refine bY (vY n e (.h a) ("*":Str) rfl H b (λA h=>by(injection h with z;subst z);exact g) hn J i) λw r k l=>?_);refine(bx w ?_ k l);rw[OR c d f];refine .e ⟨[9],[],Dj,none⟩ (l':=aX) (.d (l1:=aX) (σ1:=ac e) ?_ (.z (y:=Di) (lm1:=aX) r (ow j .j)));rw[iD H];exact .e .j
theorem OU{B:Int}{v:V}{b:Int}(h:gV v b)(a:2<=B/\B<=9)(H:0<=b)(f l:Bool):gV (tc B v f l) (b+9):=by
 rcases h with rfl|⟨i,rfl,d,c⟩
 ·cases f
  ·exact .inr (bx 0 rfl (by trivial) (dj 0x9a080a00a11 H))
  ·exact .inr (bx B rfl (dj 0xa02a11 a.1) (eI 0x9a18010a19a012 a.2 H))
 ·cases l
  ·exact .inr (bx (i+B) rfl (eI 0x180a10a102a12 a.1 d) (sP 0x9a280182119a012 a.2 c))
  ·exact .inr (bx i rfl (by trivial) (eI 0x9a1801011 c))
theorem OV(n:Nat)(e:aw){a t:Option Str}{i0 i1:Bool}{v:Str}{st:Option Str}(b:Int)(z:gV e.c b)(d:0<=b/\b<=990)(K:e.h.length<1000)(c:2<=e.a.j/\e.a.j<=9)(f:e.b=(cA.b a t i0 i1 v st).a)(B:qM v e.l)(C:AF i0 v e.bg)(D:fE v)(g:kZ st)(H:ei e)(E:aL e.ae 35000)(hn:dh e.a.a.cps.toList)(J:bL e.a.a e.ae)(k:e.o=.g)(l:e.n=.g)(m:nY e){ss:List V}{s:V}(o:e.p=ss++[s]):
  ∃w,bd aa (n+6) 417 [aB] (ac e) .g (ac (e.u w ss s))/\ja e.a.a 35000 e.ae w:=by
 have F:=bw;obtain⟨i,A,p,q⟩:∃i:Int,(e.H true false).c=.q i/\0<i/\i<=1000:=by
  rcases z with h|⟨j,h,G,I⟩
  ·exact(bx e.a.j (by show tc e.a.j e.c true false=_;rw[h];rfl) (dj 0x1a0a802a11 c.1) (dj 0x3e8c09a011 c.2))
  ·exact(bx (j+e.a.j) (by show tc e.a.j e.c true false=_;rw[h];rfl) (eI 0x181a0a810a102a12 c.1 G) (sP 0x3e8c01803dec212119a013 c.2 I d.2))
 have u:ei (e.H true false):=⟨H.t,H.b,by rw[A];exact .q _,H.bJ,H.o,H.n,H.l,H.bg,H.a,H.p,tr H.h H.c,H.g,H.r⟩;refine ap (Ot n (e.H true false) i ⟨A,p,q,hn⟩ c f B C D g u E J ⟨m.f,m.q,m.v⟩) λw r W=>?_
 refine(aE w ?_ W);rw[OS k l];refine .e ⟨[9],[],Dm,none⟩ (l':=aX) ?_;refine .z (y:=Dl) (lm1:=aX) (td (n+4) e true false b z (by exact cO ‹_›)) ?_;refine .z (y:=Dk) (lm1:=aX) r ?_;exact py (ys:=e.h) (x:=e.c) rfl (ow o .j)
def aw.B(e:aw)(w:aF)(f l:Bool)(flow:Int)(state:V):aw:={e with ae:=w,h:=e.h++[e.c],c:=tc e.a.j e.c f l,k:=flow,t:=state}
theorem we{k:Nat}(h:k<1000):k<sizeLine:=by rw[bw];exact cO ‹_›
section
variable (n:Nat) (e:aw) (b:Int) (hI:gV e.c b) (hl:e.h.length<1000) (hr:aL e.ae 100)
include hI hl hr
theorem OW:bd aa (n+3) 424 [aB] (ac e) .g (ac (e.B (e.ae.d ("[":Str) true true false) true false (e.k+1) bQ.q.a)):=by refine .e ⟨[9],[],Dp,none⟩ (l':=aX) ?_;refine .z (y:=Do) (lm1:=aX) (fz n e ("[":Str) true true false (by delta aL at hr⊢;exact aO 0x4630c0d0a0804630c0d64b0811 hr) (by decide)) ?_ (by kernel_rfl!);exact .z (y:=Dn) (lm1:=aX) (td (n+1) {(e.aj (e.ae.d ("[":Str) true true false))with k:=e.k+1} true false b hI (we hl)) .b (by kernel_rfl!)
theorem OX:bd aa (n+3) 445 [aB] (ac e) .g (ac (e.B (e.ae.d ("{":Str) true true false) true false (e.k+1) bQ.r.a)):=by refine .e ⟨[9],[],DF,none⟩ (l':=aX) ?_;refine .z (y:=DE) (lm1:=aX) (fz n e ("{":Str) true true false (by delta aL at hr⊢;exact aO 0x4630c0d0a0804630c0d64b0811 hr) (by decide)) ?_ (by kernel_rfl!);exact .z (y:=DD) (lm1:=aX) (td (n+1) {(e.aj (e.ae.d ("{":Str) true true false))with k:=e.k+1} true false b hI (we hl)) .b (by kernel_rfl!)
theorem OY:bd aa (n+2) 502 [aB] (ac e) .g (ac (e.B e.ae false false e.k bQ.t.a)):=by refine .e ⟨[9],[],D5,none⟩ (l':=aX) ?_;exact .z (y:=D4) (lm1:=aX) (td n e false false b hI (we hl)) .b
theorem OZ(a:nY e):∃l,bd aa (n+2) 480 [aB] (ac e) .g (ac (e.B e.ae false l e.k bQ.s.a)):=by
 have k:∀l,aR aa (n+1) (.C (.w (.d 9) 49) (.n (.w (.d 9) 44))) aX (ac e) (.l l) (ac e)->bd aa (n+2) 480 [aB] (ac e) .g (ac (e.B e.ae false l e.k bQ.s.a)):=λl r=>by refine .e ⟨[9],[],DX,none⟩ (l':=[(9,aB),(74,.l l)]) (.d (l1:=[(9,aB),(74,.l l)]) (σ1:=ac e) (oj r) ?_);exact .z (y:=DW) (lm1:=[(9,aB),(74,.l l)]) (td n e false l b hI (we hl)) .b
 refine bf a.q λm H=>?_
 have c:e={e with q:=.l m}:=by rw[←H]
 have R:aR aa (n+1) (.w (.d 9) 49) aX (ac e) (.l m) (ac e):=.b (by rw[c];kernel_rfl!);have d:aR aa (n+1) (.n (.w (.d 9) 44)) aX (ac e) (.l (!e.ae.h)) (ac e):=.b;cases m
 ·exact(ba false (k _ (qP R (λ_=>rfl) λh=>by(injection h;done))))
 ·exact(ba (!e.ae.h) (k _ (qP R (λh=>by(injection h;done)) λ_=>d)))
end
def aw.r(e:aw)(r s m k:Bool):aw:={e with f:=.l r,d:=.l s,q:=.l m,v:=.l k}
def AM(e:aw)(q:List ay)(G:aw->Prop)(f b:bQ)(Y:ay)(L:Bool->Prop):Prop:=
 (∀w,bL e.a.a w->ao w.a<=ao e.ae.a+200->G ((e.m .g .g .g).B w true false (e.k+1) f.a))/\
 ∀w l,L l->(∀y r,q=y::r->y≠Y)->bL e.a.a w->ao w.a<=ao e.ae.a+200->G ((e.m .g .g .g).B w false l e.k b.a)
def IU(e:aw)(G:aw->Prop):Prop:=∀w S s,e.p=S++[s]->bL e.a.a w->ao w.a<=ao e.ae.a+35200->G (e.u w S s)
def mp(e:aw)(n:cA)(q:List ay)(E:aw):Prop:=∀G:aw->Prop,(match n with
 | .c _ _ _ _=>AM e q G .q .s .fQ λ_=>True| .d _ _ _ _=>AM e q G .r .t .fR (· =false)|_=>IU e G)->G E
theorem gA{m:Nat}:∀{l:List V},ao l<=4600000->ck m l
 |[],_=> .j|x::r,h=>by
  cases x with
  |e s=>exact .p (.e s) (gA (ef (im ..) h))|_=>exact absurd (ef (bi 100000000 _) h) (by decide)
structure mq(e:aw)(D:List (Str×V))(ps:List Str)(nd:cA)(q:List ay)(b:Int):Prop where
 s:e.b=nd.a
 i:e.g=q.map ay.a
 h:gM D ps nd
 bJ:e.bJ=.c D
 m:fg nd e.o e.n e.l
 bg:e.bg=.g
 f:ei e
 j:2<=e.a.j/\e.a.j<=9
 a:dh e.a.a.cps.toList
 d:gV e.c b
 nj:0<=b/\b<=990
 k:e.h.length<1000
 g:bL e.a.a e.ae
 p:ao e.ae.a+35300<=4600000
theorem mq.r{e:aw}{D ps n q b}(h:mq e D ps n q b)(r s m k:Bool):mq (e.r r s m k) D ps n q b:=⟨h.s,h.i,h.h,h.bJ,h.m,h.bg,⟨h.f.t,h.f.b,h.f.c,h.f.bJ,h.f.o,h.f.n,h.f.l,h.f.bg,h.f.a,h.f.p,h.f.h,h.f.g,.l _,.l _,.l _,.l _⟩,h.j,h.a,h.d,h.nj,h.k,h.g,h.p⟩
theorem IV{n:Nat}{e:aw}{ev:ay}{q:List ay}{fl:Bool}(D:Addr)(g:Nat)(c:e.g=q.map ay.a)(H:Bool)(d:aR aa n (.E (.d 9) g .j .j) aX (ac e) (qO H D q) (ac e))(f:aN aa n (.w (.w (.d 9) 54) 15) aX (ac e) fl (ac e)):
  ∃t,aN aa n (.A (.w (.d 9) 52) (.A (.w (.d 9) 31) (.A (.w (.w (.d 9) 54) 15) (.E (.d 9) g .j .j)))) aX (ac e) t (ac e)/\(t=false->H=true->∀y r,q=y::r->eL y.e D=false):=by
 refine bY (AJ (e:=e) (b:=H) (D:=D) c) λT i _ j=>?_
 refine(aE ((e.k !=0)||(e.a.b||(fl||T))) (eK .b (eK .b (eK f λk l=>d (λv s=>eh v s k) (i k l)))) (λh a=>?_));rw[kO,kO,kO]at h;exact j h.2.2.2 a
theorem O0{y:ay}(h:eL y.e 241=false):y≠.fQ:=by rintro rfl;rw[show eL ay.fQ.e 241=true from by kernel_rfl!]at h;(injection h;done)
theorem O1{y:ay}(h:eL y.e 265=false):y≠.fR:=by rintro rfl;rw[show eL ay.fR.e 265=true from by kernel_rfl!]at h;(injection h;done)
abbrev O2(r s m k:Bool):ah:=[(9,aB),(100,.l r),(103,.l s),(104,.l m),(105,.l k)]
theorem O3(n:Nat)(e:aw){D ps a q b}(h:mq e D ps (.h a) q b){ss:List V}{s:V}(d:e.p=ss++[s])(x:ah):
  ∃E,av aa (n+7) qo ((9,aB)::x) (ac e) .a [] (ac E)/\mp e (.h a) q E:=by
 have H:e.n=.g:=h.m.n.resolve_right λ⟨t,r,h,_⟩=>by(injection h;done)
 have c:=h.p;(refine bY (OT (n+3) e a h.s h.m.o (h.h.j a rfl) h.a h.g (by delta aL;exact aO 0x4630c0d64b0804630c0d89e4c0811 c) d H h.m.l h.bg) λw r J f=>?_);refine(aE _ (.d (l1:=[]) (σ1:=ac (e.u w ss s)) ?_ .j) (λG k=>k _ _ _ d J (aC 0x8980c18014b18011 f)));rw[iD h.s]at r⊢;exact .f (.m (.h ((9,aB)::x) r) .j)
theorem O4(n:Nat)(e:aw){D ps a t i0 i1 v st q b}(h:mq e D ps (.b a t i0 i1 v st) q b)(d:nY e){ss:List V}{s:V}(j:e.p=ss++[s])(x:ah):
  ∃E,av aa (n+7) qo ((9,aB)::x) (ac e) .a [] (ac E)/\mp e (.b a t i0 i1 v st) q E:=by
 have H:=h.p;refine cS (h.h.b _ _ _ _ _ _ rfl) λl f p=>?_
 (refine bY (vY (n+4) e (.b a t i0 i1 v st) ("&":Str) rfl h.s h.m.o h.h.j h.a h.g (by delta aL;exact aO 0x4630c0d64b0804630c0d89e4c0811 H)) λw R J g=>?_);have L:ei (e.y w .g):=⟨h.f.t,h.f.b,h.f.c,h.f.bJ,.g,h.f.n,h.f.l,h.f.bg,gA (by show ao w.a<=_;exact aC 0x4630c0d004630c0d89e4c18114b18012 g H),h.f.p,h.f.h,h.f.g,h.f.r⟩;(refine AN (OB (n+3) (e.y w .g) D ps h.s ⟨h.bJ,h.h.e,h.m.n.bg⟩ p h.m.l h.bg l f L h.a (by show ao w.a+100<=_;exact aC 0x4630c0d64b0804630c0d89e4c18114b18012 g H) J ⟨d.f,d.q,d.v⟩) λc A S m o u z B=>?_);have Q:ao c.a<=ao w.a+72:=B;have C:ei ((e.y w .g).F c A S):=⟨h.f.t,h.f.b,h.f.c,h.f.bJ,.g,.g,o.f,.e _,gA (by show ao c.a<=_;exact bc 0x4630c0d004630c0d89e4c28114b281148b18013 Q g H),h.f.p,h.f.h,h.f.g,h.f.r⟩;(refine ap (OV (n+1) ((e.y w .g).F c A S) b h.d h.nj h.k h.j h.s (.inr o) (.inr (aE S rfl u)) l f C (by show ao c.a+35000<=_;exact bc 0x4630c0d88b8c0804630c0d89e4c28114b281148b18013 Q g H) h.a z rfl rfl ⟨d.f,d.q,d.v⟩ j) λi r W=>?_);have F:ao i.a<=ao c.a+35000:=W.ao;refine(aE (e.u i ss s) (.d (l1:=[]) (σ1:=ac (e.u i ss s)) ?_ .j) (λG k=>k _ _ _ j W.tobL (bS 0x8980c18388b8c283148b082114b18013 g Q F)));have I:((e.y w .g).F c A S).u i ss s=e.u i ss s:=rfl;rw[I]at r;rw[iD h.s]at R m r⊢;refine .e (.d (l1:=[]) (.f ?_) .j);refine .z (y:=vg) (lm1:=(9,aB)::x) R (.z (y:=u_) (lm1:=(9,aB)::x) m ?_);exact .d (l1:=[]) (.f (.m (.h ((9,aB)::x) r) .j)) .j
theorem IW{e:aw}{W w:aF}(h:e.l=.g):(e.y W .g).D w=(e.m .g .g .g).aj w:=by cases e;subst h;rfl
theorem O5(n:Nat)(e:aw){D ps a t i f q b}(h:mq e D ps (.c a t i f) q b)(m:nY e)(v:∃y r,q=y::r)(x:ah):
  ∃E,av aa (n+7) qo ((9,aB)::x) (ac e) .a [] (ac E)/\mp e (.c a t i f) q E:=by
 have H:=h.p;(refine bY (vY (n+4) e (.c a t i f) ("&":Str) rfl h.s h.m.o h.h.j h.a h.g (by delta aL;exact aO 0x4630c0d64b0804630c0d89e4c0811 H)) λW z K d=>?_);have L:ei (e.y W .g):=⟨h.f.t,h.f.b,h.f.c,h.f.bJ,.g,h.f.n,h.f.l,h.f.bg,gA (by show ao W.a<=_;exact aC 0x4630c0d004630c0d89e4c18114b18012 d H),h.f.p,h.f.h,h.f.g,h.f.r⟩;(refine bY (IF (n+4) (e.y W .g) D ps (C:=229) (.inl rfl) (a:=a) (t:=t) (imp:=i) (fl:=f) h.s ⟨h.bJ,h.h.e,h.m.n.bg⟩ (h.h.c a t i f rfl) L.d h.a (by show ao W.a+100<=_;exact aC 0x4630c0d64b0804630c0d89e4c18114b18012 d H) K) λw R J M=>?_);have Q:ao w.a<=ao W.a+72:=M;have o:e.l=.g:=h.m.l;have N:=h.bg;rw[IW o]at R;have A:gV ((e.m .g .g .g).aj w).c b:=h.d;have B:((e.m .g .g .g).aj w).h.length<1000:=h.k;have g:aL ((e.m .g .g .g).aj w).ae 100:=by show ao w.a+100<=_;exact bc 0x4630c0d64b0804630c0d89e4c28114b281148b18013 Q d H
 have c:((e.m .g .g .g).aj w).b=(ay.b (.c a t i f)).a:=h.s;have j:((e.m .g .g .g).aj w).g=q.map ay.a:=h.i;have O:=II (n+6) ((e.m .g .g .g).aj w) (.b (.c a t i f)) q c j;have P:eL (ay.b (.c a t i f)).e 229=true:=by kernel_rfl!
 refine ap (IV (n:=n+7) (e:=(e.m .g .g .g).aj w) (ev:=.b (.c a t i f)) (q:=q) (fl:=f) 241 110 j (eL (ay.b (.c a t i f)).e 229) (λk S=>aP (O k S)) (by rw[iD c];exact .b)) λu F T=>?_
 obtain⟨E,I,U⟩:∃E,av aa (n+7) (.B Da Db Dc) aX (ac ((e.m .g .g .g).aj w)) .a aX (ac E)/\mp e (.c a t i f) q E:=by
  cases u
  ·(refine jg v λy r p=>?_;clear v;subst p);have s:=T rfl P y r rfl;refine bf (OZ (n+5) ((e.m .g .g .g).aj w) b A B g ⟨m.f,m.q,m.v⟩) λl X=>?_
   exact(aE _ (.bq F (.h aX X)) (λG k=>k.2 _ _ trivial (λy' r' Y=>by(injection Y with Z;subst Z);exact O0 s) J (by show ao w.a<=_;exact bc 0xc8b18248b082114b18012 d Q)))
  ·exact(aE _ (.a F (.h aX (OW (n+4) ((e.m .g .g .g).aj w) b A B g))) (λG k=>k.1 _ (gL h.a J.b.b (cg [] 91 rfl (by decide)) _ _ _) (by have:=fO w ("[":Str) true true false;rw[show("[":Str).length=1 from rfl]at this;show ao (w.d ("[":Str) true true false).a<=_;exact bS 0xc8b1832a1a8283148b082114b18013 d Q this)))
 refine(aE E (.d (l1:=[]) (σ1:=ac E) ?_ .j) U);rw[iD h.s]at z R I⊢;refine .e (.d (l1:=[]) (.f ?_) .j);refine .z (y:=vg) (lm1:=(9,aB)::x) z (.z (y:=u_) (lm1:=(9,aB)::x) R ?_);refine .d (l1:=[]) (.e (.d (l1:=[]) (.f (.d (l1:=[]) (.p (l:=aX) (.p rfl .j) (.m I .j)) .j)) .j)) .j
theorem O6(n:Nat)(e:aw){D ps a t i f q b}(h:mq e D ps (.d a t i f) q b)(X:nY e)(s:∃y r,q=y::r)(x:ah):
  ∃E,av aa (n+7) qo ((9,aB)::x) (ac e) .a [] (ac E)/\mp e (.d a t i f) q E:=by
 have H:=h.p;(refine bY (vY (n+4) e (.d a t i f) ("&":Str) rfl h.s h.m.o h.h.j h.a h.g (by delta aL;exact aO 0x4630c0d64b0804630c0d89e4c0811 H)) λW v I d=>?_);have L:ei (e.y W .g):=⟨h.f.t,h.f.b,h.f.c,h.f.bJ,.g,h.f.n,h.f.l,h.f.bg,gA (by show ao W.a<=_;exact aC 0x4630c0d004630c0d89e4c18114b18012 d H),h.f.p,h.f.h,h.f.g,h.f.r⟩;(refine bY (IF (n+4) (e.y W .g) D ps (C:=253) (.inr rfl) (a:=a) (t:=t) (imp:=i) (fl:=f) h.s ⟨h.bJ,h.h.e,h.m.n.bg⟩ (h.h.d a t i f rfl) L.d h.a (by show ao W.a+100<=_;exact aC 0x4630c0d64b0804630c0d89e4c18114b18012 d H) I) λw R J K=>?_);have Q:ao w.a<=ao W.a+72:=K;have m:e.l=.g:=h.m.l;have M:=h.bg;rw[IW m]at R;have z:gV ((e.m .g .g .g).aj w).c b:=h.d;have A:((e.m .g .g .g).aj w).h.length<1000:=h.k;have g:aL ((e.m .g .g .g).aj w).ae 100:=by show ao w.a+100<=_;exact bc 0x4630c0d64b0804630c0d89e4c28114b281148b18013 Q d H
 have c:((e.m .g .g .g).aj w).b=(ay.b (.d a t i f)).a:=h.s;have j:((e.m .g .g .g).aj w).g=q.map ay.a:=h.i;have N:=IJ (n+6) ((e.m .g .g .g).aj w) (.b (.d a t i f)) q c j;have O:eL (ay.b (.d a t i f)).e 253=true:=by kernel_rfl!
 refine ap (IV (n:=n+7) (e:=(e.m .g .g .g).aj w) (ev:=.b (.d a t i f)) (q:=q) (fl:=f) 265 113 j (eL (ay.b (.d a t i f)).e 253) (λk P=>aP (N k P)) (by rw[iD c];exact .b)) λu B S=>?_
 obtain⟨E,F,T⟩:∃E,av aa (n+7) (.B Dd De Dg) aX (ac ((e.m .g .g .g).aj w)) .a aX (ac E)/\mp e (.d a t i f) q E:=by
  cases u
  ·(refine jg s λy r o=>?_;clear s;subst o);have p:=S rfl O y r rfl;exact(aE _ (.bq B (.h aX (OY (n+5) ((e.m .g .g .g).aj w) b z A g))) (λG k=>k.2 _ _ rfl (λY r' U=>by(injection U with Z;subst Z);exact O1 p) J (by show ao w.a<=_;exact bc 0xc8b18248b082114b18012 d Q)))
  ·exact(aE _ (.a B (.h aX (OX (n+4) ((e.m .g .g .g).aj w) b z A g))) (λG k=>k.1 _ (gL h.a J.b.b (cg [] 123 rfl (by decide)) _ _ _) (by have:=fO w ("{":Str) true true false;rw[show("{":Str).length=1 from rfl]at this;show ao (w.d ("{":Str) true true false).a<=_;exact bS 0xc8b1832a1a8283148b082114b18013 d Q this)))
 refine(aE E (.d (l1:=[]) (σ1:=ac E) ?_ .j) T);rw[iD h.s]at v R F⊢;refine .e (.d (l1:=[]) (.f ?_) .j);refine .z (y:=vg) (lm1:=(9,aB)::x) v (.z (y:=u_) (lm1:=(9,aB)::x) R ?_);refine .d (l1:=[]) (.e (.d (l1:=[]) (.e (.d (l1:=[]) (.f (.d (l1:=[]) (.p (l:=aX) (.p rfl .j) (.m F .j)) .j)) .j)) .j)) .j
def cA.g:cA->Prop
 | .c .. =>True| .d .. =>True|_=>False
theorem O7(n:Nat)(e:aw){D ps N q b}(r s m k:Bool)(h:mq e D ps N q b)(o:N.g->∃y z,q=y::z){ss:List V}{x:V}(p:e.p=ss++[x]):
  ∃E,bd aa (n+8) 403 [aB,.l r,.l s,.l m,.l k] (ac e) .g (ac E)/\mp (e.r r s m k) N q E:=by
 have l:=h.r r s m k;have H:nY (e.r r s m k):=⟨(ba _ rfl),(ba _ rfl),(ba _ rfl)⟩;have j:(e.r r s m k).p=ss++[x]:=p;have K:∀E,av aa (n+7) qo (O2 r s m k) (ac (e.r r s m k)) .a [] (ac E)->bd aa (n+8) 403 [aB,.l r,.l s,.l m,.l k] (ac e) .g (ac E):=λE R=>.e ⟨[9,100,103,104,105],[.l false,.l false,.l false,.l false],Dh,ct⟩ (.bE R)
 cases N with
 |h a=>refine ap (O3 n _ l j [(100,.l r),(103,.l s),(104,.l m),(105,.l k)]) λE R g=>?_;exact(aE E (K E R) g)|b a t I u v S=>refine ap (O4 n _ l H j [(100,.l r),(103,.l s),(104,.l m),(105,.l k)]) λE R g=>?_;exact(aE E (K E R) g)|c a t i f=>refine ap (O5 n _ l H (o trivial) [(100,.l r),(103,.l s),(104,.l m),(105,.l k)]) λE R g=>?_;exact(aE E (K E R) g)|d a t i f=>refine ap (O6 n _ l H (o trivial) [(100,.l r),(103,.l s),(104,.l m),(105,.l k)]) λE R g=>?_;exact(aE E (K E R) g)
theorem O8{nl:Str}(hn:dh nl.cps.toList){w:aF}(J:bL nl w):bL nl (w.g nl):=by
 have l:bV (bP (w.g nl).a) dB:=by rw[ma];exact(o_ hn).b
 refine⟨.g (o_ hn),λ_=>qy l,?_⟩;rcases J.n with h|h
 ·exact .inl h
 ·rw[ma];exact .inr (oa hn h.a)
theorem IX{nl:Str}(hn:dh nl.cps.toList){w:aF}(J:bL nl w)(i:Int):bL nl (w.i i):=by
 by_cases h:w.b<i
 ·have l:=sH h;refine⟨J.b.i i,λ_ q=>?_,.inr (qw hn (l.a λc h=>by subst h;decide))⟩;refine ap (l.c q) λc H a=>?_
  exact gh (aO 0xa1a02eb120b012 (aJ H) (aJ a.symm))
 ·have:w.i i=w:=by delta aF.i;rw[decide_eq_false h]
  rw[this];exact J
theorem AO{nl:Str}(hn:dh nl.cps.toList){w:aF}(J:bL nl w)(i:Int):bL nl (w.c i nl):=by
 delta aF.c;split
 ·exact IX hn (O8 hn J) i
 ·exact IX hn J i
structure fG(e:aw)(D:List (Str×V))(ps:List Str)(b:Int):Prop where
 bJ:e.bJ=.c D
 o:e.o=.g
 n:e.n=.g
 l:e.l=.g
 bg:e.bg=.g
 f:ei e
 j:2<=e.a.j/\e.a.j<=9
 a:dh e.a.a.cps.toList
 d:gV e.c b
 nj:0<=b/\b<=990
 k:e.h.length<1000
 c:e.p.length<2000
 g:bL e.a.a e.ae
 p:ao e.ae.a+36800<=4600000
theorem dh.a{nl:Str}(h:dh nl.cps.toList):nl.length<=2:=by rw[←dO];exact h.k
theorem qQ(n:Nat)(e:aw){D ps b}(h:fG e D ps b)(w:aF)(J:bL e.a.a w)(a:ao w.a+10<=4600000):
  ∃W,bd aa (n+3) 665 [aB] (ac (e.aj w)) .g (ac (e.aj W))/\bL e.a.a W/\ao W.a<=ao w.a+1004:=by
 have c:=h.nj;rcases h.d with H|⟨i,H,f,d⟩
 ·exact(bx _ (lX n (e.aj w) 0 (.inl (ai H rfl)) a h.a.a (ai J.b.b (by trivial))) (AO h.a J 0) (m_ w 0 _ (ai J.b.b (by trivial)) h.a.a))
 ·exact(bx _ (lX n (e.aj w) i (.inr H) a h.a.a (ai J.b.b (eI 0xf4240d003dec111012 d c.2))) (AO h.a J i) (m_ w i _ (ai J.b.b (eI 0x3e8c003dec111012 d c.2)) h.a.a))
theorem wf(n:Nat)(e:aw){D ps b}(h:fG e D ps b)(w:aF)(J:bL e.a.a w)(c:ao w.a+10<=4600000)(x:ah):
  ∃W,av aa (n+3) (.B (.A (.w (.d 9) 31) (.y .Gt (.w (.d 9) 46) (.w (.d 9) 42))) (.d (.l (.E (.d 9) 81 .j .j)) .j) .j) ((9,aB)::x) (ac (e.aj w)) .a ((9,aB)::x) (ac (e.aj W))/\bL e.a.a W/\ao W.a<=ao w.a+1004:=by
 refine bY (qQ n e h w J c) λW r j H=>?_
 have t:aN aa (n+3) (.A (.w (.d 9) 31) (.y .Gt (.w (.d 9) 46) (.w (.d 9) 42))) ((9,aB)::x) (ac (e.aj w)) (e.a.b||decide (e.a.c<w.b)) (ac (e.aj w)):=eK .b .b;cases a:(e.a.b||decide (e.a.c<w.b))
 ·rw[a]at t;exact(bx w (.bq t .j) J (by exact bi _ _))
 ·rw[a]at t;exact(bx W (.a t (.h _ r)) j H)
structure iE(e:aw)(nd:cA)(q:List ay)(p:bQ)(e':aw):Prop where
 b:∃w pa pt an r s m k,bL e.a.a w/\ao w.a<=ao e.ae.a+1100/\mp ((((e.aj w).m pa pt an).A p.a).r r s m k) nd q e'
theorem fG.b{e:aw}{D ps b}(h:fG e D ps b){N:cA}{q:List ay}(i:e.b=N.a)(s:e.g=q.map ay.a)(O:gM D ps N){w:aF}(J:bL e.a.a w)(m:ao w.a<=ao e.ae.a+1100){P r A:V}(H:fg N P r A)(p:bQ):mq (((e.aj w).m P r A).A p.a) D ps N q b:=by have:=h.p;exact⟨i,s,O,h.bJ,H,h.bg,⟨h.f.t,h.f.b,h.f.c,h.f.bJ,H.f.1,H.f.2.1,H.f.2.2,h.f.bg,gA (by show ao w.a<=_;exact aC 0x4630c0d004630c0d8fc0c181044cc18012 m this),tr h.f.p (.E (by decide)),h.f.h,h.f.g,h.f.r⟩,h.j,h.a,h.d,h.nj,h.k,J,by show ao w.a+_<=_;exact aC 0x4630c0d89e4c0804630c0d8fc0c181044cc18012 m this⟩
theorem IY{e:aw}{b:Bool}(h:e.a.b=b):e={e with a:={e.a with b:=b} }:=by subst h;rfl
theorem fG.cx{e:aw}{D ps b}(h:fG e D ps b)(w:aF):(e.aj w).m .g .g .g=e.aj w:=by have H:=h.o;have i:=h.n;have m:=h.l;cases e;subst H;subst i;subst m;rfl
theorem qR{n:Nat}{e:aw}{N:cA}{D g:Nat}{x:ah}(H:e.b=N.a)(a:br g aa.b=au (.h D))(b:oq D=true)(c:eL N.e D=false):aN aa n (.z (.G 62) (.p (.w (.d 9) 54) (.p (.G g) .j)) .j) ((9,aB)::x) (ac e) false (ac e):=by have h:=wa (n:=n) (x:=.b N) (g:=g) (D:=D) (by have:=tj (n:=n) (e:=e) (x:=x);rw[H]at this;exact this) a b;rw[show eL (ay.b N).e D=false from c]at h;exact h
theorem AP(n:cA):eL n.e 241=false:=by cases n<;>kernel_rfl!
theorem AQ(n:cA):eL n.e 265=false:=by cases n<;>kernel_rfl!
theorem ky{n:Nat}{e1:aw}{D ps N q b}{blk:ag}{lm:ah}(p:bQ)(r s m k:Bool)(h:mq (e1.A p.a) D ps N q b)(H:N.g->∃y z,q=y::z)(d:e1.p.length<2000)
  (E:bM (e1.p.length<sizeLine) (dP aa (n+8) 403 [aB,.l r,.l s,.l m,.l k] (ac (e1.A p.a)) lm)=bj aa (aZ aa (n+8)) blk lm (ac e1)):
  ∃e,av aa (n+8) blk lm (ac e1) .a lm (ac e)/\mp ((e1.A p.a).r r s m k) N q e:=by
 refine ap (O7 n (e1.A p.a) r s m k h H (ss:=e1.p) (x:=p.a) rfl) λe R a=>?_
 exact(aE e (λK c=>aP (ai (by rw[bw];exact cO ‹_›) (R (λ_ s=>K .a lm s) (c _ .a))) (congrFun E K)) a)
abbrev gk(f:Bool):ah:=[(9,aB),(78,.l f)]
theorem O9(n:Nat)(e:aw){D ps N q b}(h:fG e D ps b)(c:e.b=N.a)(k:e.g=q.map ay.a)(o:gM D ps N)(l:N.g->∃y z,q=y::z):
  ∃E,av aa (n+8) Du aX (ac e) .a [] (ac E)/\iE e N q .e E:=by
 have d:=h.p;obtain⟨W,H⟩:∃w,w=e.ae:=(ba _ rfl);have J:bL e.a.a W:=H▸h.g;have Q:ao W.a=ao e.ae.a:=by rw[H]
 have f:e=e.aj W:=by rw[H];rfl
 refine bY (wf (n+5) e h W J (aC 0x4630c0daa0804630c0d8fc0c1811012 (aJ Q) d) []) λa r j g=>?_
 (refine ap (ky (n:=n) (e1:=(e.aj a)) (blk:=Ds) (lm:=aX) .e false true false false (by rw[←h.cx a];exact h.b c k o j (bc 0x44cc18203ecc08211012 (aJ Q) g) (fg.g N) .e) l h.c (by kernel_rfl!)) λE R i=>?_);rw[←h.cx a]at i;refine(aE E (.m (l1:=aX) ?_ .j) ⟨(kz a .g .g .g false true false false j (bc 0x44cc18203ecc08211012 (aJ Q) g) i)⟩);rw[f];exact .d r (R)
theorem O_(n:Nat)(e:aw){D ps N q b}(h:fG e D ps b)(f:e.b=N.a)(o:e.g=q.map ay.a)(O:gM D ps N)(p:N.g->∃y z,q=y::z):
  ∃E,av aa (n+8) DC aX (ac e) .a [] (ac E)/\iE e N q .e E:=by
 have a:=h.p;obtain⟨W,H⟩:∃w,w=e.ae:=(ba _ rfl);have s:bL e.a.a W:=H▸h.g;have Q:ao W.a=ao e.ae.a:=by rw[H]
 have g:e=e.aj W:=by rw[H];rfl
 have r:=fz (n+6) (e.aj W) (",":Str) false false false (show ao W.a+0<=4600000 by exact aC 0x4630c0d0a0804630c0d8fc0c1811012 (aJ Q) a) (by decide);have j:bL e.a.a (W.d (",":Str) false false false):=gL h.a s.b.b (cg [] 44 rfl (by decide)) _ _ _;have c:ao (W.d (",":Str) false false false).a<=ao W.a+3:=fO W (",":Str) _ _ _;generalize i:W.d (",":Str) false false false=k at j c;rw[show(e.aj W).aj ((e.aj W).ae.d (",":Str) false false false)=e.aj k from by rw[←i];rfl]at r;refine bY (wf (n+5) e h k j (bc 0x4630c0daa0804630c0d8fc0c2812113a18013 c (aJ Q) a) []) λd R J l=>?_
 (refine ap (ky (n:=n) (e1:=(e.aj d)) (blk:=DA) (lm:=aX) .e false true false false (by rw[←h.cx d];exact h.b f o O J (bS 0x44cc18303ecc28313a08211013 (aJ Q) c l) (fg.g N) .e) p h.c (by kernel_rfl!)) λE t m=>?_);rw[←h.cx d]at m;refine(aE E (.m (l1:=aX) ?_ .j) ⟨(kz d .g .g .g false true false false J (bS 0x44cc18303ecc28313a08211013 (aJ Q) c l) m)⟩);rw[g];exact .z (y:=DB) (lm1:=aX) r (.d R (t))
theorem O'(n:Nat)(e:aw){D ps N q b}(h:fG e D ps b)(c:e.b=N.a)(l:e.g=q.map ay.a)(o:gM D ps N)(m:N.g->∃y z,q=y::z):
  ∃E,av aa (n+8) DS aX (ac e) .a [] (ac E)/\iE e N q .j E:=by
 have d:=h.p;obtain⟨W,H⟩:∃w,w=e.ae:=(ba _ rfl);have J:bL e.a.a W:=H▸h.g;have Q:ao W.a=ao e.ae.a:=by rw[H]
 have f:e=e.aj W:=by rw[H];rfl
 have r:=fz (n+6) (e.aj W) (":":Str) false false false (show ao W.a+0<=4600000 by exact aC 0x4630c0d0a0804630c0d8fc0c1811012 (aJ Q) d) (by decide);have j:bL e.a.a (W.d (":":Str) false false false):=gL h.a J.b.b (cg [] 58 rfl (by decide)) _ _ _;have g:ao (W.d (":":Str) false false false).a<=ao W.a+3:=fO W (":":Str) _ _ _;generalize i:W.d (":":Str) false false false=a at j g;rw[show(e.aj W).aj ((e.aj W).ae.d (":":Str) false false false)=e.aj a from by rw[←i];rfl]at r;(refine ap (ky (n:=n) (e1:=(e.aj a)) (blk:=yD) (lm:=aX) .j false false true false (by rw[←h.cx a];exact h.b c l o j (bc 0x44cc1823a08211012 (aJ Q) g) (fg.g N) .j) m h.c (by kernel_rfl!)) λE R k=>?_);rw[←h.cx a]at k;refine(aE E (.m (l1:=aX) ?_ .j) ⟨(kz a .g .g .g false false true false j (bc 0x44cc1823a08211012 (aJ Q) g) k)⟩);rw[f];exact .z (y:=yD) (lm1:=aX) r (R)
theorem Pa(n:Nat)(e:aw){D ps N q b}(h:fG e D ps b)(f:e.b=N.a)(o:e.g=q.map ay.a)(O:gM D ps N)(p:N.g->∃y z,q=y::z):
  ∃E,av aa (n+8) DU aX (ac e) .a [] (ac E)/\iE e N q .j E:=by
 have a:=h.p;obtain⟨d,H⟩:∃w,w=e.ae:=(ba _ rfl);have J:bL e.a.a d:=H▸h.g;have Q:ao d.a=ao e.ae.a:=by rw[H]
 have g:e=e.aj d:=by rw[H];rfl
 refine bY (wf (n+5) e h d J (aC 0x4630c0daa0804630c0d8fc0c1811012 (aJ Q) a) []) λW R s i=>?_
 have r:=fz (n+6) (e.aj W) (":":Str) true false false (show ao W.a+0<=4600000 by exact bc 0x4630c0d0a0804630c0d8fc0c28121103ecc18013 i (aJ Q) a) (by decide);have j:bL e.a.a (W.d (":":Str) true false false):=gL h.a s.b.b (cg [] 58 rfl (by decide)) _ _ _;have k:ao (W.d (":":Str) true false false).a<=ao W.a+3:=fO W (":":Str) _ _ _;generalize l:W.d (":":Str) true false false=c at j k;rw[show(e.aj W).aj ((e.aj W).ae.d (":":Str) true false false)=e.aj c from by rw[←l];rfl]at r;(refine ap (ky (n:=n) (e1:=(e.aj c)) (blk:=yE) (lm:=aX) .j false false true false (by rw[←h.cx c];exact h.b f o O j (bS 0x44cc1833a283103ecc08211013 (aJ Q) i k) (fg.g N) .j) p h.c (by kernel_rfl!)) λE t m=>?_);rw[←h.cx c]at m;refine(aE E (.m (l1:=aX) ?_ .j) ⟨(kz c .g .g .g false false true false j (bS 0x44cc1833a283103ecc08211013 (aJ Q) i k) m)⟩);rw[g];exact .d R (.z (y:=yE) (lm1:=aX) r (t))
theorem Pb(n:Nat)(e:aw){D ps N q b}(h:fG e D ps b)(g:e.b=N.a)(o:e.g=q.map ay.a)(O:gM D ps N)(p:N.g->∃y z,q=y::z)(f:Bool):
  ∃E,av aa (n+8) D3 (gk f) (ac e) .a [] (ac E)/\iE e N q .n E:=by
 have a:=h.p;obtain⟨d,H⟩:∃w,w=e.ae:=(ba _ rfl);have s:bL e.a.a d:=H▸h.g;have Q:ao d.a=ao e.ae.a:=by rw[H]
 have i:e=e.aj d:=by rw[H];rfl
 refine bY (qQ (n+5) e h d s (aC 0x4630c0daa0804630c0d8fc0c1811012 (aJ Q) a)) λW R t j=>?_
 have r:=fz (n+6) (e.aj W) ("-":Str) true false true (show ao W.a+0<=4600000 by exact bc 0x4630c0d0a0804630c0d8fc0c28121103ecc18013 j (aJ Q) a) (by decide);have J:bL e.a.a (W.d ("-":Str) true false true):=gL h.a t.b.b (cg [] 45 rfl (by decide)) _ _ _;have k:ao (W.d ("-":Str) true false true).a<=ao W.a+3:=fO W ("-":Str) _ _ _;generalize l:W.d ("-":Str) true false true=c at J k;rw[show(e.aj W).aj ((e.aj W).ae.d ("-":Str) true false true)=e.aj c from by rw[←l];rfl]at r;(refine ap (ky (n:=n) (e1:=(e.aj c)) (blk:=yG) (lm:=(gk f)) .n false true false false (by rw[←h.cx c];exact h.b g o O J (bS 0x44cc1833a283103ecc08211013 (aJ Q) j k) (fg.g N) .n) p h.c (by kernel_rfl!)) λE u m=>?_);rw[←h.cx c]at m;refine(aE E (.m (l1:=(gk f)) ?_ .j) ⟨(kz c .g .g .g false true false false J (bS 0x44cc1833a283103ecc08211013 (aJ Q) j k) m)⟩);rw[i];exact .z (y:=D0) (lm1:=(gk f)) R (.z (y:=yG) (lm1:=(gk f)) r (u))
theorem Pc(n:Nat)(e:aw){D ps N q b}(h:fG e D ps b)(c:e.b=N.a)(l:e.g=q.map ay.a)(o:gM D ps N)(m:N.g->∃y z,q=y::z):
  ∃E,av aa (n+8) Ec aX (ac e) .a [] (ac E)/\iE e N q .l E:=by
 have d:=h.p;obtain⟨W,H⟩:∃w,w=e.ae:=(ba _ rfl);have J:bL e.a.a W:=H▸h.g;have Q:ao W.a=ao e.ae.a:=by rw[H]
 have f:e=e.aj W:=by rw[H];rfl
 have r:=fz (n+6) (e.aj W) (":":Str) false false false (show ao W.a+0<=4600000 by exact aC 0x4630c0d0a0804630c0d8fc0c1811012 (aJ Q) d) (by decide);have j:bL e.a.a (W.d (":":Str) false false false):=gL h.a J.b.b (cg [] 58 rfl (by decide)) _ _ _;have g:ao (W.d (":":Str) false false false).a<=ao W.a+3:=fO W (":":Str) _ _ _;generalize i:W.d (":":Str) false false false=a at j g;rw[show(e.aj W).aj ((e.aj W).ae.d (":":Str) false false false)=e.aj a from by rw[←i];rfl]at r;(refine ap (ky (n:=n) (e1:=(e.aj a)) (blk:=yM) (lm:=aX) .l false false true false (by rw[←h.cx a];exact h.b c l o j (bc 0x44cc1823a08211012 (aJ Q) g) (fg.g N) .l) m h.c (by kernel_rfl!)) λE R k=>?_);rw[←h.cx a]at k;refine(aE E (.m (l1:=aX) ?_ .j) ⟨(kz a .g .g .g false false true false j (bc 0x44cc1823a08211012 (aJ Q) g) k)⟩);rw[f];exact .z (y:=yM) (lm1:=aX) r (R)
theorem Pd(n:Nat)(e:aw){D ps N q b}(h:fG e D ps b)(f:e.b=N.a)(o:e.g=q.map ay.a)(O:gM D ps N)(p:N.g->∃y z,q=y::z):
  ∃E,av aa (n+8) Ef aX (ac e) .a [] (ac E)/\iE e N q .l E:=by
 have a:=h.p;obtain⟨d,H⟩:∃w,w=e.ae:=(ba _ rfl);have J:bL e.a.a d:=H▸h.g;have Q:ao d.a=ao e.ae.a:=by rw[H]
 have g:e=e.aj d:=by rw[H];rfl
 refine bY (qQ (n+5) e h d J (aC 0x4630c0daa0804630c0d8fc0c1811012 (aJ Q) a)) λW R s i=>?_
 have r:=fz (n+6) (e.aj W) (":":Str) true false true (show ao W.a+0<=4600000 by exact bc 0x4630c0d0a0804630c0d8fc0c28121103ecc18013 i (aJ Q) a) (by decide);have j:bL e.a.a (W.d (":":Str) true false true):=gL h.a s.b.b (cg [] 58 rfl (by decide)) _ _ _;have k:ao (W.d (":":Str) true false true).a<=ao W.a+3:=fO W (":":Str) _ _ _;generalize l:W.d (":":Str) true false true=c at j k;rw[show(e.aj W).aj ((e.aj W).ae.d (":":Str) true false true)=e.aj c from by rw[←l];rfl]at r;(refine ap (ky (n:=n) (e1:=(e.aj c)) (blk:=yN) (lm:=aX) .l false false true false (by rw[←h.cx c];exact h.b f o O j (bS 0x44cc1833a283103ecc08211013 (aJ Q) i k) (fg.g N) .l) p h.c (by kernel_rfl!)) λE t m=>?_);rw[←h.cx c]at m;refine(aE E (.m (l1:=aX) ?_ .j) ⟨(kz c .g .g .g false false true false j (bS 0x44cc1833a283103ecc08211013 (aJ Q) i k) m)⟩);rw[g];exact .z (y:=Ee) (lm1:=aX) R (.z (y:=yN) (lm1:=aX) r (t))
theorem Pe(n:Nat)(e:aw){D ps N q b}(h:fG e D ps b)(a:e.b=N.a)(f:e.g=q.map ay.a)(o:gM D ps N)(g:N.g->∃y z,q=y::z):
  ∃E,av aa (n+8) yt aX (ac e) .a [] (ac E)/\iE e N q .d E:=by
 have i:=h.p;obtain⟨W,H⟩:∃w,w=e.ae:=(ba _ rfl);have j:bL e.a.a W:=H▸h.g;have Q:ao W.a=ao e.ae.a:=by rw[H]
 have c:e=e.aj W:=by rw[H];rfl
 (refine ap (ky (n:=n) (e1:=(e.aj W)) (blk:=yt) (lm:=aX) .d true false false false (by rw[←h.cx W];exact h.b a f o j (aC 0x44cc1801011 (aJ Q)) (fg.g N) .d) g h.c (by kernel_rfl!)) λE r d=>?_);rw[←h.cx W]at d;refine(aE E (.m (l1:=aX) ?_ .j) ⟨(kz W .g .g .g true false false false j (aC 0x44cc1801011 (aJ Q)) d)⟩);rw[c];exact r
theorem IZ(n:Nat)(e:aw){D ps N q b}(h:fG e D ps b){w0:aF}(O:bL e.a.a w0)(Q:ao w0.a<=ao e.ae.a+3)(c:e.b=N.a)(i:e.g=q.map ay.a)(o:gM D ps N)(I:N.g->∃y z,q=y::z):
  ∃E p,av aa (n+8) yz aX (ac (e.aj w0)) .a [] (ac E)/\(p=.m\/p=.k)/\iE e N q p E:=by
 have d:=h.p;refine bY (wf (n+5) e h w0 O (aC 0x4630c0daa0804630c0d8fc0c1813a18012 Q d) []) λw j J f=>?_
 have S:ei (e.aj w):=⟨h.f.t,h.f.b,h.f.c,h.f.bJ,h.f.o,h.f.n,h.f.l,h.f.bg,gA (by show ao w.a<=_;exact bc 0x4630c0d004630c0d8fc0c2813a281103ecc18013 f Q d),h.f.p,h.f.h,h.f.g,h.f.r⟩;have r:∀P a A,fg N P a A->∃E,av aa (n+8) DJ aX (ac ((e.aj w).m P a A)) .a [] (ac E)/\iE e N q .k E:=λP a A g=>by
  have K:=fz (n+6) ((e.aj w).m P a A) ("?":Str) true false false (show ao w.a+0<=4600000 by exact bc 0x4630c0d0a0804630c0d8fc0c2813a281103ecc18013 f Q d) (by decide);have l:bL e.a.a (w.d ("?":Str) true false false):=gL h.a J.b.b (cg [] 63 rfl (by decide)) _ _ _;have m:ao (w.d ("?":Str) true false false).a<=ao w.a+3:=fO w ("?":Str) _ _ _;generalize u:w.d ("?":Str) true false false=W at l m;rw[show((e.aj w).m P a A).aj (((e.aj w).m P a A).ae.d ("?":Str) true false false)=(e.aj W).m P a A from by rw[←u];rfl]at K;refine ap (ky (n:=n) (e1:=((e.aj W).m P a A)) (blk:=yy) (lm:=aX) .k false false true false (h.b c i o l (bS 0x44cc1833a283103ecc08213a18013 Q f m) g .k) I h.c (by kernel_rfl!)) λE x B=>?_
  exact(aE E (.m (l1:=aX) (.z (y:=yy) (lm1:=aX) K x) .j) ⟨(kz W P a A false false true false l (bS 0x44cc1833a283103ecc08213a18013 Q f m) B)⟩)
 (refine I9 (IQ (n+5) (e.aj w) D ps N q c i h.bJ (by rw[show(e.aj w).o=.g from h.o,show(e.aj w).n=.g from h.n,show(e.aj w).l=.g from h.l];exact fg.g N) o S) λv t P a A L M g=>?_);have R:e.a.b=false->aN aa (n+8) yx aX (ac (e.aj w)) t (ac ((e.aj w).m P a A)):=λH=>by rw[IY H]at L M⊢;exact λk C=>aP (L (λv s=>eh v s k) (M k C))
 cases H:e.a.b
 ·have R:=R H;cases t
  ·refine ap (r P a A g) λE F G=>?_
   refine(dy E .k ?_ (.inr rfl) G);exact .d j (.d (l1:=[]) (.bq R F) .j)
  ·refine ap (ky (n:=n) (e1:=((e.aj w).m P a A)) (blk:=DI) (lm:=aX) .m false false true true (h.b c i o J (bc 0x44cc18203ecc08213a18012 Q f) g .m) I h.c (by kernel_rfl!)) λE x B=>?_
   refine(dy E .m ?_ (.inl rfl) ⟨(kz w P a A false false true true J (bc 0x44cc18203ecc08213a18012 Q f) B)⟩);exact .d j (.d (l1:=[]) (.a R (.m x .j)) .j)
 ·refine ap (r .g .g .g (fg.g N)) λE F G=>?_
  refine(dy E .k ?_ (.inr rfl) G);have T:aN aa (n+8) yx aX (ac (e.aj w)) false (ac ((e.aj w).m .g .g .g)):=by rw[h.cx w];rw[IY H];exact .b
  exact .d j (.d (l1:=[]) (.bq T F) .j)
theorem Pf(n:Nat)(e:aw){D ps N q b}(h:fG e D ps b)(H:e.b=N.a)(a:e.g=q.map ay.a)(o:gM D ps N)(c:N.g->∃y z,q=y::z):
  ∃E p,av aa (n+8) yz aX (ac e) .a [] (ac E)/\(p=.m\/p=.k)/\iE e N q p E:=IZ n e h (w0:=e.ae) h.g (bi ..) H a o c
theorem Pg(n:Nat)(e:aw){D ps a q b}(h:fG e D ps b)(H:e.b=a.a)(d:e.g=q.map ay.a)(o:gM D ps a)(f:a.g->∃y z,q=y::z):
  ∃E p,av aa (n+8) DR aX (ac e) .a [] (ac E)/\(p=.m\/p=.k)/\iE e a q p E:=
 have c:=h.p
 dz (IZ n e h (w0:=e.ae.d (",":Str) false false false) (gL h.a h.g.b.b (cg [] 44 rfl (by decide)) _ _ _) (fO e.ae (",":Str) _ _ _) H d o f) λE p r g N=>⟨E,p,.z (y:=DQ) (lm1:=aX) (fz (n+6) e (",":Str) false false false (show ao e.ae.a+0<=4600000 by exact aO 0x4630c0d0a0804630c0d8fc0c0811 c) (by decide)) r,g,N⟩
theorem Ph(n:Nat)(e:aw){D ps N q b}(h:fG e D ps b)(H:e.b=N.a)(m:e.g=q.map ay.a)(o:gM D ps N)(I:N.g->∃y z,q=y::z)(f:Bool):
  ∃E p,av aa (n+8) Eb (gk f) (ac e) .a [] (ac E)/\(p=.o\/p=.p)/\iE e N q p E:=by
 have c:=h.p;obtain⟨j,d⟩:∃w,w=e.ae:=(ba _ rfl);have O:bL e.a.a j:=d▸h.g;have Q:ao j.a=ao e.ae.a:=by rw[d]
 have i:e=e.aj j:=by rw[d];rfl
 refine bY (qQ (n+5) e h j O (aC 0x4630c0daa0804630c0d8fc0c1811012 (aJ Q) c)) λW K J g=>?_
 have S:ei (e.aj W):=⟨h.f.t,h.f.b,h.f.c,h.f.bJ,h.f.o,h.f.n,h.f.l,h.f.bg,gA (by show ao W.a<=_;exact bc 0x4630c0d004630c0d8fc0c28121103ecc18013 g (aJ Q) c),h.f.p,h.f.h,h.f.g,h.f.r⟩;have r:∀P a A,fg N P a A->∃E,av aa (n+8) Ea (gk f) (ac ((e.aj W).m P a A)) .a [] (ac E)/\iE e N q .p E:=λP a A l=>by
  have L:=fz (n+6) ((e.aj W).m P a A) ("?":Str) true false true (show ao W.a+0<=4600000 by exact bc 0x4630c0d0a0804630c0d8fc0c28121103ecc18013 g (aJ Q) c) (by decide);have u:bL e.a.a (W.d ("?":Str) true false true):=gL h.a J.b.b (cg [] 63 rfl (by decide)) _ _ _;have x:ao (W.d ("?":Str) true false true).a<=ao W.a+3:=fO W ("?":Str) _ _ _;generalize B:W.d ("?":Str) true false true=C at u x;rw[show((e.aj W).m P a A).aj (((e.aj W).m P a A).ae.d ("?":Str) true false true)=(e.aj C).m P a A from by rw[←B];rfl]at L;refine ap (ky (n:=n) (e1:=((e.aj C).m P a A)) (blk:=yJ) (lm:=(gk f)) .p false false true false (h.b H m o u (bS 0x44cc1833a283103ecc08211013 (aJ Q) g x) l .p) I h.c (by kernel_rfl!)) λE R F=>?_
  exact(aE E (.m (l1:=(gk f)) (.z (y:=yJ) (lm1:=(gk f)) L R) .j) ⟨(kz C P a A false false true false u (bS 0x44cc1833a283103ecc08211013 (aJ Q) g x) F)⟩)
 (refine I9 (IQ (n+5) (e.aj W) D ps N q H m h.bJ (by rw[show(e.aj W).o=.g from h.o,show(e.aj W).n=.g from h.n,show(e.aj W).l=.g from h.l];exact fg.g N) o S) λv t P a A T U l=>?_);have M:aN aa (n+8) D8 (gk f) (ac (e.aj W)) t (ac ((e.aj W).m P a A)):=λk G=>aP (T (λv s=>eh v s k) (U k G))
 cases t
 ·refine ap (r P a A l) λE X Y=>?_
  refine(dy E .p ?_ (.inr rfl) Y);rw[i];exact .z (y:=yK) (lm1:=(gk f)) K (.d (l1:=[]) (.bq M X) .j)
 ·refine ap (ky (n:=n) (e1:=((e.aj W).m P a A)) (blk:=D_) (lm:=(gk f)) .o false false true true (h.b H m o J (bc 0x44cc18203ecc08211012 (aJ Q) g) l .o) I h.c (by kernel_rfl!)) λE R F=>?_
  refine(dy E .o ?_ (.inl rfl) ⟨(kz W P a A false false true true J (bc 0x44cc18203ecc08211012 (aJ Q) g) F)⟩);rw[i];exact .z (y:=yK) (lm1:=(gk f)) K (.d (l1:=[]) (.a M (.m R .j)) .j)
def aw.C(e:aw)(w:aF)(ys:List V)(x:V)(fl:Int)(ss:List V)(s:V):aw:={e with ae:=w,h:=ys,c:=x,k:=fl,p:=ss,t:=s}
def aw.w(e:aw)(ys:List V)(x:V)(fl:Int):aw:={e with h:=ys,c:=x,k:=fl}
theorem fG.w{e:aw}{D ps b b'}(h:fG e D ps b){ys:List V}{x:V}(hi:e.h=ys++[x])(hx:gV x b')(hb:0<=b'/\b'<=990)(fl:Int):fG (e.w ys x fl) D ps b':=by
 have H:ck 6 (ys++[x]):=hi▸h.f.h;have L:∀ys:List V,ck 6 (ys++[x])->ck 6 ys/\bG 6 x:=λys=>by
  induction ys with
  |nil=>intro h;exact(ai .j h.1)
  |cons y r i=>intro h;exact(ai (.p h.1 (i h.2).1) ((i h.2).2))
 have m:=h.k;rw[hi,bs]at m;exact⟨h.bJ,h.o,h.n,h.l,h.bg,⟨h.f.t,h.f.b,(L ys H).2,h.f.bJ,h.f.o,h.f.n,h.f.l,h.f.bg,h.f.a,h.f.p,(L ys H).1,h.f.g,h.f.r⟩,h.j,h.a,hx,hb,by show ys.length<1000;exact i5 ‹_›,h.c,h.g,h.p⟩
section
variable (n:Nat) (e:aw) {D:List (Str×V)} {ps:List Str} {b b':Int} (h:fG e D ps b) {ys ss:List V} {x s:V} (hi:e.h=ys++[x]) (hx:gV x b') (hb:0<=b'/\b'<=990) (hs:e.p=ss++[s])
include h hi hs hx hb
theorem Pi:∃w,av aa (n+8) Dr aX (ac e) .a [] (ac (e.C w ys x (e.k-1) ss s))/\bL e.a.a w/\ao w.a<=ao e.ae.a+1100:=by have H:=h.p;have a:=fO e.ae ("]":Str) false false false;rw[show("]":Str).length=1 from rfl]at a;refine(bx (e.ae.d ("]":Str) false false false) (py hi (.m (l1:=aX) (.z (y:=Dq) (lm1:=aX) (fz (n+6) (e.w ys x (e.k-1)) ("]":Str) false false false (show ao e.ae.a+0<=4600000 by exact aO 0x4630c0d0a0804630c0d8fc0c0811 H) (by decide)) (ow hs .j) (by kernel_rfl!)) .j)) (gL h.a h.g.b.b (cg [] 93 rfl (by decide)) _ _ _) (aC 0x44cc1802a1a818011 a))
theorem Pj:∃w,av aa (n+8) DH aX (ac e) .a [] (ac (e.C w ys x (e.k-1) ss s))/\bL e.a.a w/\ao w.a<=ao e.ae.a+1100:=by have H:=h.p;have a:=fO e.ae ("}":Str) false false false;rw[show("}":Str).length=1 from rfl]at a;refine(bx (e.ae.d ("}":Str) false false false) (py hi (.m (l1:=aX) (.z (y:=DG) (lm1:=aX) (fz (n+6) (e.w ys x (e.k-1)) ("}":Str) false false false (show ao e.ae.a+0<=4600000 by exact aO 0x4630c0d0a0804630c0d8fc0c0811 H) (by decide)) (ow hs .j) (by kernel_rfl!)) .j)) (gL h.a h.g.b.b (cg [] 125 rfl (by decide)) _ _ _) (aC 0x44cc1802a1a818011 a))
theorem Pk:∃W,av aa (n+8) Dz aX (ac e) .a [] (ac (e.C W ys x (e.k-1) ss s))/\bL e.a.a W/\ao W.a<=ao e.ae.a+1100:=by
 have H:=h.p;have c:=h.w hi hx hb (e.k-1);obtain⟨w,R,j,q⟩:∃w,av aa (n+8) (.B yv Dx .j) aX (ac (e.w ys x (e.k-1))) .a aX (ac ((e.w ys x (e.k-1)).aj w))/\bL e.a.a w/\ao w.a<=ao e.ae.a+1010:=by
  have t:aN aa (n+8) yv aX (ac (e.w ys x (e.k-1))) e.a.b (ac (e.w ys x (e.k-1))):=.b;cases b:e.a.b
  ·rw[b]at t;exact(bx e.ae (.bq t .j) h.g (by exact bi _ _))
  ·rw[b]at t;have a:=fO e.ae (",":Str) false false false;rw[show(",":Str).length=1 from rfl]at a;have J:bL e.a.a (e.ae.d (",":Str) false false false):=gL h.a h.g.b.b (cg [] 44 rfl (by decide)) _ _ _;refine bY (qQ (n+5) (e.w ys x (e.k-1)) c (e.ae.d (",":Str) false false false) J (aC 0x4630c0daa0804630c0d8fc0c1812a1a818012 a H)) λw r j q=>?_
   exact(bx w (.a t (.z (y:=Dw) (lm1:=aX) (fz (n+6) (e.w ys x (e.k-1)) (",":Str) false false false (show ao e.ae.a+0<=4600000 by exact aO 0x4630c0d0a0804630c0d8fc0c0811 H) (by decide)) (.h aX r))) j (bc 0x3f2c18203ecc08212a1a818012 a q))
 have a:=fO w ("]":Str) false false false;rw[show("]":Str).length=1 from rfl]at a;refine(bx (w.d ("]":Str) false false false) (py hi (.bE (y:=Dy) (lm1:=aX) (σ1:=ac (e.w ys x (e.k-1))) (.d R (.m (l1:=aX) (.z (y:=Dv) (lm1:=aX) (fz (n+6) ((e.w ys x (e.k-1)).aj w) ("]":Str) false false false (show ao w.a+0<=4600000 by exact aC 0x4630c0d0a0804630c0d8fc0c18103f2c18012 q H) (by decide)) (ow hs .j) (by kernel_rfl!)) .j)) (by kernel_rfl!))) (gL h.a j.b.b (cg [] 93 rfl (by decide)) _ _ _) (bc 0x44cc1822a1a8082103f2c18012 q a))
theorem Pl:∃W,av aa (n+8) DP aX (ac e) .a [] (ac (e.C W ys x (e.k-1) ss s))/\bL e.a.a W/\ao W.a<=ao e.ae.a+1100:=by
 have H:=h.p;have c:=h.w hi hx hb (e.k-1);obtain⟨w,R,j,q⟩:∃w,av aa (n+8) (.B yB DN .j) aX (ac (e.w ys x (e.k-1))) .a aX (ac ((e.w ys x (e.k-1)).aj w))/\bL e.a.a w/\ao w.a<=ao e.ae.a+1010:=by
  have t:aN aa (n+8) yB aX (ac (e.w ys x (e.k-1))) e.a.b (ac (e.w ys x (e.k-1))):=.b;cases b:e.a.b
  ·rw[b]at t;exact(bx e.ae (.bq t .j) h.g (by exact bi _ _))
  ·rw[b]at t;have a:=fO e.ae (",":Str) false false false;rw[show(",":Str).length=1 from rfl]at a;have J:bL e.a.a (e.ae.d (",":Str) false false false):=gL h.a h.g.b.b (cg [] 44 rfl (by decide)) _ _ _;refine bY (qQ (n+5) (e.w ys x (e.k-1)) c (e.ae.d (",":Str) false false false) J (aC 0x4630c0daa0804630c0d8fc0c1812a1a818012 a H)) λw r j q=>?_
   exact(bx w (.a t (.z (y:=DM) (lm1:=aX) (fz (n+6) (e.w ys x (e.k-1)) (",":Str) false false false (show ao e.ae.a+0<=4600000 by exact aO 0x4630c0d0a0804630c0d8fc0c0811 H) (by decide)) (.h aX r))) j (bc 0x3f2c18203ecc08212a1a818012 a q))
 have a:=fO w ("}":Str) false false false;rw[show("}":Str).length=1 from rfl]at a;refine(bx (w.d ("}":Str) false false false) (py hi (.bE (y:=DO) (lm1:=aX) (σ1:=ac (e.w ys x (e.k-1))) (.d R (.m (l1:=aX) (.z (y:=DK) (lm1:=aX) (fz (n+6) ((e.w ys x (e.k-1)).aj w) ("}":Str) false false false (show ao w.a+0<=4600000 by exact aC 0x4630c0d0a0804630c0d8fc0c18103f2c18012 q H) (by decide)) (ow hs .j) (by kernel_rfl!)) .j)) (by kernel_rfl!))) (gL h.a j.b.b (cg [] 125 rfl (by decide)) _ _ _) (bc 0x44cc1822a1a8082103f2c18012 q a))
theorem Pm(f:Bool):av aa (n+8) DZ (gk f) (ac e) .a [] (ac (e.C e.ae ys x e.k ss s)):=py hi (.m (l1:=gk f) (ow hs .j) .j)
theorem Pn(f:Bool):av aa (n+8) D7 (gk f) (ac e) .a [] (ac (e.C e.ae ys x e.k ss s)):=py hi (.m (l1:=gk f) (ow hs .j) .j)
end
inductive cG where
 |u (x:cA)
 |d (a t:Option Str) (i f:Bool) (xs:List cG)
 |q (a t:Option Str) (i f:Bool) (xs:List cG)
noncomputable def cG.ctorIdx(x:cG):Nat:= @cG.casesOn (λ_=>Nat) x (λ_=>0) (λ_ _ _ _ _=>1) (λ_ _ _ _ _=>2)
mutual
def cG.i:cG->List ay
 | .u x=>[.b x]| .d A t I f X=> .b (.c A t I f)::(c_ X++[.fQ])| .q A t I f X=> .b (.d A t I f)::(c_ X++[.fR])
def c_:List cG->List ay
 |[]=>[]|t::T=>t.i++c_ T
end
mutual
inductive jV(D:List (Str×V))(ps:List Str):cG->Prop
 |u {x}:gM D ps x->¬x.g->jV D ps (.u x)
 |d {a t i f xs}:gM D ps (.c a t i f)->jz D ps xs->jV D ps (.d a t i f xs)
 |q {a t i f xs}:gM D ps (.d a t i f)->jz D ps xs->xs.length % 2=0->jV D ps (.q a t i f xs)
inductive jz(D:List (Str×V))(ps:List Str):List cG->Prop
 |j:jz D ps []
 |p {t ts}:jV D ps t->jz D ps ts->jz D ps (t::ts)
end
noncomputable def cG.b:cG->cA
 | .u x=>x| .d A t I f _=> .c A t I f| .q A t I f _=> .d A t I f
def cG.a:cG->List ay
 | .u _=>[]| .d _ _ _ _ x=>c_ x++[.fQ]| .q _ _ _ _ x=>c_ x++[.fR]
theorem cG.c(t:cG):t.i=.b t.b::t.a:=by cases t<;>rfl
theorem jV.b{D ps t}(h:jV D ps t):gM D ps t.b:=by cases h<;>assumption
noncomputable def jh:bQ->Int
 | .q| .e| .r| .j| .m| .k=>1|_=>0
structure fH where
 a:bQ
 b:List cG
def k_(s:bQ)(ts:List cG):Prop:=match s with
 | .q| .e| .n=>True| .s=>ts≠[]| .r| .j| .l=>ts.length % 2=0| .t=>ts.length % 2=0/\ts≠[]| .m| .k| .o| .p=>ts.length % 2=1| .d=>ts=[]| .f=>ts.length=1|_=>False
def gl(ex:Bool):bQ->ay
 | .q| .e| .s| .n=> .fQ| .r| .j| .m| .k| .t| .l| .o| .p=> .fR|_=> .d ex
def fI(ex:Bool):List fH->List ay
 |[]=>[]|f::F=>c_ f.b++gl ex f.a::fI ex F
def jW(s p:bQ):Prop:=match s with
 | .q| .e=>p=.e| .s| .n=>p=.n| .r| .j=>p=.m\/p=.k| .t| .l=>p=.o\/p=.p| .m| .k=>p=.j| .o| .p=>p=.l| .f=>p=.d|_=>False
theorem I_{n:Nat}(h:(n+1) % 2=0):n % 2=1:=by lia
theorem Po{n:Nat}(h:(n+1) % 2=1):n % 2=0:=(Nat.mod_two_eq_zero_or_one n).elim id λq=>absurd h (by rw[Nat.add_mod,q];decide)
theorem Ja{s p:bQ}{t:cG}{ts:List cG}(h:k_ s (t::ts))(g:jW s p):k_ p ts:=by
 cases s<;>first|exact g.elim|(rcases g with rfl|rfl)|(obtain rfl:=g)
 all_goals first|exact trivial|exact I_ h|exact Po h|exact I_ h.1|exact h6 (Nat.succ.inj h)
theorem Jb{s p:bQ}{t:cG}{ts:List cG}(h:k_ s (t::ts))(g:jW s p)(ex:Bool):gl ex p=gl ex s:=by cases s<;>first|exact g.elim|(rcases g with rfl|rfl<;>rfl)|(obtain rfl:=g;rfl)
theorem Pp(ex:Bool):∀F:List fH,F.length<=(fI ex F).length
 |[]=>ds _|f::F=>by have:=Pp ex F;simp only[fI,bs,eb];exact bc 0x1a18281a081011 this
def oy:bQ->List V
 | .n=>[aB,.l false]| .l=>[aB,.l false]| .c=>[aB,.l false]|_=>[aB]
theorem pz{n:Nat}{e:aw}{y:ay}{D g:Nat}{x:ah}(hev:e.b=y.a)(H:br g aa.b=au (.h D))(a:oq D=true)(b:eL y.e D=true):aN aa n (.z (.G 62) (.p (.w (.d 9) 54) (.p (.G g) .j)) .j) ((9,aB)::x) (ac e) true (ac e):=by have h:=wa (n:=n) (x:=y) (g:=g) (D:=D) (by have:=tj (n:=n) (e:=e) (x:=x);rw[hev]at this;exact this) H a;rw[b]at h;exact h
section
variable (n:Nat) (e:aw) {D ps nd q b} (h:fG e D ps b) (hev:e.b=nd.a) (hq:e.g=q.map ay.a) (ok:gM D ps nd) (hc:nd.g->∃y z,q=y::z)
include h hev hq ok hc
theorem Jc(f:Bool):∃E,bd aa (n+9) 495 [aB,.l f] (ac e) .g (ac E)/\iE e nd q .n E:=by
 refine ap (Pb n e h hev hq ok hc f) λE r N=>?_
 refine(aE E (.e ⟨[9,78],[.l false],yH,ct⟩ (l':=[]) (.d (l1:=[]) (.bq ?_ r) .j)) N);have t:aN aa (n+8) yF (gk f) (ac e) (!f&&false) (ac e):=gy .b (qR (x:=[(78,.l f)]) hev (by kernel_rfl!) (by kernel_rfl!) (AP nd));rw[kK]at t;exact t
theorem Jd(f:Bool):∃E p,bd aa (n+9) 517 [aB,.l f] (ac e) .g (ac E)/\(p=.o\/p=.p)/\iE e nd q p E:=by
 refine dz (Ph n e h hev hq ok hc f) λE p r H N=>?_
 refine(dy E p (.e ⟨[9,78],[.l false],yL,ct⟩ (l':=[]) (.d (l1:=[]) (.bq ?_ r) .j)) H N);have t:aN aa (n+8) yI (gk f) (ac e) (!f&&false) (ac e):=gy .b (qR (x:=[(78,.l f)]) hev (by kernel_rfl!) (by kernel_rfl!) (AQ nd));rw[kK]at t;exact t
theorem Pq(s:bQ)(hs:∃p,jW s p):∃E p,bd aa (n+10) s.h (oy s) (ac e) .g (ac E)/\jW s p/\iE e nd q p E:=by
 cases s with
 |q=>
  refine ap (O9 (n+1) e h hev hq ok hc) λE R N=>?_
  exact(dy E _ (.e ⟨[9],[],yu,ct⟩ (l':=[]) (.d (l1:=[]) (.bq (qR (x:=[]) hev (by kernel_rfl!) (by kernel_rfl!) (AP nd)) R) .j)) rfl N)
 |e=>
  refine ap (O_ (n+1) e h hev hq ok hc) λE R N=>?_
  exact(dy E _ (.e ⟨[9],[],yw,ct⟩ (l':=[]) (.d (l1:=[]) (.bq (qR (x:=[]) hev (by kernel_rfl!) (by kernel_rfl!) (AP nd)) R) .j)) rfl N)
 |r=>
  refine dz (Pf (n+1) e h hev hq ok hc) λE p R H N=>?_
  exact(dy E p (.e ⟨[9],[],yA,ct⟩ (l':=[]) (.d (l1:=[]) (.bq (qR (x:=[]) hev (by kernel_rfl!) (by kernel_rfl!) (AQ nd)) R) .j)) H N)
 |j=>
  refine dz (Pg (n+1) e h hev hq ok hc) λE p R H N=>?_
  exact(dy E p (.e ⟨[9],[],yC,ct⟩ (l':=[]) (.d (l1:=[]) (.bq (qR (x:=[]) hev (by kernel_rfl!) (by kernel_rfl!) (AQ nd)) R) .j)) H N)
 |m=>
  refine ap (O' (n+1) e h hev hq ok hc) λE R N=>?_
  exact(dy E _ (.e ⟨[9],[],DT,ct⟩ R) rfl N)
 |k=>
  refine ap (Pa (n+1) e h hev hq ok hc) λE R N=>?_
  exact(dy E _ (.e ⟨[9],[],DV,ct⟩ R) rfl N)
 |o=>
  refine ap (Pc (n+1) e h hev hq ok hc) λE R N=>?_
  exact(dy E _ (.e ⟨[9],[],Ed,ct⟩ R) rfl N)
 |p=>
  refine ap (Pd (n+1) e h hev hq ok hc) λE R N=>?_
  exact(dy E _ (.e ⟨[9],[],Eg,ct⟩ R) rfl N)
 |f=>
  refine ap (Pe (n+1) e h hev hq ok hc) λE R N=>?_
  exact(dy E _ (.e ⟨[9],[],C_,ct⟩ R) rfl N)
 |n=>
  refine ap (Jc (n+1) e h hev hq ok hc false) λE R N=>?_
  exact(dy E _ R rfl N)
 |l=>
  refine dz (Jd (n+1) e h hev hq ok hc false) λE p R H N=>?_
  exact(dy E p R H N)
 |s=>
  refine ap (Jc n e h hev hq ok hc true) λE R N=>?_
  exact(dy E _ (.d ⟨[9],[],DY,ct⟩ (.inl rfl) (l':=aX) (.u (lm1:=aX) R)) rfl N)
 |t=>
  refine dz (Jd n e h hev hq ok hc true) λE p R H N=>?_
  exact(dy E p (.d ⟨[9],[],D6,ct⟩ (.inl rfl) (l':=aX) (.u (lm1:=aX) R)) H N)
 |_=>exact absurd hs λ⟨p,H⟩=>H.elim
end
section
variable (n:Nat) (e:aw) {D:List (Str×V)} {ps:List Str} {b b':Int} (h:fG e D ps b) {ys ss:List V} {x s0:V} (hi:e.h=ys++[x]) (hx:gV x b') (hb:0<=b'/\b'<=990) (hs:e.p=ss++[s0])
include h hi hs hx hb
def Je(s:bQ):Prop:=match s with
 | .q| .e| .n| .r| .j| .l=>True|_=>False
theorem Pr(s:bQ)(a:Je s)(ex:Bool)(hev:e.b=(gl ex s).a):∃w,bd aa (n+10) s.h (oy s) (ac e) .g (ac (e.C w ys x (e.k-jh s) ss s0))/\bL e.a.a w/\ao w.a<=ao e.ae.a+1100:=by
 cases s with
 |q=>
  refine bY (Pi (n+1) e h hi hx hb hs) λw R J H=>?_
  exact(bx w (.e ⟨[9],[],yu,ct⟩ (l':=[]) (.d (l1:=[]) (.a (pz (D:=241) (x:=[]) (y:=.fQ) hev (by kernel_rfl!) (by kernel_rfl!) (by kernel_rfl!)) R) .j)) J H)
 |e=>
  refine bY (Pk (n+1) e h hi hx hb hs) λw R J H=>?_
  exact(bx w (.e ⟨[9],[],yw,ct⟩ (l':=[]) (.d (l1:=[]) (.a (pz (D:=241) (x:=[]) (y:=.fQ) hev (by kernel_rfl!) (by kernel_rfl!) (by kernel_rfl!)) R) .j)) J H)
 |r=>
  refine bY (Pj (n+1) e h hi hx hb hs) λw R J H=>?_
  exact(bx w (.e ⟨[9],[],yA,ct⟩ (l':=[]) (.d (l1:=[]) (.a (pz (D:=265) (x:=[]) (y:=.fR) hev (by kernel_rfl!) (by kernel_rfl!) (by kernel_rfl!)) R) .j)) J H)
 |j=>
  refine bY (Pl (n+1) e h hi hx hb hs) λw R J H=>?_
  exact(bx w (.e ⟨[9],[],yC,ct⟩ (l':=[]) (.d (l1:=[]) (.a (pz (D:=265) (x:=[]) (y:=.fR) hev (by kernel_rfl!) (by kernel_rfl!) (by kernel_rfl!)) R) .j)) J H)
 |n=>have R:=Pm (n+1) e h hi hx hb hs false;refine(bx e.ae ((I4 e.k).symm▸.e ⟨[9,78],[.l false],yH,ct⟩ (l':=[]) (.d (l1:=[]) (.a ?_ R) .j)) h.g (by exact bi _ _));have t:aN aa (n+9) yF (gk false) (ac e) (!false&&true) (ac e):=gy .b (pz (D:=241) (x:=[(78,.l false)]) (y:=.fQ) hev (by kernel_rfl!) (by kernel_rfl!) (by kernel_rfl!));exact t|l=>have R:=Pn (n+1) e h hi hx hb hs false;refine(bx e.ae ((I4 e.k).symm▸.e ⟨[9,78],[.l false],yL,ct⟩ (l':=[]) (.d (l1:=[]) (.a ?_ R) .j)) h.g (by exact bi _ _));have t:aN aa (n+9) yI (gk false) (ac e) (!false&&true) (ac e):=gy .b (pz (D:=265) (x:=[(78,.l false)]) (y:=.fR) hev (by kernel_rfl!) (by kernel_rfl!) (by kernel_rfl!));exact t|_=>exact a.elim
end
def jV.c(D:List (Str×V))(ps:List Str):cG->Prop
 | .u x=>¬x.g| .d _ _ _ _ xs=>jz D ps xs| .q _ _ _ _ xs=>jz D ps xs/\xs.length % 2=0
theorem jV.a{D ps t}(h:jV D ps t):jV.c D ps t:=by
 cases h
 ·assumption
 ·assumption
 ·exact(ai ‹_› ‹_›)
def jz.c(D:List (Str×V))(ps:List Str):List cG->Prop
 |[]=>True|t::r=>jV D ps t/\jz D ps r
theorem jz.a{D ps t}(h:jz D ps t):jz.c D ps t:=by
 cases h
 ·trivial
 ·exact(ai ‹_› ‹_›)
def nk(s:bQ):Prop:=match s with
 | .q| .e| .r| .j| .m| .k| .s| .n| .t| .l| .o| .p=>True|_=>False
def AR:List fH->Prop
 |[]=>False|[f]=>f.a=.f\/f.a=.d|f::g::r=>nk f.a/\AR (g::r)
theorem Jf{f f':fH}{r:List fH}(h:AR (f::r))(g:nk f.a->nk f'.a)(G:f.a=.f\/f.a=.d->f'.a=.f\/f'.a=.d):AR (f'::r):=by
 cases r with
 |nil=>exact G h|cons a b=>exact(ai (g h.1) h.2)
theorem wg{s p:bQ}(h:jW s p):(nk s->nk p)/\(s=.f\/s=.d->p=.f\/p=.d):=by
 cases s<;>first|exact h.elim|(rcases h with rfl|rfl)|(obtain rfl:=h)
 all_goals first|exact(ai (λh=>h) (λ_=> .inr rfl))|exact(ai (λh=>h) (λh=>by rcases h with h|h<;>(injection h;done)))
theorem Jg{s p:bQ}(h:jW s p):jh p=jh s:=by cases s<;>first|exact h.elim|(rcases h with rfl|rfl<;>rfl)|(obtain rfl:=h;rfl)
def tv:List fH->Int
 |[]=>0|f::r=>tv r+jh f.a
def Ps(e:aw):List fH->Prop
 |[]=>False|f::r=>e.t=f.a.a/\e.p=(r.map λf=>f.a.a).reverse
def Pt(D:List (Str×V))(ps:List Str):List fH->Prop
 |[]=>True|f::r=>(k_ f.a f.b/\jz D ps f.b)/\Pt D ps r
def pA(l:List V):Prop:=∀(j:Nat) x,l[j]? =au x->gV x (9*(j:Int))
theorem pA.a{l:List V}{x:V}(h:pA (l++[x])):pA l:=λj y e=>h j y (i7 (df.mp e).1▸e)
theorem pA.b{l:List V}{x:V}(h:pA l)(g:gV x (9*(l.length:Int))):pA (l++[x]):=λj y e=>by
 rcases I3 j l.length with q|q|q
 ·rw[i7 q]at e;exact h j y e
 ·subst q;rw[n8]at e;(injection e with z;subst z);exact g
 ·rw[List.getElem?_eq_none (by rw[bs];exact q)]at e;(injection e;done)
structure eU(ex:Bool)(D:List (Str×V))(ps:List Str)(e:aw)(fs:List fH):Prop where
 b:Ps e fs
 h:Pt D ps fs
 c:AR fs
 k:e.h.length+1=fs.length
 bJ:e.bJ=.c D
 o:e.o=.g
 n:e.n=.g
 l:e.l=.g
 bg:e.bg=.g
 f:ei e
 j:2<=e.a.j/\e.a.j<=9
 a:dh e.a.a.cps.toList
 g:bL e.a.a e.ae
 d:gV e.c (9*(e.h.length:Int))
 i:pA e.h
 m:e.k=tv fs
 q:∃r,e.h++[e.c]=.g::r
 t:(fI ex fs).length<=108
 p:ao e.ae.a+37000*(fI ex fs).length<=3998000
theorem eU.u{ex D ps e F}(h:eU ex D ps e F):∃f r,F=f::r/\e.t=f.a.a/\e.p=(r.map λf=>f.a.a).reverse:=by
 cases F with
 |nil=>exact h.b.elim|cons f r=>exact⟨f,r,rfl,h.b⟩
theorem eU.bE{ex D ps e}{f:fH}{r:List fH}(h:eU ex D ps e (f::r)):fG e D ps (9*(e.h.length:Int)):=by
 have H:=Pp ex (f::r);have v:=h.t;have w:=h.k;have y:=h.p;have z:e.p.length=r.length:=by rw[h.b.2,List.length_reverse,hZ]
 rw[eb]at H w;exact⟨h.bJ,h.o,h.n,h.l,h.bg,h.f,h.j,h.a,h.d,by lia,(bc 0x3e8c1a086cb2121a1811a181a0813 (aJ w) H v),(bc 0x7d0c1a086cb2121a1811013 (aJ z) H v),h.g,(aC 0x4630c0d8fc0c0803d0130d100908890811 y)⟩
def kA(ex:Bool)(t:cG)(ts:List cG)(s:bQ)(r:List fH):List ay:=t.a++(c_ ts++gl ex s::fI ex r)
theorem wh(ex:Bool)(s:bQ)(t:cG)(ts:List cG)(r:List fH):fI ex (⟨s,t::ts⟩::r)=.b t.b::kA ex t ts s r:=by show(t.i++c_ ts)++gl ex s::fI ex r=_;rw[cG.c,kA];simp
theorem Pu{m:Nat}{v:V}(h:v=.g):bG m v:=h▸.g
theorem Jh{m:Nat}{v:V}{b:Int}(h:gV v b):bG m v:=by
 rcases h with q|⟨i,q,_⟩
 ·rw[q];exact .g
 ·rw[q];exact .q _
theorem Pv{m:Nat}{x:V}:∀{l:List V},ck m (l++[x])->ck m l
 |[],_=> .j|_::_,h=> .p h.1 (Pv h.2)
theorem Pw{x y:V}{l:List V}(h:∃r,(l++[x])++[y]=.g::r):∃r,l++[x]=.g::r:=by
 cases l with
 |nil=>exact bf h λr e=>(ba _ (congrArg (· ::_) (hX e).1))|cons a b=>exact bf h λr e=>(ba _ (congrArg (· ::_) (hX e).1))
structure AS(e e':aw):Prop where
 a:e'.a=e.a
 b:e'.b=e.b
 g:e'.g=e.g
def qT(ex:Bool)(D:List (Str×V))(ps:List Str)(e:aw)(s:bQ)(r:List fH)(t:cG)(ts:List cG)(E:aw):Prop:=∃f,eU ex D ps E f/\fI ex f=kA ex t ts s r/\AS e E
theorem Ji{a A L L':Nat}(b:L+1<=108)(h:a+37000*(L+1)<=3998000)(H:A<=a+36800)(c:L'=L):L'<=108/\A+37000*L'<=3998000/\A<=4600000:=by subst c;exact(cz (aO 0x6cb06cb1a0811 b) (bc 0x3d0130d200908890803d0130d1a2800908891818fc0c18012 H h) (bc 0x4630c0d003d0130d1a2800908891818fc0c18012 H h))
theorem Px:∀l:List fH,ck 6 (l.map λf=>f.a.a)
 |[]=> .j|a::b=> .p (.E (by decide)) (Px b)
section
variable {ex:Bool} {D:List (Str×V)} {ps:List Str} {e:aw} {s p s1:bQ} {r:List fH} {t:cG} {ts xs:List cG}
theorem Py(o:k_ s (t::ts))(h:jW s p)(H:t.a=[]):fI ex (⟨p,ts⟩::r)=kA ex t ts s r:=by show c_ ts++gl ex p::fI ex r=_;rw[kA,H,Jb o h ex];rfl
theorem Pz(o:k_ s (t::ts))(h:jW s p)(H:t.a=c_ xs++[gl ex s1]):fI ex (⟨s1,xs⟩::⟨p,ts⟩::r)=kA ex t ts s r:=by show c_ xs++gl ex s1::(c_ ts++gl ex p::fI ex r)=_;rw[kA,H,Jb o h ex,dx];rfl
theorem eU.x(h:eU ex D ps e (⟨s,t::ts⟩::r)){a L:Nat}(H:a<=ao e.ae.a+36800)(v:L=(kA ex t ts s r).length):L<=108/\a+37000*L<=3998000/\a<=4600000:=
 have C:=h.t;have M:=h.p
 Ji (by rw[wh]at C;exact C) (by rw[wh]at M;exact M) H v
variable {w0 w:aF} {pa pt an:V} {ar as_ am ak:Bool}
theorem PA(h:eU ex D ps e (⟨s,t::ts⟩::r))(H:jW s p)(b:t.a=[])(J:bL e.a.a w)(c:ao w.a<=ao e.ae.a+36800):
  qT ex D ps e s r t ts (((((e.aj w0).m pa pt an).A p.a).r ar as_ am ak).u w e.p p.a):=by
 have a:=Py (r:=r) (ex:=ex) h.h.1.1 H b;refine cS (h.x c (congrArg _ a)) λn N d=>⟨⟨p,ts⟩::r,⟨ai rfl h.b.2,ai (ai (Ja h.h.1.1 H) h.h.1.2.a.2) h.h.2,Jf (f':=⟨p,ts⟩) h.c (wg H).1 (wg H).2,h.k,h.bJ,rfl,rfl,rfl,rfl,
  ⟨.E (by decide),h.f.b,h.f.c,h.f.bJ,.g,.g,.g,.g,gA d,h.f.p,h.f.h,h.f.g,gU (.l _) (.l _) (.l _) (.l _)⟩,h.j,h.a,J,h.d,h.i,h.m.trans (congrArg (tv r+·) (Jg H).symm),h.q,n,N⟩,a,rfl,rfl,rfl⟩
theorem Jj(h:eU ex D ps e (⟨s,t::ts⟩::r))(H:jW s p)(i:nk s1)(j:t.a=c_ xs++[gl ex s1])(k:k_ s1 xs)(c:jz D ps xs){fl l:Bool}{f:Int}(d:f=e.k+jh s1)(J:bL e.a.a w)(m:ao w.a<=ao e.ae.a+36800):
  qT ex D ps e s r t ts ((((((e.aj w0).m pa pt an).A p.a).r ar as_ am ak).m .g .g .g).B w fl l f s1.a):=by
 have g:=Pz (r:=r) h.h.1.1 H j;have b:=OU h.d h.j (dj 0x990a00a91 (jb _)) fl l;refine cS (h.x m (congrArg _ g)) λn N o=>⟨⟨s1,xs⟩::⟨p,ts⟩::r,⟨ai rfl ?_,cz (ai k c) (ai (Ja h.h.1.1 H) h.h.1.2.a.2) h.h.2,ai i (Jf (f':=⟨p,ts⟩) h.c (wg H).1 (wg H).2),?_,h.bJ,rfl,rfl,rfl,h.bg,
  ⟨.E (by decide),h.f.b,?_,h.f.bJ,.g,.g,.g,Pu h.bg,gA o,tr h.f.p (.E (by decide)),tr h.f.h h.f.c,h.f.g,gU (.l _) (.l _) (.l _) (.l _)⟩,h.j,h.a,J,?_,h.i.b h.d,?_,?_,n,N⟩,g,rfl,rfl,rfl⟩
 ·exact(congrArg (· ++[p.a]) h.b.2).trans (I8 (a:=p.a)).symm
 ·show(e.h++[e.c]).length+1=_;rw[bs];exact congrArg (· +1) h.k
 ·exact Jh b
 ·show gV _ (9*((e.h++[e.c]).length:Int));rw[bs];exact b
 ·rw[d,h.m];show tv r+jh s+jh s1=tv r+jh p+jh s1;rw[Jg H]
 ·exact bf h.q λR q=>⟨_,congrArg (· ++_) q⟩
theorem PB{f g:fH}(h:eU ex D ps e (f::g::r))(b:f.b=[]){ys:List V}{x:V}(hi:e.h=ys++[x]){w:aF}(J:bL e.a.a w)(m:ao w.a<=ao e.ae.a+1100):
  eU ex D ps (e.C w ys x (e.k-jh f.a) ((r.map λf=>f.a.a).reverse) g.a.a) (g::r):=by
 have c:fI ex (f::g::r)=gl ex f.a::fI ex (g::r):=by show c_ f.b++_=_;rw[b];rfl
 have a:=h.p;have H:=h.t;rw[c]at a H;refine cS (Ji (L':=(fI ex (g::r)).length) H a (ef m (i8 (by decide) _)) rfl) λn N o=>?_
 have d:=h.i;have j:=h.f.h;have k:=h.q;have i:=h.k;rw[hi]at d j k i;have l:gV x (9*(ys.length:Int)):=d _ x n8;exact⟨ai rfl rfl,h.h.2,h.c.2,by rw[bs]at i;exact Nat.succ.inj i,h.bJ,h.o,h.n,h.l,h.bg,⟨.E (by decide),h.f.b,Jh l,h.f.bJ,h.f.o,h.f.n,h.f.l,h.f.bg,gA o,M5▸Px r.reverse,Pv j,h.f.g,h.f.r⟩,h.j,h.a,J,l,d.a,
  by show e.k-jh f.a=_;rw[h.m];exact tT (tv r+jh g.a) _,Pw k,n,N⟩
end
theorem PD{s:bQ}{t:cG}{ts:List cG}(h:k_ s (t::ts)):∃p,jW s p:=by cases s<;>first|exact(ba _ rfl)|exact(ba .m (.inl rfl))|exact(ba .o (.inl rfl))|exact h.elim|exact nomatch (show _::_=[]from h)
theorem PE{α:Type}{a b:List α}{x y:α}(h:a++[x]=b++[y]):a=b/\x=y:=by have H:=y9 h rfl;have c:=w7 h rfl;(injection c with z;subst z);exact(ai H rfl)
theorem PF{y:ay}{A q rem r:List ay}(h:y::A=q++rem)(H:∃z w,q=z::w):∃w,q=y::w:=by(refine jg H λz w e=>?_;clear H;subst e);rw[nb]at h;(injection h with Z;subst Z);exact(ba w rfl)
section
variable {ex:Bool} {D:List (Str×V)} {ps:List Str} {e:aw} {s:bQ} {r:List fH} {t:cG} {ts xs:List cG} {p:bQ} {w:aF} {pa pt an:V} {ar as_ am ak:Bool} {q rem:List ay}
theorem Jk(h:eU ex D ps e (⟨s,t::ts⟩::r))(c:jW s p)(g:ao w.a<=ao e.ae.a+1100)(H:jz D ps xs){s1 s2:bQ}(C:nk s1)(i:nk s2)(F:jh s1=1)(j:jh s2=0){Y:ay}{L:Bool->Prop}(b:t.a=c_ xs++[Y])(k:gl ex s1=Y)(m:gl ex s2=Y)(n:k_ s1 xs)(o:xs≠[]->k_ s2 xs)
  (d:kA ex t ts s r=q++rem)(u:∃y z,q=y::z):AM ((((e.aj w).m pa pt an).A p.a).r ar as_ am ak) q (qT ex D ps e s r t ts) s1 s2 Y L:=by
 have f {a:Nat} (z:a<=ao w.a+200):a<=ao e.ae.a+36800:=ef z (aC 0x8fc0c18c8b08044cc18011 g);refine ai (λW J z=>Jj h c C (k▸b) n H (congrArg (e.k+·) F.symm) J (f z)) (λW l _ z J Z=>Jj h c i (m▸b) (o λQ=>?_) H ((F8 _).symm.trans (congrArg (e.k+·) j.symm)) J (f Z));subst Q;rw[kA,b]at d;exact bf (PF (r:=[]) d u) λw v=>z _ _ v rfl
theorem PG(h:eU ex D ps e (⟨s,t::ts⟩::r))(o:jV D ps t)(H:jW s p)(b:ao w.a<=ao e.ae.a+1100)(c:kA ex t ts s r=q++rem)(f:t.b.g->∃y z,q=y::z){g:aw}
  (E:mp ((((e.aj w).m pa pt an).A p.a).r ar as_ am ak) t.b q g):qT ex D ps e s r t ts g:=by
 refine E _ ?_;cases t with
 |u x=>
  suffices z:IU ((((e.aj w).m pa pt an).A p.a).r ar as_ am ak) (qT ex D ps e s r (.u x) ts) by cases x<;>first|exact z|exact absurd trivial o.a
  refine λW S x j k l=>?_
  refine aV (PE (show e.p++[p.a]=S++[x]from j)) λm n=>?_
  subst m n;exact PA h H rfl k (ef l (show ao w.a+_<=_ by exact aC 0x8fc0c188980c08044cc18011 b))
 |d a t i F xs=>exact Jk (s1:=.q) (s2:=.s) h H b o.a trivial trivial rfl rfl rfl rfl rfl trivial id c (f trivial)|q a t i F xs=>exact Jk (s1:=.r) (s2:=.t) h H b o.a.1 trivial trivial rfl rfl rfl rfl rfl o.a.2 (ai o.a.2) c (f trivial)
theorem PH(n:Nat)(h:eU ex D ps e (⟨s,t::ts⟩::r))(H:e.b=t.b.a)(f:e.g=q.map ay.a)(g:kA ex t ts s r=q++rem)(d:t.b.g->∃y z,q=y::z):
  ∃a,bd aa (n+10) s.h (oy s) (ac e) .g (ac a)/\qT ex D ps e s r t ts a:=
 dz (Pq n e h.bE H f h.h.1.2.a.1.b d s (PD h.h.1.1)) λa p R i N=>pC N.b λw pa pt an b=>pC b λar as_ am ak c=>cS c λJ j E=>⟨a,R,PG h h.h.1.2.a.1 i j g d E⟩
end
theorem PI{s:bQ}(h:k_ s [])(H:nk s):Je s:=by cases s<;>first|trivial|exact H.elim|exact absurd rfl h.2|exact absurd rfl h|exact nomatch (show 0 % 2=1 from h)|exact nomatch (show 0=1 from h)
theorem PJ(n:Nat){ex D ps e}{f g:fH}{r:List fH}(h:eU ex D ps e (f::g::r))(a:f.b=[])(c:e.b=(gl ex f.a).a):
  ∃E,bd aa (n+10) f.a.h (oy f.a) (ac e) .g (ac E)/\eU ex D ps E (g::r)/\AS e E:=by
 have o:=h.h.1.1;rw[a]at o;have H:=h.k;obtain⟨y,x,b⟩:∃y x,e.h=y++[x]:=(oz _ _ ((k6 λq=>by rw[q]at H;cases H).symm));have d:gV x (9*(y.length:Int)):=h.i y.length x (by rw[b];exact n8);have i:y.length+1=e.h.length:=by rw[b,bs];rfl
 have j:=h.bE.nj;have k:e.p=(r.map λf=>f.a.a).reverse++[g.a.a]:=h.b.2.trans I8;exact bY (Pr n e h.bE b d (ai (dj 0x990a00a91 (jb _)) (eI 0x3dec0000009903dec10000099111a0892 (g7.2 (aJ i)) j.2)) k f.a (PI o h.c.1) ex c) λw R J l=>⟨_,R,PB h a b J l,rfl,rfl,rfl⟩
noncomputable def ik(l:Int):ay->Int
 | .b (.c ..)| .b (.d ..)| .c .. =>l+1| .fQ| .fR| .d _=>l-1| .g=> -1|_=>l
def fZ(l:Int):List ay->Bool
 |[]=>false|x::r=>match decide (ik l x<0)with
  |true=>true|false=>fZ (ik l x) r
def lc(c:Nat)(q:List ay):Bool:=match fZ 0 q.tail with
 |true=>false|false=>decide ((q.length:Int)<(c:Int)+1)
def ld:List ay->Bool
 |[]=>true| .c a b c::r=>lc 1 (.c a b c::r)| .b (.c a b c d)::r=>lc 2 (.b (.c a b c d)::r)| .b (.d a b c d)::r=>lc 3 (.b (.d a b c d)::r)|_=>false
abbrev qU(c:Nat)(l:Int):ah:=[(9,aB),(66,.q (c:Int)),(68,.q l)]
abbrev qV(c:Nat)(l:Int)(x:ay):ah:=[(9,aB),(66,.q (c:Int)),(68,.q l),(54,x.a)]
theorem PK(n c:Nat)(l:Int)(x:ay)(σ:af):av aa n (.d (.B CE CF CG) .j) (qV c l x) σ .a (qV c (ik l x) x) σ:=by
 cases x with
 |b y=>cases y<;>exact .b (by kernel_rfl!)
 |_=>exact .b
theorem av.aW{T:dq}{n:Nat}{a b:ag}{lm l1 l':ah}{σ σ1 σ':af}{fl:bH}(h:av T n (.d a .j) lm σ .a l1 σ1)(g:av T n b l1 σ1 fl l' σ'):av T n (.d a b) lm σ fl l' σ':=by refine .d (l1:=l1) (σ1:=σ1) (.F ?_) g;exact Mine.qW .a (show bj T (aZ T n) a lm σ (iU (bj T (aZ T n) .j) (ip .a l1 σ1))from h.i) λfl _ _ _ U Q=>ip.a _ _ _ _ U (by cases fl<;>exact Q)
theorem PL(n c:Nat)(l:Int)(x:ay)(σ:af):av aa n ym (qV c l x) σ (match decide (ik l x<0)with
 |true=> .f (.l false)|false=> .a) (qU c (ik l x)) σ:=by
 refine av.aW (PK n c l x σ) (.m (l1:=qV c (ik l x) x) ?_ (.p rfl (.p rfl (.p rfl .j))));cases h:decide (ik l x<0)
 ·exact .d (.e (σ':=σ) (l':=qV c (ik l x) x) .j (by rw[←h];kernel_rfl!)) .j
 ·exact .k (.f (σ':=σ) (l':=qV c (ik l x) x) (.k .b) (by rw[←h];kernel_rfl!))
theorem PM(n c:Nat)(σ:af)(j:Nat)(a:List V)(H:ji (au (j,a)) σ):∀(q:List ay) (l:Int),∃l',gW aa n 54 ym (au (j,a)) (q.map ay.a) (qU c l) σ (match fZ l q with
  |true=> .f (.l false)|false=> .a) (qU c l') σ
 |[],l=>(ba l (.j H))|x::r,l=>by
  have b:=PL n c l x σ;unfold fZ;cases h:decide (ik l x<0)<;>rw[h]at b<;>dsimp only at b⊢
  ·refine bf (PM n c σ j a H r (ik l x)) λl' d=>?_
   exact(ba l' (.p H b d))
  ·exact(ba _ (.f H b))
theorem PN(q:List ay):np (q.map ay.a) (au 1) none=q.tail.map ay.a:=by
 cases q with
 |nil=>rfl|cons x r=>have h:clipAt (((x::r).map ay.a).length) 1=1:=(w9 _ 1).trans (o5 (m9 (hB _)));show ZG (_-clipAt _ 1) (tg (clipAt _ 1) ((x::r).map ay.a))=_;rw[h];simp;exact x5 (by simp)
theorem AU(n:Nat)(e:aw)(c:Nat)(q:List ay)(f:e.g=q.map ay.a)(g:ei e):bd aa (n+1) 344 [aB,.q (c:Int)] (ac e) (.l (lc c q)) (ac e):=by
 have h:np e.g (au 1) none=q.tail.map ay.a:=by rw[f,PN]
 have H:e.g.length=q.length:=by rw[f,hZ]
 refine .a (fl:=.f (.l (lc c q))) (l':=[]) (σ1:=ac e++[.u (q.tail.map ay.a)]) ⟨[9,66],[],CI,au none⟩ (by kernel_rfl!) rfl (.inl rfl) ?_ (λk b=>aP (a:=(bG 6 (.l (lc c q))/\bo 6 (ac e))/\k (.l (lc c q)) (ac e)) (ai ⟨.l _,g.d⟩ b));refine bf (PM n c (ac e++[aG.u (q.tail.map ay.a)]) 6 (q.tail.map ay.a) rfl q.tail 0) λl' i=>?_
 have j:aR aa n (.K (.w (.d 9) 55) (.q 1) .g) (qU c 0) (ac e) (.o 6) (ac e++[.u (q.tail.map ay.a)]):=λk b=>by rw[←h]at b;exact aP b
 have d:=av.o j rfl i;refine .bE (lm1:=qU c 0) (σ1:=ac e) (y:=CH) ?_;delta lc;cases l:fZ 0 q.tail<;>rw[l]at d<;>dsimp only at d⊢
 ·refine .d d (.m (l1:=qU c l') ?_ .j);rw[←H];exact .b
 ·exact .k (.m d .j)
theorem av.a{T:dq}{n i:Nat}{x:aq}{y:ag}{lm l':ah}{σ σ1 σ':af}{v:V}{fl:bH}(h:aR T n x lm σ v σ1)(r:av T n y (aU i v lm) σ1 fl l' σ'):av T n (.d (.i (.d i) x) y) lm σ fl l' σ':=λK H=>h _ (r K H)
theorem PO(n:Nat)(e:aw)(q:List ay)(H:e.g=q.map ay.a)(l:ei e):bd aa (n+2) 337 [aB] (ac e) (.l (ld q)) (ac e):=by
 cases q with
 |nil=>obtain⟨O,w,j,o,R,z,M,s,m,E,S,I,events,T,P,L,N,p⟩:=e;subst H;exact .d ⟨[9],[],yl,none⟩ (.inl rfl) (l':=H0) .b
 |cons x r=>
  have K:∀F,av aa (n+1) CC [(9,aB),(54,x.a)] (ac e) (.f (.l F)) [] (ac e)->bd aa (n+2) 337 [aB] (ac e) (.l F) (ac e):=λF A=>by
   refine .d ⟨[9],[],yl,none⟩ (.inl rfl) (l':=[]) ?_;refine av.d (l1:=H0) (σ1:=ac e) (y:=CD) (.bq (λk u=>?_) .j) (av.a (IG (x:=[]) H) A);have:e={e with g:=x.a::r.map ay.a}:=by cases e;subst H;rfl
   rw[this]at u⊢;exact aP u
  refine K _ ?_;have B:=AU n e 1 (x::r) H l;have C:=AU n e 2 (x::r) H l;have D:=AU n e 3 (x::r) H l;cases x with
  |c a Q O=>exact .m (l1:=[(9,aB),(54,(ay.c a Q O).a)]) (.u B) .j|b y=>
   cases y with
   |c a t U f=>exact .m (l1:=[(9,aB),(54,(ay.b (.c a t U f)).a)]) (.u C) .j|d a t U f=>exact .m (l1:=[(9,aB),(54,(ay.b (.d a t U f)).a)]) (.u D) .j|h a=>exact .m (l1:=[(9,aB),(54,(ay.b (.h a)).a)]) .b .j|b a t G J v p=>exact .m (l1:=[(9,aB),(54,(ay.b (.b a t G J v p)).a)]) .b .j
  |fQ=>exact .m (l1:=[(9,aB),(54,ay.fQ.a)]) .b .j|fR=>exact .m (l1:=[(9,aB),(54,ay.fR.a)]) .b .j|d a=>exact .m (l1:=[(9,aB),(54,(ay.d a).a)]) .b .j|i=>exact .m (l1:=[(9,aB),(54,ay.i.a)]) .b .j|g=>exact .m (l1:=[(9,aB),(54,ay.g.a)]) .b .j
def aw.s(e:aw)(x:V)(q:List V):aw:={e with b:=x,g:=q}
abbrev qX:ag:=.k uX uZ
theorem nq(n:Nat)(e:aw)(q:List ay)(l:ah)(h:e.g=q.map ay.a)(H:ei e):aN aa (n+2) uX ((9,aB)::l) (ac e) (!ld q) (ac e):=λk a=>by have:=PO n e q h H (λv s=>eh v s λb s=>k (!b) s) (show k _ _ from a);exact aP this
theorem PP{n:Nat}{e:aw}{s:bQ}{l:ah}{x:V}{r:List V}(H:e.t=s.a):AV aa n s.h (oy s) (ac (e.s x r)) yk ((9,aB)::l)=bj aa (aZ aa n) uY ((9,aB)::l) (ac (e.s x r)):=by
 have h:e={e with t:=s.a}:=by rw[←H]
 rw[h];cases s<;>kernel_rfl!
theorem tw(n:Nat)(e E:aw)(s:bQ)(l:ah){x:V}{r:List V}(H:e.t=s.a)(c:e.g=x::r)(R:bd aa n s.h (oy s) (ac (e.s x r)) .g (ac E))(h:E.g=r):av aa n uZ ((9,aB)::l) (ac e) .a ((9,aB)::l) (ac (E.s .g r)):=by
 have d:av aa n uY ((9,aB)::l) (ac (e.s x r)) .a ((9,aB)::l) (ac (E.s .g r)):=by
  refine .z (y:=yk) (lm1:=(9,aB)::l) R ?_ ?_
  ·rw[qL h];exact .b
  ·exact PP H
 rw[qL c];intro k f;exact aP (a:=∃z,(0:Int)<=0/\(x::r)[(0:Int).toNat]? =au z/\bj aa (aZ aa n) uY ((9,aB)::l) (ac {e with b:=z,g:=(x::r).eraseIdx (0:Int).toNat}) k) (bx x (by decide) rfl (d k f))
theorem eU.s{ex D ps e F}(h:eU ex D ps e F){x:V}{q:List V}(H:bG 6 x)(r:ck 6 q):eU ex D ps (e.s x q) F:=⟨h.b,h.h,h.c,h.k,h.bJ,h.o,h.n,h.l,h.bg,⟨h.f.t,H,h.f.c,h.f.bJ,h.f.o,h.f.n,h.f.l,h.f.bg,h.f.a,h.f.p,h.f.h,r,h.f.r⟩,h.j,h.a,h.g,h.d,h.i,h.m,h.q,h.t,h.p⟩
def nr(n:Nat)(l:ah)(e E:aw):Prop:=∀f L a,av aa n qX ((9,aB)::l) (ac E) f L a->av aa n qX ((9,aB)::l) (ac e) f L a
theorem nr.a{n:Nat}{l:ah}{e:aw}:nr n l e e:=λ_ _ _ h=>h
theorem nr.wk{n:Nat}{l:ah}{e e1 E:aw}{s:bQ}{y:ay}{q:List ay}(d:ei e)(f:e.t=s.a)(b:e.g=(y::q).map ay.a)(i:ld (y::q)=false)(r:bd aa (n+2) s.h (oy s) (ac (e.s y.a (q.map ay.a))) .g (ac e1))(H:e1.g=q.map ay.a)(g:nr (n+2) l (e1.s .g (q.map ay.a)) E):nr (n+2) l e E:=λF L j h=>by have c:=nq n e (y::q) l b d;rw[i]at c;exact .q c (tw (n+2) e e1 s l f b r H) (g _ _ _ h)
structure wl(ex:Bool)(D:List (Str×V))(ps:List Str)(rem:List ay)(c:cN)(e:aw)(fs:List fH)(q:List ay):Prop where
 a:eU ex D ps e fs
 b:e.g=q.map ay.a
 h:fI ex fs=q++rem
 s:e.b=.g
 d:e.a=c
 g:ld q=true\/(∃f,fs=[f]/\f.a=.d/\f.b=[])/\q=[.d ex]/\rem=[]
theorem PQ{x:cA}{q:List ay}(h:ld (.b x::q)=false)(H:x.g):∃y z,q=y::z:=by
 cases q with
 |cons y z=>exact(oz y z rfl)|nil=>cases x<;>first|exact H.elim|(injection h;done)
theorem PR(n:Nat)(l:ah){ex D ps rem}:∀(q:List ay) (e:aw) (p:List fH),eU ex D ps e p->e.g=q.map ay.a->fI ex p=q++rem->e.b=.g->∃m F Q,nr (n+10) l e m/\wl ex D ps rem e.a m F Q
 |[],e,p,h,u,k,i=>⟨e,p,[],.a,h,u,k,i,rfl,.inl rfl⟩|y::q,e,p,h,u,k,i=>by
  cases A:ld (y::q)
  case true=>exact⟨e,p,_,.a,h,u,k,i,rfl,.inl A⟩
  (refine dz h.u λf r B N P=>?_;subst B);have o:ck 6 ((y::q).map ay.a):=u▸h.f.g;have I:eU ex D ps (e.s y.a (q.map ay.a)) (f::r):=h.s o.1 o.2;have C:ck 6 (q.map ay.a):=o.2;have next:∀E c,bd aa (n+10) f.a.h (oy f.a) (ac (e.s y.a (q.map ay.a))) .g (ac E)->eU ex D ps E c->fI ex c=q++rem->AS (e.s y.a (q.map ay.a)) E->∃m F Q,nr (n+10) l e m/\wl ex D ps rem e.a m F Q:=λE c v M L K=>by
   refine kU (PR n l q (E.s .g (q.map ay.a)) c (M.s .g C) rfl L rfl) λm F Q g R=>?_
   exact(ju m F Q (.wk (n:=n+8) h.f N u A v K.g g) ⟨R.a,R.b,R.h,R.s,R.d.trans K.a,R.g⟩)
  cases H:f.b with
  |nil=>
   cases r with
   |nil=>
    have G:=h.h.1.1;rw[H]at G;have J:f.a=.d:=by
     rcases h.c with q|q
     ·rw[q]at G;(injection G;done)
     ·exact q
    have d:[ay.d ex]=(y::q)++rem:=by rw[←k];show _=c_ f.b++gl ex f.a::[];rw[H,J];rfl
    cases q with
    |nil=>cases d;exact⟨e,_,_,.a,h,u,k,i,rfl,.inr (cz ⟨f,rfl,J,H⟩ rfl rfl)⟩
    |cons a b=>cases d
   |cons g r=>
    have d:gl ex f.a::fI ex (g::r)=(y::q)++rem:=by rw[←k];show _=c_ f.b++gl ex f.a::fI ex (g::r);rw[H];rfl
    rw[nb]at d;refine aV (hX d) λw j=>?_
    refine bY (PJ n I H (show y.a=_ by rw[w])) λE v M K=>?_
    exact next E _ v M j K
  |cons t ts=>
   obtain⟨s,T⟩:=f;subst H;rw[wh,nb]at k;refine aV (hX k) λw j=>?_
   exact ap (PH n I (t:=t) (ts:=ts) (q:=q) (rem:=rem) (show y.a=_ by rw[←w];rfl) rfl j (λO=>PQ (x:=t.b) (by rw[w];exact A) O)) λE v z=>bY z λc M L K=>next E _ v M (L.trans j) K
noncomputable def aF.bz(oe:Bool)(r:List V):aF:=⟨0,true,true,oe,r⟩
noncomputable def f_:Str:="..."
def aF.m(w:aF)(nl:Str):aF:=(w.d f_ true false false).c 0 nl
theorem Jl(w:aF)(nl:Str)(h:0<=w.b):w.c 0 nl=.bz w.e (w.c 0 nl).a:=by
 obtain⟨c,W,i,o,R⟩:=w;have h:0<=c:=h;delta aF.c;have a:∀r,(aF.bz o r).i 0=.bz o r:=λr=>rfl
 cases H:aF.j ⟨c,W,i,o,R⟩ 0
 ·have:(⟨c,W,i,o,R⟩:aF)=.bz o R:=by
   cases i<;>simp only[aF.j]at H
   ·(injection H;done)
   ·rcases Int.lt_or_eq_of_le h with q|q
    ·rw[decide_eq_true q]at H;(injection H;done)
    ·subst q;cases W
     ·(injection H;done)
     ·rfl
  rw[this];rfl
 ·rfl
theorem PS(oe:Bool)(r:List V)(nl:Str):(aF.bz oe r).m nl=.bz false (r++[.e f_,.e nl]):=by show aF.bz false ((r++[.e f_])++[.e nl])=_;rw[dx];rfl
theorem Jm{nl:Str}{oe:Bool}{r:List V}(l:ou (bP r))(p:oe=true\/i_ nl.cps.toList (bP r)):bL nl (.bz oe r):=
 ⟨⟨gt 0,λ_=>l⟩,λ_ q=>by
  rcases l with h|h
  ·(refine dJ q λa c e _=>?_;clear q);have e:bP r=a++[c]:=e;rw[h]at e;cases a<;>(injection e;done)
  ·exact qy h q,p⟩
theorem Jn(w:aF)(nl:Str)(hn:nl.length<=2)(h:0<=w.b):ao (w.c 0 nl).a<=ao w.a+3:=by
 delta aF.c;cases w.j 0
 ·show ao (w.i 0).a<=_;have:w.i 0=w:=by delta aF.i;rw[decide_eq_false (by exact mw.2 (dj 0xa00a11 h))]
  rw[this];exact bi _ _
 ·show ao (w.a++[.e nl])<=_;rw[eH,mX];exact i8 (m9 hn) _
theorem Jo(n:Nat)(e:aw)(hi:e.c=.g)(h:aL e.ae 10)(hn:dh e.a.a.cps.toList)(H:0<=e.ae.b):bd aa (n+3) 665 [aB] (ac e) .g (ac (e.aj (.bz e.ae.e (e.ae.c 0 e.a.a).a))):=by have r:=lX n e 0 (.inl (ai hi rfl)) h hn.a (ai H (by decide));rw[Jl _ _ H]at r;exact r
theorem AW(n:Nat)(e:aw)(hi:e.c=.g){oe:Bool}{r:List V}(h:ao r+100<=4600000)(hn:dh e.a.a.cps.toList)(x:ag)(l l':ah)(fl:bH)(σ':af)(g:av aa (n+4) x ((9,aB)::l) (ac (e.aj (.bz false (r++[.e f_,.e e.a.a])))) fl l' σ'):
  av aa (n+4) (.d (.l (.E (.d 9) 82 (.p (.e "...") (.p (.l true) .j)) .j)) (.d (.l (.E (.d 9) 81 .j .j)) x)) ((9,aB)::l) (ac (e.aj (.bz oe r))) fl l' σ':=by
 have H:ao (r++[.e f_])+10<=4600000:=by rw[eH,mX,show f_.length=3 by decide];exact aO 0x4630c0daa1a3a808804630c0d64b0811 h
 have a:=fz (n+2) (e.aj (.bz oe r)) f_ true false false (show ao r+0<=_ by exact aO 0x4630c0d0a0804630c0d64b0811 h) (by decide);have R:bd aa (n+4) 665 [aB] (ac (e.aj ((aF.bz oe r).d f_ true false false))) .g (ac (e.aj ((aF.bz oe r).m e.a.a))):=Jo (n+1) (e.aj ((aF.bz oe r).d f_ true false false)) hi H hn (Y' (gt 0) (j1 _))
 rw[PS]at R;exact .z (y:=.d (.l (.E (.d 9) 81 .j .j)) x) (lm1:=(9,aB)::l) a (.z (y:=x) (lm1:=(9,aB)::l) R g)
def AX(nl:Str)(w:aF)(ex:Bool):List V:=match ex with
 |true=>(w.c 0 nl).a++[.e f_,.e nl]|false=>(w.c 0 nl).a
def lf(nl:Str)(w:aF)(ex:Bool):aF:=.bz (w.e&& !ex) (AX nl w ex)
theorem PT(n:Nat)(e:aw)(ex:Bool)(H:e.b=(ay.d ex).a)(hi:e.c=.g)(h:aL e.ae 200)(hn:dh e.a.a.cps.toList)(a:0<=e.ae.b):bd aa (n+5) 388 [aB] (ac e) .g (ac {e with ae:=lf e.a.a e.ae ex,t:=bQ.c.a}):=by
 have c:=Jn e.ae e.a.a hn.a a;delta aL at h;refine .e ⟨[9],[],C9,none⟩ (l':=[]) (.d (l1:=[]) (.a (pz (D:=185) (y:=.d ex) (x:=[]) H (by kernel_rfl!) (by kernel_rfl!) (by kernel_rfl!)) ?_) .j);refine .z (y:=C8) (lm1:=aX) (Jo (n+1) e hi (by delta aL;exact aO 0x4630c0daa0804630c0dc8b0811 h) hn a) ?_;have f:∀w,av aa (n+4) C6 aX (ac (e.aj w)) .a [] (ac {e with ae:=w,t:=bQ.c.a}):=λw=>.m (l1:=aX) (.z (y:=C5) (lm1:=aX) (Iw (n+3) (e.aj w)) .b) .j
 have T:aN aa (n+4) C7 aX (ac (e.aj (.bz e.ae.e (e.ae.c 0 e.a.a).a))) ex (ac (e.aj (.bz e.ae.e (e.ae.c 0 e.a.a).a))):=by have:e={e with b:=(ay.d ex).a}:=iD H;rw[this];exact .b
 cases ex
 ·rw[lf,show(e.ae.e&& !false)=e.ae.e from rF _];exact .d (.bq T .j) (f _)
 ·rw[lf,show(e.ae.e&& !true)=false from kK _];exact .d (.a T (AW n e hi (aC 0x4630c0d64b0804630c0dc8b1813a18012 c h) hn .j [] aX .a _ .j)) (f _)
noncomputable def bC:Option (_root_.Fin 3)->V
 |none=> .g|some b=> .D [.q 1,.q (b.val:Int)]
noncomputable def mr:_root_.Fin 3->Str
 |0=>"1.0"|1=>"1.1"|2=>"1.2"
theorem PU(n:Nat)(b:_root_.Fin 3)(σ:af):bd aa (n+1) 594 [aB,bC (au b)] σ (.e (mr b)) σ:=by
 refine .d ⟨[9,18],[],EI,none⟩ (.inl rfl) (l':=[(9,aB),(18,bC (au b)),(149,.q 1),(148,.q (b.val:Int))]) ?_
 match b with
 |0=>exact .fy (p:=(0:Int)<=1/\(1:Int)<10^10/\(0:Int)<=0/\(0:Int)<10^10) (by decide)|1=>exact .fy (p:=(0:Int)<=1/\(1:Int)<10^10/\(0:Int)<=1/\(1:Int)<10^10) (by decide)|2=>exact .fy (p:=(0:Int)<=1/\(1:Int)<10^10/\(0:Int)<=2/\(2:Int)<10^10) (by decide)
abbrev wm(h:Str):ah:=[(9,aB),(84,.e h)]
theorem wn{n:Nat}{lm:ah}{σ:af}{x:Nat}{a:aq}{t:Str}{j:Int}{c:Nat}(h:aH x lm=au (.e t))(H:aR aa n a lm σ (.q j) σ)(b:gT t j=au c)(d: -1000000000<=j/\j<=1000000000):aR aa n (.m (.d x) a) lm σ (.e ⟨#[c]⟩) σ:=sS (eg h) H λk e=>sT d b k e
theorem PV(n:Nat)(h:Str)(σ:af)(e:(h.length !=0)=true)(f:gT h 0=au 33)(g:gT h (-1)=au 33)(i:∀c∈(eX h (au 1) (au (-1))).cps.toList,ol c=true):bd aa (n+1) 601 [aB,.e h] σ (.e h) σ:=by
 refine .d ⟨[9,84],[],EM,none⟩ (.inl rfl) (l':=wm h) ?_;have l:∀C:List Nat,(∀c∈C,ol c=true)->gW aa n 150 EK none (C.map λc=> .e ⟨#[c]⟩) (wm h) σ .a (wm h) σ:=λC=>by
  induction C with
  |nil=>intro _;exact .j trivial
  |cons c r I=>intro b;refine .p trivial ?_ (I λd j=>b d (f9 _ j));have m:=b c (f8 ..);have t:aN aa n EJ [(9,aB),(84,.e h),(150,.e ⟨#[c]⟩)] σ (!ol c) σ:=Aw (eK (kt rfl) (eK (kt rfl) (eK (kt rfl) (vT rfl))));rw[m]at t;exact .m (l1:=[(9,aB),(84,.e h),(150,.e ⟨#[c]⟩)]) (.d (.bq t .j) .j) (.p rfl (.p rfl .j))
 refine .d (.bq (σ1:=σ) (λk H=>aP (a:=k (!(h.length !=0)) σ) (by rw[e];exact H)) .j) ?_;have t:aN aa n EL (wm h) σ (false||false) σ:=eK (gx (wn rfl .b f (by decide)) je λk H=>H) (gx (wn rfl .b g (by decide)) je λk H=>H);refine .d (.bq t .j) ?_;exact .d (.o (v:=.e (eX h (au 1) (au (-1)))) (σ1:=σ) (xs:=(eX h (au 1) (au (-1))).cps.toList.map λc=> .e ⟨#[c]⟩) .b rfl (l _ i)) .b
def wo(c:Nat):Bool:=Ax c (vS "-;/?!:@&=+$,_.~*'()[]" c)
abbrev jX(p:Str)(e:Nat):ah:=[(9,aB),(89,.e p),(151,.o 8),(153,.q (0:Nat)),(152,.q (e:Nat))]
theorem PW(n:Nat)(p:Str)(σ:af)(a:p.length<=1000)(b:∀c∈p.cps.toList,wo c=true):∀(d E:Nat),p.length-E=d->E<=p.length->av aa n (.k vh EP) (jX p E) σ .a (jX p p.length) σ
 |0,E,h,H=>by have:E=p.length:=ea (aC 1052689 H) (bc 0x200a11218012 (d_ _ _) (aJ h));subst this;have t:aN aa n vh (jX p p.length) σ (decide ((p.length:Int)<(p.length:Int))) σ:=.b;rw[decide_eq_false (by exact mw.2 (dj 0))]at t;exact .s t|d+1,E,h,H=>by
  refine ap (jc (x:=p) (e:=E) (by exact bS 0x21a1801a381210812 (cX (aC 1052689 H)) (aJ h.symm))) λc f g=>?_
  have i:=b c (mc g);have t:aN aa n vh (jX p E) σ (decide ((E:Int)<(p.length:Int))) σ:=.b;rw[decide_eq_true (by exact g7.2 (bS 0x21a1801a381210812 (cX (aC 1052689 H)) (aJ h.symm)))]at t;have T:aN aa n EO (jX p E++[(150,.e ⟨#[c]⟩)]) σ (wo c) σ:=eK (kt rfl) (eK (kt rfl) (eK (kt rfl) (vT rfl)));rw[i]at T;refine .q t (.d (l1:=jX p E++[(150,.e ⟨#[c]⟩)]) (σ1:=σ) (oj (wn rfl (eg rfl) f (oh (aC 0xf4240d003e8c111012 H a)))) (.d (l1:=jX p (E+1)) (σ1:=σ) (.a T (.m (l1:=jX p (E+1)++[(150,.e ⟨#[c]⟩)]) .b ?_)) .j)) (PW n p σ a b d (E+1) (ea (fN 0x1421a38481308211a18013 (aJ h) (d_ _ _) (cX (bS 0x21a1801a381210812 (cX (aC 1052689 H)) (aJ h.symm)))) (fN 0x30241811a48382111a0813 (aJ h.symm) (d_ _ _) (cX (aC 1052689 H)))) (bS 0x21a1801a381210812 (cX (aC 1052689 H)) (aJ h.symm)));exact .p rfl (.p rfl (.p rfl (.p rfl (.p rfl .j))))
theorem PX(n:Nat)(p:Str)(e:aw)(a b:aG)(d:bo 8 (ac e++[a,b]))(H:(p.length !=0)=true){c:Nat}(f:gT p 0=au c)(g:((⟨#[c]⟩:Str)=="!")=false)(i:p.length<=1000)(j:∀c∈p.cps.toList,wo c=true)(l:tE ("":Str) [aW p 0 p.length]=true):
  bd aa (n+1) 608 [aB,.e p] (ac e++[a,b]) (.e (gK p)) (ac e++[a,b]):=by
 refine .a (fl:=.f (.e (gK p))) (l':=[]) (σ1:=ac e++[a,b,aG.u [.e (aW p 0 p.length)]]) ⟨[9,89],[],ES,au none⟩ (by kernel_rfl!) rfl (.inl rfl) ?_ (λk h=>aP (a:=(bG 8 (.e (gK p))/\bo 8 (ac e++[a,b]))/\k (.e (gK p)) (ac e++[a,b])) (ai ⟨.e _,d⟩ h));refine .d (.bq (σ1:=ac e++[a,b]) (λk h=>aP (a:=k (!(p.length !=0)) (ac e++[a,b])) (by rw[H];exact h)) .j) ?_;refine .bE (y:=ER) (lm1:=jX p 0) (σ1:=ac e++[a,b,.u []]) ?_;have t:aN aa n EQ (jX p 0) (ac e++[a,b,.u []]) ((⟨#[c]⟩:Str)=="!") (ac e++[a,b,.u []]):=gx (wn rfl .b f (by decide)) je λk h=>h
 rw[g]at t;refine .d (.bq t .j) (.d (PW n p _ i j p.length 0 rfl (hB _)) ?_);have T:aN aa n EN (jX p p.length) (ac e++[a,b,.u []]) (decide (((0:Nat):Int)<(p.length:Int))) (ac e++[a,b,.u []]):=.b;rw[decide_eq_true (by have:=bne_iff_ne.mp H;lia)]at T;have m:(0:Nat)<sizeLine:=by rw[bw];decide
 refine .d (l1:=jX p p.length) (σ1:=ac e++[a,b,aG.u [.e (aW p 0 p.length)]]) (.a T (.fy m)) ?_;exact .m (l1:=jX p p.length) (.fy (p:=tE ("":Str) [aW p 0 p.length]=true) l) .j
theorem tz(X:af)(n:Nat)(e:aw)(s:Str)(h:aL e.ae 0):bd aa (n+1) 761 [.k 771 1,.e s] ((ac e++X)) .g ((ac (e.aj (e.ae.aU s))++X)):=.e ⟨[9,154],[],Ac,none⟩ (l':=[(9,.k 771 1),(154,.e s)]) (.fy h.a)
theorem PY(X:af)(n:Nat)(e:aw)(s:Str)(h:aL e.ae 0)(lm:ah)(H:aH 9 lm=au aB)(a:aH 154 lm=au (.e s)):av aa (n+1) zr lm ((ac e++X)) .a [] ((ac (e.aj (e.ae.g s))++X)):=.p (l:=[(9,aB),(154,.e s)]) (.p H (.p a .j)) (.m (.h [(9,aB),(154,.e s)] (tz X n (e.aj ⟨0,true,true,e.ae.e,e.ae.a⟩) s h)) .j)
theorem Jp(X:af)(n:Nat)(e:aw)(h:aL e.ae 0):bd aa (n+2) 673 [aB,.g] ((ac e++X)) .g ((ac (e.aj (e.ae.g e.a.a))++X)):=.e ⟨[9,154],[.g],vm,none⟩ (.bE (PY X n e e.a.a h [(9,aB),(154,.e e.a.a)] rfl rfl))
theorem PZ(X:af)(n:Nat)(e:aw)(i:Int):aN aa n zp [(9,aB),(32,.q i)] ((ac e++X)) (e.ae.j i) ((ac e++X)):=λk h=>by
 refine aP (a:=Mine.eD (!e.ae.h) (k true ((ac e++X))) (Mine.eD (decide (i<e.ae.b)) (k true ((ac e++X))) (Mine.eD (e.ae.b==i) (k (!e.ae.l) ((ac e++X))) (k false ((ac e++X)))))) ?_;delta aF.j at h;cases H:e.ae.h
 ·rw[H]at h;exact h
 ·rw[H]at h;cases b:decide (i<e.ae.b)
  ·rw[b]at h;cases c:e.ae.b==i
   ·rw[c]at h;exact h
   ·rw[c]at h;exact h
  ·rw[b]at h;exact h
theorem P0(X:af)(n:Nat)(e:aw)(i:Int)(h:aL e.ae 0)(hi:0<=e.ae.b/\i<=1000000):av aa (n+1) zo [(9,aB),(32,.q i)] ((ac e++X)) .a [] ((ac (e.aj (e.ae.i i))++X)):=by
 have a:=bw;refine .d (.C (t:=decide (e.ae.b<i)) (by kernel_rfl!) (λq=>?_) λq=>?_) .j
 ·delta aF.i;rw[q];have q:=of_decide_eq_true q;have H:=H2 q hi.1 hi.2;exact .r (y:=zn) (lm1:=[(9,aB),(32,.q i),(154,.e (rC (" ":Str) (i-e.ae.b)))]) (σ1:=(ac (e.aj ⟨i,true,e.ae.h,e.ae.e,e.ae.a⟩)++X)) H
   (.m (.h [(9,aB),(32,.q i),(154,.e (rC (" ":Str) (i-e.ae.b)))] (tz X n (e.aj ⟨i,true,e.ae.h,e.ae.e,e.ae.a⟩) _ h)) .j) (by kernel_rfl!)
 ·delta aF.i;rw[q];exact .m .j .j
theorem Jq(X:af)(n:Nat)(e:aw)(i:Int)(hi:e.c=.g/\i=0\/e.c=.q i)(h:aL e.ae 10)(hn:e.a.a.length<=2)(H:0<=e.ae.b/\i<=1000000):bd aa (n+3) 665 [aB] ((ac e++X)) .g ((ac (e.aj (e.ae.c i e.a.a))++X)):=by
 refine .e ⟨[9],[],zq,none⟩ (l':=[]) ?_;have a:aL e.ae 0:=by delta aL at h⊢;exact aO 0x4630c0d0a0804630c0daa0811 h
 have m:av aa (n+2) sC [(9,aB),(32,.q i)] ((ac e++X)) .a [] ((ac (e.aj (e.ae.c i e.a.a))++X)):=by
  delta aF.c;refine .d (l1:=[(9,aB),(32,.q i)]) (.B (PZ X _ e i) (λq=>?_) λq=>?_) (P0 X (n+1) (e.aj (match e.ae.j i with
   |true=>e.ae.g e.a.a|false=>e.ae)) i ?_ ?_)
  ·rw[q];exact .h [(9,aB),(32,.q i)] (Jp X n e a)
  ·rw[q];exact .j
  ·cases e.ae.j i
   ·exact a
   ·show ao (e.ae.g e.a.a).a+0<=_;rw[kT];delta aL at h;exact aC 0x4630c0d0a1a180882a1104630c0daa0812 h hn
  ·cases e.ae.j i
   ·exact H
   ·exact(ai (gt 0) H.2)
 refine hi.elim (λh=>?_) λh=>?_
 ·rw[h.2,nZ h.1]at m;rw[h.2,nZ h.1];exact .bE m
 ·rw[nZ h]at m⊢;refine .eD (t:=i !=0) (λ_=>m) (yb:=sC) (lb:=[(9,aB),(32,.q 0)]) (σb:=ac {e with c:=.q i}++X) (λq=>?_);rw[bne_eq_false_iff_eq.1 q]at m⊢;exact m
theorem P4(X:af)(n:Nat)(e:aw)(s:Str)(N w i:Bool)(h:aL e.ae 0)(H:s.length<=1000):bd aa (n+2) 658 [aB,.e s,.l N,.l w,.l i] ((ac e++X)) .g ((ac (e.aj (e.ae.d s N w i))++X)):=by
 have x:=bw;have u:(" ":Str).length+s.length<=sizeLine:=by rw[show(" ":Str).length=1 from rfl];exact aO 0x1000000d01a803e8c011 H
 refine .e ⟨[9,140,176,45,44],[.l false,.l false],zm,none⟩ (l':=[]) ?_;obtain⟨c,⟨C,W,j,o,r⟩,a,F,R,k,m,S,f,g,b,I,E,t,p,P,A,q⟩:=e;have l (d:Str) (v:d=aF.k ⟨C,W,j,o,r⟩ s N):av aa (n+1) zk [(9,aB),(140,.e s),(176,.l N),(45,.l w),(44,.l i),(154,.e d)] ((ac ⟨c,⟨C,W,j,o,r⟩,a,F,R,k,m,S,f,g,b,I,E,t,p,P,A,q⟩++X)) .a []
   ((ac ((aw.mk c ⟨C,W,j,o,r⟩ a F R k m S f g b I E t p P A q).aj (aF.d ⟨C,W,j,o,r⟩ s N w i))++X)):=by
  delta aF.d;rw[←v];cases j
  ·exact .m (.h [(9,aB),(140,.e s),(176,.l N),(45,.l w),(44,.l i),(154,.e d)]
    (tz X n (aw.mk c ⟨C+(d.length:Int),w,false,false,r⟩ a F R k m S f g b I E t p P A q) d h) (by kernel_rfl!)) .j
  ·exact .m (.h [(9,aB),(140,.e s),(176,.l N),(45,.l w),(44,.l i),(154,.e d)]
    (tz X n (aw.mk c ⟨C+(d.length:Int),w,i,false,r⟩ a F R k m S f g b I E t p P A q) d h) (by kernel_rfl!)) .j
 cases W<;>cases N<;>first|exact .bE (l _ rfl) (by kernel_rfl!)|exact .r u (l _ rfl) (by kernel_rfl!)
theorem P5(X:af)(n:Nat)(e:aw)(a b:Str)(h:aL e.ae 200)(H:a.length<=20)(c:b.length<=20):bd aa (n+3) 687 [aB,.e a,.e b] ((ac e++X)) .g ((ac (e.aj ((e.ae.aU ("%"++"TAG "++a++" "++b)).g e.a.a))++X)):=by
 have d:aL e.ae 0:=by delta aL at h⊢;exact aO 0x4630c0d0a0804630c0dc8b0811 h
 have f:aL (e.ae.aU ("%"++"TAG "++a++" "++b)) 0:=by delta aL aF.aU at*;rw[eH,mX,de,de,de,de,show("%":Str).length=1 by decide,show("TAG ":Str).length=4 by decide,show(" ":Str).length=1 by decide];exact bc 0x4630c0d0a1a21a14a1a8888808814b2114b1104630c0dc8b0813 h H c
 have g:a.length<=1000000/\b.length<=1000000:=ai (aO 0xf4240d014b011 H) (aO 0xf4240d014b011 c);refine .e ⟨[9,87,86],[],FP,none⟩ (l':=[]) ?_;refine .r (y:=FO) (lm1:=[(9,aB),(87,.e a),(86,.e b),(154,.e ("%"++"TAG "++a++" "++b))]) (σ1:=(ac e++X)) g ?_;refine .z (y:=FN) (lm1:=[(9,aB),(87,.e a),(86,.e b),(154,.e ("%"++"TAG "++a++" "++b))]) (tz X (n+1) e ("%"++"TAG "++a++" "++b) d) ?_;exact .m (.h [(9,aB),(87,.e a),(86,.e b),(154,.e ("%"++"TAG "++a++" "++b))] (Jp X n (e.aj (e.ae.aU ("%"++"TAG "++a++" "++b))) f)) .j
noncomputable def bT:Option Bool->V
 |none=> .g|some false=> .c [("!e!",.e "t:")]|some true=> .c [("!!",.e "t:"),("!",.e "tag:")]
noncomputable def iF:List (Str×V):=[("!",.e "!"),("tag:yaml.org,2002:",.e "!!")]
def gN:Option Bool->List (Str×V)
 |none=>iF|some false=>gb "t:" (.e "!e!") iF|some true=>gb "t:" (.e "!!") (gb "tag:" (.e "!") iF)
theorem jj{m:Nat}:∀o,bG m (bb o)
 |none=> .g|some s=> .e s
theorem cA.f{m:Nat}:∀x:cA,bG m x.a
 | .h A=> .p (.p (.e A) (.p .g (.p .g .j)))| .b A t I k v s=> .p (.p (jj A) (.p (jj t) (.p (.D (.p (.l I) (.p (.l k) .j))) (.p (.e v) (.p .g (.p .g (.p (jj s) .j)))))))| .c A t l F=> .p (.p (jj A) (.p (jj t) (.p (.l l) (.p .g (.p .g (.p (.l F) .j))))))| .d A t l F=> .p (.p (jj A) (.p (jj t) (.p (.l l) (.p .g (.p .g (.p (.l F) .j))))))
theorem Jr{m:Nat}:∀v,bG m (bC v)
 |none=> .g|some b=> .D (.p (.q _) (.p (.q _) .j))
theorem Js{m:Nat}:∀v,bG m (bT v)
 |none=> .g|some false=> .c (.p (.e _) .j)|some true=> .c (.p (.e _) (.p (.e _) .j))
def ay.h:ay->Prop
 | .c _ v t=>(∃A,v=bC A)/\∃B,t=bT B|_=>True
theorem ay.f{m:Nat}{x:ay}(h:x.h):bG m x.a:=by
 cases x with
 |b y=>exact y.f|c E v t=>obtain⟨⟨A,rfl⟩,B,rfl⟩:=h;exact .p (.p .g (.p .g (.p (.l E) (.p (Jr A) (.p (Js B) .j)))))
 |d E=>exact .p (.p .g (.p .g (.p (.l E) .j)))|i=>exact .p (.p .g (.p .g (.p .g .j)))|_=>exact .p (.p .g (.p .g .j))
theorem mt{m:Nat}:∀{q:List ay},(∀x∈q,x.h)->ck m (q.map ay.a)
 |[],_=> .j|x::r,h=> .p (ay.f (h x (f8 ..))) (mt λy H=>h y (f9 _ H))
structure oA(e:aw)(s:bQ)(q:List ay):Prop where
 t:e.t=s.a
 p:e.p=[]
 h:e.h=[]
 c:e.c=.g
 k:e.k=0
 o:e.o=.g
 n:e.n=.g
 l:e.l=.g
 bg:e.bg=.g
 g:e.g=q.map ay.a
 i:∀x∈q,x.h
 r:∀m,bG m e.f/\bG m e.d/\bG m e.q/\bG m e.v
 a:dh e.a.a.cps.toList
 j:2<=e.a.j/\e.a.j<=9
theorem oA.f{e:aw}{s:bQ}{q:List ay}(h:oA e s q){m:Nat}(y:6<=m){ev:V}(u:bG m ev){tp:V}(v:bG m tp){w:aF}(z:ao w.a<=4600000):bo m (ac {e with b:=ev,bJ:=tp,ae:=w}):=by
 have H:∀J,J<6->J<m:=λJ x=>no x y
 have A:bG m e.t:=by rw[h.t];exact .E (H 0 (by decide))
 have x:bG m e.c:=by rw[h.c];exact .g
 have B:bG m e.o:=by rw[h.o];exact .g
 have C:bG m e.n:=by rw[h.n];exact .g
 have D:bG m e.l:=by rw[h.l];exact .g
 have E:bG m e.bg:=by rw[h.bg];exact .g
 have F:ck m e.p:=by rw[h.p];exact .j
 have G:ck m e.h:=by rw[h.h];exact .j
 have I:ck m e.g:=by rw[h.g];exact mt h.i
 have d:=h.r m;exact .p (.a (.p (.k (H 1 (by decide))) (.p .g (.p (.o (H 3 (by decide))) (.p A (.p (.o (H 5 (by decide))) (.p u (.p (.o (H 4 (by decide))) (.p x (.p (.q _) (.p d.1 (.p d.2.1 (.p d.2.2.1 (.p d.2.2.2 (.p .x (.p (.q _) (.p (.l _) (.p (.l _) (.p (.l _)
  (.p (.l _) (.p (.l _) (.p (.q _) (.p (.q _) (.p (.e _) (.p v (.p B (.p C (.p D (.p E .j)))))))))))))))))))))))))))))
  (.p (.a (.p (.o (H 2 (by decide))) .j)) (.p (.d (gA z)) (.p (.u F) (.p (.u G) (.p (.u I) .j)))))
def aw.e(e:aw)(ex:Bool)(v t tp:V)(w:aF):aw:={e with b:=(ay.c ex v t).a,bJ:=tp,ae:=w}
abbrev ej(f:Bool):ah:=[(9,aB),(78,.l f)]
noncomputable def iV(h p:Str):Str:="%"++"TAG "++h++" "++p
structure wq(h p:Str):Prop where
 b:(h.length !=0)=true
 d:gT h 0=au 33
 e:gT h (-1)=au 33
 f:∀c∈(eX h (au 1) (au (-1))).cps.toList,ol c=true
 wr:(p.length !=0)=true
 wu:∃c,gT p 0=au c/\((⟨#[c]⟩:Str)=="!")=false
 a:p.length<=20/\h.length<=20
 g:∀c∈p.cps.toList,wo c=true
 i:tE ("":Str) [aW p 0 p.length]=true
 j:gK p=p
theorem AY(n:Nat)(e:aw)(ex f:Bool)(v:V)(ts:List (Str×V))(h p:Str)(D:List (Str×V))(xs:List V){oe:Bool}{r:List V}(o:wq h p)(g:eS h ts=au (.e p))(j:D.length<=800)(m:ao r+300<=4600000)
  (l:bo 8 (ac (e.e ex v (.c ts) (.o 6) (.bz oe r))++[aG.F (gb p (.e h) D),.u xs])):
  av aa (n+4) CW (ej f++[(85,.o 7),(84,.e h)]) (ac (e.e ex v (.c ts) (.o 6) (.bz oe r))++[aG.F D,.u xs]) .a (ej f++[(85,.o 7)])
   (ac (e.e ex v (.c ts) (.o 6) (.bz oe (r++[.e (iV h p),.e e.a.a])))++[aG.F (gb p (.e h) D),.u xs]):=by
 refine ap o.wu λc H b=>?_
 have q:=PV (n+3) h (ac (e.e ex v (.c ts) (.o 6) (.bz oe r))++[aG.F (gb p (.e h) D),.u xs]) o.b o.d o.e o.f;have A:=PX (n+3) p (e.e ex v (.c ts) (.o 6) (.bz oe r)) (aG.F (gb p (.e h) D)) (.u xs) l o.wr H b (by have:=o.a;exact aO 0x3e8c014b011 this.1) o.g o.i;rw[o.j]at A;have d:bd aa (n+4) 687 [aB,.e h,.e p] (ac (e.e ex v (.c ts) (.o 6) (.bz oe r))++[aG.F (gb p (.e h) D),.u xs]) .g (ac (e.e ex v (.c ts) (.o 6) (.bz oe ((r++[.e (iV h p)])++[.e e.a.a])))++[aG.F (gb p (.e h) D),.u xs]):=P5 [aG.F (gb p (.e h) D),.u xs] (n+1) (e.e ex v (.c ts) (.o 6) (.bz oe r)) h p (show ao r+200<=_ by exact aO 0x4630c0dc8b0804630c0d012cc0811 m) o.a.2 o.a.1
 rw[dx]at d;have s:av aa (n+4) CV (ej f++[(85,.o 7),(84,.e h),(89,.e p)]) (ac (e.e ex v (.c ts) (.o 6) (.bz oe r))++[aG.F D,.u xs]) .a (ej f++[(85,.o 7)])
   (ac (e.e ex v (.c ts) (.o 6) (.bz oe (r++[.e (iV h p),.e e.a.a])))++[aG.F (gb p (.e h) D),.u xs]):=by
  refine .r j (y:=CU) (lm1:=ej f++[(85,.o 7),(84,.e h),(89,.e p)]) (σ1:=ac (e.e ex v (.c ts) (.o 6) (.bz oe r))++[aG.F (gb p (.e h) D),.u xs]) ?_;refine .w (i:=87) (y:=CT) (lm1:=ej f++[(85,.o 7),(84,.e h),(89,.e p)]) q ?_;refine .w (i:=86) (y:=CS) (lm1:=ej f++[(85,.o 7),(84,.e h),(89,.e p),(87,.e h)]) A ?_;exact .m (.h (ej f++[(85,.o 7),(84,.e h),(89,.e p),(87,.e h),(86,.e p)]) d) (.p rfl (.p rfl (.p rfl .j)))
 refine av.a (i:=89) (v:=.e p) (σ1:=ac (e.e ex v (.c ts) (.o 6) (.bz oe r))++[aG.F D,.u xs]) (λk t=>?_) s;exact aP (a:=(qK (eS h ts)).bD (ac (e.e ex v (.c ts) (.o 6) (.bz oe r))++[aG.F D,.u xs]) k) (by rw[g];exact t)
theorem P6:wq "!e!" "t:":=⟨by decide+kernel,by decide+kernel,by decide+kernel,by decide+kernel,by decide+kernel,(aE 116 (by decide+kernel) (by decide+kernel)),by decide+kernel,by decide+kernel,by decide+kernel,by kernel_rfl!⟩
theorem P7:wq "!" "tag:":=⟨by decide+kernel,by decide+kernel,by decide+kernel,by decide+kernel,by decide+kernel,(aE 116 (by decide+kernel) (by decide+kernel)),by decide+kernel,by decide+kernel,by decide+kernel,by kernel_rfl!⟩
theorem P8:wq "!!" "t:":=⟨by decide+kernel,by decide+kernel,by decide+kernel,by decide+kernel,by decide+kernel,(aE 116 (by decide+kernel) (by decide+kernel)),by decide+kernel,by decide+kernel,by decide+kernel,by kernel_rfl!⟩
def AZ(nl:Str):Option Bool->List V
 |none=>[]|some false=>[.e (iV "!e!" "t:"),.e nl]|some true=>[.e (iV "!" "tag:"),.e nl,.e (iV "!!" "t:"),.e nl]
noncomputable def Jt:List (Str×V)->Bool
 |[]=>true|(_,.e _)::r=>Jt r|_=>false
theorem A0{m:Nat}:∀ts:List (Str×V),Jt ts=true->lg m ts
 |[],_=> .j|(k,x)::r,h=>by cases x<;>first|exact .p (.e _) (A0 r h)|(injection h;done)
theorem A2{n:Nat}{e:aw}{ex:Bool}{v:Option (_root_.Fin 3)}{t tp:V}{w:aF}{l:ah}{X:af}:aN aa n (.w (.w (.d 9) 54) 18) ((9,aB)::l) (ac (e.e ex (bC v) t tp w)++X) v.isSome (ac (e.e ex (bC v) t tp w)++X):=λk h=>by
 cases v with
 |none=>exact aP h|some b=>exact aP (a:=[V.q 1,V.q (b.val:Int)].length<=sizeLine/\k true (ac (e.e ex (bC (au b)) t tp w)++X)) (ai (by rw[bw];exact(by decide:(2:Nat)<=16777216)) h)
theorem tA{n:Nat}{e:aw}{ex:Bool}{g:Option Bool}{v tp:V}{w:aF}{l:ah}{X:af}:aN aa n (.w (.w (.d 9) 54) 19) ((9,aB)::l) (ac (e.e ex v (bT g) tp w)++X) g.isSome (ac (e.e ex v (bT g) tp w)++X):=λk h=>by
 match g with
 |none=>exact aP h|some false=>exact aP (a:=[(("!e!":Str),V.e "t:")].length<=900/\k true (ac (e.e ex v (bT (au false)) tp w)++X)) (ai (by decide) h)|some true=>exact aP (a:=[(("!!":Str),V.e "t:"),("!",.e "tag:")].length<=900/\k true (ac (e.e ex v (bT (au true)) tp w)++X)) (ai (by decide) h)
theorem Ju{m:Nat}:∀ts:List Str,ck m (ts.map V.e)
 |[]=> .j|a::r=> .p (.e a) (Ju r)
theorem jA{m:Nat}:∀{a b:af},bo m a->bo m b->bo m (a++b)
 |[],_,_,h=>h|_::_,_,h,g=>(ai h.1 (jA h.2 g))
theorem P9(n:Nat)(e:aw){s:bQ}{q:List ay}(P:oA e s q)(ex f:Bool)(v:Option (_root_.Fin 3))(T:Option Bool){oe:Bool}{r:List V}(h:ao r+400<=4600000):
  ∃Y,av aa (n+4) (.d (.B CR CX .j) .j) (ej f) (ac (e.e ex (bC v) (bT T) (.o 6) (.bz oe r))++[aG.F iF]) .a (ej f) (ac (e.e ex (bC v) (bT T) (.o 6) (.bz oe (r++AZ e.a.a T)))++(aG.F (gN T)::Y)):=by
 have l:∀(r:List V),ao r<=4600000->∀(t:Option Bool) (D:List (Str×V)),Jt D=true->∀xs:List Str,bo 8 (ac (e.e ex (bC v) (bT t) (.o 6) (.bz oe r))++[aG.F D,.u (xs.map V.e)]):=λr h t D d xs=>jA (P.f (by decide) (ay.f (x:=.c ex (bC v) (bT t)) (qY ⟨_,rfl⟩ _ rfl)) (.o (by decide)) h) (.p (.F (A0 D d)) (.p (.u (Ju xs)) .j))
 match T with
 |none=>exact(ba [] (by show av aa (n+4) _ _ _ _ _ (ac (e.e ex (bC v) (bT none) (.o 6) (.bz oe (r++[])))++[aG.F iF]);rw[dE];exact .d (.bq tA .j) .j))|some false=>refine(ba [aG.u [.e "!e!"]] (.d (l1:=ej f) (.a tA ?_) .j));have a:=AY n e ex f (bC v) [("!e!",.e "t:")] "!e!" "t:" iF [.e "!e!"] (oe:=oe) (r:=r) P6 (by kernel_rfl!) (by decide) (aO 0x4630c0d012cc0804630c0d0190c0811 h) (l r (aO 0x4630c0d004630c0d0190c0811 h) (au false) (gb "t:" (.e "!e!") iF) (by decide+kernel) ["!e!"]);refine .r (p:=[(("!e!":Str),V.e "t:")].length<64/\∀p∈[(("!e!":Str),V.e "t:")],p.1.length<=sizeLine) (ai (by decide) (λp H=>by rw[ce.mp H,bw];decide)) (y:=yo) (lm1:=ej f++[(85,.o 7)]) (σ1:=ac (e.e ex (bC v) (bT (au false)) (.o 6) (.bz oe r))++[aG.F iF,aG.u [.e "!e!"]]) ?_;exact .d (.o (v:=.o 7) (σ1:=ac (e.e ex (bC v) (bT (au false)) (.o 6) (.bz oe r))++[aG.F iF,aG.u [.e "!e!"]]) (xs:=[.e "!e!"]) .b rfl (.p rfl a (.j rfl))) (.m .j (.p rfl (.p rfl .j)))|some true=>
  refine(ba [aG.u [.e "!",.e "!!"]] (.d (l1:=ej f) (.a tA ?_) .j));have a:=AY n e ex f (bC v) [("!!",.e "t:"),("!",.e "tag:")] "!" "tag:" iF [.e "!",.e "!!"] (oe:=oe) (r:=r) P7 (by kernel_rfl!) (by decide) (aO 0x4630c0d012cc0804630c0d0190c0811 h) (l r (aO 0x4630c0d004630c0d0190c0811 h) (au true) (gb "tag:" (.e "!") iF) (by decide+kernel) ["!","!!"]);have b:∀j,ao r+j+30<=4600000->ao (r++[.e (iV "!" "tag:"),.e e.a.a])+j<=4600000:=λj g=>by rw[eH];show ao r+((iV "!" "tag:").length+1+(e.a.a.length+1+0))+j<=_;rw[show(iV "!" "tag:").length=11 by decide+kernel];have:=P.a.a;exact bc 0x4630c0d10a1a2881aba880882a2104630c0d1eb108812 g this
  have c:=AY n e ex f (bC v) [("!!",.e "t:"),("!",.e "tag:")] "!!" "t:" (gb "tag:" (.e "!") iF) [.e "!",.e "!!"] (oe:=oe) (r:=r++[V.e (iV "!" "tag:"),V.e e.a.a]) P8 (by kernel_rfl!) (by decide) (b 300 (aO 0x4630c0d1eb012cc08804630c0d0190c0811 h)) (l _ (b 0 (aO 0x4630c0d1eb0a08804630c0d0190c0811 h)) (au true) (gb "t:" (.e "!!") (gb "tag:" (.e "!") iF)) (by decide+kernel) ["!","!!"]);rw[dx]at c;have i:ku ["!!","!"]=(["!","!!"]:List Str):=(Ay (N8.mp (by decide+kernel)) (by decide+kernel)).symm;refine .r (p:=[(("!!":Str),V.e "t:"),("!",.e "tag:")].length<64/\∀p∈[(("!!":Str),V.e "t:"),("!",.e "tag:")],p.1.length<=sizeLine) (ai (by decide) (λp H=>by
   rw[bw];rcases bv H with rfl|H
   ·decide
   ·rw[ce.mp H];decide)) (y:=yo) (lm1:=ej f++[(85,.o 7)]) (σ1:=ac (e.e ex (bC v) (bT (au true)) (.o 6) (.bz oe r))++[aG.F iF,aG.u ((ku ["!!","!"]).map V.e)]) ?_
  rw[i];exact .d (.o (v:=.o 7) (σ1:=ac (e.e ex (bC v) (bT (au true)) (.o 6) (.bz oe r))++[aG.F iF,aG.u [.e "!",.e "!!"]]) (xs:=[.e "!",.e "!!"]) .b rfl (.p rfl a (.p rfl c (.j rfl)))) (.m .j (.p rfl (.p rfl .j)))
noncomputable def Jv:ay->Bool
 | .b (.b a t _ _ v _)=>a.isNone&&(t.isNone&&v=="")|_=>false
theorem P_(X:af)(n:Nat)(e:aw)(ex:Bool)(v t tp:V)(w:aF){y:ay}{r:List ay}(h:e.g=(y::r).map ay.a):bd aa (n+1) 552 [aB] (ac (e.e ex v t tp w)++X) (.l (Jv y)) (ac (e.e ex v t tp w)++X):=by
 have E:e.e ex v t tp w={e.e ex v t tp w with g:=y.a::r.map ay.a}:=by delta aw.e;rw[show y.a::r.map ay.a=e.g from h.symm]
 have R:aR aa n (.m (.w (.d 9) 55) (.q 0)) aX (ac (e.e ex v t tp w)++X) y.a (ac (e.e ex v t tp w)++X):=λk H=>aP (a:=∃z,(0:Int)<=0/\e.g[(0:Int).toNat]? =au z/\k z (ac (e.e ex v t tp w)++X)) (bx y.a (by decide) (by rw[h];rfl) H)
 refine .d ⟨[9],[],Ek,none⟩ (.inl rfl) (l':=[]) (.d (l1:=aX) (σ1:=ac (e.e ex v t tp w)++X) (y:=Ej) ?_ (av.a R (.m (l1:=[(9,aB),(54,y.a)]) ?_ .j)))
 ·rw[E];exact .e .j
 ·have c:[V.l true,V.l true].length<=sizeLine:=by rw[bw];decide
  cases y with
  |b z=>
   cases z with
   |b a T i I d s=>
    cases a with
    |some a=>exact .b|none=>
     cases T with
     |some t=>exact .b|none=>exact .fy (p:=[V.l i,V.l I].length<=sizeLine) c
   |_=>exact .b
  |_=>exact .b
theorem tB{n:Nat}{lm:ah}{σ:af}{a b:aq}{t u:Bool}(H:aR aa n a lm σ (.l t) σ)(c:aR aa n b lm σ (.l u) σ):aR aa n (.C a b) lm σ (.l (t&&u)) σ:=qP H (λh=>by rw[h];rfl) λh=>by rw[h];exact c
theorem wv{n:Nat}{lm:ah}{σ:af}{a:aq}{f:Nat}{t:Bool}(h:aN aa n (.w a f) lm σ t σ):aR aa n (.n (.w a f)) lm σ (.l (!t)) σ:=λk H=>h (λb s=>k (.l (!b)) s) H
theorem Qa{n:Nat}{lm:ah}{σ:af}{a b c:aq}{f:Nat}{t:Bool}(h:aN aa n (.E a f b c) lm σ t σ):aR aa n (.n (.E a f b c)) lm σ (.l (!t)) σ:=λk H=>h (λb s=>k (.l (!b)) s) H
def pD(f ex c:Bool)(v:Option (_root_.Fin 3))(g:Option Bool)(y:ay):Bool:=f&&(!ex&&(!c&&(!v.isSome&&(!g.isSome&& !Jv y))))
theorem Qb(X:af)(n:Nat)(e:aw)(ex f:Bool)(v:Option (_root_.Fin 3))(g:Option Bool)(tp:V)(w:aF){y:ay}{r:List ay}(h:e.g=(y::r).map ay.a):
  aR aa (n+1) (.C (.d 78) (.C (.n (.w (.w (.d 9) 54) 17)) (.C (.n (.w (.d 9) 31)) (.C (.n (.w (.w (.d 9) 54) 18)) (.C (.n (.w (.w (.d 9) 54) 19)) (.n (.E (.d 9) 83 .j .j))))))) (ej f) (ac (e.e ex (bC v) (bT g) tp w)++X) (.l (pD f ex e.a.b v g y)) (ac (e.e ex (bC v) (bT g) tp w)++X):=by
 have H:=P_ X n e ex (bC v) (bT g) tp w h;exact tB .b (tB (wv .b) (tB (wv .b) (tB (wv A2) (tB (wv tA) (Qa (.z H (by kernel_rfl!)))))))
noncomputable def dD(v:Option (_root_.Fin 3))(g:Option Bool)(oe:Bool):Bool:=(v.isSome||g.isSome)&&oe
def bI(nl:Str)(b:Bool):List V:=match b with
 |true=>[.e f_,.e nl]|false=>[]
def qZ(nl:Str):Option (_root_.Fin 3)->List V
 |none=>[]|some b=>[.e ("%"++"YAML "++mr b),.e nl]
theorem Qc(n:Nat)(e:aw){s:bQ}{q:List ay}(P:oA e s q)(ex f:Bool)(v:Option (_root_.Fin 3))(g:Option Bool)(tp:V){oe:Bool}{r:List V}(H:ao r+400<=4600000):
  av aa (n+4) (.d (.B yq C2 .j) .j) (ej f) (ac (e.e ex (bC v) (bT g) tp (.bz oe r))) .a (ej f) (ac (e.e ex (bC v) (bT g) tp (.bz (oe&& !dD v g oe) (r++bI e.a.a (dD v g oe))))):=by
 have t:aN aa (n+4) yq (ej f) (ac (e.e ex (bC v) (bT g) tp (.bz oe r))) (dD v g oe) (ac (e.e ex (bC v) (bT g) tp (.bz oe r))):=gy (eK (A2 (X:=[])) (tA (X:=[]))) .b;cases h:dD v g oe
 ·rw[h]at t;rw[show(oe&& !false)=oe from rF _,show r++bI e.a.a false=r from dE r];exact .d (.bq t .j) .j
 ·rw[h]at t;rw[show(oe&& !true)=false from kK _];exact .d (.a t (AW n (e.e ex (bC v) (bT g) tp (.bz oe r)) P.c (aO 0x4630c0d64b0804630c0d0190c0811 H) P.a .j [(78,.l f)] (ej f) .a _ .j)) .j
theorem Qd(n:Nat)(e:aw)(ex f:Bool)(v:Option (_root_.Fin 3))(t tp:V){oe:Bool}{r:List V}(h:ao r+400<=4600000)(a:∃g,t=bT g):
  av aa (n+4) (.d (.B yp C1 .j) .j) (ej f) (ac (e.e ex (bC v) t tp (.bz oe r))) .a (ej f) (ac (e.e ex (bC v) t tp (.bz oe (r++qZ e.a.a v)))):=by
 have T:aN aa (n+4) yp (ej f) (ac (e.e ex (bC v) t tp (.bz oe r))) v.isSome (ac (e.e ex (bC v) t tp (.bz oe r))):=A2 (X:=[]);cases v with
 |none=>rw[show r++qZ e.a.a none=r from dE r];exact .d (.bq T .j) .j|some b=>have H:(mr b).length<=10:=(show∀b,(mr b).length<=10 by decide) b;have R:bd aa (n+4) 680 [aB,.e (mr b)] (ac (e.e ex (bC (au b)) t tp (.bz oe r))) .g (ac (e.e ex (bC (au b)) t tp (.bz oe ((r++[.e ("%"++"YAML "++mr b)])++[.e e.a.a])))):=NY (n+1) (e.e ex (bC (au b)) t tp (.bz oe r)) (mr b) (show ao r+100<=_ by exact aO 0x4630c0d64b0804630c0d0190c0811 h) H;rw[dx]at R;exact .d (.a T (.m (l1:=ej f++[(94,.e (mr b))]) (.w (i:=94) (y:=CZ) (lm1:=ej f) (PU (n+3) b (ac (e.e ex (bC (au b)) t tp (.bz oe r)))) (.h _ R)) (.p rfl (.p rfl .j)))) .j
noncomputable def ek:Str:="---"
def mu(c:cN)(oe:Bool)(r:List V):Bool->aF
 |true=> .bz oe r|false=>match c.b with
  |true=> .bz false (r++[.e ek,.e c.a])|false=>(aF.bz oe r).d ek true false false
theorem Qe(oe:Bool)(r:List V)(nl:Str):((aF.bz oe r).d ek true false false).c 0 nl=.bz false (r++[.e ek,.e nl]):=by show aF.bz false ((r++[.e ek])++[.e nl])=_;rw[dx];rfl
abbrev pE(f b:Bool):ah:=[(9,aB),(78,.l f),(14,.l b)]
theorem Qf(X:af)(n:Nat)(e:aw)(hi:e.c=.g)(hn:dh e.a.a.cps.toList)(f b:Bool){oe:Bool}{r:List V}(h:ao r+100<=4600000):
  av aa (n+4) (.d (.B yn CQ .j) .j) (pE f b) (ac (e.aj (.bz oe r))++X) .a (ej f) (ac (e.aj (mu e.a oe r b))++X):=by
 have T:aN aa (n+4) yn (pE f b) (ac (e.aj (.bz oe r))++X) (!b) (ac (e.aj (.bz oe r))++X):=.b;cases b
 case true=>exact .m (.d (.bq T .j) .j) (.p rfl (.p rfl .j))
 have a:ao (r++[.e ek])+10<=4600000:=by rw[eH,mX,show ek.length=3 by decide];exact aO 0x4630c0daa1a3a808804630c0d64b0811 h
 have c:bd aa (n+4) 665 [aB] (ac (e.aj (.bz oe r))++X) .g (ac (e.aj (.bz oe r))++X):=Jq X (n+1) (e.aj (.bz oe r)) 0 (.inl (ai hi rfl)) (show ao r+10<=_ by exact aO 0x4630c0daa0804630c0d64b0811 h) hn.a (ai (gt 0) (by decide));have d:bd aa (n+4) 658 [aB,.e ek,.l true,.l false,.l false] (ac (e.aj (.bz oe r))++X) .g (ac (e.aj ((aF.bz oe r).d ek true false false))++X):=P4 X (n+2) (e.aj (.bz oe r)) ek true false false (show ao r+0<=_ by exact aO 0x4630c0d0a0804630c0d64b0811 h) (by decide);refine .m (l1:=pE f false) (.d (l1:=pE f false) (.a T (.z (y:=CP) (lm1:=pE f false) c (.z (y:=CO) (lm1:=pE f false) d ?_))) .j) (.p rfl (.p rfl .j));have t:aN aa (n+4) CN (pE f false) (ac (e.aj ((aF.bz oe r).d ek true false false))++X) e.a.b (ac (e.aj ((aF.bz oe r).d ek true false false))++X):=.b;delta mu;cases H:e.a.b
 ·rw[H]at t;exact .d (.bq t .j) .j
 ·rw[H]at t;have R:bd aa (n+4) 665 [aB] (ac (e.aj ((aF.bz oe r).d ek true false false))++X) .g (ac (e.aj (((aF.bz oe r).d ek true false false).c 0 e.a.a))++X):=Jq X (n+1) (e.aj ((aF.bz oe r).d ek true false false)) 0 (.inl (ai hi rfl)) a hn.a (ai (Y' (gt 0) (j1 _)) (by decide));rw[Qe]at R;exact .d (.a t (.h _ R)) .j
def gB(nl:Str)(v:Option (_root_.Fin 3))(g:Option Bool)(oe:Bool)(r:List V):List V:=((r++bI nl (dD v g oe))++qZ nl v)++AZ nl g
def iG(c:cN)(f ex:Bool)(v:Option (_root_.Fin 3))(g:Option Bool)(y:ay)(oe:Bool)(r:List V):aF:=mu c (oe&& !dD v g oe) (gB c.a v g oe r) (pD f ex c.b v g y)
theorem nt{nl:Str}(hn:nl.length<=2)(b:Bool):ao (bI nl b)<=10:=by
 cases b
 ·exact hB _
 ·show f_.length+1+(nl.length+1+0)<=10;rw[show f_.length=3 by decide];exact aO 0xaa0a1a0881a3a882a011 hn
theorem Jw{nl:Str}(hn:nl.length<=2)(v:Option (_root_.Fin 3)):ao (qZ nl v)<=20:=by
 cases v with
 |none=>exact hB _|some b=>show("%"++"YAML "++mr b).length+1+(nl.length+1+0)<=20;have:("%"++"YAML "++mr b).length=9:=(by decide+kernel:∀b,("%"++"YAML "++mr b).length=9) b;rw[this];exact aO 0x14b0a1a0881a9a882a011 hn
theorem Qg{nl:Str}(hn:nl.length<=2)(g:Option Bool):ao (AZ nl g)<=40:=by
 match g with
 |none=>exact hB _|some false=>show(iV "!e!" "t:").length+1+(nl.length+1+0)<=40;rw[show(iV "!e!" "t:").length=11 by decide+kernel];exact aO 0x28b0a1a0881aba882a011 hn|some true=>show(iV "!" "tag:").length+1+(nl.length+1+((iV "!!" "t:").length+1+(nl.length+1+0)))<=40;rw[show(iV "!" "tag:").length=11 by decide+kernel,show(iV "!!" "t:").length=10 by decide+kernel];exact aO 0x28b0a1a0881aaa881a0881aba882a021 hn
theorem Jx{nl:Str}(hn:nl.length<=2)(v:Option (_root_.Fin 3))(g:Option Bool)(oe:Bool)(r:List V):ao (gB nl v g oe r)<=ao r+70:=by delta gB;rw[eH,eH,eH];have h:=nt hn (dD v g oe);have H:=Jw hn v;have a:=Qg hn g;exact bS 0x46b38210388828b2114b11aa013 h H a
theorem Jy(n:Nat)(e:aw){s:bQ}{y:ay}{q:List ay}(P:oA e s (y::q))(f ex:Bool)(v:Option (_root_.Fin 3))(g:Option Bool)(b:e.b=(ay.c ex (bC v) (bT g)).a){oe:Bool}{r:List V}(p:e.ae=.bz oe r)(H:ao r+1000<=4600000):
  bd aa (n+5) 381 [aB,.l f] (ac e) .g (ac {e with ae:=iG e.a f ex v g y oe r,bJ:=.c (gN g),t:=bQ.f.a}):=by
 have d:=P.a.a;have E:e=e.e ex (bC v) (bT g) e.bJ (.bz oe r):=by delta aw.e;rw[←b,←p]
 have j:=nt d (dD v g oe);have u:=Jw d v;have W:=Jx d v g oe r;have A:=Qc n e P ex f v g e.bJ (oe:=oe) (r:=r) (aO 0x4630c0d0190c0804630c0d03e8c0811 H);have z:=Qd n e ex f v (bT g) e.bJ (oe:=oe&& !dD v g oe) (r:=r++bI e.a.a (dD v g oe)) (by rw[eH];exact aC 0x4630c0d0190c1088aa1104630c0d03e8c0812 H j) (ba _ rfl);(refine bf (P9 n e P ex f v g (oe:=oe&& !dD v g oe) (r:=(r++bI e.a.a (dD v g oe))++qZ e.a.a v) (by rw[eH,eH];exact bc 0x4630c0d0190c21088814b21aa1104630c0d03e8c0813 H j u)) λY B=>?_);have C:=Qb (aG.F (gN g)::Y) (n+3) e ex f v g (.o 6) (.bz (oe&& !dD v g oe) (gB e.a.a v g oe r)) P.g;have D:=Qf (aG.F (gN g)::Y) n (e.e ex (bC v) (bT g) (.o 6) (.bz (oe&& !dD v g oe) (gB e.a.a v g oe r))) P.c P.a f (pD f ex e.a.b v g y) (oe:=oe&& !dD v g oe) (r:=gB e.a.a v g oe r) (aC 0x4630c0d64b0804630c0d03e8c18146b18012 W H);have i:ao (iG e.a f ex v g y oe r).a<=4600000:=by
  delta iG mu;have o:ek.length=3:=by decide
  cases pD f ex e.a.b v g y
  ·cases e.a.b
   ·show ao (gB e.a.a v g oe r++[.e ek])<=_;rw[eH,mX];exact bc 0x4630c0d1a280804630c0d03e8c1813a2146b18013 W (aJ o) H
   ·show ao (gB e.a.a v g oe r++[.e ek,.e e.a.a])<=_;rw[eH];show _+(ek.length+1+(e.a.a.length+1+0))<=_;exact bS 0x4630c0d0a1a0881a3881804630c0d03e8c2813a3146b28112a014 d W (aJ o) H
  ·show ao (gB e.a.a v g oe r)<=_;exact aC 0x4630c0d004630c0d03e8c18146b18012 W H
 have l:bo 6 (ac {e with ae:=iG e.a f ex v g y oe r,bJ:=.c (gN g),t:=bQ.f.a}):=by have F:oA {e with t:=bQ.f.a} .f (y::q):=⟨rfl,P.p,P.h,P.c,P.k,P.o,P.n,P.l,P.bg,P.g,P.i,P.r,P.a,P.j⟩;have h:=F.f (m:=6) (ds _) (ay.f (x:=.c ex (bC v) (bT g)) (qY ⟨_,rfl⟩ _ rfl)) (tp:=.c (gN g)) (.c (A0 _ ((by intro g;rcases g with _|_|_<;>kernel_rfl!:∀g,Jt (gN g)=true) g))) (w:=iG e.a f ex v g y oe r) i;rw[←b]at h;exact h
 rw[E]at l⊢;refine .a (fl:=.a) (l':=[]) (σ1:=ac {e.e ex (bC v) (bT g) (.o 6) (iG e.a f ex v g y oe r)with t:=bQ.f.a}++(aG.F (gN g)::Y)) ⟨[9,78],[.l false],yr,au (au 39)⟩ (by kernel_rfl!) rfl (.inr (ai rfl rfl)) ?_ (λk G=>aP (a:=(6<=6/\0<6/\bG 6 .g/\bo 6 (ac {e.e ex (bC v) (bT g) e.bJ (.bz oe r)with ae:=iG e.a f ex v g y oe r,bJ:=.c (gN g),t:=bQ.f.a}))/\k .g (ac {e.e ex (bC v) (bT g) e.bJ (.bz oe r)with ae:=iG e.a f ex v g y oe r,bJ:=.c (gN g),t:=bQ.f.a})) (ai ⟨ds _,by decide,.g,l⟩ G));refine .d (l1:=[]) (.f ?_) .j;have c:iF.length<=900:=by decide
 refine av.aW A (av.aW z (.r c (y:=CY) (lm1:=ej f) (σ1:=ac (e.e ex (bC v) (bT g) (.o 6) (.bz (oe&& !dD v g oe) ((r++bI e.a.a (dD v g oe))++qZ e.a.a v)))++[aG.F iF]) ?_));refine av.aW B (av.a C (av.aW D ?_));exact .m (l1:=ej f) .b .j
def aw.G(e:aw):aw:={e with f:=.r,d:=.r,q:=.r,v:=.r,bJ:=.r}
structure oB(ex:Bool)(c:cN)(e:aw):Prop where
 bE:oA e.G .c []
 s:e.b=.g
 d:e.a=c
 ae:∃oe r,e.ae=.bz oe r/\(ex=true->oe=false)
 g:ex=false->bL c.a e.ae
 p:ao e.ae.a<=3999000
 bB:jf e.f/\jf e.d/\jf e.q/\jf e.v
 bJ:∃D,e.bJ=.c D
 f:ei e
inductive A5(ex:Bool)(D:List (Str×V))(ps:List Str)(rem:List ay)(c:cN)(e:aw):Prop
 |a {fs q}:wl ex D ps rem c e fs q->ld q=true->A5 ex D ps rem c e
 |b:rem=[]->oB ex c e->A5 ex D ps rem c e
theorem Qi{nl:Str}(hn:nl.length<=2)(w:aF)(H:0<=w.b)(ex:Bool):ao (AX nl w ex)<=ao w.a+12:=by
 have h:=Jn w nl hn H;cases ex
 ·exact ef h (aO 0xca083a080)
 ·show ao ((w.c 0 nl).a++[.e f_,.e nl])<=_;rw[eH];show _+(f_.length+1+(nl.length+1+0))<=_;rw[show f_.length=3 by decide];exact bc 0xca280a1a0881a3a88183a28112a012 hn h
theorem Qj{nl:Str}(hn:dh nl.cps.toList){w:aF}(J:bL nl w):bL nl (lf nl w false):=by have j:=AO hn J 0;rw[Jl w nl J.b.b]at j;rw[lf,show(w.e&& !false)=w.e from rF _];exact j
def nx(e:aw)(w:aF)(s:bQ)(a:V)(E:List V):aw:=⟨e.a,w,.g,0,e.f,e.d,e.q,e.v,s.a,a,[],[],E,e.bJ,.g,.g,.g,.g⟩
theorem Qk{c w i f r s m k ev tp p P a st}{x:V}{ss I l q:List V}(H:i=.g)(b:f=0)(d:x=bQ.d.a)(e:ss=[])(g:I=[])(j:p=.g)(n:P=.g)(o:a=.g)(t:st=.g)(h:q=l):aw.mk c w i f r s m k x ev ss I q tp p P a st=aw.mk c w .g 0 r s m k bQ.d.a ev [] [] l tp .g .g .g .g:=by subst H b d e g j n o t h;rfl
theorem Ql{ex D ps e}{f:fH}(M:eU ex D ps e [f])(H:f.a=.d){l:List V}(h:e.g=l):e=nx e e.ae .d e.b l:=by
 have a:e.h=[]:=h6 (Nat.succ.inj M.k);refine Qk (bf M.q λr b=>?_) (M.m.trans ?_) (M.b.1.trans ?_) M.b.2 a M.o M.n M.l M.bg h
 ·rw[a]at b;exact(hX b).1
 ·show 0+jh f.a=0;rw[H];rfl
 ·rw[H]
theorem Qm(n:Nat)(l:ah){ex D ps e}{f:fH}(M:eU ex D ps e [f])(d:f.a=.d)(h:e.g=[(ay.d ex).a]):
  ∃E,av aa (n+10) qX ((9,aB)::l) (ac e) .a ((9,aB)::l) (ac E)/\oB ex e.a E:=by
 have b:=Ql M d h;have H:=M.p;have a:=Qi M.a.a e.ae M.g.b.b ex;have c:ao (AX e.a.a e.ae ex)<=3999000:=bc 0x3d0518d003d0130d20090889181ca18012 a H;have L:ei (nx e (lf e.a.a e.ae ex) .c .g []):=⟨.E (by decide),.g,.g,M.f.bJ,.g,.g,.g,.g,gA (ef c (by decide)),.j,.j,.j,M.f.r⟩;have g:nr (n+10) l (nx e e.ae .d e.b [(ay.d ex).a]) (nx e (lf e.a.a e.ae ex) .c .g []):=nr.wk (n:=n+8) (q:=[]) (y:=.d ex) (s:=.d) (e1:=nx e (lf e.a.a e.ae ex) .c (ay.d ex).a []) (b▸M.f) rfl rfl rfl (PT (n+5) (nx e e.ae .d (ay.d ex).a []) ex rfl rfl (show ao e.ae.a+200<=_ by exact aC 0x4630c0dc8b0803d0130d100908890811 H) M.a M.g.b.b) rfl .a
 refine(aE (nx e (lf e.a.a e.ae ex) .c .g []) ?_ ⟨⟨rfl,rfl,rfl,rfl,rfl,rfl,rfl,rfl,rfl,rfl,λx i=>(by cases i),λm=>(gU .r .r .r .r),M.a,M.j⟩,rfl,rfl,(cg _ _ rfl (λh=>by rw[h];exact kK _)),λh=>h▸Qj M.a M.g,c,M.f.r,(ba _ M.bJ),L⟩);exact(congrArg (λz=>av aa (n+10) qX ((9,aB)::l) (ac z) .a ((9,aB)::l) (ac (nx e (lf e.a.a e.ae ex) .c .g []))) b).mpr (g _ _ _ (.s (nq (n+8) (nx e (lf e.a.a e.ae ex) .c .g []) [] l rfl L)))
theorem JB(n:Nat)(l:ah){ex D ps rem}(q:List ay)(e:aw)(F:List fH)(h:eU ex D ps e F)(i:e.g=q.map ay.a)(j:fI ex F=q++rem)(H:e.b=.g):
  ∃E,av aa (n+10) qX ((9,aB)::l) (ac e) .a ((9,aB)::l) (ac E)/\A5 ex D ps rem e.a E:=
 kU (PR n l q e F h i j H) λb k Q g R=>R.g.elim (λc=>aE b (g _ _ _ (.s (jy (nq (n+8) b Q l R.b R.a.f) (congrArg not c)))) (.a R c)) λZ=>cS Z λZ a m=>bY Z λf o p _=>by subst o a m;exact ap (Qm n l R.a p R.b) λs r d=>aE s (g _ _ _ r) (.b rfl (R.d▸d))
noncomputable def gX(b:Int)(e:aw):af:=[.a (fx e),.a [(187,.o 2)],.d b e.ae.a,.u e.p,.u e.h,.u e.g]
noncomputable def ny:Int:=12099998
def aw.bI(e:aw)(P:List V):aw:=e.aj {e.ae with a:=P++e.ae.a}
theorem wz(e:aw){P:List V}(h:P.length<=2)(H:∀m,ck m P):A6 P (ac e) (gX ny (e.bI P)):=⟨rfl,h,H⟩
theorem tG{e:aw}{P:List V}{a:af}(s:A6 P (ac e) a):a=gX ny (e.bI P):=s.b
theorem q_(b:Int)(n:Nat)(e:aw)(y:V){l':ah}{σ':af}(h:e.g.length<sizeLine)(r:av aa n qX [(9,aB),(54,y)] (gX b (e.s e.b (e.g++[y]))) .a l' σ'):bd aa (n+1) 330 [aB,y] (gX b e) .g σ':=.e ⟨[9,54],[],CB,none⟩ (.r h (y:=CA) (lm1:=[(9,aB),(54,y)]) (σ1:=gX b (e.s e.b (e.g++[y]))) (.d r .j))
def cm(c:cN)(s:bQ)(oe:Bool)(q:List ay):aw:=⟨c,.bz oe [],.g,0,.r,.r,.r,.r,s.a,.g,[],[],q.map ay.a,.r,.g,.g,.g,.g⟩
structure jB(c:cN):Prop where
 a:dh c.a.cps.toList
 j:2<=c.j/\c.j<=9
theorem JC{c:cN}(h:jB c)(s:bQ)(oe:Bool){q:List ay}(H:∀x∈q,x.h)(ev:V):oA {cm c s oe q with b:=ev} s q:=⟨rfl,rfl,rfl,rfl,rfl,rfl,rfl,rfl,rfl,rfl,H,λm=>(gU .r .r .r .r),h.a,h.j⟩
theorem tI{c:cN}{s:bQ}{oe:Bool}{q:List ay}(h:∀x∈q,x.h):ei (cm c s oe q):=⟨.E (by decide),.g,.g,.r,.g,.g,.g,.g,.j,.j,.j,mt h,.r,.r,.r,.r⟩
noncomputable def mx:Bool->bQ
 |true=> .b|false=> .c
theorem Qn{a:Bool}{b c:V}{y:ay}{r:List ay}:ld (.c a b c::y::r)=false:=by
 show lc 1 (.c a b c::y::r)=false;delta lc;split
 ·rfl
 ·exact decide_eq_false (by simp only[eb];lia)
def my(c:cN)(f ex:Bool)(v:Option (_root_.Fin 3))(g:Option Bool)(y:ay)(oe:Bool):aw:=⟨c,iG c f ex v g y oe [],.g,0,.r,.r,.r,.r,bQ.f.a,.g,[],[],[y.a],.c (gN g),.g,.g,.g,.g⟩
theorem JD(n:Nat)(l:ah){c:cN}(a:jB c)(f ex:Bool)(v:Option (_root_.Fin 3))(g:Option Bool){y:ay}(d:y.h)(oe:Bool):
  aN aa (n+6) uX ((9,aB)::l) (ac (cm c (mx f) oe [.c ex (bC v) (bT g),y])) true (ac (cm c (mx f) oe [.c ex (bC v) (bT g),y]))/\
  av aa (n+6) uZ ((9,aB)::l) (ac (cm c (mx f) oe [.c ex (bC v) (bT g),y])) .a ((9,aB)::l) (ac (my c f ex v g y oe)):=by
 have i:∀x∈[ay.c ex (bC v) (bT g),y],x.h:=λx h=>by
  rcases bv h with rfl|h
  ·exact(qY ⟨_,rfl⟩ _ rfl)
  ·rw[ce.mp h];exact d
 have H:∀x∈[y],x.h:=λx h=>by rw[ce.mp h];exact d
 have e:=nq (n+4) (cm c (mx f) oe [.c ex (bC v) (bT g),y]) [.c ex (bC v) (bT g),y] l rfl (tI i);rw[Qn]at e;refine(ai e ?_);have k:∀s:bQ,bd aa (n+5) 381 [aB,.l f] (ac {cm c s oe [y]with b:=(ay.c ex (bC v) (bT g)).a}) .g (ac {my c f ex v g y oe with b:=(ay.c ex (bC v) (bT g)).a}):=λs=>Jy n {cm c s oe [y]with b:=(ay.c ex (bC v) (bT g)).a} (JC a s oe H _) f ex v g rfl rfl (hS rfl)
 cases f with
 |false=>exact tw (n+6) (cm c .c oe [.c ex (bC v) (bT g),y]) {my c false ex v g y oe with b:=(ay.c ex (bC v) (bT g)).a} .c l rfl rfl (Jy (n+1) {cm c .c oe [y]with b:=(ay.c ex (bC v) (bT g)).a} (JC a .c oe H _) false ex v g rfl rfl (hS rfl)) rfl|true=>refine tw (n+6) (cm c .b oe [.c ex (bC v) (bT g),y]) {my c true ex v g y oe with b:=(ay.c ex (bC v) (bT g)).a} .b l rfl rfl ?_ rfl;exact .d ⟨[9],[],CM,ct⟩ (.inl rfl) (l':=aX) (.u (lm1:=aX) (k .b))
theorem JE:bV ek.cps.toList λc=>c≠46/\c≠10/\c≠13:=(cg [45,45] 45 rfl (by decide))
theorem Qo{c:cN}(H:jB c)(ex:Bool)(v:Option (_root_.Fin 3))(g:Option Bool)(y:ay):bL c.a (iG c true ex v g y false []):=by
 delta iG mu;cases b:pD true ex c.b v g y
 ·cases c.b
  ·exact gL (w:=.bz _ _) H.a (gt 0) JE _ _ _
  ·refine Jm (.inr ?_) (.inr ?_)
   ·rw[show gB c.a v g false []++[V.e ek,.e c.a]=(gB c.a v g false []++[.e ek])++[.e c.a] by rw[dx];rfl,jQ];exact(o_ H.a).b
   ·rw[show gB c.a v g false []++[V.e ek,.e c.a]=(gB c.a v g false []++[.e ek])++[.e c.a] by rw[dx];rfl,jQ];refine oa H.a λ⟨h,e,_⟩=>?_
    have l:bV (bP (gB c.a v g false []++[.e ek])) λc=>c≠46/\c≠10/\c≠13:=by rw[jQ];exact JE.b
    rw[e]at l;refine ap (l.c pc) λd i j=>?_
    exact i.1 j
 ·have f:v=none/\g=none:=by
   delta pD at b;cases v<;>cases g<;>first|exact(ai rfl rfl)|(simp at b)
  (refine aV f λE a=>?_;clear f;subst E;subst a);refine Jm (.inl rfl) (.inr ⟨λ⟨h,e,_⟩=>?_,λ⟨h,e,_⟩=>?_⟩)
  ·have e:([]:List Nat)=h++eR:=e;cases h<;>(injection e;done)
  ·have e:([]:List Nat)=h++eR++c.a.cps.toList:=e;have:=congrArg rT e;simp[eR]at this
theorem Qp{c:cN}(a:jB c)(f ex:Bool)(v:Option (_root_.Fin 3))(g:Option Bool)(y:ay)(oe:Bool):ao (iG c f ex v g y oe []).a<=200:=by
 have h:=a.a.a;have w:=Jx h v g oe [];have W:ao []=0:=rfl;have H:ek.length=3:=by decide
 delta iG mu;cases pD f ex c.b v g y
 ·cases c.b
  ·show ao (gB c.a v g oe []++[.e ek])<=_;rw[eH,mX];exact bc 0xc8b1a28083a210a1146b18013 w (aJ W) (aJ H)
  ·show ao (gB c.a v g oe []++[.e ek,.e c.a])<=_;rw[eH];show _+(ek.length+1+(c.a.length+1+0))<=_;exact bS 0xc8b0a1a0881a388183a310a2146b28112a014 h w (aJ W) (aJ H)
 ·show ao (gB c.a v g oe [])<=_;exact cO ‹_›
noncomputable def pF:Option Bool->List Str
 |none=>["!","tag:yaml.org,2002:"]|some false=>["!","t:","tag:yaml.org,2002:"]|some true=>["!","t:","tag:","tag:yaml.org,2002:"]
theorem Qq{c:cN}(H:jB c)(ex s:Bool)(v:Option (_root_.Fin 3))(g:Option Bool){t:cG}{ps:List Str}(d:jV (gN g) ps t)(a:t.i.length<=107):eU s (gN g) ps (my c true ex v g (.b t.b) false) [⟨.f,[t]⟩]:=by
 have b:=Qp H true ex v g (.b t.b) false;have h:(fI s [⟨.f,[t]⟩]).length=t.i.length+1:=by show((t.i++[])++[gl s .f]).length=_;simp
 refine⟨(ai rfl rfl),ai (ai rfl (.p d .j)) trivial,.inl rfl,rfl,rfl,rfl,rfl,rfl,rfl,?_,H.j,H.a,Qo H ex v g _,.inl rfl,λj x e=>(nomatch e),rfl,(ba _ rfl),(aC 0x6cb06bb111a18012 (aJ h) a),?_⟩
 ·exact⟨.E (by decide),.g,.g,.c (A0 _ (by
   match g with
   |none=>kernel_rfl!|some false=>kernel_rfl!|some true=>kernel_rfl!)),.g,.g,.g,.g,gA (ef b (by decide)),.j,.j,.p (cA.f _) .j,.r,.r,.r,.r⟩
 ·show ao (iG c true ex v g (.b t.b) false []).a+_<=_;exact bc 0x3d0130d10090889086bb00908892009088911a280090889100908891c8b013 b (gv 37000 (aJ h)) (gv 37000 a)
def iW(n:Nat)(b:Int):aw->List ay->aw->Prop
 |e,[],E=>e=E|e,y::Y,E=>∃a,bd aa n 330 [aB,y.a] (gX b e) .g (gX b a)/\iW n b a Y E
theorem iW.p{n:Nat}{b:Int}{e y e1 ys E}(h:bd aa n 330 [aB,y.a] (gX b e) .g (gX b e1))(g:iW n b e1 ys E):iW n b e (y::ys) E:=(aE e1 h g)
theorem iW.t{n:Nat}{P:List V}(H:P.length<=2)(a:∀m,ck m P){E:aw}:∀{ys:List ay} {e:aw},iW n iQ e ys E->iW n ny (e.bI P) ys (E.bI P)
 |[],_,h=>congrArg (aw.bI · P) h|_::_,_,h=>ap h λc h g=>ap (h.t (wz _ H a)) λb s r=> .p (tG s▸r) (iW.t H a g)
theorem tJ{l:Int}{x:ay}{r:List ay}(h:0<=ik l x):fZ l (x::r)=fZ (ik l x) r:=by
 show(match decide (ik l x<0)with
  |true=>true|false=>fZ (ik l x) r)=_
 rw[decide_eq_false (mw.mpr h)]
mutual
theorem Y6{D:List (Str×V)}{ps:List Str}:∀(t:cG),jV D ps t->∀(l:Int) (r:List ay),0<=l->fZ l (t.i++r)=fZ l r
 | .u x,h,l,r,H=>by
  have c:¬x.g:=by cases h;assumption
  have:ik l (.b x)=l:=by cases x<;>first|rfl|exact absurd trivial c
  show fZ l (.b x::r)=_;rw[tJ (by rw[this];exact H),this]
 | .d a t i f X,h,l,r,H=>by
  have c:jz D ps X:=by cases h;assumption
  show fZ l (.b (.c a t i f)::((c_ X++[.fQ])++r))=_;have b:0<=l+1:=kE H (Zr (gt l));rw[tJ (x:=.b (.c a t i f)) b];show fZ (l+1) ((c_ X++[.fQ])++r)=_;rw[dx,JF X c _ _ b];show fZ (l+1) (.fQ::r)=_;have d:ik (l+1) .fQ=l:=tT l 1;rw[tJ (by rw[d];exact H),d]
 | .q a t i f X,h,l,r,H=>by
  have c:jz D ps X:=by cases h;assumption
  show fZ l (.b (.d a t i f)::((c_ X++[.fR])++r))=_;have b:0<=l+1:=kE H (Zr (gt l));rw[tJ (x:=.b (.d a t i f)) b];show fZ (l+1) ((c_ X++[.fR])++r)=_;rw[dx,JF X c _ _ b];show fZ (l+1) (.fR::r)=_;have d:ik (l+1) .fR=l:=tT l 1;rw[tJ (by rw[d];exact H),d]
theorem JF{D:List (Str×V)}{ps:List Str}:∀(T:List cG),jz D ps T->∀(l:Int) (r:List ay),0<=l->fZ l (c_ T++r)=fZ l r
 |[],_,_,_,_=>rfl|t::T,h,l,r,H=>by have b:=h.a;show fZ l ((t.i++c_ T)++r)=_;rw[dx,Y6 t b.1 l _ H,JF T b.2 l r H]
end
theorem Qr{D:List (Str×V)}{ps:List Str}(t:cG)(h:jV D ps t)(q:List ay):ld (.b t.b::(t.a++q))=false:=by
 have H:∀c y l,fZ 0 l=true->lc c (y::l)=false:=λc y l h=>by
  show(match fZ 0 l with
   |true=>false|false=>_)=_
  rw[h]
 cases t with
 |u x=>cases x<;>first|rfl|exact absurd trivial h.a
 |d a t i f X=>refine H 2 _ _ ?_;show fZ 0 ((c_ X++[.fQ])++q)=true;rw[dx,JF X h.a 0 _ (gt 0)];rfl|q a t i f X=>refine H 3 _ _ ?_;show fZ 0 ((c_ X++[.fR])++q)=true;rw[dx,JF X h.a.1 0 _ (gt 0)];rfl
theorem Qs{ex D ps e F}(M:eU ex D ps e F){q:List ay}(h:fI ex F=q):ld q=false:=by
 subst h;cases F with
 |nil=>exact M.b.elim|cons f r=>
  obtain⟨s,T⟩:=f;cases T with
  |nil=>cases s<;>rfl
  |cons t T=>exact(congrArg ld (wh ..)).trans (Qr t M.h.1.2.a.1 _)
theorem Qt(n:Nat){ex D ps y rem c e f q}(R:wl ex D ps (y::rem) c e f q)(H:bG 6 y.a)(b:q.length<=200):∃E,bd aa (n+11) 330 [aB,y.a] (ac e) .g (ac E)/\A5 ex D ps rem c E:=by
 have d:e.g++[y.a]=(q++[y]).map ay.a:=by rw[R.b,j0];rfl
 have l:∀{a:List V},ck 6 a->ck 6 (a++[y.a]):=λh=>tr h H
 have M:eU ex D ps (e.s .g (e.g++[y.a])) f:=R.a.s .g (l R.a.f.g);(refine ap (JB n [(54,y.a)] (q++[y]) _ f M d (by rw[R.h,dx];rfl) rfl) λE r A=>?_);have g:e.g.length<sizeLine:=by rw[R.b,hZ,bw];exact aO 0x1000000d1a08c8b011 b
 refine(aE E ?_ (R.d▸A));have:=q_ iQ (n+10) e y.a g (l':=[(9,aB),(54,y.a)]) (σ':=ac E) (by rw[R.s];exact r);exact this
theorem Qu(n:Nat){ex D ps c}:∀(rem:List ay) (e:aw),(∀y∈rem,y.h)->rem.length<=200->A5 ex D ps rem c e->rem≠[]->∃E,iW (n+11) iQ e rem E/\oB ex c E
 |[],_,_,_,_,h=>absurd rfl h|y::rem,e,g,p,A,_=>by
  cases A with
  |b h _=>(injection h;done)| @a v q R w=>
   have f:=R.a.t;have i:q.length<=200:=by rw[R.h,bs]at f;exact aC 0xc8b06cb10811 f
   refine ap (Qt n R (ay.f (g y (f8 ..))) i) λl r m=>?_
   cases H:rem with
   |nil=>
    subst H;cases m with
    |b _ d=>exact(aE l (.p r rfl) d)| @a F Q o j=>exfalso;have:=Qs o.a (o.h.trans (dE _));rw[j]at this;(injection this;done)
   |cons z Z=>
    have k:rem≠[]:=by rw[H];exact List.cons_ne_nil _ _
    (refine ap (Qu n rem l (λy s=>g y (f9 _ s)) (by simp only[eb]at p;exact i5 ‹_›) m k) λt u d=>?_);rw[←H];exact(aE t (.p r u) d)
theorem Qv(c:cN)(ex:Bool)(v:Option (_root_.Fin 3))(g:Option Bool)(y:ay)(o:Bool):my c false ex v g y o=(my c true true v g y false).bI (bI c.a (dD v g o)):=by
 have h:dD v g false=false:=kK _;have H:gB c.a v g o []=bI c.a (dD v g o)++gB c.a v g false []:=by delta gB;rw[h];simp[bI]
 have K:∀(P r:List V) (A b:Bool),mu c A (P++r) false={mu c b r false with a:=P++(mu c b r false).a}:=λP r A b=>by
  delta mu;cases c.b
  ·show aF.mk _ _ _ _ ((P++r)++[V.e ek])=aF.mk _ _ _ _ (P++(r++[V.e ek]));rw[dx];rfl
  ·show aF.mk _ _ _ _ ((P++r)++[V.e ek,.e c.a])=aF.mk _ _ _ _ (P++(r++[V.e ek,.e c.a]));rw[dx];rfl
 have d:iG c false ex v g y o []={iG c true true v g y false []with a:=bI c.a (dD v g o)++(iG c true true v g y false []).a}:=by have k:=K (bI c.a (dD v g o)) (gB c.a v g false []) (o&& !dD v g o) (false&& !dD v g false);rw[←H]at k;exact k
 delta my aw.bI aw.aj;rw[d]
theorem Qw(nl:Str)(b:Bool):(bI nl b).length<=2:=by cases b<;>first|exact hB _|exact ds _
theorem wA(nl:Str)(b:Bool)(m:Nat):ck m (bI nl b):=by
 cases b
 ·exact .j
 ·exact .p (.e _) (.p (.e _) .j)
theorem JG(n:Nat){c:cN}(s:bQ)(oe ex:Bool)(v:Option (_root_.Fin 3))(g:Option Bool):bd aa (n+11) 330 [aB,(ay.c ex (bC v) (bT g)).a] (ac (cm c s oe [])) .g (ac (cm c s oe [.c ex (bC v) (bT g)])):=by
 have h:∀x∈[ay.c ex (bC v) (bT g)],x.h:=λx H=>by rw[ce.mp H];exact(qY ⟨_,rfl⟩ _ rfl)
 have a:=nq (n+8) (cm c s oe [.c ex (bC v) (bT g)]) [.c ex (bC v) (bT g)] [(54,(ay.c ex (bC v) (bT g)).a)] rfl (tI h);exact q_ iQ (n+10) (cm c s oe []) _ (by rw[bw];exact(by decide:(0:Nat)<16777216)) (av.m (av.s a) .j)
theorem Qx(n:Nat){c:cN}(b:jB c)(ex s:Bool)(v:Option (_root_.Fin 3))(g:Option Bool){t:cG}{ps:List Str}(w:jV (gN g) ps t)(f:t.i.length<=107)(h:∀y∈t.i++[ay.d s],y.h):
  ∃E,iW (n+11) iQ (cm c .b false []) (.c ex (bC v) (bT g)::(t.i++[.d s])) E/\oB s c E/\
   (ex=true->∀o e,iW (n+11) ny (cm c .c o []) (.c e (bC v) (bT g)::(t.i++[.d s])) (E.bI (bI c.a (dD v g o)))):=by
 rw[t.c]at h f⊢;have a:(ay.b t.b).h:=trivial;have M:=Qq b ex s v g w (by rw[t.c];exact f);(refine ap (JB n [(54,(ay.b t.b).a)] [.b t.b] _ [⟨.f,[t]⟩] M rfl (rem:=t.a++[.d s]) (by show(t.i++[])++[gl s .f]=_;rw[dE,t.c];rfl) rfl) λi r A=>?_)
 refine aV (JD (n+4) [(54,(ay.b t.b).a)] b true ex v g a false) λT x=>?_
 have l:∀k:Nat,k<3->k<sizeLine:=λk hk=>by rw[bw];exact cO ‹_›
 have F:bd aa (n+11) 330 [aB,(ay.b t.b).a] (ac (cm c .b false [.c ex (bC v) (bT g)])) .g (ac i):=q_ iQ (n+10) (cm c .b false [.c ex (bC v) (bT g)]) _ (l 1 (by decide)) (.q T x r)
 (refine ap (Qu n (t.a++[.d s]) i (λy a=>h y (f9 _ a)) (by simp only[bs,eb,k7]at f⊢;exact cO ‹_›) A (by simp)) λz p d=>?_);refine(bx z (.p (JG n .b false ex v g) (.p F p)) d (λj o e=>?_));subst j;have N:∀m,ck m ([]:List V):=λm=> .j
 have q:=λm=>wA c.a (dD v g o) m
 have H:=Qw c.a (dD v g o);refine ap ((JG n (c:=c) .c o e v g).t (wz (cm c .c o []) (hB _) N)) λB C W=>?_
 have Q:=tG C;subst Q;refine aV (JD (n+4) [(54,(ay.b t.b).a)] b false e v g a o) λU D=>?_
 have S:A6 [] (ac (cm c (mx false) o [.c e (bC v) (bT g),.b t.b])) (gX ny (cm c (mx false) o [.c e (bC v) (bT g),.b t.b])):=wz _ (hB _) N;refine ap (aN.t U S) λG I J=>?_
 have K:=tG I;subst K;refine ap (D.t S) λL O u=>?_
 have P:=tG O;subst P;have R:(my c false e v g (.b t.b) o).bI []=(my c true true v g (.b t.b) false).bI (bI c.a (dD v g o)):=Qv c e v g (.b t.b) o;rw[R]at u;refine ap (r.t (wz _ H q)) λX Y Z=>?_
 have q4:=tG Y;subst q4;have V4:=p.t H q;have f2:bd aa (n+11) 330 [aB,(ay.b t.b).a] (gX ny (cm c .c o [.c e (bC v) (bT g)])) .g (gX ny (i.bI (bI c.a (dD v g o)))):=q_ ny (n+10) (cm c .c o [.c e (bC v) (bT g)]) _ (l 1 (by decide)) (.q J u Z)
 exact .p W (.p f2 V4)
theorem Qy(n:Nat)(c:cN):bd aa (n+11) 330 [aB,ay.i.a] (ac (cm c .i false [])) .g (ac (cm c .b false [])):=by
 have H:∀x∈[ay.i],x.h:=λx h=>by rw[ce.mp h];trivial
 have a:=nq (n+8) (cm c .i false [.i]) [.i] [(54,ay.i.a)] rfl (tI H);have d:=nq (n+8) (cm c .b false []) [] [(54,ay.i.a)] rfl (tI λx h=>by cases h);have r:bd aa (n+10) 359 [aB] (ac ((cm c .i false [.i]).s ay.i.a [])) .g (ac {cm c .b false []with b:=ay.i.a}):=.e ⟨[9],[],CL,ct⟩ (l':=aX) (.d (.f (.z (y:=CK) (lm1:=aX) (NZ (n+8) ((cm c .i false [.i]).s ay.i.a [])) .b)) .j)
 exact q_ iQ (n+10) (cm c .i false []) _ (by rw[bw];exact(by decide:(0:Nat)<16777216)) (.q a (tw (n+10) (cm c .i false [.i]) {cm c .b false []with b:=ay.i.a} .i [(54,ay.i.a)] rfl rfl r rfl) (.s d))
def fB(c:cN)(s:bQ)(oe:Bool)(r:List V)(q:List ay):aw:={cm c s oe q with ae:=.bz oe r}
theorem wB{c:cN}{s:bQ}{oe:Bool}{r:List V}{q:List ay}(H:∀x∈q,x.h)(a:ao r<=4600000){ev:V}(h:bG 6 ev):ei {fB c s oe r q with b:=ev}:=⟨.E (by decide),h,.g,.r,.g,.g,.g,.g,gA a,.j,.j,mt H,.r,.r,.r,.r⟩
theorem Qz(n:Nat){c:cN}(d:jB c)(oe:Bool)(r:List V)(H:ao r+200<=4600000):bd aa (n+11) 330 [aB,ay.g.a] (ac (fB c .c oe r [])) .g (ac (fB c .g false (r++bI c.a oe) [])):=by
 have g:∀x∈[ay.g],x.h:=λx h=>by rw[ce.mp h];trivial
 have e:ao (r++bI c.a oe)<=4600000:=by have:=nt d.a.a oe;rw[eH];exact aC 0x4630c0d108aa1104630c0dc8b0812 H this
 have i:=nq (n+8) (fB c .c oe r [.g]) [.g] [(54,ay.g.a)] rfl (wB (c:=c) (s:=.c) (oe:=oe) (r:=r) g (aO 0x4630c0d004630c0dc8b0811 H) .g);have j:=nq (n+8) (fB c .g false (r++bI c.a oe) []) [] [(54,ay.g.a)] rfl (wB (c:=c) (s:=.g) (oe:=false) (r:=r++bI c.a oe) (q:=[]) (λx h=>by cases h) e .g);have l:=(wB (c:=c) (s:=.g) (oe:=false) (r:=r++bI c.a oe) (q:=[]) (λx h=>by cases h) e (ay.f (x:=.g) trivial)).d;have R:bd aa (n+10) 381 [aB,.l false] (ac ((fB c .c oe r [.g]).s ay.g.a [])) .g (ac {fB c .g false (r++bI c.a oe) []with b:=ay.g.a}):=by
  refine .a (fl:=.a) (l':=[]) (σ1:=ac {fB c .g false (r++bI c.a oe) []with b:=ay.g.a}) ⟨[9,78],[.l false],yr,au (au 39)⟩ (by kernel_rfl!) rfl (.inr (ai rfl rfl)) ?_ (λk m=>aP (a:=(bG 6 .g/\bo 6 (ac {fB c .g false (r++bI c.a oe) []with b:=ay.g.a}))/\k .g (ac {fB c .g false (r++bI c.a oe) []with b:=ay.g.a})) (ai ⟨.g,l⟩ m));refine .d (l1:=[]) (.e (.d (l1:=[]) (.f ?_) .j)) .j;have f:∀w,av aa (n+9) C4 (ej false) (ac {fB c .c oe r []with b:=ay.g.a,ae:=w}) .a [] (ac {fB c .g oe r []with b:=ay.g.a,ae:=w}):=λw=>.m (l1:=ej false) (.z (y:=C3) (lm1:=ej false) (N_ (n+7) {fB c .c oe r []with b:=ay.g.a,ae:=w}) .b) .j
  cases oe
  ·rw[show r++bI c.a false=r from dE r];exact .d (l1:=ej false) (σ1:=ac {fB c .c false r []with b:=ay.g.a,ae:=.bz false r}) (.e .j) (f (.bz false r))
  ·exact .d (l1:=ej false) (σ1:=ac {fB c .c true r []with b:=ay.g.a,ae:=.bz false (r++[.e f_,.e c.a])}) (.f (σ':=ac {fB c .c true r []with b:=ay.g.a,ae:=.bz false (r++[.e f_,.e c.a])}) (AW (n+5) {fB c .c true r []with b:=ay.g.a} rfl (aO 0x4630c0d64b0804630c0dc8b0811 H) d.a .j [(78,.l false)] (ej false) .a _ .j)) (f _)
 exact q_ iQ (n+10) (fB c .c oe r []) _ (by rw[bw];exact(by decide:(0:Nat)<16777216)) (.q i (tw (n+10) (fB c .c oe r [.g]) {fB c .g false (r++bI c.a oe) []with b:=ay.g.a} .c [(54,ay.g.a)] rfl rfl R rfl) (.s j))
theorem QA(g:Option Bool):qJ (gN g) (pF g) "t:b"=true/\qJ (gN g) (pF g) "tag:yaml.org,2002:s"=true/\qJ (gN g) (pF g) "!n"=true/\qJ (gN g) (pF g) "w"=true:=by
 match g with
 |none=>exact(gU (by decide+kernel) (by decide+kernel) (by decide+kernel) (by decide+kernel))|some false=>exact(gU (by decide+kernel) (by decide+kernel) (by decide+kernel) (by decide+kernel))|some true=>exact(gU (by decide+kernel) (by decide+kernel) (by decide+kernel) (by decide+kernel))
theorem JH:gz "a1"/\gz "x-y_"/\gz "0"/\gz "Z9":=(gU ⟨by decide+kernel,by decide+kernel,by decide+kernel⟩ ⟨by decide+kernel,by decide+kernel,by decide+kernel⟩ ⟨by decide+kernel,by decide+kernel,by decide+kernel⟩ ⟨by decide+kernel,by decide+kernel,by decide+kernel⟩)
theorem QB{α:Type}:∀l:List α,eF (aQ l) l=l
 |[]=>rfl|x::l=>congrArg (x::·) (QB l)
noncomputable def el:List Int->Int
 |[]=>0|n::_=>n
noncomputable abbrev cD(tp:List Int):aG:=.u (tp.map .q)
theorem mz{m:Nat}:∀tp:List Int,ck m (tp.map V.q)
 |[]=> .j|n::r=> .p (.q n) (mz r)
theorem QC(n:Nat)(tp:List Int)(X:af)(H:bo (aQ X+1) X):bd aa (n+1) 820 [.o 0] (cD tp::X) (.q (el tp)) (cD tp.tail::X):=by
 refine .a (fl:=.f (.q (el tp))) (l':=[]) (σ1:=cD tp.tail::X) ⟨[188],[],Hp,au none⟩ (by kernel_rfl!) rfl (.inl rfl) ?_ (λk h=>?_)
 ·cases tp with
  |nil=>exact .m (l1:=[(188,.o 0)]) .b .j|cons a r=>refine .m (l1:=[(188,.o 0)]) (λk h=>aP (a:=∃x,(0:Int)<=0/\(V.q a::r.map V.q)[(0:Int).toNat]? =au x/\k (.f x) [(188,.o 0)] (aG.u ((V.q a::r.map V.q).eraseIdx (0:Int).toNat)::X)) (bx (.q a) (by decide) rfl (h _ .a))) .j
 ·have e:eF (aQ (cD tp::X)) (cD tp.tail::X)=cD tp.tail::X:=congrArg (cD tp.tail::·) (QB X);show(bG _ _/\bo _ (eF (aQ (cD tp::X)) (cD tp.tail::X)))/\k _ (eF (aQ (cD tp::X)) (cD tp.tail::X));rw[e];exact(ai ⟨.q _,.p (.u (mz _)) H⟩ h)
theorem wC:∀(σ:af) (o:aG),cn (aQ σ) (cH σ o)=au o
 |[],_=>rfl|_::σ,o=>wC σ o
theorem QD:∀(σ:af) (o:aG),eF (aQ σ) (cH σ o)=σ
 |[],_=>rfl|x::σ,o=>congrArg (x::·) (QD σ o)
theorem JI:∀(σ Y:af),eF (aQ σ) (σ++Y)=σ
 |[],Y=>by cases Y<;>rfl
 |x::σ,Y=>congrArg (x::·) (JI σ Y)
theorem wD(σ:af)(o:aG):cH σ o=σ++[o]:=by
 induction σ with
 |nil=>rfl|cons x σ i=>exact congrArg (x::·) i
theorem JJ{j:Nat}{i:Int}{σ:af}{xs:List V}{x:V}(h:cn j σ=au (.u xs))(hi:0<=i)(H:xs[i.toNat]? =au x){k:bu}(a:k x σ):pf (.o j) (.q i) σ k:=by
 show(match cn j σ with
  |some o=>tK (.q i) o σ|none=> .a:cp).bD k
 rw[h];exact(bx x hi H a)
theorem iX(n:Int)(m:Nat)(H:0<m):0<=n.fmod m/\(n.fmod m).toNat<m:=
 have h:=Int.fmod_nonneg_of_pos n (g7.2 H)
 ⟨h,(Int.toNat_lt h).2 (F6 n (g7.2 H))⟩
noncomputable def jk(k:Nat)(s:Str):Bool:=decide (s.length<=k)&&s.cps.toList.all λc=>decide (c<1114112)&&(c !=13&&c !=8233)
noncomputable def ra:List Str:=["w","","x y","a\nb\n","x: y","- z","it's","k\n\n","---","... d"," l","t ","\n","a\n b","a #b","a:b","p,q","?","-","%Y","\t","\u00e9","\u2028\u2028","aa bb cc dd e"]
noncomputable def wE:List Str:=(["a","\n"," ",":","#","-","?",",","[","]","{","}","'","\"","\\","%","&","*","!","|",">",".","@","`","~","=","\t","\x00","\x07","\u0085","\u2028","\u00e9","😀","\ufeff","b","c"]:List String).map a'
theorem JK:ra.length=24/\∀s∈ra,jk 13 s=true:=(ai rfl (by decide+kernel))
theorem JL:wE.length=36/\∀s∈wE,jk 1 s=true:=(ai rfl (by decide+kernel))
theorem QE{a b:Str}{k j:Nat}(h:jk k a=true)(H:jk j b=true):jk (k+j) (a++b)=true:=by delta jk at*;simp only[di,decide_eq_true_eq]at*;refine(ai (by rw[de];exact bS 0x3182083211012 h.1 H.1) ?_);rw[show(a++b).cps.toList=a.cps.toList++b.cps.toList from la,List.all_append,h.2,H.2];rfl
theorem QF{s:Str}(h:jk 16 s=true):fE s:=by delta jk at h;simp only[di,decide_eq_true_eq,kd,bne_iff_ne]at h;exact⟨h.1,λc H=>(h.2 c H).1,λH=>(h.2 13 H).2.1 rfl,λH=>(h.2 8233 H).2.2 rfl⟩
theorem QG(n:Nat)(σ:af):bd aa (n+1) 782 [] σ (.o (aQ σ)) (cH σ (.u (ra.map .e))):=.d ⟨[],[],Hk,none⟩ (.inl rfl) (l':=[]) .b
theorem QH(n:Nat)(σ:af):bd aa (n+1) 789 [] σ (.o (aQ σ)) (cH σ (.u (wE.map .e))):=.d ⟨[],[],Hl,none⟩ (.inl rfl) (l':=[]) .b
theorem JM{n:Nat}{lm:ah}{σ:af}{f:Nat}{g:Addr}{xs:List V}{a:aq}{i:Int}{x:V}(h:aR aa n (.z (.G f) .j .j) lm σ (.o (aQ σ)) (cH σ (.u xs)))(H:aR aa n a lm (cH σ (.u xs)) (.q i) (cH σ (.u xs)))(hi:0<=i)(b:xs[i.toNat]? =au x):
  aR aa n (.m (.z (.G f) .j .j) a) lm σ x (cH σ (.u xs)):=λk c=>h _ (H _ (JJ (wC _ _) hi b c))
abbrev nz(N:Int)(v:Str):ah:=[(189,.q N),(20,.e v)]
theorem tL(N:Int)(m:Nat)(H:m<1000):hU N (m:Int)=false:=by
 delta hU;simp only[Bool.and_eq_false_iff,decide_eq_false_iff_not];left;split
 ·decide
 ·have:((m:Int).natAbs).log2<10:=by
   rw[Int.natAbs_natCast]
   by_cases h:m=0
   ·subst h;decide
   ·exact(Nat.log2_lt h).mpr (by exact cO ‹_›)
  lia
theorem QI{n:Nat}{lm:ah}{σ σ1 c:af}{a b:aq}{u t:Str}(H:aR aa n a lm σ (.e u) σ1)(d:aR aa n b lm σ1 (.e t) c)(h:u.length+t.length<=sizeLine):aR aa n (.H .Add a b) lm σ (.e (u++t)) c:=λk e=>H _ (d _ (ai h e))
theorem JN{k:Nat}{s:Str}(h:jk k s=true):s.length<=k:=by delta jk at h;simp only[di,decide_eq_true_eq]at h;exact h.1
theorem QJ{k j:Nat}{s:Str}(h:jk k s=true)(H:k<=j):jk j s=true:=by delta jk at*;simp only[di,decide_eq_true_eq]at*;exact(ai (ef h.1 H) h.2)
theorem JO{xs:List Str}{m:Nat}(h:xs.length=m)(N:Int)(H:0<m):∃s,s∈xs/\(xs.map V.e)[(N.fmod m).toNat]? =au (.e s):=by have:=(iX N m H).2;refine(aE (xs[(N.fmod m).toNat]'(by exact bc 0x11a2801a2811012 (aJ h.symm) this)) (wi _) ?_);rw[n7,dt (by exact bc 0x11a2801a2811012 (aJ h.symm) this)];rfl
theorem QK(n:Nat)(σ:af):∀(xs:List V) (N:Int) (v:Str) (Y:af) (j:Nat),jk j v=true->j+xs.length<=100->∃c b y,jk (j+xs.length) b=true/\gW aa (n+1) 190 Hr none xs (nz N v) (σ++Y) .a (nz c b) (σ++y)
 |[],N,v,Y,j,H,_=>(ju N v Y H (.j trivial))|x::xs,N,v,Y,j,H,d=>by
  have t:aN aa (n+1) Hq (nz N v++[(190,x)]) (σ++Y) (decide (0<N)) (σ++Y):=.b;rw[eb]at d;cases h:decide (0<N)
  ·rw[h]at t;refine kU (QK n σ xs N v Y (j+1) (QJ H (r9 j)) (aC 0x64b11a08864b1a180811 d)) λc b y p r=>?_
   refine(ju c b y (by rw[eb,show j+(xs.length+1)=j+1+xs.length by exact ea (aC 0x11a0881a18080) (aC 0x1a180811a0880)];exact p) (.p trivial ?_ r));exact .m (l1:=nz N v++[(190,x)]) (.d (.bq t .j) .j) (.p rfl (.p rfl .j))
  ·rw[h]at t;refine ap (JO JL.1 N (by decide)) λs o q=>?_
   have m:=JL.2 s o;have e:=JN m;have l:=JN H;refine kU (QK n σ xs (N.fdiv 36) (v++s) (Y++[.u (wE.map .e)]) (j+1) (QE H m) (aC 0x64b11a08864b1a180811 d)) λc b y p r=>?_
   refine(ju c b y (by rw[eb,show j+(xs.length+1)=j+1+xs.length by exact ea (aC 0x11a0881a18080) (aC 0x1a180811a0880)];exact p) (.p trivial ?_ r));have w:=bw;have E:=JM (n:=n+1) (lm:=nz N v++[(190,x)]) (σ:=σ++Y) (f:=192) (g:=0) (a:=.H .Mod (.d 189) (.q 36)) (i:=N.fmod 36) (x:=.e s) (λk u=>aP (QH n (σ++Y) k u)) (.fy (p:=(36:Int)≠0) (by decide)) (iX N 36 (by decide)).1 q;rw[wD,dx]at E;refine .m (l1:=nz (N.fdiv 36) (v++s)++[(190,x)]) (.d (.a t (av.a (QI (eg rfl) E (bS 0x1000000d01864b1a382812111a013 e l d)) (.fy (p:=(36:Int)≠0/\hU N 36=false) (ai (by decide) (tL N 36 (by decide)))))) .j) (.p rfl (.p rfl .j))
theorem QL(n:Nat)(N:Int)(σ:af)(h:bo (aQ σ) σ):∃v,fE v/\bd aa (n+2) 827 [.q N] σ (.e v) σ:=by
 refine ap (JO JK.1 N (by decide)) λs d j=>?_
 refine kU (QK n σ [.q 0,.q 1,.q 2] (N.fdiv 24) s [.u (ra.map .e)] 13 (JK.2 s d) (by decide)) λc b Y p r=>?_
 refine(aE b (QF p) (.a (fl:=.f (.e b)) (l':=[]) (σ1:=σ++Y) ⟨[189],[],Ht,au none⟩ (by kernel_rfl!) rfl (.inl rfl) ?_ (λk H=>?_)))
 ·have e:=JM (n:=n+1) (lm:=[(189,.q N)]) (σ:=σ) (f:=193) (g:=0) (a:=.H .Mod (.d 189) (.q 24)) (i:=N.fmod 24) (x:=.e s) (λk H=>aP (QG n σ k H)) (.fy (p:=(24:Int)≠0) (by decide)) (iX N 24 (by decide)).1 j;rw[wD]at e;refine av.a e (av.r (p:=(24:Int)≠0/\hU N 24=false) (ai (by decide) (tL N 24 (by decide))) (y:=Hs) (lm1:=nz (N.fdiv 24) s) (σ1:=σ++[.u (ra.map .e)]) ?_);refine .d (l1:=nz c b) (σ1:=σ++Y) (.o (v:=.v 3) (σ1:=σ++[aG.u (ra.map V.e)]) (xs:=[.q 0,.q 1,.q 2]) (.fy (p:=(0:Int)<=3/\(3:Int)<1000000) (by decide)) rfl r) (.m (l1:=nz c b) .b .j)
 ·show(bG _ _/\bo _ (eF (aQ σ) (σ++Y)))/\k _ (eF (aQ σ) (σ++Y));rw[JI];exact(ai ⟨.e _,h⟩ H)
theorem QM(O:aG):∀(σ:af) (o:aG),eY (aQ σ) O (cH σ o)=cH σ O
 |[],_=>rfl|x::σ,o=>congrArg (x::·) (QM O σ o)
noncomputable def JP:List Nat->ag
 |[]=> .j|f::r=> .d (.i (.w (.d 9) f) (.d f)) (JP r)
def JQ(v:Nat->V):List Nat->List (Nat×V)->List (Nat×V)
 |[],a=>a|f::r,a=>JQ v r (aU f (v f) a)
theorem QN{n:Nat}{lm:ah}{σ:af}{D:Addr}{c:kS}(b:Nat->V)(e:aH 9 lm=au (.k D (aQ σ)))(i:br D aa.h=au c):∀(F:List Nat) (A:List (Nat×V)),(∀f∈F,aH f lm=au (b f)/\cV f c.a=true)->A.length+F.length<=100->av aa n (JP F) lm (cH σ (.a A)) .a lm (cH σ (.a (JQ b F A)))
 |[],A,_,_=> .j|f::F,A,h,d=>by
  refine aV (h f (f8 ..)) λj m=>?_
  rw[eb]at d;have H:(aU f (b f) A).length<=A.length+1:=by
   have:∀l:List (Nat×V),(aU f (b f) l).length<=l.length+1:=λl=>by
    induction l with
    |nil=>exact ds _|cons a r I=>
     obtain⟨y,w⟩:=a;rw[lh];split
     ·exact r9 _
     ·exact m9 I
   exact this A
  refine .d (l1:=lm) (σ1:=cH σ (.a (aU f (b f) A))) (λk p=>?_) (QN b e i F _ (λg q=>h g (f9 _ q)) (bc 0x64b1281a082164b1a180812 d H));refine eg j (λv s=>jT aa (aZ aa n) (.w (.d 9) f) v lm s λl s=>k .a l s) ?_;refine eg e (λO s=>aj aa f O (b f) s λs=>k .a lm s) ?_;have t:k0 (aQ A) 800=true:=by rw[gO];exact rc (aC 0x320c064b1a180811 d)
  show(match cn (aQ σ) (cH σ (.a A))with
   |some o=>(match o with
    | .a F=>eM (br D aa.h) λc=>mA (cV f c.a&&k0 (aQ F) 800) (.h .g (eY (aQ σ) (.a (aU f (b f) F)) (cH σ (.a A))))|_=> .a:cp)
   |none=> .a:cp).bD λ_ s=>k .a lm s
  rw[wC];dsimp only;rw[i];delta eM;dsimp only;rw[m,t,QM];exact p _ .a
theorem QO{n:Nat}{σ:af}{D g:Addr}{c:kS}{m:gI}{args vs:List V}{ks f:List (Nat×V)}(h:br D aa.h=au c)(hi:c.e=au g)(H:br g aa.a=au m)(a:ll m.a m.b (.k D (aQ σ)::args) ks=au vs)(b:c.f=true)
  (r:bd aa n g vs (cH σ (.a [])) .g (cH σ (.a f)))(l1:fF (aQ σ) f)(l:bo (aQ σ) σ)(k:bu)(d:k (.p D f) σ):fS aa (aZ aa n) (.h D) args ks σ k:=by
 have e:pG aa (.h D) args ks (aQ σ)=.c D c.f g vs:=by show jY (br D aa.h) _=_;rw[h];show jY c.e _=_;rw[hi];show jY (br g aa.a) _=_;rw[H];show jY (ll m.a m.b _ ks) _=_;rw[a];rfl
 show kB aa (aZ aa n) (aQ σ) σ k (pG aa (.h D) args ks (aQ σ));rw[e];refine r _ ?_;rw[b];show(eM (cn (aQ σ) (cH σ (.a f))) _).bD k;rw[wC];show(fF (aQ σ) f/\bo (aQ σ) (eF (aQ σ) (cH σ (.a f))))/\k (.p D f) (eF (aQ σ) (cH σ (.a f)));rw[QD];exact(ai ⟨l1,l⟩ d)
theorem mB{n:Nat}{σ:af}{D g:Addr}{c:kS}(m:gI)(o:List Nat)(v:Nat->V){vs:List V}(h:m.c=JP o)(b:br g aa.a=au m)(d:e6 (aQ m.a) (aQ vs)=true)(H:m.iT=none)(e:br D aa.h=au c)(i:aH 9 (jC m.a vs)=au (.k D (aQ σ)))
  (a:∀f∈o,aH f (jC m.a vs)=au (v f)/\cV f c.a=true)(hn:o.length<=100):bd aa (n+1) g vs (cH σ (.a [])) .g (cH σ (.a (JQ v o []))):=
 .e m (h▸QN v i e o [] a (by simpa using hn)) b d H
def lp(n:Nat)(as ks:aq)(lm:ah)(σ:af)(vs:List V)(kvs:List (Nat×V))(σ1:af):Prop:=∀k:List V->List (Nat×V)->af->Prop,k vs kvs σ1->(ae aa (aZ aa n) as).c lm σ λvs s=>(ae aa (aZ aa n) ks).h lm s λkvs s=>k vs kvs s
theorem mC{n:Nat}{lm:ah}{σ σ1:af}{x:Nat}{D g:Addr}{c:kS}{m:gI}{as ks:aq}{args vs:List V}{kvs f:List (Nat×V)}(h:br x aa.b=au (.h D))(H:lp n as ks lm σ args kvs σ1)(a:br D aa.h=au c)(hi:c.e=au g)(b:br g aa.a=au m)(d:ll m.a m.b (.k D (aQ σ1)::args) kvs=au vs)(e:c.f=true)
  (r:bd aa n g vs (cH σ1 (.a [])) .g (cH σ1 (.a f)))(l1:∀m,fF m f)(l:bo (aQ σ1) σ1):aR aa n (.z (.G x) as ks) lm σ (.p D f) σ1:=λk i=>by
 show match br x aa.b with
  |some v=>(ae aa (aZ aa n) as).c lm σ λvs s=>(ae aa (aZ aa n) ks).h lm s λkvs s=>fS aa (aZ aa n) v vs kvs s k|none=>False
 rw[h];exact H _ (QO a hi b d e r (l1 _) l k i)
theorem QT{n:Nat}{lm:ah}{σ σ1:af}{as ks:aq}{s:Str}(H:lp (n+1) as ks lm σ [.e s] [] σ1)(l:bo (aQ σ1) σ1):aR aa (n+1) (.z (.G 106) as ks) lm σ ((ay.b (.h s)).a) σ1:=
 mC (D:=197) (g:=78) (c:=⟨[12,10,11],[],[],[197,81,59],au 78,true⟩) (m:=⟨[9,12,10,11],[.g,.g],xZ,ct⟩) (args:=[.e s]) (kvs:=[]) (vs:=[.k 197 (aQ σ1),.e s,.g,.g]) (by kernel_rfl!) H (by kernel_rfl!) rfl (by kernel_rfl!) (by kernel_rfl!) rfl
  (mB ⟨[9,12,10,11],[.g,.g],xZ,ct⟩ [12,10,11] (λx=>bif e6 x 12 then .e s else .g) rfl (by kernel_rfl!) rfl rfl (c:=⟨[12,10,11],[],[],[197,81,59],au 78,true⟩) (by kernel_rfl!) rfl (λf h=>by
  rcases bv h with rfl|h
  ·exact(ai rfl rfl)
  rcases bv h with rfl|h
  ·exact(ai rfl rfl)
  rcases bv h with rfl|h
  ·exact(ai rfl rfl)
  cases h
  ) (by decide)) (λm=> .p (.e s) (.p .g (.p .g .j))) l
theorem QU{n:Nat}{lm:ah}{σ σ1:af}{as ks:aq}{a t st:Option Str}{i0 i1:Bool}{v:Str}(H:lp (n+1) as ks lm σ [bb a,bb t,.D [.l i0,.l i1],.e v] [(21,bb st)] σ1)(l:bo (aQ σ1) σ1):aR aa (n+1) (.z (.G 108) as ks) lm σ ((ay.b (.b a t i0 i1 v st)).a) σ1:=
 mC (D:=217) (g:=214) (c:=⟨[12,13,14,20,10,11,21],[],[],[217,81,59],au 214,true⟩) (m:=⟨[9,12,13,14,20,10,11,21],[.g,.g,.g],ye,ct⟩) (args:=[bb a,bb t,.D [.l i0,.l i1],.e v]) (kvs:=[(21,bb st)]) (vs:=[.k 217 (aQ σ1),bb a,bb t,.D [.l i0,.l i1],.e v,.g,.g,bb st]) (by kernel_rfl!) H (by kernel_rfl!) rfl (by kernel_rfl!) (by kernel_rfl!) rfl
  (mB ⟨[9,12,13,14,20,10,11,21],[.g,.g,.g],ye,ct⟩ [12,13,14,20,10,11,21] (λx=>bif e6 x 12 then bb a else bif e6 x 13 then bb t else bif e6 x 14 then .D [.l i0,.l i1]else bif e6 x 20 then .e v else bif e6 x 21 then bb st else .g) rfl (by kernel_rfl!) rfl rfl (c:=⟨[12,13,14,20,10,11,21],[],[],[217,81,59],au 214,true⟩) (by kernel_rfl!) rfl (λf h=>by
  rcases bv h with rfl|h
  ·exact(ai rfl rfl)
  rcases bv h with rfl|h
  ·exact(ai rfl rfl)
  rcases bv h with rfl|h
  ·exact(ai rfl rfl)
  rcases bv h with rfl|h
  ·exact(ai rfl rfl)
  rcases bv h with rfl|h
  ·exact(ai rfl rfl)
  rcases bv h with rfl|h
  ·exact(ai rfl rfl)
  rcases bv h with rfl|h
  ·exact(ai rfl rfl)
  cases h
  ) (by decide)) (λm=> .p (jj a) (.p (jj t) (.p (.D (.p (.l i0) (.p (.l i1) .j))) (.p (.e v) (.p .g (.p .g (.p (jj st) .j))))))) l
theorem QV{n:Nat}{lm:ah}{σ σ1:af}{as ks:aq}{a t:Option Str}{i f:Bool}(H:lp (n+1) as ks lm σ [bb a,bb t,.l i] [(15,.l f)] σ1)(l:bo (aQ σ1) σ1):aR aa (n+1) (.z (.G 64) as ks) lm σ ((ay.b (.c a t i f)).a) σ1:=
 mC (D:=229) (g:=98) (c:=⟨[12,13,14,10,11,15],[],[],[229,101,81,59],au 98,true⟩) (m:=⟨[9,12,13,14,10,11,15],[.g,.g,.g],sB,ct⟩) (args:=[bb a,bb t,.l i]) (kvs:=[(15,.l f)]) (vs:=[.k 229 (aQ σ1),bb a,bb t,.l i,.g,.g,.l f]) (by kernel_rfl!) H (by kernel_rfl!) rfl (by kernel_rfl!) (by kernel_rfl!) rfl
  (mB ⟨[9,12,13,14,10,11,15],[.g,.g,.g],sB,ct⟩ [12,13,14,10,11,15] (λx=>bif e6 x 12 then bb a else bif e6 x 13 then bb t else bif e6 x 14 then .l i else bif e6 x 15 then .l f else .g) rfl (by kernel_rfl!) rfl rfl (c:=⟨[12,13,14,10,11,15],[],[],[229,101,81,59],au 98,true⟩) (by kernel_rfl!) rfl (λf h=>by
  rcases bv h with rfl|h
  ·exact(ai rfl rfl)
  rcases bv h with rfl|h
  ·exact(ai rfl rfl)
  rcases bv h with rfl|h
  ·exact(ai rfl rfl)
  rcases bv h with rfl|h
  ·exact(ai rfl rfl)
  rcases bv h with rfl|h
  ·exact(ai rfl rfl)
  rcases bv h with rfl|h
  ·exact(ai rfl rfl)
  cases h
  ) (by decide)) (λm=> .p (jj a) (.p (jj t) (.p (.l i) (.p .g (.p .g (.p (.l f) .j)))))) l
theorem QW{n:Nat}{lm:ah}{σ σ1:af}{as ks:aq}{a t:Option Str}{i f:Bool}(H:lp (n+1) as ks lm σ [bb a,bb t,.l i] [(15,.l f)] σ1)(l:bo (aQ σ1) σ1):aR aa (n+1) (.z (.G 65) as ks) lm σ ((ay.b (.d a t i f)).a) σ1:=
 mC (D:=253) (g:=98) (c:=⟨[12,13,14,10,11,15],[],[],[253,101,81,59],au 98,true⟩) (m:=⟨[9,12,13,14,10,11,15],[.g,.g,.g],sB,ct⟩) (args:=[bb a,bb t,.l i]) (kvs:=[(15,.l f)]) (vs:=[.k 253 (aQ σ1),bb a,bb t,.l i,.g,.g,.l f]) (by kernel_rfl!) H (by kernel_rfl!) rfl (by kernel_rfl!) (by kernel_rfl!) rfl
  (mB ⟨[9,12,13,14,10,11,15],[.g,.g,.g],sB,ct⟩ [12,13,14,10,11,15] (λx=>bif e6 x 12 then bb a else bif e6 x 13 then bb t else bif e6 x 14 then .l i else bif e6 x 15 then .l f else .g) rfl (by kernel_rfl!) rfl rfl (c:=⟨[12,13,14,10,11,15],[],[],[253,101,81,59],au 98,true⟩) (by kernel_rfl!) rfl (λf h=>by
  rcases bv h with rfl|h
  ·exact(ai rfl rfl)
  rcases bv h with rfl|h
  ·exact(ai rfl rfl)
  rcases bv h with rfl|h
  ·exact(ai rfl rfl)
  rcases bv h with rfl|h
  ·exact(ai rfl rfl)
  rcases bv h with rfl|h
  ·exact(ai rfl rfl)
  rcases bv h with rfl|h
  ·exact(ai rfl rfl)
  cases h
  ) (by decide)) (λm=> .p (jj a) (.p (jj t) (.p (.l i) (.p .g (.p .g (.p (.l f) .j)))))) l
theorem QX{n:Nat}{lm:ah}{σ σ1:af}{as ks:aq}(H:lp (n+1) as ks lm σ [] [] σ1)(l:bo (aQ σ1) σ1):aR aa (n+1) (.z (.G 121) as ks) lm σ (ay.fQ.a) σ1:=
 mC (D:=241) (g:=49) (c:=⟨[10,11],[],[],[241,113,59],au 49,true⟩) (m:=⟨[9,10,11],[.g,.g],oX,ct⟩) (args:=[]) (kvs:=[]) (vs:=[.k 241 (aQ σ1),.g,.g]) (by kernel_rfl!) H (by kernel_rfl!) rfl (by kernel_rfl!) (by kernel_rfl!) rfl
  (mB ⟨[9,10,11],[.g,.g],oX,ct⟩ [10,11] (λx=> .g) rfl (by kernel_rfl!) rfl rfl (c:=⟨[10,11],[],[],[241,113,59],au 49,true⟩) (by kernel_rfl!) rfl (λf h=>by
  rcases bv h with rfl|h
  ·exact(ai rfl rfl)
  rcases bv h with rfl|h
  ·exact(ai rfl rfl)
  cases h
  ) (by decide)) (λm=> .p .g (.p .g .j)) l
theorem QY{n:Nat}{lm:ah}{σ σ1:af}{as ks:aq}(H:lp (n+1) as ks lm σ [] [] σ1)(l:bo (aQ σ1) σ1):aR aa (n+1) (.z (.G 124) as ks) lm σ (ay.fR.a) σ1:=
 mC (D:=265) (g:=49) (c:=⟨[10,11],[],[],[265,113,59],au 49,true⟩) (m:=⟨[9,10,11],[.g,.g],oX,ct⟩) (args:=[]) (kvs:=[]) (vs:=[.k 265 (aQ σ1),.g,.g]) (by kernel_rfl!) H (by kernel_rfl!) rfl (by kernel_rfl!) (by kernel_rfl!) rfl
  (mB ⟨[9,10,11],[.g,.g],oX,ct⟩ [10,11] (λx=> .g) rfl (by kernel_rfl!) rfl rfl (c:=⟨[10,11],[],[],[265,113,59],au 49,true⟩) (by kernel_rfl!) rfl (λf h=>by
  rcases bv h with rfl|h
  ·exact(ai rfl rfl)
  rcases bv h with rfl|h
  ·exact(ai rfl rfl)
  cases h
  ) (by decide)) (λm=> .p .g (.p .g .j)) l
theorem JU{n:Nat}{lm:ah}{σ σ1:af}{as ks:aq}(H:lp (n+1) as ks lm σ [] [] σ1)(l:bo (aQ σ1) σ1):aR aa (n+1) (.z (.G 72) as ks) lm σ (ay.g.a) σ1:=
 mC (D:=145) (g:=49) (c:=⟨[10,11],[],[],[145,59],au 49,true⟩) (m:=⟨[9,10,11],[.g,.g],oX,ct⟩) (args:=[]) (kvs:=[]) (vs:=[.k 145 (aQ σ1),.g,.g]) (by kernel_rfl!) H (by kernel_rfl!) rfl (by kernel_rfl!) (by kernel_rfl!) rfl
  (mB ⟨[9,10,11],[.g,.g],oX,ct⟩ [10,11] (λx=> .g) rfl (by kernel_rfl!) rfl rfl (c:=⟨[10,11],[],[],[145,59],au 49,true⟩) (by kernel_rfl!) rfl (λf h=>by
  rcases bv h with rfl|h
  ·exact(ai rfl rfl)
  rcases bv h with rfl|h
  ·exact(ai rfl rfl)
  cases h
  ) (by decide)) (λm=> .p .g (.p .g .j)) l
theorem JV{n:Nat}{lm:ah}{σ σ1:af}{as ks:aq}(H:lp (n+1) as ks lm σ [] [] σ1)(l:bo (aQ σ1) σ1):aR aa (n+1) (.z (.G 75) as ks) lm σ (ay.i.a) σ1:=
 mC (D:=133) (g:=130) (c:=⟨[10,11,16],[],[],[133,59],au 130,true⟩) (m:=⟨[9,10,11,16],[.g,.g,.g],x_,ct⟩) (args:=[]) (kvs:=[]) (vs:=[.k 133 (aQ σ1),.g,.g,.g]) (by kernel_rfl!) H (by kernel_rfl!) rfl (by kernel_rfl!) (by kernel_rfl!) rfl
  (mB ⟨[9,10,11,16],[.g,.g,.g],x_,ct⟩ [10,11,16] (λx=> .g) rfl (by kernel_rfl!) rfl rfl (c:=⟨[10,11,16],[],[],[133,59],au 130,true⟩) (by kernel_rfl!) rfl (λf h=>by
  rcases bv h with rfl|h
  ·exact(ai rfl rfl)
  rcases bv h with rfl|h
  ·exact(ai rfl rfl)
  rcases bv h with rfl|h
  ·exact(ai rfl rfl)
  cases h
  ) (by decide)) (λm=> .p .g (.p .g (.p .g .j))) l
theorem QZ{n:Nat}{lm:ah}{σ σ1:af}{as ks:aq}{ex:Bool}(H:lp (n+1) as ks lm σ [] [(17,.l ex)] σ1)(l:bo (aQ σ1) σ1):aR aa (n+1) (.z (.G 71) as ks) lm σ ((ay.d ex).a) σ1:=
 mC (D:=185) (g:=182) (c:=⟨[10,11,17],[],[],[185,59],au 182,true⟩) (m:=⟨[9,10,11,17],[.g,.g,.g],yd,ct⟩) (args:=[]) (kvs:=[(17,.l ex)]) (vs:=[.k 185 (aQ σ1),.g,.g,.l ex]) (by kernel_rfl!) H (by kernel_rfl!) rfl (by kernel_rfl!) (by kernel_rfl!) rfl
  (mB ⟨[9,10,11,17],[.g,.g,.g],yd,ct⟩ [10,11,17] (λx=>bif e6 x 17 then .l ex else .g) rfl (by kernel_rfl!) rfl rfl (c:=⟨[10,11,17],[],[],[185,59],au 182,true⟩) (by kernel_rfl!) rfl (λf h=>by
  rcases bv h with rfl|h
  ·exact(ai rfl rfl)
  rcases bv h with rfl|h
  ·exact(ai rfl rfl)
  rcases bv h with rfl|h
  ·exact(ai rfl rfl)
  cases h
  ) (by decide)) (λm=> .p .g (.p .g (.p (.l ex) .j))) l
theorem Q0{n:Nat}{lm:ah}{σ σ1:af}{as ks:aq}{ex:Bool}{v:Option (_root_.Fin 3)}{g:Option Bool}(H:lp (n+1) as ks lm σ [] [(17,.l ex),(18,bC v),(19,bT g)] σ1)(l:bo (aQ σ1) σ1):aR aa (n+1) (.z (.G 61) as ks) lm σ ((ay.c ex (bC v) (bT g)).a) σ1:=
 mC (D:=165) (g:=162) (c:=⟨[10,11,17,18,19],[],[],[165,59],au 162,true⟩) (m:=⟨[9,10,11,17,18,19],[.g,.g,.g,.g,.g],yc,ct⟩) (args:=[]) (kvs:=[(17,.l ex),(18,bC v),(19,bT g)]) (vs:=[.k 165 (aQ σ1),.g,.g,.l ex,bC v,bT g]) (by kernel_rfl!) H (by kernel_rfl!) rfl (by kernel_rfl!) (by kernel_rfl!) rfl
  (mB ⟨[9,10,11,17,18,19],[.g,.g,.g,.g,.g],yc,ct⟩ [10,11,17,18,19] (λx=>bif e6 x 17 then .l ex else bif e6 x 18 then bC v else bif e6 x 19 then bT g else .g) rfl (by kernel_rfl!) rfl rfl (c:=⟨[10,11,17,18,19],[],[],[165,59],au 162,true⟩) (by kernel_rfl!) rfl (λf h=>by
  rcases bv h with rfl|h
  ·exact(ai rfl rfl)
  rcases bv h with rfl|h
  ·exact(ai rfl rfl)
  rcases bv h with rfl|h
  ·exact(ai rfl rfl)
  rcases bv h with rfl|h
  ·exact(ai rfl rfl)
  rcases bv h with rfl|h
  ·exact(ai rfl rfl)
  cases h
  ) (by decide)) (λm=> .p .g (.p .g (.p (.l ex) (.p (Jr v) (.p (Js g) .j))))) l
noncomputable def dS:List (Option Str):=([none,au "t:b",au "!",au "tag:yaml.org,2002:s",au "!n",au "w"]:List (Option String)).map (Zs a')
noncomputable def lq:List (Option Str):=([none,au "'",au "\"",au "|",au ">"]:List (Option String)).map (Zs a')
noncomputable def iH:List (Bool×Bool):=[(true,true),(true,false),(false,true),(false,false)]
noncomputable def gm(p:Bool×Bool):V:=.D [.l p.1,.l p.2]
noncomputable def kC:List (Option Str):=([none,au "a1",au "x-y_",au "0"]:List (Option String)).map (Zs a')
noncomputable def pH:List Str:=(["a1","x-y_","0","Z9"]:List String).map a'
theorem JW(n:Nat)(σ:af):bd aa (n+1) 810 [] σ (.o (aQ σ)) (cH σ (.u (dS.map bb))):=.d ⟨[],[],Ho,none⟩ (.inl rfl) (l':=[]) .b
theorem Q1(n:Nat)(σ:af):bd aa (n+1) 796 [] σ (.o (aQ σ)) (cH σ (.u (lq.map bb))):=.d ⟨[],[],Hm,none⟩ (.inl rfl) (l':=[]) .b
theorem Q2(n:Nat)(σ:af):bd aa (n+1) 803 [] σ (.o (aQ σ)) (cH σ (.u (iH.map gm))):=.d ⟨[],[],Hn,none⟩ (.inl rfl) (l':=[]) .b
theorem lr{α:Type}(f:α->V){xs:List α}{m:Nat}(h:xs.length=m)(N:Int)(H:0<m):∃x,x∈xs/\(xs.map f)[(N.fmod m).toNat]? =au (f x):=by have:=(iX N m H).2;refine(aE (xs[(N.fmod m).toNat]'(by exact bc 0x11a2801a2811012 (aJ h.symm) this)) (wi _) ?_);rw[n7,dt (by exact bc 0x11a2801a2811012 (aJ h.symm) this)];rfl
theorem A7:∀t∈dS,∀s,t=au s->∀g,px (gN g) (pF g) s:=λt H s a g=>by
 subst a;have:=QA g;rcases bv H with h|H
 ·(injection h;done)
 rcases bv H with h|H
 ·(injection h with z;subst z);exact .inr this.1
 rcases bv H with h|H
 ·(injection h with z;subst z);exact .inl rfl
 rcases bv H with h|H
 ·(injection h with z;subst z);exact .inr this.2.1
 rcases bv H with h|H
 ·(injection h with z;subst z);exact .inr this.2.2.1
 rcases bv H with h|H
 ·(injection h with z;subst z);exact .inr this.2.2.2
 cases H
theorem Q3:∀t∈kC,∀s,t=au s->gz s:=λt H s a=>by
 subst a;have:=JH;rcases bv H with h|H
 ·(injection h;done)
 rcases bv H with h|H
 ·(injection h with z;subst z);exact this.1
 rcases bv H with h|H
 ·(injection h with z;subst z);exact this.2.1
 rcases bv H with h|H
 ·(injection h with z;subst z);exact this.2.2.1
 cases H
theorem Q4:∀s∈pH,gz s:=λs H=>by
 have:=JH;rcases bv H with h|H
 ·subst h;exact this.1
 rcases bv H with h|H
 ·subst h;exact this.2.1
 rcases bv H with h|H
 ·subst h;exact this.2.2.1
 rcases bv H with h|H
 ·subst h;exact this.2.2.2
 cases H
theorem rd{n:Nat}{lm:ah}{tp:List Int}{X:af}(H:bo (aQ X+1) X)(a:aH 188 lm=au (.o 0)):aR aa (n+1) (.z (.G 202) (.p (.d 188) .j) .j) lm (cD tp::X) (.q (el tp)) (cD tp.tail::X):=λk b=>by
 have h:=QC n tp X H k b;have c:(ae aa (aZ aa (n+1)) (.d 188)).az lm (cD tp::X) λv s=>fS aa (aZ aa (n+1)) (.cy 820) [v] [] s k:=eg a (λv s=>fS aa (aZ aa (n+1)) (.cy 820) [v] [] s k) (aP h)
 exact aP c
def bn(tp:List Int)(q:List ay)(Z:af):af:=cD tp::aG.u (q.map ay.a)::Z
theorem bn.f{tp:List Int}{q:List ay}{Z:af}(h:∀x∈q,x.h)(H:∀m,bo m Z)(m:Nat):bo m (bn tp q Z):=.p (.u (mz tp)) (.p (.u (mt h)) (H m))
theorem JX{n:Nat}{lm:ah}{σ σ1 d:af}{c a b:aq}{t:Bool}{v:V}(H:aN aa n c lm σ t σ1)(e:t=true->aR aa n a lm σ1 v d)(f:t=false->aR aa n b lm σ1 v d):aR aa n (.B c a b) lm σ v d:=λk h=>H _ (pB (λq=>e q k h) λq=>f q k h)
noncomputable abbrev A8(d:Int):ah:=[(188,.o 0),(194,.q d),(55,.o 1)]
abbrev nA(d A:Int):ah:=A8 d++[(195,.q A)]
theorem Q5(n:Nat)(d:Int)(tp:List Int)(q:List ay)(Z:af)(H:∀x∈q,x.h)(a:∀m,bo m Z):∃A tp1,aR aa (n+1) (.B (.A (.d 188) (.y .Eq (.d 194) (.q 3))) (.z (.G 202) (.p (.d 188) .j) .j) (.q 2)) (A8 d) (bn tp q Z) (.q A) (bn tp1 q Z):=by
 have t:aN aa (n+1) (.A (.d 188) (.y .Eq (.d 194) (.q 3))) (A8 d) (bn tp q Z) (!(tp.map V.q).isEmpty||d==3) (bn tp q Z):=eK .b .b;have b:∀m,bo m (aG.u (q.map ay.a)::Z):=λm=> .p (.u (mt H)) (a m)
 cases h:(!(tp.map V.q).isEmpty||d==3)
 ·rw[h]at t;exact(oz 2 tp (JX t (λq=>by(injection q;done)) λ_=> .b))
 ·rw[h]at t;exact(oz _ _ (JX t (λ_=>rd (b _) rfl) λq=>by(injection q;done)))
theorem re{n:Nat}{lm:ah}{tp:List Int}{q:List ay}{Z Z1:af}{tp1:List Int}{a:aq}{y:ay}{rest:ag}{fl:bH}{l':ah}{σ':af}(h:aH 55 lm=au (.o 1))(H:aR aa n a lm (bn tp q Z) y.a (bn tp1 q Z1))(g:q.length<1000)(r:av aa n rest lm (bn tp1 (q++[y]) Z1) fl l' σ'):
  av aa n (.d (.l (.E (.d 55) 0 (.p a .j) .j)) rest) lm (bn tp q Z) fl l' σ':=by
 refine .d (l1:=lm) (σ1:=bn tp1 (q++[y]) Z1) (λk b=>?_) r;have c:(q.map ay.a).length<sizeLine:=by rw[hZ,bw];exact cO ‹_›
 have d:(ae aa (aZ aa n) a).az lm (bn tp q Z) λv s=>fS aa (aZ aa n) (.j .a) [.o 1,v] [] s λ_ s=>k .a lm s:=H _ (by
  have:k .a lm (cD tp1::aG.u (q.map ay.a++[y.a])::Z1):=by have:=b lm .a;rw[bn,j0]at this;exact this
  exact aP (a:=(q.map ay.a).length<sizeLine/\k .a lm (cD tp1::aG.u (q.map ay.a++[y.a])::Z1)) (ai c this))
 exact eg (n:=n) h (λv s=>oD aa 0 v s λf first s=>(ae aa (aZ aa n) (.p a .j)).c lm s λe s=>(ae aa (aZ aa n) .j).h lm s λK s=>fS aa (aZ aa n) f (jD first e) K s λ_ s=>k .a lm s) (aP d)
theorem mD{n:Nat}{lm:ah}{σ:af}{xs:List V}{l a:aq}{i:Int}{x:V}(h:aR aa n l lm σ (.o (aQ σ)) (cH σ (.u xs)))(H:aR aa n a lm (cH σ (.u xs)) (.q i) (cH σ (.u xs)))(hi:0<=i)(b:xs[i.toNat]? =au x):
  aR aa n (.m l a) lm σ x (cH σ (.u xs)):=λk c=>h _ (H _ (JJ (wC _ _) hi b c))
theorem lt{n:Nat}{lm:ah}{σ:af}{x:Nat}{N:Int}(p q:Nat)(H:p≠0/\p<1000)(b:q≠0)(h:aH x lm=au (.q N)):aR aa n (.H .Mod (.H .FloorDiv (.d x) (.q (p:Int))) (.q (q:Int))) lm σ (.q ((N.fdiv p).fmod q)) σ:=λk a=>eg (n:=n) h (λv s=>(ae aa (aZ aa n) (.q (p:Int))).az lm s λu s=>pe .FloorDiv v u s λz s=>(ae aa (aZ aa n) (.q (q:Int))).az lm s λu s=>pe .Mod z u s k) ⟨(ai (by lia) (tL N p H.2)),by lia,a⟩
theorem oE{n:Nat}{lm:ah}{σ:af}{x:Nat}{N:Int}(q:Nat)(a:q≠0)(h:aH x lm=au (.q N)):aR aa n (.H .Mod (.d x) (.q (q:Int))) lm σ (.q (N.fmod q)) σ:=λk H=>eg (n:=n) h (λv s=>(ae aa (aZ aa n) (.q (q:Int))).az lm s λu s=>pe .Mod v u s k) (ai (by lia) H)
theorem wF{m:Nat}:∀l:List (Option Str),ck m (l.map bb)
 |[]=> .j|x::r=> .p (jj x) (wF r)
theorem Q6(n:Nat)(d A:Int)(tp:List Int)(q:List ay)(Z:af)(h:∀x∈q,x.h)(H:∀m,bo m Z)(a:q.length<1000):∃s Y,gz s/\av aa (n+1) HK (nA d A) (bn tp q Z) (.f .g) [] (bn tp (q++[.b (.h s)]) (Z++Y)):=by
 refine ap (lr V.e (xs:=pH) (m:=4) rfl (A.fdiv 5) (by decide)) λs b c=>?_
 refine(cg s [.u (pH.map .e)] (Q4 s b) ?_);have e:aR aa (n+1) (.m (.u (.p (.e "a1") (.p (.e "x-y_") (.p (.e "0") (.p (.e "Z9") .j))))) (.H .Mod (.H .FloorDiv (.d 195) (.q 5)) (.q 4))) (nA d A) (bn tp q Z) (.e s) (cH (bn tp q Z) (.u (pH.map .e))):=mD .b (lt 5 4 (by decide) (by decide) rfl) (iX _ 4 (by decide)).1 c
 have f:cH (bn tp q Z) (.u (pH.map .e))=bn tp q (Z++[.u (pH.map .e)]):=by rw[wD];rfl
 rw[f]at e;have l:=bn.f (tp:=tp) h (Z:=Z++[.u (pH.map V.e)]) (λm=>jA (H m) (.p (.u (Ju _)) .j));have E:=QT (n:=n) (lm:=nA d A) (σ:=bn tp q Z) (as:=.p (.m (.u (.p (.e "a1") (.p (.e "x-y_") (.p (.e "0") (.p (.e "Z9") .j))))) (.H .Mod (.H .FloorDiv (.d 195) (.q 5)) (.q 4))) .j) (ks:=.j) (s:=s) (λk g=>e (λv s=>k [v] [] s) g) (l _);exact re (y:=.b (.h s)) rfl E a (.m (l1:=nA d A) .b .j)
abbrev jZ(d A:Int)(a:Option Str)(b:Int):ah:=nA d A++[(12,bb a),(200,.q b)]
abbrev nB(d A:Int)(a:Option Str)(b:Int)(t:Option Str)(p:Bool×Bool):ah:=jZ d A a b++[(13,bb t),(204,gm p)]
theorem Q7(n:Nat)(d A b:Int)(a t:Option Str)(P:Bool×Bool)(σ:af):∃p:Bool×Bool,(t=none->p.1=true\/p.2=true)/\av aa n (.d (.B HG HH .j) .j) (nB d A a b t P) σ .a (nB d A a b t p) σ:=by
 cases t with
 |some s=>exact(aE P (λh=>(by(injection h;done))) (.d (.e .j) .j))|none=>
  obtain⟨c,e⟩:=P;cases c<;>cases e
  ·exact(aE (false,true) (λ_=> .inr rfl) (.d (.f (σ':=σ) (l':=nB d A a b none (false,true)) .b) .j))
  ·exact(aE (false,true) (λ_=> .inr rfl) (.d (.e .j) .j))
  ·exact(aE (true,false) (λ_=> .inl rfl) (.d (.e .j) .j))
  ·exact(aE (true,true) (λ_=> .inl rfl) (.d (.e .j) .j))
theorem Q8{n:Nat}{lm:ah}{σ σ1:af}{a:aq}{N:Int}(h:aR aa (n+2) a lm σ (.q N) σ1)(l:bo (aQ σ1) σ1):∃v,fE v/\aR aa (n+2) (.z (.G 203) (.p a .j) .j) lm σ (.e v) σ1:=by
 refine ap (QL n N σ1 l) λv H r=>?_
 refine(aE v H (λk b=>?_));have c:(ae aa (aZ aa (n+2)) a).az lm σ λv s=>fS aa (aZ aa (n+2)) (.cy 827) [v] [] s k:=h _ (aP (r k b))
 exact aP c
theorem Q9:∀s∈lq,kZ s:=λs H=>by
 rcases bv H with h|H
 ·exact .inl h
 rcases bv H with h|H
 ·exact .inr (.inl h)
 rcases bv H with h|H
 ·exact .inr (.inr (.inl h))
 rcases bv H with h|H
 ·exact .inr (.inr (.inr (.inl h)))
 rcases bv H with h|H
 ·exact .inr (.inr (.inr (.inr h)))
 cases H
theorem Q_{m:Nat}:∀l:List (Bool×Bool),ck m (l.map gm)
 |[]=> .j|x::r=> .p (.D (.p (.l _) (.p (.l _) .j))) (Q_ r)
theorem tM(tp:List Int)(q:List ay)(Z:af)(o:aG):cH (bn tp q Z) o=bn tp q (Z++[o]):=by rw[wD];rfl
theorem Rb(n:Nat)(d A b:Int)(c:Option Str)(tp:List Int)(q:List ay)(Z:af)(e:∀x∈q,x.h)(j:∀m,bo m Z)(l:q.length<1000):∃t i0 i1 v st tp1 Y,t∈dS/\fE v/\kZ st/\(t=none->i0=true\/i1=true)/\
  av aa (n+2) HI (jZ d A c b) (bn tp q Z) (.f .g) [] (bn tp1 (q++[.b (.b c t i0 i1 v st)]) (Z++Y)):=by
 refine ap (lr bb (xs:=dS) (m:=6) rfl (b.fdiv 20) (by decide)) λt o r=>?_
 refine ap (lr gm (xs:=iH) (m:=4) rfl (b.fdiv 5) (by decide)) λP w f=>?_
 refine ap (lr bb (xs:=lq) (m:=5) rfl b (by decide)) λst g i=>?_
 refine ap (Q7 (n+2) d A b c t P (bn tp q (Z++[aG.u (dS.map bb)]++[aG.u (iH.map gm)]))) λp H R=>?_
 have z:∀m,bo m (Z++[aG.u (dS.map bb)]++[aG.u (iH.map gm)]):=λm=>jA (jA (j m) (.p (.u (wF _)) .j)) (.p (.u (Q_ _)) .j)
 have B:∀m,bo m (Z++[aG.u (dS.map bb)]++[aG.u (iH.map gm)]++[aG.u (lq.map bb)]):=λm=>jA (z m) (.p (.u (wF _)) .j)
 have E:aR aa (n+2) (.m (.z (.G 201) .j .j) (.H .Mod (.H .FloorDiv (.d 200) (.q 20)) (.q 6))) (jZ d A c b) (bn tp q Z) (bb t) (bn tp q (Z++[aG.u (dS.map bb)])):=by rw[←tM tp q Z (aG.u (dS.map bb))];exact mD (λk h=>aP (JW (n+1) (bn tp q Z) k h)) (lt 20 6 (by decide) (by decide) rfl) (iX _ 6 (by decide)).1 r
 have C:aR aa (n+2) (.m (.z (.G 206) .j .j) (.H .Mod (.H .FloorDiv (.d 200) (.q 5)) (.q 4))) (jZ d A c b++[(13,bb t)]) (bn tp q (Z++[aG.u (dS.map bb)])) (gm P) (bn tp q (Z++[aG.u (dS.map bb)]++[aG.u (iH.map gm)])):=by rw[←tM tp q (Z++[aG.u (dS.map bb)]) (aG.u (iH.map gm))];exact mD (λk h=>aP (Q2 (n+1) _ k h)) (lt 5 4 (by decide) (by decide) rfl) (iX _ 4 (by decide)).1 f
 have D:∀m,bo m (aG.u (q.map ay.a)::(Z++[aG.u (dS.map bb)]++[aG.u (iH.map gm)])):=λm=> .p (.u (mt e)) (z m)
 refine ap (Q8 (n:=n) (rd (n:=n+1) (lm:=nB d A c b t p) (tp:=tp) (D _) rfl) (bn.f (tp:=tp.tail) e z _)) λv F G=>?_
 have I:aR aa (n+2) (.m (.z (.G 205) .j .j) (.H .Mod (.d 200) (.q 5))) (nB d A c b t p) (bn tp.tail q (Z++[aG.u (dS.map bb)]++[aG.u (iH.map gm)])) (bb st) (bn tp.tail q (Z++[aG.u (dS.map bb)]++[aG.u (iH.map gm)]++[aG.u (lq.map bb)])):=by rw[←tM tp.tail q (Z++[aG.u (dS.map bb)]++[aG.u (iH.map gm)]) (aG.u (lq.map bb))];exact mD (λk h=>aP (Q1 (n+1) _ k h)) (oE 5 (by decide) rfl) (iX _ 5 (by decide)).1 i
 have J:=QU (n:=n+1) (lm:=nB d A c b t p) (σ:=bn tp q (Z++[aG.u (dS.map bb)]++[aG.u (iH.map gm)])) (as:=.p (.d 12) (.p (.d 13) (.p (.d 204) (.p (.z (.G 203) (.p (.z (.G 202) (.p (.d 188) .j) .j) .j) .j) .j))))
  (ks:=.I 21 (.m (.z (.G 205) .j .j) (.H .Mod (.d 200) (.q 5))) .j) (a:=c) (t:=t) (st:=st) (i0:=p.1) (i1:=p.2) (v:=v) (λk h=>aP (G (λv s=>(ae aa (aZ aa (n+2)) (.m (.z (.G 205) .j .j) (.H .Mod (.d 200) (.q 5)))).az (nB d A c b t p) s λu s=>k [bb c,bb t,gm p,v] [(21,u)] s) (I (λu s=>k [bb c,bb t,gm p,.e v] [(21,u)] s) h))) (bn.f (tp:=tp.tail) e B _)
 refine⟨t,p.1,p.2,v,st,tp.tail,[aG.u (dS.map bb),aG.u (iH.map gm),aG.u (lq.map bb)],o,F,(Q9 st g),H,?_⟩;refine av.a E (av.a C (av.aW R ?_));have:=re (n:=n+2) (tp1:=tp.tail) (Z1:=Z++[aG.u (dS.map bb)]++[aG.u (iH.map gm)]++[aG.u (lq.map bb)]) (σ':=bn tp.tail (q++[.b (.b c t p.1 p.2 v st)]) (Z++[aG.u (dS.map bb)]++[aG.u (iH.map gm)]++[aG.u (lq.map bb)])) (rest:=HF) (fl:=.f .g) (l':=[]) (y:=.b (.b c t p.1 p.2 v st)) (lm:=nB d A c b t p) rfl J l (.m (l1:=nB d A c b t p) .b .j);rw[show Z++[aG.u (dS.map bb)]++[aG.u (iH.map gm)]++[aG.u (lq.map bb)]=Z++[aG.u (dS.map bb),aG.u (iH.map gm),aG.u (lq.map bb)] by simp]at this;exact this
structure iq(L:Nat)(t:cG):Prop where
 h:∀g,jV (gN g) (pF g) t
 k:t.i.length<=L
theorem Rc{s:Str}(h:gz s){L:Nat}(H:1<=L):iq L (.u (.h s)):=⟨λg=> .u ⟨λa b=>(by(injection b with z;subst z);exact h),λt c=>(by(injection c;done)),λa t I d v S e=>(by(injection e;done)),λa t i f e=>(by(injection e;done)),λa t i f e=>(by(injection e;done))⟩ λq=>q,H⟩
theorem Rd{A t:Option Str}{i0 i1:Bool}{v:Str}{st:Option Str}(h:∀s,A=au s->gz s)(H:t∈dS)(b:fE v)(c:kZ st)(d:t=none->i0=true\/i1=true){L:Nat}(j:1<=L):iq L (.u (.b A t i0 i1 v st)):=⟨λg=> .u ⟨λa k=>h a k,λs l=>A7 t H s l g,λa t i0 i1 v st e=>(by cases e;exact(cz b c d)),λa t i f e=>(by cases e),λa t i f e=>(by cases e)⟩ λq=>q,j⟩
theorem Re(n:Nat)(d A:Int){L:Nat}(l:1<=L)(tp:List Int)(q:List ay)(Z:af)(e:∀x∈q,x.h)(o:∀m,bo m Z)(p:q.length<1000)
  (f:d≠0->∀(a:Option Str) (b:Int) (tp:List Int) (Z:af),(∀s,a=au s->gz s)->(∀m,bo m Z)->∃t tp1 Y,iq L t/\av aa (n+2) sE (jZ d A a b) (bn tp q Z) (.f .g) [] (bn tp1 (q++t.i) (Z++Y))):
  ∃t tp1 Y,iq L t/\av aa (n+2) HL (nA d A) (bn tp q Z) (.f .g) [] (bn tp1 (q++t.i) (Z++Y)):=by
 have c:aN aa (n+2) HJ (nA d A) (bn tp q Z) (A.fmod 5==2) (bn tp q Z):=gx (oE 5 (by decide) rfl) nf λk h=>h
 cases u:(A.fmod 5==2)
 ·rw[u]at c;refine ap (lr bb (xs:=kC) (m:=4) rfl (A.fdiv 5) (by decide)) λa g B=>?_
  have z:∀m,bo m (Z++[aG.u (kC.map bb)]):=λm=>jA (o m) (.p (.u (wF _)) .j)
  have E:aR aa (n+2) (.m (.u (.p .g (.p (.e "a1") (.p (.e "x-y_") (.p (.e "0") .j))))) (.H .Mod (.H .FloorDiv (.d 195) (.q 5)) (.q 4))) (nA d A) (bn tp q Z) (bb a) (bn tp q (Z++[aG.u (kC.map bb)])):=by rw[←tM tp q Z (aG.u (kC.map bb))];exact mD .b (lt 5 4 (by decide) (by decide) rfl) (iX _ 4 (by decide)).1 B
  have F:∀m,bo m (aG.u (q.map ay.a)::(Z++[aG.u (kC.map bb)])):=λm=> .p (.u (mt e)) (z m)
  have w:aR aa (n+2) (.z (.G 202) (.p (.d 188) .j) .j) (nA d A++[(12,bb a)]) (bn tp q (Z++[aG.u (kC.map bb)])) (.q (el tp)) (bn tp.tail q (Z++[aG.u (kC.map bb)])):=rd (n:=n+1) (F _) rfl;have C:aN aa (n+2) HE (jZ d A a (el tp)) (bn tp.tail q (Z++[aG.u (kC.map bb)])) (decide (A.fmod 5<2)||d==0) (bn tp.tail q (Z++[aG.u (kC.map bb)])):=eK (gx (oE 5 (by decide) rfl) nf λk h=>h) (gx (eg rfl) nf λk h=>h);have y:=Q3 a g;cases H:(decide (A.fmod 5<2)||d==0)
  ·rw[H]at C;have G:d≠0:=λq=>by rw[q]at H;simp at H
   refine kU (f G a (el tp) tp.tail _ y z) λt tp1 Y D r=>?_
   refine(ju t tp1 ([aG.u (kC.map bb)]++Y) D (.d (.bq c .j) (av.a E (av.a w (.d (.bq C .j) ?_)))));rw[←dx];exact r
  ·rw[H]at C;refine pC (Rb n d A (el tp) a tp.tail q _ e z p) λt I J v i=>kU i λS tp1 Y K j=>me j λM N O r=>?_
   refine(ju (.u (.b a t I J v S)) tp1 ([aG.u (kC.map bb)]++Y) (Rd y K M N O l) (.d (.bq c .j) (av.a E (av.a w (.k (.a C ?_))))));rw[←dx];exact r
 ·rw[u]at c;refine dJ (Q6 (n+1) d A tp q Z e o p) λs Y P r=>?_
  exact(ju (.u (.h s)) tp Y (Rc P l) (.k (.a c r)))
abbrev fj(d A:Int)(a:Option Str)(b m:Int)(t:Option Str)(s:Bool):ah:=jZ d A a b++[(197,.q m),(13,bb t),(199,.l s)]
theorem JY{n:Nat}{lm:ah}{σ:af}{a b:aq}{t u:Bool}(H:aR aa n a lm σ (.l t) σ)(c:aR aa n b lm σ (.l u) σ):aR aa n (.A a b) lm σ (.l (t||u)) σ:=λk h=>H _ (by
 cases t
 ·exact c k h
 ·exact h)
theorem Rf(n:Nat)(d A:Int)(c:Option Str)(b:Int)(tp:List Int)(q:List ay)(Z:af):∃(m:Int) (t:Option Str) (S:Bool),(0<=m/\m.toNat<3)/\t∈dS/\(t=none->S=true)/\
  ∀fl l' σ',av aa (n+2) HD (fj d A c b m t S) (bn tp q (Z++[aG.u (dS.map bb)])) fl l' σ'->av aa (n+2) sE (jZ d A c b) (bn tp q Z) fl l' σ':=by
 refine ap (lr bb (xs:=dS) (m:=6) rfl (b.fdiv 4) (by decide)) λt e f=>?_
 have E:aR aa (n+2) (.m (.z (.G 201) .j .j) (.H .Mod (.H .FloorDiv (.d 200) (.q 4)) (.q 6))) (jZ d A c b++[(197,.q ((A.fdiv 20+1).fmod 3))]) (bn tp q Z) (bb t) (bn tp q (Z++[aG.u (dS.map bb)])):=by rw[←tM tp q Z (aG.u (dS.map bb))];exact mD (λk H=>aP (JW (n+1) (bn tp q Z) k H)) (lt 4 6 (by decide) (by decide) rfl) (iX _ 6 (by decide)).1 f
 have g:aR aa (n+2) (.H .Mod (.H .Add (.H .FloorDiv (.d 195) (.q 20)) (.q 1)) (.q 3)) (jZ d A c b) (bn tp q Z) (.q ((A.fdiv 20+1).fmod 3)) (bn tp q Z):=λk H=>aP (a:=((20:Int)≠0/\hU A 20=false)/\(3:Int)≠0/\k (.q ((A.fdiv 20+1).fmod 3)) (bn tp q Z)) (cz ⟨by decide,tL A 20 (by decide)⟩ (by decide) H)
 have i:aR aa (n+2) (.A (.y .Is (.d 13) .g) (.y .Eq (.H .Mod (.H .FloorDiv (.d 200) (.q 2)) (.q 2)) (.q 1))) (jZ d A c b++[(197,.q ((A.fdiv 20+1).fmod 3)),(13,bb t)]) (bn tp q (Z++[aG.u (dS.map bb)])) (.l (t.isNone||(b.fdiv 2).fmod 2==1)) (bn tp q (Z++[aG.u (dS.map bb)])):=by
  refine JY ?_ λk H=>aP (a:=((2:Int)≠0/\hU b 2=false)/\(2:Int)≠0/\k (.l ((b.fdiv 2).fmod 2==1)) (bn tp q (Z++[aG.u (dS.map bb)]))) (cz ⟨by decide,tL b 2 (by decide)⟩ (by decide) H)
  cases t with
  |none=>exact .b|some s=>exact .b
 exact(jt _ t _ (iX (A.fdiv 20+1) 3 (by decide)) e (λh=>by rw[h];rfl) (λfl l' σ' r=>av.a g (av.a E (av.a i r))))
mutual
theorem pI:∀t:cG,∀x∈t.i,x.h
 | .u y,x,h=>by rw[ce.mp h];trivial| .d a t i f X,x,h=>by
  rcases bv h with rfl|h
  ·trivial
  rcases e8.mp h with h|h
  ·exact JZ X x h
  ·rw[ce.mp h];trivial
 | .q a t i f X,x,h=>by
  rcases bv h with rfl|h
  ·trivial
  rcases e8.mp h with h|h
  ·exact JZ X x h
  ·rw[ce.mp h];trivial
theorem JZ:∀T:List cG,∀x∈c_ T,x.h
 |[],x,h=>by cases h
 |t::T,x,h=>by
  rcases e8.mp h with h|h
  ·exact pI t x h
  ·exact JZ T x h
end
def oF(n:Nat)(d:Int)(L:Nat):Prop:=∀(a:List Int) (q:List ay) (Z:af),(∀x∈q,x.h)->(∀m,bo m Z)->q.length+L<=400->∃t T,iq L t/\bd aa n 834 [.o 0,.q d,.o 1] (bn a q Z) .g (bn T (q++t.i) Z)
theorem Rg(n:Nat)(d A:Int)(a:Option Str)(b m:Int)(t:Option Str)(s:Bool){L:Nat}(g:oF (n+2) (d-1) L):∀(xs tp:List Int) (q:List ay) (Z:af),(∀x∈q,x.h)->(∀m,bo m Z)->q.length+xs.length*L<=400->
  ∃ts tp1,(∀t∈ts,iq L t)/\ts.length<=xs.length/\gW aa (n+2) 196 Hw none (xs.map .q) (fj d A a b m t s) (bn tp q Z) .a (fj d A a b m t s) (bn tp1 (q++c_ ts) Z)
 |[],tp,q,Z,c,f,H=>(dy [] tp (λt i=>(by cases i)) (ds _) (by rw[show q++c_ []=q from dE q];exact .j trivial))
 |x::xs,tp,q,Z,c,f,H=>by
  rw[eb,I']at H;have C:aN aa (n+2) Ad (fj d A a b m t s++[(196,.q x)]) (bn tp q Z) (x==0|| !(tp.map V.q).isEmpty) (bn tp q Z):=eK .b .b;have S:bO (fj d A a b m t s) (fj d A a b m t s++[(196,.q x)]):=.p rfl (.p rfl (.p rfl (.p rfl (.p rfl (.p rfl (.p rfl (.p rfl (.p rfl .j))))))));cases h:(x==0|| !(tp.map V.q).isEmpty)
  ·rw[h]at C;refine dz (Rg n d A a b m t s g xs tp q Z c f (bc 0x190c1080190c2180811 H)) λts tp1 D l r=>?_
   exact(dy ts tp1 D (Nat.le_succ_of_le l) (.p trivial (.m (.d (.bq C .j) .j) S) r))
  ·rw[h]at C;refine dJ (g tp q Z c f (bc 0x190c2080190c2180811 H)) λT tp1 k R=>?_
   have o:=k.k;(refine dz (Rg n d A a b m t s g xs tp1 (q++T.i) Z (λx p=>(e8.mp p).elim (c x) (pI T x)) f (by rw[bs];exact bS 0x190c130882310190c2180812 H o)) λts j D l r=>?_);refine(dy (T::ts) j (λt i=>(bv i).elim (λe=>e▸k) (D t)) (m9 l) ?_);rw[dx]at r;exact .p trivial (.m (.d (.a C (.h (fj d A a b m t s++[(196,.q x)]) R)) .j) S) r
theorem Rh(n:Nat)(d A:Int)(a:Option Str)(b m:Int)(t:Option Str)(s:Bool){L:Nat}(j:oF (n+2) (d-1) L):∀(xs tp:List Int) (q:List ay) (Z:af),(∀x∈q,x.h)->(∀m,bo m Z)->q.length+xs.length*(2*L)<=400->
  ∃ts tp1,(∀t∈ts,iq L t)/\ts.length<=2*xs.length/\ts.length % 2=0/\gW aa (n+2) 196 HA none (xs.map .q) (fj d A a b m t s) (bn tp q Z) .a (fj d A a b m t s) (bn tp1 (q++c_ ts) Z)
 |[],tp,q,Z,k,f,H=>(eE [] tp (λt g=>(by cases g)) (hB _) rfl (by rw[show q++c_ []=q from dE q];exact .j trivial))
 |x::xs,tp,q,Z,k,f,H=>by
  rw[eb,I']at H;have C:aN aa (n+2) Ad (fj d A a b m t s++[(196,.q x)]) (bn tp q Z) (x==0|| !(tp.map V.q).isEmpty) (bn tp q Z):=eK .b .b;have S:bO (fj d A a b m t s) (fj d A a b m t s++[(196,.q x)]):=.p rfl (.p rfl (.p rfl (.p rfl (.p rfl (.p rfl (.p rfl (.p rfl (.p rfl .j))))))));cases h:(x==0|| !(tp.map V.q).isEmpty)
  ·rw[h]at C;refine fA (Rh n d A a b m t s j xs tp q Z k f (bc 0x190c1080190c20000029180811 H)) λts tp1 D l E r=>?_
   exact(eE ts tp1 D (by rw[eb];exact aC 0x1a180000029010000029011 l) E (.p trivial (.m (.d (.bq C .j) .j) S) r))
  ·rw[h]at C;refine dJ (j tp q Z k f (bc 0x190c2080190c20000029180811 H)) λT tp1 w R=>?_
   have z:=w.k;have i:∀x∈q++T.i,x.h:=λx o=>(e8.mp o).elim (k x) (pI T x)
   (refine dJ (j tp1 (q++T.i) Z i f (by rw[bs];exact bS 0x190c230882310190c20000029180812 H z)) λc p B F=>?_);have G:=B.k;have u:∀x∈q++T.i++c.i,x.h:=λx o=>(e8.mp o).elim (i x) (pI c x)
   (refine fA (Rh n d A a b m t s j xs p (q++T.i++c.i) Z u f (by rw[bs,bs];exact fN 0x190c14308882412310190c20000029180813 H z G)) λts v D l E r=>?_);refine(eE (T::c::ts) v (λt g=>(bv g).elim (λe=>e▸w) λg=>(bv g).elim (λe=>e▸B) (D t)) (by simp only[eb];exact aC 0x1a1800000291a1a08810000029011 l) (by simp only[eb];lia) ?_);rw[show(q++T.i++c.i)++c_ ts=q++c_ (T::c::ts) by simp[c_]]at r;exact .p trivial (.m (.d (.a C (.z (y:=Hz) (lm1:=fj d A a b m t s++[(196,.q x)]) R (.h (fj d A a b m t s++[(196,.q x)]) F))) .j) S) r
theorem Ba{L:Nat}:∀ts:List cG,(∀t∈ts,iq L t)->(c_ ts).length<=ts.length*L
 |[],_=>hB _|t::ts,h=>by
  have H:=(h t (f8 ..)).k;have a:=Ba ts λt b=>h t (f9 _ b)
  show(t.i++c_ ts).length<=_;rw[bs,eb,I'];exact bS 0x1382083211012 H a
theorem J3(m:Int)(h:0<=m/\m.toNat<3):∃xs:List Int,xs.length<=2/\∀σ,j_ (.v m.toNat) σ=au (xs.map .q):=by refine(aE ((n9 m.toNat).map λ(k:Nat)=>(k:Int)) (by simp;lia) (λσ=>?_));show au _=au _;rw[qA];rfl
theorem Rn(n:Nat)(d A:Int)(c:Option Str)(b m:Int)(t:Option Str)(s:Bool){L:Nat}(B:oF (n+2) (d-1) L)(y:0<=m/\m.toNat<3)(tp:List Int)(q:List ay)(Z:af)(z:∀x∈q,x.h)(p:∀m,bo m Z)(u:q.length+4*L+2<=400):
  ∃ts tp1 f,(∀t∈ts,iq L t)/\ts.length<=2/\av aa (n+2) Hy (fj d A c b m t s) (bn tp q Z) .a (fj d A c b m t s) (bn tp1 (q++(cG.d c t s f ts).i) Z):=by
 refine ap (J3 m y) λxs H C=>?_
 let S:ay:=.b (.c c t s (b.fmod 2==1))
 have e:∀x∈q++[S],x.h:=λx H=>(e8.mp H).elim (z x) λh=>by rw[ce.mp h];trivial
 have g:xs.length*L<=4*L:=ef (ms _ H) (aO 0x49000000290);(refine dz (Rg n d A c b m t s B xs tp (q++[S]) Z e p (by rw[bs];simp only[eb,k7];exact bc 0x190c21a0a808810000049210190c2a1000004908812 u g)) λts tp1 D l r=>?_);refine(pJ ts tp1 (b.fmod 2==1) D (aC 0x2a02a111012 l H) ?_);have j:(q++[S]++c_ ts).length<1000:=by have E:=Ba ts D;have F:ts.length*L<=4*L:=ms _ (aC 0x4a02a111012 l H);rw[bs,bs];simp only[eb,k7];exact bS 0x3e8c1a21a0a8088810000049313210190c2a1000004908813 u E F
 have w:∀x∈q++[S]++c_ ts,x.h:=λx H=>(e8.mp H).elim (e x) (JZ ts x)
 have G:=QV (n:=n+1) (lm:=fj d A c b m t s) (σ:=bn tp q Z) (as:=.p (.d 12) (.p (.d 13) (.p (.d 199) .j))) (ks:=.I 15 (.y .Eq (.H .Mod (.d 200) (.q 2)) (.q 1)) .j) (a:=c) (t:=t) (i:=s) (f:=b.fmod 2==1) (λk o=>aP (a:=(2:Int)≠0/\k [bb c,bb t,.l s] [(15,.l (b.fmod 2==1))] (bn tp q Z)) (ai (by decide) o)) (bn.f z p _);have I:=QX (n:=n+1) (lm:=fj d A c b m t s) (σ:=bn tp1 (q++[S]++c_ ts) Z) (as:=.j) (ks:=.j) (λk o=>o) (bn.f w p _);rw[show q++(cG.d c t s (b.fmod 2==1) ts).i=(q++[S]++c_ ts)++[.fQ] by simp[cG.i,S]];refine re (rest:=Hx) rfl G (aC 0x3e8c1a080190c2a1000004908811 u) (.d (l1:=fj d A c b m t s) (σ1:=bn tp1 (q++[S]++c_ ts) Z) (.o (v:=.v m.toNat) (xs:=xs.map .q) (σ1:=bn tp (q++[S]) Z) (λk o=>aP (a:=(0<=m/\m<1000000)/\k (.v m.toNat) (bn tp (q++[S]) Z)) (ai ⟨y.1,by lia⟩ o)) (C _) r) (re rfl I j .j))
theorem Ro(n:Nat)(d A:Int)(c:Option Str)(b m:Int)(t:Option Str)(s:Bool){L:Nat}(B:oF (n+2) (d-1) L)(y:0<=m/\m.toNat<3)(tp:List Int)(q:List ay)(Z:af)(z:∀x∈q,x.h)(p:∀m,bo m Z)(u:q.length+4*L+2<=400):
  ∃ts tp1 f,(∀t∈ts,iq L t)/\ts.length<=4/\ts.length % 2=0/\av aa (n+2) HC (fj d A c b m t s) (bn tp q Z) .a (fj d A c b m t s) (bn tp1 (q++(cG.q c t s f ts).i) Z):=by
 refine ap (J3 m y) λxs H C=>?_
 let S:ay:=.b (.d c t s (b.fmod 2==1))
 have e:∀x∈q++[S],x.h:=λx H=>(e8.mp H).elim (z x) λh=>by rw[ce.mp h];trivial
 have g:xs.length*(2*L)<=4*L:=ef (ms _ H) (aO 0x490000002900000290);(refine fA (Rh n d A c b m t s B xs tp (q++[S]) Z e p (by rw[bs];simp only[eb,k7];exact bc 0x190c21a0a808810000049210190c2a1000004908812 u g)) λts tp1 D l E r=>?_);refine(jt ts tp1 (b.fmod 2==1) D (aC 0x4a02a1210000029012 l H) E ?_);have j:(q++[S]++c_ ts).length<1000:=by have F:=Ba ts D;have G:ts.length*L<=4*L:=ms _ (aC 0x4a02a1210000029012 l H);rw[bs,bs];simp only[eb,k7];exact bS 0x3e8c1a21a0a8088810000049313210190c2a1000004908813 u F G
 have w:∀x∈q++[S]++c_ ts,x.h:=λx H=>(e8.mp H).elim (e x) (JZ ts x)
 have I:=QW (n:=n+1) (lm:=fj d A c b m t s) (σ:=bn tp q Z) (as:=.p (.d 12) (.p (.d 13) (.p (.d 199) .j))) (ks:=.I 15 (.y .Eq (.H .Mod (.d 200) (.q 2)) (.q 1)) .j) (a:=c) (t:=t) (i:=s) (f:=b.fmod 2==1) (λk o=>aP (a:=(2:Int)≠0/\k [bb c,bb t,.l s] [(15,.l (b.fmod 2==1))] (bn tp q Z)) (ai (by decide) o)) (bn.f z p _);have J:=QY (n:=n+1) (lm:=fj d A c b m t s) (σ:=bn tp1 (q++[S]++c_ ts) Z) (as:=.j) (ks:=.j) (λk o=>o) (bn.f w p _);rw[show q++(cG.q c t s (b.fmod 2==1) ts).i=(q++[S]++c_ ts)++[.fR] by simp[cG.i,S]];refine re (rest:=HB) rfl I (aC 0x3e8c1a080190c2a1000004908811 u) (.d (l1:=fj d A c b m t s) (σ1:=bn tp1 (q++[S]++c_ ts) Z) (.o (v:=.v m.toNat) (xs:=xs.map .q) (σ1:=bn tp (q++[S]) Z) (λk o=>aP (a:=(0<=m/\m<1000000)/\k (.v m.toNat) (bn tp (q++[S]) Z)) (ai ⟨y.1,by lia⟩ o)) (C _) r) (re rfl J j .j))
theorem J4{A t:Option Str}{S f:Bool}{ts:List cG}{L M:Nat}(j:∀s,A=au s->gz s)(k:t∈dS)(l:t=none->S=true)(b:∀t∈ts,iq L t)(m:ts.length<=4)(n:4*L+2<=M):iq M (.d A t S f ts)/\(ts.length % 2=0->iq M (.q A t S f ts)):=by
 have H:∀g,jz (gN g) (pF g) ts:=λg=>by
  clear m
  induction ts with
  |nil=>exact .j|cons a r I=>exact .p ((b a (f8 ..)).h g) (I λt p=>b t (f9 _ p))
 have h:=Ba ts b;have o:ts.length*L<=4*L:=ms _ m;refine(ai ⟨λg=> .d ⟨λa c=>j a c,λs d=>A7 t k s d g,λa t q u v w e=>(by cases e),λa t i f e=>(by cases e;exact l),λa t i f e=>(by cases e)⟩ (H g),?_⟩ (λE=>⟨λg=> .q ⟨λa c=>j a c,λs d=>A7 t k s d g,λa t q u v w e=>(by cases e),λa t i f e=>(by cases e),λa t i f e=>(by cases e;exact l)⟩ (H g) E,?_⟩))
 ·show(ay.b _::(c_ ts++[ay.fQ])).length<=M;simp only[eb,bs,k7];exact bS 0x11a1a0a8288000000493132112a00000049813 n h o
 ·show(ay.b _::(c_ ts++[ay.fR])).length<=M;simp only[eb,bs,k7];exact bS 0x11a1a0a8288000000493132112a00000049813 n h o
noncomputable def wG:Nat->Nat
 |0=>1|d+1=>4*wG d+2
theorem Rp:∀d,1<=wG d
 |0=>ds _|d+1=>by show 1<=4*wG d+2;exact im _ _
theorem Rq(n:Nat)(d A:Int){L:Nat}(H:oF (n+2) (d-1) L)(a:Option Str)(b:Int)(tp:List Int)(q:List ay)(Z:af)(g:∀x∈q,x.h)(i:q.length+4*L+2<=400)(j:∀s,a=au s->gz s)(v:∀m,bo m Z):
  ∃t tp1 Y,iq (4*L+2) t/\av aa (n+2) sE (jZ d A a b) (bn tp q Z) (.f .g) [] (bn tp1 (q++t.i) (Z++Y)):=by
 refine qz (Rf n d A a b tp q Z) λm t S o p u G=>?_
 have z:∀m,bo m (Z++[aG.u (dS.map bb)]):=λm=>jA (v m) (.p (.u (wF _)) .j)
 have c:aN aa (n+2) Hv (fj d A a b m t S) (bn tp q (Z++[aG.u (dS.map bb)])) (A.fmod 5==3) (bn tp q (Z++[aG.u (dS.map bb)])):=gx (oE 5 (by decide) rfl) nf λk w=>w
 have F:∀e,av aa (n+2) Hu (fj d A a b m t S) e (.f .g) [] e:=λe=> .m (l1:=fj d A a b m t S) .b .j
 cases h:(A.fmod 5==3)
 ·rw[h]at c;refine qz (Ro n d A a b m t S H o tp q _ g z i) λT tp1 f D l E r=>?_
  exact(ju (.q a t S f T) tp1 _ ((J4 j p u D l (ds _)).2 E) (G _ _ _ (.d (.bq c r) (F _))))
 ·rw[h]at c;refine kb (Rn n d A a b m t S H o tp q _ g z i) λT tp1 f D l r=>?_
  exact(ju (.d a t S f T) tp1 _ ((J4 j p u D (by exact cO ‹_›) (ds _)).1) (G _ _ _ (.d (.a c r) (F _))))
theorem J5(n:Nat)(d:Int){L:Nat}(g:1<=L)(h:d≠0->∀A a b tp q Z,(∀x∈q,ay.h x)->q.length+L<=400->(∀s,a=au s->gz s)->(∀m,bo m Z)->∃t tp1 Y,iq L t/\av aa (n+2) sE (jZ d A a b) (bn tp q Z) (.f .g) [] (bn tp1 (q++t.i) (Z++Y))):oF (n+3) d L:=λtp q Z H c f=>by
 refine jg (Q5 (n+1) d tp q Z H c) λA T E=>?_
 refine kU (Re n d A g T q Z H c (aC 0x3e8c1a080190c10811 f) λi a b tp Z j l=>h i A a b tp q Z H f j l) λt tp1 Y D r=>?_
 refine(cg t tp1 D (.a (fl:=.f .g) (l':=[]) (σ1:=bn tp1 (q++t.i) (Z++Y)) ⟨[188,194,55],[],HM,au none⟩ (by kernel_rfl!) rfl (.inl rfl) (av.a E r) (λk o=>?_)));have e:eF (aQ (bn tp q Z)) (bn tp1 (q++t.i) (Z++Y))=bn tp1 (q++t.i) Z:=congrArg (λz=>cD tp1::aG.u ((q++t.i).map ay.a)::z) (JI Z Y);show(bG _ _/\bo _ (eF (aQ (bn tp q Z)) (bn tp1 (q++t.i) (Z++Y))))/\k _ (eF (aQ (bn tp q Z)) (bn tp1 (q++t.i) (Z++Y)));rw[e];exact(ai ⟨.g,bn.f (λx p=>(e8.mp p).elim (H x) (pI t x)) c _⟩ o)
theorem Rr(n:Nat):∀d:Nat,oF (n+3+d) (d:Int) (wG d)
 |0=>J5 n 0 (ds _) λh=>absurd rfl h|d+1=>by
  have i:=Rr n d;rw[show n+3+(d+1)=n+1+d+3 by exact ea (aC 0x3a11a08881a183a0880) (aC 0x1a183a0883a11a08880)];refine J5 (n+1+d) ((d+1:Nat):Int) (Rp _) λ_ A a b t q Z H c e f=>?_
  have g:oF (n+1+d+2) (((d+1:Nat):Int)-1) (wG d):=by rw[show n+1+d+2=n+3+d by exact ea (aC 0x13a0882a11a08880) (aC 0x2a11a088813a0880),show((d+1:Nat):Int)-1=(d:Int) by lia];exact i
  exact Rq (n+1+d) _ A g a b t q Z H c e f
noncomputable def iJ:List V:=[.g,.q 4,.q 9,.q 1,.q 3,.q 12]
noncomputable def kc:List V:=[.g,.q 10,.q 1,.q 30,.q 1000000]
noncomputable def jE:List Str:=(["\n","\r","\r\n"]:List String).map a'
noncomputable def jF(c a:Bool)(b:Int)(t:List (Nat×V)):List (Nat×V):=[(30,.k 771 0),(16,.g),(58,.o 5),(56,.E 736 4 359),(55,.o 6),(54,.g),(53,.o 7),(32,.g),(52,.q 0),(51,.l false),(50,.l false),
 (49,.l false),(48,.l false),(47,.q 0),(46,.q 0),(45,.l true),(44,.l true),(43,.l false),(31,.l c),(34,.l a),(41,.q b)]++t
def fJ(b B:Int)(c a:Bool)(t:List (Nat×V)):List (Nat×V):=jF c a b ((42,.q B)::t)
def dT(f:List (Nat×V))(Y:af):af:=[.a [(187,.o 1)],.u [],.u iJ,.u kc,.a f,.u [],.u [],.u []]++Y
noncomputable def mE(nl:Str):List (Nat×V):=[(40,.e nl),(39,.g),(38,.g),(37,.g),(36,.g),(21,.g)]
noncomputable def lu:List V:=(["\r","\n","\r\n"]:List String).map λs=> .e (a' s)
def nC(c:cN):af:=dT (fJ c.j c.c c.b c.d (mE c.a)) [.u lu]
noncomputable abbrev dU(c a:Bool)(i w:V)(nl:Str):ah:=[(9,.k 736 4),(30,.k 771 0),(31,.l c),(32,i),(33,w),(34,.l a),(35,.e nl)]
theorem Rs(n:Nat)(c a:Bool)(w:V)(nl:Str):∀I∈iJ,∃b:Int,(2<=b/\b<=9)/\
  av aa n (.B qn uW .j) (dU c a I w nl) (dT (jF c a 2 []) []) .a (dU c a I w nl) (dT (jF c a b []) []):=λI H=>by
 have F {x:V} (h:ij false (dT (jF c a 2 []) [])=(ae aa (aZ aa n) qn).a (dU c a x w nl) (dT (jF c a 2 []) [])):∃b:Int,(2<=b/\b<=9)/\av aa n (.B qn uW .j) (dU c a x w nl) (dT (jF c a 2 []) []) .a (dU c a x w nl) (dT (jF c a b []) []):=(aE 2 (by decide) (.e (e:=h) .j))
 have T (i:Int) (d:2<=i/\i<=9) (h:ij true (dT (jF c a 2 []) [])=(ae aa (aZ aa n) qn).a (dU c a (.q i) w nl) (dT (jF c a 2 []) [])):∃b:Int,(2<=b/\b<=9)/\av aa n (.B qn uW .j) (dU c a (.q i) w nl) (dT (jF c a 2 []) []) .a (dU c a (.q i) w nl) (dT (jF c a b []) []):=(aE i d (.f (e:=h) .b))
 rcases bv H with rfl|H
 ·exact F (by kernel_rfl!)
 rcases bv H with rfl|H
 ·exact T 4 (by decide) (by kernel_rfl!)
 rcases bv H with rfl|H
 ·exact T 9 (by decide) (by kernel_rfl!)
 rcases bv H with rfl|H
 ·exact F (by kernel_rfl!)
 rcases bv H with rfl|H
 ·exact T 3 (by decide) (by kernel_rfl!)
 rcases bv H with rfl|H
 ·exact F (by kernel_rfl!)
 cases H
theorem Rt(n:Nat)(c a:Bool)(I:V)(nl:Str)(b:Int)(f:2<=b/\b<=9):∀w∈kc,∃B:Int,
  av aa n (.B uV yg .j) (dU c a I w nl) (dT (fJ b 80 c a []) []) .a (dU c a I w nl) (dT (fJ b B c a []) []):=λw H=>by
 have e:tq b 2:=by rcases H6 f with rfl|rfl|rfl|rfl|rfl|rfl|rfl|rfl<;>exact IntMulOk.of_le (m:=8) (n:=8) (by decide+kernel) (by decide+kernel) (by decide)
 have T (i:Int) (h:bM (tq b 2) (ij (decide (b*2<i)) (dT (fJ b 80 c a []) []))=(ae aa (aZ aa n) uV).a (dU c a I (.q i) nl) (dT (fJ b 80 c a []) [])):∃B:Int,
   av aa n (.B uV yg .j) (dU c a I (.q i) nl) (dT (fJ b 80 c a []) []) .a (dU c a I (.q i) nl) (dT (fJ b B c a []) []):=by
  cases q:decide (b*2<i)with
  |true=>rw[q]at h;exact(ba i (.a (λk d=>aP (ai e d) (congrFun h k)) .b))|false=>rw[q]at h;exact(ba 80 (.bq (λk d=>aP (ai e d) (congrFun h k)) .j))
 rcases bv H with rfl|H
 ·exact(ba 80 (.e .j))
 rcases bv H with rfl|H
 ·exact T 10 (by kernel_rfl!)
 rcases bv H with rfl|H
 ·exact T 1 (by kernel_rfl!)
 rcases bv H with rfl|H
 ·exact T 30 (by kernel_rfl!)
 rcases bv H with rfl|H
 ·exact T 1000000 (by kernel_rfl!)
 cases H
theorem Ru(n:Nat)(c a:Bool)(i w:V)(b B:Int):∀nl∈jE,dh nl.cps.toList/\
  av aa n (.B uU yf .j) (dU c a i w nl) (dT (fJ b B c a [(40,.e "\n")]) []) .a (dU c a i w nl) (dT (fJ b B c a [(40,.e nl)]) [.u lu]):=λnl H=>by
 have T (s:Str) (h:dh s.cps.toList) (d:ij true (dT (fJ b B c a [(40,.e "\n")]) [.u lu])=(ae aa (aZ aa n) uU).a (dU c a i w s) (dT (fJ b B c a [(40,.e "\n")]) [])):dh s.cps.toList/\
   av aa n (.B uU yf .j) (dU c a i w s) (dT (fJ b B c a [(40,.e "\n")]) []) .a (dU c a i w s) (dT (fJ b B c a [(40,.e s)]) [.u lu]):=
  (ai h (.a (λk e=>aP e (congrFun d k)) .b))
 rcases bv H with rfl|H
 ·exact T _ (.inl rfl) (by kernel_rfl!)
 rcases bv H with rfl|H
 ·exact T _ (.inr (.inl rfl)) (by kernel_rfl!)
 rcases bv H with rfl|H
 ·exact T _ (.inr (.inr rfl)) (by kernel_rfl!)
 cases H
def rf:af:=[.a [(187,.o 1)],.u [],.u iJ,.u kc,.a []]
theorem Rv(n:Nat)(c a:Bool)(i w:V)(nl:Str)(k:bH->ah->af->Prop):bj aa (aZ aa n) yh (dU c a i w nl) (dT (jF c a 2 []) []) k=bj aa (aZ aa n) yi (dU c a i w nl) rf k:=by kernel_rfl!
theorem Rx(n:Nat)(C a:Bool){i w:V}{nl:Str}(H:i∈iJ)(d:w∈kc)(e:nl∈jE):∃c:cN,jB c/\c.a=nl/\
  bd aa (n+1) 316 [.k 736 4,.k 771 0,.l C,i,w,.l a,.e nl] rf .g (nC c):=by
 refine ap (Rs n C a w nl i H) λb h R=>?_
 refine bf (Rt n C a i nl b h w d) λB f=>?_
 refine aV (Ru n C a i w b B nl e) λg j=>?_
 have Q:av aa n Cw (dU C a i w nl) (dT (fJ b B C a [(40,.e "\n")]) []) .a (dU C a i w nl) (dT (fJ b B C a (mE nl)) [.u lu]):=.d j .b
 have p:av aa n Cx (dU C a i w nl) (dT (fJ b B C a []) []) .a (dU C a i w nl) (dT (fJ b B C a (mE nl)) [.u lu]):=.bE Q;have l:av aa n Cy (dU C a i w nl) (dT (fJ b 80 C a []) []) .a (dU C a i w nl) (dT (fJ b B C a (mE nl)) [.u lu]):=.d f p;have P:av aa n Cz (dU C a i w nl) (dT (jF C a b []) []) .a (dU C a i w nl) (dT (fJ b B C a (mE nl)) [.u lu]):=.bE l;have m:av aa n yh (dU C a i w nl) (dT (jF C a 2 []) []) .a (dU C a i w nl) (dT (fJ b B C a (mE nl)) [.u lu]):=.d R P;have q:av aa n yi (dU C a i w nl) rf .a (dU C a i w nl) (dT (fJ b B C a (mE nl)) [.u lu]):=λk o=>aP (m k o) (Rv n C a i w nl k)
 have s:av aa n yj (dU C a i w nl) rf .a (dU C a i w nl) (nC ⟨C,a,b,B,nl⟩):=q;have r:bd aa (n+1) 316 [.k 736 4,.k 771 0,.l C,i,w,.l a,.e nl] rf .g (nC ⟨C,a,b,B,nl⟩):=.e (l':=dU C a i w nl) ⟨[9,30,31,32,33,34,35],[.g,.g,.g,.g,.g],yj,none⟩ s
 exact(bx ⟨C,a,b,B,nl⟩ ⟨g,h⟩ rfl r)
def mF(n:Nat)(x:aq)(lm:ah)(σ:af)(v:List (Nat×V))(σ':af):Prop:=∀k:List (Nat×V)->af->Prop,k v σ'->(ae aa (aZ aa n) x).h lm σ k
theorem mF.p{n:Nat}{x r:aq}{i:Nat}{lm:ah}{σ σ1 a:af}{v:V}{vs:List (Nat×V)}(h:aR aa n x lm σ v σ1)(g:mF n r lm σ1 vs a):mF n (.I i x r) lm σ ((i,v)::vs) a:=λk H=>h (λv s=>(ae aa (aZ aa n) r).h lm s λvs s=>k ((i,v)::vs) s) (g _ H)
theorem mF.j{n:Nat}{lm:ah}{σ:af}:mF n .j lm σ [] σ:=λk h=>h
noncomputable abbrev iK(o p:Int)(nl:Str):ah:=[(222,.q o),(223,.q p),(221,.e nl)]
noncomputable abbrev jm:af:=[.a [(187,.o 1)],.u []]
theorem tO{n:Nat}{a:aq}{lm:ah}{σ:af}{i j:Int}(h:aR aa n a lm σ (.q i) σ):aR aa n (.y .Eq a (.q j)) lm σ (.l (i==j)) σ:=λk H=>h (λv s=>(ae aa (aZ aa n) (.q j)).az lm s λu s=>jv .Eq v u s k) H
theorem Ry(n:Nat)(a:Bool)(i w:V)(nl:Str)(b:Bool)(k:bu):aZ aa (n+2) 316 [.k 736 4,.k 771 0,.l a,i,w,.l b,.e nl] rf (λv s=>(mG 736 false 4 v s).bD k)=fS aa (aZ aa (n+2)) (.h 736) [.k 771 0] [(31,.l a),(32,i),(33,w),(34,.l b),(35,.e nl)] (jm++[.u iJ]++[.u kc]) k:=by kernel_rfl!
theorem Rz(n:Nat):bd aa (n+1) 754 [.k 771 0] [.a []] .g jm:=.e ⟨[9],[],Hi,none⟩ (l':=[(9,.k 771 0)]) .b
theorem RA(n:Nat)(lm:ah)(k:bu):aZ aa (n+2) 754 [.k 771 0] [.a []] (λv s=>(mG 771 false 0 v s).bD k)=(ae aa (aZ aa (n+2)) (.z (.G 220) .j .j)).az lm [] k:=by kernel_rfl!
def RB:aq:=match qv with
 | .d (.f (.z _ _ k)) _=>k|_=> .j
def RC(n:Nat)(lm:ah)(vs:List V)(s:af)(k:bH->ah->af->Prop):Prop:=(ae aa (aZ aa (n+2)) RB).h lm s λK s=>fS aa (aZ aa (n+2)) (.h 736) vs K s λv s=>k (.f v) lm s
theorem RD(n:Nat)(o p:Int){nl:Str}(b:nl∈jE):∃c:cN,jB c/\c.a=nl/\av aa (n+2) qv (iK o p nl) [] (.f (.k 736 4)) (iK o p nl) (nC c):=by
 refine ap (lr id (xs:=iJ) (m:=6) rfl p (by decide)) λI d e=>?_
 refine ap (lr id (xs:=kc) (m:=5) rfl (p.fdiv 6) (by decide)) λw h E=>?_
 rw[NR]at e E;refine bY (Rx (n+1) (o.fmod 4==3) ((o.fdiv 4).fmod 2==1) d h b) λc f g r=>?_
 refine(bx c f g (λk H=>?_));have A:aR aa (n+2) (.m (.u (.p .g (.p (.q 4) (.p (.q 9) (.p (.q 1) (.p (.q 3) (.p (.q 12) .j))))))) (.H .Mod (.d 223) (.q 6))) (iK o p nl) jm I (jm++[.u iJ]):=mD .b (oE 6 (by decide) rfl) (iX _ 6 (by decide)).1 e
 have j:aR aa (n+2) (.m (.u (.p .g (.p (.q 10) (.p (.q 1) (.p (.q 30) (.p (.H .Pow (.q 10) (.q 6)) .j)))))) (.H .Mod (.H .FloorDiv (.d 223) (.q 6)) (.q 5))) (iK o p nl) (jm++[.u iJ]) w (jm++[.u iJ]++[.u kc]):=mD (σ:=jm++[.u iJ]) (λk H=>?_) (lt 6 5 (by decide) (by decide) rfl) (iX _ 5 (by decide)).1 E
 ·have C:aR aa (n+2) (.y .Eq (.H .Mod (.d 222) (.q 4)) (.q 3)) (iK o p nl) jm (.l (o.fmod 4==3)) jm:=tO (oE 4 (by decide) rfl);have q:aR aa (n+2) (.y .Eq (.H .Mod (.H .FloorDiv (.d 222) (.q 4)) (.q 2)) (.q 1)) (iK o p nl) (jm++[.u iJ]++[.u kc]) (.l ((o.fdiv 4).fmod 2==1)) (jm++[.u iJ]++[.u kc]):=tO (lt 4 2 (by decide) (by decide) rfl);have t:aR aa (n+2) (.d 221) (iK o p nl) (jm++[.u iJ]++[.u kc]) (.e nl) (jm++[.u iJ]++[.u kc]):=.b;have K:=mF.p (i:=31) C (mF.p (i:=32) A (mF.p (i:=33) j (mF.p (i:=34) q (mF.p (i:=35) t .j))));have h:=aP (r (λv s=>(mG 736 false 4 v s).bD λv s=>k (.f v) (iK o p nl) s) (H _ .a)) (Ry n _ I w nl _ λv s=>k (.f v) (iK o p nl) s);have u:=K (λx s=>fS aa (aZ aa (n+2)) (.h 736) [.k 771 0] x s λv s=>k (.f v) (iK o p nl) s) h;have y:=aP (Rz (n+1) (λv s=>(mG 771 false 0 v s).bD λv s=>RC n (iK o p nl) [v] s λF l s=>k F l s) u) (RA n (iK o p nl) _);exact aP y
 ·exact aP (a:=(0<(6:Int)/\2<=(10:Int)/\¬q8 (((sh 10:Nat):Int)*6)=true)/\k (.o (aQ (jm++[.u iJ]))) (cH (jm++[.u iJ]) (.u kc))) (ai (by decide+kernel) H)
noncomputable def cB(a:Nat):List Nat:=[a+4,a+0,a+1,a+5,a+7,a+6]
def ci(a:Nat)(Fs:List (Nat×V))(R st i ev:List V):af:=[.a [(187,.o (a+1))],.u R,.u iJ,.u kc,.a Fs,.u st,.u ev,.u i,.u lu]
def fT(a:Nat)(f:Nat->Nat)(Fs:List (Nat×V))(Bf:List V)(e:aw):af:=ci a Fs (Bf++fU f e.ae.a) (fU f e.p) (fU f e.h) (fU f e.g)
theorem jG{X Z:af}{a i:Nat}(h:X.length=a):(X++Z)[a+i]? =Z[i]? :=by rw[lD (by exact bc 562040849 (aJ h)),←h,ne]
theorem rg{X Z:af}{a i:Nat}{o:aG}(h:X.length=a):eY (a+i) o (X++Z)=X++eY i o Z:=by rw[jH,jH,List.set_append_right _ _ (by exact bc 562040849 (aJ h)),←h,ne]
theorem RE(a:Nat):(cB a).Nodup:=by have:cB a=[4,0,1,5,7,6].map (a+·):=rfl;rw[this];exact I5.mpr (a0c (λh e=>h (Nat.add_left_cancel e)) (by decide:([4,0,1,5,7,6]:List Nat).Nodup))
theorem RF{X Y:af}{a N:Nat}(h:X.length=a)(Bf:List V){b:Int}(e e1:aw)(Fs:List (Nat×V)):lv (bB (cB a) N) Bf (cB a) (gX b e1) (X++(fT a (bB (cB a) N) Fs Bf e++Y))=X++(fT a (bB (cB a) N) (eo (bB (cB a) N) (fx e1)) Bf e1++Y):=by show eY (a+6) _ (eY (a+7) _ (eY (a+5) _ (eY (a+1) _ (eY (a+0) _ (eY (a+4) _ (X++_))))))++[]=_;rw[dE,rg h,rg h,rg h,rg h,rg h,rg h];rfl
theorem wH{B:aK}(O:cL B aa){n m N a:Nat}{X Y:af}(c:X.length=a)(l:a+(9+Y.length)=N){b:Int}{e e1:aw}{Bf:List V}{Fs:List (Nat×V)}{y:ay}(r:y.h)(h:bd aa m 330 [aB,y.a] (gX b e) .g (gX b e1))(hn:2*m<=n)
  (s:gc (eo (bB (cB a) N) (fx e)) Fs)(t:(Bf.length:Int)<=b)(u:b+(e.ae.a.length:Int)<=(sizeLine:Int)){k:bu}
  (w:b+(e1.ae.a.length:Int)<=(sizeLine:Int)->k .g (X++(fT a (bB (cB a) N) (eo (bB (cB a) N) (fx e1)) Bf e1++Y))):
  bF B aa n 330 [.k 736 (a+4),y.a] (X++(fT a (bB (cB a) N) Fs Bf e++Y)) k:=by
 have f:(X++(fT a (bB (cB a) N) Fs Bf e++Y)).length=N:=by rw[bs,bs,c];exact l
 have v:= @bF.G B aa n 330 (cB a) 2 Bf [aB,y.a] (gX b e) (gX b e1) (X++(fT a (bB (cB a) N) Fs Bf e++Y)) .g k (h.h O hn (ai rfl rfl)) (RE a);rw[f]at v;have o:=v (λj p=>?_) rfl (ba (fU (bB (cB a) N) e.ae.a) (jG c)) (λi A M H d=>?_) λq=>by rw[RF c];exact w (q _ _ rfl)
 ·have x:fU (bB (cB a) N) [aB,y.a]=[.k 736 (a+4),y.a]:=congrArg (λz=>[V.k 736 (a+4),z]) (RG _ _ (ay.f r));rw[x]at o;exact o
 ·obtain⟨i,g,rfl⟩:∃i,i<9/\j=a+i:=by
   have:cB a=[4,0,1,5,7,6].map (a+·):=rfl;rw[this]at p;(refine ap (j6.mp p) λi g E=>?_;subst E);exact(aE i ((by decide:∀i∈([4,0,1,5,7,6]:List Nat),i<9) i g) rfl)
  exact bS 0x21a30889a1a381219a80812 (aJ l) g
 ·match i,H with
  |0,H=>(injection H with Z;subst Z);cases(jG c).symm.trans d;exact(aE Fs rfl s)
  |1,H=>(injection H with Z;subst Z);cases(jG c).symm.trans d;exact(aE _ rfl (gc.a _))
  |2,H=>(injection H with Z;subst Z);cases(jG c).symm.trans d;exact(gU rfl rfl t u)
  |3,H=>(injection H with Z;subst Z);cases(jG c).symm.trans d;rfl
  |4,H=>(injection H with Z;subst Z);cases(jG c).symm.trans d;rfl
  |5,H=>(injection H with Z;subst Z);cases(jG c).symm.trans d;rfl
  |_+6,H=>(injection H;done)
theorem nD{C:eN}{x:Nat}{v:V}{lm:ah}{σ:af}{k:bu}(h:aH x lm=au v)(H:k v σ):(ae aa C (.d x)).az lm σ k:=by
 show match aH x lm with
  |some v=>k v σ|none=>False
 rw[h];exact H
theorem RH(x:Nat)(v w:V):∀l:ah,aU x v (aU x w l)=aU x v l
 |[]=>by show aU x v [(x,w)]=[(x,v)];rw[lh,if_pos rfl]|(y,u)::l=>by
  rw[lh,lh]
  by_cases q:x=y
  ·rw[if_pos q,if_pos q,lh,if_pos rfl]
  ·rw[if_neg q,if_neg q,lh,if_neg q,RH x v w l]
theorem Bb{x:Nat}:∀{f Fs:List (Nat×V)},gc f Fs->aH x f=none->aH x Fs=none
 |[],_,r,_=>by subst r;rfl|(_,_)::_,[],r,_=>r.elim|(y,v)::f,(_,a)::Fs,r,h=>by
  obtain⟨rfl,_,r⟩:=r;rw[fh]at h⊢
  by_cases q:x=y
  ·rw[if_pos q]at h;(injection h;done)
  ·rw[if_neg q]at h⊢;exact Bb r h
theorem Bc{C:eN}{xv i:Nat}{lm:ah}{a b:af}{Fs:List (Nat×V)}{arg:aq}{y:V}{K:bH->ah->af->Prop}(h:aH xv lm=au (.k 736 i))(H:cn i a=au (.a Fs))(c:aH 211 Fs=none)
  (d:∀k:bu,k y b->(ae aa C arg).az lm a k)(e:C 330 [.k 736 i,y] b λ_ s=>K .a lm s):bj aa C (.l (.E (.d xv) 211 (.p arg .j) .j)) lm a K:=by
 have g:mH aa 211 (.k 736 i) a=.h (.cy 330) [.k 736 i]:=by
  show ir (cn i a) _=_;rw[H];show(match aH 211 Fs with
   |some v=>_|none=>_)=_
  rw[c]
  kernel_rfl!
 refine nD (C:=C) (k:=λv s=>oD aa 211 v s λf first s=>(ae aa C arg).az lm s λv s=>fS aa C f (jD first [v]) [] s λ_ s=>K .a lm s) h ?_;show match mH aa 211 (.k 736 i) a with
  | .a=>False| .h f first=>(ae aa C arg).az lm a λv s=>fS aa C f (jD first [v]) [] s λ_ s=>K .a lm s
 rw[g];exact d _ (aP e)
noncomputable def rn(xv:Nat):ag:=.d (.l (.E (.d xv) 211 (.p (.d 54) .j) .j)) .j
section
variable {B:aK} {n m N a j xv:Nat} {X Y:af} {b:Int} {e':aw} {Bf:List V} {lm:ah} {k:bH->ah->af->Prop} {l0:Nat}
def J6(m N a:Nat)(X Y:af)(b:Int)(e':aw)(Bf:List V)(lm:ah)(l0:Nat)(r:List V)(l:ah)(c:af):Prop:=∃z e f,r=z.map ay.a/\c=X++(fT a (bB (cB a) N) f Bf e++Y)/\(∀y∈z,y.h)/\iW m b e z e'/\gc (eo (bB (cB a) N) (fx e)) f/\b+(e.ae.a.length:Int)<=(sizeLine:Int)/\(l=lm\/∃v,l=aU 54 v lm)/\(z.length<l0->f=eo (bB (cB a) N) (fx e))
theorem RI{l:ah}(h:l=lm\/∃v,l=aU 54 v lm)(z:V):aU 54 z l=aU 54 z lm:=h.elim (λh=>h▸rfl) λh=>bf h λv h=>h▸RH ..
theorem RJ(O:cL B aa)(H:X.length=a)(c:a+(9+Y.length)=N)(hn:2*m<=n)(d:(Bf.length:Int)<=b)(g:aH xv lm=au (.k 736 (a+4)))(h:xv≠54){z:ay}{Z:List ay}{e1 e:aw}{f:List (Nat×V)}{l:ah}(i:z.h)(o:∀y∈Z,y.h)(j:bd aa m 330 [aB,z.a] (gX b e1) .g (gX b e))(E:iW m b e Z e')
  (w:gc (eo (bB (cB a) N) (fx e1)) f)(r:b+(e1.ae.a.length:Int)<=(sizeLine:Int))(p:l=lm\/∃v,l=aU 54 v lm):bj aa (bF B aa n) (rn xv) (aU 54 z.a l) (X++(fT a (bB (cB a) N) f Bf e1++Y)) (nE (J6 m N a X Y b e' Bf lm l0 (Z.map ay.a)) k):=by
 rw[RI p];show bj aa (bF B aa n) (.l (.E (.d xv) 211 (.p (.d 54) .j) .j)) (aU 54 z.a lm) _ (iU _ _);exact Bc (Fs:=f) (by rw[fP,if_neg h];exact g) (by rw[kD];exact jG H) (Bb w rfl) (λk q=>nD (by rw[fP,if_pos rfl]) q)
  (wH O H c i j hn w d r λR=>⟨Z,e,_,rfl,rfl,o,E,gc.a _,R,.inr (ba _ rfl),λ_=>rfl⟩)
theorem RK(O:cL B aa)(x:X.length=a)(A:a+(9+Y.length)=N){e:aw}{Fs:List (Nat×V)}{ys:List ay}(i:∀y∈ys,y.h)(h:iW m b e ys e')(hn:2*m<=n)
  (C:gc (eo (bB (cB a) N) (fx e)) Fs)(D:(Bf.length:Int)<=b)(G:b+(e.ae.a.length:Int)<=(sizeLine:Int))(I:aH xv lm=au (.k 736 (a+4)))(o:xv≠54)
  (c:∀Fs e,cn j (X++(fT a (bB (cB a) N) Fs Bf e++Y))=au (.u (ys.map ay.a)))
  (J:∀L,(L=lm\/∃v,L=aU 54 v lm)->∀f,gc (eo (bB (cB a) N) (fx e')) f->(ys≠[]->f=eo (bB (cB a) N) (fx e'))->k .a L (X++(fT a (bB (cB a) N) f Bf e'++Y))):
  pK aa (bF B aa n) 54 (rn xv) (au (j,ys.map ay.a)) (ys.map ay.a) lm (X++(fT a (bB (cB a) N) Fs Bf e++Y)) k:=by
 refine ii (J6 m N a X Y b e' Bf lm ys.length) ⟨ys,e,Fs,rfl,rfl,i,h,C,G,.inl rfl,λh=>absurd h (vk _)⟩ (λr l t Z=>ro Z λd u F Z=>aV Z λ_ Z=>aV Z λH _=>H▸c _ _) (λy r l t Z=>ro Z λd u F Z=>mj Z λg H p E w R s _=>?_) (λl t Z=>ro Z λd u F Z=>mj Z λg H p E w R s q=>?_)
 ·subst H;cases d with
  |nil=>exact nomatch g|cons z d=>obtain⟨rfl,rfl⟩:=hX g;exact ap E λP K M=>ai (c _ _) (RJ O x A hn D I o (p z (f8 ..)) (λy i=>p y (f9 _ i)) K M w R s)
 ·subst H;cases d with
  |nil=>cases E;exact J l s F w λh=>q (List.length_pos_iff.mpr h)
  |cons=>exact nomatch g
end
noncomputable def rp(a:Nat)(c:cN)(s:bQ)(oe:Bool):List (Nat×V):=[(30,.k 771 a),(16,.g),(58,.o (a+5)),(56,.E 736 (a+4) s.h),(55,.o (a+6)),(54,.g),(53,.o (a+7)),(32,.g),(52,.q 0),(51,.r),(50,.r),
 (49,.r),(48,.r),(47,.x),(46,.q 0),(45,.l true),(44,.l true),(43,.l oe),
 (31,.l c.b),(34,.l c.d),(41,.q c.j),(42,.q c.c),(40,.e c.a),(39,.r),(38,.g),(37,.g),(36,.g),(21,.g)]
theorem rq(a N:Nat)(c:cN)(s:bQ)(oe:Bool)(q:List ay):eo (bB (cB a) N) (fx (cm c s oe q))=rp a c s oe:=by kernel_rfl!
theorem wI{f:Nat->Nat}:∀{x:V},jf x->wJ .r (gq f x)
 | .r,_=> .inl rfl| .l _,_=> .inr trivial
theorem RL{j:Bool}{c:cN}{e:aw}(d:oB j c e)(a N:Nat):∃oe,gc (rp a c .c oe) (eo (bB (cB a) N) (fx e))/\e.p=[]/\e.h=[]/\e.g=[]/\∃r,e.ae=.bz oe r:=by
 refine dJ d.ae λoe r k _=>?_
 refine bf d.bJ λD h=>?_
 refine me d.bB λl m n o=>?_
 have H:=d.s;have b:=d.d;have P:=d.bE;have p:=P.t;have q:=P.p;have t:=P.h;have u:=P.c;have v:=P.k;have x:=P.o;have y:=P.n;have z:=P.l;have B:=P.bg;have A:=P.g;clear P d;obtain⟨G,w,I,F,R,C,M,s,f,g,S,i,E,T,J,K,L,O⟩:=e;dsimp only[aw.G]at*;subst b k H h p q t u v x y z B A;exact(RM oe ⟨rfl,.inl rfl,rfl,.inl rfl,rfl,.inl rfl,rfl,.inl rfl,rfl,.inl rfl,rfl,.inl rfl,rfl,.inl rfl,rfl,.inl rfl,rfl,.inl rfl,rfl,wI l,rfl,wI m,rfl,wI n,rfl,wI o,rfl,.inl rfl,rfl,.inl rfl,rfl,.inl rfl,rfl,.inl rfl,rfl,.inl rfl,rfl,.inl rfl,rfl,.inl rfl,rfl,.inl rfl,rfl,.inl rfl,rfl,.inl rfl,rfl,.inr trivial,rfl,.inl rfl,rfl,.inl rfl,rfl,.inl rfl,rfl,.inl rfl,rfl⟩ rfl rfl rfl r rfl)
def gd(a:Nat)(c:cN)(s:bQ)(oe:Bool)(Fs:List (Nat×V)):Prop:=gc (rp a c s oe) Fs/\∀m,a+9<=m->fF m Fs
theorem RN{a N m:Nat}(H:a+9<=m)(i:Nat)(hi:i<6):bB (cB a) N i<m:=by
 match i,hi with
 |0,_=>show a+4<m;exact aC 0x11a4a08819a0811 H|1,_=>show a+0<m;exact aC 0x11a0a08819a0811 H|2,_=>show a+1<m;exact aC 0x11a1a08819a0811 H|3,_=>show a+5<m;exact aC 0x11a5a08819a0811 H|4,_=>show a+7<m;exact aC 0x11a7a08819a0811 H|5,_=>show a+6<m;exact aC 0x11a6a08819a0811 H|_+6,h=>exact gh (aO 0xa1a6a1a6a08811 h)
theorem Bd{a N m:Nat}{e:aw}(H:a+9<=m)(h:ei e):fF m (eo (bB (cB a) N) (fx e)):=by show jI _ _;rw[J7];exact jI.a (RN H) _ h.d.1
theorem RO(c:cN)(X:af)(a:Nat):∃Fs,gc (rp a c .i false) Fs/\lv (bB [] a) [] [] (nC c) X=X++ci a Fs [] [] [] []:=(aE (eo (bB [] a) (fJ c.j c.c c.b c.d (mE c.a))) ⟨rfl,.inl rfl,rfl,.inl rfl,rfl,.inl rfl,rfl,.inl rfl,rfl,.inl rfl,rfl,.inl rfl,rfl,.inl rfl,rfl,.inl rfl,rfl,.inl rfl,rfl,.inr trivial,rfl,.inr trivial,rfl,.inr trivial,rfl,.inr trivial,rfl,.inr (ba 0 rfl),rfl,.inl rfl,rfl,.inl rfl,rfl,.inl rfl,rfl,.inl rfl,rfl,.inl rfl,rfl,.inl rfl,rfl,.inl rfl,rfl,.inl rfl,rfl,.inl rfl,rfl,.inr trivial,rfl,.inl rfl,rfl,.inl rfl,rfl,.inl rfl,rfl,.inl rfl,rfl⟩ (by kernel_rfl!))
theorem J8{B:aK}(O:cL B aa){n a N:Nat}{X Y:af}(h:X.length=a)(H:a+(9+Y.length)=N){c:cN}{Fs:List (Nat×V)}(hn:22<=n)(b:gc (rp a c .i false) Fs){k:bu}
  (d:∀Fs,gd a c .b false Fs->k .g (X++(ci a Fs [] [] [] []++Y))):bF B aa n 330 [.k 736 (a+4),ay.i.a] (X++(ci a Fs [] [] [] []++Y)) k:=
 wH O (e:=cm c .i false []) (e1:=cm c .b false []) (Bf:=[]) (y:=.i) h H trivial (Qy 0 c) hn ((rq a N c .i false []).symm▸b) (by decide) (by rw[bw];exact(by decide:iQ+((([]:List V).length:Nat):Int)<=((16777216:Nat):Int))) λ_=>d _ (ai (rq a N c .b false []▸gc.a _) (λm f=>Bd f (tI λx g=>by cases g)))
def bR(r:List V):Str:=⟨(bP r).toArray⟩
theorem RP(s:Str):∀l:List Str,(Zt ("":Str) (s::l)).cps.toList=s.cps.toList++(Zt ("":Str) l).cps.toList
 |[]=>(dE _).symm|y::l=>by show((s.cps++ #[])++(Zt ("":Str) (y::l)).cps).toList=_;simp
theorem RQ:∀r:List V,ao r<100000000->∃l,nF r=au l/\(l.map (·.length)).sum<=ao r/\(Zt ("":Str) l).cps.toList=bP r
 |[],_=>(bx [] rfl (ds _) rfl)|x::r,h=>by
  cases x with
  |e s=>
   have H:ao (.e s::r)=s.length+1+ao r:=rfl;refine bY (RQ r (bc 0x5f5e100d1a185f5e100d1a281211a08812 (aJ H.symm) h)) λl a b c=>?_
   refine(bx (s::l) ?_ (by rw[ic,List.sum_cons];exact bS 0x2308131211a08812 (aJ H.symm) b) (by rw[RP,c];rfl));show(match nF r with
    |some l=>au (s::l)|none=>none)=_
   rw[a]
  |_=>exact absurd h (pr.mpr (bi 100000000 (ao r)))
theorem RR{r:List V}(h:ao r<=16000000):∃l,nF r=au l/\tE ("":Str) l=true/\z6 ("":Str) l=bR r:=by
 refine bY (RQ r (aO 0x5f5e100d1a080f42400d011 h)) λl H a b=>?_
 refine(bx l H ?_ ?_)
 ·delta tE;rw[StrLaws.joinTotal];show(!decide (_>sizeLine))=true;rw[bw,show("":Str).length=0 from rfl,Nat.mul_zero,w5,decide_eq_false (pr.2 (ef a (ef h (by decide))))];rfl
 ·delta z6;rw[StrLaws.glued_eq_join];show _=(⟨(bP r).toArray⟩:Str);rw[←b]
noncomputable def rt(R:List V):af:=[.a [(187,.o 1)],.u R]
theorem RS(n:Nat){R:List V}(h:ao R<=16000000):bd aa (n+1) 768 [.k 771 0] (rt R) (.e (bR R)) (rt R):=by
 refine bY (RR h) λl H a b=>?_
 refine .d ⟨[9],[],Hj,none⟩ (.inl rfl) (l':=[(9,.k 771 0)]) λk c=>?_
 have K:(eM (nF R) λl=> .bM (tE ("":Str) l=true) (.e (z6 ("":Str) l)) (rt R)).bD (λv s=>k (.f v) [(9,.k 771 0)] s):=by rw[H];exact(ai a (b▸c _ .a))
 exact aP K
theorem J_{σ:af}{i:Nat}{o:aG}(h:σ[i]? =au o):eY i o σ=σ:=by rw[jH];obtain⟨H,rfl⟩:=df.mp h;exact List.set_getElem_self H
theorem RT{B:aK}(O:cL B aa){n a:Nat}{X Y:af}(c:X.length=a){Fs:List (Nat×V)}{R st I ev:List V}(l:ao R<=16000000)(d:ck 0 R)(hn:2<=n){k:bu}(m:k (.e (bR R)) (X++(ci a Fs R st I ev++Y))):
  bF B aa n 768 [.k 771 a] (X++(ci a Fs R st I ev++Y)) k:=by
 have G:(X++(ci a Fs R st I ev++Y))[a+0]? =au (.a [(187,.o (a+1))]):=jG c;have g:(X++(ci a Fs R st I ev++Y))[a+1]? =au (.u R):=jG c;generalize o:X++(ci a Fs R st I ev++Y)=b at*;have v:= @bF.G B aa n 768 [a+0,a+1] 1 [] [.k 771 0] (rt R) (rt R) b (.e (bR R)) k ((RS 0 l).h O hn (ai rfl rfl)) (by simp) (λj H=>?_) rfl (ba R g) (λi p M h f=>?_) λ_=>?_
 ·exact v
 ·rcases bv H with rfl|H
  ·exact(df.mp G).1
  ·rw[ce.mp H];exact(df.mp g).1
 ·match i,h with
  |0,h=>(injection h with z;subst z);cases G.symm.trans f;exact(aE _ rfl (gc.a _))
  |1,h=>(injection h with z;subst z);cases g.symm.trans f;exact congrArg aG.u (oG _ _ d).symm
  |_+2,h=>(injection h;done)
 ·have e:lv (bB [a+0,a+1] b.length) [] [a+0,a+1] (rt R) b=b:=by
   show eY (a+1) (.u (fU (bB [a+0,a+1] b.length) R)) (eY (a+0) (.a [(187,.o (a+1))]) b)++[]=b;rw[dE,J_ G,oG _ _ d,J_ g]
  rw[e];exact m
theorem Ka{B:aK}(O:cL B aa){n a N:Nat}{X Y:af}(d:X.length=a)(f:a+(9+Y.length)=N){c:cN}(b:jB c)(oe:Bool){Bf r:List V}(h:ao r+200<=4600000)(g:Bf.length<=12100000){Fs:List (Nat×V)}(hn:22<=n)(i:gc (rp a c .c oe) Fs){k:bu}
  (j:∀Fs,gd a c .g false Fs->k .g (X++(ci a Fs (Bf++(r++bI c.a oe)) [] [] []++Y))):bF B aa n 330 [.k 736 (a+4),ay.g.a] (X++(ci a Fs (Bf++r) [] [] []++Y)) k:=by
 have l:ck 0 r:=gA (aO 0x4630c0d004630c0dc8b0811 h);have L:ck 0 (r++bI c.a oe):=by refine gA ?_;have:=nt b.a.a oe;rw[eH];exact aC 0x4630c0d108aa1104630c0dc8b0812 h this
 have H:=vC r;have e1:fT a (bB (cB a) N) Fs Bf (fB c .c oe r [])=ci a Fs (Bf++r) [] [] []:=by show ci a Fs (Bf++fU _ r) [] [] []=_;rw[oG _ _ l]
 have z:=wH O (e:=fB c .c oe r []) (e1:=fB c .g false (r++bI c.a oe) []) (Bf:=Bf) (y:=.g) (k:=k) d f trivial (Qz 0 b oe r h) hn ((rq a N c .c oe []).symm▸i) (by delta iQ;exact dj 0xb8a1a0d00b8a1a0d011 (g5.2 g)) (by rw[bw];delta iQ;exact kE (Int.add_le_add_left (g5.2 (ef H (ef (bi _ _) h))) _) (by decide)) λ_=>by
  have E:fT a (bB (cB a) N) (eo (bB (cB a) N) (fx (fB c .g false (r++bI c.a oe) []))) Bf (fB c .g false (r++bI c.a oe) [])=ci a (eo (bB (cB a) N) (fx (fB c .g false (r++bI c.a oe) []))) (Bf++(r++bI c.a oe)) [] [] []:=by show ci a _ (Bf++fU _ (r++bI c.a oe)) [] [] []=_;rw[oG _ _ L]
  rw[E];exact j _ (ai (rq a N c .g false []▸gc.a _) (λm o=>Bd o (wB (c:=c) (s:=.g) (oe:=false) (r:=r++bI c.a oe) (q:=[]) (λx p=>by cases p) (by have:=nt b.a.a oe;rw[eH];exact aC 0x4630c0d108aa1104630c0dc8b0812 h this) .g)))
 rw[e1]at z;exact z
theorem RY(c:cN)(X:af)(a:Nat):∃Fs,gd a c .i false Fs/\lv (bB [] a) [] [] (nC c) X=X++ci a Fs [] [] [] []:=by
 refine ap (RO c X a) λFs h e=>?_
 have E:lv (bB [] a) [] [] (nC c) X=X++ci a (eo (bB [] a) (fJ c.j c.c c.b c.d (mE c.a))) [] [] [] []:=by kernel_rfl!
 have b:Fs=eo (bB [] a) (fJ c.j c.c c.b c.d (mE c.a)):=by have:=List.append_cancel_left (e.symm.trans E);unfold ci at this;injection this with _ t;injection t with _ t;injection t with _ t;injection t with _ t;injection t with t _;injection t
 refine(aE Fs (ai h (λm H=>?_)) e);rw[b];show jI _ _;rw[J7];have q:∀i,i<9->bB [] a i<m:=λi d=>no (Nat.add_lt_add_left d a) H
 exact⟨q 0 (by decide),trivial,q 5 (by decide),q 4 (by decide),q 6 (by decide),trivial,q 7 (by decide),trivial,trivial,trivial,trivial,trivial,trivial,trivial,trivial,trivial,trivial,trivial,trivial,trivial,trivial,trivial,trivial,trivial,trivial,trivial,trivial,trivial,trivial⟩
noncomputable def wK:Nat->ag->ag
 |0,_=> .j|n+1,s=>match s with
  | .d s r=> .d s (wK n r)|_=> .j
def pL(K:bH->ah->af->Prop):Prop:=∀f a b s,bO a b->K f a s->K f b s
section
variable {B:aK} {n:Nat} {lm l:ah} {σ σ1:af} {K:bH->ah->af->Prop}
theorem Kb{s:ag}(H:pL K)(u:bO l lm)(h:bj aa (bF B aa n) s l σ K):bj aa (bF B aa n) s lm σ K:=wL (λg c σ d k f z q a=>by have e:=z.c;subst e;exact bF.c a λv s b=>q v s s (.a s) b) s u (.a σ) (tQ H) h
theorem kG{C:eN}{x:Nat}{e:aq}{r:ag}{v:V}(H:∀k:bu,k v σ1->(ae aa C e).az lm σ k)(h:bj aa C r (aU x v lm) σ1 K):bj aa C (.d (.i (.d x) e) r) lm σ K:=H (λv s=>bj aa C r (aU x v lm) s K) h
theorem tR{a:Nat}{c:cN}{s:bQ}{oe:Bool}{Fs:List (Nat×V)}{R:List V}(h:gd a c s oe Fs)(b:∀m,ck m R){m:Nat}(H:a+9<=m):bo m (ci a Fs R [] [] []):=⟨(ai (no (aO 0x9a081a1a0880) H) trivial),b m,⟨trivial,trivial,trivial,trivial,trivial,trivial,trivial⟩,⟨trivial,trivial,trivial,trivial,trivial,trivial⟩,h.2 m H,trivial,trivial,trivial,⟨trivial,trivial,trivial,trivial⟩,trivial⟩
theorem RZ{xs:List V}{i:Int}{x:V}(hi:0<=i/\i<1000000)(h:xs[i.toNat]? =au x){k:bu}(H:k x σ):pf (.u xs) (.q i) σ k:=(bx x hi h H)
noncomputable def tU:List (Option (_root_.Fin 3)):=[none,au 1,au 0,au 2]
noncomputable def R8:List (Option Bool):=[none,au false,au true]
abbrev rx(q:List ay):af:=[.u (tU.map bC),.u (q.map ay.a)]
abbrev fV(tp:List Int)(Fs:List (Nat×V))(R:List V)(q:List ay):af:=cD tp::(ci 1 Fs R [] [] []++rx q)
theorem R9(O:cL B aa)(hn:12<=n)(tp:List Int)(Fs:List (Nat×V))(R:List V):∃t tp1,iq 106 t/\∀k:bu,k .g (fV tp1 Fs R t.i)->bF B aa n 834 [.o 0,.q 3,.o 11] (fV tp Fs R []) k:=by
 refine dJ (Rr 0 3 tp [] [] (λx b=>by cases b) (λ_=> .j) (by decide)) λt tp1 D r=>?_
 refine(cg t tp1 D (λk c=>?_));refine @bF.G B aa n 834 [0,11] 0 [] [.o 0,.q 3,.o 1] (bn tp [] []) (bn tp1 t.i []) (fV tp Fs R []) .g k (r.h O hn (ai rfl rfl)) (by decide) (λj H=>?_) rfl (ba (tp.map .q) rfl) (λi m M h a=>?_) λ_=>?_
 ·rcases bv H with rfl|H
  ·exact(by decide:0<12)
  ·rw[ce.mp H];exact(by decide:11<12)
 ·match i,h with
  |0,h=>(injection h with z;subst z);(injection a with z;subst z);exact congrArg aG.u (oG _ _ (mz tp)).symm|1,h=>(injection h with z;subst z);(injection a with z;subst z);rfl|_+2,h=>(injection h;done)
 ·have e:lv (bB [0,11] 12) [] [0,11] (bn tp1 t.i []) (fV tp Fs R [])=fV tp1 Fs R t.i:=by
   show aG.u (fU _ (tp1.map .q))::(ci 1 Fs R [] [] []++[.u (tU.map bC),.u (fU _ (t.i.map ay.a))])++[]=_;rw[dE,oG _ _ (mt (pI t)),oG _ _ (mz tp1)]
  exact e▸c
theorem R_{C:eN}{j:Nat}{xs:List V}{a:aq}{y:V}{r:ag}(b:aH 55 lm=au (.o j))(H:cn j σ=au (.u xs))(c:∀k:bu,k y σ->(ae aa C a).az lm σ k)(d:xs.length<sizeLine)(h:bj aa C r lm (eY j (.u (xs++[y])) σ) K):
  bj aa C (.d (.l (.E (.d 55) 0 (.p a .j) .j)) r) lm σ K:=by
 have e:mH aa 0 (.o j) σ=.h (.j .a) [.o j]:=by show ir (cn j σ) _=_;rw[H];rfl
 refine nD (C:=C) (k:=λv s=>oD aa 0 v s λf first s=>(ae aa C a).az lm s λv s=>fS aa C f (jD first [v]) [] s λ_ s=>bj aa C r lm s K) b ?_;show match mH aa 0 (.o j) σ with
  | .a=>False| .h f first=>(ae aa C a).az lm σ λv s=>fS aa C f (jD first [v]) [] s λ_ s=>bj aa C r lm s K
 rw[e];refine c _ ?_;show(match cn j σ with
  |some o=>wM y σ j o|none=> .a:cp).bD λ_ s=>bj aa C r lm s K
 rw[H];exact(ai d h)
theorem Sa{m x:Nat}{a:aq}{xs:List V}{i:Int}{v:V}(h:br x aa.b=au (.u xs))(H:aR aa m a lm σ (.q i) σ)(hi:0<=i/\i<1000000)(b:xs[i.toNat]? =au v):aR aa m (.m (.G x) a) lm σ v σ:=λk c=>by
 show match br x aa.b with
  |some v=>(ae aa (aZ aa m) a).az lm σ λy s=>pf v y s k|none=>False
 rw[h];exact H _ (RZ hi b c)
noncomputable abbrev fK(f:Addr)(nl mk d t:Str)(c:Int):ah:=[(188,.o 0),(221,.e nl),(215,.e mk),(218,.cy f),(210,.k 736 5),(208,.e d),(209,.e t),(66,.q c)]
abbrev ly(D:Int)(v:Option (_root_.Fin 3))(g:Option Bool)(s:Bool):ah:=[(212,.q D),(18,bC v),(19,bT g),(213,.l s),(55,.o 11)]
theorem Sb{C:eN}{r:ag}{tp:List Int}{Fs:List (Nat×V)}{R:List V}{lm:ah}(H:aH 188 lm=au (.o 0))(a:aH 55 lm=au (.o 11))(K:bH->ah->af->Prop)(h:C 834 [.o 0,.q 3,.o 11] (fV tp Fs R []) λ_ s=>bj aa C r lm s K):
  bj aa C (.d (.l (.z (.G 198) (.p (.d 188) (.p (.q 3) (.p (.d 55) .j))) .j)) r) lm (fV tp Fs R []) K:=by
 refine nD (C:=C) (k:=λv s=>(ae aa C (.d 55)).az lm s λu s=>fS aa C (.cy 834) [v,.q 3,u] [] s λ_ s=>bj aa C r lm s K) H ?_;refine nD (C:=C) (k:=λu s=>fS aa C (.cy 834) [.o 0,.q 3,u] [] s λ_ s=>bj aa C r lm s K) a ?_;exact aP h
theorem Sc(O:cL B aa)(hn:22<=n){C:cN}{s:bQ}{oe:Bool}{tp:List Int}{Fs:List (Nat×V)}{R:List V}(H:gd 1 C s oe Fs)(i:∀m,ck m R)(f:Addr)(nl mk d T:Str)(c:Int):
  ∃D v g S t tp1,iq 106 t/\∀K:bH->ah->af->Prop,K .a (fK f nl mk d T c++ly D v g S) (fV tp1 Fs R (t.i++[.d S]))->bj aa (bF B aa n) (wK 7 Ai) (fK f nl mk d T c) (cD tp::ci 1 Fs R [] [] []) K:=by
 refine ap (lr bC (xs:=tU) (m:=4) rfl ((el tp).fdiv 4) (by decide)) λv _ o=>?_
 refine ap (lr bT (xs:=R8) (m:=3) rfl ((el tp).fdiv 16) (by decide)) λg _ p=>?_
 refine dJ (R9 (B:=B) O (n:=n) (aO 0xca016b11 hn) tp.tail Fs R) λt tp1 a G=>?_
 refine(It (el tp) v g (((el tp).fdiv 2).fmod 2==1) t tp1 a (λK q=>?_));have l:∀m,10<=m->bo m (ci 1 Fs R [] [] []):=λm r=>tR H i r
 refine kG (λk h=>(rd (n:=0) (l _ (by decide:10<=10)) rfl).h O (aO 0x1a0a80000029016b11 hn) h) ?_;refine kG (σ1:=cD tp.tail::(ci 1 Fs R [] [] []++[.u (tU.map bC)])) (λk h=>aR.h O (m:=0) (by exact im _ _) (mD .b (lt 4 4 (by decide) (by decide) rfl) (iX _ 4 (by decide)).1 o) h) ?_;have M:=iX ((el tp).fdiv 16) 3 (by decide);refine kG (λk h=>aR.h O (m:=0) (by exact im _ _) (Sa (by kernel_rfl!) (lt 16 3 (by decide) (by decide) rfl) (ai M.1 (by have:=F6 ((el tp).fdiv 16) (b:=((3:Nat):Int)) (by decide);lia)) p) h) ?_;refine kG (λk h=>aR.h O (m:=0) (by exact im _ _) (tO (lt 2 2 (by decide) (by decide) rfl)) h) ?_;refine kG (σ1:=fV tp.tail Fs R []) (v:=.o 11) (λk h=>aR.h O (m:=0) (by exact im _ _) .b h) ?_;refine Sb rfl rfl K (G _ ?_);have L:bo 12 (fV tp1 Fs R t.i):=.p (.u (mz _)) (jA (l _ (by decide)) (.p (.u ⟨trivial,⟨trivial,trivial,trivial⟩,⟨trivial,trivial,trivial⟩,⟨trivial,trivial,trivial⟩,trivial⟩) (.p (.u (mt (pI t))) .j)));refine R_ (j:=11) (y:=(ay.d (((el tp).fdiv 2).fmod 2==1)).a) rfl rfl (λk h=>aR.h O (m:=1) (aO 0x1a0000029016b11 hn) (QZ (n:=0) (σ1:=fV tp1 Fs R t.i) (λk h=>aP h) L) h) (by rw[hZ,bw];have:=a.k;exact aO 0x1000000d1a086ab011 this) ?_;have e:eY 11 (aG.u (t.i.map ay.a++[(ay.d (((el tp).fdiv 2).fmod 2==1)).a])) (fV tp1 Fs R t.i)=fV tp1 Fs R (t.i++[.d (((el tp).fdiv 2).fmod 2==1)]):=by show _=cD tp1::(ci 1 Fs R [] [] []++[.u (tU.map bC),.u ((t.i++[ay.d _]).map ay.a)]);rw[j0];rfl
 rw[e];exact aP q
end
theorem Bh{s:Bool}{c:cN}{e:aw}(d:oB s c e):∃oe r,e.ae=.bz oe r/\(s=true->oe=false)/\ao r<=3999000/\(s=false->bL c.a (.bz oe r))/\
  ∀a N,gd a c .c oe (eo (bB (cB a) N) (fx e))/\∀P:List V,(∀m,ck m P)->∀Fs Bf,fT a (bB (cB a) N) Fs Bf (e.bI P)=ci a Fs (Bf++(P++r)) [] [] []:=by
 refine dJ d.ae λoe r b g=>?_
 have H:=d.p;have f:=d.g;rw[b]at H f;refine(Au oe r b g H f (λa N=>?_));refine Sd (RL d a N) λo h E i j R k=>?_
 cases b.symm.trans k;refine(ai ⟨h,λm l=>Bd l d.f⟩ (λP n Fs Bf=>?_));show ci a Fs (Bf++fU _ (P++e.ae.a)) (fU _ e.p) (fU _ e.h) (fU _ e.g)=_;rw[b,E,i,j,oG _ (P++(aF.bz oe r).a) (ry (n _) (gA (ef H (by decide))))];rfl
theorem Se{x:Nat}{v:V}{l:ah}(h:aH x l=none):bO l (aU x v l):=λy w H=>by
 rw[fP]
 by_cases q:y=x
 ·rw[q,h]at H;(injection H;done)
 ·rw[if_neg q];exact H
theorem Sf{C:eN}{xv i j:Nat}{lm:ah}{a:af}{Fs g:List (Nat×V)}{k:bu}(H:aH xv lm=au (.k 736 i))(b:cn i a=au (.a Fs))(d:aH 30 Fs=au (.k 771 j))(e:cn j a=au (.a g))(h:aH 179 g=none)
  (l:C 768 [.k 771 j] a k):(ae aa C (.E (.w (.d xv) 30) 179 .j .j)).az lm a k:=by
 have m:tV aa 30 (.k 736 i) a=.h (.k 771 j) a:=by
  show(match cn i a with
   |some o=>(match o with
    | .a F=>tW aa 30 a 736 i F|_=> .a:cp)
   |none=> .a:cp)=_
  rw[b];show(eM (br 736 aa.h) λc=>match aH 30 Fs with
   |some v=>mA (cV 30 c.a) (.h v a)|none=>_)=_
  rw[d]
  kernel_rfl!
 have n:mH aa 179 (.k 771 j) a=.h (.cy 768) [.k 771 j]:=by
  show ir (cn j a) _=_;rw[e];show(match aH 179 g with
   |some v=>_|none=>_)=_
  rw[h]
  kernel_rfl!
 refine nD (C:=C) (k:=λv s=>sX aa 30 v s λu s=>oD aa 179 u s λf first s=>fS aa C f (jD first []) [] s k) H ?_;show(tV aa 30 (.k 736 i) a).bD _;rw[m];show match mH aa 179 (.k 771 j) a with
  | .a=>False| .h f first=>fS aa C f (jD first []) [] a k
 rw[n];exact aP l
theorem Sg{a:Nat}{c:cN}{s:bQ}{oe:Bool}{Fs:List (Nat×V)}(h:gd a c s oe Fs):aH 30 Fs=au (.k 771 a):=by
 refine aV h λh _=>?_
 cases Fs with
 |nil=>exact h.elim|cons x r=>
  obtain⟨k,y⟩:=x;(refine cS h λe H _=>?_;clear h);rcases H with H|H
  ·rw[←H,←e];rfl
  ·exact H.elim
theorem Kc{n:Nat}{lm:ah}{σ:af}{x:aq}{ex:Bool}{v:Option (_root_.Fin 3)}{g:Option Bool}(h:aR aa (n+1) x lm σ (.l ex) σ)(H:aH 18 lm=au (bC v))(a:aH 19 lm=au (bT g))(l:bo (aQ σ) σ):
  aR aa (n+1) (.z (.G 61) .j (.I 17 x (.I 18 (.d 18) (.I 19 (.d 19) .j)))) lm σ ((ay.c ex (bC v) (bT g)).a) σ:=
 Q0 (n:=n) (λk b=>h (λu s=>(ae aa (aZ aa (n+1)) (.I 18 (.d 18) (.I 19 (.d 19) .j))).h lm s λc s=>k [] ((17,u)::c) s)
  (nD (C:=aZ aa (n+1)) (k:=λv s=>(ae aa (aZ aa (n+1)) (.d 19)).az lm s λu s=>k [] [(17,.l ex),(18,v),(19,u)] s) H (nD (C:=aZ aa (n+1)) (k:=λu s=>k [] [(17,.l ex),(18,bC v),(19,u)] s) a b))) l
section
variable {B:aK} {n a N:Nat} {X Y:af}
theorem Kd(O:cL B aa)(hn:22<=n)(c:X.length=a)(m:a+(9+Y.length)=N){xv:Nat}{lm:ah}(o:aH xv lm=au (.k 736 (a+4)))(d:xv≠54)(f:aH 55 lm=au (.o 11))(g:aH 54 lm=none){b:Int}{e0 i:aw}{Bf:List V}{Fs:List (Nat×V)}
  (p:gc (eo (bB (cB a) N) (fx e0)) Fs){y:ay}{ys:List ay}(w:y.h)(j:∀y∈ys,y.h)(z:ys≠[])(A:iW 11 b e0 (y::ys) i)(s:(Bf.length:Int)<=b)(D:b+(e0.ae.a.length:Int)<=(sizeLine:Int))
  (h:∀Fs e,cn 11 (X++(fT a (bB (cB a) N) Fs Bf e++Y))=au (.u (ys.map ay.a))){arg:Mine.aq}(H:aR aa 1 arg lm (X++(fT a (bB (cB a) N) Fs Bf e0++Y)) y.a (X++(fT a (bB (cB a) N) Fs Bf e0++Y))){r:ag}{K:bH->ah->af->Prop}(F:pL K)
  (l:bj aa (bF B aa n) r lm (X++(fT a (bB (cB a) N) (eo (bB (cB a) N) (fx i)) Bf i++Y)) K):
  bj aa (bF B aa n) (.d (.l (.E (.d xv) 211 (.p arg .j) .j)) (.d (.o (.d 54) (.d 55) (rn xv)) r)) lm (X++(fT a (bB (cB a) N) Fs Bf e0++Y)) K:=by
 refine ap A λE G I=>?_
 ·show bj aa (bF B aa n) (.l (.E (.d xv) 211 (.p arg .j) .j)) lm _ (iU _ K);refine Bc (Fs:=Fs) o (by rw[kD];exact jG c) (Bb p rfl) (λk l=>H.h O (aO 0x1a0000029016b11 hn) l) ?_;refine wH O c m w G hn p s D λR=>?_
  show bj aa (bF B aa n) (.o (.d 54) (.d 55) (rn xv)) lm _ (iU _ K);refine nD (C:=bF B aa n) (k:=λv t=>match j_ v t with
   |none=>False|some x=>pK aa (bF B aa n) 54 (rn xv) (mI v x) x lm t (iU (bj aa (bF B aa n) r) K)) f ?_
  have J:j_ (.o 11) (X++(fT a (bB (cB a) N) (eo (bB (cB a) N) (fx E)) Bf E++Y))=au (ys.map ay.a):=by show wN (cn 11 _)=_;rw[h];rfl
  show match j_ (.o 11) (X++(fT a (bB (cB a) N) (eo (bB (cB a) N) (fx E)) Bf E++Y))with
   |none=>False|some x=>pK aa (bF B aa n) 54 (rn xv) (mI (.o 11) x) x lm _ (iU (bj aa (bF B aa n) r) K)
  rw[J];refine RK O c m j I hn (gc.a _) s R o d h λL M P W q=>?_
  rw[q z];have u:bO lm L:=by
   rcases M with rfl|⟨v,rfl⟩
   ·exact .a
   ·exact Se g
  exact Kb F u l
theorem wO{lm:ah}{xv:Nat}(H:X.length=a)(b:aH xv lm=au (.k 736 (a+4))){c:cN}{s:bQ}{oe:Bool}{Fs:List (Nat×V)}{R:List V}(d:gd a c s oe Fs){O:cL B aa}(hn:2<=n){y:ay}{arg:Mine.aq}(h:aR aa 1 arg lm (X++(ci a Fs R [] [] []++Y)) y.a (X++(ci a Fs R [] [] []++Y))){r:ag}{K:bH->ah->af->Prop}
  (e:bF B aa n 330 [.k 736 (a+4),y.a] (X++(ci a Fs R [] [] []++Y)) λ_ σ=>bj aa (bF B aa n) r lm σ K):bj aa (bF B aa n) (.d (.l (.E (.d xv) 211 (.p arg .j) .j)) r) lm (X++(ci a Fs R [] [] []++Y)) K:=by
 show bj aa (bF B aa n) (.l (.E (.d xv) 211 (.p arg .j) .j)) lm _ (iU _ K);exact Bc (Fs:=Fs) b (by rw[kD];exact jG H) (Bb d.1 rfl) (λk f=>h.h O (by trivial) f) e
theorem Bi(O:cL B aa)(hn:2<=n){lm:ah}{xv:Nat}(h:X.length=a)(H:aH xv lm=au (.k 736 (a+4))){c:cN}{s:bQ}{oe:Bool}{Fs:List (Nat×V)}{R:List V}(b:gd a c s oe Fs)(d:ao R<=16000000)(e:ck 0 R){k:bu}(f:k (.e (bR R)) (X++(ci a Fs R [] [] []++Y))):
  (ae aa (bF B aa n) (.E (.w (.d xv) 30) 179 .j .j)).az lm (X++(ci a Fs R [] [] []++Y)) k:=
 Sf H (by rw[kD];exact jG h) (Sg b) (by rw[kD];exact jG (i:=0) h) rfl (RT O h d e hn f)
end
theorem Ke{c:cN}{s:bQ}{oe:Bool}{tp:List Int}{Fs:List (Nat×V)}{R:List V}{q:List ay}(h:gd 1 c s oe Fs)(H:∀m,ck m R)(a:∀x∈q,x.h){m:Nat}(b:10<=m):bo m (fV tp Fs R q):=.p (.u (mz _)) (jA (tR h H b) (.p (.u ⟨trivial,⟨trivial,trivial,trivial⟩,⟨trivial,trivial,trivial⟩,⟨trivial,trivial,trivial⟩,trivial⟩) (.p (.u (mt a)) .j)))
abbrev kH(f:Addr)(nl mk d t:Str)(c D:Int)(v:Option (_root_.Fin 3))(g:Option Bool)(s:Bool):ah:=fK f nl mk d t c++ly D v g s++[(217,.k 736 16)]
theorem Bj(t:cG)(s:Bool):∀y∈t.i++[ay.d s],y.h:=λy H=>(e8.mp H).elim (pI t y) λh=>by rw[ce.mp h];trivial
theorem Sh{B:aK}{n:Nat}(O:cL B aa)(hn:22<=n){e:cN}(z:jB e){s:bQ}{oe:Bool}{tp:List Int}{Fs:List (Nat×V)}{R:List V}(J:gd 1 e s oe Fs)(L:∀m,ck m R){t:cG}(f:Addr)(nl mk u T:Str)(c D:Int)(v:Option (_root_.Fin 3))(g:Option Bool)(S:Bool){E:aw}
  (M:iW 11 iQ (cm e .b false []) (.c (decide (0<c)||D.fmod 2==1) (bC v) (bT g)::(t.i++[.d S])) E)(d:oB S e E){o:Bool}{r:List V}(P:E.ae=.bz o r){Fa:List (Nat×V)}(w:gd 12 e .i false Fa){K:bH->ah->af->Prop}(Q:pL K)
  (h:∀Fa,(∀m,21<=m->fF m Fa)->bj aa (bF B aa n) vr (kH f nl mk u T c D v g S++[(179,.e (bR (r++bI e.a o)))]) (fV tp Fs R (t.i++[.d S])++ci 12 Fa (r++bI e.a o) [] [] []) K):
  bj aa (bF B aa n) vt (kH f nl mk u T c D v g S) (fV tp Fs R (t.i++[.d S])++ci 12 Fa [] [] [] []) K:=by
 refine sZ (Bh d) λU r2 x _ A _ j=>?_
 cases P.symm.trans x;have i:=Bj t S;have l:∀{F:List (Nat×V)} {G:List V},(∀m,21<=m->fF m F)->(∀m,ck m G)->bo 21 (fV tp Fs R (t.i++[.d S])++(ci 12 F G [] [] []++[])):=λp q=>jA (Ke J L i (by decide)) ⟨(ai (by decide:13<21) trivial),q _,⟨trivial,trivial,trivial,trivial,trivial,trivial,trivial⟩,⟨trivial,trivial,trivial,trivial,trivial,trivial⟩,p 21 (ds _),trivial,trivial,trivial,⟨trivial,trivial,trivial,trivial⟩,trivial⟩
 have a:∀m,ck m ([]:List V):=λ_=> .j
 have W:∀m,ck m r:=λm=>gA (by exact cO ‹_›)
 have H:(fV tp Fs R (t.i++[.d S])).length=12:=rfl;refine wO (O:=O) (xv:=217) (Y:=[]) (y:=.i) H rfl w (aO 704736017 hn) (JV (n:=0) (λk h=>aP h) (l w.2 a)) (J8 O H rfl hn w.1 λI p=>?_);have X:aR aa 1 (.z (.G 61) .j (.I 17 (.A (.y .Gt (.d 66) (.q 0)) (.y .Eq (.H .Mod (.d 212) (.q 2)) (.q 1))) (.I 18 (.d 18) (.I 19 (.d 19) .j)))) (kH f nl mk u T c D v g S) (fV tp Fs R (t.i++[.d S])++(ci 12 I [] [] [] []++[])) (ay.c (decide (0<c)||D.fmod 2==1) (bC v) (bT g)).a (fV tp Fs R (t.i++[.d S])++(ci 12 I [] [] [] []++[])):=Kc (n:=0) (JY .b (tO (oE 2 (by decide) rfl))) rfl rfl (l p.2 a)
 refine Kd O hn H (N:=21) rfl (xv:=217) (Bf:=[]) (Y:=[]) (e0:=cm e .b false []) (b:=iQ) (arg:=.z (.G 61) .j (.I 17 (.A (.y .Gt (.d 66) (.q 0)) (.y .Eq (.H .Mod (.d 212) (.q 2)) (.q 1))) (.I 18 (.d 18) (.I 19 (.d 19) .j)))) rfl (by decide) rfl rfl ((rq 12 21 e .b false []).symm▸p.1) (y:=.c (decide (0<c)||D.fmod 2==1) (bC v) (bT g)) (ys:=t.i++[.d S]) (qY ⟨v,rfl⟩ g rfl) i (by simp) M (by decide) (by rw[bw];exact(by decide:iQ+((0:Nat):Int)<=((16777216:Nat):Int))) (λ_ _=>rfl) X Q ?_;have Z:fT 12 (bB (cB 12) 21) (eo (bB (cB 12) 21) (fx E)) [] E=ci 12 (eo (bB (cB 12) 21) (fx E)) ([]++r) [] [] []:=(j 12 21).2 [] a _ _;rw[Z];refine wO (O:=O) (xv:=217) (Y:=[]) (y:=.g) H rfl (j 12 21).1 (aO 704736017 hn) (JU (n:=0) (λk h=>aP h) (l (j 12 21).1.2 W)) ?_;refine Ka O (Bf:=[]) (N:=21) H rfl z o (aO 0x4630c0dc8b0803d0518d011 A) (hB _) hn (j 12 21).1.1 λF2 q=>?_
 have wp:ao (r++bI e.a o)<=4600000:=by have:=nt z.a.a o;rw[eH];exact aC 0x4630c0d108aa1103d0518d012 A this
 exact kG (C:=bF B aa n) (r:=vr) (λk h=>Bi O (aO 704736017 hn) (xv:=217) (Y:=[]) H rfl q (by exact cO ‹_›) (gA wp) h) (h F2 q.2)
theorem nG(r:List V):(bR r).cps.toList=bP r:=rfl
theorem oH{a b:Str}(h:a.cps.toList=b.cps.toList):a=b:=by obtain⟨⟨a⟩⟩:=a;obtain⟨⟨b⟩⟩:=b;exact congrArg (λl=>(⟨⟨l⟩⟩:Str)) h
theorem lA(a b:Str):(a++b).cps.toList=a.cps.toList++b.cps.toList:=la
theorem Bk(a b:List V):bR (a++b)=bR a++bR b:=oH (by rw[lA,nG,nG,nG,AL])
theorem wQ:∀r:List V,(bP r).length<=ao r
 |[]=>ds _|x::r=>by
  have i:=wQ r;cases x with
  |e s=>show(s.cps.toList++bP r).length<=s.length+1+ao r;rw[bs,dO];exact bc 0x11a2880281011 i|_=>exact ef i (im _ _)
noncomputable def Kf:List Str:=(["","\n","\r","\u0085","\u2028"]:List String).map a'
noncomputable def tX(s:Str):Bool:=Kf.any (· ==s)
theorem Si:∀n,clipAt n (-1)=n-1
 |0=>rfl|k+1=>by
  have e:(-1:Int)+((k+1:Nat):Int)=k:=by rw[x6,ZQ (k:Int)];exact Int.neg_add_cancel_left 1 k
  delta clipAt;rw[if_pos (by decide),e,Int.min_eq_left (g5.2 (r9 k)),Int.max_eq_right (j1 k)];rfl
theorem Sj(x:Str):(eX x (au (-1)) none).cps.toList=x.cps.toList.drop (x.cps.toList.length-1):=by have h:clipAt x.length (-1)=x.cps.toList.length-1:=Si _;show((x.cps.toList.drop (clipAt x.length (-1))).take (x.length-clipAt x.length (-1)))=_;rw[h,x5 (by rw[ko,dO];exact ds _)]
theorem Kg(x:Str):tX (eX x (au (-1)) none)=true↔ou x.cps.toList:=by
 have e:=Sj x;generalize eX x (au (-1)) none=s at e;have H:tX s=true↔s.cps.toList=[]\/s.cps.toList=[10]\/s.cps.toList=[13]\/s.cps.toList=[133]\/s.cps.toList=[8232]:=by
  have q:∀t:Str,(t==s)=true↔s.cps.toList=t.cps.toList:=λt=>⟨λh=>by rw[ga h],λh=>beq_iff_eq.mpr (oH h.symm)⟩
  show((a' ""==s)||((a' "\n"==s)||((a' "\r"==s)||((a' "\u0085"==s)||((a' "\u2028"==s)||false)))))=true↔_;simp only[k5,q,Bool.false_eq_true,or_false];exact Iff.rfl
 rw[H,e];rcases List.eq_nil_or_concat x.cps.toList with h|⟨l,c,h⟩
 ·rw[h];exact⟨λ_=> .inl rfl,λ_=> .inl rfl⟩
 ·rw[h,List.concat_eq_append,bs,show l.length+[c].length-1=l.length from rfl,List.drop_left']
  ·constructor
   ·rintro (h|h|h|h|h)
    ·(injection h;done)
    ·exact .inr (cg l c rfl (.inl (hX h).1))
    ·exact .inr (cg l c rfl (.inr (.inl (hX h).1)))
    ·exact .inr (cg l c rfl (.inr (.inr (.inl (hX h).1))))
    ·exact .inr (cg l c rfl (.inr (.inr (.inr (hX h).1))))
   ·rintro (h|⟨L,C,h,a⟩)
    ·exact absurd h (by simp)
    ·refine aV (List.append_inj' h rfl) λ_ h=>?_
     (injection h with z;subst z);rcases a with rfl|rfl|rfl|rfl
     ·exact .inr (.inl rfl)
     ·exact .inr (.inr (.inl rfl))
     ·exact .inr (.inr (.inr (.inl rfl)))
     ·exact .inr (.inr (.inr (.inr rfl)))
  ·rfl
def mJ(T mk:Str):Str:=eX T none (au (if(T.length:Int)-mk.length>0 then(T.length:Int)-mk.length else 0))
set_option tactic.hygienic true in
theorem Sk(T mk:Str):(mJ T mk).cps.toList=T.cps.toList.take (T.cps.toList.length-mk.cps.toList.length):=by
 have h:clipAt T.length (if(T.length:Int)-mk.length>0 then(T.length:Int)-mk.length else 0)=T.cps.toList.length-mk.cps.toList.length:=by
  rw[dO,dO];split
  ·rename_i q;rw[←ZD (i5 (g7.1 (NS.1 q)))];exact(w9 _ _).trans (o5 (o8 _ _))
  ·rename_i q;rw[nw (rj λh=>q (NS.2 (g7.2 h)))];exact(w9 _ 0).trans (Nat.zero_min _)
 show((T.cps.toList.drop 0).take (clipAt T.length _-0))=_;rw[h];rfl
theorem Sl{nl mk:Str}{s oe:Bool}{r:List V}(H:mk.cps.toList=eR++nl.cps.toList)(c:s=true->oe=false)(J:s=false->bL nl (.bz oe r)):
  (!s&&(bR (r++bI nl oe)==mJ (bR (r++bI nl oe)) mk++mk&&tX (eX (mJ (bR (r++bI nl oe)) mk) (au (-1)) none)))=oe/\(oe=true->mJ (bR (r++bI nl oe)) mk=bR r):=by
 cases oe with
 |true=>
  have a:s=false:=by
   cases s with
   |false=>rfl|true=>exact absurd (c rfl) (by decide)
  have e:bR (r++bI nl true)=bR r++mk:=oH (by rw[lA,nG,nG,AL,H];show bP r++(f_.cps.toList++(nl.cps.toList++[]))=_;rw[dE];rfl)
  have E:mJ (bR (r++bI nl true)) mk=bR r:=oH (by rw[Sk,e,lA,bs,tC,se]<;>rfl)
  refine(ai ?_ (λ_=>E));rw[E,e,a,(Kg (bR r)).mpr ((J a).b.a rfl),beq_self_eq_true];rfl
 |false=>
  refine(ai ?_ (λh=>by(injection h;done)));cases s with
  |true=>rfl|false=>
   rw[show r++bI nl false=r from dE r];cases b:(bR r==mJ (bR r) mk++mk&&tX (eX (mJ (bR r) mk) (au (-1)) none))with
   |false=>rfl|true=>
    exfalso;rw[di]at b;have A:=ga b.1;have d:=(Kg _).mp b.2;rcases(J rfl).n with p|p
    ·(injection p;done)
    ·refine p.b (aE ((mJ (bR r) mk).cps.toList) ?_ d);show(bR r).cps.toList=_;rw[dx,←H,←lA,←A]
section
variable {B:aK} {n:Nat} {lm l:ah} {σ σ1:af}
theorem Kh(O:cL B aa){m:Nat}(h:2*m<=n){x:aq}{t:Bool}{k:Bool->af->Prop}(r:aN aa m x lm σ t σ1)(H:k t σ1):(ae aa (bF B aa n) x).a lm σ k:=(gY (Ki O h) x).a .a (.a σ) (λa s S z q=>by have e:=z.c;subst e;(refine aV q λE b=>?_;clear q;subst E;subst b);exact H) (r (λa s=>a=t/\s=σ1) (ai rfl rfl))
theorem Kj{C:eN}{c:aq}{a b r:ag}{t:Bool}{K:bH->ah->af->Prop}(h:∀k:Bool->af->Prop,k t σ1->(ae aa C c).a lm σ k)(H:t=true->bj aa C a lm σ1 (iU (bj aa C r) K))(d:t=false->bj aa C b lm σ1 (iU (bj aa C r) K)):bj aa C (.d (.B c a b) r) lm σ K:=h (λt s=>eD t (bj aa C a lm s (iU (bj aa C r) K)) (bj aa C b lm s (iU (bj aa C r) K))) (pB H d)
theorem Sm{C:eN}{c:aq}{a b r:ag}{K:bH->ah->af->Prop}(h:(ae aa C c).a lm σ λt s=>eD t (bj aa C a lm s (iU (bj aa C r) K)) (bj aa C b lm s (iU (bj aa C r) K))):bj aa C (.d (.B c a b) r) lm σ K:=h
theorem Kk:∀l m:ah,bO l (l++m)
 |[],_=>λ_ _ h=>nomatch h|(y,u)::l,m=>λx v h=>by
  rw[nb,fh];rw[fh]at h
  by_cases q:x=y
  ·rw[if_pos q]at h⊢;exact h
  ·rw[if_neg q]at h⊢;exact Kk l m x v h
end
abbrev fk(tp:List Int)(Fs:List (Nat×V))(R:List V)(q:List ay)(Fa:List (Nat×V))(Ra:List V)(Y:af):af:=fV tp Fs R q++(ci 12 Fa Ra [] [] []++Y)
theorem Sn(c D:Int)(f:Addr)(nl mk d t:Str)(v:Option (_root_.Fin 3))(g:Option Bool)(s:Bool)(T:Str)(σ:af):aN aa 0 HW (kH f nl mk d t c D v g s++[(179,.e T)]) σ (v.isSome||g.isSome) σ:=by
 cases v with
 |some v=>exact .b|none=>cases g with
  |none=>exact .b|some g=>cases g<;>exact .b (by kernel_rfl!)
theorem So(c D:Int)(f:Addr)(nl mk d t:Str)(v:Option (_root_.Fin 3))(g:Option Bool)(s:Bool)(T h:Str)(tp:List Int)(Fs:List (Nat×V))(R:List V)(q:List ay)(Fa:List (Nat×V))(Ra:List V)(C:eN)(k:Bool->af->Prop):
  eD (!s) (h.length+mk.length<=sizeLine/\eD (T==h++mk) (k (tX (eX h (au (-1)) none)) (fk tp Fs R q Fa Ra [.u (Kf.map .e)])) (k false (fk tp Fs R q Fa Ra []))) (k false (fk tp Fs R q Fa Ra []))=
  (ae aa C HR).a (kH f nl mk d t c D v g s++[(179,.e T),(214,.e h)]) (fk tp Fs R q Fa Ra []) k:=by kernel_rfl!
theorem Sp{B:aK}{n:Nat}(O:cL B aa){tp:List Int}{Fs:List (Nat×V)}{R:List V}{q:List ay}(f:Addr)(nl mk e j:Str)(c D:Int)(v:Option (_root_.Fin 3))(g:Option Bool)(s:Bool){oe:Bool}{r:List V}{Fa:List (Nat×V)}{Ra:List V}(u:mk.cps.toList=eR++nl.cps.toList)(w:nl.length<=2)
  (S:s=true->oe=false)(J:s=false->bL nl (.bz oe r))(P:ao r<=3999000)(x:e.length+j.length<=12100000){K:bH->ah->af->Prop}(U:pL K)
  (H:∀Y,(∀m,bo m Y)->bj aa (bF B aa n) vq (fK f nl mk ((bif v.isSome||g.isSome then e++j else e)++bR r) (bif oe then mk else "") c++ly D v g s) (fk tp Fs R q Fa Ra Y) K):
  bj aa (bF B aa n) vr (kH f nl mk e j c D v g s++[(179,.e (bR (r++bI nl oe)))]) (fk tp Fs R q Fa Ra []) K:=by
 refine aV (Sl u S J) λp W=>?_
 have X:(bR (r++bI nl oe)).length<=3999500:=by have h:=wQ (r++bI nl oe);have:=nt w oe;rw[eH]at h;rw[←dO,nG];exact bc 0x3d070cd003d0518d11aa21218013 h this P
 have E:(bR r).length<=3999000:=by rw[←dO,nG];exact ef (wQ r) P
 have G:mk.length<=5:=by rw[←dO,u,bs,dO];show 3+nl.length<=5;exact aO 0x5a03a82a011 w
 generalize Z:bR (r++bI nl oe)=T at*;have I:(mJ T mk).length<=T.length:=AT _ _ _;generalize hH:mJ T mk=l at*;have y:∀d:Str,d.length<=12100000->(bif v.isSome||g.isSome then e++j else e)=d->bj aa (bF B aa n) Ah (kH f nl mk d j c D v g s++[(179,.e T)]) (fk tp Fs R q Fa Ra []) K:=λd L he=>by
  rw[he]at H;refine kG (C:=bF B aa n) (v:=.e "") (r:=HV) (λk H=>H) ?_;refine kG (C:=bF B aa n) (v:=.e l) (r:=HU) (σ1:=fk tp Fs R q Fa Ra []) (λk H=>aR.h O (m:=0) (hB _) (.b (by rw[←hH];kernel_rfl!)) H) ?_;have F:∀(o M:Str) (Y:af),(∀m,bo m Y)->o=(bif oe then mk else "")->M=bR r->bj aa (bF B aa n) sF (kH f nl mk d o c D v g s++[(179,.e M),(214,.e l)]) (fk tp Fs R q Fa Ra Y) K:=λo M Y A e1 e2=>by subst e1 e2;refine kG (C:=bF B aa n) (v:=.e (d++bR r)) (r:=vq) (σ1:=fk tp Fs R q Fa Ra Y) (λk H=>aP (a:=d.length+(bR r).length<=sizeLine/\k (.e (d++bR r)) (fk tp Fs R q Fa Ra Y)) (ai (by rw[bw];exact aC 0x1000000d0180b8a1a0d1103d0518d012 E L) H)) ?_;exact Kb U (Kk _ [(217,.k 736 16),(179,.e (bR r)),(214,.e l)]) (H Y A)
  have i:∀(b:Bool) (Y:af),(∀m,bo m Y)->b=oe->eD b (bj aa (bF B aa n) HT (kH f nl mk d "" c D v g s++[(179,.e T),(214,.e l)]) (fk tp Fs R q Fa Ra Y) (iU (bj aa (bF B aa n) sF) K)) (bj aa (bF B aa n) .j (kH f nl mk d "" c D v g s++[(179,.e T),(214,.e l)]) (fk tp Fs R q Fa Ra Y) (iU (bj aa (bF B aa n) sF) K)):=λb Y A z=>by
   subst z;cases b with
   |false=>exact F "" T Y A rfl (by rw[←Z,show r++bI nl false=r from dE r])|true=>refine kG (C:=bF B aa n) (v:=.e mk) (r:=HS) (σ1:=fk tp Fs R q Fa Ra Y) (λk H=>H) ?_;refine kG (C:=bF B aa n) (v:=.e l) (r:=.j) (σ1:=fk tp Fs R q Fa Ra Y) (λk H=>H) ?_;exact F mk l Y A rfl (W rfl)
  refine Sm (r:=sF) (aP ?_ (So c D f nl mk d "" v g s T l tp Fs R q Fa Ra (bF B aa n) _));refine pB (λQ=>(ai (by rw[bw];exact bc 0x1000000d01803d070cd212115a013 G I X) (pB (λN=>i _ _ (λm=> .p (.u ⟨trivial,trivial,trivial,trivial,trivial,trivial⟩) .j) ?_) λN=>i _ _ (λm=> .j) ?_))) λQ=>i _ _ (λm=> .j) ?_
  ·rw[Q,N]at p;exact p
  ·rw[Q,N]at p;exact p
  ·rw[Q]at p;exact p
 refine Kj (C:=bF B aa n) (r:=Ah) (σ1:=fk tp Fs R q Fa Ra []) (t:=v.isSome||g.isSome) (λk H=>Kh O (hB _) (Sn c D f nl mk e j v g s T _) H) (λz=>?_) λz=>?_
 ·have L:e.length+j.length<=sizeLine:=by rw[bw];exact cO ‹_›
  refine kG (C:=bF B aa n) (v:=.e (e++j)) (r:=.j) (σ1:=fk tp Fs R q Fa Ra []) (λk H=>aP (a:=e.length+j.length<=sizeLine/\k (.e (e++j)) (fk tp Fs R q Fa Ra [])) (ai L H)) ?_;exact y _ (by rw[←dO,lA,bs,dO,dO];exact x) (by rw[z];rfl)
 ·exact y e (aC 0xb8a1a0d00b8a1a0d10811 x) (by rw[z];rfl)
theorem Sq{a:Nat}{Fs:List (Nat×V)}{R:List V}{m:Nat}(h:fF m Fs)(H:ck m R)(b:a+9<=m):bo m (ci a Fs R [] [] []):=⟨(ai (no (aO 0x9a081a1a0880) b) trivial),H,⟨trivial,trivial,trivial,trivial,trivial,trivial,trivial⟩,⟨trivial,trivial,trivial,trivial,trivial,trivial⟩,h,trivial,trivial,trivial,⟨trivial,trivial,trivial,trivial⟩,trivial⟩
theorem Kl{B:aK}{n:Nat}(O:cL B aa)(hn:22<=n){i:cN}{s:bQ}{oe:Bool}{tp:List Int}{Fs:List (Nat×V)}{R:List V}(M:gd 1 i s oe Fs)(Q:∀m,ck m R){t:cG}(f:Addr)(nl mk e T:Str)(c D:Int)(v:Option (_root_.Fin 3))(g:Option Bool)(S:Bool){E:aw}{b:Int}{P:List V}
  (hE:iW 11 b (cm i s oe []) (.c (D.fmod 2==1) (bC v) (bT g)::(t.i++[.d S])) (E.bI P))(d:oB S i E){p:Bool}{r:List V}(hw:E.ae=.bz p r)(U:∀m,ck m P)(u:(R.length:Int)<=b)(a0:b<=(sizeLine:Int))(w:bR (R++(P++r))=e)(A:ao (R++(P++r))<=16000000)
  {Fa:List (Nat×V)}{Ra:List V}{Y:af}(hA:∀m,21<=m->fF m Fa)(F:∀m,ck m Ra)(hY:∀m,bo m Y){K:bH->ah->af->Prop}(hK:pL K)
  (G:∀Fs,gd 1 i .c p Fs->K .a (fK f nl mk e T (c+1)++ly D v g S) (fk tp Fs (R++(P++r)) (t.i++[.d S]) Fa Ra Y)):
  bj aa (bF B aa n) vq (fK f nl mk e T c++ly D v g S) (fk tp Fs R (t.i++[.d S]) Fa Ra Y) K:=by
 refine sZ (Bh d) λa1 r2 I _ hr _ W=>?_
 cases hw.symm.trans I;have q:=Bj t S;have L:bo (aQ Y+21) (fk tp Fs R (t.i++[.d S]) Fa Ra Y):=jA (Ke M Q q (by exact im _ _)) (jA (Sq (hA _ (by exact im _ _)) (F _) (by exact im _ _)) (hY _));have Z:aR aa 1 (.z (.G 61) .j (.I 17 (.y .Eq (.H .Mod (.d 212) (.q 2)) (.q 1)) (.I 18 (.d 18) (.I 19 (.d 19) .j)))) (fK f nl mk e T c++ly D v g S) (fk tp Fs R (t.i++[.d S]) Fa Ra Y) (ay.c (D.fmod 2==1) (bC v) (bT g)).a (fk tp Fs R (t.i++[.d S]) Fa Ra Y):=Kc (n:=0) (tO (oE 2 (by decide) rfl)) rfl rfl L
 generalize hN:1+(9+(rx (t.i++[.d S])++(ci 12 Fa Ra [] [] []++Y)).length)=N;have e0:fk tp Fs R (t.i++[.d S]) Fa Ra Y=[cD tp]++(fT 1 (bB (cB 1) N) Fs R (cm i s oe [])++(rx (t.i++[.d S])++(ci 12 Fa Ra [] [] []++Y))):=by show _=cD tp::(ci 1 Fs (R++[]) [] [] []++(rx (t.i++[.d S])++(ci 12 Fa Ra [] [] []++Y)));rw[dE];rfl
 rw[e0]at Z;rw[e0];refine aP (Kd O hn (X:=[cD tp]) (a:=1) rfl hN (xv:=210) (lm:=fK f nl mk e T c++ly D v g S) (Bf:=R) (Y:=rx (t.i++[.d S])++(ci 12 Fa Ra [] [] []++Y)) (e0:=cm i s oe []) (b:=b) (arg:=.z (.G 61) .j (.I 17 (.y .Eq (.H .Mod (.d 212) (.q 2)) (.q 1)) (.I 18 (.d 18) (.I 19 (.d 19) .j)))) rfl (by decide) rfl rfl ((rq 1 N i s oe []).symm▸M.1) (y:=.c (D.fmod 2==1) (bC v) (bT g)) (ys:=t.i++[.d S]) (qY ⟨v,rfl⟩ g rfl) q (by simp) hE u (by show b+((0:Nat):Int)<=_;lia) (λ_ _=>rfl) (r:=HQ) (Fs:=Fs) ?_ hK ?_)
 ·exact Z
 have e2:fT 1 (bB (cB 1) N) (eo (bB (cB 1) N) (fx (E.bI P))) R (E.bI P)=ci 1 (eo (bB (cB 1) N) (fx E)) (R++(P++r)) [] [] []:=(W 1 N).2 P U _ _;rw[e2];have H:=(W 1 N).1;generalize eo (bB (cB 1) N) (fx E)=J at H;have rl:∀m,ck m (R++(P++r)):=λm=>ry (Q m) (ry (U m) (gA (by exact cO ‹_›)))
 refine Kj (C:=bF B aa n) (c:=HO) (a:=HP) (b:=.j) (r:=HN) (t:=false) (σ1:=fk tp J (R++(P++r)) (t.i++[.d S]) Fa Ra Y) (λk G=>?_) (λh=>by(injection h;done)) λ_=>?_
 ·refine aP (Bi (n:=n) O (aO 704736017 hn) (X:=[cD tp]) (a:=1) (Y:=rx (t.i++[.d S])++(ci 12 Fa Ra [] [] []++Y)) (xv:=210) (lm:=fK f nl mk e T c++ly D v g S) rfl rfl H A (rl 0) (k:=λx j=>(ae aa (bF B aa n) (.d 208)).az (fK f nl mk e T c++ly D v g S) j λy l=>jv .NotEq x y l λz o=>eh z o k) ?_);have u:(bR (R++(P++r)) !=e)=false:=by rw[w];exact bne_self_eq_false _
  exact aP (a:=k (bR (R++(P++r)) !=e) (fk tp J (R++(P++r)) (t.i++[.d S]) Fa Ra Y)) (u.symm▸G)
 ·exact aP (G J H)
noncomputable def fL(mk:Str)(oe:Bool):Str:=bif oe then mk else ""
structure rA(cf:cN)(c:Nat)(oe:Bool)(R:List V):Prop where
 ao:ao R<=4000000*c
 a:c=0->R=[]/\oe=false
theorem rA.f{C:cN}{c:Nat}{oe:Bool}{R:List V}(h:rA C c oe R)(b:c<=3):∀m,ck m R:=by
 have:=h.ao;have k:∀(m:Nat) (l:List V),Mine.L1.ao l<=12000000->ck m l:=λm l=>by
  induction l with
  |nil=>exact λ_=> .j|cons x l i=>
   intro H;cases x with
   |e s=>exact(ai trivial (i (by have:Mine.L1.ao (.e s::l)=s.length+1+Mine.L1.ao l:=rfl;exact bc 0xb71b00d10b71b00d21211a08812 (aJ this.symm) H)))|_=>exact absurd H (Nat.not_le.mpr (no (by decide) (bi 100000000 (Mine.L1.ao l))))
 exact λm=>k m R (aC 0xb71b00d03a3d0900913d09009113d09009012 this (gv 4000000 b))
theorem Bl{mk nl:Str}(H:mk.cps.toList=eR++nl.cps.toList)(v:Option (_root_.Fin 3))(g:Option Bool)(oe:Bool)(R r:List V):bR (R++(bI nl (dD v g oe)++r))=(bif v.isSome||g.isSome then bR R++fL mk oe else bR R)++bR r:=by
 have h:mk=bR [.e f_,.e nl]:=oH (by rw[H];show _=f_.cps.toList++(nl.cps.toList++[]);rw[dE];rfl)
 have E:bR ([]:List V)="":=rfl;have e:∀s:Str,s++("":Str)=s:=λs=>oH (by rw[lA];exact dE _)
 rw[Bk,Bk];have A:∀a b c:Str,a++(b++c)=a++b++c:=λa b c=>oH (by rw[lA,lA,lA,lA,dx])
 rw[A];refine congrArg (· ++bR r) ?_;delta dD;cases d:(v.isSome||g.isSome)with
 |false=>exact e _|true=>
  cases oe with
  |false=>exact rfl|true=>show bR R++bR [.e f_,.e nl]=bR R++mk;rw[←h]
theorem Sr(e:aw):e.bI []=e:=by cases e;rfl
theorem wk{B:aK}{n:Nat}(O:cL B aa)(hn:22<=n){C:cN}(z:jB C){c:Nat}(a:c<=2){oe:Bool}{tp:List Int}{Fs:List (Nat×V)}{R:List V}(A:rA C c oe R)(j:gd 1 C (mx (c==0)) oe Fs){t:cG}(T:iq 106 t)(f:Addr){mk:Str}(H:mk.cps.toList=eR++C.a.cps.toList)(D:Int)(v:Option (_root_.Fin 3))(g:Option Bool)(s:Bool)
  {Fa:List (Nat×V)}(hA:gd 12 C .i false Fa){K:bH->ah->af->Prop}(k:pL K)
  (hk:∀o E F Y,rA C (c+1) o E->gd 1 C .c o F->K .a (fK f C.a mk (bR E) (fL mk o) ((c+1:Nat):Int)) (cD tp::(ci 1 F E [] [] []++Y))):
  bj aa (bF B aa n) vt (kH f C.a mk (bR R) (fL mk oe) (c:Int) D v g s) (fV tp Fs R (t.i++[.d s])++ci 12 Fa [] [] [] []) K:=by
 have G:=A.f (by exact cO ‹_›);have I:=Bj t s;have b:=A.ao;(refine bY (Qx 0 z (decide (0<(c:Int))||D.fmod 2==1) s v g (T.h g) (by have:=T.k;exact cO ‹_›) I) λe' U d L=>?_);refine sZ (Bh d) λo r M h1 W J _=>?_
 have e:=z.a.a;have l:(bR R).length<=8000000:=by rw[←dO,nG];have:=wQ R;exact bc 0x7a1200d02a3d0900923d09009123d09009111013 this b (gv 4000000 a)
 have N:(fL mk oe).length<=5:=by
  cases oe
  ·exact hB _
  ·show mk.length<=5;rw[←dO,H,bs,dO];show 3+C.a.length<=5;exact aO 0x5a03a82a011 e
 refine Sh O hn z j G f C.a mk (bR R) (fL mk oe) c D v g s U d M hA k λp u=>?_
 refine aP (Sp (n:=n) O f C.a mk (bR R) (fL mk oe) c D v g s (tp:=tp) (Fs:=Fs) (R:=R) (Fa:=p) (Ra:=r++bI C.a o) (q:=t.i++[.d s]) H e h1 J W (aC 0xb8a1a0d1085a1107a1200d012 l N) k λY X=>?_);have wP:ao (bI C.a (dD v g oe))<=10:=nt e _;have Z:ao (R++(bI C.a (dD v g oe)++r))<=4000000*(c+1):=by rw[eH,eH];exact bS 0x1a183d0900923808aa3103d0518d2113d09009013 b W wP
 have rP:∀m,ck m (bI C.a (dD v g oe)):=wA _ _;have w:∀m,ck m (r++bI C.a o):=λm=>ry (gA (by exact cO ‹_›)) (wA _ _ m)
 have lR:R.length<=8000000:=by have:=vC R;exact bc 0x7a1200d02a3d0900923d09009123d09009111013 this b (gv 4000000 a)
 have x:∀Fs,gd 1 C .c o Fs->K .a (fK f C.a mk ((bif v.isSome||g.isSome then bR R++fL mk oe else bR R)++bR r) (bif o then mk else "") ((c:Int)+1)++ly D v g s) (fk tp Fs (R++(bI C.a (dD v g oe)++r)) (t.i++[.d s]) p (r++bI C.a o) Y):=λFs j=>by rw[←Bl H v g oe R r];exact k _ _ _ _ (Kk _ _) (hk o _ Fs _ ⟨Z,λh=>absurd h (Nat.succ_ne_zero _)⟩ j)
 cases y:c with
 |zero=>
  (refine aV (A.a y) λP Q=>?_;subst P;subst Q);subst y;have S:bI C.a (dD v g false)=[]:=by delta dD;rw[kK];rfl
  have i:iW 11 iQ (cm C (mx true) false []) (.c (D.fmod 2==1) (bC v) (bT g)::(t.i++[.d s])) (e'.bI (bI C.a (dD v g false))):=by rw[S,Sr];exact U
  exact Kl O hn j G f C.a mk _ _ _ D v g s i d M rP (by decide) (by rw[bw];exact(by decide:iQ<=((16777216:Nat):Int))) (Bl H v g false [] r) (by exact cO ‹_›) u w X k x
 |succ c'=>
  have hs:mx (c==0)=.c:=by rw[y];rfl
  rw[hs]at j;have i:=L (by rw[k5];exact .inl (decide_eq_true (g7.2 (aC 0x11a0a811a0811 (aJ y.symm))))) oe (D.fmod 2==1);rw[←y];exact Kl O hn j G f C.a mk _ _ _ D v g s i d M rP (by delta ny;exact dj 0xb8a19ed007a1200d011 (g5.2 lR)) (by rw[bw];exact(by decide:ny<=((16777216:Nat):Int))) (Bl H v g oe R r) (aC 0xf42400d02a3d0900913d0900911a183d09009012 Z (gv 4000000 a)) u w X k x
noncomputable def rD:List Str:=nW.map a'
def aA(i:Nat):Str:=match cn i nW with
 |some s=>a' s|none=>⟨(j4 (i+100) 122).toArray⟩
theorem Bm:rD.Nodup/\∀s∈rD,s.length<100:=(ai (by decide+kernel) (by decide+kernel))
theorem Bn{i:Nat}{s:String}(h:cn i nW=au s):aA i=a' s/\rD[i]? =au (a' s):=by refine(ai (by delta aA;rw[h]) ?_);rw[kD]at h;show(nW.map a')[i]? =_;rw[n7,h];rfl
theorem Bo{i:Nat}(h:cn i nW=none):(aA i).length=i+100:=by delta aA;rw[h];show(j4 (i+100) 122).toArray.size=_;rw[n0,q9]
theorem Sx:∀i j,aA i=aA j->i=j:=λi j e=>by
 cases c:cn i nW with
 |some s=>
  refine aV (Bn c) λd E=>?_
  have l:=Bm.2 _ (g8 E);cases h:cn j nW with
  |some t=>
   refine aV (Bn h) λa b=>?_
   rw[d,a]at e;rw[e]at E;exact(List.getElem?_inj (df.mp E).1 Bm.1).mp (E.trans b.symm)
  |none=>have:=Bo h;rw[←e,d]at this;exact gh (aC 0xa1a064b18164b1a0812 l (aJ this.symm))
 |none=>
  have H:=Bo c;cases h:cn j nW with
  |some t=>
   refine aV (Bn h) λa b=>?_
   have l:=Bm.2 _ (g8 b);rw[e,a]at H;exact gh (aC 0xa1a64b1a181164b0812 (aJ H.symm) l)
  |none=>have f:=Bo h;rw[e]at H;exact ea (bc 0x2064b2811164b0812 (aJ H.symm) (aJ f)) (bc 0x12064b28164b18012 (aJ H) (aJ f.symm))
noncomputable def Sy(a:Addr):Frag->Frag
 |[]=>[]|p::r=>match e6 p.1 a with
  |true=>r|false=>p::Sy a r
noncomputable def dk:Addr:=836
noncomputable def gr:Addr:=838
def gC(P:i9):Frag:=Sy dk (Hd.iT P)
theorem Sz{α:Type}{f:Addr->Option Obj}{g:Obj->Bool}:∀{K:Frag} {a:Addr} {o:Obj},K.map (λp=>f p.1)=K.map (λp=>au p.2)->K.all (λp=>g p.2)=true->K.lookup a=au o->f a=au o/\g o=true
 |[],_,_,_,_,h=>by(injection h;done)|(b,x)::r,a,o,H,c,h=>by
  rw[j3]at h;rw[ic,ic]at H;rw[i',di]at c;cases d:a==b with
  |true=>rw[d]at h;(injection h with z;subst z);rw[ga d];exact(ai ((hX H).1) c.1)|false=>rw[d]at h;exact Sz (α:=α) (hX H).2 c.2 h
theorem SA(P:i9):(gC P).map (λp=>(Hd.tY P).get p.1)=(gC P).map (λp=>au p.2):=by kernel_rfl!
theorem SD(P:i9):(gC P).all (λp=>!p.2.isFreed)=true:=by kernel_rfl!
theorem Tb(P:i9):(gC P).all (λp=>Nat.blt p.1 Hd.KB)=true:=by kernel_rfl!
theorem Tc{f:Addr×Obj->Bool}:∀{K:Frag} {a:Addr} {o:Obj},K.all f=true->K.lookup a=au o->f (a,o)=true
 |[],_,_,_,h=>by(injection h;done)|(b,x)::r,a,o,H,h=>by
  rw[j3]at h;rw[i',di]at H;cases c:a==b with
  |true=>rw[c]at h;(injection h with z;subst z);rw[ga c];exact H.1|false=>rw[c]at h;exact Tc H.2 h
theorem Ta(P:i9):(gC P).In (Hd.jo P):=λa o h=>by
 refine aV (Sz (α:=Nat) (f:=(Hd.tY P).get) (g:=λo=>!o.isFreed) (SA P) (SD P) h) λH b=>?_
 have c:=Tc (Tb P) h;delta Hd.jo;rw[abs_get (Nat.blt_eq.mp c) H];delta alive;split
 ·(injection b;done)
 ·rfl
def cY(w:i3)(h₀:Heap)(os:ie)(mg mb:Str->Option Value):aK:=⟨Hd.cx,w,gC w.params,h₀,os,mg,mb,aA,Sx⟩
noncomputable def Bw(K:Frag)(a:Addr):List DictEntry:=match K.lookup a with
 |some o=>match o.data with
  | .dict e _=>e.toList|_=>[]
 |none=>[]
noncomputable def KC(K:Frag)(a:Addr):Bool:=match K.lookup a with
 |some o=>o.cls==.type "dict"&&(o.dict.isNone&&(o.slots.isEmpty&&match o.data with
  | .dict _ _=>true|_=>false))
 |none=>false
def KD:List DictEntry->List (Str×V)->Bool
 |[],E=>E.isEmpty|e::r,E=>match E with
  |[]=>false|p::E=>Value.isStrOf p.1 e.key&&(Bx e.val p.2&&KD r E)
theorem Td{B:aK}{W:aD}:∀{E:List DictEntry} {es:List (Str×V)},KD E es=true->E.map (·.hash)=es.map (λp=>hashStr B.ae p.1)->
  ∃kvs,Pairs (li B.c B.ae) E kvs/\gP B W kvs es/\kvs.map (·.1)=es.map (·.1)/\∀e∈E,∃k,(li B.c B.ae).is k e.key=true/\e.hash=(li B.c B.ae).hash k
 |[],[],_,_=>(ii [] .nil rfl rfl (λe H=>by cases H))
 |[],_::_,h,_=>by(injection h;done)|_::_,[],h,_=>by(injection h;done)|e::r,p::es,h,b=>by
  refine aV (aI h) λA a=>?_
  refine aV (aI a) λa c=>?_
  refine aV (hX b) λd f=>?_
  obtain⟨kvs,C,g,i,j⟩:=Td c f;refine(ii ((p.1,e.val)::kvs) (.cons A rfl C) (cz rfl (KF a) g) (congrArg (p.1::·) i) (λl H=>?_));rcases bv H with rfl|H
  ·exact(aE p.1 A d)
  ·exact j l H
theorem wW{B:aK}(H:B.a.In B.d){a:Addr}{es:List (Str×V)}(h:KC B.a a=true)(b:KD (Bw B.a a) es=true)(f:(Bw B.a a).map (·.hash)=es.map (λp=>hashStr B.ae p.1))(i:(es.map (·.1)).Nodup)(j:(a==sysModules)=false):
  ∀W σ s,aS B W σ s->aY B W (.ref a) (.c es):=λW σ s R=>by
 delta KC at h;cases e:B.a.lookup a with
 |none=>rw[e]at h;exact bZ h|some o=>
  delta Bw at b f;rw[e]at h b f;obtain⟨c,d,D,S⟩:=o;refine aV (aI h) λl A=>?_
  refine aV (aI A) λA g=>?_
  refine aV (aI g) λg m=>?_
  cases D with
  |dict E n=>
   refine kq (Td (W:=W) b f) λk C q r t=>?_
   exact⟨a,_,rfl,R.cm _ _ (H _ _ e),k,⟨j,E,n,(cz (ga l) (By A) (Array.isEmpty_iff.mp g)),rfl,λx u=>t x (B1.mpr u),C,r▸i⟩,q⟩
  |_=>exact bZ m
theorem Te{B:aK}(h:B.a.In B.d){a:Addr}{items:Array Value}{n:Nat}{xs:List V}(H:B.a.lookup a=au (listOf items n))(b:∀W σ s,aS B W σ s->bp B W items.toList xs):∀W σ s,aS B W σ s->aY B W (.ref a) (.u xs):=λW σ s R=> .u (R.cm _ _ (h _ _ H)) (b W σ s R)
set_option tactic.hygienic true in
theorem t_{K:Frag}{h:Heap}{m:Str->Option Value}{N:Addr}{n:Str}{v:Option Value}(X:K.In h)(G:h.Ns N m)(e:nsIn K N n=au v):m n=v:=by
 (refine qz G λo g i a b _ f=>?_;clear G);delta nsIn at e;split at e
 ·rename_i c d E j s q;have:=X _ _ q;rw[a]at this;(injection this with z;subst z);(injection b with z;subst z);rw[←f];delta nsFind findBy;rw[←Array.find?_toList];split at e
  ·rename_i k H;(injection e with z;subst z);rw[H];rfl
  ·rename_i H;split at e
   ·(injection e;done)
   ·(injection e with z;subst z);rw[H];rfl
 ·(injection e;done)
theorem wX{α:Type}{p:Nat×α->Bool}{x:Nat}{v:α}:∀{l:List (Nat×α)},l.all p=true->br x l=au v->p (x,v)=true
 |[],_,h=>cP h|(y,u)::r,h,e=>by
  (refine aV (aI (by rw[i']at h;exact h)) λa b=>?_);replace e:(match e6 x y with
   |true=>au u|false=>br x r)=au v:=e
  cases H:e6 x y with
  |true=>rw[H]at e;(injection e with z;subst z);cases g6 H;exact a
  |false=>rw[H]at e;exact wX b e
theorem Tf{α a:Type}{f g:Nat×α->a}{x:Nat}{v:α}:∀{l:List (Nat×α)},l.map f=l.map g->br x l=au v->f (x,v)=g (x,v)
 |[],_,h=>cP h|(y,u)::r,h,e=>by
  refine aV (hX h) λb c=>?_
  replace e:(match e6 x y with
   |true=>au u|false=>br x r)=au v:=e
  cases H:e6 x y with
  |true=>rw[H]at e;(injection e with z;subst z);cases g6 H;exact b
  |false=>rw[H]at e;exact Tf c e
def KG(K:Frag)(p:Nat×V):Bool:=match p.2 with
 | .cy a=>nsIn K mainGlobals (aA p.1)==au (au (.ref a))| .h a=>nsIn K mainGlobals (aA p.1)==au (au (.ref a))| .j b=>nsIn K mainGlobals (aA p.1)==au none&&nsIn K builtinsNs (aA p.1)==au (au b.b)| .u _=>nsIn K mainGlobals (aA p.1)==au (au (.ref 813))&&e6 p.1 219|_=>false
theorem Tg(P:i9):HZ.all (KG (gC P))=true:=by kernel_rfl!
theorem Th(P:i9):vB.all (Bz aA (gC P))=true:=by kernel_rfl!
theorem Ti(P:i9):vB.map (BA aA (gC P))=vB.map (BB (gC P)):=by kernel_rfl!
noncomputable def TB(l:List (Nat×V)):List (Nat×Value):=l.map λp=>(p.1,.ref (bif e6 p.1 93 then 308 else 696))
noncomputable def TC(K:Frag)(D:Addr):Option Addr->Bool
 |some g=>makesIn K D&&(findIn K (.ref D) "__init__"==au (au (.ref g))&&(typeIn K (.ref g)==au (.type "function")&&keepIn K (.ref D)))|none=>true
def KK(K:Frag)(p:Nat×kS):Bool:=rH K p.1&&(vA.all (λq=>kitOne K (.ref p.1) (.ref q.1)==au (cV q.1 p.2.d))&&(lI aA K ⟨p.1,p.2.a,p.2.b,TB p.2.c⟩&&((p.2.c.isEmpty||Nat.beq p.1 736)&&TC K p.1 p.2.e)))
theorem TD(P:i9):vA.all (KK (gC P))=true:=by kernel_rfl!
theorem TE:(br 736 vA).map (·.c)=au [(93,oY),(183,nX)]:=by kernel_rfl!
def TF:List (Str×V):=match oY with
 | .c e=>e|_=>[]
def TG:List (Str×V):=match nX with
 | .c e=>e|_=>[]
section
variable {w:i3} {h₀:Heap} {os:ie} {mg mb:Str->Option Value} (inK:(gC w.params).In h₀)
include inK
theorem TH:∀W σ s,aS (cY w h₀ os mg mb) W σ s->aY (cY w h₀ os mg mb) W (.ref 308) oY:=wW (B:=cY w h₀ os mg mb) inK (a:=308) (es:=TF) (by kernel_rfl!) (by kernel_rfl!) (by kernel_rfl!) (by decide+kernel) (by decide)
theorem TI:∀W σ s,aS (cY w h₀ os mg mb) W σ s->aY (cY w h₀ os mg mb) W (.ref 696) nX:=wW (B:=cY w h₀ os mg mb) inK (a:=696) (es:=TG) (by kernel_rfl!) (by kernel_rfl!) (by kernel_rfl!) (by decide+kernel) (by decide)
theorem TJ:∀W σ s,aS (cY w h₀ os mg mb) W σ s->aY (cY w h₀ os mg mb) W (.ref 811) (.c [("!e!",.e "t:")]):=wW (B:=cY w h₀ os mg mb) inK (a:=811) (by kernel_rfl!) (by kernel_rfl!) (by kernel_rfl!) (by decide+kernel) (by decide)
theorem TK:∀W σ s,aS (cY w h₀ os mg mb) W σ s->aY (cY w h₀ os mg mb) W (.ref 812) (.c [("!!",.e "t:"),("!",.e "tag:")]):=wW (B:=cY w h₀ os mg mb) inK (a:=812) (by kernel_rfl!) (by kernel_rfl!) (by kernel_rfl!) (by decide+kernel) (by decide)
theorem TL:∀W σ s,aS (cY w h₀ os mg mb) W σ s->aY (cY w h₀ os mg mb) W (.ref 813) vw:=Te (B:=cY w h₀ os mg mb) inK (a:=813) (items:= #[.none,.ref 811,.ref 812]) (n:=0) (by kernel_rfl!) λW σ s R=>⟨rfl,TJ inK W σ s R,TK inK W σ s R,rfl⟩
theorem S_(L:h₀.NoLimit)(g:h₀.Ns mainGlobals mg)(b:h₀.Ns builtinsNs mb)(S:∃o,h₀.get? sysModules=au o):cL (cY w h₀ os mg mb) aa where
 bM:=⟨inK,L,g,b,S⟩
 h:=λD c N=>by
  have z:=wX (TD w.params) N;unfold KK at z;refine aV (aI z) λZ z=>?_
  refine aV (aI z) λd z=>?_
  refine aV (aI z) λA z=>?_
  refine aV (aI z) λk t=>?_
  refine⟨(ai Z (λJ K B=>ga (wX (p:=λq=>kitOne (gC w.params) (.ref D) (.ref q.1)==au (cV q.1 c.d)) d B))),(aE _ A (λx M H=>?_)),λg C=>?_⟩
  ·rcases(k5 _ _).mp k with k|k
   ·rw[MV.mp k]at H;exact cP H
   ·cases g6 k;have e:(br 736 aa.h).map (·.c)=au [(93,oY),(183,nX)]:=TE;rw[N]at e;have e:c.c=[(93,oY),(183,nX)]:=j8 e;rw[e]at H⊢;replace H:(match e6 x 93 with
     |true=>au oY|false=>match e6 x 183 with
      |true=>au nX|false=>none)=au M:=H
    cases l:e6 x 93 with
    |true=>rw[l]at H;(injection H with n;subst n);cases g6 l;exact(aE (.ref 308) (by kernel_rfl!) (TH inK))
    |false=>
     cases r:e6 x 183 with
     |true=>rw[l,r]at H;(injection H with n;subst n);cases g6 r;exact(aE (.ref 696) (by kernel_rfl!) (TI inK))
     |false=>rw[l,r]at H;exact cP H
  ·rw[C]at t;refine aV (aI t) λY y=>?_
   refine aV (aI y) λE y=>?_
   refine aV (aI y) λF G=>?_
   exact(gU Y (ga E) (ga F) G)
 b:=λx M N=>by
  have z:=wX (Tg w.params) N;unfold KG at z;cases M with
  |cy O=>exact(aE (.ref O) (.inl (t_ inK g (ga z))) (λW v s R=>rfl))|h O=>exact(aE (.ref O) (.inl (t_ inK g (ga z))) (λW v s R=>rfl))|j f=>
   refine aV (aI z) λZ d=>?_
   exact(aE f.b (.inr (ai (t_ inK g (ga Z)) (t_ inK b (ga d)))) (λW v s R=>rfl))
  |u X=>
   refine aV (aI z) λZ d=>?_
   cases g6 d;have e:br 219 aa.b=au vw:=by kernel_rfl!
   rw[e]at N;have I:vw=.u X:=j8 N;exact(aE (.ref 813) (.inl (t_ inK g (ga Z))) (I▸TL inK))
  |_=>exact bZ z
 a:=λg m N=>TM (wX (Th w.params) N) (Tf (Ti w.params) N)
 i:=(KL (by kernel_rfl!) (by kernel_rfl!) (by kernel_rfl!) (by kernel_rfl!) (by kernel_rfl!) (by kernel_rfl!) (by kernel_rfl!) (by kernel_rfl!))
end
noncomputable abbrev iu:List Stmt:=Hd.ke.body
noncomputable abbrev dl:Scope:=Hd.ke.scope
def dL(i:Nat):Stmt:=wY (fn i iu)
def nI:Stmt:=dL 11
def lH:List Stmt:=pP nI
def ua:Stmt:=wY (fn 7 lH)
theorem Tj:(iL aA dl (wK 4 HY)).f (eF 4 (fn 7 iu))=(eF 4 (fn 7 iu),true):=by kernel_rfl!
theorem Tk:(bK aA dl Ag).az (cJ nI)=(cJ nI,true):=by kernel_rfl!
theorem Tl:(iL aA dl (wK 7 Ai)).f (eF 7 lH)=(eF 7 lH,true):=by kernel_rfl!
theorem Tm:(iL aA dl vt).f (fn 8 lH)=(fn 8 lH,true):=by kernel_rfl!
theorem Tn:(iL aA dl Af).f (fn 12 iu)=(fn 12 iu,true):=by kernel_rfl!
def wZ(x:Nat)(s:Stmt):Stmt:=.Assign [.Name (aA x) (cC (fp s)).pos] (.Call (.Name (aA 218) (dc (cJ s)).pos) [] [] (cJ s).pos) s.pos
theorem To:dL 6=wZ 210 (dL 6):=by kernel_rfl!
theorem Tp:ua=wZ 217 ua:=by kernel_rfl!
theorem Tq:nI=.While (cJ nI) lH [] nI.pos:=by kernel_rfl!
theorem Ts:fn 6 iu=dL 6::(eF 4 (fn 7 iu)++(nI::fn 12 iu)):=by kernel_rfl!
theorem Tt:lH=eF 7 lH++(ua::fn 8 lH):=by kernel_rfl!
structure w_(B:aK)(st:List (Addr×Obj))(f:Addr)(o p:Int)(nl:Str):Prop where
 b:∃(oc:Value) (od:Option Addr) (sl:Array (Option Value)) (co:Obj) (fd:FuncData) (ca:Addr) (cvs:Array Value) (t:N') (body:List Stmt),(f,(⟨oc,od,.func fd,sl⟩:Obj))∈st/\fd.code=.ref ca/\(ca,co)∈st/\co.data=.fields cvs/\cvs[1]? =au (.str fd.qualname t)/\fd.body=.stmts body/\
  (∀s,ZP s fd ⟨[],[]⟩ [])/\(∀L,callEnv fd L f=(⟨fd.qualname,fd.scope,f,fd.code,fd.closure,st⟩:cM).bA L)/\(∀x∈fd.scope.names,x.2≠.cell)/\fd.scope.isCoroutine=false/\fd.scope.isGenerator=false/\fd.scope.kind=.function/\
  (∀y mv,aH y (iK o p nl)=au mv->∃c ob w,fd.scope.names.lookup (B.aA y)=au .free/\fd.closure.lookup (B.aA y)=au c/\(c,ob)∈st/\ob.data=.cell (au w)/\∀W,aY B W w mv)/\(iL B.aA fd.scope qv).f body=(body,true)
section
variable {B:aK} {F:cM} {lm:ah} {σ:af} {k:bH->ah->af->Prop}
theorem KH(O:cL B aa)(b:B.aA=aA)(d:F.a=dl){f:Addr}{o p:Int}{nl:Str}(J:w_ B F.bg f o p nl){c:cN}(r:av aa 2 qv (iK o p nl) [] (.f (.k 736 4)) (iK o p nl) (nC c)){x:Nat}(M:dl.names.lookup (aA x)=au .local)(e:dl.names.lookup (aA 218)=au .local)
  (N:aH 218 lm=au (.cy f))(s:Stmt)(Q:∀Fs,gd σ.length c .i false Fs->k .a (aU x (.k 736 (σ.length+4)) lm) (σ++ci σ.length Fs [] [] [] [])):ec B F 23 (wZ x s) lm σ k:=by
 refine pC J.b λoc od sl co g=>pC g λfd ca R t i=>kq i λI S T U j=>sO j λW X Y Z l=>sO l λh8 h9 u w y=>cS y λz A C=>?_
 have H:F.a.kind=.function:=by rw[d];kernel_rfl!
 have K:∀P q,bh B F 23 (.Call (.Name (aA 218) q) [] [] P) lm σ λv a=>∃Fs,gd σ.length c .i false Fs/\v=.k 736 (σ.length+4)/\a=σ++ci σ.length Fs [] [] [] []:=λP q=>by
  rw[←b];refine bh.h (B:=B) (F:=F) (n:=23) (m:=2) (x:=218) O H (by rw[d,b];exact e) (by rw[b];decide+kernel) N S T U W X Y Z h8 h9 u w z A C (by decide) r.i ?_;refine ap (RY c σ σ.length) λFs G g2=>?_
  exact(bx Fs G rfl g2)
 unfold wZ;refine .a (λL=>rG rfl) (λL=>rfl) (λL=>rfl) ((K _ _).c λv a h=>?_);(refine bY h λFs G E D=>?_;clear h;subst E;subst D);rw[←b];exact .a H (by rw[d,b];exact M) (Q Fs G)
end
theorem Tu(f:Addr)(nl mk d t:Str)(c:Int){m:Nat}(H:6<=m):∀x v,aH x (fK f nl mk d t c)=au v->bG m v:=by
 have k:∀(l:ah),fF m l->∀x v,aH x l=au v->bG m v:=λl=>by
  induction l with
  |nil=>exact λ_ x v h=>cP h|cons y l i=>
   obtain⟨y,u⟩:=y;intro h x v e;rw[fh]at e
   by_cases q:x=y
   ·rw[if_pos q]at e;(injection e with z;subst z);exact h.1
   ·rw[if_neg q]at e;exact i h.2 x v e
 exact k _ ⟨show 0<m by exact aO 0x1a0a806a11 H,trivial,trivial,trivial,show 5<m by trivial,trivial,trivial,trivial,trivial⟩
theorem Tv(f:Addr)(nl mk d t:Str)(c:Int)(tp:List Int)(Fs:List (Nat×V))(R:List V):aN aa 0 Ag (fK f nl mk d t c) (cD tp::ci 1 Fs R [] [] []) (c==0||(!(tp.map V.q).isEmpty&&decide (c<3))) (cD tp::ci 1 Fs R [] [] []):=eK .b (gy .b .b)
theorem Tw{B:aK}{n:Nat}{x:aq}{l lm:ah}{σ:af}{k:Bool->af->Prop}(u:bO l lm)(h:(ae aa (bF B aa n) x).a l σ k):(ae aa (bF B aa n) x).a lm σ k:=(gY (λg c σ d k K z q a=>by have e:=z.c;subst e;exact bF.c a λv s b=>q v s s (.a s) b) x).a u (.a σ) (λa s S z q=>z.c▸q) h
def mK(fl:bH)(_:ah)(_:af):Prop:=fl=.f (.l true)
theorem Ty{B:aK}{n:Nat}(O:cL B aa)(hn:22<=n){C:cN}(q:jB C){c:Nat}(h:c<=3){oe:Bool}{tp:List Int}{Fs:List (Nat×V)}{R:List V}(t:rA C c oe R)(l:gd 1 C .c oe Fs)(f:Addr){mk:Str}(g:mk.cps.toList=eR++C.a.cps.toList):
  bj aa (bF B aa n) Af (fK f C.a mk (bR R) (fL mk oe) (c:Int)) (cD tp::ci 1 Fs R [] [] []) mK:=by
 have u:=t.f h;have H:=t.ao;have i:(bR R).length<=12000000:=by rw[←dO,nG];have:=wQ R;exact bc 0xb71b00d03a3d0900923d09009123d09009111013 this H (gv 4000000 h)
 have j:=q.a.a;have o:(fL mk oe).length<=5:=by
  cases oe
  ·exact hB _
  ·show mk.length<=5;rw[←dO,g,bs,dO];show 3+C.a.length<=5;exact aO 0x5a03a82a011 j
 have L:bo 10 ([cD tp]++(ci 1 Fs R [] [] []++[])):=.p (.u (mz _)) (jA (m:=10) (a:=ci 1 Fs R [] [] []) (b:=[]) (tR l u (by decide)) .j);have z:=wO (O:=O) (n:=n) (X:=[cD tp]) (a:=1) (xv:=210) (lm:=fK f C.a mk (bR R) (fL mk oe) (c:Int)) (Y:=[]) (R:=R) (y:=.g) (r:=Ae) (K:=mK) rfl rfl l (aO 704736017 hn) (JU (n:=0) (as:=.j) (ks:=.j) (λk w=>aP w) L) ?_
 ·exact z
 ·have E:R++([]:List V)=R:=dE R;have A:R.length<=12100000:=by have:=vC R;exact bc 0xb8a1a0d03a3d0900923d09009123d09009111013 this H (gv 4000000 h)
  have S:=Ka (n:=n) (X:=[cD tp]) (a:=1) (N:=10) (Y:=[]) (Bf:=R) (r:=[]) O rfl rfl q oe (show 0+200<=4600000 by decide) A hn (Fs:=Fs) l.1 (k:=λ_ σ=>bj aa (bF B aa n) Ae (fK f C.a mk (bR R) (fL mk oe) (c:Int)) σ mK) λF D=>?_
  ·rw[E]at S;exact S
  ·have G:∀m,ck m (bI C.a oe):=wA _ _;have W:=nt j oe;have p:ao (R++([]++bI C.a oe))<=16000000:=by rw[y3,eH];exact bc 0xf42400d2083a3d0900913d090091aa2113d09009013 H W (gv 4000000 h)
   have T:bR (R++([]++bI C.a oe))=bR R++fL mk oe:=by
    rw[y3,Bk];refine congrArg (bR R++·) (oH ?_);cases oe
    ·rfl
    ·show f_.cps.toList++(C.a.cps.toList++[])=mk.cps.toList;rw[g,dE];rfl
   have I:(bR R).length+(fL mk oe).length<=sizeLine:=by rw[bw];exact aC 0x1000000d1085a110b71b00d012 i o
   have Z:=Bi (n:=n) O (aO 704736017 hn) (X:=[cD tp]) (a:=1) (Y:=[]) (xv:=210) (lm:=fK f C.a mk (bR R) (fL mk oe) (c:Int)) rfl rfl D p (ry (u 0) (G 0)) (k:=λx d=>(ae aa (bF B aa n) (.H .Add (.d 208) (.d 209))).az (fK f C.a mk (bR R) (fL mk oe) (c:Int)) d λy e=>jv .Eq x y e λv s=>mK (.f v) (fK f C.a mk (bR R) (fL mk oe) (c:Int)) s) ?_
   ·exact aP Z
   ·have J:(bR (R++([]++bI C.a oe))==(bR R++fL mk oe))=true:=by rw[T];exact beq_self_eq_true _
    exact aP (a:=(bR R).length+(fL mk oe).length<=sizeLine/\mK (.f (.l (bR (R++([]++bI C.a oe))==(bR R++fL mk oe)))) (fK f C.a mk (bR R) (fL mk oe) (c:Int)) ([cD tp]++(ci 1 F (R++([]++bI C.a oe)) [] [] []++[]))) (ai I (congrArg (λb=>bH.f (.l b)) J))
section
variable {B:aK} {F:cM} {n:Nat} {l lm:ah} {σ:af} {k:bH->ah->af->Prop}
theorem KI{st:List Stmt}(u:bO l lm)(h:e_ B F n st l σ k):e_ B F n st lm σ k:=λA W s L Q E r R f p=>by(refine lE f λa b c m d e=>?_;clear f);exact h A W s L Q E r R (lG a b c m d (λx M q=>e x M (u x M q))) p
theorem xb(O:cL B aa)(H:F.a.kind=.function){x:ag}{g:List Stmt}(e:(iL B.aA F.a x).f g=(g,true))(h:bj aa (bF B aa 22) x lm σ k):e_ B F 23 g lm σ k:=by have z:=(wU (n:=22) (F:=F) O H (λ_ _ _ _ h=>h) x).f g lm σ k (by rw[e]) h;rw[e]at z;exact z
theorem Tz(O:cL B aa)(H:F.a.kind=.function){x:aq}{g:Expr}{k:Bool->af->Prop}(e:(bK B.aA F.a x).az g=(g,true))(h:(ae aa (bF B aa 22) x).a lm σ k):eV B F 23 g lm σ k:=by have z:=(jn (n:=22) (F:=F) O H (λ_ _ _ _ h=>h) x).a g lm σ k (by rw[e]) h;rw[e]at z;exact z
end
def KJ(C:cN)(f:Addr)(mk:Str)(m:Nat)(lm:ah)(σ:af):Prop:=∃(t:List Int) (c:Nat) (o:Bool) (R:List V) (F:List (Nat×V)),m=3-c/\c<=3/\bO (fK f C.a mk (bR R) (fL mk o) (c:Int)) lm/\σ=cD t::ci 1 F R [] [] []/\rA C c o R/\gd 1 C (mx (c==0)) o F
section
variable {w:i3} {h₀:Heap} {os:ie} {mg mb:Str->Option Value} {q:Str} {f0:Addr} {cd:Value} {cells:List (Str×Addr)} {st:List (Addr×Obj)}
theorem TA(O:cL (cY w h₀ os mg mb) aa){C:cN}(P:jB C){f:Addr}{o p:Int}(W:w_ (cY w h₀ os mg mb) st f o p C.a)(r:av aa 2 qv (iK o p C.a) [] (.f (.k 736 4)) (iK o p C.a) (nC C)){mk:Str}(i:mk.cps.toList=eR++C.a.cps.toList)(tp:List Int){Fs:List (Nat×V)}(e:gd 1 C .b false Fs):
  e_ (cY w h₀ os mg mb) ⟨q,dl,f0,cd,cells,st⟩ 23 (nI::fn 12 iu) (fK f C.a mk "" "" 0) (cD tp::ci 1 Fs [] [] [] []) mK:=by
 have E:(⟨q,dl,f0,cd,cells,st⟩:cM).a.kind=.function:=by kernel_rfl!
 rw[Tq];refine .p (.b (KJ C f mk) 3 ⟨tp,0,false,[],Fs,rfl,by decide,.a,rfl,⟨ds _,λ_=>⟨rfl,rfl⟩⟩,e⟩ λm lm σ j=>?_);obtain⟨tp,c,F,R,Fs,rfl,k,u,rfl,j,e⟩:=j;refine Tz O E Tk (Tw u (Kh O (hB _) (Tv f C.a mk (bR R) (fL mk F) (c:Int) tp Fs R) ⟨λG=>?_,λG=>?_⟩))
 ·have H:c<=2:=by
   rcases(k5 _ _).mp G with h|h
   ·have:=ga h;exact aO 704684049 (g5.1 (jd this))
   ·have:=of_decide_eq_true ((di _ _).mp h).2;exact aO 0x2a03a1a0811 (g7.1 this)
  refine KI u ?_;rw[Tt];refine e_.a (m:=10) rfl ?_;generalize Q:(λ(I:bH) (J:ah) (y:af)=>∃l,bO l J/\(∀x v,aH x l=au v->bG 10 v)/\(∀v,I=.f v->bG 10 v)/\bo 10 (eF 10 y)/\nE (λL d=>∃U,U<3-c/\KJ C f mk U L d) (xc (cY w h₀ os mg mb) ⟨q,dl,f0,cd,cells,st⟩ 23 (fn 12 iu) mK) I l (eF 10 y))=K;have X:pL K:=λI a b s u z=>by subst Q;obtain⟨l,Z,h2⟩:=z;exact⟨l,Z.e u,h2⟩
  refine e_.b ?_;obtain⟨D,v,g,S,t,T,Dt,go⟩:=Sc (n:=22) O (by decide) e (j.f k) f C.a mk (bR R) (fL mk F) (c:Int) (tp:=tp);refine xb O E Tl (go _ ?_);show e_ _ _ 23 (ua::fn 8 lH) (fK f C.a mk (bR R) (fL mk F) (c:Int)++ly D v g S) (fV T Fs R (t.i++[.d S])) K;rw[Tp];refine .p (KH O rfl rfl W r (by kernel_rfl!) (by kernel_rfl!) rfl ua λFa hA=>?_);show e_ _ _ 23 (fn 8 lH) (kH f C.a mk (bR R) (fL mk F) (c:Int) D v g S) (fV T Fs R (t.i++[.d S])++ci 12 Fa [] [] [] []) K;refine xb O E Tm (wk (n:=22) O (by decide) P H j e Dt f i D v g S hA X λM R' N Y A B=>?_);subst Q;refine⟨_,.a,Tu _ _ _ _ _ _ (by decide),(λv h=>by(injection h;done)),.p (.u (mz _)) (tR B (A.f (aO 0x3a1a082a011 H)) (by decide)),3-(c+1),(bc 0x1a283a1a182811083a12 (d_ _ _) (cX (aO 0x3a1a082a011 H))),T,c+1,M,R',N,rfl,(aO 0x3a1a082a011 H),.a,rfl,A,?_⟩;have:(c+1==0)=false:=by simp
  rw[this];exact B
 ·show e_ _ _ 23 (fn 12 iu) lm (cD tp::ci 1 Fs R [] [] []) mK;have hz:c≠0:=λh=>by subst h;(injection G;done)
  have:(c==0)=false:=by simp[hz]
  rw[this]at e;exact KI u (xb O E Tn (Ty (n:=22) O (by decide) P k j e f i))
theorem S0(O:cL (cY w h₀ os mg mb) aa){nl:Str}(h:nl∈jE){f:Addr}{o p:Int}(g:w_ (cY w h₀ os mg mb) st f o p nl){mk:Str}(H:mk.cps.toList=eR++nl.cps.toList)(tp:List Int):
  e_ (cY w h₀ os mg mb) ⟨q,dl,f0,cd,cells,st⟩ 23 (fn 6 iu) [(188,.o 0),(221,.e nl),(215,.e mk),(218,.cy f)] [cD tp] mK:=by
 have c:(⟨q,dl,f0,cd,cells,st⟩:cM).a.kind=.function:=by kernel_rfl!
 (refine bY (RD 0 o p h) λC i e r=>?_;subst e);rw[Ts,To];refine .p (KH O rfl rfl g r (by kernel_rfl!) (by kernel_rfl!) rfl (dL 6) λF d=>?_);refine e_.b (xb O c Tj ?_);have l:bo 10 ([cD tp]++(ci 1 F [] [] [] []++[])):=.p (.u (mz _)) (jA (m:=10) (a:=ci 1 F [] [] [] []) (b:=[]) (tR (a:=1) d (λ_=> .j) (by decide)) .j);generalize j:xc (cY w h₀ os mg mb) ⟨q,dl,f0,cd,cells,st⟩ 23 (nI::fn 12 iu) mK=K;have z:=wO (O:=O) (n:=22) (X:=[cD tp]) (a:=1) (xv:=210) (lm:=[(188,.o 0),(221,.e C.a),(215,.e mk),(218,.cy f),(210,.k 736 5)]) (Y:=[]) (R:=[]) (y:=.i) (r:=wK 3 HX) (K:=K) rfl rfl d (by decide) (JV (n:=0) (as:=.j) (ks:=.j) (λk c=>aP c) l) (J8 (n:=22) (X:=[cD tp]) (a:=1) (N:=10) (Y:=[]) O rfl rfl (by decide) d.1 λs t=>?_)
 ·exact z
 ·refine aP (a:=K .a (fK f C.a mk "" "" 0) (cD tp::ci 1 s [] [] [] [])) ?_;subst j;exact TA O i g r H tp t
end
section
variable {B:aK} {F:cM} {n:Nat} {lm:ah} {σ:af} {k:bu} {pos:Pos}
end
def pN(W:aD)(L:Addr)(h:Heap)(cs:List Addr):Prop:=∀c∈cs,(∃o,h.get? c=au o/\o.data=.cell none)/\W.b c=none/\c∉W.d/\c≠L
theorem pN.a{W w:aD}{L:Addr}{h H:Heap}{cs:List Addr}(x:pN W L h cs)(e:cK W h w H):pN w L H cs:=λc f=>by obtain⟨⟨o,g,d⟩,A,b,q⟩:=x c f;exact(gU ⟨o,e.f _ _ g b,d⟩ (e.k A g) (e.l b g) q)
set_option tactic.hygienic true in
theorem xd{B:aK}{W:aD}{σ:af}{s:Shared}(R:aS B W σ s){a:Addr}{o:Obj}(c:W.b a=none)(d:a∉W.d)(g:s.heap.get? a=au o):aS B (W.g a o) σ s:=by
 have l:=aD.a (o:=o) c;refine⟨λb O e=>l.b _ _ (R.cm b O e),λb O e=>?_,R.k,λi b m h f=>(R.p i b m h f).c l,R.d,λb H=>?_,R.h,R.f⟩
 ·simp only[aD.g]at e;split at e
  ·rename_i q;subst q;(injection e with z;subst z);exact g
  ·exact R.b b O e
 ·show(if b=a then au o else W.b b)=none;rw[if_neg λ(e:b=a)=>d (e▸H)];exact R.e b H
theorem KM{B:aK}{W:aD}{σ:af}{s s':Shared}(R:aS B W σ s){a:Addr}(c:W.b a=none)(d:a∉W.d)(H:∀b o,b≠a->s.heap.get? b=au o->s'.heap.get? b=au o)(g:s'.gens=s.gens)(o:s'.os=s.os):aS B W σ s':=⟨R.cm,λb O e=>H _ _ (λq=>by rw[q,c]at e;(injection e;done)) (R.b b O e),R.k,λi b m h f=>(R.p i b m h f).b λO e=>H _ _ (λq=>d (q▸g8 h)) e,R.d,R.e,g.trans R.h,o.trans R.f⟩
theorem kI{W:aD}{a b:Addr}{o:Obj}(h:b≠a):(W.g a o).b b=W.b b:=if_neg h
theorem ub{W:aD}{a:Addr}{o:Obj}:(W.g a o).b a=au o:=if_pos rfl
theorem Bu{B:aK}{F:cM}{n:Nat}{A:j9}{W:aD}{σ σ':af}{lm:ah}{s:Shared}{L c:Addr}{cs:List Addr}{x:Nat}{i:Expr}{mv:V}{p pos:Pos}{Q:Flow->Shared->Prop}{E:Value->Shared->Prop}
  (hk:F.a.kind=.function)(hx:F.a.names.lookup (B.aA x)=au .cell)(hc:F.b.lookup (B.aA x)=au c)(hp:lB i=true)
  (h:bh B F n i lm σ λv k=>v=mv/\k=σ')(r:eZ A n)(R:aS B W σ s)(f:dF B F W L lm s.heap)(z:pN W L s.heap (c::cs))(nd:(c::cs).Nodup)
  (q:∀s' J o v,aS B J σ' s'->dF B ⟨F.c,F.a,F.h,F.d,F.b,(c,o)::F.bg⟩ J L (aU x mv lm) s'.heap->pN J L s'.heap cs->(∀a O,s.heap.get? a=au O->a≠c->a∉W.d->s'.heap.get? a=au O)->(∀a O,s.heap.get? a=au O->a≠c->W.b a=none->J.b a=none)->(∀a O,s.heap.get? a=au O->a∉W.d->a∉J.d)->o.data=.cell (au v)->aY B J v mv->Q .next s'):
  hJ B.b A (exec (.Assign [.Name (B.aA x) p] i pos) (F.bA L)) Q E s:=by
 refine o2 (h A W s L _ E r R f λU S w v k C K j D=>?_) (show swapsWith i (au (.Name (B.aA x) p)) pos.line (F.bA L)=pure false from rG hp) rfl;(refine aV C λX Y=>?_;clear C;subst X;subst Y);have z1:=z.a j;obtain⟨⟨o0,g0,d0⟩,Z,n2,n3⟩:=z1 c (f8 ..);show hJ _ _ (do standAt p;bindName (F.bA L) (B.aA x) U) _ E S;refine cT (kF (z4 (wpAny_storeName_cell (env:=F.bA L) hk hx hc (aE o0 g0 d0) λh' H l=>?_)));(refine ap H λo g d=>?_;clear H);have R2:aS B w k {S with heap:=h'}:=KM K (s':={S with heap:=h'}) Z n2 (λb O hb e=>(l.2 b hb).trans e) rfl rfl;have R3:=xd R2 Z n2 g;have M:=aD.a (W:=w) (o:=o) Z;refine lE (f.a j) λfa fb fs m a0 fd=>?_
 refine q _ (w.g c o) o U R3 (lG ((kI n3.symm).trans fa) fb (λt ht=>?_) m (a0.sameBut l n3.symm) (λy a4 N=>?_)) (λc' H=>?_) (λa O P G I=>(l.2 a G).trans (j.f _ _ P I)) (λa O P G a5=>(kI G).trans (j.k a5 P)) (λa O P I=>j.l I P) d (D.c M)
 ·rcases bv ht with rfl|ht
  ·exact ub
  ·exact M.b _ _ (fs t ht)
 ·rw[fP]at N
  by_cases e:y=x
  ·rw[if_pos e]at N;(injection N with z_;subst z_);subst e;refine(aE U ?_ (D.c M));delta gZ;rw[show(⟨F.c,F.a,F.h,F.d,F.b,(c,o)::F.bg⟩:cM).a.names.lookup (B.aA y)=au .cell from hx];exact(dy c o hc ub d)
  ·rw[if_neg e]at N;refine ap (fd y a4 N) λu h1 h2=>?_
   exact(aE u (gZ.d (F:=⟨F.c,F.a,F.h,F.d,F.b,(c,o)::F.bg⟩) (W:=w) (m:=m) h1 M.b λ_ z=>z) (h2.c M))
 ·obtain⟨⟨o',g',d'⟩,a1,a2,a3⟩:=z1 c' (f9 _ H);have T:c'≠c:=λe=>(x8.mp nd).1 (e▸H)
  exact(gU ⟨o',(l.2 _ T).trans g',d'⟩ ((kI T).trans a1) a2 a3)
noncomputable def rI:Stmt->Arguments
 | .FunctionDef _ a _ _ _ _ _ _ _ _=>a|_=>Hd.ke.params
noncomputable def rJ:Stmt->List Stmt
 | .FunctionDef _ _ b _ _ _ _ _ _ _=>b|_=>[]
noncomputable def kJ:Stmt->Scope
 | .FunctionDef _ _ _ _ _ _ s _ _ _=>s|_=>Hd.ke.scope
def dA:Stmt:=dL 5
theorem TN:dA=.FunctionDef (aA 218) (rI dA) (rJ dA) [] none [] (kJ dA) none (aA 218) dA.pos:=by kernel_rfl!
theorem TO:(iL aA (kJ dA) qv).f (rJ dA)=(rJ dA,true):=by kernel_rfl!
abbrev iw(L:Addr):List (Str×Addr):=[(aA 223,L+3),(aA 222,L+2),(aA 221,L+1)]
theorem TP(q:Str)(f:Addr)(cd:Value)(L:Addr):closureFor (kJ dA) (envX q dl L f cd (iw L))=pure (iw L):=by kernel_rfl!
theorem TQ:(rI dA).defaults=[]/\(rI dA).kw_defaults=[]:=(ai (by kernel_rfl!) (by kernel_rfl!))
theorem TR(env:Env):annTrees (rI dA) none env=[]:=by kernel_rfl!
abbrev BC(q:Str)(L:Addr)(d p:Value)(C:Addr)(c:Value):FuncData:=fnX (aA 218) q (rI dA) (rJ dA) (kJ dA) (iw L) .none .none d p none (.ref C) c
abbrev wV(q:Str)(L:Addr)(d p:Value)(C:Addr)(c:Value):Obj:={cls:=.type "function",data:=.func (BC q L d p C c)}
theorem TS(q:Str)(L:Addr)(d p:Value)(C:Addr)(c:Value):bindArgs (BC q L d p C c) ⟨[],[]⟩=pure []:=by kernel_rfl!
theorem TT:(kJ dA).isCoroutine=false/\(kJ dA).isGenerator=false/\(kJ dA).kind=.function/\(∀x∈(kJ dA).names,x.2≠.cell)/\(kJ dA).names.lookup (aA 221)=au .free/\(kJ dA).names.lookup (aA 222)=au .free/\(kJ dA).names.lookup (aA 223)=au .free:=(TU (by kernel_rfl!) (by kernel_rfl!) (by kernel_rfl!) (KN (by kernel_rfl!)) (by kernel_rfl!) (by kernel_rfl!) (by kernel_rfl!))
theorem Bt:dl.kind=.function/\dl.names.lookup (aA 218)=au .local/\dl.names.lookup (aA 221)=au .cell/\dl.names.lookup (aA 222)=au .cell/\dl.names.lookup (aA 223)=au .cell:=(vI (by kernel_rfl!) (by kernel_rfl!) (by kernel_rfl!) (by kernel_rfl!) (by kernel_rfl!))
section
variable {w:i3} {h₀:Heap} {os:ie} {mg mb:Str->Option Value} {q:Str} {f0:Addr}
theorem SZ{st:List (Addr×Obj)}{o p:Int}{nl:Str}{L f C:Addr}{q:Str}{d P c:Value}{O a b op:Obj}{vs:Array Value}{t T g tp:N'}
  (H:(f,wV q L d P C c)∈st)(i:(C,O)∈st)(j:O.data=.fields vs)(k:vs[1]? =au (.str q t))(m:(L+1,a)∈st)(D:a.data=.cell (au (.str nl T)))(n:(L+2,b)∈st)(r:b.data=.cell (au (.int o g)))(u:(L+3,op)∈st)(v:op.data=.cell (au (.int p tp)))(l:nl.length<=sizeLine):
  w_ (cY w h₀ os mg mb) st f o p nl:=by
 obtain⟨S,x,A,B,N,E,F⟩:=TT;refine⟨_,_,_,O,BC q L d P C c,C,vs,t,rJ dA,H,rfl,i,j,k,rfl,λs=> .of_eq (TS q L d P C c),λL=>rfl,B,S,x,A,λy M h=>?_,TO⟩;rw[fh]at h
 by_cases e:y=222
 ·subst e;rw[if_pos rfl]at h;(injection h with z;subst z);exact(ni (L+2) b _ E (by kernel_rfl!) n r (λW=> .q _ _))
 rw[if_neg e,fh]at h
 by_cases e:y=223
 ·subst e;rw[if_pos rfl]at h;(injection h with z;subst z);exact(ni (L+3) op _ F (by kernel_rfl!) u v (λW=> .q _ _))
 rw[if_neg e,fh]at h
 by_cases e:y=221
 ·subst e;rw[if_pos rfl]at h;(injection h with z;subst z);exact(ni (L+1) a _ N (by kernel_rfl!) m D (λW=> .e _ _ l))
 rw[if_neg e]at h;exact cP h
theorem SY{A:j9}{W:aD}{σ:af}{lm:ah}{s:Shared}{L:Addr}{st:List (Addr×Obj)}{Q:Flow->Shared->Prop}{E:Value->Shared->Prop}
  (R:aS (cY w h₀ os mg mb) W σ s)(Z:dF (cY w h₀ os mg mb) ⟨q,dl,f0,.ref gr,iw L,st⟩ W L lm s.heap)(hP:s.heap.get? dk=au (tabObj #[]))(hC:CodeHd s.heap gr dk)(K:W.b dk=none)(p2:dk∉W.d)(p3:L≠dk)(M:s.heap.BuiltinsAt mg dk)(hg:s.heap.Ns mainGlobals mg)
  (k:∀s' W' f C O vs t qf D pm g ps,aS (cY w h₀ os mg mb) W' σ s'->dF (cY w h₀ os mg mb) ⟨q,dl,f0,.ref gr,iw L,(f,wV qf L D pm C g)::(C,O)::(dk,tabObj ps)::st⟩ W' L (aU 218 (.cy f) lm) s'.heap->O.data=.fields vs->vs[1]? =au (.str qf t)->Q .next s'):
  hJ (cY w h₀ os mg mb).b A (exec dA (envX q dl L f0 (.ref gr) (iw L))) Q E s:=by
 rw[TN];obtain⟨q1,q2⟩:=TQ;obtain⟨l1,l2,_⟩:=Bt;refine nestDef_K q1 q2 (TR _) (makeFunction_K (c:=gr) (P:=dk) (ps:= #[]) (TP q f0 (.ref gr) L) rfl hg rfl hC hP trivial rfl (by decide) M λC g D H tk d n p i N=>?_);(refine KO i λ_ O vs t e2 S hd hv=>?_;clear i);(injection e2 with z_;subst z_);(refine lE Z λfa fb fs m r fd=>?_;clear Z);have T:L<s.heap.objs.size:=r.lt;generalize u:fnMade (aA 218) (qualnameIn (envX q dl L f0 (.ref gr) (iw L)) (aA 218) (aA 218)) (rI dA) (rJ dA) (kJ dA) (iw L) D ((mg "__name__").getD .none) C g=j;have R1:aS (cY w h₀ os mg mb) W σ {s with heap:=H.push j,toks:=tk}:=KM R (s':={s with heap:=H.push j,toks:=tk}) K p2 (λb ob M e=>e5 _ (d b ob M e)) rfl rfl;have R2:=xd R1 K p2 (e5 _ N);have B:∀a,s.heap.objs.size<=a->W.b a=none/\a∉W.d/\a≠dk/\a≠L:=λa J=>by
  refine(gU ?_ (λh=>absurd (R.i h) (pr.mpr J)) (λe=>?_) (λe=>?_))
  ·cases z:W.b a with
   |none=>rfl|some ob=>exact absurd (lF (R.b _ _ z)) (pr.mpr J)
  ·subst e;exact absurd (lF hP) (pr.mpr J)
  ·subst e;exact absurd T (pr.mpr J)
 refine me (B C n) λb1 b2 b3 b4=>?_
 refine me (B H.objs.size (i5 (Nat.lt_of_le_of_lt n p))) λd1 d2 d3 d4=>?_
 have G:H.objs.size≠C:=s8 p;have R3:=xd R2 (a:=C) ((kI b3).trans b1) b2 (e5 _ S);have R4:=xd R3 (a:=H.objs.size) ((kI G).trans ((kI d3).trans d1)) d2 (ix _ (by rw[←u];rfl));have U:=aD.a (W:=W) (o:=tabObj (#[]++ #[rawInt dA.pos.line,rawInt dA.pos.col,.ref C])) K;have I:=aD.a (o:=O) ((kI (o:=tabObj (#[]++ #[rawInt dA.pos.line,rawInt dA.pos.col,.ref C])) b3).trans b1);have l:=aD.a (o:=j) ((kI (o:=O) G).trans ((kI (o:=tabObj (#[]++ #[rawInt dA.pos.line,rawInt dA.pos.col,.ref C])) d3).trans d1));have X:=(U.e I).e l;have Y:dF (cY w h₀ os mg mb) ⟨q,dl,f0,.ref gr,iw L,(H.objs.size,j)::(C,O)::(dk,tabObj (#[]++ #[rawInt dA.pos.line,rawInt dA.pos.col,.ref C]))::st⟩ (((W.g dk (tabObj (#[]++ #[rawInt dA.pos.line,rawInt dA.pos.col,.ref C]))).g C O).g H.objs.size j) L lm (H.push j):=by
  refine(lG ((kI d4.symm).trans ((kI b4.symm).trans ((kI p3).trans fa))) fb (λx d=>?_) m ((r.extBut d p3).push _) (λy mv hy=>?_))
  ·rcases bv d with rfl|d
   ·exact ub
   rcases bv d with rfl|d
   ·exact l.b _ _ ub
   rcases bv d with rfl|d
   ·exact l.b _ _ (I.b _ _ ub)
   ·exact X.b _ _ (fs x d)
  ·refine ap (fd y mv hy) λv h1 h2=>?_
   exact(aE v (gZ.d (F:=⟨q,dl,f0,.ref gr,iw L,st⟩) (W:=W) (m:=m) h1 X.b λ_ z=>z) (h2.c X))
 subst u;exact xe (F:=⟨q,dl,f0,.ref gr,iw L,(H.objs.size,_)::(C,O)::(dk,_)::st⟩) (lm:=lm) (x:=218) (mv:=.cy H.objs.size) l1 l2 R4 Y rfl λs' R' e' f'=>k s' _ _ C O vs t _ D _ g _ R' f' hd hv
end
section
open PyProof.Rows.LCg
abbrev Ks:Expr:=.BinOp (.Name (aA 189) ⟨1027,12,1027,13⟩) .Mod (.BinOp (.Constant (.int 10) 0 ⟨1027,16,1027,18⟩) .Pow (.Constant (.int 12) 0 ⟨1027,22,1027,24⟩) ⟨1027,16,1027,24⟩) ⟨1027,12,1027,24⟩
abbrev Kt:Expr:=.Subscript (.Name (aA 207) ⟨1027,34,1027,40⟩) (.Slice none (au (.Constant (.int 11) 0 ⟨1027,42,1027,44⟩)) none ⟨1027,41,1027,44⟩) ⟨1027,34,1027,45⟩
abbrev Bp:Scope:={kind:=.function,names:=[(a' ".0",.local),(aA 189,.local)],isGenerator:=false,isCoroutine:=false,more:=[]}
theorem SE:dL 0=.Assign [.Name (aA 188) ⟨1027,4,1027,8⟩] (.ListComp Ks [⟨.Name (aA 189) ⟨1027,29,1027,30⟩,Kt,[],0⟩] Bp ⟨1027,11,1027,46⟩) ⟨1027,4,1027,46⟩:=by kernel_rfl!
def tZ(ys:List Value):Prop:=∀y∈ys,∃j t,y=.int j t
theorem SF{B:aK}{W:aD}:∀{ys:List Value},tZ ys->∃tp:List Int,bp B W ys (tp.map .q)/\tp.length=ys.length
 |[],_=>(aE [] rfl rfl)|y::ys,h=>by
  (refine jg (h y (f8 ..)) λj t e=>?_;subst e);refine ap (SF (B:=B) (W:=W) λy H=>h y (f9 _ H)) λtp a b=>?_
  exact(aE (j::tp) (ai (.q _ _) a) (congrArg (· +1) b))
theorem SG:∀{vs:List Value} {n:List Int},IntsAre vs n->tZ vs
 |_,_,.nil=>λy H=>by cases H
 |_,_,.cons _ _ h=>λy H=>by
  rcases bv H with rfl|H
  ·exact(oz _ _ rfl)
  ·exact SG h y H
section
variable {w:i3} {A:j9} {s:Shared} {h₀:Heap} {L:Addr} {m:Str->Option Value} {env:Env} {its:Array Value} {ax:Addr}
theorem SH(c:tZ its.toList){f:List Value->List (Addr×Obj)->Prop}{n:List (Addr×Obj)}(d:SrcAt h₀ ax its n):∀k i ys,tZ ys->(∀z,tZ z->z.length=ys.length+k->f z n)->
  CompRest Hd.cx w A h₀ L m env Ks (aA 189) Bp [] s (SrcAt h₀ ax its) (λi v=>its[i]? =au v) f k i ys n
 |0,_,ys,a,b=>b ys a rfl|k+1,i,ys,a,b=>λv I G C O D M h T E g l q F N o J=>by
  (refine jg (c v (B1.mpr (Array.mem_of_getElem? g))) λj t e=>?_;subst e);have r:h.Ns C M:=l.ns (N (C,O) (f9 _ (f8 ..))).1;refine NP (tn (lP (env:=compEnvC Bp [] C env) (by rfl) (lookup_relabel_local (by kernel_rfl!)) r q ?_) (by decide+kernel));refine NP (o6 (o6 (AutoIntOps.pow_4 (by decide) (by decide) (by decide) (by decide) (by decide+kernel) ?_)));show hJ _ A (binaryOp .Mod _ (.int (10^(12:Int).toNat) _)) _ E _;refine mod_int' (by decide+kernel) ?_;refine CompEnd.intro F N n (λp u=>u) o d (SH c d k (i+1) _ (λy H=>?_) λz x B=>b z x (by rw[B,bs];show ys.length+1+k=_;exact ea (aC 0x1a180811a0880) (aC 0x11a0881a18080)));rcases e8.mp H with H|H
  ·exact a y H
  ·rw[ce.mp H];exact(oz _ _ rfl)
end
end
section
open PyProof.Rows.LCg
abbrev wT:FuncData:=fnX (a' "law") (a' "law") Hd.ke.params iu dl [] .none .none .none (.str (a' "law_qm0001_01") 1315) none (.ref gr) .none
theorem SI(P:i9):(gC P).lookup 839=au {cls:=.type "function",data:=.func wT}:=by kernel_rfl!
theorem SJ(v:Value):bindArgs wT ⟨[v],[]⟩=pure [(aA 207,v)]:=by kernel_rfl!
theorem SK(L:Addr):callEnvC wT L 839=envX (a' "law") dl L 839 (.ref gr) (iw L):=by kernel_rfl!
theorem SL(P:i9):codeIn (gC P) (.ref gr) (a' "law")=true:=by kernel_rfl!
theorem SM:iu=dL 0::dL 1::dL 2::dL 3::dL 4::dA::fn 6 iu:=by kernel_rfl!
theorem SN:dl.names.lookup (aA 207)=au .local/\dl.names.lookup (aA 188)=au .local/\dl.isCoroutine=false/\dl.isGenerator=false:=(gU (by kernel_rfl!) (by kernel_rfl!) (by kernel_rfl!) (by kernel_rfl!))
def Bq(x:Nat)(s:Stmt):Stmt:=.Assign [.Name (aA x) (cC (fp s)).pos] (cJ s) s.pos
theorem SO:dL 1=Bq 222 (dL 1):=by kernel_rfl!
theorem SP:dL 2=Bq 223 (dL 2):=by kernel_rfl!
theorem SQ:dL 3=Bq 221 (dL 3):=by kernel_rfl!
noncomputable abbrev Ku:aq:=.z (.G 202) (.p (.d 188) .j) .j
noncomputable abbrev SR:aq:=.m (.u (.p (.e "\n") (.p (.e "\r") (.p (.e "\r\n") .j)))) (.H .Mod (.H .FloorDiv (.d 222) (.q 8)) (.q 3))
noncomputable abbrev SS:ag:=.i (.d 215) (.H .Add (.e "...") (.d 221))
theorem Kv:(bK aA dl Ku).az (cJ (dL 1))=(cJ (dL 1),true)/\lB (cJ (dL 1))=true:=(ai (by kernel_rfl!) (by kernel_rfl!))
theorem Kw:(bK aA dl Ku).az (cJ (dL 2))=(cJ (dL 2),true)/\lB (cJ (dL 2))=true:=(ai (by kernel_rfl!) (by kernel_rfl!))
theorem Kx:(bK aA dl SR).az (cJ (dL 3))=(cJ (dL 3),true)/\lB (cJ (dL 3))=true:=(ai (by kernel_rfl!) (by kernel_rfl!))
theorem Ky:(iL aA dl SS).a (dL 4)=(dL 4,true):=by kernel_rfl!
end
section
open PyProof.Rows.LCg
theorem ST{xs:List Value}{lo hi:Option Int}{y:Value}(items:Array Value)(h:y∈(slicePick items lo hi none).toList):y∈items.toList:=by rw[Br]at h;exact A' (kV h)
theorem SU(items:Array Value)(lo hi:Option Int):(slicePick items lo hi none).size<=items.size:=by rw[←hF,Br,h7,ko,hF];exact ef (v5 _ _) (o8 _ _)
theorem SV{w:i3}{A:j9}{env:Env}{m:Str->Option Value}{s:Shared}{l:Addr}{items:Array Value}{Q E:Value->Shared->Prop}(d:env.scope.kind=.function)(f:env.kindOf (aA 207)=au .local)(h:s.heap.Ns env.locals m)(g:m (aA 207)=au (.ref l))(c:s.heap.IsList l items)(hsz:items.size<=sizeLine)
  (q:∀H t its a,(∀b o,s.heap.get? b=au o->H.get? b=au o)->H.get? a=au {cls:=.type "list",data:=.seq its 0}->s.heap.get? a=none->its.size<=items.size->(∀y∈its.toList,y∈items.toList)->Q (.ref a) {s with heap:=H,toks:=t}):hJ (model Hd.cx w) A (eval Kt env) Q E s:=by
 refine Q' (tn (lP (env:=env) d f h g ?_) (by decide+kernel));refine wpAny_Slice ?_;rw[E7,ZA];refine fe (o6 (fe ?_));refine bY (id c) λo i j n=>?_
 refine Z2 (T:="list") (aE o (e5 _ i) j) u4.lookup (ops:=[_,_]) ?_ rfl;refine v4 (lo:=none) (hi:=au 11) (st:=none) (items:=items) (c.push _) (Heap.IsSliceOf.new ..) .none (.int _ _) .none (by simp) ?_ hsz;refine q _ _ _ _ (λb O e=>e5 _ (e5 _ e)) (ix _ rfl) ?_ (SU _ _ _) λy k=>ST (xs:=[]) items k
 rw[V2];cases e:s.heap.get? (s.heap.objs.size+1)with
 |none=>rfl|some O=>exact absurd (lF e) (pr.2 (aO 1705984))
end
section
open PyProof.Rows.LCg
theorem Bs{B:aK}{F:cM}{lm:ah}{σ:af}(O:cL B aa)(H:F.a.kind=.function){x:aq}{g:Expr}{k:bu}(e:(bK B.aA F.a x).az g=(g,true))(h:(ae aa (bF B aa 22) x).az lm σ k):bh B F 23 g lm σ k:=by have z:=(jn (n:=22) (F:=F) O H (λ_ _ _ _ h=>h) x).az g lm σ k (by rw[e]) h;rw[e]at z;exact z
abbrev lC(L:Addr)(st:List (Addr×Obj)):cM:=⟨a' "law",dl,839,.ref gr,iw L,st⟩
noncomputable abbrev pM(o p:Int)(nl:Str):ah:=[(188,.o 0),(222,.q o),(223,.q p),(221,.e nl)]
section
variable {w:i3} {h₀:Heap} {os:ie} {mg mb:Str->Option Value} {A:j9} {Q:Flow->Shared->Prop} {E:Value->Shared->Prop} {L:Addr}
theorem SW(O:cL (cY w h₀ os mg mb) aa)(hC:CodeHd h₀ gr dk)(hb:h₀.BuiltinsAt mg dk)(r:eZ A 23){W:aD}{tp:List Int}{s:Shared}(R:aS (cY w h₀ os mg mb) W [cD tp] s)(f:dF (cY w h₀ os mg mb) (lC L []) W L [(188,.o 0)] s.heap)(z:pN W L s.heap [L+2,L+3,L+1])
  (d:s.heap.get? dk=au (tabObj #[]))(p1:W.b dk=none)(P:dk∉W.d)(p3:dk<L)
  (hQ:∀s' W' σ' ps,aS (cY w h₀ os mg mb) W' σ' s'->W'.b dk=au (tabObj ps)->Q (.ret (.bool true)) s'):
  hJ (cY w h₀ os mg mb).b A (execs (dL 1::dL 2::dL 3::dL 4::dA::fn 6 iu) ((lC L []).bA L)) Q E s:=by
 obtain⟨l,l2,l3,l4,l5⟩:=Bt;have a:∀k:Nat,dk≠L+k:=λk=>(s6 (bc 0x2181a0811a0811 p3))
 refine lj ?_;rw[SO];refine Bu (F:=lC L []) (x:=222) (c:=L+2) (cs:=[L+3,L+1]) (σ':=[cD tp.tail]) (mv:=.q (el tp)) l l4 (by kernel_rfl!) Kv.2 (Bs O l Kv.1 (aR.h O (m:=1) (by decide) (rd (n:=0) (X:=[]) trivial rfl) (ai rfl rfl))) r R f z (by simp) λs1 W1 o v1 R1 f1 z1 k1 n1 U d1 e1=>?_
 have I:=k1 _ _ d (a 2) P;refine lj ?_;rw[SP];refine Bu (F:=lC L [(L+2,o)]) (x:=223) (c:=L+3) (cs:=[L+1]) (σ':=[cD tp.tail.tail]) (mv:=.q (el tp.tail)) l l5 (by kernel_rfl!) Kw.2 (Bs O l Kw.1 (aR.h O (m:=1) (by decide) (rd (n:=0) (X:=[]) trivial rfl) (ai rfl rfl))) r R1 f1 z1 (by simp) λs2 W2 b v2 R2 f2 z2 k2 n2 m2 d2 e2=>?_
 have Y:=k2 _ _ I (a 3) (U _ _ d P);refine lj ?_;rw[SQ];refine ap (lr V.e (xs:=jE) (m:=3) rfl ((el tp).fdiv 8) (by decide)) λN g H=>?_
 refine Bu (F:=lC L [(L+3,b),(L+2,o)]) (x:=221) (c:=L+1) (cs:=[]) (σ':=[cD tp.tail.tail,.u (jE.map .e)]) (mv:=.e N) l l3 (by kernel_rfl!) Kx.2 (Bs O l Kx.1 (aR.h O (m:=0) (hB _) (mD (σ:=[cD tp.tail.tail]) .b (lt 8 3 (by decide) (by decide) rfl) (iX _ 3 (by decide)).1 H) (ai rfl rfl))) r R2 f2 z2 (by simp) λs3 W3 i v3 R3 f3 z3 k3 n3 m3 d3 e3=>?_
 have J:=k3 _ _ Y (a 1) (m2 _ _ I (U _ _ d P));have g1:W3.b dk=none:=n3 _ _ Y (a 1) (n2 _ _ I (a 3) (n1 _ _ d (a 2) p1));have g2:dk∉W3.d:=m3 _ _ Y (m2 _ _ I (U _ _ d P));have a0:N.length<=2:=by
  have:∀s∈jE,s.length<=2:=by decide+kernel
  exact this N g
 (refine bf e1 λt1 a1=>?_;clear e1;subst a1);(refine bf e2 λt2 a2=>?_;clear e2;subst a2);(refine ap e3 λt3 a3 _=>?_;clear e3;subst a3);refine lj ?_;have x4:ec (cY w h₀ os mg mb) (lC L [(L+1,i),(L+3,b),(L+2,o)]) 23 (dL 4) (pM (el tp) (el tp.tail) N) [cD tp.tail.tail,.u (jE.map .e)] λj lm σ=>j=.a/\lm=pM (el tp) (el tp.tail) N++[(215,.e (("...":Str)++N))]/\σ=[cD tp.tail.tail,.u (jE.map .e)]:=by
  have z:=(wU (n:=22) (F:=lC L [(L+1,i),(L+3,b),(L+2,o)]) O l (λ_ _ _ _ h=>h) (.i (.d 215) (.H .Add (.e "...") (.d 221)))).a (dL 4) (pM (el tp) (el tp.tail) N) [cD tp.tail.tail,.u (jE.map .e)] (λj lm σ=>j=.a/\lm=pM (el tp) (el tp.tail) N++[(215,.e (("...":Str)++N))]/\σ=[cD tp.tail.tail,.u (jE.map .e)]) (congrArg Prod.snd Ky) (by have h:("...":Str).length+N.length<=sizeLine/\(bH.a=.a/\pM (el tp) (el tp.tail) N++[(215,.e (("...":Str)++N))]=pM (el tp) (el tp.tail) N++[(215,.e (("...":Str)++N))]/\[cD tp.tail.tail,aG.u (jE.map .e)]=[cD tp.tail.tail,.u (jE.map .e)]):=(gU (by rw[bw,show("...":Str).length=3 by decide];exact aO 0x1000000d03a82a011 a0) rfl rfl rfl);exact h)
  rw[show((iL (cY w h₀ os mg mb).aA (lC L [(L+1,i),(L+3,b),(L+2,o)]).a (.i (.d 215) (.H .Add (.e "...") (.d 221)))).a (dL 4)).1=dL 4 from congrArg Prod.fst Ky]at z;exact z
 refine x4 A W3 s3 L _ E r R3 f3 λj s4 W4 mf c1 c2 a4 M e4 f4 hf=>?_
 (refine cS a4 λa5 a6 a8=>?_;clear a4;subst a5;subst a6;subst a8);cases hf;have p:L≠dk:=λh=>(gh (aC 0xa1a01111a0812 p3 (aJ h)))
 have q4:=e4.f _ _ p.symm J g2;have g3:W4.b dk=none:=by
  cases y:W4.b dk with
  |none=>rfl|some ob=>
   rcases e4.j _ _ y with y|y
   ·rw[g1]at y;(injection y;done)
   ·rw[J]at y;(injection y;done)
 have g4:dk∉W4.d:=by
  refine ap e4.d λmo h1 h2=>?_
  rw[h1];intro hm;rcases e8.mp hm with y|y
  ·exact g2 y
  ·rw[h2 _ y]at J;(injection J;done)
 refine lj ?_;have a9:s4.heap.BuiltinsAt mg dk:=by(refine Kz hb λbm ob b1 b2 b3 b4 b5 b6=>?_;clear hb);exact(SX bm ob b1 b2 b3 b4 (M.j _ _ b5) b6)
 refine SY M f4 q4 (hC.keeps M.j) g3 g4 p a9 (O.bM.e.keeps M.j) λs5 W5 S T oc vs t qf D pm C ps R5 f5 hd hv=>?_
 have fr:=SZ (w:=w) (h₀:=h₀) (os:=os) (mg:=mg) (mb:=mb) (st:=(S,wV qf L D pm T C)::(T,oc)::(dk,tabObj ps)::[(L+1,i),(L+3,b),(L+2,o)]) (L:=L) (.head _) (.tail _ (.head _)) hd hv (.tail _ (.tail _ (.tail _ (.head _)))) d3 (.tail _ (.tail _ (.tail _ (.tail _ (.tail _ (.head _)))))) d1 (.tail _ (.tail _ (.tail _ (.tail _ (.head _))))) d2 (by rw[bw];trivial);have u:bo 1 (ZG 1 [cD tp.tail.tail,aG.u (jE.map .e)]):=.p (.u (mz _)) .j;have R6:=R5.aW (m:=1) u;(refine lE f5 λb0 b7 b8 m' B b9=>?_;clear f5);have f6:dF (cY w h₀ os mg mb) (lC L ((S,wV qf L D pm T C)::(T,oc)::(dk,tabObj ps)::[(L+1,i),(L+3,b),(L+2,o)])) (W5.aW 1) L [(188,.o 0),(221,.e N),(215,.e (("...":Str)++N)),(218,.cy S)] s5.heap:=by
  refine(lG b0 (λq=>b7 (kV q)) b8 m' B (λx mv H=>?_));have K:aH x (pM (el tp) (el tp.tail) N++[(215,.e (("...":Str)++N)),(218,.cy S)])=au mv/\bG 1 mv:=by
   rw[fh]at H
   by_cases e:x=188
   ·subst e;rw[if_pos rfl]at H;(injection H with Z;subst Z);exact(ai rfl Nat.zero_lt_one)
   rw[if_neg e,fh]at H
   by_cases e:x=221
   ·subst e;rw[if_pos rfl]at H;(injection H with Z;subst Z);exact(ai rfl trivial)
   rw[if_neg e,fh]at H
   by_cases e:x=215
   ·subst e;rw[if_pos rfl]at H;(injection H with Z;subst Z);exact(ai rfl trivial)
   rw[if_neg e,fh]at H
   by_cases e:x=218
   ·subst e;rw[if_pos rfl]at H;(injection H with Z;subst Z);exact(ai rfl trivial)
   rw[if_neg e]at H;exact cP H
  refine ap (b9 x mv K.1) λv h1 h2=>?_
  exact(aE v (h1.d (λ_ _ z=>z) λ_ z=>z) (aY.f aD.f.1 mv K.2 h2))
 have G:=S0 (q:=a' "law") (f0:=839) (cd:=.ref gr) (cells:=iw L) O g fr (mk:=("...":Str)++N) (by rw[lA];rfl) tp.tail.tail;refine G A (W5.aW 1) s5 L Q E r R6 f6 λj s7 W7 mf c3 c0 a7 R7 e7 f7 hf=>?_
 subst a7;cases hf with
 |f hv=>subst hv;exact hQ s7 W7 c0 ps R7 (f7.2.2.1 _ (.tail _ (.tail _ (.head _))))
end
end
section
open PyProof.Rows.LCg
abbrev iz:List (Addr×Addr):=[(gr,dk)]
theorem S1(P:i9):(gC P).lookup dk=none:=by kernel_rfl!
theorem S2(P:i9):(gC P).lookup gr=au (Hd.KA P):=by kernel_rfl!
theorem S3(P:i9):(Hd.tY P).get dk=au (tabObj #[]):=by kernel_rfl!
theorem S4(P:i9):(Hd.jo P).get? dk=au (tabObj #[]):=by unfold Hd.jo;rw[abs_get (by decide+kernel) (S3 P)];rfl
theorem S5(P:i9):∃o,(gC P).lookup sysModules=au o:=(ba (boot_o_1 P) (by kernel_rfl!))
theorem S6{D:Addr}:∀l:List (Addr×Obj),Off1 D l->∀p∈l,p.1≠D
 |[],_,_,h=>by cases h
 |x::l,h,p,H=>by
  rcases bv H with rfl|H
  ·exact h.1
  ·exact S6 l h.2 p H
theorem S7{k:Str->Option I2}{n:Str}{v:Value}{f:Str->Option Value}(h:k n=au .local):bindL k [(n,v)] f n=au v:=by unfold bindL;rw[if_pos h];exact if_pos rfl
theorem S8{k:Str->Option I2}{n y:Str}{v:Value}{f:Str->Option Value}(h:k n=au .local):bindC k [(n,v)] f y=f y:=by unfold bindC;rw[if_pos h];rfl
theorem S9{w:i3}{s:Shared}{l:Addr}{vs:List Value}{ns:List Int}{mg mb:Str->Option Value}{p:Program}{loose:List Str}{M:ExcName->Option Value}{R:Result->Shared->Prop}(KX:(gC w.params).In s.heap)(T:Top p loose M mg mb s.heap)(hT:TabsAt iz s.heap)(hg:s.gens= #[])
  (hL:s.heap.IsList l vs.toArray)(hI:IntsAre vs ns)(v:ns.length<=63)(hR:∀s',(∀b o,(ghostOf s.heap iz).get? b=au o->s'.heap.get? b=au o)->s'.os=s.os->s'.gens= #[]->GrownAt dk s'.heap->R (.ok (.ret (.bool true))) s'):
  codeAny (model Hd.cx w) callerA (.call (.ref 839) ⟨[.ref l],[]⟩) R s:=by
 have N:(gC w.params).In (ghostOf s.heap iz):=λa o h=>ghost_ne (KX a o h) λA=>by have:a=dk:=ce.mp A;rw[this,S1]at h;(injection h;done)
 have P:=ghost_top hT T;have O:cL (cY w (ghostOf s.heap iz) s.os mg mb) aa:=S_ N P.nolimit P.g P.b (let⟨o,e⟩:=S5 w.params;⟨o,N _ _ e⟩);obtain⟨l0,j,a2,Q⟩:=SN;obtain⟨lk,_⟩:=Bt;have tP:=(hT _ (ce.mpr rfl)).2;have a3:dk<s.heap.objs.size:=lF tP;have S:vs.length=ns.length:=hI.length;have a4:vs.toArray.size<=sizeLine:=by rw[bw,n0];exact aC 0x1000000d03fb111012 (aJ S) v
 refine codeAny_call_cells (fd:=wT) (body:=iu) (binds:=[(aA 207,.ref l)]) (by decide) (KX _ _ (SI w.params)) rfl T.nolimit (codeRec_of KX (SL w.params)) rfl (SJ _) rfl (λx C=>?_) (λs' x=>?_) a2 Q lk
 ·rw[ce.mp C];exact .inl l0
 rw[SK]at x⊢;obtain⟨⟨⟨E,c1,rfl⟩,d,H,_⟩,r,_,_⟩:=x;have A:bindL (envX (a' "law") dl s.heap.objs.size 839 (.ref gr) (iw s.heap.objs.size)).kindOf [(aA 207,.ref l)] (λ_=>none) (aA 207)=au (.ref l):=S7 l0;generalize c2:bindL (envX (a' "law") dl s.heap.objs.size 839 (.ref gr) (iw s.heap.objs.size)).kindOf [(aA 207,.ref l)] (λ_=>none)=m at d A;have t:∀{n:Str} {c:Addr},(iw s.heap.objs.size).lookup n=au c->∃o,E.get? c=au o/\o.data=.cell none:=λ{n c} h=>by have z:=r n c h;have e:bindC (envX (a' "law") dl s.heap.objs.size 839 (.ref gr) (iw s.heap.objs.size)).kindOf [(aA 207,.ref l)] (λ_=>none) n=none:=S8 l0;rw[e]at z;exact z
 clear r;generalize u:s.heap.objs.size=L at*;refine ap (t (n:=aA 221) (c:=L+1) (by kernel_rfl!)) λon gn dn=>?_
 refine ap (t (n:=aA 222) (c:=L+2) (by kernel_rfl!)) λoo go a5=>?_
 refine ap (t (n:=aA 223) (c:=L+3) (by kernel_rfl!)) λop gp dp=>?_
 have f:∀a,L<=a->s.heap.get? a=none:=λa ha=>Heap.get?_none_of_le (u.symm▸ha)
 rw[SM];refine lj ?_;rw[SE];have U:N9 s.heap L E m:=⟨d,H,p9 u⟩;refine Assign_ListComp_U (h₀:=s.heap) (L:=L) (m:=m) (cl:=[]) U rfl (by kernel_rfl!) (closureFor_none (by decide+kernel)) (by decide+kernel) rfl (by decide+kernel) (by decide+kernel) j (by rfl) ?_;refine SV lk l0 d A (let⟨o,a,b⟩:=hL;⟨o,H _ _ a,b⟩) a4 λh1 tk I X Y g1 f1 a6 a0=>?_
 have a7:∀b o,s.heap.get? b=au o->h1.get? b=au o:=λb o e=>Y _ _ (H _ _ e)
 have F1:N9 s.heap L h1 m:=⟨d.keeps Y,a7,p9 u⟩;have a8:s.heap.get? X=none:=by
  cases e:s.heap.get? X with
  |none=>rfl|some o=>rw[H _ _ e]at f1;(injection f1;done)
 have a9:X≠L:=λe=>by(refine kU d λo _ _ ho _=>?_;clear d);rw[e]at f1;rw[show E.get? L=none from f1]at ho;(injection ho;done)
 have N1:News s.heap L h1 [(X,{cls:=.type "list",data:=.seq I 0}),(L+1,on),(L+2,oo),(L+3,op)]:=λq G=>by
  rcases bv G with rfl|G
  ·exact(cz g1 a9 a8)
  rcases bv G with rfl|G
  ·exact(cz (Y _ _ gn) (by show L+1≠L;exact s8 (aO 6987817088)) (f _ (by show L<=L+1;exact bi _ _)))
  rcases bv G with rfl|G
  ·exact(cz (Y _ _ go) (by show L+2≠L;exact s8 (aO 0x2a081a080)) (f _ (by show L<=L+2;exact bi _ _)))
  rw[ce.mp G];exact(cz (Y _ _ gp) (by show L+3≠L;exact s8 (aO 0x3a081a080)) (f _ (by show L<=L+3;exact bi _ _)))
 have J:I.size<=63:=ef a6 (by rw[n0];exact aC 0x3fb03fb111012 (aJ S) v);refine CompSrc.ledger rfl F1 N1 (.head _) (by rw[bw];exact cO ‹_›) λg=>?_
 refine SH (λy hy=>SG hI y (a0 y hy)) (.inr (rE _ (.head _) rfl _ rfl)) I.size 0 [] (λy hy=>by cases hy) λzs hz hl D hD b0 FD ND a1=>?_
 have gD:=(ND (D,lst zs) (.head _)).1;have DL:=(ND (D,lst zs) (.head _)).2.1;have Df:=(ND (D,lst zs) (.head _)).2.2;refine ap (SF (B:=cY w (ghostOf s.heap iz) s.os mg mb) (W:=⟨(ghostOf s.heap iz).get?,[D],[]⟩) hz) λtp hv b7=>?_
 have zl:zs.length<=63:=by rw[hl,k7];exact aO 0x3fb00a83fb011 J
 have R0:aS (cY w (ghostOf s.heap iz) s.os mg mb) ⟨(ghostOf s.heap iz).get?,[D],[]⟩ [cD tp] {s with heap:=hD,toks:=b0}:=by
  refine⟨λa o e=>e,λa o e=>FD.keep _ _ (of_hideAll _ e),rfl,λi a mo h h'=>?_,by simp,λa ha=>?_,hg,rfl⟩
  ·match i,h,h' with
   |0,h,h'=>(injection h with Z;subst Z);(injection h' with Z;subst Z);exact .u (n:=zs.length) gD (by exact hv) (by rw[hZ,b7,bw];exact cO ‹_›)|_+1,h,_=>(injection h;done)
  ·rw[ce.mp ha];exact N0 Df
 have lL:(ghostOf s.heap iz).get? L=none:=N0 (f L (ds _));have f0:dF (cY w (ghostOf s.heap iz) s.os mg mb) (lC L []) ⟨(ghostOf s.heap iz).get?,[D],[]⟩ L [(188,.o 0)] hD:=by
  refine(lG lL (λh=>DL (ce.mp h).symm) (λ_ q=>absurd q ls) _ FD.ns (λx mv C=>?_));rw[fh]at C
  by_cases e:x=188
  ·subst e;rw[if_pos rfl]at C;(injection C with Z;subst Z);exact⟨.ref D,(gZ.a (B:=cY w (ghostOf s.heap iz) s.os mg mb) (F:=lC L []) (x:=188) j).symm▸if_pos rfl,D,rfl,rfl⟩
  ·rw[if_neg e]at C;exact cP C
 have z0:pN ⟨(ghostOf s.heap iz).get?,[D],[]⟩ L hD [L+2,L+3,L+1]:=λc t=>by
  have K:∀k o,k≠0->(L+k,o)∈[(X,({cls:=.type "list",data:=.seq I 0}:Obj)),(L+1,on),(L+2,oo),(L+3,op)]->o.data=.cell none->(∃o,hD.get? (L+k)=au o/\o.data=.cell none)/\(ghostOf s.heap iz).get? (L+k)=none/\L+k∉[D]/\L+k≠L:=λk o hk A hd=>(gU ⟨o,(ND _ (.tail _ A)).1,hd⟩ (N0 (f _ (bi _ _))) (λh=>S6 _ a1 _ A (ce.mp h)) (by lia))
  rcases bv t with rfl|t
  ·exact K 2 oo (by decide) (.tail _ (.tail _ (.head _))) a5
  rcases bv t with rfl|t
  ·exact K 3 op (by decide) (.tail _ (.tail _ (.tail _ (.head _)))) dp
  ·rw[ce.mp t];exact K 1 on (by decide) (.tail _ (.head _)) dn
 have b8:CodeHd (ghostOf s.heap iz) gr dk:=(ghost_code hT).1;have b9:(ghostOf s.heap iz).BuiltinsAt mg dk:=by
  refine Kz P.bmain λbm ob b1 b2 b3 b4 b5 b6=>?_
  refine⟨bm,ob,b1,b2,(λq=>?_),(λq=>?_),b3,b4,b5,b6⟩
  ·refine kb P.g λo es ep e hd _=>?_
   rw[q,e]at b3;(injection b3 with Z;subst Z);rw[hd]at b6;(injection b6;done)
  ·rw[q,show(ghostOf s.heap iz).get? dk=none from ZR _ (ce.mpr rfl)]at b3;(injection b3;done)
 refine SW O b8 b9 ⟨by show 1+claimMargin+1+23<=900;decide,by show 4+3+5*23<=9000;decide,rfl⟩ R0 f0 z0 (FD.keep _ _ tP) (ZR _ (ce.mpr rfl)) (λh=>?_) (u▸a3) λs' W' c3 ps R' c0=>hR s' R'.j R'.f R'.h (ba ps (R'.b _ _ c0))
 rw[ce.mp h,Df]at tP;(injection tP;done)
end
set_option tactic.hygienic true in
theorem Y7:WalkO Hd.nH Hd.pO (λ_ _=>True) Hd.Bv Hd.kf.row.toRowW Hd.ke [] λf vs=>a0a f vs:=by
 intro w S s M L G Y F o P N D O Q n p d r g t A v R H b i j k;clear r d p n;have K:(gC w.params).In s.heap:=λa o h=>Y a o (Ta w.params a o h)
 have l:F=839:=by have e:M Hd.ke.name=au (.ref 839):=mg_of K G.T.g (by kernel_rfl!);rw[g]at e;cases e;rfl
 subst l;have m:TabsAt iz s.heap:=λq u=>by rw[ce.mp u];have x:s.heap.get? dk=au (tabObj #[]):=Y _ _ (S4 w.params);exact(ai ⟨_,_,_,_,_,_,_,_,_,K _ _ (S2 w.params),rfl,rfl,rfl,rfl,rfl,rfl,rfl,rfl,by decide⟩ x)
 wrow_args H b i j k
 rename_i y _ _ _ z _ c _;refine enter_call (kn_post m (λ_ _=>rfl) (S9 K G.T m t y z (aO 0x3fb03fb011 (g5.1 (wj c))) λT B C E I=>⟨(gU (.inl (ni _ _ _ rfl (λ_=>rfl) (.bool true) (by kernel_rfl!) (λ_=>(ai Xs (λa J=>absurd J ls))))) B C E),I,trivial⟩))
end L1
end Mine.Internal.Mine
end
theorem PySem.Challenge.cw_qm0001_01_holds : PySem.Challenge.rw_qm0001_01.Holds :=
  Mine.Internal.Mine.Hd.bz Mine.Internal.Mine.L1.Y7
