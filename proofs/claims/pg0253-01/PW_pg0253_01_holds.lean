import PyProof.Rows.All
import Wide.All
import OpenK.KCell
import OpenK.KTop
import KE.IntTextText
import KE.KUnpack
import Wide.FinOn
import Lean
import PySem.Challenge.RW_pg0253_01
set_option Elab.async false
set_option bootstrap.genMatcherCode false
set_option genSizeOf false
set_option genSizeOfSpec false
set_option linter.unusedVariables false
set_option linter.unusedSimpArgs false
set_option tactic.hygienic false
set_option genInjectivity false
set_option maxRecDepth 100000
open Nat renaming le_trans->fp,lt_of_le_of_lt->Fe,le_add_right->Fi,le_refl->Fn,lt_of_lt_of_le->Fo,succ_le_succ->Fq,le_of_eq->Fw,le_of_lt->FE,lt_trans->FF,ne_of_lt->FP,lt_of_lt_of_eq->FQ,ne_of_gt->FU,le_of_lt_succ->FW,lt_succ_self->FY,zero_le->Gb,add_le_add_left->Gf,lt_of_le_of_ne->Gj,add_le_add_right->Gr,le_antisymm->Gv,zero_add->Gy,succ_add_eq_add_succ->GC,le_succ_of_le->GD,lt_succ_of_le->GG,le_of_succ_le->GL,mul_le_mul_left->GN,le_add_left->GO,lt_of_succ_lt->GU,succ_lt_succ->GV,add_lt_add_left->GX,not_lt_of_le->GY,add_sub_cancel_left->Hc,add_sub_cancel'->Hd,le_sub_one_of_lt->Hh,add_comm->Hl,min_eq_left->Hm,add_sub_of_le->Hp,lt_succ_of_lt->Hq,pos_of_ne_zero->Hr,succ_pos->Hs,le_of_not_lt->Ht,add_lt_of_lt_sub'->Hw,lt_add_of_pos_right->Hz,sub_le->HH,le_succ->HS,add_le_add->Ib,lt_or_eq_of_le->Ip,not_le->Iq,not_lt->Ir,lt_irrefl->Iy,sub_pos_of_lt->IB,lt_or_ge->IH,lt_of_not_le->IK,not_lt_zero->IX,exists_eq_succ_of_ne_zero->Jp,eq_zero_of_not_pos->Ju,lt_of_succ_lt_succ->Jv,mod_lt->Jw,add_assoc->JA,add_sub_add_right->JE,le_of_sub_eq_zero->JF,le_sub_of_add_le->JN,sub_lt->JO,add_zero->JR,sub_add_cancel->Ke,le_add_right_of_le->Kq,le_mul_of_pos_left->Kr,lt_one_iff->Ks,sub_self->Kt,sub_eq_zero_of_le->Kx,min_eq_right->Kz,div_le_self->KM,sub_lt_sub_left->KR,le_of_add_le_add_right->KZ,lt_trichotomy->Ll,mul_add->Lm,two_pos->Ln,max_eq_right->LA,min_le_right->LB,sub_sub_self->LC,le_of_succ_le_succ->LO,le_total->LQ,sub_eq_zero_iff_le->LR,two_pow_pos->Mi,add_le_of_le_sub'->Ml,eq_of_beq_eq_true->Mm,le_of_ble_eq_true->Mn,not_succ_le_self->MD,sub_le_of_le_add->ME,sub_le_sub_left->MO,add_right_comm->Nf,succ_add->Nt,succ_le_of_lt->Nu,div_eq_of_lt->NG,le_of_not_le->NH,two_mul->NR,max_eq_left->Ob,min_le_left->Oc,zero_lt_two->Od,lt_asymm->OC,min_self->OD,zero_min->OE,add_mul->OG
open PySem renaming wpAny_bind->nt,wpAny_pure->Fp,wpAny_mono->Fy,wpAny_holding->Gl,wpAny_standAt->GH,wpAny_of_eq->GK,builtinLookup_eq_fast->GW,typeLookup_type->HC,wpAny_call_entry->HT,wpAny_newObj_type->IC,wpAny_Call_NameR->IL,wpAny_rule->IQ,codeAny_mono->Jd,wpAny_truthy_bool->Je,wpAny_typeOf->Jf,wpAny_field->Jq,isSubtype_type->JP,wpAny_execs_cons->JS,callWith_type->JW,pushCells_keeps->Ka,slot_list_getitem->Kh,wpAny_callSpecial?_slot->Ki,wpAny_attempt->KD,wpAny_execs_nil->KN,wpAny_loadPart->Lb,wpAny_setField_rec->Lc,wpAny_comprehension_free->Lq,entryFor_of_tree->LF,wpAny_isInstance->LG,wpAny_list_append_plain->LI,aRefKeyMayBeTheName_at->LW,call_meets->LY,codeAny_compStart_list->LZ,wpAny_call->Mb,wpAny_mkText->Mc,wpAny_pyIter_rangeiter->Md,wpAny_operating->Mj,sizeLine_eq->MF,wpAny_ite_true->MG,wpAny_letTemporaryGo->MI,codeAny_forLoop_any->MQ,wpAny_Assign_stores->MS,rangeSize_one->MY,wpAny_tupleItemsOf->Ng,pastItsLine_dict->NJ,wpAny_askSetting->NL,wpAny_eqBool_int->NM,wpAny_lookBehind->NN,wpAny_pyIter_zip->NO,wpAny_updatePart->NP,codeAny_builtin->Oe,codeAny_of_tree->Of,wpAny_specialOf->Oh,typeIs_int->Ou,wpAny_load->Ov
open List renaming length_append->Fc,length_map->Fd,getElem?_eq_getElem->Ff,getElem?_set_ne->Fg,mem_singleton->Fh,length_set->Fj,getElem?_append_left->Fs,getElem?_set_self->Fu,mem_cons->Fv,append_assoc->Fz,getD_eq_getElem?_getD->FA,getElem?_eq_some_iff->FC,mem_of_getElem?->FD,map_append->FG,getElem?_map->FK,append_nil->FL,mem_map->FN,not_mem_nil->FO,mem_append->FR,length_range->FZ,getElem?_append_right->Ga,map_cons->Gg,map_map->Gh,mem_range->Gi,mem_map_of_mem->Gk,mem_filter->Gm,mem_append_left->Gq,length_singleton->Gs,length_cons->GB,take_append_drop->GJ,pairwise_cons->GQ,nodup_cons->GZ,getElem?_toArray->Hb,pairwise_iff_getElem->He,pairwise_append->Hf,take_of_length_le->Hg,length_filter_le->Hj,mem_append_right->Hk,length_drop->Ho,filter_eq_self->Hu,getElem?_range->Hv,getElem?_concat_length->Hx,filter_append->HB,lookup_cons->HD,drop_eq_getElem_cons->HF,map_congr_left->HG,count_append->HK,eq_nil_of_length_eq_zero->HL,size_toArray->HM,foldl_cons->HO,filter_cons_of_pos->HP,mem_of_mem_drop->HQ,mem_of_mem_take->HR,flatMap_cons->HZ,nodup_append->Ia,concat_eq_append->Ii,eq_nil_or_concat->Ij,lookup_cons_self->Ik,length_range'->Io,range_eq_range'->Iz,filter_cons_of_neg->IA,range_succ->ID,mem_flatten->IJ,getElem?_drop->IP,getElem?_eq_none->IU,perm_append_comm->IW,getElem?_of_mem->Ja,mem_range'_1->Jb,set_set->Jc,getElem_of_mem->Jj,all_eq_true->Jk,drop_drop->Jl,eq_nil_iff_forall_not_mem->Jm,pairwise_singleton->Jn,take_length->Jo,drop_of_length_le->Js,filter_eq_nil_iff->Jt,length_nil->Jx,sum_cons->Jz,mem_iff_getElem?->JC,set_append_right->JD,filter_congr->JH,perm_append_singleton->JM,mem_flatMap->JQ,extract_eq_take_drop->JT,flatMap_append->JU,reverse_append->JV,forIn_cons->JY,append_ne_nil_of_right_ne_nil->Kb,filter_filter->Kc,zip_cons_cons->Kd,length_eq_zero_iff->Kf,append_eq_nil_iff->Km,drop_eq_nil_of_le->Kn,take_add_one->Ko,take_take->Kp,length_replicate->Kw,take_nil->KC,set_append_left->KH,count_cons->KJ,dropLast_concat_getLast->KL,map_eq_nil_iff->KQ,count_eq_zero->KY,mem_or_eq_of_mem_set->Lg,nodup_range'->Li,pairwise_map->Lj,getElem?_take_of_lt->Lp,cons_ne_nil->Lu,drop_length->Lv,filter_cons->Lw,getElem?_replicate->Lx,getElem_mem->Ly,length_take->Lz,length_take_of_le->LM,map_set->LN,sum_append->Mf,dropLast_eq_take->Mk,count_nil->Mv,count_singleton->Mw,drop_take->Mx,drop_zero->My,forall_mem_cons->Mz,map_id->MA,reverse_reverse->MB,append_toArray->MM,replicate_succ->MN,any_cons->MV,append_of_mem->Na,getElem?_take->Nb,map_inj_right->Nc,zip_nil_right->Nd,drop_sublist->Nj,ext_getElem?->Nk,flatten_cons->Nl,getElem?_inj->Nm,idxOf_append->Nn,mapM_toArray->Np,take_sublist->Nq,flatMap_map->Nz,mem_toArray->NA,nodup_range->NB,perm_middle->NC,range'_succ->ND,zipIdx_cons->NF,append_inj->NX,filter_map->NY,filter_nil->NZ,idxOf_cons->Oa,drop_left->Ol,forIn_nil->Om,drop_nil->Ox
open Option.some renaming inj->Ft,injEq->Hy
open PySem.Heap renaming get?_push_of_some->FH,get?_push_size->Gd,size_push->HX,get?_update_ne->IE,lt_size->IF,get?_update_self->Kv
open Int renaming le_trans->FI,le_of_lt->FT,le_refl->FV,natCast_nonneg->FX,ofNat_lt->GP,zero_add->GR,not_lt->Ha,eq_ofNat_of_zero_le->Hn,lt_of_lt_of_le->HA,le_of_eq->HN,le_add_of_sub_right_le->HY,le_antisymm->Ig,natCast_add->Ih,add_assoc->It,add_zero->Iu,lt_trans->Iv,ofNat_le->Iw,fdiv_eq_ediv_of_nonneg->IM,ne_of_lt->IZ,lt_of_le_of_lt->Jr,toNat_sub->Jy,fmod_eq_emod_of_nonneg->JJ,not_le->JK,sub_right_le_of_le_add->JL,sub_zero->Kl,le_max_left->KI,add_comm->KT,add_nonneg->KW,neg_le_neg->KX,le_add_of_nonneg_left->Lf,ofNat_sub->Lo,natCast_zero->Lr,max_le->LL,add_le_add_right->Ms,sub_le_sub_right->Mt,add_le_add_left->MK,toNat_of_nonpos->ML,lt_irrefl->MU,lt_trichotomy->Nh,toNat_natCast->Ni,mul_one->NQ,ne_of_gt->OA,toNat_lt->OB
open PyProof.Rows renaming wpS_bind->FJ,wpS_pure->HU,wpS_modify->Ji,wpS_get->KU,wpS_lift->LJ,listItems_at->Ma,Attribute_any_->Mr,isTrue_or->MJ,getElem?_mirror_all->MR,listUpdate_at->MX,slot_str_getitem->NK,seqEpoch_at->NV,getElem?_bubble->Og
open Bool renaming and_eq_true->Gn,false_ne_true->Hi,not_eq_true'->HJ,eq_iff_iff->Ie,false_eq_true->Im,and_eq_true_iff->JI,eq_false_iff->Kk,not_true->KA,or_eq_true->Me,true_and->MT,false_and->Oj,and_self->Ow
open PySem.F renaming slot_list_append->Go,type_list_append->Gp,slot_list_pop->Il,type_list_pop->JG,slot_list_index->Kg,slot_range_reversed->Ku,slot_list_setitem->Lh,type_list_index->LD,entry_list_pop->LU,slot_int_rmul->Mo,slot_tuple_lt->Mq
open Option renaming map_eq_some_iff->Gu,bind_some->Gz,bind_eq_some_iff->GA,isSome_iff_exists->Jh,map_some->JZ
open Array renaming toList_append->Gw,perm_iff_toList_perm->HW,length_toList->Ic,getElem?_toList->IS,toList_reverse->IY,toList_push->Kj,toList_extract->KG,size_extract->KV,getElem?_eq_getElem->Ld,getElem?_extract->LK,empty_append->MZ,any_toList->Nx,toList_zip->Ny,size_map->Oi
open Ne renaming symm->HE
open List.Perm renaming append_right->IG,append_left->JB
open Int.ofNat renaming inj->Jg
open List.Pairwise renaming imp_of_mem->JX,filter->Mu
open PySem.Heap.SameBut renaming update->KP
open PySem.Str renaming cps_append->La
open Nat.le renaming dest->Lk
open PySem.SeqAt renaming canLay_of_shaped->LV
open PySem.Calls renaming Name_function_global->MC,callWith_function->Nv,callWith_builtin->NI
open PySem.OldK renaming staticOf_congr->MP
open Prod.mk renaming injEq->MW
open Nat.succ renaming inj->Nr
open PySem.W renaming putName_dict->Nw,callWith_of->NS,hideAll_get->NT,lookIn_dict->NU
open Array.Perm renaming refl->NW
open PySem.W.Looks renaming ld->Oo,andThen->Oy,of_pure->Oz,now->OH
open Prod renaming ext->Oq
open PySem.Sem renaming wp_release->Ot
open PySem.Heap.Ns renaming new->OF
open PySem PySem.W PySem.Calls PyProof.Rows
namespace Mine.Internal
variable {V:Sto}{W:Wld}{k i n j m:Nat}{O:Mp}{Q:AV->Sto->Prop}{s:Shared}{st l:List AV}{h h':Heap}{vs:List Value}{A:Around}{F:Fm}{env:Env}{α:Type}{v:Value}{x:AV}{rows:List (List Blk)}{st':SortSt}{H:List HI}
theorem B8{a:α}{l:List α}:(a::l)[0]?=some a:=rfl
theorem B9{a:α}{l:List α}:(a::l)[i+1]?=l[i]?:=rfl
theorem C5{a b:α}{l:List α}:(a::l).set 0 b=b::l:=rfl
theorem C6{a b:α}{l:List α}:(a::l).set (i+1) b=a::l.set i b:=rfl
theorem C3{a:α}{l m:List α}:(a::l)++m=a::(l++m):=rfl
theorem C7{l:List α}:[]++l=l:=rfl
theorem xE{α:Sort _}{p:α->Prop}{b:Prop}(h:Exists p)(k:∀x,p x->b):b:=Exists.elim h k
theorem zzo{a b c:Nat}(h:a=b)(k:b<c):a<c:=h▸k
theorem zzb{x:Nat}(h:x<=n)(e:Nat.ble n m=true):x<=m:=fp h (Mn e)
theorem zze{x:Nat}(h:x=n)(e:Nat.ble (n+1) m=true):x<m:=zzb (Fw (congrArg Nat.succ h)) e
theorem zzg{x:Nat}(h:x=n)(e:Nat.ble (m+1) n=true):m<x:=h▸Mn e
theorem zzi{x:Nat}(h:x<n)(e:Nat.ble n m=true):(x:Int) < @OfNat.ofNat Int m instOfNat:=GP.mpr (zzb h e)
theorem zzm{x:Nat}:(-1000000:Int)<x:=HA (by decide) (FX x)
theorem zzl{x y:Nat}(h:x=y+k):y<=x:=h▸Fi y k
theorem zzr{x y z:Nat}(h:x+100*y+200<z):x+80<z:=Fe (Ib (Fi x _) (by decide)) h
theorem zzq{x y z:Nat}(h:x+10*(y+1)+10<z):x+10*y+10<z:=Fe (Gr (Fi _ 10) 10) h
theorem zzd{x:Int}(h:-9<=x/\x<=9):(x+9).toNat<19:=by lia
theorem zzf{x:Int}(h:-9<=x/\x<=9):((x+9).toNat:Int)-9=x:=by lia
theorem zzt{a b c:Nat}(h:a<=b)(k:c<=b):a+(c-a)<=b:=(LQ a c).elim (λ e=>(Hp e).symm▸k) λ e=>(Kx e).symm▸h
theorem zzv{a b c:Nat}(h:a-b=c)(k:a<=c):c<=c-b:=by
 cases Gv k (h▸HH a b)
 exact Fw h.symm
theorem zzx{x:Int}(h:x.toNat=n+1):(x-1).toNat=n:=by
 cases x with
 | ofNat m=>cases h;exact Jy (n+1) 1
 | negSucc m=>cases h
theorem zzw{a b c:Nat}(h:a<=b)(k:b<c):a+c-1-b<c:=by lia
theorem zzp{a b:Nat}(h:a<=b):((b:Int)-a+1).toNat=b-a+1:=by rw[<- Lo h];rfl
theorem zzy{x y c:Nat}(h:c<=k):x+c+k*y<=x+k*(y+1):=fp (Fw (JA x c (k*y))) (Gf (fp (Gr h _) (Fw (Hl k _))) x)
set_option genInjectivity true in
inductive AV where
 | undef
 | none
 | bool(b:Bool)
 | int(i:Int)
 | str(s:List Nat)
 | tup(l:List AV)
 | ref(i:Nat)
 | fn(a:Addr)
 | clist(l:List Int)
inductive I3 where
 | list(l:List AV)
 | inst(c:Addr)(m:List (Nat×AV))
 | raw(a:Addr)(o:Obj)
 | cell(a:Addr)(x:AV)
 | flds(T:String)(l:List AV)
abbrev Sto:=List I3
abbrev Mp:=List (Addr×Addr)
mutual
inductive VR(h0 h:Heap)(O:Mp):Value->AV->Prop
 | none:VR h0 h O .none .none
 | bool (b:_):VR h0 h O (.bool b) (.bool b)
 | int (i t:_):VR h0 h O (.int i t) (.int i)
 | str (s t:_):VR h0 h O (.str ⟨s⟩ t) (.str s.toList)
 | tup {a n vs l:_}:IsT h a vs.toArray n->VRs h0 h O vs l->VR h0 h O (.ref a) (.tup l)
 | ref {a d i:_}:O[i]?=some (a,d)->VR h0 h O (.ref a) (.ref i)
 | fn (a:_):VR h0 h O (.ref a) (.fn a)
 | clist {a vs l:_}:h0.IsList a vs.toArray->IntsAre vs l->VR h0 h O (.ref a) (.clist l)
inductive VRs(h0 h:Heap)(O:Mp):List Value->List AV->Prop
 | nil:VRs h0 h O [] []
 | cons {v x vs xs:_}:VR h0 h O v x->VRs h0 h O vs xs->VRs h0 h O (v::vs) (x::xs)
end
theorem G9{c:α}{C:Prop}(h:none=some c):C:=by cases h
def Sub(h:Heap)(O:Mp)(h':Heap)(OT:Mp):Prop:=
 (∀a vs n,IsT h a vs n->IsT h' a vs n)/\∃ψ,OT=O++ψ
theorem Sub.rfl':Sub h O h O:=⟨λ Y Y Y x=>x,[],by simp⟩
mutual
theorem VR.mono{h0 h h':Heap}{O OT:Mp}(S:Sub h O h' OT){v:Value}{x:AV}(r:VR h0 h O v x):VR h0 h' OT v x:=by
 cases r with
 | none=>exact .none
 | bool b=>exact .bool b
 | int i t=>exact .int i t
 | str s t=>exact .str s t
 | tup ht hr=>exact .tup (S.1 _ _ _ ht) (VRs.mono S hr)
 | ref hp=>
  obtain⟨ψ,rfl⟩:=S.2
  refine .ref (d:=_) ((Fs ?_).trans hp)
  exact(FC.mp hp).1
 | fn a=>exact .fn a
 | clist h1 h2=>exact .clist h1 h2
theorem VRs.mono{h0 h h':Heap}{O OT:Mp}(S:Sub h O h' OT){vs:List Value}{xs:List AV}(r:VRs h0 h O vs xs):VRs h0 h' OT vs xs:=by
 cases r with
 | nil=>exact .nil
 | cons a b=>exact .cons (VR.mono S a) (VRs.mono S b)
end
theorem VRs.ind{h0:Heap}{P:List Value->List AV->Prop}(n:P [] [])(c:∀v x vs xs,VR h0 h O v x->VRs h0 h O vs xs->P vs xs->P (v::vs) (x::xs)):∀(vs:List Value) {xs:List AV},VRs h0 h O vs xs->P vs xs:=by
 intro vs
 induction vs with
 | nil=>intro xs r;cases r;exact n
 | cons v vs ih=>intro xs r;cases r with
  | cons a b=>exact c _ _ _ _ a b (ih b)
theorem VRs.length{h0:Heap}{xs:List AV}(r:VRs h0 h O vs xs):vs.length=xs.length:=
 VRs.ind (P:=λ vs xs=>vs.length=xs.length) rfl (λ Y Y Y Y Y Y ih=>congrArg (· + 1) ih) vs r
theorem VRs.get{h0:Heap}{xs:List AV}(r:VRs h0 h O vs xs):∀{i:Nat}{x:AV},xs[i]?=some x->∃v,vs[i]?=some v/\VR h0 h O v x:=
 VRs.ind (P:=λ vs xs=>∀{i:Nat}{x:AV},xs[i]?=some x->∃v,vs[i]?=some v/\VR h0 h O v x) (λ e=>G9 e) (λ v x vs xs a b ih i y e=>by
  cases i with
  | zero=>exact Ft e▸⟨v,rfl,a⟩
  | succ i=>exact ih e) vs r
theorem VRs.append{h0:Heap}{ws:List Value}{xs ys:List AV}(r:VRs h0 h O vs xs)(r':VRs h0 h O ws ys):VRs h0 h O (vs++ws) (xs++ys):=
 VRs.ind (P:=λ vs xs=>VRs h0 h O (vs++ws) (xs++ys)) r' (λ Y Y Y Y a Y ih=>.cons a ih) vs r
theorem VRs.set{h0:Heap}{xs:List AV}(r:VRs h0 h O vs xs):∀{i:Nat}{v:Value}{x:AV},VR h0 h O v x->VRs h0 h O (vs.set i v) (xs.set i x):=
 VRs.ind (P:=λ vs xs=>∀{i:Nat}{v:Value}{x:AV},VR h0 h O v x->VRs h0 h O (vs.set i v) (xs.set i x)) (λ Y=>.nil) (λ v x vs xs a b ih i w y q=>by
  cases i with
  | zero=>exact .cons q b
  | succ i=>exact .cons a (ih q)) vs r
theorem VRs.drop{h0:Heap}{xs:List AV}(r:VRs h0 h O vs xs):∀n,VRs h0 h O (vs.drop n) (xs.drop n):=
 VRs.ind (P:=λ vs xs=>∀n,VRs h0 h O (vs.drop n) (xs.drop n)) (λ n=>by rw[Ox,Ox];exact .nil) (λ v x vs xs a b ih n=>by
  cases n with
  | zero=>exact .cons a b
  | succ n=>exact ih n) vs r
theorem VRs.take{h0:Heap}{xs:List AV}(r:VRs h0 h O vs xs):∀n,VRs h0 h O (vs.take n) (xs.take n):=
 VRs.ind (P:=λ vs xs=>∀n,VRs h0 h O (vs.take n) (xs.take n)) (λ n=>by rw[KC,KC];exact .nil) (λ v x vs xs a b ih n=>by
  cases n with
  | zero=>exact .nil
  | succ n=>exact .cons a (ih n)) vs r
structure Wld where
 prog:Program
 w:World
 s0:Shared
 K:Frag
 kin:∀a o,K.lookup a=some o->s0.heap.get? a=some o/\(o.cls≠.none\/a=cStatics)
 lim:s0.heap.NoLimit
 mg:Str->Option Value
 mb:Str->Option Value
 gns:s0.heap.Ns mainGlobals mg
 bns:s0.heap.Ns builtinsNs mb
 gcl:∀o,s0.heap.get? mainGlobals=some o->o.cls≠.none
 bcl:∀o,s0.heap.get? builtinsNs=some o->o.cls≠.none
noncomputable abbrev Wld.h0(W:Wld):Heap:=W.s0.heap
noncomputable abbrev Wld.M(W:Wld):Model:=model W.prog W.w
noncomputable def atN:Nat->Str
 | 0=>Str.ofString "lineno"
 | 1=>Str.ofString "instream"
 | 2=>Str.ofString "whitespace"
 | 3=>Str.ofString "pushback"
 | 4=>Str.ofString "raw"
 | 5=>Str.ofString "n"
 | 6=>Str.ofString "nt"
 | 7=>Str.ofString "norm"
 | _=>Str.ofString "is_simple"
inductive EsR(h0 h:Heap)(O:Mp):List DictEntry->List (Nat×AV)->Prop
 | nil:EsR h0 h O [] []
 | cons {hs t v k x es m:_}:VR h0 h O v x->EsR h0 h O es m->EsR h0 h O (⟨hs,.str (atN k) t,v⟩::es) ((k,x)::m)
theorem EsR.mono{h0:Heap}{OT:Mp}(S:Sub h O h' OT){es:List DictEntry}{m:List (Nat×AV)}(r:EsR h0 h O es m):EsR h0 h' OT es m:=by
 induction r with
 | nil=>exact .nil
 | cons a _ ih=>exact .cons (VR.mono S a) ih
noncomputable def rQ:List (Nat×AV)->Nat->Option AV
 | [],_=>Option.none
 | (j,x)::m,k=>if j=k then some x else rQ m k
noncomputable def jA:List (Nat×AV)->Nat->AV->List (Nat×AV)
 | [],k,y=>[(k,y)]
 | (j,x)::m,k,y=>if j=k then(j,y)::m else(j,x)::jA m k y
def dH(m:List (Nat×AV)):Prop:=∀p∈m,p.1<=8
structure ph(W:Wld)(C:Addr):Prop where
 hga:findIn W.K (.ref C) "__getattribute__" = some (some (.builtin "object.__getattribute__"))
 hsa:findIn W.K (.ref C) "__setattr__" = some (some (.builtin "object.__setattr__"))
 plain:plainOver W.K C=true
 dict:hasDictIn W.K C=true
 tak:∀k:Fin 9,takerIn W.K C (atN k)=some none
 get:∀k:Fin 9,(findIn W.K (.ref C) (atN k)).any (λ a=>noGet W.K a)=true
inductive bf(W:Wld)(h:Heap)(O:Mp):Addr×Addr->I3->Prop
 | list {a n vs l:_}:IsL h a vs.toArray n->VRs W.h0 h O vs l->bf W h O (a,a) (.list l)
 | inst {a d c es n m:_}:ph W c->dH m->h.get? a=some ⟨.ref c,some d,.plain,#[]⟩->h.get? d=some (dictOf es n)->EsR W.h0 h O es m->bf W h O (a,d) (.inst c m)
 | raw {a o:_}:h.get? a=some o->o.data≠.plain->o.cls≠.type "tuple"->bf W h O (a,a) (.raw a o)
 | cell {a o v x:_}:h.get? a=some o->o.data=.cell (some v)->VR W.h0 h O v x->bf W h O (a,a) (.cell a x)
 | flds {a T vs l:_}:h.get? a=some { cls:=.type T,data:=.fields vs.toArray }->VRs W.h0 h O vs l->bf W h O (a,a) (.flds T l)
theorem bf.own{p:Addr×Addr}{o:I3}(r:bf W h O p o):∃x,h.get? p.2=some x/\x.data≠.plain/\(x.cls≠.type "tuple"\/∀vs n,x.data≠.seq vs n):=by
 induction r with
 | list a _=>exact⟨_,a,(by intro e;cases e),.inl (by simp)⟩
 | inst _ _ _ b _=>exact⟨_,b,(by intro e;cases e),.inl (by simp[dictOf])⟩
 | raw a b c=>exact⟨_,a,b,.inl c⟩
 | cell a b _=>exact⟨_,a,(by rw[b];intro e;cases e),.inr (by rw[b];intro _ _ e;cases e)⟩
 | flds a _=>exact⟨_,a,(by intro e;cases e),.inr (by intro _ _ e;cases e)⟩
theorem bf.main{p:Addr×Addr}{o:I3}(r:bf W h O p o):∃x,h.get? p.1=some x:=by
 induction r with
 | list a _=>exact⟨_,a⟩
 | inst _ _ a _ _=>exact⟨_,a⟩
 | raw a _ _=>exact⟨_,a⟩
 | cell a _ _=>exact⟨_,a⟩
 | flds a _=>exact⟨_,a⟩
structure Rep(W:Wld)(V:Sto)(O:Mp)(s:Shared):Prop where
 len:O.length=V.length
 obj:∀(i:Nat) (o:I3) (p:Addr×Addr),V[i]?=some o->O[i]?=some p->bf W s.heap O p o
 nd:(O.map (·.2)).Nodup
 new:∀p∈O,W.h0.get? p.2=none
 old:OldK W.h0 s.heap
 gens:s.gens=#[]
 os:s.os=W.s0.os
 stat:∃o,W.h0.get? cStatics=some o/\s.heap.get? cStatics=some o
def Bg(W:Wld)(X:List Addr)(O:Mp)(h h':Heap):Prop:=
 ∀a o,h.get? a=some o->(o.cls≠.none\/W.h0.get? a=none)->a∉O.map (·.2)->a∉X->h'.get? a=some o
structure E8(W:Wld)(X:List Addr)(O:Mp)(h:Heap)(OT:Mp)(h':Heap):Prop where
 keep:Bg W X O h h'
 grow:∃ψ,OT=O++ψ/\∀p∈ψ,h.get? p.2=none
 live:∀a o,h.get? a=some o->∃o',h'.get? a=some o'
theorem E8.rfl'{X:List Addr}:E8 W X O h O h:=⟨λ Y Y e Y Y Y=>e,⟨[],by simp,by simp⟩,λ Y o e=>⟨o,e⟩⟩
theorem E8.trans{X:List Addr}{OT PM:Mp}{h'':Heap}(x:E8 W X O h OT h')(y:E8 W X OT h' PM h''):E8 W X O h PM h'':=by
 obtain⟨ψ,rfl,PX⟩:=x.grow
 obtain⟨χ,rfl,Rm⟩:=y.grow
 refine⟨λ a o e c na nx=>y.keep a o (x.keep a o e c na nx) c ?_ nx,⟨ψ++χ,by simp,?_⟩,λ a o e=>let ⟨o',e'⟩:=x.live a o e;y.live a o' e'⟩
 ·intro hm
  rw[FG,FR]at hm
  rcases hm with hm|hm
  ·exact na hm
  ·obtain⟨p,hp,rfl⟩:=FN.mp hm
   rw[PX p hp]at e;cases e
 ·intro p hp
  rcases FR.mp hp with hp|hp
  ·exact PX p hp
  ·cases q:h.get? p.2 with
   | none=>rfl
   | some o=>obtain⟨o',e'⟩:=x.live _ _ q;rw[Rm p hp]at e';cases e'
theorem E8.weaken{X OL:List Addr}{OT:Mp}(x:E8 W X O h OT h')(hs:∀a∈X,a∈OL):E8 W OL O h OT h':=
 ⟨λ a o e c na ny=>x.keep a o e c na λ q=>ny (hs _ q),x.grow,x.live⟩
theorem E8.forget{X OL:List Addr}{OT:Mp}(x:E8 W X O h OT h')(hs:∀a∈X,a∈OL\/h.get? a=none):E8 W OL O h OT h':=
 ⟨λ a o e c na ny=>x.keep a o e c na λ q=>(hs _ q).elim (λ q=>ny q) λ q=>absurd (q.symm.trans e) (by simp),x.grow,x.live⟩
theorem E8.ext{X:List Addr}{OT:Mp}{h'':Heap}{a:Addr}(x:E8 W X O h OT h')(hs:Heap.ExtBut a h' h'')(ha:h.get? a=none):E8 W X O h OT h'':=
 ⟨λ b o e c na nx=>hs b o (λ q=>by rw[q,ha]at e;cases e) (x.keep b o e c na nx),x.grow,λ b o e=>by
  obtain⟨o',e'⟩:=x.live b o e
  exact⟨o',hs b o' (λ q=>by rw[q,ha]at e;cases e) e'⟩⟩
theorem jB{Pk:Heap}{a:Addr}(K:∃o,Pk.get? cStatics=some o/\h.get? cStatics=some o)(ha:Pk.get? a=none)(hs:Heap.ExtBut a h h'):∃o,Pk.get? cStatics=some o/\h'.get? cStatics=some o:=
 let ⟨o,h1,h2⟩:=K;⟨o,h1,hs _ _ (λ q=>by rw[q,ha]at h1;cases h1) h2⟩
theorem rR{Pk:Heap}(K:∃o,Pk.get? cStatics=some o/\h.get? cStatics=some o)(hs:∀b o,h.get? b=some o->h'.get? b=some o):∃o,Pk.get? cStatics=some o/\h'.get? cStatics=some o:=
 let ⟨o,h1,h2⟩:=K;⟨o,h1,hs _ _ h2⟩
theorem jC{Pk:Heap}{a:Addr}(K:OldK Pk h)(ha:Pk.get? a=none)(hs:Heap.ExtBut a h h'):OldK Pk h':=by
 have ne:∀b o,Pk.get? b=some o->b≠a:=λ b o e q=>by rw[q,ha]at e;cases e
 refine⟨λ b o e=>?_,λ b o e=>let ⟨o',ho'⟩:=K.there b o e;⟨o',hs b o' (ne b o e) ho'⟩⟩
 rcases K.old b o e with x|⟨t,hc,vs,more,hv,x⟩|⟨rfl,hc,⟨o',es,n,ho',r⟩,z⟩
 ·exact .inl (hs b o (ne b o e) x)
 ·exact .inr (.inl ⟨t,hc,vs,more,hv,hs b _ (ne b o e) x⟩)
 ·refine .inr (.inr ⟨rfl,hc,⟨o',es,n,hs _ _ (ne _ o e) ho',r⟩,λ key=>?_⟩)
  rw[MP ((hs _ _ (ne _ o e) ho').trans ho'.symm) key]
  exact z key
theorem Rep.own(R:Rep W V O s){p:Addr×Addr}(hp:p∈O):∃x,s.heap.get? p.2=some x/\x.data≠.plain/\(x.cls≠.type "tuple"\/∀vs n,x.data≠.seq vs n):=by
 obtain⟨i,hi,rfl⟩:=Jj hp
 have hi':i<V.length:=by rw[<- R.len];exact hi
 exact(R.obj i V[i] O[i] (by simp[hi']) (by simp[hi])).own
theorem Rep.noTup(R:Rep W V O s){a:Addr}{vs:Array Value}(h:IsT s.heap a vs n):a∉O.map (·.2):=by
 intro hm
 obtain⟨p,hp,rfl⟩:=FN.mp hm
 obtain⟨x,hx,hc⟩:=R.own hp
 rw[show s.heap.get? p.2=_ from h]at hx
 cases hx
 rcases hc.2 with q|q
 ·exact q rfl
 ·exact q _ _ rfl
theorem Rep.sub{OT:Mp}{X:List Addr}(R:Rep W V O s)(S:E8 W X O s.heap OT h')(hX:∀a∈X,∀vs n,¬IsT s.heap a vs n):Sub s.heap O h' OT:=by
 obtain⟨ψ,PX,_⟩:=S.grow
 exact⟨λ a vs n ht=>S.keep a _ ht (.inl (by intro e;cases e)) (R.noTup ht) (λ q=>hX _ q _ _ ht),ψ,PX⟩
theorem Rep.sub0{OT:Mp}(R:Rep W V O s)(S:E8 W [] O s.heap OT h'):Sub s.heap O h' OT:=
 R.sub S λ Y q=>by cases q
inductive H9(W:Wld)(X:List Addr)(O:Mp)(h:Heap)(Q:AV->Sto->Prop)(v:Value)(s':Shared):Prop
 | mk (OP OT x:_):Q x OP->Rep W OP OT s'->VR W.h0 s'.heap OT v x->E8 W X O h OT s'.heap->H9 W X O h Q v s'
def NoE:Value->Shared->Prop:=λ Y Y=>False
theorem H9.mono{X:List Addr}{Q':AV->Sto->Prop}{s':Shared}(p:H9 W X O h Q v s')(hq:∀x V,Q x V->Q' x V):H9 W X O h Q' v s':=by
 obtain⟨OP,OT,x,q,r,v,S⟩:=p
 exact⟨OP,OT,x,hq _ _ q,r,v,S⟩
structure N3(k:Nat)(A:Around):Prop where
 handled:A.handled=none
 depth:A.depth+10*k+10<recursionLimit
 units:A.units+100*k+200<cLine
theorem N3.lim(r:N3 k A):A.depth<recursionLimit:=by have:=r.depth;exact Fe (fp (Fi _ _) (Fi _ _)) this
theorem N3.in1(r:N3 (k+1) A):N3 k A.in1:=⟨r.handled,by have:=r.depth;show A.depth+_+_<_;exact zzq this,by have:=r.units;show A.units+1+_+_<_;exact Fe (Gr (zzy (by decide)) 200) this⟩
theorem N3.deeper(r:N3 (k+1) A)(e:Env):N3 k (A.deeper e):=⟨r.handled,by have:=r.depth;show A.depth+1+_+_<_;exact Fe (Gr (zzy (by decide)) 10) this,by have:=r.units;show A.units+3+_+_<_;exact Fe (Gr (zzy (by decide)) 200) this⟩
theorem N3.down(r:N3 (k+1) A):N3 k A:=⟨r.handled,by have:=r.depth;exact zzq this,by have:=r.units;exact Fe (Gr (Fi _ 100) 200) this⟩
set_option tactic.hygienic true in
theorem mem_of_lookup{β:Type}[BEq α][LawfulBEq α]{a:α}{b:β}:∀{l:List (α×β)},l.lookup a=some b->(a,b)∈l
 | [],h=>by simp at h
 | (x,y)::l,h=>by
  rw[HD]at h
  split at h
  ·rename_i e;cases h;rw[beq_iff_eq.mp e];exact .head _
  ·exact .tail _ (mem_of_lookup h)
theorem q0:Str.ofString "_wall" = ⟨⟨[95,119,97,108,108]⟩⟩:=rfl
theorem q1:Str.ofString "k" = ⟨⟨[107]⟩⟩:=rfl
theorem q2:Str.ofString "__name__" = ⟨⟨[95,95,110,97,109,101,95,95]⟩⟩:=rfl
theorem q3:Str.ofString "cpy313.heapq" = ⟨⟨[99,112,121,51,49,51,46,104,101,97,112,113]⟩⟩:=rfl
theorem q4:Str.ofString "heappop" = ⟨⟨[104,101,97,112,112,111,112]⟩⟩:=rfl
theorem q5:Str.ofString "heap" = ⟨⟨[104,101,97,112]⟩⟩:=rfl
theorem q6:Str.ofString "lastelt" = ⟨⟨[108,97,115,116,101,108,116]⟩⟩:=rfl
theorem q7:Str.ofString "pop" = ⟨⟨[112,111,112]⟩⟩:=rfl
theorem q8:Str.ofString "returnitem" = ⟨⟨[114,101,116,117,114,110,105,116,101,109]⟩⟩:=rfl
theorem q9:Str.ofString "_siftup" = ⟨⟨[95,115,105,102,116,117,112]⟩⟩:=rfl
theorem q10:Str.ofString "heapreplace" = ⟨⟨[104,101,97,112,114,101,112,108,97,99,101]⟩⟩:=rfl
theorem q11:Str.ofString "item" = ⟨⟨[105,116,101,109]⟩⟩:=rfl
theorem q12:Str.ofString "heapify" = ⟨⟨[104,101,97,112,105,102,121]⟩⟩:=rfl
theorem q13:Str.ofString "x" = ⟨⟨[120]⟩⟩:=rfl
theorem q14:Str.ofString "n" = ⟨⟨[110]⟩⟩:=rfl
theorem q15:Str.ofString "len" = ⟨⟨[108,101,110]⟩⟩:=rfl
theorem q16:Str.ofString "i" = ⟨⟨[105]⟩⟩:=rfl
theorem q17:Str.ofString "reversed" = ⟨⟨[114,101,118,101,114,115,101,100]⟩⟩:=rfl
theorem q18:Str.ofString "range" = ⟨⟨[114,97,110,103,101]⟩⟩:=rfl
theorem q19:Str.ofString "_siftdown" = ⟨⟨[95,115,105,102,116,100,111,119,110]⟩⟩:=rfl
theorem q20:Str.ofString "startpos" = ⟨⟨[115,116,97,114,116,112,111,115]⟩⟩:=rfl
theorem q21:Str.ofString "pos" = ⟨⟨[112,111,115]⟩⟩:=rfl
theorem q22:Str.ofString "newitem" = ⟨⟨[110,101,119,105,116,101,109]⟩⟩:=rfl
theorem q23:Str.ofString "parentpos" = ⟨⟨[112,97,114,101,110,116,112,111,115]⟩⟩:=rfl
theorem q24:Str.ofString "parent" = ⟨⟨[112,97,114,101,110,116]⟩⟩:=rfl
theorem q25:Str.ofString "endpos" = ⟨⟨[101,110,100,112,111,115]⟩⟩:=rfl
theorem q26:Str.ofString "childpos" = ⟨⟨[99,104,105,108,100,112,111,115]⟩⟩:=rfl
theorem q27:Str.ofString "rightpos" = ⟨⟨[114,105,103,104,116,112,111,115]⟩⟩:=rfl
theorem q28:Str.ofString "cpy313.netrc" = ⟨⟨[99,112,121,51,49,51,46,110,101,116,114,99]⟩⟩:=rfl
theorem q29:Str.ofString "_netrclex" = ⟨⟨[95,110,101,116,114,99,108,101,120]⟩⟩:=rfl
theorem q30:Str.ofString "__init__" = ⟨⟨[95,95,105,110,105,116,95,95]⟩⟩:=rfl
theorem q31:Str.ofString "self" = ⟨⟨[115,101,108,102]⟩⟩:=rfl
theorem q32:Str.ofString "fp" = ⟨⟨[102,112]⟩⟩:=rfl
theorem q33:Str.ofString "lineno" = ⟨⟨[108,105,110,101,110,111]⟩⟩:=rfl
theorem q34:Str.ofString "instream" = ⟨⟨[105,110,115,116,114,101,97,109]⟩⟩:=rfl
theorem q35:Str.ofString "whitespace" = ⟨⟨[119,104,105,116,101,115,112,97,99,101]⟩⟩:=rfl
theorem q36:Str.ofString "\n\t\u000d " = ⟨⟨[10,9,13,32]⟩⟩:=rfl
theorem q37:Str.ofString "pushback" = ⟨⟨[112,117,115,104,98,97,99,107]⟩⟩:=rfl
theorem q38:Str.ofString "_read_char" = ⟨⟨[95,114,101,97,100,95,99,104,97,114]⟩⟩:=rfl
theorem q39:Str.ofString "ch" = ⟨⟨[99,104]⟩⟩:=rfl
theorem q40:Str.ofString "read" = ⟨⟨[114,101,97,100]⟩⟩:=rfl
theorem q41:Str.ofString "\n" = ⟨⟨[10]⟩⟩:=rfl
theorem q42:Str.ofString "get_token" = ⟨⟨[103,101,116,95,116,111,107,101,110]⟩⟩:=rfl
theorem q43:Str.ofString "token" = ⟨⟨[116,111,107,101,110]⟩⟩:=rfl
theorem q44:Str.ofString "" = ⟨⟨[]⟩⟩:=rfl
theorem q45:Str.ofString "fiter" = ⟨⟨[102,105,116,101,114]⟩⟩:=rfl
theorem q46:Str.ofString "iter" = ⟨⟨[105,116,101,114]⟩⟩:=rfl
theorem q47:Str.ofString "\"" = ⟨⟨[34]⟩⟩:=rfl
theorem q48:Str.ofString "\\" = ⟨⟨[92]⟩⟩:=rfl
theorem q49:Str.ofString "push_token" = ⟨⟨[112,117,115,104,95,116,111,107,101,110]⟩⟩:=rfl
theorem q50:Str.ofString "append" = ⟨⟨[97,112,112,101,110,100]⟩⟩:=rfl
theorem q51:Str.ofString "cpy313.tabnanny" = ⟨⟨[99,112,121,51,49,51,46,116,97,98,110,97,110,110,121]⟩⟩:=rfl
theorem q52:Str.ofString "Whitespace" = ⟨⟨[87,104,105,116,101,115,112,97,99,101]⟩⟩:=rfl
theorem q53:Str.ofString "S" = ⟨⟨[83]⟩⟩:=rfl
theorem q54:Str.ofString "T" = ⟨⟨[84]⟩⟩:=rfl
theorem q55:Str.ofString " \t" = ⟨⟨[32,9]⟩⟩:=rfl
theorem q56:Str.ofString "ws" = ⟨⟨[119,115]⟩⟩:=rfl
theorem q57:Str.ofString "raw" = ⟨⟨[114,97,119]⟩⟩:=rfl
theorem q58:Str.ofString "count" = ⟨⟨[99,111,117,110,116]⟩⟩:=rfl
theorem q59:Str.ofString "b" = ⟨⟨[98]⟩⟩:=rfl
theorem q60:Str.ofString "nt" = ⟨⟨[110,116]⟩⟩:=rfl
theorem q61:Str.ofString "norm" = ⟨⟨[110,111,114,109]⟩⟩:=rfl
theorem q62:Str.ofString "tuple" = ⟨⟨[116,117,112,108,101]⟩⟩:=rfl
theorem q63:Str.ofString "is_simple" = ⟨⟨[105,115,95,115,105,109,112,108,101]⟩⟩:=rfl
theorem q64:Str.ofString "longest_run_of_spaces" = ⟨⟨[108,111,110,103,101,115,116,95,114,117,110,95,111,102,95,115,112,97,99,101,115]⟩⟩:=rfl
theorem q65:Str.ofString "trailing" = ⟨⟨[116,114,97,105,108,105,110,103]⟩⟩:=rfl
theorem q66:Str.ofString "max" = ⟨⟨[109,97,120]⟩⟩:=rfl
theorem q67:Str.ofString "indent_level" = ⟨⟨[105,110,100,101,110,116,95,108,101,118,101,108]⟩⟩:=rfl
theorem q68:Str.ofString "tabsize" = ⟨⟨[116,97,98,115,105,122,101]⟩⟩:=rfl
theorem q69:Str.ofString "il" = ⟨⟨[105,108]⟩⟩:=rfl
theorem q70:Str.ofString "equal" = ⟨⟨[101,113,117,97,108]⟩⟩:=rfl
theorem q71:Str.ofString "other" = ⟨⟨[111,116,104,101,114]⟩⟩:=rfl
theorem q72:Str.ofString "not_equal_witness" = ⟨⟨[110,111,116,95,101,113,117,97,108,95,119,105,116,110,101,115,115]⟩⟩:=rfl
theorem q73:Str.ofString "less" = ⟨⟨[108,101,115,115]⟩⟩:=rfl
theorem q74:Str.ofString "ts" = ⟨⟨[116,115]⟩⟩:=rfl
theorem q75:Str.ofString "not_less_witness" = ⟨⟨[110,111,116,95,108,101,115,115,95,119,105,116,110,101,115,115]⟩⟩:=rfl
theorem q76:Str.ofString "law_pg0253_01" = ⟨⟨[108,97,119,95,112,103,48,50,53,51,95,48,49]⟩⟩:=rfl
theorem q77:Str.ofString "_law_lexer" = ⟨⟨[95,108,97,119,95,108,101,120,101,114]⟩⟩:=rfl
theorem q78:Str.ofString "text" = ⟨⟨[116,101,120,116]⟩⟩:=rfl
theorem q79:Str.ofString "at" = ⟨⟨[97,116]⟩⟩:=rfl
theorem q80:Str.ofString "_law_read_on" = ⟨⟨[95,108,97,119,95,114,101,97,100,95,111,110]⟩⟩:=rfl
theorem q81:Str.ofString "size" = ⟨⟨[115,105,122,101]⟩⟩:=rfl
theorem q82:Str.ofString "sign" = ⟨⟨[115,105,103,110]⟩⟩:=rfl
theorem q83:Str.ofString "stream" = ⟨⟨[115,116,114,101,97,109]⟩⟩:=rfl
theorem q84:Str.ofString "_law_totals" = ⟨⟨[95,108,97,119,95,116,111,116,97,108,115]⟩⟩:=rfl
theorem q85:Str.ofString "script" = ⟨⟨[115,99,114,105,112,116]⟩⟩:=rfl
theorem q86:Str.ofString "firsts" = ⟨⟨[102,105,114,115,116,115]⟩⟩:=rfl
theorem q87:Str.ofString "totals" = ⟨⟨[116,111,116,97,108,115]⟩⟩:=rfl
theorem q88:Str.ofString "list" = ⟨⟨[108,105,115,116]⟩⟩:=rfl
theorem q89:Str.ofString "_law_spelled" = ⟨⟨[95,108,97,119,95,115,112,101,108,108,101,100]⟩⟩:=rfl
theorem q90:Str.ofString "word" = ⟨⟨[119,111,114,100]⟩⟩:=rfl
theorem q91:Str.ofString "way" = ⟨⟨[119,97,121]⟩⟩:=rfl
theorem q92:Str.ofString "escaped" = ⟨⟨[101,115,99,97,112,101,100]⟩⟩:=rfl
theorem q93:Str.ofString "join" = ⟨⟨[106,111,105,110]⟩⟩:=rfl
theorem q94:Str.ofString ".0" = ⟨⟨[46,48]⟩⟩:=rfl
theorem q95:Str.ofString "fast" = ⟨⟨[102,97,115,116]⟩⟩:=rfl
theorem q96:Str.ofString "_law_columns" = ⟨⟨[95,108,97,119,95,99,111,108,117,109,110,115]⟩⟩:=rfl
theorem q97:Str.ofString "lead" = ⟨⟨[108,101,97,100]⟩⟩:=rfl
theorem q98:Str.ofString "top" = ⟨⟨[116,111,112]⟩⟩:=rfl
theorem q99:Str.ofString "row" = ⟨⟨[114,111,119]⟩⟩:=rfl
theorem CQ:Str.ofString "column" = ⟨⟨[99,111,108,117,109,110]⟩⟩:=rfl
theorem CR:Str.ofString "\t" = ⟨⟨[9]⟩⟩:=rfl
theorem CT:Str.ofString "_law_less" = ⟨⟨[95,108,97,119,95,108,101,115,115]⟩⟩:=rfl
theorem CU:Str.ofString "one" = ⟨⟨[111,110,101]⟩⟩:=rfl
theorem CV:Str.ofString "a" = ⟨⟨[97]⟩⟩:=rfl
theorem CW:Str.ofString "zip" = ⟨⟨[122,105,112]⟩⟩:=rfl
theorem CX:Str.ofString "_law_outline" = ⟨⟨[95,108,97,119,95,111,117,116,108,105,110,101]⟩⟩:=rfl
theorem CY:Str.ofString "marks" = ⟨⟨[109,97,114,107,115]⟩⟩:=rfl
theorem CZ:Str.ofString "owners" = ⟨⟨[111,119,110,101,114,115]⟩⟩:=rfl
theorem Dc:Str.ofString "pile" = ⟨⟨[112,105,108,101]⟩⟩:=rfl
theorem Dd:Str.ofString "_law_key" = ⟨⟨[95,108,97,119,95,107,101,121]⟩⟩:=rfl
theorem De:Str.ofString "need" = ⟨⟨[110,101,101,100]⟩⟩:=rfl
theorem Df:Str.ofString "net" = ⟨⟨[110,101,116]⟩⟩:=rfl
theorem Dg:Str.ofString "_law_merged" = ⟨⟨[95,108,97,119,95,109,101,114,103,101,100]⟩⟩:=rfl
theorem Dh:Str.ofString "lines" = ⟨⟨[108,105,110,101,115]⟩⟩:=rfl
theorem Di:Str.ofString "block" = ⟨⟨[98,108,111,99,107]⟩⟩:=rfl
theorem Dj:Str.ofString "key" = ⟨⟨[107,101,121]⟩⟩:=rfl
theorem Dk:Str.ofString "fresh" = ⟨⟨[102,114,101,115,104]⟩⟩:=rfl
theorem Dl:Str.ofString "_law_grown" = ⟨⟨[95,108,97,119,95,103,114,111,119,110]⟩⟩:=rfl
theorem Dm:Str.ofString "gain" = ⟨⟨[103,97,105,110]⟩⟩:=rfl
theorem Dn:Str.ofString "below" = ⟨⟨[98,101,108,111,119]⟩⟩:=rfl
theorem Dp:Str.ofString "places" = ⟨⟨[112,108,97,99,101,115]⟩⟩:=rfl
theorem Dq:Str.ofString "taken" = ⟨⟨[116,97,107,101,110]⟩⟩:=rfl
theorem Dr:Str.ofString "more" = ⟨⟨[109,111,114,101]⟩⟩:=rfl
theorem Ds:Str.ofString "plus" = ⟨⟨[112,108,117,115]⟩⟩:=rfl
theorem Dt:Str.ofString "others" = ⟨⟨[111,116,104,101,114,115]⟩⟩:=rfl
theorem Du:Str.ofString "line" = ⟨⟨[108,105,110,101]⟩⟩:=rfl
theorem Dv:Str.ofString "_law_steps" = ⟨⟨[95,108,97,119,95,115,116,101,112,115]⟩⟩:=rfl
theorem Dw:Str.ofString "pairs" = ⟨⟨[112,97,105,114,115]⟩⟩:=rfl
theorem Dx:Str.ofString "steps" = ⟨⟨[115,116,101,112,115]⟩⟩:=rfl
theorem Dy:Str.ofString "purse" = ⟨⟨[112,117,114,115,101]⟩⟩:=rfl
theorem Dz:Str.ofString "gained" = ⟨⟨[103,97,105,110,101,100]⟩⟩:=rfl
theorem DA:Str.ofString "_law_sets" = ⟨⟨[95,108,97,119,95,115,101,116,115]⟩⟩:=rfl
theorem DB:Str.ofString "gains" = ⟨⟨[103,97,105,110,115]⟩⟩:=rfl
theorem DD:Str.ofString "sums" = ⟨⟨[115,117,109,115]⟩⟩:=rfl
theorem DE:Str.ofString "purses" = ⟨⟨[112,117,114,115,101,115]⟩⟩:=rfl
theorem DF:Str.ofString "mask" = ⟨⟨[109,97,115,107]⟩⟩:=rfl
theorem DG:Str.ofString "bit_length" = ⟨⟨[98,105,116,95,108,101,110,103,116,104]⟩⟩:=rfl
theorem DH:Str.ofString "ways" = ⟨⟨[119,97,121,115]⟩⟩:=rfl
theorem DI:Str.ofString "min" = ⟨⟨[109,105,110]⟩⟩:=rfl
theorem DJ:Str.ofString "sorted" = ⟨⟨[115,111,114,116,101,100]⟩⟩:=rfl
theorem DK:Str.ofString "m" = ⟨⟨[109]⟩⟩:=rfl
theorem DL:Str.ofString "law" = ⟨⟨[108,97,119]⟩⟩:=rfl
theorem DM:Str.ofString "leads" = ⟨⟨[108,101,97,100,115]⟩⟩:=rfl
theorem DN:Str.ofString "piece" = ⟨⟨[112,105,101,99,101]⟩⟩:=rfl
theorem DO:Str.ofString " " = ⟨⟨[32]⟩⟩:=rfl
theorem DP:Str.ofString "drawn" = ⟨⟨[100,114,97,119,110]⟩⟩:=rfl
theorem DQ:Str.ofString "total" = ⟨⟨[116,111,116,97,108]⟩⟩:=rfl
theorem DR:Str.ofString "words" = ⟨⟨[119,111,114,100,115]⟩⟩:=rfl
theorem DS:Str.ofString "abcdef" = ⟨⟨[97,98,99,100,101,102]⟩⟩:=rfl
theorem DT:Str.ofString "str" = ⟨⟨[115,116,114]⟩⟩:=rfl
theorem DU:Str.ofString "machine" = ⟨⟨[109,97,99,104,105,110,101]⟩⟩:=rfl
theorem DV:Str.ofString "told" = ⟨⟨[116,111,108,100]⟩⟩:=rfl
theorem DW:Str.ofString "mark" = ⟨⟨[109,97,114,107]⟩⟩:=rfl
theorem DX:Str.ofString "int" = ⟨⟨[105,110,116]⟩⟩:=rfl
theorem DY:Str.ofString "columns" = ⟨⟨[99,111,108,117,109,110,115]⟩⟩:=rfl
theorem DZ:Str.ofString "due" = ⟨⟨[100,117,101]⟩⟩:=rfl
theorem Ea:Str.ofString "held" = ⟨⟨[104,101,108,100]⟩⟩:=rfl
theorem Eb:Str.ofString "j" = ⟨⟨[106]⟩⟩:=rfl
theorem Ec:Str.ofString "whole" = ⟨⟨[119,104,111,108,101]⟩⟩:=rfl
theorem Ed:Str.ofString "order" = ⟨⟨[111,114,100,101,114]⟩⟩:=rfl
theorem Ee:Str.ofString "hand" = ⟨⟨[104,97,110,100]⟩⟩:=rfl
theorem Ef:Str.ofString "index" = ⟨⟨[105,110,100,101,120]⟩⟩:=rfl
theorem Eg:Str.ofString "sum" = ⟨⟨[115,117,109]⟩⟩:=rfl
theorem Eh:Str.ofString "least" = ⟨⟨[108,101,97,115,116]⟩⟩:=rfl
theorem Ei:Str.ofString "sets" = ⟨⟨[115,101,116,115]⟩⟩:=rfl
theorem Ej:Str.ofString "/claim/cut.py" = ⟨⟨[47,99,108,97,105,109,47,99,117,116,46,112,121]⟩⟩:=rfl
set_option maxHeartbeats 0 in
noncomputable abbrev pw2:Program:=by
 refine(?f:(x:Program)->PySem.Challenge.pw_pg0253_01=x->Program) ?x ?h
 case f=>exact λ x Y=>x
 case h=>
  delta PySem.Challenge.pw_pg0253_01
  dsimp only[q0,q1,q2,q3,q4,q5,q6,q7,q8,q9,q10,q11,q12,q13,q14,q15,q16,q17,q18,q19,q20,q21,q22,q23,q24,q25,q26,q27,q28,q29,q30,q31,q32,q33,q34,q35,q36,q37,q38,q39,q40,q41,q42,q43,q44,q45,q46,q47,q48,q49,q50,q51,q52,q53,q54,q55,q56,q57,q58,q59,q60,q61,q62,q63,q64,q65,q66,q67,q68,q69,q70,q71,q72,q73,q74,q75,q76,q77,q78,q79,q80,q81,q82,q83,q84,q85,q86,q87,q88,q89,q90,q91,q92,q93,q94,q95,q96,q97,q98,q99,CQ,CR,CT,CU,CV,CW,CX,CY,CZ,Dc,Dd,De,Df,Dg,Dh,Di,Dj,Dk,Dl,Dm,Dn,Dp,Dq,Dr,Ds,Dt,Du,Dv,Dw,Dx,Dy,Dz,DA,DB,DD,DE,DF,DG,DH,DI,DJ,DK,DL,DM,DN,DO,DP,DQ,DR,DS,DT,DU,DV,DW,DX,DY,DZ,Ea,Eb,Ec,Ed,Ee,Ef,Eg,Eh,Ei,Ej]
  exact rfl
set_option maxHeartbeats 0 in
theorem Bh:PySem.Challenge.pw_pg0253_01=pw2:=by kernel_rfl
noncomputable def C4(i:Nat):List Stmt:=match pw2.main.body[i]? with
 | some (.FunctionDef _ _ b _ _ _ _ _ _ _)=>b
 | _=>[]
noncomputable def H8(i:Nat):Scope:=match pw2.main.body[i]? with
 | some (.FunctionDef _ _ _ _ _ _ sc _ _ _)=>sc
 | _=>{ kind:=.module,names:=[],isGenerator:=false,isCoroutine:=false }
noncomputable def T9(l:List Stmt)(j:Nat):Stmt:=match l[j]? with
 | some s=>s
 | none=>.Pass ⟨0,0,0,0⟩
noncomputable def mAt(i j:Nat):Option Stmt:=match pw2.main.body[i]? with
 | some (.ClassDef _ _ _ b _ _ _ _ _ _ _)=>b[j]?
 | _=>none
noncomputable def N0(i j:Nat):List Stmt:=match mAt i j with
 | some (.FunctionDef _ _ b _ _ _ _ _ _ _)=>b
 | _=>[]
noncomputable def P1(i j:Nat):Scope:=match mAt i j with
 | some (.FunctionDef _ _ _ _ _ _ sc _ _ _)=>sc
 | _=>{ kind:=.module,names:=[],isGenerator:=false,isCoroutine:=false }
noncomputable def mj(h:Heap):Frag:=(List.range 241).filterMap λ a=>match h.get? a with
 | some o=>if o.cls==.none && !(Nat.beq a cStatics)then none else some (a,o)
 | none=>none
set_option tactic.hygienic true in
theorem tD{a:Addr}{o:Obj}(e:(mj h).lookup a=some o):h.get? a=some o/\(o.cls≠.none\/a=cStatics):=by
 have hm:=Internal.mem_of_lookup e
 unfold mj at hm
 rw[List.mem_filterMap]at hm
 obtain⟨b,_,hb⟩:=hm
 split at hb
 ·rename_i o' ho
  split at hb
  ·cases hb
  ·rename_i hc
   cases hb
   refine⟨ho,?_⟩
   by_cases q:o.cls=Value.none
   ·right
    rw[q]at hc
    simp only[beq_self_eq_true,MT,HJ,Bool.not_eq_false]at hc
    exact Mm hc
   ·exact .inl q
 ·cases hb
abbrev FnP:=Arguments×FuncBody×Scope×List (Str×Addr)×(Addr×Addr)×(Value×Value)×Bool
noncomputable def N4(K:Frag)(a:Addr):Option FnP:=match K.lookup a with
 | some o=>(match o.data with
  | .func fd=>some (fd.params,fd.body,fd.scope,fd.closure,(fd.globals,fd.builtins),(fd.defaults,fd.kwdefaults),codeIn K fd.code fd.qualname)
  | _=>none)
 | none=>none
noncomputable def H4(i:Nat):Arguments:=match pw2.main.body[i]? with
 | some (.FunctionDef _ ps _ _ _ _ _ _ _ _)=>ps
 | _=>default
noncomputable def N9(i j:Nat):Arguments:=match mAt i j with
 | some (.FunctionDef _ ps _ _ _ _ _ _ _ _)=>ps
 | _=>default
noncomputable def O2(ps:Arguments)(b:List Stmt)(sc:Scope):Option FnP:=some (ps,.stmts b,sc,[],(mainGlobals,builtinsNs),(.none,.none),true)
noncomputable def rT(K:Frag):List (Option FnP):=[N4 K 28,N4 K 35,N4 K 42,N4 K 49,N4 K 56,N4 K 171,N4 K 178,N4 K 183,N4 K 190,N4 K 195,N4 K 202,N4 K 209,N4 K 216,N4 K 223,N4 K 230,N4 K 235,N4 K 240,N4 K 70,N4 K 77,N4 K 84,N4 K 91,N4 K 115,N4 K 122,N4 K 129,N4 K 150]
noncomputable def rU:List (Option FnP):=[O2 (H4 2) (C4 2) (H8 2),O2 (H4 3) (C4 3) (H8 3),O2 (H4 4) (C4 4) (H8 4),O2 (H4 5) (C4 5) (H8 5),O2 (H4 6) (C4 6) (H8 6),O2 (H4 12) (C4 12) (H8 12),O2 (H4 13) (C4 13) (H8 13),O2 (H4 14) (C4 14) (H8 14),O2 (H4 15) (C4 15) (H8 15),O2 (H4 16) (C4 16) (H8 16),O2 (H4 17) (C4 17) (H8 17),O2 (H4 18) (C4 18) (H8 18),O2 (H4 19) (C4 19) (H8 19),O2 (H4 20) (C4 20) (H8 20),O2 (H4 21) (C4 21) (H8 21),O2 (H4 22) (C4 22) (H8 22),O2 (H4 23) (C4 23) (H8 23),O2 (N9 8 0) (N0 8 0) (P1 8 0),O2 (N9 8 1) (N0 8 1) (P1 8 1),O2 (N9 8 2) (N0 8 2) (P1 8 2),O2 (N9 8 3) (N0 8 3) (P1 8 3),O2 (N9 10 1) (N0 10 1) (P1 10 1),O2 (N9 10 2) (N0 10 2) (P1 10 2),O2 (N9 10 3) (N0 10 3) (P1 10 3),O2 (N9 10 6) (N0 10 6) (P1 10 6)]
noncomputable def zz(K:Frag):List (Option (Option Value)):=[nsIn K mainGlobals (⟨⟨[104,101,97,112,112,111,112]⟩⟩),nsIn K mainGlobals (⟨⟨[104,101,97,112,114,101,112,108,97,99,101]⟩⟩),nsIn K mainGlobals (⟨⟨[104,101,97,112,105,102,121]⟩⟩),nsIn K mainGlobals (⟨⟨[95,115,105,102,116,100,111,119,110]⟩⟩),nsIn K mainGlobals (⟨⟨[95,115,105,102,116,117,112]⟩⟩),nsIn K mainGlobals (⟨⟨[95,110,101,116,114,99,108,101,120]⟩⟩),nsIn K mainGlobals (⟨⟨[87,104,105,116,101,115,112,97,99,101]⟩⟩),nsIn K mainGlobals (⟨⟨[95,108,97,119,95,108,101,120,101,114]⟩⟩),nsIn K mainGlobals (⟨⟨[95,108,97,119,95,116,111,116,97,108,115]⟩⟩),nsIn K mainGlobals (⟨⟨[95,108,97,119,95,115,112,101,108,108,101,100]⟩⟩),nsIn K mainGlobals (⟨⟨[95,108,97,119,95,99,111,108,117,109,110,115]⟩⟩),nsIn K mainGlobals (⟨⟨[95,108,97,119,95,108,101,115,115]⟩⟩),nsIn K mainGlobals (⟨⟨[95,108,97,119,95,111,117,116,108,105,110,101]⟩⟩),nsIn K mainGlobals (⟨⟨[95,108,97,119,95,107,101,121]⟩⟩),nsIn K mainGlobals (⟨⟨[95,108,97,119,95,109,101,114,103,101,100]⟩⟩),nsIn K mainGlobals (⟨⟨[95,108,97,119,95,103,114,111,119,110]⟩⟩),nsIn K mainGlobals (⟨⟨[95,108,97,119,95,115,116,101,112,115]⟩⟩),nsIn K mainGlobals (⟨⟨[95,108,97,119,95,115,101,116,115]⟩⟩),nsIn K mainGlobals (⟨⟨[108,97,119]⟩⟩),nsIn K mainGlobals (⟨⟨[108,101,110]⟩⟩),nsIn K mainGlobals (⟨⟨[109,97,120]⟩⟩),nsIn K mainGlobals (⟨⟨[109,105,110]⟩⟩),nsIn K mainGlobals (⟨⟨[115,117,109]⟩⟩),nsIn K mainGlobals (⟨⟨[108,105,115,116]⟩⟩),nsIn K mainGlobals (⟨⟨[116,117,112,108,101]⟩⟩),nsIn K mainGlobals (⟨⟨[115,116,114]⟩⟩),nsIn K mainGlobals (⟨⟨[105,110,116]⟩⟩),nsIn K mainGlobals (⟨⟨[115,111,114,116,101,100]⟩⟩),nsIn K mainGlobals (⟨⟨[114,97,110,103,101]⟩⟩),nsIn K mainGlobals (⟨⟨[114,101,118,101,114,115,101,100]⟩⟩),nsIn K mainGlobals (⟨⟨[122,105,112]⟩⟩),nsIn K mainGlobals (⟨⟨[105,116,101,114]⟩⟩),nsIn K builtinsNs (⟨⟨[108,101,110]⟩⟩)]
noncomputable def zA:List (Option (Option Value)):=[some (some (.ref 28)),some (some (.ref 35)),some (some (.ref 42)),some (some (.ref 49)),some (some (.ref 56)),some (some (.ref 94)),some (some (.ref 160)),some (some (.ref 171)),some (some (.ref 178)),some (some (.ref 183)),some (some (.ref 190)),some (some (.ref 195)),some (some (.ref 202)),some (some (.ref 209)),some (some (.ref 216)),some (some (.ref 223)),some (some (.ref 230)),some (some (.ref 235)),some (some (.ref 240)),some none,some none,some none,some none,some none,some none,some none,some none,some none,some none,some none,some none,some none,some (some (.builtin "len"))]
noncomputable def wD(K:Frag):List (Option (Option Value)):=[findIn K (.ref 94) "__getattribute__",findIn K (.ref 94) "__setattr__",findIn K (.ref 94) "__getattr__",findIn K (.ref 94) "__init__",takerIn K 94 (atN 0),takerIn K 94 (atN 1),takerIn K 94 (atN 2),takerIn K 94 (atN 3),takerIn K 94 (atN 4),takerIn K 94 (atN 5),takerIn K 94 (atN 6),takerIn K 94 (atN 7),takerIn K 94 (atN 8),findIn K (.ref 160) "__getattribute__",findIn K (.ref 160) "__setattr__",findIn K (.ref 160) "__getattr__",findIn K (.ref 160) "__init__",takerIn K 160 (atN 0),takerIn K 160 (atN 1),takerIn K 160 (atN 2),takerIn K 160 (atN 3),takerIn K 160 (atN 4),takerIn K 160 (atN 5),takerIn K 160 (atN 6),takerIn K 160 (atN 7),takerIn K 160 (atN 8),findIn K (.ref 94) (⟨⟨[95,114,101,97,100,95,99,104,97,114]⟩⟩),findIn K (.ref 94) (⟨⟨[103,101,116,95,116,111,107,101,110]⟩⟩),findIn K (.ref 94) (⟨⟨[112,117,115,104,95,116,111,107,101,110]⟩⟩),findIn K (.ref 160) (⟨⟨[108,111,110,103,101,115,116,95,114,117,110,95,111,102,95,115,112,97,99,101,115]⟩⟩),findIn K (.ref 160) (⟨⟨[105,110,100,101,110,116,95,108,101,118,101,108]⟩⟩),findIn K (.ref 160) (⟨⟨[108,101,115,115]⟩⟩)]
noncomputable def wF:List (Option (Option Value)):=[some (some (.builtin "object.__getattribute__")),some (some (.builtin "object.__setattr__")),some none,some (some (.ref 70)),some none,some none,some none,some none,some none,some none,some none,some none,some none,some (some (.builtin "object.__getattribute__")),some (some (.builtin "object.__setattr__")),some none,some (some (.ref 115)),some none,some none,some none,some none,some none,some none,some none,some none,some none,some (some (.ref 77)),some (some (.ref 84)),some (some (.ref 91)),some (some (.ref 122)),some (some (.ref 129)),some (some (.ref 150))]
noncomputable def wG(K:Frag):List Bool:=[plainOver K 94,hasDictIn K 94,keepIn K (.ref 94),makesIn K 94,(findIn K (.ref 94) (atN 0)).any (λ a=>noGet K a),(findIn K (.ref 94) (atN 1)).any (λ a=>noGet K a),(findIn K (.ref 94) (atN 2)).any (λ a=>noGet K a),(findIn K (.ref 94) (atN 3)).any (λ a=>noGet K a),(findIn K (.ref 94) (atN 4)).any (λ a=>noGet K a),(findIn K (.ref 94) (atN 5)).any (λ a=>noGet K a),(findIn K (.ref 94) (atN 6)).any (λ a=>noGet K a),(findIn K (.ref 94) (atN 7)).any (λ a=>noGet K a),(findIn K (.ref 94) (atN 8)).any (λ a=>noGet K a),plainOver K 160,hasDictIn K 160,keepIn K (.ref 160),makesIn K 160,(findIn K (.ref 160) (atN 0)).any (λ a=>noGet K a),(findIn K (.ref 160) (atN 1)).any (λ a=>noGet K a),(findIn K (.ref 160) (atN 2)).any (λ a=>noGet K a),(findIn K (.ref 160) (atN 3)).any (λ a=>noGet K a),(findIn K (.ref 160) (atN 4)).any (λ a=>noGet K a),(findIn K (.ref 160) (atN 5)).any (λ a=>noGet K a),(findIn K (.ref 160) (atN 6)).any (λ a=>noGet K a),(findIn K (.ref 160) (atN 7)).any (λ a=>noGet K a),(findIn K (.ref 160) (atN 8)).any (λ a=>noGet K a),readsIn K 160 (.type "type")]
noncomputable def wH:List Bool:=[true,true,true,true,true,true,true,true,true,true,true,true,true,true,true,true,true,true,true,true,true,true,true,true,true,true,true]
noncomputable def Bi(K:Frag):List (Option Value):=[typeIn K (.ref 70),typeIn K (.ref 115),typeIn K (.ref 77),typeIn K (.ref 84),typeIn K (.ref 91),typeIn K (.ref 122),typeIn K (.ref 129),typeIn K (.ref 150)]
noncomputable def Bj:List (Option Value):=[some (.type "function"),some (.type "function"),some (.type "function"),some (.type "function"),some (.type "function"),some (.type "function"),some (.type "function"),some (.type "function")]
noncomputable def Bk(K:Frag):List (Option (List Nat)):=[findCls K (.ref 160) (.type "type") (⟨⟨[83]⟩⟩),findCls K (.ref 160) (.type "type") (⟨⟨[84]⟩⟩)].map λ r=>match r with
 | some (.val (.str y _))=>some y.cps.toList
 | _=>none
noncomputable def Bl:List (Option (List Nat)):=[some [32],some [9]]
abbrev ml:=List (Option FnP)×List (Option (Option Value))×List (Option (Option Value))×List Bool×List (Option Value)×List (Option (List Nat))
noncomputable def Bm(K:Frag):ml:=(rT K,zz K,wD K,wG K,Bi K,Bk K)
noncomputable def Bn:ml:=(rU,zA,wF,wH,Bj,Bl)
def Bo(h:Heap):Prop:=∃K:Frag,(∀a o,K.lookup a=some o->h.get? a=some o/\(o.cls≠.none\/a=cStatics))/\Bm K=Bn
noncomputable def jD:Hook where
 α:=ml
 obs:=λ s=>Bm (mj s.heap)
 val:=λ Y=>Bn
 says:=λ Y h=>Bo h
 of:=λ w s e=>⟨mj s.heap,λ a o q=>tD q,e⟩
 keeps:=λ w h h' ⟨K,hk,e⟩ k=>⟨K,λ a o q=>⟨k _ _ (hk a o q).1,(hk a o q).2⟩,e⟩
noncomputable abbrev wI:OpenLaw:={ prog:=pw2,name:=(PySem.Str.ofString "law"),about:=[(PySem.Str.ofString "heapreplace")],foot:=12,most:=some 63,bound:=none,writes:=false }
noncomputable def Bp:List Stmt:=match pw2.main.body[12]?,pw2.main.body[23]? with
 | some a,some b=>[a,b]
 | _,_=>[]
noncomputable def vw:Program:={ pw2 with main:={ pw2.main with body:=Bp } }
noncomputable abbrev lss:List Str:=[Str.ofString "_wall",Str.ofString "heappop",Str.ofString "heapreplace",Str.ofString "heapify",Str.ofString "_siftdown",Str.ofString "_siftup",Str.ofString "_netrclex",Str.ofString "Whitespace",Str.ofString "_law_totals",Str.ofString "_law_spelled",Str.ofString "_law_columns",Str.ofString "_law_less",Str.ofString "_law_outline",Str.ofString "_law_key",Str.ofString "_law_merged",Str.ofString "_law_grown",Str.ofString "_law_steps",Str.ofString "_law_sets"]
noncomputable def Xt2(s:Shared):Bool:=xlAt vw [] s&&recOk (RowW.records (OpenRow.toRowW wI.row)) s
noncomputable def LP(w:World):Prop:=(openEnds treeTable pw2 w 2956).map (λ s=>(openSeen vw lss (importedModules pw2.main.body) Xt2 true s,jD.obs s))=some (openGood vw lss,jD.val w)
set_option maxHeartbeats 0 in
theorem lf0(w:World):LP (w.withFollow "special-get-raises" false):=by
 delta LP
 kernel_rfl
set_option maxHeartbeats 0 in
theorem lf1(w:World):LP (w.withFollow "special-get-raises" true):=by
 delta LP
 kernel_rfl
theorem lft:LeftO pw2 vw lss Xt2 jD.obs jD.val 2956:=byRow2 "special-get-raises" lf0 lf1
noncomputable abbrev wJ:Str:=⟨⟨[95,108,97,119,95,108,101,120,101,114]⟩⟩
noncomputable abbrev wK:Str:=⟨⟨[108,97,119]⟩⟩
noncomputable abbrev Bq:Prop:=∀{q:Program}{loose:List Str}{XP:(Str->Option Value)->Heap->Prop}{d:DefRec}{kwd:List (Str×Expr)}{l:OpenLaw},l.most=some 63->l.bound=none->d.name=wK->((recsOf q).any λ d=>d.name==wJ)=true->
  WalkO q loose XP jD.says l.row.toRowW d kwd λ f vs=>PySem.call f vs
set_option maxHeartbeats 0 in
theorem zB(h:Bq):wI.Holds:=by
 delta wI pw2
 w_on
 o_law
 refine holds_open (q:=vw) (loose:=lss) (Xt:=Xt2) (XP:=XL vw []) (Yf:=Hook.obs jD) (Ya:=Hook.val jD) (YP:=Hook.says jD) (N:=2956) lft (Hook.of jD) (Hook.keeps jD) (λ s e=>xl_of s (JI.mp e).1) XL.keeps (by rfl) (by rfl) (by rfl) (λ s e=>recFacts_of (JI.mp e).2) (by rfl) (by assumption) (by decide +kernel) ⟨rfl,rfl,rfl,rfl,rfl,by decide +kernel⟩ ?hw ?hc
 case hw=>w_witness2
 exact h rfl rfl rfl (by kernel_rfl)
theorem bB{OT:Mp}{p:Addr×Addr}{o:I3}(r:bf W h O p o)(S:Sub h O h' OT)
  (h1:h'.get? p.1=h.get? p.1)(h2:h'.get? p.2=h.get? p.2):bf W h' OT p o:=by
 induction r with
 | list a b=>exact .list (h1.trans a) (VRs.mono S b)
 | inst c1 c2 a b d=>exact .inst c1 c2 (h1.trans a) (h2.trans b) (EsR.mono S d)
 | raw a b c=>exact .raw (h1.trans a) b c
 | cell a b c=>exact .cell (h1.trans a) b (VR.mono S c)
 | flds a b=>exact .flds (h1.trans a) (VRs.mono S b)
theorem Rep.toks(R:Rep W V O s)(d:Drawn)(t:Nat):Rep W V O { s with toks:=t,drawn:=d }:=
 ⟨R.len,R.obj,R.nd,R.new,R.old,R.gens,R.os,R.stat⟩
theorem jE{o:Obj}:Sub h O (h.push o) O:=⟨λ Y Y Y t=>t.push o,[],by simp⟩
theorem bf.grow{OT:Mp}{p:Addr×Addr}{o:I3}(r:bf W h O p o)(S:Sub h O h' OT)(hk:∀b o,h.get? b=some o->h'.get? b=some o):bf W h' OT p o:=by
 induction r with
 | list a b=>exact .list (hk _ _ a) (VRs.mono S b)
 | inst c1 c2 a b d=>exact .inst c1 c2 (hk _ _ a) (hk _ _ b) (EsR.mono S d)
 | raw a b c=>exact .raw (hk _ _ a) b c
 | cell a b c=>exact .cell (hk _ _ a) b (VR.mono S c)
 | flds a b=>exact .flds (hk _ _ a) (VRs.mono S b)
theorem Rep.grow(R:Rep W V O s){t:Nat}(hk:∀b o,s.heap.get? b=some o->h'.get? b=some o):Rep W V O { s with heap:=h',toks:=t }/\Sub s.heap O h' O:=
 have S:Sub s.heap O h' O:=⟨λ a vs n ht=>hk _ _ ht,[],(FL _).symm⟩
 ⟨⟨R.len,λ i x p hx hp=>(R.obj i x p hx hp).grow S hk,R.nd,R.new,R.old.step_keeps hk,R.gens,R.os,rR R.stat hk⟩,S⟩
theorem Rep.push(R:Rep W V O s)(o:Obj):Rep W V O { s with heap:=s.heap.push o }:=(R.grow (t:=s.toks) λ Y Y e=>FH _ e).1
theorem eU{X:List Addr}(o:Obj):E8 W X O h O (h.push o):=
 ⟨λ Y Y e Y Y Y=>FH _ e,⟨[],by simp,by simp⟩,λ Y o' e=>⟨o',FH _ e⟩⟩
theorem Rep.get(R:Rep W V O s){o:I3}(hi:V[i]?=some o):∃p,O[i]?=some p/\bf W s.heap O p o:=by
 have hl:i<O.length:=by rw[R.len];exact(FC.mp hi).1
 exact⟨O[i],by simp[hl],R.obj i o _ hi (by simp[hl])⟩
def Ek(W:Wld)(h:Heap)(O:Mp)(p:Addr×Addr):I3->Prop
 | .list l=>p.2=p.1/\∃n vs,IsL h p.1 vs.toArray n/\VRs W.h0 h O vs l
 | .inst c m=>∃n es,ph W c/\dH m/\h.get? p.1=some ⟨.ref c,some p.2,.plain,#[]⟩/\h.get? p.2=some (dictOf es n)/\EsR W.h0 h O es m
 | .raw a o=>p=(a,a)/\h.get? a=some o/\o.data≠.plain/\o.cls≠.type "tuple"
 | .cell a x=>p=(a,a)/\∃o v,h.get? a=some o/\o.data=.cell (some v)/\VR W.h0 h O v x
 | .flds T l=>p.2=p.1/\∃vs,h.get? p.1=some { cls:=.type T,data:=.fields vs.toArray }/\VRs W.h0 h O vs l
theorem bf.inv{p:Addr×Addr}{o:I3}(r:bf W h O p o):Ek W h O p o:=by
 induction r with
 | list a b=>exact⟨rfl,_,_,a,b⟩
 | inst a b c d e=>exact⟨_,_,a,b,c,d,e⟩
 | raw a b c=>exact⟨rfl,a,b,c⟩
 | cell a b c=>exact⟨rfl,_,_,a,b,c⟩
 | flds a b=>exact⟨rfl,_,a,b⟩
noncomputable def El(o:I3):Option (List AV):=match o with
 | .list l=>some l
 | _=>none
noncomputable def lst(V:Sto)(i:Nat):Option (List AV):=V[i]?.bind El
theorem F6(h:lst V i=some l):V[i]?=some (.list l):=by
 refine xE (GA.mp h) λ o Z=>(λ e g=>?_) Z.1 Z.2;clear Z
 induction o with
 | list l'=>exact e.trans (congrArg (some <| I3.list ·) (Ft g))
 | _=>exact G9 g
theorem J1(h:V[i]?=some (.list l)):lst V i=some l:=by unfold lst;rw[h];rfl
theorem Rep.list(R:Rep W V O s){a d:Addr}(hi:lst V i=some l)(hp:O[i]?=some (a,d)):
  d=a/\∃n vs,IsL s.heap a vs.toArray n/\VRs W.h0 s.heap O vs l:=(R.obj i _ _ (F6 hi) hp).inv
theorem K9:h.get? h.objs.size=none:=by
 cases q:h.get? h.objs.size with
 | none=>rfl
 | some o=>exact absurd (IF q) (Iy _)
theorem Rep.notM(R:Rep W V O s){a:Addr}(ha:s.heap.get? a=none):a∉O.map (·.2):=λ hm=>by
 obtain⟨p,hp,rfl⟩:=FN.mp hm
 obtain⟨o,ho,_⟩:=R.own hp
 exact G9 (ha.symm.trans ho)
theorem Rep.not0(R:Rep W V O s){a:Addr}(ha:s.heap.get? a=none):W.h0.get? a=none:=by
 cases q:W.h0.get? a with
 | none=>rfl
 | some o=>obtain⟨o',e⟩:=R.old.there _ _ q;exact G9 (ha.symm.trans e)
theorem nG{l:List α}{a x:α}(h:(l++[a])[i]?=some x):l[i]?=some x\/(i=l.length/\x=a):=by
 rcases IH i l.length with q|q
 ·rw[Fs q]at h;exact .inl h
 ·rw[Ga q,List.getElem?_singleton]at h
  by_cases e:i-l.length=0
  ·rw[if_pos e]at h
   exact .inr ⟨Gv (LR.mp e) q,(Ft h).symm⟩
  ·rw[if_neg e]at h;exact G9 h
theorem B3{l:List α}{x:α}(h:l[i]?=some x):i<l.length:=(FC.mp h).1
theorem Rep.add(R:Rep W V O s){p:Addr×Addr}{o:I3}(ho:Sub s.heap O s.heap (O++[p])->bf W s.heap (O++[p]) p o)(na:p.2∉O.map (·.2))(h0:W.h0.get? p.2=none):
  Rep W (V++[o]) (O++[p]) s:=by
 have S:Sub s.heap O s.heap (O++[p]):=⟨λ Y Y Y t=>t,_,rfl⟩
 refine⟨by rw[Fc,Fc,R.len];rfl,λ i x q hx hq=>?_,?_,λ q hq=>?_,R.old,R.gens,R.os,R.stat⟩
 ·rcases nG hx with h1|⟨h1,h2⟩ <;> rcases nG hq with h3|⟨h3,h4⟩
  ·exact(R.obj i x q h1 h3).grow S λ Y Y e=>e
  ·exact absurd (B3 h1) (by rw[h3,R.len];exact Iy _)
  ·exact absurd (B3 h3) (by rw[h1,R.len];exact Iy _)
  ·rw[h2,h4];exact ho S
 ·rw[FG,Ia]
  refine⟨R.nd,Jn ..,λ b hb c hc e=>na ?_⟩
  obtain rfl:=Fh.mp hc
  exact(show b=p.2 from e)▸hb
 ·rcases FR.mp hq with hq|hq
  ·exact R.new q hq
  ·rw[Fh.mp hq];exact h0
theorem Rep.adoptO(R:Rep W V O s){a:Addr}{o:I3}(ho:Sub s.heap O s.heap (O++[(a,a)])->bf W s.heap (O++[(a,a)]) (a,a) o)(na:a∉O.map (·.2))(h0:W.h0.get? a=none):
  Rep W (V++[o]) (O++[(a,a)]) s:=R.add ho na h0
theorem Rep.adopt(R:Rep W V O s){a:Nat}(hl:IsL s.heap a vs.toArray n)(hv:VRs W.h0 s.heap O vs l)(na:a∉O.map (·.2))(h0:W.h0.get? a=none):
  Rep W (V++[.list l]) (O++[(a,a)]) s:=R.add (λ S=>.list hl (VRs.mono S hv)) na h0
theorem Rep.newList(R:Rep W V O s)(hv:VRs W.h0 s.heap O vs l):
  Rep W (V++[.list l]) (O++[(s.heap.objs.size,s.heap.objs.size)]) { s with heap:=s.heap.push { cls:=.type "list",data:=.seq vs.toArray n } }:=
 (R.push _).adopt (Gd _ rfl) (VRs.mono jE hv) (R.notM K9) (R.not0 K9)
theorem mn{p:Addr×Addr}{o:I3}{a:Addr}{x:Obj}(r:bf W h O p o)(ha:h.get? a=some x)(hx:x.data≠.plain)(h2:p.2≠a):p.1≠a:=by
 induction r with
 | list _ _=>exact h2
 | raw _ _ _=>exact h2
 | cell _ _ _=>exact h2
 | flds _ _=>exact h2
 | inst _ _ y _ _=>
  intro e
  subst e
  have q:=ha.symm.trans y
  cases q
  exact hx rfl
theorem Rep.idx(R:Rep W V O s){p q:Addr×Addr}(hp:O[i]?=some p)(hq:O[j]?=some q)(e:q.2=p.2):j=i:=
 (Nm (by rw[Fd];exact B3 hq) R.nd).mp (by rw[FK,FK,hp,hq];exact congrArg some e)
theorem Rep.updE(R:Rep W V O s){p:Addr×Addr}{o':I3}{d:Drawn}{t:Nat}(hi:i<V.length)(hp:O[i]?=some p)
  (hs:Heap.ExtBut p.2 s.heap h')(ho:Sub s.heap O h' O->bf W h' O p o'):Rep W (V.set i o') O { s with heap:=h',toks:=t,drawn:=d }/\E8 W [] O s.heap O h'/\Sub s.heap O h' O:=by
 have hm:=FD hp
 have hm2:=Gk (f:=(·.2)) hm
 have h0:=R.new _ hm
 refine xE (R.own hm) λ x Z=>(λ hx hc=>?_) Z.1 Z.2;clear Z
 have S:Sub s.heap O h' O:=⟨λ a vs n ht=>hs a _ (λ e=>R.noTup ht (e▸hm2)) ht,[],(FL _).symm⟩
 refine⟨⟨by rw[Fj];exact R.len,λ j y q hy hq=>?_,R.nd,R.new,jC R.old h0 hs,R.gens,R.os,jB R.stat h0 hs⟩,
  ⟨λ a o e Y na Y=>hs a o (λ q=>na (q▸hm2)) e,⟨[],(FL _).symm,λ Y h=>absurd h FO⟩,λ b o e=>?_⟩,S⟩
 ·by_cases hj:j=i
  ·rw[hj,Fu hi]at hy
   rw[hj,hp]at hq
   rw[<- Ft hy,<- Ft hq]
   exact ho S
  ·rw[Fg (HE hj)]at hy
   have r:=R.obj j y q hy hq
   have n2:q.2≠p.2:=λ e=>hj (R.idx hp hq e)
   refine xE r.main λ y1 hy1=>?_
   refine xE r.own λ y2 Z=>(λ hy2 J=>?_) Z.1 Z.2;clear Z
   exact bB r S ((hs _ _ (mn r hx hc.1 n2) hy1).trans hy1.symm) ((hs _ _ n2 hy2).trans hy2.symm)
 ·by_cases q:b=p.2
  ·refine xE ((ho S).own) λ y Z=>(λ hy J=>?_) Z.1 Z.2;clear Z
   exact⟨y,q▸hy⟩
  ·exact⟨o,hs b o q e⟩
theorem Rep.upd(R:Rep W V O s){p:Addr×Addr}{o':I3}{d:Drawn}{t:Nat}(hi:i<V.length)(hp:O[i]?=some p)
  (hs:Heap.SameBut p.2 s.heap h')(ho:Sub s.heap O h' O->bf W h' O p o'):Rep W (V.set i o') O { s with heap:=h',toks:=t,drawn:=d }/\E8 W [] O s.heap O h'/\Sub s.heap O h' O:=R.updE hi hp hs.extBut ho
structure Fm where
 scope:Scope
 slots:List (Str×Nat)
structure FrR(W:Wld)(F:Fm)(env:Env)(st:List AV)(h:Heap)(O:Mp):Prop where
 scope:env.scope=F.scope
 kind:F.scope.kind=.function
 globals:env.globals=mainGlobals
 builtins:env.builtins=builtinsNs
 ns:∃m o,h.Ns env.locals m/\h.get? env.locals=some o/\
  ∀x i,F.slots.lookup x=some i->F.scope.names.lookup x=some .local->∀y,st[i]?=some y->y≠.undef->∃v,m x=some v/\VR W.h0 h O v y
 cells:∀p∈env.cells,∃o u,h.get? p.2=some o/\o.data=.cell u
 cell:∀x i,F.slots.lookup x=some i->(F.scope.names.lookup x=some .cell\/F.scope.names.lookup x=some .free)->
  ∃c,env.cells.lookup x=some c/\∀y,st[i]?=some y->y≠.undef->∃v,h.IsCell c (some v)/\VR W.h0 h O v y
 apart:env.locals∉O.map (·.2)
 apartC:∀p∈env.cells,p.2∉O.map (·.2)
 inj:∀x y c,env.cells.lookup x=some c->env.cells.lookup y=some c->x=y
 sinj:∀x y i,F.slots.lookup x=some i->F.slots.lookup y=some i->x=y
 newL:W.h0.get? env.locals=none
 newC:∀p∈env.cells,W.h0.get? p.2=none
theorem gd{a:Addr}{m:Str->Option Value}(hn:h.Ns a m)(e:h'.get? a=h.get? a):h'.Ns a m:=
 let ⟨o,es,ep,ho,r⟩:=hn;⟨o,es,ep,e.trans ho,r⟩
theorem cj{a:Addr}{u:Option Value}(hn:h.IsCell a u)(e:h'.get? a=h.get? a):h'.IsCell a u:=
 let ⟨o,ho,r⟩:=hn;⟨o,e.trans ho,r⟩
theorem gg{X:List Addr}{OT:Mp}{a:Addr}{o:Obj}(S:E8 W X O h OT h')(e:h.get? a=some o)(na:a∉O.map (·.2)):a∉OT.map (·.2):=by
 obtain⟨ψ,rfl,PX⟩:=S.grow
 intro hm
 rw[FG,FR]at hm
 rcases hm with hm|hm
 ·exact na hm
 ·obtain⟨p,hp,rfl⟩:=FN.mp hm
  rw[PX p hp]at e;cases e
theorem FrR.step{OT:Mp}{X:List Addr}(f:FrR W F env st h O)(S:E8 W X O h OT h')(U:Sub h O h' OT)
  (hX:env.locals∉X)(hC:∀p∈env.cells,p.2∉X):FrR W F env st h' OT:=by
 refine xE f.ns λ m Z=>xE Z λ o J=>(λ hn ho hv=>?_) J.1 J.2.1 J.2.2;clear Z J
 have e:=S.keep _ _ ho (.inr f.newL) f.apart hX
 refine⟨f.scope,f.kind,f.globals,f.builtins,⟨m,o,gd hn (e.trans ho.symm),e,λ x i hx hl y hy hu=>?_⟩,λ p hx=>?_,λ x i hx hk=>?_,gg S ho f.apart,λ p hx=>?_,f.inj,f.sinj,f.newL,f.newC⟩
 ·refine xE (hv x i hx hl y hy hu) λ v Z=>(λ h1 h2=>?_) Z.1 Z.2;clear Z
  exact⟨v,h1,VR.mono U h2⟩
 ·refine xE (f.cells p hx) λ o Z=>xE Z λ u J=>(λ h2 h4=>?_) J.1 J.2;clear Z J
  exact⟨o,u,S.keep _ _ h2 (.inr (f.newC p hx)) (f.apartC p hx) (hC p hx),h4⟩
 ·refine xE (f.cell x i hx hk) λ c Z=>(λ h1 h5=>?_) Z.1 Z.2;clear Z
  refine⟨c,h1,λ y hy hu=>?_⟩
  refine xE (h5 y hy hu) λ v Z=>(λ q1 q2=>?_) Z.1 Z.2;clear Z
  refine xE (f.cells _ (mem_of_lookup h1)) λ o Z=>xE Z λ u J=>(λ h2 h4=>?_) J.1 J.2;clear Z J
  exact⟨v,cj q1 ((S.keep _ _ h2 (.inr (f.newC _ (mem_of_lookup h1))) (f.apartC _ (mem_of_lookup h1)) (hC _ (mem_of_lookup h1))).trans h2.symm),VR.mono U q2⟩
 ·refine xE (f.cells p hx) λ o Z=>xE Z λ u J=>(λ ho θ=>?_) J.1 J.2;clear Z J
  exact gg S ho (f.apartC p hx)
theorem FrR.step0{OT:Mp}(f:FrR W F env st h O)(S:E8 W [] O h OT h')(U:Sub h O h' OT):FrR W F env st h' OT:=
 f.step S U (by simp) (by simp)
abbrev PT:=List AV->(AV->Sto->Prop)->Sto->Prop
def J0(W:Wld)(k:Nat)(F:Fm)(e:Expr)(p:PT):Prop:=
 ∀(A:Around) (env:Env) (s:Shared) (V:Sto) (O:Mp) (st:List AV) (Q:AV->Sto->Prop),N3 k A->Rep W V O s->FrR W F env st s.heap O->p st Q V->
  wpAny W.M A (eval e env) (H9 W [] O s.heap Q) NoE s
theorem J0.run{e:Expr}{p:PT}(E:J0 W k F e p):N3 k A->Rep W V O s->FrR W F env st s.heap O->p st Q V->
  wpAny W.M A (eval e env) (H9 W [] O s.heap Q) NoE s:=
 E A env s V O st Q
theorem H9.after{X:List Addr}{OT:Mp}{s':Shared}(S:E8 W X O h OT h')(p:H9 W X OT h' Q v s'):H9 W X O h Q v s':=by
 obtain⟨OP,PM,x,q,r,vr,S'⟩:=p
 exact⟨OP,PM,x,q,r,vr,S.trans S'⟩
theorem J0.then{e:Expr}{p:PT}(E:J0 W k F e p){P:Value->Shared->Prop}
  (r:N3 k A)(R:Rep W V O s)(f:FrR W F env st s.heap O)(hp:p st Q V)
  (go:∀v s' OP OT x,Q x OP->Rep W OP OT s'->FrR W F env st s'.heap OT->VR W.h0 s'.heap OT v x->E8 W [] O s.heap OT s'.heap->Sub s.heap O s'.heap OT->P v s'):
  wpAny W.M A (eval e env) P NoE s:=
 Fy (E.run r R f hp) (λ v s' h=>by
  obtain⟨OP,OT,x,q,R',vr,S⟩:=h
  exact go v s' OP OT x q R' (f.step0 S (R.sub0 S)) vr S (R.sub0 S)) λ Y Y x=>x
theorem H9.now{t:Nat}(R:Rep W V O s)(vr:VR W.h0 s.heap O v x)(q:Q x V):H9 W [] O s.heap Q v { s with toks:=t }:=
 ⟨V,O,x,q,R.toks s.drawn t,vr,E8.rfl'⟩
theorem H9.here(R:Rep W V O s)(vr:VR W.h0 s.heap O v x)(q:Q x V):H9 W [] O s.heap Q v s:=
 ⟨V,O,x,q,R,vr,E8.rfl'⟩
def A5(i:Nat):PT:=λ st Q V=>match st[i]? with
 | some .undef=>False
 | some v=>Q v V
 | none=>False
set_option tactic.hygienic true in
theorem wL(h:A5 i st Q V):∃v,st[i]?=some v/\v≠.undef/\Q v V:=by
 unfold A5 at h
 split at h
 ·exact h.elim
 ·rename_i v n e
  exact⟨v,e,n,h⟩
 ·exact h.elim
theorem nH{x:Str}(R:Rep W V O s)(f:FrR W F env st s.heap O)(hp:A5 i st Q V)
  (hx:F.slots.lookup x=some i)(hk:F.scope.names.lookup x=some .local\/F.scope.names.lookup x=some .cell\/F.scope.names.lookup x=some .free)(hn:(x==("__classdict__" : Str))=false):
  wpAny W.M A (loadName env x) (H9 W [] O s.heap Q) NoE s:=by
 refine xE (wL hp) λ y Z=>(λ hy hu q=>?_) Z.1 Z.2.1 Z.2.2;clear Z
 have ek:env.scope.kind=.function:=by rw[f.scope];exact f.kind
 rcases hk with hk|hk|hk
 ·refine xE f.ns λ m Z=>xE Z λ o J=>(λ hns ho hv=>?_) J.1 J.2.1 J.2.2;clear Z J
  refine xE (hv x i hx hk y hy hu) λ v Z=>(λ h1 h2=>?_) Z.1 Z.2;clear Z
  exact wpAny_loadName_local ek (by show List.lookup x env.scope.names=_;rw[f.scope];exact hk) hns h1 (.here R h2 q)
 ·refine xE (f.cell x i hx (.inl hk)) λ c Z=>(λ h1 h5=>?_) Z.1 Z.2;clear Z
  refine xE (h5 y hy hu) λ v Z=>(λ q1 q2=>?_) Z.1 Z.2;clear Z
  exact wpAny_loadName_cell ek (by show List.lookup x env.scope.names=_;rw[f.scope];exact hk) h1 q1 (.here R q2 q)
 ·refine xE (f.cell x i hx (.inr hk)) λ c Z=>(λ h1 h5=>?_) Z.1 Z.2;clear Z
  refine xE (h5 y hy hu) λ v Z=>(λ q1 q2=>?_) Z.1 Z.2;clear Z
  exact wpAny_loadName_free ek (by show List.lookup x env.scope.names=_;rw[f.scope];exact hk) h1 q1 (.here R q2 q) hn
noncomputable def cJ(x:Str):Bool:=!(x==("__debug__" : Str)) && !(x==("__classdict__" : Str))
noncomputable def nI(F:Fm)(x:Str)(i:Nat):Bool:=cJ x&&(F.slots.lookup x==some i)&&(F.scope.names.lookup x==some .local||F.scope.names.lookup x==some .cell||F.scope.names.lookup x==some .free)
theorem nJ{x:Str}(h:nI F x i=true):(x==("__debug__" : Str))=false/\(x==("__classdict__" : Str))=false/\F.slots.lookup x=some i/\(F.scope.names.lookup x=some .local\/F.scope.names.lookup x=some .cell\/F.scope.names.lookup x=some .free):=by
 unfold nI cJ at h
 simp only[Gn,Me,beq_iff_eq,HJ,or_assoc]at h
 exact⟨h.1.1.1,h.1.1.2,h.1.2,h.2⟩
theorem i5{x:Str}{pos:Pos}(h:nI F x i=true):J0 W k F (.Name x pos) (A5 i):=by
 intro A env s V O st Q r R f hp
 obtain⟨h1,h2,h3,h4⟩:=nJ h
 exact wpAny_Name (nH R f hp h3 h4 h2) h1
theorem xV{x:Str}{pos:Pos}(i:Nat)(h:nI F x i=true):J0 W k F (.Name x pos) (A5 i):=i5 h
def B6(i:Int):PT:=λ st Q V=>Q (.int i) V
theorem F7{i:Int}{pos:Pos}:J0 W k F (.Constant (.int i) n pos) (B6 i):=by
 intro A env s V O st Q r R f hp
 exact wpAny_Constant_int (.now R (.int i _) hp)
def G1(x:List Nat):PT:=λ st Q V=>Q (.str x) V
theorem ar{x:Str}{l:List Nat}{pos:Pos}(h:x=⟨l.toArray⟩):J0 W k F (.Constant (.str x) n pos) (G1 l):=by
 subst h
 intro A env s V O st Q r R f hp
 show wpAny W.M A (mkText _) _ _ s
 exact λ Γ p Y=>H9.now (t:=s.toks+1) R (.str l.toArray _) hp
def G7:PT:=λ st Q V=>Q .none V
theorem ql{pos:Pos}:J0 W k F (.Constant .none n pos) G7:=by
 intro A env s V O st Q r R f hp
 exact λ Γ p Y=>H9.here R .none hp
def G0(b:Bool):PT:=λ st Q V=>Q (.bool b) V
theorem iH{b:Bool}{pos:Pos}:J0 W k F (.Constant (.bool b) n pos) (G0 b):=by
 intro A env s V O st Q r R f hp
 exact λ Γ p Y=>H9.here R (.bool b) hp
noncomputable def lim:Nat:=1000000
inductive zC(h0 h:Heap)(O:Mp)(v:Value)(l:List AV):Prop
 | mk (a n vs:_):v=.ref a->IsT h a (List.toArray vs) n->VRs h0 h O vs l->zC h0 h O v l
inductive zD(O:Mp)(v:Value)(i:Nat):Prop
 | mk (a d:_):v=.ref a->O[i]?=some (a,d)->zD O v i
inductive zE(h0:Heap)(v:Value)(l:List Int):Prop
 | mk (a vs:_):v=.ref a->h0.IsList a (List.toArray vs)->IntsAre vs l->zE h0 v l
inductive tE(h0 h:Heap)(O:Mp)(vs:List Value)(x:AV)(xs:List AV):Prop
 | mk (v r:_):vs=v::r->VR h0 h O v x->VRs h0 h O r xs->tE h0 h O vs x xs
inductive Br(h0 h:Heap)(O:Mp)(v:Value)(i:Nat)(l:List AV):Prop
 | mk (a n vs:_):v=.ref a->O[i]?=some (a,a)->IsL h a (List.toArray vs) n->VRs h0 h O vs l->Br h0 h O v i l
inductive Is{α:Type}{β:Type}(f:α->β)(x:β)(K:α->Prop):Prop
 | mk (i:α):x=f i->K i->Is f x K
def VRC(h0 h:Heap)(O:Mp)(v:Value):AV->Prop
 | .undef=>False
 | .none=>v=.none
 | .bool b=>v=.bool b
 | .int i=>∃t,v=.int i t
 | .str s=>∃t,v=.str ⟨s.toArray⟩ t
 | .tup l=>zC h0 h O v l
 | .ref i=>zD O v i
 | .fn a=>v=.ref a
 | .clist l=>zE h0 v l
theorem VR.inv{h0:Heap}(r:VR h0 h O v x):VRC h0 h O v x:=by
 cases r with
 | none=>exact rfl
 | bool b=>exact rfl
 | int i t=>exact⟨t,rfl⟩
 | str s t=>exact⟨t,rfl⟩
 | tup a b=>exact⟨_,_,_,rfl,a,b⟩
 | ref a=>exact⟨_,_,rfl,a⟩
 | fn a=>exact rfl
 | clist a b=>exact⟨_,_,rfl,a,b⟩
theorem VR.int_inv{h0:Heap}{i:Int}(r:VR h0 h O v (.int i)):∃t,v=.int i t:=r.inv
theorem VR.str_inv{h0:Heap}{i:List Nat}(r:VR h0 h O v (.str i)):∃t,v=.str ⟨i.toArray⟩ t:=r.inv
theorem VR.bool_inv{h0:Heap}{b:Bool}(r:VR h0 h O v (.bool b)):v=.bool b:=r.inv
theorem VR.none_inv{h0:Heap}(r:VR h0 h O v .none):v=.none:=r.inv
theorem VR.tup_inv{h0:Heap}(r:VR h0 h O v (.tup l)):zC h0 h O v l:=r.inv
theorem VR.ref_inv{h0:Heap}(r:VR h0 h O v (.ref i)):zD O v i:=r.inv
theorem VR.fn_inv{h0:Heap}{a:Addr}(r:VR h0 h O v (.fn a)):v=.ref a:=r.inv
theorem VR.clist_inv{h0:Heap}{l:List Int}(r:VR h0 h O v (.clist l)):zE h0 v l:=r.inv
theorem VRs.inv{h0:Heap}(r:VRs h0 h O vs l):match l with
  | []=>vs=[]
  | x::xs=>tE h0 h O vs x xs:=by
 cases r with
 | nil=>exact rfl
 | cons a b=>exact⟨_,_,rfl,a,b⟩
theorem VRs.nil_inv{h0:Heap}(r:VRs h0 h O vs []):vs=[]:=r.inv
theorem VRs.cons_inv{h0:Heap}{xs:List AV}(r:VRs h0 h O vs (x::xs)):tE h0 h O vs x xs:=r.inv
def inI(x:AV)(K:Int->Prop):Prop:=match x with
 | .int i=>K i
 | _=>False
def inS(x:AV)(K:List Nat->Prop):Prop:=match x with
 | .str i=>K i
 | _=>False
def inT(x:AV)(K:List AV->Prop):Prop:=match x with
 | .tup i=>K i
 | _=>False
def inR(x:AV)(K:Nat->Prop):Prop:=match x with
 | .ref i=>K i
 | _=>False
def inO{α:Type}(x:Option α)(K:α->Prop):Prop:=match x with
 | some i=>K i
 | none=>False
theorem W7{K:Int->Prop}(h:inI x K):Is AV.int x K:=by cases x with|int i=>exact⟨i,rfl,h⟩|_=>exact h.elim
theorem fM{K:List Nat->Prop}(h:inS x K):Is AV.str x K:=by cases x with|str i=>exact⟨i,rfl,h⟩|_=>exact h.elim
theorem pj{K:List AV->Prop}(h:inT x K):Is AV.tup x K:=by cases x with|tup i=>exact⟨i,rfl,h⟩|_=>exact h.elim
theorem aj{K:Nat->Prop}(h:inR x K):Is AV.ref x K:=by cases x with|ref i=>exact⟨i,rfl,h⟩|_=>exact h.elim
theorem U7{x:Option α}{K:α->Prop}(h:inO x K):Is some x K:=by induction x with|some i=>exact⟨i,rfl,h⟩|none=>exact h.elim
def Bs(op:Operator)(a b:Int)(K:Int->Prop):Prop:=match op with
 | .Add=>K (a+b)
 | .Sub=>K (a-b)
 | .Mult=>(b.natAbs<lim\/a.natAbs<lim)/\K (a*b)
 | .FloorDiv=>(b≠0/\b.natAbs<lim)/\K (a.fdiv b)
 | .Mod=>b≠0/\K (a.fmod b)
 | .Pow=>(0<=b/\b<100/\a.natAbs<lim)/\K (a ^ b.toNat)
 | .LShift=>(0<=b/\b<100/\a.natAbs<lim)/\K (a*2 ^ b.toNat)
 | .RShift=>0<=b/\K (a.fdiv (2 ^ b.toNat))
 | .BitAnd=>K (Builtin.bitAnd a b)
 | _=>False
def je(op:Operator)(P:Prop):Prop:=match op with
 | .Add=>P
 | _=>False
theorem fN{op:Operator}{P:Prop}(h:je op P):op=.Add/\P:=by induction op with|Add=>exact⟨rfl,h⟩|_=>exact h.elim
def cK(op:Operator)(x y:AV)(Q:AV->Sto->Prop)(V:Sto):Prop:=match x with
 | .int a=>inI y λ b=>Bs op a b λ c=>Q (.int c) V
 | .str a=>inS y λ b=>je op (a.length+b.length<=lim/\Q (.str (a++b)) V)
 | .tup a=>inT y λ b=>je op ((a≠[]/\b≠[]/\a.length+b.length<=lim)/\Q (.tup (a++b)) V)
 | .ref i=>inR y λ j=>je op (inO (lst V i) λ a=>inO (lst V j) λ b=>a.length+b.length<=lim/\Q (.ref V.length) (V++[.list (a++b)]))
 | _=>False
theorem fO{a:Int}(h:a.natAbs<lim):Builtin.Int.intBits a<=64:=intBits_le_64 (by unfold lim at h;lia) (by unfold lim at h;lia)
theorem VR.ref_list(R:Rep W V O s)(r:VR W.h0 s.heap O v (.ref i))(hl:lst V i=some l):
  Br W.h0 s.heap O v i l:=by
 obtain⟨a,d,rfl,hp⟩:=r.ref_inv
 obtain⟨rfl,n,vs,h1,h2⟩:=R.list hl hp
 exact⟨_,n,vs,rfl,hp,h1,h2⟩
theorem nK{X:List Addr}(o:Obj):E8 W X O h (O++[(h.objs.size,h.objs.size)]) (h.push o):=
 ⟨λ Y Y e Y Y Y=>FH _ e,⟨_,rfl,by intro p hp;simp at hp;subst hp;exact K9⟩,λ Y o' e=>⟨o',FH _ e⟩⟩
theorem H9.newList{X:List Addr}(R:Rep W V O s)(hv:VRs W.h0 s.heap O vs l)(q:Q (.ref V.length) (V++[.list l])):
  H9 W X O s.heap Q (.ref s.heap.objs.size) { s with heap:=s.heap.push { cls:=.type "list",data:=.seq vs.toArray n } }:=
 ⟨_,_,_,q,R.newList hv,.ref (d:=s.heap.objs.size) (by rw[<- R.len];simp),nK _⟩
theorem H9.newTup{X:List Addr}(R:Rep W V O s)(hv:VRs W.h0 s.heap O vs l)(q:Q (.tup l) V):
  H9 W X O s.heap Q (.ref s.heap.objs.size) { s with heap:=s.heap.push { cls:=.type "tuple",data:=.seq vs.toArray n } }:=
 ⟨_,_,_,q,R.push _,.tup (n:=n) (Gd _ rfl) (VRs.mono jE hv),eU _⟩
theorem O5:lim<=sizeLine:=by rw[MF];decide
theorem VRs.ne{h0:Heap}(r:VRs h0 h O vs l)(e:vs.toArray.isEmpty=true):l=[]:=
 Kf.mp (r.length.symm.trans (by rw[List.isEmpty_toArray,List.isEmpty_iff]at e;rw[e];rfl))
theorem wM{op:Operator}{a b:Int}{t u:Tok}{K:Int->Prop}{P:Value->Shared->Prop}(h:Bs op a b K)
  (go:∀c,K c->P (.int c s.toks) { s with toks:=s.toks+1 }):wpAny W.M A (binaryOp op (.int a t) (.int b u)) P NoE s:=by
 induction op with
 | Add=>exact add_int (go _ h)
 | Sub=>exact sub_int (go _ h)
 | Mult=>exact mul_int (go _ h.2) (h.1.elim (λ q=>.of_right (fO q)) λ q=>.of_left (fO q))
 | FloorDiv=>exact floordiv_int h.1.1 (go _ h.2) (.inl (PyProof.noPylong_small (Fo h.1.2 (by decide))))
 | Mod=>exact mod_int' h.1 (go _ h.2)
 | Pow=>exact pow_int h.1.1 (FI (Int.mul_le_mul (Iw.mpr (fO h.1.2.2)) (FT h.1.2.1) h.1.1 (by decide)) (by decide)) (go _ h.2)
 | LShift=>exact lshift_int_small h.1.1 (FI (FT h.1.2.1) (by decide)) (Fo h.1.2.2 (by decide)) (go _ h.2)
 | RShift=>exact rshift_int h.1 (go _ h.2)
 | BitAnd=>exact and_int (go _ h)
 | _=>exact h.elim
theorem rV{op:Operator}{v':Value}{y:AV}(R:Rep W V O s)(vx:VR W.h0 s.heap O v x)(vy:VR W.h0 s.heap O v' y)
  (h:cK op x y Q V):wpAny W.M A (binaryOp op v v') (H9 W [] O s.heap Q) NoE s:=by
 cases x with
 | int a=>
  obtain⟨b,rfl,g⟩:=W7 h
  obtain⟨t,rfl⟩:=vx.int_inv;obtain⟨u,rfl⟩:=vy.int_inv
  exact wM (K:=λ c=>Q (.int c) V) g λ c q=>.now R (.int _ _) q
 | str a=>
  obtain⟨b,rfl,g⟩:=fM h
  obtain⟨rfl,g⟩:=fN g
  obtain⟨t,rfl⟩:=vx.str_inv;obtain⟨u,rfl⟩:=vy.str_inv
  refine add_str (λ t' tk=>.now R (v:=_) (x:=.str (a++b)) ?_ g.2) (fp g.1 O5)
  rw[show((⟨a.toArray⟩:Str)++(⟨b.toArray⟩:Str))=⟨(a++b).toArray⟩from Str.ext' (by rw[La];simp)]
  exact .str _ _
 | tup la=>
  obtain⟨b,rfl,g⟩:=pj h
  obtain⟨rfl,g⟩:=fN g
  obtain⟨a,n,vs,rfl,ht,hv⟩:=vx.tup_inv;obtain⟨b,m,ws,rfl,ht',hw⟩:=vy.tup_inv
  refine P.add_tuple ht ht' (λ e=>g.1.1 (hv.ne e)) (λ e=>g.1.2.1 (hw.ne e)) ?_
   (show vs.length+ws.length<=sizeLine by rw[hv.length,hw.length];exact fp g.1.2.2 O5)
  rw[MM]
  exact .newTup R (hv.append hw) g.2
 | ref i=>
  obtain⟨j,rfl,g⟩:=aj h
  obtain⟨rfl,g⟩:=fN g
  obtain⟨la,h1,g⟩:=U7 g
  obtain⟨lb,h2,g⟩:=U7 g
  obtain⟨a,n,vs,rfl,_,ht,hv⟩:=vx.ref_list R h1
  obtain⟨b,m,ws,rfl,_,ht',hw⟩:=vy.ref_list R h2
  refine P.add_list ht ht' ?_ (show vs.length+ws.length<=sizeLine by rw[hv.length,hw.length];exact fp g.1 O5)
  rw[MM]
  exact .newList R (hv.append hw) g.2
 | _=>exact h.elim
mutual
noncomputable def AV.py:AV->Option PyData
 | .none=>some .none
 | .bool b=>some (.bool b)
 | .int i=>some (.int i)
 | .str s=>some (.str ⟨s.toArray⟩)
 | .tup l=>(AV.pyL l).map .tuple
 | .undef=>Option.none
 | .ref _=>Option.none
 | .fn _=>Option.none
 | .clist _=>Option.none
noncomputable def AV.pyL:List AV->Option (List PyData)
 | []=>some []
 | x::l=>(AV.py x).bind λ a=>(AV.pyL l).map λ r=>a::r
end
def RdV(h:Heap)(v:Value)(x:AV):Prop:=∀d,x.py=some d->∃as,Reads h v d as
def rW(h:Heap)(vs:List Value)(xs:List AV):Prop:=∀ds,AV.pyL xs=some ds->∃as,ReadsAll h vs ds as
theorem tF{a:Addr}(ht:IsT h a vs.toArray n)(ih:rW h vs l):RdV h (.ref a) (.tup l):=λ d e=>by
 obtain⟨ds,h1,rfl⟩:=Gu.mp (show(AV.pyL l).map .tuple=some d from e)
 obtain⟨as,q⟩:=ih ds h1
 exact⟨_,.tuple ht rfl rfl q⟩
theorem qm{xs:List AV}(ih1:RdV h v x)(ih2:rW h vs xs):rW h (v::vs) (x::xs):=λ ds e=>by
 obtain⟨d,h1,g⟩:=GA.mp (show(AV.py x).bind (λ a=>(AV.pyL xs).map λ r=>a::r)=some ds from e)
 obtain⟨ds,h2,rfl⟩:=Gu.mp g
 obtain⟨as,q1⟩:=ih1 d h1
 obtain⟨bs,q2⟩:=ih2 ds h2
 exact⟨_,.cons q1 q2⟩
theorem iI{d:PyData}(e:x.py=some d)(r:Reads h v d []):RdV h v x:=λ d' e'=>Ft (e.symm.trans e')▸⟨_,r⟩
theorem kW(e:x.py=Option.none):RdV h v x:=λ Y e'=>G9 (e.symm.trans e')
theorem VR.reads{h0:Heap}(r:VR h0 h O v x):RdV h v x:=
 VR.rec (motive_1:=λ v x Y=>RdV h v x) (motive_2:=λ vs xs Y=>rW h vs xs)
  (iI rfl .none) (λ b=>iI rfl (.bool b)) (λ i t=>iI rfl (.int i t)) (λ s t=>iI rfl (.str ⟨s⟩ t)) (λ ht Y ih=>tF ht ih)
  (λ Y=>kW rfl) (λ Y=>kW rfl) (λ Y Y=>kW rfl) (λ ds e=>Ft e▸⟨_,.nil⟩) (λ Y Y ih1 ih2=>qm ih1 ih2) r
theorem VRs.reads{h0:Heap}{xs:List AV}(r:VRs h0 h O vs xs):rW h vs xs:=
 VRs.rec (motive_1:=λ v x Y=>RdV h v x) (motive_2:=λ vs xs Y=>rW h vs xs)
  (iI rfl .none) (λ b=>iI rfl (.bool b)) (λ i t=>iI rfl (.int i t)) (λ s t=>iI rfl (.str ⟨s⟩ t)) (λ ht Y ih=>tF ht ih)
  (λ Y=>kW rfl) (λ Y=>kW rfl) (λ Y Y=>kW rfl) (λ ds e=>Ft e▸⟨_,.nil⟩) (λ Y Y ih1 ih2=>qm ih1 ih2) r
noncomputable def iJ(V:Sto)(x:AV):Option PyData:=match x with
 | .ref i=>(lst V i).bind λ l=>(AV.pyL l).map .list
 | x=>x.py
theorem bx{d:PyData}(R:Rep W V O s)(r:VR W.h0 s.heap O v x)(e:iJ V x=some d):∃as,Reads s.heap v d as:=by
 cases x with
 | ref i=>
  obtain⟨l,h1,g⟩:=GA.mp e
  obtain⟨ds,h2,rfl⟩:=Gu.mp g
  obtain⟨a,n,vs,rfl,_,hl,hv⟩:=r.ref_list R h1
  obtain⟨as,q⟩:=VRs.reads hv ds h2
  exact⟨_,.list hl rfl rfl q⟩
 | _=>exact VR.reads r d e
noncomputable def eqD(a b:PyData):Option Bool:=if (SeqAt.shaped a&&SeqAt.shaped b)=true then some (PyData.eqv a b)else none
noncomputable def eqS(V:Sto)(x y:AV):Option Bool:=(iJ V x).bind λ a=>(iJ V y).bind λ b=>eqD a b
theorem pn{y:AV}{b:Bool}(h:eqS V x y=some b):∃d e,iJ V x=some d/\iJ V y=some e/\SeqAt.shaped d=true/\SeqAt.shaped e=true/\b=PyData.eqv d e:=by
 refine xE (GA.mp h) λ d Z=>(λ h1 g=>?_) Z.1 Z.2;clear Z
 refine xE (GA.mp g) λ e Z=>(λ h2 h3=>?_) Z.1 Z.2;clear Z
 unfold eqD at h3
 by_cases q:(SeqAt.shaped d&&SeqAt.shaped e)=true
 ·rw[if_pos q]at h3
  exact⟨d,e,h1,h2,(JI.mp q).1,(JI.mp q).2,(Ft h3).symm⟩
 ·rw[if_neg q]at h3;exact G9 h3
theorem tG{P:Value->Shared->Prop}{v':Value}{y:AV}{b:Bool}(hu:A.units+64<cLine)(R:Rep W V O s)(vx:VR W.h0 s.heap O v x)(vy:VR W.h0 s.heap O v' y)
  (h:eqS V x y=some b)(q:P (.bool b) s):wpAny W.M A (compareOp .Eq v v') P NoE s:=by
 refine xE (pn h) λ d Z=>xE Z λ e J=>(λ h1 h2 h3 h4 θ=>?_) J.1 J.2.1 J.2.2.1 J.2.2.2.1 J.2.2.2.2;rcases θ with rfl;clear Z J
 refine xE (bx R vx h1) λ as ra=>?_
 refine xE (bx R vy h2) λ bs rb=>?_
 exact eq_dataH ra rb h3 h4 hu q
theorem tH{P:Value->Shared->Prop}{v':Value}{y:AV}{b:Bool}(hu:A.units+64<cLine)(R:Rep W V O s)(vx:VR W.h0 s.heap O v x)(vy:VR W.h0 s.heap O v' y)
  (h:eqS V x y=some b)(q:P (.bool (!b)) s):wpAny W.M A (compareOp .NotEq v v') P NoE s:=by
 refine xE (pn h) λ d Z=>xE Z λ e J=>(λ h1 h2 h3 h4 θ=>?_) J.1 J.2.1 J.2.2.1 J.2.2.2.1 J.2.2.2.2;rcases θ with rfl;clear Z J
 refine xE (bx R vx h1) λ as ra=>?_
 refine xE (bx R vy h2) λ bs rb=>?_
 exact ne_dataH ra rb h3 h4 hu q
noncomputable def cZ:AV->Bool
 | .ref _=>false
 | _=>true
theorem cm(h:cZ x=true):iJ V x=x.py:=by
 cases x with
 | ref i=>cases h
 | _=>rfl
theorem mq{P:Bool->Shared->Prop}{v':Value}{y:AV}{b:Bool}(hu:A.units+64<cLine)(R:Rep W V O s)(vx:VR W.h0 s.heap O v x)(vy:VR W.h0 s.heap O v' y)
  (px:cZ x=true)(py:cZ y=true)(h:eqS V x y=some b)(q:P b s):wpAny W.M A (eqBool v v') P NoE s:=by
 refine xE (pn h) λ d Z=>xE Z λ e J=>(λ h1 h2 h3 h4 θ=>?_) J.1 J.2.1 J.2.2.1 J.2.2.2.1 J.2.2.2.2;rcases θ with rfl;clear Z J
 refine xE (bx R vx h1) λ as ra=>?_
 refine xE (bx R vy h2) λ bs rb=>?_
 exact SeqAt.eqBoolOverData _ _ A NoE s v v' d e as bs P ra rb (LV h3) (LV h4) (SeqAt.room_of_shaped h3 hu) q
noncomputable def ltL(c:AV->AV->Option Bool):List AV->List AV->Option Bool
 | [],[]=>some false
 | [],_::_=>some true
 | _::_,[]=>some false
 | x::xs,y::ys=>if (cZ x&&cZ y)=true then match eqS [] x y with
  | some true=>ltL c xs ys
  | some false=>c x y
  | Option.none=>Option.none
  else Option.none
noncomputable def ltN:Nat->AV->AV->Option Bool
 | _,.int a,.int b=>some (decide (a<b))
 | n+1,.tup l,.tup m=>ltL (ltN n) l m
 | _,_,_=>Option.none
theorem wN{y:AV}(hx:cZ x=true)(hy:cZ y=true):eqS [] x y=eqS V x y:=by
 unfold eqS;rw[cm hx,cm hy,cm hx,cm hy]
theorem bC{a:Addr}{vs:Array Value}(h:IsT s.heap a vs n):s.TypeIs (.ref a) "tuple":=⟨_,h,rfl⟩
noncomputable def tI(x:Value×Value)(r:Option PySem.Fin×Unit):Sem (ForInStep (Option PySem.Fin×Unit)):=do
 let e <- eqBool x.fst x.snd
 if (!e)=true then do
  rule "tuple.compare.by-the-first-pair-that-differs"
  let v <- richCompare CmpOp.Lt x.fst x.snd
  let f <- ret v
  pure (ForInStep.done (some f,()))
 else pure (ForInStep.yield (none,()))
def zF(s:Shared)(b:Bool)(n m:Nat)(r:Option PySem.Fin×Unit)(s':Shared):Prop:=s'=s/\(r.1=some (.done (.ret (.bool b)))\/(r.1=none/\decide (n<m)=b))
theorem zG{c:AV->AV->Option Bool}(hu:A.units+64<cLine)(R:Rep W V O s)
  (hc:∀x y b v v' (P:Value->Shared->Prop),VR W.h0 s.heap O v x->VR W.h0 s.heap O v' y->c x y=some b->P (.bool b) s->wpAny W.M A (richCompare .Lt v v') P NoE s){b:Bool}(l:List AV):
  ∀{m:List AV}{vs ws:List Value},VRs W.h0 s.heap O vs l->VRs W.h0 s.heap O ws m->ltL c l m=some b->wpAny W.M A (forIn (vs.zip ws) (none,()) tI) (zF s b vs.length ws.length) NoE s:=by
 induction l with
 | nil=>
  intro m vs ws hv hw h
  obtain rfl:=hv.nil_inv
  refine Fp ⟨rfl,.inr ⟨rfl,?_⟩⟩
  rw[hw.length]
  cases m with
  | nil=>exact Ft h
  | cons _ _=>exact(decide_eq_true (Hs _)).trans (Ft h)
 | cons x l ih=>
  intro m vs ws hv hw h
  obtain⟨v,vs,rfl,a,a'⟩:=hv.cons_inv
  cases m with
  | nil=>
   obtain rfl:=hw.nil_inv
   exact Fp ⟨rfl,.inr ⟨rfl,Ft h⟩⟩
  | cons y m=>
   obtain⟨w,ws,rfl,b1,b'⟩:=hw.cons_inv
   unfold ltL at h
   by_cases hp:(cZ x&&cZ y)=true
   ·rw[if_pos hp]at h
    rw[Gn]at hp
    rw[Kd,JY]
    cases he:eqS [] x y with
    | none=>rw[he]at h;exact G9 h
    | some e=>
     rw[he]at h
     refine nt (nt (mq hu R a b1 hp.1 hp.2 ((wN hp.1 hp.2).symm.trans he) ?_))
     induction e with
     | true=>
      refine Fp (Fy (ih a' b' h) (λ r s' hr=>⟨hr.1,hr.2.imp id λ q=>⟨q.1,?_⟩⟩) λ Y Y x=>x)
      rw[<- q.2];exact decide_eq_decide.mpr Nat.succ_lt_succ_iff
     | false=>exact nt (IQ (nt (hc _ _ _ _ _ _ a b1 h (nt (Fp (Fp (Fp ⟨rfl,.inl rfl⟩)))))))
   ·rw[if_neg hp]at h;exact G9 h
theorem rX{P:PySem.Fin->Shared->Prop}{c:AV->AV->Option Bool}(hu:A.units+64<cLine)(R:Rep W V O s)
  (hc:∀x y b v v' (P:Value->Shared->Prop),VR W.h0 s.heap O v x->VR W.h0 s.heap O v' y->c x y=some b->P (.bool b) s->wpAny W.M A (richCompare .Lt v v') P NoE s)
  {a a':Addr}{n':Nat}{ws:List Value}{m:List AV}{b:Bool}(ht:IsT s.heap a vs.toArray n)(ht':IsT s.heap a' ws.toArray n')(hv:VRs W.h0 s.heap O vs l)(hw:VRs W.h0 s.heap O ws m)
  (h:ltL c l m=some b)(q:P (.done (.ret (.bool b))) s):wpAny W.M A (Builtin.«tuple.__lt__» ⟨[.ref a,.ref a'],[]⟩) P NoE s:=by
 show wpAny _ _ (isInstance (.ref a') (.type "tuple") >>= _) _ _ s
 refine nt (LG (bC ht') isSubtype_tuple_tuple ?_)
 simp only[KA,Im,if_false]
 refine nt (Ng ht rfl ?_)
 refine nt (Ng ht' rfl ?_)
 refine nt (Fy (show wpAny _ _ (forIn (vs.zip ws) (none,()) tI) _ _ _ from zG hu R hc l hv hw h) (λ r s' hr=>?_) λ Y Y x=>x)
 rcases r with⟨r1,r2⟩
 rcases hr with⟨rfl,hr⟩
 rcases hr with hr|⟨hr,e⟩
 ·simp only at hr
  subst hr
  exact Fp q
 ·simp only at hr
  subst hr
  refine Fp ?_
  have:Builtin.Tuple.tupleCompareSizes .Lt vs.toArray.size ws.toArray.size=.bool b:=by
   rw[<- e,HM,HM];rfl
  rw[this]
  exact q
theorem wO{i j:Int}:ltN n (.int i) (.int j)=some (decide (i<j)):=by cases n <;> rfl
theorem qo{y:AV}{b:Bool}(h:ltN n x y=some b):(∃i j,x=.int i/\y=.int j/\b=decide (i<j))\/(∃k l m,n=k+1/\x=.tup l/\y=.tup m/\ltL (ltN k) l m=some b):=by
 cases(n)with
 | zero=>
  cases(x)with
  | int i=>cases(y)with|int j=>exact .inl ⟨_,_,rfl,rfl,(Ft h).symm⟩|_=>exact G9 h
  | _=>exact G9 h
 | succ k=>
  cases(x)with
  | int i=>cases(y)with|int j=>exact .inl ⟨_,_,rfl,rfl,(Ft h).symm⟩|_=>exact G9 h
  | tup l=>cases(y)with|tup m=>exact .inr ⟨k,l,m,rfl,rfl,rfl,h⟩|_=>exact G9 h
  | _=>exact G9 h
theorem zH{a a':Addr}{n':Nat}{vs ws:Array Value}{P:Value->Shared->Prop}{b:Bool}(hu:A.units<cLine)(ht:IsT s.heap a vs n)(ht':IsT s.heap a' ws n')
  (h:wpAny W.M A.in1 (Builtin.«tuple.__lt__» ⟨[.ref a,.ref a'],[]⟩) (λ f s'=>f=.done (.ret (.bool b))/\s'=s) NoE s)(q:P (.bool b) s):wpAny W.M A (richCompare .Lt (.ref a) (.ref a')) P NoE s:=by
 refine wpAny_richCompare_same_room (op:=.Lt) (bC ht) (bC ht') Mq
   (HT Mq (bC ht) PySem.F.entry_tuple_lt (Fy h (λ f s' hr=>?_) λ Y Y x=>x) (PySem.F.args_tuple_lt_2 _ _)) hu
 obtain⟨rfl,rfl⟩:=hr
 exact⟨_,rfl,(by intro e;cases e),q⟩
theorem ltI{i j:Int}{v':Value}{P:Value->Shared->Prop}(vx:VR W.h0 s.heap O v (.int i))(vy:VR W.h0 s.heap O v' (.int j))(q:P (.bool (decide (i<j))) s):wpAny W.M A (richCompare .Lt v v') P NoE s:=by
 obtain⟨t,rfl⟩:=vx.int_inv
 obtain⟨u,rfl⟩:=vy.int_inv
 exact(show wpAny W.M A (compareOp .Lt (.int i t) (.int j u)) P NoE s from lt_int q)
theorem rY(R:Rep W V O s)(n:Nat):∀{A:Around}(hu:A.units+n+64<cLine) (x y:AV) (b:Bool) (v v':Value) (P:Value->Shared->Prop),
  VR W.h0 s.heap O v x->VR W.h0 s.heap O v' y->ltN n x y=some b->P (.bool b) s->wpAny W.M A (richCompare .Lt v v') P NoE s:=by
 induction n with
 | zero=>
  intro A hu x y b v v' P vx vy h q
  rcases qo h with⟨i,j,rfl,rfl,rfl⟩|⟨k,l,m,e,_⟩
  ·exact ltI vx vy q
  ·cases e
 | succ n ih=>
  intro A hu x y b v v' P vx vy h q
  rcases qo h with⟨i,j,rfl,rfl,rfl⟩|⟨k,l,m,e,rfl,rfl,hl⟩
  ·exact ltI vx vy q
  ·obtain rfl:=Nr e
   obtain⟨a,k,vs,rfl,ht,hv⟩:=vx.tup_inv
   obtain⟨a',k',ws,rfl,ht',hw⟩:=vy.tup_inv
   have hu1:A.in1.units+n+64<cLine:=by rw[Around.in1_units];exact Fe (Gr (Fw (GC _ _)) 64) hu
   exact zH (Fe (fp (Fi _ _) (Fi _ _)) hu) ht ht' (rX (by lia) R (λ x y b v v' P a b' c d=>ih hu1 x y b v v' P a b' c d) ht ht' hv hw hl ⟨rfl,rfl⟩) q
noncomputable def eqC(V:Sto)(x y:AV):Option Bool:=match x with
 | .int a=>match y with
  | .int b=>some (decide (a=b))
  | _=>eqS V x y
 | .str a=>match y with
  | .str b=>some (decide (a=b))
  | _=>eqS V x y
 | _=>eqS V x y
noncomputable def tJ(x y:AV)(f:Int->Int->Bool):Option Bool:=match x with
 | .int a=>match y with
  | .int b=>some (f a b)
  | _=>Option.none
 | _=>Option.none
noncomputable def inC(x y:AV):Option Bool:=match y with
 | .str b=>match x with
  | .str c=>match c with
   | [c]=>some (decide (c∈b))
   | _=>Option.none
  | _=>Option.none
 | _=>Option.none
noncomputable def Em(x y:AV):Option Bool:=match y with
 | .none=>match x with
  | .int _=>some true
  | .none=>some false
  | _=>Option.none
 | _=>Option.none
noncomputable def cC(V:Sto)(op:CmpOp)(x y:AV):Option Bool:=match op with
 | .Eq=>eqC V x y
 | .NotEq=>(eqC V x y).map (!·)
 | .Gt=>tJ x y λ a b=>decide (b<a)
 | .GtE=>tJ x y λ a b=>decide (b<=a)
 | .LtE=>tJ x y λ a b=>decide (a<=b)
 | .Lt=>ltN 4 x y
 | .In=>inC x y
 | .IsNot=>Em x y
 | _=>Option.none
theorem fP(a b:List Nat):((⟨a.toArray⟩:Str)==⟨b.toArray⟩)=decide (a=b):=by
 rw[Ie,beq_iff_eq,decide_eq_true_eq]
 constructor
 ·intro h;injection h with h;simpa using h
 ·rintro rfl;rfl
theorem tK{y:AV}{c:Bool}(h:eqC V x y=some c):eqS V x y=some c\/∃a b,x=.str a/\y=.str b/\decide (a=b)=c:=by
 cases x with
 | int a=>
  cases y with
  | int b=>exact .inl ((congrArg some (show PyData.eqv (.int a) (.int b)=decide (a=b) by rw[PyData.eqv];rw[Ie];simp)).trans h)
  | _=>exact .inl h
 | str a=>
  cases y with
  | str b=>exact .inr ⟨a,b,rfl,rfl,Ft h⟩
  | _=>exact .inl h
 | _=>exact .inl h
theorem wQ{y:AV}{f:Int->Int->Bool}{c:Bool}(h:tJ x y f=some c):∃a b,x=.int a/\y=.int b/\f a b=c:=by
 cases x with
 | int a=>cases y with|int b=>exact⟨a,b,rfl,rfl,Ft h⟩|_=>exact G9 h
 | _=>exact G9 h
theorem mr{P:Value->Shared->Prop}{op:CmpOp}{v':Value}{y:AV}{b:Bool}{f:Int->Int->Bool}(vx:VR W.h0 s.heap O v x)(vy:VR W.h0 s.heap O v' y)
  (h:tJ x y f=some b)(q:P (.bool b) s)(go:∀{a b t u},P (.bool (f a b)) s->wpAny W.M A (compareOp op (.int a t) (.int b u)) P NoE s):wpAny W.M A (compareOp op v v') P NoE s:=by
 refine xE (wQ h) λ a Z=>xE Z λ b J=>(λ θ ξ ϑ=>?_) J.1 J.2.1 J.2.2;rcases θ with rfl;rcases ξ with rfl;rcases ϑ with rfl;clear Z J
 refine xE vx.int_inv λ t Z=>?_;rcases Z with rfl;refine xE vy.int_inv λ u Z=>?_;rcases Z with rfl
 exact go q
theorem eV{P:Value->Shared->Prop}{op:CmpOp}{v':Value}{y:AV}{b:Bool}(hu:A.units+80<cLine)(R:Rep W V O s)(vx:VR W.h0 s.heap O v x)(vy:VR W.h0 s.heap O v' y)
  (h:cC V op x y=some b)(q:P (.bool b) s):wpAny W.M A (compareOp op v v') P NoE s:=by
 induction op with
 | Eq=>
  rcases tK h with g|⟨a,c,rfl,rfl,rfl⟩
  ·exact tG (Fe (by simp) hu) R vx vy g q
  ·refine xE vx.str_inv λ t Z=>?_;rcases Z with rfl;refine xE vy.str_inv λ u Z=>?_;rcases Z with rfl
   exact eq_str (by rw[fP];exact q)
 | NotEq=>
  refine xE (Gu.mp h) λ c Z=>(λ g J=>?_) Z.1 Z.2;rcases J with rfl;clear Z
  rcases tK g with g|⟨a,c,rfl,rfl,rfl⟩
  ·exact tH (Fe (by simp) hu) R vx vy g q
  ·refine xE vx.str_inv λ t Z=>?_;rcases Z with rfl;refine xE vy.str_inv λ u Z=>?_;rcases Z with rfl
   exact ne_str (by unfold bne;rw[fP];exact q)
 | Gt=>exact mr vx vy h q gt_int
 | GtE=>exact mr vx vy h q ge_int
 | LtE=>exact mr vx vy h q le_int
 | Lt=>exact(show wpAny _ _ (richCompare .Lt _ _) _ _ _ from rY R 4 (Fe (by simp) hu) _ _ _ _ _ _ vx vy h q)
 | In=>
  cases y with
  | str w=>
   cases x with
   | str c=>
    refine xE vx.str_inv λ t Z=>?_;rcases Z with rfl;refine xE vy.str_inv λ u Z=>?_;rcases Z with rfl
    cases c with
    | nil=>exact G9 h
    | cons c r=>
     cases r with
     | nil=>
      obtain rfl:=Ft h
      have e:=StrLaws.found_one ⟨w.toArray⟩ c
      rw[List.toList_toArray]at e
      refine in_str ?_
      rw[e]
      exact q
     | cons _ _=>exact G9 h
   | _=>exact G9 h
  | _=>exact G9 h
 | IsNot=>
  cases y with
  | none=>
   obtain rfl:=vy.none_inv
   cases x with
   | int i=>
    refine xE vx.int_inv λ t Z=>?_;rcases Z with rfl;cases h
    exact isNot_none q
   | none=>
    obtain rfl:=vx.none_inv;cases h
    exact isNot_none q
   | _=>exact G9 h
  | _=>exact G9 h
 | _=>exact G9 h
def C2(op:Operator)(a b:PT):PT:=λ st Q V=>a st (λ x ON=>b st (λ y OS=>cK op x y Q OS) ON) V
theorem J3{l r:Expr}{op:Operator}{pos:Pos}{a b:PT}(hl:J0 W k F l a)(hr:J0 W k F r b):J0 W k F (.BinOp l op r pos) (C2 op a b):=by
 intro A env s V O st Q ro R f hp
 refine wpAny_BinOp (hl.then ro R f hp λ v OQ ON OV x q OR OW vx OU Pb=>?_)
 refine hr.then ro OR OW q λ v' Pl OS Pc y q OY Ph vy OX Pg=>?_
 exact Fy (rV OY (VR.mono Pg vx) vy q) (λ Y Y p=>.after (OU.trans OX) p) λ Y Y x=>x
def I9(a:PT):PT:=λ st Q V=>a st (λ x ON=>inI x λ i=>Q (.int (-i)) ON) V
theorem jF{l:Expr}{pos:Pos}{a:PT}(hl:J0 W k F l a):J0 W k F (.UnaryOp .USub l pos) (I9 a):=by
 intro A env s V O st Q ro R f hp
 show wpAny _ A (do let v <- eval l env;standAt pos;holding [v] (unaryOp .USub v)) _ _ s
 refine nt (hl.then ro R f hp λ v OQ ON OV x q OR OW vx OU Pb=>?_)
 refine nt (GH (Gl ?_))
 obtain⟨i,rfl,q⟩:=W7 q
 obtain⟨t,rfl⟩:=vx.int_inv
 exact neg_int (.after OU (.now OR (.int _ _) q))
def nN(op:CmpOp)(x y:AV)(Q:Bool->Sto->Prop)(V:Sto):Prop:=inO (cC V op x y) λ b=>Q b V
theorem jf{op:CmpOp}{y:AV}{Q:Bool->Sto->Prop}(h:nN op x y Q V):Is some (cC V op x y) λ b=>Q b V:=U7 h
def L4(op:CmpOp)(a b:PT):PT:=λ st Q V=>a st (λ x ON=>b st (λ y OS=>nN op x y (λ c=>Q (.bool c)) OS) ON) V
theorem wR{l r:Expr}{op:CmpOp}{pos:Pos}{a b:PT}(hl:J0 W k F l a)(hr:J0 W k F r b)(hm:behindInMarks op r=false):J0 W k F (.Compare l [op] [r] pos) (L4 op a b):=by
 intro A env s V O st Q ro R f hp
 refine wpAny_Compare1 (hl.then ro R f hp λ v OQ ON OV x q OR OW vx OU Pb=>?_) hm
 refine hr.then ro OR OW q λ v' Pl OS Pc y q OY Ph vy OX Pg=>?_
 obtain⟨c,h1,h2⟩:=jf q
 exact eV (by have:=ro.units;exact zzr this) OY (VR.mono Pg vx) vy h1 (.after (OU.trans OX) (.here OY (.bool c) h2))
abbrev TT:=List AV->(Bool->Sto->Prop)->Sto->Prop
inductive dI(W:Wld)(X:List Addr)(O:Mp)(h:Heap)(Q:Bool->Sto->Prop)(b:Bool)(s':Shared):Prop
 | mk (OP OT:_):Q b OP->Rep W OP OT s'->E8 W X O h OT s'.heap->dI W X O h Q b s'
def bg(W:Wld)(k:Nat)(F:Fm)(e:Expr)(t:TT):Prop:=
 ∀(A:Around) (env:Env) (s:Shared) (V:Sto) (O:Mp) (st:List AV) (Q:Bool->Sto->Prop),N3 k A->Rep W V O s->FrR W F env st s.heap O->t st Q V->
  wpAny W.M A (isTrue e env (eval e env)) (dI W [] O s.heap Q) NoE s
theorem bg.run{e:Expr}{t:TT}(E:bg W k F e t){Q:Bool->Sto->Prop}:N3 k A->Rep W V O s->FrR W F env st s.heap O->t st Q V->
  wpAny W.M A (isTrue e env (eval e env)) (dI W [] O s.heap Q) NoE s:=
 E A env s V O st Q
theorem dI.after{X:List Addr}{OT:Mp}{Q:Bool->Sto->Prop}{b:Bool}{s':Shared}(S:E8 W X O h OT h')(p:dI W X OT h' Q b s'):dI W X O h Q b s':=by
 obtain⟨OP,PM,q,r,S'⟩:=p
 exact⟨OP,PM,q,r,S.trans S'⟩
theorem bg.then{e:Expr}{p:TT}(E:bg W k F e p){Q:Bool->Sto->Prop}{P:Bool->Shared->Prop}
  (r:N3 k A)(R:Rep W V O s)(f:FrR W F env st s.heap O)(hp:p st Q V)
  (go:∀b s' OP OT,Q b OP->Rep W OP OT s'->FrR W F env st s'.heap OT->E8 W [] O s.heap OT s'.heap->Sub s.heap O s'.heap OT->P b s'):
  wpAny W.M A (isTrue e env (eval e env)) P NoE s:=
 Fy (E.run r R f hp) (λ v s' h=>by
  obtain⟨OP,OT,q,R',S⟩:=h
  exact go v s' OP OT q R' (f.step0 S (R.sub0 S)) S (R.sub0 S)) λ Y Y x=>x
def D7(op:CmpOp)(a b:PT):TT:=λ st Q V=>a st (λ x ON=>b st (λ y OS=>nN op x y Q OS) ON) V
theorem Q4{l r:Expr}{op:CmpOp}{pos:Pos}{a b:PT}(hl:J0 W k F l a)(hr:J0 W k F r b)(hm:behindInMarks op r=false):bg W k F (.Compare l [op] [r] pos) (D7 op a b):=by
 intro A env s V O st Q ro R f hp
 refine wpAny_isTrue_Compare1 (hl.then ro R f hp λ v OQ ON OV x q OR OW vx OU Pb=>?_) hm
 refine hr.then ro OR OW q λ v' Pl OS Pc y q OY Ph vy OX Pg=>?_
 obtain⟨c,h1,h2⟩:=jf q
 exact eV (by have:=ro.units;exact zzr this) OY (VR.mono Pg vx) vy h1 (Je ⟨_,_,h2,OY,OU.trans OX⟩)
def L3(a:TT):TT:=λ st Q V=>a st (λ b=>Q (!b)) V
theorem zI{l:Expr}{pos:Pos}{a:TT}(hl:bg W k F l a):bg W k F (.UnaryOp .Not l pos) (L3 a):=by
 intro A env s V O st Q ro R f hp
 exact isTrue_not (Fy (hl.run ro R f hp) (λ b s' ⟨V,O,q,R,S⟩=>⟨V,O,q,R,S⟩) λ Y Y x=>x)
def L1(a b:TT):TT:=λ st Q V=>a st (λ c ON=>if c=true then b st Q ON else Q false ON) V
def tOr(a b:TT):TT:=λ st Q V=>a st (λ c ON=>if c=true then Q true ON else b st Q ON) V
theorem rZ{l r:Expr}{pos:Pos}{a b:TT}(hl:bg W k F l a)(hr:bg W k F r b):bg W k F (.BoolOp .And [l,r] pos) (L1 a b):=by
 intro A env s V O st Q ro R f hp
 refine isTrue_and (hl.then ro R f hp λ c OQ ON OV q OR OW OU Pb=>?_)
 induction c with
 | true=>
  refine isTrue_and (hr.then ro OR OW q λ c Pl OS Pc q OY Ph OX Pg=>?_)
  induction c with
  | true=>exact isTrue_and_nil ⟨_,_,q,OY,OU.trans OX⟩
  | false=>exact⟨_,_,q,OY,OU.trans OX⟩
 | false=>
  exact⟨_,_,q,OR,OU⟩
theorem uOr{l r:Expr}{pos:Pos}{a b:TT}(hl:bg W k F l a)(hr:bg W k F r b):bg W k F (.BoolOp .Or [l,r] pos) (tOr a b):=by
 intro A env s V O st Q ro R f hp
 refine MJ (hl.then ro R f hp λ c OQ ON OV q OR OW OU Pb=>?_)
 induction c with
 | true=>
  exact⟨_,_,q,OR,OU⟩
 | false=>
  refine MJ (hr.then ro OR OW q λ c Pl OS Pc q OY Ph OX Pg=>?_)
  induction c with
  | true=>exact⟨_,_,q,OY,OU.trans OX⟩
  | false=>exact isTrue_or_nil ⟨_,_,q,OY,OU.trans OX⟩
noncomputable def tL(V:Sto):AV->Option Bool
 | .bool b=>some b
 | .ref i=>(lst V i).bind λ l=>if l.length<=lim then some (!l.isEmpty)else Option.none
 | .int i=>some (decide (i≠0))
 | _=>Option.none
def r0(x:AV)(Q:Bool->Sto->Prop)(V:Sto):Prop:=inO (tL V x) λ b=>Q b V
theorem gh{Q:Bool->Sto->Prop}{b:Bool}(h:tL V x=some b)(q:Q b V):r0 x Q V:=by
 unfold r0;rw[h];exact q
noncomputable def kX:Expr->Bool
 | .UnaryOp .Not _ _=>false
 | .BoolOp ..=>false
 | .IfExp ..=>false
 | .Compare ..=>false
 | _=>true
set_option tactic.hygienic true in
theorem mu{e:Expr}(h:kX e=true):isTrue e env (eval e env)=(do let v <- eval e env;standAt e.pos;holding [v] (truthy v)):=by
 cases e <;> first|rfl|(cases h)|skip
 rename_i op x p
 cases op <;> first|rfl|cases h
theorem nP{i:Int}{t:Tok}{Q:Bool->Shared->Prop}(h:Q (decide (i≠0)) s):wpAny W.M A (truthy (.int i t)) Q NoE s:=
 truthy_int (by rw[show(i != 0)=decide (i≠0)from by unfold bne;rw[show(i==0)=decide (i=0)from by rw[Ie];simp];simp];exact h)
def J4(a:PT):TT:=λ st Q V=>a st (λ x ON=>r0 x Q ON) V
theorem mv{l:Expr}{a:PT}(hl:J0 W k F l a)(hp:kX l=true):bg W k F l (J4 a):=by
 intro A env s V O st Q ro R f h
 rw[mu hp]
 refine nt (hl.then ro R f h λ v OQ ON OV x q OR OW vx OU Pb=>?_)
 refine nt (GH (Gl ?_))
 obtain⟨b,e,q⟩:=U7 q
 cases x with
 | bool c=>
  cases e
  obtain rfl:=vx.bool_inv
  exact Je ⟨_,_,q,OR,OU⟩
 | ref i=>
  obtain⟨l,h1,h2⟩:=GA.mp e
  by_cases hlen:l.length<=lim
  ·rw[if_pos hlen]at h2
   cases h2
   obtain⟨a,n,vs,rfl,_,hl,hv⟩:=vx.ref_list OR h1
   refine wpAny_truthy_list hl.isList (GP.mpr (show vs.length<2 ^ 63 by rw[hv.length];exact Fe hlen (by decide))) ?_
   rw[show(!vs.toArray.isEmpty) = !l.isEmpty by cases hv <;> rfl]
   exact⟨_,_,q,OR.toks OQ.drawn _,OU⟩
  ·rw[if_neg hlen]at h2;exact G9 h2
 | int i=>
  cases e
  obtain⟨t,rfl⟩:=vx.int_inv
  exact nP ⟨_,_,q,OR,OU⟩
 | _=>exact G9 e
def pIf(t:TT)(a b:PT):PT:=λ st Q V=>t st (λ c ON=>if c=true then a st Q ON else b st Q ON) V
theorem xIf{e l r:Expr}{pos:Pos}{t:TT}{a b:PT}(ht:bg W k F e t)(hl:J0 W k F l a)(hr:J0 W k F r b):J0 W k F (.IfExp e l r pos) (pIf t a b):=by
 intro A env s V O st Q ro R f hp
 show wpAny _ A (do if <- isTrue e env (eval e env)then eval l env else eval r env) _ _ s
 refine nt (ht.then ro R f hp λ c OQ ON OV q OR OW OU Pb=>?_)
 induction c with
 | true=>exact Fy (hl.run ro OR OW q) (λ Y Y p=>.after OU p) λ Y Y x=>x
 | false=>exact Fy (hr.run ro OR OW q) (λ Y Y p=>.after OU p) λ Y Y x=>x
abbrev PTs:=List AV->(List AV->Sto->Prop)->Sto->Prop
inductive mw(W:Wld)(O:Mp)(h:Heap)(Q:List AV->Sto->Prop)(vs:List Value)(s':Shared):Prop
 | mk (OP OT xs:_):Q xs OP->Rep W OP OT s'->VRs W.h0 s'.heap OT vs xs->E8 W [] O h OT s'.heap->mw W O h Q vs s'
def aH(W:Wld)(k:Nat)(F:Fm)(es:List Expr)(p:PTs):Prop:=
 ∀(A:Around) (env:Env) (s:Shared) (V:Sto) (O:Mp) (st:List AV) (Q:List AV->Sto->Prop) (pos:Pos),N3 k A->Rep W V O s->FrR W F env st s.heap O->p st Q V->
  wpAny W.M A (spliced (backTo pos (starEach es env))) (mw W O s.heap Q) NoE s
theorem aH.run{es:List Expr}{p:PTs}(E:aH W k F es p){Q:List AV->Sto->Prop}(pos:Pos):N3 k A->Rep W V O s->FrR W F env st s.heap O->p st Q V->
  wpAny W.M A (spliced (backTo pos (starEach es env))) (mw W O s.heap Q) NoE s:=
 E A env s V O st Q pos
noncomputable def aU:Expr->Bool
 | .Starred ..=>false
 | _=>true
theorem Z4{e:Expr}{r:List Expr}(h:aU e=true):starEach (e::r) env=(false,eval e env)::starEach r env:=by
 cases e <;> first|rfl|cases h
def A7:PTs:=λ st Q V=>Q [] V
def A6(a:PT)(r:PTs):PTs:=λ st Q V=>a st (λ x ON=>r st (λ xs OS=>Q (x::xs) OS) ON) V
theorem D5:aH W k F [] A7:=by
 intro A env s V O st Q pos ro R f hp
 exact spliced_nil ⟨_,_,_,hp,R,.nil,E8.rfl'⟩
theorem B0{e:Expr}{r:List Expr}{a:PT}{p:PTs}(he:J0 W k F e a)(hr:aH W k F r p)(hn:aU e=true):aH W k F (e::r) (A6 a p):=by
 intro A env s V O st Q pos ro R f hp
 rw[Z4 hn]
 show wpAny _ A (spliced ((false,eval e env)::backTo pos (starEach r env))) _ _ _
 refine spliced_cons (he.then ro R f hp λ v OQ ON OV x q OR OW vx OU Pb=>?_)
 refine Fy (hr.run pos ro OR OW q) (λ vs Pl h=>?_) λ Y Y x=>x
 obtain⟨OS,Pc,xs,q,OY,vr,OX⟩:=h
 exact⟨OS,Pc,_,q,OY,.cons (VR.mono (OR.sub0 OX) vx) vr,OU.trans OX⟩
def C9(p:PTs):PT:=λ st Q V=>p st (λ xs ON=>xs.length<=lim/\Q (.ref ON.length) (ON++[.list xs])) V
def I8(p:PTs):PT:=λ st Q V=>p st (λ xs ON=>xs.length<=lim/\Q (.tup xs) ON) V
theorem fQ{Q:Value->Shared->Prop}(hz:vs.length<=lim)(h:Q (.ref s.heap.objs.size) { s with heap:=s.heap.push { cls:=.type "list",data:=.seq vs.toArray } }):wpAny W.M A (newList vs) Q NoE s:=
 IC h (by show vs.toArray.size<=sizeLine;rw[HM];exact fp hz O5)
theorem nQ{Q:Value->Shared->Prop}(hz:vs.length<=lim)(h:Q (.ref s.heap.objs.size) { s with heap:=s.heap.push { cls:=.type "tuple",data:=.seq vs.toArray } }):wpAny W.M A (newTuple vs) Q NoE s:=
 IC h (by show vs.toArray.size<=sizeLine;rw[HM];exact fp hz O5)
theorem Q5{es:List Expr}{pos:Pos}{p:PTs}(h:aH W k F es p):J0 W k F (.List es pos) (C9 p):=by
 intro A env s V O st Q ro R f hp
 refine List_ (Fy (h.run pos ro R f hp) (λ vs OQ hv=>?_) λ Y Y x=>x)
 obtain⟨ON,OV,xs,q,OR,vr,OU⟩:=hv
 exact fQ (by rw[vr.length];exact q.1) (.after OU (.newList OR vr q.2))
theorem g9{es:List Expr}{pos:Pos}{p:PTs}(h:aH W k F es p):J0 W k F (.Tuple es n pos) (I8 p):=by
 intro A env s V O st Q ro R f hp
 refine Tuple_ (Fy (h.run pos ro R f hp) (λ vs OQ hv=>?_) λ Y Y x=>x)
 obtain⟨ON,OV,xs,q,OR,vr,OU⟩:=hv
 exact nQ (by rw[vr.length];exact q.1) (.after OU (.newTup OR vr q.2))
noncomputable def at'{α:Type}(l:List α)(k:Int):Option α:=if 0<=k then l[k.toNat]? else if -(l.length:Int)<=k then l[(k+l.length).toNat]? else Option.none
noncomputable def Bt(V:Sto)(x:AV)(k:Int):Option AV:=match x with
 | .ref i=>(lst V i).bind λ l=>at' l k
 | .tup l=>at' l k
 | .str s=>(at' s k).map λ c=>.str [c]
 | .clist l=>(at' l k).map .int
 | _=>Option.none
def bh(x y:AV)(Q:AV->Sto->Prop)(V:Sto):Prop:=inI y λ k=>(-1000000<k/\k<1000000)/\inO (Bt V x k) λ r=>Q r V
theorem bq{k:Int}{r:AV}(h1:-1000000<k/\k<1000000)(h2:Bt V x k=some r)(q:Q r V):bh x (.int k) Q V:=
 ⟨h1,show inO _ _ from h2▸q⟩
theorem hE{l:List α}{k:Int}{x:α}(h:at' l k=some x):(0<=k/\l[k.toNat]?=some x)\/(k<0/\-(l.length:Int)<=k/\l[(k+l.length).toNat]?=some x):=by
 unfold at' at h
 by_cases h0:0<=k
 ·rw[if_pos h0]at h;exact .inl ⟨h0,h⟩
 ·rw[if_neg h0]at h
  by_cases h1:-(l.length:Int)<=k
  ·rw[if_pos h1]at h;exact .inr ⟨JK.mp h0,h1,h⟩
  ·rw[if_neg h1]at h;exact G9 h
theorem qp{l:List α}{k:Int}{x:α}(h:at' l k=some x):∃j,seqIndex? k l.length=some j/\l[j]?=some x:=by
 rcases hE h with⟨h0,h⟩|⟨h0,h1,h⟩
 ·refine⟨k.toNat,?_,h⟩
  have hl:=(FC.mp h).1
  have e2:k<l.length:=(OB h0).mp hl
  simp[seqIndex?,Ha.mpr h0,h0,e2]
 ·refine⟨_,?_,h⟩
  have hl:=(FC.mp h).1
  have e1:0<=k+l.length:=by lia
  have e2:k+l.length<l.length:=HA (Int.add_lt_add_right h0 _) (HN (GR _))
  simp[seqIndex?,h0,e1,e2]
theorem dJ{l:Addr}{items:List Value}{k:Int}{t:Tok}{x:Value}{Q:Value->Shared->Prop}(hl:s.heap.IsList l items.toArray)(hk:-1000000<k/\k<1000000)(hx:at' items k=some x)
  (h:Q x s):wpAny W.M A (getItem (.ref l) (.int k t)) Q NoE s:=by
 rcases hE hx with⟨h0,hx⟩|⟨h0,h1,hx⟩
 ·exact wpAny_getItem_list hl h0 (Iv hk.2 (by decide)) (by rw[Hb];exact hx) h
 ·exact wpAny_getItem_list_neg hl h0 h1 (FI (by decide) (FT hk.1)) (by rw[Hb];exact hx) h
theorem nR{β:Type}{vs:List α}{l:List β}{k:Int}{x:β}{R:α->Prop}(hz:vs.length=l.length)(hg:∀i:Nat,l[i]?=some x->∃v,vs[i]?=some v/\R v)(hx:at' l k=some x):∃v,Internal.at' vs k=some v/\R v:=by
 unfold Internal.at'
 rcases hE hx with⟨h0,hx⟩|⟨h0,h1,hx⟩
 ·rw[if_pos h0];exact hg _ hx
 ·rw[if_neg (JK.mpr h0),hz,if_pos h1];exact hg _ hx
theorem VRs.at'{h0:Heap}{k:Int}(hv:VRs h0 h O vs l)(hx:at' l k=some x):∃v,Internal.at' vs k=some v/\VR h0 h O v x:=
 nR hv.length (λ Y h=>hv.get h) hx
theorem eW{value slice:Expr}{o i:Value}{T id:String}{Q:Value->Shared->Prop}(hT:s.TypeIs o T)
  (hl:typeLookup (.type T) "__getitem__" = pure (some (.builtin id)))(h:wpAny W.M A (getItem o i) Q NoE s)
  (hs:subscripted slice false o i=operate [o,i] (getItem o i)\/subscripted slice false o i=operate [i,o] (getItem o i)):
  wpAny W.M A (subscriptTail value slice o i) Q NoE s:=by
 unfold subscriptTail
 refine nt ?_
 rw[getitemInPython_of_ne hT.not_modules]
 refine nt (Oh hT hl ?_)
 have fin:wpAny W.M A (subscripted slice false o i) (λ r Pj=>wpAny W.M A (letTemporaryGo value o r >>= λ Y=>pure r) Q NoE Pj) NoE s:=by
  rcases hs with hs|hs
  ·rw[hs]
   exact Mj (Fy h (λ r Pj Qj=>nt (MI (Fp Qj))) λ Y Y x=>x)
  ·rw[hs]
   exact Mj (Fy h (λ r Pj Qj=>nt (MI (Fp Qj))) λ Y Y x=>x)
 first
  | exact Fp (nt fin)
  | exact nt (Fp (nt fin))
  | exact nt fin
noncomputable def dK:Expr->Bool
 | .Slice ..=>false
 | _=>true
theorem gj{slice:Expr}{o i:Value}(h:dK slice=true):subscripted slice false o i=operate [o,i] (getItem o i):=by
 cases slice with
 | Slice=>cases h
 | _=>rfl
theorem pq{l:List Int}(h:IntsAre vs l):∀{i:Nat}{x:Int},l[i]?=some x->∃t,vs[i]?=some (.int x t):=by
 induction h with
 | nil=>intro i x e;simp at e
 | cons n t h ih=>
  intro i x e
  cases i with
  | zero=>simp at e;subst e;exact⟨t,rfl⟩
  | succ i=>simpa using ih (by simpa using e)
def D1(a b:PT):PT:=λ st Q V=>a st (λ x ON=>b st (λ y OS=>bh x y Q OS) ON) V
theorem r9{v':Value}{y:AV}{value slice:Expr}(R:Rep W V O s)(vx:VR W.h0 s.heap O v x)(vy:VR W.h0 s.heap O v' y)
  (h:bh x y Q V)(hn:dK slice=true):wpAny W.M A (subscriptTail value slice v v') (H9 W [] O s.heap Q) NoE s:=by
 obtain⟨k,rfl,hk,g⟩:=W7 h
 obtain⟨r,e,q⟩:=U7 g
 clear h g
 refine xE vy.int_inv λ u Z=>?_;rcases Z with rfl
 have hs:∀{o i},subscripted slice false o i=operate [o,i] (getItem o i)\/subscripted slice false o i=operate [i,o] (getItem o i):=.inl (gj hn)
 cases x with
 | ref i=>
  refine xE (GA.mp e) λ l Z=>(λ h1 h2=>?_) Z.1 Z.2;clear Z
  obtain⟨a,n,vs,rfl,_,hl,hv⟩:=vx.ref_list R h1
  refine xE (hv.at' h2) λ v Z=>(λ e1 e2=>?_) Z.1 Z.2;clear Z
  exact eW ⟨_,hl,rfl⟩ Kh.lookup (dJ hl.isList hk e1 (.here R e2 q)) hs
 | tup l=>
  obtain⟨a,n,vs,rfl,ht,hv⟩:=vx.tup_inv
  refine xE (hv.at' e) λ v Z=>(λ e1 e2=>?_) Z.1 Z.2;clear Z
  refine xE (qp e1) λ j Z=>(λ e3 e4=>?_) Z.1 Z.2;clear Z
  exact eW (bC ht) PySem.F.slot_tuple_getitem.lookup (P.getItem_tuple ht (FI (by decide) (FT hk.1)) (Iv hk.2 (by decide)) e3 (by rw[Hb];exact e4) (.here R e2 q)) hs
 | str l=>
  refine xE vx.str_inv λ t Z=>?_;rcases Z with rfl
  refine xE (Gu.mp e) λ c Z=>(λ e5 J=>?_) Z.1 Z.2;rcases J with rfl;clear Z
  refine xE (qp e5) λ j Z=>(λ e3 e4=>?_) Z.1 Z.2;clear Z
  refine eW (T:="str") rfl NK.lookup (getItem_str (c:=c) (by rw[decide_eq_false (Ha.mpr (FI (by decide) (FT hk.1))),decide_eq_false (JK.mpr (Iv hk.2 (by decide)))];rfl) ?_ (.now R (.str #[c] _) q)) hs
  show(seqIndex? k l.toArray.size).bind _=_
  rw[HM,e3]
  exact(Hb ..).trans e4
 | clist l=>
  obtain⟨a,vs,rfl,hl,hi⟩:=vx.clist_inv
  refine xE (Gu.mp e) λ c Z=>(λ e5 J=>?_) Z.1 Z.2;rcases J with rfl;clear Z
  refine xE hl λ o Z=>(λ ho hc r=>?_) Z.1 Z.2.1 Z.2.2;clear hl Z
  have ho':=R.old.get_of_cls ho (by rw[hc];intro e;cases e)
  refine xE (nR (R:=λ v=>∃t,v=.int c t) hi.length (λ i h=>let ⟨t,h⟩:=pq hi h;⟨_,h,t,rfl⟩) e5) λ v Z=>?_;rcases Z with⟨e',t,rfl⟩
  exact eW ⟨o,ho',hc⟩ Kh.lookup (dJ ⟨o,ho',hc,r⟩ hk e' (.here R (.int c t) q)) hs
 | _=>exact G9 e
theorem L8{l r:Expr}{pos:Pos}{a b:PT}(hl:J0 W k F l a)(hr:J0 W k F r b)(hn:dK r=true):J0 W k F (.Subscript l r pos) (D1 a b):=by
 intro A env s V O st Q ro R f hp
 refine Subscript_ (hl.then ro R f hp λ v OQ ON OV x q OR OW vx OU Pb=>?_)
 refine hr.then ro OR OW q λ v' Pl OS Pc y q OY Ph vy OX Pg=>?_
 exact Fy (r9 OY (VR.mono Pg vx) vy q hn) (λ Y Y p=>.after (OU.trans OX) p) λ Y Y x=>x
noncomputable def c6{α:Type}(xs:List α)(lo hi:Option Int):List α:=(xs.drop (lo.getD 0).toNat).take ((match hi with|some h=>h.toNat|Option.none=>xs.length)-(lo.getD 0).toNat)
def i7(x:Option Int):Prop:=match x with|some i=>0<=i|Option.none=>True
theorem nS(xs:List α)(a b:Nat):(xs.drop (min a xs.length)).take (min b xs.length-min a xs.length)=(xs.drop a).take (b-a):=by
 rcases LQ a xs.length with h|h
 ·rw[Hm h,List.take_eq_take_iff,Ho,<- Nat.sub_min_sub_right,Nat.min_assoc,OD]
 ·rw[Kz h,Lv,Js h,KC,KC]
theorem se(xs:List α)(a:Nat):(xs.drop (min a xs.length)).take (xs.length-min a xs.length)=(xs.drop a).take (xs.length-a):=by
 have:=nS xs a xs.length
 rwa [OD]at this
noncomputable def loN(lo:Option Int)(n:Nat):Nat:=min (lo.getD 0).toNat n
noncomputable def hiN(hi:Option Int)(n:Nat):Nat:=match hi with|some h=>min h.toNat n|Option.none=>n
theorem tM{hi:Option Int}:hiN hi n<=n:=by
 induction hi with
 | none=>exact Fn _
 | some h=>exact LB ..
theorem pv(xs:List α)(lo hi:Option Int):c6 xs lo hi=(xs.drop (loN lo xs.length)).take (hiN hi xs.length-loN lo xs.length):=by
 induction hi with
 | none=>exact(se xs _).symm
 | some h=>exact(nS xs _ _).symm
theorem kH(vs:List Value){lo hi:Option Int}(h1:i7 lo)(h2:i7 hi):slicePick vs.toArray lo hi none=(c6 vs lo hi).toArray:=by
 have e1:lo.elim 0 (clipAt vs.toArray.size)=loN lo vs.length:=by
  induction lo with
  | none=>exact(OE _).symm
  | some a=>refine xE (Hn h1) λ m Z=>?_;rcases Z with rfl;exact clipAt_nat _ m
 have e2:hi.elim vs.toArray.size (clipAt vs.toArray.size)=hiN hi vs.length:=by
  induction hi with
  | none=>rfl
  | some a=>refine xE (Hn h2) λ m Z=>?_;rcases Z with rfl;exact clipAt_nat _ m
 rw[slicePick_plain,e1,e2,pv]
theorem VRs.cut{h0:Heap}(hv:VRs h0 h O vs l)(lo hi:Option Int):VRs h0 h O (c6 vs lo hi) (c6 l lo hi):=by
 unfold c6
 rw[hv.length]
 exact(hv.drop _).take _
theorem nT(xs:Array α):∀(n a:Nat),a+n<=xs.size->(List.range' a n).filterMap (xs[·]?)=(xs.toList.drop a).take n
 | 0,_,_=>rfl
 | n+1,a,h=>by
  have ha:a<xs.size:=Fo (Hz (Hs n)) h
  rw[ND,List.filterMap_cons_some (Ld ha),nT xs n (a+1) (by rw[Nf];exact h),HF (show a<xs.toList.length from ha)]
  rfl
theorem qq:max 0 (min (if (m:Int)<0 then(m:Int)+(n:Int)else m) (n:Int))=((min m n:Nat):Int):=by
 rw[if_neg (Ha.mpr (FX m))];lia
theorem qr{lo hi:Option Int}(h1:i7 lo)(h2:i7 hi):Builtin.Str.strSliceIndices lo hi 1 n=List.range' (loN lo n) (hiN hi n-loN lo n):=by
 have e:Builtin.Str.strSliceIndices lo hi 1 n=sliceRange (loN lo n) (hiN hi n) 1:=by
  induction lo with
  | none=>
   have e0:loN none n=0:=OE n
   rw[e0]
   induction hi with
   | none=>rfl
   | some b=>refine xE (Hn h2) λ m Z=>?_;rcases Z with rfl;exact congrArg (sliceRange 0 · 1) qq
  | some a=>
   refine xE (Hn h1) λ l Z=>?_;rcases Z with rfl
   induction hi with
   | none=>exact congrArg (sliceRange · n 1) qq
   | some b=>refine xE (Hn h2) λ m Z=>?_;rcases Z with rfl;exact(congrArg (sliceRange · _ 1) qq).trans (congrArg (sliceRange _ · 1) qq)
 rw[e,sliceRange_one,Iz,List.map_add_range',JR]
theorem pz{a b:Nat}(ha:a<=n)(hb:b<=n):a+(b-a)<=n:=zzt ha hb
theorem zJ{lo:Option Int}:loN lo n<=n:=LB ..
theorem pA(s:List Nat){lo hi:Option Int}(h1:i7 lo)(h2:i7 hi):(Builtin.Str.strSliceIndices lo hi 1 s.length).filterMap (s.toArray[·]?)=c6 s lo hi:=by
 rw[qr h1 h2,pv];exact nT s.toArray _ _ (pz zJ tM)
theorem sf(s:List Nat){lo hi:Option Int}(h1:i7 lo)(h2:i7 hi)(h:(Builtin.Str.strSliceIndices lo hi 1 s.length).length=s.length):c6 s lo hi=s:=by
 rw[qr h1 h2,Io]at h
 rw[pv]
 refine((Nq ..).trans (Nj ..)).eq_of_length ?_
 rw[Lz,Ho,h]
 exact Hm (by have:=tM (hi:=hi) (n:=s.length);exact zzv h this)
def H5(a:Option PT):List AV->(Option Int->Sto->Prop)->Sto->Prop:=λ st Q V=>match a with
 | Option.none=>Q Option.none V
 | some p=>p st (λ x ON=>inI x λ i=>Q (some i) ON) V
inductive sh(W:Wld)(k:Nat)(F:Fm):Option Expr->Option PT->Prop
 | none:sh W k F Option.none Option.none
 | some {e a:_}:J0 W k F e a->sh W k F (some e) (some a)
def jG(v:Value)(i:Option Int):Prop:=match i with
 | Option.none=>v=.none
 | some i=>∃t,v=.int i t
theorem jG.is{i:Option Int}(h:jG v i):IsPart v i:=by
 induction i with
 | none=>obtain rfl:v=.none:=h;exact .none
 | some i=>refine xE h λ t Z=>?_;rcases Z with rfl;clear h;exact .int i t
theorem jG.str{i:Option Int}(h:jG v i):∃l:Option (Int×Tok),partValue l=v/\l.map (·.1)=i:=by
 induction i with
 | none=>obtain rfl:v=.none:=h;exact⟨Option.none,rfl,rfl⟩
 | some i=>refine xE h λ t Z=>?_;rcases Z with rfl;clear h;exact⟨some (i,t),rfl,rfl⟩
theorem sh.then{e:Option Expr}{p:Option PT}(E:sh W k F e p){Q:Option Int->Sto->Prop}{P:Value->Shared->Prop}
  (r:N3 k A)(R:Rep W V O s)(f:FrR W F env st s.heap O)(hp:H5 p st Q V)
  (go:∀v s' OP OT x,Q x OP->Rep W OP OT s'->FrR W F env st s'.heap OT->jG v x->E8 W [] O s.heap OT s'.heap->Sub s.heap O s'.heap OT->P v s'):
  wpAny W.M A (evalPart e env) P NoE s:=by
 induction E with
 | none=>exact Fp (go .none s V O Option.none hp R f rfl E8.rfl' Sub.rfl')
 | some E=>
  refine E.then r R f hp λ v OQ ON OV x q OR OW vx OU Pb=>?_
  obtain⟨i,rfl,q⟩:=W7 q
  refine xE vx.int_inv λ t Z=>?_;rcases Z with rfl
  exact go _ _ _ _ (Option.some _) q OR OW ⟨t,rfl⟩ OU Pb
def wU(x:AV)(lo hi:Option Int)(Q:AV->Sto->Prop)(V:Sto):Prop:=(i7 lo/\i7 hi)/\match x with
 | .ref i=>inO (lst V i) λ l=>l.length<=lim/\Q (.ref V.length) (V++[.list (c6 l lo hi)])
 | .str s=>s.length<=lim/\Q (.str (c6 s lo hi)) V
 | _=>False
def L2(a:PT)(lo hi:Option PT):PT:=λ st Q V=>a st (λ x ON=>H5 lo st (λ l OS=>H5 hi st (λ u OZ=>wU x l u Q OZ) OS) ON) V
theorem tN(l:List α)(lo hi:Option Int):(c6 l lo hi).length<=l.length:=
 fp (List.length_take_le' ..) (by rw[Ho];exact HH ..)
noncomputable abbrev hF(s:Shared)(u w:Value):Shared:={ s with heap:=s.heap.push { cls:=.type "slice",data:=.fields #[u,w,.none] } }
theorem si{u w:Value}{lo hi:Option Int}{value:Expr}{lower upper:Option Expr}{p:Pos}(R:Rep W V O s)(vx:VR W.h0 s.heap O v x)
  (hu:jG u lo)(hw:jG w hi)(h:wU x lo hi Q V):
  wpAny W.M A (subscriptTail value (.Slice lower upper none p) v (.ref s.heap.objs.size)) (H9 W [] O s.heap Q) NoE (hF s u w):=by
 have PY:E8 W [] O s.heap O (hF s u w).heap:=eU _
 have Qw:Rep W V O (hF s u w):=R.push _
 have QU:VR W.h0 (hF s u w).heap O v x:=VR.mono jE vx
 have hsl:(hF s u w).heap.get? s.heap.objs.size=some { cls:=.type "slice",data:=.fields #[u,w,.none] }:=Gd _ rfl
 rcases h with⟨⟨h1,h2⟩,h⟩
 generalize hF s u w=s' at *
 cases x with
 | ref i=>
  rcases U7 h with⟨l,e,hz,q⟩
  rcases VR.ref_list Qw QU e with⟨a,n,vs,rfl,_,hl,hv⟩
  refine eW ⟨_,hl,rfl⟩ Kh.lookup ?_ (.inr rfl)
  refine wpAny_getItem_list_slice hl.isList ⟨_,hsl,rfl,rfl⟩ hu.is hw.is .none (by simp) ?_ (show vs.length<=sizeLine by rw[hv.length];exact fp hz O5)
  rw[kH vs h1 h2]
  exact .after PY (.newList Qw (hv.cut lo hi) q)
 | str l=>
  rcases h with⟨hz,q⟩
  rcases vx.str_inv with⟨t,rfl⟩
  rcases hu.str with⟨l',e1,e1'⟩
  rcases hw.str with⟨u',e2,e2'⟩
  refine eW (T:="str") rfl NK.lookup ?_ (.inr rfl)
  refine wpAny_getItem_str_slice (l:=l') (u:=u') (st:=none) ⟨_,hsl,rfl,by rw[e1,e2];rfl⟩ rfl ?_
  have hp:slicePicked ⟨l.toArray⟩ l' u' none=Builtin.Str.strSliceIndices lo hi 1 l.length:=by
   unfold slicePicked
   rw[e1',e2']
   rfl
  unfold sliceMade
  rw[hp,pA l h1 h2]
  by_cases hw':((Option.map (λ x=>x.fst) (none:Option (Int×Tok))).getD 1==1&&(Builtin.Str.strSliceIndices lo hi 1 l.length).length==Str.length ⟨l.toArray⟩)=true
  ·rw[if_pos hw']
   rw[Gn,beq_iff_eq,beq_iff_eq]at hw'
   rw[sf l h1 h2 hw'.2]at q
   exact .after PY (.here Qw (.str l.toArray t) q)
  ·rw[if_neg hw']
   exact⟨fp (tN l lo hi) (fp hz O5),.after PY (.now Qw (.str (c6 l lo hi).toArray _) q)⟩
 | _=>exact h.elim
theorem wV{l:Expr}{lower upper:Option Expr}{p pos:Pos}{a:PT}{lo hi:Option PT}(hl:J0 W k F l a)(h1:sh W k F lower lo)(h2:sh W k F upper hi):
  J0 W k F (.Subscript l (.Slice lower upper none p) pos) (L2 a lo hi):=by
 intro A env s V O st Q ro R f hp
 refine Subscript_ (hl.then ro R f hp λ v OQ ON OV x q OR OW vx OU Pb=>?_)
 refine wpAny_Slice (h1.then ro OR OW q λ u Pl OS Pc lo' q OY Ph hu OX Pg=>?_)
 refine h2.then ro OY Ph q λ w Pj OZ Pa hi' q Pf Py hw Pe Pw=>?_
 rw[evalPart_none]
 refine Fp ?_
 exact Fy (si Pf (VR.mono Pw (VR.mono Pg vx)) hu hw q) (λ Y Y p=>.after ((OU.trans OX).trans Pe) p) λ Y Y x=>x
inductive G3 where
 | next|brk|cont
 | ret(v:AV)
inductive bD(h0 h:Heap)(O:Mp):Flow->G3->Prop
 | next:bD h0 h O .next .next
 | brk:bD h0 h O .brk .brk
 | cont:bD h0 h O .cont .cont
 | ret {v x:_}:VR h0 h O v x->bD h0 h O (.ret v) (.ret x)
theorem bD.mono{h0:Heap}{OT:Mp}{f:Flow}{g:G3}(S:Sub h O h' OT)(r:bD h0 h O f g):bD h0 h' OT f g:=by
 induction r with
 | next=>exact .next
 | brk=>exact .brk
 | cont=>exact .cont
 | ret v=>exact .ret (VR.mono S v)
noncomputable def frX(env:Env):List Addr:=env.locals::env.cells.map (·.2)
abbrev ST:=List AV->(G3->List AV->Sto->Prop)->Sto->Prop
inductive cD(W:Wld)(F:Fm)(env:Env)(X:List Addr)(O:Mp)(h:Heap)(Q:G3->List AV->Sto->Prop)(f:Flow)(s':Shared):Prop
 | mk (OP OT st' g:_):Q g st' OP->Rep W OP OT s'->bD W.h0 s'.heap OT f g->FrR W F env st' s'.heap OT->E8 W X O h OT s'.heap->cD W F env X O h Q f s'
def O6(W:Wld)(k:Nat)(F:Fm)(s:Stmt)(p:ST):Prop:=
 ∀(A:Around) (env:Env) (Pm:Shared) (V:Sto) (O:Mp) (st:List AV) (Q:G3->List AV->Sto->Prop),N3 k A->Rep W V O Pm->FrR W F env st Pm.heap O->p st Q V->
  wpAny W.M A (exec s env) (cD W F env (frX env) O Pm.heap Q) NoE Pm
theorem O6.run{s:Stmt}{p:ST}(E:O6 W k F s p){Pm:Shared}{Q:G3->List AV->Sto->Prop}:N3 k A->Rep W V O Pm->FrR W F env st Pm.heap O->p st Q V->
  wpAny W.M A (exec s env) (cD W F env (frX env) O Pm.heap Q) NoE Pm:=
 E A env Pm V O st Q
def O0(W:Wld)(k:Nat)(F:Fm)(ss:List Stmt)(p:ST):Prop:=
 ∀(A:Around) (env:Env) (Pm:Shared) (V:Sto) (O:Mp) (st:List AV) (Q:G3->List AV->Sto->Prop),N3 k A->Rep W V O Pm->FrR W F env st Pm.heap O->p st Q V->
  wpAny W.M A (execs ss env) (cD W F env (frX env) O Pm.heap Q) NoE Pm
theorem O0.run{ss:List Stmt}{p:ST}(E:O0 W k F ss p){Pm:Shared}{Q:G3->List AV->Sto->Prop}:N3 k A->Rep W V O Pm->FrR W F env st Pm.heap O->p st Q V->
  wpAny W.M A (execs ss env) (cD W F env (frX env) O Pm.heap Q) NoE Pm:=
 E A env Pm V O st Q
theorem cD.after{X:List Addr}{OT:Mp}{Q:G3->List AV->Sto->Prop}{f:Flow}{s':Shared}(S:E8 W X O h OT h')(p:cD W F env X OT h' Q f s'):cD W F env X O h Q f s':=by
 obtain⟨OP,PM,st',g,q,r,fr,e,S'⟩:=p
 exact⟨OP,PM,st',g,q,r,fr,e,S.trans S'⟩
theorem FrR.noTup(f:FrR W F env st h O):∀a∈frX env,∀vs n,¬IsT h a vs n:=by
 intro a ha vs n ht
 rcases Fv.mp ha with rfl|ha
 ·refine xE f.ns λ m Z=>xE Z λ o J=>(λ hn ho hv=>?_) J.1 J.2.1 J.2.2;clear Z J
  refine xE hn λ o' Z=>xE Z λ es J=>xE J λ ep θ=>(λ ho' hd r=>?_) θ.1 θ.2.1 θ.2.2;clear hn Z J θ
  rw[show h.get? env.locals=_ from ht]at ho'
  cases ho';cases hd
 ·refine xE (FN.mp ha) λ p Z=>(λ hp J=>?_) Z.1 Z.2;rcases J with rfl;clear Z
  refine xE (f.cells p hp) λ o Z=>xE Z λ u J=>(λ h2 h4=>?_) J.1 J.2;clear Z J
  rw[show h.get? p.2=_ from ht]at h2
  cases h2;cases h4
theorem Rep.other(R:Rep W V O s){a:Addr}{t:Nat}(hs:Heap.SameBut a s.heap h')(na:a∉O.map (·.2))(hn:W.h0.get? a=none)
  (hi:∀o,s.heap.get? a=some o->o.data≠.plain)(hT:∀vs n,¬IsT s.heap a vs n):Rep W V O { s with heap:=h',toks:=t }/\Sub s.heap O h' O:=by
 have S:Sub s.heap O h' O:=⟨λ b vs n ht=>(hs.2 b λ e=>hT vs n (e▸ht)).trans ht,[],(FL _).symm⟩
 refine⟨⟨R.len,λ i x p hx hp=>?_,R.nd,R.new,jC R.old hn hs.extBut,R.gens,R.os,jB R.stat hn hs.extBut⟩,S⟩
 have r:=R.obj i x p hx hp
 have n2:p.2≠a:=λ e=>na (e▸Gk (f:=(·.2)) (FD hp))
 refine bB r S (hs.2 _ λ e=>?_) (hs.2 _ n2)
 obtain⟨z,hz⟩:=r.main
 exact mn r (e▸hz) (hi _ (e▸hz)) n2 e
theorem kY{X:List Addr}{a:Addr}{o:Obj}(hs:Heap.SameBut a h h')(ha:a∈X)(ho:h'.get? a=some o):E8 W X O h O h':=
 ⟨λ b o e Y Y nx=>(hs.2 b (λ q=>nx (q▸ha))).trans e,⟨[],by simp,by simp⟩,λ b o' e=>by
  by_cases q:b=a
  ·exact⟨o,q▸ho⟩
  ·exact⟨o',(hs.2 b q).trans e⟩⟩
theorem qt{y z:AV}(hj:j≠i)(hz:(st.set i y)[j]?=some z):st[j]?=some z:=by rwa [Fg (HE hj)]at hz
theorem qu{y z:AV}(hz:(st.set i y)[i]?=some z):z=y:=by
 by_cases hl:i<st.length
 ·rw[Fu hl]at hz;exact(Ft hz).symm
 ·rw[IU (by simp;exact Ht hl)]at hz;cases hz
theorem tO{o:Option NameKind}(h:o=some .local)(h':o=some .cell):False:=by rw[h]at h';cases h'
theorem qv{o:Option NameKind}(h:o=some .local)(h':o=some .free):False:=by rw[h]at h';cases h'
theorem Bu{d:Data}{u:Option Value}{es ep}(h:d=.cell u)(h':d=.dict es ep):False:=by rw[h]at h';cases h'
theorem Bv{d:Data}{u:Option Value}(h:d=.cell u)(h':d=.plain):False:=by rw[h]at h';cases h'
theorem Bw{d:Data}{es ep}(h:d=.dict es ep)(h':d=.plain):False:=by rw[h]at h';cases h'
theorem FrR.kindOf(f:FrR W F env st h O){x:Str}{o:Option NameKind}(e:F.scope.names.lookup x=o):env.kindOf x=o:=(congrArg (λ S:Scope=>List.lookup x S.names) f.scope).trans e
theorem FrR.dict(f:FrR W F env st h O){o:Obj}(ho:h.get? env.locals=some o):∃es ep,o.data=.dict es ep:=
 f.ns.elim λ Y z=>z.elim λ Y z=>z.1.elim λ Y z=>z.elim λ es z=>z.elim λ ep z=>⟨es,ep,(Ft (z.1.symm.trans ho):_=o)▸z.2.1⟩
theorem FrR.cne(f:FrR W F env st h O){p:Str×Addr}(hp:p∈env.cells):p.2≠env.locals:=λ e=>
 (f.cells p hp).elim λ Y z=>z.elim λ Y z=>(f.dict ((congrArg h.get? e).symm.trans z.1)).elim λ Y q=>q.elim λ Y q=>Bu z.2 q
theorem FrR.old{x z:Str}{y w:AV}(sinj:∀x y i,F.slots.lookup x=some i->F.slots.lookup y=some i->x=y)(hx:F.slots.lookup x=some i)(hz:F.slots.lookup z=some j)(e:z≠x)(hw:(st.set i y)[j]?=some w):st[j]?=some w:=
 qt (λ q=>e (sinj z x j hz (q▸hx))) hw
theorem FrR.new{x:Str}{y w:AV}(hx:F.slots.lookup x=some i)(hz:F.slots.lookup x=some j)(hw:(st.set i y)[j]?=some w):w=y:=
 qu ((Ft (hz.symm.trans hx):j=i)▸hw)
theorem FrR.setL{x:Str}{y:AV}{m:Str->Option Value}{o':Obj}(f:FrR W F env st h O)(U:Sub h O h' O)(hy:VR W.h0 h O v y)(hx:F.slots.lookup x=some i)(hk:F.scope.names.lookup x=some .local)
  (hs:Heap.SameBut env.locals h h')(hv:∀x i,F.slots.lookup x=some i->F.scope.names.lookup x=some .local->∀y,st[i]?=some y->y≠.undef->∃v,m x=some v/\VR W.h0 h O v y)
  (hn:h'.Ns env.locals (λ z=>if z=x then some v else m z))(ho':h'.get? env.locals=some o'):FrR W F env (st.set i y) h' O:=
 ⟨f.scope,f.kind,f.globals,f.builtins,⟨_,o',hn,ho',λ z j hz hl w hw hu=>if e:z=x then⟨v,if_pos e,VR.mono U (FrR.new hx (e▸hz) hw▸hy)⟩else
  (hv z j hz hl w (FrR.old f.sinj hx hz e hw) hu).elim λ v' q=>⟨v',(if_neg e).trans q.1,VR.mono U q.2⟩⟩,λ p hp=>
  (f.cells p hp).elim λ oc z=>z.elim λ u z=>⟨oc,u,(hs.2 _ (f.cne hp)).trans z.1,z.2⟩,λ z j hz hkz=>
  (f.cell z j hz hkz).elim λ c k=>⟨c,k.1,λ w hw hu=>
   (k.2 w (FrR.old f.sinj hx hz (λ e=>hkz.elim (λ q=>tO hk (e▸q)) λ q=>qv hk (e▸q)) hw) hu).elim λ v' q=>⟨v',cj q.1 (hs.2 _ (f.cne (mem_of_lookup k.1))),VR.mono U q.2⟩⟩,f.apart,f.apartC,f.inj,f.sinj,f.newL,f.newC⟩
theorem FrR.setC{x:Str}{y:AV}{c:Addr}(f:FrR W F env st h O)(U:Sub h O h' O)(hy:VR W.h0 h O v y)(hx:F.slots.lookup x=some i)(hk:F.scope.names.lookup x=some .cell)
  (hs:Heap.SameBut c h h')(hc:env.cells.lookup x=some c)(hc':h'.IsCell c (some v)):FrR W F env (st.set i y) h' O:=
 have lne:env.locals≠c:=HE (f.cne (mem_of_lookup hc))
 ⟨f.scope,f.kind,f.globals,f.builtins,f.ns.elim λ m k=>k.elim λ o k=>⟨m,o,gd k.1 (hs.2 _ lne),(hs.2 _ lne).trans k.2.1,λ z j hz hl w hw hu=>
  (k.2.2 z j hz hl w (FrR.old f.sinj hx hz (λ e=>tO hl (e▸hk)) hw) hu).elim λ v' q=>⟨v',q.1,VR.mono U q.2⟩⟩,λ p hp=>if e:p.2=c then⟨hc'.choose,_,e▸hc'.choose_spec.1,hc'.choose_spec.2⟩else
  (f.cells p hp).elim λ oc z=>z.elim λ u z=>⟨oc,u,(hs.2 _ e).trans z.1,z.2⟩,λ z j hz hkz=>
  (f.cell z j hz hkz).elim λ c' k=>⟨c',k.1,λ w hw hu=>if e:z=x then⟨v,(Ft (k.1.symm.trans (e▸hc)):c'=c)▸hc',VR.mono U (FrR.new hx (e▸hz) hw▸hy)⟩else
   (k.2 w (FrR.old f.sinj hx hz e hw) hu).elim λ v' q=>⟨v',cj q.1 (hs.2 _ λ q=>e (f.inj z x c' k.1 (q▸hc))),VR.mono U q.2⟩⟩,f.apart,f.apartC,f.inj,f.sinj,f.newL,f.newC⟩
theorem nU{x:Str}{y:AV}{P:Unit->Shared->Prop}(R:Rep W V O s)(f:FrR W F env st s.heap O)(hy:VR W.h0 s.heap O v y)
  (hx:F.slots.lookup x=some i)(hk:F.scope.names.lookup x=some .local\/F.scope.names.lookup x=some .cell)
  (go:∀s' a,((a=env.locals/\F.scope.names.lookup x=some .local)\/(env.cells.lookup x=some a/\F.scope.names.lookup x=some .cell))->Rep W V O s'->FrR W F env (st.set i y) s'.heap O->E8 W [a] O s.heap O s'.heap->Sub s.heap O s'.heap O->P () s'):wpAny W.M A (bindName env x v) P NoE s:=
 have ek:env.scope.kind=.function:=f.scope▸f.kind
 wpAny_bindName (hk.elim (λ hk=>
  f.ns.elim λ m k=>k.elim λ o k=>wpAny_storeName_local (f.kindOf hk) k.1 (λ h' hn' hs=>hn'.elim λ o' z=>z.elim λ Y z=>z.elim λ Y z=>
   have r:=R.other (t:=s.toks+1) hs f.apart f.newL (λ o' ho' e=>(f.dict ho').elim λ Y q=>q.elim λ Y q=>Bw q e) (f.noTup _ (.head _))
   go _ _ (.inl ⟨rfl,hk⟩) r.1 (f.setL r.2 hy hx hk hs k.2.2 hn' z.1) (kY hs (.head _) z.1) r.2) (by rw[ek];rfl)) λ hk=>
  (f.cell x i hx (.inl hk)).elim λ c k=>
  have h1:=mem_of_lookup k.1
  (f.cells _ h1).elim λ oc z=>z.elim λ u z=>wpAny_storeName_cell ek (f.kindOf hk) k.1 ⟨oc,z⟩ (λ h' hc' hs=>
   have r:=R.other (t:=s.toks) hs (f.apartC _ h1) (f.newC _ h1) (λ o' ho' e=>Bv ((Ft (z.1.symm.trans ho'):oc=o')▸z.2) e) (f.noTup _ (.tail _ (Gk (f:=(·.2)) h1)))
   go _ _ (.inr ⟨k.1,hk⟩) r.1 (f.setC r.2 hy hx hk hs k.1 hc') (kY hs (.head _) hc'.choose_spec.1) r.2))
theorem eX{x:Str}{y:AV}{P:Unit->Shared->Prop}(R:Rep W V O s)(f:FrR W F env st s.heap O)(hy:VR W.h0 s.heap O v y)
  (hx:F.slots.lookup x=some i)(hk:F.scope.names.lookup x=some .local\/F.scope.names.lookup x=some .cell)
  (go:∀s',Rep W V O s'->FrR W F env (st.set i y) s'.heap O->E8 W (frX env) O s.heap O s'.heap->Sub s.heap O s'.heap O->P () s'):wpAny W.M A (bindName env x v) P NoE s:=
 nU R f hy hx hk λ s' a ha R' f' S U=>go s' R' f' (S.weaken λ b hb=>by
  rw[Fh]at hb
  subst hb
  rcases ha with⟨rfl,_⟩|⟨h,_⟩
  ·exact .head _
  ·exact .tail _ (Gk (f:=(·.2)) (mem_of_lookup h))) U
noncomputable def dB(F:Fm)(x:Str)(i:Nat):Bool:=(F.slots.lookup x==some i)&&(F.scope.names.lookup x==some .local||F.scope.names.lookup x==some .cell)
theorem dM{x:Str}(h:dB F x i=true):F.slots.lookup x=some i/\(F.scope.names.lookup x=some .local\/F.scope.names.lookup x=some .cell):=by
 unfold dB at h
 simpa [Gn,Me,beq_iff_eq] using h
abbrev GT:=AV->List AV->(List AV->Sto->Prop)->Sto->Prop
def dN(W:Wld)(k:Nat)(F:Fm)(e:Expr)(g:GT):Prop:=
 ∀(A:Around) (env:Env) (s:Shared) (V:Sto) (O:Mp) (st:List AV) (Q:List AV->Sto->Prop) (v:Value) (x:AV) (P:Unit->Shared->Prop),N3 k A->Rep W V O s->FrR W F env st s.heap O->VR W.h0 s.heap O v x->g x st Q V->
  (∀s' OP OT st',Q st' OP->Rep W OP OT s'->FrR W F env st' s'.heap OT->E8 W (frX env) O s.heap OT s'.heap->Sub s.heap O s'.heap OT->P () s')->wpAny W.M A (assign e env v) P NoE s
theorem dN.run{e:Expr}{g:GT}(E:dN W k F e g){Q:List AV->Sto->Prop}{P:Unit->Shared->Prop}:N3 k A->Rep W V O s->FrR W F env st s.heap O->VR W.h0 s.heap O v x->g x st Q V->
  (∀s' OP OT st',Q st' OP->Rep W OP OT s'->FrR W F env st' s'.heap OT->E8 W (frX env) O s.heap OT s'.heap->Sub s.heap O s'.heap OT->P () s')->wpAny W.M A (assign e env v) P NoE s:=
 E A env s V O st Q v x P
def B4(i:Nat):GT:=λ x st Q V=>Q (st.set i x) V
theorem sk{x:Str}{pos:Pos}(h:dB F x i=true):dN W k F (.Name x pos) (B4 i):=by
 intro A env s V O st Q v y P ro R f vr hp go
 obtain⟨h1,h2⟩:=dM h
 show wpAny _ A (do standAt pos;bindName env x v) _ _ s
 exact nt (GH (eX R f vr h1 h2 λ s' R' f' S U=>go s' V O _ hp R' f' S U))
theorem zV{x:Str}{pos:Pos}(i:Nat)(h:dB F x i=true):dN W k F (.Name x pos) (B4 i):=sk h
theorem kZ{a:Addr}(hs:Heap.ExtBut a h h')(ha:h.get? a=none):∀b o,h.get? b=some o->h'.get? b=some o:=
 λ b o e=>hs b o (λ q=>by rw[q,ha]at e;cases e) e
theorem Q7{X:List Addr}(hk:∀b o,h.get? b=some o->h'.get? b=some o):E8 W X O h O h':=
 ⟨λ b o e Y Y Y=>hk b o e,⟨[],by simp,by simp⟩,λ b o e=>⟨o,hk b o e⟩⟩
theorem FrR.step1{OT:Mp}(f:FrR W F env st h O)(S:E8 W [] O h OT h')(U:Sub h O h' OT):FrR W F env st h' OT:=f.step0 S U
theorem wk{OL:List Addr}{OT:Mp}(x:E8 W [] O h OT h'):E8 W OL O h OT h':=x.weaken (by simp)
theorem Z5{h'':Heap}{OT PM:Mp}(U:Sub h O h' OT)(U':Sub h' OT h'' PM):Sub h O h'' PM:=
 ⟨λ a vs n t=>U'.1 _ _ _ (U.1 _ _ _ t),let ⟨x,hx⟩:=U.2;let ⟨y,hy⟩:=U'.2;⟨x++y,by rw[hy,hx];simp⟩⟩
abbrev GTs:=List AV->List AV->(List AV->Sto->Prop)->Sto->Prop
def k0(W:Wld)(k:Nat)(F:Fm)(es:List Expr)(g:GTs):Prop:=
 ∀(A:Around) (env:Env) (s:Shared) (V:Sto) (O:Mp) (st:List AV) (Q:List AV->Sto->Prop) (vs:List Value) (xs:List AV) (P:Unit->Shared->Prop),N3 k A->Rep W V O s->FrR W F env st s.heap O->VRs W.h0 s.heap O vs xs->g xs st Q V->
  (∀s' OP OT st',Q st' OP->Rep W OP OT s'->FrR W F env st' s'.heap OT->E8 W (frX env) O s.heap OT s'.heap->Sub s.heap O s'.heap OT->P () s')->wpAny W.M A (assignInOrder ((assignEach es env).map (·.2)) vs) P NoE s
theorem k0.run{es:List Expr}{g:GTs}(E:k0 W k F es g){Q:List AV->Sto->Prop}{xs:List AV}{P:Unit->Shared->Prop}:N3 k A->Rep W V O s->FrR W F env st s.heap O->VRs W.h0 s.heap O vs xs->g xs st Q V->
  (∀s' OP OT st',Q st' OP->Rep W OP OT s'->FrR W F env st' s'.heap OT->E8 W (frX env) O s.heap OT s'.heap->Sub s.heap O s'.heap OT->P () s')->wpAny W.M A (assignInOrder ((assignEach es env).map (·.2)) vs) P NoE s:=
 E A env s V O st Q vs xs P
def J7:GTs:=λ xs st Q V=>match xs with|[]=>Q st V|_::_=>False
def D9(g:GT)(r:GTs):GTs:=λ xs st Q V=>match xs with|x::xs=>g x st (λ st V=>r xs st Q V) V|[]=>False
theorem ag{e:Expr}{r:List Expr}(h:aU e=true):assignEach (e::r) env=(false,assign e env)::assignEach r env:=by
 cases e <;> first|rfl|cases h
theorem nV:k0 W k F [] J7:=by
 intro A env s V O st Q vs xs P ro R f vr hp go
 cases vr with
 | nil=>exact Fp (go s V O st hp R f E8.rfl' Sub.rfl')
 | cons _ _=>exact hp.elim
theorem Z6{e:Expr}{r:List Expr}{g:GT}{gs:GTs}(he:dN W k F e g)(hr:k0 W k F r gs)(hn:aU e=true):k0 W k F (e::r) (D9 g gs):=by
 intro A env s V O st Q vs xs P ro R f vr hp go
 cases vr with
 | nil=>exact hp.elim
 | cons a b=>
  rw[ag hn]
  show wpAny _ A (assignInOrder (assign e env::(assignEach r env).map (·.2)) (_::_)) _ _ _
  refine nt (m:=holding _ _) (Gl (he.run ro R f a hp λ OQ ON OV Po q OR OW OU Pb=>?_))
  exact hr.run ro OR OW (VRs.mono Pb b) q λ Pl OS Pc Pq q OY Ph OX Pg=>go Pl OS Pc Pq q OY Ph (OU.trans OX) (Z5 Pb Pg)
def J8(g:GTs):GT:=λ x st Q V=>inT x λ l=>g l st Q V
noncomputable def N1(es:List Expr):Bool:=es.all aU
theorem dO:∀(es:List Expr) (env:Env),N1 es=true->(assignEach es env).length=es.length/\(assignEach es env).findIdx? (·.1)=none
 | [],_,_=>⟨rfl,rfl⟩
 | e::r,env,h=>by
  have h':aU e=true/\N1 r=true:=by simpa [N1] using h
  obtain⟨a,b⟩:=dO r env h'.2
  rw[ag h'.1]
  exact⟨by simp[a],by simp[List.findIdx?_cons,b]⟩
def J9(n:Nat)(g:GTs):GTs:=λ xs st Q V=>xs.length=n/\g xs st Q V
theorem nW{es:List Expr}{c:Nat}{pos:Pos}{g:GTs}(h:k0 W k F es g)(hn:N1 es=true)(hl:es.length=n):dN W k F (.Tuple es c pos) (J8 (J9 n g)):=by
 intro A env s V O st Q v x P ro R f vr hp go
 show wpAny _ A (do standAt pos;unpack v (assignEach es env)) _ _ s
 refine nt (GH ?_)
 obtain⟨l,rfl,hq,q⟩:=pj hp
 obtain⟨a,m,vs,rfl,ht,hv⟩:=vr.tup_inv
 obtain⟨h1,h2⟩:=dO es env hn
 refine wpAny_unpack_tuple ro.handled ⟨_,ht,rfl,m,rfl⟩ (h1.trans (hl.trans (hq.symm.trans hv.length.symm))) h2 (λ h' hs=>?_)
 have hk:=kZ hs K9
 obtain⟨R',U⟩:=R.grow (t:=s.toks) hk
 have S:E8 W [] O s.heap O h':=Q7 hk
 exact h.run ro R' (f.step0 S U) (VRs.mono U hv) q λ Pl OS Pc Pq q OY Ph OX Pg=>go Pl OS Pc Pq q OY Ph ((wk S).trans OX) (Z5 U Pg)
theorem tP{l:Nat}{items:Array Value}{k:Int}{t:Tok}{P:Unit->Shared->Prop}(ho:IsL s.heap l items n)(h0:0<=k)(hz:k<1000000)(hn:k<items.size)
  (go:P () { s with heap:=s.heap.update l (Obj.mapSeq (·.setIfInBounds k.toNat v)) }):wpAny W.M A (setItem (.ref l) (.int k t) v) P NoE s:=by
 have hT:=ho.isList.typeIs
 unfold setItem
 try with_reducible refine Gl ?_
 first|refine nt (Fp ?_)|skip
 refine nt (wpAny_sequenceKey hT (by decide) ?_)
 refine nt (Ki (name:=Str.ofString "__setitem__") hT Lh
  (HT Lh hT PySem.F.entry_list_setitem ?_ (PySem.F.args_list_setitem_3 _ _ _)))
 show wpAny _ _ (Builtin.List.listSubscript? (.int k t) >>= _) _ _ s
 refine nt (wpAny_listSubscript_int (fitsIndex_of h0 (Iv hz (by decide))) ?_)
 clear hz
 obtain⟨j,rfl⟩:=Hn h0
 have hj:j<items.size:=GP.mp hn
 have hg:items[j]?=some items[j]:=Ld hj
 show wpAny _ _ ((seqItemAt l j >>= λ r=>pure (r.map (j,·))) >>= _) _ _ s
 refine nt (nt (wpAny_seqItemAt ho rfl (Fp ?_)))
 rw[hg]
 show wpAny _ _ (setSeqItemAt l j v >>= _) _ _ s
 refine nt (wpAny_setSeqItemAt ho rfl ?_)
 first
  | exact nt (Fp (Fp ⟨.none,rfl,Fp go⟩))
  | exact Fp ⟨.none,rfl,Fp go⟩
def nY(x y v:AV)(Q:Sto->Prop)(V:Sto):Prop:=inR x λ i=>inI y λ k=>inO (lst V i) λ l=>(0<=k/\k<l.length/\k<1000000)/\Q (V.set i (.list (l.set k.toNat v)))
theorem lg{Q:Sto->Prop}{o i:Value}{y z:AV}{P:Unit->Shared->Prop}(R:Rep W V O s)(vx:VR W.h0 s.heap O o x)(vy:VR W.h0 s.heap O i y)(vz:VR W.h0 s.heap O v z)
  (h:nY x y z Q V)(go:∀s' OP,Q OP->Rep W OP O s'->E8 W [] O s.heap O s'.heap->Sub s.heap O s'.heap O->P () s'):wpAny W.M A (setItem o i v) P NoE s:=by
 obtain⟨j,rfl,h⟩:=aj h
 obtain⟨k,rfl,h⟩:=W7 h
 obtain⟨l,e,⟨h0,h1,h2⟩,q⟩:=U7 h
 obtain⟨a,n,vs,rfl,hp,hl,hv⟩:=vx.ref_list R e
 obtain⟨t,rfl⟩:=vy.int_inv
 refine tP hl h0 h2 (show k<vs.length by rw[hv.length];exact h1) ?_
 have hL:IsL (s.heap.update a (Obj.mapSeq (·.setIfInBounds k.toNat v))) a ((vs.set k.toNat v).toArray) n:=by
  have:=IsL.update hl (·.setIfInBounds k.toNat v)
  rwa [Array.size_setIfInBounds,beq_self_eq_true,if_pos rfl,List.setIfInBounds_toArray]at this
 obtain⟨R',S,U⟩:=R.upd (o':=.list (l.set k.toNat z)) (d:=s.drawn) (t:=s.toks) (FC.mp (F6 e)).1 hp (KP s.heap a _)
  (λ U=>.list hL ((VRs.mono U hv).set (VR.mono U vz)))
 exact go _ _ q R' S U
def K6(a b:PT):GT:=λ v st Q V=>a st (λ x ON=>b st (λ y OS=>nY x y v (λ OZ=>Q st OZ) OS) ON) V
theorem wW(o i:Expr)(pos:Pos)(env:Env)(v:Value):∃f:Value->Value->List Value,assign (.Subscript o i pos) env v=(do
  let ov <- holding [v] (eval o env)
  let iv <- holding [v,ov] (eval i env)
  standAt pos
  holding [v,ov,iv] (setItem ov iv v)
  release (f ov iv) []):=⟨_,rfl⟩
theorem mx{o i:Expr}{pos:Pos}{a b:PT}(ho:J0 W k F o a)(hi:J0 W k F i b):dN W k F (.Subscript o i pos) (K6 a b):=by
 intro A env s V O st Q v z P ro R f vr hp go
 obtain⟨rel,e⟩:=wW o i pos env v
 rw[e]
 refine nt (Gl (ho.then ro R f hp λ w OQ ON OV x q OR OW vx OU Pb=>?_))
 refine nt (Gl (hi.then ro OR OW q λ u Pl OS Pc y q OY Ph vy OX Pg=>?_))
 refine nt (GH (nt (Gl ?_)))
 refine lg OY (VR.mono Pg vx) vy (VR.mono Pg (VR.mono Pb vr)) q λ Pj OZ q Pf Pe Pw=>?_
 refine λ Γ p QV=>?_
 rw[Ot]
 exact go Pj OZ Pc st q Pf ((Ph.step0 Pe Pw)) (wk ((OU.trans OX).trans Pe)) (Z5 (Z5 Pb Pg) Pw)
theorem wX:∀i j:Fin 9,atN i=atN j->i=j:=by decide +kernel
theorem zK(hi:i<=8)(hj:j<=8)(h:atN i=atN j):i=j:=
 congrArg (·.val) (wX ⟨i,GG hi⟩ ⟨j,GG hj⟩ h)
theorem lh{t:Tok}(hi:i<=8)(hj:j<=8):(Value.str (atN i) t).isStr (atN j)=decide (i=j):=by
 show(atN i==atN j)=_
 by_cases h:i=j
 ·rw[h,decide_eq_true rfl];exact beq_self_eq_true _
 ·rw[decide_eq_false h];exact beq_false_of_ne λ e=>h (zK hi hj e)
theorem lk{en:DictEntry}{es:List DictEntry}{name:Str}(h:en.key.isStr name=false)(hr:es.any (·.refKey)=false)(hr':en.refKey=false):getL name (en::es)=getL name es:=by
 unfold getL
 rw[show List.find? (λ x:DictEntry=>x.key.isStr name) (en::es)=es.find? (λ x=>x.key.isStr name)from List.find?_cons_of_neg (by rw[h];exact Hi),MV,hr',Bool.false_or]
theorem ll{en:DictEntry}{es:List DictEntry}{name:Str}(h:en.key.isStr name=true):getL name (en::es)=some (some en.val):=by
 unfold getL
 rw[show List.find? (λ x:DictEntry=>x.key.isStr name) (en::es)=some en from List.find?_cons_of_pos h]
theorem EsR.plain{h0:Heap}{es:List DictEntry}{m:List (Nat×AV)}(r:EsR h0 h O es m):es.any (·.refKey)=false:=by
 induction r with
 | nil=>rfl
 | cons _ _ ih=>rw[MV,ih];rfl
theorem EsR.get{h0:Heap}{es:List DictEntry}{m:List (Nat×AV)}(r:EsR h0 h O es m)(hl:k<=8):dH m->rQ m k=some x->∃v,getL (atN k) es=some (some v)/\VR h0 h O v x:=by
 induction r with
 | nil=>exact λ Y e=>G9 e
 | @cons hs t v j y es m a b ih=>
  intro hk e
  have hs:=lh (t:=t) (hk _ (.head _)) hl
  by_cases q:j=k
  ·obtain rfl:=Ft ((if_pos q).symm.trans e)
   exact⟨v,ll (hs.trans (decide_eq_true q)),a⟩
  ·obtain⟨w,h1,h2⟩:=ih (λ p hp=>hk p (.tail _ hp)) ((if_neg q).symm.trans e)
   exact⟨w,(lk (hs.trans (decide_eq_false q)) b.plain rfl).trans h1,h2⟩
theorem EsR.has{h0:Heap}{es:List DictEntry}{m:List (Nat×AV)}(r:EsR h0 h O es m)(name):(getL name es).isSome=true:=by
 unfold getL
 rw[r.plain]
 cases es.find? _ <;> rfl
theorem EsR.put{h0:Heap}{hs:Int}{t:Tok}{y:AV}(hl:k<=8)(vy:VR h0 h O v y){es:List DictEntry}{m:List (Nat×AV)}(r:EsR h0 h O es m):dH m->EsR h0 h O (putL (atN k) hs (.str (atN k) t) v es) (jA m k y):=by
 induction r with
 | nil=>exact λ Y=>.cons vy .nil
 | @cons hs t v j y es m a b ih=>
  intro hk
  unfold putL jA
  rw[lh (t:=t) (hk _ (.head _)) hl]
  by_cases q:j=k
  ·rw[decide_eq_true q,if_pos rfl,if_pos q];exact .cons vy b
  ·rw[decide_eq_false q,if_neg Hi,if_neg q];exact .cons a (ih λ p hp=>hk p (.tail _ hp))
theorem EsR.len{h0:Heap}{es:List DictEntry}{m:List (Nat×AV)}(r:EsR h0 h O es m):es.length=m.length:=by
 induction r with
 | nil=>rfl
 | cons _ _ ih=>exact congrArg Nat.succ ih
theorem Rep.kin(R:Rep W V O s):W.K.In s.heap:=λ a o e=>by
 obtain⟨h,c|rfl⟩:=W.kin a o e
 ·exact R.old.get_of_cls h c
 ·obtain⟨o',h1,h2⟩:=R.stat
  rw[h]at h1;cases h1;exact h2
theorem gk{a d c:Addr}{es:List DictEntry}(h1:h.get? a=some ⟨.ref c,some d,.plain,#[]⟩)(h2:h.get? d=some (dictOf es n)):InstAt h a ⟨.ref c,some d,.plain,#[]⟩ c (some (dictOf es n)):=
 ⟨h1,rfl,rfl,h2⟩
noncomputable def En(o:I3):Option (List (Nat×AV)):=match o with
 | .inst _ m=>some m
 | _=>Option.none
noncomputable def zL(V:Sto)(x:AV)(k:Nat):Option AV:=match x with
 | .ref i=>V[i]?.bind λ o=>(En o).bind λ m=>rQ m k
 | _=>Option.none
def so(x:AV)(k:Nat)(Q:AV->Sto->Prop)(V:Sto):Prop:=inO (zL V x k) λ y=>Q y V
theorem wY{y:AV}(h:zL V x k=some y):∃i c m,x=.ref i/\V[i]?=some (.inst c m)/\rQ m k=some y:=by
 cases x with
 | ref i=>
  refine xE (GA.mp h) λ o Z=>(λ e g=>?_) Z.1 Z.2;clear Z
  refine xE (GA.mp g) λ m Z=>(λ e' g=>?_) Z.1 Z.2;clear Z
  induction o with
  | inst c m'=>obtain rfl:=Ft e';exact⟨i,c,_,rfl,e,g⟩
  | _=>exact G9 e'
 | _=>exact G9 h
theorem wZ{c:Addr}{m:List (Nat×AV)}(h:V[i]?=some (.inst c m)):zL V (.ref i) k=rQ m k:=by
 show V[i]?.bind _=_
 rw[h];rfl
theorem VR.handed{h0:Heap}(r:VR h0 h O v x):handedIn v=true:=by
 cases r <;> rfl
theorem Rep.inst(R:Rep W V O s){c:Addr}{m:List (Nat×AV)}{a d:Addr}(hi:V[i]?=some (.inst c m))(hp:O[i]?=some (a,d)):
  ∃n es,ph W c/\dH m/\s.heap.get? a=some ⟨.ref c,some d,.plain,#[]⟩/\s.heap.get? d=some (dictOf es n)/\EsR W.h0 s.heap O es m:=by
 exact(R.obj i _ _ hi hp).inv
theorem lq{b:Bool}(hk:k<=8)(R:Rep W V O s)(vx:VR W.h0 s.heap O v x)(h:so x k Q V):
  wpAny W.M A (getAttr v (atN k) b) (H9 W [] O s.heap Q) NoE s:=by
 rcases U7 h with⟨y,e,q⟩
 rcases wY e with⟨i,c,m,rfl,hm,e⟩
 rcases vx.ref_inv with⟨a,d,rfl,hp⟩
 rcases R.inst hm hp with⟨n,es,C,hle,h1,h2,h3⟩
 rcases h3.get hk hle e with⟨w,g1,g2⟩
 rcases(Option.any_eq_true ..).mp (C.get ⟨k,GG hk⟩)with⟨attr,ha,hn⟩
 exact get_value R.kin (gk h1 h2) C.hga (findObj_own C.dict ha hn (by rw[NU];exact g1)) g2.handed (.now R g2 q)
def X9(o:Expr):Prop:=∀(attr:Str) (env:Env) (t:Sem Value),attributeBase o attr env t=t
theorem A9{x:Str}{pos:Pos}:X9 (.Name x pos):=λ Y Y Y=>rfl
theorem aV{a b:Expr}{pos:Pos}:X9 (.Subscript a b pos):=λ Y Y Y=>rfl
theorem bF{a:Expr}{x:Str}{pos:Pos}:X9 (.Attribute a x pos):=λ Y Y Y=>rfl
def I6(a:PT)(k:Nat):PT:=λ st Q V=>a st (λ x ON=>so x k Q ON) V
theorem pC{value:Expr}{attr:Str}{pos:Pos}:eval (.Attribute value attr pos) env=(do
  let o <- attributeBase value attr env (eval value env)
  standAt pos.atName
  let r <- holding [o] (getAttr o attr true)
  letTemporaryGo value o r
  pure r):=rfl
theorem c7{l:Expr}{x:Str}{pos:Pos}{a:PT}(hl:J0 W n F l a)(hb:X9 l)(hx:x=atN k)(hk:k<=8):J0 W n F (.Attribute l x pos) (I6 a k):=by
 subst hx
 intro A env s V O st Q ro R f hp
 refine Mr (hl.then ro R f hp λ v OQ ON OV x q OR OW vx OU Pb=>?_) (by rw[pC,hb])
 exact Fy (lq hk OR vx q) (λ Y Y p=>.after OU p) λ Y Y x=>x
theorem w0{prog:Program}{w:World}{K:Frag}{x C dx:Addr}{ox:Obj}{name:Str}{tk:Tok}{R:Result->Shared->Prop}{es:List DictEntry}(X:K.In s.heap)
  (I:InstAt s.heap x ox C (some (dictOf es n)))(hd:ox.dict=some dx)(hp:plainOver K C=true)(ht:takerIn K C name=some none)(hh:(clsIn K C).any (·.hasDict)=true)
  (D:s.heap.get? dx=some (dictOf es n))(hl:es.any (·.refKey)=false)(hz:(putL name (PyData.keyHash w.params name) (.str name s.toks) v es).length<=1000)
  (h:∀h',h'.get? dx=some (dictOf (putL name (PyData.keyHash w.params name) (.str name s.toks) v es) (putN name es n))->Heap.SameBut dx s.heap h'->R (.ok (.ret .none)) { s with heap:=h',toks:=s.toks+1 }):
  codeAny (model prog w) A (.call (.builtin "object.__setattr__") ⟨[.ref x,.str name tk,v],[]⟩) R s:=by
 refine osa_open X I hp ht λ b=>?_
 refine xE (any_some hh) λ cd Z=>(λ hc hd'=>?_) Z.1 Z.2;clear Z
 have D':(s.heap.update dx (Obj.putName name (PyData.keyHash w.params name) (.str name s.toks) v)).get? dx=some (dictOf (putL name (PyData.keyHash w.params name) (.str name s.toks) v es) (putN name es n)):=by
  rw[<- Nw]
  exact Kv _ D (by rw[Nw];rfl)
 obtain⟨hx,hcl,hn,-⟩:=I
 obtain⟨oc,odi,oda,osl⟩:=ox
 dsimp only at hcl hd
 subst hcl hd
 refine nt (Fp (nt (nt (Lb hx (nt ((looks_clsIn X hc).here ?_))))))
 rw[hd']
 refine Fp (a:=some dx) (nt (Fp (nt ?_)))
 unfold nsSet
 refine nt (nt (NL (Fp (nt (Mc (nt (Lb D ?_)))))))
 have c:(!es.toArray.any (·.key.isStr name)&&es.toArray.any (·.refKey))=false:=by
  rw[<- Nx,<- Nx]
  exact(congrArg (_ && ·) hl).trans (Bool.and_false _)
 show wpAny _ _ (if aRefKeyMayBeTheName name es.toArray=true then _ else _) _ _ _
 rw[LW,c]
 refine NP D ?_
 refine nt (NN D' (NJ (by rw[HM,MF];exact zzb hz rfl)) ?_)
 exact Fp (h _ D' (KP ..))
def xc(o:I3)(K:Addr->List (Nat×AV)->Prop):Prop:=match o with
 | .inst c m=>K c m
 | _=>False
def xd(x:AV)(k:Nat)(y:AV)(Q:Sto->Prop)(V:Sto):Prop:=inR x λ i=>inO V[i]? λ o=>xc o λ c m=>m.length<=900/\Q (V.set i (.inst c (jA m k y)))
theorem qw{o:I3}{K:Addr->List (Nat×AV)->Prop}(h:xc o K):∃c m,o=.inst c m/\K c m:=by induction o with|inst c m=>exact⟨c,m,rfl,h⟩|_=>exact h.elim
theorem tQ(k:Nat)(y:AV)(m:List (Nat×AV)):(jA m k y).length<=m.length+1:=by
 induction m with
 | nil=>exact Fn _
 | cons p m ih=>
  unfold jA
  by_cases h:p.1=k
  ·rw[if_pos h];exact HS _
  ·rw[if_neg h];exact Fq ih
theorem sq{y:AV}(hk:k<=8){m:List (Nat×AV)}:dH m->dH (jA m k y):=by
 induction m with
 | nil=>intro _ p hp;rw[Fh.mp hp];exact hk
 | cons q m ih=>
  intro h
  have h1:=h q (.head _)
  have h2:=ih λ p hp=>h p (.tail _ hp)
  unfold jA
  by_cases e:q.1=k
  ·rw[if_pos e];exact Mz.mpr ⟨h1,λ p hp=>h p (.tail _ hp)⟩
  ·rw[if_neg e];exact Mz.mpr ⟨h1,h2⟩
theorem lr{Q:Sto->Prop}{o:Value}{z:AV}{P:Unit->Shared->Prop}(hk:k<=8)(R:Rep W V O s)(vx:VR W.h0 s.heap O o x)(vz:VR W.h0 s.heap O v z)
  (h:xd x k z Q V)(go:∀s' OP,Q OP->Rep W OP O s'->E8 W [] O s.heap O s'.heap->Sub s.heap O s'.heap O->P () s'):wpAny W.M A (setAttr o (atN k) v) P NoE s:=by
 obtain⟨i,rfl,h⟩:=aj h
 obtain⟨ob,hm,h⟩:=U7 h
 refine xE (qw h) λ c Z=>xE Z λ m J=>(λ θ hlen q=>?_) J.1 J.2.1 J.2.2;rcases θ with rfl;clear Z J
 obtain⟨a,d,rfl,hp⟩:=vx.ref_inv
 refine xE (R.inst hm hp) λ n Z=>xE Z λ es J=>(λ C hle h1 h2 h3=>?_) J.1 J.2.1 J.2.2.1 J.2.2.2.1 J.2.2.2.2;clear Z J
 refine set_plain R.kin (gk h1 h2) C.hsa ?_
 have hput:∀t,EsR W.h0 s.heap O (putL (atN k) (PyData.keyHash W.w.params (atN k)) (.str (atN k) t) v es) (jA m k z):=λ t=>EsR.put hk vz h3 hle
 refine w0 (s:={ s with toks:=s.toks+1 }) R.kin (gk h1 h2) rfl C.plain (C.tak ⟨k,GG hk⟩) C.dict h2 h3.plain ?_ λ h' hd hs=>?_
 ·rw[(hput _).len];exact fp (tQ k z m) (fp (Fq hlen) (by decide))
 ·have hne:a≠d:=λ e=>by subst e;rw[h1]at h2;cases h2
  obtain⟨OY,S,U⟩:=R.upd (o':=.inst c (jA m k z)) (d:=s.drawn) (t:=s.toks+1+1) (FC.mp hm).1 hp (h':=h') hs
   (λ U=>.inst C (sq hk hle) ((hs.2 a hne).trans h1) hd (EsR.mono U (hput _)))
  exact go _ _ q OY S U
def K5(a:PT)(k:Nat):GT:=λ v st Q V=>a st (λ x ON=>xd x k v (λ OS=>Q st OS) ON) V
theorem qx(o:Expr)(x:Str)(pos:Pos)(env:Env)(v:Value):assign (.Attribute o x pos) env v=(do
  let ov <- holding [v] (eval o env)
  standAt pos.atName
  holding [v,ov] (setAttr ov x v)
  release [v,ov] []):=rfl
theorem tR{ks:List Value}{P:Unit->Shared->Prop}(h:P () s):wpAny W.M A (release vs ks) P NoE s:=λ Γ p QV=>by
 rw[Ot];exact h
theorem my{o:Expr}{x:Str}{pos:Pos}{a:PT}(ho:J0 W n F o a)(hx:x=atN k)(hk:k<=8):dN W n F (.Attribute o x pos) (K5 a k):=by
 subst hx
 intro A env s V O st Q v z P ro R f vr hp go
 rw[qx]
 refine nt (Gl (ho.then ro R f hp λ w OQ ON OV x q OR OW vx OU Pb=>?_))
 refine nt (GH (nt (Gl ?_)))
 refine lr hk OR vx (VR.mono Pb vr) q λ Pj OZ q Pf Pe Pw=>tR ?_
 exact go Pj OZ OV st q Pf (OW.step0 Pe Pw) (wk (OU.trans Pe)) (Z5 Pb Pw)
def I0:List GT->AV->List AV->(List AV->Sto->Prop)->Sto->Prop
 | [],x,st,Q,V=>Q st V
 | g::gs,x,st,Q,V=>g x st (λ st V=>I0 gs x st Q V) V
inductive lu(W:Wld)(k:Nat)(F:Fm):List Expr->List GT->Prop
 | nil:lu W k F [] []
 | cons {e r g gs:_}:dN W k F e g->aU e=true->lu W k F r gs->lu W k F (e::r) (g::gs)
theorem lz(ro:N3 k A){es:List Expr}{gs:List GT}(h:lu W k F es gs):∀{s:Shared}{V:Sto}{O:Mp}{st:List AV}{Q:List AV->Sto->Prop}{v:Value}{x:AV}{P:Unit->Shared->Prop},
  Rep W V O s->FrR W F env st s.heap O->VR W.h0 s.heap O v x->I0 gs x st Q V->
  (∀s' OP OT st',Q st' OP->Rep W OP OT s'->FrR W F env st' s'.heap OT->E8 W (frX env) O s.heap OT s'.heap->P () s')->wpAny W.M A (assignAll v ((assignEach es env).map (·.2))) P NoE s:=by
 induction h with
 | nil=>exact λ R f vr hp go=>Fp (go _ _ _ _ hp R f E8.rfl')
 | @cons e r g gs he hn hr ih=>
  intro s V O st Q v x P R f vr hp go
  rw[ag hn]
  cases r with
  | nil=>
   cases hr
   exact he.run ro R f vr hp λ OQ ON OV Po q OR OW OU Pb=>go OQ ON OV Po q OR OW OU
  | cons e' r'=>
   cases hr with
   | cons he' hn' hr'=>
   have go':wpAny W.M A (do holding [v] (assign e env v);assignAll v ((assignEach (e'::r') env).map (·.2))) P NoE s:=by
    refine nt (Gl (he.run ro R f vr hp λ OQ ON OV Po q OR OW OU Pb=>?_))
    exact ih OR OW (VR.mono Pb vr) q λ Pl OS Pc Pq q OY Ph OX=>go Pl OS Pc Pq q OY Ph (OU.trans OX)
   rw[ag hn']at go' ⊢
   exact go'
def B7(p:PT)(gs:List GT):ST:=λ st Q V=>p st (λ x ON=>I0 gs x st (λ st V=>Q .next st V) ON) V
def nZ(F:Fm)(ts:List Expr)(v:Expr)(line:Nat):Prop:=∀env:Env,env.scope=F.scope->swapsWithSole ts v line env=pure false/\swappedStores ts v env=pure none
theorem G8{ts:List Expr}{v:Expr}{pos:Pos}{p:PT}{gs:List GT}(hv:J0 W k F v p)(hg:lu W k F ts gs)(hp:nZ F ts v pos.line):O6 W k F (.Assign ts v pos) (B7 p gs):=by
 intro A env s V O st Q ro R f h
 obtain⟨h1,h2⟩:=hp env f.scope
 refine MS (hv.then ro R f h λ w OQ ON OV x q OR OW vx OU Pb=>?_) h1 h2
 exact lz ro hg OR OW vx q λ Pl OS Pc Pq q OY Ph OX=>⟨OS,Pc,Pq,.next,q,OY,.next,Ph,(wk OU).trans OX⟩
def G2(p:PT):ST:=λ st Q V=>p st (λ x ON=>Q (.ret x) st ON) V
theorem Y7{v:Expr}{pos:Pos}{p:PT}(hv:J0 W k F v p):O6 W k F (.Return (some v) pos) (G2 p):=by
 intro A env s V O st Q ro R f h
 exact wpAny_Return_some (hv.then ro R f h λ w OQ ON OV x q OR OW vx OU Pb=>⟨ON,OV,st,.ret x,q,OR,.ret vx,OW,wk OU⟩)
def L7:ST:=λ st Q V=>Q .brk st V
def H7:ST:=λ st Q V=>Q .cont st V
theorem Bx{pos:Pos}:O6 W k F (.Break pos) L7:=by
 intro A env s V O st Q ro R f h
 exact λ Γ p Y=>⟨V,O,st,.brk,h,R,.brk,f,E8.rfl'⟩
theorem za{pos:Pos}:O6 W k F (.Continue pos) H7:=by
 intro A env s V O st Q ro R f h
 exact λ Γ p Y=>⟨V,O,st,.cont,h,R,.cont,f,E8.rfl'⟩
def B5:ST:=λ st Q V=>Q .next st V
def A4(a b:ST):ST:=λ st Q V=>a st (λ g st V=>match g with|.next=>b st Q V|g=>Q g st V) V
theorem F8:O0 W k F [] B5:=by
 intro A env s V O st Q ro R f h
 exact KN ⟨V,O,st,.next,h,R,.next,f,E8.rfl'⟩
theorem A8{x:Stmt}{r:List Stmt}{a b:ST}(hx:O6 W k F x a)(hr:O0 W k F r b):O0 W k F (x::r) (A4 a b):=by
 intro A env s V O st Q ro R f h
 refine JS (Fy (hx.run ro R f h) (λ fl OQ hp=>?_) λ Y Y x=>x)
 obtain⟨ON,OV,Po,g,q,OR,fr,OW,OU⟩:=hp
 induction fr with
 | next=>exact Fy (hr.run ro OR OW q) (λ Y Y p=>.after OU p) λ Y Y x=>x
 | brk=>exact⟨ON,OV,Po,.brk,q,OR,.brk,OW,OU⟩
 | cont=>exact⟨ON,OV,Po,.cont,q,OR,.cont,OW,OU⟩
 | ret vr=>exact⟨ON,OV,Po,.ret _,q,OR,.ret vr,OW,OU⟩
def sIf(t:TT)(a b:ST):ST:=λ st Q V=>t st (λ c ON=>if c=true then a st Q ON else b st Q ON) V
theorem eIf{e:Expr}{x y:List Stmt}{pos:Pos}{t:TT}{a b:ST}(ht:bg W k F e t)(hx:O0 W k F x a)(hy:O0 W k F y b):O6 W k F (.If e x y pos) (sIf t a b):=by
 intro A env s V O st Q ro R f h
 refine wpAny_If (ht.then ro R f h λ c OQ ON OV q OR OW OU Pb=>?_)
 cases c with
 | true=>exact Fy (hx.run ro OR OW q) (λ Y Y p=>.after (wk OU) p) λ Y Y x=>x
 | false=>exact Fy (hy.run ro OR OW q) (λ Y Y p=>.after (wk OU) p) λ Y Y x=>x
def mz(W:Wld)(F:Fm)(env:Env)(O:Mp)(h:Heap)(Q:G3->List AV->Sto->Prop)(r:Result)(s':Shared):Prop:=match r with
 | .ok f=>cD W F env (frX env) O h Q f s'
 | .error _=>False
def cE(t:TT)(body:ST):ST:=λ st Q V=>∃(I:Nat->List AV->Sto->Prop) (n:Nat),I n st V/\∀n st V,I n st V->
 t st (λ c ON=>if c=true then body st (λ g Pq OS=>match g with
  | .next|.cont=>∃m,m<n/\I m Pq OS
  | .brk=>Q .next Pq OS
  | .ret x=>Q (.ret x) Pq OS) ON else Q .next st ON) V
theorem jH{e:Expr}{x:List Stmt}{pos:Pos}{t:TT}{a:ST}(ht:bg W k F e t)(hx:O0 W k F x a):O6 W k F (.While e x [] pos) (cE t a):=by
 intro A env s V O st Q ro R f h
 refine xE h λ I Z=>xE Z λ n J=>(λ h0 turn=>?_) J.1 J.2;clear h Z J
 refine wpAny_While (Jd (R:=mz W F env O s.heap Q) ?_ (λ r s' hr=>?_))
 ·refine codeAny_whileLoop (λ n s'=>∃OP OT st',I n st' OP/\Rep W OP OT s'/\FrR W F env st' s'.heap OT/\E8 W (frX env) O s.heap OT s'.heap) (λ n OQ hI=>?_) n ⟨V,O,st,h0,R,f,E8.rfl'⟩
  refine xE hI λ ON Z=>xE Z λ OV J=>xE J λ Po θ=>(λ hI OR OW OU=>?_) θ.1 θ.2.1 θ.2.2.1 θ.2.2.2;clear Z J θ
  refine Fy (ht.then ro OR OW (turn n Po ON hI) (P:=λ b Pl=>_) λ c Pl OS Pc q OY Ph OX Pg=>?_) (λ Y Y x=>x) λ Y Y x=>x.elim
  induction c with
  | false=>
   exact KN ⟨OS,Pc,Po,.next,q,OY,.next,Ph,OU.trans (wk OX)⟩
  | true=>
   refine Fy (hx.run ro OY Ph q) (λ fl Pj hp=>?_) λ Y Y x=>x.elim
   obtain⟨OZ,Pa,PS,g,q,Pf,fr,Py,Pe⟩:=hp
   induction fr with
   | next=>refine xE q λ m Z=>(λ hm hI=>?_) Z.1 Z.2;clear q Z;exact⟨m,hm,OZ,Pa,PS,hI,Pf,Py,(OU.trans (wk OX)).trans Pe⟩
   | cont=>refine xE q λ m Z=>(λ hm hI=>?_) Z.1 Z.2;clear q Z;exact⟨m,hm,OZ,Pa,PS,hI,Pf,Py,(OU.trans (wk OX)).trans Pe⟩
   | brk=>exact⟨OZ,Pa,PS,.next,q,Pf,.next,Py,(OU.trans (wk OX)).trans Pe⟩
   | ret vr=>exact⟨OZ,Pa,PS,.ret _,q,Pf,.ret vr,Py,(OU.trans (wk OX)).trans Pe⟩
 ·induction r with
  | ok fl=>exact hr
  | error e=>exact hr.elim
def tS(x y:AV)(Q:AV->Sto->Prop)(V:Sto):Prop:=match x with
 | .int a=>inI y λ b=>Q (.int (a+b)) V
 | .str a=>inS y λ b=>a.length+b.length<=lim/\Q (.str (a++b)) V
 | _=>False
theorem xe(a b:List Nat):((⟨a.toArray⟩:Str)++(⟨b.toArray⟩:Str))=⟨(a++b).toArray⟩:=by
 apply Str.ext'
 rw[La];simp
theorem hU{v':Value}{y:AV}(R:Rep W V O s)(vx:VR W.h0 s.heap O v x)(vy:VR W.h0 s.heap O v' y)
  (h:tS x y Q V):wpAny W.M A (inplaceOp .Add v v') (H9 W [] O s.heap Q) NoE s:=by
 cases x with
 | int a=>
  obtain⟨b,rfl,q⟩:=W7 h
  obtain⟨t,rfl⟩:=vx.int_inv;obtain⟨u,rfl⟩:=vy.int_inv
  exact wpAny_iadd_int (.now R (.int _ _) q)
 | str a=>
  obtain⟨b,rfl,hl,q⟩:=fM h
  obtain⟨t,rfl⟩:=vx.str_inv;obtain⟨u,rfl⟩:=vy.str_inv
  refine PySem.SB.iadd (λ t' k=>?_) (fp hl O5)
  rw[xe]
  exact .now R (.str (a++b).toArray _) q
 | _=>exact h.elim
def H0(i:Nat)(p:PT):ST:=λ st Q V=>A5 i st (λ x ON=>p st (λ y OS=>tS x y (λ z OZ=>Q .next (st.set i z) OZ) OS) ON) V
theorem tT{x:Str}{v:Expr}{p1 p2:Pos}{p:PT}(hv:J0 W k F v p)(hi:nI F x i=true)(hs:dB F x i=true):O6 W k F (.AugAssign (.Name x p1) .Add v p2) (H0 i p):=by
 intro A env s V O st Q ro R f h
 obtain⟨h1,h2,h3,h4⟩:=nJ hi
 obtain⟨h5,h6⟩:=dM hs
 rw[exec_AugAssign_Name]
 refine nt (GH (nt (Fy (nH R f h h3 h4 h2) (λ w OQ hp=>?_) λ Y Y x=>x)))
 obtain⟨ON,OV,x,q,OR,vx,OU⟩:=hp
 have Pb:=R.sub0 OU
 refine nt (Gl (hv.then ro OR (f.step0 OU Pb) q λ u Pl OS Pc y q OY Ph vy OX Pg=>?_))
 refine nt (GH (nt (Mj (Fy (hU OY (VR.mono Pg vx) vy q) (λ z Pj hp=>?_) λ Y Y x=>x))))
 obtain⟨OZ,Pa,z',q,Pf,vz,Pe⟩:=hp
 have Pw:=OY.sub0 Pe
 refine nt (GH (nt (eX Pf (Ph.step0 Pe Pw) vz h5 h6 λ PE PB PG PC PU=>?_)))
 exact Fp ⟨OZ,Pa,_,.next,q,PB,.next,PG,(wk ((OU.trans OX).trans Pe)).trans PC⟩
theorem sr{v':Value}{y:AV}(R:Rep W V O s)(vx:VR W.h0 s.heap O v (.ref i))(vy:VR W.h0 s.heap O v' y)
  (h:bh (.ref i) y Q V):wpAny W.M A (getItem v v') (H9 W [] O s.heap Q) NoE s:=by
 obtain⟨k,rfl,hk,g⟩:=W7 h
 obtain⟨r,e,q⟩:=U7 g
 refine xE (GA.mp e) λ l Z=>(λ h1 h2=>?_) Z.1 Z.2;clear Z
 refine xE vy.int_inv λ u Z=>?_;rcases Z with rfl
 obtain⟨a,n,vs,rfl,_,hl,hv⟩:=vx.ref_list R h1
 refine xE (hv.at' h2) λ v Z=>(λ e1 e2=>?_) Z.1 Z.2;clear Z
 exact dJ hl.isList hk e1 (.here R e2 q)
def By(x:AV):Prop:=inR x λ Y=>True
def I4(a b p:PT):ST:=λ st Q V=>a st (λ x ON=>b st (λ y OS=>By x/\bh x y (λ o OZ=>p st (λ v Pz=>tS o v (λ z PA=>nY x y z (λ PV=>Q .next st PV) PA) Pz) OZ) OS) ON) V
theorem jI{i:Expr}(h:dK i=true)(ov iv new:Value):augStore i ov iv new=(do holding [new,ov,iv] (setItem ov iv new);release [new,ov,iv] [];pure .next):=by
 cases i with
 | Slice=>cases h
 | _=>rfl
theorem Bz{o i v:Expr}{p1 p2:Pos}{a b p:PT}(ho:J0 W k F o a)(hi:J0 W k F i b)(hv:J0 W k F v p)(hn:dK i=true):O6 W k F (.AugAssign (.Subscript o i p1) .Add v p2) (I4 a b p):=by
 intro A env s V O st Q ro R f h
 refine wpAny_AugAssign_SubscriptAny (ho.then ro R f h λ w OQ ON OV x q OR OW vx OU Pb=>?_) (λ ov iv new=>jI hn ov iv new)
 refine hi.then ro OR OW q λ u Pl OS Pc y q OY Ph vy OX Pg=>?_
 rcases q with⟨hr,q⟩
 rcases aj hr with⟨j,rfl,_⟩
 refine Fy (sr OY (VR.mono Pg vx) vy q) (λ z Pj hp=>?_) λ Y Y x=>x
 rcases hp with⟨OZ,Pa,oz,q,Pf,vz,Pe⟩
 have Pw:=OY.sub0 Pe
 refine hv.then ro Pf (Ph.step0 Pe Pw) q λ t PE Pz PN nv q PB PG vt PC PU=>?_
 refine Fy (hU PB (VR.mono PU vz) vt q) (λ r PO hp=>?_) λ Y Y x=>x
 rcases hp with⟨PA,Px,rz,q,PH,vr,PJ⟩
 have Qm:=PB.sub0 PJ
 have PK:=Z5 (Z5 Pw PU) Qm
 refine lg PH (VR.mono PK (VR.mono Pg vx)) (VR.mono PK vy) vr q λ Ro PV q PZ PQ Qa=>?_
 exact⟨PV,Px,st,.next,q,PZ,.next,(PG.step0 PJ Qm).step0 PQ Qa,wk (((((OU.trans OX).trans Pe).trans PC).trans PJ).trans PQ)⟩
def I5(a:PT)(k:Nat)(p:PT):ST:=λ st Q V=>a st (λ x ON=>so x k (λ o OS=>p st (λ v OZ=>tS o v (λ z Pz=>xd x k z (λ PA=>Q .next st PA) Pz) OZ) OS) ON) V
theorem BA{o v:Expr}{x:Str}{p1 p2:Pos}{a p:PT}(ho:J0 W n F o a)(hv:J0 W n F v p)(hx:x=atN k)(hk:k<=8):O6 W n F (.AugAssign (.Attribute o x p1) .Add v p2) (I5 a k p):=by
 subst hx
 intro A env s V O st Q ro R f h
 refine wpAny_AugAssign_AttributeAny (ho.then ro R f h λ w OQ ON OV x q OR OW vx OU Pb=>?_)
 refine Fy (lq hk OR vx q) (λ z Pj hp=>?_) λ Y Y x=>x
 obtain⟨OZ,Pa,oz,q,Pf,vz,Pe⟩:=hp
 have Pw:=OR.sub0 Pe
 refine hv.then ro Pf (OW.step0 Pe Pw) q λ t PE Pz PN nv q PB PG vt PC PU=>?_
 refine Fy (hU PB (VR.mono PU vz) vt q) (λ r PO hp=>?_) λ Y Y x=>x
 obtain⟨PA,Px,rz,q,PH,vr,PJ⟩:=hp
 have Qm:=PB.sub0 PJ
 have PK:=Z5 (Z5 Pw PU) Qm
 refine lr hk PH (VR.mono PK vx) vr q λ Ro PV q PZ PQ Qa=>?_
 exact⟨PV,Px,st,.next,q,PZ,.next,(PG.step0 PJ Qm).step0 PQ Qa,wk ((((OU.trans Pe).trans PC).trans PJ).trans PQ)⟩
def F9(p:PT):ST:=λ st Q V=>p st (λ Y ON=>Q .next st ON) V
def lA(F:Fm)(e:Expr)(line:Nat):Prop:=∀env:Env,env.scope=F.scope->interactive env=false/\swapsWith e none line env=pure false
theorem bj{e:Expr}{pos:Pos}{p:PT}(he:J0 W k F e p)(hp:lA F e pos.line):O6 W k F (.Expr e pos) (F9 p):=by
 intro A env s V O st Q ro R f h
 obtain⟨h1,h2⟩:=hp env f.scope
 rw[exec_Expr env e pos h1 h2]
 refine nt (GH (nt (he.then ro R f h λ w OQ ON OV x q OR OW vx OU Pb=>wpAny_dropValue ?_)))
 exact⟨ON,OV,st,.next,q,OR,.next,OW,wk OU⟩
theorem Rep.lim(R:Rep W V O s):s.heap.NoLimit:=by
 obtain⟨mc,h1,h2⟩:=W.lim
 obtain⟨o,q1,q2⟩:=R.stat
 exact⟨mc,gd h1 (q2.trans q1.symm),h2⟩
theorem Rep.gns(R:Rep W V O s):s.heap.Ns mainGlobals W.mg:=by
 obtain⟨o,es,ep,ho,r⟩:=W.gns
 exact⟨o,es,ep,R.old.get_of_cls ho (W.gcl o ho),r⟩
theorem Rep.bns(R:Rep W V O s):s.heap.Ns builtinsNs W.mb:=by
 obtain⟨o,es,ep,ho,r⟩:=W.bns
 exact⟨o,es,ep,R.old.get_of_cls ho (W.bcl o ho),r⟩
def zb(P:Value->Shared->Prop)(r:Result)(s':Shared):Prop:=match r with
 | .ok (.ret v)=>P v s'
 | .ok _=>False
 | .error _=>False
structure M8(W:Wld)(k:Nat)(f:Addr)(xs:List AV)(Q:AV->Sto->Prop)(V:Sto):Prop where
 run:∀{A:Around}{s:Shared}{O:Mp}{vs:List Value},N3 k A->Rep W V O s->VRs W.h0 s.heap O vs xs->codeAny W.M A (.call (.ref f) ⟨vs,[]⟩) (zb (H9 W [] O s.heap Q)) s
theorem M8.wp{f:Addr}{xs:List AV}(h:M8 W k f xs Q V)(ro:N3 k A)(R:Rep W V O s)(vr:VRs W.h0 s.heap O vs xs):
  wpAny W.M A (call (.ref f) vs) (H9 W [] O s.heap Q) NoE s:=
 Mb (Jd (h.run ro R vr) λ r s' z=>by rcases r with e|(v|_|_|_) <;> first|exact z|exact z.elim)
structure FnI(W:Wld)(a:Addr)(F:Fm)(params:List Str)(body:List Stmt):Prop where
 obj:∃o fd,W.K.lookup a=some o/\o.data=.func fd/\fd.scope=F.scope/\fd.body=.stmts body/\fd.closure=[]/\fd.globals=mainGlobals/\fd.builtins=builtinsNs/\codeIn W.K fd.code fd.qualname=true/\
  ∀vs:List Value,vs.length=params.length->bindArgs fd ⟨vs,[]⟩=pure (params.zip vs)
 co:F.scope.isCoroutine=false
 gen:F.scope.isGenerator=false
 kind:F.scope.kind=.function
 pnd:params.Nodup
 pk:∀p∈params,F.scope.names.lookup p=some .local\/F.scope.names.lookup p=some .cell
 nnd:(F.scope.names.map (·.1)).Nodup
 nofree:∀p∈F.scope.names,p.2≠.free
 sinj:∀x y i,F.slots.lookup x=some i->F.slots.lookup y=some i->x=y
 pslot:∀i (h:i<params.length),F.slots.lookup params[i]=some i
theorem tU{β:Type}[BEq α][LawfulBEq α]{a x:α}{y:β}{l:List (α×β)}(h:a≠x):List.lookup a ((x,y)::l)=List.lookup a l:=by rw[HD,beq_false_of_ne h]
set_option tactic.hygienic true in
theorem kI(names:List (Str×NameKind))(n:Nat)(acc:List (Str×Addr))(p:Str×Addr)(h:p∈cellsFrom n names acc):p∈acc\/(p.1,NameKind.cell)∈names:=by
 induction names generalizing n acc with
 | nil=>exact .inl h
 | cons z r ih=>
  unfold cellsFrom at h
  split at h
  ·rename_i e
   refine(ih _ _ h).elim (λ q=>(Fv.mp q).elim (λ q=>.inr ?_) .inl) λ q=>.inr (.tail _ q)
   exact q▸beq_iff_eq.mp e▸.head _
  ·exact(ih _ _ h).imp id λ q=>.tail _ q
theorem W8{β:Type}[BEq α][LawfulBEq α]{a:α}{b:β}{l:List (α×β)}(hn:(l.map (·.1)).Nodup)(h:(a,b)∈l):l.lookup a=some b:=by
 induction l with
 | nil=>cases h
 | cons z r ih=>
  have hn:=GZ.mp hn
  refine(Fv.mp h).elim (λ e=>e▸Ik) λ h=>(tU (λ e=>hn.1 ?_)).trans (ih hn.2 h)
  exact(congrArg (·∈r.map (·.1)) e).mp (Gk (f:=(·.1)) h)
theorem jJ(names:List (Str×NameKind))(n:Nat)(acc:List (Str×Addr))(hn:(names.map (·.1)).Nodup)(ha:(acc.map (·.1)).Nodup)(hd:∀p∈acc,p.1∉names.map (·.1)):((cellsFrom n names acc).map (·.1)).Nodup:=by
 induction names generalizing n acc with
 | nil=>exact ha
 | cons z r ih=>
  have hn:=GZ.mp hn
  have hr:∀p∈acc,p.1∉r.map (·.1):=λ p hp q=>hd p hp (.tail _ q)
  unfold cellsFrom
  split
  ·refine ih _ _ hn.2 (GZ.mpr ⟨λ q=>(FN.mp q).elim λ p k=>hd p k.1 (k.2▸.head _),ha⟩) λ p hp=>(Fv.mp hp).elim (λ e=>e▸hn.1) (hr p)
  ·exact ih _ _ hn.2 ha hr
theorem lB(names:List (Str×NameKind))(n:Nat)(acc:List (Str×Addr))(p:Str×Addr)(h:p∈acc):p∈cellsFrom n names acc:=by
 induction names generalizing n acc with
 | nil=>exact h
 | cons z r ih=>
  unfold cellsFrom
  split
  ·exact ih _ _ (.tail _ h)
  ·exact ih _ _ h
set_option tactic.hygienic true in
theorem fw(names:List (Str×NameKind))(n:Nat)(acc:List (Str×Addr))(x:Str)(h:(x,NameKind.cell)∈names):∃c,(x,c)∈cellsFrom n names acc:=by
 induction names generalizing n acc with
 | nil=>cases h
 | cons z r ih=>
  unfold cellsFrom
  split
  ·exact(Fv.mp h).elim (λ e=>⟨n,lB _ _ _ _ (e▸.head _)⟩) (ih _ _)
  ·rename_i e
   exact(Fv.mp h).elim (λ q=>absurd (q▸(rfl:((x,NameKind.cell).2==NameKind.cell)=true)) e) (ih _ _)
section
variable {kf:Str->Option NameKind}{b:List (Str×Value)}{m:Str->Option Value}{x:Str}{v:Value}
theorem pD(h:x∉b.map (·.1)):bindL kf b m x=m x:=by
 induction b generalizing m with
 | nil=>rfl
 | cons z r ih=>
  unfold bindL
  rw[ih λ q=>h (.tail _ q)]
  split
  ·exact if_neg (c:=x=z.1) λ e=>h (Fv.mpr (.inl e))
  ·rfl
theorem pE(hn:(b.map (·.1)).Nodup)(h:(x,v)∈b)(hk:kf x=some .local):bindL kf b m x=some v:=by
 induction b generalizing m with
 | nil=>cases h
 | cons p r ih=>
  have hn:=GZ.mp hn
  unfold bindL
  rcases Fv.mp h with rfl|h
  ·rw[pD hn.1,if_pos hk];exact if_pos rfl
  ·exact ih hn.2 h
theorem pF(h:x∉b.map (·.1)):bindC kf b m x=m x:=by
 induction b generalizing m with
 | nil=>rfl
 | cons z r ih=>
  unfold bindC
  rw[ih λ q=>h (.tail _ q)]
  split
  ·rfl
  ·exact if_neg (c:=x=z.1) λ e=>h (Fv.mpr (.inl e))
theorem pG(hn:(b.map (·.1)).Nodup)(h:(x,v)∈b)(hk:kf x≠some .local):bindC kf b m x=some v:=by
 induction b generalizing m with
 | nil=>cases h
 | cons p r ih=>
  have hn:=GZ.mp hn
  unfold bindC
  rcases Fv.mp h with rfl|h
  ·rw[pF hn.1,if_neg hk];exact if_pos rfl
  ·exact ih hn.2 h
end
def n4(Q:AV->Sto->Prop)(g:G3)(_:List AV)(V:Sto):Prop:=match g with
 | .ret x=>Q x V
 | _=>Q .none V
theorem U8{a:Nat}(ha:h.objs.size<=a):h.get? a=none:=by
 cases e:h.get? a with
 | none=>rfl
 | some o'=>exact absurd (IF e) (Ir.mpr ha)
theorem zM{x y:Str}{c:Addr}{l:List (Str×Addr)}(hl:l.Pairwise (λ x y=>x.2≠y.2)):(x,c)∈l->(y,c)∈l->x=y:=by
 induction hl with
 | nil=>exact λ h=>nomatch h
 | cons hh _ ih=>
  refine λ h1 h2=>(Fv.mp h1).elim (λ e1=>(Fv.mp h2).elim (λ e2=>congrArg (·.1) (e1.trans e2.symm)) λ h2=>?_) λ h1=>(Fv.mp h2).elim (λ e2=>?_) λ h2=>ih h1 h2
  ·exact absurd rfl (e1▸hh _ h2)
  ·exact absurd rfl (e2▸hh _ h1)
theorem qy{h0:Heap}{params:List Str}{xs:List AV}{y:AV}(vr:VRs h0 h O vs xs)(hl:xs.length=params.length)(hy:(xs++List.replicate n AV.undef)[i]?=some y)(hu:y≠.undef):
  ∃(p:Str) (v:Value),params[i]?=some p/\(p,v)∈params.zip vs/\VR h0 h O v y:=by
 by_cases hi:i<xs.length
 ·rw[Fs hi]at hy
  exact(vr.get hy).elim λ v q=>⟨_,v,Ff (hl▸hi),FD (List.getElem?_zip_eq_some.mpr ⟨Ff (hl▸hi),q.1⟩),q.2⟩
 ·rw[Ga (Ir.mp hi)]at hy
  exact absurd (List.eq_of_mem_replicate (FD hy)) hu
theorem FnI.is{a:Addr}{params:List Str}{body:List Stmt}(I:FnI W a F params body){x p:Str}(hx:F.slots.lookup x=some i)(hp:params[i]?=some p):x=p:=by
 obtain⟨h,e⟩:=FC.mp hp
 exact I.sinj _ _ i hx (e▸I.pslot i h)
theorem xf{a:Addr}{params:List Str}{body:List Stmt}{xs:List AV}{Pt:Heap}{tk:Nat}(I:FnI W a F params body)(R:Rep W V O s)(e1:env.scope=F.scope)(e3:env.globals=mainGlobals)(e4:env.builtins=builtinsNs)(eL:s.heap.get? env.locals=none)
  (C:InCallC s env.locals (bindL env.kindOf (params.zip vs) λ Y=>none) env.cells (bindC env.kindOf (params.zip vs) λ Y=>none) { s with heap:=Pt,toks:=tk })(hl:xs.length=params.length)(vr:VRs W.h0 Pt O vs xs)(hz:(params.zip vs).map (·.1)=params)(ck:(env.cells.map (·.1)).Nodup)
  (hc:∀x,F.scope.names.lookup x=some .cell->∃c,(x,c)∈env.cells)(hfr:∀p∈env.cells,s.heap.get? p.2=none):FrR W F env (xs++List.replicate n .undef) Pt O:=by
 have hkf:∀x,env.kindOf x=F.scope.names.lookup x:=λ x=>congrArg (λ S:Scope=>List.lookup x S.names) e1
 have hb:((params.zip vs).map (·.1)).Nodup:=hz.symm▸I.pnd
 refine⟨e1,I.kind,e3,e4,C.toInCall.ns.elim λ oL k=>⟨_,oL,C.toInCall.ns,k.elim λ Y k=>k.elim λ Y k=>k.1,λ x i hx hk y hy hu=>?_⟩,λ p hp=>(C.cell p.1 p.2 (W8 ck hp)).elim λ oc k=>⟨oc,_,k⟩,λ x i hx hk=>?_,R.notM eL,λ p hp=>R.notM (hfr p hp),λ x y c h1 h2=>zM C.apart (mem_of_lookup h1) (mem_of_lookup h2),I.sinj,R.not0 eL,λ p hp=>R.not0 (hfr p hp)⟩
 ·exact(qy vr hl hy hu).elim λ p k=>k.elim λ v k=>⟨v,pE hb (I.is hx k.1▸k.2.1) ((hkf x).trans hk),k.2.2⟩
 ·have hk:F.scope.names.lookup x=some .cell:=hk.elim id λ hk=>(I.nofree _ (mem_of_lookup hk) rfl).elim
  refine(hc x hk).elim λ c hc=>⟨c,W8 ck hc,λ y hy hu=>(qy vr hl hy hu).elim λ p k=>k.elim λ v k=>⟨v,?_,k.2.2⟩⟩
  exact(pG (m:=λ Y=>none) hb (I.is hx k.1▸k.2.1) (show env.kindOf x≠_ by rw[hkf,hk];decide))▸C.cell x c (W8 ck hc)
theorem lC{a:Addr}{params:List Str}{body:List Stmt}{xs:List AV}(I:FnI W a F params body)(hl:xs.length=params.length)
  (hb:∀{A:Around}{env:Env}{s OQ:Shared}{O:Mp}{o:Obj}{fd:FuncData},W.K.lookup a=some o->o.data=.func fd->env.code=fd.code->env.qual=fd.qualname ++ ".<locals>."->N3 k A->Rep W V O OQ->FrR W F env (xs++List.replicate n .undef) OQ.heap O->E8 W [] O s.heap O OQ.heap->
   (∀b∈frX env,s.heap.get? b=none)->
   wpAny W.M A (execs body env) (λ fl s'=>∃OP OT g,n4 Q g [] OP/\Rep W OP OT s'/\bD W.h0 s'.heap OT fl g/\E8 W (frX env) O s.heap OT s'.heap) NoE OQ):M8 W (k+1) a xs Q V:=by
 refine⟨fun{A s O vs} ro R vr=>?_⟩
 refine xE I.obj λ o Z=>xE Z λ fd J=>(λ hK hd hsc hbd hclo hgl hbu hci hbind=>?_) J.1 J.2.1 J.2.2.1 J.2.2.2.1 J.2.2.2.2.1 J.2.2.2.2.2.1 J.2.2.2.2.2.2.1 J.2.2.2.2.2.2.2.1 J.2.2.2.2.2.2.2.2;clear Z J
 have hz:(params.zip vs).map (·.1)=params:=List.map_fst_zip (Fw (hl.symm.trans vr.length.symm))
 have ck:((cellsFrom (s.heap.objs.size+1) fd.scope.names []).map (·.1)).Nodup:=jJ _ _ _ (hsc.symm▸I.nnd) .nil λ Y h=>nomatch h
 have hc:∀x,F.scope.names.lookup x=some .cell->∃c,(x,c)∈cellsFrom (s.heap.objs.size+1) fd.scope.names []:=λ x hx=>fw _ _ _ _ (mem_of_lookup (hsc.symm▸hx))
 refine codeAny_call_cells (binds:=params.zip vs) ro.lim (R.kin _ _ hK) hd R.lim (codeRec_of R.kin hci) hbd (hbind vs (vr.length.trans hl)) hclo (λ x hx=>?_) (λ OQ C=>?_) (hsc.symm▸I.co) (hsc.symm▸I.gen) (hsc.symm▸I.kind)
 ·rw[hsc]at hc ck ⊢
  exact(I.pk _ (hz▸Gk (f:=(·.1)) hx)).imp id λ q=>⟨q,(hc _ q).elim λ c hc=>(W8 ck hc).symm▸rfl⟩
 ·refine xE C.toInCall.same λ Pt Z=>xE Z λ tk J=>?_;rcases J with rfl;clear Z
  have U:=R.grow (t:=tk) C.toInCall.keep
  have hfr:∀p∈(callEnvC fd s.heap.objs.size a).cells,s.heap.get? p.2=none:=λ p hp=>U8 (FE (C.above p.1 p.2 hp))
  have hnx:∀b∈frX (callEnvC fd s.heap.objs.size a),s.heap.get? b=none:=λ b hb=>(Fv.mp hb).elim (λ e=>e▸K9) λ hb=>(FN.mp hb).elim λ p z=>z.2▸hfr p z.1
  refine Fy (hb (s:=s) hK hd rfl rfl (ro.deeper _) U.1 (xf I R hsc hgl hbu K9 C hl (vr.mono U.2) hz ck hc hfr) (Q7 C.toInCall.keep) hnx) (λ fl s' hp=>?_) λ Y Y x=>x.elim
  refine xE hp λ OP Z=>xE Z λ OT J=>xE J λ g θ=>(λ q R' fr S'=>?_) θ.1 θ.2.1 θ.2.2.1 θ.2.2.2;clear hp Z J θ
  have S:E8 W [] O s.heap OT s'.heap:=S'.forget λ b hb=>.inr (hnx b hb)
  induction fr with
  | next=>exact⟨OP,OT,.none,q,R',.none,S⟩
  | brk=>exact⟨OP,OT,.none,q,R',.none,S⟩
  | cont=>exact⟨OP,OT,.none,q,R',.none,S⟩
  | ret v=>exact⟨OP,OT,_,q,R',v,S⟩
theorem H6{a:Addr}{params:List Str}{body:List Stmt}{p:ST}{xs:List AV}(I:FnI W a F params body)(hb:O0 W k F body p)(hl:xs.length=params.length)
  (h:p (xs++List.replicate n .undef) (n4 Q) V):M8 W (k+1) a xs Q V:=by
 refine lC (n:=n) I hl λ Y Y Y Y ro OR OW OU Y=>?_
 refine Fy (hb.run ro OR OW h) (λ fl s' hp=>?_) λ Y Y x=>x
 obtain⟨OP,OT,st',g,q,R',fr,f',S'⟩:=hp
 refine⟨OP,OT,g,?_,R',fr,(wk OU).trans S'⟩
 cases g <;> exact q
noncomputable def aw(F:Fm)(x:Str):Bool:=cJ x&&(F.scope.names.lookup x==some .globalImplicit)
theorem eY{x:Str}{pos:Pos}{P:Value->Shared->Prop}(R:Rep W V O s)(f:FrR W F env st s.heap O)
  (hx:aw F x=true)(hv:W.mg x=some v)(h:P v s):wpAny W.M A (eval (.Name x pos) env) P NoE s:=by
 unfold aw cJ at hx
 simp only[Gn,beq_iff_eq,HJ]at hx
 refine MC (by rw[f.scope];exact f.kind) (by show List.lookup x env.scope.names=_;rw[f.scope];exact hx.2) ?_ hx.1.1
 exact loadGlobal_global (by rw[f.globals];exact R.gns) hv h
theorem gm{x:Str}{pos:Pos}{P:Value->Shared->Prop}(R:Rep W V O s)(f:FrR W F env st s.heap O)
  (hx:aw F x=true)(hm:W.mg x=none)(hv:W.mb x=some v)(h:P v s):wpAny W.M A (eval (.Name x pos) env) P NoE s:=by
 unfold aw cJ at hx
 simp only[Gn,beq_iff_eq,HJ]at hx
 refine MC (by rw[f.scope];exact f.kind) (by show List.lookup x env.scope.names=_;rw[f.scope];exact hx.2) ?_ hx.1.1
 exact loadGlobal_builtin (by rw[f.globals];exact R.gns) hm (by rw[f.builtins];exact R.bns) hv h
theorem ax{es:List Expr}{pos:Pos}(h:N1 es=true):(backTo pos (starEach es env)).any (·.1)=false:=by
 induction es with
 | nil=>rfl
 | cons e r ih=>
  have h':aU e=true/\N1 r=true:=by simpa [N1] using h
  rw[Z4 h'.1]
  show((false,_)::backTo pos (starEach r env)).any (·.1)=false
  rw[MV,ih h'.2];rfl
theorem xg{M:Model}{E:Value->Shared->Prop}{f:Value}{Q:Args->Shared->Prop}(h:wpAny M A (pure ([]:List Value):Sem (List Value)) (λ vs s'=>Q ⟨vs,[]⟩ s') E s):wpAny M A (evalArgs f true [] []) Q E s:=
 λ Γ p QV=>h Γ p QV
theorem ay{M:Model}{E:Value->Shared->Prop}{es:List Expr}{pos:Pos}{f:Value}{Q:Args->Shared->Prop}(hn:N1 es=true)
  (h:wpAny M A (spliced (backTo pos (starEach es env))) (λ vs s'=>Q ⟨vs,[]⟩ s') E s):wpAny M A (evalArgs f true (backTo pos (starEach es env)) []) Q E s:=by
 cases es with
 | nil=>
  have h':wpAny M A (pure ([]:List Value):Sem (List Value)) (λ vs s'=>Q ⟨vs,[]⟩ s') E s:=h
  exact Fy h' (λ Y Y x=>x) (λ Y Y x=>x) |> λ z=>xg z
 | cons e r=>
  have h':aU e=true/\N1 r=true:=by simpa [N1] using hn
  rw[Z4 h'.1]at h ⊢
  exact evalArgs_plain h
def bG(W:Wld)(k:Nat)(f:Value)(B:List AV->(AV->Sto->Prop)->Sto->Prop):Prop:=
 ∀(A:Around) (s:Shared) (V:Sto) (O:Mp) (vs:List Value) (xs:List AV) (Q:AV->Sto->Prop),N3 k A->Rep W V O s->VRs W.h0 s.heap O vs xs->B xs Q V->wpAny W.M A (call f vs) (H9 W [] O s.heap Q) NoE s
theorem bG.run{f:Value}{B:List AV->(AV->Sto->Prop)->Sto->Prop}(E:bG W k f B){xs:List AV}:N3 k A->Rep W V O s->VRs W.h0 s.heap O vs xs->B xs Q V->wpAny W.M A (call f vs) (H9 W [] O s.heap Q) NoE s:=
 E A s V O vs xs Q
def D0(B:List AV->(AV->Sto->Prop)->Sto->Prop)(p:PTs):PT:=λ st Q V=>p st (λ xs ON=>B xs Q ON) V
def fnB(W:Wld)(k:Nat)(f:Addr):List AV->(AV->Sto->Prop)->Sto->Prop:=λ xs Q V=>M8 W k f xs Q V
theorem zN{f:Addr}:bG W k (.ref f) (fnB W k f):=λ Y Y Y Y Y Y Y ro R vr h=>h.wp ro R vr
theorem xFn{x:Str}{es:List Expr}{p1 p2:Pos}{p:PTs}{f:Addr}(hx:aw F x=true)(hv:W.mg x=some (.ref f))(hf:∃o fd,W.K.lookup f=some o/\o.data=.func fd)(he:aH W k F es p)(hn:N1 es=true):
  J0 W k F (.Call (.Name x p1) es [] p2) (D0 (fnB W k f) p):=by
 intro A env s V O st Q ro R fr h
 refine IL (eY R fr hx hv ?_)
 refine xE hf λ o Z=>xE Z λ fd J=>(λ hK hd=>?_) J.1 J.2;clear hf Z J
 refine Nv (o:=o) (fd:=fd) (ay hn (Fy (he.run p2 ro R fr h) (λ vs OQ hp=>?_) λ Y Y x=>x))
 obtain⟨ON,OV,xs,q,OR,vr,OU⟩:=hp
 refine⟨⟨OR.kin _ _ hK,hd⟩,?_⟩
 exact Fy (zN.run ro OR vr q) (λ Y Y p=>.after OU p) λ Y Y x=>x
theorem xBl{x:Str}{es:List Expr}{p1 p2:Pos}{p:PTs}{B:List AV->(AV->Sto->Prop)->Sto->Prop}{f:Value}(hx:aw F x=true)(hm:W.mg x=none)(hv:W.mb x=some f)
  (hf:(∃id,f=.builtin id)\/∃T,f=.type T)(hB:bG W k f B)(he:aH W k F es p)(hn:N1 es=true):
  J0 W k F (.Call (.Name x p1) es [] p2) (D0 B p):=by
 intro A env s V O st Q ro R fr h
 refine IL (gm R fr hx hm hv ?_)
 rcases hf with⟨id,rfl⟩|⟨T,rfl⟩
 ·refine NI (ax hn) (ay hn (Fy (he.run p2 ro R fr h) (λ vs OQ hp=>?_) λ Y Y x=>x))
  obtain⟨ON,OV,xs,q,OR,vr,OU⟩:=hp
  exact Fy (hB.run ro OR vr q) (λ Y Y p=>.after OU p) λ Y Y x=>x
 ·refine JW (ax hn) (ay hn (Fy (he.run p2 ro R fr h) (λ vs OQ hp=>?_) λ Y Y x=>x))
  obtain⟨ON,OV,xs,q,OR,vr,OU⟩:=hp
  exact Fy (hB.run ro OR vr q) (λ Y Y p=>.after OU p) λ Y Y x=>x
theorem jK{es:List Expr}{pos:Pos}(h:N1 es=true)(hl:es.length<20):((backTo pos (starEach es env)).all (λ x=>!x.1)&&(backToKw pos (keywordEach [] env)).all (λ x=>x.1.isSome)
   && decide (es.length+([]:List Keyword).length+(if ([]:List Keyword).isEmpty then 0 else 1)<30))=true:=by
 have h1:(backTo pos (starEach es env)).all (λ x=>!x.1)=true:=by
  induction es with
  | nil=>rfl
  | cons e r ih=>
   have h':aU e=true/\N1 r=true:=by simpa [N1] using h
   rw[Z4 h'.1]
   show((false,_)::backTo pos (starEach r env)).all _=true
   rw[List.all_cons,ih h'.2 (GU hl)];rfl
 rw[h1]
 exact decide_eq_true (show es.length+0+0<30 from FF hl (by decide))
def BB(W:Wld)(k:Nat)(name:Str)(G:AV->List AV->(AV->Sto->Prop)->Sto->Prop):Prop:=
 ∀(A:Around) (s:Shared) (V:Sto) (O:Mp) (v:Value) (x:AV) (vs:List Value) (xs:List AV) (Q:AV->Sto->Prop),N3 k A->Rep W V O s->VR W.h0 s.heap O v x->VRs W.h0 s.heap O vs xs->G x xs Q V->
  ∃T id,PlainAttrs T/\Slot T name id/\typeOf (.builtin id)=pure (.type "method_descriptor")/\s.TypeIs v T/\(∀a,v=.ref a->∃ob,s.heap.get? a=some ob/\ob.dict=none)/\
   wpAny W.M A (call (.builtin id) (v::vs)) (H9 W [] O s.heap Q) NoE s
theorem BB.run{name:Str}{G:AV->List AV->(AV->Sto->Prop)->Sto->Prop}(E:BB W k name G){xs:List AV}:N3 k A->Rep W V O s->VR W.h0 s.heap O v x->VRs W.h0 s.heap O vs xs->G x xs Q V->
  ∃T id,PlainAttrs T/\Slot T name id/\typeOf (.builtin id)=pure (.type "method_descriptor")/\s.TypeIs v T/\(∀a,v=.ref a->∃ob,s.heap.get? a=some ob/\ob.dict=none)/\
   wpAny W.M A (call (.builtin id) (v::vs)) (H9 W [] O s.heap Q) NoE s:=
 E A s V O v x vs xs Q
def su(W:Wld)(name:Str)(id:String)(K:Sto->AV->Prop):Prop:=
 ∀(s:Shared) (V:Sto) (O:Mp) (v:Value) (x:AV),Rep W V O s->VR W.h0 s.heap O v x->K V x->
  ∃T,PlainAttrs T/\Slot T name id/\typeOf (.builtin id)=pure (.type "method_descriptor")/\s.TypeIs v T/\(∀a,v=.ref a->∃ob,s.heap.get? a=some ob/\ob.dict=none)
theorem su.run{name:Str}{id:String}{K:Sto->AV->Prop}(E:su W name id K):Rep W V O s->VR W.h0 s.heap O v x->K V x->
  ∃T,PlainAttrs T/\Slot T name id/\typeOf (.builtin id)=pure (.type "method_descriptor")/\s.TypeIs v T/\(∀a,v=.ref a->∃ob,s.heap.get? a=some ob/\ob.dict=none):=
 E s V O v x
def G5(a:PT)(K:Sto->AV->Prop)(G:List AV->(AV->Sto->Prop)->Sto->Prop)(p:PTs):PT:=λ st Q V=>a st (λ x ON=>K ON x/\p st (λ xs OS=>G (x::xs) Q OS) ON) V
theorem bH{o:Expr}{name:Str}{id:String}{es:List Expr}{p1 p2:Pos}{a:PT}{p:PTs}{K:Sto->AV->Prop}{G:List AV->(AV->Sto->Prop)->Sto->Prop}
  (ho:J0 W k F o a)(hb:X9 o)(hH:su W name id K)(hG:bG W k (.builtin id) G)(he:aH W k F es p)(hn:N1 es=true)(hl:es.length<20)(hline:(p1.endLine==p2.line)=true):
  J0 W k F (.Call (.Attribute o name p1) es [] p2) (G5 a K G p):=by
 intro A env s V O st Q ro R fr h
 refine wpAny_Call_method_late (hb _ _ _) (jK hn hl) hline rfl (ho.then ro R fr h λ v OQ ON OV x q OR OW vx OU Pb=>?_)
 rcases q with⟨hk,q⟩
 rcases hH.run OR vx hk with⟨T,h1,h2,h3,h4,h5⟩
 refine⟨T,id,h1,h2,h3,h4,h5,?_⟩
 refine NI (ax hn) (ay hn (Fy (he.run p2 ro OR OW q) (λ vs Pl hp=>?_) λ Y Y x=>x))
 rcases hp with⟨OS,Pc,xs,q,OY,vr,OX⟩
 exact Fy (hG.run ro OY (.cons (VR.mono (OR.sub0 OX) vx) vr) q) (λ Y Y p=>.after (OU.trans OX) p) λ Y Y x=>x
structure MeI(W:Wld)(C:Addr)(name:Str)(f:Addr):Prop where
 hk:findIn W.K (.ref C) "__getattr__" = some none
 find:findIn W.K (.ref C) name=some (some (.ref f))
 typ:typeIn W.K (.ref f)=some (.type "function")
 obj:∃o fd,W.K.lookup f=some o/\o.data=.func fd
 far:∀k:Fin 9,(atN k==name)=false
theorem EsR.far{h0:Heap}{name:Str}(hf:∀k:Fin 9,(atN k==name)=false){es:List DictEntry}{m:List (Nat×AV)}(r:EsR h0 h O es m):dH m->getL name es=some none:=by
 induction r with
 | nil=>exact λ Y=>rfl
 | @cons hs t v j y es m a b ih=>exact λ hk=>(lk (en:=⟨hs,.str (atN j) t,v⟩) (hf ⟨j,GG (hk _ (.head _))⟩) b.plain rfl).trans (ih λ p hp=>hk p (.tail _ hp))
def iK(C:Addr)(V:Sto)(x:AV):Prop:=inR x λ i=>inO V[i]? λ o=>xc o λ c Y=>c=C
theorem n5{C:Addr}(h:iK C V x):∃i m,x=.ref i/\V[i]?=some (.inst C m):=by
 obtain⟨i,rfl,h⟩:=aj h
 obtain⟨o,e,h⟩:=U7 h
 obtain⟨c,m,rfl,rfl⟩:=qw h
 exact⟨i,m,rfl,e⟩
def I1(W:Wld)(k:Nat)(C f:Addr)(a:PT)(p:PTs):PT:=λ st Q V=>a st (λ x ON=>iK C ON x/\p st (λ xs OS=>M8 W k f (x::xs) Q OS) ON) V
theorem gn{o:Expr}{name:Str}{C f:Addr}{es:List Expr}{p1 p2:Pos}{a:PT}{p:PTs}
  (ho:J0 W k F o a)(hb:X9 o)(I:MeI W C name f)(he:aH W k F es p)(hn:N1 es=true)(hl:es.length<20)(hline:(p1.endLine==p2.line)=true):
  J0 W k F (.Call (.Attribute o name p1) es [] p2) (I1 W k C f a p):=by
 intro A env s V O st Q ro R fr h
 rw[arm_eval_Call,hb]
 refine nt (ho.then ro R fr h λ v OQ ON OV x q OR OW vx OU Pb=>?_)
 rcases q with⟨hk,q⟩
 rcases n5 hk with⟨i,m,rfl,hm⟩
 rcases vx.ref_inv with⟨ad,d,rfl,hp⟩
 rcases OR.inst hm hp with⟨n,en,Cl,hle,h1,h2,h3⟩
 refine nt (GH ?_)
 have hform:methodCallForm (es.length+([]:List Keyword).length) (backTo p2 (starEach es env)) (backToKw p2 (keywordEach [] env))=true:=jK hn hl
 have hpos:methodCallPos true o env p1 p2=pure p2:=by unfold methodCallPos;simp[hline]
 unfold methodCall
 rw[hform]
 refine nt (Gl (method_fn OR.kin (gk h1 h2) Cl.hga I.hk I.find I.typ (by show(lookIn name (dictOf en n)).map _=_;rw[NU,h3.far I.far hle];rfl) ?_))
 refine nt (GK hpos ?_)
 rcases I.obj with⟨of,fd,hK,hd⟩
 refine Nv (o:=of) (fd:=fd) (ay hn (Fy (he.run p2 ro OR OW q) (λ vs Pl hp=>?_) λ Y Y x=>x))
 rcases hp with⟨OS,Pc,xs,q,OY,vr,OX⟩
 refine⟨⟨OY.kin _ _ hK,hd⟩,?_⟩
 exact Fy (q.wp ro OY (.cons (VR.mono (OR.sub0 OX) vx) vr)) (λ Y Y p=>.after (OU.trans OX) p) λ Y Y x=>x
structure NwI(W:Wld)(C f:Addr):Prop where
 keep:keepIn W.K (.ref C)=true
 makes:makesIn W.K C=true
 init:findIn W.K (.ref C) "__init__" = some (some (.ref f))
 typ:typeIn W.K (.ref f)=some (.type "function")
 cls:ph W C
theorem Rep.newInst{C:Addr}(Cl:ph W C)(R:Rep W V O s):
  Rep W (V++[.inst C []]) (O++[(s.heap.objs.size+1,s.heap.objs.size)]) { s with heap:=(s.heap.push emptyDict).push (instObj C s.heap.objs.size) }/\
  E8 W [] O s.heap (O++[(s.heap.objs.size+1,s.heap.objs.size)]) ((s.heap.push emptyDict).push (instObj C s.heap.objs.size))/\
  Sub s.heap O ((s.heap.push emptyDict).push (instObj C s.heap.objs.size)) (O++[(s.heap.objs.size+1,s.heap.objs.size)]):=by
 have P:=(R.push emptyDict).push (instObj C s.heap.objs.size)
 have hk:∀b o,s.heap.get? b=some o->((s.heap.push emptyDict).push (instObj C s.heap.objs.size)).get? b=some o:=λ b o e=>FH _ (FH _ e)
 have hd:((s.heap.push emptyDict).push (instObj C s.heap.objs.size)).get? s.heap.objs.size=some (dictOf [] 0):=FH _ (Gd _ rfl)
 have hx:((s.heap.push emptyDict).push (instObj C s.heap.objs.size)).get? (s.heap.objs.size+1)=some ⟨.ref C,some s.heap.objs.size,.plain,#[]⟩:=by
  have:=Gd (s.heap.push emptyDict) (o:=instObj C s.heap.objs.size) rfl
  rwa [HX]at this
 exact⟨P.add (p:=(s.heap.objs.size+1,s.heap.objs.size)) (λ Y=>.inst Cl (λ p hp=>absurd hp FO) hx hd .nil) (R.notM K9) (R.not0 K9),
  ⟨λ b o e Y Y Y=>hk b o e,⟨_,rfl,λ p hp=>by rw[Fh.mp hp];exact K9⟩,λ b o e=>⟨o,hk b o e⟩⟩,⟨λ Y Y Y t=>hk _ _ t,_,rfl⟩⟩
theorem N3.make(r:N3 (k+1) A)(C:Addr)(rest:List Value):N3 k (A.under (.builtin "type.__call__" ⟨.ref C::rest,[]⟩)):=by
 have hw:(Code.builtin "type.__call__" ⟨.ref C::rest,[]⟩).weight=1:=by kernel_rfl
 have hu:(Code.builtin "type.__call__" ⟨.ref C::rest,[]⟩).cUnits=1:=by kernel_rfl
 refine⟨r.handled,?_,?_⟩
 ·show A.depth+(Code.builtin "type.__call__" ⟨.ref C::rest,[]⟩).weight+_+_<_;rw[hw];exact Fe (Gr (zzy (by decide)) 10) r.depth
 ·show A.units+(Code.builtin "type.__call__" ⟨.ref C::rest,[]⟩).cUnits+_+_<_;rw[hu];exact Fe (Gr (zzy (by decide)) 200) r.units
def nwB(W:Wld)(k:Nat)(C f:Addr):List AV->(AV->Sto->Prop)->Sto->Prop:=λ xs Q V=>M8 W k f (.ref V.length::xs) (λ r OP=>r=.none/\Q (.ref V.length) OP) (V++[.inst C []])
theorem zO{C f:Addr}(N:NwI W C f):bG W (k+1) (.ref C) (nwB W k C f):=by
 intro A s V O vs xs Q ro R vr h
 refine Mb (Jd (R:=zb (H9 W [] O s.heap Q)) ?_ λ r s' z=>by rcases r with e|(v|_|_|_) <;> first|exact z|exact z.elim)
 obtain⟨OR,OU,Pb⟩:=R.newInst N.cls
 obtain⟨hh,g,d,t,os⟩:=s
 refine make_core (makes_of R.kin N.makes) (looks_findIn R.kin N.init) (λ self=>bind_fn R.kin self N.typ) (.inl rfl) ?_
 have hv:VR W.h0 ((hh.push emptyDict).push (instObj C hh.objs.size)) (O++[(hh.objs.size+1,hh.objs.size)]) (.ref (hh.objs.size+1)) (.ref V.length):=
  .ref (d:=hh.objs.size) (by rw[<- R.len];simp)
 refine Jd (h.run (ro.make C vs) OR (.cons hv (VRs.mono Pb vr))) λ r s' z=>?_
 induction r with
 | error e=>exact z.elim
 | ok f=>
  induction f with
  | ret v=>
   obtain⟨OP,OT,x,⟨rfl,q⟩,R',vr',S'⟩:=z
   refine⟨vr'.none_inv,OP,OT,_,q,R',.ref (d:=hh.objs.size) ?_,OU.trans S'⟩
   refine xE S'.grow λ ψ Z=>(λ PX J=>?_) Z.1 Z.2;clear Z
   rw[PX,Fs (by rw[Fc,R.len];exact FY _),<- R.len]
   exact Hx ..
  | _=>exact z.elim
theorem xNw{x:Str}{es:List Expr}{p1 p2:Pos}{p:PTs}{C f:Addr}(hx:aw F x=true)(hv:W.mg x=some (.ref C))(N:NwI W C f)(he:aH W (k+1) F es p)(hn:N1 es=true):
  J0 W (k+1) F (.Call (.Name x p1) es [] p2) (D0 (nwB W k C f) p):=by
 intro A env s V O st Q ro R fr h
 refine IL (eY R fr hx hv ?_)
 refine NS (P:=W.K.In) (by rw[ax hn];rfl) (λ h X=>keeps_K N.keep h X) (ay hn (Fy (he.run p2 ro R fr h) (λ vs OQ hp=>?_) λ Y Y x=>x))
 obtain⟨ON,OV,xs,q,OR,vr,OU⟩:=hp
 exact⟨OR.kin,Fy ((zO N).run ro OR vr q) (λ Y Y p=>.after OU p) λ Y Y x=>x⟩
structure Gen(W:Wld)(I:Addr)(src:Sto->Prop)(G:List AV->Mp->Heap->Prop):Prop where
 live:∀{rem O h},G rem O h->∃o,h.get? I=some o/\(∀vs n,o.data≠.seq vs n)/\o.data≠.plain
 stable:∀{rem O h OT h'},G rem O h->h'.get? I=h.get? I->(∃ψ,OT=O++ψ)->G rem OT h'
 go:∀{A:Around}{s:Shared}{rem O target v}{P:Unit->Shared->Prop},G rem O s.heap->P () s->wpAny W.M A (letOwnedTupleGo target (.ref I) v) P NoE s
 self:∀{A:Around}{s:Shared}{O rem}{P:Value->Shared->Prop},G rem O s.heap->P (.ref I) s->wpAny W.M A (pyIter (.ref I)) P NoE s
 next:∀{A:Around}{s:Shared}{V:Sto}{O:Mp}{rem}{P:Option Value->Shared->Prop},A.handled=none->Rep W V O s->src V->G rem O s.heap->
  (∀h' t,Heap.ExtBut I s.heap h'->match (generalizing:=false) rem with
   | []=>P none { s with heap:=h',toks:=t }
   | x::rest=>∀v,VR W.h0 h' O v x->(∃o,h'.get? I=some o)->G rest O h'->P (some v) { s with heap:=h',toks:=t })->wpAny W.M A (pyNext (.ref I)) P NoE s
abbrev IT:=List AV->((Sto->Prop)->List AV->Sto->Prop)->Sto->Prop
inductive jL(W:Wld)(O:Mp)(h:Heap)(Q:(Sto->Prop)->List AV->Sto->Prop)(v:Value)(s':Shared):Prop
 | mk (I src rem G OP OT:_):v=.ref I->Q src rem OP->Rep W OP OT s'->E8 W [] O h OT s'.heap->h.get? I=none->I∉OT.map (·.2)->Gen W I src G->G rem OT s'.heap->src OP->jL W O h Q v s'
def mA(W:Wld)(k:Nat)(F:Fm)(e:Expr)(p:IT):Prop:=
 ∀(A:Around) (env:Env) (s:Shared) (V:Sto) (O:Mp) (st:List AV) (Q:(Sto->Prop)->List AV->Sto->Prop),N3 k A->Rep W V O s->FrR W F env st s.heap O->p st Q V->
  wpAny W.M A (eval e env) (λ x OQ=>wpAny W.M A (pyIter x) (jL W O s.heap Q) NoE OQ) NoE s
theorem mA.run{e:Expr}{p:IT}(E:mA W k F e p){Q:(Sto->Prop)->List AV->Sto->Prop}:N3 k A->Rep W V O s->FrR W F env st s.heap O->p st Q V->
  wpAny W.M A (eval e env) (λ x OQ=>wpAny W.M A (pyIter x) (jL W O s.heap Q) NoE OQ) NoE s:=
 E A env s V O st Q
def i8(src:Sto->Prop)(g:GT)(body:ST)(Q:G3->List AV->Sto->Prop):List AV->List AV->Sto->Prop
 | [],st,V=>src V/\Q .next st V
 | x::rem,st,V=>src V/\g x st (λ Po ON=>body Po (λ fl Pq OS=>match fl with
  | .next=>i8 src g body Q rem Pq OS
  | .cont=>i8 src g body Q rem Pq OS
  | .brk=>Q .next Pq OS
  | .ret v=>Q (.ret v) Pq OS) ON) V
def O7(it:IT)(g:GT)(body:ST):ST:=λ st Q V=>it st (λ src rem ON=>i8 src g body Q rem st ON) V
theorem E8.gen{OL:List Addr}{OT:Mp}{I:Addr}{o:Obj}(S:E8 W OL O h OT h')(hI:h.get? I=some o)(hn:W.h0.get? I=none)(na:I∉O.map (·.2))(ny:I∉OL):h'.get? I=h.get? I:=
 (S.keep I o hI (.inr hn) na ny).trans hI.symm
theorem Rep.gone(R:Rep W V O s){a:Addr}{t:Nat}(hs:Heap.ExtBut a s.heap h')(na:a∉O.map (·.2))(hn:W.h0.get? a=none)
  (hd:∃o,s.heap.get? a=some o/\(∀vs n,o.data≠.seq vs n)/\o.data≠.plain):Rep W V O { s with heap:=h',toks:=t }/\Sub s.heap O h' O:=by
 refine xE hd λ oa Z=>(λ hoa hd1 hd2=>?_) Z.1 Z.2.1 Z.2.2;clear hd Z
 have S:Sub s.heap O h' O:=⟨λ b vs n ht=>hs b _ (λ e=>hd1 _ _ (congrArg Obj.data (Ft (hoa.symm.trans (e▸ht))))) ht,[],(FL _).symm⟩
 refine⟨⟨R.len,λ i x p hx hp=>?_,R.nd,R.new,jC R.old hn hs,R.gens,R.os,jB R.stat hn hs⟩,S⟩
 have r:=R.obj i x p hx hp
 have n2:p.2≠a:=λ e=>na (e▸Gk (f:=(·.2)) (FD hp))
 refine xE r.own λ y Z=>(λ hy J=>?_) Z.1 Z.2;clear Z
 refine xE r.main λ z hz=>?_
 exact bB r S ((hs _ _ (mn r hoa hd2 n2) hz).trans hz.symm) ((hs _ _ n2 hy).trans hy.symm)
theorem FrR.gone{I:Addr}(f:FrR W F env st h O)(hs:Heap.ExtBut I h h')(U:Sub h O h' O)(hX:I∉frX env):FrR W F env st h' O:=by
 have hL:env.locals≠I:=λ e=>hX (e▸.head _)
 have hC:∀p∈env.cells,p.2≠I:=λ p hp e=>hX (e▸.tail _ (Gk (f:=(·.2)) hp))
 refine xE f.ns λ m Z=>xE Z λ o J=>(λ hn ho hv=>?_) J.1 J.2.1 J.2.2;clear Z J
 refine⟨f.scope,f.kind,f.globals,f.builtins,⟨m,o,gd hn ((hs _ _ hL ho).trans ho.symm),hs _ _ hL ho,λ x i hx hl y hy hu=>?_⟩,λ p hp=>?_,λ x i hx hk=>?_,f.apart,f.apartC,f.inj,f.sinj,f.newL,f.newC⟩
 ·refine xE (hv x i hx hl y hy hu) λ v Z=>(λ h1 h2=>?_) Z.1 Z.2;clear Z
  exact⟨v,h1,VR.mono U h2⟩
 ·refine xE (f.cells p hp) λ oc Z=>xE Z λ u J=>(λ h2 h4=>?_) J.1 J.2;clear Z J
  exact⟨oc,u,hs _ _ (hC p hp) h2,h4⟩
 ·refine xE (f.cell x i hx hk) λ c Z=>(λ h1 h5=>?_) Z.1 Z.2;clear Z
  refine⟨c,h1,λ y hy hu=>?_⟩
  refine xE (h5 y hy hu) λ v Z=>(λ q1 q2=>?_) Z.1 Z.2;clear Z
  refine xE (f.cells _ (mem_of_lookup h1)) λ oc Z=>xE Z λ u J=>(λ h2 h4=>?_) J.1 J.2;clear Z J
  exact⟨v,cj q1 ((hs _ _ (hC _ (mem_of_lookup h1)) h2).trans h2.symm),VR.mono U q2⟩
theorem FrR.alive(f:FrR W F env st h O):∀a∈frX env,∃o,h.get? a=some o:=by
 intro a ha
 rcases Fv.mp ha with rfl|ha
 ·refine xE f.ns λ m Z=>xE Z λ o J=>(λ hn ho hv=>?_) J.1 J.2.1 J.2.2;clear Z J;exact⟨o,ho⟩
 ·refine xE (FN.mp ha) λ p Z=>(λ hp J=>?_) Z.1 Z.2;rcases J with rfl;clear Z
  refine xE (f.cells p hp) λ o Z=>xE Z λ u J=>(λ h2 h4=>?_) J.1 J.2;clear Z J
  exact⟨o,h2⟩
inductive zP(W:Wld)(F:Fm)(env:Env)(Pn:Mp)(Pk:Heap)(src:Sto->Prop)(g:GT)(b:ST)(Q:G3->List AV->Sto->Prop)(I:Addr)(G:List AV->Mp->Heap->Prop)(n:Nat)(s':Shared):Prop
 | mk {OP OT st' rem':_}:n=rem'.length->i8 src g b Q rem' st' OP->Rep W OP OT s'->FrR W F env st' s'.heap OT->E8 W (frX env) Pn Pk OT s'.heap->I∉OT.map (·.2)->G rem' OT s'.heap->zP W F env Pn Pk src g b Q I G n s'
theorem i8.src{src:Sto->Prop}{g:GT}{body:ST}{Q:G3->List AV->Sto->Prop}{rem:List AV}(h:i8 src g body Q rem st V):src V:=by cases rem <;> exact h.1
theorem sx{target:Expr}{body:List Stmt}{g:GT}{b:ST}{Pm:Shared}{Pn:Mp}{Q:G3->List AV->Sto->Prop}{I:Addr}{src:Sto->Prop}{rem:List AV}{G:List AV->Mp->Heap->Prop}
  (hg:dN W k F target g)(hb:O0 W k F body b)(ro:N3 k A)(R:Rep W V O s)(f:FrR W F env st s.heap O)(h:i8 src g b Q rem st V)(S:E8 W (frX env) Pn Pm.heap O s.heap)(hI:Pm.heap.get? I=none)(hIf:I∉frX env)
  (hn0:W.h0.get? I=none)(na:I∉O.map (·.2))(Ge:Gen W I src G)(hG:G rem O s.heap):
  codeAny W.M A (.forLoop target (.ref I) body [] env) (mz W F env Pn Pm.heap Q) s:=by
 refine MQ (zP W F env Pn Pm.heap src g b Q I G) (λ n OQ hI'=>?_) rem.length (.mk rfl h R f S na hG)
 induction hI' with
 | @mk ON OV Po QO hn hw OR OW OU Qn QB=>
 subst hn
 refine Fy (Ge.next ro.handled OR hw.src QB (P:=λ r OQ=>_) λ h' t he=>?_) (λ Y Y x=>x) λ Y Y x=>x.elim
 obtain⟨OY,Pg⟩:=OR.gone (t:=t) he Qn hn0 (Ge.live QB)
 have Ph:=OW.gone he Pg hIf
 have OX:E8 W (frX env) Pn Pm.heap OV h':=OU.ext he hI
 cases QO with
 | nil=>exact KN ⟨ON,OV,Po,.next,hw.2,OY,.next,Ph,OX⟩
 | cons x rest=>
  intro v vr hal QC
  refine Fy (Ge.go (s:={ OQ with heap:=h',toks:=t }) QC (P:=λ Y OQ=>_) ?_) (λ Y Y x=>x) λ Y Y x=>x.elim
  refine Fy (hg.run ro OY Ph vr hw.2 (P:=λ Y OQ=>_) λ Pj OZ Pa PS q Pf Py Pe Pw=>?_) (λ Y Y x=>x) λ Y Y x=>x.elim
  refine Fy (hb.run ro Pf Py q) (λ fl PE hp=>?_) λ Y Y x=>x.elim
  obtain⟨Pz,PN,Qf,gf,q,PB,fr,PG,PC⟩:=hp
  have Sb:E8 W (frX env) OV h' PN PE.heap:=Pe.trans PC
  refine xE hal λ oI hoI=>?_;clear hal
  have more:i8 src g b Q rest Qf Pz->∃m,m<(x::rest).length/\zP W F env Pn Pm.heap src g b Q I G m PE:=λ q=>
   ⟨rest.length,FY _,.mk rfl q PB PG (OX.trans Sb) (gg Sb hoI Qn) (Ge.stable QC (Sb.gen hoI hn0 Qn hIf) (let ⟨ψ,e,_⟩:=Sb.grow;⟨ψ,e⟩))⟩
  induction fr with
  | next=>exact more q
  | cont=>exact more q
  | brk=>exact⟨Pz,PN,Qf,.next,q,PB,.next,PG,OX.trans Sb⟩
  | ret vr=>exact⟨Pz,PN,Qf,.ret _,q,PB,.ret vr,PG,OX.trans Sb⟩
theorem dD{target iter:Expr}{body:List Stmt}{pos:Pos}{it:IT}{g:GT}{b:ST}(hi:mA W k F iter it)(hg:dN W k F target g)(hb:O0 W k F body b)(hs:∀env x,foldedSetIterable iter env x=pure x):
  O6 W k F (.For target iter body [] pos) (O7 it g b):=by
 intro A env s V O st Q ro R f h
 show wpAny _ A (do
  standAt pos
  let x <- foldedSetIterable iter env (<- eval iter env)
  standAt iter.pos
  runOwn (.forLoop target (<- holding [x] (pyIter x)) body [] env) env) _ _ s
 refine nt (GH (nt (Fy (hi.run ro R f h) (λ x OQ hx=>?_) λ Y Y x=>x)))
 rw[hs env x]
 refine nt (Fp (nt (GH (nt (Gl (Fy hx (λ v Pl hp=>?_) λ Y Y x=>x))))))
 obtain⟨I,src,rem,G,OS,Pc,rfl,q,OY,OX,hI,na,Ge,hG,hsrc⟩:=hp
 have Pg:=R.sub0 OX
 have hIf:I∉frX env:=λ hm=>by
  refine xE (f.alive I hm) λ o ho=>?_
  rw[hI]at ho;cases ho
 have hn0:W.h0.get? I=none:=R.not0 hI
 refine wpAny_runOwn (Jd (sx hg hb ro OY (f.step0 OX Pg) q (wk OX) hI hIf hn0 na Ge hG) λ r s' hr=>?_)
 induction r with
 | ok fl=>exact hr
 | error e=>exact hr.elim
def BC(I j a:Nat)(l:List AV):List AV->Mp->Heap->Prop:=λ rem O h=>∃i,h.IsListIter I a i/\O[j]?=some (a,a)/\rem=l.drop i
theorem tV{I a:Nat}:Gen W I (λ V=>lst V j=some l) (BC I j a l) where
 live:=by
  rintro rem O h ⟨i,⟨o,ho,hc,hd⟩,_,_⟩
  exact⟨o,ho,(by intro vs n e;rw[hd]at e;cases e),(by intro e;rw[hd]at e;cases e)⟩
 stable:=by
  rintro rem O h OT h' ⟨i,⟨o,ho,r⟩,hp,e⟩ hI ⟨ψ,rfl⟩
  exact⟨i,⟨o,hI.trans ho,r⟩,(Fs (FC.mp hp).1).trans hp,e⟩
 go:=by
  rintro A s rem O target v P ⟨i,hit,_,_⟩ h
  exact letGo_listiter hit h
 self:=by
  rintro A s O rem P ⟨i,hit,_,_⟩ h
  exact wpAny_pyIter_listiter hit h
 next:=by
  rintro A s V O rem P hh R hs ⟨i,hit,hp,rfl⟩ h
  obtain⟨_,n,vs,hl,hv⟩:=R.list hs hp
  have hlen:=hv.length
  rcases IH i l.length with hi|hi
  ·rw[HF hi]at h
   refine xE (hv.get (Ff hi)) λ v Z=>(λ hv1 hv2=>?_) Z.1 Z.2;clear Z
   generalize l[i]=x at h hv2
   refine wpAny_pyNext_list_item hit hl.isList ((Hb ..).trans hv1) λ h' hit' hsb=>?_
   have U:Sub s.heap O h' O:=⟨λ b vs n ht=>(hsb.2 b λ e=>by
    refine xE hit λ o Z=>(λ ho hc hd=>?_) Z.1 Z.2.1 Z.2.2;clear hit Z
    cases Ft (ho.symm.trans (e▸ht))
    cases hd).trans ht,[],(FL _).symm⟩
   refine xE (id hit') λ o' Z=>(λ ho' r'=>?_) Z.1 Z.2;clear Z
   exact h h' s.toks hsb.extBut v (VR.mono U hv2) ⟨o',ho'⟩ ⟨i+1,hit',hp,rfl⟩
  ·rw[Js hi]at h
   exact wpAny_pyNext_list_end hh hit hl.isList ((Hb ..).trans (IU (hlen▸hi))) λ h' he=>h h' s.toks he
noncomputable def V9(x:Int)(n:Nat)(c:Int):List AV:=(List.range n).map λ i:Nat=>.int (x+i*c)
theorem iL(x:Int)(n:Nat)(c:Int):V9 x (n+1) c=.int x::V9 (x+c) n c:=by
 unfold V9
 rw[List.range_succ_eq_map,Gg,Gh]
 congr 1
 ·simp
 ·apply HG
  intro i _
  simp only[Function.comp,AV.int.injEq]
  rw[show((i+1:Nat):Int)=(i:Int)+1 from rfl,Int.add_mul];lia
def zQ(I:Nat)(c:Int):List AV->Mp->Heap->Prop:=λ rem O h=>∃x left,IsRangeIter h I x left c/\rem=V9 x left.toNat c
theorem iM{I:Addr}{target:Expr}{P:Unit->Shared->Prop}{o:Obj}{T:String}(ho:s.heap.get? I=some o)(hc:o.cls=.type T)
  (hT:["enumerate","zip","dict_itemiterator","dict_reverseitemiterator","odict_iterator","itertools.zip_longest","itertools.pairwise"].contains T=false)(h:P () s):wpAny W.M A (letOwnedTupleGo target (.ref I) v) P NoE s:=by
 have tl:wpAny W.M A (letOwnedTupleGo (.Tuple [] 0 ⟨0,0,0,0⟩) (.ref I) v) P NoE s:=by
  induction v with
  | ref a=>
   refine nt (Ov ho ?_)
   obtain⟨oc,od,dt,sl⟩:=o
   dsimp only at hc
   subst hc
   induction dt with
   | fields vs=>
    show wpAny _ _ (if (_&&_)=true then _ else _) _ _ _
    rw[hT,Oj,if_neg Hi]
    exact Fp h
   | _=>exact Fp h
  | _=>exact Fp h
 cases target with
 | Tuple=>exact tl
 | List=>exact tl
 | _=>exact Fp h
theorem lD{I:Nat}{c:Int}:Gen W I (λ Y=>True) (zQ I c) where
 live:=by
  rintro rem O h ⟨x,left,ho,_⟩
  exact⟨_,ho,(by intro vs n e;cases e),(by intro e;cases e)⟩
 stable:=by
  rintro rem O h OT h' ⟨x,left,ho,e⟩ hI _
  exact⟨x,left,hI.trans ho,e⟩
 go:=by
  rintro A s rem O target v P ⟨x,left,ho,_⟩ h
  exact iM ho rfl (by decide) h
 self:=by
  rintro A s O rem P ⟨x,left,ho,_⟩ h
  exact Md ho h
 next:=by
  rintro A s V O rem P hh R hs ⟨x,left,hit,rfl⟩ h
  by_cases hl:0<left
  ·obtain⟨n,hn⟩:∃n,left.toNat=n+1:=⟨left.toNat-1,(Ke (Int.lt_toNat.mpr hl)).symm⟩
   rw[hn,iL]at h
   refine wpAny_pyNext_range_item hit hl λ h' hit' hsb=>?_
   refine h h' (s.toks+1) hsb.extBut _ (.int x _) ⟨_,hit'⟩ ⟨x+c,left-1,hit',?_⟩
   rw[show(left-1).toNat=n from(zzx hn)]
  ·have hn:left.toNat=0:=ML (Ha.mp hl)
   rw[hn]at h
   refine wpAny_pyNext_range_end hh hit (Ha.mp hl) λ h' he=>h h' s.toks he
def Eo(I:Nat)(T:String)(s:List Nat)(t:Tok):List AV->Mp->Heap->Prop:=λ rem O h=>∃i,h.IsStrIter I T ⟨s.toArray⟩ t i/\rem=(s.drop i).map λ c=>.str [c]
theorem tW{s:List Nat}:(i<s.length/\∃c,s[i]?=some c/\s.drop i=c::s.drop (i+1))\/(s.length<=i/\s.drop i=[]):=by
 by_cases h:i<s.length
 ·exact .inl ⟨h,s[i],by simp[h],by rw[HF h]⟩
 ·exact .inr ⟨Ht h,Js (Ht h)⟩
theorem xh{I:Nat}{T:String}{x:List Nat}{t:Tok}(hT:T = "str_ascii_iterator"\/T = "str_iterator"):Gen W I (λ Y=>True) (Eo I T x t) where
 live:=by
  rintro rem O h ⟨i,⟨o,ho,hc,hd⟩,_⟩
  exact⟨o,ho,(by intro vs n e;rw[hd]at e;cases e),(by intro e;rw[hd]at e;cases e)⟩
 stable:=by
  rintro rem O h OT h' ⟨i,⟨o,ho,r⟩,e⟩ hI _
  exact⟨i,⟨o,hI.trans ho,r⟩,e⟩
 go:=by
  rintro A s rem O target v P ⟨i,⟨o,ho,hc,hd⟩,_⟩ h
  exact iM ho hc (by rcases hT with rfl|rfl <;> decide) h
 self:=by
  rintro A s O rem P ⟨i,hit,_⟩ h
  rcases hT with rfl|rfl
  ·exact wpAny_pyIter_striter_ascii hit h
  ·exact wpAny_pyIter_striter_wide hit h
 next:=by
  rintro A s V O rem P hh R hs ⟨i,hit,rfl⟩ h
  rcases tW (s:=x) (i:=i)with⟨hi,c,hc,hd⟩|⟨hi,hd⟩
  ·rw[hd]at h
   have hx:(⟨x.toArray⟩:Str).cps[i]?=some c:=by simpa using hc
   rcases hT with rfl|rfl
   ·refine wpAny_pyNext_ascii_item hit hx λ h' hit' hsb=>?_
    refine xE (id hit') λ o' Z=>(λ ho' r'=>?_) Z.1 Z.2;clear Z
    exact h h' (s.toks+1) hsb.extBut _ (.str #[c] _) ⟨o',ho'⟩ ⟨i+1,hit',rfl⟩
   ·refine wpAny_pyNext_wide_item hit hx λ h' hit' hsb=>?_
    refine xE (id hit') λ o' Z=>(λ ho' r'=>?_) Z.1 Z.2;clear Z
    exact h h' (s.toks+1) hsb.extBut _ (.str #[c] _) ⟨o',ho'⟩ ⟨i+1,hit',rfl⟩
  ·rw[hd]at h
   have hx:(⟨x.toArray⟩:Str).cps[i]?=none:=by simpa using hi
   rcases hT with rfl|rfl
   ·exact wpAny_pyNext_ascii_end hh hit hx λ h' he=>h h' s.toks he
   ·exact wpAny_pyNext_wide_end hh hit hx λ h' he=>h h' s.toks he
theorem jL.fresh{Pn:Mp}{Pk:Heap}{Q:(Sto->Prop)->List AV->Sto->Prop}{src:Sto->Prop}{G:List AV->Mp->Heap->Prop}{rem:List AV}{o:Obj}(R:Rep W V O s)(S:E8 W [] Pn Pk O s.heap)
  (q:Q src rem V)(Ge:Gen W s.heap.objs.size src G)(hG:G rem O (s.heap.push o))(hs:src V):jL W Pn Pk Q (.ref s.heap.objs.size) { s with heap:=s.heap.push o }:=by
 have hk:∀b o',s.heap.get? b=some o'->(s.heap.push o).get? b=some o':=λ b o' e=>FH _ e
 refine⟨_,src,rem,G,V,O,rfl,q,R.push o,S.trans (Q7 hk),?_,R.notM K9,Ge,hG,hs⟩
 cases e:Pk.get? s.heap.objs.size with
 | none=>rfl
 | some o'=>obtain⟨o'',e'⟩:=S.live _ _ e;exact G9 (K9.symm.trans e')
def itV(x:AV)(Q:(Sto->Prop)->List AV->Sto->Prop)(V:Sto):Prop:=match x with
 | .ref i=>inO (lst V i) λ l=>Q (λ V=>lst V i=some l) l V
 | .str s=>Q (λ Y=>True) (s.map λ c=>.str [c]) V
 | _=>False
def aF(p:PT):IT:=λ st Q V=>p st (λ x OP=>itV x Q OP) V
theorem ah{e:Expr}{p:PT}(he:J0 W k F e p):mA W k F e (aF p):=by
 intro A env s V O st Q ro R f h
 refine he.then ro R f h λ v OQ ON OV x q OR OW vx OU Pb=>?_
 cases x with
 | str x=>
  obtain⟨t,rfl⟩:=vx.str_inv
  refine wpAny_pyIter_strU (.fresh OR OU q (xh (T:=strIterType ⟨x.toArray⟩) (t:=t) ?_) ⟨0,⟨_,Gd _ rfl,rfl,rfl⟩,rfl⟩ trivial)
  unfold strIterType
  split
  ·exact .inl rfl
  ·exact .inr rfl
 | ref i=>
  obtain⟨l,hl,q⟩:=U7 q
  obtain⟨a,n,vs,rfl,hp,h1,h2⟩:=vx.ref_list OR hl
  exact wpAny_pyIter_list h1.isList (.fresh OR OU q (tV (I:=_) (j:=i) (a:=a) (l:=l)) ⟨0,⟨_,Gd _ rfl,rfl,rfl⟩,hp,rfl⟩ hl)
 | _=>exact q.elim
inductive tX(W:Wld)(O:Mp)(h:Heap)(Q:Int->Int->Sto->Prop)(v:Value)(s':Shared):Prop
 | mk (r a b t u w OP OT:_):v=.ref r->Q a b OP->Rep W OP OT s'->E8 W [] O h OT s'.heap->IsRange s'.heap r a b 1 t u w->(-1000000<a/\a<1000000/\-1000000<b/\b<1000000)->tX W O h Q v s'
def rgP(xs:List AV)(Q:Int->Int->Sto->Prop)(V:Sto):Prop:=match xs with
 | []=>False
 | x::r=>inI x λ a=>match r with
  | []=>(-1000000<a/\a<1000000)/\Q 0 a V
  | y::r=>match r with
   | []=>inI y λ b=>(-1000000<a/\a<1000000/\-1000000<b/\b<1000000)/\Q a b V
   | _::_=>False
theorem n7{xr:Str}{es:List Expr}{p1 p2:Pos}{p:PTs}(hx:aw F xr=true)(hm:W.mg xr=none)(hv:W.mb xr=some (.type "range"))(he:aH W k F es p)(hn:N1 es=true)
  {Q:Int->Int->Sto->Prop}(ro:N3 k A)(R:Rep W V O s)(f:FrR W F env st s.heap O)(h:p st (λ xs OP=>rgP xs Q OP) V):
  wpAny W.M A (eval (.Call (.Name xr p1) es [] p2) env) (tX W O s.heap Q) NoE s:=by
 refine IL (gm R f hx hm hv ?_)
 refine JW (ax hn) (ay hn (Fy (he.run p2 ro R f h) (λ vs OQ hp=>?_) λ Y Y x=>x))
 obtain⟨ON,OV,xs,q,OR,vr,OU⟩:=hp
 have hk:∀(o:Obj) b o',OQ.heap.get? b=some o'->(OQ.heap.push o).get? b=some o':=λ o b o' e=>FH _ e
 cases(xs)with
 | nil=>exact q.elim
 | cons x r=>
  obtain⟨a,rfl,g⟩:=W7 q
  obtain⟨v1,vs,rfl,r1,vr1⟩:=vr.cons_inv
  obtain⟨t,rfl⟩:=r1.int_inv
  clear q vr
  cases(r)with
  | nil=>
   obtain rfl:=vr1.nil_inv
   exact call_range_1 ⟨_,_,_,_,_,_,_,_,rfl,g.2,(OR.grow (hk _)).1,OU.trans (Q7 (hk _)),Gd _ rfl,by decide,by decide,g.1⟩
  | cons y r=>
   obtain⟨v2,vs,rfl,r2,vr2⟩:=vr1.cons_inv
   cases(r)with
   | nil=>
    obtain⟨b,rfl,g⟩:=W7 g
    obtain rfl:=vr2.nil_inv
    obtain⟨u,rfl⟩:=r2.int_inv
    exact call_range_2 ⟨_,_,_,_,_,_,_,_,rfl,g.2,(OR.grow (hk _)).1,OU.trans (Q7 (hk _)),Gd _ rfl,g.1⟩
   | cons _ _=>exact g.elim
theorem qz{a b:Int}:(Builtin.Range.rangeSize a b 1).toNat=(b-a).toNat:=by
 rw[MY];split <;> lia
def H3(p:PTs):IT:=λ st Q V=>p st (λ xs OP=>rgP xs (λ a b OP=>Q (λ Y=>True) (V9 a (b-a).toNat 1) OP) OP) V
theorem K8{xr:Str}{es:List Expr}{p1 p2:Pos}{p:PTs}(hx:aw F xr=true)(hm:W.mg xr=none)(hv:W.mb xr=some (.type "range"))(he:aH W k F es p)(hn:N1 es=true):
  mA W k F (.Call (.Name xr p1) es [] p2) (H3 p):=by
 intro A env s V O st Q ro R f h
 refine Fy (n7 hx hm hv he hn ro R f h) (λ v OQ hp=>?_) λ Y Y x=>x
 obtain⟨r,a,b,t,u,w,OP,OT,rfl,q,OR,OU,hr,hb⟩:=hp
 refine wpAny_pyIter_range hr (small_one (by lia) (by lia) (by lia) (by lia)) (.fresh OR OU q (lD (c:=1)) ⟨a,_,Gd _ rfl,?_⟩ trivial)
 rw[qz]
namespace Rv
theorem sub_ri:isSubtype (.type "range_iterator") (.type "reversed")=pure false:=by rw[JP];kernel_rfl
theorem sub_self:isSubtype (.type "reversed") (.type "reversed")=pure true:=by rw[JP];kernel_rfl
theorem mro:mroOf (.type "reversed")=pure [.type "reversed",.type "object"]:=by rw[mroOf_type];kernel_rfl
theorem Ep:typeLookup (.type "reversed") "__new__" = pure (some (.builtin "reversed.__new__")):=by rw[HC,GW];kernel_rfl
theorem made:Bind.madeBy (.type "reversed")=pure (some "reversed.__new__"):=madeBy_type mro Ep (by decide +kernel)
theorem ok1(a:Value):checkTypeCall "reversed" ⟨[a],[]⟩=pure ():=by kernel_rfl
theorem ok2(a:Value):checkBuiltinCall "reversed.__new__" ⟨[.type "reversed",a],[]⟩=pure ():=by kernel_rfl
theorem entry:entryFor table "reversed.__new__" = some Builtin.«reversed.__new__»:=LF (by kernel_rfl)
theorem plain:plainId "reversed.__new__" = true:=by decide +kernel
theorem create:((Manifest.find? "reversed").bind (·.mro.findSome? λ t=>(Manifest.find? t).bind λ b=>if b.noNew then some true else if b.attrs.any (·.1 == "__new__")then some false else none)).getD false=false:=by decide +kernel
theorem cls(a:Value):Builtin.SmallTypes.newClass "reversed" ⟨[.type "reversed",a],[]⟩=pure (.type "reversed",[a]):=by
 unfold Builtin.SmallTypes.newClass
 simp only[isType,sub_self,pure_bind,KA,Im,if_false]
end Rv
theorem eZ{x:Int}(h:-4000000<=x)(h':x<=4000000):Builtin.Range.rangeFitsLong x=true:=by
 unfold Builtin.Range.rangeFitsLong
 rw[decide_eq_true (FI (by decide) h),decide_eq_true (Jr h' (by decide))];rfl
theorem sy{a b:Int}(h:-1000000<a/\a<1000000/\-1000000<b/\b<1000000):(Builtin.Range.rangeFitsLong a&&Builtin.Range.rangeFitsLong b&&Builtin.Range.rangeFitsLong 1&&Builtin.Range.rangeFitsLong (-1)&&Builtin.Range.rangeFitsLong (a-1)&&Builtin.Range.rangeFitsLong (Builtin.Range.rangeSize a b 1))=true:=by
 refine(λ h1 h2 h3 h4=>?_) h.1 h.2.1 h.2.2.1 h.2.2.2;clear h
 have hn:Builtin.Range.rangeFitsLong (Builtin.Range.rangeSize a b 1)=true:=by
  rw[MY]
  split
  ·exact eZ (by lia) (by lia)
  ·rfl
 rw[eZ (x:=a) (FI (by decide) (FT h1)) (FI (FT h2) (by decide)),eZ (x:=b) (FI (by decide) (FT h3)) (FI (FT h4) (by decide)),eZ (x:=a-1) (FI (by decide) (Mt (FT h1) 1)) (FI (Int.sub_le_self _ (by decide)) (FI (FT h2) (by decide))),hn]
 rfl
noncomputable def lE(a b:Int):Obj:={ cls:=.type "range_iterator",data:=.fields #[rawInt (a+(Builtin.Range.rangeSize a b 1-1)*1),rawInt (Builtin.Range.rangeSize a b 1),rawInt (-1)] }
section
variable {prog:Program}{w:World}{A:Around}{E:Value->Shared->Prop}{s:Shared}
theorem fk{r:Addr}{a b:Int}{t u v:Tok}{Q:Value->Shared->Prop}(hr:IsRange s.heap r a b 1 t u v)(hb:-1000000<a/\a<1000000/\-1000000<b/\b<1000000)
  (h:Q (.ref s.heap.objs.size) { s with heap:=s.heap.push (lE a b) }):wpAny (model prog w) A (call (.builtin "range.__reversed__") [.ref r]) Q E s:=by
 have hT:s.TypeIs (.ref r) "range":=⟨_,hr,rfl⟩
 refine HT Ku hT F.entry_range_reversed ?_ (F.args_range_reversed_1 _)
 unfold Builtin.«range.__reversed__»
 refine nt (GK (a:=Value.ref r) rfl ?_)
 unfold Builtin.Range.rangeFields
 refine nt (nt (Jq hr rfl (x:=.int a t) rfl ?_))
 refine nt (GK (a:=some a) rfl ?_)
 refine nt (Jq hr rfl (x:=.int b u) rfl ?_)
 refine nt (GK (a:=some b) rfl ?_)
 refine nt (Jq hr rfl (x:=.int 1 v) rfl ?_)
 refine nt (GK (a:=some 1) rfl ?_)
 refine Fp ?_
 simp only[sy hb,KA,Im,if_false,if_true]
 exact nt (IC (Fp ⟨_,rfl,h⟩))
theorem fm{r:Addr}{a b:Int}{t u v:Tok}{Q₁:Value->Shared->Prop}(hr:IsRange s.heap r a b 1 t u v)(hb:-1000000<a/\a<1000000/\-1000000<b/\b<1000000)
  (h:Q₁ (.ref s.heap.objs.size) { s with heap:=s.heap.push (lE a b) }):
  codeAny (model prog w) A (.call (.builtin "reversed.__new__") ⟨[.type "reversed",.ref r],[]⟩) (wants Q₁ E) s:=by
 have hT:s.TypeIs (.ref r) "range":=⟨_,hr,rfl⟩
 refine Of ?_
 show wpAny _ A.in1 (do checkBuiltinCall "reversed.__new__" ⟨[.type "reversed",.ref r],[]⟩;again (.builtin "reversed.__new__" ⟨[.type "reversed",.ref r],[]⟩)) _ _ s
 refine nt (GK (Rv.ok2 _) (Fp ⟨plainId_quiet Rv.plain _,Oe Rv.entry ?_⟩))
 rw[Around.under_plainId Rv.plain _]
 unfold Builtin.«reversed.__new__»
 refine nt (GK (Rv.cls _) ?_)
 try dsimp only
 refine nt (GK (a:=()) (by first|rfl|kernel_rfl) ?_)
 refine nt (GK (a:=()) (by first|rfl|kernel_rfl) ?_)
 try dsimp only
 refine nt (Oh hT Ku.lookup ?_)
 try dsimp only
 refine nt (GK (Ku.bind _) ?_)
 try dsimp only
 first
 | rw[if_neg (show ¬((Value.builtin "range.__reversed__" == Value.none)=true)from Hi)]
 | (show wpAny _ _ (if (Value.builtin "range.__reversed__" == Value.none)=true then _ else _) _ _ _;rw[if_neg (show ¬((Value.builtin "range.__reversed__" == Value.none)=true)from Hi)])
 refine nt (IQ ?_)
 refine nt (m:=runValue (.call (.builtin "range.__reversed__") ⟨[.ref r],[]⟩)) (show wpAny _ _ (call (.builtin "range.__reversed__") [.ref r]) _ _ _ from fk hr hb ?_)
 first
 | exact Fp h
 | exact nt (Fp (Fp h))
theorem fq{r:Addr}{a b:Int}{t u v:Tok}{Q:Value->Shared->Prop}(hr:IsRange s.heap r a b 1 t u v)(hb:-1000000<a/\a<1000000/\-1000000<b/\b<1000000)
  (h:Q (.ref s.heap.objs.size) { s with heap:=s.heap.push (lE a b) }):wpAny (model prog w) A (call (.type "reversed") [.ref r]) Q E s:=by
 obtain⟨c,tl,hmro⟩:∃c tl,mroOf (.type "reversed")=pure (c::tl):=⟨_,_,Rv.mro⟩
 have hmade:=Rv.made
 have hsub:=Rv.sub_ri
 have hct:=Rv.ok1 (.ref r)
 have h2:=Rv.create
 have h1:(Value.type "reversed" == Value.type "type")=false:=by decide +kernel
 refine Mb (Of ?_)
 show wpAny _ _ (callAny (.type "reversed") _) _ _ _
 refine Fp ⟨Code.quiet_builtin _ (by decide +kernel),Oe PySem.F.entry_type_call ?_⟩
 rw[Around.under_plain (weight_type_call_type "reversed" [.ref r] []) rfl]
 repeat (any_goals (first|assumption|wp_step))
 refine Jd (fm (E:=E) (Q₁:=λ obj OQ=>obj=.ref s.heap.objs.size/\OQ = { s with heap:=s.heap.push (lE a b) }) hr hb ⟨rfl,rfl⟩) λ res OQ hres=>?_
 induction res with
 | error e=>exact hres
 | ok fl=>
  induction fl with
  | ret obj=>
   refine(λ Z J=>?_) hres.1 hres.2;rcases Z with rfl;rcases J with rfl;clear hres
   have hT:Shared.TypeIs { s with heap:=s.heap.push (lE a b) } (.ref s.heap.objs.size) "range_iterator":=⟨_,Gd _ rfl,rfl⟩
   repeat (any_goals (first|assumption|wp_step))
  | _=>exact hres.elim
end
def sA(p:PTs):IT:=λ st Q V=>p st (λ xs OP=>rgP xs (λ a b OP=>Q (λ Y=>True) (V9 (a+(b-a).toNat-1) (b-a).toNat (-1)) OP) OP) V
theorem qA{xr xv:Str}{es:List Expr}{p1 p2 p3 p4:Pos}{p:PTs}(hx:aw F xr=true)(hm:W.mg xr=none)(hv:W.mb xr=some (.type "range"))
  (hx':aw F xv=true)(hm':W.mg xv=none)(hv':W.mb xv=some (.type "reversed"))(he:aH W k F es p)(hn:N1 es=true):
  mA W k F (.Call (.Name xv p3) [.Call (.Name xr p1) es [] p2] [] p4) (sA p):=by
 intro A env s V O st Q ro R f h
 refine IL (gm R f hx' hm' hv' ?_)
 refine JW (ax rfl) (ay rfl ?_)
 rw[Z4 rfl]
 show wpAny _ A (spliced ((false,_)::backTo _ (starEach [] env))) _ _ _
 refine spliced_cons (Fy (n7 hx hm hv he hn ro R f h) (λ v OQ hp=>?_) λ Y Y x=>x)
 obtain⟨r,a,b,t,u,w,OP,OT,rfl,q,OR,OU,hr,hb⟩:=hp
 refine spliced_nil (fq hr hb ?_)
 have hI:IsRangeIter (OQ.heap.push (lE a b)) OQ.heap.objs.size (a+(Builtin.Range.rangeSize a b 1-1)*1) (Builtin.Range.rangeSize a b 1) (-1):=Gd _ rfl
 refine Md hI (.fresh OR OU q (lD (c:=-1)) ⟨_,_,hI,?_⟩ trivial)
 rw[qz]
 by_cases hab:a<b
 ·rw[MY,if_pos hab]
  congr 1;exact by rw[Int.toNat_of_nonneg (FT (Int.sub_pos_of_lt hab)),NQ,Int.add_sub_assoc]
 ·rw[show(b-a).toNat=0 from(ML (Int.sub_nonpos_of_le (Ha.mp hab)))];rfl
theorem lF{u:Value}{y:AV}{P:Value->Shared->Prop}(R:Rep W V O s)(vx:VR W.h0 s.heap O v (.ref j))(vy:VR W.h0 s.heap O u y)(e:lst V j=some l)(hz:l.length<lim)
  (go:∀s',Rep W (V.set j (.list (l++[y]))) O s'->E8 W [] O s.heap O s'.heap->Sub s.heap O s'.heap O->P .none s'):wpAny W.M A (call (.builtin "list.append") [v,u]) P NoE s:=by
 obtain⟨a,n,vs,rfl,hp,hl,hv⟩:=vx.ref_list R e
 have hlen:=hv.length
 refine LI (items:=vs.toArray) ⟨n,hl⟩ (λ h' hl' hs=>?_) (by rw[HM,hlen];exact fp (FE hz) O5)
 rcases hl' with⟨n',hl'⟩
 have r:=R.upd (o':=.list (l++[y])) (d:=s.drawn) (t:=s.toks) (FC.mp (F6 e)).1 hp hs
  (λ U=>.list (n:=n') (vs:=vs++[u]) (by simpa using hl') ((VRs.mono U hv).append (.cons (VR.mono U vy) .nil)))
 exact go _ r.1 r.2.1 r.2.2
noncomputable def i9(scope fs:Scope):Scope:=
 { scope with names:=scope.names.map fun(n,k)=>if (k==.free&&fs.kind==.function&&fs.names.lookup n==some .cell)then(n,.cell)else(n,k) }
noncomputable def cFm(F:Fm)(scope:Scope)(x:Str)(i:Nat):Fm:=⟨i9 scope F.scope,(x,i)::F.slots.filter λ p=>scope.names.lookup p.1==some .free⟩
noncomputable def cOk(F:Fm)(scope:Scope)(x:Str)(i:Nat):Bool:=
 (scope.kind==.function)&&(decide (scope.names.map (·.1)).Nodup&&(scope.names.all (λ p=>!(p.2==.cell)||p.1==x) &&
 (scope.names.all (λ p=>!(p.2==.free)||((F.slots.lookup p.1).isSome&&(F.scope.names.lookup p.1==some .cell||F.scope.names.lookup p.1==some .free))) &&
 ((scope.names.lookup x==some .local||scope.names.lookup x==some .cell)&&F.slots.all (λ p=>p.2 != i)))))
structure CmI(F:Fm)(scope:Scope)(x:Str)(i:Nat):Prop where
 kind:scope.kind=.function
 nnd:(scope.names.map (·.1)).Nodup
 own:∀p∈scope.names,p.2=.cell->p.1=x
 free:∀p∈scope.names,p.2=.free->∃j,F.slots.lookup p.1=some j/\(F.scope.names.lookup p.1=some .cell\/F.scope.names.lookup p.1=some .free)
 xk:scope.names.lookup x=some .local\/scope.names.lookup x=some .cell
 off:∀p∈F.slots,p.2≠i
theorem zR{scope:Scope}{x:Str}(h:cOk F scope x i=true):CmI F scope x i:=by
 unfold cOk at h
 simp only[Gn,Jk,Me,beq_iff_eq,HJ,bne_iff_ne,decide_eq_true_eq]at h
 refine(λ h1 h2 h3 h4 h5 h6=>?_) h.1 h.2.1 h.2.2.1 h.2.2.2.1 h.2.2.2.2.1 h.2.2.2.2.2;clear h
 refine⟨h1,h2,λ p hp e=>?_,λ p hp e=>?_,h5,h6⟩
 ·rcases h3 p hp with q|q
  ·rw[e]at q;cases q
  ·exact q
 ·rcases h4 p hp with q|⟨q,r⟩
  ·rw[e]at q;cases q
  ·refine xE (Jh.mp q) λ j hj=>?_
   exact⟨j,hj,r⟩
theorem fy{β:Type}[BEq α][LawfulBEq α](P:α->Bool)(y:α):∀l:List (α×β),(l.filter λ p=>P p.1).lookup y=if P y then l.lookup y else none
 | []=>by simp
 | (z,w)::l=>by
  have ih:=fy P y l
  rw[Lw]
  by_cases hz:P z=true
  ·rw[if_pos hz,HD,HD]
   by_cases e:(y==z)=true
   ·rw[e];simp only
    rw[beq_iff_eq.mp e,if_pos hz]
   ·simp only[Kk.mpr e];exact ih
  ·rw[if_neg hz,ih,HD]
   by_cases e:(y==z)=true
   ·rw[beq_iff_eq.mp e,if_neg hz,if_neg hz]
   ·simp only[Kk.mpr e]
set_option tactic.hygienic true in
theorem cM{scope:Scope}{x:Str}{y:Str}(h:(cFm F scope x i).slots.lookup y=some j):(y=x/\j=i)\/(scope.names.lookup y=some .free/\F.slots.lookup y=some j):=by
 unfold cFm at h
 simp only at h
 rw[HD]at h
 split at h
 ·rename_i e;cases h;exact .inl ⟨beq_iff_eq.mp e,rfl⟩
 ·rw[fy (λ n=>scope.names.lookup n==some .free)]at h
  split at h
  ·rename_i e;exact .inr ⟨beq_iff_eq.mp e,h⟩
  ·cases h
theorem dC{β:Type}[BEq α][LawfulBEq α](g:α->β->β)(y:α):∀l:List (α×β),(l.map λ p=>(p.1,g p.1 p.2)).lookup y=(l.lookup y).map (g y)
 | []=>rfl
 | (z,w)::l=>by
  rw[Gg,HD,HD]
  by_cases e:(y==z)=true
  ·simp only[e];rw[beq_iff_eq.mp e];rfl
  ·simp only[Kk.mpr e];exact dC g y l
theorem cn{scope fs:Scope}{y:Str}:(i9 scope fs).names.lookup y=(scope.names.lookup y).map λ k=>if (k==.free&&fs.kind==.function&&fs.names.lookup y==some .cell)then .cell else k:=by
 rw[<- dC (λ y k=>if (k==.free&&fs.kind==.function&&fs.names.lookup y==some .cell)then NameKind.cell else k)]
 show(List.map _ scope.names).lookup y=_
 congr 2
 funext p
 obtain⟨a,b⟩:=p
 simp only
 split <;> rfl
theorem mB(f:Str×NameKind->List (Str×Addr)->Sem (ForInStep (List (Str×Addr))))
  (hf:∀name kind cells,f (name,kind) cells=if kind==.free then(do let a <- cellOf env name;pure (.yield ((name,a)::cells)))else pure (.yield cells)):
  ∀(names:List (Str×NameKind)) (acc:List (Str×Addr)),(∀n,(n,NameKind.free)∈names->∃c,env.cells.lookup n=some c)->
  ∃cl,forIn names acc f=pure cl/\(∀p∈cl,p∈acc\/((p.1,NameKind.free)∈names/\env.cells.lookup p.1=some p.2))/\(∀n,(n,NameKind.free)∈names->∃c,(n,c)∈cl)/\∀p∈acc,p∈cl
 | [],acc,_=>⟨acc,by rw[Om],λ p hp=>.inl hp,λ n h=>by simp at h,λ p hp=>hp⟩
 | (name,kind)::r,acc,h=>by
  by_cases hk:kind=.free
  ·subst hk
   refine xE (h name (.head _)) λ c hc=>?_
   refine xE (mB f hf r ((name,c)::acc) λ n hn=>h n (.tail _ hn)) λ cl Z=>(λ h1 h2 h3 h4=>?_) Z.1 Z.2.1 Z.2.2.1 Z.2.2.2;clear Z
   refine⟨cl,?_,λ p hp=>?_,λ n hn=>?_,λ p hp=>h4 p (.tail _ hp)⟩
   ·rw[JY,hf]
    have:cellOf env name=pure c:=by unfold cellOf;rw[hc]
    simp[this,h1]
   ·rcases h2 p hp with q|⟨q,q'⟩
    ·cases q with
     | head=>exact .inr ⟨.head _,hc⟩
     | tail _ q=>exact .inl q
    ·exact .inr ⟨.tail _ q,q'⟩
   ·cases hn with
    | head=>exact⟨c,h4 _ (.head _)⟩
    | tail _ hn=>exact h3 n hn
  ·refine xE (mB f hf r acc λ n hn=>h n (.tail _ hn)) λ cl Z=>(λ h1 h2 h3 h4=>?_) Z.1 Z.2.1 Z.2.2.1 Z.2.2.2;clear Z
   refine⟨cl,?_,λ p hp=>(h2 p hp).imp id λ q=>⟨.tail _ q.1,q.2⟩,λ n hn=>?_,h4⟩
   ·rw[JY,hf]
    have:(kind==NameKind.free)=false:=by cases kind <;> first|rfl|exact(hk rfl).elim
    simp[this,h1]
   ·cases hn with
    | head=>exact(hk rfl).elim
    | tail _ hn=>exact h3 n hn
theorem qB{scope:Scope}(h:∀n,(n,NameKind.free)∈scope.names->∃c,env.cells.lookup n=some c):
  ∃cl,closureFor scope env=pure cl/\(∀p∈cl,(p.1,NameKind.free)∈scope.names/\env.cells.lookup p.1=some p.2)/\(∀n,(n,NameKind.free)∈scope.names->∃c,(n,c)∈cl):=by
 obtain⟨cl,h1,h2,h3,_⟩:=mB (env:=env) (fun(x:Str×NameKind) cells=>match x with
  | (name,kind)=>if (kind==.free)=true then(do let a <- cellOf env name;pure (.yield ((name,a)::cells)))else pure (.yield cells)) (λ Y Y Y=>rfl) scope.names [] h
 refine⟨cl,?_,λ p hp=>(h2 p hp).elim (λ q=>by simp at q) id,h3⟩
 unfold closureFor
 dsimp only
 rw[<- bind_pure (pure cl),<- h1]
theorem iN{M:Model}{E:Value->Shared->Prop}{scope:Scope}{globals:Addr}{cl:List (Str×Addr)}{qual:Str}{Q:Env->Shared->Prop}
  (h:Q (newEnv scope s.heap.objs.size globals (cellsFrom (s.heap.objs.size+1) scope.names cl) qual none .none (some env) builtinsNs) { s with heap:=pushCells (s.heap.push { cls:=.type "dict",data:=.dict #[] }) scope.names }):
  wpAny M A (newFunctionEnv scope globals cl [] qual none .none (some env)) Q E s:=by
 simp only[newFunctionEnv,Option.isSome_some,if_true]
 refine nt (wpAny_alloc ?_)
 refine nt (wpAny_layCells _ (λ name kind cells=>by cases hkc:kind==NameKind.cell <;> simp[hkc]) _ _ _ _ ?_)
 rw[show({ s with heap:=s.heap.push { cls:=.type "dict",data:=.dict #[] } }:Shared).heap.objs.size=s.heap.objs.size+1 from HX ..]
 exact nt (Fp (Fp h))
set_option tactic.hygienic true in
theorem lG(names:List (Str×NameKind))(h:Heap)(acc:List (Str×Addr))(p:Str×Addr)(x:p∈cellsFrom h.objs.size names acc):p∈acc\/((p.1,NameKind.cell)∈names/\h.objs.size<=p.2/\(pushCells h names).IsCell p.2 none):=by
 induction names generalizing h acc with
 | nil=>exact .inl x
 | cons z r ih=>
  unfold cellsFrom at x
  unfold pushCells
  split at x
  ·rename_i hk
   rw[if_pos hk]
   refine(ih (h.push { cls:=.type "cell",data:=.cell none }) ((z.1,h.objs.size)::acc) (by rw[HX];exact x)).elim (λ q=>(Fv.mp q).elim (λ e=>.inr ?_) .inl) λ q=>.inr ⟨.tail _ q.1,GL (HX h { cls:=.type "cell",data:=.cell none }▸q.2.1:h.objs.size+1<=_),q.2.2⟩
   exact e▸⟨beq_iff_eq.mp hk▸.head _,Fn _,_,Ka _ _ _ _ (Gd _ rfl),rfl⟩
  ·rename_i hk
   rw[if_neg hk]
   exact(ih h acc x).imp id λ q=>⟨.tail _ q.1,q.2⟩
theorem jM{β:Type}[BEq α][LawfulBEq α]{a:α}{b:β}{l:List (α×β)}(h:(a,b)∈l):∃c,l.lookup a=some c:=by
 induction l with
 | nil=>cases h
 | cons z r ih=>
  by_cases e:a=z.1
  ·exact⟨z.2,e▸Ik⟩
  ·exact(Fv.mp h).elim (λ q=>absurd (q▸rfl) e) λ h=>(ih h).imp λ c hc=>(tU e).trans hc
structure zS(W:Wld)(F:Fm)(scope:Scope)(x:Str)(i:Nat)(env cenv:Env)(h:Heap):Prop where
 newC:h.get? cenv.locals=none
 own:∀a,(a=cenv.locals\/(cenv.cells.lookup x=some a/\(cFm F scope x i).scope.names.lookup x=some .cell))->h.get? a=none
theorem zc{o:Option NameKind}(h:o=some .cell)(h':o=some .free):False:=by rw[h]at h';cases h'
theorem tY{scope fs:Scope}{y:Str}(h:scope.names.lookup y=some .local):(i9 scope fs).names.lookup y=some .local:=by rw[cn,h];rfl
theorem sC{scope fs:Scope}{y:Str}(h:scope.names.lookup y=some .free):(i9 scope fs).names.lookup y≠some .local:=by
 rw[cn,h]
 simp only[JZ]
 split <;> decide
theorem xi{scope:Scope}{x:Str}{cenv:Env}{H:Heap}{cl:List (Str×Addr)}{m:Str->Option Value}(I:CmI F scope x i)(f:FrR W F env st h O)
  (h2:∀p∈cl,(p.1,NameKind.free)∈scope.names/\env.cells.lookup p.1=some p.2)(chas:∀n k,scope.names.lookup n=some k->(k=.cell\/k=.free)->∃c,cenv.cells.lookup n=some c)
  (e1:cenv.scope=relabel scope env)(e3:cenv.globals=env.globals)(e4:cenv.builtins=env.builtins)(hk:∀b o,h.get? b=some o->H.get? b=some o)
  (hmem:∀p∈cenv.cells,p∈cl\/((p.1,NameKind.cell)∈scope.names/\cenv.locals+1<=p.2/\H.IsCell p.2 none))(hns:H.Ns cenv.locals m)(fr:∀p∈cenv.cells,p∈cl\/h.get? p.2=none)
  (nL:cenv.locals∉O.map (·.2))(n0:W.h0.get? cenv.locals=none)(nM:∀b,h.get? b=none->b∉O.map (·.2))(nO:∀b,h.get? b=none->W.h0.get? b=none):FrR W (cFm F scope x i) cenv (st.set i .undef) H O:=by
 have S:Sub h O H O:=⟨λ Y Y Y t=>hk _ _ t,[],(FL _).symm⟩
 have und:∀{w P},(st.set i AV.undef)[i]?=some w->w≠.undef->P:=λ hw hu=>(hu (qu hw)).elim
 have one:∀{y c},cenv.cells.lookup y=some c->env.cells.lookup y=some c\/(y=x/\h.get? c=none):=fun{y c} hy=>(fr _ (mem_of_lookup hy)).elim (λ q=>.inl (h2 _ q).2) λ q=>(hmem _ (mem_of_lookup hy)).elim (λ q=>.inl (h2 _ q).2) λ r=>.inr ⟨I.own _ r.1 rfl,q⟩
 have no:∀{y c},env.cells.lookup y=some c->h.get? c≠none:=λ hy e=>(f.cells _ (mem_of_lookup hy)).elim λ o z=>z.elim λ Y z=>G9 (e.symm.trans z.1)
 refine⟨e1.trans (congrArg (i9 scope) f.scope),I.kind,e3.trans f.globals,e4.trans f.builtins,hns.elim λ o z=>z.elim λ Y z=>z.elim λ Y z=>⟨_,o,hns,z.1,λ y j hy hl w hw hu=>?_⟩,λ p hp=>?_,λ y j hy hky=>?_,nL,λ p hp=>?_,λ y z c hy hz=>?_,λ y z j hy hz=>?_,n0,λ p hp=>?_⟩
 ·exact(cM hy).elim (λ q=>und (q.2▸hw) hu) λ q=>(sC q.1 hl).elim
 ·exact(hmem p hp).elim (λ q=>(f.cells (p.1,p.2) (mem_of_lookup (h2 p q).2)).elim λ o z=>z.elim λ u z=>⟨o,u,hk _ _ z.1,z.2⟩) λ q=>q.2.2.elim λ o z=>⟨o,_,z⟩
 ·refine(cM hy).elim (λ q=>?_) λ q=>?_
  ·have hc:scope.names.lookup y=some .cell:=q.1▸I.xk.elim (λ h=>have e:=tY (fs:=F.scope) h;hky.elim (λ k=>(tO e (q.1▸k)).elim) λ k=>(qv e (q.1▸k)).elim) id
   exact(chas y _ hc (.inl rfl)).elim λ c hc=>⟨c,hc,λ w hw hu=>und (q.2▸hw) hu⟩
  ·refine(chas y _ q.1 (.inr rfl)).elim λ c hc=>⟨c,hc,λ w hw hu=>?_⟩
   refine xE (I.free (y,.free) (mem_of_lookup q.1) rfl) λ j' Z=>(λ hj' hjk=>?_) Z.1 Z.2;clear Z
   obtain rfl:j'=j:=Ft (hj'.symm.trans q.2)
   refine(f.cell y j' q.2 hjk).elim λ QW g=>(g.2 w (qt (I.off (y,j') (mem_of_lookup q.2)) hw) hu).elim λ v k=>⟨v,(?_:H.IsCell c _),VR.mono S k.2⟩
   have e:QW=c:=(one hc).elim (λ r=>Ft (g.1.symm.trans r)) λ r=>(I.xk.elim (λ h=>qv h (r.1▸q.1)) λ h=>zc h (r.1▸q.1)).elim
   exact e▸k.1.keeps hk
 ·exact(fr p hp).elim (λ q=>f.apartC (p.1,p.2) (mem_of_lookup (h2 p q).2)) (nM _)
 ·exact(one hy).elim (λ q=>(one hz).elim (λ r=>f.inj y z c q r) λ r=>(no q r.2).elim) λ q=>(one hz).elim (λ r=>(no r q.2).elim) λ r=>q.1.trans r.1.symm
 ·exact(cM hy).elim (λ q=>(cM hz).elim (λ r=>q.1.trans r.1.symm) λ r=>(I.off _ (mem_of_lookup r.2) q.2).elim) λ q=>(cM hz).elim (λ r=>(I.off _ (mem_of_lookup q.2) r.2).elim) λ r=>f.sinj y z j q.2 r.2
 ·exact(fr p hp).elim (λ q=>f.newC (p.1,p.2) (mem_of_lookup (h2 p q).2)) (nO _)
theorem pH{scope:Scope}{x:Str}{cl:List (Str×Addr)}(I:CmI F scope x i)(R:Rep W V O s)(f:FrR W F env st s.heap O)
  (h2:∀p∈cl,(p.1,NameKind.free)∈scope.names/\env.cells.lookup p.1=some p.2)(h3:∀n,(n,NameKind.free)∈scope.names->∃c,(n,c)∈cl):
  ∀cenv:Env,cenv.scope=relabel scope env->cenv.locals=s.heap.objs.size->cenv.globals=env.globals->cenv.builtins=env.builtins->cenv.cells=cellsFrom (s.heap.objs.size+1) scope.names cl->
   FrR W (cFm F scope x i) cenv (st.set i .undef) (pushCells (s.heap.push { cls:=.type "dict",data:=.dict #[] }) scope.names) O/\zS W F scope x i env cenv s.heap/\
   (∀b o,s.heap.get? b=some o->(pushCells (s.heap.push { cls:=.type "dict",data:=.dict #[] }) scope.names).get? b=some o):=by
 intro cenv e1 e2 e3 e4 e5
 have hk:∀b o,s.heap.get? b=some o->(pushCells (s.heap.push { cls:=.type "dict",data:=.dict #[] }) scope.names).get? b=some o:=λ b o e=>Ka _ _ _ _ (FH _ e)
 have hmem:∀p∈cenv.cells,p∈cl\/((p.1,NameKind.cell)∈scope.names/\s.heap.objs.size+1<=p.2/\(pushCells (s.heap.push { cls:=.type "dict",data:=.dict #[] }) scope.names).IsCell p.2 none):=by
  intro p hp
  have:=lG scope.names (s.heap.push { cls:=.type "dict",data:=.dict #[] }) cl p (by rw[HX,<- e5];exact hp)
  rwa [HX]at this
 have hns:=(OF s.heap (.type "dict")).keeps (Ka scope.names _)
 have chas:∀n k,scope.names.lookup n=some k->(k=.cell\/k=.free)->∃c,cenv.cells.lookup n=some c:=λ n k hn hk=>e5▸hk.elim
  (λ e=>(fw scope.names (s.heap.objs.size+1) cl n (mem_of_lookup (e▸hn))).elim λ c h=>jM h) λ e=>(h3 n (mem_of_lookup (e▸hn))).elim λ c hc=>jM (lB _ _ _ _ hc)
 clear e5 h3
 revert hns
 rw[<- e2]at hmem ⊢
 revert hk hmem
 generalize pushCells (s.heap.push { cls:=.type "dict",data:=.dict #[] }) scope.names=H
 intro hk hmem hns
 have eL:s.heap.get? cenv.locals=none:=e2▸K9
 have fr:∀p∈cenv.cells,p∈cl\/s.heap.get? p.2=none:=λ p hp=>(hmem p hp).imp id λ q=>U8 (e2▸GL q.2.1)
 refine⟨xi I f h2 chas e1 e3 e4 hk hmem hns fr (R.notM eL) (R.not0 eL) (λ b=>R.notM) λ b=>R.not0,⟨eL,λ a ha=>ha.elim (λ e=>e▸eL) λ h=>(fr _ (mem_of_lookup h.1)).elim (λ q=>?_) id⟩,hk⟩
 have hfr:=W8 I.nnd (h2 _ q).1
 exact(I.xk.elim (λ h=>qv h hfr) λ h=>zc h hfr).elim
def dP(W:Wld)(k:Nat)(F:Fm)(ifs:List Expr)(t:TT):Prop:=
 ∀(A:Around) (env:Env) (s:Shared) (V:Sto) (O:Mp) (st:List AV) (Q:Bool->Sto->Prop),N3 k A->Rep W V O s->FrR W F env st s.heap O->t st Q V->
  wpAny W.M A (forIn ifs true λ c r=>if r=true then do let ok <- isTrue c env (eval c env);pure (ForInStep.yield ok)else pure (ForInStep.yield r)) (dI W [] O s.heap Q) NoE s
theorem dP.run{ifs:List Expr}{t:TT}(E:dP W k F ifs t){Q:Bool->Sto->Prop}:N3 k A->Rep W V O s->FrR W F env st s.heap O->t st Q V->
  wpAny W.M A (forIn ifs true λ c r=>if r=true then do let ok <- isTrue c env (eval c env);pure (ForInStep.yield ok)else pure (ForInStep.yield r)) (dI W [] O s.heap Q) NoE s:=
 E A env s V O st Q
def F0:TT:=λ st Q V=>Q true V
theorem dQ:dP W k F [] F0:=by
 intro A env s V O st Q ro R f h
 exact wpAny_tests_nil ⟨_,_,h,R,E8.rfl'⟩
theorem pI{c:Expr}{t:TT}(h:bg W k F c t):dP W k F [c] t:=by
 intro A env s V O st Q ro R f hp
 exact wpAny_tests_one (h.run ro R f hp)
def cp(src:Sto->Prop)(t:TT)(e:PT)(i j:Nat)(Q:Sto->Prop):List AV->List AV->Sto->Prop
 | [],st,V=>src V/\Q V
 | x::rem,st,V=>src V/\t (st.set i x) (λ b ON=>match b with
  | true=>e (st.set i x) (λ y OS=>inO (lst OS j) λ l=>l.length<lim/\cp src t e i j Q rem st (OS.set j (.list (l++[y])))) ON
  | false=>cp src t e i j Q rem st ON) V
def N5(it:IT)(t:TT)(e:PT)(i:Nat):PT:=λ st Q V=>it st (λ src rem ON=>cp src t e i ON.length (λ OS=>Q (.ref ON.length) OS) rem st (ON++[.list []])) V
theorem lH{X:List Addr}{OT:Mp}{a:Addr}(S:E8 W X O h OT h')(ha:h'.get? a=none):h.get? a=none:=by
 cases e:h.get? a with
 | none=>rfl
 | some o=>obtain⟨o',e'⟩:=S.live _ _ e;rw[ha]at e';cases e'
theorem cp.src{src:Sto->Prop}{t:TT}{e:PT}{Q:Sto->Prop}{rem:List AV}(h:cp src t e i j Q rem st V):src V:=by cases rem <;> exact h.1
structure CpX(W:Wld)(F cF:Fm)(env cenv:Env)(h:Heap)(Pa:Mp)(j D II:Nat)(x:Str)(i:Nat)(src:Sto->Prop)(G:List AV->Mp->Heap->Prop):Prop where
 Ge:Gen W II src G
 hI:h.get? II=none
 hn0:W.h0.get? II=none
 hIf:II∉frX env
 hIc:II∉frX cenv
 own:∀a,(a=cenv.locals\/(cenv.cells.lookup x=some a/\cF.scope.names.lookup x=some .cell))->h.get? a=none/\II≠a/\a∉frX env
 hD:Pa[j]?=some (D,D)
 hx:cF.slots.lookup x=some i
 hxk:cF.scope.names.lookup x=some .local\/cF.scope.names.lookup x=some .cell
inductive CpI(W:Wld)(F cF:Fm)(env cenv:Env)(O:Mp)(h:Heap)(Pa:Mp)(II i:Nat)(st:List AV)(C:List AV->Sto->Prop)(G:List AV->Mp->Heap->Prop)(n:Nat)(s':Shared):Prop
 | mk {OP OT y rem':_}:n=rem'.length->C rem' OP->Rep W OP OT s'->FrR W cF cenv (st.set i y) s'.heap OT->FrR W F env st s'.heap OT->E8 W [] O h OT s'.heap->(∃ψ,OT=Pa++ψ)->II∉OT.map (·.2)->G rem' OT s'.heap->CpI W F cF env cenv O h Pa II i st C G n s'
theorem sD{cF:Fm}{cenv:Env}{Pa:Mp}{D II:Nat}{x:Str}{px:Pos}{elt iter:Expr}{ifs:List Expr}{scope:Scope}{pos:Pos}{src:Sto->Prop}{t:TT}{e:PT}{Q:Sto->Prop}{G:List AV->Mp->Heap->Prop}
  (X:CpX W F cF env cenv h Pa j D II x i src G)(ro:N3 k A)(ht:dP W k cF ifs t)(he:J0 W k cF elt e){P:Result->Shared->Prop}
  (fin:∀OP OT y s',Q OP->Rep W OP OT s'->FrR W cF cenv (st.set i y) s'.heap OT->FrR W F env st s'.heap OT->E8 W [] O h OT s'.heap->OT[j]?=some (D,D)->P (.ok .next) s')
  (h0:CpI W F cF env cenv O h Pa II i st (λ rem V=>cp src t e i j Q rem st V) G n s):codeAny W.M A (.compLoop (.ListComp elt [⟨.Name x px,iter,ifs,0⟩] scope pos) 0 (.ref II) (.ref D) cenv) P s:=by
 refine codeAny_compLoop_tests (CpI W F cF env cenv O h Pa II i st (λ rem V=>cp src t e i j Q rem st V) G) (λ n PO hI'=>?_) n h0
 clear h0
 induction hI' with
 | @mk PA Px y QP hn hw PH QD Qb PJ Qx Qo Qp=>
 subst hn
 refine Fy (X.Ge.next ro.handled PH hw.src Qp (P:=λ r OQ=>_) λ h' tk he'=>?_) (λ Y Y x=>x) λ Y Y x=>x.elim
 obtain⟨PZ,Qa⟩:=PH.gone (t:=tk) he' Qo X.hn0 (X.Ge.live Qp)
 have Qq:=QD.gone he' Qa X.hIc
 have QQ:=Qb.gone he' Qa X.hIf
 have PQ:E8 W [] O h Px h':=PJ.ext he' X.hI
 have Qr:Px[j]?=some (D,D):=by refine xE Qx λ ψ PX=>?_;clear Qx;rw[PX];exact(Fs (B3 X.hD)).trans X.hD
 clear QD Qb PJ PH Qa he' Qp
 cases QP with
 | nil=>exact fin PA Px _ _ hw.2 PZ Qq QQ PQ Qr
 | cons z rest=>
  intro v vr halI QX
  replace hw:=hw.2
  refine xE halI λ oh hoh=>?_;clear halI
  show wpAny W.M A (do standAt px;bindName cenv x v) _ _ _
  refine Fy (nt (GH (nU (s:={ PO with heap:=h',toks:=tk }) PZ Qq vr X.hx X.hxk (P:=λ Y OQ=>_) λ Rq a ha Qy Qg Qz QY=>?_))) (λ Y Y x=>x) λ Y Y x=>x.elim
  rw[Jc]at Qg
  obtain⟨QE,hIa,haf⟩:=X.own a (ha.imp And.left id)
  have QZ:=QQ.step Qz QY (λ q=>haf (Fh.mp q▸.head _)) (λ p hp q=>haf (Fh.mp q▸.tail _ (Gk (f:=(·.2)) hp)))
  have QF:E8 W [] O h Px Rq.heap:=((wk PQ).trans Qz).forget λ b hb=>.inr (Fh.mp hb▸QE)
  replace hIa:II∉[a]:=λ q=>hIa (Fh.mp q)
  clear ha QE haf Qq QQ PQ PZ vr QY
  refine Fy (ht.run ro Qy Qg hw) (λ b Rr hp=>?_) λ Y Y x=>x.elim
  obtain⟨RB,Ra,q,QR,Qc⟩:=hp
  have Sb:E8 W [a] Px h' Ra Rr.heap:=Qz.trans (wk Qc)
  have Qs:=Qg.step0 Qc (Qy.sub0 Qc)
  have Rb:=QZ.step0 Qc (Qy.sub0 Qc)
  have QG:=QF.trans Qc
  clear Qg QZ QF Qy Qz Qc
  have more:∀{OP OT s'},cp src t e i j Q rest st OP->Rep W OP OT s'->FrR W cF cenv (st.set i z) s'.heap OT->FrR W F env st s'.heap OT->E8 W [] O h OT s'.heap->E8 W [a] Px h' OT s'.heap->
    ∃m,m<(z::rest).length/\CpI W F cF env cenv O h Pa II i st (λ rem V=>cp src t e i j Q rem st V) G m s':=λ q R fc f S S'=>
   ⟨rest.length,FY _,.mk rfl q R fc f S (by
    refine xE Qx λ ψ PX=>?_;clear Qx
    refine xE S'.grow λ χ Z=>(λ Rm J=>?_) Z.1 Z.2;clear Z
    exact⟨ψ++χ,by rw[Rm,PX,Fz]⟩) (gg S' hoh Qo) (X.Ge.stable QX (S'.gen hoh X.hn0 Qo hIa) (let ⟨ψ,e,_⟩:=S'.grow;⟨ψ,e⟩))⟩
  induction b with
  | false=>exact more q QR Qs Rb QG Sb
  | true=>
   refine Fy (he.run ro QR Qs q) (λ RK RL hp=>?_) λ Y Y x=>x.elim
   obtain⟨RC,Rc,w,q,Rt,vw,Qk⟩:=hp
   have Rf:=QR.sub0 Qk
   obtain⟨l,hl,hz,q⟩:=U7 q
   have Rg:Rc[j]?=some (D,D):=by
    refine xE ((Sb.trans (wk Qk)).grow) λ ψ Z=>(λ PX J=>?_) Z.1 Z.2;clear Z
    rw[PX];exact(Fs (B3 Qr)).trans Qr
   refine Fy (lF (P:=λ Y OQ=>_) Rt (.ref Rg) vw hl hz λ Rj QA PL Qh=>?_) (λ Y Y x=>x) λ Y Y x=>x.elim
   exact more q QA ((Qs.step0 Qk Rf).step0 PL Qh) ((Rb.step0 Qk Rf).step0 PL Qh) ((QG.trans Qk).trans PL) (Sb.trans (wk (Qk.trans PL)))
theorem xj{elt iter:Expr}{x:Str}{px:Pos}{ifs:List Expr}{scope:Scope}{pos:Pos}{t:TT}{e:PT}(I:CmI F scope x i)(ht:dP W k (cFm F scope x i) ifs t)(he:J0 W k (cFm F scope x i) elt e)
  {Pa:Mp}{Q:Sto->Prop}{use:Option (Value->Sem Unit)}{P:Value->Shared->Prop}{cl:List (Str×Addr)}{Pj:Shared}{OZ:Sto}{D II:Nat}{src:Sto->Prop}{G:List AV->Mp->Heap->Prop}{rem:List AV}(ro:N3 k A)
  (h2:∀p∈cl,(p.1,NameKind.free)∈scope.names/\env.cells.lookup p.1=some p.2)(h3:∀n,(n,NameKind.free)∈scope.names->∃c,(n,c)∈cl)
  (Pf:Rep W OZ Pa Pj)(Py:FrR W F env st Pj.heap Pa)(PY:E8 W [] O h Pa Pj.heap)(Ge:Gen W II src G)(QH:G rem Pa Pj.heap)(hI:h.get? II=none)(hn0:W.h0.get? II=none)(hIf:II∉frX env)(Rh:II∉Pa.map (·.2))(hD:Pa[j]?=some (D,D))(q:cp src t e i j Q rem st OZ)
  (go:∀s' (cenv:Env) OP OT v,Q OP->VR W.h0 s'.heap OT v (.ref j)->Rep W OP OT s'->FrR W F env st s'.heap OT->E8 W [] O h OT s'.heap->h.get? cenv.locals=none->(∃m,s'.heap.Ns cenv.locals m)->
   cenv.locals∉OT.map (·.2)->W.h0.get? cenv.locals=none->compPost W.M A NoE use P v cenv.locals (.ok .next) s'):
  wpAny W.M A (newFunctionEnv scope env.globals cl [] env.qual none .none (some env)) (λ cenv PE=>
    codeAny W.M A (.compStart (.ListComp elt [⟨.Name x px,iter,ifs,0⟩] scope pos) 0 (.ref II) (.ref D) { cenv with scope:=relabel scope env }) (compPost W.M A NoE use P (.ref D) cenv.locals) PE) NoE Pj:=by
 refine iN ?_
 obtain⟨g1,g2,hk⟩:=pH I Pf Py h2 h3 { newEnv scope Pj.heap.objs.size env.globals (cellsFrom (Pj.heap.objs.size+1) scope.names cl) env.qual none .none (some env) builtinsNs with scope:=relabel scope env } rfl rfl rfl rfl rfl
 refine xE (Ge.live QH) λ RD Z=>(λ PR J=>?_) Z.1 Z.2;clear Z
 have hIc:II∉frX { newEnv scope Pj.heap.objs.size env.globals (cellsFrom (Pj.heap.objs.size+1) scope.names cl) env.qual none .none (some env) builtinsNs with scope:=relabel scope env }:=λ hm=>by
  have hz:=IF PR
  rcases Fv.mp hm with rfl|hm
  ·exact Iy _ hz
  ·refine xE (FN.mp hm) λ p Z=>(λ hp J=>?_) Z.1 Z.2;rcases J with rfl;clear Z
   rcases lG scope.names (Pj.heap.push { cls:=.type "dict",data:=.dict #[] }) cl p (by rw[HX];exact hp)with q|⟨_,q,_⟩
   ·exact hIf (.tail _ (Gk (f:=(·.2)) (mem_of_lookup (h2 p q).2)))
   ·rw[HX]at q
    exact absurd hz (Ir.mpr (GL q))
 have hxk:(cFm F scope x i).scope.names.lookup x=some .local\/(cFm F scope x i).scope.names.lookup x=some .cell:=by
  show(i9 scope F.scope).names.lookup x=_\/(i9 scope F.scope).names.lookup x=_
  rw[cn]
  rcases I.xk with h|h <;> rw[h]
  ·exact .inl rfl
  ·exact .inr rfl
 have X:CpX W F (cFm F scope x i) env _ h Pa j D II x i src G:=⟨Ge,hI,hn0,hIf,hIc,λ a ha=>
   have Qt:=g2.own a ha
   ⟨lH PY Qt,λ e=>G9 (Qt.symm.trans (e▸PR)),λ hm=>let ⟨o,ho⟩:=Py.alive a hm;G9 (Qt.symm.trans ho)⟩,hD,Ik,hxk⟩
 have QI:=Ge.stable (OT:=Pa) QH ((hk _ _ PR).trans PR.symm) ⟨[],(FL _).symm⟩
 have PC:E8 W [] Pa Pj.heap Pa _:=Q7 hk
 have loop:=sD (elt:=elt) (iter:=iter) (px:=px) (scope:=scope) (pos:=pos) (Q:=Q) (P:=compPost W.M A NoE use P (.ref D) Pj.heap.objs.size) X ro ht he (λ OP OT y s' q R' fc f S hD'=>by
  refine xE fc.ns λ m Z=>xE Z λ o J=>(λ hm θ=>?_) J.1 J.2;clear Z J
  exact go s' _ OP OT _ q (.ref hD') R' f S (lH PY g2.newC) ⟨m,hm⟩ fc.apart fc.newL)
  (.mk rfl q (Pf.grow (t:=Pj.toks) hk).1 g1 (Py.step0 PC (Pf.sub0 PC)) (PY.trans PC) ⟨[],(FL _).symm⟩ Rh QI)
 exact LZ loop (Fy (Ge.self (A:=A) QI (P:=λ v OQ=>codeAny W.M A (.compLoop (.ListComp elt [⟨.Name x px,iter,ifs,0⟩] scope pos) 0 v (.ref D) _) (compPost W.M A NoE use P (.ref D) Pj.heap.objs.size) OQ) loop) (λ Y Y x=>x) λ Y Y x=>x.elim)
theorem lI{elt iter:Expr}{x:Str}{px p0:Pos}{ifs:List Expr}{scope:Scope}{pos:Pos}{it:IT}{t:TT}{e:PT}(hc:cOk F scope x i=true)
  (hi:mA W k F iter it)(ht:dP W k (cFm F scope x i) ifs t)(he:J0 W k (cFm F scope x i) elt e)(hs:∀env x,foldedSetIterable iter env x=pure x)
  {use:Option (Value->Sem Unit)}{P:Value->Shared->Prop}(ro:N3 k A)(R:Rep W V O s)(f:FrR W F env st s.heap O)(h:N5 it t e i st Q V)
  (go:∀s' (cenv:Env) OP OT v j,Q (.ref j) OP->VR W.h0 s'.heap OT v (.ref j)->Rep W OP OT s'->FrR W F env st s'.heap OT->E8 W [] O s.heap OT s'.heap->s.heap.get? cenv.locals=none->(∃m,s'.heap.Ns cenv.locals m)->
   cenv.locals∉OT.map (·.2)->W.h0.get? cenv.locals=none->compPost W.M A NoE use P v cenv.locals (.ok .next) s'):
  wpAny W.M A (comprehension (.ListComp elt [⟨.Name x px,iter,ifs,0⟩] scope pos) scope env p0 (newList []) false (eval iter env) use) P NoE s:=by
 have I:=zR hc
 obtain⟨cl,h1,h2,h3⟩:=qB (scope:=scope) (env:=env) (λ n hn=>by
  refine xE (I.free _ hn rfl) λ j Z=>(λ hj hk=>?_) Z.1 Z.2;clear Z
  refine xE (f.cell n j hj hk) λ c Z=>(λ hc J=>?_) Z.1 Z.2;clear Z
  exact⟨c,hc⟩)
 refine Lq rfl (hs env) h1 I.kind (λ y hy e=>?_) (Fy (hi.run ro R f h) (λ v OQ hv=>Fy hv (λ u Pl hp=>?_) λ Y Y x=>x) λ Y Y x=>x)
 ·rw[<- e];exact W8 I.nnd hy
 obtain⟨II,src,rem,G,OS,Pc,rfl,q,OY,OX,hI,na,Ge,hG,hsrc⟩:=hp
 have Pf:=OY.newList (l:=[]) (n:=0) (vs:=[]) .nil
 have Pe:=nK (W:=W) (X:=[]) (O:=Pc) (h:=Pl.heap) { cls:=.type "list",data:=.seq ([]:List Value).toArray }
 refine xE (Ge.live hG) λ oI Z=>(λ hoI J=>?_) Z.1 Z.2;clear Z
 refine fQ (Gb _) (xj I ht he ro h2 h3 Pf ((f.step0 OX (R.sub0 OX)).step0 Pe (OY.sub0 Pe)) (OX.trans Pe) Ge (Ge.stable hG ((FH _ hoI).trans hoI.symm) ⟨_,rfl⟩) hI (R.not0 hI)
  (λ hm=>let ⟨o,ho⟩:=f.alive II hm;G9 (hI.symm.trans ho)) (gg Pe hoI na) (by rw[<- OY.len];exact Hx ..) q
  λ s' cenv OP OT v q vr R' f' S hC hm na h0=>go s' cenv OP OT v _ q vr R' f' S hC hm na h0)
theorem n8{C:Addr}{m:Str->Option Value}(R:Rep W V O s)(hn:s.heap.Ns C m)(hs:Heap.SameBut C s.heap h')(na:C∉O.map (·.2))(h0:W.h0.get? C=none):Rep W V O { s with heap:=h' }/\Sub s.heap O h' O:=by
 refine xE hn λ o Z=>xE Z λ es J=>xE J λ ep θ=>(λ ho hd r=>?_) θ.1 θ.2.1 θ.2.2;clear hn Z J θ
 refine R.other (t:=s.toks) hs na h0 (λ o' ho' e=>?_) λ vs n ht=>?_
 ·rw[ho]at ho';cases ho';rw[e]at hd;cases hd
 ·rw[show s.heap.get? C=_ from ht]at ho;cases ho;cases hd
theorem cN{elt iter:Expr}{x:Str}{px:Pos}{ifs:List Expr}{scope:Scope}{pos:Pos}{it:IT}{t:TT}{e:PT}(hc:cOk F scope x i=true)
  (hi:mA W k F iter it)(ht:dP W k (cFm F scope x i) ifs t)(he:J0 W k (cFm F scope x i) elt e)(hs:∀env x,foldedSetIterable iter env x=pure x):
  J0 W k F (.ListComp elt [⟨.Name x px,iter,ifs,0⟩] scope pos) (N5 it t e i):=by
 intro A env s V O st Q ro R f h
 rw[eval_ListComp]
 refine lI (use:=none) hc hi ht he hs ro R f h λ s' cenv OP OT v j q vr R' f' S hC hm na h0=>?_
 rcases hm with⟨m,hm⟩
 refine⟨m,hm,λ h' hs'=>?_⟩
 rcases n8 R' hm hs' na h0 with⟨R'',U⟩
 exact⟨OP,OT,_,q,R'',VR.mono U vr,S.ext hs'.extBut hC⟩
def G4(p:PT)(n:Nat):ST:=λ st Q V=>p st (λ x OP=>Q .next (st.set n x) OP) V
theorem qC{elt iter:Expr}{x y:Str}{px py:Pos}{ifs:List Expr}{scope:Scope}{pos spos:Pos}{it:IT}{t:TT}{e:PT}(hc:cOk F scope x i=true)
  (hi:mA W k F iter it)(ht:dP W k (cFm F scope x i) ifs t)(he:J0 W k (cFm F scope x i) elt e)(hs:∀env x,foldedSetIterable iter env x=pure x)
  (hsw:∀env:Env,env.scope=F.scope->swapsWith (.ListComp elt [⟨.Name x px,iter,ifs,0⟩] scope pos) (some (.Name y py)) spos.line env=pure true)(hy:dB F y n=true):
  O6 W k F (.Assign [.Name y py] (.ListComp elt [⟨.Name x px,iter,ifs,0⟩] scope pos) spos) (G4 (N5 it t e i) n):=by
 intro A env s V O st Q ro R f h
 rcases dM hy with⟨hy1,hy2⟩
 rw[exec_Assign_Name_used _ _ _ _ (hsw env f.scope)]
 refine nt (GH (nt ?_))
 show wpAny _ A (do let _ <- comprehension (.ListComp elt [⟨.Name x px,iter,ifs,0⟩] scope pos) scope env _ (newList []) false (eval iter env) (some (assign (.Name y py) env))) _ _ s
 refine nt (Fy (lI (use:=some (assign (.Name y py) env)) (P:=λ Y s'=>cD W F env (frX env) O s.heap Q .next s') (Q:=λ x OP=>Q .next (st.set n x) OP) hc hi ht he hs ro R f h λ s' cenv OP OT v j q vr R' f' S hC hm na h0=>?_)
  (λ Y s' hq=>Fp (Fp hq)) λ Y Y x=>x)
 rcases hm with⟨m,hm⟩
 show wpAny _ A (do standAt py;bindName env y v) _ _ s'
 refine nt (GH (eX R' f' vr hy1 hy2 λ Pl OY Ph OX Pg=>?_))
 have dead:∀b∈frX env,b≠cenv.locals:=λ b hb e'=>by
  rcases f.alive b hb with⟨o,ho⟩
  rw[e',hC]at ho;cases ho
 have hsame:Pl.heap.get? cenv.locals=s'.heap.get? cenv.locals:=by
  rcases id hm with⟨o,es,ep,ho,r⟩
  exact(OX.keep _ _ ho (.inr h0) na λ q=>dead _ q rfl).trans ho.symm
 have QJ:=gd hm hsame
 refine⟨m,QJ,λ h' hs'=>?_⟩
 rcases n8 OY QJ hs' na h0 with⟨Pf,Pw⟩
 have Py:=Ph.gone hs'.extBut Pw λ hm=>dead _ hm rfl
 exact⟨OP,OT,_,.next,q,Pf,.next,Py,((wk S).trans OX).ext hs'.extBut hC⟩
theorem H9.grown{t:Nat}(R:Rep W V O s)(hk:∀b o,s.heap.get? b=some o->h'.get? b=some o)(vr:VR W.h0 h' O v x)(q:Q x V):
  H9 W [] O s.heap Q v { s with heap:=h',toks:=t }:=
 ⟨V,O,x,q,(R.grow hk).1,vr,Q7 hk⟩
theorem H9.adopt{t:Nat}{a:Nat}(R:Rep W V O s)(hk:∀b o,s.heap.get? b=some o->h'.get? b=some o)(ha:s.heap.get? a=none)
  (hl:IsL h' a vs.toArray n)(hv:VRs W.h0 s.heap O vs l)(q:Q (.ref V.length) (V++[.list l])):H9 W [] O s.heap Q (.ref a) { s with heap:=h',toks:=t }:=by
 obtain⟨R',U⟩:=R.grow (t:=t) hk
 have R'':=Rep.adopt (s:={ s with heap:=h',toks:=t }) R' hl (VRs.mono U hv) (R.notM ha) (R.not0 ha)
 exact⟨_,_,_,q,R'',.ref (d:=a) (by rw[<- R.len];simp),⟨λ b o e Y Y Y=>hk b o e,⟨_,rfl,λ p hp=>by simp at hp;subst hp;exact ha⟩,λ b o e=>⟨o,hk b o e⟩⟩⟩
abbrev BT:=List AV->(AV->Sto->Prop)->Sto->Prop
def one(B:AV->(AV->Sto->Prop)->Sto->Prop):BT:=λ xs Q V=>match xs with
 | []=>False
 | x::r=>match r with
  | []=>B x Q V
  | _::_=>False
def two(B:AV->AV->(AV->Sto->Prop)->Sto->Prop):BT:=λ xs Q V=>match xs with
 | []=>False
 | x::r=>one (B x) r Q V
inductive One(h0 h:Heap)(O:Mp)(vs:List Value)(K:AV->Prop):Prop
 | mk (v x:_):vs=[v]->VR h0 h O v x->K x->One h0 h O vs K
inductive Two(h0 h:Heap)(O:Mp)(vs:List Value)(K:AV->AV->Prop):Prop
 | mk (v w x y:_):vs=[v,w]->VR h0 h O v x->VR h0 h O w y->K x y->Two h0 h O vs K
inductive InL(V:Sto)(x:AV)(K:Nat->List AV->Prop):Prop
 | mk (i l:_):x=.ref i->lst V i=some l->K i l->InL V x K
theorem bI{B:AV->(AV->Sto->Prop)->Sto->Prop}{xs:List AV}(vr:VRs W.h0 h O vs xs)(g:one B xs Q V):One W.h0 h O vs λ x=>B x Q V:=by
 cases xs with
 | nil=>exact g.elim
 | cons x r=>
  cases r with
  | nil=>
   obtain⟨v,r,rfl,a,b⟩:=vr.cons_inv
   obtain rfl:=b.nil_inv
   exact⟨v,x,rfl,a,g⟩
  | cons _ _=>exact g.elim
theorem mC{B:AV->AV->(AV->Sto->Prop)->Sto->Prop}{xs:List AV}(vr:VRs W.h0 h O vs xs)(g:two B xs Q V):Two W.h0 h O vs λ x y=>B x y Q V:=by
 cases xs with
 | nil=>exact g.elim
 | cons x r=>
  obtain⟨v,vs,rfl,a,b⟩:=vr.cons_inv
  obtain⟨w,y,rfl,c,d⟩:=bI b g
  exact⟨v,w,x,y,rfl,a,c,d⟩
def inL(V:Sto)(x:AV)(K:Nat->List AV->Prop):Prop:=inR x λ i=>inO (lst V i) λ l=>K i l
theorem mD{K:Nat->List AV->Prop}(h:inL V x K):InL V x K:=by
 obtain⟨i,rfl,h⟩:=aj h
 obtain⟨l,e,h⟩:=U7 h
 exact⟨i,l,rfl,e,h⟩
theorem fb{β:Type}{us:List α}{l:List β}(e:us.length=l.length)(h:l.length<=lim):(us.toArray.size:Int)<2 ^ 63:=GP.mpr (Fe (show us.length<=lim from e▸h) (show lim<2 ^ 63 by decide))
theorem bJ{β:Type}{us:List α}{l:List β}(e:us.length=l.length)(h:l.length<=lim):us.toArray.size<=sizeLine:=fp (show us.length<=lim from e▸h) O5
def tZ(n:Nat)(Q:AV->Sto->Prop)(V:Sto):Prop:=n<=lim/\Q (.int n) V
def aY:BT:=one λ x Q V=>match x with
 | .str s=>tZ s.length Q V
 | .tup l=>tZ l.length Q V
 | .clist l=>tZ l.length Q V
 | .ref i=>inO (lst V i) λ l=>tZ l.length Q V
 | _=>False
theorem jg{β:Type}{us:List α}{l:List β}{t u:Nat}(R:Rep W V O s)(e:us.length=l.length)(h:tZ l.length Q V):H9 W [] O s.heap Q (.int (us.toArray.size:Nat) u) { s with toks:=t }:=
 .now R (x:=.int (l.length:Nat)) (by rw[HM,e];exact .int _ _) h.2
theorem Q8:bG W k (.builtin "len") aY:=by
 intro A s V O vs xs Q ro R vr h
 obtain⟨v,x,rfl,vx,h⟩:=bI vr h
 cases x with
 | str l=>
  obtain⟨t,rfl⟩:=vx.str_inv
  exact P.len_str (JK.mpr (fb (us:=l) rfl h.1)) (jg R rfl h)
 | tup l=>
  obtain⟨a,n,us,rfl,ht,hv⟩:=vx.tup_inv
  exact P.len_tuple ht (JK.mpr (fb hv.length h.1)) (jg R hv.length h)
 | clist l=>
  obtain⟨a,us,rfl,⟨o,ho,hc,hd⟩,hi⟩:=vx.clist_inv
  exact call_len_list ⟨o,R.old.get_of_cls ho (by rw[hc];intro e;cases e),hc,hd⟩ (fb hi.length h.1) (jg R hi.length h)
 | ref i=>
  obtain⟨l,e,h⟩:=U7 h
  obtain⟨a,n,us,rfl,hp,hl,hv⟩:=vx.ref_list R e
  exact call_len_list hl.isList (fb hv.length h.1) (jg R hv.length h)
 | _=>exact h.elim
theorem VRs.ints{h0:Heap}{ns:List Int}(r:VRs h0 h O vs (ns.map .int)):IntsAre vs ns:=by
 induction ns generalizing vs with
 | nil=>obtain rfl:=r.nil_inv;exact .nil
 | cons n ns ih=>
  obtain⟨v,vs,rfl,a,b⟩:=r.cons_inv
  obtain⟨t,rfl⟩:=a.int_inv
  exact .cons n t (ih b)
theorem jN{h0:Heap}{ns:List Int}(r:IntsAre vs ns):VRs h0 h O vs (ns.map .int):=by
 induction r with
 | nil=>exact .nil
 | cons n t _ ih=>exact .cons (.int n t) ih
theorem mE{ns:List Int}(hi:IntsAre vs ns):∃xs:Array (Int×Tok),vs.toArray=intItems xs/\ns=xs.toList.map (·.1):=by
 obtain⟨xs,hx⟩:=hi.allInts.items
 exact⟨xs,hx,by rw[<- nums_intItems xs,<- hx];exact hi.numsOf.symm⟩
theorem qD{xs:Array (Int×Tok)}{C:Int->Prop}(h0:0<xs.size)(h1:k<=xs.size-1)(h2:∀j,j<=xs.size-1->C (numAt xs j)):numAt xs k∈xs.toList.map (·.1)/\∀a∈xs.toList.map (·.1),C a:=by
 have hl:(xs.toList.map (·.1)).length=xs.size:=by rw[Fd,Ic]
 refine⟨numAt_eq ..▸getD_mem (by rw[hl];exact Nat.lt_of_le_pred h0 h1),λ a ha=>?_⟩
 obtain⟨j,hj,rfl⟩:=mem_getD ha
 rw[hl]at hj
 exact numAt_eq ..▸h2 j (Nat.le_pred_of_lt hj)
theorem gq{xs:Array (Int×Tok)}(h:xs.toList.map (·.1)≠[]):0<xs.size:=Hr λ e=>h (by rw[Array.eq_empty_of_size_eq_zero e];rfl)
theorem t4{prog:Program}{w:World}{E:Value->Shared->Prop}{l:Addr}{ns:List Int}{Q:Value->Shared->Prop}(hh:A.handled=none)(hl:s.heap.IsList l vs.toArray)(hi:IntsAre vs ns)(hne:ns≠[])
  (h:∀h' M (t:Tok) tk,(∀b o,s.heap.get? b=some o->h'.get? b=some o)->M∈ns->(∀a∈ns,a<=M)->Q (.int M t) { s with heap:=h',toks:=tk }):wpAny (model prog w) A (call (.builtin "max") [.ref l]) Q E s:=by
 obtain⟨xs,hx,rfl⟩:=mE hi
 rw[hx]at hl
 refine max_intList hh hl (gq hne) λ v h' tk hv hk=>?_
 obtain⟨t,rfl⟩:=intItems_at hv
 obtain⟨h1,h2⟩:=argBest_gt (numAt xs) (xs.size-1)
 obtain⟨h3,h4⟩:=qD (C:=(·<=_)) (gq hne) h1 h2
 exact h h' _ t tk hk h3 h4
theorem t7{prog:Program}{w:World}{E:Value->Shared->Prop}{l:Addr}{ns:List Int}{Q:Value->Shared->Prop}(hh:A.handled=none)(hl:s.heap.IsList l vs.toArray)(hi:IntsAre vs ns)(hne:ns≠[])
  (h:∀h' M (t:Tok) tk,(∀b o,s.heap.get? b=some o->h'.get? b=some o)->M∈ns->(∀a∈ns,M<=a)->Q (.int M t) { s with heap:=h',toks:=tk }):wpAny (model prog w) A (call (.builtin "min") [.ref l]) Q E s:=by
 refine xE (mE hi) λ xs Z=>(λ hx J=>?_) Z.1 Z.2;rcases J with rfl;clear Z
 rw[hx]at hl
 refine min_intList hh hl (gq hne) λ v h' tk hv hk=>?_
 refine xE (intItems_at hv) λ t Z=>?_;rcases Z with rfl
 obtain⟨h1,h2⟩:=argBest_lt (numAt xs) (xs.size-1)
 obtain⟨h3,h4⟩:=qD (C:=(_<=·)) (gq hne) h1 h2
 exact h h' _ t tk hk h3 h4
theorem t8{prog:Program}{w:World}{E:Value->Shared->Prop}{l:Addr}{ns:List Int}{Q:Value->Shared->Prop}(hh:A.handled=none)(hl:s.heap.IsList l vs.toArray)(hi:IntsAre vs ns)
  (h:∀h' (t:Tok) tk,(∀b o,s.heap.get? b=some o->h'.get? b=some o)->Q (.int ns.sum t) { s with heap:=h',toks:=tk }):wpAny (model prog w) A (call (.builtin "sum") [.ref l]) Q E s:=by
 refine xE (mE hi) λ xs Z=>(λ hx J=>?_) Z.1 Z.2;rcases J with rfl;clear Z
 rw[hx]at hl
 refine sum_intListG hh hl λ h' tk t' hk=>?_
 rw[preSum_eq,Hg (by rw[Fd];exact Fn _)];exact h h' t' tk hk
def zd(C:Int->Int->Prop)(V:Sto)(i:Nat)(Q:AV->Sto->Prop):Prop:=∃ns:List Int,lst V i=some (ns.map .int)/\ns≠[]/\∀M,M∈ns->(∀a∈ns,C a M)->Q (.int M) V
def gu:BT:=λ xs Q V=>match xs with
 | []=>False
 | x::r=>match r with
  | []=>inR x λ i=>zd (·<=·) V i Q
  | y::r=>match r with
   | []=>inI x λ a=>inI y λ b=>Q (.int (if b > a then b else a)) V
   | _::_=>False
theorem c8:bG W k (.builtin "max") gu:=by
 intro A s V O vs xs Q ro R vr h
 cases(xs)with
 | nil=>exact h.elim
 | cons x r=>
  obtain⟨v,vs,rfl,vx,r1⟩:=vr.cons_inv
  clear vr
  cases(r)with
  | nil=>
   obtain rfl:=r1.nil_inv
   obtain⟨i,rfl,ns,e,hne,q⟩:=aj h
   obtain⟨a,n,us,rfl,hp,hl,hv⟩:=vx.ref_list R e
   exact t4 ro.handled hl.isList hv.ints hne λ h' M t tk hk h1 h2=>.grown R hk (.int M t) (q M h1 h2)
  | cons y r=>
   obtain⟨w,vs,rfl,vy,r2⟩:=r1.cons_inv
   clear r1
   cases(r)with
   | cons _ _=>exact h.elim
   | nil=>
    obtain rfl:=r2.nil_inv
    obtain⟨a,rfl,g⟩:=W7 h
    obtain⟨b,rfl,q⟩:=W7 g
    clear h g
    obtain⟨t,rfl⟩:=vx.int_inv
    obtain⟨u,rfl⟩:=vy.int_inv
    refine max_two_ints ro.handled λ h' tk hk=>?_
    by_cases hc:b > a
    ·rw[if_pos hc]at q ⊢;exact .grown R hk (.int _ _) q
    ·rw[if_neg hc]at q ⊢;exact .grown R hk (.int _ _) q
def xm:BT:=one λ x Q V=>inR x λ i=>zd (λ a M=>M<=a) V i Q
theorem qE:bG W k (.builtin "min") xm:=by
 intro A s V O vs xs Q ro R vr h
 obtain⟨v,x,rfl,vx,h⟩:=bI vr h
 obtain⟨i,rfl,ns,e,hne,q⟩:=aj h
 obtain⟨a,n,us,rfl,hp,hl,hv⟩:=vx.ref_list R e
 exact t7 ro.handled hl.isList hv.ints hne λ h' M t tk hk h1 h2=>.grown R hk (.int M t) (q M h1 h2)
def BD:BT:=one λ x Q V=>inR x λ i=>∃ns:List Int,lst V i=some (ns.map .int)/\Q (.int ns.sum) V
theorem xn:bG W k (.builtin "sum") BD:=by
 intro A s V O vs xs Q ro R vr h
 obtain⟨v,x,rfl,vx,h⟩:=bI vr h
 obtain⟨i,rfl,ns,e,q⟩:=aj h
 obtain⟨a,n,us,rfl,hp,hl,hv⟩:=vx.ref_list R e
 exact t8 ro.handled hl.isList hv.ints λ h' t tk hk=>.grown R hk (.int _ t) q
def n9:BT:=one λ x Q V=>match x with
 | .ref i=>inO (lst V i) λ l=>l.length<=lim/\Q (.ref V.length) (V++[.list l])
 | .tup l=>l.length<=lim/\Q (.ref V.length) (V++[.list l])
 | _=>False
theorem oe:bG W k (.type "list") n9:=by
 intro A s V O vs xs Q ro R vr h
 obtain⟨v,x,rfl,vx,h⟩:=bI vr h
 cases x with
 | ref i=>
  obtain⟨l,e,h⟩:=U7 h
  obtain⟨a,n,us,rfl,hp,hl,hv⟩:=vx.ref_list R e
  exact call_list_seq a (.inl rfl) hl rfl rfl (λ h' c' hk hL=>.adopt (t:=s.toks) R hk K9 hL hv h.2) (bJ hv.length h.1)
 | tup l=>
  obtain⟨a,n,us,rfl,ht,hv⟩:=vx.tup_inv
  exact call_list_seq a (.inr rfl) ht rfl rfl (λ h' c' hk hL=>.adopt (t:=s.toks) R hk K9 hL hv h.2) (bJ hv.length h.1)
 | _=>exact h.elim
def xo:BT:=one λ x Q V=>inL V x λ Y l=>l.length<=lim/\Q (.tup l) V
theorem xp:bG W k (.type "tuple") xo:=by
 intro A s V O vs xs Q ro R vr h
 obtain⟨v,x,rfl,vx,h⟩:=bI vr h
 obtain⟨i,l,rfl,e,g⟩:=mD h
 obtain⟨a,n,us,rfl,hp,hl,hv⟩:=vx.ref_list R e
 refine call_tuple_list hl.isList (λ h' hk=>?_) (bJ hv.length g.1)
 have hk':∀b o,s.heap.get? b=some o->(h'.push { cls:=.type "tuple",data:=.seq us.toArray }).get? b=some o:=λ b o e=>FH _ (hk b o e)
 obtain⟨R',U⟩:=R.grow (t:=s.toks) hk'
 exact⟨V,O,_,g.2,R',.tup (n:=0) (Gd _ rfl) (VRs.mono U hv),Q7 hk'⟩
section
open PySem.NumText
namespace Rd
theorem a:typeLookup (.type "str") "__int__" = pure none:=by rw[HC,GW];kernel_rfl
theorem b:typeLookup (.type "str") "__index__" = pure none:=by rw[HC,GW];kernel_rfl
theorem c:typeLookup (.type "str") "__trunc__" = pure none:=by rw[HC,GW];kernel_rfl
structure bK(x:Str)(n:Int):Prop where
 short:(numSeenOf x).length<=640
 num:(int_private% "readNumeral") 0 10 (numSeenOf x)=(int_private% "Numeral.value") n
 whole:((numSeenOf x).length==(numTextOf x).length)=true
theorem good{x:Str}{n:Int}(hl:x.length<=640)(hn:PySem.intText? x=some n):bK x n:=by
 have hs:(numSeenOf x).length<=640:=fp (seen_length x) hl
 rcases read0 x hs with⟨m,h1,h2,h3⟩|⟨h1,_⟩ <;> rw[hn]at h1 <;> cases h1
 exact⟨hs,h3,h2⟩
theorem Er{M:Model}{E:Value->Shared->Prop}{Q:Value->Shared->Prop}{x:Str}{n:Int}(g:bK x n)(h:Q (.int n s.toks) { s with toks:=s.toks+1 }):
  wpAny M A ((int_private% "intFromText") v (numTextOf x) 10) Q E s:=by
 have h1:((numTextOf x).takeWhile (· != 0)).length<=640:=g.short
 have h2:(int_private% "readNumeral") 0 10 ((numTextOf x).takeWhile (· != 0))=(int_private% "Numeral.value") n:=g.num
 have h3:(((numTextOf x).takeWhile (· != 0)).length==(numTextOf x).length)=true:=g.whole
 obtain⟨hp,g,d,tk,os⟩:=s
 repeat (any_goals (first|assumption|(with_reducible refine MG (decide_eq_true h1) ?_)|wp_step))
 all_goals (rw[h2];dsimp only)
 repeat (any_goals (first|assumption|(with_reducible refine MG h3 ?_)|(with_reducible refine MG (decide_eq_true h3) ?_)|wp_step))
theorem new{x:Str}{u:Tok}{n:Int}(g:bK x n):Gives (Builtin.«int.__new__» ⟨[.type "int",.str x u],[]⟩) (.int n):=
 .of_wp λ M A E s Q h=>by
  obtain⟨hp,gs,d,tk,os⟩:=s
  have f1:=PySem.F.conv_sub_int
  have f2:=PySem.F.madeHere_int
  have f3:=a
  have f4:=b
  have f5:=c
  have f6:typeOf (.str x u)=pure (.type "str"):=rfl
  repeat (any_goals (first
   | assumption
   | ((with_reducible show wpAny _ _ ((int_private% "intFromText") _ _ _) _ _ _);refine Er g ?_)
   | wp_step))
  all_goals first|exact⟨_,rfl,h⟩|skip
end Rd
theorem t9{x:Str}{t:Tok}{n:Int}{P:Value->Shared->Prop}(hl:x.length<=640)(hn:PySem.intText? x=some n)(h:P (.int n s.toks) { s with toks:=s.toks+1 }):wpAny W.M A (call (.type "int") [.str x t]) P NoE s:=
 call_int_1 (Rd.new (Rd.good hl hn)).meets (show(Made.int n).post _ s from⟨rfl,h⟩)
end
def O1(V:Sto)(x:AV):Prop:=inR x λ i=>(lst V i).isSome=true
theorem U0{name:Str}{id:String}(h:Slot "list" name id)(h2:typeOf (.builtin id)=pure (.type "method_descriptor")):su W name id O1:=by
 intro s V O v x R vx hk
 obtain⟨i,rfl,hk⟩:=aj hk
 obtain⟨l,hl⟩:=Jh.mp hk
 obtain⟨a,n,us,rfl,hp,hL,hv⟩:=vx.ref_list R hl
 exact⟨"list",PySem.F.plainAttrs_list,h,h2,⟨_,hL,rfl⟩,λ b e=>Value.ref.inj e▸⟨_,hL,rfl⟩⟩
def isStr(V:Sto)(x:AV):Prop:=inS x λ Y=>True
theorem ze{name:Str}{id:String}(h:Slot "str" name id)(h2:typeOf (.builtin id)=pure (.type "method_descriptor")):su W name id isStr:=by
 intro s V O v x R vx hk
 obtain⟨i,rfl,_⟩:=fM hk
 obtain⟨t,rfl⟩:=vx.str_inv
 exact⟨"str",PySem.F.plainAttrs_str,h,h2,typeIs_str _ _ _,λ b e=>by cases e⟩
def pJ(V:Sto)(x:AV):Prop:=inI x λ Y=>True
theorem BE{name:Str}{id:String}(h:Slot "int" name id)(h2:typeOf (.builtin id)=pure (.type "method_descriptor")):su W name id pJ:=by
 intro s V O v x R vx hk
 obtain⟨i,rfl,_⟩:=W7 hk
 obtain⟨t,rfl⟩:=vx.int_inv
 exact⟨"int",PySem.F.plainAttrs_int,h,h2,Ou _ _ _,λ b e=>by cases e⟩
def aG:BT:=two λ x y Q V=>inL V x λ i l=>l.length<lim/\Q .none (V.set i (.list (l++[y])))
theorem W5:bG W k (.builtin "list.append") aG:=by
 intro A s V O vs xs Q ro R vr h
 obtain⟨v,w,x,y,rfl,vx,vy,h⟩:=mC vr h
 obtain⟨i,l,rfl,e,g⟩:=mD h
 exact lF R vx vy e g.1 λ s' R' S U=>⟨_,O,_,g.2,R',.none,S⟩
theorem og{a:Nat}{l':List AV}{vs':List Value}{f:Array Value->Array Value}(R:Rep W V O s)(e:lst V i=some l)(hp:O[i]?=some (a,a))(hl:IsL s.heap a vs.toArray n)
  (hf:f vs.toArray=vs'.toArray)(hv:VRs W.h0 s.heap O vs' l'):Rep W (V.set i (.list l')) O { s with heap:=s.heap.update a (Obj.mapSeq f) }/\E8 W [] O s.heap O (s.heap.update a (Obj.mapSeq f))/\Sub s.heap O (s.heap.update a (Obj.mapSeq f)) O:=by
 have hL:=IsL.update hl f
 rw[hf]at hL
 exact R.upd (o':=.list l') (d:=s.drawn) (t:=s.toks) (FC.mp (F6 e)).1 hp (KP s.heap a _) λ U=>.list hL (VRs.mono U hv)
def mF:BT:=λ xs Q V=>match xs with
 | []=>False
 | x::r=>match r with
  | []=>inL V x λ i l=>l.length<=lim/\inO l.getLast? λ y=>Q y (V.set i (.list l.dropLast))
  | y::r=>match r with
   | []=>inI y λ k=>k=0/\inL V x λ i l=>l.length<=lim/\inO l.head? λ y=>Q y (V.set i (.list l.tail))
   | _::_=>False
theorem VRs.dropLast{h0:Heap}{xs:List AV}(r:VRs h0 h O vs xs):VRs h0 h O vs.dropLast xs.dropLast:=by
 rw[Mk,Mk,r.length]
 exact r.take _
theorem uc(R:Rep W V O s)(vx:VR W.h0 s.heap O v (.ref i))(e:lst V i=some l)(hz:l.length<=lim)(hx:l.getLast?=some x)
  (q:Q x (V.set i (.list l.dropLast))):wpAny W.M A (call (.builtin "list.pop") [v]) (H9 W [] O s.heap Q) NoE s:=by
 obtain⟨a,n,us,rfl,hp,hl,hv⟩:=vx.ref_list R e
 rw[List.getLast?_eq_getElem?,<- hv.length]at hx
 obtain⟨v,hv1,hv2⟩:=hv.get hx
 refine LY Il ⟨_,hl,rfl⟩ LU (PySem.F.args_list_pop_1 _) (PySem.MeetsSeq.list_pop_last a us.toArray n v (by rw[Hb];exact hv1) (bJ hv.length hz)) ⟨hl,?_⟩
 obtain⟨R',S,U⟩:=og (l':=l.dropLast) (vs':=us.dropLast) (f:=λ xs=>xs.eraseIdxIfInBounds (us.toArray.size-1)) R e hp hl (by
  have h1:us.length-1<us.length:=B3 hv1
  simp[Array.eraseIdxIfInBounds,h1,Nat.zero_lt_of_lt h1,List.eraseIdx_length_sub_one]) hv.dropLast
 exact⟨_,O,_,q,R',VR.mono U hv2,S⟩
theorem sE{t:Tok}(R:Rep W V O s)(vx:VR W.h0 s.heap O v (.ref i))(e:lst V i=some l)(hz:l.length<=lim)(hx:l.head?=some x)
  (q:Q x (V.set i (.list l.tail))):wpAny W.M A (call (.builtin "list.pop") [v,.int 0 t]) (H9 W [] O s.heap Q) NoE s:=by
 obtain⟨a,n,us,rfl,hp,hl,hv⟩:=vx.ref_list R e
 have hlen:=hv.length
 cases(l)with
 | nil=>exact G9 hx
 | cons y l=>
  obtain rfl:=Ft hx
  obtain⟨v,us,rfl,hv1,hv2⟩:=hv.cons_inv
  refine LY Il ⟨_,hl,rfl⟩ LU (PySem.F.args_list_pop_2 _ _) (PySem.MeetsSeq.list_pop_at a (v::us).toArray n 0 t 0 v (by decide) (by simp[seqIndex?]) rfl (bJ hlen hz)) ⟨hl,?_⟩
  obtain⟨R',S,U⟩:=og (l':=l) (vs':=us) (f:=λ xs=>xs.eraseIdxIfInBounds 0) R e hp hl (by simp[Array.eraseIdxIfInBounds]) hv2
  exact⟨_,O,_,q,R',VR.mono U hv1,S⟩
theorem jh:bG W k (.builtin "list.pop") mF:=by
 intro A s V O vs xs Q ro R vr h
 cases(xs)with
 | nil=>exact h.elim
 | cons x r=>
  obtain⟨v,vs,rfl,vx,r1⟩:=vr.cons_inv
  clear vr
  cases(r)with
  | nil=>
   obtain rfl:=r1.nil_inv
   obtain⟨i,l,rfl,e,hz,g⟩:=mD h
   obtain⟨x,hx,q⟩:=U7 g
   exact uc R vx e hz hx q
  | cons y r=>
   obtain⟨w,vs,rfl,vy,r2⟩:=r1.cons_inv
   clear r1
   cases(r)with
   | cons _ _=>exact h.elim
   | nil=>
    obtain rfl:=r2.nil_inv
    obtain⟨k,rfl,rfl,g⟩:=W7 h
    obtain⟨t,rfl⟩:=vy.int_inv
    obtain⟨i,l,rfl,e,hz,g⟩:=mD g
    obtain⟨x,hx,q⟩:=U7 g
    exact sE R vx e hz hx q
def xq:BT:=two λ x y Q V=>inR x λ i=>inI y λ k=>∃ns:List Int,lst V i=some (ns.map .int)/\k∈ns/\ns.length<=lim/\Q (.int (ns.idxOf k:Nat)) V
theorem qF:bG W k (.builtin "list.index") xq:=by
 intro A s V O vs xs Q ro R vr h
 obtain⟨v,w,x,y,rfl,vx,vy,h⟩:=mC vr h
 obtain⟨i,rfl,h⟩:=aj h
 obtain⟨c,rfl,ns,e,hk,hz,q⟩:=W7 h
 obtain⟨t,rfl⟩:=vy.int_inv
 obtain⟨a,n,us,rfl,hp,hl,hv⟩:=vx.ref_list R e
 have hi:=hv.ints
 have hlen:=hi.length
 have hj:ns.idxOf c<ns.length:=List.idxOf_lt_length_iff.mpr hk
 clear hv h e
 refine LY Kg ⟨_,hl,rfl⟩ PySem.F.entry_list_index (PySem.F.args_list_index_2 _ _)
  (PySem.SeqAt.list_indexAt a us.toArray n none #[] (.int c t) (isInt c) (ns.idxOf c) (show _<us.length from hlen▸hj) (GP.mpr (Fo hj (fp hz (by decide)))) ?_ ?_) ⟨hl,λ y hy=>(eq_isInt c t hi y (NA.mp hy)).at _ _,.now R (.int _ _) q⟩
 ·exact(isInt_at c hi _ (hlen▸hj) hj).trans (beq_iff_eq.mpr (List.getElem_idxOf hj))
 ·exact λ j hjs hlt=>(isInt_at c hi j hjs (FF hlt hj)).trans (ne_of_lt_idxOf hlt _)
def BF:BT:=one λ x Q V=>inI x λ i=>i.natAbs<lim/\Q (.str (Str.ofString (toString i)).cps.toList) V
theorem xt:bG W k (.type "str") BF:=by
 intro A s V O vs xs Q ro R vr h
 obtain⟨v,x,rfl,vx,h⟩:=bI vr h
 obtain⟨i,rfl,h1,q⟩:=W7 h
 obtain⟨t,rfl⟩:=vx.int_inv
 refine PySem.P.str_of_int ?_ (.now R (.str _ _) q)
 by_cases hz:i.natAbs=0
 ·rw[hz];decide
 ·exact FF ((Nat.log2_lt hz).mpr (FF h1 (by decide:1000000<2 ^ 20))) (by decide)
def BG:BT:=one λ x Q V=>inS x λ s=>s.length<=640/\inO (PySem.intText? ⟨s.toArray⟩) λ n=>Q (.int n) V
theorem xu:bG W k (.type "int") BG:=by
 intro A s V O vs xs Q ro R vr h
 obtain⟨v,x,rfl,vx,h⟩:=bI vr h
 obtain⟨i,rfl,hl,h⟩:=fM h
 obtain⟨n,hn,q⟩:=U7 h
 obtain⟨t,rfl⟩:=vx.str_inv
 exact t9 hl hn (.now R (.int _ _) q)
def blB:BT:=one λ x Q V=>inI x λ i=>Q (.int (Builtin.Int.intBits i)) V
theorem zT:bG W k (.builtin "int.bit_length") blB:=by
 intro A s V O vs xs Q ro R vr h
 obtain⟨v,x,rfl,vx,h⟩:=bI vr h
 obtain⟨i,rfl,q⟩:=W7 h
 obtain⟨t,rfl⟩:=vx.int_inv
 exact call_int_bit_length (.now R (.int _ _) q)
def zU:BT:=two λ x y Q V=>inS x λ a=>inS y λ b=>Q (.int (Txt.count ⟨a.toArray⟩ ⟨b.toArray⟩)) V
theorem xw:bG W k (.builtin "str.count") zU:=by
 intro A s V O vs xs Q ro R vr h
 obtain⟨v,w,x,y,rfl,vx,vy,h⟩:=mC vr h
 obtain⟨a,rfl,g⟩:=fM h
 obtain⟨b,rfl,q⟩:=fM g
 obtain⟨t,rfl⟩:=vx.str_inv
 obtain⟨u,rfl⟩:=vy.str_inv
 exact SC.count (.now R (.int _ _) q)
theorem VRs.strs{h0:Heap}{ss:List (List Nat)}(r:VRs h0 h O vs (ss.map .str)):∃l:List (Str×Tok),vs=strValues l/\l.map (·.1)=ss.map λ s=>⟨s.toArray⟩:=by
 induction ss generalizing vs with
 | nil=>obtain rfl:=r.nil_inv;exact⟨[],rfl,rfl⟩
 | cons s ss ih=>
  obtain⟨v,vs,rfl,a,b⟩:=r.cons_inv
  obtain⟨t,rfl⟩:=a.str_inv
  obtain⟨l,rfl,e⟩:=ih b
  exact⟨(⟨s.toArray⟩,t)::l,rfl,congrArg (_ :: ·) e⟩
def ud:BT:=two λ x y Q V=>inS x λ x=>inR y λ i=>∃ss:List (List Nat),lst V i=some (ss.map .str)/\JoinOk ⟨x.toArray⟩ (ss.map λ s=>⟨s.toArray⟩)=true/\Q (.str (Txt.join ⟨x.toArray⟩ (ss.map λ s=>⟨s.toArray⟩)).cps.toList) V
theorem ue:bG W k (.builtin "str.join") ud:=by
 intro A s V O vs xs Q ro R vr h
 obtain⟨v,w,x,y,rfl,vx,vy,h⟩:=mC vr h
 obtain⟨x,rfl,h⟩:=fM h
 obtain⟨i,rfl,ss,e,hok,q⟩:=aj h
 refine xE vx.str_inv λ t Z=>?_;rcases Z with rfl
 obtain⟨a,n,us,rfl,hp,hl,hv⟩:=vy.ref_list R e
 refine xE hv.strs λ l Z=>(λ J hl2=>?_) Z.1 Z.2;rcases J with rfl;clear Z
 exact SC.join hl.isList hl2 hok λ t' k'=>.now R (.str _ _) q
def L5(a b:PT):PT:=λ st Q V=>a st (λ x ON=>b st (λ y OS=>inR x λ i=>inI y λ n=>∃z,lst OS i=some [z]/\n<1000000/\-1000000<n/\Q (.ref OS.length) (OS++[.list (List.replicate n.toNat z)])) ON) V
theorem lJ(v:Value):∀(n:Nat) (acc:Array Value),List.foldl (λ x1 x2=>x1++x2) acc (List.replicate n #[v])=acc++(List.replicate n v).toArray
 | 0,acc=>by simp
 | n+1,acc=>by
  rw[MN,HO,lJ v n,MN]
  apply Array.ext'
  simp
theorem VRs.rep{h0:Heap}(r:VR h0 h O v x):∀n,VRs h0 h O (List.replicate n v) (List.replicate n x)
 | 0=>.nil
 | n+1=>.cons r (VRs.rep r n)
theorem BH{l r:Expr}{pos:Pos}{a b:PT}(hl:J0 W k F l a)(hr:J0 W k F r b):J0 W k F (.BinOp l .Mult r pos) (L5 a b):=by
 intro A env s V O st Q ro R f hp
 refine wpAny_BinOp (hl.then ro R f hp λ v OQ ON OV x q OR OW vx OU Pb=>?_)
 refine hr.then ro OR OW q λ v' Pl OS Pc y q OY Ph vy OX Pg=>?_
 obtain⟨i,rfl,g⟩:=aj q
 obtain⟨n,rfl,z,e,h1,h2,q⟩:=W7 g
 obtain⟨t,rfl⟩:=vy.int_inv
 obtain⟨c,m,us,rfl,hp,hL,hv⟩:=(VR.mono Pg vx).ref_list OY e
 obtain⟨u,us,rfl,v1,r1⟩:=hv.cons_inv
 obtain rfl:=r1.nil_inv
 refine wpAny_binaryOp_repeat_ref (T:="list") (U:="int") (by decide) ⟨_,hL,rfl⟩ (λ s'=>Ou s' n t) noFill_list_mul PySem.F.fills_int_mul Mo repeat_list PySem.F.slot_int_index.lookup
  (LY Mo (Ou Pl n t) PySem.F.entry_int_rmul (PySem.F.args_int_rmul_2 _ _) (int___rmul___int_list n t c [u].toArray m)
   ⟨hL,rfl,⟨_,hL,rfl⟩,LY PySem.F.slot_list_mul ⟨_,hL,rfl⟩ PySem.F.entry_list_mul (PySem.F.args_list_mul_2 _ _)
    (AutoListH.list___mul___list_int_3 c [u].toArray m n t (by simp[Builtin.List.listFitsIndex];exact⟨FI (by decide) (FT h2),Iv h1 (by decide)⟩) (by simp;exact FI (FT h1) (by decide)) (by simp[Builtin.List.listTooLong,sizeLine];exact FI (FT h1) (by decide))) ⟨hL,?_⟩⟩)
 have:=H9.newList (X:=[]) (n:=0) OY (VRs.rep v1 n.toNat) q
 rw[if_neg (show ¬[u].toArray.isEmpty=true from Hi),lJ,MZ]
 exact .after (OU.trans OX) this
def E4(Qu Qd:CmpOp)(a b c:PT):PT:=λ st Q V=>a st (λ x ON=>b st (λ y OS=>nN Qu x y (λ t OZ=>match t with
 | true=>c st (λ z Pz=>nN Qd y z (λ t' PA=>Q (.bool t') PA) Pz) OZ
 | false=>Q (.bool false) OZ) OS) ON) V
theorem zW{l QS QT:Expr}{Qu Qd:CmpOp}{pos:Pos}{a b c:PT}(h0:J0 W k F l a)(h1:J0 W k F QS b)(h2:J0 W k F QT c)(hm:lastMarks [Qu,Qd] [QS,QT]=false):
  J0 W k F (.Compare l [Qu,Qd] [QS,QT] pos) (E4 Qu Qd a b c):=by
 intro A env s V O st Q ro R f hp
 refine Compare_chain (h0.then ro R f hp λ v OQ ON OV x q OR OW vx OU Pb=>?_) hm
 refine chain_link (h1.then ro OR OW q λ v' Pl OS Pc y q OY Ph vy OX Pg=>?_)
 obtain⟨t,h3,q⟩:=jf q
 refine eV (by have:=ro.units;exact zzr this) OY (VR.mono Pg vx) vy h3 (Je ?_)
 induction t with
 | false=>exact⟨_,_,_,q,OY,.bool false,OU.trans OX⟩
 | true=>
  refine chain_last (h2.then ro OY Ph q λ v'' Pj OZ Pa z q Pf Py vz Pe Pw=>?_)
  obtain⟨t',h4,q⟩:=jf q
  exact eV (by have:=ro.units;exact zzr this) Pf (VR.mono Pw vy) vz h4 ⟨_,_,_,q,Pf,.bool t',(OU.trans OX).trans Pe⟩
def inB(x:AV)(K:Bool->Prop):Prop:=match x with
 | .bool i=>K i
 | _=>False
theorem zX{K:Bool->Prop}(h:inB x K):Is AV.bool x K:=by cases x with|bool i=>exact⟨i,rfl,h⟩|_=>exact h.elim
def L9(a b:PT):PT:=λ st Q V=>a st (λ x ON=>inB x λ c=>match c with
 | true=>b st Q ON
 | false=>Q (.bool false) ON) V
theorem Es{l r:Expr}{pos:Pos}{a b:PT}(hl:J0 W k F l a)(hr:J0 W k F r b):J0 W k F (.BoolOp .And [l,r] pos) (L9 a b):=by
 intro A env s V O st Q ro R f hp
 refine wpAny_And2 (hl.then ro R f hp λ v OQ ON OV x q OR OW vx OU Pb=>?_)
 obtain⟨c,rfl,q⟩:=zX q
 obtain rfl:=vx.bool_inv
 induction c with
 | true=>exact Je (Fy (hr.run ro OR OW q) (λ Y Y p=>.after OU p) λ Y Y x=>x)
 | false=>exact Je ⟨_,_,_,q,OR,.bool false,OU⟩
def M0(a b c:TT):TT:=λ st Q V=>a st (λ t ON=>match t with
 | true=>Q true ON
 | false=>b st (λ t OS=>match t with
  | true=>Q true OS
  | false=>c st Q OS) ON) V
theorem Et{l m r:Expr}{pos:Pos}{a b c:TT}(hl:bg W k F l a)(hm:bg W k F m b)(hr:bg W k F r c):bg W k F (.BoolOp .Or [l,m,r] pos) (M0 a b c):=by
 intro A env s V O st Q ro R f hp
 refine MJ (hl.then ro R f hp λ t OQ ON OV q OR OW OU Pb=>?_)
 induction t with
 | true=>exact⟨_,_,q,OR,OU⟩
 | false=>
  refine MJ (hm.then ro OR OW q λ t Pl OS Pc q OY Ph OX Pg=>?_)
  induction t with
  | true=>exact⟨_,_,q,OY,OU.trans OX⟩
  | false=>
   refine MJ (hr.then ro OY Ph q λ t Pj OZ Pa q Pf Py Pe Pw=>?_)
   induction t with
   | true=>exact⟨_,_,q,Pf,(OU.trans OX).trans Pe⟩
   | false=>exact isTrue_or_nil ⟨_,_,q,Pf,(OU.trans OX).trans Pe⟩
structure ClV(W:Wld)(C:Addr)(name:Str)(y:List Nat):Prop where
 obj:∃mc t,readsIn W.K C mc=true/\findCls W.K (.ref C) mc name=some (.val (.str ⟨y.toArray⟩ t))
def L6(y:AV):PT:=λ st Q V=>Q y V
theorem BI{x name:Str}{p1 p2:Pos}{C:Addr}{y:List Nat}(hx:aw F x=true)(hv:W.mg x=some (.ref C))(I:ClV W C name y):J0 W k F (.Attribute (.Name x p1) name p2) (L6 (.str y)):=by
 intro A env s V O st Q ro R f hp
 refine Mr (eY R f hx hv ?_) (by rw[pC,A9])
 refine xE I.obj λ mc Z=>xE Z λ t J=>(λ h1 h2=>?_) J.1 J.2;clear Z J
 exact cls_value R.kin h1 h2 rfl (.now R (.str y.toArray t) hp)
def I2(p:PT)(i j:Nat):ST:=λ st Q V=>p st (λ x ON=>inT x λ l=>∃a b,l=[a,b]/\Q .next ((st.set j b).set i a) ON) V
theorem BJ{elts:List Expr}{tpos pos:Pos}{v:Expr}{p:PT}{x y:Str}(hv:J0 W k F v p)(hx:dB F x i=true)(hy:dB F y j=true)
  (hs:∀env:Env,env.scope=F.scope->swapsWithSole [.Tuple elts n tpos] v pos.line env=pure false/\swappedStores [.Tuple elts n tpos] v env=pure (some [x,y])):O6 W k F (.Assign [.Tuple elts n tpos] v pos) (I2 p i j):=by
 intro A env s V O st Q ro R f h
 obtain⟨h1,h2⟩:=hs env f.scope
 obtain⟨a1,a2⟩:=dM hx
 obtain⟨b1,b2⟩:=dM hy
 refine Assign_Tuple_swapped (hv.then ro R f h λ w OQ ON OV z q OR OW vz OU Pb=>?_) h1 h2
 obtain⟨l,rfl,a,b,rfl,g⟩:=pj q
 obtain⟨ad,m,us,rfl,ht,hvs⟩:=vz.tup_inv
 obtain⟨u1,us,rfl,v1,r1⟩:=hvs.cons_inv
 obtain⟨u2,us,rfl,v2,r2⟩:=r1.cons_inv
 obtain rfl:=r2.nil_inv
 refine wpAny_unpackItems_tuple (items:=#[u1,u2]) ro.handled ⟨_,ht,rfl,m,rfl⟩ λ h' he=>?_
 have hk:=kZ he K9
 obtain⟨OY,Pg⟩:=OR.grow (t:=OQ.toks) hk
 have OX:E8 W [] OV OQ.heap OV h':=Q7 hk
 have Ph:=OW.step0 OX Pg
 show wpAny W.M A (do holding _ (bindName env y u2);assignInOrder [bindName env x] [u1]) _ _ _
 refine nt (Gl (eX (s:={ OQ with heap:=h' }) OY Ph (VR.mono Pg v2) b1 b2 λ Pj Pf Py Pe Pw=>?_))
 show wpAny W.M A (do holding _ (bindName env x u1);assignInOrder [] []) _ _ _
 refine nt (Gl (eX Pf Py (VR.mono Pw (VR.mono Pg v1)) a1 a2 λ PE PB PG PC PU=>?_))
 exact Fp ⟨ON,OV,_,.next,g,PB,.next,PG,((wk (OU.trans OX)).trans Pe).trans PC⟩
noncomputable def qG:Expr->Bool
 | .ListComp ..=>false
 | .SetComp ..=>false
 | .DictComp ..=>false
 | _=>true
theorem sF{e:Expr}(h:qG e=true)(t:Option Expr)(line:Nat)(env:Env):swapsWith e t line env=pure false:=by
 cases e <;> first|rfl|cases h
theorem M3{e:Expr}{line:Nat}(hk:(F.scope.kind==.function)=true)(he:qG e=true):lA F e line:=by
 intro env h
 refine⟨?_,sF he _ _ _⟩
 unfold interactive
 rw[h,beq_iff_eq.mp hk]
 rfl
theorem mG{elt iter:Expr}{x y:Str}{px py:Pos}{ifs:List Expr}{scope:Scope}{pos spos:Pos}(hk:(F.scope.kind==.function)=true)
  (h:(F.scope.names.lookup y==some .local&&py.line==pos.line && !(scope.names.any fun(n,k)=>n==y&&(k==.local||k==.cell)))=true):
  ∀env:Env,env.scope=F.scope->swapsWith (.ListComp elt [⟨.Name x px,iter,ifs,0⟩] scope pos) (some (.Name y py)) spos.line env=pure true:=by
 intro env he
 simp only[Gn]at h
 unfold swapsWith
 simp only[Env.blockKind,Env.kindOf,he,beq_iff_eq.mp hk]
 rw[show(F.scope.names.lookup y==some .local)=true from h.1.1]
 show pure (true&&true&&(py.line==pos.line)&&_)=_
 rw[show(py.line==pos.line)=true from h.1.2,h.2]
 rfl
theorem qH{elt iter:Expr}{x y:Str}{px py:Pos}{ifs:List Expr}{scope:Scope}{pos:Pos}{line:Nat}(h:(F.scope.names.lookup y==some .local)=false):
  nZ F [.Name y py] (.ListComp elt [⟨.Name x px,iter,ifs,0⟩] scope pos) line:=by
 intro env he
 refine⟨?_,rfl⟩
 unfold swapsWithSole swapsWith
 simp only[Env.kindOf,he]
 rw[h]
 simp
theorem ja{c:Const}{pos:Pos}:X9 (.Constant c n pos):=λ Y Y Y=>rfl
def zf:BT:=one λ x Q V=>inR x λ i=>∃ns:List Int,lst V i=some (ns.map .int)/\ns.length<64/\∀ns':List Int,ns'.Perm ns->ns'.Pairwise (·<=·)->Q (.ref V.length) (V++[.list (ns'.map .int)])
theorem uf:bG W k (.builtin "sorted") zf:=by
 intro A s V O vs xs Q ro R vr h
 obtain⟨v,x,rfl,vx,h⟩:=bI vr h
 obtain⟨i,rfl,ns,e,hz,q⟩:=aj h
 obtain⟨a,n,us,rfl,hp,hl,hv⟩:=vx.ref_list R e
 have hi:=hv.ints
 refine sorted_ints hl.isList hi (by rw[hi.length];exact hz) λ out ns' h1 h2 h3=>?_
 obtain⟨c,hc⟩:=sortedAll_at s.heap us out
 exact .adopt (t:=s.toks) (vs:=out.toList) R (λ Y Y=>sortedAll_old) (U8 (HS _)) hc (jN h1) (q ns' h2 h3)
theorem zY{x y:Str}{px py tp p1 p2 p3 p4 vp:Pos}{c1 c2 a1 a2:Str}(hk:(F.scope.kind==.function)=true)(h1:(F.scope.names.lookup x==some .local)=true)(h2:(F.scope.names.lookup y==some .local)=true)
  (hl:(px.line==py.line)=true)(hne:(x==y)=false)(env:Env)(he:env.scope=F.scope):
  swappedStores [.Tuple [.Name x px,.Name y py] n tp] (.Tuple [.Attribute (.Name c1 p1) a1 p2,.Attribute (.Name c2 p3) a2 p4] m vp) env=pure (some [x,y]):=by
 have hl':(py.line==px.line)=true:=by rw[beq_iff_eq]at hl ⊢;exact hl.symm
 have hxy:¬y=x:=λ e=>by subst e;simp at hne
 unfold swappedStores
 simp only[Env.blockKind,Env.kindOf,he,beq_iff_eq.mp hk,beq_iff_eq.mp h1,beq_iff_eq.mp h2]
 have g1:=beq_iff_eq.mp h1
 have g2:=beq_iff_eq.mp h2
 have e1:(Expr.Name x px).pos=px:=rfl
 have e3:∀{c a:Str}{p q:Pos},foldedForSure 8 (.Attribute (.Name c p) a q)=false:=rfl
 have e4:∀{c a:Str}{p q:Pos},constantsAlone 8 (.Attribute (.Name c p) a q)=false:=rfl
 simp[List.filterMap_cons,g1,g2,ScopeKind.isAnnotationScope,e1,beq_iff_eq.mp hl',List.eraseDups_cons,hxy,e3,e4]
def nwC(W:Wld)(k:Nat)(C f:Addr):BT:=match k with
 | 0=>λ Y Y Y=>False
 | k+1=>nwB W k C f
theorem BK{x:Str}{es:List Expr}{p1 p2:Pos}{p:PTs}{C f:Addr}(hx:aw F x=true)(hv:W.mg x=some (.ref C))(N:NwI W C f)(he:aH W k F es p)(hn:N1 es=true):
  J0 W k F (.Call (.Name x p1) es [] p2) (D0 (nwC W k C f) p):=by
 cases k with
 | succ k=>exact xNw hx hv N he hn
 | zero=>
  intro A env s V O st Q ro R fr h
  refine IL (eY R fr hx hv ?_)
  refine NS (P:=W.K.In) (by rw[ax hn];rfl) (λ h X=>keeps_K N.keep h X) (ay hn (Fy (he.run p2 ro R fr h) (λ vs OQ hp=>?_) λ Y Y x=>x))
  obtain⟨_,_,_,q,_⟩:=hp
  exact q.elim
section
open Builtin Builtin.ObjectAttr
theorem mH:Slot "function" "__getattribute__" "object.__getattribute__":=
 .of (owner:="object") (n:="__getattribute__") (by rw[HC,GW];kernel_rfl) (by decide +kernel) (by decide +kernel) (by decide +kernel)
  (by first|exact .inl (by decide +kernel)|exact .inr (by decide +kernel)) (by rw[JP];kernel_rfl)
theorem mI:Slot "function" "__setattr__" "object.__setattr__":=
 .of (owner:="object") (n:="__setattr__") (by rw[HC,GW];kernel_rfl) (by decide +kernel) (by decide +kernel) (by decide +kernel)
  (by first|exact .inl (by decide +kernel)|exact .inr (by decide +kernel)) (by rw[JP];kernel_rfl)
theorem oi:entryFor table "object.__getattribute__" = some Builtin.«object.__getattribute__»:=LF (by kernel_rfl)
theorem pK(a b:Value):argsOk "object.__getattribute__" ⟨[a,b],[]⟩:=by unfold argsOk;kernel_rfl
noncomputable def J5:Str:=⟨⟨[114,101,97,100]⟩⟩
theorem hV:typeLookup (.type "function") J5=pure none:=by rw[HC,GW];kernel_rfl
theorem zZ:mroOf (.type "function")=pure [.type "function",.type "object"]:=by kernel_rfl
theorem xx:typeHasDict (.type "function")=true:=by kernel_rfl
theorem pL{M:Model}{d:Addr}{es:List DictEntry}{name:Str}{r:Option Value}(hd:h.get? d=some (dictOf es n))(hg:getL name es=some r):Looks M h (nsGet d name) r:=
 (Oo (M:=M) (part:=some (.str name 0)) hd).andThen (Oz (nsLook_of hg))
theorem fn_get{prog:Program}{w:World}{E:Value->Shared->Prop}{a d:Addr}{o:Obj}{fd:FuncData}{es:List DictEntry}{ex:Bool}{Q:Value->Shared->Prop}
  (ho:s.heap.get? a=some o)(hc:o.cls=.type "function")(hf:o.data=.func fd)(hdc:o.dict=some d)(hd:s.heap.get? d=some (dictOf es n))(hg:getL J5 es=some (some v))(hh:handedIn v=true)
  (h:Q v { s with toks:=s.toks+1 }):wpAny (model prog w) A (getAttr (.ref a) J5 ex) Q E s:=by
 obtain⟨oc,od,oda,osl⟩:=o
 dsimp only at hc hf hdc
 subst hc hf hdc
 obtain⟨hp,g,dr,t,os⟩:=s
 have hT:∀t,(⟨hp,g,dr,t,os⟩:Shared).TypeIs (.ref a) "function":=λ t=>⟨_,ho,rfl⟩
 unfold getAttr getAttrBy
 refine nt (Mc (Gl (nt (Jf (hT _) (nt (GK mH.lookup ?_))))))
 show wpAny _ _ (getAttrByItsOwn _ _ _ _ _ _) _ _ _
 unfold getAttrByItsOwn
 refine nt (Fp (a:=(none:Option Value)) (nt (KD (Gl ?_))))
 unfold callGetattribute
 rw[if_neg (by simp[onTheHeap])]
 unfold boundAndCalled
 refine nt ?_
 rw[mH.bind]
 refine Fp ?_
 refine HT mH (hT _) oi ?_ (pK _ _)
 have L0:Looks (model prog w) hp (find (.ref a) (.type "function") J5) (.value v):=by
  refine(Oz hV).andThen ?_
  refine(OH (a:=(none:Option Value))).andThen ?_
  refine(OH (a:=(none:Option (Value×Value)))).andThen ?_
  refine Oy (a:=some v) ?_ (Looks.tag .now)
  refine Oy (a:=some d) ?_ (pL hd hg)
  refine(Oo ho).andThen ?_
  refine(Oo ho).andThen ?_
  exact .now
 unfold Builtin.«object.__getattribute__»
 refine nt (GK (a:=(Value.ref a,[Value.str J5 t])) rfl ?_)
 refine nt (GK (a:=J5) rfl ?_)
 refine nt (Jf (hT _) (nt (L0.at ?_)))
 refine Fp ⟨v,rfl,?_⟩
 show wpAny _ _ (handedOut v) _ _ _
 rw[handedOut_of hh];exact Fp h
theorem jO:StoreFacts "function" [.type "function",.type "object"] "object.__setattr__" "object" where
 mro:=zZ
 slot:=mI
 entry:=PySem.F.entry_object_sa
 kind:=by decide +kernel
 split:=by decide +kernel
 hasOwner:=by decide +kernel
 args:=λ a b c=>by unfold argsOk;kernel_rfl
 passes:=λ self=>by kernel_rfl
theorem z0{prog:Program}{w:World}{E:Value->Shared->Prop}{a:Addr}{o:Obj}{fd:FuncData}{Q:Unit->Shared->Prop}
  (ho:s.heap.get? a=some o)(hc:o.cls=.type "function")(hf:o.data=.func fd)(hdc:o.dict=none)
  (h:∀h' t hs,Heap.ExtBut a s.heap h'->h'.get? a=some { o with dict:=some s.heap.objs.size }->h'.get? s.heap.objs.size=some (dictOf [⟨hs,.str J5 t,v⟩] 1)->Q () { s with heap:=h',toks:=s.toks+1+1 }):
  wpAny (model prog w) A (setAttr (.ref a) J5 v) Q E s:=by
 obtain⟨oc,od,oda,osl⟩:=o
 dsimp only at hc hf hdc
 subst hc hf hdc
 obtain⟨hp,g,dr,t,os⟩:=s
 dsimp only at ho h
 have hT:∀t,(⟨hp,g,dr,t,os⟩:Shared).TypeIs (.ref a) "function":=λ t=>⟨_,ho,rfl⟩
 have SF:=jO
 unfold setAttr
 refine nt (Mc (nt ?_))
 unfold callSpecial? specialOf
 refine nt (nt (Jf (hT _) (GK mI.lookup ?_)))
 refine Gl (nt ?_)
 rw[mI.bind]
 refine Fp (nt ?_)
 refine HT mI (hT _) SF.entry ?_ (SF.args _ _ _)
 show wpAny _ _ (Builtin.«object.__setattr__» ⟨[.ref a,.str J5 t,v],[]⟩) _ _ _
 rw[osa_eq,refuse_eq]
 refine nt (nt (Jf (hT _) (nt (GK SF.mro (GK (SF.passes _) ?_)))))
 refine nt (Jf (hT _) (nt (GK hV (nt (Fp (a:=(none:Option Value)) ?_)))))
 show wpAny _ _ (storeInOwnDict (.ref a) (.type "function") (.str J5 t) J5 v false) _ _ _
 have hne:a≠hp.objs.size:=FP (IF ho)
 have hx:(hp.push { cls:=.type "dict",data:=.dict #[] }).get? a=some ⟨.type "function",none,.func fd,osl⟩:=FH _ ho
 have hd1:(hp.push { cls:=.type "dict",data:=.dict #[] }).get? hp.objs.size=some (dictOf [] 0):=Gd _ rfl
 unfold storeInOwnDict
 refine nt (GK (a:=()) rfl ?_)
 show wpAny _ _ (do match <- instanceDict a true with|some d=>storeInDict d (.str J5 t) J5 v|none=>_) _ _ _
 refine nt ?_
 unfold instanceDict
 refine nt (Lb ho ?_)
 simp only[xx,KA,Bool.or_self,Im,if_false]
 refine nt (wpAny_alloc (nt (wpAny_update hx ?_)))
 have hx2:=Kv (λ o:Obj=>{ o with dict:=some hp.objs.size }) hx rfl
 have hd2:=(IE (hp.push { cls:=.type "dict",data:=.dict #[] }) _ _ (λ o:Obj=>{ o with dict:=some hp.objs.size }) hne.symm).trans hd1
 generalize hG:(hp.push { cls:=.type "dict",data:=.dict #[] }).update a (λ o:Obj=>{ o with dict:=some hp.objs.size })=h2 at hx2 hd2
 have hk2:∀b o,b≠a->hp.get? b=some o->h2.get? b=some o:=λ b o hb e=>by
  rw[<- hG];exact(IE _ _ _ _ hb).trans (FH _ e)
 show wpAny _ _ (dictMade (.type "function") a hp.objs.size) _ _ ⟨h2,g,dr,t+1,os⟩
 refine GK (a:=some hp.objs.size) (by kernel_rfl) ?_
 show wpAny _ _ (storeInDict hp.objs.size (.str J5 t) J5 v) _ _ _
 unfold storeInDict
 refine nt (GK (a:=()) rfl (nt ?_))
 unfold nsSet
 refine nt (nt (NL (Fp (nt (Mc (nt (Lb hd2 ?_)))))))
 show wpAny _ _ (if aRefKeyMayBeTheName J5 (#[]:Array DictEntry)=true then _ else _) _ _ _
 rw[if_neg (by rw[LW];simp)]
 refine NP hd2 ?_
 have hd3:(h2.update hp.objs.size (Obj.putName J5 (PyData.keyHash w.params J5) (.str J5 (t+1)) v)).get? hp.objs.size=some (dictOf [⟨PyData.keyHash w.params J5,.str J5 (t+1),v⟩] 1):=by
  have e:Obj.putName J5 (PyData.keyHash w.params J5) (.str J5 (t+1)) v (dictOf [] 0)=dictOf [⟨PyData.keyHash w.params J5,.str J5 (t+1),v⟩] 1:=by rw[Nw];rfl
  rw[<- e]
  exact Kv _ hd2 (by rw[e];rfl)
 refine nt (NN hd3 (NJ (by simp)) ?_)
 refine Fp ⟨.none,rfl,Fp (Fp ?_)⟩
 refine h _ (t+1) _ (λ b o hb e=>?_) ?_ hd3
 ·exact(IE _ _ _ _ (FP (IF e))).trans (hk2 b o hb e)
 ·exact(IE _ _ _ _ hne).trans hx2
end
noncomputable abbrev tbO(ps:Array Value):Obj:={ cls:=.none,data:=.fields ps }
inductive CdH(h:Heap)(c P:Addr):Prop
 | mk (o:Obj) (vs:Array Value) (file:Str) (tf:Tok) (flags:Int) (tg:Tok) (inF:Bool) (text:Int) (tt:Tok):h.get? c=some o->o.cls=.type "code"->o.data=.fields vs->vs[11]?=some (.ref P)->vs.getD 11 .none=.ref P->vs.getD 18 .none=.str file tf->
  vs.getD 7 .none=.int flags tg->vs.getD 9 .none=.bool inF->vs.getD 10 .none=.int text tt->c≠P->CdH h c P
theorem CdH.get{c P:Addr}(x:CdH h c P)(k:∀o,o.cls=.type "code"->h.get? c=some o->h'.get? c=some o):CdH h' c P:=by
 induction x with
 | mk o vs file tf flags tg inF text tt e e2 r1 r2 r3 r4 r5 r6 r7 r8=>exact⟨o,vs,file,tf,flags,tg,inF,text,tt,k _ e2 e,e2,r1,r2,r3,r4,r5,r6,r7,r8⟩
theorem CdH.tab{c P:Addr}{ps:Array Value}(x:CdH h c P)(hP:h.get? P=some (tbO ps)):h.TableAt c P ps:=by
 induction x with
 | mk o vs file tf flags tg inF text tt e e2 r1 r2 r3 r4 r5 r6 r7 r8=>exact⟨⟨o,vs,e,e2,r1,r2⟩,hP⟩
theorem CdH.code{c P:Addr}{ps:Array Value}(x:CdH h c P)(hP:h.get? P=some (tbO ps))(ht:TriplesOk ps.toList):h.IsCode c P ps:=by
 induction x with
 | mk o vs file tf flags tg inF text tt e e2 r1 r2 r3 r4 r5 r6 r7 r8=>exact⟨o,vs,file,tf,flags,tg,inF,text,tt,_,e,r1,r3,r4,r5,r6,r7,hP,rfl,ht,r8⟩
noncomputable abbrev fnD(name qual:Str)(params:Arguments)(body:FuncBody)(scope:Scope)(cl:List (Str×Addr))(pm cdv ct:Value):FuncData:=
 { name,qualname:=qual,params,body:=body,scope,globals:=mainGlobals,closure:=cl,defaults:=.none,kwdefaults:=.none,doc:=.none,pyModule:=pm,annotations:=none,code:=cdv,closureTuple:=ct,builtins:=builtinsNs }
noncomputable abbrev fnO(name qual:Str)(params:Arguments)(body:FuncBody)(scope:Scope)(cl:List (Str×Addr))(pm cdv ct:Value):Obj:=
 { cls:=.type "function",data:=.func (fnD name qual params body scope cl pm cdv ct) }
def ug:FuncBody->Prop
 | .stmts b=>docOf b=none
 | .expr _=>True
section
variable {M:Model}{A:Around}{E:Value->Shared->Prop}{s:Shared}{name qual:Str}{params:Arguments}{body:FuncBody}{scope:Scope}{env:Env}{c P:Addr}{ps:Array Value}{pos:Pos}{firstLine:Nat}{mg:Str->Option Value}
 {clos:List (Str×Addr)}{Q:Value->Shared->Prop}
theorem BL{A:Around}{s:Shared}{K:Value->Sem Value}(hnd:ug body)(h:wpAny M A (K .none) Q E s):wpAny M A (match body with
  | .stmts b=>(match docOf b with|some s=>mkText s|none=>pure .none) >>= K
  | .expr _=>pure .none >>= K) Q E s:=by
 induction body with
 | stmts b=>have e:docOf b=none:=hnd;simp only[e];exact nt (Fp h)
 | expr b=>exact nt (Fp h)
theorem mk0:makeFunction name qual params body scope env [] [] [] pos firstLine=makeTail name qual params body scope env .none .none none pos firstLine:=by
 rw[makeFunction_eq,Nd]
 rfl
theorem BM{Q:Value->Shared->Prop}{items:List Value}{K:Value->Sem Value}(h:∀(h1:Heap) (ctv:Value),(∀b o,s.heap.get? b=some o->h1.get? b=some o)->s.heap.objs.size<=h1.objs.size->wpAny M A (K ctv) Q E { s with heap:=h1 }):
  wpAny M A (if clos.isEmpty=true then pure .none >>= K else newTextTuple items >>= K) Q E s:=by
 cases clos with
 | nil=>exact nt (Fp (h s.heap .none (λ Y Y e=>e) (Fn _)))
 | cons q r=>exact nt (wpAny_newTextTuple (h _ _ (λ b o e=>FH _ e) (fp (HS _) (Fw (HX ..).symm))))
theorem BN(hcode:env.code=.ref c)(C:CdH s.heap c P)(hP:s.heap.get? P=some (tbO ps))(ht:TriplesOk ps.toList){h1:Heap}(hk:∀b o,s.heap.get? b=some o->h1.get? b=some o)(hsz:s.heap.objs.size<=h1.objs.size)
  (hN:codeAmong pos ps.toList=none->∀(c':Addr) (oc:Obj) (vs:Array Value) (t:Tok) (h':Heap) (tk:Tok),Heap.ExtBut P s.heap h'->s.heap.objs.size<=c'->c'<h'.objs.size->h'.get? c'=some oc->oc.cls=.type "code"->oc.data=.fields vs->vs[1]?=some (.str qual t)->
   h'.get? P=some (tbO (ps++#[rawInt pos.line,rawInt pos.col,.ref c']))->Q (.ref c') { s with heap:=h',toks:=tk })
  (hH:∀cv,codeAmong pos ps.toList=some cv->Q cv { s with heap:=h1 }):wpAny M A (functionCode env pos firstLine name qual params scope body) Q E { s with heap:=h1 }:=by
 have C1:CdH h1 c P:=C.get λ o Y e=>hk _ _ e
 have hP1:=hk _ _ hP
 cases hca:codeAmong pos ps.toList with
 | none=>
  refine wpAny_functionCodeX hcode (C1.code hP1 ht) (C1.tab hP1) hca λ c' h' tk hx hge hlt hok hrec htb hP'=>?_
  refine xE hP' λ P' Z=>(λ J θ ξ=>?_) Z.1 Z.2.1 Z.2.2;refine(λ ϑ ϖ=>?_) ξ.1 ξ.2;refine xE ϑ λ oc ϱ=>xE ϱ λ vs ϕ=>(λ i1 i2 i3 i4=>?_) ϕ.1 ϕ.2.1 ϕ.2.2.1 ϕ.2.2.2;clear hP' Z ξ ϑ ϱ ϕ
  refine xE hrec λ QW Z=>xE Z λ RF J=>xE J λ RG θ=>xE θ λ t₂ ξ=>(λ e2 j1 j2 j3=>?_) ξ.1 ξ.2.1 ξ.2.2.1 ξ.2.2.2;clear hrec Z J θ ξ
  cases e2
  cases i1.symm.trans j1
  cases i3.symm.trans j2
  exact hN hca c' oc vs t₂ h' tk (λ b o hb' e=>hx b o hb' (hk _ _ e)) (fp hsz hge) hlt i1 i2 i3 j3 htb.2
 | some cv=>exact wpAny_functionCode_hit hcode (C1.code hP1 ht) hca (hH cv hca)
theorem Eu(hnd:ug body)(hcl:closureFor scope env=pure clos)(hge0:env.globals=mainGlobals)(hg:s.heap.Ns mainGlobals mg)(hcode:env.code=.ref c)(C:CdH s.heap c P)(hP:s.heap.get? P=some (tbO ps))(ht:TriplesOk ps.toList)
  (hgP:mainGlobals≠P)(hb:s.heap.BuiltinsAt mg P)
  (hN:codeAmong pos ps.toList=none->∀(c':Addr) (oc:Obj) (vs:Array Value) (t:Tok) (ctv:Value) (h':Heap) (tk:Tok),Heap.ExtBut P s.heap h'->s.heap.objs.size<=c'->c'<h'.objs.size->h'.get? c'=some oc->oc.cls=.type "code"->oc.data=.fields vs->vs[1]?=some (.str qual t)->
   h'.get? P=some (tbO (ps++#[rawInt pos.line,rawInt pos.col,.ref c']))->
   Q (.ref h'.objs.size) { s with heap:=h'.push (fnO name qual params body scope clos ((mg "__name__").getD .none) (.ref c') ctv),toks:=tk })
  (hH:∀cv,codeAmong pos ps.toList=some cv->∀(ctv:Value) (h':Heap) (tk:Tok),(∀b o,s.heap.get? b=some o->h'.get? b=some o)->s.heap.objs.size<=h'.objs.size->
   Q (.ref h'.objs.size) { s with heap:=h'.push (fnO name qual params body scope clos ((mg "__name__").getD .none) cv ctv),toks:=tk }):
  wpAny M A (makeFunction name qual params body scope env [] [] [] pos firstLine) Q E s:=by
 rw[mk0]
 refine xE hb λ bm Z=>xE Z λ ob J=>(λ hbm hne0 θ hneP hbo hcls hdict hdata=>?_) J.1 J.2.1 J.2.2.1 J.2.2.2.1 J.2.2.2.2.1 J.2.2.2.2.2.1 J.2.2.2.2.2.2.1 J.2.2.2.2.2.2.2;clear hb Z J
 unfold makeTail
 rw[hcl,hge0]
 have fin:∀{h':Heap}{cv ctv:Value}{tk:Tok},h'.Ns mainGlobals mg->h'.get? bm=some ob->Q (.ref h'.objs.size) { s with heap:=h'.push (fnO name qual params body scope clos ((mg "__name__").getD .none) cv ctv),toks:=tk }->wpAny M A (do
   let bl <- builtinsFor mainGlobals env.builtins
   let nm <- nsGet mainGlobals "__name__"
   let dc <- match body with
              | .stmts b=>(match docOf b with|some s=>mkText s|none=>pure .none)
              | .expr _=>pure .none
   newObj (.type "function") (.func { name,qualname:=qual,params,body,scope,globals:=mainGlobals,closure:=clos,closureTuple:=ctv,code:=cv,builtins:=bl,defaults:=.none,kwdefaults:=.none,annotations:=none,pyModule:=nm.getD .none,doc:=dc })) Q E { s with heap:=h',toks:=tk }:=fun{h' cv ctv tk} g1 g2 q=>
  nt (wpAny_builtinsFor (running:=env.builtins) g1 hbm hne0 g2 hcls hdict hdata (nt (wpAny_nsGet g1 (BL hnd (IC q (by size_fits))))))
 refine nt (Fp ?_)
 refine BM λ h1 ctv hk hsz=>?_
 refine nt (BN hcode C hP ht hk hsz (λ hca c' oc vs t h' tk hx hge hlt i1 i2 i3 j3 ht=>?_) λ cv hca=>?_)
 ·exact fin (hg.extBut hx hgP) (hx _ _ hneP hbo) (hN hca c' oc vs t ctv h' tk hx hge hlt i1 i2 i3 j3 ht)
 ·exact fin (hg.keeps hk) (hk _ _ hbo) (hH cv hca ctv h1 s.toks hk hsz)
end
theorem Rep.raw(R:Rep W V O s){a:Addr}{o:Obj}(hi:V[i]?=some (.raw a o)):O[i]?=some (a,a)/\s.heap.get? a=some o/\o.data≠.plain/\o.cls≠.type "tuple":=by
 refine xE (R.get hi) λ p Z=>(λ hp r=>?_) Z.1 Z.2;clear Z
 refine(λ Z g=>?_) r.inv.1 r.inv.2;rcases Z with rfl
 exact⟨hp,g⟩
theorem Rep.cellAt(R:Rep W V O s){a:Addr}(hi:V[i]?=some (.cell a x)):O[i]?=some (a,a)/\∃o v,s.heap.get? a=some o/\o.data=.cell (some v)/\VR W.h0 s.heap O v x:=by
 refine xE (R.get hi) λ p Z=>(λ hp r=>?_) Z.1 Z.2;clear Z
 refine(λ Z g=>?_) r.inv.1 r.inv.2;rcases Z with rfl
 exact⟨hp,g⟩
theorem Rep.fldsAt(R:Rep W V O s){T:String}(hi:V[i]?=some (.flds T l)):∃a vs,O[i]?=some (a,a)/\s.heap.get? a=some { cls:=.type T,data:=.fields vs.toArray }/\VRs W.h0 s.heap O vs l:=by
 obtain⟨⟨a,d⟩,hp,r⟩:=R.get hi
 obtain⟨e,vs,g⟩:=r.inv
 obtain rfl:d=a:=e
 exact⟨_,vs,hp,g⟩
theorem Rep.adoptRaw(R:Rep W V O s){a:Addr}{o:Obj}(ho:s.heap.get? a=some o)(h1:o.data≠.plain)(h2:o.cls≠.type "tuple")(na:a∉O.map (·.2))(h0:W.h0.get? a=none):
  Rep W (V++[.raw a o]) (O++[(a,a)]) s:=R.adoptO (λ Y=>.raw ho h1 h2) na h0
theorem xy:typeLookup (.type "function") "__getattr__" = pure none:=by rw[HC,GW];kernel_rfl
def oj(V:Sto)(a b:Addr):Prop:=∃(i j:Nat) (o:Obj) (fd:FuncData) (d:Addr) (es:List DictEntry) (n:Nat),V[i]?=some (I3.raw a o)/\o.cls=.type "function"/\o.data=.func fd/\o.dict=some d/\V[j]?=some (I3.raw d (dictOf es n))/\getL J5 es=some (some (.ref b))
def BO(V:Sto)(b:Addr):Prop:=∃(i:Nat) (o:Obj) (fd:FuncData),V[i]?=some (I3.raw b o)/\o.data=.func fd
def FnL(b:Addr)(h:Heap):Prop:=∃o fd,h.get? b=some o/\o.data=.func fd
theorem sG{M:Model}{b:Addr}(h:Heap)(X:FnL b h):∃k,(k=Keeper.frame\/k=Keeper.machine\/k=Keeper.boundFrame)/\Looks M h (keeperOf (.ref b)) k:=by
 obtain⟨⟨oc,od,oda,sl⟩,fd,e,q⟩:=X
 dsimp only at q;subst q
 exact⟨.frame,.inl rfl,(Oo (part:=none) e).andThen .now⟩
theorem sH{prog:Program}{w:World}{E:Value->Shared->Prop}{a d:Addr}{o:Obj}{fd:FuncData}{es:List DictEntry}{pl:Sem Bool}{Q:Value×List Value->Shared->Prop}
  (ho:s.heap.get? a=some o)(hc:o.cls=.type "function")(hf:o.data=.func fd)(hdc:o.dict=some d)(hd:s.heap.get? d=some (dictOf es n))(hg:getL J5 es=some (some v))(hh:handedIn v=true)
  (h:Q (v,[]) { s with toks:=s.toks+1 }):wpAny (model prog w) A (getMethod (.ref a) J5 pl) Q E s:=by
 have hT:s.TypeIs (.ref a) "function":=⟨o,ho,hc⟩
 have hcan:=PySem.F.canon_object_ga
 unfold getMethod specialOf
 refine nt (nt (Jf hT (GK mH.lookup ?_)))
 dsimp only
 rw[hcan,if_neg (by decide)]
 refine nt (nt (Jf hT (GK xy ?_)))
 refine nt (nt (Jf hT (GK hV ?_)))
 exact nt (fn_get ho hc hf hdc hd hg hh (Fp h))
def M4(W:Wld)(k:Nat)(a:PT)(p:PTs):PT:=λ st Q V=>a st (λ x ON=>∃af b,x=.fn af/\oj ON af b/\p st (λ xs OS=>BO OS b/\M8 W k b xs Q OS) ON) V
theorem Ew{o:Expr}{name:Str}{es:List Expr}{p1 p2:Pos}{a:PT}{p:PTs}
  (ho:J0 W k F o a)(hb:X9 o)(hnm:name=J5)(he:aH W k F es p)(hn:N1 es=true)(hl:es.length<20)(hline:(p1.endLine==p2.line)=true):
  J0 W k F (.Call (.Attribute o name p1) es [] p2) (M4 W k a p):=by
 subst hnm
 intro A env s V O st Q ro R fr h
 rw[arm_eval_Call,hb]
 refine nt (ho.then ro R fr h λ v OQ ON OV x q OR OW vx OU Pb=>?_)
 obtain⟨af,b,rfl,⟨i,j,oo,fd,d,es',n,h1,h2,h3,h4,h5,h6⟩,q⟩:=q
 obtain rfl:=vx.fn_inv
 refine nt (GH ?_)
 have hform:methodCallForm (es.length+([]:List Keyword).length) (backTo p2 (starEach es env)) (backToKw p2 (keywordEach [] env))=true:=jK hn hl
 have hpos:methodCallPos true o env p1 p2=pure p2:=by unfold methodCallPos;simp[hline]
 unfold methodCall
 rw[hform]
 refine nt (Gl (sH (OR.raw h1).2.1 h2 h3 h4 (OR.raw h5).2.1 h6 rfl ?_))
 refine nt (GK hpos ?_)
 have OY:Rep W ON OV { OQ with toks:=OQ.toks+1 }:=OR.toks OQ.drawn _
 refine NS (P:=FnL b) (by rw[ax hn];rfl) (λ h X=>sG h X) (ay hn (Fy (he.run p2 ro OY OW q) (λ vs Pl hp=>?_) λ Y Y x=>x))
 obtain⟨OS,Pc,xs,⟨⟨RM,Qd,Ri,hr,hfd⟩,q⟩,Pf,vr,OX⟩:=hp
 refine⟨⟨Qd,Ri,(Pf.raw hr).2.1,hfd⟩,?_⟩
 exact Fy (q.wp ro Pf vr) (λ Y Y p=>.after (OU.trans OX) p) λ Y Y x=>x
theorem Z7:Slot "callable_iterator" "__next__" "callable_iterator.__next__":=
 .of (owner:="callable_iterator") (n:="__next__") (by rw[HC,GW];kernel_rfl) (by decide +kernel) (by decide +kernel) (by decide +kernel)
  (by first|exact .inl (by decide +kernel)|exact .inr (by decide +kernel)) (by rw[JP];kernel_rfl)
theorem fz:Slot "callable_iterator" "__iter__" "callable_iterator.__iter__":=
 .of (owner:="callable_iterator") (n:="__iter__") (by rw[HC,GW];kernel_rfl) (by decide +kernel) (by decide +kernel) (by decide +kernel)
  (by first|exact .inl (by decide +kernel)|exact .inr (by decide +kernel)) (by rw[JP];kernel_rfl)
theorem jP:entryFor table "callable_iterator.__iter__" = some Builtin.«dict_keyiterator.__iter__»:=
 entryFor_alias (id':="dict_keyiterator.__iter__") (by kernel_rfl) rfl (by decide +kernel) (by kernel_rfl)
theorem dR:entryFor table "callable_iterator.__next__" = some Builtin.«callable_iterator.__next__»:=entryFor_of_fast (by kernel_rfl)
theorem kJ(a:Value):argsOk "callable_iterator.__iter__" ⟨[a],[]⟩:=by unfold argsOk;kernel_rfl
theorem fA(a:Value):argsOk "callable_iterator.__next__" ⟨[a],[]⟩:=by unfold argsOk;kernel_rfl
noncomputable abbrev sI(v w:Value)(b:Bool):Obj:={ cls:=.type "callable_iterator",data:=.fields #[v,w,.bool b] }
section
variable {prog:Program}{w:World}{A:Around}{E:Value->Shared->Prop}{s:Shared}
theorem uh{it:Addr}{o:Obj}(ho:s.heap.get? it=some o)(hc:o.cls=.type "callable_iterator"){Q:Value->Shared->Prop}(h:Q (.ref it) s):wpAny (model prog w) A (pyIter (.ref it)) Q E s:=by
 have hT:s.TypeIs (.ref it) "callable_iterator":=⟨o,ho,hc⟩
 refine wpAny_pyIter_slot hT fz (HT fz hT jP ?_ (kJ _))
 show wpAny _ _ (ret (.ref it)) _ _ s
 exact Fp ⟨_,rfl,"callable_iterator",_,hT,Z7.lookup,h⟩
theorem qI{A:Around}{Q:Except Value α->Shared->Prop}{s:Shared}(hh:A.handled=none)(h:∀e h',(∀b o,s.heap.get? b=some o->h'.get? b=some o)->({ s with heap:=h' }:Shared).TypeIs e "StopIteration"->Q (.error e) { s with heap:=h' }):
  wpAny (model prog w) A (Builtin.SmallTypes.stopIteration:Sem α) (λ a=>Q (.ok a)) (λ e=>Q (.error e)) s:=by
 show wpAny _ _ (newExc (.type "StopIteration") [] >>= _) _ _ _
 refine nt ?_
 simp only[newExc,newTuple]
 refine nt (IC ?_ (by size_fits))
 refine nt (m:=firstArgMember _ _) (GK (a:=Value.none) (by first|rfl|(simp only[firstArgMember];rfl)) ?_)
 refine IC ?_ (by size_fits)
 simp only[raiseNew]
 refine nt (wpAny_handled ?_)
 rw[hh]
 refine nt (Fp (wpAny_throw ?_))
 exact h _ _ (λ b o e=>FH _ (FH _ e)) ⟨_,Gd _ rfl,rfl⟩
theorem iO{m f:Addr}{x:Value}{of:Obj}{fd:FuncData}{Q:Bool->Shared->Prop}(hm:s.heap.get? m=some (methodObj (.ref f) x))(hf:s.heap.get? f=some of)(hfd:of.data=.func fd)(h:Q true s):wpAny (model prog w) A (borrowsExactly (.ref m)) Q E s:=by
 unfold borrowsExactly
 refine nt (Ov hm ?_)
 dsimp only
 rw[if_pos (by rfl)]
 show wpAny _ _ (do match (<- load f).data with|.func _=>pure true|_=>pure false) _ _ _
 refine nt (Ov hf ?_)
 rw[hfd]
 exact Fp h
theorem oq{f:Value}{pos:List Value}{Q:Value->Shared->Prop}(hc:codeAny (model prog w) A (.call f ⟨pos,[]⟩) (λ r s'=>match r with|.ok (.ret v)=>Q v s'|.ok _=>False|.error e=>E e s') s):wpAny (model prog w) A (callBorrowed f pos) Q E s:=by
 intro Γ p QV
 unfold callBorrowed
 rw[Sem.wp_call]
 refine wpCode_mono (λ r s' h=>?_) (hc _ p rfl (QV.enter _ none p (by intro x;cases x)))
 rcases r with e|(v|_|_|_)
 ·exact h
 ·exact h.elim
 ·exact h.elim
 ·exact h.elim
 ·exact h
def z8(it:Addr)(sv:Str)(Q:Option Value->Shared->Prop)(m f:Addr)(r:Result)(s':Shared):Prop:=match r with
 | .ok (.ret v)=>(∃t',s'.heap.get? it=some (sI (.ref m) (.str sv t') false))/\(∃x',s'.heap.get? m=some (methodObj (.ref f) x'))/\(∃of fd,s'.heap.get? f=some of/\of.data=.func fd)/\
  ∃OJ tv,v=.str OJ tv/\(OJ≠sv->Q (some v) s')/\(OJ=sv->∀h',Heap.ExtBut it s'.heap h'->h'.get? it=some (sI .none .none true)->Q none { s' with heap:=h' })
 | _=>False
theorem ui{it m f:Addr}{x:Value}{of:Obj}{fd:FuncData}{sv:Str}{t:Tok}{Q:Option Value->Shared->Prop}(hh:A.handled=none)(hit:s.heap.get? it=some (sI (.ref m) (.str sv t) false))
  (hm:s.heap.get? m=some (methodObj (.ref f) x))(hf:s.heap.get? f=some of)(hfd:of.data=.func fd)
  (h:codeAny (model prog w) A.in1 (.call (.ref f) ⟨[x],[]⟩) (z8 it sv Q m f) s):wpAny (model prog w) A (pyNext (.ref it)) Q E s:=by
 have hT:s.TypeIs (.ref it) "callable_iterator":=⟨_,hit,rfl⟩
 unfold pyNext
 refine nt (KD (Ki (name:=Str.ofString "__next__") hT Z7
  (HT Z7 hT dR ?_ (fA _))))
 show wpAny _ _ (field (.ref it) 2 >>= _) _ _ s
 refine nt (Jq hit rfl (x:=.bool false) rfl ?_)
 show wpAny _ _ (field (.ref it) 0 >>= _) _ _ s
 refine nt (Jq hit rfl (x:=.ref m) rfl ?_)
 unfold callOutOfASlot
 refine nt (KD (nt (iO hm hf hfd ?_)))
 rw[if_pos rfl]
 refine oq (method_call hm (Jd h λ r s' z=>?_))
 rcases r with e|(_|_|_|v)
 ·exact z.elim
 ·exact z.elim
 ·exact z.elim
 ·exact z.elim
 ·obtain⟨⟨t',k1⟩,⟨x',k2⟩,⟨of',fd',k3,k3'⟩,OJ,tv,rfl,q1,q2⟩:=z
  dsimp only
  show wpAny _ _ (field (.ref it) 2 >>= _) _ _ s'
  refine nt (Jq k1 rfl (x:=.bool false) rfl ?_)
  rw[if_neg (show ¬((Value.bool false==Value.bool true)=true)from Hi)]
  refine nt (Jq k1 rfl (x:=.str sv t') rfl (nt (Gl (wpAny_eqBool_str ?_))))
  by_cases hv:OJ=sv
  ·have e:decide (sv=OJ)=true:=by simp[hv]
   rw[e]
   simp only[KA,Im,if_false]
   refine nt (IQ (nt ?_))
   show wpAny _ _ (field (.ref it) 0 >>= _) _ _ s'
   refine nt (Jq k1 rfl (x:=.ref m) rfl (nt ?_))
   unfold slotLetsGo
   refine nt (iO k2 k3 k3' ?_)
   rw[if_pos rfl]
   refine Fp ?_
   refine nt (Lc k1 (by simp) λ h1 d1 s1=>?_)
   refine nt (Lc d1 (by simp) λ h2 d2 s2=>?_)
   refine Lc d2 (by simp) λ h3 d3 s3=>?_
   refine Fy (qI (α:=Fin) (Q:=λ r s''=>match r with|.ok _=>False|.error e=>s''.TypeIs e "StopIteration"/\∃h',s'' = { s' with heap:=h' }/\Heap.ExtBut it s'.heap h'/\h'.get? it=some (sI .none .none true)) (by first|exact hh|exact(show A.in1.handled=none from hh)) λ e h' k ht=>?_) (λ Y Y z=>z.elim) λ e s'' z=>?_
   ·refine⟨ht,h',rfl,λ b o hb eo=>k b o ?_,k _ _ d3⟩
    exact(s3.2 b hb).trans ((s2.2 b hb).trans ((s1.2 b hb).trans eo))
   ·obtain⟨ht,h',rfl,h1,h2⟩:=z
    refine nt (LG (T:="StopIteration") (b:=true) ht isSubtype_stop ?_)
    exact Fp (q2 hv h' h1 h2)
  ·have e:decide (sv=OJ)=false:=by simp;exact λ q=>hv q.symm
   rw[e]
   simp only[Bool.not_false,if_true]
   exact Fp ⟨_,rfl,Fp (q1 hv)⟩
theorem uj{it:Addr}{w':Value}{Q:Option Value->Shared->Prop}(hh:A.handled=none)(hit:s.heap.get? it=some (sI v w' true))(h:∀h',(∀b o,s.heap.get? b=some o->h'.get? b=some o)->Q none { s with heap:=h' }):
  wpAny (model prog w) A (pyNext (.ref it)) Q E s:=by
 have hT:s.TypeIs (.ref it) "callable_iterator":=⟨_,hit,rfl⟩
 unfold pyNext
 refine nt (KD (Ki (name:=Str.ofString "__next__") hT Z7
  (HT Z7 hT dR ?_ (fA _))))
 show wpAny _ _ (field (.ref it) 2 >>= _) _ _ s
 refine nt (Jq hit rfl (x:=.bool true) rfl ?_)
 rw[if_pos (show(Value.bool true==Value.bool true)=true from rfl)]
 refine nt (IQ (nt ?_))
 refine Fy (qI (α:=PUnit) (Q:=λ r s''=>match r with|.ok _=>False|.error e=>s''.TypeIs e "StopIteration"/\∃h',s'' = { s with heap:=h' }/\∀b o,s.heap.get? b=some o->h'.get? b=some o) (by first|exact hh|exact(show A.in1.handled=none from hh)) λ e h' k ht=>⟨ht,h',rfl,k⟩) (λ Y Y z=>z.elim) λ e s'' z=>?_
 obtain⟨ht,h',rfl,h1⟩:=z
 refine nt (LG (T:="StopIteration") (b:=true) ht isSubtype_stop ?_)
 exact Fp (h h' h1)
end
theorem H9.adoptO{t:Nat}{a:Nat}{o:I3}(R:Rep W V O s)(hk:∀b o,s.heap.get? b=some o->h'.get? b=some o)(ha:s.heap.get? a=none)
  (ho:Sub s.heap O h' (O++[(a,a)])->bf W h' (O++[(a,a)]) (a,a) o)(q:Q (.ref V.length) (V++[o])):H9 W [] O s.heap Q (.ref a) { s with heap:=h',toks:=t }:=by
 obtain⟨R',U⟩:=R.grow (t:=t) hk
 have R'':=Rep.adoptO (s:={ s with heap:=h',toks:=t }) (o:=o) R' (λ U'=>ho ⟨λ b vs n x=>hk _ _ x,_,rfl⟩) (R.notM ha) (R.not0 ha)
 exact⟨_,_,_,q,R'',.ref (d:=a) (by rw[<- R.len];simp),⟨λ b o e Y Y Y=>hk b o e,⟨_,rfl,λ p hp=>by simp at hp;subst hp;exact ha⟩,λ b o e=>⟨o,hk b o e⟩⟩⟩
theorem mJ{K:Frag}{C f:Addr}{od:Obj}{name:Str}(hh:hasDictIn K C=true)(ha:findIn K (.ref C) name=some (some (.ref f)))(ht:typeIn K (.ref f)=some (.type "function"))(hc:copiedNames.contains name=false)(hl:lookIn name od=some none):
  findObj K C (some od) name=some (.bind (.builtin "function.__get__") (.ref f)):=by
 refine xE (any_some hh) λ cd Z=>(λ hc' hd=>?_) Z.1 Z.2;clear Z
 unfold findObj
 have ho:W.ownOf cd (some od) name=some none:=by unfold W.ownOf;rw[if_pos hd];exact hl
 have g:specialIn K (.ref f) "__get__" = some (some (.builtin "function.__get__")):=by unfold specialIn;rw[ht];rw[Gz];kernel_rfl
 have t:takesIn K (.ref f)=some false:=by
  have e1:specialIn K (.ref f) "__set__" = some none:=by unfold specialIn;rw[ht];rw[Gz];kernel_rfl
  have e2:specialIn K (.ref f) "__delete__" = some none:=by unfold specialIn;rw[ht];rw[Gz];kernel_rfl
  unfold takesIn;rw[e1,e2];rfl
 rw[hc',Gz,ha,Gz]
 simp only[g,t,Gz,ho,hc,Oj,Im,if_false]
def M1(C f:Addr)(a:PT):PT:=λ st Q V=>a st (λ x ON=>iK C ON x/\Q (.ref ON.length) (ON++[.flds "method" [.fn f,x]])) V
theorem Ex{l:Expr}{name:Str}{pos:Pos}{C f:Addr}{a:PT}(hl:J0 W k F l a)(hb:X9 l)(I:MeI W C name f)(hc:copiedNames.contains name=false):J0 W k F (.Attribute l name pos) (M1 C f a):=by
 intro A env s V O st Q ro R fr h
 refine Mr (hl.then ro R fr h λ v OQ ON OV x q OR OW vx OU Pb=>?_) (by rw[pC,hb])
 rcases q with⟨hk,q⟩
 rcases n5 hk with⟨i,m,rfl,hm⟩
 rcases vx.ref_inv with⟨ad,d,rfl,hp⟩
 rcases OR.inst hm hp with⟨n,en,Cl,hle,h1,h2,h3⟩
 have hf:=mJ Cl.dict I.find I.typ hc (od:=dictOf en n) (by rw[NU];exact h3.far I.far hle)
 refine get_bind OR.kin (gk h1 h2) Cl.hga hf I.hk (Mb (PySem.W.fn_get (s:={ OQ with toks:=OQ.toks+1 }) OR.kin I.typ ?_))
 show wpAny _ _ (handedOut (.ref _)) _ _ _
 refine Fp (H9.after OU (H9.adoptO (t:=OQ.toks+1) OR (λ b o e=>FH _ e) K9 (λ U=>?_) q))
 exact .flds (vs:=[.ref f,.ref ad]) (Gd _ rfl) (.cons (.fn f) (.cons (VR.mono U vx) .nil))
def qJ:BT:=λ xs Q V=>match xs with
 | [.ref im,.str s]=>(∃l,V[im]?=some (.flds "method" l))/\Q (.ref V.length) (V++[.flds "callable_iterator" [.ref im,.str s,.bool false]])
 | _=>False
theorem sJ:typeLookup (.type "method") "__call__" = pure (some (.builtin "method.__call__")):=by rw[HC,GW];kernel_rfl
theorem pM:entryFor table "iter" = some Builtin.«iter»:=LF (by kernel_rfl)
theorem sK(a b:Value):checkBuiltinCall "iter" ⟨[a,b],[]⟩=pure ():=by kernel_rfl
theorem uk:bG W k (.builtin "iter") qJ:=by
 intro A s V O vs xs Q ro R vr h
 unfold qJ at h
 split at h
 ·rcases vr with _|⟨v1,r1⟩;rcases r1 with _|⟨v2,r2⟩;rcases r2 with _|_
  refine(λ Z q=>?_) h.1 h.2;refine xE Z λ l hl=>?_;clear h Z
  refine xE (R.fldsAt hl) λ m Z=>xE Z λ vs J=>(λ hp hm hv=>?_) J.1 J.2.1 J.2.2;clear Z J
  obtain⟨m',d,rfl,hp'⟩:=v1.ref_inv
  rw[hp]at hp';cases hp'
  have hT:s.TypeIs (.ref m) "method":=⟨_,hm,rfl⟩
  refine Mb (codeAny_call_builtin (by decide +kernel) pM ?_)
  rw[sK]
  refine Fp ?_
  unfold Builtin.«iter»
  refine nt (GK (a:=[Value.ref m,_]) rfl ?_)
  dsimp only
  unfold specialOf
  refine nt (nt (Jf hT (GK sJ ?_)))
  rw[if_neg (by simp)]
  refine nt (IQ (nt ?_))
  refine IC (Fp ?_) (by size_fits)
  refine H9.adoptO (t:=s.toks) R (λ b o e=>FH _ e) K9 (λ U=>?_) q
  exact .flds (vs:=[.ref m,_,.bool false]) (Gd _ rfl) (.cons (VR.mono U v1) (.cons (VR.mono U v2) (.cons (.bool false) .nil)))
 ·exact h.elim
noncomputable abbrev pN:I3:=.flds "callable_iterator" [.none,.none,.bool true]
def ot(W:Wld):Nat->Nat->(Option AV->Sto->Prop)->Sto->Prop
 | 0,_,_,_=>False
 | k+1,it,R,V=>(V[it]?=some pN/\R none V)\/
  ∃im f x sv,V[it]?=some (.flds "callable_iterator" [.ref im,.str sv,.bool false])/\V[im]?=some (.flds "method" [.fn f,x])/\(∃o fd,W.K.lookup f=some o/\o.data=.func fd)/\
   M8 W k f [x] (λ y OP=>OP[it]?=V[it]?/\OP[im]?=V[im]?/\∃OJ,y=.str OJ/\(OJ≠sv->R (some y) OP)/\(OJ=sv->R none (OP.set it pN))) V
inductive BP(h0 h:Heap)(O:Mp)(vs:List Value)(x y:AV):Prop
 | mk (u v:_):vs=[u,v]->VR h0 h O u x->VR h0 h O v y->BP h0 h O vs x y
inductive um(h0 h:Heap)(O:Mp)(vs:List Value)(x y z:AV):Prop
 | mk (u v w:_):vs=[u,v,w]->VR h0 h O u x->VR h0 h O v y->VR h0 h O w z->um h0 h O vs x y z
theorem VRs.two{h0:Heap}{y:AV}(r:VRs h0 h O vs [x,y]):BP h0 h O vs x y:=by
 obtain⟨u,vs,rfl,a,r1⟩:=r.cons_inv
 obtain⟨v,vs,rfl,b,r2⟩:=r1.cons_inv
 obtain rfl:=r2.nil_inv
 exact⟨u,v,rfl,a,b⟩
theorem VRs.three{h0:Heap}{y z:AV}(r:VRs h0 h O vs [x,y,z]):um h0 h O vs x y z:=by
 obtain⟨u,vs,rfl,a,r1⟩:=r.cons_inv
 obtain⟨v,w,rfl,b,c⟩:=r1.two
 exact⟨u,v,w,rfl,a,b,c⟩
inductive BQ(W:Wld)(s:Shared)(O:Mp)(a:Addr)(im:Nat)(f:Addr)(x:AV)(sv:List Nat):Prop
 | mk (m t u:_):O[im]?=some (m,m)->s.heap.get? a=some (sI (.ref m) (.str ⟨sv.toArray⟩ t) false)->s.heap.get? m=some (methodObj (.ref f) u)->VR W.h0 s.heap O u x->BQ W s O a im f x sv
theorem uo{it im:Nat}{f:Addr}{sv:List Nat}{a:Addr}(Rp:Rep W V O s)(ha:O[it]?=some (a,a))(h1:V[it]?=some (.flds "callable_iterator" [.ref im,.str sv,.bool false]))(h2:V[im]?=some (.flds "method" [.fn f,x])):
  BQ W s O a im f x sv:=by
 refine xE (Rp.fldsAt h1) λ a' Z=>xE Z λ vs J=>(λ hp ho hv=>?_) J.1 J.2.1 J.2.2;clear Z J
 obtain rfl:a=a':=congrArg Prod.fst (Ft (ha.symm.trans hp))
 obtain⟨v1,v2,v3,rfl,r1,r2,r3⟩:=hv.three
 obtain rfl:=r3.bool_inv
 refine xE r2.str_inv λ t Z=>?_;rcases Z with rfl
 refine xE (Rp.fldsAt h2) λ m Z=>xE Z λ vs J=>(λ hpm hm hvm=>?_) J.1 J.2.1 J.2.2;clear Z J
 obtain⟨m',d,rfl,hp'⟩:=r1.ref_inv
 obtain rfl:m=m':=congrArg Prod.fst (Ft (hpm.symm.trans hp'))
 obtain⟨u1,u2,rfl,q1,q2⟩:=hvm.two
 obtain rfl:=q1.fn_inv
 exact⟨m,t,u2,hpm,ho,hm,q2⟩
inductive pO(W:Wld)(O:Mp)(h:Heap)(R:Option AV->Sto->Prop)(r:Option Value)(s':Shared):Prop
 | none {OP OT:_}:Rep W OP OT s'->E8 W [] O h OT s'.heap->r=Option.none->R .none OP->pO W O h R r s'
 | some {OP OT v x:_}:Rep W OP OT s'->E8 W [] O h OT s'.heap->r=Option.some v->VR W.h0 s'.heap OT v x->R (.some x) OP->pO W O h R r s'
theorem jQ{OT:Mp}{p:Addr×Addr}(h:O[i]?=some p)(g:∃ψ,OT=O++ψ):OT[i]?=some p:=by
 obtain⟨ψ,rfl⟩:=g
 rw[Fs (B3 h)];exact h
theorem E8.grown{X:List Addr}{OT:Mp}(S:E8 W X O h OT h'):∃ψ,OT=O++ψ:=let ⟨ψ,e,_⟩:=S.grow;⟨ψ,e⟩
theorem xA{x y:List Nat}(h:(⟨x.toArray⟩:Str)=⟨y.toArray⟩):x=y:=congrArg (λ s:Str=>s.cps.toList) h
theorem pP{it:Nat}{R:Option AV->Sto->Prop}{a:Addr}(ro:N3 k A)(Rp:Rep W V O s)(ha:O[it]?=some (a,a))(h:ot W k it R V):
  wpAny W.M A (pyNext (.ref a)) (pO W O s.heap R) NoE s:=by
 cases k with
 | zero=>exact h.elim
 | succ k=>
  rcases h with⟨h1,h2⟩|⟨im,f,x,sv,h1,h2,⟨of,fd,h3,h3'⟩,h4⟩
  ·refine xE (Rp.fldsAt h1) λ a' Z=>xE Z λ vs J=>(λ hp ho hv=>?_) J.1 J.2.1 J.2.2;clear Z J
   obtain rfl:a=a':=congrArg Prod.fst (Ft (ha.symm.trans hp))
   obtain⟨v1,v2,v3,rfl,r1,r2,r3⟩:=hv.three
   obtain rfl:=r3.bool_inv
   exact uj ro.handled ho λ h' hk=>.none (Rp.grow (t:=s.toks) hk).1 (Q7 hk) rfl h2
  ·obtain⟨m,t,u,hpm,ho,hm,vu⟩:=uo Rp ha h1 h2
   refine ui ro.handled ho hm (Rp.kin _ _ h3) h3' (Jd (h4.run ro.in1 Rp (.cons vu .nil)) λ r s' z=>?_)
   clear h4 ho hm vu
   induction r with
   | error e=>exact z.elim
   | ok fl=>
    induction fl with
    | ret v=>
     obtain⟨OP,OT,y,⟨e1,e2,OJ,rfl,q1,q2⟩,R',vy,S'⟩:=z
     have ha':=jQ ha S'.grown
     obtain⟨m',t',u',hp',ho',hm',vu'⟩:=uo R' ha' (e1.trans h1) (e2.trans h2)
     obtain rfl:m=m':=congrArg Prod.fst (Ft ((jQ hpm S'.grown).symm.trans hp'))
     refine xE vy.str_inv λ tv Z=>?_;rcases Z with rfl
     refine⟨⟨_,ho'⟩,⟨_,hm'⟩,⟨of,fd,R'.kin _ _ h3,h3'⟩,_,tv,rfl,λ hne=>?_,λ he h' hx hn=>?_⟩
     ·exact .some R' S' rfl vy (q1 λ e=>hne (by rw[e]))
     ·obtain⟨OY,OX,Pg⟩:=R'.updE (o':=pN) (d:=s'.drawn) (t:=s'.toks) (by rw[<- R'.len];exact B3 ha') ha' hx (λ U=>.flds (vs:=[.none,.none,.bool true]) hn (.cons .none (.cons .none (.cons (.bool true) .nil))))
      exact .none OY (S'.trans OX) rfl (q2 (xA he))
    | _=>exact z.elim
def jR(g:GT)(body:ST)(I:Nat->List AV->Sto->Prop)(Q:G3->List AV->Sto->Prop)(n:Nat)(st:List AV):Option AV->Sto->Prop
 | none,V=>Q .next st V
 | some x,V=>g x st (λ Po ON=>body Po (λ fl Pq OS=>match fl with
  | .next=>∃m,m<n/\I m Pq OS
  | .cont=>∃m,m<n/\I m Pq OS
  | .brk=>Q .next Pq OS
  | .ret v=>Q (.ret v) Pq OS) ON) V
def gw(W:Wld)(k:Nat)(p:PT)(g:GT)(body:ST):ST:=λ st Q V=>p st (λ x ON=>∃j,x=.ref j/\∃(I:Nat->List AV->Sto->Prop) (n:Nat),I n st ON/\∀n st V,I n st V->
 (∃l,V[j]?=some (.flds "callable_iterator" l))/\ot W k j (jR g body I Q n st) V) V
inductive FcI(W:Wld)(F:Fm)(env:Env)(O:Mp)(h:Heap)(I:Nat->List AV->Sto->Prop)(j a n:Nat)(s':Shared):Prop
 | mk {OP OT st':_}:I n st' OP->Rep W OP OT s'->FrR W F env st' s'.heap OT->E8 W (frX env) O h OT s'.heap->OT[j]?=some (a,a)->FcI W F env O h I j a n s'
theorem sL{y:Str}{py:Pos}{body:List Stmt}{g:GT}{b:ST}(hg:dN W k F (.Name y py) g)(hb:O0 W k F body b){Q:G3->List AV->Sto->Prop}{I:Nat->List AV->Sto->Prop}{a:Nat}(ro:N3 k A)
  (step:∀n st V,I n st V->(∃l,V[j]?=some (.flds "callable_iterator" l))/\ot W k j (jR g b I Q n st) V)(h0:FcI W F env O h I j a n s):codeAny W.M A (.forLoop (.Name y py) (.ref a) body [] env) (mz W F env O h Q) s:=by
 refine MQ (FcI W F env O h I j a) (λ n OQ hI'=>?_) n h0
 clear h0
 obtain⟨hI,OY,Ph,OX,QK⟩:=hI'
 refine Fy (pP ro OY QK (step _ _ _ hI).2) (λ r Pj z=>?_) λ Y Y x=>x.elim
 induction z with
 | none Pf Pe e z=>
  subst e
  exact KN ⟨_,_,_,.next,z,Pf,.next,Ph.step0 Pe (OY.sub0 Pe),OX.trans (wk Pe)⟩
 | some Pf Pe e vx hq=>
  subst e
  have Py:=Ph.step0 Pe (OY.sub0 Pe)
  show wpAny _ A (pure ()) _ _ _
  refine Fp ?_
  refine Fy (hg.run ro Pf Py vx hq (P:=λ Y OQ=>_) λ PE Pz PN Qf q PB PG PC PU=>?_) (λ Y Y x=>x) λ Y Y x=>x.elim
  refine Fy (hb.run ro PB PG q) (λ fl PO hp=>?_) λ Y Y x=>x.elim
  obtain⟨PA,Px,QL,gf,q,PH,fr,Qb,PJ⟩:=hp
  have Sc:=(wk (OL:=frX env) Pe).trans (PC.trans PJ)
  have Sb:=OX.trans Sc
  have QM:=jQ QK Sc.grown
  induction fr with
  | next=>refine xE q λ m Z=>(λ hm hI=>?_) Z.1 Z.2;clear q Z;exact⟨m,hm,.mk hI PH Qb Sb QM⟩
  | cont=>refine xE q λ m Z=>(λ hm hI=>?_) Z.1 Z.2;clear q Z;exact⟨m,hm,.mk hI PH Qb Sb QM⟩
  | brk=>exact⟨PA,Px,QL,.next,q,PH,.next,Qb,Sb⟩
  | ret vr=>exact⟨PA,Px,QL,.ret _,q,PH,.ret vr,Qb,Sb⟩
theorem uq{y:Str}{py:Pos}{iter:Expr}{body:List Stmt}{pos:Pos}{p:PT}{g:GT}{b:ST}(hi:J0 W k F iter p)(hg:dN W k F (.Name y py) g)(hb:O0 W k F body b)(hs:∀env x,foldedSetIterable iter env x=pure x):
  O6 W k F (.For (.Name y py) iter body [] pos) (gw W k p g b):=by
 intro A env s V O st Q ro R f h
 show wpAny _ A (do
  standAt pos
  let x <- foldedSetIterable iter env (<- eval iter env)
  standAt iter.pos
  runOwn (.forLoop (.Name y py) (<- holding [x] (pyIter x)) body [] env) env) _ _ s
 refine nt (GH (nt (hi.then ro R f h λ v OQ ON OV x q OR OW vx OU Pb=>?_)))
 rw[hs env v]
 refine xE q λ j Z=>?_;rcases Z with⟨rfl,I,n,h0,step⟩;clear q
 obtain⟨a,d,rfl,hp⟩:=vx.ref_inv
 refine xE ((step n st ON h0).1) λ l hl=>?_
 refine xE (OR.fldsAt hl) λ a' Z=>xE Z λ vs J=>(λ hp' ho hv=>?_) J.1 J.2.1 J.2.2;clear Z J
 obtain⟨rfl,rfl⟩:=Prod.mk.inj (Ft (hp.symm.trans hp'))
 refine nt (Fp (nt (GH (nt (Gl (uh ho rfl ?_))))))
 exact wpAny_runOwn (Jd (sL hg hb ro step (.mk h0 OR OW (wk OU) hp)) λ r s' hr=>by
  induction r with
  | ok fl=>exact hr
  | error e=>exact hr.elim)
theorem Rep.bare(R:Rep W V O s):Rep W [] [] s:=⟨rfl,(by intro i o p h;simp at h),by simp,by simp,R.old,R.gens,R.os,R.stat⟩
theorem Rep.regrow{s':Shared}(R:Rep W V O s)(R0:Rep W [] [] s')(S:E8 W [] [] s.heap [] s'.heap):Rep W V O s'/\E8 W [] O s.heap O s'.heap:=by
 have keep:∀a o,s.heap.get? a=some o->(o.cls≠.none\/W.h0.get? a=none)->s'.heap.get? a=some o:=λ a o e c=>S.keep a o e c FO FO
 have Sb:Sub s.heap O s'.heap O:=⟨λ a vs n t=>keep _ _ t (.inl (by intro e;cases e)),[],(FL _).symm⟩
 refine⟨⟨R.len,λ i o p hx hp=>?_,R.nd,R.new,R0.old,R0.gens,R0.os,R0.stat⟩,⟨λ a o e c Y Y=>keep a o e c,⟨[],(FL _).symm,λ Y h=>absurd h FO⟩,S.live⟩⟩
 have r:=R.obj i o p hx hp
 refine xE r.own λ y Z=>(λ hy hd J=>?_) Z.1 Z.2.1 Z.2.2;clear Z
 have hn:=R.new p (FD hp)
 have h2:=keep _ _ hy (.inr hn)
 refine xE r.main λ z hz=>?_
 refine bB r Sb ((keep _ _ hz ?_).trans hz.symm) (h2.trans hy.symm)
 induction r with
 | inst _ _ a _ _=>exact .inl (Ft (hz.symm.trans a)▸(by intro e;cases e))
 | _=>exact .inr hn
section
variable {prog:Program}{w:World}{A:Around}{R:Result->Shared->Prop}{s:Shared}
theorem ou{elt target iter:Expr}{ifs:List Expr}{scope:Scope}{pos:Pos}{it acc:Value}(I:Nat->Shared->Prop)
  (turn:∀n s,I n s->wpAny (model prog w) A (pyNext it) (λ r OQ=>match r with
   | none=>R (.ok .next) OQ
   | some v=>wpAny (model prog w) A (letOwnedTupleGo target it v) (λ Y Qi=>wpAny (model prog w) A (assign target env v) (λ Y Pl=>
     wpAny (model prog w) A (forIn ifs true λ c r=>if r=true then do let ok <- isTrue c env (eval c env);pure (ForInStep.yield ok)else pure (ForInStep.yield r)) (λ ok Pj=>
      if ok=true then wpAny (model prog w) A (eval elt env) (λ x PE=>
       wpAny (model prog w) A (call (.builtin "list.append") [acc,x]) (λ Y PO=>∃m,m<n/\I m PO) NoE PE) NoE Pj
      else ∃m,m<n/\I m Pj) NoE Pl) NoE Qi) NoE OQ) NoE s)
  (n:Nat)(h:I n s):
  codeAny (model prog w) A (.compLoop (.ListComp elt [⟨target,iter,ifs,0⟩] scope pos) 0 it acc env) R s:=by
 refine codeAny_loop rfl I (λ n s hI=>?_) n h
 show wpAny _ A ((compTurn (.ListComp elt [⟨target,iter,ifs,0⟩] scope pos) 0 it acc env).onRaise (λ x=>do noteFrame x env;theTreesLotGoes x)) _ _ s
 refine wpAny_noted ?_
 rw[compTurn_list]
 refine nt (GH (nt (Fy (turn n s hI) (λ r OQ Pt=>?_) λ Y Y h'=>h'.elim)))
 induction r with
 | none=>exact Fp Pt
 | some v=>
  refine nt (Fy Pt (λ Y Qi Pt=>?_) λ Y Y h'=>h'.elim)
  refine nt (Fy Pt (λ Y Pl Ru=>nt (Fy Ru (λ ok Pj Qj=>?_) λ Y Y h'=>h'.elim)) λ Y Y h'=>h'.elim)
  induction ok with
  | false=>exact Fp ⟨rfl,Qj⟩
  | true=>
   exact nt (nt (Fy Qj (λ x PE Rw=>nt (Fy Rw (λ Y PO Rx=>Fp (Fp ⟨rfl,Rx⟩)) λ Y Y h'=>h'.elim)) λ Y Y h'=>h'.elim))
end
noncomputable def zFm(F:Fm)(scope:Scope)(xa xb:Str):Fm:=⟨i9 scope F.scope,[(xa,0),(xb,1)]⟩
noncomputable def zOk(scope:Scope)(xa xb:Str):Bool:=
 (scope.kind==.function)&&(decide (scope.names.map (·.1)).Nodup&&(scope.names.all (λ p=>!(p.2==.cell) && !(p.2==.free))&&(scope.names.lookup xa==some .local&&(scope.names.lookup xb==some .local && !(xa==xb)))))
structure ZmI(scope:Scope)(xa xb:Str):Prop where
 kind:scope.kind=.function
 nnd:(scope.names.map (·.1)).Nodup
 plain:∀p∈scope.names,p.2≠.cell/\p.2≠.free
 ka:scope.names.lookup xa=some .local
 kb:scope.names.lookup xb=some .local
 ne:xa≠xb
theorem z9{scope:Scope}{xa xb:Str}(h:zOk scope xa xb=true):ZmI scope xa xb:=by
 unfold zOk at h
 simp only[Gn,Jk,beq_iff_eq,HJ,beq_eq_false_iff_ne,decide_eq_true_eq]at h
 refine(λ h1 h2 h3 h4 h5 h6=>?_) h.1 h.2.1 h.2.2.1 h.2.2.2.1 h.2.2.2.2.1 h.2.2.2.2.2;clear h
 exact⟨h1,h2,λ p hp=>h3 p hp,h4,h5,h6⟩
theorem c9{scope:Scope}{xa xb:Str}(I:ZmI scope xa xb)(y:Str):(zFm F scope xa xb).scope.names.lookup y=scope.names.lookup y:=by
 show(i9 scope F.scope).names.lookup y=_
 rw[cn]
 cases h:scope.names.lookup y with
 | none=>rfl
 | some k=>
  have:=I.plain _ (mem_of_lookup h)
  cases k <;> first|rfl|exact(this.2 rfl).elim
theorem ji{scope:Scope}{xa xb x:Str}{P:Str->Nat->Prop}(h:(zFm F scope xa xb).slots.lookup x=some i)(h0:P xa 0)(h1:P xb 1):P x i:=by
 have:=mem_of_lookup h
 simp only[zFm,Fv,MW,FO,or_false]at this
 rcases this with⟨rfl,rfl⟩|⟨rfl,rfl⟩ <;> assumption
theorem zFr{scope:Scope}{xa xb:Str}{cenv:Env}{m:Str->Option Value}(I:ZmI scope xa xb)(e1:cenv.scope=i9 scope F.scope)(e3:cenv.globals=mainGlobals)(e4:cenv.builtins=builtinsNs)(e5:cenv.cells=[])
  (hn:h.Ns cenv.locals m)(h0:W.h0.get? cenv.locals=none):FrR W (zFm F scope xa xb) cenv [.undef,.undef] h []:=
 have no:∀{p},p∈cenv.cells->False:=λ h=>FO (e5▸h)
 ⟨e1,I.kind,e3,e4,hn.elim λ o z=>z.elim λ Y z=>z.elim λ Y z=>⟨m,o,hn,z.1,λ x i hx=>ji (P:=λ x i=>(zFm F scope xa xb).scope.names.lookup x=some .local->∀y,([.undef,.undef]:List AV)[i]?=some y->y≠.undef->∃v,m x=some v/\VR W.h0 h [] v y) hx (λ Y Y hy hu=>(hu (Ft hy).symm).elim) λ Y Y hy hu=>(hu (Ft hy).symm).elim⟩,
  λ p hp=>(no hp).elim,λ x i hx hk=>(hk.elim (λ hk=>(I.plain _ (mem_of_lookup (c9 I _▸hk))).1 rfl) λ hk=>(I.plain _ (mem_of_lookup (c9 I _▸hk))).2 rfl).elim,FO,λ p hp=>(no hp).elim,λ x y c hx=>(no (mem_of_lookup hx)).elim,
  λ x y i hx hy=>ji (P:=λ x i=>(zFm F scope xa xb).slots.lookup y=some i->x=y) hx (λ h=>ji (P:=λ y i=>i=0->xa=y) h (λ Y=>rfl) (λ e=>absurd e (by decide)) rfl) (λ h=>ji (P:=λ y i=>i=1->xb=y) h (λ e=>absurd e (by decide)) (λ Y=>rfl) rfl) hy,h0,λ p hp=>(no hp).elim⟩
def ZN(n c:Nat):Prop:=c<n\/c=n+2\/n+5<=c
theorem ZN.ne{c:Nat}(h:ZN n c):c≠n+4/\c≠n+3/\c≠n/\c≠n+1:=by unfold ZN at h;lia
structure ZT(n l1 l2:Addr)(xs ys:Array Value)(i:Nat)(h:Heap):Prop where
 D:ZipApart (n+4) (n+2) (n+3) n (n+1) l1 l2
 lt1:l1<n
 lt2:l2<n
 hz:IsZip h (n+4) (n+2) (n+3) .none
 hTI:IsPair h (n+2) (.ref n) (.ref (n+1))
 hTO:∃a b,IsPair h (n+3) a b
 h1:h.IsListIter n l1 i
 h2:h.IsListIter (n+1) l2 i
 hl1:h.IsList l1 xs
 hl2:h.IsList l2 ys
theorem gx{a:Addr}{xs:Array Value}(H:h.IsList a xs)(k:∀o,o.cls≠.none->h.get? a=some o->h'.get? a=some o):h'.IsList a xs:=
 let ⟨o,e,c,r⟩:=H;⟨o,k o (by rw[c];intro e;cases e) e,c,r⟩
theorem gy{a l:Addr}(H:h.IsListIter a l i)(k:∀o,o.cls≠.none->h.get? a=some o->h'.get? a=some o):h'.IsListIter a l i:=
 let ⟨o,e,c,r⟩:=H;⟨o,k o (by rw[c];intro e;cases e) e,c,r⟩
theorem ZT.keep{n l1 l2:Addr}{xs ys:Array Value}(OK:ZT n l1 l2 xs ys i h)(k:∀c o,@LT.lt Nat _ c (n+5)->o.cls≠.none->h.get? c=some o->h'.get? c=some o):ZT n l1 l2 xs ys i h':=
 have u:∀{c},@LT.lt Nat _ c n->@LT.lt Nat _ c (n+5):=λ h=>Fo h (Fi ..)
 let ⟨a,b,hTO⟩:=OK.hTO
 ⟨OK.D,OK.lt1,OK.lt2,k _ _ (FY _) (by intro e;cases e) OK.hz,k _ _ (GX (by decide) n) (by intro e;cases e) OK.hTI,⟨a,b,k _ _ (GX (by decide) n) (by intro e;cases e) hTO⟩,
  gy OK.h1 λ o=>k _ o (Hz (by decide)),gy OK.h2 λ o=>k _ o (GX (by decide) n),gx OK.hl1 λ o=>k _ o (u OK.lt1),gx OK.hl2 λ o=>k _ o (u OK.lt2)⟩
theorem ur{prog:Program}{w:World}{l1 l2:Nat}{xs ys:Array Value}{x y:Value}{elts:List Expr}{kt:Nat}{pt:Pos}{R0:Shared->Prop}{K:Value->Shared->Prop}(OK:ZT n l1 l2 xs ys i s.heap)(hx:xs[i]?=some x)(hy:ys[i]?=some y)(hs:n+5<=s.heap.objs.size)
  (go:∀h',(∀c o,ZN n c->s.heap.get? c=some o->h'.get? c=some o)->ZT n l1 l2 xs ys (i+1) h'->IsPair h' s.heap.objs.size x y->K (.ref s.heap.objs.size) { s with heap:=h' }):
  wpAny (model prog w) A (pyNext (.ref (n+4))) (λ r OQ=>match r with
   | none=>R0 OQ
   | some v=>wpAny (model prog w) A (letOwnedTupleGo (.Tuple elts kt pt) (.ref (n+4)) v) (λ Y Qi=>K v Qi) NoE OQ) NoE s:=by
 refine xE OK.hTO λ a Z=>xE Z λ b hTO=>?_;clear Z
 refine wpAny_pyNext_zip_item OK.D OK.hz OK.hTI hTO OK.h1 OK.h2 OK.hl1 OK.hl2 hx hy λ h' a1 a2 a3 a4 a5 a6 a7=>?_
 refine wpAny_letOwnedTupleGo_zip a1 λ h'' b1 b2=>?_
 have k2:∀{c o},c≠n+4->h'.get? c=some o->h''.get? c=some o:=λ q e=>(b2.2 _ q).trans e
 have kT:∀c o,ZN n c->s.heap.get? c=some o->h''.get? c=some o:=λ c o z e=>let ⟨q1,q2,q3,q4⟩:=z.ne;k2 q1 (a7 c o q1 q2 q3 q4 e)
 refine go h'' kT ⟨OK.D,OK.lt1,OK.lt2,b1,kT _ _ (.inr (.inl rfl)) OK.hTI,⟨_,_,k2 (FP (FY _)) a2⟩,gy a3 λ o Y=>k2 (FP (Hz (by decide))),gy a4 λ o Y=>k2 (FP (GX (by decide) n)),
  gx OK.hl1 λ o Y=>kT _ o (.inl OK.lt1),gx OK.hl2 λ o Y=>kT _ o (.inl OK.lt2)⟩ (k2 (FU hs) a5)
noncomputable def fR(l m:List Int):List Int:=((l.zip m).filter λ p=>decide (p.2<=p.1)).map (·.1)
def M5(p:PTs):PT:=λ st Q V=>p st (λ xs ON=>∃i j l m,xs=[.ref i,.ref j]/\lst ON i=some (l.map .int)/\lst ON j=some (m.map .int)/\l.length=m.length/\l.length<lim/\Q (.ref ON.length) (ON++[.list ((fR l m).map .int)])) V
theorem oy{h0:Heap}{l:List Int}(r:VRs h0 h O vs (l.map .int)){a:Int}(e:l[i]?=some a):∃t,vs[i]?=some (.int a t):=by
 obtain⟨v,h1,h2⟩:=r.get (i:=i) (x:=.int a) (by rw[FK,e];rfl)
 obtain⟨t,rfl⟩:=h2.int_inv
 exact⟨t,h1⟩
theorem ad{a b:Nat}(h:a≠b):@Ne Addr a b:=h
theorem sM{Pk:Heap}(K:OldK Pk h)(hs:∀b o Ql,Pk.get? b=some Ql->h.get? b=some o->h'.get? b=some o):OldK Pk h':=by
 refine⟨λ b o e=>?_,λ b o e=>let ⟨o',ho'⟩:=K.there b o e;⟨o',hs b o' o e ho'⟩⟩
 rcases K.old b o e with x|⟨t,hc,vs,more,hv,x⟩|⟨rfl,hc,⟨o',es,n,ho',r⟩,z⟩
 ·exact .inl (hs b o o e x)
 ·exact .inr (.inl ⟨t,hc,vs,more,hv,hs b _ o e x⟩)
 ·refine .inr (.inr ⟨rfl,hc,⟨o',es,n,hs _ _ o e ho',r⟩,λ key=>?_⟩)
  rw[MP ((hs _ _ o e ho').trans ho'.symm) key]
  exact z key
theorem Rep.bareK(R:Rep W [] [] s)(hs:∀b o Ql,W.h0.get? b=some Ql->s.heap.get? b=some o->h'.get? b=some o):Rep W [] [] { s with heap:=h' }:=by
 refine xE R.stat λ o Z=>(λ h1 h2=>?_) Z.1 Z.2;clear Z
 exact⟨rfl,(by intro i o p h;simp at h),by simp,by simp,sM R.old hs,R.gens,R.os,⟨o,h1,hs _ _ _ h1 h2⟩⟩
def IV(vs:List Value)(ns:List Int):Prop:=∀(h0 h:Heap) (O:Mp),VRs h0 h O vs (ns.map .int)
theorem uu{l m:List Int}{a b:Int}(ha:l[i]?=some a)(hb:m[i]?=some b):fR (l.take (i+1)) (m.take (i+1))=fR (l.take i) (m.take i)++if b<=a then[a]else[]:=by
 have h1:=(FC.mp ha).1
 have h2:=(FC.mp hb).1
 unfold fR
 rw[Ko,Ko,ha,hb]
 rw[List.zip_append (by simp;lia)]
 simp only[Option.toList,Kd,Nd,HB,FG,Lw,NZ,decide_eq_true_eq]
 split <;> rfl
inductive ZI(W:Wld)(Pt:Heap)(n l1 l2:Addr)(us ws:List Value)(l m:List Int)(cnt:Nat)(s':Shared):Prop
 | mk {i vs' nD mm:_}:cnt+i=l.length->Rep W [] [] s'->E8 W [] [] Pt [] s'.heap->ZT n l1 l2 us.toArray ws.toArray i s'.heap->IsL s'.heap (n+5) vs'.toArray nD->IV vs' (fR (l.take i) (m.take i))->vs'.length<=i->s'.heap.Ns (n+6) mm->ZI W Pt n l1 l2 us ws l m cnt s'
structure ZX(W:Wld)(Pt:Heap)(n:Nat):Prop where
 lt:∀{c o},Pt.get? c=some o->@LT.lt Nat _ c n
 fr0:∀{a},@LE.le Nat _ n a->W.h0.get? a=none
theorem ZX.old{Pt:Heap}{c:Nat}{o:Obj}(X:ZX W Pt n)(e:W.h0.get? c=some o):c<n:=by
 rcases IH c n with q|q
 ·exact q
 ·exact G9 ((X.fr0 q).symm.trans e)
theorem ZX.step{Pt:Heap}(X:ZX W Pt n)(S:E8 W [] [] Pt [] h)(hk:∀c o,@LT.lt Nat _ c n->(o.cls≠.none\/W.h0.get? c=none)->h.get? c=some o->h'.get? c=some o)(hl:∀c o,@LT.lt Nat _ c n->h.get? c=some o->∃o',h'.get? c=some o'):E8 W [] [] Pt [] h':=
 ⟨λ c o e cd a b=>hk c o (X.lt e) cd (S.keep c o e cd a b),⟨[],rfl,λ Y h=>absurd h FO⟩,λ c o e=>let ⟨o1,e1⟩:=S.live c o e;hl c o1 (X.lt e) e1⟩
theorem qK{Pt h'' h6:Heap}{l1 l2 nD:Nat}{us ws:List Value}{l m:List Int}{s5:Shared}{mm:Str->Option Value}(X:ZX W Pt n)(S':E8 W [] [] Pt [] h)(kT:∀c o,ZN n c->h.get? c=some o->h''.get? c=some o)(Z2:ZT n l1 l2 us.toArray ws.toArray (i+1) h'')
  (T:E8 W [n+6] [] h'' [] s5.heap)(R5:Rep W [] [] s5)(hN:s5.heap.Ns (n+6) mm)(hs:Heap.SameBut (n+5) s5.heap h6)(hL:IsL h6 (n+5) vs.toArray nD)(hv:IV vs (fR (l.take (i+1)) (m.take (i+1))))(hl:vs.length<=i+1)(hi:i<l.length):
  ∃c,c<l.length-i/\ZI W Pt n l1 l2 us ws l m c { s5 with heap:=h6 }:=by
 have k6:∀c o,c≠n+5->s5.heap.get? c=some o->h6.get? c=some o:=λ c o q e=>(hs.2 c q).trans e
 have kk:∀c o,@LT.lt Nat _ c (n+5)->(o.cls≠.none\/W.h0.get? c=none)->h''.get? c=some o->h6.get? c=some o:=λ c o lt cd e=>
  k6 c o (FP lt) (T.keep c o e cd FO λ q=>FP (Hq lt) (Fh.mp q))
 have u:∀{c},@LT.lt Nat _ c n->@LT.lt Nat _ c (n+5):=λ h=>Fo h (Fi ..)
 obtain⟨o,es',ep,ho,r⟩:=hN
 refine⟨l.length-(i+1),KR hi (FY _),.mk (Ke hi) (R5.bareK λ c o Ql e0 e=>k6 c o (FP (u (X.old e0))) e)
  (X.step S' (λ c o lt cd e=>kk c o (u lt) cd (kT c o (.inl lt) e)) λ c o lt e=>?_) (Z2.keep λ c o lt cd e=>kk c o lt (.inl cd) e) hL hv hl ⟨o,es',ep,k6 _ _ (FU (FY _)) ho,r⟩⟩
 obtain⟨o2,e2⟩:=T.live c o (kT c o (.inl lt) e)
 exact⟨o2,k6 c o2 (FP (u lt)) e2⟩
theorem J0.run0{e:Expr}{p:PT}(E:J0 W k F e p)(ro:N3 k A)(R:Rep W [] [] s)(f:FrR W F env st s.heap [])(h:p st (λ c V=>c=x/\V=[]) []):
  wpAny W.M A (eval e env) (λ v s'=>VR W.h0 s'.heap [] v x/\Rep W [] [] s'/\FrR W F env st s'.heap []/\E8 W [] [] s.heap [] s'.heap) NoE s:=
 Fy (E.run ro R f h) (λ v s' z=>by
  obtain⟨V,O,y,⟨rfl,rfl⟩,R',vx,S⟩:=z
  obtain rfl:O=[]:=HL R'.len
  exact⟨vx,R',f.step0 S (R.sub0 S),S⟩) λ Y Y x=>x
theorem dP.run0{ifs:List Expr}{t:TT}(E:dP W k F ifs t){x:Bool}(ro:N3 k A)(R:Rep W [] [] s)(f:FrR W F env st s.heap [])(h:t st (λ c V=>c=x/\V=[]) []){Q:Bool->Shared->Prop}
  (go:∀s',Rep W [] [] s'->FrR W F env st s'.heap []->E8 W [] [] s.heap [] s'.heap->Q x s'):
  wpAny W.M A (forIn ifs true λ c r=>if r=true then do let ok <- isTrue c env (eval c env);pure (ForInStep.yield ok)else pure (ForInStep.yield r)) Q NoE s:=
 Fy (E.run ro R f h) (λ v s' z=>by
  obtain⟨V,O,⟨rfl,rfl⟩,R',S⟩:=z
  obtain rfl:O=[]:=HL R'.len
  exact go s' R' (f.step0 S (R.sub0 S)) S) λ Y Y x=>x
theorem dN.run0{g:Expr}{p:GT}(E:dN W k F g p){st':List AV}{P:Unit->Shared->Prop}(ro:N3 k A)(R:Rep W [] [] s)(f:FrR W F env st s.heap [])(vx:VR W.h0 s.heap [] v x)(h:p x st (λ z V=>z=st'/\V=[]) [])
  (go:∀s',Rep W [] [] s'->FrR W F env st' s'.heap []->E8 W (frX env) [] s.heap [] s'.heap->P () s'):wpAny W.M A (assign g env v) P NoE s:=by
 refine E.run ro R f vx h λ s3 Qe RN st3 q3 R3 f3 S3 U3=>?_
 obtain⟨rfl,rfl⟩:=q3
 obtain rfl:RN=[]:=HL R3.len
 exact go s3 R3 f3 S3
theorem uv{xa xb:Str}{pa pb pt:Pos}{kt:Nat}{test elt:Expr}{scope:Scope}(I:ZmI scope xa xb)(ht:bg W k (zFm F scope xa xb) test (D7 .GtE (A5 0) (A5 1)))(he:J0 W k (zFm F scope xa xb) elt (A5 0))
  (ro:N3 k A){Pt h'':Heap}{l1 l2 nD:Nat}{us ws vs':List Value}{l m:List Int}{mm:Str->Option Value}{av bv:Int}{t u:Tok}{cenv:Env}{T:Addr}(X:ZX W Pt n)(c1:cenv.scope=i9 scope F.scope)(c2:cenv.locals=n+6)(c3:cenv.globals=mainGlobals)(c4:cenv.builtins=builtinsNs)(c5:cenv.cells=[])
  (R:Rep W [] [] { s with heap:=h })(S':E8 W [] [] Pt [] h)(kT:∀c o,ZN n c->h.get? c=some o->h''.get? c=some o)(Z2:ZT n l1 l2 us.toArray ws.toArray (i+1) h'')(hT:IsT h'' T ([.int av t,.int bv u]:List Value).toArray 0)
  (hD:IsL h (n+5) vs'.toArray nD)(hiv:IV vs' (fR (l.take i) (m.take i)))(hvl:vs'.length<=i)(hNs:h.Ns (n+6) mm)(hlt:i<l.length)(hll:l.length<lim)(ha:l[i]?=some av)(hb:m[i]?=some bv):
  wpAny W.M A (assign (.Tuple [.Name xa pa,.Name xb pb] kt pt) cenv (.ref T)) (λ Y Pl=>
   wpAny W.M A (forIn [test] true λ c r=>if r=true then do let ok <- isTrue c cenv (eval c cenv);pure (ForInStep.yield ok)else pure (ForInStep.yield r)) (λ ok Pj=>
    if ok=true then wpAny W.M A (eval elt cenv) (λ x PE=>wpAny W.M A (call (.builtin "list.append") [.ref (n+5),x]) (λ Y PO=>∃c,c<l.length-i/\ZI W Pt n l1 l2 us ws l m c PO) NoE PE) NoE Pj
    else ∃c,c<l.length-i/\ZI W Pt n l1 l2 us ws l m c Pj) NoE Pl) NoE { s with heap:=h'' }:=by
 have sa:dB (zFm F scope xa xb) xa 0=true:=by unfold dB;rw[c9 I,I.ka];simp[zFm]
 have sb:dB (zFm F scope xa xb) xb 1=true:=by unfold dB;rw[c9 I,I.kb];simp[zFm,HD,beq_false_of_ne (HE I.ne)]
 have hg:dN W k (zFm F scope xa xb) (.Tuple [.Name xa pa,.Name xb pb] kt pt) (J8 (J9 2 (D9 (B4 0) (D9 (B4 1) J7)))):=nW (Z6 (sk sa) (Z6 (sk sb) nV rfl) rfl) rfl rfl
 have z6:ZN n (n+6):=.inr (.inr (HS _))
 have z5:ZN n (n+5):=.inr (.inr (Fn _))
 have R2:Rep W [] [] { s with heap:=h'' }:=R.bareK λ c o Ql e0 e=>kT c o (.inl (X.old e0)) e
 have hNs2:h''.Ns cenv.locals mm:=by
  rw[c2]
  rcases hNs with⟨o,es',ep,ho,r⟩
  exact⟨o,es',ep,kT _ _ z6 ho,r⟩
 have f2:=zFr (W:=W) (F:=F) I c1 c3 c4 c5 hNs2 (by rw[c2];exact X.fr0 (Fi ..))
 have X3:frX cenv=[n+6]:=by unfold frX;rw[c5,c2];rfl
 have hL2:IsL h'' (n+5) vs'.toArray nD:=kT _ _ z5 hD
 have hzn:=uu ha hb
 have keepL:∀{h5:Heap},E8 W [n+6] [] h'' [] h5->IsL h5 (n+5) vs'.toArray nD:=λ T=>T.keep _ _ hL2 (.inl (by intro e;cases e)) FO λ q=>FP (FY _) (Fh.mp q)
 refine hg.run0 (st':=[.int av,.int bv]) (s:={ s with heap:=h'' }) ro R2 f2 (.tup hT (.cons (.int av t) (.cons (.int bv u) .nil))) ⟨rfl,rfl,rfl⟩ λ s3 R3 f3 S3=>(pI ht).run0 (x:=decide (bv<=av)) ro R3 f3 ⟨rfl,rfl⟩ λ s4 R4 f4 S4=>?_
 clear f2 R2 hT
 rw[X3]at S3
 have T4:E8 W [n+6] [] h'' [] s4.heap:=S3.trans (wk S4)
 clear f3 R3 S3 S4
 by_cases hba:bv<=av
 ·rw[if_pos hba]at hzn
  rw[decide_eq_true hba,if_pos rfl]
  refine Fy (he.run0 (x:=.int av) ro R4 f4 ⟨rfl,rfl⟩) (λ v s5 z5=>?_) λ Y Y x=>x
  refine xE z5.1.int_inv λ t5 e5=>e5▸xE z5.2.2.1.ns λ m5 z=>xE z λ o5 hN5=>?_
  have T5:=T4.trans (wk z5.2.2.2)
  refine LI ⟨nD,keepL T5⟩ (λ h6 hp hs=>xE hp λ n6 hp=>?_) (fp (fp hvl (FE (FF hlt hll))) O5)
  exact qK X S' kT Z2 T5 z5.2.1 (c2▸hN5.1) hs (vs:=vs'++[.int av t5]) (by rw[List.push_toArray]at hp;exact hp) (by rw[hzn];intro h0 h O;rw[FG];exact(hiv h0 h O).append (.cons (.int av t5) .nil)) (by rw[Fc];exact Fq hvl) hlt
 ·rw[if_neg hba,FL]at hzn
  rw[decide_eq_false hba,if_neg Hi]
  exact xE f4.ns λ m4 z=>xE z λ o4 hN4=>qK (s5:=s4) (h6:=s4.heap) X S' kT Z2 T4 R4 (c2▸hN4.1) ⟨rfl,λ Y Y=>rfl⟩ (keepL T4) (by rw[hzn];exact hiv) (GD hvl) hlt
theorem uw{nD:Nat}{vs':List Value}{l m:List Int}{OQ s':Shared}{ON:Sto}{OV:Mp}{h7:Heap}(X:ZX W OQ.heap n)(hn:OQ.heap.objs.size=n)(OR:Rep W ON OV OQ)(OU:E8 W [] O s.heap OV OQ.heap)(q:Q (.ref ON.length) (ON++[.list ((fR l m).map .int)]))(hml:l.length=m.length)
  (R':Rep W [] [] s')(S':E8 W [] [] OQ.heap [] s'.heap)(hD':IsL s'.heap (n+5) vs'.toArray nD)(hiv:IV vs' (fR (l.take l.length) (m.take l.length)))(k7:∀c o,ZN n c->c≠n+6->s'.heap.get? c=some o->h7.get? c=some o):H9 W [] O s.heap Q (.ref (n+5)) { s' with heap:=h7 }:=by
 have u:∀{c},@LT.lt Nat _ c n->c≠n+6:=λ h=>FP (Fo h (Fi ..))
 have fr:OQ.heap.get? (n+5)=none:=U8 (by rw[hn];exact Fi ..)
 obtain⟨R8,S8⟩:=OR.regrow (s':={ s' with heap:=h7 }) (R'.bareK λ c o Ql e0 e=>k7 c o (.inl (X.old e0)) (u (X.old e0)) e) (X.step S' (λ c o lt Y e=>k7 c o (.inl lt) (u lt) e) λ c o lt e=>⟨o,k7 c o (.inl lt) (u lt) e⟩)
 have hv:=hiv W.h0 h7 OV
 rw[Jo,hml,Jo]at hv
 exact⟨_,_,_,q,R8.adopt (k7 _ _ (.inr (.inr (Fn _))) (FP (FY _)) hD') hv (OR.notM fr) (OR.not0 fr),.ref (d:=n+5) (by rw[<- OR.len];exact Hx ..),
  OU.trans ⟨S8.keep,⟨[(n+5,n+5)],rfl,λ p hp=>by rw[Fh.mp hp];exact fr⟩,S8.live⟩⟩
set_option tactic.hygienic true in
theorem ux{xa xb:Str}{pa pb pt:Pos}{kt:Nat}{iter test elt:Expr}{scope:Scope}{pos:Pos}(I:ZmI scope xa xb)(ht:bg W k (zFm F scope xa xb) test (D7 .GtE (A5 0) (A5 1)))(he:J0 W k (zFm F scope xa xb) elt (A5 0))
  (ro:N3 k A){l1 l2:Nat}{us ws:List Value}{l m:List Int}{OQ:Shared}{ON:Sto}{OV:Mp}{cenv:Env}(X:ZX W OQ.heap n)(hn:OQ.heap.objs.size=n)(c1:cenv.scope=i9 scope F.scope)(c2:cenv.locals=n+6)(c3:cenv.globals=mainGlobals)(c4:cenv.builtins=builtinsNs)(c5:cenv.cells=[])
  (OR:Rep W ON OV OQ)(OU:E8 W [] O s.heap OV OQ.heap)(q:Q (.ref ON.length) (ON++[.list ((fR l m).map .int)]))(hml:l.length=m.length)(hll:l.length<lim)(hv1:VRs W.h0 OQ.heap OV us (l.map .int))(hv2:VRs W.h0 OQ.heap OV ws (m.map .int))
  {cnt:Nat}{Pm:Shared}(h0:ZI W OQ.heap n l1 l2 us ws l m cnt Pm):
  codeAny W.M A (.compLoop (.ListComp elt [⟨.Tuple [.Name xa pa,.Name xb pb] kt pt,iter,[test],0⟩] scope pos) 0 (.ref (n+4)) (.ref (n+5)) cenv) (compPost W.M A NoE none (H9 W [] O s.heap Q) (.ref (n+5)) (n+6)) Pm:=by
 refine ou (ZI W OQ.heap n l1 l2 us ws l m) (λ cnt s' hI=>?_) cnt h0
 clear h0
 obtain⟨hcnt,R',S',OK,hD',hiv,hvl,hNs⟩:=hI
 rename_i i vs' nD mm
 obtain rfl:cnt=l.length-i:=(Nat.sub_eq_of_eq_add hcnt.symm).symm
 by_cases hlt:i<l.length
 ·obtain⟨av,ha⟩:∃av,l[i]?=some av:=⟨_,Ff hlt⟩
  obtain⟨bv,hb⟩:∃bv,m[i]?=some bv:=⟨_,Ff (hml▸hlt)⟩
  refine xE (oy hv1 ha) λ t hx'=>?_
  refine xE (oy hv2 hb) λ u hy'=>?_
  exact ur OK ((Hb ..).trans hx') ((Hb ..).trans hy') (IF OK.hz) λ h'' kT Z2 hT=>uv I ht he ro X c1 c2 c3 c4 c5 R' S' kT Z2 hT hD' hiv hvl hNs hlt hll ha hb
 ·refine xE OK.hTO λ a Z=>xE Z λ b hTO=>?_;clear Z
  obtain rfl:i=l.length:=Gv (hcnt▸GO ..) (Ir.mp hlt)
  refine wpAny_pyNext_zip_end ro.handled OK.D OK.hz OK.hTI hTO OK.h1 OK.h2 OK.hl1 OK.hl2 (.inl ((Hb ..).trans (IU (by rw[hv1.length,Fd];exact Fn _)))) λ h' hk=>?_
  have hk':∀c o,ZN n c->s'.heap.get? c=some o->h'.get? c=some o:=λ c o z e=>let ⟨q1,q2,q3,q4⟩:=z.ne;hk c o q1 q2 q3 q4 e
  refine xE hNs λ o Z=>xE Z λ es' J=>xE J λ ep θ=>(λ ho r=>?_) θ.1 θ.2;clear hNs Z J θ
  exact⟨mm,⟨o,es',ep,hk' _ _ (.inr (.inr (HS _))) ho,r⟩,λ h7 hs7=>uw (s':=s') (h7:=h7) X hn OR OU q hml R' S' hD' hiv λ c o z q e=>(hs7.2 c q).trans (hk' c o z e)⟩
theorem sN{M:Model}{E:Value->Shared->Prop}{scope:Scope}{globals:Addr}{cl cs:List (Str×Addr)}{qual:Str}{Q:Env->Shared->Prop}(hs:s.heap.objs.size=m)(hc:cellsFrom (m+1) scope.names cl=cs)
  (h:∀H:Heap,(∀b o,s.heap.get? b=some o->H.get? b=some o)->(∃mm,H.Ns m mm)->Q (newEnv scope m globals cs qual none .none (some env) builtinsNs) { s with heap:=H }):wpAny M A (newFunctionEnv scope globals cl [] qual none .none (some env)) Q E s:=by
 subst hs hc
 exact iN (h _ (λ b o e=>Ka _ _ b o (FH _ e)) ⟨_,(OF s.heap (.type "dict")).keeps (Ka scope.names _)⟩)
theorem pQ{Q:Value->Shared->Prop}(hs:s.heap.objs.size=m)(h:∀H:Heap,H.objs.size=m+1->(∀b o,s.heap.get? b=some o->H.get? b=some o)->H.get? m=some { cls:=.type "list",data:=.seq ([]:List Value).toArray }->Q (.ref m) { s with heap:=H }):wpAny W.M A (newList []) Q NoE s:=by
 subst hs
 exact fQ (Gb _) (h _ (HX ..) (λ b o e=>FH _ e) (Gd _ rfl))
theorem Ey{xa xb xz:Str}{pa pb pt p1 p2:Pos}{kt:Nat}{es:List Expr}{test elt:Expr}{scope:Scope}{pos:Pos}{p:PTs}(hc:zOk scope xa xb=true)
  (hx:aw F xz=true)(hm:W.mg xz=none)(hv:W.mb xz=some (.type "zip"))(hes:aH W k F es p)(hn:N1 es=true)
  (ht:bg W k (zFm F scope xa xb) test (D7 .GtE (A5 0) (A5 1)))(he:J0 W k (zFm F scope xa xb) elt (A5 0)):
  J0 W k F (.ListComp elt [⟨.Tuple [.Name xa pa,.Name xb pb] kt pt,.Call (.Name xz p1) es [] p2,[test],0⟩] scope pos) (M5 p):=by
 intro A env s V O st Q ro R f h
 have I:=z9 hc
 rw[eval_ListComp]
 refine xE (qB (scope:=scope) (env:=env) (λ n hn=>((I.plain _ hn).2 rfl).elim)) λ cl Z=>(λ h1 h2 h3=>?_) Z.1 Z.2.1 Z.2.2;clear Z
 obtain rfl:cl=[]:=Jm.mpr λ q hq=>(I.plain _ (h2 q hq).1).2 rfl
 refine Lq rfl (λ Y=>rfl) h1 I.kind (λ y hy e=>?_) ?_
 ·rw[<- e];exact W8 I.nnd hy
 refine IL (gm R f hx hm hv ?_)
 refine JW (ax hn) (ay hn (Fy (hes.run p2 ro R f h) (λ vs OQ hp=>?_) λ Y Y x=>x))
 obtain⟨ON,OV,xs,⟨i,j,l,m,rfl,hi,hj,hlm,hll,q⟩,OR,vr,OU⟩:=hp
 obtain⟨v1,v2,rfl,r1,r2⟩:=vr.two
 obtain⟨l1,n1,us,rfl,hp1,hL1,hv1⟩:=r1.ref_list OR hi
 obtain⟨l2,n2,ws,rfl,hp2,hL2,hv2⟩:=r2.ref_list OR hj
 clear r1 r2 vr h
 refine call_zip_2 hL1.isList hL2.isList λ hz z1 z2 z3 z4 z5 z6 z7=>?_
 have d1:@LT.lt Nat _ l1 OQ.heap.objs.size:=IF hL1
 have d2:@LT.lt Nat _ l2 OQ.heap.objs.size:=IF hL2
 have Z0:ZT OQ.heap.objs.size l1 l2 us.toArray ws.toArray 0 hz:=⟨zipApart_new d1 d2,d1,d2,z1,z2,⟨_,_,z3⟩,z4,z5,⟨_,z7 _ _ hL1,rfl,_,rfl⟩,⟨_,z7 _ _ hL2,rfl,_,rfl⟩⟩
 have hcc:cellsFrom (OQ.heap.objs.size+6+1) scope.names []=[]:=Jm.mpr λ q hq=>(kI scope.names _ [] q hq).elim (λ h=>nomatch h) λ h=>(I.plain _ h).1 rfl
 refine NO Z0.hz (pQ z6 λ H1 y1 k1 g1=>sN y1 hcc λ H k2 ⟨mm,hns⟩=>?_)
 have hk4:∀b o,hz.get? b=some o->H.get? b=some o:=λ b o e=>k2 b o (k1 b o e)
 have hk5:∀b o,OQ.heap.get? b=some o->H.get? b=some o:=λ b o e=>hk4 b o (z7 b o e)
 have loop:=ux (pa:=pa) (pb:=pb) (pt:=pt) (kt:=kt) (iter:=.Call (.Name xz p1) es [] p2) (pos:=pos) (cenv:={ newEnv scope (OQ.heap.objs.size+6) env.globals [] env.qual none .none (some env) builtinsNs with scope:=relabel scope env }) I ht he ro ⟨λ e=>IF e,λ ha=>OR.not0 (U8 ha)⟩ rfl (by rw[<- f.scope];rfl) rfl f.globals f.builtins rfl OR OU q hlm hll hv1 hv2
  (cnt:=l.length) (.mk (i:=0) (vs':=[]) rfl (OR.grow (t:=OQ.toks) hk5).1.bare (Q7 hk5) (Z0.keep λ c o Y Y e=>hk4 c o e) (k2 _ _ g1) (λ Y Y Y=>.nil) (Fn _) hns)
 exact LZ loop (NO (hk4 _ _ Z0.hz) loop)
theorem Rep.graft{OP:Sto}{s':Shared}{X:List Addr}(R:Rep W V O s)(Rz:Rep W [] [] s')
  (keep:∀a o,s.heap.get? a=some o->(o.cls≠.none\/W.h0.get? a=none)->a∉X->s'.heap.get? a=some o)(live:∀a o,s.heap.get? a=some o->∃o',s'.heap.get? a=some o')
  (hX:∀a∈X,∀o,s.heap.get? a=some o->a∈O.map (·.2))(hlen:OP.length=V.length)(same:∀(j:Nat) (q:Addr×Addr),O[j]?=some q->q.2∉X->OP[j]?=V[j]?)
  (sp:Sub s.heap O s'.heap O->∀(j:Nat) (q:Addr×Addr) (y:I3),O[j]?=some q->q.2∈X->OP[j]?=some y->bf W s'.heap O q y):Rep W OP O s'/\E8 W [] O s.heap O s'.heap:=by
 have nX:∀a o,s.heap.get? a=some o->a∉O.map (·.2)->a∉X:=λ a o e na hx=>na (hX a hx o e)
 have Sb:Sub s.heap O s'.heap O:=⟨λ a vs n t=>keep _ _ t (.inl (by intro e;cases e)) (nX _ _ t (R.noTup t)),[],by simp⟩
 refine⟨⟨by rw[hlen];exact R.len,λ i o p hx hp=>?_,R.nd,R.new,Rz.old,Rz.gens,Rz.os,Rz.stat⟩,⟨λ a o e c na Y=>keep a o e c (nX a o e na),⟨[],by simp,by simp⟩,live⟩⟩
 by_cases hq:p.2∈X
 ·exact sp Sb i p o hp hq hx
 ·rw[same i p hp hq]at hx
  have r:=R.obj i o p hx hp
  refine xE r.own λ y Z=>(λ hy J=>?_) Z.1 Z.2;clear Z
  have h2:=keep _ _ hy (.inr (R.new p (FD hp))) hq
  refine bB r Sb ?_ (h2.trans hy.symm)
  induction r with
  | list a _=>exact h2.trans hy.symm
  | raw a _ _=>exact h2.trans hy.symm
  | cell a _ _=>exact h2.trans hy.symm
  | flds a _=>exact h2.trans hy.symm
  | inst _ _ a _ _=>
   refine(keep _ _ a (.inl (by intro e;cases e)) λ hx=>?_).trans a.symm
   refine xE (FN.mp (hX _ hx _ a)) λ z Z=>(λ hz e=>?_) Z.1 Z.2;clear Z
   refine xE (R.own hz) λ o Z=>(λ ho hd J=>?_) Z.1 Z.2.1 Z.2.2;clear Z
   rw[e,a]at ho;cases ho
   exact hd rfl
def Aa(V:Sto)(cc:Addr)(q:Str):Prop:=∃(i:Nat) (oc:Obj) (vs:Array Value) (t:Tok),i≠0/\V[i]?=some (I3.raw cc oc)/\oc.data=.fields vs/\vs[1]?=some (.str q t)
def V4(V OP:Sto):Prop:=V.length<=OP.length/\∀(i:Nat) (y:I3),i≠0->V[i]?=some y->OP[i]?=some y
theorem V4.rfl':V4 V V:=⟨Fn _,λ Y Y Y h=>h⟩
theorem V4.trans{OP Pr:Sto}(a:V4 V OP)(b:V4 OP Pr):V4 V Pr:=⟨fp a.1 b.1,λ i y hi h=>b.2 i y hi (a.2 i y hi h)⟩
theorem V4.app{τ:Sto}:V4 V (V++τ):=⟨by simp,λ i y Y h=>by rw[Fs (FC.mp h).1];exact h⟩
theorem V4.set0{o:I3}:V4 V (V.set 0 o):=⟨by simp,λ i y hi h=>by rw[Fg (HE hi)];exact h⟩
structure V5(V:Sto)(P:Addr)(ps:Array Value)(qs:List (Pos×Str)):Prop where
 raw:V[0]?=some (.raw P (tbO ps))
 ok:TriplesOk ps.toList
 hit:∀e∈qs,∀cv,codeAmong e.1 ps.toList=some cv->∃(cc:Addr) (i:Nat),cv=.ref cc/\i≠0/\∃(oc:Obj) (vs:Array Value) (t:Tok),V[i]?=some (I3.raw cc oc)/\oc.data=.fields vs/\vs[1]?=some (.str e.2 t)
theorem V5.mono{OP:Sto}{P:Addr}{ps:Array Value}{qs:List (Pos×Str)}(T:V5 V P ps qs)(h:V4 V OP)(h0:OP[0]?=V[0]?):V5 OP P ps qs:=by
 refine⟨h0.trans T.raw,T.ok,λ e he cv hc=>?_⟩
 obtain⟨cc,i,a,b,oc,vs,t,c,r⟩:=T.hit e he cv hc
 exact⟨cc,i,a,b,oc,vs,t,h.2 _ _ b c,r⟩
set_option tactic.hygienic true in
theorem kK{p:Pos}{a b:Nat}{c:Value}:∀(l:List Value),TriplesOk l->∀cv,codeAmong p (l++[rawInt a,rawInt b,c])=some cv->codeAmong p l=some cv\/(a=p.line/\b=p.col/\cv=c):=by
 intro l h cv
 fun_induction TriplesOk l with
 | case1=>
  intro e
  simp only[C7,codeAmong,rawInt]at e
  split at e
  ·rename_i hc
   rw[Gn,beq_iff_eq,beq_iff_eq]at hc
   cases e
   exact .inr ⟨by have:=hc.1;exact Jg hc.1,by have:=hc.2;exact Jg hc.2,rfl⟩
  ·cases e
 | case2 x t y u z rest ih=>
  intro e
  simp only[C3,codeAmong]at e ⊢
  split at e
  ·rename_i hc;rw[if_pos hc];exact .inl e
  ·rename_i hc;rw[if_neg hc];exact ih h e
 | case3 l h1 h2=>exact h.elim
structure MkI(W:Wld)(c0 P:Addr):Prop where
 hd:CdH W.h0 c0 P
 ne:mainGlobals≠P
 bm:W.h0.BuiltinsAt W.mg P
theorem zg{fd:FuncData}:Data.func fd≠.plain:=by intro e;cases e
theorem BR{vs:Array Value}:Data.fields vs≠.plain:=by intro e;cases e
theorem uy{c:Value}{T:String}(h:c=.type T)(hT:T≠"tuple"):c≠.type "tuple":=λ e=>hT (Value.type.inj (h.symm.trans e))
theorem E8.own{X:List Addr}{OT:Mp}{c:Addr}(S:E8 W X O h OT h')(hc:h.get? c=none):E8 W X O h (OT++[(c,c)]) h':=
 ⟨S.keep,S.grow.elim λ ψ e=>⟨ψ++[(c,c)],(congrArg (· ++ _) e.1).trans (Fz ..),λ p hp=>(FR.mp hp).elim (e.2 p) λ q=>Fh.mp q▸hc⟩,S.live⟩
theorem Rep.rawNew(R:Rep W V O s)(o:Obj)(h1:o.data≠.plain)(h2:o.cls≠.type "tuple")(hf:o.isFreed=false):Rep W (V++[.raw s.heap.objs.size o]) (O++[(s.heap.objs.size,s.heap.objs.size)]) { s with heap:=s.heap.push o }:=
 (R.push o).adoptRaw (Gd _ hf) h1 h2 (R.notM K9) (R.not0 K9)
theorem mK{x:I3}(h:V.length=n):(V++[x])[n]?=some x:=h▸Hx ..
theorem V5.add{P c' f:Addr}{ps:Array Value}{qs:List (Pos×Str)}{pos:Pos}{qual:Str}{oc fo:Obj}{vs:Array Value}{t:Tok}(T:V5 V P ps qs)(hqs:∀e∈qs,e.1.line=pos.line->e.1.col=pos.col->e.2=qual)(hfd:oc.data=.fields vs)(hq:vs[1]?=some (.str qual t)):
  V5 (V.set 0 (.raw P (tbO (ps++#[rawInt pos.line,rawInt pos.col,.ref c'])))++[.raw c' oc]++[.raw f fo]) P (ps++#[rawInt pos.line,rawInt pos.col,.ref c']) qs/\
  (V.set 0 (.raw P (tbO (ps++#[rawInt pos.line,rawInt pos.col,.ref c'])))++[.raw c' oc]++[.raw f fo])[V.length]?=some (.raw c' oc):=by
 have hl0:=B3 T.raw
 have hc:=(V4.app (τ:=[.raw f fo])).2 _ _ (FU hl0) (mK (V:=V.set 0 (.raw P (tbO (ps++#[rawInt pos.line,rawInt pos.col,.ref c'])))) (x:=.raw c' oc) (Fj ..))
 have hs:0<(V.set 0 (I3.raw P (tbO (ps++#[rawInt pos.line,rawInt pos.col,.ref c'])))).length:=(Fj ..).symm▸hl0
 refine⟨⟨?_,Gw▸TriplesOk_snoc _ _ _ _ T.ok,λ e he cv hcv=>?_⟩,hc⟩
 ·exact(Fs (Fc▸Nat.lt_add_right _ hs)).trans ((Fs hs).trans (Fu hl0))
 ·refine(kK _ T.ok cv (Gw▸hcv)).elim (λ h=>?_) λ h=>⟨c',V.length,h.2.2,FU hl0,oc,vs,t,hc,hfd,hqs e he h.1.symm h.2.1.symm▸hq⟩
  exact(T.hit e he cv h).imp λ cc k=>k.imp λ i k=>⟨k.1,k.2.1,k.2.2.imp λ oc l=>l.imp λ vs l=>l.imp λ t z=>⟨(V4.set0.trans (V4.app.trans V4.app)).2 _ _ k.2.1 z.1,z.2⟩⟩
section
variable {W:Wld}{A:Around}{s:Shared}{V:Sto}{O:Mp}{name qual:Str}{params:Arguments}{body:FuncBody}{scope:Scope}{env:Env}{c0 P:Addr}{ps:Array Value}{pos:Pos}{firstLine:Nat}{clos:List (Str×Addr)}{qs:List (Pos×Str)}{Q:Value->Shared->Prop}
theorem zh(I:MkI W c0 P)(hnd:ug body)(hcl:closureFor scope env=pure clos)(hge0:env.globals=mainGlobals)(hcode:env.code=.ref c0)(R:Rep W V O s)(T:V5 V P ps qs)(hq:(pos,qual)∈qs)
  (hqs:∀e∈qs,e.1.line=pos.line->e.1.col=pos.col->e.2=qual)
  (go:∀(f:Addr) (OP:Sto) (OT:Mp) (s':Shared) (cc:Addr) (ctv:Value) (pm:Value) (ps':Array Value),Rep W OP OT s'->E8 W [] O s.heap OT s'.heap->V4 V OP->V5 OP P ps' qs->0<V.length->(∃i,V.length<=i/\OP[i]?=some (I3.raw f (fnO name qual params body scope clos pm (.ref cc) ctv)))->Aa OP cc qual->Q (.ref f) s'):
  wpAny W.M A (makeFunction name qual params body scope env [] [] [] pos firstLine) Q NoE s:=by
 have r:=R.raw T.raw
 have hl0:=B3 T.raw
 have C:CdH s.heap c0 P:=I.hd.get λ o hc e=>R.old.get_of_cls e (by rw[hc];simp)
 refine xE I.bm λ bm Z=>xE Z λ ob J=>(λ b1 b2 b3 b4 b5 b6 b7 b8=>?_) J.1 J.2.1 J.2.2.1 J.2.2.2.1 J.2.2.2.2.1 J.2.2.2.2.2.1 J.2.2.2.2.2.2.1 J.2.2.2.2.2.2.2;clear Z J
 refine Eu hnd hcl hge0 R.gns hcode C r.2.1 T.ok I.ne ⟨bm,ob,b1,b2,b3,b4,R.old.get_of_cls b5 (by rw[b6];simp),b6,b7,b8⟩ (λ hca c' oc vs t ctv h' tk hx hge hlt hoc hcl hfd hq1 hPt=>?_) (λ cv hca ctv h' tk hk hsz=>?_)
 ·have r1:=R.updE (o':=.raw P (tbO (ps++#[rawInt pos.line,rawInt pos.col,.ref c']))) (d:=s.drawn) (t:=tk) hl0 r.1 hx (λ U=>.raw hPt (by intro e;cases e) (by simp))
  have fc:s.heap.get? c'=none:=U8 hge
  have T':=T.add (c':=c') (f:=h'.objs.size) (fo:=fnO name qual params body scope clos ((W.mg "__name__").getD .none) (.ref c') ctv) hqs hfd hq1
  exact go h'.objs.size _ _ _ c' ctv ((W.mg "__name__").getD .none) _ ((r1.1.adoptRaw hoc (hfd▸BR) (uy (T:="code") hcl (by decide)) (R.notM fc) (R.not0 fc)).rawNew _ zg (uy (T:="function") rfl (by decide)) rfl) (((r1.2.1.trans (eU _)).own fc).own (U8 (FE (Fe hge hlt))))
   (V4.set0.trans (V4.app.trans V4.app)) T'.1 hl0 ⟨V.length+1,HS _,mK ((Fc ..).trans (congrArg (· + 1) (Fj ..)))⟩ ⟨V.length,oc,vs,t,FU hl0,T'.2,hfd,hq1⟩
 ·refine xE (T.hit _ hq cv hca) λ cc Z=>xE Z λ i J=>?_;rcases J with⟨rfl,hi,oc,vs,t,g1,g2⟩;clear Z
  exact go h'.objs.size _ _ _ cc ctv ((W.mg "__name__").getD .none) ps ((R.grow (t:=tk) hk).1.rawNew _ zg (uy (T:="function") rfl (by decide)) rfl) (((Q7 hk).trans (eU _)).own (U8 hsz)) V4.app (T.mono V4.app (Fs hl0)) hl0
   ⟨V.length,Fn _,mK rfl⟩ ⟨i,oc,vs,t,hi,V4.app.2 _ _ hi g1,g2⟩
end
theorem xB{M:Model}{E:Value->Shared->Prop}{name:Str}{params:Arguments}{body:List Stmt}{scope:Scope}{pos:Pos}{Q:Flow->Shared->Prop}(hd0:params.defaults=[])(hk0:params.kw_defaults=[])(ha:annTrees params none env=[])
  (h:wpAny M A (makeFunction name (qualnameIn env name name) params (.stmts body) scope env [] [] [] pos pos.line) (λ v s'=>wpAny M A (bindName env name v) (λ Y s''=>Q .next s'') E s') E s):
  wpAny M A (exec (.FunctionDef name params body [] none [] scope none name pos) env) Q E s:=by
 rw[exec_def]
 refine nt (GH (nt (Gl ?_)))
 rw[defaultsOf_eq,hd0,hk0,ha]
 refine nt (Fp ?_)
 refine nt (Gl (Fp ?_))
 refine Gl (nt (Fp ?_))
 exact Fy h (λ v s' h'=>nt (GH (nt (Fy h' (λ Y Y h''=>Fp h'') λ Y Y x=>x)))) λ Y Y x=>x
theorem uz{M:Model}{E:Value->Shared->Prop}{params:Arguments}{body:Expr}{scope:Scope}{pos:Pos}{Q:Value->Shared->Prop}(hdef:defaultsOf params env=([],[]))(h:wpAny M A (makeFunction "<lambda>" (env.qual ++ "<lambda>") params (.expr body) scope env [] [] [] pos pos.line) Q E s):
  wpAny M A (eval (.Lambda params body scope pos) env) Q E s:=by
 rw[arm_eval_Lambda,hdef]
 show wpAny M A (do let dv <- evalAll [];let kdv <- holding dv (evalAllOpt []);makeFunction "<lambda>" (env.qual ++ "<lambda>") params (.expr body) scope env dv kdv [] pos pos.line) Q E s
 exact nt (Fp (nt (Gl (Fp h))))
def BS(a:PT):GT:=λ v st Q V=>a st (λ x ON=>∃(af b:Addr) (i:Nat) (o:Obj) (fd:FuncData),x=.fn af/\v=.fn b/\ON[i]?=some (I3.raw af o)/\o.cls=.type "function"/\o.data=.func fd/\o.dict=none/\
 ∀(d:Addr) (hs:Int) (t:Tok),Q st (ON.set i (.raw af { o with dict:=some d })++[.raw d (dictOf [⟨hs,.str J5 t,.ref b⟩] 1)])) V
theorem Ez{o:Expr}{x:Str}{pos:Pos}{a:PT}(ho:J0 W n F o a)(hx:x=J5):dN W n F (.Attribute o x pos) (BS a):=by
 subst hx
 intro A env s V O st Q v z P ro R f vr hp go
 rw[qx]
 refine nt (Gl (ho.then ro R f hp λ w OQ ON OV x q OR OW vx OU Pb=>?_))
 refine nt (GH (nt (Gl ?_)))
 obtain⟨af,b,i,ob,fd,rfl,rfl,h1,h2,h3,h4,q⟩:=q
 obtain rfl:=vx.fn_inv
 obtain rfl:=vr.fn_inv
 obtain⟨hp1,hb,e1,e2⟩:=OR.raw h1
 refine z0 hb h2 h3 h4 λ h' t hs hx ha hd=>tR ?_
 obtain⟨R2,S2,U2⟩:=OR.updE (o':=.raw af { ob with dict:=some OQ.heap.objs.size }) (d:=OQ.drawn) (t:=OQ.toks+1+1) (FC.mp h1).1 hp1 hx (λ U=>.raw ha (by show ob.data≠_;exact e1) (by show ob.cls≠_;exact e2))
 have nf:OQ.heap.objs.size∉OV.map (·.2):=OR.notM K9
 have R3:=R2.adoptRaw (a:=OQ.heap.objs.size) hd (by intro e;cases e) (by simp[dictOf]) nf (OR.not0 K9)
 have S3:E8 W [] OV OQ.heap (OV++[(OQ.heap.objs.size,OQ.heap.objs.size)]) h':=⟨S2.keep,⟨_,rfl,λ p hp=>by rw[Fh]at hp;subst hp;exact K9⟩,S2.live⟩
 exact go { OQ with heap:=h',toks:=OQ.toks+1+1,drawn:=OQ.drawn } _ _ st (q _ hs t) R3 (OW.step0 S3 (OR.sub0 S3)) (wk (OU.trans S3)) (Z5 Pb (OR.sub0 S3))
structure Blk where
 need:Int
 net:Int
 pl:List Nat
deriving DecidableEq
def kle(a b:Blk):Prop:=(0<=a.net/\(b.net<0\/a.need<=b.need))\/(a.net<0/\b.net<0/\b.need+b.net<=a.need+a.net)
noncomputable instance (a b:Blk):Decidable (kle a b):=by unfold kle;infer_instance
theorem lK{a b c:Blk}(h:kle a b)(h':kle b c):kle a c:=by
 rcases h with⟨h1,h2⟩|⟨h1,h2,h3⟩ <;> rcases h' with⟨g1,g2⟩|⟨g1,g2,g3⟩
 ·exact .inl ⟨h1,g2.imp_right (FI (h2.resolve_left (Ha.mpr g1)))⟩
 ·exact .inl ⟨h1,.inl g2⟩
 ·exact absurd g1 (JK.mpr h2)
 ·exact .inr ⟨h1,g2,FI g3 h3⟩
noncomputable def J2:List Blk->Int
 | []=>0
 | b::l=>b.net+J2 l
theorem dS(a b:List Blk):J2 (a++b)=J2 a+J2 b:=by
 induction a with
 | nil=>simp[J2]
 | cons x l ih=>simp[J2,ih];exact(It _ _ _).symm
def ok:Int->List Blk->Prop
 | _,[]=>True
 | p,b::l=>b.need<=p/\ok (p+b.net) l
theorem fe{p:Int}{a b:List Blk}:ok p (a++b)↔ok p a/\ok (p+J2 a) b:=by
 induction a generalizing p with
 | nil=>simp[ok,J2]
 | cons x l ih=>
  simp only[C3,ok,ih,J2,and_assoc]
  rw[show p+x.net+J2 l=p+(x.net+J2 l)from It _ _ _]
def fS:Int->Int->List Blk->Prop
 | _,_,[]=>True
 | e,m,b::l=>b.need-e<=m/\fS (e+b.net) m l
theorem oC{e m:Int}{a b:List Blk}:fS e m (a++b)↔fS e m a/\fS (e+J2 a) m b:=by
 induction a generalizing e with
 | nil=>simp[fS,J2]
 | cons x l ih=>
  simp only[C3,fS,ih,J2,and_assoc]
  rw[show e+x.net+J2 l=e+(x.net+J2 l)from It _ _ _]
theorem ff{e e' m m':Int}{a:List Blk}(h:fS e m a)(he:e<=e')(hm:m<=m'):fS e' m' a:=by
 induction a generalizing e e' with
 | nil=>trivial
 | cons x l ih=>exact⟨by have:=h.1;exact FI (Int.sub_le_sub_left he _) (FI this hm),ih h.2 (Ms he _)⟩
inductive D:Int->List Blk->List Blk->List Blk->Prop
 | nil {d R:_}:0<=d->D d R [] R
 | cons {d P R x X rest:_}:0<=d->fS d x.need P->D (d+J2 P-x.net) R X rest->D d (P++R) (x::X) rest
inductive DC(d:Int)(x:Blk)(X rest:List Blk):List Blk->Prop
 | mk {P R:List Blk}:0<=d->fS d x.need P->D (d+J2 P-x.net) R X rest->DC d x X rest (P++R)
theorem D.inv{d:Int}{R OL rest:List Blk}{x:Blk}{X:List Blk}(h:D d R OL rest)(e:OL=x::X):DC d x X rest R:=by
 induction h with
 | nil _=>cases e
 | cons h1 h2 h3=>cases e;exact .mk h1 h2 h3
theorem D.inv0{d:Int}{R OL rest:List Blk}(h:D d R OL rest)(e:OL=[]):R=rest:=by
 induction h with
 | nil _=>rfl
 | cons _ _ _=>cases e
theorem D.nn{d:Int}{R X rest:List Blk}(h:D d R X rest):0<=d:=by cases h <;> assumption
theorem D.mono{d d':Int}{R X rest:List Blk}(h:D d R X rest)(hd:d<=d'):D d' R X rest:=by
 induction h generalizing d' with
 | nil h=>exact .nil (FI h hd)
 | cons h1 h2 _ ih=>exact .cons (FI h1 hd) (ff h2 hd (FV _)) (ih (Mt (Ms hd _) _))
theorem D.refl:∀X:List Blk,D 0 X X []
 | []=>.nil (FV _)
 | x::X=>by
  have:=D.refl X
  refine D.cons (P:=[x]) (FV _) ⟨HN (Kl _),trivial⟩ ?_
  simpa [J2] using this
theorem D.both{R X rest:List Blk}(a:Blk)(h:D 0 R X rest):D 0 (a::R) (a::X) rest:=by
 refine D.cons (P:=[a]) (FV _) ⟨HN (Kl _),trivial⟩ ?_
 simpa [J2] using h
theorem D.ok{d p:Int}{R X rest:List Blk}(h:D d R X rest)(hp:ok p X):∃E,R=E++rest/\Internal.ok (p+d) E/\J2 X<=J2 E+d:=by
 induction h generalizing p with
 | nil h=>exact⟨[],rfl,trivial,by simp[J2];exact h⟩
 | @cons d P R x X rest h1 h2 _ ih=>
  refine xE (ih hp.2) λ E Z=>(λ J h3 h4=>?_) Z.1 Z.2.1 Z.2.2;rcases J with rfl;clear Z
  refine⟨P++E,by simp,fe.mpr ⟨?_,?_⟩,?_⟩
  ·have hx:=hp.1
   clear h3 h4 ih hp
   have:∀(P:List Blk) (d p:Int),fS d x.need P->x.need<=p->Internal.ok (p+d) P:=by
    intro P
    induction P with
    | nil=>intros;trivial
    | cons b P ih=>
     intro d p h hx
     refine⟨by have:=h.1;exact HY (FI this hx),?_⟩
     have:=ih (d+b.net) p h.2 hx
     rwa [show p+(d+b.net)=p+d+b.net from(It _ _ _).symm]at this
   exact this P d p h2 hx
  ·rwa [show p+x.net+(d+J2 P-x.net)=p+d+J2 P by lia]at h3
  ·rw[dS];simp only[J2];lia
theorem D.split{e1 e2 m:Int}{R P M' rest:List Blk}(hf:fS e2 m P)(h:D e1 R (P++M') rest):∃R1 R2,R=R1++R2/\fS (e1+e2) m R1/\D (e1+J2 R1-J2 P) R2 M' rest:=by
 induction P generalizing e1 e2 R with
 | nil=>exact⟨[],R,rfl,trivial,by simpa [J2] using h⟩
 | cons b P ih=>
  cases h.inv rfl with
  | @mk S R' h1 h2 h3=>
  refine xE (ih hf.2 h3) λ R1 Z=>xE Z λ R2 J=>(λ θ g1 g2=>?_) J.1 J.2.1 J.2.2;rcases θ with rfl;clear Z J
  refine⟨S++R1,R2,by simp,oC.mpr ⟨?_,?_⟩,?_⟩
  ·have:∀(S:List Blk) (e1:Int),fS e1 b.need S->fS (e1+e2) m S:=by
    intro S
    induction S with
    | nil=>intros;trivial
    | cons c S ih'=>
     intro e1 h
     refine⟨by have:=h.1;have:=hf.1;lia,?_⟩
     have:=ih' _ h.2
     rwa [show e1+c.net+e2=e1+e2+c.net from Int.add_right_comm _ _ _]at this
   exact this S e1 h2
  ·rwa [show e1+J2 S-b.net+(e2+b.net)=e1+e2+J2 S by lia]at g1
  ·rw[dS];simp only[J2]
   rwa [show e1+J2 S-b.net+J2 R1-J2 P=e1+(J2 S+J2 R1)-(b.net+J2 P) by lia]at g2
theorem D.trans{d1 d2:Int}{R M X rest1 rest2:List Blk}(h:D d1 R M rest1)(h':D d2 M X rest2):∃rest3,D (d1+d2) R X rest3/\(rest2=[]->rest3=rest1):=by
 induction h' generalizing d1 R with
 | nil h2=>
  refine⟨R,.nil (by have:=h.nn;exact KW this h2),λ e=>?_⟩
  subst e
  cases h with
  | nil _=>rfl
 | @cons d2 P M' x X rest h1 h2 _ ih=>
  obtain⟨R1,R2,rfl,g1,g2⟩:=h.split h2
  obtain⟨rest3,k1,k2⟩:=ih g2
  refine⟨rest3,.cons (by have:=h.nn;exact KW this h1) g1 ?_,k2⟩
  rwa [show d1+J2 R1-J2 P+(d2+J2 P-x.net)=d1+d2+J2 R1-x.net by lia]at k1
theorem D.trans0{R M X rest:List Blk}(h:D 0 R M [])(h':D 0 M X rest):∃rest3,D 0 R X rest3/\(rest=[]->rest3=[]):=by
 obtain⟨r,a,b⟩:=h.trans h'
 exact⟨r,by simpa using a,b⟩
theorem D.swap{a b:Blk}(OL:List Blk)(h:kle b a):D 0 (b::a::OL) (a::b::OL) []:=by
 unfold kle at h
 have tail:D 0 OL OL []:=D.refl OL
 by_cases h1:b.need<=a.need/\0<=b.net
 ·refine D.cons (P:=[b,a]) (FV _) ⟨FI (HN (Kl _)) h1.1,by lia,trivial⟩ (D.cons (P:=[]) (by simp[J2];exact h1.2) trivial ?_)
  have:0+J2 [b,a]-a.net+J2 []-b.net=0:=by simp only[J2];lia
  rw[this];exact tail
 ·have ha:a.net<0:=h.elim (λ Qv=>Qv.2.elim id λ RO=>absurd ⟨RO,Qv.1⟩ h1) λ Qv=>Qv.2.1
  refine D.cons (P:=[]) (FV _) trivial (D.cons (P:=[b,a]) (by simp[J2];exact FT ha) ⟨by simp[J2];exact FI (MK (FT ha) _) (HN (Iu _)),by simp[J2];lia,trivial⟩ ?_)
  have:0+J2 []-a.net+J2 [b,a]-b.net=0:=by simp only[J2];lia
  rw[this];exact tail
noncomputable def comp(v b:Blk):Blk:=⟨max v.need (b.need-v.net),v.net+b.net,v.pl++b.pl⟩
theorem D.comp{v b:Blk}(OL:List Blk)(h:¬kle v b):D 0 (Internal.comp v b::OL) (v::b::OL) []:=by
 unfold kle at h
 have tail:D 0 OL OL []:=D.refl OL
 by_cases h1:b.need-v.net<=v.need/\0<=b.net
 ·refine D.cons (P:=[Internal.comp v b]) (FV _) ⟨by simp[Internal.comp];lia,trivial⟩ (D.cons (P:=[]) (by simp[J2,Internal.comp];lia) trivial ?_)
  have:0+J2 [Internal.comp v b]-v.net+J2 []-b.net=0:=by simp[J2,Internal.comp];lia
  rw[this];exact tail
 ·have hv:v.net<0:=by lia
  refine D.cons (P:=[]) (FV _) trivial (D.cons (P:=[Internal.comp v b]) (by simp[J2];exact FT hv) ⟨by simp[J2,Internal.comp];lia,trivial⟩ ?_)
  have:0+J2 []-v.net+J2 [Internal.comp v b]-b.net=0:=by simp[J2,Internal.comp];lia
  rw[this];exact tail
def W6(l:List Blk):Prop:=l.Pairwise kle
theorem D.front{a:Blk}(X2:List Blk):∀X1:List Blk,(∀x∈X1,kle a x)->D 0 (a::(X1++X2)) (X1++a::X2) []
 | [],_=>D.refl _
 | x::X1,h=>by
  have ih:=D.front X2 X1 λ y hy=>h y (.tail _ hy)
  obtain⟨r,k1,k2⟩:=(D.swap (X1++X2) (h x (.head _))).trans0 (ih.both x)
  rw[k2 rfl]at k1;exact k1
theorem D.sorted{S X:List Blk}(hs:W6 S)(hp:X.Perm S):D 0 S X []:=by
 induction S generalizing X with
 | nil=>rw[hp.eq_nil];exact .nil (FV _)
 | cons a S ih=>
  have hm:a∈X:=hp.mem_iff.mpr (.head _)
  obtain⟨X1,X2,rfl⟩:=Na hm
  have hp':(X1++X2).Perm S:=by
   have:=NC.symm.trans hp
   exact this.cons_inv
  obtain⟨h1,h2⟩:=GQ.mp hs
  have ih':=ih h2 hp'
  have fr:=D.front X2 X1 (a:=a) λ x hx=>h1 x (hp'.mem_iff.mp (Gq _ hx))
  obtain⟨r,k1,k2⟩:=(ih'.both a).trans0 fr
  rw[k2 rfl]at k1;exact k1
theorem D.losses{d:Int}{R X:List Blk}(hd:0<=d)(h:∀x∈X,x.net<0):D d R X R:=by
 induction X generalizing d with
 | nil=>exact .nil hd
 | cons x X ih=>
  have hx:=h x (.head _)
  refine D.cons (P:=[]) hd trivial (ih ?_ λ y hy=>h y (.tail _ hy))
  simp[J2];exact FI (FT hx) hd
theorem D.sub{R S:List Blk}(hs:W6 R)(h:S.Sublist R):∃rest,D 0 R S rest:=by
 induction h with
 | slnil=>exact⟨[],.nil (FV _)⟩
 | @cons S R r h ih=>
  obtain⟨h1,h2⟩:=GQ.mp hs
  obtain⟨rest,k⟩:=ih h2
  cases S with
  | nil=>exact⟨_,.nil (FV _)⟩
  | cons s S=>
   by_cases hg:s.net<0
   ·refine⟨r::R,D.losses (FV _) λ x hx=>?_⟩
    rcases Fv.mp hx with rfl|hx
    ·exact hg
    ·have hss:W6 (s::S):=h2.sublist h
     have:=(GQ.mp hss).1 x hx
     unfold kle at this;exact this.elim (λ h=>absurd hg (Ha.mpr h.1)) λ h=>h.2.1
   ·have hrs:kle r s:=h1 s (h.subset (.head _))
    unfold kle at hrs
    cases k.inv rfl with
    | @mk P R' g1 g2 g3=>
     refine⟨rest,?_⟩
     rw[<- C3]
     refine D.cons (P:=r::P) (FV _) ⟨hrs.elim (λ h=>h.2.elim (λ k=>absurd k hg) λ k=>FI (HN (Kl _)) k) λ h=>absurd h.2.1 hg,ff g2 (hrs.elim (λ h=>FI h.1 (HN (GR _).symm)) λ h=>absurd h.2.1 hg) (FV _)⟩ (g3.mono ?_)
     simp[J2];exact hrs.elim (λ h=>Lf h.1) λ h=>absurd h.2.1 hg
 | @cons_cons S R a h ih=>
  obtain⟨h1,h2⟩:=GQ.mp hs
  obtain⟨rest,k⟩:=ih h2
  exact⟨rest,k.both a⟩
theorem D.any{R L M:List Blk}(hs:W6 R)(hp:L.Perm R)(hm:∃S,M.Perm S/\S.Sublist L):∃rest,D 0 R M rest/\(M.Perm L->rest=[]):=by
 by_cases hc:M.Perm L
 ·exact⟨[],D.sorted hs (hc.trans hp),λ Y=>rfl⟩
 ·refine xE hm λ S Z=>(λ h1 h2=>?_) Z.1 Z.2;clear hm Z
  refine xE (List.exists_perm_sublist h2 hp) λ T Z=>(λ h3 h4=>?_) Z.1 Z.2;clear Z
  refine xE (D.sub hs h4) λ rest k=>?_
  have:=D.sorted (hs.sublist h4) (X:=M) (h1.trans h3.symm)
  refine xE (k.trans this) λ r Z=>(λ k1 J=>?_) Z.1 Z.2;clear Z
  exact⟨r,by simpa using k1,λ h=>(hc h).elim⟩
theorem D.mix(f:α->Blk)(q:α->Bool){X:List α}{d1 d2:Int}{R1 R2 rest1 rest2:List Blk}(h1:D d1 R1 ((X.filter q).map f) rest1)(h2:D d2 R2 ((X.filter λ x=>!q x).map f) rest2):
  ∃M E1 E2,D (d1+d2) M (X.map f) []/\R1=E1++rest1/\R2=E2++rest2/\M.Perm (E1++E2):=by
 induction X generalizing d1 d2 R1 R2 with
 | nil=>
  obtain rfl:=h1.inv0 rfl
  obtain rfl:=h2.inv0 rfl
  exact⟨[],[],[],.nil (KW h1.nn h2.nn),rfl,rfl,.refl _⟩
 | cons x X ih=>
  have nn:=KW h1.nn h2.nn
  cases hq:q x with
  | true=>
   cases h1.inv (by rw[HP hq,Gg])with
   | @mk P R' g1 g2 g3=>
    refine xE (ih g3 (by rw[IA (by simp[hq])]at h2;exact h2)) λ M Z=>xE Z λ E1 J=>xE J λ E2 θ=>(λ k1 ξ ϑ k4=>?_) θ.1 θ.2.1 θ.2.2.1 θ.2.2.2;rcases ξ with rfl;rcases ϑ with rfl;clear Z J θ
    refine⟨P++M,P++E1,E2,.cons nn (ff g2 (Int.le_add_of_nonneg_right h2.nn) (FV _)) ?_,(Fz ..).symm,rfl,by rw[Fz];exact k4.append_left P⟩
    rwa [show d1+J2 P-(f x).net+d2=d1+d2+J2 P-(f x).net by lia]at k1
  | false=>
   cases h2.inv (by rw[HP (by simp[hq]),Gg])with
   | @mk P R' g1 g2 g3=>
    refine xE (ih (by rw[IA (by simp[hq])]at h1;exact h1) g3) λ M Z=>xE Z λ E1 J=>xE J λ E2 θ=>(λ k1 ξ ϑ k4=>?_) θ.1 θ.2.1 θ.2.2.1 θ.2.2.2;rcases ξ with rfl;rcases ϑ with rfl;clear Z J θ
    refine⟨P++M,E1,P++E2,.cons nn (ff g2 (Lf h1.nn) (FV _)) ?_,rfl,(Fz ..).symm,?_⟩
    ·rwa [show d1+(d2+J2 P-(f x).net)=d1+d2+J2 P-(f x).net by lia]at k1
    ·exact(k4.append_left P).trans (by rw[<- Fz,<- Fz];exact IW.append_right _)
noncomputable def sg(g:Nat->Int)(k:Nat):Blk:=⟨max 0 (-(g k)),g k,[k]⟩
noncomputable def Z8(g:Nat->Int):List Nat->Int
 | []=>0
 | k::l=>g k+Z8 g l
theorem iP(g:Nat->Int)(a b:List Nat):Z8 g (a++b)=Z8 g a+Z8 g b:=by
 induction a with
 | nil=>simp[Z8]
 | cons x l ih=>simp[Z8,ih];exact(It _ _ _).symm
theorem gz(g:Nat->Int):∀l:List Nat,J2 (l.map (sg g))=Z8 g l
 | []=>rfl
 | k::l=>by simp[J2,Z8,sg,gz g l]
structure bL(g:Nat->Int)(b:Blk):Prop where
 net:b.net=Z8 g b.pl
 need:∀p,b.need<=p↔ok p (b.pl.map (sg g))
theorem bL.one(g:Nat->Int)(k:Nat):bL g (sg g k):=⟨by simp[sg,Z8],λ p=>by simp[sg,ok]⟩
theorem bL.comp{g:Nat->Int}{v b:Blk}(hv:bL g v)(hb:bL g b):bL g (comp v b):=by
 refine⟨by simp[Internal.comp,hv.net,hb.net,iP],λ p=>?_⟩
 have h1:=hv.need p
 have h2:=hb.need (p+v.net)
 rw[Internal.comp,FG,fe,gz,<- hv.net,<- h1,<- h2]
 exact LL.trans (and_congr_right λ Y=>⟨λ h=>HY h,λ h=>JL h⟩)
theorem mL{g:Nat->Int}:∀{R:List Blk}{p:Int},(∀b∈R,bL g b)->(ok p R↔ok p ((R.flatMap (·.pl)).map (sg g)))
 | [],p,_=>by simp[ok]
 | b::R,p,h=>by
  have hb:=h b (.head _)
  rw[HZ,FG,fe,gz,<- hb.net,<- hb.need,<- mL λ x hx=>h x (.tail _ hx)]
  rfl
theorem oD{g:Nat->Int}:∀{R:List Blk},(∀b∈R,bL g b)->J2 R=Z8 g (R.flatMap (·.pl))
 | [],_=>rfl
 | b::R,h=>by rw[HZ,iP,<- (h b (.head _)).net,<- oD λ x hx=>h x (.tail _ hx)];rfl
noncomputable def U1(v:Blk):List Blk->List Blk
 | []=>[v]
 | b::r=>if kle v b then v::b::r else U1 (comp v b) r
set_option tactic.hygienic true in
theorem fB:∀{R:List Blk}{v:Blk},W6 R->W6 (U1 v R)
 | [],v,_=>by simp[U1,W6]
 | b::R,v,h=>by
  obtain⟨h1,h2⟩:=GQ.mp h
  unfold U1
  split
  ·rename_i hk
   exact GQ.mpr ⟨λ x hx=>by cases hx with|head=>exact hk|tail _ hx=>exact lK hk (h1 x hx),h⟩
  ·exact fB h2
theorem lL:∀{R:List Blk}{v:Blk},(U1 v R).flatMap (·.pl)=v.pl++R.flatMap (·.pl)
 | [],v=>by simp[U1]
 | b::R,v=>by
  unfold U1
  split
  ·simp
  ·rw[lL];simp[comp]
theorem lM{g:Nat->Int}:∀{R:List Blk}{v:Blk},bL g v->(∀b∈R,bL g b)->∀b∈U1 v R,bL g b
 | [],v,hv,_,b,hb=>by simp[U1]at hb;subst hb;exact hv
 | c::R,v,hv,h,b,hb=>by
  unfold U1 at hb
  split at hb
  ·rcases Fv.mp hb with rfl|hb
   ·exact hv
   ·exact h b hb
  ·exact lM (hv.comp (h c (.head _))) (λ x hx=>h x (.tail _ hx)) b hb
set_option tactic.hygienic true in
theorem oE:∀(R:List Blk) (v:Blk),D 0 (U1 v R) (v::R) []
 | [],v=>D.refl _
 | b::R,v=>by
  unfold U1
  split
  ·exact D.refl _
  ·rename_i hk
   obtain⟨r,a,e⟩:=(oE R (comp v b)).trans0 (D.comp R hk)
   rw[e rfl]at a;exact a
structure Z9(own:Nat->Option Nat)(ns X:List Nat):Prop where
 nd:X.Nodup
 sub:∀j∈X,j∈ns
 prec:∀A j B,X=A++j::B->∀i,own j=some i->i∈ns->i∈A
inductive Mrg:List (List Blk)->List (Nat×Blk)->Prop
 | done {Ls:_}:(∀r∈Ls,r=[])->Mrg Ls []
 | step {Ls:List (List Blk)}{i:Nat}{b:Blk}{r:List Blk}{R:_}:Ls[i]?=some (b::r)->(∀(j:Nat) (c:Blk) (q:List Blk),Ls[j]?=some (c::q)->kle b c)->Mrg (Ls.set i r) R->Mrg Ls ((i,b)::R)
theorem Mrg.row{Ls:List (List Blk)}{R:List (Nat×Blk)}(h:Mrg Ls R):∀(i:Nat) (r:List Blk),Ls[i]?=some r->(R.filter λ x=>x.1==i).map (·.2)=r:=by
 induction h with
 | done h=>intro i r hr;rw[h r (FD hr)];rfl
 | @step Ls i b q R h1 h2 h3 ih=>
  intro j r hr
  by_cases hj:i=j
  ·subst hj
   rw[h1]at hr;cases hr
   rw[HP (by simp),Gg,ih i q (Fu (FC.mp h1).1)]
  ·rw[IA (by simpa using hj)]
   exact ih j r (by rw[Fg hj];exact hr)
theorem Mrg.tag{Ls:List (List Blk)}{R:List (Nat×Blk)}(h:Mrg Ls R):∀x∈R,∃r,Ls[x.1]?=some r/\x.2∈r:=by
 induction h with
 | done h=>intro x hx;cases hx
 | @step Ls i b q R h1 h2 h3 ih=>
  intro x hx
  rcases Fv.mp hx with rfl|hx
  ·exact⟨_,h1,.head _⟩
  ·refine xE (ih x hx) λ r Z=>(λ a c=>?_) Z.1 Z.2;clear Z
   by_cases hj:i=x.1
   ·rw[hj,Fu (by rw[<- hj];exact(FC.mp h1).1)]at a
    cases a
    exact⟨_,by rw[<- hj];exact h1,.tail _ c⟩
   ·rw[Fg hj]at a;exact⟨r,a,c⟩
theorem Mrg.sorted{Ls:List (List Blk)}{R:List (Nat×Blk)}(h:Mrg Ls R)(hs:∀r∈Ls,W6 r):W6 (R.map (·.2)):=by
 induction h with
 | done h=>exact .nil
 | @step Ls i b q R h1 h2 h3 ih=>
  have hb:=hs _ (FD h1)
  obtain⟨g1,g2⟩:=GQ.mp hb
  have hs':∀r∈Ls.set i q,W6 r:=λ r hr=>by
   rcases Lg hr with h|h
   ·exact hs r h
   ·subst h;exact g2
  refine GQ.mpr ⟨λ x hx=>?_,ih hs'⟩
  refine xE (FN.mp hx) λ y Z=>(λ hy J=>?_) Z.1 Z.2;rcases J with rfl;clear Z
  refine xE (h3.tag y hy) λ r Z=>(λ a c=>?_) Z.1 Z.2;clear Z
  by_cases hj:i=y.1
  ·rw[hj,Fu (by rw[<- hj];exact(FC.mp h1).1)]at a
   cases a
   exact g1 _ c
  ·rw[Fg hj]at a
   cases r with
   | nil=>cases c
   | cons d r=>
    have hd:=h2 _ _ _ a
    have hsd:=hs _ (FD a)
    rcases Fv.mp c with rfl|c
    ·exact hd
    ·exact lK hd ((GQ.mp hsd).1 _ c)
set_option tactic.hygienic true in
theorem Mrg.perm{Ls:List (List Blk)}{R:List (Nat×Blk)}(h:Mrg Ls R):(R.map (·.2)).Perm Ls.flatten:=by
 induction h with
 | done h=>
  rename_i Ls
  have:Ls.flatten=[]:=List.flatten_eq_nil_iff.mpr h
  rw[this];exact .nil
 | @step Ls i b q R h1 h2 h3 ih=>
  obtain⟨hi,e⟩:=FC.mp h1
  have:Ls=Ls.take i++(b::q)::Ls.drop (i+1):=by
   rw[<- e,<- HF hi,GJ]
  have hset:(Ls.set i q).flatten=(Ls.take i).flatten++q++(Ls.drop (i+1)).flatten:=by
   rw[List.set_eq_take_append_cons_drop,if_pos hi];simp
  have hfl:Ls.flatten=(Ls.take i).flatten++b::(q++(Ls.drop (i+1)).flatten):=by
   conv=>lhs;rw[this]
   simp
  rw[Gg,hfl]
  refine(List.Perm.cons b ih).trans ?_
  rw[hset,Fz]
  exact NC.symm
structure GoodR(own:Nat->Option Nat)(g:Nat->Int)(ns:List Nat)(R:List Blk):Prop where
 nd:ns.Nodup
 sorted:W6 R
 perm:(R.flatMap (·.pl)).Perm ns
 valid:Z9 own ns (R.flatMap (·.pl))
 blk:∀b∈R,bL g b
 dom:∀X,Z9 own ns X->∃rest,D 0 R (X.map (sg g)) rest/\(X.Perm ns->rest=[])
structure lN(own:Nat->Option Nat)(g:Nat->Int)(k:Nat)(ns:List Nat)(R:List Blk):Prop extends GoodR own g ns R where
 root:k∈ns
 up:∀j∈ns,j≠k->∃i,own j=some i/\i∈ns
 out:∀i,own k=some i->i∉ns
structure Ch where
 kk:Nat
 ns:List Nat
 R:List Blk
noncomputable def M6(cs:List Ch):List Nat:=(cs.map (·.ns)).flatten
noncomputable def jS(cs:List Ch):List Blk:=(cs.map (·.R)).flatten
theorem aM{q:Nat->Bool}{l:List Nat}(h:∀x∈l,q x=true):l.filter q=l:=Hu.mpr h
theorem dT{q:α->Bool}{l:List α}(h:∀x∈l,q x=false):l.filter q=[]:=by
 rw[Jt];intro x hx;rw[h x hx];simp
theorem Z9.filter{own:Nat->Option Nat}{ns X:List Nat}{S:List Nat}(h:Z9 own ns X)(hS:∀j∈S,j∈ns):Z9 own S (X.filter λ j=>S.contains j):=by
 refine⟨h.nd.filter _,λ j hj=>by simpa using (Gm.mp hj).2,λ A j B e i hi hiS=>?_⟩
 refine xE (List.filter_eq_append_iff.mp e) λ A' Z=>xE Z λ C J=>(λ θ ξ e2=>?_) J.1 J.2.1 J.2.2;rcases θ with rfl;rcases ξ with rfl;clear Z J
 refine xE (List.filter_eq_cons_iff.mp e2) λ B1 Z=>xE Z λ B2 J=>(λ e3 h3 h4 h5=>?_) J.1 J.2.1 J.2.2.1 J.2.2.2;clear Z J
 subst e3
 have:=h.prec (A'++B1) j B2 (by simp) i hi (hS _ hiS)
 rw[FR]at this
 rcases this with h'|h'
 ·exact Gm.mpr ⟨h',by simpa using hiS⟩
 ·exact absurd (by simpa using hiS) (by simpa using h3 i h')
theorem uA{own:Nat->Option Nat}{g:Nat->Int}:∀(cs:List Ch),(∀c∈cs,lN own g c.kk c.ns c.R)->(M6 cs).Nodup->∀X:List Nat,X.Nodup->(∀j∈X,j∈M6 cs)->(∀c∈cs,Z9 own c.ns (X.filter λ j=>c.ns.contains j))->
  ∃M S,D 0 M (X.map (sg g)) []/\M.Perm S/\S.Sublist (jS cs)/\(X.Perm (M6 cs)->M.Perm (jS cs))
 | [],_,_,X,_,hX,_=>by
  have:X=[]:=Jm.mpr λ j hj=>by have:=hX j hj;simp[M6]at this
  subst this
  exact⟨[],[],.nil (FV _),.refl _,List.nil_sublist _,λ Y=>.refl _⟩
 | c::cs,hg,hn,X,hXn,hX,hv=>by
  have hc:=hg c (.head _)
  have e:M6 (c::cs)=c.ns++M6 cs:=rfl
  have er:jS (c::cs)=c.R++jS cs:=rfl
  rw[e]at hn hX
  obtain⟨n1,n2,n3⟩:=Ia.mp hn
  have disj:∀j,j∈c.ns->j∉M6 cs:=λ j h1 h2=>n3 j h1 j h2 rfl
  refine xE (hc.dom _ (hv c (.head _))) λ rest Z=>(λ h1 h2=>?_) Z.1 Z.2;clear Z
  have hX2:∀j∈X.filter λ j=>!c.ns.contains j,j∈M6 cs:=λ j hj=>by
   obtain⟨a,b⟩:=Gm.mp hj
   rcases FR.mp (hX j a)with h|h
   ·simp[h]at b
   ·exact h
  have hv2:∀d∈cs,Z9 own d.ns ((X.filter λ j=>!c.ns.contains j).filter λ j=>d.ns.contains j):=λ d hd=>by
   have:=hv d (.tail _ hd)
   rw[Kc]
   have:(X.filter λ j=>d.ns.contains j && !c.ns.contains j)=X.filter λ j=>d.ns.contains j:=by
    apply JH
    intro j hj
    by_cases hjd:j∈d.ns
    ·have hja:j∈M6 cs:=IJ.mpr ⟨d.ns,Gk hd,hjd⟩
     have:j∉c.ns:=λ h=>disj j h hja
     simp[hjd,this]
    ·simp[hjd]
   rw[this];assumption
  refine xE (uA cs (λ d hd=>hg d (.tail _ hd)) n2 _ (hXn.filter _) hX2 hv2) λ M2 Z=>xE Z λ S2 J=>(λ k1 k2 k3 k4=>?_) J.1 J.2.1 J.2.2.1 J.2.2.2;clear Z J
  refine xE (D.mix (sg g) (λ j=>c.ns.contains j) h1 k1) λ M Z=>xE Z λ E1 J=>xE J λ E2 θ=>(λ m1 m2 m3 m4=>?_) θ.1 θ.2.1 θ.2.2.1 θ.2.2.2;clear Z J θ
  rw[FL]at m3;subst m3
  refine⟨M,E1++S2,by simpa using m1,m4.trans (k2.append_left E1),?_,λ hp=>?_⟩
  ·rw[er,m2];exact((List.sublist_append_left E1 rest)).append k3
  ·rw[e]at hp
   have p1:(X.filter λ j=>c.ns.contains j).Perm c.ns:=by
    have:=hp.filter λ j=>c.ns.contains j
    rw[HB,aM (l:=c.ns) (λ x hx=>by simpa using hx),dT (l:=M6 cs) (λ x hx=>by
     have:x∉c.ns:=λ h=>disj x h hx
     simpa using this),FL]at this
    exact this
   have p2:(X.filter λ j=>!c.ns.contains j).Perm (M6 cs):=by
    have:=hp.filter λ j=>!c.ns.contains j
    rw[HB,dT (l:=c.ns) (λ x hx=>by simpa using hx),aM (l:=M6 cs) (λ x hx=>by
     have:x∉c.ns:=λ h=>disj x h hx
     simpa using this),C7]at this
    exact this
   have:=h2 p1;subst this
   rw[FL]at m2;subst m2
   rw[er]
   exact m4.trans ((k4 p2).append_left _)
theorem uB{cs:List Ch}(hd:(M6 cs).Nodup){c:Ch}(hi:cs[i]?=some c):∀{T:List (Nat×Blk)},(∀x∈T,∃d,cs[x.1]?=some d/\∀j∈x.2.pl,j∈d.ns)->
  ((T.map (·.2)).flatMap (·.pl)).filter (λ j=>c.ns.contains j)=((T.filter λ x=>x.1==i).map (·.2)).flatMap (·.pl):=by
 intro T
 induction T with
 | nil=>intro _;rfl
 | cons x T ih=>
  intro h
  obtain⟨d,h1,h2⟩:=h x (.head _)
  rw[Gg,HZ,HB,ih λ y hy=>h y (.tail _ hy)]
  by_cases hx:x.1=i
  ·rw[hx,hi]at h1;cases h1
   rw[HP (by simpa using hx),Gg,HZ,aM λ j hj=>by simpa using h2 j hj]
  ·rw[IA (by simpa using hx),dT λ j hj=>?_,C7]
   have hjd:=h2 j hj
   have hdis:j∉c.ns:=by
    intro hjc
    obtain⟨l1,e1⟩:=FC.mp h1
    obtain⟨l2,e2⟩:=FC.mp hi
    have hp:=(List.pairwise_flatten.mp hd).2
    rw[Lj]at hp
    rcases Nat.lt_or_gt_of_ne hx with q|q
    ·have:=He.mp hp x.1 i l1 l2 q
     rw[e1,e2]at this
     exact this j hjd j hjc rfl
    ·have:=He.mp hp i x.1 l2 l1 q
     rw[e1,e2]at this
     exact this j hjc j hjd rfl
   simpa using hdis
theorem uC{own:Nat->Option Nat}{g:Nat->Int}{cs:List Ch}{T:List (Nat×Blk)}(hg:∀c∈cs,lN own g c.kk c.ns c.R)(hd:(M6 cs).Nodup)(ho:∀c∈cs,∀i,own c.kk=some i->i∉M6 cs)(hm:Mrg (cs.map (·.R)) T):
  GoodR own g (M6 cs) (T.map (·.2)):=by
 have hs:W6 (T.map (·.2)):=hm.sorted λ r hr=>by
  refine xE (FN.mp hr) λ c Z=>(λ hc J=>?_) Z.1 Z.2;rcases J with rfl;clear Z
  exact(hg c hc).sorted
 have hp:(T.map (·.2)).Perm (jS cs):=hm.perm
 have htag:∀x∈T,∃d,cs[x.1]?=some d/\d∈cs/\x.2∈d.R:=λ x hx=>by
  refine xE (hm.tag x hx) λ r Z=>(λ a b=>?_) Z.1 Z.2;clear Z
  rw[FK,Gu]at a
  obtain⟨d,a,rfl⟩:=a
  exact⟨d,a,FD a,b⟩
 have hpl:∀x∈T,∃d,cs[x.1]?=some d/\∀j∈x.2.pl,j∈d.ns:=λ x hx=>by
  refine xE (htag x hx) λ d Z=>(λ a b c=>?_) Z.1 Z.2.1 Z.2.2;clear Z
  exact⟨d,a,λ j hj=>(hg d b).perm.mem_iff.mp (JQ.mpr ⟨_,c,hj⟩)⟩
 have hperm:((T.map (·.2)).flatMap (·.pl)).Perm (M6 cs):=by
  refine(hp.flatMap_right _).trans ?_
  have:∀cs:List Ch,(∀c∈cs,lN own g c.kk c.ns c.R)->((jS cs).flatMap (·.pl)).Perm (M6 cs):=by
   intro cs
   induction cs with
   | nil=>intro _;exact .refl _
   | cons c cs ih=>
    intro h
    show((c.R++jS cs).flatMap (·.pl)).Perm (c.ns++M6 cs)
    rw[JU]
    exact(h c (.head _)).perm.append (ih λ d hd=>h d (.tail _ hd))
  exact this cs hg
 have own_in:∀c∈cs,∀j∈c.ns,∀i,own j=some i->i∈M6 cs->j≠c.kk/\i∈c.ns:=λ c hc j hj i hi hin=>by
  by_cases hk:j=c.kk
  ·subst hk;exact(ho c hc i hi hin).elim
  ·refine xE ((hg c hc).up j hj hk) λ i' Z=>(λ a b=>?_) Z.1 Z.2;clear Z
   rw[hi]at a;cases a
   exact⟨hk,b⟩
 have ch_of:∀j∈M6 cs,∃(n:Nat) (c:Ch),cs[n]?=some c/\c∈cs/\j∈c.ns:=λ j hj=>by
  refine xE (IJ.mp hj) λ l Z=>(λ hl hjl=>?_) Z.1 Z.2;clear Z
  refine xE (FN.mp hl) λ c Z=>(λ hc J=>?_) Z.1 Z.2;rcases J with rfl;clear Z
  refine xE (Jj hc) λ n Z=>xE Z λ hn e=>?_;clear Z
  exact⟨n,c,by rw[Ff hn,e],hc,hjl⟩
 refine⟨hd,hs,hperm,⟨hperm.nodup_iff.mpr hd,λ j hj=>hperm.mem_iff.mp hj,λ A j B e i hi hin=>?_⟩,λ b hb=>?_,λ X hX=>?_⟩
 ·have hj:j∈M6 cs:=hperm.mem_iff.mp (by rw[e];simp)
  refine xE (ch_of j hj) λ n Z=>xE Z λ c J=>(λ hcn hc hjc=>?_) J.1 J.2.1 J.2.2;clear Z J
  obtain⟨_,hic⟩:=own_in c hc j hjc i hi hin
  have hf:=uB hd hcn hpl
  rw[hm.row n c.R (by rw[FK,hcn];rfl)]at hf
  rw[e,HB,HP (by simpa using hjc)]at hf
  have:=(hg c hc).valid.prec _ j _ hf.symm i hi hic
  exact(Gm.mp this).1
 ·refine xE (FN.mp hb) λ x Z=>(λ hx J=>?_) Z.1 Z.2;rcases J with rfl;clear Z
  refine xE (htag x hx) λ d Z=>(λ a b' c=>?_) Z.1 Z.2.1 Z.2.2;clear Z
  exact(hg d b').blk _ c
 ·have hv:∀c∈cs,Z9 own c.ns (X.filter λ j=>c.ns.contains j):=λ c hc=>hX.filter λ j hj=>IJ.mpr ⟨c.ns,Gk hc,hj⟩
  refine xE (uA cs hg hd X hX.nd hX.sub hv) λ M Z=>xE Z λ S J=>(λ k1 k2 k3 k4=>?_) J.1 J.2.1 J.2.2.1 J.2.2.2;clear Z J
  refine xE (D.any hs hp.symm (M:=M) ⟨S,k2,k3⟩) λ rest Z=>(λ r1 r2=>?_) Z.1 Z.2;clear Z
  refine xE (r1.trans k1) λ rest' Z=>(λ q1 q2=>?_) Z.1 Z.2;clear Z
  refine⟨rest',by simpa using q1,λ h=>?_⟩
  rw[q2 rfl,r2 (k4 h)]
theorem BU{own:Nat->Option Nat}{g:Nat->Int}{cs:List Ch}{T:List (Nat×Blk)}(hg:∀c∈cs,lN own g c.kk c.ns c.R)(hd:(k::M6 cs).Nodup)(ho:∀c∈cs,own c.kk=some k)(hk:∀i,own k=some i->i∉k::M6 cs)(hm:Mrg (cs.map (·.R)) T):
  lN own g k (k::M6 cs) (U1 (sg g k) (T.map (·.2))):=by
 obtain⟨hkn,hd'⟩:=GZ.mp hd
 have G:=uC hg hd' (λ c hc i hi hin=>by rw[ho c hc]at hi;cases hi;exact hkn hin) hm
 have epl:(U1 (sg g k) (T.map (·.2))).flatMap (·.pl)=k::(T.map (·.2)).flatMap (·.pl):=by rw[lL];rfl
 refine⟨⟨hd,fB G.sorted,?_,?_,lM (bL.one g k) G.blk,λ X hX=>?_⟩,.head _,λ j hj hjk=>?_,hk⟩
 ·rw[epl];exact G.perm.cons k
 ·rw[epl]
  refine⟨(G.perm.cons k).nodup_iff.mpr hd,λ j hj=>(G.perm.cons k).mem_iff.mp hj,λ A j B e i hi hin=>?_⟩
  cases A with
  | nil=>
   cases e
   exact(hk i hi hin).elim
  | cons a A=>
   rw[C3]at e
   injection e with e1 e2
   subst e1
   rcases Fv.mp hin with rfl|hin
   ·exact .head _
   ·exact .tail _ (G.valid.prec A j B e2 i hi hin)
 ·cases X with
  | nil=>
   refine⟨_,.nil (FV _),λ h=>?_⟩
   have:=h.length_eq;simp at this
  | cons x X=>
   have hx:x=k:=by
    have hxin:=hX.sub x (.head _)
    rcases Fv.mp hxin with rfl|hxin
    ·rfl
    ·exfalso
     have:∃i,own x=some i/\i∈k::M6 cs:=by
      refine xE (IJ.mp hxin) λ l Z=>(λ hl hxl=>?_) Z.1 Z.2;clear Z
      refine xE (FN.mp hl) λ c Z=>(λ hc J=>?_) Z.1 Z.2;rcases J with rfl;clear Z
      by_cases hxc:x=c.kk
      ·exact⟨k,by rw[hxc];exact ho c hc,.head _⟩
      ·refine xE ((hg c hc).up x hxl hxc) λ i Z=>(λ a b=>?_) Z.1 Z.2;clear Z
       exact⟨i,a,.tail _ (IJ.mpr ⟨c.ns,Gk hc,b⟩)⟩
     refine xE this λ i Z=>(λ hi hin=>?_) Z.1 Z.2;clear this Z
     have:=hX.prec [] x X rfl i hi hin
     cases this
   subst hx
   have hXn:=GZ.mp hX.nd
   have hX':Z9 own (M6 cs) X:=by
    refine⟨hXn.2,λ j hj=>?_,λ A j B e i hi hin=>?_⟩
    ·cases hX.sub j (.tail _ hj)with
     | head=>exact(hXn.1 hj).elim
     | tail _ h=>exact h
    ·have:=hX.prec (x::A) j B (by rw[e];rfl) i hi (.tail _ hin)
     rcases Fv.mp this with rfl|h
     ·exact(hkn hin).elim
     ·exact h
   refine xE (G.dom X hX') λ rest Z=>(λ r1 r2=>?_) Z.1 Z.2;clear Z
   refine xE ((oE (T.map (·.2)) (sg g x)).trans (r1.both (sg g x))) λ rest' Z=>(λ q1 q2=>?_) Z.1 Z.2;clear Z
   refine⟨rest',by simpa using q1,λ h=>q2 (r2 (h.cons_inv))⟩
 ·rcases Fv.mp hj with rfl|hj
  ·exact(hjk rfl).elim
  ·refine xE (IJ.mp hj) λ l Z=>(λ hl hxl=>?_) Z.1 Z.2;clear Z
   refine xE (FN.mp hl) λ c Z=>(λ hc J=>?_) Z.1 Z.2;rcases J with rfl;clear Z
   by_cases hxc:j=c.kk
   ·exact⟨k,by rw[hxc];exact ho c hc,.head _⟩
   ·refine xE ((hg c hc).up j hxl hxc) λ i Z=>(λ a b=>?_) Z.1 Z.2;clear Z
    exact⟨i,a,.tail _ (IJ.mpr ⟨c.ns,Gk hc,b⟩)⟩
noncomputable def dU(st:List (Int×Int))(x:Int×Int):List (Int×Int):=
 if x.2 > (st.getLast?.getD (0,0)).2 then(if x.1=(st.getLast?.getD (0,0)).1 then st.dropLast else st)++[x]else st
noncomputable def aN(L:List (Int×Int)):List (Int×Int):=L.foldl dU [(0,0)]
def cq(x y:Int×Int):Prop:=y.1<=x.1/\x.2<=y.2
structure dW(L R:List (Int×Int)):Prop where
 ne:R≠[]
 head:∃g,R.head?=some (0,g)/\0<=g
 inc:R.Pairwise λ a b=>a.1<b.1/\a.2<b.2
 of:∀x∈R,x=(0,0)\/(x∈L/\0<x.2)
 dom:∀x∈L,∃y∈R,cq x y
theorem dW.start:dW [] [(0,0)]:=⟨by simp,⟨0,rfl,FV _⟩,by simp,by simp,by simp⟩
theorem cG{R:List α}(h:R≠[]):∃I l,R=I++[l]/\R.getLast?=some l/\R.dropLast=I:=by
 refine⟨R.dropLast,R.getLast h,(KL h).symm,List.getLast?_eq_some_getLast h,rfl⟩
theorem dW.next{L R:List (Int×Int)}{x:Int×Int}(S:dW L R)(h0:0<=x.1)(hl:∀y∈L,y.1<=x.1):dW (L++[x]) (dU R x):=by
 refine xE (cG S.ne) λ I Z=>xE Z λ l J=>(λ e e1 e2=>?_) J.1 J.2.1 J.2.2;clear Z J
 have hlm:l∈R:=by rw[e];exact Hk _ (.head _)
 have hlx:l.1<=x.1:=(S.of l hlm).elim (λ h=>by rw[h];exact h0) λ h=>hl l h.1
 have hl0:0<=l.2:=(S.of l hlm).elim (λ h=>by rw[h];exact FV _) λ h=>FT h.2
 have ofL:∀y∈R,y=(0,0)\/(y∈L++[x]/\0<y.2):=λ y hy=>(S.of y hy).imp_right λ h=>⟨Gq _ h.1,h.2⟩
 have hxm:x∈L++[x]:=Hk _ (.head _)
 have dx:cq x x:=⟨FV _,FV _⟩
 have domL:∀{T:List (Int×Int)},(∀y∈L,∃z∈T,cq y z)->(∃z∈T,cq x z)->∀y∈L++[x],∃z∈T,cq y z:=λ h h' y hy=>by
  rcases FR.mp hy with q|q
  ·exact h y q
  ·rw[Fh.mp q];exact h'
 have inc:=S.inc
 rw[e,Hf]at inc
 refine(λ i1 Z i3=>?_) inc.1 inc.2.1 inc.2.2;clear inc
 have i3:=λ a ha=>i3 a ha l (.head _)
 unfold dU
 rw[e1,Option.getD_some,e2]
 by_cases hg:x.2 > l.2
 ·have hx0:=Jr hl0 hg
  rw[if_pos hg]
  by_cases hp:x.1=l.1
  ·rw[if_pos hp]
   refine⟨Kb _ (Lu _ _),?_,Hf.mpr ⟨i1,Jn ..,λ a ha b hb=>?_⟩,λ y hy=>?_,domL (λ y hy=>?_) ⟨x,Hk _ (.head _),dx⟩⟩
   ·refine xE S.head λ g Z=>(λ hh h0'=>?_) Z.1 Z.2;clear Z
    rw[e]at hh
    cases I with
    | nil=>
     have:x.1=0:=by rw[hp];cases hh;rfl
     exact⟨x.2,by rw[<- this];rfl,FT hx0⟩
    | cons a I=>exact⟨g,hh,h0'⟩
   ·rw[Fh.mp hb]
    exact⟨hp▸(i3 a ha).1,Iv (i3 a ha).2 hg⟩
   ·rcases FR.mp hy with h|h
    ·exact ofL y (by rw[e];exact Gq _ h)
    ·rw[Fh.mp h];exact .inr ⟨hxm,hx0⟩
   ·refine xE (S.dom y hy) λ z Z=>(λ hz h1 h2=>?_) Z.1 Z.2.1 Z.2.2;clear Z
    rw[e]at hz
    rcases FR.mp hz with q|q
    ·exact⟨z,Gq _ q,h1,h2⟩
    ·rw[Fh.mp q]at h1 h2
     exact⟨x,Hk _ (.head _),hp▸h1,FT (Jr h2 hg)⟩
  ·rw[if_neg hp]
   have hlt:=Int.lt_iff_le_and_ne.mpr ⟨hlx,HE hp⟩
   refine⟨Kb _ (Lu _ _),?_,Hf.mpr ⟨S.inc,Jn ..,λ a ha b hb=>?_⟩,λ y hy=>?_,domL (λ y hy=>?_) ⟨x,Hk _ (.head _),dx⟩⟩
   ·refine xE S.head λ g Z=>(λ hh h0'=>?_) Z.1 Z.2;clear Z
    cases R with
    | nil=>exact(S.ne rfl).elim
    | cons a R=>exact⟨g,hh,h0'⟩
   ·rw[Fh.mp hb]
    rw[e]at ha
    rcases FR.mp ha with q|q
    ·exact⟨Iv (i3 a q).1 hlt,Iv (i3 a q).2 hg⟩
    ·rw[Fh.mp q];exact⟨hlt,hg⟩
   ·rcases FR.mp hy with h|h
    ·exact ofL y h
    ·rw[Fh.mp h];exact .inr ⟨hxm,hx0⟩
   ·refine xE (S.dom y hy) λ z Z=>(λ hz h12=>?_) Z.1 Z.2;clear Z
    exact⟨z,Gq _ hz,h12⟩
 ·rw[if_neg hg]
  exact⟨S.ne,S.head,S.inc,ofL,domL S.dom ⟨l,hlm,hlx,Ha.mp hg⟩⟩
theorem oF{L:List (Int×Int)}(h0:∀x∈L,0<=x.1)(hs:L.Pairwise λ a b=>a.1<=b.1):dW L (aN L):=by
 have:∀(L M R:List (Int×Int)),dW M R->(∀x∈L,0<=x.1)->(M++L).Pairwise (λ a b=>a.1<=b.1)->dW (M++L) (L.foldl dU R):=by
  intro L
  induction L with
  | nil=>intro M R h _ _;simpa using h
  | cons x L ih=>
   intro M R h h0 hs
   rw[HO]
   have hs':((M++[x])++L).Pairwise (λ a b=>a.1<=b.1):=by simpa using hs
   have:=ih (M++[x]) (dU R x) (h.next (h0 x (.head _)) λ y hy=>(Hf.mp hs).2.2 y hy x (.head _)) (λ y hy=>h0 y (.tail _ hy)) hs'
   simpa using this
 have h:=this L [] [(0,0)] dW.start h0 (by simpa using hs)
 rw[C7]at h;exact h
theorem sO{R:List (Int×Int)}(h:R.Pairwise λ a b=>a.1<b.1/\a.2<b.2){x y:Int×Int}(hx:x∈R)(hy:y∈R)(d:cq x y):x=y:=by
 refine xE (Jj hx) λ i Z=>xE Z λ hi J=>?_;rcases J with rfl;clear Z
 refine xE (Jj hy) λ j Z=>xE Z λ hj J=>?_;rcases J with rfl;clear Z
 have:=He.mp h
 rcases Ll i j with q|q|q
 ·have:=this i j hi hj q;unfold cq at d;exact absurd this.1 (Ha.mpr d.1)
 ·subst q;rfl
 ·have:=this j i hj hi q;unfold cq at d;exact absurd this.2 (Ha.mpr d.2)
theorem uD{R R':List (Int×Int)}(h:R.Pairwise λ a b=>a.1<b.1/\a.2<b.2)(h':R'.Pairwise λ a b=>a.1<b.1/\a.2<b.2)(hm:∀x,x∈R↔x∈R'):R=R':=by
 have s1:R.Pairwise λ a b=>a.1<b.1:=h.imp λ h=>h.1
 have s2:R'.Pairwise λ a b=>a.1<b.1:=h'.imp λ h=>h.1
 clear h h'
 induction R generalizing R' with
 | nil=>
  cases R' with
  | nil=>rfl
  | cons y R'=>exact absurd ((hm y).mpr (.head _)) (by simp)
 | cons x R ih=>
  cases R' with
  | nil=>exact absurd ((hm x).mp (.head _)) (by simp)
  | cons y R'=>
   obtain⟨a1,a2⟩:=GQ.mp s1
   obtain⟨b1,b2⟩:=GQ.mp s2
   have hxy:x=y:=by
    have h1:=(hm x).mp (.head _)
    have h2:=(hm y).mpr (.head _)
    rcases Fv.mp h1 with rfl|h1
    ·rfl
    ·rcases Fv.mp h2 with rfl|h2
     ·rfl
     ·have:=b1 x h1;have:=a1 y h2;lia
   subst hxy
   rw[ih (λ z=>⟨λ hz=>?_,λ hz=>?_⟩) a2 b2]
   ·have:=(hm z).mp (.tail _ hz)
    rcases Fv.mp this with rfl|h
    ·have:=a1 z hz;exact(MU _ this).elim
    ·exact h
   ·have:=(hm z).mpr (.tail _ hz)
    rcases Fv.mp this with rfl|h
    ·have:=b1 z hz;exact(MU _ this).elim
    ·exact h
theorem jT{L L':List (Int×Int)}{R R':List (Int×Int)}(S:dW L R)(S':dW L' R')(d:∀x∈L,0<x.2->∃y∈L',cq x y):∀x∈R,∃y∈R',cq x y:=by
 intro x hx
 rcases S.of x hx with h|⟨h,h2⟩
 ·refine xE S'.head λ g Z=>(λ hh h0=>?_) Z.1 Z.2;clear Z
  cases R' with
  | nil=>cases hh
  | cons a R'=>
   simp at hh;subst hh
   exact⟨_,.head _,by rw[h];exact FV _,by rw[h];exact h0⟩
 ·refine xE (d x h h2) λ y Z=>(λ hy d1 d2=>?_) Z.1 Z.2.1 Z.2.2;clear Z
  refine xE (S'.dom y hy) λ z Z=>(λ hz d3 d4=>?_) Z.1 Z.2.1 Z.2.2;clear Z
  exact⟨z,hz,FI d3 d1,FI d2 d4⟩
theorem uE{L L':List (Int×Int)}(h0:∀x∈L,0<=x.1)(hs:L.Pairwise λ a b=>a.1<=b.1)(h0':∀x∈L',0<=x.1)(hs':L'.Pairwise λ a b=>a.1<=b.1)
  (d:∀x∈L,0<x.2->∃y∈L',cq x y)(d':∀x∈L',0<x.2->∃y∈L,cq x y):aN L=aN L':=by
 have S:=oF h0 hs
 have S':=oF h0' hs'
 have k1:=jT S S' d
 have k2:=jT S' S d'
 have half:∀{A B:List (Int×Int)},A.Pairwise (λ a b=>a.1<b.1/\a.2<b.2)->(∀x∈A,∃y∈B,cq x y)->(∀x∈B,∃y∈A,cq x y)->∀x∈A,x∈B:=by
  intro A B hA h1 h2 x hx
  obtain⟨y,hy,a,b⟩:=h1 x hx
  obtain⟨z,hz,c,e⟩:=h2 y hy
  have hxz:x=z:=sO hA hx hz ⟨FI c a,FI b e⟩
  subst hxz
  have:y=x:=Oq (Ig a c) (Ig e b)
  rw[<- this];exact hy
 exact uD S.inc S'.inc λ x=>⟨half S.inc k1 k2 x,half S'.inc k2 k1 x⟩
noncomputable def prs(g:Nat->Int):List Nat->Int
 | []=>0
 | k::l=>max 0 (prs g l-g k)
theorem fT(g:Nat->Int):∀l,0<=prs g l
 | []=>FV _
 | k::l=>KI ..
theorem hY(g:Nat->Int):∀(l:List Nat) (p:Int),0<=p->(ok p (l.map (sg g))↔prs g l<=p)
 | [],p,h=>⟨λ Y=>h,λ Y=>trivial⟩
 | k::l,p,h=>by
  show max 0 (-(g k))<=p/\ok (p+g k) (l.map (sg g))↔max 0 (prs g l-g k)<=p
  rw[LL,LL]
  constructor
  ·rintro ⟨h1,h2⟩
   have:=(hY g l (p+g k) (by lia)).mp h2
   exact⟨h,JL this⟩
  ·rintro ⟨_,h2⟩
   have nn:=fT g l
   exact⟨⟨h,by lia⟩,(hY g l (p+g k) (by lia)).mpr (HY h2)⟩
theorem dX(g:Nat->Int):∀(l:List Nat) (p:Int),prs g l<=p↔∀i,i<=l.length->-(Z8 g (l.take i))<=p
 | [],p=>⟨λ h i Y=>by rw[KC];exact h,λ h=>h 0 (Fn _)⟩
 | k::l,p=>by
  show max 0 (prs g l-g k)<=p↔_
  rw[LL]
  constructor
  ·rintro ⟨h1,h2⟩ i hi
   cases i with
   | zero=>exact h1
   | succ i=>
    have:=(dX g l _).mp (HY h2) i (LO hi)
    show -(g k+Z8 g (l.take i))<=p
    lia
  ·intro h
   refine⟨h 0 (Gb _),JL ((dX g l _).mpr λ i hi=>?_)⟩
   have:-(g k+Z8 g (l.take i))<=p:=h (i+1) (Fq hi)
   lia
theorem jU(g:Nat->Int)(l:List Nat)(k:Nat):prs g (l++[k])=max (prs g l) (-(Z8 g (l++[k]))):=by
 have tk:∀i,i<=l.length->(l++[k]).take i=l.take i:=λ i hi=>List.take_append_of_le_length hi
 have up:=(dX g (l++[k]) _).mp (FV _)
 refine Ig ((dX g _ _).mpr λ i hi=>?_) (LL.mpr ⟨(dX g _ _).mpr λ i hi=>?_,?_⟩)
 ·rcases IH l.length i with q|q
  ·rw[Hg (by rw[Fc];exact q)]
   exact Int.le_max_right ..
  ·rw[tk i q]
   exact FI ((dX g l _).mp (FV _) i q) (KI ..)
 ·rw[<- tk i hi]
  exact up i (by rw[Fc];exact GD hi)
 ·have:=up _ (Fn _)
  rw[Jo]at this
  exact this
theorem xC(g:Nat->Int)(l:List Nat)(m:Int)(h1:∃i,i<=l.length/\m=Z8 g (l.take i))(h2:∀i,i<=l.length->m<=Z8 g (l.take i)):prs g l = -m:=by
 obtain⟨j,hj,rfl⟩:=h1
 exact Ig ((dX g l _).mpr λ i hi=>KX (h2 i hi)) ((dX g l _).mp (FV _) j hj)
structure WSt where
 order:List Nat
 purse:Int
 hand:Int
 pairs:List (Int×Int)
noncomputable def W9(s:WSt)(b:Blk):WSt:=
 { order:=s.order++b.pl,purse:=max s.purse (b.need-s.hand),hand:=s.hand+b.net,pairs:=if 0<=b.net then s.pairs++[(max s.purse (b.need-s.hand),s.hand+b.net)]else s.pairs }
noncomputable def G6(R:List Blk):WSt:=R.foldl W9 ⟨[],0,0,[]⟩
theorem fg(R:List Blk)(b:Blk):G6 (R++[b])=W9 (G6 R) b:=by simp[G6]
theorem da:∀R:List Blk,(G6 R).order=R.flatMap (·.pl):=by
 intro R
 have:∀(R:List Blk) (s:WSt),(R.foldl W9 s).order=s.order++R.flatMap (·.pl):=by
  intro R
  induction R with
  | nil=>intro s;simp
  | cons b R ih=>intro s;rw[HO,ih];simp[W9]
 simpa [G6] using this R ⟨[],0,0,[]⟩
theorem dY(R:List Blk):(G6 R).hand=J2 R/\0<=(G6 R).purse/\(∀p,0<=p->(ok p R↔(G6 R).purse<=p)):=by
 have:∀(R:List Blk) (s:WSt),0<=s.purse->(R.foldl W9 s).hand=s.hand+J2 R/\0<=(R.foldl W9 s).purse/\∀p,0<=p->((s.purse<=p/\ok (p+s.hand) R)↔(R.foldl W9 s).purse<=p):=by
  intro R
  induction R with
  | nil=>intro s h;simp[J2,ok,h]
  | cons b R ih=>
   intro s h
   obtain⟨i1,i2,i3⟩:=ih (W9 s b) (by simp[W9];lia)
   rw[HO]
   refine⟨by rw[i1];simp[W9,J2];exact It _ _ _,i2,λ p hp=>?_⟩
   rw[<- i3 p hp]
   simp only[W9,ok]
   rw[show p+(s.hand+b.net)=p+s.hand+b.net from(It _ _ _).symm]
   constructor
   ·rintro ⟨a,b',c⟩;exact⟨by lia,c⟩
   ·rintro ⟨a,c⟩;exact⟨by lia,by lia,c⟩
 obtain⟨a,b,c⟩:=this R ⟨[],0,0,[]⟩ (FV _)
 refine⟨by have h:(G6 R).hand=0+J2 R:=a;exact h.trans (GR _),b,λ p hp=>?_⟩
 have:=c p hp
 simp only[Iu]at this
 exact⟨λ h=>this.mp ⟨hp,h⟩,λ h=>(this.mpr h).2⟩
structure WPr(R:List Blk):Prop where
 nn:∀x∈(G6 R).pairs,0<=x.1
 inc:(G6 R).pairs.Pairwise λ a b=>a.1<=b.1
 le:∀x∈(G6 R).pairs,x.1<=(G6 R).purse
 of:∀x∈(G6 R).pairs,∃E F,R=E++F/\x=((G6 E).purse,J2 E)
 all:∀E F,R=E++F->(∀b∈E,0<=b.net)->E≠[]->((G6 E).purse,J2 E)∈(G6 R).pairs
theorem WPr.snoc{I:List Blk}{b:Blk}(h:WPr I):WPr (I++[b]):=by
 have hpp:(G6 I).purse<=(G6 (I++[b])).purse:=by rw[fg];exact KI ..
 have hx:(G6 (I++[b])).pairs=if 0<=b.net then(G6 I).pairs++[((G6 (I++[b])).purse,J2 (I++[b]))]else(G6 I).pairs:=by
  rw[<- (dY (I++[b])).1,fg];rfl
 have mono:∀x∈(G6 I).pairs,x∈(G6 (I++[b])).pairs:=λ x h=>by
  rw[hx]
  split
  ·exact Gq _ h
  ·exact h
 have inv:∀x∈(G6 (I++[b])).pairs,x∈(G6 I).pairs\/x=((G6 (I++[b])).purse,J2 (I++[b])):=λ x h=>by
  rw[hx]at h
  split at h
  ·exact(FR.mp h).imp_right Fh.mp
  ·exact .inl h
 refine⟨λ x hx=>?_,?_,λ x hx=>?_,λ x hx=>?_,λ E F e h1 h2=>?_⟩
 ·rcases inv x hx with q|rfl
  ·exact h.nn x q
  ·exact(dY (I++[b])).2.1
 ·rw[hx]
  split
  ·exact Hf.mpr ⟨h.inc,Jn ..,λ a ha c hc=>by rw[Fh.mp hc];exact FI (h.le a ha) hpp⟩
  ·exact h.inc
 ·rcases inv x hx with q|rfl
  ·exact FI (h.le x q) hpp
  ·exact FV _
 ·rcases inv x hx with q|rfl
  ·obtain⟨E,F,e,r⟩:=h.of x q
   exact⟨E,F++[b],by rw[e,Fz],r⟩
  ·exact⟨I++[b],[],(FL _).symm,rfl⟩
 ·rcases Ij F with rfl|⟨OM,c,rfl⟩
  ·rw[FL]at e
   subst e
   rw[hx,if_pos (h1 b (Hk _ (.head _)))]
   exact Hk _ (.head _)
  ·rw[Ii,<- Fz]at e
   exact mono _ (h.all E OM (List.append_inj_left' e rfl) h1 h2)
theorem jV:∀(n:Nat) (R:List Blk),R.length=n->WPr R
 | 0,R,h=>by
  obtain rfl:=Kf.mp h
  exact⟨λ x hx=>(nomatch hx),.nil,λ x hx=>(nomatch hx),λ x hx=>(nomatch hx),λ E F e Y hne=>absurd (Km.mp e.symm).1 hne⟩
 | n+1,R,h=>by
  rcases Ij R with rfl|⟨I,b,rfl⟩
  ·cases h
  ·rw[Ii]at h ⊢
   rw[Fc]at h
   exact(jV n I (Nr h)).snoc
structure Ord(own:Nat->Option Nat)(k:Nat)(X:List Nat):Prop where
 nd:X.Nodup
 mem:∀j,j∈X↔(j<6/\k.testBit j=true)
 prec:∀A j B,X=A++j::B->∀i,own j=some i->i∈A
def cu(own:Nat->Option Nat)(g:Nat->Int)(k:Nat):Option Int->Prop
 | some p=>(∃X,Ord own k X/\prs g X=p)/\∀X,Ord own k X->p<=prs g X
 | none=>∀X,¬Ord own k X
noncomputable def W0(g:Nat->Int)(k:Nat):Int:=Z8 g ((List.range 6).filter λ j=>k.testBit j)
theorem qL:∀m:Fin 64,∀i:Fin 6,m.1.testBit i.1=true->2 ^ i.1<=m.1/\∀j:Fin 6,(m.1-2 ^ i.1).testBit j.1=(m.1.testBit j.1 && !(j.1==i.1)):=by decide +kernel
theorem BV:∀m:Fin 64,∀i:Fin 6,m.1.testBit i.1=true->((List.range 6).filter λ j=>m.1.testBit j).Perm (i.1::(List.range 6).filter λ j=>(m.1-2 ^ i.1).testBit j):=by decide +kernel
theorem BW:∀j:Fin 6,(0:Nat).testBit j.1=false:=by decide +kernel
theorem uF:∀j:Fin 6,(63:Nat).testBit j.1=true:=by decide +kernel
theorem BX:∀m:Fin 64,(∀i:Fin 6,m.1.testBit i.1=false)->m.1=0:=by decide +kernel
theorem lO{g:Nat->Int}{a b:List Nat}(h:a.Perm b):Z8 g a=Z8 g b:=by
 induction h with
 | nil=>rfl
 | cons x _ ih=>simp[Z8,ih]
 | swap x y l=>simp[Z8];exact Int.add_left_comm _ _ _
 | trans _ _ i1 i2=>exact i1.trans i2
theorem Ord.perm{own:Nat->Option Nat}{X:List Nat}(h:Ord own k X):X.Perm ((List.range 6).filter λ j=>k.testBit j):=by
 refine(List.perm_ext_iff_of_nodup h.nd (NB.filter _)).mpr λ j=>?_
 rw[h.mem j,Gm,Gi]
theorem Ord.sum{own:Nat->Option Nat}{g:Nat->Int}{X:List Nat}(h:Ord own k X):Z8 g X=W0 g k:=lO h.perm
theorem sP{g:Nat->Int}(hm:m<64)(hi:i<6)(hb:m.testBit i=true):W0 g m=W0 g (m-2 ^ i)+g i:=by
 have:=lO (g:=g) (BV ⟨m,hm⟩ ⟨i,hi⟩ hb)
 simp only[Z8]at this
 unfold W0;exact this.trans (KT _ _)
theorem Ord.snoc{own:Nat->Option Nat}{X:List Nat}(hm:m<64)(hi:i<6)(hb:m.testBit i=true)(ho:∀j,own i=some j->j≠i/\j<6/\m.testBit j=true)(h:Ord own (m-2 ^ i) X):Ord own m (X++[i]):=by
 have hbits:=(qL ⟨m,hm⟩ ⟨i,hi⟩ hb).2
 have hmem:∀j,j∈X↔(j<6/\m.testBit j=true/\j≠i):=λ j=>by
  rw[h.mem j]
  constructor
  ·rintro ⟨a,b⟩
   have:=hbits ⟨j,a⟩
   rw[this]at b
   simp at b
   exact⟨a,b⟩
  ·rintro ⟨a,b,c⟩
   refine⟨a,?_⟩
   rw[hbits ⟨j,a⟩];simp[b,c]
 refine⟨?_,λ j=>?_,λ A j B e k hk=>?_⟩
 ·rw[Ia]
  refine⟨h.nd,by simp,λ a ha b hb=>?_⟩
  rw[Fh]at hb;subst hb
  exact((hmem a).mp ha).2.2
 ·rw[FR,hmem j,Fh]
  constructor
  ·rintro (⟨a,b,_⟩|rfl)
   ·exact⟨a,b⟩
   ·exact⟨hi,hb⟩
  ·rintro ⟨a,b⟩
   by_cases q:j=i
   ·exact .inr q
   ·exact .inl ⟨a,b,q⟩
 ·rcases List.append_eq_append_iff.mp e with⟨C,e1,e2⟩|⟨C,e1,e2⟩
  ·cases C with
   | nil=>
    simp at e2
    obtain⟨rfl,_⟩:=e2
    rw[FL]at e1;subst e1
    obtain⟨a,b,c⟩:=ho k hk
    exact(hmem k).mpr ⟨b,c,a⟩
   | cons c C=>simp at e2
  ·cases C with
   | nil=>
    simp at e2
    obtain⟨rfl,_⟩:=e2
    rw[FL]at e1;subst e1
    obtain⟨a,b,c⟩:=ho k hk
    exact(hmem k).mpr ⟨b,c,a⟩
   | cons c C=>
    simp at e2
    obtain⟨rfl,rfl⟩:=e2
    exact h.prec A j C e1 k hk
theorem Ord.last{own:Nat->Option Nat}{X:List Nat}(hm:m<64)(h:Ord own m (X++[i])):i<6/\m.testBit i=true/\Ord own (m-2 ^ i) X/\∀j,own i=some j->m.testBit j=true:=by
 obtain⟨hi,hb⟩:=(h.mem i).mp (by simp)
 have hbits:=(qL ⟨m,hm⟩ ⟨i,hi⟩ hb).2
 obtain⟨n1,_,n3⟩:=Ia.mp h.nd
 refine⟨hi,hb,⟨n1,λ j=>?_,λ A j B e k hk=>?_⟩,λ j hj=>?_⟩
 ·constructor
  ·intro hj
   have hji:j≠i:=n3 j hj i (by simp)
   obtain⟨a,b⟩:=(h.mem j).mp (Gq _ hj)
   refine⟨a,?_⟩
   rw[hbits ⟨j,a⟩];simp[b,hji]
  ·rintro ⟨a,b⟩
   rw[hbits ⟨j,a⟩]at b
   simp at b
   have:=(h.mem j).mpr ⟨a,b.1⟩
   rcases FR.mp this with q|q
   ·exact q
   ·rw[Fh]at q;exact(b.2 q).elim
 ·exact h.prec A j (B++[i]) (by rw[e];simp) k hk
 ·have:=h.prec X i [] rfl j hj
  exact((h.mem j).mp (Gq _ this)).2
theorem cu.zero(own:Nat->Option Nat)(g:Nat->Int):cu own g 0 (some 0):=by
 have h0:Ord own 0 []:=by
  refine⟨by simp,λ j=>⟨λ h=>(by cases h),λ h=>?_⟩,λ A j B e=>by simp at e⟩
  have:=BW ⟨j,h.1⟩
  rw[h.2]at this;cases this
 refine⟨⟨[],h0,rfl⟩,λ X hX=>fT g X⟩
theorem cu.step{own:Nat->Option Nat}{g:Nat->Int}{P:Nat->Option Int}(ho:∀i j,own i=some j->j<i)(h0:0<m)(hm:m<64)(hP:∀k,k<m->cu own g k (P k)){ways:List Int}
  (hw:∀p,p∈ways↔∃i,i<6/\m.testBit i=true/\P (m-2 ^ i)=some p/\∀j,own i=some j->m.testBit j=true):
  (ways=[]->cu own g m none)/\∀M,M∈ways->(∀a∈ways,M<=a)->cu own g m (some (max M (-(W0 g m)))):=by
 have lt:∀i,i<6->m.testBit i=true->m-2 ^ i<m:=λ i hi hb=>by
  have:=(qL ⟨m,hm⟩ ⟨i,hi⟩ hb).1
  have:0<2 ^ i:=Mi i
  simp only at *;exact JO h0 this
 have split:∀X,Ord own m X->∃OL i,X=OL++[i]:=λ X hX=>by
  have hne:X≠[]:=by
   rintro rfl
   have:=BX ⟨m,hm⟩ λ i=>by
    cases h:m.testBit i.1 with
    | false=>rfl
    | true=>have:=(hX.mem i.1).mpr ⟨i.2,h⟩;cases this
   simp at this;exact FU h0 this
  refine xE (cG hne) λ OL Z=>xE Z λ i J=>(λ e θ=>?_) J.1 J.2;clear Z J
  exact⟨OL,i,e⟩
 have each:∀X,Ord own m X->∃p∈ways,p<=prs g X:=λ X hX=>by
  refine xE (split X hX) λ OL Z=>xE Z λ i J=>?_;rcases J with rfl;clear Z
  obtain⟨a,b,c,d⟩:=hX.last hm
  have hs:=hP _ (lt i a b)
  cases hp:P (m-2 ^ i)with
  | none=>rw[hp]at hs;exact(hs OL c).elim
  | some p=>
   rw[hp]at hs
   refine⟨p,(hw p).mpr ⟨i,a,b,hp,d⟩,?_⟩
   rw[jU]
   exact FI (hs.2 OL c) (KI ..)
 refine⟨λ e X hX=>?_,λ M hM hmin=>⟨?_,λ X hX=>?_⟩⟩
 ·refine xE (each X hX) λ p Z=>(λ hp J=>?_) Z.1 Z.2;clear Z
  rw[e]at hp;cases hp
 ·refine xE ((hw M).mp hM) λ i Z=>(λ a b hp d=>?_) Z.1 Z.2.1 Z.2.2.1 Z.2.2.2;clear Z
  have hs:=hP _ (lt i a b)
  rw[hp]at hs
  refine(λ Z J=>?_) hs.1 hs.2;refine xE Z λ X θ=>(λ hX e=>?_) θ.1 θ.2;clear hs Z θ
  have hX':=hX.snoc hm a b λ j hj=>⟨by have:=ho i j hj;exact FP this,by have:=ho i j hj;exact FF this a,d j hj⟩
  exact⟨X++[i],hX',by rw[jU,hX'.sum,e]⟩
 ·refine xE (each X hX) λ p Z=>(λ hp hle=>?_) Z.1 Z.2;clear Z
  have h1:=hmin p hp
  refine xE (split X hX) λ OL Z=>xE Z λ i J=>?_;rcases J with rfl;clear Z
  have:=jU g OL i
  rw[hX.sum]at this
  have h2:=fT g OL
  lia
theorem Ord.valid{own:Nat->Option Nat}{X:List Nat}(h:Ord own k X):Z9 own (List.range 6) X:=
 ⟨h.nd,λ j hj=>Gi.mpr ((h.mem j).mp hj).1,λ A j B e i hi Y=>h.prec A j B e i hi⟩
noncomputable def hZ(X:List Nat):Nat:=((List.range 6).map λ j=>if X.contains j then 2 ^ j else 0).sum
theorem sQ:∀b0 b1 b2 b3 b4 b5:Bool,∀j:Fin 6,([b0,b1,b2,b3,b4,b5][j.1]?=some (([(0,b0),(1,b1),(2,b2),(3,b3),(4,b4),(5,b5)].map λ x:Nat×Bool=>if x.2 then 2 ^ x.1 else 0).sum.testBit j.1))/\([(0,b0),(1,b1),(2,b2),(3,b3),(4,b4),(5,b5)].map λ x:Nat×Bool=>if x.2 then 2 ^ x.1 else 0).sum<64:=by decide +kernel
theorem iQ(X:List Nat):hZ X<64/\∀j,j<6->(hZ X).testBit j=X.contains j:=by
 have h:=sQ (X.contains 0) (X.contains 1) (X.contains 2) (X.contains 3) (X.contains 4) (X.contains 5)
 refine⟨(h 0).2,λ j hj=>?_⟩
 have h1:=(h ⟨j,hj⟩).1
 have e:((List.range 6).map X.contains)[j]?=some (X.contains j):=by rw[FK,Hv hj];rfl
 exact Ft (h1.symm.trans e)
theorem Z9.ord{own:Nat->Option Nat}{X:List Nat}(ho:∀i j,own i=some j->j<i)(h:Z9 own (List.range 6) X):Ord own (hZ X) X:=by
 obtain⟨_,hb⟩:=iQ X
 refine⟨h.nd,λ j=>⟨λ hj=>?_,λ hj=>?_⟩,λ A j B e i hi=>?_⟩
 ·have hl:=Gi.mp (h.sub j hj)
  exact⟨hl,by rw[hb j hl];simpa using hj⟩
 ·have:=hj.2
  rw[hb j hj.1]at this;simpa using this
 ·have hj:j<6:=Gi.mp (h.sub j (by rw[e];simp))
  exact h.prec A j B e i hi (Gi.mpr (by have:=ho j i hi;exact FF this hj))
theorem Z9.take{own:Nat->Option Nat}{ns A B:List Nat}(h:Z9 own ns (A++B)):Z9 own ns A:=
 ⟨(Ia.mp h.nd).1,λ j hj=>h.sub j (Gq _ hj),λ A' j B' e i hi hin=>h.prec A' j (B'++B) (by rw[e];simp) i hi hin⟩
theorem uG{own:Nat->Option Nat}{g:Nat->Int}{Wh:List Blk}{P:Nat->Option Int}{Ss:List (Int×Int)}(ho:∀i j,own i=some j->j<i)(G:GoodR own g (List.range 6) Wh)(hP:∀k,k<64->cu own g k (P k))
  (hS:∀x,x∈Ss↔∃k,k<64/\P k=some x.1/\x.2=W0 g k)(hs:Ss.Pairwise λ a b=>a.1<=b.1):
  P 63=some (G6 Wh).purse/\(G6 Wh).purse=prs g (G6 Wh).order/\aN (G6 Wh).pairs=aN Ss:=by
 obtain⟨w1,w2,w3⟩:=dY Wh
 have hord:=da Wh
 have hpur:∀E F,Wh=E++F->(G6 E).purse=prs g (E.flatMap (·.pl)):=λ E F e=>by
  obtain⟨e1,e2,e3⟩:=dY E
  have hb:∀b∈E,bL g b:=λ b hb=>G.blk b (by rw[e];exact Gq _ hb)
  have nn:=fT g (E.flatMap (·.pl))
  have h1:=(e3 _ nn).mp ((mL hb).mpr ((hY g _ _ nn).mpr (FV _)))
  have h2:=(hY g _ _ e2).mp ((mL hb).mp ((e3 _ e2).mpr (FV _)))
  exact Ig h1 h2
 have hwp:=hpur Wh [] (by simp)
 have hO:Ord own (hZ (Wh.flatMap (·.pl))) (Wh.flatMap (·.pl)):=G.valid.ord ho
 have hm63:∀X:List Nat,X.Perm (List.range 6)->Ord own (hZ X) X->Ord own 63 X:=λ X hX h=>⟨h.nd,λ j=>by
  rw[hX.mem_iff,Gi]
  exact⟨λ a=>⟨a,uF ⟨j,a⟩⟩,λ a=>a.1⟩,h.prec⟩
 refine⟨?_,by rw[hord];exact hwp,?_⟩
 ·have h63:=hP 63 (FY _)
  have hO63:=hm63 _ G.perm hO
  cases hp:P 63 with
  | none=>rw[hp]at h63;exact(h63 _ hO63).elim
  | some p=>
   rw[hp]at h63
   refine(λ Z hmin=>?_) h63.1 h63.2;refine xE Z λ X J=>(λ hX e=>?_) J.1 J.2;clear h63 Z J
   have h1:=hmin _ hO63
   have hXp:X.Perm (List.range 6):=hX.perm.trans (by
    rw[Hu.mpr]
    intro j hj;exact uF ⟨j,Gi.mp hj⟩)
   refine xE (G.dom X hX.valid) λ rest Z=>(λ r1 r2=>?_) Z.1 Z.2;clear Z
   have:=r2 hXp;subst this
   have nn:=fT g X
   refine xE (r1.ok ((hY g X _ nn).mpr (FV _))) λ E Z=>(λ e1 e2 J=>?_) Z.1 Z.2.1 Z.2.2;clear Z
   rw[FL]at e1;subst e1
   rw[Iu]at e2
   have h2:=(w3 _ nn).mp e2
   congr 1;exact Ig (FI h1 (HN hwp.symm)) (FI h2 (HN e))
 ·obtain⟨p1,p2,p3,p4,p5⟩:=jV _ Wh rfl
  refine uE p1 p2 (λ x hx=>?_) hs (λ x hx hx0=>?_) (λ x hx hx0=>?_)
  ·refine xE ((hS x).mp hx) λ k Z=>(λ hk e J=>?_) Z.1 Z.2.1 Z.2.2;clear Z
   have:=hP k hk
   rw[e]at this
   refine(λ Z J=>?_) this.1 this.2;refine xE Z λ X θ=>(λ ξ e'=>?_) θ.1 θ.2;clear this Z θ
   rw[<- e'];exact fT g X
  ·refine xE (p4 x hx) λ E Z=>xE Z λ F J=>(λ e θ=>?_) J.1 J.2;rcases θ with rfl;clear Z J
   have hb:∀b∈E,bL g b:=λ b hb=>G.blk b (by rw[e];exact Gq _ hb)
   have hv:Z9 own (List.range 6) (E.flatMap (·.pl)):=by
    have:=G.valid
    rw[e,JU]at this
    exact this.take
   have hOE:=hv.ord ho
   obtain⟨hlt,_⟩:=iQ (E.flatMap (·.pl))
   generalize hZ (E.flatMap (·.pl))=mk at hlt hOE
   have:=hP _ hlt
   cases hp:P mk with
   | none=>rw[hp]at this;exact(this _ hOE).elim
   | some p=>
    rw[hp]at this
    refine⟨(p,W0 g mk),(hS (p,W0 g mk)).mpr ⟨mk,hlt,hp,rfl⟩,?_,?_⟩
    ·show p<=(G6 E).purse
     rw[hpur E F e];exact this.2 _ hOE
    ·show J2 E<=_
     rw[<- hOE.sum,oD hb];exact FV _
  ·refine xE ((hS x).mp hx) λ k Z=>(λ hk e e2=>?_) Z.1 Z.2.1 Z.2.2;clear Z
   have hk':=hP k hk
   rw[e]at hk'
   refine(λ Z J=>?_) hk'.1 hk'.2;refine xE Z λ X θ=>(λ hX e'=>?_) θ.1 θ.2;clear hk' Z θ
   refine xE (G.dom X hX.valid) λ rest Z=>(λ r1 J=>?_) Z.1 Z.2;clear Z
   have nn:=fT g X
   refine xE (r1.ok ((hY g X _ nn).mpr (FV _))) λ E Z=>(λ e1 e3 e4=>?_) Z.1 Z.2.1 Z.2.2;clear Z
   rw[Iu]at e3 e4
   rw[gz,hX.sum,<- e2]at e4
   have gains:∀E:List Blk,W6 E->∃A B,E=A++B/\(∀b∈A,0<=b.net)/\∀b∈B,b.net<0:=by
    intro E
    induction E with
    | nil=>intro _;exact⟨[],[],rfl,by simp,by simp⟩
    | cons b E ih=>
     intro h
     obtain⟨h1,h2⟩:=GQ.mp h
     by_cases hb:0<=b.net
     ·refine xE (ih h2) λ A Z=>xE Z λ B J=>(λ e a1 a2=>?_) J.1 J.2.1 J.2.2;clear Z J
      exact⟨b::A,B,by rw[e];rfl,λ x hx=>by cases hx with|head=>exact hb|tail _ hx=>exact a1 x hx,a2⟩
     ·refine⟨[],b::E,rfl,by simp,λ x hx=>?_⟩
      rcases Fv.mp hx with rfl|hx
      ·exact JK.mp hb
      ·have:=h1 x hx;unfold kle at this;exact this.elim (λ h=>absurd h.1 hb) λ h=>h.2.1
   have hsE:W6 E:=by have:=G.sorted;rw[e1]at this;exact(Hf.mp this).1
   refine xE (gains E hsE) λ A Z=>xE Z λ B J=>(λ θ a1 a2=>?_) J.1 J.2.1 J.2.2;rcases θ with rfl;clear Z J
   have hB:J2 B<=0:=by
    clear e1 e3 e4 hsE
    induction B with
    | nil=>simp[J2]
    | cons b B ih=>have:=a2 b (.head _);have:=ih λ x hx=>a2 x (.tail _ hx);simp[J2];lia
   rw[dS]at e4
   have hA:A≠[]:=by
    rintro rfl
    simp only[J2]at e4;exact JK.mpr hx0 (FI e4 (FI (HN (GR _)) hB))
   have hAW:Wh=A++(B++rest):=by rw[e1];simp
   refine⟨_,p5 A (B++rest) hAW a1 hA,?_,?_⟩
   ·show(G6 A).purse<=x.1
    rw[<- e']
    exact((dY A).2.2 _ nn).mp (fe.mp e3).1
   ·show x.2<=J2 A
    exact FI e4 (FI (MK hB _) (HN (Iu _)))
structure HI where
 b:Blk
 ii:Nat
noncomputable instance:Inhabited HI:=⟨⟨⟨0,0,[]⟩,0⟩⟩
noncomputable def au(b:Blk):Int×Int:=if 0<=b.net then(0,b.need)else(1,-b.need-b.net)
def hlt(x y:HI):Prop:=(au x.b).1<(au y.b).1\/((au x.b).1=(au y.b).1/\((au x.b).2<(au y.b).2\/((au x.b).2=(au y.b).2/\x.ii<y.ii)))
noncomputable instance (x y:HI):Decidable (hlt x y):=by unfold hlt;infer_instance
theorem qM{a b:Int}{P:Prop}:¬(a<b\/(a=b/\P))↔(b<a\/(a=b/\¬P)):=by
 rcases Nh a b with h|h|h
 ·exact⟨λ k=>absurd (.inl h) k,λ k=>k.elim (λ k=>absurd h (Ha.mpr (FT k))) λ k=>absurd k.1 (IZ h)⟩
 ·exact⟨λ k=>.inr ⟨h,λ p=>k (.inr ⟨h,p⟩)⟩,λ k=>k.elim (λ k=>absurd h.symm (IZ k)) λ k g=>g.elim (λ g=>absurd h (IZ g)) λ g=>k.2 g.2⟩
 ·exact⟨λ Y=>.inl h,λ Y g=>g.elim (λ g=>Ha.mpr (FT h) g) λ g=>OA h g.1⟩
theorem lP{a b c:Int}{P Q R:Prop}(h:b<a\/(a=b/\P))(h':c<b\/(b=c/\Q))(f:P->Q->R):c<a\/(a=c/\R):=by
 rcases h with h|⟨rfl,p⟩
 ·rcases h' with h'|⟨rfl,q⟩
  ·exact .inl (Iv h' h)
  ·exact .inl h
 ·exact h'.imp_right λ k=>⟨k.1,f p k.2⟩
theorem mM{x y:HI}:¬hlt x y↔((au y.b).1<(au x.b).1\/((au x.b).1=(au y.b).1/\((au y.b).2<(au x.b).2\/((au x.b).2=(au y.b).2/\¬x.ii<y.ii)))):=by
 unfold hlt
 rw[qM,qM]
theorem mN{x y:HI}(h:hlt x y):¬hlt y x:=mM.mpr (h.imp_right λ h=>⟨h.1.symm,h.2.imp_right λ h=>⟨h.1.symm,OC h.2⟩⟩)
theorem pR{x y z:HI}(h:¬hlt x y)(h':¬hlt y z):¬hlt x z:=
 mM.mpr (lP (mM.mp h) (mM.mp h') λ p q=>lP p q λ p q=>Ir.mpr (fp (Ir.mp q) (Ir.mp p)))
theorem ie{b:Blk}(h:0<=b.net):au b=(0,b.need):=by unfold au;rw[if_pos h]
theorem ik{b:Blk}(h:¬0<=b.net):au b=(1,-b.need-b.net):=by unfold au;rw[if_neg h]
theorem xD{x y:HI}(h:¬hlt y x):kle x.b y.b:=by
 unfold hlt at h;unfold kle
 by_cases h1:0<=x.b.net <;> by_cases h2:0<=y.b.net <;> simp[h1,h2,ie,ik]at h ⊢ <;> lia
noncomputable abbrev dfl:HI:=⟨⟨0,0,[]⟩,0⟩
noncomputable def gt(H:List HI)(j:Nat):HI:=H.getD j dfl
theorem X0{p:Nat}{x:HI}(hp:p<H.length)(j:Nat):gt (H.set p x) j=if j=p then x else gt H j:=by
 unfold gt
 by_cases h:j=p
 ·subst h;simp[FA,Fu hp]
 ·simp[h,FA,Fg (HE h)]
theorem dZ{p:Nat}(hp:p<H.length):H[p]?=some (gt H p):=by
 unfold gt;simp[FA,hp]
noncomputable def par(j:Nat):Nat:=(j-1) / 2
def de(H:List HI)(s p:Nat):Prop:=∀j,1<=j->j<H.length->s<=par j->j≠p->par j≠p->¬hlt (gt H j) (gt H (par j))
def uH(H:List HI)(p:Nat)(x:HI):Prop:=∀c,1<=c->c<H.length->par c=p->¬hlt (gt H c) x
def oG(H:List HI)(s p:Nat):Prop:=∀c,1<=c->c<H.length->par c=p->p≠s->¬hlt (gt H c) (gt H (par p))
def M9(H:List HI)(s:Nat):Prop:=∀j,1<=j->j<H.length->s<=par j->¬hlt (gt H j) (gt H (par j))
inductive d0(s:Nat):Nat->Prop
 | refl:d0 s s
 | step {p:_}:d0 s (par p)->1<=p->d0 s p
theorem bM{p:Nat}(h:1<=p):par p<p:=by unfold par;exact Fe (KM _ _) (JO h Nat.one_pos)
theorem d0.le{s p:Nat}(h:d0 s p):s<=p:=by
 induction h with
 | refl=>exact Fn _
 | step _ h ih=>exact fp ih (FE (bM h))
theorem d0.up{s p:Nat}(h:d0 s p)(hne:p≠s):d0 s (par p)/\1<=p:=by
 induction h with
 | refl=>exact(hne rfl).elim
 | step h1 h2=>exact⟨h1,h2⟩
set_option tactic.hygienic true in
theorem xF{s p:Nat}{x:HI}(hp:p<H.length)(hps:p≠s)(hd:d0 s p)(h1:de H s p)(h2:uH H p x)(h3:oG H s p)(hx:hlt x (gt H (par p))):
  de (H.set p (gt H (par p))) s (par p)/\uH (H.set p (gt H (par p))) (par p) x/\oG (H.set p (gt H (par p))) s (par p)/\d0 s (par p):=by
 obtain⟨hd',hp1⟩:=hd.up hps
 have hq:=bM hp1
 have hqs:=hd'.le
 have sib:∀c,1<=c->c<H.length->par c=par p->c≠p->¬hlt (gt H c) (gt H (par p)):=λ c c1 c2 c3 c4=>by
  have:=h1 c c1 c2 (by rw[c3];exact hqs) c4 (by rw[c3];exact FP hq)
  rwa [c3]at this
 refine⟨λ j j1 j2 j3 j4 j5=>?_,λ c c1 c2 c3=>?_,λ c c1 c2 c3 c4=>?_,hd'⟩
 ·rw[Fj]at j2
  have hjp:j≠p:=λ e=>j5 (by rw[e])
  rw[X0 hp,X0 hp,if_neg hjp]
  split
  ·rename_i e;exact h3 j j1 j2 e hps
  ·rename_i e;exact h1 j j1 j2 j3 hjp e
 ·rw[Fj]at c2
  rw[X0 hp]
  split
  ·exact mN hx
  ·rename_i e;exact pR (sib c c1 c2 c3 e) (mN hx)
 ·rw[Fj]at c2
  obtain⟨hdd,hq1⟩:=hd'.up c4
  have hqq:=bM hq1
  have hpq:=h1 (par p) hq1 (FF hq hp) hdd.le (FP hq) (FP (FF hqq hq))
  rw[X0 hp,X0 hp,if_neg ((FP (FF hqq hq)):¬par (par p)=p)]
  split
  ·exact hpq
  ·rename_i e;exact pR (sib c c1 c2 c3 e) hpq
set_option tactic.hygienic true in
theorem BY{s p:Nat}{x:HI}(hp:p<H.length)(hd:d0 s p)(h1:de H s p)(h2:uH H p x)(hx:p=s\/¬hlt x (gt H (par p))):M9 (H.set p x) s:=by
 intro j j1 j2 j3
 rw[Fj]at j2
 have hjj:=bM j1
 rw[X0 hp,X0 hp]
 by_cases e:j=p
 ·subst e
  rw[if_pos rfl,if_neg (FP hjj)]
  rcases hx with rfl|hx
  ·exact absurd hjj (GY j3)
  ·exact hx
 ·rw[if_neg e]
  split
  ·rename_i e2;exact h2 j j1 j2 e2
  ·rename_i e2;exact h1 j j1 j2 j3 e e2
set_option tactic.hygienic true in
theorem sR{s p c:Nat}(hp:p<H.length)(hc:c<H.length)(hc1:1<=c)(hcp:par c=p)(hd:d0 s p)(h1:de H s p)(h3:oG H s p)(hmin:∀d,1<=d->d<H.length->par d=p->d≠c->¬hlt (gt H d) (gt H c)):
  de (H.set p (gt H c)) s c/\oG (H.set p (gt H c)) s c/\d0 s c:=by
 have hpc:=bM hc1
 rw[hcp]at hpc
 refine⟨λ j j1 j2 j3 j4 j5=>?_,λ d d1 d2 d3 d4=>?_,.step (by rw[hcp];exact hd) hc1⟩
 ·rw[Fj]at j2
  have hjj:=bM j1
  rw[X0 hp,X0 hp]
  by_cases e:j=p
  ·subst e
   rw[if_pos rfl,if_neg (FP hjj)]
   by_cases hs:j=s
   ·exact absurd hs (FU (Fe j3 hjj))
   ·exact h3 c hc1 hc hcp hs
  ·rw[if_neg e]
   split
   ·rename_i e2;exact hmin j j1 j2 e2 j4
   ·rename_i e2;exact h1 j j1 j2 j3 e e2
 ·rw[Fj]at d2
  have hdd:=bM d1
  rw[X0 hp,X0 hp,hcp,if_pos rfl,if_neg (FU (FF hpc (zzo d3.symm hdd)))]
  have:=h1 d d1 d2 (by rw[d3];have:=hd.le;exact fp this (FE hpc)) (FU (FF hpc (zzo d3.symm hdd))) (FU (FQ hpc d3.symm))
  rwa [d3]at this
theorem uI(h:M9 H 0):∀j,j<H.length->¬hlt (gt H j) (gt H 0):=by
 intro j
 induction j using Nat.strongRecOn with
 | _ j ih=>
  intro hj
  by_cases h0:j=0
  ·subst h0;exact λ h=>mN h h
  ·have hp:=bM ((Hr h0):1<=j)
   exact pR (h j (Hr h0) hj (Gb _)) (ih _ hp (FF hp hj))
theorem uJ{l:List α}{p q:Nat}{x:α}(hp:p<l.length)(hq:q<l.length)(hpq:p≠q):((l.set p (l[q]'hq)).set q x).Perm (l.set p x):=by
 have h:=List.set_set_perm (as:=l.set p x) (i:=p) (j:=q) (by simpa using hp) (by simpa using hq)
 rw[List.getElem_set_ne hpq,List.getElem_set_self,Jc]at h
 exact h
structure HV(H:List HI)(rows cur:List (List Blk))(i:Nat):Prop where
 nd:(H.map (·.ii)).Nodup
 len:rows.length=cur.length
 at_:∀j,j<i->(∃x∈H,x.ii=j/\∃r,rows[j]?=some r/\cur[j]?=some (x.b::r))\/((∀x∈H,x.ii≠j)/\rows[j]?=some []/\cur[j]?=some [])
 lt:∀x∈H,x.ii<i
 ge:∀j:Nat,i<=j->rows[j]?=cur[j]?
theorem HV.perm{H':List HI}{cur:List (List Blk)}(h:HV H rows cur i)(p:H'.Perm H):HV H' rows cur i:=by
 refine⟨(p.map _).nodup_iff.mpr h.nd,h.len,λ j hj=>?_,λ x hx=>h.lt x (p.mem_iff.mp hx),h.ge⟩
 rcases h.at_ j hj with⟨x,hx,r⟩|⟨h1,h2⟩
 ·exact .inl ⟨x,p.mem_iff.mpr hx,r⟩
 ·exact .inr ⟨λ x hx=>h1 x (p.mem_iff.mp hx),h2⟩
theorem Ab(h:(H.map (·.ii)).Nodup):∀{x y:HI},x∈H->y∈H->x.ii=y.ii->x=y:=by
 induction H with
 | nil=>intro x y hx;cases hx
 | cons a H ih=>
  rw[Gg,GZ]at h
  exact λ hx hy e=>(Fv.mp hx).elim (λ p=>(Fv.mp hy).elim (λ q=>p.trans q.symm) λ hy=>absurd (p▸e▸Gk (f:=(·.ii)) hy) h.1) λ hx=>(Fv.mp hy).elim (λ q=>absurd (FN.mpr ⟨_,hx,q▸e⟩) h.1) λ hy=>ih h.2 hx hy e
theorem HV.mem{cur:List (List Blk)}(h:HV H rows cur i){x:HI}(hx:x∈H):∃r,rows[x.ii]?=some r/\cur[x.ii]?=some (x.b::r):=by
 rcases h.at_ x.ii (h.lt x hx)with⟨y,hy,e,r⟩|⟨h1,_⟩
 ·rw[Ab h.nd hy hx e]at r;exact r
 ·exact absurd rfl (h1 x hx)
theorem iq{l:List α}{x:α}(h:l[i]?=some x):i<l.length:=(FC.mp h).1
theorem HV.pop{cur:List (List Blk)}{x:HI}(h:HV (x::H) rows cur i)(hr:rows[x.ii]?=some []):HV H rows (cur.set x.ii []) i:=by
 have nd:=h.nd
 rw[Gg,GZ]at nd
 have ne:∀y∈H,y.ii≠x.ii:=λ y hy e=>nd.1 (FN.mpr ⟨y,hy,e⟩)
 have hl:x.ii<cur.length:=by rw[<- h.len];exact iq hr
 refine⟨nd.2,by rw[Fj];exact h.len,λ j hj=>?_,λ y hy=>h.lt y (.tail _ hy),λ j hj=>?_⟩
 ·by_cases e:j=x.ii
  ·subst e
   exact .inr ⟨ne,hr,Fu hl⟩
  ·rw[Fg (HE e)]
   rcases h.at_ j hj with⟨y,hy,e1,r⟩|⟨h1,h2⟩
   ·rcases Fv.mp hy with rfl|hy
    ·exact absurd e1.symm e
    ·exact .inl ⟨y,hy,e1,r⟩
   ·exact .inr ⟨λ y hy=>h1 y (.tail _ hy),h2⟩
 ·have:=h.lt x (.head _)
  rw[Fg (FP (fp this hj))]
  exact h.ge j hj
theorem HV.rep{cur:List (List Blk)}{x:HI}{b:Blk}{r:List Blk}(h:HV (x::H) rows cur i)(hr:rows[x.ii]?=some (b::r)):HV (⟨b,x.ii⟩::H) (rows.set x.ii r) (cur.set x.ii (b::r)) i:=by
 have nd:=h.nd
 rw[Gg,GZ]at nd
 have ne:∀y∈H,y.ii≠x.ii:=λ y hy e=>nd.1 (FN.mpr ⟨y,hy,e⟩)
 have hl':=iq hr
 have hl:x.ii<cur.length:=by rw[<- h.len];exact hl'
 refine⟨by rw[Gg];exact h.nd,by rw[Fj,Fj];exact h.len,λ j hj=>?_,λ y hy=>?_,λ j hj=>?_⟩
 ·by_cases e:j=x.ii
  ·subst e
   exact .inl ⟨_,.head _,rfl,r,Fu hl',Fu hl⟩
  ·rw[Fg (HE e),Fg (HE e)]
   rcases h.at_ j hj with⟨y,hy,e1,r⟩|⟨h1,h2⟩
   ·rcases Fv.mp hy with rfl|hy
    ·exact absurd e1.symm e
    ·exact .inl ⟨y,.tail _ hy,e1,r⟩
   ·refine .inr ⟨λ y hy=>?_,h2⟩
    rcases Fv.mp hy with rfl|hy
    ·exact HE e
    ·exact h1 y (.tail _ hy)
 ·rcases Fv.mp hy with rfl|hy
  ·exact h.lt x (.head _)
  ·exact h.lt y (.tail _ hy)
 ·have:=h.lt x (.head _)
  rw[Fg (FP (fp this hj)),Fg (FP (fp this hj))]
  exact h.ge j hj
theorem HV.add{cur:List (List Blk)}{b:Blk}{r:List Blk}(h:HV H rows cur i)(hr:rows[i]?=some (b::r)):HV (H++[⟨b,i⟩]) (rows.set i r) cur (i+1):=by
 have hl':=iq hr
 have p:(H++[(⟨b,i⟩:HI)]).Perm (⟨b,i⟩::H):=JM ..
 have ne:∀y∈H,y.ii≠i:=λ y hy e=>by have:=h.lt y hy;exact FP this e
 refine HV.perm (H:=⟨b,i⟩::H) (HV.mk ?_ (by rw[Fj];exact h.len) (λ j hj=>?_) (λ y hy=>?_) (λ j hj=>?_)) p
 ·rw[Gg,GZ]
  refine⟨λ hm=>?_,h.nd⟩
  obtain⟨y,hy,e⟩:=FN.mp hm
  exact ne y hy e
 ·by_cases e:j=i
  ·subst e
   exact .inl ⟨_,.head _,rfl,r,Fu hl',by rw[<- h.ge j (Fn _)];exact hr⟩
  ·rw[Fg (HE e)]
   rcases h.at_ j (Gj (FW hj) e)with⟨y,hy,r⟩|⟨h1,h2⟩
   ·exact .inl ⟨y,.tail _ hy,r⟩
   ·refine .inr ⟨λ y hy=>?_,h2⟩
    rcases Fv.mp hy with rfl|hy
    ·exact HE e
    ·exact h1 y hy
 ·rcases Fv.mp hy with rfl|hy
  ·exact FY _
  ·have:=h.lt y hy;exact Hq this
 ·rw[Fg (FP hj)]
  exact h.ge j (FE hj)
theorem HV.skip{cur:List (List Blk)}(h:HV H rows cur i)(hr:rows[i]?=some []):HV H rows cur (i+1):=by
 refine⟨h.nd,h.len,λ j hj=>?_,λ y hy=>by have:=h.lt y hy;exact Hq this,λ j hj=>h.ge j (FE hj)⟩
 by_cases e:j=i
 ·subst e
  exact .inr ⟨λ y hy e=>by have:=h.lt y hy;exact FP this e,hr,by rw[<- h.ge j (Fn _)];exact hr⟩
 ·exact h.at_ j (Gj (FW hj) e)
theorem HV.zero(rows:List (List Blk)):HV [] rows rows 0:=⟨by simp,rfl,λ j hj=>absurd hj (IX _),λ x hx=>(FO hx).elim,λ j Y=>rfl⟩
theorem uK{L:List (List Blk)}{b:Blk}{r:List Blk}(h:L[i]?=some (b::r)):(L.set i r).flatten.length+1=L.flatten.length:=by
 induction L generalizing i with
 | nil=>simp at h
 | cons a L ih=>
  cases i with
  | zero=>simp at h;subst h;simp
  | succ i=>
   have:=ih (i:=i) (by simpa using h)
   simp at this ⊢;exact congrArg (_ + ·) this
theorem HV.done{cur:List (List Blk)}(h:HV [] rows cur n)(hn:cur.length<=n):Mrg cur []:=by
 refine .done λ r hr=>?_
 obtain⟨j,hj⟩:=JC.mp hr
 rcases h.at_ j (by have:=iq hj;exact fp this hn)with⟨x,hx,_⟩|⟨_,_,e⟩
 ·cases hx
 ·rw[hj]at e;exact Ft e
theorem Ac{p:Nat}(hp:p<H.length):gt H p∈H:=FD (dZ hp)
theorem HV.min{cur:List (List Blk)}(h:HV H rows cur n)(hn:cur.length<=n)(hh:M9 H 0)(h0:0<H.length)(j:Nat)(c:Blk)(q:List Blk)(hj:cur[j]?=some (c::q)):kle (gt H 0).b c:=by
 rcases h.at_ j (by have:=iq hj;exact fp this hn)with⟨x,hx,_,r,_,e⟩|⟨_,_,e⟩
 ·rw[hj]at e
  cases e
  obtain⟨m,hm⟩:=JC.mp hx
  have hml:=iq hm
  have:gt H m=x:=by have:=dZ hml;rw[hm]at this;exact(Ft this).symm
  have hmin:=uI hh m hml
  rw[this]at hmin
  exact xD hmin
 ·rw[hj]at e;cases e
noncomputable def sS(ts:Int)(c:Int)(ch:Nat):Int:=if ch=9 then c+ts-c.fmod ts else c+1
noncomputable def bN(w:List Nat)(ts:Int):Int:=w.foldl (sS ts) 0
noncomputable def jW(w:List Nat):List Int:=(List.range 8).map λ i:Nat=>bN w (1+i)
noncomputable def wsS(s:List Nat×Nat)(ch:Nat):List Nat×Nat:=if ch=9 then(s.1++[s.2],0)else(s.1,s.2+1)
noncomputable def wsP(w:List Nat):List Nat×Nat:=w.foldl wsS ([],0)
noncomputable def fl(ts:Nat)(rs:List Nat):Nat:=(rs.map (· / ts)).sum
noncomputable def ak(ts:Nat)(s:List Nat×Nat):Nat:=s.2+ts*(fl ts s.1+s.1.length)
theorem qN(ts b:Nat)(rs:List Nat):fl ts (rs++[b])=fl ts rs+b / ts:=by
 unfold fl;rw[FG,Mf];simp
theorem uL{ts:Nat}(h:0<ts):∀(w:List Nat) (s:List Nat×Nat),w.foldl (sS ts) (ak ts s)=(ak ts (w.foldl wsS s):Nat)
 | [],s=>rfl
 | ch::w,s=>by
  rw[HO,HO,<- uL h w]
  congr 1
  unfold sS wsS
  by_cases hc:ch=9
  ·rw[if_pos hc,if_pos hc]
   unfold ak
   rw[qN,Fc,JJ _ (FX _),show((s.2+ts*(fl ts s.1+s.1.length):Nat):Int) % (ts:Int)=((s.2+ts*(fl ts s.1+s.1.length)) % ts:Nat)from rfl,Nat.add_mul_mod_self_left]
   have e:=Nat.div_add_mod s.2 ts
   have hm:=Jw s.2 h
   have:ts*(fl ts s.1+s.2 / ts+(s.1.length+[s.2].length))=ts*(fl ts s.1+s.1.length)+ts*(s.2 / ts)+ts:=by
    rw[show[s.2].length=1 from rfl,show fl ts s.1+s.2 / ts+(s.1.length+1)=(fl ts s.1+s.1.length)+s.2 / ts+1 by lia,Lm,Lm,Nat.mul_one]
   rw[this]
   lia
  ·rw[if_neg hc,if_neg hc]
   unfold ak
   lia
theorem gA{ts:Nat}(h:0<ts)(w:List Nat):bN w ts=(ak ts (wsP w):Nat):=uL h w ([],0)
theorem mO{ts:Nat}:∀{rs:List Nat},(∀r∈rs,r<ts)->fl ts rs=0
 | [],_=>rfl
 | r::rs,h=>by
  show r / ts+fl ts rs=0
  rw[NG (h r (.head _)),mO λ x hx=>h x (.tail _ hx)]
theorem uM:∀(w:List Nat) (s:List Nat×Nat),(ak 1 (w.foldl wsS s))=ak 1 s+w.length
 | [],s=>by simp
 | ch::w,s=>by
  rw[HO,uM w]
  have:ak 1 (wsS s ch)=ak 1 s+1:=by
   unfold wsS ak
   split
   ·rw[qN,Nat.div_one];simp;lia
   ·lia
  rw[this,GB];exact GC _ _
theorem df(w:List Nat):ak 1 (wsP w)=w.length:=by unfold wsP;rw[uM];simp[ak,fl]
def lt8(v w:List Nat):Prop:=∀t:Nat,t<8->bN v (1+(t:Int))<bN w (1+(t:Int))
theorem mP{v w:List Nat}:lt8 v w↔∀ts,1<=ts->ts<=8->ak ts (wsP v)<ak ts (wsP w):=by
 constructor
 ·intro h ts h1 h2
  have:=h (ts-1) (Fo (JO h1 Nat.one_pos) h2)
  rw[show(1:Int)+((ts-1:Nat):Int)=(ts:Int)from congrArg Int.ofNat (Hp h1),gA h1,gA h1]at this
  exact GP.mp this
 ·intro h t ht
  have:=h (t+1) (Hs _) ht
  rw[show(1:Int)+(t:Int)=((t+1:Nat):Int)from KT _ _,gA (Hs _),gA (Hs _)]
  lia
theorem lt8.trans{u v w:List Nat}(a:lt8 u v)(b:lt8 v w):lt8 u w:=λ t ht=>Iv (a t ht) (b t ht)
theorem xG{a b c d ts:Nat}(h1:a+c<b+d)(hcd:c<=d)(ht:1<=ts):a+ts*c<b+ts*d:=by
 obtain⟨e,rfl⟩:=Lk hcd
 rw[Lm]
 have:=Kr e ht
 lia
theorem oH{v w:List Nat}(hv:∀r∈(wsP v).1,r=0)(hw:∀r∈(wsP w).1,r=0)(bw:(wsP w).2<=6)(hn:v.length<w.length):lt8 v w↔(wsP v).1.length<=(wsP w).1.length:=by
 have f:∀(x:List Nat),(∀r∈(wsP x).1,r=0)->∀ts,1<=ts->ak ts (wsP x)=(wsP x).2+ts*(wsP x).1.length:=λ x hx ts ht=>by
  unfold ak;rw[mO λ r hr=>by have:=hx r hr;exact zzo this ht,Gy]
 rw[mP]
 rw[<- df v,<- df w,f v hv 1 (Fn _),f w hw 1 (Fn _)]at hn
 constructor
 ·intro h
  have:=h 8 (by decide) (by decide)
  rw[f v hv 8 (by decide),f w hw 8 (by decide)]at this
  lia
 ·intro h ts h1 h2
  rw[f v hv ts h1,f w hw ts h1]
  exact xG (by lia) h h1
theorem sT{v w:List Nat}{N:Nat}(hv:∀r∈(wsP v).1,r<N)(hw:∀r∈(wsP w).1,r<N)(bv:(wsP v).2<N)(bw:(wsP w).2<N)(h2:2<=N)(h7:N<=8)(hn:v.length<w.length):
  lt8 v w↔∀ts,2<=ts->ts<=N->ak ts (wsP v)<ak ts (wsP w):=by
 rw[mP]
 constructor
 ·exact λ h ts h1 h2=>h ts (FE h1) (fp h2 h7)
 ·intro h ts h1 h8
  by_cases e1:ts=1
  ·subst e1;rw[df,df];exact hn
  by_cases e2:ts<=N
  ·exact h ts (Gj h1 (HE e1)) e2
  have f:∀(x:List Nat),(∀r∈(wsP x).1,r<N)->∀ts,N<=ts->ak ts (wsP x)=(wsP x).2+ts*(wsP x).1.length:=λ x hx ts ht=>by
   unfold ak;rw[mO λ r hr=>Fo (hx r hr) ht,Gy]
  have hN:=h N h2 (Fn _)
  rw[f v hv N (Fn _),f w hw N (Fn _)]at hN
  have hle:(wsP v).1.length<=(wsP w).1.length:=by
   rcases IH (wsP w).1.length (wsP v).1.length with hq|hq
   ·exfalso
    have:=GN N hq
    rw[Nat.mul_succ]at this
    lia
   ·exact hq
  obtain⟨e,he⟩:=Lk hle
  obtain⟨d,hd⟩:=Lk (FE (IK e2))
  rw[f v hv ts (NH e2),f w hw ts (NH e2),<- he,<- hd,OG,OG,Lm d]
  rw[<- he]at hN
  lia
structure Cn(cnt:List Int)(rs:List Nat):Prop where
 get:∀i,i<cnt.length->cnt[i]?=some (rs.count i:Int)
 lt:∀r∈rs,r<cnt.length
 top:cnt≠[]->cnt.length-1∈rs
theorem Cn.nil:Cn [] []:=⟨λ i h=>absurd h (IX _),λ r h=>absurd h FO,λ h=>absurd rfl h⟩
theorem Cn.old{cnt:List Int}{rs:List Nat}{b:Nat}(h:Cn cnt rs)(hb:b<cnt.length):Cn (cnt.set b ((rs.count b:Int)+1)) (rs++[b]):=by
 refine⟨λ i hi=>?_,λ r hr=>?_,λ hne=>?_⟩
 ·rw[Fj]at hi
  rw[HK,Mw]
  by_cases e:b=i
  ·subst e;rw[Fu hi];simp
  ·rw[Fg e,h.get i hi];simp[e]
 ·rw[Fj]
  rcases FR.mp hr with h1|h1
  ·exact h.lt r h1
  ·rw[Fh.mp h1];exact hb
 ·rw[Fj]
  exact Gq _ (h.top (by rintro rfl;cases hb))
theorem Cn.new{cnt:List Int}{rs:List Nat}{b:Nat}(h:Cn cnt rs)(hb:cnt.length<=b):Cn ((cnt++List.replicate (b-cnt.length+1) 0).set b 1) (rs++[b]):=by
 have hl:(cnt++List.replicate (b-cnt.length+1) (0:Int)).length=b+1:=by rw[Fc,Kw];exact congrArg Nat.succ (Hp hb)
 have zero:∀i,cnt.length<=i->rs.count i=0:=λ i hi=>KY.mpr λ hm=>by have:=h.lt i hm;exact GY hi this
 refine⟨λ i hi=>?_,λ r hr=>?_,λ hne=>?_⟩
 ·rw[Fj,hl]at hi
  rw[HK,Mw]
  by_cases e:b=i
  ·subst e;rw[Fu (Fw hl.symm),zero b hb];simp
  ·rw[Fg e]
   by_cases e2:i<cnt.length
   ·rw[Fs e2,h.get i e2];simp[e]
   ·rw[Ga (Ht e2),Lx,if_pos (GG (Nat.sub_le_sub_right (FW hi) _)),zero i (Ht e2)];simp[e]
 ·rw[Fj,hl]
  rcases FR.mp hr with h1|h1
  ·have:=h.lt r h1;exact GD (fp this hb)
  ·rw[Fh.mp h1];exact FY _
 ·rw[Fj,hl];simp
theorem qO(f:Nat->Nat)(L:Nat):∀{rs:List Nat},(∀r∈rs,r<L)->((List.range L).map λ i=>f i*rs.count i).sum=(rs.map f).sum
 | [],_=>by
  have:∀l:List Nat,(l.map λ i=>f i*List.count i ([]:List Nat)).sum=0:=λ l=>by induction l with
   | nil=>rfl
   | cons a l ih=>rw[Gg,Jz,ih];simp
  exact this _
 | r::rs,h=>by
  have ih:=qO f L (rs:=rs) λ x hx=>h x (.tail _ hx)
  rw[Gg,Jz,<- ih]
  have hr:=h r (.head _)
  have:∀l:List Nat,l.Nodup->(l.map λ i=>f i*List.count i (r::rs)).sum=(if r∈l then f r else 0)+(l.map λ i=>f i*List.count i rs).sum:=λ l=>by
   induction l with
   | nil=>intro _;rfl
   | cons a l ih=>
    intro hd
    obtain⟨h1,h2⟩:=GZ.mp hd
    rw[Gg,Jz,ih h2,Gg,Jz,KJ]
    by_cases e:r=a
    ·subst e
     rw[if_neg h1,if_pos (List.mem_cons_self ..)]
     simp only[beq_self_eq_true,if_true]
     rw[Lm];lia
    ·have e':(r==a)=false:=by simpa using e
     rw[e']
     by_cases e2:r∈l
     ·rw[if_pos e2,if_pos (List.mem_cons_of_mem _ e2)];simp;lia
     ·rw[if_neg e2,if_neg (λ hq=>(Fv.mp hq).elim e e2)];simp
  rw[this _ NB,if_pos (Gi.mpr hr)]
section
variable (L:Nat->Nat->Prop)
noncomputable def dE(k:Nat):List Nat:=open Classical in (List.range k).filter λ j=>decide (∀i,j<i->i<k->L j i)
noncomputable def bu(k:Nat):List Nat:=open Classical in (dE L k).filter λ j=>decide (L j k)
noncomputable def lQ(l:List Nat):Int:=match l.getLast? with
 | some j=>j
 | none=>-1
noncomputable def dF(k:Nat):Int:=lQ (bu L k)
variable {L}
theorem gC:j∈dE L k↔j<k/\∀i,j<i->i<k->L j i:=by unfold dE;simp
theorem qP{b:Nat->Bool}(hb:∀j,j<k->(b j=true↔∀i,j<i->i<=k->L j i)):(List.range k).filter b=bu L k:=by
 unfold bu dE
 rw[Kc]
 refine JH λ j hj=>?_
 rw[Ie,hb j (Gi.mp hj)]
 simp only[Gn,decide_eq_true_eq]
 constructor
 ·exact λ h=>⟨h k (Gi.mp hj) (Fn _),λ i h1 h2=>h i h1 (FE h2)⟩
 ·rintro ⟨h1,h2⟩ i h3 h4
  by_cases e:i=k
  ·subst e;exact h1
  ·exact h2 i h3 (Gj h4 e)
theorem sU(k:Nat):dE L (k+1)=bu L k++[k]:=by
 have:bu L k=(List.range k).filter λ j=>open Classical in decide (∀i,j<i->i<=k->L j i):=(qP λ j Y=>by simp).symm
 rw[this]
 unfold dE
 rw[ID,HB]
 congr 1
 ·refine JH λ j hj=>?_
  rw[Ie]
  simp only[decide_eq_true_eq]
  exact⟨λ h i h1 h2=>h i h1 (GG h2),λ h i h1 h2=>h i h1 (FW h2)⟩
 ·refine Hu.mpr λ j hj=>?_
  rw[Fh]at hj
  subst hj
  simp only[decide_eq_true_eq]
  intro i h1 h2
  exact absurd h1 (GY (FW h2))
theorem jX(k:Nat):(dE L k).length<=k:=by
 have:=Hj (λ j=>open Classical in decide (∀i,j<i->i<k->L j i)) (List.range k)
 rw[FZ]at this
 exact this
theorem qQ(k:Nat):(dE L k).Pairwise (· < ·):=Mu _ List.pairwise_lt_range
theorem xH(k:Nat):(dE L k).Pairwise L:=JX (fun{a b} ha hb h=>(gC.mp ha).2 b h (gC.mp hb).1) (qQ k)
theorem oJ(tr:∀a b c,L a b->L b c->L a c){P R:List Nat}(h:dE L k=P++R)(hR:∀r∈R,¬L r k)(hP:∀x,P.getLast?=some x->L x k):bu L k=P:=by
 unfold bu
 rw[h,HB]
 have e2:(R.filter λ j=>open Classical in decide (L j k))=[]:=Jt.mpr λ r hr=>by simpa using hR r hr
 have e1:(P.filter λ j=>open Classical in decide (L j k))=P:=Hu.mpr λ x hx=>by
  refine(open Classical in decide_eq_true_eq (p:=L x k)).mpr ?_
  rcases Ij P with rfl|⟨I,l,rfl⟩
  ·cases hx
  ·have hl:=hP l (by simp)
   rw[Ii]at hx h
   rcases FR.mp hx with hx|hx
   ·have pw:=xH (L:=L) k
    rw[h,Fz]at pw
    exact tr _ _ _ ((Hf.mp pw).2.2 x hx l (by simp)) hl
   ·rw[Fh.mp hx];exact hl
 rw[e1,e2,FL]
theorem jY(l:List Nat)(j:Nat):lQ (l++[j])=j:=by unfold lQ;simp
theorem xI(h:j∈bu L k):j<k:=by
 unfold bu at h
 exact(gC.mp (Gm.mp h).1).1
theorem sV{l:List Nat}(hs:l.Pairwise (· < ·)){M:Int}(hm:M∈(-1)::l.map λ j:Nat=>(j:Int))(hM:∀a∈(-1)::l.map (λ j:Nat=>(j:Int)),a<=M):M=lQ l:=by
 rcases Ij l with rfl|⟨I,x,rfl⟩
 ·exact Fh.mp hm
 ·rw[Ii]at *
  rw[jY]
  have h1:=hM x (by simp)
  rcases Fv.mp hm with h|h
  ·exact absurd (FI (FX _) (FI h1 (HN h))) (by decide)
  ·obtain⟨j,hj,rfl⟩:=FN.mp h
   rcases FR.mp hj with hj|hj
   ·have:=(Hf.mp hs).2.2 j hj x (by simp)
    exact absurd this (GY (Iw.mp h1))
   ·rw[Fh.mp hj]
theorem xJ(k:Nat):(bu L k).Pairwise (· < ·):=Mu _ (qQ k)
set_option tactic.hygienic true in
theorem xK(k:Nat):-1<=dF L k/\dF L k<k:=by
 unfold dF lQ
 split
 ·rename_i j e
  have:=xI (List.mem_of_getLast? e)
  exact⟨FI (by decide) (FX _),GP.mpr this⟩
 ·exact⟨FV _,HA (by decide) (FX _)⟩
end
namespace Srt
noncomputable def Ky(K:Keyed->Int)(xs:Array Keyed)(i:Nat):Int:=match xs[i]? with
 | some p=>K p
 | none=>0
def Up(K:Keyed->Int)(xs:Array Keyed)(lo hi:Nat):Prop:=∀i j,lo<=i->i<=j->j<hi->Ky K xs i<=Ky K xs j
def cH(K:Keyed->Int)(xs:Array Keyed)(lo hi:Nat):Prop:=∀i j,lo<=i->i<=j->j<hi->Ky K xs j<=Ky K xs i
theorem jZ{K:Keyed->Int}{xs ys:Array Keyed}(h:xs[i]?=ys[j]?):Ky K xs i=Ky K ys j:=by unfold Ky;rw[h]
theorem ir{K:Keyed->Int}{xs:Array Keyed}(hj:j<=xs.size)(k:Nat):Ky K (mirror xs i j ((j-i) / 2)) k=if i<=k/\k<j then Ky K xs (i+j-1-k)else Ky K xs k:=by
 have e:=MR (i:=i) hj k
 by_cases h:i<=k/\k<j
 ·rw[if_pos h]at e ⊢;exact jZ e
 ·rw[if_neg h]at e ⊢;exact jZ e
section
variable {prog:Program}{w:World}{A:Around}{E:Value->Shared->Prop}{s:Shared}{κ:SortKind}{K:Keyed->Int}{OO:Array Keyed}
abbrev SM:=StateT SortSt Sem
def SQ{β:Type}(I Q:β->SortSt->Prop):ForInStep β->SortSt->Prop:=λ r st'=>match r with
 | .done c=>Q c st'
 | .yield c=>I c st'
theorem d5{β:Type}{f:Nat->β->SM (ForInStep β)}(I:Nat->β->SortSt->Prop){Q R:β->SortSt->Prop}{c:β}{st:SortSt}(h:I 0 c st)(step:∀i c st,I i c st->wpS (model prog w) A E s (f i c) (SQ (I (i+1)) Q) st)
  (fin:∀c st,I n c st->Q c st)(post:∀c st,Q c st->R c st):wpS (model prog w) A E s (forIn [0:n] c f) R st:=
 wpS_mono (wpS_forRange I (λ i c st Y Y h=>step i c st h) (λ c st h=>fin c st (LA (Gb n)▸h)) h) post
theorem mQ{β:Type}{a:Nat}{f:Nat->β->SM (ForInStep β)}(hn:a<=n)(I:Nat->β->SortSt->Prop){Q R:β->SortSt->Prop}{c:β}{st:SortSt}(h:I a c st)(step:∀i c st,a<=i->i<n->I i c st->wpS (model prog w) A E s (f i c) (SQ (I (i+1)) Q) st)
  (fin:∀c st,I n c st->Q c st)(post:∀c st,Q c st->R c st):wpS (model prog w) A E s (forIn [a:n] c f) R st:=
 wpS_mono (wpS_forRange I step (λ c st h=>fin c st (LA hn▸h)) h) post
theorem P4{β:Type}{c:β}{I Q:β->SortSt->Prop}{st:SortSt}(h:I c st):wpS (model prog w) A E s (pure (.yield c):SM (ForInStep β)) (SQ I Q) st:=HU h
theorem M7{β:Type}{c:β}{I Q:β->SortSt->Prop}{st:SortSt}(h:Q c st):wpS (model prog w) A E s (pure (.done c):SM (ForInStep β)) (SQ I Q) st:=HU h
theorem bO{c:Prop}{dc:Decidable c}{m1 m2:SM α}{Q:α->SortSt->Prop}{st:SortSt}(h1:c->wpS (model prog w) A E s m1 Q st)(h2:¬c->wpS (model prog w) A E s m2 Q st):wpS (model prog w) A E s (if c then m1 else m2) Q st:=by
 by_cases h:c
 ·rw[if_pos h];exact h1 h
 ·rw[if_neg h];exact h2 h
theorem bP{m1 m2:SM α}{Q:α->SortSt->Prop}{st:SortSt}(h1:i=j->wpS (model prog w) A E s m1 Q st)(h2:i≠j->wpS (model prog w) A E s m2 Q st):wpS (model prog w) A E s (if (i==j)=true then m1 else m2) Q st:=
 bO (λ h=>h1 (of_decide_eq_true h)) λ h=>h2 λ e=>h (decide_eq_true e)
theorem iR{i j:Int}{m1 m2:SM α}{Q:α->SortSt->Prop}{st:SortSt}(h1:i<j->wpS (model prog w) A E s m1 Q st)(h2:j<=i->wpS (model prog w) A E s m2 Q st):wpS (model prog w) A E s (if decide (i<j)=true then m1 else m2) Q st:=
 bO (λ h=>h1 (of_decide_eq_true h)) λ h=>h2 (Ha.mp λ e=>h (decide_eq_true e))
theorem wpB{b:Bool}{m1 m2:SM α}{Q:α->SortSt->Prop}{st:SortSt}(h1:b=true->wpS (model prog w) A E s m1 Q st)(h2:b=false->wpS (model prog w) A E s m2 Q st):wpS (model prog w) A E s (if b=true then m1 else m2) Q st:=
 bO h1 λ h=>h2 (Kk.mpr h)
theorem Ad{b:Bool}{m1 m2:SM α}{Q:α->SortSt->Prop}{st:SortSt}(h1:b=false->wpS (model prog w) A E s m1 Q st)(h2:b=true->wpS (model prog w) A E s m2 Q st):wpS (model prog w) A E s (if (!b)=true then m1 else m2) Q st:=
 bO (λ h=>h1 (by cases b;rfl;cases h)) λ h=>h2 (by cases b;exact absurd rfl h;rfl)
def aI(prog:Program)(w:World)(A:Around)(s:Shared)(κ:SortKind)(K:Keyed->Int)(OO:Array Keyed):Prop:=
 ∀x y,x∈OO.toList->y∈OO.toList->∀(Q:Bool->Shared->Prop) (E:Value->Shared->Prop),Q (decide (K x<K y)) s->wpAny (model prog w) A (keyLt' κ x.1 y.1) Q E s
structure SB(κ:SortKind)(OO:Array Keyed)(st:SortSt):Prop where
 perm:(arrOf st).Perm OO
 kind:kindOf st=κ
 failed:failedOf st=none
theorem SB.size{st:SortSt}(h:SB κ OO st):(arrOf st).size=OO.size:=h.perm.size_eq
theorem SB.setArr{st:SortSt}(h:SB κ OO st){xs:Array Keyed}(hp:xs.Perm (arrOf st)):SB κ OO (setArr st xs):=⟨hp.trans h.perm,h.kind,h.failed⟩
theorem SB.at{st:SortSt}(h:SB κ OO st)(hi:i<OO.size):∃p,(arrOf st)[i]?=some p/\p∈OO.toList/\Ky K (arrOf st) i=K p:=by
 have hi':i<(arrOf st).size:=by rw[h.size];exact hi
 have e:(arrOf st)[i]?=some (arrOf st)[i]:=getElem?_pos _ i hi'
 exact⟨_,e,(HW.mp h.perm).mem_iff.mp (by simp),by unfold Ky;rw[e]⟩
theorem uN(hc:aI prog w A s κ K OO){x y:Keyed}{st:SortSt}{Q:Option Bool->SortSt->Prop}(hk:kindOf st=κ)(hx:x∈OO.toList)(hy:y∈OO.toList)(h:Q (some (decide (K x<K y))) st):
  wpS (model prog w) A E s (lt' x y) Q st:=by
 subst hk
 refine FJ (KU ?_)
 refine FJ (LJ (KD (hc x y hx hy _ _ ⟨rfl,?_⟩)))
 exact HU h
theorem P8{arr:Array Keyed}{x:Keyed}{st:SortSt}{Q:Keyed->SortSt->Prop}(hx:arr[i]?=some x)(h:Q x st):wpS (model prog w) A E s (elem' arr i) Q st:=by
 rw[elem'_eq,hx];exact HU h
theorem iu(hc:aI prog w A s κ K OO){st:SortSt}{Q:Option Bool->SortSt->Prop}(hB:SB κ OO st)(hi:i<OO.size)(hj:j<OO.size)(h:Q (some (decide (Ky K (arrOf st) i<Ky K (arrOf st) j))) st):
  wpS (model prog w) A E s (ltAt' i j) Q st:=by
 refine xE (hB.at (K:=K) hi) λ x Z=>(λ x1 x2 x3=>?_) Z.1 Z.2.1 Z.2.2;clear Z
 refine xE (hB.at (K:=K) hj) λ y Z=>(λ y1 y2 y3=>?_) Z.1 Z.2.1 Z.2.2;clear Z
 rw[x3,y3]at h
 refine FJ (KU (FJ (P8 x1 (FJ (P8 y1 (uN hc hB.kind x2 y2 h))))))
theorem qR{st:SortSt}{Q:Unit->SortSt->Prop}(h:Q () (setArr st (mirror (arrOf st) i j ((j-i) / 2)))):wpS (model prog w) A E s (reverseSlice' i j) Q st:=by
 rw[reverseSlice'_eq];exact Ji h
theorem dg{xs:Array Keyed}(hj:j<=xs.size)(heq:∀k,i<=k->k<j->Ky K xs k=Ky K xs (j-1))(k:Nat):Ky K (mirror xs i j ((j-i) / 2)) k=Ky K xs k:=by
 rw[ir hj]
 split
 ·rw[heq _ (by lia) (by lia),heq k (by lia) (by lia)]
 ·rfl
theorem pS{xs:Array Keyed}(hj:j<=xs.size)(hk:k<i):(mirror xs i j ((j-i) / 2))[k]?=xs[k]?:=by
 rw[MR (i:=i) hj k,if_neg (λ h=>GY h.1 hk)]
structure Fx(κ:SortKind)(OO:Array Keyed)(lo:Nat)(st st':SortSt):Prop where
 b:SB κ OO st'
 p:pendingOf st'=pendingOf st
 g:gallopOf st'=gallopOf st
 low:∀k,k<lo->(arrOf st')[k]?=(arrOf st)[k]?
theorem Fx.rev{lo:Nat}{st:SortSt}(h:Fx κ OO lo st st')(hi:lo<=i)(hj:j<=OO.size):Fx κ OO lo st (setArr st' (mirror (arrOf st') i j ((j-i) / 2))):=
 ⟨h.b.setArr (mirror_perm _ _ _ _),h.p,h.g,λ k hk=>(pS (by rw[h.b.size];exact hj) (fp hk hi)).trans (h.low k hk)⟩
theorem Up.one{xs:Array Keyed}{lo:Nat}:Up K xs lo (lo+1):=λ i j h1 h2 h3=>by
 obtain rfl:=Gv h2 (fp (FW h3) h1)
 exact FV _
theorem Up.succ{xs:Array Keyed}{lo x:Nat}(h:Up K xs lo (lo+x))(hx:1<=x)(hl:Ky K xs (lo+x-1)<=Ky K xs (lo+x)):Up K xs lo (lo+(x+1)):=λ i j i1 ij j1=>by
 rcases Ip (FW j1)with c|rfl
 ·exact h i j i1 ij c
 ·rcases Ip ij with c|rfl
  ·have hp:0<lo+x:=Fo hx (GO ..)
   exact FI (h i (lo+x-1) i1 (Hh c) (JO hp Nat.one_pos)) hl
  ·exact FV _
theorem iy{xs:Array Keyed}:Ky (λ x=>-K x) xs i = -Ky K xs i:=by
 unfold Ky
 cases xs[i]? with
 | none=>rfl
 | some x=>rfl
theorem cH.neg{xs:Array Keyed}{lo hi:Nat}(h:cH K xs lo hi):Up (λ x=>-K x) xs lo hi:=λ i j i1 ij j1=>by
 rw[iy,iy]
 exact KX (h i j i1 ij j1)
theorem cH.of{xs:Array Keyed}{lo hi:Nat}(h:Up (λ x=>-K x) xs lo hi):cH K xs lo hi:=λ i j i1 ij j1=>by
 have:=h i j i1 ij j1
 rw[iy,iy]at this
 exact Int.le_of_neg_le_neg this
theorem cH.succ{xs:Array Keyed}{lo x:Nat}(h:cH K xs lo (lo+x))(hx:1<=x)(hl:Ky K xs (lo+x)<=Ky K xs (lo+x-1)):cH K xs lo (lo+(x+1)):=
 .of (h.neg.succ hx (by rw[iy,iy];exact KX hl))
theorem cH.rev{xs:Array Keyed}{lo hi:Nat}(h:cH K xs lo hi)(hh:hi<=xs.size):Up K (mirror xs lo hi ((hi-lo) / 2)) lo hi:=λ i j i1 ij j1=>by
 have i2:=Fe ij j1
 have j0:=fp i1 ij
 rw[ir hh,ir hh,if_pos ⟨i1,i2⟩,if_pos ⟨j0,j1⟩]
 clear hh
 exact h _ _ (JN (Hh (GX j1 _))) (MO ij _) (zzw i1 i2)
theorem cH.same{xs ys:Array Keyed}{lo hi:Nat}(h:cH K xs lo hi)(e:∀k,Ky K ys k=Ky K xs k):cH K ys lo hi:=λ i j i1 ij j1=>by rw[e,e];exact h i j i1 ij j1
abbrev CS:=Option (Option Nat)×Nat
inductive CnU(K:Keyed->Int)(lo:Nat)(st:SortSt)(x:Nat):CS->SortSt->Prop
 | mk:1<=x->Up K (arrOf st) lo (lo+x)->CnU K lo st x (none,x) st
inductive CnV(K:Keyed->Int)(lo nrem:Nat)(st:SortSt):CS->SortSt->Prop
 | mk {n:Nat}:1<=n->n<=nrem->Up K (arrOf st) lo (lo+n)->(n≠nrem->Ky K (arrOf st) (lo+n)<Ky K (arrOf st) (lo+n-1))->CnV K lo nrem st (none,n) st
theorem j6{lo x z:Nat}(hx:x<n)(hn:lo+n<=z):lo+x<z:=Fo (GX hx lo) hn
theorem oK{lo x z:Nat}(hx:x<n)(hn:lo+n<=z):lo+x-1<z:=Fe (HH ..) (j6 hx hn)
theorem Fx.self{lo:Nat}{st:SortSt}(h:SB κ OO st):Fx κ OO lo st st:=⟨h,rfl,rfl,λ Y Y=>rfl⟩
theorem CnV.down{lo:Nat}{xs:Array Keyed}(h1:1<=n)(hd:cH K xs lo (lo+n))(hl:Ky K xs (lo+n)<Ky K xs (lo+n-1)):cH K xs lo (lo+(n+1)):=hd.succ h1 (FT hl)
theorem Up.level{lo:Nat}{xs:Array Keyed}(h1:1<=n)(hs:Up K xs lo (lo+n))(hr:Ky K xs (lo+n-1)<=Ky K xs lo):∀k,lo<=k->k<lo+n->Ky K xs k=Ky K xs (lo+n-1):=λ k k1 k2=>by
 have hp:0<lo+n:=Fo h1 (GO ..)
 exact Ig (hs k (lo+n-1) k1 (Hh k2) (JO hp Nat.one_pos)) (FI hr (hs lo k (Fn _) k1 k2))
theorem cH.level{lo:Nat}{xs:Array Keyed}{v:Int}(h:∀k,lo<=k->k<lo+n->Ky K xs k=v):cH K xs lo (lo+n):=λ i j i1 ij j1=>by
 rw[h i i1 (Fe ij j1),h j (fp i1 ij) j1];exact FV _
inductive CnI(κ:SortKind)(K:Keyed->Int)(OO:Array Keyed)(lo:Nat)(st:SortSt)(x:Nat):Option (Option Nat)×Nat×Nat->SortSt->Prop
 | mk {e:Nat}{st':SortSt}:Fx κ OO lo st st'->cH K (arrOf st') lo (lo+x)->e+1<=x->(∀i,lo+x-(e+1)<=i->i<lo+x->Ky K (arrOf st') i=Ky K (arrOf st') (lo+x-1))->CnI κ K OO lo st x (none,x,e) st'
inductive CnE(κ:SortKind)(K:Keyed->Int)(OO:Array Keyed)(lo nrem:Nat)(st:SortSt):Option (Option Nat)×Nat×Nat->SortSt->Prop
 | mk {x:Nat}{c:Option (Option Nat)×Nat×Nat}{st':SortSt}:x<=nrem->CnI κ K OO lo st x c st'->CnE κ K OO lo nrem st c st'
end
noncomputable def cnB:{F:Nat->Nat->Nat->SM (Option Nat) // ∀{prog:Program}{w:World}{A:Around}{E:Value->Shared->Prop}{s:Shared}{κ:SortKind}{K:Keyed->Int}{OO:Array Keyed}{st:SortSt}{lo nrem:Nat}{Q:Option Nat->SortSt->Prop},aI prog w A s κ K OO->lo+nrem<=OO.size->1<=nrem->SB κ OO st->
  (∀n st',Fx κ OO lo st st'->1<=n->n<nrem->cH K (arrOf st') lo (lo+(n+1))->wpS (model prog w) A E s (F lo nrem n) Q st')->(∀m st',Fx κ OO lo st st'->1<=m->m<=nrem->Up K (arrOf st') lo (lo+m)->Q (some m) st')->wpS (model prog w) A E s (countRun' lo nrem) Q st}:=by
 apply Subtype.mk
 intro prog w A E s κ K OO st lo nrem Q hc hn h1 hB step h
 refine FJ (mQ h1 (CnU K lo st) (Q:=CnV K lo nrem st) (.mk (Fn _) Up.one) (λ x c st' h1 hx i=>?_) (λ c st' i=>?_) λ c st' i=>?_)
 ·induction i with
  | mk h1 h2=>exact FJ (iu hc hB (j6 hx hn) (oK hx hn) (iR (λ hl=>M7 (.mk h1 (FE hx) h2 λ Y=>hl)) λ hl=>P4 (.mk (GD h1) (h2.succ h1 hl))))
 ·induction i with
  | mk h1 h2=>exact .mk h1 (Fn _) h2 λ h=>absurd rfl h
 ·induction i with
  | @mk n h1 h2 h3 h4=>
   refine bP (λ e=>HU (h n st (.self hB) h1 h2 h3)) λ e=>?_
   have hlt:=h4 e
   have hx:=Gj h2 e
   have z:lo+n<(arrOf st).size:=hB.size.symm▸j6 hx hn
   refine bO (λ hgt=>FJ (iu hc hB (Fe (Fi ..) (j6 hx hn)) (oK hx hn) (iR (λ hr=>HU (h n st (.self hB) h1 h2 h3)) λ hr=>FJ (qR ?_)))) λ hgt=>?_
   ·have hall:=h3.level h1 hr
    exact step n _ ((Fx.self hB).rev (Fn _) (FE (j6 hx hn))) h1 hx ((CnV.down h1 (.level hall) hlt).same (dg (FE z) hall))
   ·obtain rfl:=Gv (Ir.mp hgt) h1
    exact step 1 _ (.self hB) h1 hx (CnV.down h1 (.level λ k k1 k2=>by rw[Gv (FW k2) k1]) hlt)
noncomputable def cnC:{F:Nat->Nat->Nat->SM (Option Nat) // ∀{prog:Program}{w:World}{A:Around}{E:Value->Shared->Prop}{s:Shared}{κ:SortKind}{K:Keyed->Int}{OO:Array Keyed}{st st':SortSt}{lo nrem n:Nat}{Q:Option Nat->SortSt->Prop},aI prog w A s κ K OO->lo+nrem<=OO.size->1<=n->n<nrem->Fx κ OO lo st st'->cH K (arrOf st') lo (lo+(n+1))->
  (∀n st',Fx κ OO lo st st'->1<=n->n<=nrem->cH K (arrOf st') lo (lo+n)->wpS (model prog w) A E s (F lo nrem n) Q st')->wpS (model prog w) A E s (cnB.1 lo nrem n) Q st'}:=by
 apply Subtype.mk
 intro prog w A E s κ K OO st st' lo nrem n Q hc hn h1 hx F D step
 refine FJ (LJ (IQ ⟨rfl,FJ (mQ hx (CnI κ K OO lo st) (Q:=CnE κ K OO lo nrem st) (.mk F D (Fq (Gb n)) λ i i1 i2=>by rw[Gv (Hh i2) i1]) (λ x c st3 hx1 hx i=>?_) (λ c st3 i=>.mk (Fn _) i) λ c st3 i=>?_)⟩))
 ·induction i with
  | @mk e st3 F3 D3 n1 he=>
   have x1:=fp (Fq (Gb _)) n1
   have zx:=j6 hx hn
   have z:lo+x<(arrOf st3).size:=F3.b.size.symm▸zx
   refine FJ (iu hc F3.b zx (oK hx hn) (iR (λ hl=>?_) λ hl=>?_))
   ·have D4:=D3.succ x1 (FT hl)
    have lst:∀{ys:Array Keyed}(i:Nat),lo+(x+1)-(0+1)<=i->i<lo+(x+1)->Ky K ys i=Ky K ys (lo+(x+1)-1):=λ i i1 i2=>by rw[Gv (Hh i2) i1]
    refine bO (λ hq=>FJ (qR (P4 (.mk (F3.rev (JN (Gf n1 lo)) (FE zx)) (D4.same (dg (FE z) he)) (Fq (Gb x)) lst)))) λ hq=>P4 (.mk F3 D4 (Fq (Gb x)) lst)
   ·refine FJ (iu hc F3.b (oK hx hn) zx (iR (λ hl2=>M7 (.mk (FE hx) (.mk F3 D3 n1 he))) λ hl2=>P4 (.mk F3 (D3.succ x1 hl2) (Fq n1) λ i i1 i2=>?_)))
    have heq:=Ig hl hl2
    rcases Ip (FW i2)with c|rfl
    ·exact(he i (fp (Fw (JE (lo+x) 1 (e+1)).symm) i1) c).trans heq
    ·rfl
 ·induction i with
  | mk hx i=>
   induction i with
   | @mk e st3 F3 D3 n1 he=>
    have x1:=fp (Fq (Gb _)) n1
    have zx:=fp (Gf hx lo) hn
    refine bO (λ hq=>FJ (qR ?_)) λ hq=>?_
    ·dsimp only
     exact step _ _ (F3.rev (JN (Gf n1 lo)) zx) x1 hx (D3.same (dg (F3.b.size.symm▸zx) he))
    ·dsimp only
     exact step _ _ F3 x1 hx D3
section
variable {prog:Program}{w:World}{A:Around}{E:Value->Shared->Prop}{s:Shared}{κ:SortKind}{K:Keyed->Int}{OO:Array Keyed}
inductive CnX(K:Keyed->Int)(lo nrem:Nat)(st:SortSt):CS->SortSt->Prop
 | mk {n:Nat}:1<=n->n<=nrem->Up K (arrOf st) lo (lo+n)->CnX K lo nrem st (none,n) st
theorem cn1(hc:aI prog w A s κ K OO){st:SortSt}{lo nrem:Nat}{Q:Option Nat->SortSt->Prop}(hn:lo+nrem<=OO.size)(F:Fx κ OO lo st st')(h1:1<=n)(hx:n<=nrem)(D:cH K (arrOf st') lo (lo+n))
  (h:∀m st',Fx κ OO lo st st'->1<=m->m<=nrem->Up K (arrOf st') lo (lo+m)->Q (some m) st'):wpS (model prog w) A E s (cnC.1 lo nrem n) Q st':=by
 have zx:=fp (Gf hx lo) hn
 have F5:=F.rev (j:=lo+n) (Fn lo) zx
 have U5:Up K (arrOf (setArr st' (mirror (arrOf st') lo (lo+n) ((lo+n-lo) / 2)))) lo (lo+n):=D.rev (F.b.size.symm▸zx)
 refine FJ (qR ?_)
 generalize setArr st' (mirror (arrOf st') lo (lo+n) ((lo+n-lo) / 2))=st5 at F5 U5 ⊢
 refine FJ (mQ hx (CnU K lo st5) (Q:=CnX K lo nrem st5) (.mk h1 U5) (λ x c st' h1 hx i=>?_) (λ c st' i=>?_) λ c st' i=>?_)
 ·induction i with
  | mk h1 h2=>exact FJ (iu hc F5.b (j6 hx hn) (oK hx hn) (iR (λ hl=>M7 (.mk h1 (FE hx) h2)) λ hl=>P4 (.mk (GD h1) (h2.succ h1 hl))))
 ·induction i with
  | mk h1 h2=>exact .mk h1 (Fn _) h2
 ·induction i with
  | mk h1 h2 h3=>exact HU (h _ _ F5 h1 h2 h3)
theorem xM(hc:aI prog w A s κ K OO){st:SortSt}{lo nrem:Nat}{Q:Option Nat->SortSt->Prop}(hn:lo+nrem<=OO.size)(h1:1<=nrem)(hB:SB κ OO st)
  (h:∀m st',Fx κ OO lo st st'->1<=m->m<=nrem->Up K (arrOf st') lo (lo+m)->Q (some m) st'):wpS (model prog w) A E s (countRun' lo nrem) Q st:=
 cnB.2 hc hn h1 hB (λ n st' F n1 nx D=>cnC.2 hc hn n1 nx F D λ n st' F n1 nx D=>cn1 hc hn F n1 nx D h) h
end
end Srt
namespace Srt
theorem sW{K:Keyed->Int}{xs:Array Keyed}{src d:Nat}(hs:src<xs.size)(hd:d<=src)(k:Nat):
  Ky K (bubble xs src d) k=if k=src-d then Ky K xs src else if src-d<k/\k<=src then Ky K xs (k-1)else Ky K xs k:=by
 have e:=Og hs d hd k
 by_cases h1:k=src-d
 ·rw[if_pos h1]at e ⊢;exact jZ e
 ·rw[if_neg h1]at e ⊢
  by_cases h2:src-d<k/\k<=src
  ·rw[if_pos h2]at e ⊢;exact jZ e
  ·rw[if_neg h2]at e ⊢;exact jZ e
theorem Up.bub{K:Keyed->Int}{xs:Array Keyed}{lo p src:Nat}(hs:src<xs.size)(lp:lo<=p)(hp:p<=src)(up:Up K xs lo src)(lw:∀i,lo<=i->i<p->Ky K xs i<=Ky K xs src)(hg:∀i,p<=i->i<src->Ky K xs src<Ky K xs i):
  Up K (bubble xs src (src-p)) lo (src+1):=by
 have B:=sW (K:=K) hs (HH src p)
 rw[LC hp]at B
 have e1:∀k,k<p->Ky K (bubble xs src (src-p)) k=Ky K xs k:=λ k hk=>(B k).trans ((if_neg (FP hk)).trans (if_neg λ h=>OC hk h.1))
 have e2:Ky K (bubble xs src (src-p)) p=Ky K xs src:=(B p).trans (if_pos rfl)
 have e3:∀k,p<=k->k<src->Ky K (bubble xs src (src-p)) (k+1)=Ky K xs k:=λ k h1 h2=>(B _).trans ((if_neg (FU (GG h1))).trans (if_pos ⟨GG h1,h2⟩))
 intro i j i1 ij j1
 rcases IH p j with c|c
 ·obtain⟨j,rfl⟩:=Jp (FU (Fe (Gb p) c))
  have j1:=Jv j1
  have c:=FW c
  rw[e3 j c j1]
  rcases Ll i p with d|rfl|d
  ·rw[e1 i d]
   exact up i j i1 (fp (FE d) c) j1
  ·rw[e2]
   exact FT (hg j c j1)
  ·obtain⟨i,rfl⟩:=Jp (FU (Fe (Gb p) d))
   have ij:=LO ij
   have d:=FW d
   rw[e3 i d (Fe ij j1)]
   exact up i j (fp lp d) ij j1
 ·rcases Ip c with c|rfl
  ·rw[e1 i (Fe ij c),e1 j c]
   exact up i j i1 ij (Fo c hp)
  ·rw[e2]
   rcases Ip ij with d|rfl
   ·rw[e1 i d]
    exact lw i i1 d
   ·rw[e2]
    exact FV _
section
variable {prog:Program}{w:World}{A:Around}{E:Value->Shared->Prop}{s:Shared}{κ:SortKind}{K:Keyed->Int}{OO:Array Keyed}
inductive BiI(κ:SortKind)(K:Keyed->Int)(OO:Array Keyed)(lo:Nat)(st:SortSt)(k:Nat):Option Bool×PUnit->SortSt->Prop
 | mk {st':SortSt}:Fx κ OO lo st st'->Up K (arrOf st') lo (lo+k)->BiI κ K OO lo st k (none,⟨⟩) st'
inductive BjI(K:Keyed->Int)(lo k:Nat)(st:SortSt)(x:Nat):Option Bool×Nat×Nat->SortSt->Prop
 | mk {l r:Nat}:l<=r->r<=k->r+x<=k+l->(∀i,lo<=i->i<lo+l->Ky K (arrOf st) i<=Ky K (arrOf st) (lo+k))->(∀i,lo+r<=i->i<lo+k->Ky K (arrOf st) (lo+k)<Ky K (arrOf st) i)->BjI K lo k st x (none,l,r) st
inductive BjE(K:Keyed->Int)(lo k:Nat)(st:SortSt):Option Bool×Nat×Nat->SortSt->Prop
 | mk {l r:Nat}:l<=k->(∀i,lo<=i->i<lo+l->Ky K (arrOf st) i<=Ky K (arrOf st) (lo+k))->(∀i,lo+l<=i->i<lo+k->Ky K (arrOf st) (lo+k)<Ky K (arrOf st) i)->BjE K lo k st (none,l,r) st
theorem Ae{l r:Nat}(h:l<r):l<=(l+r) / 2:=(Nat.le_div_iff_mul_le Ln).mpr (fp (Fw (Nat.mul_two _)) (Gf (FE h) _))
theorem Af{l r:Nat}(h:l<r):(l+r) / 2<r:=Nat.div_lt_of_lt_mul (Fo (Nat.add_lt_add_right h _) (Fw (NR _).symm))
noncomputable def biB:{F:Nat->Nat->Option Bool×PUnit->SM (ForInStep (Option Bool×PUnit)) // ∀{prog:Program}{w:World}{A:Around}{E:Value->Shared->Prop}{s:Shared}{κ:SortKind}{K:Keyed->Int}{OO:Array Keyed}{st:SortSt}{lo n ok:Nat}{Q:Bool->SortSt->Prop},ok<=n->1<=ok->SB κ OO st->Up K (arrOf st) lo (lo+ok)->
  (∀k c st',k<n->BiI κ K OO lo st k c st'->wpS (model prog w) A E s (F lo k c) (SQ (BiI κ K OO lo st (k+1)) (BiI κ K OO lo st n)) st')->(∀st',Fx κ OO lo st st'->Up K (arrOf st') lo (lo+n)->Q true st')->wpS (model prog w) A E s (binarySort' lo n ok) Q st}:=by
 apply Subtype.mk
 intro prog w A E s κ K OO st lo n ok Q hok h1 hB hs step h
 refine FJ (mQ (Nat.max_le.mpr ⟨hok,fp h1 hok⟩) (BiI κ K OO lo st) (Q:=BiI κ K OO lo st n) (.mk ⟨hB,rfl,rfl,λ Y Y=>rfl⟩ (by rw[Ob h1];exact hs)) (λ k c st' Y hk i=>step k c st' hk i) (λ c st' i=>i) λ c st' i=>?_)
 induction i with
 | mk F hs=>exact HU (h _ F hs)
theorem bi1(hc:aI prog w A s κ K OO){st:SortSt}{lo:Nat}{c:Option Bool×PUnit}(hn:lo+k<OO.size)(i:BiI κ K OO lo st k c st'):wpS (model prog w) A E s (biB.1 lo k c) (SQ (BiI κ K OO lo st (k+1)) (BiI κ K OO lo st n)) st':=by
 cases i with
 | mk F hs=>
 refine FJ (d5 (BjI K lo k st') (Q:=BjE K lo k st') (.mk (Gb _) (Fn _) (Fn _) (λ i h1 h2=>absurd h1 (Iq.mpr h2)) λ i h1 h2=>absurd h1 (Iq.mpr h2)) (λ x c st'' i=>?_) (λ c st'' i=>?_) λ c st'' i=>?_)
 ·induction i with
  | @mk l r h1 h2 h3 h4 h5=>
   refine bO (λ ho=>M7 ?_) λ ho=>?_
   ·obtain rfl:=Gv h1 ho
    exact .mk h2 h4 h5
   ·have m1:=Ae (Iq.mp ho)
    have m2:=Af (Iq.mp ho)
    revert m1 m2
    have lt:∀m,m<r->lo+m<lo+k:=λ m hm=>GX (Fo hm h2) _
    refine λ m1 m2=>FJ (iu hc F.b hn (FF (lt _ m2) hn) (iR (λ hl=>P4 ?_) λ hl=>P4 ?_))
    ·exact .mk m1 (fp (FE m2) h2) (fp (Fw (Nf _ x 1)) (fp (Gr m2 x) h3)) h4 λ i i1 i2=>HA hl (hs _ _ (Fi ..) i1 i2)
    ·exact .mk m2 h2 (Fq (fp h3 (Gf m1 k))) (λ i i1 i2=>FI (hs _ _ i1 (FW i2) (lt _ m2)) hl) h5
 ·induction i with
  | @mk l r h1 h2 h3 h4 h5=>
   obtain rfl:=Gv h1 (KZ (fp h3 (Fw (Hl k l))))
   exact .mk h2 h4 h5
 ·induction i with
  | @mk l r h1 h4 h5=>
   have hk:lo+k<(arrOf st').size:=F.b.size.symm▸hn
   have hp:=Gf h1 lo
   refine FJ (Ji (P4 (.mk ⟨F.b.setArr (bubble_perm _ _ _),F.p,F.g,λ j hj=>?_⟩ (Up.bub hk (Fi ..) hp hs h4 h5))))
   have e:=Og hk (lo+k-(lo+l)) (HH ..) j
   rw[LC hp,if_neg (FP (Fo hj (Fi ..))),if_neg λ h=>Iy _ (FF (Fo hj (Fi ..)) h.1)]at e
   exact e.trans (F.low j hj)
theorem BZ(hc:aI prog w A s κ K OO){st:SortSt}{lo ok:Nat}{Q:Bool->SortSt->Prop}(hn:lo+n<=OO.size)(hok:ok<=n)(h1:1<=ok)(hB:SB κ OO st)(hs:Up K (arrOf st) lo (lo+ok))
  (h:∀st',Fx κ OO lo st st'->Up K (arrOf st') lo (lo+n)->Q true st'):wpS (model prog w) A E s (binarySort' lo n ok) Q st:=
 biB.2 hok h1 hB hs (λ k c st' hk i=>bi1 hc (Fo (GX hk _) hn) i) h
end
end Srt
namespace Srt
noncomputable def qS:Bool->Keyed->Array Keyed->Nat->Nat->Nat->StateT SortSt Sem (Option Nat):=sortPriv% PySem.Builtin.gallop
noncomputable def bey(K:Keyed->Int)(left:Bool)(key:Keyed)(arr:Array Keyed)(i:Nat):Bool:=if left then decide (Ky K arr i<K key)else decide (Ky K arr i<=K key)
section
variable {prog:Program}{w:World}{A:Around}{E:Value->Shared->Prop}{s:Shared}{κ:SortKind}{K:Keyed->Int}{OO:Array Keyed}
theorem qT(hc:aI prog w A s κ K OO){st:SortSt}{left:Bool}{key:Keyed}{arr:Array Keyed}{Q:Option Bool->SortSt->Prop}(hk:kindOf st=κ)(hkey:key∈OO.toList)(harr:∀x∈arr.toList,x∈OO.toList)(hi:i<arr.size)
  (h:Q (some (bey K left key arr i)) st):wpS (model prog w) A E s (elem' arr i >>= λ x=>if left=true then lt' x key else lt' key x >>= λ r=>pure (r.map (!·))) Q st:=by
 have e:arr[i]?=some arr[i]:=getElem?_pos _ i hi
 have hm:arr[i]∈OO.toList:=harr _ (by simp)
 have eK:Ky K arr i=K arr[i]:=by unfold Ky;rw[e]
 refine FJ (P8 e ?_)
 induction left with
 | true=>
  rw[if_pos rfl]
  refine uN hc hk hm hkey ?_
  have:bey K true key arr i=decide (K arr[i]<K key):=by unfold bey;rw[if_pos rfl,eK]
  rwa [this]at h
 | false=>
  rw[if_neg (by decide)]
  refine FJ (uN hc hk hkey hm (HU ?_))
  have:bey K false key arr i = !decide (K key<K arr[i]):=by
   unfold bey;rw[if_neg (by decide),eK]
   by_cases h:K key<K arr[i] <;> simp[h] <;> exact Ha.mp h
  rwa [this]at h
structure Gx(prog:Program)(w:World)(A:Around)(s:Shared)(κ:SortKind)(K:Keyed->Int)(OO:Array Keyed)(left:Bool)(key:Keyed)(arr:Array Keyed)(base n:Nat)(st:SortSt):Prop where
 hc:aI prog w A s κ K OO
 hk:kindOf st=κ
 hkey:key∈OO.toList
 harr:∀x∈arr.toList,x∈OO.toList
 hn:base+n<=arr.size
 hs:Up K arr base (base+n)
variable {left:Bool}{key:Keyed}{arr:Array Keyed}{base n hint:Nat}{st:SortSt}
theorem Gx.lt(g:Gx prog w A s κ K OO left key arr base n st)(h:i<n):base+i<arr.size:=Fo (GX h _) g.hn
theorem Gx.mono(g:Gx prog w A s κ K OO left key arr base n st)(hij:i<=j)(hj:j<n)(hb:bey K left key arr (base+j)=true):bey K left key arr (base+i)=true:=by
 have:=g.hs (base+i) (base+j) (Fi ..) (Gf hij _) (GX hj _)
 unfold bey at hb ⊢
 induction left with
 | true=>exact decide_eq_true (Jr this (of_decide_eq_true hb))
 | false=>exact decide_eq_true (FI this (of_decide_eq_true hb))
theorem Gx.anti(g:Gx prog w A s κ K OO left key arr base n st)(hij:i<=j)(hj:j<n)(hb:bey K left key arr (base+i)=false):bey K left key arr (base+j)=false:=by
 cases h:bey K left key arr (base+j)with
 | false=>rfl
 | true=>exact(g.mono hij hj h).symm.trans hb
abbrev GS:=Option (Option Nat)×Nat×Nat
inductive GaU(K:Keyed->Int)(left:Bool)(key:Keyed)(arr:Array Keyed)(base n hint:Nat)(st:SortSt)(x:Nat):GS->SortSt->Prop
 | mk {l o:Nat}:x+1<=o->l<o->hint+l<n->bey K left key arr (base+(hint+l))=true->GaU K left key arr base n hint st x (none,l,o) st
inductive GaV(K:Keyed->Int)(left:Bool)(key:Keyed)(arr:Array Keyed)(base n hint:Nat)(st:SortSt):GS->SortSt->Prop
 | mk {l o:Nat}:l<o->hint+l<n->bey K left key arr (base+(hint+l))=true->(hint+o<n->bey K left key arr (base+(hint+o))=false)->GaV K left key arr base n hint st (none,l,o) st
inductive GaD(K:Keyed->Int)(left:Bool)(key:Keyed)(arr:Array Keyed)(base n hint:Nat)(st:SortSt)(x:Nat):GS->SortSt->Prop
 | mk {l o:Nat}:x+1<=o->l<o->l<=hint->bey K left key arr (base+(hint-l))=false->GaD K left key arr base n hint st x (none,l,o) st
inductive GaW(K:Keyed->Int)(left:Bool)(key:Keyed)(arr:Array Keyed)(base n hint:Nat)(st:SortSt):GS->SortSt->Prop
 | mk {l o:Nat}:l<o->l<=hint->bey K left key arr (base+(hint-l))=false->(o<=hint->bey K left key arr (base+(hint-o))=true)->GaW K left key arr base n hint st (none,l,o) st
structure Spl(K:Keyed->Int)(left:Bool)(key:Keyed)(arr:Array Keyed)(base n lo hi:Nat):Prop where
 le:lo<=hi
 hn:hi<=n
 lt:∀i,i<lo->bey K left key arr (base+i)=true
 ge:∀i,hi<=i->i<n->bey K left key arr (base+i)=false
inductive GaL(K:Keyed->Int)(left:Bool)(key:Keyed)(arr:Array Keyed)(base n:Nat)(st:SortSt)(x:Nat):GS->SortSt->Prop
 | mk {lo hi:Nat}:hi+x<=n+lo->Spl K left key arr base n lo hi->GaL K left key arr base n st x (none,lo,hi) st
inductive GaM(K:Keyed->Int)(left:Bool)(key:Keyed)(arr:Array Keyed)(base n:Nat)(st:SortSt):GS->SortSt->Prop
 | mk {k:Nat}:Spl K left key arr base n k k->GaM K left key arr base n st (none,k,k) st
theorem dbl{x o:Nat}(h:x+1<=o):x+1+1<=2*o+1:=Fq (fp h (Kr _ Ln))
theorem Ca{o:Nat}:o<2*o+1:=by lia
theorem GaV.spl(g:Gx prog w A s κ K OO left key arr base n st){l o:Nat}(h2:l<o)(h3:hint+l<n)(h4:bey K left key arr (base+(hint+l))=true)(h5:hint+o<n->bey K left key arr (base+(hint+o))=false):
  Spl K left key arr base n (hint+l+1) (hint+min o (n-hint)):=by
 have hh:=FE (Fe (Fi ..) h3)
 have e:hint+(n-hint)=n:=Hd hh
 rcases LQ o (n-hint)with q|q
 ·rw[Hm q]
  have ho:hint+o<=n:=e▸Gf q hint
  exact⟨GX h2 _,ho,λ i hi=>g.mono (FW hi) h3 h4,λ i i1 i2=>g.anti i1 i2 (h5 (Fe i1 i2))⟩
 ·rw[Kz q,e]
  exact⟨h3,Fn _,λ i hi=>g.mono (FW hi) h3 h4,λ i i1 i2=>absurd i1 (Iq.mpr i2)⟩
theorem GaW.spl(g:Gx prog w A s κ K OO left key arr base n st)(hh:hint<n){l o:Nat}(h2:l<o)(h3:l<=hint)(h4:bey K left key arr (base+(hint-l))=false)(h5:o<=hint->bey K left key arr (base+(hint-o))=true):
  Spl K left key arr base n (hint+1-min o (hint+1)) (hint-l):=by
 have hl:=fp (HH hint l) (FE hh)
 have ge:∀i,hint-l<=i->i<n->bey K left key arr (base+i)=false:=λ i i1 i2=>g.anti i1 i2 h4
 rcases IH hint o with q|q
 ·rw[Kz q,Kt]
  exact⟨Gb _,hl,λ i hi=>absurd hi (IX _),ge⟩
 ·rw[Hm (GD q)]
  exact⟨fp (MO h2 _) (Fw (JE _ 1 _)),hl,λ i hi=>g.mono (j:=hint-o) (JN (FW (Nat.add_lt_of_lt_sub hi))) (Fe (HH ..) hh) (h5 q),ge⟩
end
noncomputable def gaB:{F:Bool->Keyed->Array Keyed->Nat->Nat->Nat->Nat->SM (Option Nat) // ∀{prog:Program}{w:World}{A:Around}{E:Value->Shared->Prop}{s:Shared}{κ:SortKind}{K:Keyed->Int}{OO:Array Keyed}{left:Bool}{key:Keyed}{arr:Array Keyed}{base n hint:Nat}{st:SortSt}{Q:Option Nat->SortSt->Prop},
  Gx prog w A s κ K OO left key arr base n st->hint<n->(∀lo hi,Spl K left key arr base n lo hi->wpS (model prog w) A E s (F left key arr base n lo hi) Q st)->wpS (model prog w) A E s (qS left key arr base n hint) Q st}:=by
 apply Subtype.mk
 intro prog w A E s κ K OO left key arr base n hint st Q g hh h
 refine FJ (qT g.hc g.hk g.hkey g.harr (g.lt hh) (wpB (λ hb=>?_) λ hb=>?_))
 ·refine FJ (d5 (GaU K left key arr base n hint st) (Q:=GaV K left key arr base n hint st) (.mk (Fn _) Nat.one_pos hh hb) (λ x c st' i=>?_) (λ c st' i=>?_) λ c st' i=>?_)
  ·induction i with
   | mk h1 h2 h3 h4=>
    refine bO (λ ho=>M7 (.mk h2 h3 h4 λ q=>absurd q (λ Y=>GY (Nat.sub_le_iff_le_add'.mp ho) q))) λ ho=>FJ (qT g.hc g.hk g.hkey g.harr (g.lt (Hw (IK ho))) (Ad (λ hm=>M7 (.mk h2 h3 h4 λ Y=>hm)) λ hm=>P4 (.mk (dbl h1) Ca (Hw (IK ho)) hm)))
  ·induction i with
   | mk h1 h2 h3 h4=>exact .mk h2 h3 h4 λ q=>absurd q (absurd (Fe (GO _ _) q) (GY (FE h1)))
  ·induction i with
   | @mk l o h2 h3 h4 h5=>
    have q:=GaV.spl g h2 h3 h4 h5
    revert q
    dsimp only
    generalize hint+l+1=lo
    generalize hint+min o (n-hint)=hi
    exact h lo hi
 ·refine FJ (d5 (GaD K left key arr base n hint st) (Q:=GaW K left key arr base n hint st) (.mk (Fn _) Nat.one_pos (Gb _) hb) (λ x c st' i=>?_) (λ c st' i=>?_) λ c st' i=>?_)
  ·induction i with
   | mk h1 h2 h3 h4=>
    refine bO (λ ho=>M7 (.mk h2 h3 h4 λ q=>absurd q (Iq.mpr ho))) λ ho=>FJ (qT g.hc g.hk g.hkey g.harr (g.lt (Fe (HH ..) hh)) (wpB (λ hm=>M7 (.mk h2 h3 h4 λ Y=>hm)) λ hm=>P4 (.mk (dbl h1) Ca (FW (Iq.mp ho)) hm)))
  ·induction i with
   | mk h1 h2 h3 h4=>exact .mk h2 h3 h4 λ q=>absurd q (absurd (FF hh h1) (GY q))
  ·induction i with
   | mk h2 h3 h4 h5=>exact h _ _ (GaW.spl g hh h2 h3 h4 h5)
section
variable {prog:Program}{w:World}{A:Around}{E:Value->Shared->Prop}{s:Shared}{κ:SortKind}{K:Keyed->Int}{OO:Array Keyed}{left:Bool}{key:Keyed}{arr:Array Keyed}{base n hint:Nat}{st:SortSt}
theorem Ag{lo hi:Nat}(h:lo<hi):lo+(hi-lo) / 2<hi:=Hw (Nat.div_lt_self (IB h) (by decide))
theorem ga2(g:Gx prog w A s κ K OO left key arr base n st){lo hi:Nat}{Q:Option Nat->SortSt->Prop}(S:Spl K left key arr base n lo hi)(h:∀k,Spl K left key arr base n k k->Q (some k) st):wpS (model prog w) A E s (gaB.1 left key arr base n lo hi) Q st:=by
 refine FJ (d5 (GaL K left key arr base n st) (Q:=GaM K left key arr base n st) (.mk (fp S.hn (Fi ..)) S) (λ x c st' i=>?_) (λ c st' i=>?_) λ c st' i=>?_)
 ·induction i with
  | @mk lo hi h1 S=>
   refine bO (λ ho=>M7 ?_) λ ho=>?_
   ·obtain rfl:=Gv S.le ho
    exact .mk S
   ·have ho:=Ag (Iq.mp ho)
    have hl:=Fi lo ((hi-lo) / 2)
    refine FJ (qT g.hc g.hk g.hkey g.harr (g.lt (Fo ho S.hn)) (wpB (λ hm=>P4 (.mk ?_ ?_)) λ hm=>P4 (.mk ?_ ?_)))
    ·generalize lo+(hi-lo) / 2=m at hl
     lia
    ·exact⟨ho,S.hn,λ i i1=>g.mono (FW i1) (Fo ho S.hn) hm,S.ge⟩
    ·generalize lo+(hi-lo) / 2=m at ho
     lia
    ·exact⟨hl,FE (Fo ho S.hn),S.lt,λ i i1 i2=>g.anti i1 i2 hm⟩
 ·induction i with
  | @mk lo hi h1 S=>
   obtain rfl:=Gv S.le (KZ (fp h1 (Fw (Hl _ _))))
   exact .mk S
 ·induction i with
  | mk S=>exact HU (h _ S)
theorem cO(hc:aI prog w A s κ K OO){Q:Option Nat->SortSt->Prop}(hk:kindOf st=κ)(hkey:key∈OO.toList)(harr:∀x∈arr.toList,x∈OO.toList)(hn:base+n<=arr.size)(hh:hint<n)(hs:Up K arr base (base+n))
  (h:∀k,k<=n->(∀i,i<k->bey K left key arr (base+i)=true)->(∀i,k<=i->i<n->bey K left key arr (base+i)=false)->Q (some k) st):wpS (model prog w) A E s (qS left key arr base n hint) Q st:=
 gaB.2 ⟨hc,hk,hkey,harr,hn,hs⟩ hh λ lo hi S=>ga2 ⟨hc,hk,hkey,harr,hn,hs⟩ S λ k S=>h k S.hn S.lt S.ge
end
end Srt
namespace Srt
noncomputable def oM:Array Keyed->Array Keyed->StateT SortSt Sem (Array Keyed):=sortPriv% PySem.Builtin.mergeLo
def Le(K:Keyed->Int)(l l':List Keyed):Prop:=∀x∈l,∀y∈l',K x<=K y
def Sd(K:Keyed->Int)(l:List Keyed):Prop:=l.Pairwise λ x y=>K x<=K y
theorem Sd.app{K:Keyed->Int}{l l':List Keyed}(h:Sd K l)(h':Sd K l')(hl:Le K l l'):Sd K (l++l'):=Hf.mpr ⟨h,h',hl⟩
theorem Sd.drop{K:Keyed->Int}{l:List Keyed}(h:Sd K l)(n:Nat):Sd K (l.drop n):=h.sublist (Nj _ _)
theorem Sd.take{K:Keyed->Int}{l:List Keyed}(h:Sd K l)(n:Nat):Sd K (l.take n):=h.sublist (Nq _ _)
theorem Sd.split{K:Keyed->Int}{l:List Keyed}(h:Sd K l)(n:Nat):Le K (l.take n) (l.drop n):=λ x hx y hy=>by
 have h':Sd K (l.take n++l.drop n):=by rw[GJ];exact h
 exact(Hf.mp h').2.2 x hx y hy
theorem Le.app{K:Keyed->Int}{a b c:List Keyed}(h:Le K a c)(h':Le K b c):Le K (a++b) c:=λ x hx y hy=>by
 rcases FR.mp hx with q|q
 ·exact h x q y hy
 ·exact h' x q y hy
theorem Le.appR{K:Keyed->Int}{a b c:List Keyed}(h:Le K a b)(h':Le K a c):Le K a (b++c):=λ x hx y hy=>by
 rcases FR.mp hy with q|q
 ·exact h x hx y q
 ·exact h' x hx y q
theorem Le.sub{K:Keyed->Int}{a b a' b':List Keyed}(h:Le K a b)(ha:∀x∈a',x∈a)(hb:∀x∈b',x∈b):Le K a' b':=λ x hx y hy=>h x (ha x hx) y (hb y hy)
structure Mg(K:Keyed->Int)(la lb out:List Keyed)(ia ib:Nat):Prop where
 perm:(out++(la.drop ia++lb.drop ib)).Perm (la++lb)
 sd:Sd K out
 lea:Le K out (la.drop ia)
 leb:Le K out (lb.drop ib)
 ha:ia<=la.length
 hb:ib<=lb.length
theorem Mg.size{K:Keyed->Int}{la lb out:List Keyed}{ia ib:Nat}(m:Mg K la lb out ia ib):out.length=ia+ib:=by
 have:=m.perm.length_eq
 have:=m.ha;have:=m.hb
 simp at *;lia
theorem Mg.takeA{K:Keyed->Int}{la lb out:List Keyed}{ia ib:Nat}(m:Mg K la lb out ia ib)(hs:Sd K la)(hk:ia+k<=la.length)(hle:Le K ((la.drop ia).take k) (lb.drop ib)):
  Mg K la lb (out++(la.drop ia).take k) (ia+k) ib:=by
 have e:la.drop ia=(la.drop ia).take k++la.drop (ia+k):=by rw[<- Jl,GJ]
 refine⟨?_,m.sd.app ((hs.drop _).take _) (m.lea.sub (λ Y h=>h) λ x hx=>HR hx),?_,Le.app m.leb hle,hk,m.hb⟩
 ·have:=m.perm
  rw[e]at this
  simpa [Fz] using this
 ·refine Le.app (m.lea.sub (λ Y h=>h) λ x hx=>by rw[e];exact Hk _ hx) ?_
  have:=(hs.drop ia).split k
  rwa [Jl]at this
theorem Mg.takeB{K:Keyed->Int}{la lb out:List Keyed}{ia ib:Nat}(m:Mg K la lb out ia ib)(hs:Sd K lb)(hk:ib+k<=lb.length)(hle:Le K ((lb.drop ib).take k) (la.drop ia)):
  Mg K la lb (out++(lb.drop ib).take k) ia (ib+k):=by
 have e:lb.drop ib=(lb.drop ib).take k++lb.drop (ib+k):=by rw[<- Jl,GJ]
 refine⟨?_,m.sd.app ((hs.drop _).take _) (m.leb.sub (λ Y h=>h) λ x hx=>HR hx),Le.app m.lea hle,?_,m.ha,hk⟩
 ·have:=m.perm
  rw[e]at this
  refine List.Perm.trans ?_ this
  rw[Fz]
  refine JB _ ?_
  rw[<- Fz,<- Fz]
  exact IG _ IW
 ·refine Le.app (m.leb.sub (λ Y h=>h) λ x hx=>by rw[e];exact Hk _ hx) ?_
  have:=(hs.drop ib).split k
  rwa [Jl]at this
def bK(K:Keyed->Int)(la lb r:List Keyed):Prop:=r.Perm (la++lb)/\Sd K r
theorem Mg.doneB{K:Keyed->Int}{la lb out:List Keyed}{ia ib:Nat}(m:Mg K la lb out ia ib)(hs:Sd K la)(hb:lb.length<=ib):bK K la lb (out++la.drop ia++lb.drop ib):=by
 have e:lb.drop ib=[]:=Kn hb
 have p:=m.perm
 rw[e]at p ⊢
 rw[FL]at p ⊢
 exact⟨p,m.sd.app (hs.drop _) m.lea⟩
theorem Mg.lastA{K:Keyed->Int}{la lb out:List Keyed}{ia ib:Nat}(m:Mg K la lb out ia ib)(hs:Sd K la)(hsb:Sd K lb)(hl:Le K (lb.drop ib) (la.drop ia)):bK K la lb (out++lb.drop ib++la.drop ia):=by
 refine⟨?_,(m.sd.app (hsb.drop _) m.leb).app (hs.drop _) (Le.app m.lea hl)⟩
 refine List.Perm.trans ?_ m.perm
 rw[Fz]
 exact JB _ IW
theorem jj(a:Array Keyed)(i:Nat):(a.extract i a.size).toList=a.toList.drop i:=by
 rw[KG]
 simp only[JT]
 rw[Hg (by simp)]
theorem cP(a:Array Keyed)(i k:Nat):(a.extract i (i+k)).toList=(a.toList.drop i).take k:=by
 rw[KG]
 simp[JT]
theorem mR{a:Array Keyed}{x:Keyed}(h:a[i]?=some x):a.toList[i]?=some x:=by rw[IS];exact h
theorem dh{a:Array Keyed}{x:Keyed}(h:a[i]?=some x):a.toList.drop i=x::a.toList.drop (i+1):=by
 obtain⟨hi,e⟩:=FC.mp (mR h)
 rw[HF hi,e]
theorem aO{a:Array Keyed}{x:Keyed}(h:a[i]?=some x):x∈a.toList:=FD (mR h)
theorem oN{a:Array Keyed}{x:Keyed}(h:a[i]?=some x):i<a.size:=(Array.getElem?_eq_some_iff.mp h).1
theorem U9{a:Array Keyed}(h:i<a.size):∃x,a[i]?=some x:=⟨_,getElem?_pos a i h⟩
theorem cw{K:Keyed->Int}{a:Array Keyed}{x:Keyed}(h:a[i]?=some x):Ky K a i=K x:=by unfold Ky;rw[h]
theorem Sd.head{K:Keyed->Int}{r:List Keyed}{x:Keyed}(h:Sd K (x::r)):Le K [x] (x::r):=λ y hy z hz=>by
 rw[Fh]at hy;subst hy
 rcases Fv.mp hz with rfl|hz
 ·exact FV _
 ·exact(GQ.mp h).1 z hz
theorem Sd.at{K:Keyed->Int}{a:Array Keyed}{x:Keyed}(h:Sd K a.toList)(hx:a[i]?=some x):Le K [x] (a.toList.drop i):=by
 have:=h.drop i
 rw[dh hx]at this ⊢
 exact Sd.head this
theorem Sd.up{K:Keyed->Int}{a:Array Keyed}(h:Sd K a.toList){lo hi:Nat}(hh:hi<=a.size):Up K a lo hi:=λ i j hi' hij hj=>by
 obtain⟨x,hx⟩:=U9 (a:=a) (i:=i) (Fe hij (Fo hj hh))
 obtain⟨y,hy⟩:=U9 (a:=a) (i:=j) (fp hj hh)
 rw[cw hx,cw hy]
 refine h.at hx x (by simp) y ?_
 have:=mR hy
 refine FD (i:=j-i) ?_
 rw[IP,show i+(j-i)=j from Hp hij]
 exact this
theorem Le.through{K:Keyed->Int}{l l':List Keyed}{x:Keyed}(h:∀y∈l,K y<=K x)(h':Le K [x] l'):Le K l l':=λ y hy z hz=>FI (h y hy) (h' x (by simp) z hz)
theorem Mg.pushB{K:Keyed->Int}{a b out:Array Keyed}{ia ib:Nat}{x y:Keyed}(m:Mg K a.toList b.toList out.toList ia ib)(sa:Sd K a.toList)(sb:Sd K b.toList)(hx:a[ia]?=some x)(hy:b[ib]?=some y)(hle:K y<=K x):
  Mg K a.toList b.toList (out.push y).toList ia (ib+1):=by
 have e:(b.toList.drop ib).take 1=[y]:=by rw[dh hy];rfl
 have:=m.takeB sb (k:=1) (by have:=oN hy;simp;exact this) (by rw[e];exact Le.through (x:=x) (λ z hz=>by rw[Fh]at hz;subst hz;exact hle) (sa.at hx))
 rw[e]at this
 rw[Kj]
 exact this
theorem Mg.pushA{K:Keyed->Int}{a b out:Array Keyed}{ia ib:Nat}{x y:Keyed}(m:Mg K a.toList b.toList out.toList ia ib)(sa:Sd K a.toList)(sb:Sd K b.toList)(hx:a[ia]?=some x)(hy:b[ib]?=some y)(hle:K x<=K y):
  Mg K a.toList b.toList (out.push x).toList (ia+1) ib:=by
 have e:(a.toList.drop ia).take 1=[x]:=by rw[dh hx];rfl
 have:=m.takeA sa (k:=1) (by have:=oN hx;simp;exact this) (by rw[e];exact Le.through (x:=y) (λ z hz=>by rw[Fh]at hz;subst hz;exact hle) (sb.at hy))
 rw[e]at this
 rw[Kj]
 exact this
set_option tactic.hygienic true in
theorem V7{a:Array Keyed}{z:Keyed}(h:z∈(a.toList.drop i).take k):∃j,j<k/\a[i+j]?=some z:=by
 obtain⟨j,hj⟩:=JC.mp h
 rw[Nb]at hj
 split at hj
 ·rename_i hlt
  rw[IP,IS]at hj
  exact⟨j,hlt,hj⟩
 ·cases hj
theorem Mg.galA{K:Keyed->Int}{a b out:Array Keyed}{ia ib:Nat}{y:Keyed}(m:Mg K a.toList b.toList out.toList ia ib)(sa:Sd K a.toList)(sb:Sd K b.toList)(hy:b[ib]?=some y)(hk:ia+k<=a.size)(hle:∀i,i<k->bey K false y a (ia+i)=true):
  Mg K a.toList b.toList (out++a.extract ia (ia+k)).toList (ia+k) ib:=by
 have:=m.takeA sa (k:=k) (by simpa using hk) (Le.through (x:=y) (λ z hz=>by
  obtain⟨j,h1,h2⟩:=V7 hz
  have:=hle j h1
  unfold bey at this
  rw[cw h2]at this
  simpa using this) (sb.at hy))
 rw[Gw,cP]
 exact this
theorem Mg.galB{K:Keyed->Int}{a b out:Array Keyed}{ia ib:Nat}{x:Keyed}(m:Mg K a.toList b.toList out.toList ia ib)(sa:Sd K a.toList)(sb:Sd K b.toList)(hx:a[ia]?=some x)(hk:ib+k<=b.size)(hle:∀i,i<k->bey K true x b (ib+i)=true):
  Mg K a.toList b.toList (out++b.extract ib (ib+k)).toList ia (ib+k):=by
 have:=m.takeB sb (k:=k) (by simpa using hk) (Le.through (x:=x) (λ z hz=>by
  obtain⟨j,h1,h2⟩:=V7 hz
  have:=hle j h1
  unfold bey at this
  rw[cw h2]at this
  simp at this;exact FT this) (sa.at hx))
 rw[Gw,cP]
 exact this
theorem Mg.resB{K:Keyed->Int}{a b out:Array Keyed}{ia ib:Nat}(m:Mg K a.toList b.toList out.toList ia ib)(sa:Sd K a.toList)(h:ib=b.size):bK K a.toList b.toList (out++a.extract ia a.size++b.extract ib b.size).toList:=by
 rw[Gw,Gw,jj,jj]
 exact m.doneB sa (by simp[h])
theorem Mg.resA{K:Keyed->Int}{a b out:Array Keyed}{ia ib:Nat}(m:Mg K a.toList b.toList out.toList ia ib)(sa:Sd K a.toList)(sb:Sd K b.toList)(h:ia+1=a.size)(hl:∀x,a[a.size-1]?=some x->∀y∈b.toList,K y<K x):
  bK K a.toList b.toList (out++b.extract ib b.size++a.extract ia a.size).toList:=by
 rw[Gw,Gw,jj,jj]
 refine m.lastA sa sb λ y hy z hz=>?_
 obtain⟨x,hx⟩:=U9 (a:=a) (i:=ia) (Fw h)
 rw[dh hx,Kn (by simp;exact Fw h.symm),Fh]at hz
 subst hz
 exact FT (hl z (by rw[show a.size-1=ia from h▸rfl];exact hx) y (HQ hy))
theorem Mg.sizes{K:Keyed->Int}{a b out:Array Keyed}{ia ib:Nat}(m:Mg K a.toList b.toList out.toList ia ib):out.size=ia+ib:=by
 have:=m.size;simpa using this
section
structure KS(st st':SortSt):Prop where
 kk:PyProof.Rows.kindOf st'=PyProof.Rows.kindOf st
 a:arrOf st'=arrOf st
 p:pendingOf st'=pendingOf st
 f:failedOf st'=failedOf st
abbrev LS(X:Type):=Option (Array Keyed)×Array Keyed×Nat×Nat×X
structure Cx(prog:Program)(w:World)(A:Around)(s:Shared)(κ:SortKind)(K:Keyed->Int)(OO a b:Array Keyed):Prop where
 hc:aI prog w A s κ K OO
 ha:∀x∈a.toList,x∈OO.toList
 hb:∀x∈b.toList,x∈OO.toList
 sa:Sd K a.toList
 sb:Sd K b.toList
 h0:∀x y,b[0]?=some x->a[0]?=some y->K x<=K y
 hl:∀x,a[a.size-1]?=some x->∀y∈b.toList,K y<K x
variable {prog:Program}{w:World}{A:Around}{E:Value->Shared->Prop}{s:Shared}{κ:SortKind}{K:Keyed->Int}{OO a b:Array Keyed}
structure LoG(st:SortSt)(K:Keyed->Int)(a b:Array Keyed)(m:Nat){X:Type}(c:LS X)(st':SortSt):Prop where
 nn:c.1=none
 kk:KS st st'
 mg:Mg K a.toList b.toList c.2.1.toList c.2.2.1 c.2.2.2.1
 ia:c.2.2.1+1<a.size
 ib:c.2.2.2.1<b.size
 sz:m<=c.2.1.size
theorem LoG.go{st:SortSt}{K:Keyed->Int}{a b:Array Keyed}{X:Type}{out:Array Keyed}{ia ib:Nat}{x:X}(k:KS st st')(h:Mg K a.toList b.toList out.toList ia ib)(h1:ia+1<a.size)(h2:ib<b.size)(h3:m<=out.size):LoG st K a b m (none,out,ia,ib,x) st':=⟨rfl,k,h,h1,h2,h3⟩
inductive LoS(st:SortSt)(K:Keyed->Int)(a b:Array Keyed)(m:Nat){X:Type}:LS X->SortSt->Prop
 | on {t:Array Keyed×Nat×Nat×X}{st':SortSt}:LoG st K a b m (none,t) st'->LoS st K a b m (none,t) st'
 | fin {r:Array Keyed}{t:Array Keyed×Nat×Nat×X}{st':SortSt}:KS st st'->bK K a.toList b.toList r.toList->LoS st K a b m (some r,t) st'
theorem LoS.go{st:SortSt}{K:Keyed->Int}{a b:Array Keyed}{X:Type}{c:LS X}(h:LoG st K a b m c st'):LoS st K a b m c st':=by
 obtain⟨_,c⟩:=c
 obtain rfl:=h.nn
 exact .on h
inductive LoE(st:SortSt)(K:Keyed->Int)(a b:Array Keyed){X:Type}:LS X->SortSt->Prop
 | fin {r:Array Keyed}{t:Array Keyed×Nat×Nat×X}{st':SortSt}:KS st st'->bK K a.toList b.toList r.toList->LoE st K a b (some r,t) st'
theorem KS.go{st:SortSt}(h:KS st st'){g:Nat}:KS st (SortSt.mk' (PyProof.Rows.kindOf st') (arrOf st') (pendingOf st') g (failedOf st')):=⟨h.kk,h.a,h.p,h.f⟩
theorem Mg.snoc{out:Array Keyed}{y:Keyed}(h:m<=out.size):m+1<=(out.push y).size:=by rw[Array.size_push];exact Fq h
theorem gD{o t:Array Keyed}(h:m<=o.size):m<=(o++t).size:=by rw[Array.size_append];exact Kq h
theorem LoG.not_over{st:SortSt}{X:Type}{c:LS X}(h:LoG st K a b (a.size+b.size+1) c st'):False:=by
 have:=h.mg.sizes;have:=h.sz;have:=h.ia;have:=h.ib;lia
theorem sk1{β:Type}{m1:SM Unit}{m2:SM Keyed}{y:Keyed}{i1 j1 i2 j2:Nat}{p1 p2:Keyed->SM α}{i0:Keyed->SortSt->β}{F:Nat->β->SM (ForInStep β)}{G:β->SM α}{R:α->SortSt->Prop}{st:SortSt}(I:Nat->β->SortSt->Prop)(OM:β->SortSt->Prop)
  (h1:∀Q:Unit->SortSt->Prop,Q () st->wpS (model prog w) A E s m1 Q st)(h2:∀Q:Keyed->SortSt->Prop,Q y st->wpS (model prog w) A E s m2 Q st)(e1:i1=j1->wpS (model prog w) A E s (p1 y) R st)(e2:i2=j2->wpS (model prog w) A E s (p2 y) R st)
  (h:i1≠j1->i2≠j2->I 0 (i0 y st) st)(step:∀i c st,I i c st->wpS (model prog w) A E s (F i c) (SQ (I (i+1)) OM) st)(fin:∀c st,¬I n c st)(post:∀c st,OM c st->wpS (model prog w) A E s (G c) R st):
  wpS (model prog w) A E s (m1 >>= λ Y=>m2 >>= λ y=>if (i1==j1)=true then p1 y else if (i2==j2)=true then p2 y else get >>= λ st=>forIn [0:n] (i0 y st) F >>= G) R st:=
 FJ (h1 _ (FJ (h2 _ (bP e1 λ n1=>bP e2 λ n2=>FJ (KU (FJ (d5 I (h n1 n2) step (Q:=OM) (λ c st q=>(fin c st q).elim) post)))))))
noncomputable def loB:{F:Array Keyed->Array Keyed->Nat->LS Nat->SM (ForInStep (LS Nat)) // ∀{prog:Program}{w:World}{A:Around}{E:Value->Shared->Prop}{s:Shared}{κ:SortKind}{K:Keyed->Int}{OO a b:Array Keyed}{st:SortSt}{Q:Array Keyed->SortSt->Prop},Cx prog w A s κ K OO a b->0<a.size->0<b.size->
  (∀i c st',LoG st K a b (i+1) c st'->wpS (model prog w) A E s (F a b i c) (SQ (LoG st K a b (i+1+1)) (LoE st K a b)) st')->
  (∀r st',KS st st'->bK K a.toList b.toList r.toList->Q r st')->wpS (model prog w) A E s (oM a b) Q st}:=by
 apply Subtype.mk
 intro prog w A E s κ K OO a b st Q C a1 b1 step h
 refine xE (U9 b1) λ y0 hy0=>?_
 refine xE (U9 a1) λ x0 hx0=>?_
 have m0:Mg K a.toList b.toList (#[y0]:Array Keyed).toList 0 1:=by
  have:Mg K a.toList b.toList (#[]:Array Keyed).toList 0 0:=⟨.rfl,.nil,λ x hx=>(nomatch hx),λ x hx=>(nomatch hx),Gb _,Gb _⟩
  exact this.pushB C.sa C.sb hx0 hy0 (C.h0 _ _ hy0 hx0)
 have K0:KS st st:=⟨rfl,rfl,rfl,rfl⟩
 refine sk1 (y:=y0) (λ i=>LoG st K a b (i+1)) (LoE st K a b) (λ Q q=>LJ (IQ ⟨rfl,q⟩)) (λ Q q=>P8 hy0 q) (λ e=>HU (h _ st K0 (m0.resB C.sa e))) (λ e=>HU (h _ st K0 (m0.resA C.sa C.sb e C.hl))) (λ hb1 ha1=>.go K0 m0 (Gj a1 ha1) (Gj b1 hb1) (Fn _)) step (λ c st' q=>q.not_over) λ c st' q=>?_
 induction q with
 | fin k g=>exact HU (h _ _ k g)
theorem LoG.re{st:SortSt}{X OL:Type}{c:LS X}{y:OL}(h:LoG st K a b m c st'):LoG st K a b m (none,c.2.1,c.2.2.1,c.2.2.2.1,y) st':=⟨rfl,h.kk,h.mg,h.ia,h.ib,h.sz⟩
theorem LoG.fin{st:SortSt}{X:Type}{c:LS X}(h:LoG st K a b (m+(a.size+b.size)) c st'):LoG st K a b (m+1) c st':=
 ⟨h.nn,h.kk,h.mg,h.ia,h.ib,fp (Gf (fp (FE (Fe (GO ..) h.ia)) (Fi ..)) _) h.sz⟩
theorem LoG.mono{st:SortSt}{X:Type}{M:Nat}{c:LS X}(h:LoG st K a b m c st')(hM:M<=m):LoG st K a b M c st':=⟨h.nn,h.kk,h.mg,h.ia,h.ib,fp hM h.sz⟩
theorem Ah{X:Type}{c:Prop}{dc:Decidable c}{x:LS X}{st:SortSt}{m' M:Nat}(g:LoG st K a b m x st')(hM:M<=m)(h':m'<=m):
  wpS (model prog w) A E s (if c then pure (.done x)else pure (.yield x):SM (ForInStep (LS X))) (SQ (LoG st K a b m') (LoS st K a b M)) st':=
 bO (λ Y=>M7 (.go (g.mono hM))) λ Y=>P4 (g.mono h')
structure Two{α β:Type}(P:α->β->Prop)where
 f:α
 g:β
 ok:P f g
theorem sk2{β:Type}{m1:SM Unit}{i0:β}{F:Nat->β->SM (ForInStep β)}{G:β->SM α}{R:α->SortSt->Prop}{st:SortSt}(I:Nat->β->SortSt->Prop)(OM:β->SortSt->Prop)
  (h1:∀Q:Unit->SortSt->Prop,Q () st->wpS (model prog w) A E s m1 Q st)(h:I 0 i0 st)(step:∀i c st,I i c st->wpS (model prog w) A E s (F i c) (SQ (I (i+1)) OM) st)(fin:∀c st,I n c st->OM c st)(post:∀c st,OM c st->wpS (model prog w) A E s (G c) R st):
  wpS (model prog w) A E s (m1 >>= λ Y=>forIn [0:n] i0 F >>= G) R st:=FJ (h1 _ (FJ (d5 I h step fin post)))
noncomputable def loC:Two fun(F:Array Keyed->Array Keyed->LS Nat->LS (Nat×Nat)->SM (ForInStep (LS (Nat×Nat)))) (G:Array Keyed->Array Keyed->LS (Nat×Nat×Nat)->SM (ForInStep (LS (Nat×Nat×Nat))))=>∀{prog:Program}{w:World}{A:Around}{E:Value->Shared->Prop}{s:Shared}{K:Keyed->Int}{a b:Array Keyed}{st:SortSt}{m:Nat}{c:LS Nat}{st':SortSt},
  (∀i c' st',LoG st K a b (m+i) c' st'->wpS (model prog w) A E s (F a b c c') (SQ (LoG st K a b (m+(i+1))) (LoS st K a b (m+1))) st')->(∀c st',LoG st K a b (m+1) c st'->wpS (model prog w) A E s (G a b c) (SQ (LoG st K a b (m+1)) (LoS st K a b (m+1))) st')->
  LoG st K a b m c st'->wpS (model prog w) A E s (loB.1 a b m c) (SQ (LoG st K a b (m+1)) (LoE st K a b)) st':=by
 apply Two.mk
 intro prog w A E s K a b st m c st' h1 h2 h
 refine FJ (d5 (λ i=>LoG st K a b (m+i)) h.re h1 (λ c st' q=>.go q.fin) λ c st' q=>?_)
 induction q with
 | fin k g=>exact M7 (.fin k g)
 | on h=>
  refine sk2 (λ Y=>LoG st K a b (m+1)) (LoS st K a b (m+1)) (λ Q q=>LJ (IQ ⟨rfl,q⟩)) (.go h.kk h.mg h.ia h.ib h.sz) (λ Y=>h2) (λ c st' q=>.go q) λ c st' q=>?_
  induction q with
  | fin k g=>exact M7 (.fin k g)
  | on h=>exact FJ (Ji (P4 (.go h.kk.go h.mg h.ia h.ib h.sz)))
theorem lo1(C:Cx prog w A s κ K OO a b){st:SortSt}(hk:PyProof.Rows.kindOf st=κ){M:Nat}{c0:LS Nat}{c:LS (Nat×Nat)}(hM:M<=m+1)(h:LoG st K a b m c st'):
  wpS (model prog w) A E s (loC.f a b c0 c) (SQ (LoG st K a b (m+1)) (LoS st K a b M)) st':=by
 refine xE (U9 (a:=a) (GU h.ia)) λ x' hx'=>?_
 refine xE (U9 (a:=b) h.ib) λ y' hy'=>?_
 refine FJ (P8 hy' (FJ (P8 hx' (FJ (uN C.hc (h.kk.kk.trans hk) (C.hb _ (aO hy')) (C.ha _ (aO hx')) (iR (λ hlt=>?_) λ hle=>?_))))))
 ·refine FJ (P8 hy' (bP (λ e=>?_) λ e=>?_))
  ·exact M7 (.fin h.kk ((h.mg.pushB C.sa C.sb hx' hy' (FT hlt)).resB C.sa e))
  ·exact Ah (.go h.kk (h.mg.pushB C.sa C.sb hx' hy' (FT hlt)) h.ia (Gj h.ib e) (Mg.snoc h.sz)) hM (Fn _)
 ·refine FJ (P8 hx' (bP (λ e=>?_) λ e=>?_))
  ·exact M7 (.fin h.kk ((h.mg.pushA C.sa C.sb hx' hy' hle).resA C.sa C.sb e C.hl))
  ·exact Ah (.go h.kk (h.mg.pushA C.sa C.sb hx' hy' hle) (Gj h.ia e) h.ib (Mg.snoc h.sz)) hM (Fn _)
structure P2(K:Keyed->Int)(a b:Array Keyed)(m ib:Nat)(y:Keyed)(o:Array Keyed)(i:Nat):Prop where
 mg:Mg K a.toList b.toList o.toList i ib
 ia:i+1<a.size
 sz:m<=o.size
 le:∀x,a[i]?=some x->K y<=K x
noncomputable def loD:{F:Array Keyed->Array Keyed->LS (Nat×Nat×Nat)->Nat->SM (ForInStep (LS (Nat×Nat×Nat))) // ∀{prog:Program}{w:World}{A:Around}{E:Value->Shared->Prop}{s:Shared}{a b:Array Keyed}{c:LS (Nat×Nat×Nat)}{st:SortSt}{Q:ForInStep (LS (Nat×Nat×Nat))->SortSt->Prop},
  (∀g,wpS (model prog w) A E s (F a b c g) Q st)->wpS (model prog w) A E s (loC.g a b c) Q st}:=by
 apply Subtype.mk
 intro prog w A E s a b c st Q h
 refine bO (λ Y=>?_) λ Y=>?_
 ·generalize c.2.2.2.2.1-1=g
  exact h g
 ·exact h _
theorem qU(h:i+k<n):k<n-i:=Nat.lt_sub_of_add_lt (Hl i k▸h)
theorem qV{y x:Keyed}(h:bey K false y a i=false)(hx:a[i]?=some x):K y<K x:=by
 unfold bey at h
 rw[if_neg (by decide),cw hx]at h
 exact JK.mp (of_decide_eq_false h)
theorem j7{y x:Keyed}(h:bey K true y a i=false)(hx:a[i]?=some x):K y<=K x:=by
 unfold bey at h
 rw[if_pos rfl,cw hx]at h
 exact Ha.mp (of_decide_eq_false h)
theorem P2.room(C:Cx prog w A s κ K OO a b){ia ib:Nat}{y:Keyed}(hy:b[ib]?=some y)(h1:ia+1<a.size)(g2:∀i,i<k->bey K false y a (ia+i)=true):ia+k≠a.size:=λ e=>by
 cases k with
 | zero=>exact Iy _ (e▸GU h1)
 | succ k=>
  refine xE (U9 (a:=a) (i:=ia+k) (e▸FY _)) λ x hx=>?_
  have q:=g2 k (FY _)
  unfold bey at q
  rw[if_neg (by decide),cw hx]at q
  exact Ha.mpr (of_decide_eq_true q) (C.hl x (by rw[<- e];exact hx) y (aO hy))
theorem sk3{m1:SM Unit}{m2:SM Keyed}{m3:Keyed->SM (Option Nat)}{G:Option Nat->SM α}{y:Keyed}{st st1:SortSt}{R:α->SortSt->Prop}(h1:∀Q:Unit->SortSt->Prop,Q () st1->wpS (model prog w) A E s m1 Q st)(h2:∀Q:Keyed->SortSt->Prop,Q y st1->wpS (model prog w) A E s m2 Q st1)
  (h3:wpS (model prog w) A E s (m3 y) (λ x=>wpS (model prog w) A E s (G x) R) st1):wpS (model prog w) A E s (m1 >>= λ Y=>m2 >>= λ y=>m3 y >>= G) R st:=FJ (h1 _ (FJ (h2 _ (FJ h3))))
theorem sk4{i1 j1 i2 j2:Nat}{p1 p2 a b:SM α}{Q:α->SortSt->Prop}{st:SortSt}(e1:0<k->i1=j1->wpS (model prog w) A E s p1 Q st)(e2:0<k->i1≠j1->i2=j2->wpS (model prog w) A E s p2 Q st)(e3:0<k->i1≠j1->i2≠j2->wpS (model prog w) A E s a Q st)(e4:¬0<k->wpS (model prog w) A E s b Q st):
  wpS (model prog w) A E s (if k > 0 then(if (i1==j1)=true then p1 else if (i2==j2)=true then p2 else a)else b) Q st:=bO (λ h=>bP (e1 h) λ n=>bP (e2 h n) (e3 h n)) e4
theorem sk5{i1 j1:Nat}{p1 a b:SM α}{Q:α->SortSt->Prop}{st:SortSt}(e1:0<k->i1=j1->wpS (model prog w) A E s p1 Q st)(e3:0<k->i1≠j1->wpS (model prog w) A E s a Q st)(e4:¬0<k->wpS (model prog w) A E s b Q st):
  wpS (model prog w) A E s (if k > 0 then(if (i1==j1)=true then p1 else a)else b) Q st:=bO (λ h=>bP (e1 h) (e3 h)) e4
theorem sk6{m1 m2:SM Keyed}{p:Keyed->SM α}{m3:Keyed->SM (Option Nat)}{G:Keyed->Option Nat->SM α}{x y:Keyed}{st:SortSt}{R:α->SortSt->Prop}(h1:∀Q:Keyed->SortSt->Prop,Q y st->wpS (model prog w) A E s m1 Q st)(e:i=j->wpS (model prog w) A E s (p y) R st)(h2:∀Q:Keyed->SortSt->Prop,Q x st->wpS (model prog w) A E s m2 Q st)
  (h3:i≠j->wpS (model prog w) A E s (m3 x) (λ x=>wpS (model prog w) A E s (G y x) R) st):wpS (model prog w) A E s (m1 >>= λ y=>if (i==j)=true then p y else m2 >>= λ x=>m3 x >>= G y) R st:=FJ (h1 _ (bP e λ n=>FJ (h2 _ (FJ (h3 n)))))
noncomputable def loE:{F:Array Keyed->Array Keyed->LS (Nat×Nat×Nat)->Nat->Nat->Array Keyed->Nat->SM (ForInStep (LS (Nat×Nat×Nat))) // ∀{prog:Program}{w:World}{A:Around}{E:Value->Shared->Prop}{s:Shared}{κ:SortKind}{K:Keyed->Int}{OO a b:Array Keyed}{st:SortSt}{m g:Nat}{c:LS (Nat×Nat×Nat)}{st':SortSt},Cx prog w A s κ K OO a b->PyProof.Rows.kindOf st=κ->
  (∀k o i y st',KS st st'->b[c.2.2.2.1]?=some y->P2 K a b m c.2.2.2.1 y o i->wpS (model prog w) A E s (F a b c g k o i) (SQ (LoG st K a b m) (LoS st K a b m)) st')->LoG st K a b m c st'->wpS (model prog w) A E s (loD.1 a b c g) (SQ (LoG st K a b m) (LoS st K a b m)) st'}:=by
 apply Subtype.mk
 intro prog w A E s κ K OO a b st m g c st' C hk step h
 refine xE (U9 (a:=b) h.ib) λ y' hy'=>?_
 refine sk3 (λ Q q=>Ji q) (λ Q q=>P8 hy' q) (cO C.hc (h.kk.kk.trans hk) (C.hb _ (aO hy')) C.ha (Fw (Hd (FE (GU h.ia)))) (IB (GU h.ia)) (C.sa.up (Fw (Hd (FE (GU h.ia))))) λ k g1 g2 g3=>?_)
 have gl:c.2.2.1+k<=a.size:=Ml (FE (GU h.ia)) g1
 have le:∀x,a[c.2.2.1+k]?=some x->K y'<=K x:=λ x hx=>FT (qV (g3 k (Fn _) (qU (oN hx))) hx)
 refine sk4 (λ Y e=>M7 (.fin h.kk.go ((h.mg.galA C.sa C.sb hy' gl g2).resA C.sa C.sb e C.hl))) (λ Y Y e=>absurd e (P2.room C hy' h.ia g2)) (λ Y e Y=>?_) λ e=>?_
 ·have q:P2 K a b m c.2.2.2.1 y' (c.2.1++a.extract c.2.2.1 (c.2.2.1+k)) (c.2.2.1+k):=⟨h.mg.galA C.sa C.sb hy' gl g2,Gj (Gj gl (P2.room C hy' h.ia g2)) e,gD h.sz,le⟩
  revert q
  generalize c.2.1++a.extract c.2.2.1 (c.2.2.1+k)=o
  generalize c.2.2.1+k=i
  intro q
  exact step k o i y' _ h.kk.go hy' q
 ·obtain rfl:=Ju e
  exact step 0 _ _ y' _ h.kk.go hy' ⟨h.mg,h.ia,h.sz,le⟩
structure P3(K:Keyed->Int)(a b:Array Keyed)(m j:Nat)(o:Array Keyed)(i:Nat):Prop where
 mg:Mg K a.toList b.toList o.toList j i
 ia:j+1<a.size
 ib:i<b.size
 sz:m<=o.size
 le:∀x y,a[j]?=some x->b[i]?=some y->K x<=K y
noncomputable def loF:{F:Array Keyed->Array Keyed->Nat->Nat->Nat->Nat->Array Keyed->Nat->SM (ForInStep (LS (Nat×Nat×Nat))) // ∀{prog:Program}{w:World}{A:Around}{E:Value->Shared->Prop}{s:Shared}{κ:SortKind}{K:Keyed->Int}{OO a b:Array Keyed}{st:SortSt}{m g k ia:Nat}{o:Array Keyed}{y:Keyed}{c:LS (Nat×Nat×Nat)}{st':SortSt},Cx prog w A s κ K OO a b->PyProof.Rows.kindOf st=κ->
  (∀k2 o i,P3 K a b m ia o i->wpS (model prog w) A E s (F a b ia g k k2 o i) (SQ (LoG st K a b m) (LoS st K a b m)) st')->KS st st'->b[c.2.2.2.1]?=some y->P2 K a b m c.2.2.2.1 y o ia->wpS (model prog w) A E s (loE.1 a b c g k o ia) (SQ (LoG st K a b m) (LoS st K a b m)) st'}:=by
 apply Subtype.mk
 intro prog w A E s κ K OO a b st m g k ia o y c st' C hk step k1 hy h
 refine xE (U9 (a:=a) (GU h.ia)) λ x hx=>?_
 have m4:=h.mg.pushB C.sa C.sb hx hy (h.le x hx)
 have hb:=oN hy
 refine sk6 (y:=y) (x:=x) (λ Q q=>P8 hy q) (λ e=>M7 (.fin k1 (m4.resB C.sa e))) (λ Q q=>P8 hx q) λ e5=>?_
 have hb:=Gj hb e5
 refine cO C.hc (k1.kk.trans hk) (C.ha _ (aO hx)) C.hb (Fw (Hd (FE hb))) (IB hb) (C.sb.up (Fw (Hd (FE hb)))) λ k2 g1 g2 g3=>?_
 have gl:c.2.2.2.1+1+k2<=b.size:=Ml (FE hb) g1
 have sz:=GL (Mg.snoc (y:=y) h.sz)
 have le:∀x' y,a[ia]?=some x'->b[c.2.2.2.1+1+k2]?=some y->K x'<=K y:=λ x' y hx' hy=>by
  rw[hx]at hx'
  cases hx'
  exact j7 (g3 k2 (Fn _) (qU (oN hy))) hy
 refine sk5 (λ Y e=>M7 (.fin k1 ((m4.galB C.sa C.sb hx gl g2).resB C.sa e))) (λ Y e1=>?_) λ e=>?_
 ·have q:P3 K a b m ia (o.push y++b.extract (c.2.2.2.1+1) (c.2.2.2.1+1+k2)) (c.2.2.2.1+1+k2):=⟨m4.galB C.sa C.sb hx gl g2,h.ia,Gj gl e1,gD sz,le⟩
  revert q
  generalize o.push y++b.extract (c.2.2.2.1+1) (c.2.2.2.1+1+k2)=o
  generalize c.2.2.2.1+1+k2=i
  intro q
  exact step k2 o i q
 ·obtain rfl:=Ju e
  exact step 0 _ _ ⟨m4,h.ia,hb,sz,le⟩
theorem lo2(C:Cx prog w A s κ K OO a b){st:SortSt}{g k2 ia:Nat}{o:Array Keyed}(k1:KS st st')(h:P3 K a b m ia o i):wpS (model prog w) A E s (loF.1 a b ia g k k2 o i) (SQ (LoG st K a b m) (LoS st K a b m)) st':=by
 refine xE (U9 (a:=a) (GU h.ia)) λ x hx=>?_
 refine xE (U9 (a:=b) h.ib) λ y hy=>?_
 have m7:=h.mg.pushA C.sa C.sb hx hy (h.le x y hx hy)
 exact FJ (P8 hx (bP (λ e=>M7 (.fin k1 (m7.resA C.sa C.sb e C.hl))) λ e=>Ah (.go k1 m7 (Gj h.ia e) h.ib (GL (Mg.snoc h.sz))) (Fn _) (Fn _)))
theorem EA{st:SortSt}{Q:Array Keyed->SortSt->Prop}(C:Cx prog w A s κ K OO a b)(hk:PyProof.Rows.kindOf st=κ)(a1:0<a.size)(b1:0<b.size)(h:∀r st',KS st st'->bK K a.toList b.toList r.toList->Q r st'):
  wpS (model prog w) A E s (oM a b) Q st:=
 loB.2 C a1 b1 (λ i c st' g=>loC.ok (λ i' c' st' g=>lo1 C hk (Fq (Fi ..)) g) (λ c st' g=>loD.2 λ g'=>loE.2 C hk (λ k o i y st' k1 hy h=>loF.2 C hk (λ k2 o i h=>lo2 C k1 h) k1 hy h) g) g) h
end
end Srt
namespace Srt
noncomputable def oO:Array Keyed->Array Keyed->StateT SortSt Sem (Array Keyed):=sortPriv% PySem.Builtin.mergeHi
structure Mh(K:Keyed->Int)(la lb suf:List Keyed)(na nb:Nat):Prop where
 perm:(la.take na++lb.take nb++suf).Perm (la++lb)
 sd:Sd K suf
 lea:Le K (la.take na) suf
 leb:Le K (lb.take nb) suf
 ha:na<=la.length
 hb:nb<=lb.length
theorem Mh.size{K:Keyed->Int}{la lb suf:List Keyed}{na nb:Nat}(m:Mh K la lb suf na nb):na+nb+suf.length=la.length+lb.length:=by
 have:=m.perm.length_eq
 have:=m.ha;have:=m.hb
 simp at *;lia
theorem Mh.takeA{K:Keyed->Int}{la lb suf:List Keyed}{na nb:Nat}(m:Mh K la lb suf na nb)(hs:Sd K la)(hj:j<=na)(hle:Le K (lb.take nb) ((la.take na).drop j)):
  Mh K la lb ((la.take na).drop j++suf) j nb:=by
 have e:la.take na=la.take j++(la.take na).drop j:=by
  have:=GJ j (la.take na)
  rw[Kp,Hm hj]at this
  exact this.symm
 have sub:∀x∈la.take j,x∈la.take na:=λ x hx=>by rw[e];exact Gq _ hx
 refine⟨?_,((hs.take _).drop _).app m.sd (m.lea.sub (λ x hx=>HQ hx) λ Y h=>h),Le.appR ?_ (m.lea.sub sub λ Y h=>h),Le.appR hle m.leb,fp hj m.ha,m.hb⟩
 ·refine List.Perm.trans ?_ m.perm
  rw[<- Fz]
  refine IG _ ?_
  conv=>rhs;rw[e]
  rw[Fz,Fz]
  exact JB _ IW
 ·have:=(hs.take na).split j
  rw[Kp,Hm hj]at this
  exact this
theorem Mh.takeB{K:Keyed->Int}{la lb suf:List Keyed}{na nb:Nat}(m:Mh K la lb suf na nb)(hs:Sd K lb)(hj:j<=nb)(hle:Le K (la.take na) ((lb.take nb).drop j)):
  Mh K la lb ((lb.take nb).drop j++suf) na j:=by
 have e:lb.take nb=lb.take j++(lb.take nb).drop j:=by
  have:=GJ j (lb.take nb)
  rw[Kp,Hm hj]at this
  exact this.symm
 have sub:∀x∈lb.take j,x∈lb.take nb:=λ x hx=>by rw[e];exact Gq _ hx
 refine⟨?_,((hs.take _).drop _).app m.sd (m.leb.sub (λ x hx=>HQ hx) λ Y h=>h),Le.appR hle m.lea,Le.appR ?_ (m.leb.sub sub λ Y h=>h),m.ha,fp hj m.hb⟩
 ·refine List.Perm.trans ?_ m.perm
  rw[<- Fz]
  refine IG _ ?_
  conv=>rhs;rw[e]
  rw[Fz]
 ·have:=(hs.take nb).split j
  rw[Kp,Hm hj]at this
  exact this
theorem Mh.doneA{K:Keyed->Int}{la lb suf:List Keyed}{nb:Nat}(m:Mh K la lb suf 0 nb)(hs:Sd K lb):bK K la lb (la.take 0++lb.take nb++suf):=
 ⟨m.perm,by simpa using (hs.take _).app m.sd m.leb⟩
theorem Mh.firstB{K:Keyed->Int}{la lb suf:List Keyed}{na nb:Nat}(m:Mh K la lb suf na nb)(hs:Sd K la)(hsb:Sd K lb)(hl:Le K (lb.take nb) (la.take na)):bK K la lb (lb.take nb++la.take na++suf):=by
 refine⟨?_,((hsb.take _).app (hs.take _) hl).app m.sd (Le.app m.leb m.lea)⟩
 exact(IG _ IW).trans m.perm
end Srt
namespace Srt
abbrev MH(K:Keyed->Int)(a b out:Array Keyed)(na nb:Nat):Prop:=Mh K a.toList b.toList out.toList.reverse na nb
theorem MH.sizes{K:Keyed->Int}{a b out:Array Keyed}{na nb:Nat}(m:MH K a b out na nb):na+nb+out.size=a.size+b.size:=by
 have:=Mh.size m;simpa using this
theorem Y0{a:Array Keyed}{x:Keyed}(hn:1<=n)(h:a[n-1]?=some x):(a.toList.take n).drop (n-1)=[x]:=by
 rw[Mx,show n-(n-1)=1 from LC hn,dh h];rfl
theorem jk{K:Keyed->Int}{a:Array Keyed}{x:Keyed}(sa:Sd K a.toList)(hn:1<=n)(h:a[n-1]?=some x):∀y∈a.toList.take n,K y<=K x:=by
 intro y hy
 have:=(sa.take n).split (n-1)
 rw[Y0 hn h]at this
 have e:=GJ (n-1) (a.toList.take n)
 rw[Y0 hn h]at e
 rw[<- e]at hy
 rcases FR.mp hy with q|q
 ·exact this y q x (by simp)
 ·rw[Fh]at q;subst q;exact FV _
theorem MH.pushA{K:Keyed->Int}{a b out:Array Keyed}{na nb:Nat}{x y:Keyed}(m:MH K a b out na nb)(sa:Sd K a.toList)(sb:Sd K b.toList)(h1:1<=na)(h2:1<=nb)(hx:a[na-1]?=some x)(hy:b[nb-1]?=some y)(hle:K y<=K x):
  MH K a b (out.push x) (na-1) nb:=by
 have e:=Y0 h1 hx
 have:=Mh.takeA m sa (j:=na-1) (HH _ _) (by
  rw[e]
  intro z hz w hw
  rw[Fh]at hw;subst hw
  exact FI (jk sb h2 hy z hz) hle)
 rw[e]at this
 show Mh _ _ _ _ _ _
 rw[Kj,JV]
 exact this
theorem MH.pushB{K:Keyed->Int}{a b out:Array Keyed}{na nb:Nat}{x y:Keyed}(m:MH K a b out na nb)(sa:Sd K a.toList)(sb:Sd K b.toList)(h1:1<=na)(h2:1<=nb)(hx:a[na-1]?=some x)(hy:b[nb-1]?=some y)(hle:K x<=K y):
  MH K a b (out.push y) na (nb-1):=by
 have e:=Y0 h2 hy
 have:=Mh.takeB m sb (j:=nb-1) (HH _ _) (by
  rw[e]
  intro z hz w hw
  rw[Fh]at hw;subst hw
  exact FI (jk sa h1 hx z hz) hle)
 rw[e]at this
 show Mh _ _ _ _ _ _
 rw[Kj,JV]
 exact this
theorem di(a:Array Keyed)(i n:Nat):(a.extract i n).toList=(a.toList.take n).drop i:=by
 rw[KG]
 simp only[JT]
 rw[Mx]
theorem qW{a:Array Keyed}{z:Keyed}(h:z∈(a.toList.take n).drop i):∃j,i<=j/\j<n/\a[j]?=some z:=by
 rw[Mx]at h
 refine xE (V7 h) λ j Z=>(λ h1 h2=>?_) Z.1 Z.2;clear Z
 exact⟨i+j,Fi _ _,Hw h1,h2⟩
theorem MH.galA{K:Keyed->Int}{a b out:Array Keyed}{na nb:Nat}{y:Keyed}(m:MH K a b out na nb)(sa:Sd K a.toList)(sb:Sd K b.toList)(h2:1<=nb)(hy:b[nb-1]?=some y)(hj:j<=na)(hle:∀i,j<=i->i<na->bey K false y a (0+i)=false):
  MH K a b (out++(a.extract j na).reverse) j nb:=by
 have:=Mh.takeA m sa (j:=j) hj (λ z hz w hw=>by
  refine xE (qW hw) λ i Z=>(λ i1 i2 i3=>?_) Z.1 Z.2.1 Z.2.2;clear Z
  have h:=hle i i1 i2
  unfold bey at h
  rw[Gy,cw i3]at h
  have:=jk sb h2 hy z hz
  simp at h;exact FI this (FT h))
 show Mh _ _ _ _ _ _
 rw[Gw,IY,JV,MB,di]
 exact this
theorem MH.galB{K:Keyed->Int}{a b out:Array Keyed}{na nb:Nat}{x:Keyed}(m:MH K a b out na nb)(sa:Sd K a.toList)(sb:Sd K b.toList)(h1:1<=na)(hx:a[na-1]?=some x)(hj:j<=nb)(hle:∀i,j<=i->i<nb->bey K true x b (0+i)=false):
  MH K a b (out++(b.extract j nb).reverse) na j:=by
 have:=Mh.takeB m sb (j:=j) hj (λ z hz w hw=>by
  obtain⟨i,i1,i2,i3⟩:=qW hw
  have h:=hle i i1 i2
  unfold bey at h
  rw[Gy,cw i3]at h
  have:=jk sa h1 hx z hz
  simp at h;exact FI this h)
 show Mh _ _ _ _ _ _
 rw[Gw,IY,JV,MB,di]
 exact this
theorem lR(a:Array Keyed)(n:Nat):(a.extract 0 n).toList=a.toList.take n:=by rw[di];rfl
theorem MH.resA{K:Keyed->Int}{a b out:Array Keyed}{na nb:Nat}(m:MH K a b out na nb)(sb:Sd K b.toList)(h:na=0):bK K a.toList b.toList (a.extract 0 na++b.extract 0 nb++out.reverse).toList:=by
 subst h
 rw[Gw,Gw,lR,lR,IY]
 exact Mh.doneA m sb
theorem MH.resB0{K:Keyed->Int}{a b out:Array Keyed}{na nb:Nat}(m:MH K a b out na nb)(sa:Sd K a.toList)(h:nb=0):bK K a.toList b.toList (a.extract 0 na++b.extract 0 nb++out.reverse).toList:=by
 subst h
 rw[Gw,Gw,lR,lR,IY]
 exact⟨m.perm,by simpa using (sa.take _).app m.sd m.lea⟩
theorem MH.resB{K:Keyed->Int}{a b out:Array Keyed}{na nb:Nat}(m:MH K a b out na nb)(sa:Sd K a.toList)(sb:Sd K b.toList)(h:nb=1)(h0:∀x y,b[0]?=some x->a[0]?=some y->K x<=K y):
  bK K a.toList b.toList (b.extract 0 nb++a.extract 0 na++out.reverse).toList:=by
 subst h
 rw[Gw,Gw,lR,lR,IY]
 refine Mh.firstB m sa sb λ y hy z hz=>?_
 obtain⟨j,hj,e⟩:=V7 (a:=b) (i:=0) (k:=1) hy
 obtain⟨x0,hx0⟩:∃x,a[0]?=some x:=U9 (by
  cases hq:a.toList with
  | nil=>rw[hq]at hz;simp at hz
  | cons _ _=>have:=congrArg List.length hq;simp at this;exact this▸Hs _)
 have hb0:b[0]?=some y:=by rw[show 0+j=0 from(Gy _).trans (Ks.mp hj)]at e;exact e
 exact FI (h0 _ _ hb0 hx0) (sa.at hx0 x0 (by simp) z (HR hz))
end Srt
namespace Srt
section
abbrev LH(X:Type):=Option (Array Keyed)×Nat×Nat×Array Keyed×X
structure HiG(st:SortSt)(K:Keyed->Int)(a b:Array Keyed)(m:Nat){X:Type}(c:LH X)(st':SortSt):Prop where
 nn:c.1=none
 kk:KS st st'
 mg:MH K a b c.2.2.2.1 c.2.1 c.2.2.1
 na:1<=c.2.1
 nb:2<=c.2.2.1
 sz:m<=c.2.2.2.1.size
inductive HiS(st:SortSt)(K:Keyed->Int)(a b:Array Keyed)(m:Nat){X:Type}:LH X->SortSt->Prop
 | on {t:Nat×Nat×Array Keyed×X}{st':SortSt}:HiG st K a b m (none,t) st'->HiS st K a b m (none,t) st'
 | fin {r:Array Keyed}{t:Nat×Nat×Array Keyed×X}{st':SortSt}:KS st st'->bK K a.toList b.toList r.toList->HiS st K a b m (some r,t) st'
theorem HiS.go{st:SortSt}{K:Keyed->Int}{a b:Array Keyed}{X:Type}{c:LH X}(h:HiG st K a b m c st'):HiS st K a b m c st':=by
 obtain⟨_,c⟩:=c
 obtain rfl:=h.nn
 exact .on h
inductive HiE(st:SortSt)(K:Keyed->Int)(a b:Array Keyed){X:Type}:LH X->SortSt->Prop
 | fin {r:Array Keyed}{t:Nat×Nat×Array Keyed×X}{st':SortSt}:KS st st'->bK K a.toList b.toList r.toList->HiE st K a b (some r,t) st'
variable {prog:Program}{w:World}{A:Around}{E:Value->Shared->Prop}{s:Shared}{κ:SortKind}{K:Keyed->Int}{OO a b:Array Keyed}
theorem MH.la{out:Array Keyed}{na nb:Nat}(m:MH K a b out na nb):na<=a.size:=Ic▸m.ha
theorem MH.lb{out:Array Keyed}{na nb:Nat}(m:MH K a b out na nb):nb<=b.size:=Ic▸m.hb
theorem aW{z:Nat}(h:1<=n)(h':n<=z):n-1<z:=Fo (JO h Nat.one_pos) h'
theorem MH.atA{out:Array Keyed}{na nb:Nat}(m:MH K a b out na nb)(h:1<=na):∃x,a[na-1]?=some x:=U9 (aW h m.la)
theorem MH.atB{out:Array Keyed}{na nb:Nat}(m:MH K a b out na nb)(h:1<=nb):∃x,b[nb-1]?=some x:=U9 (aW h m.lb)
theorem HiG.not_over{st:SortSt}{X:Type}{c:LH X}(h:HiG st K a b (a.size+b.size+1) c st'):False:=by
 have:=MH.sizes h.mg;have:=h.sz;lia
theorem HiG.re{st:SortSt}{X OL:Type}{c:LH X}{y:OL}(h:HiG st K a b m c st'):HiG st K a b m (none,c.2.1,c.2.2.1,c.2.2.2.1,y) st':=⟨rfl,h.kk,h.mg,h.na,h.nb,h.sz⟩
theorem HiG.mono{st:SortSt}{X:Type}{M:Nat}{c:LH X}(h:HiG st K a b m c st')(hM:M<=m):HiG st K a b M c st':=⟨h.nn,h.kk,h.mg,h.na,h.nb,fp hM h.sz⟩
theorem HiG.fin{st:SortSt}{X:Type}{c:LH X}(h:HiG st K a b (m+(a.size+b.size)) c st'):HiG st K a b (m+1) c st':=
 h.mono (Gf (fp (fp h.na h.mg.la) (Fi ..)) _)
theorem uO{X:Type}{c:Prop}{dc:Decidable c}{x:LH X}{st:SortSt}{m' M:Nat}(g:HiG st K a b m x st')(hM:M<=m)(h':m'<=m):
  wpS (model prog w) A E s (if c then pure (.done x)else pure (.yield x):SM (ForInStep (LH X))) (SQ (HiG st K a b m') (HiS st K a b M)) st':=
 bO (λ Y=>M7 (.go (g.mono hM))) λ Y=>P4 (g.mono h')
noncomputable def hiB:{F:Array Keyed->Array Keyed->Nat->LH Nat->SM (ForInStep (LH Nat)) // ∀{prog:Program}{w:World}{A:Around}{E:Value->Shared->Prop}{s:Shared}{κ:SortKind}{K:Keyed->Int}{OO a b:Array Keyed}{st:SortSt}{Q:Array Keyed->SortSt->Prop},Cx prog w A s κ K OO a b->0<a.size->0<b.size->
  (∀i c st',HiG st K a b (i+1) c st'->wpS (model prog w) A E s (F a b i c) (SQ (HiG st K a b (i+1+1)) (HiE st K a b)) st')->
  (∀r st',KS st st'->bK K a.toList b.toList r.toList->Q r st')->wpS (model prog w) A E s (oO a b) Q st}:=by
 apply Subtype.mk
 intro prog w A E s κ K OO a b st Q C a1 b1 step h
 refine xE (U9 (aW a1 (Fn _))) λ x0 hx0=>?_
 refine xE (U9 (aW b1 (Fn _))) λ y0 hy0=>?_
 have m0:MH K a b (#[x0]:Array Keyed) (a.size-1) b.size:=by
  have:MH K a b (#[]:Array Keyed) a.size b.size:=⟨by rw[Hg (by simp),Hg (by simp)];simp,.nil,λ x Y y hy=>(nomatch hy),λ x Y y hy=>(nomatch hy),by simp,by simp⟩
  exact this.pushA C.sa C.sb a1 b1 hx0 hy0 (FT (C.hl _ hx0 _ (aO hy0)))
 have K0:KS st st:=⟨rfl,rfl,rfl,rfl⟩
 refine sk1 (y:=x0) (λ i=>HiG st K a b (i+1)) (HiE st K a b) (λ Q q=>LJ (IQ ⟨rfl,q⟩)) (λ Q q=>P8 hx0 q) (λ e=>HU (h _ st K0 (MH.resA m0 C.sb e))) (λ e=>HU (h _ st K0 (MH.resB m0 C.sa C.sb e C.h0))) (λ ha1 hb1=>⟨rfl,K0,m0,Hr ha1,Gj b1 (HE hb1),Fn _⟩) step (λ c st' q=>q.not_over) λ c st' q=>?_
 induction q with
 | fin k g=>exact HU (h _ _ k g)
noncomputable def hiC:Two fun(F:Array Keyed->Array Keyed->LH Nat->LH (Nat×Nat)->SM (ForInStep (LH (Nat×Nat)))) (G:Array Keyed->Array Keyed->LH (Nat×Nat×Nat)->SM (ForInStep (LH (Nat×Nat×Nat))))=>∀{prog:Program}{w:World}{A:Around}{E:Value->Shared->Prop}{s:Shared}{K:Keyed->Int}{a b:Array Keyed}{st:SortSt}{m:Nat}{c:LH Nat}{st':SortSt},
  (∀i c' st',HiG st K a b (m+i) c' st'->wpS (model prog w) A E s (F a b c c') (SQ (HiG st K a b (m+(i+1))) (HiS st K a b (m+1))) st')->(∀c st',HiG st K a b (m+1) c st'->wpS (model prog w) A E s (G a b c) (SQ (HiG st K a b (m+1)) (HiS st K a b (m+1))) st')->
  HiG st K a b m c st'->wpS (model prog w) A E s (hiB.1 a b m c) (SQ (HiG st K a b (m+1)) (HiE st K a b)) st':=by
 apply Two.mk
 intro prog w A E s K a b st m c st' h1 h2 h
 refine FJ (d5 (λ i=>HiG st K a b (m+i)) h.re h1 (λ c st' q=>.go q.fin) λ c st' q=>?_)
 induction q with
 | fin k g=>exact M7 (.fin k g)
 | on h=>
  refine sk2 (λ Y=>HiG st K a b (m+1)) (HiS st K a b (m+1)) (λ Q q=>LJ (IQ ⟨rfl,q⟩)) ⟨rfl,h.kk,h.mg,h.na,h.nb,h.sz⟩ (λ Y=>h2) (λ c st' q=>.go q) λ c st' q=>?_
  induction q with
  | fin k g=>exact M7 (.fin k g)
  | on h=>exact FJ (Ji (P4 ⟨rfl,h.kk.go,h.mg,h.na,h.nb,h.sz⟩))
theorem hi1(C:Cx prog w A s κ K OO a b){st:SortSt}(hk:PyProof.Rows.kindOf st=κ){M:Nat}{c0:LH Nat}{c:LH (Nat×Nat)}(hM:M<=m+1)(h:HiG st K a b m c st'):
  wpS (model prog w) A E s (hiC.f a b c0 c) (SQ (HiG st K a b (m+1)) (HiS st K a b M)) st':=by
 refine xE (MH.atA h.mg h.na) λ x' hx'=>?_
 have b1:=GL h.nb
 refine xE (MH.atB h.mg b1) λ y' hy'=>?_
 refine FJ (P8 hy' (FJ (P8 hx' (FJ (uN C.hc (h.kk.kk.trans hk) (C.hb _ (aO hy')) (C.ha _ (aO hx')) (iR (λ hlt=>?_) λ hle=>?_))))))
 ·have m2:=MH.pushA h.mg C.sa C.sb h.na b1 hx' hy' (FT hlt)
  exact FJ (P8 hx' (bP (λ e=>M7 (.fin h.kk (MH.resA m2 C.sb e))) λ e=>uO (m:=m+1) ⟨rfl,h.kk,m2,Hr e,h.nb,Mg.snoc h.sz⟩ hM (Fn _)))
 ·have m2:=MH.pushB h.mg C.sa C.sb h.na b1 hx' hy' hle
  exact FJ (P8 hy' (bP (λ e=>M7 (.fin h.kk (MH.resB m2 C.sa C.sb e C.h0))) λ e=>uO (m:=m+1) ⟨rfl,h.kk,m2,h.na,Gj (Hh h.nb) (HE e),Mg.snoc h.sz⟩ hM (Fn _)))
structure Q2(K:Keyed->Int)(a b:Array Keyed)(m nb:Nat)(y:Keyed)(o:Array Keyed)(i:Nat):Prop where
 mg:MH K a b o i nb
 na:1<=i
 sz:m<=o.size
 le:∀x,a[i-1]?=some x->K x<=K y
noncomputable def hiD:{F:Array Keyed->Array Keyed->LH (Nat×Nat×Nat)->Nat->SM (ForInStep (LH (Nat×Nat×Nat))) // ∀{prog:Program}{w:World}{A:Around}{E:Value->Shared->Prop}{s:Shared}{a b:Array Keyed}{c:LH (Nat×Nat×Nat)}{st:SortSt}{Q:ForInStep (LH (Nat×Nat×Nat))->SortSt->Prop},
  (∀g,wpS (model prog w) A E s (F a b c g) Q st)->wpS (model prog w) A E s (hiC.g a b c) Q st}:=by
 apply Subtype.mk
 intro prog w A E s a b c st Q h
 refine bO (λ Y=>?_) λ Y=>?_
 ·generalize c.2.2.2.2.1-1=g
  exact h g
 ·exact h _
theorem uP{y x:Keyed}(h:bey K false y a i=true)(hx:a[i]?=some x):K x<=K y:=by
 unfold bey at h
 rw[if_neg (by decide),cw hx]at h
 exact of_decide_eq_true h
theorem xN{y x:Keyed}(h:bey K true y a i=true)(hx:a[i]?=some x):K x<=K y:=by
 unfold bey at h
 rw[if_pos rfl,cw hx]at h
 exact FT (of_decide_eq_true h)
noncomputable def hiE:{F:Array Keyed->Array Keyed->LH (Nat×Nat×Nat)->Nat->Nat->Array Keyed->Nat->SM (ForInStep (LH (Nat×Nat×Nat))) // ∀{prog:Program}{w:World}{A:Around}{E:Value->Shared->Prop}{s:Shared}{κ:SortKind}{K:Keyed->Int}{OO a b:Array Keyed}{st:SortSt}{m g:Nat}{c:LH (Nat×Nat×Nat)}{st':SortSt},Cx prog w A s κ K OO a b->PyProof.Rows.kindOf st=κ->
  (∀k o i y st',KS st st'->b[c.2.2.1-1]?=some y->Q2 K a b m c.2.2.1 y o i->wpS (model prog w) A E s (F a b c g k o i) (SQ (HiG st K a b m) (HiS st K a b m)) st')->HiG st K a b m c st'->wpS (model prog w) A E s (hiD.1 a b c g) (SQ (HiG st K a b m) (HiS st K a b m)) st'}:=by
 apply Subtype.mk
 intro prog w A E s κ K OO a b st m g c st' C hk step h
 have b1:=GL h.nb
 obtain⟨y',hy'⟩:=MH.atB h.mg b1
 have la:=MH.la h.mg
 refine sk3 (λ Q q=>Ji q) (λ Q q=>P8 hy' q) (cO C.hc (h.kk.kk.trans hk) (C.hb _ (aO hy')) C.ha ((Gy _).symm▸la) (aW h.na (Fn _)) (C.sa.up ((Gy _).symm▸la)) λ k g1 g2 g3=>?_)
 have le:1<=k->∀x,a[k-1]?=some x->K x<=K y':=λ e x hx=>uP (Gy (k-1)▸g2 (k-1) (aW e (Fn _))) hx
 have mk:=MH.galA h.mg C.sa C.sb b1 hy' g1 g3
 refine sk5 (λ Y e=>M7 (.fin h.kk.go (MH.resA mk C.sb e))) (λ Y e1=>?_) λ e=>?_
 ·have q:Q2 K a b m c.2.2.1 y' (c.2.2.2.1++(a.extract k c.2.1).reverse) k:=⟨mk,Hr e1,gD h.sz,le (Hr e1)⟩
  revert q
  generalize c.2.2.2.1++(a.extract k c.2.1).reverse=o
  generalize c.2.1-k=d
  intro q
  exact step d o k y' _ h.kk.go hy' q
 ·obtain rfl:=Gv g1 (JF (Ju e))
  exact step _ _ _ y' _ h.kk.go hy' ⟨h.mg,h.na,h.sz,le h.na⟩
structure Q3(K:Keyed->Int)(a b:Array Keyed)(m j:Nat)(o:Array Keyed)(i:Nat):Prop where
 mg:MH K a b o j i
 na:1<=j
 nb:2<=i
 sz:m<=o.size
 le:∀x y,a[j-1]?=some x->b[i-1]?=some y->K y<=K x
noncomputable def hiF:{F:Array Keyed->Array Keyed->LH (Nat×Nat×Nat)->Nat->Nat->Nat->Nat->Array Keyed->Nat->SM (ForInStep (LH (Nat×Nat×Nat))) // ∀{prog:Program}{w:World}{A:Around}{E:Value->Shared->Prop}{s:Shared}{κ:SortKind}{K:Keyed->Int}{OO a b:Array Keyed}{st:SortSt}{m g k na:Nat}{o:Array Keyed}{y:Keyed}{c:LH (Nat×Nat×Nat)}{st':SortSt},Cx prog w A s κ K OO a b->PyProof.Rows.kindOf st=κ->
  (∀k2 o i,Q3 K a b m na o i->wpS (model prog w) A E s (F a b c na g k k2 o i) (SQ (HiG st K a b m) (HiS st K a b m)) st')->KS st st'->2<=c.2.2.1->b[c.2.2.1-1]?=some y->Q2 K a b m c.2.2.1 y o na->wpS (model prog w) A E s (hiE.1 a b c g k o na) (SQ (HiG st K a b m) (HiS st K a b m)) st'}:=by
 apply Subtype.mk
 intro prog w A E s κ K OO a b st m g k na o y c st' C hk step k1 hb2 hy h
 refine xE (MH.atA h.mg h.na) λ x hx=>?_
 have b1:=GL hb2
 have m4:=MH.pushB h.mg C.sa C.sb h.na b1 hx hy (h.le x hx)
 refine sk6 (y:=y) (x:=x) (λ Q q=>P8 hy q) (λ e=>M7 (.fin k1 (MH.resB m4 C.sa C.sb e C.h0))) (λ Q q=>P8 hx q) λ e5=>?_
 have hb:=Hh hb2
 have lb:=MH.lb m4
 refine cO C.hc (k1.kk.trans hk) (C.ha _ (aO hx)) C.hb ((Gy _).symm▸lb) (aW hb (Fn _)) (C.sb.up ((Gy _).symm▸lb)) λ k2 g1 g2 g3=>?_
 have sz:=GL (Mg.snoc (y:=y) h.sz)
 have le:1<=k2->∀x' y,a[na-1]?=some x'->b[k2-1]?=some y->K y<=K x':=λ e x' y hx' hy=>by
  rw[hx]at hx'
  cases hx'
  exact xN (Gy (k2-1)▸g2 (k2-1) (aW e (Fn _))) hy
 have mk:=MH.galB m4 C.sa C.sb h.na hx g1 g3
 refine sk4 (λ Y e=>M7 (.fin k1 (MH.resB mk C.sa C.sb e C.h0))) (λ Y Y e=>M7 (.fin k1 (MH.resB0 mk C.sa e))) (λ Y e1 e0=>?_) λ e=>?_
 ·have e0:=Hr e0
  have q:Q3 K a b m na (o.push y++(b.extract k2 (c.2.2.1-1)).reverse) k2:=⟨mk,h.na,Gj e0 (HE e1),gD sz,le e0⟩
  revert q
  generalize o.push y++(b.extract k2 (c.2.2.1-1)).reverse=o
  generalize c.2.2.1-1-k2=d
  intro q
  exact step d o k2 q
 ·obtain rfl:=Gv g1 (JF (Ju e))
  exact step _ _ _ ⟨m4,h.na,Gj hb (HE e5),sz,le hb⟩
theorem hi2(C:Cx prog w A s κ K OO a b){st:SortSt}{g k2 na:Nat}{o:Array Keyed}{c:LH (Nat×Nat×Nat)}(k1:KS st st')(h:Q3 K a b m na o i):wpS (model prog w) A E s (hiF.1 a b c na g k k2 o i) (SQ (HiG st K a b m) (HiS st K a b m)) st':=by
 refine xE (MH.atA h.mg h.na) λ x hx=>?_
 have b1:=GL h.nb
 refine xE (MH.atB h.mg b1) λ y hy=>?_
 have m7:=MH.pushA h.mg C.sa C.sb h.na b1 hx hy (h.le x y hx hy)
 exact FJ (P8 hx (bP (λ e=>M7 (.fin k1 (MH.resA m7 C.sb e))) λ e=>uO (m:=m) ⟨rfl,k1,m7,Hr e,h.nb,GL (Mg.snoc h.sz)⟩ (Fn _) (Fn _)))
theorem EB{st:SortSt}{Q:Array Keyed->SortSt->Prop}(C:Cx prog w A s κ K OO a b)(hk:PyProof.Rows.kindOf st=κ)(a1:0<a.size)(b1:0<b.size)(h:∀r st',KS st st'->bK K a.toList b.toList r.toList->Q r st'):
  wpS (model prog w) A E s (oO a b) Q st:=
 hiB.2 C a1 b1 (λ i c st' g=>hiC.ok (λ i' c' st' g=>hi1 C hk (Fq (Fi ..)) g) (λ c st' g=>hiD.2 λ g'=>hiE.2 C hk (λ k o i y st' k1 hy h=>hiF.2 C hk (λ k2 o i h=>hi2 C k1 h) k1 g.nb hy h) g) g) h
end
end Srt
namespace Srt
theorem j8:∀(l:List Keyed) (i0 o:Nat) (xs:Array Keyed),o+i0+l.length<=xs.size->((l.zipIdx i0).foldl (λ a (p:Keyed×Nat)=>a.setIfInBounds (o+p.2) p.1) xs).toList=xs.toList.take (o+i0)++l++xs.toList.drop (o+i0+l.length)
 | [],i0,o,xs,_=>by simp
 | x::l,i0,o,xs,h=>by
  rw[NF,HO]
  rw[j8 l (i0+1) o (xs.setIfInBounds (o+i0) x) (by simp at h ⊢;exact fp (Fw (GC _ _)) h)]
  have hlt:o+i0<xs.toList.length:=by simp at h ⊢;exact Fo (Hz (Hs _)) h
  rw[Array.toList_setIfInBounds]
  have e1:(xs.toList.set (o+i0) x).take (o+(i0+1))=xs.toList.take (o+i0)++[x]:=by
   rw[show o+(i0+1)=o+i0+1 from rfl,Ko,Fu hlt,List.take_set_of_le (Fn _)]
   rfl
  have e2:(xs.toList.set (o+i0) x).drop (o+(i0+1)+l.length)=xs.toList.drop (o+i0+(x::l).length):=by
   rw[List.drop_set_of_lt (by lia)]
   congr 1
   simp;exact GC _ _
  rw[e1,e2]
  simp
end Srt
namespace Srt
theorem uQ{K:Keyed->Int}{a:Array Keyed}{lo:Nat}(h:Up K a lo (lo+n))(hh:lo+n<=a.size):Sd K ((a.toList.drop lo).take n):=by
 refine He.mpr λ i j hi' hj' hij=>?_
 have at':∀i (h:i<((a.toList.drop lo).take n).length),i<n/\a[lo+i]?=some ((a.toList.drop lo).take n)[i]:=λ i h=>by
  have e:=Ff h
  rw[Lz]at h
  have h:=Fo h (Oc ..)
  rw[Lp h,IP,IS]at e
  exact⟨h,e⟩
 have:=h (lo+i) (lo+j) (Fi ..) (Gf (FE hij) _) (GX (at' j hj').1 _)
 rwa [cw (at' i hi').2,cw (at' j hj').2]at this
theorem zi{K:Keyed->Int}{a:Array Keyed}(h:Sd K a.toList):Up K a 0 a.size:=h.up (Fn _)
set_option tactic.hygienic true in
theorem oP{a:Array Keyed}{z:Keyed}(h:z∈((a.toList.drop i).take n).drop k):∃j,k<=j/\j<n/\a[i+j]?=some z:=by
 obtain⟨j,hj⟩:=JC.mp h
 rw[IP,Nb]at hj
 split at hj
 ·rename_i hlt
  rw[IP,IS]at hj
  exact⟨k+j,Fi ..,hlt,hj⟩
 ·cases hj
structure Cut(K:Keyed->Int)(a:Array Keyed)(na nb k j:Nat)(y x:Keyed):Prop where
 sa:Sd K (a.toList.take na)
 sb:Sd K (a.toList.drop na)
 hy:a[na]?=some y
 hx:a[na-1]?=some x
 nn:na+nb=a.size
 kn:k<na
 j0:0<j
 jn:j<=nb
 g2:∀z∈a.toList.take k,K z<=K y
 g3:∀z∈(a.toList.take na).drop k,K y<K z
 f2:∀z∈(a.toList.drop na).take j,K z<K x
 f3:∀z∈(a.toList.drop na).drop j,K x<=K z
theorem Cut.cx{prog:Program}{w:World}{κ:SortKind}{K:Keyed->Int}{OO a:Array Keyed}{na nb:Nat}{y x:Keyed}(C:Cut K a na nb k j y x)(hc:aI prog w A s κ K OO)(hm:∀x∈a.toList,x∈OO.toList):
  Cx prog w A s κ K OO (a.extract k na) (a.extract na (na+j)) where
 hc:=hc
 ha x hx:=hm x (HR (HQ (di a k na▸hx)))
 hb x hx:=hm x (HQ (HR (cP a na j▸hx)))
 sa:=by rw[di];exact C.sa.drop k
 sb:=by rw[cP];exact C.sb.take j
 h0 u v hu hv:=by
  have hv:=aO hv
  rw[di]at hv
  rw[LK]at hu
  split at hu
  ·rw[JR,C.hy]at hu
   cases hu
   exact FT (C.g3 v hv)
  ·cases hu
 hl u hu v hv:=by
  rw[cP]at hv
  rw[KV,Hm (C.nn▸Fi ..),LK]at hu
  split at hu
  ·have e:k+(na-k-1)=na-1:=by rw[<- Nat.add_sub_assoc (IB C.kn),Hd (FE C.kn)]
   rw[e,C.hx]at hu
   cases hu
   exact C.f2 v hv
  ·cases hu
theorem Cut.fin{K:Keyed->Int}{OO a r:Array Keyed}{na nb:Nat}{y x:Keyed}(C:Cut K a na nb k j y x)(hp:a.Perm OO)(g:bK K (a.extract k na).toList (a.extract na (na+j)).toList r.toList):
  (r.toList.zipIdx.foldl (λ a (p:Keyed×Nat)=>a.setIfInBounds (k+p.2) p.1) a).Perm OO/\Up K (r.toList.zipIdx.foldl (λ a (p:Keyed×Nat)=>a.setIfInBounds (k+p.2) p.1) a) 0 OO.size:=by
 obtain⟨gp,gs⟩:=g
 rw[di,cP]at gp
 have hna:(a.toList.take na).length=na:=LM (by rw[Ic,<- C.nn];exact Fi ..)
 have hnb:(a.toList.drop na).length=nb:=by rw[Ho,Ic,<- C.nn,Hc]
 have hlen:=gp.length_eq
 rw[Fc,Ho,hna,LM (hnb.symm▸C.jn)]at hlen
 have hkr:k+r.toList.length=na+j:=by rw[hlen,<- JA,Hd (FE C.kn)]
 have hw:=j8 r.toList 0 k a (by rw[JR,hkr,<- C.nn];exact Gf C.jn _)
 generalize r.toList.zipIdx.foldl (λ a (p:Keyed×Nat)=>a.setIfInBounds (k+p.2) p.1) a=res at hw ⊢
 rw[JR,hkr,<- Jl]at hw
 have ek:a.toList.take k=(a.toList.take na).take k:=by rw[Kp,Hm (FE C.kn)]
 have pk:=C.sa.split k
 rw[<- ek]at pk
 have sj:=C.sb.split j
 have lx:∀z∈a.toList.take na,K z<=K x:=by
  have h1:=Fe (Gb k) C.kn
  have:=(C.sa.split (na-1))
  intro z hz
  rw[<- GJ (na-1) (a.toList.take na),Y0 h1 C.hx]at hz
  rcases FR.mp hz with q|q
  ·exact this z q x (by rw[Y0 h1 C.hx];exact .head _)
  ·rw[Fh.mp q];exact FV _
 have ly:Le K [y] (a.toList.drop na):=by
  have:=C.sb
  rw[dh C.hy]at this ⊢
  exact Sd.head this
 have perm:res.Perm OO:=by
  refine Array.Perm.trans ?_ hp
  rw[HW,hw]
  refine(IG _ (JB _ gp)).trans (List.Perm.of_eq ?_)
  rw[ek,<- Fz,GJ,Fz,GJ,GJ]
 refine⟨perm,?_⟩
 have rl:∀{L:List Keyed},Le K L ((a.toList.take na).drop k)->Le K L ((a.toList.drop na).take j)->Le K L r.toList:=λ h1 h2=>(Le.appR h1 h2).sub (λ Y h=>h) λ z hz=>gp.mem_iff.mp hz
 have rr:Le K r.toList ((a.toList.drop na).drop j):=(Le.app (Le.through (x:=x) (λ z hz=>lx z (HQ hz)) λ u hu z hz=>by rw[Fh.mp hu];exact C.f3 z hz) sj).sub (λ z hz=>gp.mem_iff.mp hz) λ Y h=>h
 have s1:Sd K (a.toList.take k):=ek▸C.sa.take k
 have le:Le K (a.toList.take k) (a.toList.drop na):=Le.through C.g2 ly
 have sres:Sd K res.toList:=by
  rw[hw]
  exact(s1.app gs (rl pk (le.sub (λ Y h=>h) λ z hz=>HR hz))).app (C.sb.drop j) (Le.app (le.sub (λ Y h=>h) λ z hz=>HQ hz) rr)
 have:=zi sres
 rwa [perm.size_eq]at this
section
variable {prog:Program}{w:World}{A:Around}{E:Value->Shared->Prop}{s:Shared}{κ:SortKind}{K:Keyed->Int}{OO:Array Keyed}
theorem xO{a:Array Keyed}{y x:Keyed}(h:bey K true y a i=true)(hx:a[i]?=some x):K x<K y:=by
 unfold bey at h
 rw[if_pos rfl,cw hx]at h
 exact of_decide_eq_true h
theorem Cb{st:SortSt}{Q:PUnit->SortSt->Prop}{M:Model}(h:Q ⟨⟩ st'):wpS M A E s (set st':StateT SortSt Sem PUnit) Q st:=by
 unfold wpS;rw[StateT.run_set];exact Fp ⟨rfl,h⟩
theorem lS{a:Array Keyed}{na nb:Nat}(h:na+nb=a.size):(a.toList.drop na).take nb=a.toList.drop na:=Hg (by rw[Ho,Ic,<- h,Hc];exact Fn _)
theorem EC(hc:aI prog w A s κ K OO){st:SortSt}{na nb p q:Nat}{Q:Bool->SortSt->Prop}(hB:SB κ OO st)(hp:pendingOf st=#[(0,na,p),(na,nb,q)])(hn:na+nb=OO.size)(h1:1<=na)(h2:1<=nb)
  (ua:Up K (arrOf st) 0 na)(ub:Up K (arrOf st) na (na+nb))
  (h:∀st',SB κ OO st'->pendingOf st'=#[(0,na+nb,p)]->Up K (arrOf st') 0 OO.size->Q true st'):wpS (model prog w) A E s (mergeAt' 0) Q st:=by
 have hz:na+nb=(arrOf st).size:=hn.trans hB.size.symm
 have la:na<=(arrOf st).size:=hz▸Fi ..
 refine xE (U9 (a:=arrOf st) (i:=na) (hz▸Hz h2)) λ y0 hy0=>?_
 refine xE (U9 (a:=arrOf st) (i:=na-1) (aW h1 la)) λ xl hxl=>?_
 have e0:(pendingOf st)[0]?=some (0,na,p):=by rw[hp];rfl
 have e1:(pendingOf st)[0+1]?=some (na,nb,q):=by rw[hp];rfl
 have hm:∀x∈(arrOf st).toList,x∈OO.toList:=λ x hx=>(HW.mp hB.perm).mem_iff.mp hx
 have hpe:(((pendingOf st).setIfInBounds 0 (0,na+nb,p)).eraseIdxIfInBounds (0+1))=#[(0,na+nb,p)]:=by rw[hp];simp[Array.eraseIdxIfInBounds]
 refine FJ (KU ?_)
 dsimp only
 rw[e0,e1]
 refine FJ (Cb (FJ (P8 hy0 (FJ (cO hc hB.kind (hm _ (aO hy0)) hm ((Gy na).symm▸la) h1 ((Gy na).symm▸ua) λ k g1 g2 g3=>?_)))))
 have sa:=uQ (K:=K) (lo:=0) (n:=na) ((Gy na).symm▸ua) ((Gy na).symm▸la)
 have sb:=uQ ub (Fw hz)
 rw[lS hz]at sb
 have g2:∀z∈(arrOf st).toList.take k,K z<=K y0:=λ z hz=>by
  refine xE (V7 (i:=0) hz) λ j Z=>(λ h1 h2=>?_) Z.1 Z.2;clear Z
  exact uP (g2 j h1) h2
 refine bP (λ hk=>?_) λ hk=>?_
 ·have e:k=na:=Gv g1 (JF hk)
  subst e
  refine HU (h _ ⟨hB.perm,hB.kind,hB.failed⟩ hpe ?_)
  have ly:Le K [y0] ((arrOf st).toList.drop k):=by
   rw[dh hy0]at sb ⊢
   exact Sd.head sb
  have:=Sd.app sa sb (Le.through g2 ly)
  rw[My,GJ]at this
  exact hB.size▸zi this
 have hk':k<na:=Nat.lt_of_sub_ne_zero hk
 refine FJ (P8 (x:=xl) (by rw[Gy,Hd g1];exact hxl) (FJ (cO hc hB.kind (hm _ (aO hxl)) hm (Fw hz) (aW h2 (Fn _)) ub λ j f1 f2 f3=>?_)))
 have g3:∀z∈((arrOf st).toList.take na).drop k,K y0<K z:=λ z hz=>by
  refine xE (oP (i:=0) hz) λ j Z=>(λ h1 h2 h3=>?_) Z.1 Z.2.1 Z.2.2;clear Z
  exact qV (g3 j h1 h2) h3
 have lt:K y0<K xl:=g3 xl (by
  refine FD (i:=na-1-k) ?_
  rw[IP,Hd (Hh hk'),Lp (JO h1 Nat.one_pos),IS]
  exact hxl)
 refine bP (λ e=>?_) λ hj0=>?_
 ·subst e
  exact absurd lt (Ha.mpr (j7 (f3 0 (Fn _) h2) hy0))
 have C:Cut K (arrOf st) na nb k j y0 xl:=⟨sa,sb,hy0,hxl,hz,hk',Hr hj0,f1,g2,g3,λ z hz=>by
  refine xE (V7 hz) λ i Z=>(λ h1 h2=>?_) Z.1 Z.2;clear Z
  exact xO (f2 i h1) h2,λ z hz'=>by
  rw[<- lS hz]at hz'
  refine xE (oP hz') λ i Z=>(λ h1 h2 h3=>?_) Z.1 Z.2.1 Z.2.2;clear Z
  exact j7 (f3 i h1 h2) h3⟩
 have zx:0<((arrOf st).extract k na).size:=by rw[KV,Hm la];exact IB hk'
 have zy:0<((arrOf st).extract na (na+j)).size:=by rw[KV,Hm (hz▸Gf f1 _),Hc];exact C.j0
 have last:∀(r:Array Keyed) (st':SortSt),KS (SortSt.mk' (PyProof.Rows.kindOf st) (arrOf st) (((pendingOf st).setIfInBounds 0 (0,na+nb,p)).eraseIdxIfInBounds (0+1)) (gallopOf st) (failedOf st)) st'->bK K ((arrOf st).extract k na).toList ((arrOf st).extract na (na+j)).toList r.toList->
   Q ((failedOf st').isNone) (setArr st' (r.toList.zipIdx.foldl (λ a (p:Keyed×Nat)=>a.setIfInBounds (k+p.2) p.1) (arrOf st'))):=λ r st' ks g=>by
  obtain⟨q1,q2⟩:=C.fin hB.perm g
  rw[<- show arrOf st'=arrOf st from ks.a]at q1 q2
  rw[show failedOf st'=none from ks.f.trans hB.failed]
  exact h _ ⟨q1,ks.kk.trans hB.kind,ks.f.trans hB.failed⟩ (ks.p.trans hpe) q2
 rw[Gy k]
 exact bO (λ Y=>FJ (EA (C.cx hc hm) hB.kind zx zy λ r st' ks g=>FJ (Ji (FJ (KU (HU (last r st' ks g)))))))
  λ Y=>FJ (EB (C.cx hc hm) hB.kind zx zy λ r st' ks g=>FJ (Ji (FJ (KU (HU (last r st' ks g))))))
end
end Srt
namespace Srt
section
variable {prog:Program}{w:World}{A:Around}{E:Value->Shared->Prop}{s:Shared}{κ:SortKind}{K:Keyed->Int}{OO:Array Keyed}
inductive Rn(κ:SortKind)(K:Keyed->Int)(OO:Array Keyed)(m:Nat)(x k:Nat)(st:SortSt):Prop
 | a:x=0->k=0->SB κ OO st->pendingOf st=#[]->Rn κ K OO m x k st
 | b:SB κ OO st->pendingOf st=#[(0,k,0)]->m<=k->k<=OO.size->Up K (arrOf st) 0 k->1<=x->(x=1\/k=OO.size)->Rn κ K OO m x k st
 | c {na nb p q:Nat}:k=OO.size->SB κ OO st->pendingOf st=#[(0,na,p),(na,nb,q)]->na+nb=OO.size->1<=na->1<=nb->Up K (arrOf st) 0 na->Up K (arrOf st) na (na+nb)->1<=x->Rn κ K OO m x k st
inductive Re(κ:SortKind)(K:Keyed->Int)(OO:Array Keyed)(st:SortSt):Prop
 | b {k:Nat}:SB κ OO st->pendingOf st=#[(0,k,0)]->Up K (arrOf st) 0 OO.size->Re κ K OO st
 | c {na nb p q:Nat}:SB κ OO st->pendingOf st=#[(0,na,p),(na,nb,q)]->na+nb=OO.size->1<=na->1<=nb->Up K (arrOf st) 0 na->Up K (arrOf st) na (na+nb)->Re κ K OO st
theorem Rn.fin{x:Nat}{st:SortSt}(h:Rn κ K OO m x k st)(h2:2<=OO.size)(hx:OO.size<=x\/OO.size<=k):Re κ K OO st:=by
 induction h with
 | a b0 b1=>exfalso;lia
 | b b1 b2 b3 b4 b5 b6 b7=>
  have:k=OO.size:=by lia
  exact .b b1 b2 (this▸b5)
 | c b0 b1 b2 b3 b4 b5 b6 b7 b8=>exact .c b1 b2 b3 b4 b5 b6 b7
theorem Rn.sb{x:Nat}{st:SortSt}(h:Rn κ K OO m x k st):SB κ OO st:=by cases h <;> assumption
theorem Up.low{st:SortSt}{lo:Nat}(h:Up K (arrOf st) 0 k)(f:Fx κ OO lo st st')(hk:k<=lo):Up K (arrOf st') 0 k:=λ i j i1 ij j1=>by
 rw[jZ (f.low i (Fe ij (Fo j1 hk))),jZ (f.low j (fp j1 hk))];exact h i j i1 ij j1
theorem Rn.le{x:Nat}{st:SortSt}(h:Rn κ K OO m x k st):k<=OO.size:=by
 induction h with
 | a _ h=>exact h▸Gb _
 | b _ _ _ h=>exact h
 | c h=>exact Fw h
inductive R2(κ:SortKind)(K:Keyed->Int)(OO:Array Keyed)(x:Nat)(c:Option Unit×Unit)(st:SortSt):Prop
 | a:c.1=none->x=0->Re κ K OO st->R2 κ K OO x c st
 | b:c.1=none->SB κ OO st->(pendingOf st).size=1->Up K (arrOf st) 0 OO.size->R2 κ K OO x c st
structure R3(κ:SortKind)(K:Keyed->Int)(OO:Array Keyed)(c:Option Unit×Unit)(st:SortSt):Prop where
 nn:c.1=none
 b:SB κ OO st
 u:Up K (arrOf st) 0 OO.size
structure R1(κ:SortKind)(K:Keyed->Int)(OO:Array Keyed)(m x:Nat)(c:Option Unit×Nat)(st:SortSt):Prop where
 nn:c.1=none
 r:Rn κ K OO m x c.2 st
structure RE(κ:SortKind)(K:Keyed->Int)(OO:Array Keyed)(c:Option Unit×Nat)(st:SortSt):Prop where
 nn:c.1=none
 r:Re κ K OO st
end
noncomputable def rnB:Two fun(F:Nat->Option Unit×Nat->SM (ForInStep (Option Unit×Nat))) (G:Option Unit×Unit->SM (ForInStep (Option Unit×Unit)))=>∀{prog:Program}{w:World}{A:Around}{E:Value->Shared->Prop}{s:Shared}{κ:SortKind}{K:Keyed->Int}{OO:Array Keyed}{st:SortSt}{Q:Unit->SortSt->Prop},SB κ OO st->pendingOf st=#[]->2<=OO.size->
  (∀x c st',R1 κ K OO (minRun' OO.size OO.size 0) x c st'->wpS (model prog w) A E s (F OO.size c) (SQ (R1 κ K OO (minRun' OO.size OO.size 0) (x+1)) (RE κ K OO)) st')->
  (∀x c st',R2 κ K OO x c st'->wpS (model prog w) A E s (G c) (SQ (R2 κ K OO (x+1)) (R3 κ K OO)) st')->(∀st',SB κ OO st'->Up K (arrOf st') 0 OO.size->Q () st')->wpS (model prog w) A E s sortRuns' Q st:=by
 apply Two.mk
 intro prog w A E s κ K OO st Q hB hp h2 step1 step2 h
 rw[sortRuns'_eq]
 refine FJ (KU ?_)
 have hz:=hB.size
 revert step1
 rw[<- hz]
 revert hz
 generalize (arrOf st).size=n
 intro hz step1
 refine FJ (d5 (R1 κ K OO (minRun' n n 0)) (Q:=RE κ K OO) ⟨rfl,.a rfl rfl hB hp⟩ step1 (λ c st' i=>⟨i.nn,i.r.fin h2 (.inl (Fw hz.symm))⟩) λ c st' i=>?_)
 obtain⟨_,c⟩:=c
 obtain rfl:=i.nn
 refine FJ (d5 (R2 κ K OO) (Q:=R3 κ K OO) (.a rfl rfl i.r) step2 (λ c st' i=>?_) λ c st' i=>?_)
 ·induction i with
  | a h0 h1=>rw[<- hz,h1]at h2;exact absurd h2 (by decide)
  | b h0 h1 _ h3=>exact⟨h0,h1,h3⟩
 ·obtain⟨_,c⟩:=c
  obtain rfl:=i.nn
  exact HU (h _ i.b i.u)
noncomputable def rnC:{T:Nat->Option Unit×Nat->Nat->SM (ForInStep (Option Unit×Nat)) // ∀{prog:Program}{w:World}{A:Around}{E:Value->Shared->Prop}{s:Shared}{κ:SortKind}{K:Keyed->Int}{OO:Array Keyed}{st:SortSt}{n:Nat}{c:Option Unit×Nat}{Q:ForInStep (Option Unit×Nat)->SortSt->Prop},aI prog w A s κ K OO->SB κ OO st->n=OO.size->
  (n<=c.2->Q (.done (none,c.2)) st)->(∀f st',c.2<n->Fx κ OO c.2 st st'->Up K (arrOf st') c.2 (c.2+f)->(minRun' n n 0<=f\/f=min (n-c.2) (minRun' n n 0))->1<=f->c.2+f<=n->wpS (model prog w) A E s (T n c f) Q st')->wpS (model prog w) A E s (rnB.f n c) Q st}:=by
 apply Subtype.mk
 intro prog w A E s κ K OO st n c Q hc hB hz h0 step
 refine bO (λ h=>HU (h0 h)) λ hlo=>?_
 have hlo:=Iq.mp hlo
 have e:=Hd (FE hlo)
 refine FJ (xM hc (hz▸Fw e) (IB hlo) hB λ f st2 F f1 f2 U=>?_)
 have le:c.2+f<=n:=fp (Gf f2 _) (Fw e)
 refine bO (λ hf=>?_) λ hf=>?_
 ·have fl:f<=min (n-c.2) (minRun' n n 0):=Nat.le_min.mpr ⟨f2,FE hf⟩
  have Fl:c.2+min (n-c.2) (minRun' n n 0)<=n:=fp (Gf (Oc ..) _) (Fw e)
  refine FJ (LJ (IQ ⟨rfl,FJ (BZ hc (hz▸Fl) fl f1 F.b U λ st3 F3 U3=>Ad (λ h=>nomatch h) λ Y=>?_)⟩))
  have F4:Fx κ OO c.2 st st3:=⟨F3.b,F3.p.trans F.p,F3.g.trans F.g,λ k hk=>(F3.low k hk).trans (F.low k hk)⟩
  have f1:=fp f1 fl
  have step:=step (min (n-c.2) (minRun' n n 0)) st3 hlo F4 U3 (.inr rfl) f1 Fl
  clear Fl fl f1 U3
  revert step
  generalize min (n-c.2) (minRun' n n 0)=f
  exact λ h=>h
 ·exact step f st2 hlo F U (.inl (Ir.mp hf)) f1 le
section
variable {prog:Program}{w:World}{A:Around}{E:Value->Shared->Prop}{s:Shared}{κ:SortKind}{K:Keyed->Int}{OO:Array Keyed}
theorem Cc{st:SortSt}{a:Nat×Nat×Nat}(h:pendingOf st=#[a]):(pendingOf st).back?=some a:=by rw[h];rfl
theorem rn1{st:SortSt}{f x:Nat}{c:Option Unit×Nat}(hlo:c.2<OO.size)(h2:OO.size<=2*m)(hm:m<=OO.size)(i:R1 κ K OO m x c st)(F:Fx κ OO c.2 st st')(U:Up K (arrOf st') c.2 (c.2+f))(f1:m<=f\/f=min (OO.size-c.2) m)(f2:1<=f)(f3:c.2+f<=OO.size):
  wpS (model prog w) A E s (rnC.1 OO.size c f) (SQ (R1 κ K OO m (x+1)) (RE κ K OO)) st':=by
 rcases c with⟨_,lo⟩
 rcases i with⟨rfl,i⟩
 dsimp only at hlo i F U f1 f3
 refine FJ (KU ?_)
 induction i with
 | a b0 b1 b2 b3=>
  subst b1
  have e:pendingOf st'=#[]:=F.p.trans b3
  rw[Gy]at U f3
  rw[show(pendingOf st').back?=none by rw[e];rfl]
  refine FJ (Ji (P4 ⟨rfl,?_⟩))
  dsimp only
  rw[Gy]
  refine .b ⟨F.b.perm,F.b.kind,F.b.failed⟩ ?_ ?_ f3 U (GO ..) (.inl (by rw[b0]))
  ·show(pendingOf st').push _=_
   rw[e];rfl
  ·rcases f1 with h|h
   ·exact h
   ·rw[h,Nat.sub_zero,Kz hm];exact Fn _
 | c b0=>exact absurd (b0▸hlo) (Iy _)
 | b b1 b2 b3 b4 b5 b6 b7=>
  have e:pendingOf st'=#[(0,lo,0)]:=F.p.trans b2
  have hn:lo+f=OO.size:=by
   rcases f1 with h|h
   ·exact Gv f3 (fp h2 (fp (Fw (NR _)) (Ib b3 h)))
   ·rw[h,Hm (ME (fp h2 (fp (Fw (NR _)) (Gf b3 _)))),Hd (FE hlo)]
  rw[Cc e]
  refine FJ (d5 (λ Y c st=>c.1=none/\st=st') (Q:=λ c st=>c.1=none/\st=st') ⟨rfl,rfl⟩ (λ x c st i=>?_) (λ c st i=>i) λ c st i=>?_)
  ·rcases i with⟨_,rfl⟩
   refine FJ (KU ?_)
   dsimp only
   rw[if_neg (by rw[e];exact(by decide:¬1 > 1))]
   exact M7 ⟨rfl,rfl⟩
  ·rcases i with⟨i,rfl⟩
   rcases c with⟨_,c⟩
   obtain rfl:=i
   refine FJ (Ji (FJ (Ji (P4 ⟨rfl,?_⟩))))
   exact .c (na:=lo) (nb:=f) (p:=power' OO.size (2*0+lo) (2*0+lo+lo+f) OO.size) (q:=0) hn ⟨F.b.perm,F.b.kind,F.b.failed⟩ (by show Array.push (Array.modify (pendingOf st) _ _) _=_;rw[e];rfl) hn
    (by lia) f2 (Up.low (st':=st) b5 F (Fn _)) U (GO ..)
theorem rn2(hc:aI prog w A s κ K OO){st:SortSt}{x:Nat}{c:Option Unit×Unit}(i:R2 κ K OO x c st):wpS (model prog w) A E s (rnB.g c) (SQ (R2 κ K OO (x+1)) (R3 κ K OO)) st:=by
 refine FJ (KU ?_)
 induction i with
 | a h0 h1 h2=>
  induction h2 with
  | b b1 b2 b3=>exact bO (λ Y=>M7 ⟨rfl,b1,b3⟩) λ h=>absurd (by rw[b2];exact Fn 1) h
  | c b1 b2 b3 b4 b5 b6 b7=>
   refine bO (λ h=>absurd h (by rw[b2];exact(by decide:¬2<=1))) λ Y=>?_
   rw[show(pendingOf st).size-2=0 by rw[b2];rfl]
   exact FJ (EC hc b1 b2 b3 b4 b5 b6 b7 λ st4 c1 c2 c3=>Ad (λ h=>nomatch h) λ Y=>P4 (.b rfl c1 (by rw[c2];rfl) c3))
 | b h0 b1 b2 b3=>exact bO (λ Y=>M7 ⟨rfl,b1,b3⟩) λ h=>absurd (by rw[b2];exact Fn 1) h
theorem sX(h2:2<=n)(h64:n<=64):minRun' n n 0<=n/\n<=2*minRun' n n 0:=by
 obtain⟨f,rfl⟩:=Jp (FU (Fo Od h2))
 rcases Ip h64 with h|h
 ·rw[minRun'_succ,if_pos h]
  exact⟨Fn _,Kr _ Od⟩
 ·cases h
  exact⟨by decide +kernel,by decide +kernel⟩
theorem Ai(hc:aI prog w A s κ K OO){st:SortSt}{Q:Unit->SortSt->Prop}(hB:SB κ OO st)(hp:pendingOf st=#[])(h2:2<=OO.size)(h64:OO.size<=64)(h:∀st',SB κ OO st'->Up K (arrOf st') 0 OO.size->Q () st'):wpS (model prog w) A E s sortRuns' Q st:=by
 obtain⟨m1,m2⟩:=sX h2 h64
 exact rnB.ok hB hp h2 (λ x c st' i=>rnC.2 hc i.r.sb rfl (λ hn=>⟨rfl,i.r.fin h2 (.inr hn)⟩) λ f st2 hlo F U f1 f2 f3=>rn1 hlo m2 m1 i F U f1 f2 f3) (λ x c st' i=>rn2 hc i) h
end
end Srt
noncomputable abbrev prA(x:Int×Int):AV:=.tup [.int x.1,.int x.2]
namespace Srt
section
variable {prog:Program}{w:World}{A:Around}{E:Value->Shared->Prop}{s:Shared}
theorem Cd(b:Bool)(x y:Value):keyLt' (tuples' b) x y=(do
  let xs <- Builtin.List.listItems x;let ys <- Builtin.List.listItems y
  for ((p,q),i) in (xs.toList.zip ys.toList).zipIdx do
   if !(<- eqBool p q)then return <- oneLt' (b&&i==0) p q
  return xs.size<ys.size):=rfl
def TI(h:Heap)(v:Value)(p:Int×Int):Prop:=∃a n t u,v=.ref a/\IsT h a #[.int p.1 t,.int p.2 u] n
theorem TI.of{h0:Heap}{p:Int×Int}(r:VR h0 h O v (prA p)):TI h v p:=by
 obtain⟨a,n,vs,rfl,ht,hv⟩:=r.tup_inv
 obtain⟨v1,r1,rfl,h1,hw⟩:=hv.cons_inv
 obtain⟨v2,r2,rfl,h2,hu⟩:=hw.cons_inv
 obtain rfl:=hu.nil_inv
 obtain⟨t,rfl⟩:=h1.int_inv
 obtain⟨u,rfl⟩:=h2.int_inv
 exact⟨a,n,t,u,rfl,ht⟩
theorem xP{a b:Int}{t u:Tok}{Q:Bool->Shared->Prop}(h:Q (decide (a<b)) s):wpAny (model prog w) A (oneLt' false (.int a t) (.int b u)) Q E s:=by
 rw[oneLt'_eq]
 simp only[Im,if_false]
 exact nt (lt_int (Je h))
theorem Ce{x y:Value}{p q:Int×Int}{Q:Bool->Shared->Prop}(hx:TI s.heap x p)(hy:TI s.heap y q)(h:Q (decide (p.1<q.1\/p.1=q.1/\p.2<q.2)) s):wpAny (model prog w) A (keyLt' (tuples' true) x y) Q E s:=by
 refine xE hx λ a Z=>xE Z λ n J=>xE J λ t θ=>xE θ λ u ξ=>(λ ϑ ex=>?_) ξ.1 ξ.2;rcases ϑ with rfl;clear hx Z J θ ξ
 refine xE hy λ b Z=>xE Z λ m J=>xE J λ t' θ=>xE θ λ u' ξ=>(λ ϑ ey=>?_) ξ.1 ξ.2;rcases ϑ with rfl;clear hy Z J θ ξ
 rw[Cd]
 refine nt (Ma ex rfl (nt (Ma ey rfl ?_)))
 dsimp only[Kd,List.zip_nil_left,NF,List.zipIdx_nil,List.zip,List.zipWith]
 rw[JY]
 refine nt (nt (nt (NM ?_)))
 by_cases h1:p.1=q.1
 ·rw[h1,beq_self_eq_true]
  refine Fp ?_
  dsimp only
  rw[JY]
  refine nt (nt (NM ?_))
  by_cases h2:p.2=q.2
  ·rw[h2,beq_self_eq_true]
   refine Fp ?_
   dsimp only
   rw[Om]
   refine Fp (Fp ?_)
   have:decide (p.1<q.1\/p.1=q.1/\p.2<q.2)=false:=by simp[h1,h2]
   rw[this]at h;exact h
  ·rw[beq_eq_false_iff_ne.mpr h2]
   refine nt (xP (Fp (Fp (Fp ?_))))
   have:decide (p.1<q.1\/p.1=q.1/\p.2<q.2)=decide (p.2<q.2):=by simp[h1]
   rw[this]at h;exact h
 ·rw[beq_eq_false_iff_ne.mpr h1]
  refine nt (oneLt_int (Fp (Fp (Fp ?_))))
  have:decide (p.1<q.1\/p.1=q.1/\p.2<q.2)=decide (p.1<q.1):=by simp[h1]
  rw[this]at h;exact h
end
section
variable {M:Model}{A:Around}{E:Value->Shared->Prop}{s:Shared}
theorem uR(v:Value):firstOfTuple' v=(do
  if (<- typeOf v) != .type "tuple" then return none
  return (<- Builtin.List.listItems v)[0]?):=rfl
theorem qX:∀(vs:List Value) {Q:List (Option Value)->Shared->Prop},(∀v∈vs,∃p,TI s.heap v p)->(∀gs ns,IntsAre gs ns->gs.length=vs.length->Q (gs.map some) s)->wpAny M A (vs.mapM firstOfTuple') Q E s
 | [],Q,_,h=>by rw[List.mapM_nil];exact Fp (h [] [] .nil rfl)
 | v::vs,Q,t,h=>by
  refine xE (t v (.head _)) λ p Z=>xE Z λ a J=>xE J λ n θ=>xE θ λ tk ξ=>xE ξ λ u ϑ=>(λ ϖ ex=>?_) ϑ.1 ϑ.2;rcases ϖ with rfl;clear Z J θ ξ ϑ
  rw[List.mapM_cons,uR]
  refine nt (nt (wpAny_typeOf_ref ex ?_))
  rw[if_neg (by simp)]
  refine nt (Ma ex rfl (Fp ?_))
  exact nt (qX vs (λ v hv=>t v (.tail _ hv)) λ gs ns hg hl=>Fp (h (_::gs) (p.1::ns) (.cons _ tk hg) (by simp[hl])))
theorem xQ{Q:SortKind->Shared->Prop}(h1:1<=vs.length)(t:∀v∈vs,∃p,TI s.heap v p)(h:Q (tuples' true) s):wpAny M A (keyKind' vs.toArray) Q E s:=by
 rw[keyKind'_eq,Np,map_eq_pure_bind]
 refine nt (nt (qX vs t λ gs ns hg hl=>Fp ?_))
 rw[if_pos (by simp)]
 refine nt (IQ ?_)
 rw[show((gs.map some).toArray.filterMap id)=gs.toArray by simp,oneTypeOnly'_eq,Np,mapM_typeOf_ints hg]
 obtain⟨g,gr,rfl⟩:∃g gr,gs=g::gr:=by
  cases gs with
  | nil=>simp at hl;exact absurd hl (FP h1)
  | cons g gr=>exact⟨g,gr,rfl⟩
 simp only[map_pure,pure_bind]
 rw[show(List.map (λ Y=>Value.type "int") (g::gr)).toArray[0]?=some (Value.type "int") by simp]
 have hall:((List.map (λ Y=>Value.type "int") (g::gr)).toArray.all λ x=>x==Value.type "int")=true:=by
  simp only[List.all_toArray,List.all_map,Jk]
  intro _ _
  rfl
 simp only[hall,if_true,pure_bind]
 exact Fp h
end
end Srt
namespace Srt
noncomputable def kN(h:Heap)(v:Value):Int:=open Classical in if e:∃p,TI h v p then 1000*e.choose.1+e.choose.2 else 0
theorem TI.uniq{p q:Int×Int}(a:TI h v p)(b:TI h v q):p=q:=by
 refine xE a λ x Z=>xE Z λ n J=>xE J λ t θ=>xE θ λ u ξ=>(λ ϑ e=>?_) ξ.1 ξ.2;rcases ϑ with rfl;clear a Z J θ ξ
 refine xE b λ y Z=>xE Z λ m J=>xE J λ t' θ=>xE θ λ u' ξ=>(λ e1 e'=>?_) ξ.1 ξ.2;clear b Z J θ ξ
 cases e1
 have:=e.symm.trans e'
 injection this with this
 have:=congrArg Obj.data this
 injection this with this _
 injection this with this
 injection this with i1 i2
 injection i1 with i1
 injection i2 with i2
 injection i2 with i2
 exact Oq i1 i2
theorem lT{p:Int×Int}(a:TI h v p):kN h v=1000*p.1+p.2:=by
 unfold kN
 rw[dif_pos ⟨p,a⟩]
 have e:∃p,TI h v p:=⟨p,a⟩
 show 1000*e.choose.1+e.choose.2=_
 rw[e.choose_spec.uniq a]
theorem TI.mono{p:Int×Int}(hk:∀b o,o.cls=.type "tuple"->h.get? b=some o->h'.get? b=some o)(a:TI h v p):TI h' v p:=by
 obtain⟨x,n,t,u,rfl,e⟩:=a
 exact⟨x,n,t,u,rfl,hk _ _ rfl e⟩
theorem j9:∀l:List α,l.zip l=l.map λ v=>(v,v)
 | []=>rfl
 | x::l=>by rw[Kd,j9 l];rfl
def TS(h:Heap)(vs:List Value):Prop:=∀v∈vs,∃p,TI h v p/\-400<=p.2/\p.2<=400
section
variable {prog:Program}{w:World}{A:Around}{E:Value->Shared->Prop}{s:Shared}
theorem iz{x:Keyed}(h:x∈(pairsOf vs).toList):x.1∈vs/\x.2=x.1:=by
 unfold pairsOf at h
 rw[Ny,j9]at h
 obtain⟨v,hv,rfl⟩:=FN.mp h
 exact⟨hv,rfl⟩
theorem xR{a b c d:Int}(b1:-400<=b)(b2:b<=400)(d1:-400<=d)(d2:d<=400):(a<c\/a=c/\b<d)↔1000*a+b<1000*c+d:=by
 rcases Nh a c with h|rfl|h
 ·exact⟨λ Y=>by lia,λ Y=>.inl h⟩
 ·exact⟨λ k=>k.elim (λ k=>absurd k (MU _)) λ k=>Int.add_lt_add_left k.2 _,λ k=>.inr ⟨rfl,Int.lt_of_add_lt_add_left k⟩⟩
 ·exact⟨λ k=>k.elim (λ k=>absurd k (Ha.mpr (FT h))) λ k=>absurd k.1 (OA h),λ k=>by lia⟩
theorem uS(t:TS s.heap vs):aI prog w A s (tuples' true) (λ x=>kN s.heap x.1) (pairsOf vs):=λ x y hx hy Q E q=>by
 refine xE (t _ (iz hx).1) λ p Z=>(λ t1 b1 b2=>?_) Z.1 Z.2.1 Z.2.2;clear Z
 refine xE (t _ (iz hy).1) λ r Z=>(λ t2 c1 c2=>?_) Z.1 Z.2.1 Z.2.2;clear Z
 refine Ce t1 t2 ?_
 rw[show decide (p.1<r.1\/p.1=r.1/\p.2<r.2)=decide (kN s.heap x.1<kN s.heap y.1)from decide_eq_decide.mpr (by rw[lT t1,lT t2];exact xR b1 b2 c1 c2)]
 exact q
def Out(h:Heap)(vs out:List Value):Prop:=out.Perm vs/\out.Pairwise λ v u=>kN h v<=kN h u
def qY(h h':Heap):Prop:=∀b o,o.cls=.type "tuple"->h.get? b=some o->h'.get? b=some o
theorem TS.mono(k:qY h h')(t:TS h vs):TS h' vs:=λ v hv=>by
 obtain⟨p,hp,b⟩:=t v hv
 exact⟨p,hp.mono k,b⟩
theorem Out.mono{out:List Value}(k:qY h h')(t:TS h vs)(o:Out h' vs out):Out h vs out:=by
 have ke:∀v∈vs,kN h' v=kN h v:=λ v hv=>by
  obtain⟨p,hp,b⟩:=t v hv
  rw[lT hp,lT (hp.mono k)]
 refine⟨o.1,JX (fun{x y} hx hy q=>?_) o.2⟩
 rw[<- ke _ (o.1.mem_iff.mp hx),<- ke _ (o.1.mem_iff.mp hy)]
 exact q
theorem Out.of{a:Array Keyed}(hp:a.Perm (pairsOf vs))(hu:Up (λ x=>kN h x.1) a 0 (pairsOf vs).size):Out h vs (a.map (·.2)).toList:=by
 have hm:∀x∈a.toList,x.2=x.1:=λ x hx=>(iz ((HW.mp hp).mem_iff.mp hx)).2
 rw[Array.toList_map]
 constructor
 ·have:=(HW.mp hp).map (·.2)
  refine this.trans (.of_eq ?_)
  unfold pairsOf
  rw[Ny,j9,Gh]
  exact MA _
 ·refine Lj.mpr ?_
  have:=uQ (lo:=0) (n:=(pairsOf vs).size) (by rw[Gy];exact hu) (by rw[Gy];exact Fw hp.size_eq.symm)
  rw[<- hp.size_eq,<- Ic,My,Jo]at this
  refine JX (fun{x y} hx hy q=>?_) this
  rw[hm x hx,hm y hy]
  exact q
theorem jl(hk:k<=64):k<=sizeLine:=fp hk (by rw[MF];decide)
theorem sY{a:Addr}{P:Fin->Shared->Prop}(ho:s.heap.get? a=some (seqObj "list" vs.toArray n))(t:TS s.heap vs)(h64:vs.length<=64)
  (h:∀out:Array Value,Out s.heap vs out.toList->P (.done (.ret .none)) { s with heap:=sortedHeap s.heap a vs out }):
  wpAny (model prog w) A (Builtin.«list.sort» ⟨[.ref a],[]⟩) P E s:=by
 rw[list_sort_plain]
 have hsz:vs.toArray.size=vs.length:=HM ..
 refine nt (Ma ho rfl (nt (MX ho rfl ?_ (by rw[hsz];exact jl h64) (Gb _))))
 obtain⟨e1,ho1⟩:∃e1,(s.heap.update a (Obj.mapSeq λ Y=>#[])).get? a=some (seqObj "list" #[] e1):=⟨_,get?_update_seq ho (λ Y=>#[])⟩
 refine nt (NV ho1 rfl (nt (wpAny_newTuple (nt (wpAny_newList (Gl ?_) (Gb _))) (jl h64))))
 have ho6:=FH (seqObj "list" #[] 0) (FH (seqObj "tuple" vs.toArray 0) ho1)
 have tk:qY s.heap (((s.heap.update a (Obj.mapSeq λ Y=>#[])).push (seqObj "tuple" vs.toArray 0)).push (seqObj "list" #[] 0)):=λ b o hc hb=>by
  have hne:b≠a:=by
   rintro rfl
   rw[ho]at hb;cases hb
   exact absurd hc (by simp)
  exact FH _ (FH _ ((IE _ _ _ _ hne).trans hb))
 have h:∀out:Array Value,Out (((s.heap.update a (Obj.mapSeq λ Y=>#[])).push (seqObj "tuple" vs.toArray 0)).push (seqObj "list" #[] 0)) vs out.toList->P (.done (.ret .none)) { s with heap:=(((s.heap.update a (Obj.mapSeq λ Y=>#[])).push (seqObj "tuple" vs.toArray 0)).push (seqObj "list" #[] 0)).update a (Obj.mapSeq λ Y=>out) }:=λ out o=>h out (o.mono tk t)
 have t':=t.mono tk
 show wpAny (model prog w) A _ P E { s with heap:=((s.heap.update a (Obj.mapSeq λ Y=>#[])).push (seqObj "tuple" vs.toArray 0)).push (seqObj "list" #[] 0) }
 clear tk t ho1
 revert h t' ho6
 generalize ((s.heap.update a (Obj.mapSeq λ Y=>#[])).push (seqObj "tuple" vs.toArray 0)).push (seqObj "list" #[] 0)=h6
 intro ho6 h t'
 have hps:(pairsOf vs).size=vs.length:=pairsOf_size _
 by_cases h2:vs.toArray.size<2
 ·rw[if_pos h2,if_pos h2]
  refine nt (Fp (nt ?_))
  rw[StateT.run_pure]
  refine Fp (nt (NV ho6 rfl (nt (MX ho6 rfl ?_ (Gb _) (by rw[Oi];exact GD (jl (hps.symm▸h64)))))))
  rw[if_neg (by rw[bne_self_eq_false];decide)]
  refine Fp (h _ (.of (NW _) λ i j Y ij hj=>?_))
  rw[hsz]at h2
  rw[hps]at hj
  obtain rfl:i=j:=by lia
  exact FV _
 ·rw[if_neg h2,if_neg h2]
  rw[hsz]at h2
  have h2:=Ir.mp h2
  refine nt (xQ (GL h2) (λ v hv=>by obtain⟨p,hp,_⟩:=t' v hv;exact⟨p,hp⟩) (nt (Fy (Ai (κ:=tuples' true) (OO:=pairsOf vs) (st:=SortSt.mk' (tuples' true) (vs.toArray.zip vs.toArray) #[] 7 none) (uS t') ⟨NW _,rfl,rfl⟩ rfl (hps.symm▸h2) (hps.symm▸h64)
   (Q:=λ Y st'=>SB (tuples' true) (pairsOf vs) st'/\Out h6 vs ((arrOf st').map (·.2)).toList) λ st' a1 a2=>⟨a1,.of a1.perm a2⟩) ?_ λ Y Y e=>e)))
  rintro ⟨⟨⟩,st'⟩ s' ⟨rfl,hB,hO⟩
  refine nt (NV ho6 rfl (nt (MX ho6 rfl ?_ (Gb _) (by rw[Oi];exact GD (jl ((hB.size.trans hps).symm▸h64))))))
  dsimp only
  rw[if_neg (by rw[bne_self_eq_false];decide),hB.failed]
  exact Fp (h _ hO)
theorem oQ{l:Addr}{Q:Value->Shared->Prop}(hl:s.heap.IsList l vs.toArray)(t:TS s.heap vs)(h64:vs.length<=64)
  (h:∀out:Array Value,Out s.heap vs out.toList->Q (.ref (s.heap.objs.size+1)) { s with heap:=sortedAll s.heap vs out }):
  wpAny (model prog w) A (call (.builtin "sorted") [.ref l]) Q E s:=by
 have hzz:∀k,k<=64->k<=sizeLine:=λ k hk=>fp hk (by rw[MF];decide)
 refine Calls.call_function_entry kind_sorted plain_sorted entry_sorted (args_sorted1 _) ?_
 unfold Builtin.«sorted»
 refine nt (m:=checkCount "sorted" 1 1 _) (Fp ?_)
 refine nt (collect_list hl ?_ (hzz _ h64))
 refine nt (wpAny_newList ?_ (hzz _ h64))
 have hsz:((s.heap.push (seqObj "list" #[] 0)).update s.heap.objs.size (Obj.mapSeq (· ++ vs.toArray))).objs.size=s.heap.objs.size+1:=by
  rw[Heap.size_update,size_push']
 have hoL:(((s.heap.push (seqObj "list" #[] 0)).update s.heap.objs.size (Obj.mapSeq (· ++ vs.toArray))).push (seqObj "list" vs.toArray 0)).get? (s.heap.objs.size+1)=some (seqObj "list" vs.toArray 0):=by
  rw[<- hsz];exact Gd _ rfl
 have tk:qY s.heap (((s.heap.push (seqObj "list" #[] 0)).update s.heap.objs.size (Obj.mapSeq (· ++ vs.toArray))).push (seqObj "list" vs.toArray 0)):=λ b o hc hb=>
  FH _ ((IE _ _ _ _ (FP (IF hb))).trans (FH _ hb))
 show wpAny _ _ _ _ _ { s with heap:=((s.heap.push (seqObj "list" #[] 0)).update s.heap.objs.size (Obj.mapSeq (· ++ vs.toArray))).push (seqObj "list" vs.toArray 0) }
 rw[hsz]
 exact nt (Gl (HT slot_list_sort ⟨_,hoL,rfl⟩ entry_list_sort (sY hoL (t.mono tk) h64 λ out a1=>⟨_,rfl,Fp ⟨_,rfl,h out (a1.mono tk t)⟩⟩) (args_list_sort _)))
end
end Srt
open Srt
theorem VRs.map_cons{h0:Heap}{f:α->AV}{ps:List α}(r:VRs h0 h O (v::vs) (ps.map f)):∃p ps',ps=p::ps'/\VR h0 h O v (f p)/\VRs h0 h O vs (ps'.map f):=by
 cases ps with
 | nil=>exact(Lu _ _ r.nil_inv).elim
 | cons p ps=>
  obtain⟨v',r',e,a,b⟩:=r.cons_inv
  cases e
  exact⟨p,ps,rfl,a,b⟩
theorem uT{h0:Heap}{f:α->AV}{vs':List Value}(hp:vs'.Perm vs):∀{ps:List α},VRs h0 h O vs (ps.map f)->∃ps':List α,ps'.Perm ps/\VRs h0 h O vs' (ps'.map f):=by
 induction hp with
 | nil=>exact λ r=>⟨_,.refl _,r⟩
 | cons x hp ih=>
  intro ps r
  refine xE r.map_cons λ p Z=>xE Z λ ps J=>(λ θ a b=>?_) J.1 J.2.1 J.2.2;rcases θ with rfl;clear Z J
  refine xE (ih b) λ ps' Z=>(λ h1 h2=>?_) Z.1 Z.2;clear Z
  exact⟨p::ps',h1.cons p,.cons a h2⟩
 | swap x y l=>
  intro ps r
  refine xE r.map_cons λ p Z=>xE Z λ ps J=>(λ θ a b=>?_) J.1 J.2.1 J.2.2;rcases θ with rfl;clear Z J
  refine xE b.map_cons λ q Z=>xE Z λ ps J=>(λ θ c d=>?_) J.1 J.2.1 J.2.2;rcases θ with rfl;clear Z J
  exact⟨q::p::ps,.swap ..,.cons c (.cons a d)⟩
 | trans h1 h2 i1 i2=>
  intro ps r
  refine xE (i2 r) λ ps2 Z=>(λ a b=>?_) Z.1 Z.2;clear Z
  refine xE (i1 b) λ ps3 Z=>(λ c d=>?_) Z.1 Z.2;clear Z
  exact⟨ps3,c.trans a,d⟩
def uU:BT:=one λ x Q V=>inR x λ i=>∃ps:List (Int×Int),lst V i=some (ps.map prA)/\ps.length<=64/\(∀p∈ps,-400<=p.2/\p.2<=400)/\∀ps':List (Int×Int),ps'.Perm ps->ps'.Pairwise (λ a b=>a.1<=b.1)->Q (.ref V.length) (V++[.list (ps'.map prA)])
theorem VRs.atI{h0:Heap}{f:α->AV}{ps:List α}(r:VRs h0 h O vs (ps.map f))(hi:i<vs.length):∃p,ps[i]?=some p/\VR h0 h O vs[i] (f p):=by
 have hz:i<ps.length:=by rw[r.length,Fd]at hi;exact hi
 refine xE (r.get (i:=i) (x:=f ps[i]) (by rw[FK,Ff hz];rfl)) λ v' Z=>(λ e1 e2=>?_) Z.1 Z.2;clear Z
 rw[Ff hi]at e1
 cases e1
 exact⟨_,Ff hz,e2⟩
theorem sZ{a b c d:Int}(b1:-400<=b)(d2:d<=400)(h:1000*a+b<=1000*c+d):a<=c:=by lia
theorem uV:bG W k (.builtin "sorted") uU:=by
 intro A s V O vs xs Q ro R vr h
 obtain⟨v,x,rfl,vx,h⟩:=bI vr h
 obtain⟨i,rfl,ps,e,hz,hb,q⟩:=aj h
 obtain⟨a,n,us,rfl,hp,hl,hv⟩:=vx.ref_list R e
 have hlen:us.length=ps.length:=by rw[hv.length,Fd]
 have t:TS s.heap us:=λ v hv'=>by
  refine xE (Jj hv') λ i Z=>xE Z λ hi J=>?_;rcases J with rfl;clear Z
  refine xE (hv.atI hi) λ p Z=>(λ hp r=>?_) Z.1 Z.2;clear Z
  exact⟨p,.of r,hb _ (FD hp)⟩
 refine oQ hl.isList t (by rw[hlen];exact hz) λ out hO=>?_
 refine xE (uT hO.1 hv) λ ps' Z=>(λ p1 p2=>?_) Z.1 Z.2;clear Z
 refine xE (sortedAll_at s.heap us out) λ c hc=>?_
 refine .adopt (t:=s.toks) (vs:=out.toList) R (λ Y Y=>sortedAll_old) (U8 (HS _)) hc p2 (q ps' p1 (He.mpr λ i j hi hj hij=>?_))
 have hl':out.toList.length=ps'.length:=by rw[p2.length,Fd]
 have hi':=hl'.symm▸hi
 have hj':=hl'.symm▸hj
 have:=He.mp hO.2 i j hi' hj' hij
 refine xE (p2.atI hi') λ p Z=>(λ e1 r1=>?_) Z.1 Z.2;clear Z
 refine xE (p2.atI hj') λ p' Z=>(λ f1 r2=>?_) Z.1 Z.2;clear Z
 rw[lT (.of r1),lT (.of r2)]at this
 rw[Ff hi]at e1
 rw[Ff hj]at f1
 cases e1
 cases f1
 exact sZ (hb _ (p1.mem_iff.mp (Ly hi))).1 (hb _ (p1.mem_iff.mp (Ly hj))).2 this
noncomputable def bz:Nat:=28
noncomputable def V8:Nat:=35
noncomputable def bA:Nat:=42
noncomputable def aZ:Nat:=49
noncomputable def Y1:Nat:=56
noncomputable def V0:Nat:=70
noncomputable def C0:Nat:=77
noncomputable def E3:Nat:=84
noncomputable def J6:Nat:=91
noncomputable def Y8:Nat:=115
noncomputable def E9:Nat:=122
noncomputable def I7:Nat:=129
noncomputable def Q9:Nat:=150
noncomputable def N6:Nat:=171
noncomputable def aa:Nat:=178
noncomputable def X5:Nat:=183
noncomputable def X6:Nat:=190
noncomputable def aq:Nat:=195
noncomputable def X7:Nat:=202
noncomputable def al:Nat:=209
noncomputable def P7:Nat:=216
noncomputable def Y2:Nat:=223
noncomputable def Y3:Nat:=230
noncomputable def a0:Nat:=235
noncomputable def cW:Nat:=160
noncomputable def cL:Nat:=94
noncomputable def n_S:Str:=⟨⟨[83]⟩⟩
noncomputable def n_T:Str:=⟨⟨[84]⟩⟩
noncomputable def n_b:Str:=⟨⟨[98]⟩⟩
noncomputable def jm:Str:=⟨⟨[98,101,108,111,119]⟩⟩
noncomputable def qZ:Str:=⟨⟨[98,108,111,99,107]⟩⟩
noncomputable def Aj:Str:=⟨⟨[99,104]⟩⟩
noncomputable def pT:Str:=⟨⟨[99,104,105,108,100,112,111,115]⟩⟩
noncomputable def uW:Str:=⟨⟨[99,111,108,117,109,110]⟩⟩
noncomputable def s8:Str:=⟨⟨[99,111,108,117,109,110,115]⟩⟩
noncomputable def mS:Str:=⟨⟨[99,111,117,110,116]⟩⟩
noncomputable def xS:Str:=⟨⟨[100,114,97,119,110]⟩⟩
noncomputable def Cf:Str:=⟨⟨[100,117,101]⟩⟩
noncomputable def uX:Str:=⟨⟨[101,110,100,112,111,115]⟩⟩
noncomputable def s9:Str:=⟨⟨[101,115,99,97,112,101,100]⟩⟩
noncomputable def kc:Str:=⟨⟨[102,105,114,115,116,115]⟩⟩
noncomputable def xT:Str:=⟨⟨[102,105,116,101,114]⟩⟩
noncomputable def Ak:Str:=⟨⟨[102,112]⟩⟩
noncomputable def xU:Str:=⟨⟨[102,114,101,115,104]⟩⟩
noncomputable def pU:Str:=⟨⟨[103,97,105,110]⟩⟩
noncomputable def uY:Str:=⟨⟨[103,97,105,110,101,100]⟩⟩
noncomputable def jo:Str:=⟨⟨[103,97,105,110,115]⟩⟩
noncomputable def Al:Str:=⟨⟨[104,97,110,100]⟩⟩
noncomputable def aP:Str:=⟨⟨[104,101,97,112]⟩⟩
noncomputable def Am:Str:=⟨⟨[104,101,108,100]⟩⟩
noncomputable def n_i:Str:=⟨⟨[105]⟩⟩
noncomputable def ED:Str:=⟨⟨[105,108]⟩⟩
noncomputable def pV:Str:=⟨⟨[105,116,101,109]⟩⟩
noncomputable def n_k:Str:=⟨⟨[107]⟩⟩
noncomputable def uZ:Str:=⟨⟨[107,101,121]⟩⟩
noncomputable def ta:Str:=⟨⟨[108,97,115,116,101,108,116]⟩⟩
noncomputable def pW:Str:=⟨⟨[108,101,97,100]⟩⟩
noncomputable def xW:Str:=⟨⟨[108,101,97,100,115]⟩⟩
noncomputable def xX:Str:=⟨⟨[108,101,97,115,116]⟩⟩
noncomputable def An:Str:=⟨⟨[108,105,110,101]⟩⟩
noncomputable def jq:Str:=⟨⟨[108,105,110,101,115]⟩⟩
noncomputable def tb:Str:=⟨⟨[109,97,99,104,105,110,101]⟩⟩
noncomputable def jr:Str:=⟨⟨[109,97,114,107,115]⟩⟩
noncomputable def Ao:Str:=⟨⟨[109,97,115,107]⟩⟩
noncomputable def Ap:Str:=⟨⟨[109,111,114,101]⟩⟩
noncomputable def n_n:Str:=⟨⟨[110]⟩⟩
noncomputable def kd:Str:=⟨⟨[110,101,101,100]⟩⟩
noncomputable def oR:Str:=⟨⟨[110,101,116]⟩⟩
noncomputable def lU:Str:=⟨⟨[110,101,119,105,116,101,109]⟩⟩
noncomputable def EE:Str:=⟨⟨[110,116]⟩⟩
noncomputable def u0:Str:=⟨⟨[111,110,101]⟩⟩
noncomputable def xY:Str:=⟨⟨[111,114,100,101,114]⟩⟩
noncomputable def fh:Str:=⟨⟨[111,116,104,101,114]⟩⟩
noncomputable def u5:Str:=⟨⟨[111,116,104,101,114,115]⟩⟩
noncomputable def d6:Str:=⟨⟨[111,119,110,101,114,115]⟩⟩
noncomputable def js:Str:=⟨⟨[112,97,105,114,115]⟩⟩
noncomputable def u6:Str:=⟨⟨[112,97,114,101,110,116]⟩⟩
noncomputable def oT:Str:=⟨⟨[112,97,114,101,110,116,112,111,115]⟩⟩
noncomputable def xZ:Str:=⟨⟨[112,105,101,99,101]⟩⟩
noncomputable def Aq:Str:=⟨⟨[112,105,108,101]⟩⟩
noncomputable def oU:Str:=⟨⟨[112,108,97,99,101,115]⟩⟩
noncomputable def Ar:Str:=⟨⟨[112,108,117,115]⟩⟩
noncomputable def lV:Str:=⟨⟨[112,111,115]⟩⟩
noncomputable def rg:Str:=⟨⟨[112,117,114,115,101]⟩⟩
noncomputable def u7:Str:=⟨⟨[112,117,114,115,101,115]⟩⟩
noncomputable def gE:Str:=⟨⟨[114,101,116,117,114,110,105,116,101,109]⟩⟩
noncomputable def pX:Str:=⟨⟨[114,105,103,104,116,112,111,115]⟩⟩
noncomputable def zj:Str:=⟨⟨[114,111,119]⟩⟩
noncomputable def bR:Str:=⟨⟨[115,99,114,105,112,116]⟩⟩
noncomputable def P5:Str:=⟨⟨[115,101,108,102]⟩⟩
noncomputable def As:Str:=⟨⟨[115,101,116,115]⟩⟩
noncomputable def iA:Str:=⟨⟨[115,105,103,110]⟩⟩
noncomputable def cI:Str:=⟨⟨[115,105,122,101]⟩⟩
noncomputable def dk:Str:=⟨⟨[115,116,97,114,116,112,111,115]⟩⟩
noncomputable def x9:Str:=⟨⟨[115,116,101,112,115]⟩⟩
noncomputable def u9:Str:=⟨⟨[115,117,109,115]⟩⟩
noncomputable def iB:Str:=⟨⟨[116,97,98,115,105,122,101]⟩⟩
noncomputable def ya:Str:=⟨⟨[116,97,107,101,110]⟩⟩
noncomputable def O3:Str:=⟨⟨[116,101,120,116]⟩⟩
noncomputable def jt:Str:=⟨⟨[116,111,107,101,110]⟩⟩
noncomputable def Au:Str:=⟨⟨[116,111,108,100]⟩⟩
noncomputable def rh:Str:=⟨⟨[116,111,112]⟩⟩
noncomputable def oV:Str:=⟨⟨[116,111,116,97,108,115]⟩⟩
noncomputable def kg:Str:=⟨⟨[116,114,97,105,108,105,110,103]⟩⟩
noncomputable def EF:Str:=⟨⟨[116,115]⟩⟩
noncomputable def va:Str:=⟨⟨[119,97,121]⟩⟩
noncomputable def Av:Str:=⟨⟨[119,97,121,115]⟩⟩
noncomputable def yb:Str:=⟨⟨[119,104,111,108,101]⟩⟩
noncomputable def pY:Str:=⟨⟨[119,111,114,100]⟩⟩
noncomputable def yc:Str:=⟨⟨[119,111,114,100,115]⟩⟩
noncomputable def Aw:Str:=⟨⟨[119,115]⟩⟩
noncomputable def n_x:Str:=⟨⟨[120]⟩⟩
structure GI(W:Wld):Prop where
 b_int:W.mb (⟨⟨[105,110,116]⟩⟩)=some (.type "int")
 b_iter:W.mb (⟨⟨[105,116,101,114]⟩⟩)=some (.builtin "iter")
 b_len:W.mb (⟨⟨[108,101,110]⟩⟩)=some (.builtin "len")
 b_list:W.mb (⟨⟨[108,105,115,116]⟩⟩)=some (.type "list")
 b_max:W.mb (⟨⟨[109,97,120]⟩⟩)=some (.builtin "max")
 b_min:W.mb (⟨⟨[109,105,110]⟩⟩)=some (.builtin "min")
 b_range:W.mb (⟨⟨[114,97,110,103,101]⟩⟩)=some (.type "range")
 b_reversed:W.mb (⟨⟨[114,101,118,101,114,115,101,100]⟩⟩)=some (.type "reversed")
 b_sorted:W.mb (⟨⟨[115,111,114,116,101,100]⟩⟩)=some (.builtin "sorted")
 b_str:W.mb (⟨⟨[115,116,114]⟩⟩)=some (.type "str")
 b_sum:W.mb (⟨⟨[115,117,109]⟩⟩)=some (.builtin "sum")
 b_tuple:W.mb (⟨⟨[116,117,112,108,101]⟩⟩)=some (.type "tuple")
 b_zip:W.mb (⟨⟨[122,105,112]⟩⟩)=some (.type "zip")
 c_S:ClV W cW (⟨⟨[83]⟩⟩) [32]
 c_T:ClV W cW (⟨⟨[84]⟩⟩) [9]
 e_Whitespace_indent_level:MeI W cW (⟨⟨[105,110,100,101,110,116,95,108,101,118,101,108]⟩⟩) I7
 e_Whitespace_less:MeI W cW (⟨⟨[108,101,115,115]⟩⟩) Q9
 e_Whitespace_longest_run_of_spaces:MeI W cW (⟨⟨[108,111,110,103,101,115,116,95,114,117,110,95,111,102,95,115,112,97,99,101,115]⟩⟩) E9
 e__netrclex__read_char:MeI W cL (⟨⟨[95,114,101,97,100,95,99,104,97,114]⟩⟩) C0
 e__netrclex_get_token:MeI W cL (⟨⟨[103,101,116,95,116,111,107,101,110]⟩⟩) E3
 e__netrclex_push_token:MeI W cL (⟨⟨[112,117,115,104,95,116,111,107,101,110]⟩⟩) J6
 m_Whitespace:W.mg (⟨⟨[87,104,105,116,101,115,112,97,99,101]⟩⟩)=some (.ref cW)
 m__law_columns:W.mg (⟨⟨[95,108,97,119,95,99,111,108,117,109,110,115]⟩⟩)=some (.ref X6)
 m__law_grown:W.mg (⟨⟨[95,108,97,119,95,103,114,111,119,110]⟩⟩)=some (.ref Y2)
 m__law_key:W.mg (⟨⟨[95,108,97,119,95,107,101,121]⟩⟩)=some (.ref al)
 m__law_less:W.mg (⟨⟨[95,108,97,119,95,108,101,115,115]⟩⟩)=some (.ref aq)
 m__law_lexer:W.mg (⟨⟨[95,108,97,119,95,108,101,120,101,114]⟩⟩)=some (.ref N6)
 m__law_merged:W.mg (⟨⟨[95,108,97,119,95,109,101,114,103,101,100]⟩⟩)=some (.ref P7)
 m__law_outline:W.mg (⟨⟨[95,108,97,119,95,111,117,116,108,105,110,101]⟩⟩)=some (.ref X7)
 m__law_sets:W.mg (⟨⟨[95,108,97,119,95,115,101,116,115]⟩⟩)=some (.ref a0)
 m__law_spelled:W.mg (⟨⟨[95,108,97,119,95,115,112,101,108,108,101,100]⟩⟩)=some (.ref X5)
 m__law_steps:W.mg (⟨⟨[95,108,97,119,95,115,116,101,112,115]⟩⟩)=some (.ref Y3)
 m__law_totals:W.mg (⟨⟨[95,108,97,119,95,116,111,116,97,108,115]⟩⟩)=some (.ref aa)
 m__netrclex:W.mg (⟨⟨[95,110,101,116,114,99,108,101,120]⟩⟩)=some (.ref cL)
 m__siftdown:W.mg (⟨⟨[95,115,105,102,116,100,111,119,110]⟩⟩)=some (.ref aZ)
 m__siftup:W.mg (⟨⟨[95,115,105,102,116,117,112]⟩⟩)=some (.ref Y1)
 m_heapify:W.mg (⟨⟨[104,101,97,112,105,102,121]⟩⟩)=some (.ref bA)
 m_heappop:W.mg (⟨⟨[104,101,97,112,112,111,112]⟩⟩)=some (.ref bz)
 m_heapreplace:W.mg (⟨⟨[104,101,97,112,114,101,112,108,97,99,101]⟩⟩)=some (.ref V8)
 o__law_columns:∃o fd,W.K.lookup X6=some o/\o.data=.func fd
 o__law_grown:∃o fd,W.K.lookup Y2=some o/\o.data=.func fd
 o__law_key:∃o fd,W.K.lookup al=some o/\o.data=.func fd
 o__law_less:∃o fd,W.K.lookup aq=some o/\o.data=.func fd
 o__law_lexer:∃o fd,W.K.lookup N6=some o/\o.data=.func fd
 o__law_merged:∃o fd,W.K.lookup P7=some o/\o.data=.func fd
 o__law_outline:∃o fd,W.K.lookup X7=some o/\o.data=.func fd
 o__law_sets:∃o fd,W.K.lookup a0=some o/\o.data=.func fd
 o__law_spelled:∃o fd,W.K.lookup X5=some o/\o.data=.func fd
 o__law_steps:∃o fd,W.K.lookup Y3=some o/\o.data=.func fd
 o__law_totals:∃o fd,W.K.lookup aa=some o/\o.data=.func fd
 o__siftdown:∃o fd,W.K.lookup aZ=some o/\o.data=.func fd
 o__siftup:∃o fd,W.K.lookup Y1=some o/\o.data=.func fd
 o_heapify:∃o fd,W.K.lookup bA=some o/\o.data=.func fd
 o_heappop:∃o fd,W.K.lookup bz=some o/\o.data=.func fd
 o_heapreplace:∃o fd,W.K.lookup V8=some o/\o.data=.func fd
 w_Whitespace:NwI W cW Y8
 w__netrclex:NwI W cL V0
 z_int:W.mg (⟨⟨[105,110,116]⟩⟩)=none
 z_iter:W.mg (⟨⟨[105,116,101,114]⟩⟩)=none
 z_len:W.mg (⟨⟨[108,101,110]⟩⟩)=none
 z_list:W.mg (⟨⟨[108,105,115,116]⟩⟩)=none
 z_max:W.mg (⟨⟨[109,97,120]⟩⟩)=none
 z_min:W.mg (⟨⟨[109,105,110]⟩⟩)=none
 z_range:W.mg (⟨⟨[114,97,110,103,101]⟩⟩)=none
 z_reversed:W.mg (⟨⟨[114,101,118,101,114,115,101,100]⟩⟩)=none
 z_sorted:W.mg (⟨⟨[115,111,114,116,101,100]⟩⟩)=none
 z_str:W.mg (⟨⟨[115,116,114]⟩⟩)=none
 z_sum:W.mg (⟨⟨[115,117,109]⟩⟩)=none
 z_tuple:W.mg (⟨⟨[116,117,112,108,101]⟩⟩)=none
 z_zip:W.mg (⟨⟨[122,105,112]⟩⟩)=none
noncomputable def iS:Fm:=⟨H8 5,[(aP,0),(dk,1),(lV,2),(lU,3),(oT,4),(u6,5)]⟩
def iT(W:Wld)(k:Nat):ST:=(A4 (B7 (D1 (A5 0) (A5 2)) [(B4 3)]) (A4 (cE (D7 .Gt (A5 2) (A5 1)) (A4 (B7 (C2 .RShift (C2 .Sub (A5 2) (B6 1)) (B6 1)) [(B4 4)]) (A4 (B7 (D1 (A5 0) (A5 4)) [(B4 5)]) (A4 (sIf (D7 .Lt (A5 3) (A5 5)) (A4 (B7 (A5 5) [(K6 (A5 0) (A5 2))]) (A4 (B7 (A5 4) [(B4 2)]) (A4 H7 B5))) B5) (A4 L7 B5))))) (A4 (B7 (A5 3) [(K6 (A5 0) (A5 2))]) B5)))
theorem oW(G:GI W):O0 W k iS (C4 5) (iT W k):=(A8 (G8 (L8 (xV 0 rfl) (xV 2 rfl) rfl) (.cons (zV 3 rfl) rfl .nil) (λ Y Y=>⟨rfl,rfl⟩)) (A8 (jH (Q4 (xV 2 rfl) (xV 1 rfl) rfl) (A8 (G8 (J3 (J3 (xV 2 rfl) F7) F7) (.cons (zV 4 rfl) rfl .nil) (λ Y Y=>⟨rfl,rfl⟩)) (A8 (G8 (L8 (xV 0 rfl) (xV 4 rfl) rfl) (.cons (zV 5 rfl) rfl .nil) (λ Y Y=>⟨rfl,rfl⟩)) (A8 (eIf (Q4 (xV 3 rfl) (xV 5 rfl) rfl) (A8 (G8 (xV 5 rfl) (.cons (mx (xV 0 rfl) (xV 2 rfl)) rfl .nil) (λ Y Y=>⟨rfl,rfl⟩)) (A8 (G8 (xV 4 rfl) (.cons (zV 2 rfl) rfl .nil) (λ Y Y=>⟨rfl,rfl⟩)) (A8 za F8))) F8) (A8 Bx F8))))) (A8 (G8 (xV 3 rfl) (.cons (mx (xV 0 rfl) (xV 2 rfl)) rfl .nil) (λ Y Y=>⟨rfl,rfl⟩)) F8)))
noncomputable def lW:Fm:=⟨H8 6,[(aP,0),(lV,1),(uX,2),(dk,3),(lU,4),(pT,5),(pX,6)]⟩
def lX(W:Wld)(k:Nat):ST:=(A4 (B7 (D0 aY (A6 (A5 0) A7)) [(B4 2)]) (A4 (B7 (A5 1) [(B4 3)]) (A4 (B7 (D1 (A5 0) (A5 1)) [(B4 4)]) (A4 (B7 (C2 .Add (C2 .Mult (B6 2) (A5 1)) (B6 1)) [(B4 5)]) (A4 (cE (D7 .Lt (A5 5) (A5 2)) (A4 (B7 (C2 .Add (A5 5) (B6 1)) [(B4 6)]) (A4 (sIf (L1 (D7 .Lt (A5 6) (A5 2)) (L3 (D7 .Lt (D1 (A5 0) (A5 5)) (D1 (A5 0) (A5 6))))) (A4 (B7 (A5 6) [(B4 5)]) B5) B5) (A4 (B7 (D1 (A5 0) (A5 5)) [(K6 (A5 0) (A5 1))]) (A4 (B7 (A5 5) [(B4 1)]) (A4 (B7 (C2 .Add (C2 .Mult (B6 2) (A5 1)) (B6 1)) [(B4 5)]) B5)))))) (A4 (B7 (A5 4) [(K6 (A5 0) (A5 1))]) (A4 (F9 (D0 (fnB W k aZ) (A6 (A5 0) (A6 (A5 3) (A6 (A5 1) A7))))) B5)))))))
theorem td(G:GI W):O0 W k lW (C4 6) (lX W k):=(A8 (G8 (xBl rfl G.z_len G.b_len (.inl ⟨_,rfl⟩) Q8 (B0 (xV 0 rfl) D5 rfl) rfl) (.cons (zV 2 rfl) rfl .nil) (λ Y Y=>⟨rfl,rfl⟩)) (A8 (G8 (xV 1 rfl) (.cons (zV 3 rfl) rfl .nil) (λ Y Y=>⟨rfl,rfl⟩)) (A8 (G8 (L8 (xV 0 rfl) (xV 1 rfl) rfl) (.cons (zV 4 rfl) rfl .nil) (λ Y Y=>⟨rfl,rfl⟩)) (A8 (G8 (J3 (J3 F7 (xV 1 rfl)) F7) (.cons (zV 5 rfl) rfl .nil) (λ Y Y=>⟨rfl,rfl⟩)) (A8 (jH (Q4 (xV 5 rfl) (xV 2 rfl) rfl) (A8 (G8 (J3 (xV 5 rfl) F7) (.cons (zV 6 rfl) rfl .nil) (λ Y Y=>⟨rfl,rfl⟩)) (A8 (eIf (rZ (Q4 (xV 6 rfl) (xV 2 rfl) rfl) (zI (Q4 (L8 (xV 0 rfl) (xV 5 rfl) rfl) (L8 (xV 0 rfl) (xV 6 rfl) rfl) rfl))) (A8 (G8 (xV 6 rfl) (.cons (zV 5 rfl) rfl .nil) (λ Y Y=>⟨rfl,rfl⟩)) F8) F8) (A8 (G8 (L8 (xV 0 rfl) (xV 5 rfl) rfl) (.cons (mx (xV 0 rfl) (xV 1 rfl)) rfl .nil) (λ Y Y=>⟨rfl,rfl⟩)) (A8 (G8 (xV 5 rfl) (.cons (zV 1 rfl) rfl .nil) (λ Y Y=>⟨rfl,rfl⟩)) (A8 (G8 (J3 (J3 F7 (xV 1 rfl)) F7) (.cons (zV 5 rfl) rfl .nil) (λ Y Y=>⟨rfl,rfl⟩)) F8)))))) (A8 (G8 (xV 4 rfl) (.cons (mx (xV 0 rfl) (xV 1 rfl)) rfl .nil) (λ Y Y=>⟨rfl,rfl⟩)) (A8 (bj (xFn rfl G.m__siftdown G.o__siftdown (B0 (xV 0 rfl) (B0 (xV 3 rfl) (B0 (xV 1 rfl) D5 rfl) rfl) rfl) rfl) (M3 rfl rfl)) F8)))))))
noncomputable def fC:Fm:=⟨H8 3,[(aP,0),(pV,1),(gE,2)]⟩
def fD(W:Wld)(k:Nat):ST:=(A4 (B7 (D1 (A5 0) (B6 0)) [(B4 2)]) (A4 (B7 (A5 1) [(K6 (A5 0) (B6 0))]) (A4 (F9 (D0 (fnB W k Y1) (A6 (A5 0) (A6 (B6 0) A7)))) (A4 (G2 (A5 2)) B5))))
theorem kL(G:GI W):O0 W k fC (C4 3) (fD W k):=(A8 (G8 (L8 (xV 0 rfl) F7 rfl) (.cons (zV 2 rfl) rfl .nil) (λ Y Y=>⟨rfl,rfl⟩)) (A8 (G8 (xV 1 rfl) (.cons (mx (xV 0 rfl) F7) rfl .nil) (λ Y Y=>⟨rfl,rfl⟩)) (A8 (bj (xFn rfl G.m__siftup G.o__siftup (B0 (xV 0 rfl) (B0 F7 D5 rfl) rfl) rfl) (M3 rfl rfl)) (A8 (Y7 (xV 2 rfl)) F8))))
noncomputable def lY:Fm:=⟨H8 2,[(aP,0),(ta,1),(gE,2)]⟩
def lZ(W:Wld)(k:Nat):ST:=(A4 (B7 (G5 (A5 0) O1 mF A7) [(B4 1)]) (A4 (sIf (J4 (A5 0)) (A4 (B7 (D1 (A5 0) (B6 0)) [(B4 2)]) (A4 (B7 (A5 1) [(K6 (A5 0) (B6 0))]) (A4 (F9 (D0 (fnB W k Y1) (A6 (A5 0) (A6 (B6 0) A7)))) (A4 (G2 (A5 2)) B5)))) B5) (A4 (G2 (A5 1)) B5)))
theorem te(G:GI W):O0 W k lY (C4 2) (lZ W k):=(A8 (G8 (bH (xV 0 rfl) A9 (U0 Il JG) jh D5 rfl (by decide) rfl) (.cons (zV 1 rfl) rfl .nil) (λ Y Y=>⟨rfl,rfl⟩)) (A8 (eIf (mv (xV 0 rfl) rfl) (A8 (G8 (L8 (xV 0 rfl) F7 rfl) (.cons (zV 2 rfl) rfl .nil) (λ Y Y=>⟨rfl,rfl⟩)) (A8 (G8 (xV 1 rfl) (.cons (mx (xV 0 rfl) F7) rfl .nil) (λ Y Y=>⟨rfl,rfl⟩)) (A8 (bj (xFn rfl G.m__siftup G.o__siftup (B0 (xV 0 rfl) (B0 F7 D5 rfl) rfl) rfl) (M3 rfl rfl)) (A8 (Y7 (xV 2 rfl)) F8)))) F8) (A8 (Y7 (xV 1 rfl)) F8)))
noncomputable def l0:Fm:=⟨H8 4,[(n_x,0),(n_n,1),(n_i,2)]⟩
def l7(W:Wld)(k:Nat):ST:=(A4 (B7 (D0 aY (A6 (A5 0) A7)) [(B4 1)]) (A4 (O7 (sA (A6 (C2 .FloorDiv (A5 1) (B6 2)) A7)) (B4 2) (A4 (F9 (D0 (fnB W k Y1) (A6 (A5 0) (A6 (A5 2) A7)))) B5)) B5))
theorem th(G:GI W):O0 W k l0 (C4 4) (l7 W k):=(A8 (G8 (xBl rfl G.z_len G.b_len (.inl ⟨_,rfl⟩) Q8 (B0 (xV 0 rfl) D5 rfl) rfl) (.cons (zV 1 rfl) rfl .nil) (λ Y Y=>⟨rfl,rfl⟩)) (A8 (dD (qA rfl G.z_range G.b_range rfl G.z_reversed G.b_reversed (B0 (J3 (xV 1 rfl) F7) D5 rfl) rfl) (zV 2 rfl) (A8 (bj (xFn rfl G.m__siftup G.o__siftup (B0 (xV 0 rfl) (B0 (xV 2 rfl) D5 rfl) rfl) rfl) (M3 rfl rfl)) F8) (λ Y Y=>rfl)) F8))
noncomputable def kh:Fm:=⟨H8 18,[(kd,0),(oR,1)]⟩
def ki(W:Wld)(k:Nat):ST:=(A4 (sIf (D7 .GtE (A5 1) (B6 0)) (A4 (G2 (I8 (A6 (B6 0) (A6 (A5 0) A7)))) B5) B5) (A4 (G2 (I8 (A6 (B6 1) (A6 (C2 .Sub (I9 (A5 0)) (A5 1)) A7)))) B5))
theorem pZ(G:GI W):O0 W k kh (C4 18) (ki W k):=(A8 (eIf (Q4 (xV 1 rfl) F7 rfl) (A8 (Y7 (g9 (B0 F7 (B0 (xV 0 rfl) D5 rfl) rfl))) F8) F8) (A8 (Y7 (g9 (B0 F7 (B0 (J3 (jF (xV 0 rfl)) (xV 1 rfl)) D5 rfl) rfl))) F8))
noncomputable def d7:Fm:=⟨H8 15,[(pW,0),(rh,1),(zj,2),(cI,3),(uW,4),(iA,5)]⟩
def d8(W:Wld)(k:Nat):ST:=(A4 (B7 (C9 A7) [(B4 2)]) (A4 (O7 (H3 (A6 (B6 1) (A6 (C2 .Add (A5 1) (B6 1)) A7))) (B4 3) (A4 (B7 (B6 0) [(B4 4)]) (A4 (O7 (aF (A5 0)) (B4 5) (A4 (sIf (D7 .Eq (A5 5) (G1 [9])) (A4 (B7 (C2 .Sub (C2 .Add (A5 4) (A5 3)) (C2 .Mod (A5 4) (A5 3))) [(B4 4)]) B5) (A4 (B7 (C2 .Add (A5 4) (B6 1)) [(B4 4)]) B5)) B5)) (A4 (F9 (G5 (A5 2) O1 aG (A6 (A5 4) A7))) B5)))) (A4 (G2 (A5 2)) B5)))
theorem kj(G:GI W):O0 W k d7 (C4 15) (d8 W k):=(A8 (G8 (Q5 D5) (.cons (zV 2 rfl) rfl .nil) (λ Y Y=>⟨rfl,rfl⟩)) (A8 (dD (K8 rfl G.z_range G.b_range (B0 F7 (B0 (J3 (xV 1 rfl) F7) D5 rfl) rfl) rfl) (zV 3 rfl) (A8 (G8 F7 (.cons (zV 4 rfl) rfl .nil) (λ Y Y=>⟨rfl,rfl⟩)) (A8 (dD (ah (xV 0 rfl)) (zV 5 rfl) (A8 (eIf (Q4 (xV 5 rfl) (ar rfl) rfl) (A8 (G8 (J3 (J3 (xV 4 rfl) (xV 3 rfl)) (J3 (xV 4 rfl) (xV 3 rfl))) (.cons (zV 4 rfl) rfl .nil) (λ Y Y=>⟨rfl,rfl⟩)) F8) (A8 (G8 (J3 (xV 4 rfl) F7) (.cons (zV 4 rfl) rfl .nil) (λ Y Y=>⟨rfl,rfl⟩)) F8)) F8) (λ Y Y=>rfl)) (A8 (bj (bH (xV 2 rfl) A9 (U0 Go Gp) W5 (B0 (xV 4 rfl) D5 rfl) rfl (by decide) rfl) (M3 rfl rfl)) F8))) (λ Y Y=>rfl)) (A8 (Y7 (xV 2 rfl)) F8)))
noncomputable def d9:Fm:=⟨H8 17,[(jr,0),(d6,1),(Aq,2),(n_k,3)]⟩
def ed(W:Wld)(k:Nat):ST:=(A4 (B7 (C9 A7) [(B4 1)]) (A4 (B7 (C9 A7) [(B4 2)]) (A4 (O7 (H3 (A6 (D0 aY (A6 (A5 0) A7)) A7)) (B4 3) (A4 (cE (L1 (D7 .NotEq (A5 2) (C9 A7)) (L3 (J4 (I1 W k cW Q9 (D1 (A5 0) (D1 (A5 2) (I9 (B6 1)))) (A6 (D1 (A5 0) (A5 3)) A7))))) (A4 (F9 (G5 (A5 2) O1 mF A7)) B5)) (A4 (F9 (G5 (A5 1) O1 aG (A6 (D1 (C2 .Add (C9 (A6 (I9 (B6 1)) A7)) (A5 2)) (I9 (B6 1))) A7))) (A4 (F9 (G5 (A5 2) O1 aG (A6 (A5 3) A7))) B5)))) (A4 (G2 (A5 1)) B5))))
theorem kl(G:GI W):O0 W k d9 (C4 17) (ed W k):=(A8 (G8 (Q5 D5) (.cons (zV 1 rfl) rfl .nil) (λ Y Y=>⟨rfl,rfl⟩)) (A8 (G8 (Q5 D5) (.cons (zV 2 rfl) rfl .nil) (λ Y Y=>⟨rfl,rfl⟩)) (A8 (dD (K8 rfl G.z_range G.b_range (B0 (xBl rfl G.z_len G.b_len (.inl ⟨_,rfl⟩) Q8 (B0 (xV 0 rfl) D5 rfl) rfl) D5 rfl) rfl) (zV 3 rfl) (A8 (jH (rZ (Q4 (xV 2 rfl) (Q5 D5) rfl) (zI (mv (gn (L8 (xV 0 rfl) (L8 (xV 2 rfl) (jF F7) rfl) rfl) aV G.e_Whitespace_less (B0 (L8 (xV 0 rfl) (xV 3 rfl) rfl) D5 rfl) rfl (by decide) rfl) rfl))) (A8 (bj (bH (xV 2 rfl) A9 (U0 Il JG) jh D5 rfl (by decide) rfl) (M3 rfl rfl)) F8)) (A8 (bj (bH (xV 1 rfl) A9 (U0 Go Gp) W5 (B0 (L8 (J3 (Q5 (B0 (jF F7) D5 rfl)) (xV 2 rfl)) (jF F7) rfl) D5 rfl) rfl (by decide) rfl) (M3 rfl rfl)) (A8 (bj (bH (xV 2 rfl) A9 (U0 Go Gp) W5 (B0 (xV 3 rfl) D5 rfl) rfl (by decide) rfl) (M3 rfl rfl)) F8))) (λ Y Y=>rfl)) (A8 (Y7 (xV 1 rfl)) F8))))
noncomputable def fE:Fm:=⟨H8 13,[(bR,0),(kc,1),(oV,2),(n_k,3)]⟩
def fF(W:Wld)(k:Nat):ST:=(A4 (B7 (D0 n9 (A6 (A5 1) A7)) [(B4 2)]) (A4 (O7 (H3 (A6 (D0 aY (A6 (A5 0) A7)) A7)) (B4 3) (A4 (I4 (A5 2) (C2 .Mod (A5 3) (D0 aY (A6 (A5 2) A7))) (C2 .Mod (D1 (A5 0) (A5 3)) (C2 .Pow (B6 10) (B6 6)))) B5)) (A4 (G2 (A5 2)) B5)))
theorem kM(G:GI W):O0 W k fE (C4 13) (fF W k):=(A8 (G8 (xBl rfl G.z_list G.b_list (.inr ⟨_,rfl⟩) oe (B0 (xV 1 rfl) D5 rfl) rfl) (.cons (zV 2 rfl) rfl .nil) (λ Y Y=>⟨rfl,rfl⟩)) (A8 (dD (K8 rfl G.z_range G.b_range (B0 (xBl rfl G.z_len G.b_len (.inl ⟨_,rfl⟩) Q8 (B0 (xV 0 rfl) D5 rfl) rfl) D5 rfl) rfl) (zV 3 rfl) (A8 (Bz (xV 2 rfl) (J3 (xV 3 rfl) (xBl rfl G.z_len G.b_len (.inl ⟨_,rfl⟩) Q8 (B0 (xV 2 rfl) D5 rfl) rfl)) (J3 (L8 (xV 0 rfl) (xV 3 rfl) rfl) (J3 F7 F7)) rfl) F8) (λ Y Y=>rfl)) (A8 (Y7 (xV 2 rfl)) F8)))
noncomputable def ee:Fm:=⟨H8 14,[(pY,0),(va,1),(s9,2)]⟩
def eh(W:Wld)(k:Nat):ST:=(A4 (B7 (G5 (G1 []) isStr ud (A6 (N5 (aF (A5 0)) F0 (C2 .Add (G1 [92]) (A5 3)) 3) A7)) [(B4 2)]) (A4 (G2 (D1 (C9 (A6 (C2 .Add (C2 .Add (G1 [34]) (A5 0)) (G1 [34])) (A6 (A5 2) (A6 (C2 .Add (C2 .Add (G1 [34]) (A5 2)) (G1 [34])) A7)))) (A5 1))) B5))
theorem km(G:GI W):O0 W k ee (C4 14) (eh W k):=(A8 (G8 (bH (ar rfl) ja (ze PySem.F.slot_str_join PySem.F.type_str_join) ue (B0 (cN (i:=3) rfl (ah (xV 0 rfl)) dQ (J3 (ar rfl) (xV 3 rfl)) (λ Y Y=>rfl)) D5 rfl) rfl (by decide) rfl) (.cons (zV 2 rfl) rfl .nil) (λ Y Y=>⟨rfl,rfl⟩)) (A8 (Y7 (L8 (Q5 (B0 (J3 (J3 (ar rfl) (xV 0 rfl)) (ar rfl)) (B0 (xV 2 rfl) (B0 (J3 (J3 (ar rfl) (xV 2 rfl)) (ar rfl)) D5 rfl) rfl) rfl)) (xV 1 rfl) rfl)) F8))
noncomputable def gG:Fm:=⟨H8 20,[(n_k,0),(pU,1),(jm,2),(kd,3),(oR,4),(oU,5),(ya,6),(uZ,7),(Ap,8),(Ar,9),(u5,10),(An,11),(qZ,12)]⟩
def gH(W:Wld)(k:Nat):ST:=(A4 (B7 (D0 gu (A6 (B6 0) (A6 (I9 (A5 1)) A7))) [(B4 3)]) (A4 (B7 (A5 1) [(B4 4)]) (A4 (B7 (I8 (A6 (A5 0) A7)) [(B4 5)]) (A4 (B7 (B6 0) [(B4 6)]) (A4 (cE (L1 (D7 .Lt (A5 6) (D0 aY (A6 (A5 2) A7))) (D7 .Lt (D1 (D1 (A5 2) (A5 6)) (B6 0)) (D0 (fnB W k al) (A6 (A5 3) (A6 (A5 4) A7))))) (A4 (B7 (D1 (A5 2) (A5 6)) [(J8 (J9 4 (D9 (B4 7) (D9 (B4 8) (D9 (B4 9) (D9 (B4 10) J7))))))]) (A4 (B7 (D0 gu (A6 (A5 3) (A6 (C2 .Sub (A5 8) (A5 4)) A7))) [(B4 3)]) (A4 (B7 (C2 .Add (A5 4) (A5 9)) [(B4 4)]) (A4 (B7 (C2 .Add (A5 5) (A5 10)) [(B4 5)]) (A4 (B7 (C2 .Add (A5 6) (B6 1)) [(B4 6)]) B5)))))) (A4 (B7 (D0 (fnB W k N6) (A6 (G1 []) A7)) [(B4 11)]) (A4 (F9 (I1 W k cL J6 (A5 11) (A6 (I8 (A6 (D0 (fnB W k al) (A6 (A5 3) (A6 (A5 4) A7))) (A6 (A5 3) (A6 (A5 4) (A6 (A5 5) A7))))) A7))) (A4 (O7 (aF (L2 (A5 2) (.some (A5 6)) .none)) (B4 12) (A4 (F9 (I1 W k cL J6 (A5 11) (A6 (A5 12) A7))) B5)) (A4 (G2 (A5 11)) B5)))))))))
theorem mT(G:GI W):O0 W k gG (C4 20) (gH W k):=(A8 (G8 (xBl rfl G.z_max G.b_max (.inl ⟨_,rfl⟩) c8 (B0 F7 (B0 (jF (xV 1 rfl)) D5 rfl) rfl) rfl) (.cons (zV 3 rfl) rfl .nil) (λ Y Y=>⟨rfl,rfl⟩)) (A8 (G8 (xV 1 rfl) (.cons (zV 4 rfl) rfl .nil) (λ Y Y=>⟨rfl,rfl⟩)) (A8 (G8 (g9 (B0 (xV 0 rfl) D5 rfl)) (.cons (zV 5 rfl) rfl .nil) (λ Y Y=>⟨rfl,rfl⟩)) (A8 (G8 F7 (.cons (zV 6 rfl) rfl .nil) (λ Y Y=>⟨rfl,rfl⟩)) (A8 (jH (rZ (Q4 (xV 6 rfl) (xBl rfl G.z_len G.b_len (.inl ⟨_,rfl⟩) Q8 (B0 (xV 2 rfl) D5 rfl) rfl) rfl) (Q4 (L8 (L8 (xV 2 rfl) (xV 6 rfl) rfl) F7 rfl) (xFn rfl G.m__law_key G.o__law_key (B0 (xV 3 rfl) (B0 (xV 4 rfl) D5 rfl) rfl) rfl) rfl)) (A8 (G8 (L8 (xV 2 rfl) (xV 6 rfl) rfl) (.cons (nW (n:=4) (Z6 (zV 7 rfl) (Z6 (zV 8 rfl) (Z6 (zV 9 rfl) (Z6 (zV 10 rfl) nV rfl) rfl) rfl) rfl) rfl rfl) rfl .nil) (λ Y Y=>⟨rfl,rfl⟩)) (A8 (G8 (xBl rfl G.z_max G.b_max (.inl ⟨_,rfl⟩) c8 (B0 (xV 3 rfl) (B0 (J3 (xV 8 rfl) (xV 4 rfl)) D5 rfl) rfl) rfl) (.cons (zV 3 rfl) rfl .nil) (λ Y Y=>⟨rfl,rfl⟩)) (A8 (G8 (J3 (xV 4 rfl) (xV 9 rfl)) (.cons (zV 4 rfl) rfl .nil) (λ Y Y=>⟨rfl,rfl⟩)) (A8 (G8 (J3 (xV 5 rfl) (xV 10 rfl)) (.cons (zV 5 rfl) rfl .nil) (λ Y Y=>⟨rfl,rfl⟩)) (A8 (G8 (J3 (xV 6 rfl) F7) (.cons (zV 6 rfl) rfl .nil) (λ Y Y=>⟨rfl,rfl⟩)) F8)))))) (A8 (G8 (xFn rfl G.m__law_lexer G.o__law_lexer (B0 (ar rfl) D5 rfl) rfl) (.cons (zV 11 rfl) rfl .nil) (λ Y Y=>⟨rfl,rfl⟩)) (A8 (bj (gn (xV 11 rfl) A9 G.e__netrclex_push_token (B0 (g9 (B0 (xFn rfl G.m__law_key G.o__law_key (B0 (xV 3 rfl) (B0 (xV 4 rfl) D5 rfl) rfl) rfl) (B0 (xV 3 rfl) (B0 (xV 4 rfl) (B0 (xV 5 rfl) D5 rfl) rfl) rfl) rfl)) D5 rfl) rfl (by decide) rfl) (M3 rfl rfl)) (A8 (dD (ah (wV (xV 2 rfl) (.some (xV 6 rfl)) .none)) (zV 12 rfl) (A8 (bj (gn (xV 11 rfl) A9 G.e__netrclex_push_token (B0 (xV 12 rfl) D5 rfl) rfl (by decide) rfl) (M3 rfl rfl)) F8) (λ Y Y=>rfl)) (A8 (Y7 (xV 11 rfl)) F8)))))))))
noncomputable def fG:Fm:=⟨H8 19,[(jq,0),(aP,1),(n_k,2),(qZ,3),(zj,4),(uZ,5),(xU,6)]⟩
def fH(W:Wld)(k:Nat):ST:=(A4 (B7 (C9 A7) [(B4 1)]) (A4 (O7 (H3 (A6 (D0 aY (A6 (A5 0) A7)) A7)) (B4 2) (A4 (B7 (I1 W k cL E3 (D1 (A5 0) (A5 2)) A7) [(B4 3)]) (A4 (sIf (D7 .NotEq (A5 3) (G1 [])) (A4 (F9 (G5 (A5 1) O1 aG (A6 (I8 (A6 (D1 (A5 3) (B6 0)) (A6 (A5 2) (A6 (A5 3) A7)))) A7))) B5) B5) B5))) (A4 (F9 (D0 (fnB W k bA) (A6 (A5 1) A7))) (A4 (B7 (C9 A7) [(B4 4)]) (A4 (cE (J4 (A5 1)) (A4 (B7 (D1 (A5 1) (B6 0)) [(J8 (J9 3 (D9 (B4 5) (D9 (B4 2) (D9 (B4 3) J7)))))]) (A4 (F9 (G5 (A5 4) O1 aG (A6 (A5 3) A7))) (A4 (B7 (I1 W k cL E3 (D1 (A5 0) (A5 2)) A7) [(B4 6)]) (A4 (sIf (D7 .Eq (A5 6) (G1 [])) (A4 (F9 (D0 (fnB W k bz) (A6 (A5 1) A7))) B5) (A4 (F9 (D0 (fnB W k V8) (A6 (A5 1) (A6 (I8 (A6 (D1 (A5 6) (B6 0)) (A6 (A5 2) (A6 (A5 6) A7)))) A7)))) B5)) B5))))) (A4 (G2 (A5 4)) B5))))))
theorem kO(G:GI W):O0 W k fG (C4 19) (fH W k):=(A8 (G8 (Q5 D5) (.cons (zV 1 rfl) rfl .nil) (λ Y Y=>⟨rfl,rfl⟩)) (A8 (dD (K8 rfl G.z_range G.b_range (B0 (xBl rfl G.z_len G.b_len (.inl ⟨_,rfl⟩) Q8 (B0 (xV 0 rfl) D5 rfl) rfl) D5 rfl) rfl) (zV 2 rfl) (A8 (G8 (gn (L8 (xV 0 rfl) (xV 2 rfl) rfl) aV G.e__netrclex_get_token D5 rfl (by decide) rfl) (.cons (zV 3 rfl) rfl .nil) (λ Y Y=>⟨rfl,rfl⟩)) (A8 (eIf (Q4 (xV 3 rfl) (ar rfl) rfl) (A8 (bj (bH (xV 1 rfl) A9 (U0 Go Gp) W5 (B0 (g9 (B0 (L8 (xV 3 rfl) F7 rfl) (B0 (xV 2 rfl) (B0 (xV 3 rfl) D5 rfl) rfl) rfl)) D5 rfl) rfl (by decide) rfl) (M3 rfl rfl)) F8) F8) F8)) (λ Y Y=>rfl)) (A8 (bj (xFn rfl G.m_heapify G.o_heapify (B0 (xV 1 rfl) D5 rfl) rfl) (M3 rfl rfl)) (A8 (G8 (Q5 D5) (.cons (zV 4 rfl) rfl .nil) (λ Y Y=>⟨rfl,rfl⟩)) (A8 (jH (mv (xV 1 rfl) rfl) (A8 (G8 (L8 (xV 1 rfl) F7 rfl) (.cons (nW (n:=3) (Z6 (zV 5 rfl) (Z6 (zV 2 rfl) (Z6 (zV 3 rfl) nV rfl) rfl) rfl) rfl rfl) rfl .nil) (λ Y Y=>⟨rfl,rfl⟩)) (A8 (bj (bH (xV 4 rfl) A9 (U0 Go Gp) W5 (B0 (xV 3 rfl) D5 rfl) rfl (by decide) rfl) (M3 rfl rfl)) (A8 (G8 (gn (L8 (xV 0 rfl) (xV 2 rfl) rfl) aV G.e__netrclex_get_token D5 rfl (by decide) rfl) (.cons (zV 6 rfl) rfl .nil) (λ Y Y=>⟨rfl,rfl⟩)) (A8 (eIf (Q4 (xV 6 rfl) (ar rfl) rfl) (A8 (bj (xFn rfl G.m_heappop G.o_heappop (B0 (xV 1 rfl) D5 rfl) rfl) (M3 rfl rfl)) F8) (A8 (bj (xFn rfl G.m_heapreplace G.o_heapreplace (B0 (xV 1 rfl) (B0 (g9 (B0 (L8 (xV 6 rfl) F7 rfl) (B0 (xV 2 rfl) (B0 (xV 6 rfl) D5 rfl) rfl) rfl)) D5 rfl) rfl) rfl) (M3 rfl rfl)) F8)) F8))))) (A8 (Y7 (xV 4 rfl)) F8))))))
noncomputable def gI:Fm:=⟨H8 21,[(js,0),(x9,1),(rg,2),(uY,3)]⟩
def gJ(W:Wld)(k:Nat):ST:=(A4 (B7 (C9 (A6 (I8 (A6 (B6 0) (A6 (B6 0) A7))) A7)) [(B4 1)]) (A4 (O7 (aF (A5 0)) (J8 (J9 2 (D9 (B4 2) (D9 (B4 3) J7)))) (A4 (sIf (D7 .Gt (A5 3) (D1 (D1 (A5 1) (I9 (B6 1))) (B6 1))) (A4 (sIf (D7 .Eq (A5 2) (D1 (D1 (A5 1) (I9 (B6 1))) (B6 0))) (A4 (F9 (G5 (A5 1) O1 mF A7)) B5) B5) (A4 (F9 (G5 (A5 1) O1 aG (A6 (I8 (A6 (A5 2) (A6 (A5 3) A7))) A7))) B5)) B5) B5)) (A4 (G2 (A5 1)) B5)))
theorem mU(G:GI W):O0 W k gI (C4 21) (gJ W k):=(A8 (G8 (Q5 (B0 (g9 (B0 F7 (B0 F7 D5 rfl) rfl)) D5 rfl)) (.cons (zV 1 rfl) rfl .nil) (λ Y Y=>⟨rfl,rfl⟩)) (A8 (dD (ah (xV 0 rfl)) (nW (n:=2) (Z6 (zV 2 rfl) (Z6 (zV 3 rfl) nV rfl) rfl) rfl rfl) (A8 (eIf (Q4 (xV 3 rfl) (L8 (L8 (xV 1 rfl) (jF F7) rfl) F7 rfl) rfl) (A8 (eIf (Q4 (xV 2 rfl) (L8 (L8 (xV 1 rfl) (jF F7) rfl) F7 rfl) rfl) (A8 (bj (bH (xV 1 rfl) A9 (U0 Il JG) jh D5 rfl (by decide) rfl) (M3 rfl rfl)) F8) F8) (A8 (bj (bH (xV 1 rfl) A9 (U0 Go Gp) W5 (B0 (g9 (B0 (xV 2 rfl) (B0 (xV 3 rfl) D5 rfl) rfl)) D5 rfl) rfl (by decide) rfl) (M3 rfl rfl)) F8)) F8) F8) (λ Y Y=>rfl)) (A8 (Y7 (xV 1 rfl)) F8)))
noncomputable def iU:Fm:=⟨H8 22,[(jo,0),(d6,1),(u9,2),(u7,3),(Ao,4),(rh,5),(Av,6),(n_i,7)]⟩
def iV(W:Wld)(k:Nat):ST:=(A4 (B7 (C9 (A6 (B6 0) A7)) [(B4 2)]) (A4 (B7 (C9 (A6 (B6 0) A7)) [(B4 3)]) (A4 (O7 (H3 (A6 (B6 1) (A6 (C2 .LShift (B6 1) (D0 aY (A6 (A5 0) A7))) A7))) (B4 4) (A4 (B7 (C2 .Sub (G5 (A5 4) pJ blB A7) (B6 1)) [(B4 5)]) (A4 (F9 (G5 (A5 2) O1 aG (A6 (C2 .Add (D1 (A5 2) (C2 .Sub (A5 4) (C2 .LShift (B6 1) (A5 5)))) (D1 (A5 0) (A5 5))) A7))) (A4 (B7 (C9 A7) [(B4 6)]) (A4 (O7 (H3 (A6 (D0 aY (A6 (A5 0) A7)) A7)) (B4 7) (A4 (sIf (L1 (J4 (C2 .BitAnd (C2 .RShift (A5 4) (A5 7)) (B6 1))) (D7 .IsNot (D1 (A5 3) (C2 .Sub (A5 4) (C2 .LShift (B6 1) (A5 7)))) G7)) (A4 (sIf (tOr (D7 .Lt (D1 (A5 1) (A5 7)) (B6 0)) (J4 (C2 .BitAnd (C2 .RShift (A5 4) (D1 (A5 1) (A5 7))) (B6 1)))) (A4 (F9 (G5 (A5 6) O1 aG (A6 (D1 (A5 3) (C2 .Sub (A5 4) (C2 .LShift (B6 1) (A5 7)))) A7))) B5) B5) B5) B5) B5)) (A4 (sIf (D7 .Eq (A5 6) (C9 A7)) (A4 (F9 (G5 (A5 3) O1 aG (A6 G7 A7))) B5) (A4 (F9 (G5 (A5 3) O1 aG (A6 (D0 gu (A6 (D0 xm (A6 (A5 6) A7)) (A6 (I9 (D1 (A5 2) (A5 4))) A7))) A7))) B5)) B5)))))) (A4 (G2 (I8 (A6 (D1 (A5 3) (I9 (B6 1))) (A6 (D0 uU (A6 (N5 (H3 (A6 (D0 aY (A6 (A5 2) A7)) A7)) (D7 .IsNot (D1 (A5 3) (A5 8)) G7) (I8 (A6 (D1 (A5 3) (A5 8)) (A6 (D1 (A5 2) (A5 8)) A7))) 8) A7)) A7)))) B5))))
theorem oX(G:GI W):O0 W k iU (C4 22) (iV W k):=(A8 (G8 (Q5 (B0 F7 D5 rfl)) (.cons (zV 2 rfl) rfl .nil) (λ Y Y=>⟨rfl,rfl⟩)) (A8 (G8 (Q5 (B0 F7 D5 rfl)) (.cons (zV 3 rfl) rfl .nil) (λ Y Y=>⟨rfl,rfl⟩)) (A8 (dD (K8 rfl G.z_range G.b_range (B0 F7 (B0 (J3 F7 (xBl rfl G.z_len G.b_len (.inl ⟨_,rfl⟩) Q8 (B0 (xV 0 rfl) D5 rfl) rfl)) D5 rfl) rfl) rfl) (zV 4 rfl) (A8 (G8 (J3 (bH (xV 4 rfl) A9 (BE PySem.F.slot_int_bit_length PySem.F.type_int_bit_length) zT D5 rfl (by decide) rfl) F7) (.cons (zV 5 rfl) rfl .nil) (λ Y Y=>⟨rfl,rfl⟩)) (A8 (bj (bH (xV 2 rfl) A9 (U0 Go Gp) W5 (B0 (J3 (L8 (xV 2 rfl) (J3 (xV 4 rfl) (J3 F7 (xV 5 rfl))) rfl) (L8 (xV 0 rfl) (xV 5 rfl) rfl)) D5 rfl) rfl (by decide) rfl) (M3 rfl rfl)) (A8 (G8 (Q5 D5) (.cons (zV 6 rfl) rfl .nil) (λ Y Y=>⟨rfl,rfl⟩)) (A8 (dD (K8 rfl G.z_range G.b_range (B0 (xBl rfl G.z_len G.b_len (.inl ⟨_,rfl⟩) Q8 (B0 (xV 0 rfl) D5 rfl) rfl) D5 rfl) rfl) (zV 7 rfl) (A8 (eIf (rZ (mv (J3 (J3 (xV 4 rfl) (xV 7 rfl)) F7) rfl) (Q4 (L8 (xV 3 rfl) (J3 (xV 4 rfl) (J3 F7 (xV 7 rfl))) rfl) ql rfl)) (A8 (eIf (uOr (Q4 (L8 (xV 1 rfl) (xV 7 rfl) rfl) F7 rfl) (mv (J3 (J3 (xV 4 rfl) (L8 (xV 1 rfl) (xV 7 rfl) rfl)) F7) rfl)) (A8 (bj (bH (xV 6 rfl) A9 (U0 Go Gp) W5 (B0 (L8 (xV 3 rfl) (J3 (xV 4 rfl) (J3 F7 (xV 7 rfl))) rfl) D5 rfl) rfl (by decide) rfl) (M3 rfl rfl)) F8) F8) F8) F8) F8) (λ Y Y=>rfl)) (A8 (eIf (Q4 (xV 6 rfl) (Q5 D5) rfl) (A8 (bj (bH (xV 3 rfl) A9 (U0 Go Gp) W5 (B0 ql D5 rfl) rfl (by decide) rfl) (M3 rfl rfl)) F8) (A8 (bj (bH (xV 3 rfl) A9 (U0 Go Gp) W5 (B0 (xBl rfl G.z_max G.b_max (.inl ⟨_,rfl⟩) c8 (B0 (xBl rfl G.z_min G.b_min (.inl ⟨_,rfl⟩) qE (B0 (xV 6 rfl) D5 rfl) rfl) (B0 (jF (L8 (xV 2 rfl) (xV 4 rfl) rfl)) D5 rfl) rfl) rfl) D5 rfl) rfl (by decide) rfl) (M3 rfl rfl)) F8)) F8))))) (λ Y Y=>rfl)) (A8 (Y7 (g9 (B0 (L8 (xV 3 rfl) (jF F7) rfl) (B0 (xBl rfl G.z_sorted G.b_sorted (.inl ⟨_,rfl⟩) uV (B0 (cN (i:=8) rfl (K8 rfl G.z_range G.b_range (B0 (xBl rfl G.z_len G.b_len (.inl ⟨_,rfl⟩) Q8 (B0 (xV 2 rfl) D5 rfl) rfl) D5 rfl) rfl) (pI (Q4 (L8 (xV 3 rfl) (xV 8 rfl) rfl) ql rfl)) (g9 (B0 (L8 (xV 3 rfl) (xV 8 rfl) rfl) (B0 (L8 (xV 2 rfl) (xV 8 rfl) rfl) D5 rfl) rfl)) (λ Y Y=>rfl)) D5 rfl) rfl) D5 rfl) rfl))) F8))))
noncomputable def P9:Fm:=⟨P1 10 2,[(P5,0),(mS,1),(kg,2)]⟩
def Q0(W:Wld)(k:Nat):ST:=(A4 (B7 (I6 (A5 0) 7) [(J8 (J9 2 (D9 (B4 1) (D9 (B4 2) J7))))]) (A4 (G2 (D0 gu (A6 (C2 .Sub (D0 aY (A6 (A5 1) A7)) (B6 1)) (A6 (A5 2) A7)))) B5))
theorem ao(G:GI W):O0 W k P9 (N0 10 2) (Q0 W k):=(A8 (G8 (c7 (k:=7) (xV 0 rfl) A9 rfl (by decide)) (.cons (nW (n:=2) (Z6 (zV 1 rfl) (Z6 (zV 2 rfl) nV rfl) rfl) rfl rfl) rfl .nil) (λ Y Y=>⟨rfl,rfl⟩)) (A8 (Y7 (xBl rfl G.z_max G.b_max (.inl ⟨_,rfl⟩) c8 (B0 (J3 (xBl rfl G.z_len G.b_len (.inl ⟨_,rfl⟩) Q8 (B0 (xV 1 rfl) D5 rfl) rfl) F7) (B0 (xV 2 rfl) D5 rfl) rfl) rfl)) F8))
noncomputable def Y5:Fm:=⟨P1 10 3,[(P5,0),(iB,1),(mS,2),(kg,3),(ED,4),(n_i,5)]⟩
def Y6(W:Wld)(k:Nat):ST:=(A4 (B7 (I6 (A5 0) 7) [(J8 (J9 2 (D9 (B4 2) (D9 (B4 3) J7))))]) (A4 (B7 (B6 0) [(B4 4)]) (A4 (O7 (H3 (A6 (A5 1) (A6 (D0 aY (A6 (A5 2) A7)) A7))) (B4 5) (A4 (B7 (C2 .Add (A5 4) (C2 .Mult (C2 .FloorDiv (A5 5) (A5 1)) (D1 (A5 2) (A5 5)))) [(B4 4)]) B5)) (A4 (G2 (C2 .Add (A5 3) (C2 .Mult (A5 1) (C2 .Add (A5 4) (I6 (A5 0) 6))))) B5))))
theorem cf(G:GI W):O0 W k Y5 (N0 10 3) (Y6 W k):=(A8 (G8 (c7 (k:=7) (xV 0 rfl) A9 rfl (by decide)) (.cons (nW (n:=2) (Z6 (zV 2 rfl) (Z6 (zV 3 rfl) nV rfl) rfl) rfl rfl) rfl .nil) (λ Y Y=>⟨rfl,rfl⟩)) (A8 (G8 F7 (.cons (zV 4 rfl) rfl .nil) (λ Y Y=>⟨rfl,rfl⟩)) (A8 (dD (K8 rfl G.z_range G.b_range (B0 (xV 1 rfl) (B0 (xBl rfl G.z_len G.b_len (.inl ⟨_,rfl⟩) Q8 (B0 (xV 2 rfl) D5 rfl) rfl) D5 rfl) rfl) rfl) (zV 5 rfl) (A8 (G8 (J3 (xV 4 rfl) (J3 (J3 (xV 5 rfl) (xV 1 rfl)) (L8 (xV 2 rfl) (xV 5 rfl) rfl))) (.cons (zV 4 rfl) rfl .nil) (λ Y Y=>⟨rfl,rfl⟩)) F8) (λ Y Y=>rfl)) (A8 (Y7 (J3 (xV 3 rfl) (J3 (xV 1 rfl) (J3 (xV 4 rfl) (c7 (k:=6) (xV 0 rfl) A9 rfl (by decide)))))) F8))))
noncomputable def cy:Fm:=⟨P1 10 6,[(P5,0),(fh,1),(n_n,2),(EF,3)]⟩
def cz(W:Wld)(k:Nat):ST:=(A4 (sIf (D7 .GtE (I6 (A5 0) 5) (I6 (A5 1) 5)) (A4 (G2 (G0 false)) B5) B5) (A4 (sIf (L1 (J4 (I6 (A5 0) 8)) (J4 (I6 (A5 1) 8))) (A4 (G2 (L4 .LtE (I6 (A5 0) 6) (I6 (A5 1) 6))) B5) B5) (A4 (B7 (C2 .Add (D0 gu (A6 (I1 W k cW E9 (A5 0) A7) (A6 (I1 W k cW E9 (A5 1) A7) A7))) (B6 1)) [(B4 2)]) (A4 (O7 (H3 (A6 (B6 2) (A6 (C2 .Add (A5 2) (B6 1)) A7))) (B4 3) (A4 (sIf (D7 .GtE (I1 W k cW I7 (A5 0) (A6 (A5 3) A7)) (I1 W k cW I7 (A5 1) (A6 (A5 3) A7))) (A4 (G2 (G0 false)) B5) B5) B5)) (A4 (G2 (G0 true)) B5)))))
theorem gK(G:GI W):O0 W k cy (N0 10 6) (cz W k):=(A8 (eIf (Q4 (c7 (k:=5) (xV 0 rfl) A9 rfl (by decide)) (c7 (k:=5) (xV 1 rfl) A9 rfl (by decide)) rfl) (A8 (Y7 iH) F8) F8) (A8 (eIf (rZ (mv (c7 (k:=8) (xV 0 rfl) A9 rfl (by decide)) rfl) (mv (c7 (k:=8) (xV 1 rfl) A9 rfl (by decide)) rfl)) (A8 (Y7 (wR (c7 (k:=6) (xV 0 rfl) A9 rfl (by decide)) (c7 (k:=6) (xV 1 rfl) A9 rfl (by decide)) rfl)) F8) F8) (A8 (G8 (J3 (xBl rfl G.z_max G.b_max (.inl ⟨_,rfl⟩) c8 (B0 (gn (xV 0 rfl) A9 G.e_Whitespace_longest_run_of_spaces D5 rfl (by decide) rfl) (B0 (gn (xV 1 rfl) A9 G.e_Whitespace_longest_run_of_spaces D5 rfl (by decide) rfl) D5 rfl) rfl) rfl) F7) (.cons (zV 2 rfl) rfl .nil) (λ Y Y=>⟨rfl,rfl⟩)) (A8 (dD (K8 rfl G.z_range G.b_range (B0 F7 (B0 (J3 (xV 2 rfl) F7) D5 rfl) rfl) rfl) (zV 3 rfl) (A8 (eIf (Q4 (gn (xV 0 rfl) A9 G.e_Whitespace_indent_level (B0 (xV 3 rfl) D5 rfl) rfl (by decide) rfl) (gn (xV 1 rfl) A9 G.e_Whitespace_indent_level (B0 (xV 3 rfl) D5 rfl) rfl (by decide) rfl) rfl) (A8 (Y7 iH) F8) F8) F8) (λ Y Y=>rfl)) (A8 (Y7 iH) F8)))))
noncomputable def bk:Fm:=⟨P1 10 1,[(P5,0),(Aw,1),(n_S,2),(n_T,3),(mS,4),(n_b,5),(n_n,6),(EE,7),(Aj,8)]⟩
def bo(W:Wld)(k:Nat):ST:=(A4 (B7 (A5 1) [(K5 (A5 0) 4)]) (A4 (I2 (I8 (A6 (L6 (.str [32])) (A6 (L6 (.str [9])) A7))) 2 3) (A4 (B7 (C9 A7) [(B4 4)]) (A4 (B7 (B6 0) [(B4 5),(B4 6),(B4 7)]) (A4 (O7 (aF (I6 (A5 0) 4)) (B4 8) (A4 (sIf (D7 .Eq (A5 8) (A5 2)) (A4 (B7 (C2 .Add (A5 6) (B6 1)) [(B4 6)]) (A4 (B7 (C2 .Add (A5 5) (B6 1)) [(B4 5)]) B5)) (A4 (sIf (D7 .Eq (A5 8) (A5 3)) (A4 (B7 (C2 .Add (A5 6) (B6 1)) [(B4 6)]) (A4 (B7 (C2 .Add (A5 7) (B6 1)) [(B4 7)]) (A4 (sIf (D7 .GtE (A5 5) (D0 aY (A6 (A5 4) A7))) (A4 (B7 (C2 .Add (A5 4) (L5 (C9 (A6 (B6 0) A7)) (C2 .Add (C2 .Sub (A5 5) (D0 aY (A6 (A5 4) A7))) (B6 1)))) [(B4 4)]) B5) B5) (A4 (B7 (C2 .Add (D1 (A5 4) (A5 5)) (B6 1)) [(K6 (A5 4) (A5 5))]) (A4 (B7 (B6 0) [(B4 5)]) B5))))) (A4 L7 B5)) B5)) B5)) (A4 (B7 (A5 6) [(K5 (A5 0) 5)]) (A4 (B7 (A5 7) [(K5 (A5 0) 6)]) (A4 (B7 (I8 (A6 (D0 xo (A6 (A5 4) A7)) (A6 (A5 5) A7))) [(K5 (A5 0) 7)]) (A4 (B7 (L4 .LtE (D0 aY (A6 (A5 4) A7)) (B6 1)) [(K5 (A5 0) 8)]) B5)))))))))
theorem ft(G:GI W):O0 W k bk (N0 10 1) (bo W k):=(A8 (G8 (xV 1 rfl) (.cons (my (k:=4) (xV 0 rfl) rfl (by decide)) rfl .nil) (λ Y Y=>⟨rfl,rfl⟩)) (A8 (BJ (i:=2) (j:=3) (g9 (B0 (BI rfl G.m_Whitespace G.c_S) (B0 (BI rfl G.m_Whitespace G.c_T) D5 rfl) rfl)) rfl rfl (λ env h=>⟨rfl,zY rfl rfl rfl rfl rfl env h⟩)) (A8 (G8 (Q5 D5) (.cons (zV 4 rfl) rfl .nil) (λ Y Y=>⟨rfl,rfl⟩)) (A8 (G8 F7 (.cons (zV 5 rfl) rfl (.cons (zV 6 rfl) rfl (.cons (zV 7 rfl) rfl .nil))) (λ Y Y=>⟨rfl,rfl⟩)) (A8 (dD (ah (c7 (k:=4) (xV 0 rfl) A9 rfl (by decide))) (zV 8 rfl) (A8 (eIf (Q4 (xV 8 rfl) (xV 2 rfl) rfl) (A8 (G8 (J3 (xV 6 rfl) F7) (.cons (zV 6 rfl) rfl .nil) (λ Y Y=>⟨rfl,rfl⟩)) (A8 (G8 (J3 (xV 5 rfl) F7) (.cons (zV 5 rfl) rfl .nil) (λ Y Y=>⟨rfl,rfl⟩)) F8)) (A8 (eIf (Q4 (xV 8 rfl) (xV 3 rfl) rfl) (A8 (G8 (J3 (xV 6 rfl) F7) (.cons (zV 6 rfl) rfl .nil) (λ Y Y=>⟨rfl,rfl⟩)) (A8 (G8 (J3 (xV 7 rfl) F7) (.cons (zV 7 rfl) rfl .nil) (λ Y Y=>⟨rfl,rfl⟩)) (A8 (eIf (Q4 (xV 5 rfl) (xBl rfl G.z_len G.b_len (.inl ⟨_,rfl⟩) Q8 (B0 (xV 4 rfl) D5 rfl) rfl) rfl) (A8 (G8 (J3 (xV 4 rfl) (BH (Q5 (B0 F7 D5 rfl)) (J3 (J3 (xV 5 rfl) (xBl rfl G.z_len G.b_len (.inl ⟨_,rfl⟩) Q8 (B0 (xV 4 rfl) D5 rfl) rfl)) F7))) (.cons (zV 4 rfl) rfl .nil) (λ Y Y=>⟨rfl,rfl⟩)) F8) F8) (A8 (G8 (J3 (L8 (xV 4 rfl) (xV 5 rfl) rfl) F7) (.cons (mx (xV 4 rfl) (xV 5 rfl)) rfl .nil) (λ Y Y=>⟨rfl,rfl⟩)) (A8 (G8 F7 (.cons (zV 5 rfl) rfl .nil) (λ Y Y=>⟨rfl,rfl⟩)) F8))))) (A8 Bx F8)) F8)) F8) (λ Y Y=>rfl)) (A8 (G8 (xV 6 rfl) (.cons (my (k:=5) (xV 0 rfl) rfl (by decide)) rfl .nil) (λ Y Y=>⟨rfl,rfl⟩)) (A8 (G8 (xV 7 rfl) (.cons (my (k:=6) (xV 0 rfl) rfl (by decide)) rfl .nil) (λ Y Y=>⟨rfl,rfl⟩)) (A8 (G8 (g9 (B0 (xBl rfl G.z_tuple G.b_tuple (.inr ⟨_,rfl⟩) xp (B0 (xV 4 rfl) D5 rfl) rfl) (B0 (xV 5 rfl) D5 rfl) rfl)) (.cons (my (k:=7) (xV 0 rfl) rfl (by decide)) rfl .nil) (λ Y Y=>⟨rfl,rfl⟩)) (A8 (G8 (wR (xBl rfl G.z_len G.b_len (.inl ⟨_,rfl⟩) Q8 (B0 (xV 4 rfl) D5 rfl) rfl) F7 rfl) (.cons (my (k:=8) (xV 0 rfl) rfl (by decide)) rfl .nil) (λ Y Y=>⟨rfl,rfl⟩)) F8)))))))))
noncomputable def az:Fm:=⟨P1 8 3,[(P5,0),(jt,1)]⟩
def aA(W:Wld)(k:Nat):ST:=(A4 (F9 (G5 (I6 (A5 0) 3) O1 aG (A6 (A5 1) A7))) B5)
theorem dm(G:GI W):O0 W k az (N0 8 3) (aA W k):=(A8 (bj (bH (c7 (k:=3) (xV 0 rfl) A9 rfl (by decide)) bF (U0 Go Gp) W5 (B0 (xV 1 rfl) D5 rfl) rfl (by decide) rfl) (M3 rfl rfl)) F8)
noncomputable def bS:Fm:=⟨P1 8 0,[(P5,0),(Ak,1)]⟩
def bU(W:Wld)(k:Nat):ST:=(A4 (B7 (B6 1) [(K5 (A5 0) 0)]) (A4 (B7 (A5 1) [(K5 (A5 0) 1)]) (A4 (B7 (G1 [10,9,13,32]) [(K5 (A5 0) 2)]) (A4 (B7 (C9 A7) [(K5 (A5 0) 3)]) B5))))
theorem fU(G:GI W):O0 W k bS (N0 8 0) (bU W k):=(A8 (G8 F7 (.cons (my (k:=0) (xV 0 rfl) rfl (by decide)) rfl .nil) (λ Y Y=>⟨rfl,rfl⟩)) (A8 (G8 (xV 1 rfl) (.cons (my (k:=1) (xV 0 rfl) rfl (by decide)) rfl .nil) (λ Y Y=>⟨rfl,rfl⟩)) (A8 (G8 (ar rfl) (.cons (my (k:=2) (xV 0 rfl) rfl (by decide)) rfl .nil) (λ Y Y=>⟨rfl,rfl⟩)) (A8 (G8 (Q5 D5) (.cons (my (k:=3) (xV 0 rfl) rfl (by decide)) rfl .nil) (λ Y Y=>⟨rfl,rfl⟩)) F8))))
noncomputable def iW:Fm:=⟨H8 16,[(u0,0),(fh,1)]⟩
def iX(W:Wld)(k:Nat):ST:=(A4 (G2 (L4 .Eq (M5 (A6 (A5 0) (A6 (A5 1) A7))) (C9 A7))) B5)
theorem oY(G:GI W):O0 W k iW (C4 16) (iX W k):=(A8 (Y7 (wR (Ey rfl rfl G.z_zip G.b_zip (B0 (xV 0 rfl) (B0 (xV 1 rfl) D5 rfl) rfl) rfl (Q4 (xV 0 rfl) (xV 1 rfl) rfl) (xV 0 rfl)) (Q5 D5) rfl)) F8)
noncomputable def aB:Fm:=⟨P1 8 1,[(P5,0),(Aj,1)]⟩
def aC(W:Wld)(k:Nat):ST:=(A4 (B7 (M4 W k (I6 (A5 0) 1) (A6 (B6 1) A7)) [(B4 1)]) (A4 (sIf (D7 .Eq (A5 1) (G1 [10])) (A4 (I5 (A5 0) 0 (B6 1)) B5) B5) (A4 (G2 (A5 1)) B5)))
theorem dn(G:GI W):O0 W k aB (N0 8 1) (aC W k):=(A8 (G8 (Ew (c7 (k:=1) (xV 0 rfl) A9 rfl (by decide)) bF rfl (B0 F7 D5 rfl) rfl (by decide) rfl) (.cons (zV 1 rfl) rfl .nil) (λ Y Y=>⟨rfl,rfl⟩)) (A8 (eIf (Q4 (xV 1 rfl) (ar rfl) rfl) (A8 (BA (k:=0) (xV 0 rfl) F7 rfl (by decide)) F8) F8) (A8 (Y7 (xV 1 rfl)) F8)))
noncomputable def aJ:Fm:=⟨P1 8 2,[(P5,0),(jt,1),(xT,2),(Aj,3)]⟩
def W2(W:Wld)(k:Nat):ST:=(A4 (sIf (J4 (I6 (A5 0) 3)) (A4 (G2 (G5 (I6 (A5 0) 3) O1 mF (A6 (B6 0) A7))) B5) B5) (A4 (B7 (G1 []) [(B4 1)]) (A4 (B7 (D0 qJ (A6 (M1 cL C0 (A5 0)) (A6 (G1 []) A7))) [(B4 2)]) (A4 (gw W k (A5 2) (B4 3) (A4 (sIf (D7 .In (A5 3) (I6 (A5 0) 2)) (A4 H7 B5) B5) (A4 (sIf (D7 .Eq (A5 3) (G1 [34])) (A4 (gw W k (A5 2) (B4 3) (A4 (sIf (D7 .Eq (A5 3) (G1 [34])) (A4 (G2 (A5 1)) B5) (A4 (sIf (D7 .Eq (A5 3) (G1 [92])) (A4 (B7 (I1 W k cL C0 (A5 0) A7) [(B4 3)]) B5) B5) B5)) (A4 (H0 1 (A5 3)) B5))) B5) (A4 (sIf (D7 .Eq (A5 3) (G1 [92])) (A4 (B7 (I1 W k cL C0 (A5 0) A7) [(B4 3)]) B5) B5) (A4 (H0 1 (A5 3)) (A4 (gw W k (A5 2) (B4 3) (A4 (sIf (D7 .In (A5 3) (I6 (A5 0) 2)) (A4 (G2 (A5 1)) B5) (A4 (sIf (D7 .Eq (A5 3) (G1 [92])) (A4 (B7 (I1 W k cL C0 (A5 0) A7) [(B4 3)]) B5) B5) B5)) (A4 (H0 1 (A5 3)) B5))) B5)))) B5))) (A4 (G2 (A5 1)) B5)))))
theorem aK(G:GI W):O0 W k aJ (N0 8 2) (W2 W k):=(A8 (eIf (mv (c7 (k:=3) (xV 0 rfl) A9 rfl (by decide)) rfl) (A8 (Y7 (bH (c7 (k:=3) (xV 0 rfl) A9 rfl (by decide)) bF (U0 Il JG) jh (B0 F7 D5 rfl) rfl (by decide) rfl)) F8) F8) (A8 (G8 (ar rfl) (.cons (zV 1 rfl) rfl .nil) (λ Y Y=>⟨rfl,rfl⟩)) (A8 (G8 (xBl rfl G.z_iter G.b_iter (.inl ⟨_,rfl⟩) uk (B0 (Ex (xV 0 rfl) A9 G.e__netrclex__read_char (by decide)) (B0 (ar rfl) D5 rfl) rfl) rfl) (.cons (zV 2 rfl) rfl .nil) (λ Y Y=>⟨rfl,rfl⟩)) (A8 (uq (xV 2 rfl) (zV 3 rfl) (A8 (eIf (Q4 (xV 3 rfl) (c7 (k:=2) (xV 0 rfl) A9 rfl (by decide)) rfl) (A8 za F8) F8) (A8 (eIf (Q4 (xV 3 rfl) (ar rfl) rfl) (A8 (uq (xV 2 rfl) (zV 3 rfl) (A8 (eIf (Q4 (xV 3 rfl) (ar rfl) rfl) (A8 (Y7 (xV 1 rfl)) F8) (A8 (eIf (Q4 (xV 3 rfl) (ar rfl) rfl) (A8 (G8 (gn (xV 0 rfl) A9 G.e__netrclex__read_char D5 rfl (by decide) rfl) (.cons (zV 3 rfl) rfl .nil) (λ Y Y=>⟨rfl,rfl⟩)) F8) F8) F8)) (A8 (tT (i:=1) (xV 3 rfl) rfl rfl) F8)) (λ Y Y=>rfl)) F8) (A8 (eIf (Q4 (xV 3 rfl) (ar rfl) rfl) (A8 (G8 (gn (xV 0 rfl) A9 G.e__netrclex__read_char D5 rfl (by decide) rfl) (.cons (zV 3 rfl) rfl .nil) (λ Y Y=>⟨rfl,rfl⟩)) F8) F8) (A8 (tT (i:=1) (xV 3 rfl) rfl rfl) (A8 (uq (xV 2 rfl) (zV 3 rfl) (A8 (eIf (Q4 (xV 3 rfl) (c7 (k:=2) (xV 0 rfl) A9 rfl (by decide)) rfl) (A8 (Y7 (xV 1 rfl)) F8) (A8 (eIf (Q4 (xV 3 rfl) (ar rfl) rfl) (A8 (G8 (gn (xV 0 rfl) A9 G.e__netrclex__read_char D5 rfl (by decide) rfl) (.cons (zV 3 rfl) rfl .nil) (λ Y Y=>⟨rfl,rfl⟩)) F8) F8) F8)) (A8 (tT (i:=1) (xV 3 rfl) rfl rfl) F8)) (λ Y Y=>rfl)) F8)))) F8)) (λ Y Y=>rfl)) (A8 (Y7 (xV 1 rfl)) F8)))))
noncomputable def O9:Fm:=⟨H8 23,[(bR,0),(oV,1),(xW,2),(n_k,3),(xZ,4),(xS,5),(yc,6),(O3,7),(tb,8),(Au,9),(jr,10),(jo,11),(d6,12),(s8,13),(Cf,14),(Am,15),(jq,16),(jm,17),(yb,18),(xY,19),(js,20),(rg,21),(Al,22),(uZ,23),(kd,24),(oR,25),(oU,26),(u9,27),(xX,28),(As,29)]⟩
def gL(W:Wld)(k:Nat):ST:=(B7 (D0 (fnB W k aa) (A6 (A5 0) (A6 (C9 (A6 (B6 96) (A6 (B6 606) (A6 (B6 1357) (A6 (B6 1692) (A6 (B6 696) (A6 (B6 1004) A7))))))) A7))) [(B4 1)])
theorem yd(G:GI W):O6 W k O9 (T9 (C4 23) 0) (gL W k):=(G8 (xFn rfl G.m__law_totals G.o__law_totals (B0 (xV 0 rfl) (B0 (Q5 (B0 F7 (B0 F7 (B0 F7 (B0 F7 (B0 F7 (B0 F7 D5 rfl) rfl) rfl) rfl) rfl) rfl)) D5 rfl) rfl) rfl) (.cons (zV 1 rfl) rfl .nil) (λ Y Y=>⟨rfl,rfl⟩))
def gM(W:Wld)(k:Nat):ST:=(B7 (C9 A7) [(B4 2)])
theorem ye(G:GI W):O6 W k O9 (T9 (C4 23) 1) (gM W k):=(G8 (Q5 D5) (.cons (zV 2 rfl) rfl .nil) (λ Y Y=>⟨rfl,rfl⟩))
def gN(W:Wld)(k:Nat):ST:=(O7 (H3 (A6 (B6 6) A7)) (B4 3) (A4 (B7 (D1 (C9 (A6 (G1 []) (A6 (G1 [32]) (A6 (G1 [9]) (A6 (G1 [32,9]) A7))))) (C2 .Mod (C2 .FloorDiv (D1 (A5 1) (A5 3)) (B6 6)) (B6 4))) [(B4 4)]) (A4 (F9 (G5 (A5 2) O1 aG (A6 (C2 .Add (pIf (D7 .Gt (A5 3) (B6 0)) (D1 (A5 2) (C2 .Mod (D1 (A5 1) (A5 3)) (A5 3))) (G1 [])) (A5 4)) A7))) B5)))
theorem yf(G:GI W):O6 W k O9 (T9 (C4 23) 2) (gN W k):=(dD (K8 rfl G.z_range G.b_range (B0 F7 D5 rfl) rfl) (zV 3 rfl) (A8 (G8 (L8 (Q5 (B0 (ar rfl) (B0 (ar rfl) (B0 (ar rfl) (B0 (ar rfl) D5 rfl) rfl) rfl) rfl)) (J3 (J3 (L8 (xV 1 rfl) (xV 3 rfl) rfl) F7) F7) rfl) (.cons (zV 4 rfl) rfl .nil) (λ Y Y=>⟨rfl,rfl⟩)) (A8 (bj (bH (xV 2 rfl) A9 (U0 Go Gp) W5 (B0 (J3 (xIf (Q4 (xV 3 rfl) F7 rfl) (L8 (xV 2 rfl) (J3 (L8 (xV 1 rfl) (xV 3 rfl) rfl) (xV 3 rfl)) rfl) (ar rfl)) (xV 4 rfl)) D5 rfl) rfl (by decide) rfl) (M3 rfl rfl)) F8)) (λ Y Y=>rfl))
def gO(W:Wld)(k:Nat):ST:=(B7 (N5 (aF (A5 1)) F0 (C2 .Sub (C2 .Mod (C2 .FloorDiv (A5 30) (B6 24)) (B6 19)) (B6 9)) 30) [(B4 5)])
theorem yg(G:GI W):O6 W k O9 (T9 (C4 23) 3) (gO W k):=(G8 (cN (i:=30) rfl (ah (xV 1 rfl)) dQ (J3 (J3 (J3 (xV 30 rfl) F7) F7) F7) (λ Y Y=>rfl)) (.cons (zV 5 rfl) rfl .nil) (qH rfl))
def gP(W:Wld)(k:Nat):ST:=(G4 (N5 (H3 (A6 (B6 6) A7)) F0 (C2 .Add (C2 .Add (D1 (A5 2) (A5 31)) (D1 (G1 [97,98,99,100,101,102]) (A5 31))) (D0 BF (A6 (D1 (A5 5) (A5 31)) A7))) 31) 6)
theorem yh(G:GI W):O6 W k O9 (T9 (C4 23) 4) (gP W k):=(qC (n:=6) (i:=31) rfl (K8 rfl G.z_range G.b_range (B0 F7 D5 rfl) rfl) dQ (J3 (J3 (L8 (xV 2 rfl) (xV 31 rfl) rfl) (L8 (ar rfl) (xV 31 rfl) rfl)) (xBl rfl G.z_str G.b_str (.inr ⟨_,rfl⟩) xt (B0 (L8 (xV 5 rfl) (xV 31 rfl) rfl) D5 rfl) rfl)) (λ Y Y=>rfl) (mG rfl rfl) rfl)
def gQ(W:Wld)(k:Nat):ST:=(B7 (G1 []) [(B4 7)])
theorem yi(G:GI W):O6 W k O9 (T9 (C4 23) 5) (gQ W k):=(G8 (ar rfl) (.cons (zV 7 rfl) rfl .nil) (λ Y Y=>⟨rfl,rfl⟩))
def gR(W:Wld)(k:Nat):ST:=(O7 (H3 (A6 (B6 6) A7)) (B4 3) (A4 (B7 (C2 .Add (C2 .Add (A5 7) (D0 (fnB W k X5) (A6 (D1 (A5 6) (A5 3)) (A6 (C2 .Mod (C2 .FloorDiv (D1 (A5 1) (A5 3)) (B6 456)) (B6 3)) A7)))) (D1 (C9 (A6 (G1 [10]) (A6 (G1 [32]) A7))) (C2 .Mod (C2 .FloorDiv (D1 (A5 1) (A5 3)) (B6 1368)) (B6 2)))) [(B4 7)]) B5))
theorem yj(G:GI W):O6 W k O9 (T9 (C4 23) 6) (gR W k):=(dD (K8 rfl G.z_range G.b_range (B0 F7 D5 rfl) rfl) (zV 3 rfl) (A8 (G8 (J3 (J3 (xV 7 rfl) (xFn rfl G.m__law_spelled G.o__law_spelled (B0 (L8 (xV 6 rfl) (xV 3 rfl) rfl) (B0 (J3 (J3 (L8 (xV 1 rfl) (xV 3 rfl) rfl) F7) F7) D5 rfl) rfl) rfl)) (L8 (Q5 (B0 (ar rfl) (B0 (ar rfl) D5 rfl) rfl)) (J3 (J3 (L8 (xV 1 rfl) (xV 3 rfl) rfl) F7) F7) rfl)) (.cons (zV 7 rfl) rfl .nil) (λ Y Y=>⟨rfl,rfl⟩)) F8) (λ Y Y=>rfl))
def ju(W:Wld)(k:Nat):ST:=(B7 (D0 (fnB W k N6) (A6 (A5 7) A7)) [(B4 8)])
theorem yk(G:GI W):O6 W k O9 (T9 (C4 23) 7) (ju W k):=(G8 (xFn rfl G.m__law_lexer G.o__law_lexer (B0 (xV 7 rfl) D5 rfl) rfl) (.cons (zV 8 rfl) rfl .nil) (λ Y Y=>⟨rfl,rfl⟩))
def gS(W:Wld)(k:Nat):ST:=(B7 (N5 (H3 (A6 (B6 6) A7)) F0 (I1 W k cL E3 (A5 8) A7) 32) [(B4 9)])
theorem yl(G:GI W):O6 W k O9 (T9 (C4 23) 8) (gS W k):=(G8 (cN (i:=32) rfl (K8 rfl G.z_range G.b_range (B0 F7 D5 rfl) rfl) dQ (gn (xV 8 rfl) A9 G.e__netrclex_get_token D5 rfl (by decide) rfl) (λ Y Y=>rfl)) (.cons (zV 9 rfl) rfl .nil) (qH rfl))
def gT(W:Wld)(k:Nat):ST:=(sIf (M0 (D7 .NotEq (A5 9) (A5 6)) (D7 .NotEq (I1 W k cL E3 (A5 8) A7) (G1 [])) (D7 .NotEq (I6 (A5 8) 0) (C2 .Add (B6 1) (G5 (A5 7) isStr zU (A6 (G1 [10]) A7))))) (A4 (G2 (G0 false)) B5) B5)
theorem ym(G:GI W):O6 W k O9 (T9 (C4 23) 9) (gT W k):=(eIf (Et (Q4 (xV 9 rfl) (xV 6 rfl) rfl) (Q4 (gn (xV 8 rfl) A9 G.e__netrclex_get_token D5 rfl (by decide) rfl) (ar rfl) rfl) (Q4 (c7 (k:=0) (xV 8 rfl) A9 rfl (by decide)) (J3 F7 (bH (xV 7 rfl) A9 (ze PySem.F.slot_str_count PySem.F.type_str_count) xw (B0 (ar rfl) D5 rfl) rfl (by decide) rfl)) rfl)) (A8 (Y7 iH) F8) F8)
def ei(W:Wld)(k:Nat):ST:=(B7 (N5 (aF (A5 9)) F0 (D0 (nwC W k cW 115) (A6 (A5 33) A7)) 33) [(B4 10)])
theorem vb(G:GI W):O6 W k O9 (T9 (C4 23) 10) (ei W k):=(G8 (cN (i:=33) rfl (ah (xV 9 rfl)) dQ (BK rfl G.m_Whitespace G.w_Whitespace (B0 (xV 33 rfl) D5 rfl) rfl) (λ Y Y=>rfl)) (.cons (zV 10 rfl) rfl .nil) (qH rfl))
def eu(W:Wld)(k:Nat):ST:=(sIf (D7 .NotEq (N5 (aF (A5 10)) F0 (I6 (A5 34) 5) 34) (N5 (aF (A5 2)) F0 (D0 aY (A6 (A5 35) A7)) 35)) (A4 (G2 (G0 false)) B5) B5)
theorem vc(G:GI W):O6 W k O9 (T9 (C4 23) 11) (eu W k):=(eIf (Q4 (cN (i:=34) rfl (ah (xV 10 rfl)) dQ (c7 (k:=5) (xV 34 rfl) A9 rfl (by decide)) (λ Y Y=>rfl)) (cN (i:=35) rfl (ah (xV 2 rfl)) dQ (xBl rfl G.z_len G.b_len (.inl ⟨_,rfl⟩) Q8 (B0 (xV 35 rfl) D5 rfl) rfl) (λ Y Y=>rfl)) rfl) (A8 (Y7 iH) F8) F8)
def ew(W:Wld)(k:Nat):ST:=(G4 (N5 (H3 (A6 (B6 6) A7)) F0 (D0 BG (A6 (L2 (D1 (A5 9) (A5 36)) (.some (C2 .Add (I6 (D1 (A5 10) (A5 36)) 5) (B6 1))) .none) A7)) 36) 11)
theorem vd(G:GI W):O6 W k O9 (T9 (C4 23) 12) (ew W k):=(qC (n:=11) (i:=36) rfl (K8 rfl G.z_range G.b_range (B0 F7 D5 rfl) rfl) dQ (xBl rfl G.z_int G.b_int (.inr ⟨_,rfl⟩) xu (B0 (wV (L8 (xV 9 rfl) (xV 36 rfl) rfl) (.some (J3 (c7 (k:=5) (L8 (xV 10 rfl) (xV 36 rfl) rfl) aV rfl (by decide)) F7)) .none) D5 rfl) rfl) (λ Y Y=>rfl) (mG rfl rfl) rfl)
def ez(W:Wld)(k:Nat):ST:=(B7 (D0 (fnB W k X7) (A6 (A5 10) A7)) [(B4 12)])
theorem ve(G:GI W):O6 W k O9 (T9 (C4 23) 13) (ez W k):=(G8 (xFn rfl G.m__law_outline G.o__law_outline (B0 (xV 10 rfl) D5 rfl) rfl) (.cons (zV 12 rfl) rfl .nil) (λ Y Y=>⟨rfl,rfl⟩))
def eA(W:Wld)(k:Nat):ST:=(B7 (N5 (aF (A5 2)) F0 (D0 (fnB W k X6) (A6 (A5 37) (A6 (B6 8) A7))) 37) [(B4 13)])
theorem vf(G:GI W):O6 W k O9 (T9 (C4 23) 14) (eA W k):=(G8 (cN (i:=37) rfl (ah (xV 2 rfl)) dQ (xFn rfl G.m__law_columns G.o__law_columns (B0 (xV 37 rfl) (B0 F7 D5 rfl) rfl) rfl) (λ Y Y=>rfl)) (.cons (zV 13 rfl) rfl .nil) (qH rfl))
def eB(W:Wld)(k:Nat):ST:=(B7 (C9 A7) [(B4 14)])
theorem vg(G:GI W):O6 W k O9 (T9 (C4 23) 15) (eB W k):=(G8 (Q5 D5) (.cons (zV 14 rfl) rfl .nil) (λ Y Y=>⟨rfl,rfl⟩))
def eC(W:Wld)(k:Nat):ST:=(O7 (H3 (A6 (B6 6) A7)) (B4 3) (A4 (G4 (N5 (H3 (A6 (A5 3) A7)) (D7 .Eq (N5 (H3 (A6 (C2 .Add (A5 38) (B6 1)) (A6 (C2 .Add (A5 3) (B6 1)) A7))) (L3 (J4 (D0 (fnB W k aq) (A6 (D1 (A5 13) (A5 38)) (A6 (D1 (A5 13) (A5 39)) A7))))) (A5 39) 39) (C9 A7)) (A5 38) 38) 15) (A4 (F9 (G5 (A5 14) O1 aG (A6 (D0 gu (A6 (C2 .Add (C9 (A6 (I9 (B6 1)) A7)) (A5 15)) A7)) A7))) B5)))
theorem vh(G:GI W):O6 W k O9 (T9 (C4 23) 16) (eC W k):=(dD (K8 rfl G.z_range G.b_range (B0 F7 D5 rfl) rfl) (zV 3 rfl) (A8 (qC (n:=15) (i:=38) rfl (K8 rfl G.z_range G.b_range (B0 (xV 3 rfl) D5 rfl) rfl) (pI (Q4 (cN (i:=39) rfl (K8 rfl G.z_range G.b_range (B0 (J3 (xV 38 rfl) F7) (B0 (J3 (xV 3 rfl) F7) D5 rfl) rfl) rfl) (pI (zI (mv (xFn rfl G.m__law_less G.o__law_less (B0 (L8 (xV 13 rfl) (xV 38 rfl) rfl) (B0 (L8 (xV 13 rfl) (xV 39 rfl) rfl) D5 rfl) rfl) rfl) rfl))) (xV 39 rfl) (λ Y Y=>rfl)) (Q5 D5) rfl)) (xV 38 rfl) (λ Y Y=>rfl) (mG rfl rfl) rfl) (A8 (bj (bH (xV 14 rfl) A9 (U0 Go Gp) W5 (B0 (xBl rfl G.z_max G.b_max (.inl ⟨_,rfl⟩) c8 (B0 (J3 (Q5 (B0 (jF F7) D5 rfl)) (xV 15 rfl)) D5 rfl) rfl) D5 rfl) rfl (by decide) rfl) (M3 rfl rfl)) F8)) (λ Y Y=>rfl))
def eD(W:Wld)(k:Nat):ST:=(sIf (D7 .NotEq (A5 12) (A5 14)) (A4 (G2 (G0 false)) B5) B5)
theorem vi(G:GI W):O6 W k O9 (T9 (C4 23) 17) (eD W k):=(eIf (Q4 (xV 12 rfl) (xV 14 rfl) rfl) (A8 (Y7 iH) F8) F8)
def cQ(W:Wld)(k:Nat):ST:=(B7 (L5 (C9 (A6 G7 A7)) (B6 6)) [(B4 16)])
theorem vj(G:GI W):O6 W k O9 (T9 (C4 23) 18) (cQ W k):=(G8 (BH (Q5 (B0 ql D5 rfl)) F7) (.cons (zV 16 rfl) rfl .nil) (λ Y Y=>⟨rfl,rfl⟩))
def cR(W:Wld)(k:Nat):ST:=(O7 (sA (A6 (B6 6) A7)) (B4 3) (A4 (B7 (D0 (fnB W k P7) (A6 (N5 (H3 (A6 (C2 .Add (A5 3) (B6 1)) (A6 (B6 6) A7))) (D7 .Eq (D1 (A5 12) (A5 40)) (A5 3)) (D1 (A5 16) (A5 40)) 40) A7)) [(B4 17)]) (A4 (B7 (D0 (fnB W k Y2) (A6 (A5 3) (A6 (D1 (A5 11) (A5 3)) (A6 (A5 17) A7)))) [(K6 (A5 16) (A5 3))]) B5)))
theorem vk(G:GI W):O6 W k O9 (T9 (C4 23) 19) (cR W k):=(dD (qA rfl G.z_range G.b_range rfl G.z_reversed G.b_reversed (B0 F7 D5 rfl) rfl) (zV 3 rfl) (A8 (G8 (xFn rfl G.m__law_merged G.o__law_merged (B0 (cN (i:=40) rfl (K8 rfl G.z_range G.b_range (B0 (J3 (xV 3 rfl) F7) (B0 F7 D5 rfl) rfl) rfl) (pI (Q4 (L8 (xV 12 rfl) (xV 40 rfl) rfl) (xV 3 rfl) rfl)) (L8 (xV 16 rfl) (xV 40 rfl) rfl) (λ Y Y=>rfl)) D5 rfl) rfl) (.cons (zV 17 rfl) rfl .nil) (λ Y Y=>⟨rfl,rfl⟩)) (A8 (G8 (xFn rfl G.m__law_grown G.o__law_grown (B0 (xV 3 rfl) (B0 (L8 (xV 11 rfl) (xV 3 rfl) rfl) (B0 (xV 17 rfl) D5 rfl) rfl) rfl) rfl) (.cons (mx (xV 16 rfl) (xV 3 rfl)) rfl .nil) (λ Y Y=>⟨rfl,rfl⟩)) F8)) (λ Y Y=>rfl))
def eE(W:Wld)(k:Nat):ST:=(B7 (D0 (fnB W k P7) (A6 (N5 (H3 (A6 (B6 6) A7)) (D7 .Lt (D1 (A5 12) (A5 41)) (B6 0)) (D1 (A5 16) (A5 41)) 41) A7)) [(B4 18)])
theorem vl(G:GI W):O6 W k O9 (T9 (C4 23) 20) (eE W k):=(G8 (xFn rfl G.m__law_merged G.o__law_merged (B0 (cN (i:=41) rfl (K8 rfl G.z_range G.b_range (B0 F7 D5 rfl) rfl) (pI (Q4 (L8 (xV 12 rfl) (xV 41 rfl) rfl) F7 rfl)) (L8 (xV 16 rfl) (xV 41 rfl) rfl) (λ Y Y=>rfl)) D5 rfl) rfl) (.cons (zV 18 rfl) rfl .nil) (λ Y Y=>⟨rfl,rfl⟩))
def eF(W:Wld)(k:Nat):ST:=(B7 (C9 A7) [(B4 19)])
theorem vm(G:GI W):O6 W k O9 (T9 (C4 23) 21) (eF W k):=(G8 (Q5 D5) (.cons (zV 19 rfl) rfl .nil) (λ Y Y=>⟨rfl,rfl⟩))
def eG(W:Wld)(k:Nat):ST:=(B7 (C9 A7) [(B4 20)])
theorem vn(G:GI W):O6 W k O9 (T9 (C4 23) 22) (eG W k):=(G8 (Q5 D5) (.cons (zV 20 rfl) rfl .nil) (λ Y Y=>⟨rfl,rfl⟩))
def eH(W:Wld)(k:Nat):ST:=(B7 (B6 0) [(B4 21)])
theorem vo(G:GI W):O6 W k O9 (T9 (C4 23) 23) (eH W k):=(G8 F7 (.cons (zV 21 rfl) rfl .nil) (λ Y Y=>⟨rfl,rfl⟩))
def eI(W:Wld)(k:Nat):ST:=(B7 (B6 0) [(B4 22)])
theorem vq(G:GI W):O6 W k O9 (T9 (C4 23) 24) (eI W k):=(G8 F7 (.cons (zV 22 rfl) rfl .nil) (λ Y Y=>⟨rfl,rfl⟩))
def eJ(W:Wld)(k:Nat):ST:=(O7 (aF (A5 18)) (J8 (J9 4 (D9 (B4 23) (D9 (B4 24) (D9 (B4 25) (D9 (B4 26) J7)))))) (A4 (B7 (C2 .Add (A5 19) (D0 n9 (A6 (A5 26) A7))) [(B4 19)]) (A4 (B7 (D0 gu (A6 (A5 21) (A6 (C2 .Sub (A5 24) (A5 22)) A7))) [(B4 21)]) (A4 (B7 (C2 .Add (A5 22) (A5 25)) [(B4 22)]) (A4 (sIf (D7 .GtE (A5 25) (B6 0)) (A4 (F9 (G5 (A5 20) O1 aG (A6 (I8 (A6 (A5 21) (A6 (A5 22) A7))) A7))) B5) B5) B5)))))
theorem vv(G:GI W):O6 W k O9 (T9 (C4 23) 25) (eJ W k):=(dD (ah (xV 18 rfl)) (nW (n:=4) (Z6 (zV 23 rfl) (Z6 (zV 24 rfl) (Z6 (zV 25 rfl) (Z6 (zV 26 rfl) nV rfl) rfl) rfl) rfl) rfl rfl) (A8 (G8 (J3 (xV 19 rfl) (xBl rfl G.z_list G.b_list (.inr ⟨_,rfl⟩) oe (B0 (xV 26 rfl) D5 rfl) rfl)) (.cons (zV 19 rfl) rfl .nil) (λ Y Y=>⟨rfl,rfl⟩)) (A8 (G8 (xBl rfl G.z_max G.b_max (.inl ⟨_,rfl⟩) c8 (B0 (xV 21 rfl) (B0 (J3 (xV 24 rfl) (xV 22 rfl)) D5 rfl) rfl) rfl) (.cons (zV 21 rfl) rfl .nil) (λ Y Y=>⟨rfl,rfl⟩)) (A8 (G8 (J3 (xV 22 rfl) (xV 25 rfl)) (.cons (zV 22 rfl) rfl .nil) (λ Y Y=>⟨rfl,rfl⟩)) (A8 (eIf (Q4 (xV 25 rfl) F7 rfl) (A8 (bj (bH (xV 20 rfl) A9 (U0 Go Gp) W5 (B0 (g9 (B0 (xV 21 rfl) (B0 (xV 22 rfl) D5 rfl) rfl)) D5 rfl) rfl (by decide) rfl) (M3 rfl rfl)) F8) F8) F8)))) (λ Y Y=>rfl))
def eN(W:Wld)(k:Nat):ST:=(sIf (D7 .NotEq (D0 zf (A6 (A5 19) A7)) (C9 (A6 (B6 0) (A6 (B6 1) (A6 (B6 2) (A6 (B6 3) (A6 (B6 4) (A6 (B6 5) A7)))))))) (A4 (G2 (G0 false)) B5) B5)
theorem vA(G:GI W):O6 W k O9 (T9 (C4 23) 26) (eN W k):=(eIf (Q4 (xBl rfl G.z_sorted G.b_sorted (.inl ⟨_,rfl⟩) uf (B0 (xV 19 rfl) D5 rfl) rfl) (Q5 (B0 F7 (B0 F7 (B0 F7 (B0 F7 (B0 F7 (B0 F7 D5 rfl) rfl) rfl) rfl) rfl) rfl)) rfl) (A8 (Y7 iH) F8) F8)
def eO(W:Wld)(k:Nat):ST:=(sIf (D7 .NotEq (N5 (H3 (A6 (B6 6) A7)) (L1 (D7 .GtE (D1 (A5 14) (A5 42)) (B6 0)) (D7 .Gt (G5 (A5 19) O1 xq (A6 (D1 (A5 14) (A5 42)) A7)) (G5 (A5 19) O1 xq (A6 (A5 42) A7)))) (A5 42) 42) (C9 A7)) (A4 (G2 (G0 false)) B5) B5)
theorem vB(G:GI W):O6 W k O9 (T9 (C4 23) 27) (eO W k):=(eIf (Q4 (cN (i:=42) rfl (K8 rfl G.z_range G.b_range (B0 F7 D5 rfl) rfl) (pI (rZ (Q4 (L8 (xV 14 rfl) (xV 42 rfl) rfl) F7 rfl) (Q4 (bH (xV 19 rfl) A9 (U0 Kg LD) qF (B0 (L8 (xV 14 rfl) (xV 42 rfl) rfl) D5 rfl) rfl (by decide) rfl) (bH (xV 19 rfl) A9 (U0 Kg LD) qF (B0 (xV 42 rfl) D5 rfl) rfl (by decide) rfl) rfl))) (xV 42 rfl) (λ Y Y=>rfl)) (Q5 D5) rfl) (A8 (Y7 iH) F8) F8)
def eP(W:Wld)(k:Nat):ST:=(G4 (N5 (H3 (A6 (B6 7) A7)) F0 (D0 BD (A6 (N5 (aF (L2 (A5 19) .none (.some (A5 43)))) F0 (D1 (A5 5) (A5 44)) 44) A7)) 43) 27)
theorem vC(G:GI W):O6 W k O9 (T9 (C4 23) 28) (eP W k):=(qC (n:=27) (i:=43) rfl (K8 rfl G.z_range G.b_range (B0 F7 D5 rfl) rfl) dQ (xBl rfl G.z_sum G.b_sum (.inl ⟨_,rfl⟩) xn (B0 (cN (i:=44) rfl (ah (wV (xV 19 rfl) .none (.some (xV 43 rfl)))) dQ (L8 (xV 5 rfl) (xV 44 rfl) rfl) (λ Y Y=>rfl)) D5 rfl) rfl) (λ Y Y=>rfl) (mG rfl rfl) rfl)
def eQ(W:Wld)(k:Nat):ST:=(B7 (D0 (fnB W k a0) (A6 (A5 5) (A6 (A5 14) A7))) [(J8 (J9 2 (D9 (B4 28) (D9 (B4 29) J7))))])
theorem vD(G:GI W):O6 W k O9 (T9 (C4 23) 29) (eQ W k):=(G8 (xFn rfl G.m__law_sets G.o__law_sets (B0 (xV 5 rfl) (B0 (xV 14 rfl) D5 rfl) rfl) rfl) (.cons (nW (n:=2) (Z6 (zV 28 rfl) (Z6 (zV 29 rfl) nV rfl) rfl) rfl rfl) rfl .nil) (λ Y Y=>⟨rfl,rfl⟩))
def eR(W:Wld)(k:Nat):ST:=(G2 (L9 (E4 .Eq .Eq (A5 21) (A5 28) (I9 (D0 xm (A6 (A5 27) A7)))) (L4 .Eq (D0 (fnB W k Y3) (A6 (A5 20) A7)) (D0 (fnB W k Y3) (A6 (A5 29) A7)))))
theorem vE(G:GI W):O6 W k O9 (T9 (C4 23) 30) (eR W k):=(Y7 (Es (zW (xV 21 rfl) (xV 28 rfl) (jF (xBl rfl G.z_min G.b_min (.inl ⟨_,rfl⟩) qE (B0 (xV 27 rfl) D5 rfl) rfl)) (by with_unfolding_all rfl)) (wR (xFn rfl G.m__law_steps G.o__law_steps (B0 (xV 20 rfl) D5 rfl) rfl) (xFn rfl G.m__law_steps G.o__law_steps (B0 (xV 29 rfl) D5 rfl) rfl) rfl)))
def vF(W:Wld)(k:Nat):ST:=(A4 (gL W k) (A4 (gM W k) (A4 (gN W k) (A4 (gO W k) (A4 (gP W k) (A4 (gQ W k) (A4 (gR W k) (A4 (ju W k) (A4 (gS W k) (A4 (gT W k) (A4 (ei W k) (A4 (eu W k) (A4 (ew W k) (A4 (ez W k) (A4 (eA W k) (A4 (eB W k) (A4 (eC W k) (A4 (eD W k) (A4 (cQ W k) (A4 (cR W k) (A4 (eE W k) (A4 (eF W k) (A4 (eG W k) (A4 (eH W k) (A4 (eI W k) (A4 (eJ W k) (A4 (eN W k) (A4 (eO W k) (A4 (eP W k) (A4 (eQ W k) (A4 (eR W k) B5)))))))))))))))))))))))))))))))
theorem Cg(G:GI W):O0 W k O9 (C4 23) (vF W k):=(A8 (yd G) (A8 (ye G) (A8 (yf G) (A8 (yg G) (A8 (yh G) (A8 (yi G) (A8 (yj G) (A8 (yk G) (A8 (yl G) (A8 (ym G) (A8 (vb G) (A8 (vc G) (A8 (vd G) (A8 (ve G) (A8 (vf G) (A8 (vg G) (A8 (vh G) (A8 (vi G) (A8 (vj G) (A8 (vk G) (A8 (vl G) (A8 (vm G) (A8 (vn G) (A8 (vo G) (A8 (vq G) (A8 (vv G) (A8 (vA G) (A8 (vB G) (A8 (vC G) (A8 (vD G) (A8 (vE G) F8)))))))))))))))))))))))))))))))
structure GF(W:Wld):Prop where
 f__siftdown:FnI W aZ iS [aP,dk,lV] (C4 5)
 f__siftup:FnI W Y1 lW [aP,lV] (C4 6)
 f_heapreplace:FnI W V8 fC [aP,pV] (C4 3)
 f_heappop:FnI W bz lY [aP] (C4 2)
 f_heapify:FnI W bA l0 [n_x] (C4 4)
 f__law_key:FnI W al kh [kd,oR] (C4 18)
 f__law_columns:FnI W X6 d7 [pW,rh] (C4 15)
 f__law_outline:FnI W X7 d9 [jr] (C4 17)
 f__law_totals:FnI W aa fE [bR,kc] (C4 13)
 f__law_spelled:FnI W X5 ee [pY,va] (C4 14)
 f__law_grown:FnI W Y2 gG [n_k,pU,jm] (C4 20)
 f__law_merged:FnI W P7 fG [jq] (C4 19)
 f__law_steps:FnI W Y3 gI [js] (C4 21)
 f__law_sets:FnI W a0 iU [jo,d6] (C4 22)
 f_Whitespace_longest_run_of_spaces:FnI W E9 P9 [P5] (N0 10 2)
 f_Whitespace_indent_level:FnI W I7 Y5 [P5,iB] (N0 10 3)
 f_Whitespace_less:FnI W Q9 cy [P5,fh] (N0 10 6)
 f_Whitespace_DinitD:FnI W Y8 bk [P5,Aw] (N0 10 1)
 f__netrclex_push_token:FnI W J6 az [P5,jt] (N0 8 3)
 f__netrclex_DinitD:FnI W V0 bS [P5,Ak] (N0 8 0)
 f__law_less:FnI W aq iW [u0,fh] (C4 16)
 f__netrclex__read_char:FnI W C0 aB [P5] (N0 8 1)
 f__netrclex_get_token:FnI W E3 aJ [P5] (N0 8 2)
theorem D8(h:n<1000000):n<=lim:=FE h
theorem O4(h:n<1000000):n<lim:=h
theorem ko(l:List α)(p:Nat):at' l (p:Int)=l[p]?:=if_pos (FX p)
theorem mV(l:List α)(x:α):at' (l++[x]) (-1)=some x:=by
 unfold at'
 rw[if_neg (by decide),if_pos (by rw[Fc];exact KX (Iw.mpr (GO ..)))]
 have:((-1:Int)+((l++[x]).length:Nat)).toNat=l.length:=by rw[Fc,Gs];lia
 rw[this,Hx]
theorem gU(h:i<V.length)(l:List AV):lst (V.set i (.list l)) i=some l:=J1 (Fu h)
theorem aD{x:I3}:(V++[x])[V.length]?=some x:=Hx ..
theorem E0:lst (V++[.list l]) V.length=some l:=J1 aD
theorem D2{τ:Sto}(h:lst V i=some l):lst (V++τ) i=some l:=by
 have:=F6 h
 exact J1 ((Fs (B3 this)).trans this)
theorem Y4{τ:Sto}:lst (V++(.list l::τ)) V.length=some l:=J1 (by rw[Ga (Fn _),Kt];rfl)
theorem gV{τ:Sto}{a b:I3}:(V++(a::τ)).set V.length b=V++(b::τ):=by
 rw[JD _ _ (Fn _),Kt];rfl
theorem dq{a b:I3}:(V++[a]).set V.length b=V++[b]:=gV
theorem ri{l:List α}{x c:α}(h:(l++[x])[k]?=some c):l[k]?=some c\/(k=l.length/\c=x):=by
 rcases IH k l.length with q|q
 ·rw[Fs q]at h
  exact .inl h
 ·rw[Ga q]at h
  have:=B3 h
  have e:k-l.length=0:=Ks.mp this
  rw[e]at h
  cases h
  exact .inr ⟨Gv (JF e) q,rfl⟩
theorem vG(h:n=V.length):lst (V++[.list l]) n=some l:=h▸E0
theorem ba{l:List α}{x:α}(h:l[i]?=some x):l.set i x=l:=by
 apply Nk
 intro j
 by_cases hj:i=j
 ·subst hj;rw[Fu (B3 h),h]
 ·rw[Fg hj]
theorem S9{x:Option α}{i:α}{K:α->Prop}(e:x=some i)(h:K i):inO x K:=e▸h
theorem aQ(hl:lst V i=some l):O1 V (.ref i):=show(lst V i).isSome=true from hl▸rfl
theorem cA{v:AV}{K:AV->Sto->Prop}(hl:lst V i=some l)(hz:l.length<lim)(q:K .none (V.set i (.list (l++[v])))):O1 V (.ref i)/\aG [.ref i,v] K V:=⟨aQ hl,S9 hl ⟨hz,q⟩⟩
theorem vH{K:AV->Sto->Prop}(hl:lst V i=some (l++[x]))(hz:l.length<1000)(q:K x (V.set i (.list l))):O1 V (.ref i)/\mF [.ref i] K V:=
 ⟨aQ hl,S9 hl ⟨by rw[Fc];exact fp (Nu hz) (by decide),by rw[List.getLast?_concat,List.dropLast_concat];exact q⟩⟩
theorem Ax{K:AV->Sto->Prop}(hl:lst V i=some (x::l))(hz:l.length<lim)(q:K x (V.set i (.list l))):O1 V (.ref i)/\mF [.ref i,.int 0] K V:=⟨aQ hl,rfl,S9 hl ⟨hz,q⟩⟩
theorem cS{K:AV->Sto->Prop}(hl:lst V i=some l)(hz:l.length<=lim)(q:K (.int l.length) V):aY [.ref i] K V:=S9 hl ⟨hz,q⟩
theorem Ay{l:List Nat}{K:AV->Sto->Prop}(hz:l.length<=lim)(q:K (.int l.length) V):aY [.str l] K V:=⟨hz,q⟩
theorem Az{K:AV->Sto->Prop}(hl:lst V i=some l)(hz:l.length<=lim)(q:K (.ref V.length) (V++[.list l])):n9 [.ref i] K V:=S9 hl ⟨hz,q⟩
theorem Ci{K:AV->Sto->Prop}(hl:lst V i=some l)(hz:l.length<=lim)(q:K (.tup l) V):xo [.ref i] K V:=S9 hl ⟨hz,q⟩
theorem oZ{a b:Int}(q:Q (.int (if b > a then b else a)) V):gu [.int a,.int b] Q V:=q
theorem N7{op:CmpOp}{y:AV}{Q:Bool->Sto->Prop}{b:Bool}(h:cC V op x y=some b)(q:Q b V):nN op x y Q V:=S9 h q
theorem W3{op:CmpOp}{y:AV}{A B:Sto->Prop}(h:cC V op x y=some true)(q:A V):nN op x y (λ c ON=>if c=true then A ON else B ON) V:=S9 h q
theorem W4{op:CmpOp}{y:AV}{A B:Sto->Prop}(h:cC V op x y=some false)(q:B V):nN op x y (λ c ON=>if c=true then A ON else B ON) V:=S9 h q
theorem p6{A B:Sto->Prop}(h:tL V x=some true)(q:A V):r0 x (λ c ON=>if c=true then A ON else B ON) V:=S9 h q
theorem p7{A B:Sto->Prop}(h:tL V x=some false)(q:B V):r0 x (λ c ON=>if c=true then A ON else B ON) V:=S9 h q
theorem jv(hl:lst V i=some l)(hz:l.length<=lim):tL V (.ref i)=some (!l.isEmpty):=by
 show(lst V i).bind _=_
 rw[hl,Gz,if_pos hz]
theorem V6{C:Addr}{m:List (Nat×AV)}(h:V[i]?=some (.inst C m)):iK C V (.ref i):=S9 h (show xc _ _ from rfl)
theorem aE{c:Addr}{m:List (Nat×AV)}{y:AV}(h:V[i]?=some (.inst c m))(hy:rQ m k=some y)(q:Q y V):so (.ref i) k Q V:=S9 ((wZ h).trans hy) q
theorem fI{c:Addr}{m:List (Nat×AV)}{y:AV}{Q:Sto->Prop}(h:V[i]?=some (.inst c m))(hm:m.length<=900)(q:Q (V.set i (.inst c (jA m k y)))):xd (.ref i) k y Q V:=S9 h ⟨hm,q⟩
theorem zk{lo hi:Option Int}(hl:lst V i=some l)(h:i7 lo/\i7 hi)(hz:l.length<=lim)(q:Q (.ref V.length) (V++[.list (c6 l lo hi)])):wU (.ref i) lo hi Q V:=⟨h,S9 hl ⟨hz,q⟩⟩
theorem gW{Q:(Sto->Prop)->List AV->Sto->Prop}(hl:lst V i=some l)(q:Q (λ V=>lst V i=some l) l V):itV (.ref i) Q V:=S9 hl q
theorem k_i{i:Int}{K:Int->Prop}(h:K i):inI (.int i) K:=h
theorem zl{Q:Int->Int->Sto->Prop}(h:n<1000000)(q:Q 0 n V):rgP [.int (n:Int)] Q V:=⟨⟨HA (by decide) (FX _),GP.mpr h⟩,q⟩
theorem mW{a b:List Nat}(h:a.length+b.length<=lim)(q:Q (.str (a++b)) V):tS (.str a) (.str b) Q V:=⟨h,q⟩
theorem S0{a b:Int}(q:Q (.int (a+b)) V):cK .Add (.int a) (.int b) Q V:=q
theorem fJ{a b:Int}(q:Q (.int (a-b)) V):cK .Sub (.int a) (.int b) Q V:=q
theorem l8{a b:Int}(h:b.natAbs<lim\/a.natAbs<lim)(q:Q (.int (a*b)) V):cK .Mult (.int a) (.int b) Q V:=⟨h,q⟩
theorem vI{a b:Int}(h:b≠0/\b.natAbs<lim)(q:Q (.int (a.fdiv b)) V):cK .FloorDiv (.int a) (.int b) Q V:=⟨h,q⟩
theorem rj{a b:Int}(h:b≠0)(q:Q (.int (a.fmod b)) V):cK .Mod (.int a) (.int b) Q V:=⟨h,q⟩
theorem Cj{a b:Int}(h:0<=b/\b<100/\a.natAbs<lim)(q:Q (.int (a ^ b.toNat)) V):cK .Pow (.int a) (.int b) Q V:=⟨h,q⟩
theorem zm{a b:Int}(h:0<=b/\b<100/\a.natAbs<lim)(q:Q (.int (a*2 ^ b.toNat)) V):cK .LShift (.int a) (.int b) Q V:=⟨h,q⟩
theorem zo{a b:Int}(h:0<=b)(q:Q (.int (a.fdiv (2 ^ b.toNat))) V):cK .RShift (.int a) (.int b) Q V:=⟨h,q⟩
theorem Ck{a b:Int}(q:Q (.int (Builtin.bitAnd a b)) V):cK .BitAnd (.int a) (.int b) Q V:=q
theorem fK{a b:List Nat}(h:a.length+b.length<=lim)(q:Q (.str (a++b)) V):cK .Add (.str a) (.str b) Q V:=⟨h,q⟩
theorem mX{a b:List AV}(ha:lst V i=some a)(hb:lst V j=some b)(h:a.length+b.length<=lim)(q:Q (.ref V.length) (V++[.list (a++b)])):cK .Add (.ref i) (.ref j) Q V:=S9 ha (S9 hb ⟨h,q⟩)
theorem du{ih:Nat}{L:List AV}{p:Nat}(hl:lst V ih=some L)(hx:L[p]?=some x)(hz:L.length<1000000)(q:Q x V):bh (.ref ih) (.int (p:Int)) Q V:=
 bq ⟨HA (by decide) (FX p),GP.mpr (FF (B3 hx) hz)⟩ (show(lst V ih).bind _=_ by rw[hl,Gz,ko,hx]) q
theorem bV{L:List AV}{p:Nat}{z:Int}(hl:lst V i=some L)(hz:z=(p:Int))(hx:L[p]?=some x)(hs:L.length<1000000)(q:Q x V):bh (.ref i) (.int z) Q V:=hz▸du hl hx hs q
theorem Y9{f:α->AV}{L:List α}{p:Nat}{z:Int}{x:α}(hl:lst V i=some (L.map f))(hz:z=(p:Int))(hx:L[p]?=some x)(hs:L.length<1000000)(q:Q (f x) V):bh (.ref i) (.int z) Q V:=
 bV hl hz (by rw[FK,hx];rfl) (by rw[Fd];exact hs) q
theorem AA{L:List AV}(hl:lst V i=some (L++[x]))(q:Q x V):bh (.ref i) (.int (-1)) Q V:=bq (by decide) (show(lst V i).bind _=_ by rw[hl,Gz,mV]) q
theorem AB{L:List Int}{p:Nat}{z x:Int}(hz:z=(p:Int))(hx:L[p]?=some x)(hs:L.length<1000000)(q:Q (.int x) V):bh (.clist L) (.int z) Q V:=
 hz▸bq ⟨HA (by decide) (FX p),GP.mpr (FF (B3 hx) hs)⟩ (show(at' L _).map _=_ by rw[ko,hx];rfl) q
theorem kp{L:List AV}{p:Nat}(hx:L[p]?=some x)(hs:L.length<1000000)(q:Q x V):bh (.tup L) (.int (p:Int)) Q V:=
 bq ⟨HA (by decide) (FX p),GP.mpr (FF (B3 hx) hs)⟩ ((ko L p).trans hx) q
theorem mY{ih:Nat}{L:List AV}{p:Nat}{Q:Sto->Prop}(hl:lst V ih=some L)(hp:p<L.length)(hz:L.length<1000000)(q:Q (V.set ih (.list (L.set p x)))):nY (.ref ih) (.int (p:Int)) x Q V:=
 S9 hl ⟨⟨FX p,GP.mpr hp,GP.mpr (FF hp hz)⟩,q⟩
theorem vJ{L:List AV}{p:Nat}{z:Int}{Q:Sto->Prop}(hl:lst V i=some L)(hz:z=(p:Int))(hp:p<L.length)(hs:L.length<1000000)(q:Q (V.set i (.list (L.set p x)))):nY (.ref i) (.int z) x Q V:=hz▸mY hl hp hs q
theorem ti{p:Prop}{dp:Decidable p}{A B:Prop}(h1:p->A)(h2:¬p->B):if decide p=true then A else B:=by
 by_cases h:p
 ·rw[if_pos (decide_eq_true h)];exact h1 h
 ·rw[if_neg (by rw[decide_eq_false h];decide)];exact h2 h
structure KO(I:List AV->Sto->Prop)(Q K:G3->List AV->Sto->Prop):Prop where
 nx:∀st V,I st V->K .next st V
 ct:∀st V,I st V->K .cont st V
 br:∀st V,Q .next st V->K .brk st V
 rt:∀v st V,Q (.ret v) st V->K (.ret v) st V
theorem bW{v:α->AV}{src:Sto->Prop}{g:GT}{body:ST}{Q:G3->List AV->Sto->Prop}(OM:List α->List AV->Sto->Prop)(hs:∀ks st V,OM ks st V->src V)
  (step:∀k ks st V K,OM (k::ks) st V->KO (OM ks) Q K->g (v k) st (λ Po ON=>body Po K ON) V)(fin:∀st V,OM [] st V->Q .next st V):
  ∀(ks:List α) (st:List AV) (V:Sto),OM ks st V->i8 src g body Q (ks.map v) st V
 | [],st,V,h=>⟨hs _ _ _ h,fin _ _ h⟩
 | k::ks,st,V,h=>⟨hs _ _ _ h,step k ks st V _ h ⟨λ st V h=>bW OM hs step fin ks st V h,λ st V h=>bW OM hs step fin ks st V h,λ st V h=>h,λ v st V h=>h⟩⟩
theorem fV{a:Int}:V9 a n 1=(List.range' 0 n).map λ i:Nat=>AV.int (a+i):=by unfold V9;rw[Iz];exact HG λ i Y=>by rw[NQ]
theorem mZ{v:Nat->AV}{src:Sto->Prop}{g:GT}{body:ST}{Q:G3->List AV->Sto->Prop}(OM:Nat->List AV->Sto->Prop)(hs:∀i st V,OM i st V->src V)
  (step:∀i st V K,i<n->OM i st V->KO (OM (i+1)) Q K->g (v i) st (λ Po ON=>body Po K ON) V)(fin:∀st V,OM n st V->Q .next st V):∀(m i:Nat) (st:List AV) (V:Sto),i+m=n->OM i st V->i8 src g body Q ((List.range' i m).map v) st V
 | 0,i,st,V,e,h=>⟨hs _ _ _ h,fin _ _ (by rw[<- e];exact h)⟩
 | m+1,i,st,V,e,h=>⟨hs _ _ _ h,step i st V _ (e▸Hz (Hs _)) h ⟨λ st V h=>mZ OM hs step fin m (i+1) st V ((GC _ _).trans e) h,λ st V h=>mZ OM hs step fin m (i+1) st V ((GC _ _).trans e) h,λ st V h=>h,λ v st V h=>h⟩⟩
theorem U4{a:Int}{g:GT}{body:ST}{Q:G3->List AV->Sto->Prop}(OM:Nat->List AV->Sto->Prop)
  (step:∀i st V K,i<n->OM i st V->KO (OM (i+1)) Q K->g (.int (a+i)) st (λ Po ON=>body Po K ON) V)(fin:∀st V,OM n st V->Q .next st V)(h:OM 0 st V):
  i8 (λ Y=>True) g body Q (V9 a n 1) st V:=by
 rw[fV]
 exact mZ OM (λ Y Y Y Y=>trivial) step fin n 0 st V (Gy n) h
theorem cT{t:TT}{body:ST}{Q:G3->List AV->Sto->Prop}(I:Nat->List AV->Sto->Prop)(h:I n st V)
  (step:∀n st V K,I n st V->KO (λ st V=>∃m,m<n/\I m st V) Q K->t st (λ c ON=>if c=true then body st K ON else Q .next st ON) V):cE t body st Q V:=
 ⟨I,n,h,λ n st V h=>step n st V _ h ⟨λ Y Y h=>h,λ Y Y h=>h,λ Y Y h=>h,λ Y Y Y h=>h⟩⟩
theorem fj{v:α->AV}{src:Sto->Prop}{t:TT}{e:PT}{Q:Sto->Prop}(OM:List α->List AV->Sto->Prop)(hs:∀ks acc V,OM ks acc V->src V)
  (step:∀k ks acc V (K:AV->Sto->Prop) (K':Sto->Prop),OM (k::ks) acc V->(∀y V l,lst V j=some l->l.length<lim->OM ks (l++[y]) (V.set j (.list (l++[y])))->K y V)->(∀V,OM ks acc V->K' V)->
   t (st.set i (v k)) (λ b ON=>match b with|true=>e (st.set i (v k)) K ON|false=>K' ON) V)(fin:∀acc V,OM [] acc V->Q V):
  ∀(ks:List α) (acc:List AV) (V:Sto),OM ks acc V->cp src t e i j Q (ks.map v) st V
 | [],acc,V,h=>⟨hs _ _ _ h,fin _ _ h⟩
 | k::ks,acc,V,h=>⟨hs _ _ _ h,step k ks acc V _ _ h (λ y OP l e1 e2 h'=>by
   exact S9 e1 ⟨e2,fj OM hs step fin ks _ _ h'⟩) λ OP h'=>fj OM hs step fin ks _ _ h'⟩
theorem gX{v:Nat->AV}{src:Sto->Prop}{t:TT}{e:PT}{Q:Sto->Prop}(OM:Nat->List AV->Sto->Prop)(hs:∀x acc V,OM x acc V->src V)
  (step:∀x acc V (K:AV->Sto->Prop) (K':Sto->Prop),x<n->OM x acc V->(∀y V l,lst V j=some l->l.length<lim->OM (x+1) (l++[y]) (V.set j (.list (l++[y])))->K y V)->(∀V,OM (x+1) acc V->K' V)->
   t (st.set i (v x)) (λ b ON=>match b with|true=>e (st.set i (v x)) K ON|false=>K' ON) V)(fin:∀acc V,OM n acc V->Q V):
  ∀(m x:Nat) (acc:List AV) (V:Sto),x+m=n->OM x acc V->cp src t e i j Q ((List.range' x m).map v) st V
 | 0,x,acc,V,e,h=>⟨hs _ _ _ h,fin acc _ (by rw[<- e];exact h)⟩
 | m+1,x,acc,V,e,h=>⟨hs _ _ _ h,step x acc V _ _ (e▸Hz (Hs _)) h (λ y OP l e1 e2 h'=>S9 e1 ⟨e2,gX OM hs step fin m (x+1) _ _ ((GC _ _).trans e) h'⟩) λ OP h'=>gX OM hs step fin m (x+1) acc _ ((GC _ _).trans e) h'⟩
theorem U6{v:α->AV}(b:α->Bool)(y:α->AV){src:Sto->Prop}{t:TT}{e:PT}{Q:Sto->Prop}{ks:List α}(hs:∀acc,src (V++[.list acc]))(hz:ks.length<lim)
  (step:∀k,k∈ks->∀acc (K:AV->Sto->Prop) (K':Sto->Prop),(b k=true->K (y k) (V++[.list acc]))->(b k=false->K' (V++[.list acc]))->
   t (st.set i (v k)) (λ b ON=>match b with|true=>e (st.set i (v k)) K ON|false=>K' ON) (V++[.list acc]))(q:Q (V++[.list ((ks.filter b).map y)])):
  cp src t e i V.length Q (ks.map v) st (V++[.list []]):=by
 refine fj (v:=v) (λ r acc τ=>∃d,ks=d++r/\acc=(d.filter b).map y/\τ=V++[.list acc]) ?_ ?_ ?_ ks [] _ ⟨[],rfl,rfl,rfl⟩
 ·rintro r acc τ ⟨d,_,_,rfl⟩;exact hs _
 ·rintro k r acc τ K K' ⟨d,rfl,rfl,rfl⟩ h1 h2
  refine step k (by simp) _ _ _ (λ hb=>h1 _ _ _ E0 (Fe ?_ hz) ⟨d++[k],by simp,by simp[hb],by rw[dq]⟩) λ hb=>h2 _ ⟨d++[k],by simp,by simp[hb],by simp[hb]⟩
  rw[Fd,Fc]
  exact Kq (Hj ..)
 ·rintro acc τ ⟨d,rfl,rfl,rfl⟩
  rw[FL]at q
  exact q
theorem cU{a:Int}:V9 a n 1=(List.range n).map λ i:Nat=>AV.int (a+i):=by unfold V9;exact HG λ i Y=>by rw[NQ]
structure FrS(X:List Nat)(st st':List AV):Prop where
 len:st'.length=st.length
 get:∀j,j∉X->st'[j]?=st[j]?
theorem FrS.rfl'{X:List Nat}:FrS X st st:=⟨rfl,λ Y Y=>rfl⟩
theorem FrS.set{X:List Nat}{st':List AV}{v:AV}(h:FrS X st st')(hi:i∈X):FrS X st (st'.set i v):=
 ⟨by rw[Fj,h.len],λ j hj=>by rw[Fg (λ e=>hj (by rw[<- e];exact hi))];exact h.get j hj⟩
theorem FrS.at{X:List Nat}{st':List AV}{v:AV}(h:FrS X st st')(e:st[j]?=some v)(hj:j∉X):st'[j]?=some v:=(h.get j hj).trans e
theorem K7{v:AV}(h:i<st.length):(st.set i v)[i]?=some v:=Fu h
theorem E7{v w:AV}(e:st[j]?=some w)(h:i≠j):(st.set i v)[j]?=some w:=(Fg h).trans e
noncomputable def nu:AV->Bool
 | .undef=>false
 | _=>true
theorem C8{v:AV}(h:st[i]?=some v)(d:nu v=true)(q:Q v V):A5 i st Q V:=by
 unfold A5
 rw[h]
 cases v with
 | undef=>cases d
 | _=>exact q
def Pre(V ρ:Sto):Prop:=∃τ,ρ=V++τ
theorem Pre.rfl':Pre V V:=⟨[],(FL _).symm⟩
theorem Pre.app{ρ τ:Sto}(h:Pre V ρ):Pre V (ρ++τ):=by
 obtain⟨a,rfl⟩:=h
 exact⟨a++τ,Fz ..⟩
theorem Pre.trans{ρ υ:Sto}(h:Pre V ρ)(h':Pre ρ υ):Pre V υ:=by
 obtain⟨a,rfl⟩:=h'
 exact h.app
theorem Pre.lst{ρ:Sto}(h:Pre V ρ)(e:lst V i=some l):lst ρ i=some l:=by
 obtain⟨a,rfl⟩:=h
 exact D2 e
theorem Pre.set{ρ:Sto}{y:I3}(h:Pre V ρ)(hi:V.length<=i):Pre V (ρ.set i y):=by
 obtain⟨a,rfl⟩:=h
 exact⟨a.set (i-V.length) y,JD _ _ hi⟩
theorem iC{v:Nat->AV}(P:Nat->Bool)(f:Nat->AV){src:Sto->Prop}{t:TT}{e:PT}{Q:Sto->Prop}{ω:Sto}(hs:∀υ,Pre ω υ->src υ)(hn:n<lim)
  (step:∀x υ (K:AV->Sto->Prop) (K':Sto->Prop),x<n->Pre ω υ->(∀Pp,Pre υ Pp->P x=true->K (f x) Pp)->(∀Pp,Pre υ Pp->P x=false->K' Pp)->
   t (st.set i (v x)) (λ b ON=>match b with|true=>e (st.set i (v x)) K ON|false=>K' ON) υ)
  (fin:∀υ,Pre ω υ->lst υ ω.length=some (((List.range n).filter P).map f)->Q υ):cp src t e i ω.length Q ((List.range' 0 n).map v) st (ω++[.list []]):=by
 refine gX (λ x acc υ=>acc=((List.range x).filter P).map f/\Pre ω υ/\lst υ ω.length=some acc) (λ x acc υ h=>hs _ h.2.1) ?_ ?_ n 0 [] _ (Gy n) ⟨rfl,Pre.rfl'.app,E0⟩
 ·rintro x acc υ K K' hx ⟨rfl,hp,hl⟩ h1 h2
  refine step x υ K K' hx hp (λ Pp hp' hb=>?_) λ Pp hp' hb=>h2 _ ⟨?_,hp.trans hp',hp'.lst hl⟩
  ·have hl':=hp'.lst hl
   refine h1 _ _ _ hl' (Fe ?_ hn) ⟨?_,(hp.trans hp').set (Fn _),gU (B3 (F6 hl')) _⟩
   ·rw[Fd]
    exact fp (Hj ..) (by rw[FZ];exact FE hx)
   ·rw[ID,HB,HP hb,FG];rfl
  ·rw[ID,HB,IA (by rw[hb];decide),NZ,FL]
 ·rintro acc υ ⟨rfl,hp,hl⟩
  exact fin _ hp hl
noncomputable def bX:Str:=⟨⟨[97,116]⟩⟩
noncomputable def dG:Str:=⟨⟨[95,108,97,119,95,114,101,97,100,95,111,110]⟩⟩
noncomputable def bY:Str:=⟨⟨[115,116,114,101,97,109]⟩⟩
noncomputable def fW:List Stmt:=match T9 (C4 12) 1 with
 | .FunctionDef _ _ b _ _ _ _ _ _ _=>b
 | _=>[]
noncomputable def V2:Scope:=match T9 (C4 12) 1 with
 | .FunctionDef _ _ _ _ _ _ sc _ _ _=>sc
 | _=>{ kind:=.module,names:=[],isGenerator:=false,isCoroutine:=false }
noncomputable def eS:Arguments:=match T9 (C4 12) 1 with
 | .FunctionDef _ ps _ _ _ _ _ _ _ _=>ps
 | _=>default
noncomputable def m8:Fm:=⟨V2,[(cI,0),(iA,1),(bX,2),(O3,3)]⟩
def AD(W:Wld)(k:Nat):ST:=(A4 (B7 (L2 (A5 3) (.some (D1 (A5 2) (B6 0))) (.some (C2 .Add (D1 (A5 2) (B6 0)) (A5 0)))) [B4 1])
 (A4 (B7 (C2 .Add (D1 (A5 2) (B6 0)) (D0 aY (A6 (A5 1) A7))) [K6 (A5 2) (B6 0)]) (A4 (G2 (A5 1)) B5)))
theorem EG(G:GI W):O0 W k m8 fW (AD W k):=
 A8 (G8 (wV (i5 (i:=3) (by kernel_rfl)) (.some (L8 (i5 (i:=2) (by kernel_rfl)) F7 rfl)) (.some (J3 (L8 (i5 (i:=2) (by kernel_rfl)) F7 rfl) (i5 (i:=0) (by kernel_rfl))))) (.cons (sk (i:=1) (by kernel_rfl)) rfl .nil) (λ Y Y=>⟨rfl,rfl⟩))
 (A8 (G8 (J3 (L8 (i5 (i:=2) (by kernel_rfl)) F7 rfl) (xBl (by kernel_rfl) G.z_len G.b_len (.inl ⟨_,rfl⟩) Q8 (B0 (i5 (i:=1) (by kernel_rfl)) D5 rfl) rfl)) (.cons (mx (i5 (i:=2) (by kernel_rfl)) F7) rfl .nil) (λ Y Y=>⟨rfl,rfl⟩))
 (A8 (Y7 (i5 (i:=1) (by kernel_rfl))) F8))
inductive o0(V:Sto)(b:Addr)(t:List Nat)(il:Nat):Prop
 | mk (ib i1 i2 ic:Nat) (c1 c2 cc:Addr) (nm qual:Str) (pm ctv:Value) (oc:Obj) (vs:Array Value) (tt:Tok) :
  V[ib]?=some (I3.raw b (fnO nm qual eS (.stmts fW) V2 [(O3,c2),(bX,c1)] pm (.ref cc) ctv))->V[i1]?=some (I3.cell c1 (.ref il))->V[i2]?=some (I3.cell c2 (.str t))->
  V[ic]?=some (I3.raw cc oc)->oc.data=.fields vs->vs[1]?=some (.str qual tt)->o0 V b t il
theorem yn(nm qual:Str)(cl:List (Str×Addr))(pm cdv ct v:Value):bindArgs (fnD nm qual eS (.stmts fW) V2 cl pm cdv ct) ⟨[v],[]⟩=pure [(cI,v)]:=by kernel_rfl
theorem cV:V2.names=[(cI,.local),(iA,.local),(bX,.free),(O3,.free),(⟨⟨[108,101,110]⟩⟩,.globalImplicit)]:=by kernel_rfl
theorem Cm:V2.isCoroutine=false:=by kernel_rfl
theorem AE:V2.isGenerator=false:=by kernel_rfl
theorem rk:V2.kind=.function:=by kernel_rfl
theorem AF{t:List Nat}{Q:G3->List AV->Sto->Prop}(h1:n<900000)(h2:t.length<=lim)
  (q:Q (.ret (.str ((t.drop n).take 1))) [.int 1,.str ((t.drop n).take 1),.ref 0,.str t] [.list [.int (n+((t.drop n).take 1).length:Nat)]]):AD W k [.int 1,.undef,.ref 0,.str t] Q [.list [.int n]]:=by
 have hc:c6 t (some (n:Int)) (some ((n:Int)+1))=(t.drop n).take 1:=by
  show(t.drop n).take (Int.toNat ((n:Int)+1)-n)=_
  rw[show Int.toNat ((n:Int)+1)=n+1 from rfl,Hc]
 have ix:∀{Q:AV->Sto->Prop},Q (.int n) [.list [.int n]]->bh (.ref 0) (.int 0) Q [.list [.int n]]:=λ q=>du (p:=0) rfl rfl (show 1<1000000 by decide) q
 dsimp only[AD,A4,B7,G2,L2,A5,H5,D1,B6,inI,I0,B4,K6,C2,D0,A6,A7,B8,B9,C5,C6]
 refine ix (ix ⟨⟨FX n,FI (FX n) (FT (Int.lt_add_one_of_le (FV _)))⟩,h2,?_⟩)
 rw[hc]
 exact ix (Ay (fp (List.length_take_le ..) (by decide)) (S0 <| mY (ih:=0) (L:=[.int n]) (p:=0) rfl (Hs _) (show 1<1000000 by decide) q))
theorem bD.next_inv{h0:Heap}{f:Flow}(r:bD h0 h O f .next):f=.next:=by cases r;rfl
theorem bD.ret_inv{h0:Heap}{f:Flow}(r:bD h0 h O f (.ret x)):∃v,f=.ret v/\VR h0 h O v x:=by cases r with|ret h=>exact⟨_,rfl,h⟩
theorem vK{sm:Stmt}{ss:List Stmt}{p:ST}(E:O6 W k F sm p){Pk:Heap}{Pn:Mp}{P:List AV->Sto->Prop}{Q:Flow->Shared->Prop}(ro:N3 k A)(R:Rep W V O s)(f:FrR W F env st s.heap O)(S:E8 W (frX env) Pn Pk O s.heap)
  (h:p st (λ g st V=>g=.next/\P st V) V)(go:∀s' OP OT st',P st' OP->Rep W OP OT s'->FrR W F env st' s'.heap OT->E8 W (frX env) Pn Pk OT s'.heap->wpAny W.M A (execs ss env) Q NoE s'):wpAny W.M A (execs (sm::ss) env) Q NoE s:=
 JS (Fy (E.run ro R f h) (λ fl s' hp=>by
  obtain⟨OP,OT,st',g,⟨rfl,q⟩,R',fr,f',S'⟩:=hp
  obtain rfl:=fr.next_inv
  exact go s' OP OT st' q R' f' (S.trans S')) λ Y Y x=>x)
theorem AG{sm:Stmt}{ss:List Stmt}{p:ST}(E:O6 W k F sm p){Pk:Heap}{Pn:Mp}{P:List AV->Sto->Prop}{Q:Flow->Shared->Prop}(ro:N3 k A)(R:Rep W V O s)(f:FrR W F env st s.heap O)(S:E8 W (frX env) Pn Pk O s.heap)
  (h:p st (λ g st V=>g=.ret x/\P st V) V)(go:∀v s' OP OT st',P st' OP->VR W.h0 s'.heap OT v x->Rep W OP OT s'->FrR W F env st' s'.heap OT->E8 W (frX env) Pn Pk OT s'.heap->Q (.ret v) s'):wpAny W.M A (execs (sm::ss) env) Q NoE s:=
 JS (Fy (E.run ro R f h) (λ fl s' hp=>by
  obtain⟨OP,OT,st',g,⟨rfl,q⟩,R',fr,f',S'⟩:=hp
  obtain⟨v,rfl,vx⟩:=fr.ret_inv
  exact go v s' OP OT st' q vx R' f' (S.trans S')) λ Y Y x=>x)
theorem fX{P:Str->Nat->Prop}{x:Str}(hx:m8.slots.lookup x=some i)(h0:P cI 0)(h1:P iA 1)(h2:P bX 2)(h3:P O3 3):P x i:=by
 have:=Internal.mem_of_lookup hx
 simp only[m8,Fv,MW,FO,or_false]at this
 rcases this with⟨rfl,rfl⟩|⟨rfl,rfl⟩|⟨rfl,rfl⟩|⟨rfl,rfl⟩ <;> assumption
theorem rn{P:Str->Addr->Prop}{c1 c2 c:Addr}{x:Str}(hx:(x,c)∈[(O3,c2),(bX,c1)])(h2:P O3 c2)(h1:P bX c1):P x c:=by
 simp only[Fv,MW,FO,or_false]at hx
 rcases hx with⟨rfl,rfl⟩|⟨rfl,rfl⟩ <;> assumption
theorem rp{x:Str}:m8.scope.names.lookup x=[(cI,NameKind.local),(iA,.local),(bX,.free),(O3,.free),(⟨⟨[108,101,110]⟩⟩,.globalImplicit)].lookup x:=congrArg (List.lookup x) cV
theorem Co{nm qual:Str}{c1 c2 cc b L l d:Addr}{pm ctv:Value}{m:Str->Option Value}{t0:Tok}{t:List Nat}{o1 o2:Obj}{v1 v2:Value}
  (hns:h.Ns L m)(hm:m cI=some (.int 1 t0))(h1:h.get? c1=some o1)(d1:o1.data=.cell (some v1))(w1:VR W.h0 h [(l,l)] v1 (.ref 0))(h2:h.get? c2=some o2)(d2:o2.data=.cell (some v2))(w2:VR W.h0 h [(l,l)] v2 (.str t))
  (nL:W.h0.get? L=none)(n1:W.h0.get? c1=none)(n2:W.h0.get? c2=none)(aL:L≠l)(a1:c1≠l)(a2:c2≠l)(a12:c1≠c2):
  FrR W m8 (callEnv (fnD nm qual eS (.stmts fW) V2 [(O3,c2),(bX,c1)] pm (.ref cc) ctv) L b) [.int 1,.undef,.ref 0,.str t] h [(l,l)]:=by
 exact⟨rfl,rk,rfl,rfl,hns.elim λ oL z=>z.elim λ Y z=>z.elim λ Y z=>⟨m,oL,hns,z.1,λ x i hx=>fX (P:=λ x i=>m8.scope.names.lookup x=some .local->∀y,([.int 1,.undef,.ref 0,.str t]:List AV)[i]?=some y->y≠.undef->∃v,m x=some v/\VR W.h0 h [(l,l)] v y) hx
   (λ Y y hy Y=>⟨_,hm,Ft hy▸.int 1 t0⟩) (λ Y y hy hu=>(hu (Ft hy).symm).elim) (λ hl=>absurd (rp.symm.trans hl) (by decide +kernel)) λ hl=>absurd (rp.symm.trans hl) (by decide +kernel)⟩,
  λ p hp=>rn (P:=λ Y c=>∃o u,h.get? c=some o/\o.data=.cell u) (x:=p.1) (c:=p.2) hp ⟨o2,_,h2,d2⟩ ⟨o1,_,h1,d1⟩,
  λ x i hx=>fX (P:=λ x i=>(m8.scope.names.lookup x=some .cell\/m8.scope.names.lookup x=some .free)->∃c,List.lookup x [(O3,c2),(bX,c1)]=some c/\∀y,([.int 1,.undef,.ref 0,.str t]:List AV)[i]?=some y->y≠.undef->∃v,h.IsCell c (some v)/\VR W.h0 h [(l,l)] v y) hx
   (λ hk=>absurd (rp▸hk) (by decide +kernel)) (λ hk=>absurd (rp▸hk) (by decide +kernel))
   (λ Y=>⟨c1,(tU (by decide +kernel)).trans Ik,λ y hy Y=>⟨v1,⟨o1,h1,d1⟩,Ft hy▸w1⟩⟩) λ Y=>⟨c2,Ik,λ y hy Y=>⟨v2,⟨o2,h2,d2⟩,Ft hy▸w2⟩⟩,
  λ q=>aL (Fh.mp q),λ p hp=>rn (P:=λ Y c=>c∉[l]) (x:=p.1) (c:=p.2) hp (λ q=>a2 (Fh.mp q)) λ q=>a1 (Fh.mp q),
  λ x y c hx hy=>rn (P:=λ x c=>(y,c)∈[(O3,c2),(bX,c1)]->x=y) (Internal.mem_of_lookup hx) (λ hy=>(Fv.mp hy).elim (λ e=>(congrArg Prod.fst e).symm) λ e=>absurd (congrArg Prod.snd (Fh.mp e)).symm a12)
   (λ hy=>(Fv.mp hy).elim (λ e=>absurd (congrArg Prod.snd e) a12) λ e=>(congrArg Prod.fst (Fh.mp e)).symm) (Internal.mem_of_lookup hy),
  λ x y i hx hy=>fX (P:=λ x i=>m8.slots.lookup y=some i->x=y) hx (λ h=>fX (P:=λ y i=>i=0->cI=y) h (λ Y=>rfl) (λ e=>absurd e (by decide)) (λ e=>absurd e (by decide)) (λ e=>absurd e (by decide)) rfl)
   (λ h=>fX (P:=λ y i=>i=1->iA=y) h (λ e=>absurd e (by decide)) (λ Y=>rfl) (λ e=>absurd e (by decide)) (λ e=>absurd e (by decide)) rfl)
   (λ h=>fX (P:=λ y i=>i=2->bX=y) h (λ e=>absurd e (by decide)) (λ e=>absurd e (by decide)) (λ Y=>rfl) (λ e=>absurd e (by decide)) rfl)
   (λ h=>fX (P:=λ y i=>i=3->O3=y) h (λ e=>absurd e (by decide)) (λ e=>absurd e (by decide)) (λ e=>absurd e (by decide)) (λ Y=>rfl) rfl) hy,nL,
  λ p hp=>rn (P:=λ Y c=>W.h0.get? c=none) (x:=p.1) (c:=p.2) hp n2 n1⟩
theorem yo{s':Shared}{il i1 i2:Nat}{n':Int}{d c1 c2:Addr}{t:List Nat}{Pk:Heap}(R:Rep W V O s)(hpl:O[il]?=some (d,d))(hp2:O[i1]?=some (c1,c1))(hp3:O[i2]?=some (c2,c2))
  (e2:V[i1]?=some (.cell c1 (.ref il)))(e3:V[i2]?=some (.cell c2 (.str t)))(a1:c1≠d)(a2:c2≠d)(hk:∀b o,s.heap.get? b=some o->Pk.get? b=some o)(R2:Rep W [.list [.int n']] [(d,d)] s')
  (k1:∃o v,s'.heap.get? c1=some o/\o.data=.cell (some v)/\VR W.h0 s'.heap [(d,d)] v (.ref 0))(k2:∃o v,s'.heap.get? c2=some o/\o.data=.cell (some v)/\VR W.h0 s'.heap [(d,d)] v (.str t))
  (S2:E8 W [s.heap.objs.size,c2,c1] [(d,d)] Pk [(d,d)] s'.heap):Rep W (V.set il (.list [.int n'])) O s'/\E8 W [] O s.heap O s'.heap:=by
 have fL:=K9 (h:=s.heap)
 have mm:∀{i a},O[i]?=some (a,a)->a∈O.map (·.2):=λ h=>Gk (f:=(·.2)) (FD h)
 have ne:∀{i c},O[i]?=some (c,c)->c≠d->il≠i:=λ h hc e=>hc (congrArg Prod.fst (Ft ((e▸h:O[il]?=some _).symm.trans hpl)))
 refine R.graft (X:=[s.heap.objs.size,c2,c1,d]) R2.bare (λ a o e cd nx=>S2.keep a o (hk _ _ e) cd (λ q=>nx (.tail _ (.tail _ (.tail _ q)))) λ q=>nx (Gq [d] q)) (λ a o e=>S2.live a o (hk _ _ e)) (λ a ha o e=>?_) (Fj ..) (λ j q hq nx=>?_) (λ U j q y hq hx hy=>?_)
 ·rcases Fv.mp ha with rfl|ha
  ·exact G9 (fL.symm.trans e)
  rcases Fv.mp ha with rfl|ha
  ·exact mm hp3
  rcases Fv.mp ha with rfl|ha
  ·exact mm hp2
  ·rw[Fh.mp ha];exact mm hpl
 ·refine Fg λ e=>nx ?_
  rw[<- e,hpl]at hq
  rw[<- Ft hq]
  exact .tail _ (.tail _ (.tail _ (.head _)))
 ·rcases Fv.mp hx with hx|hx
  ·refine xE (R.own (FD hq)) λ o Z=>(λ ho J=>?_) Z.1 Z.2;clear Z
   exact G9 (fL.symm.trans (hx▸ho))
  rcases Fv.mp hx with hx|hx
  ·obtain rfl:=R.idx hp3 hq hx
   obtain rfl:=Ft (hp3.symm.trans hq)
   rw[Fg (ne hp3 a2),e3]at hy
   refine xE k2 λ o Z=>xE Z λ v J=>(λ y1 y2 y3=>?_) J.1 J.2.1 J.2.2;clear k2 Z J
   refine xE y3.str_inv λ tz Z=>?_;rcases Z with rfl
   exact Ft hy▸.cell y1 y2 (.str _ tz)
  rcases Fv.mp hx with hx|hx
  ·obtain rfl:=R.idx hp2 hq hx
   obtain rfl:=Ft (hp2.symm.trans hq)
   rw[Fg (ne hp2 a1),e2]at hy
   refine xE k1 λ o Z=>xE Z λ v J=>(λ y1 y2 y3=>?_) J.1 J.2.1 J.2.2;clear k1 Z J
   obtain⟨x,dd,rfl,hh⟩:=y3.ref_inv
   obtain rfl:=congrArg Prod.fst (Ft hh)
   exact Ft hy▸.cell y1 y2 (.ref hpl)
  ·obtain rfl:=R.idx hpl hq (Fh.mp hx)
   obtain rfl:=Ft (hpl.symm.trans hq)
   rw[Fu (by rw[<- R.len];exact B3 hpl)]at hy
   obtain⟨_,nn,vs,y1,y2⟩:=(R2.obj 0 _ (d,d) rfl rfl).inv
   exact Ft hy▸.list y1 (jN (ns:=[n']) y2.ints)
theorem yp(G:GI W){b:Addr}{t:List Nat}{il:Nat}(h:o0 V b t il)(hn:V[il]?=some (.list [.int n]))(h1:n<900000)(h2:t.length<=lim)
  (q:Q (.str ((t.drop n).take 1)) (V.set il (.list [.int (n+((t.drop n).take 1).length:Nat)]))):M8 W (k+1) b [.int 1] Q V:=by
 obtain⟨ib,i1,i2,ic,c1,c2,cc,nm,qual,pm,ctv,oc,vs,tt,e1,e2,e3,e4,e5,e6⟩:=h
 refine⟨fun{A s O us} ro R vr=>?_⟩
 obtain⟨u,us,rfl,u1,v0⟩:=vr.cons_inv
 obtain rfl:=v0.nil_inv
 refine xE u1.int_inv λ t0 Z=>?_;rcases Z with rfl
 have hb:=(R.raw e1).2.1
 have hcd:=(R.raw e4).2.1
 obtain⟨hp2,o1,v1,g1,d1,w1⟩:=R.cellAt e2
 obtain⟨hp3,o2,v2,g2,d2,w2⟩:=R.cellAt e3
 obtain⟨l,d,rfl,hpl⟩:=w1.ref_inv
 obtain⟨rfl,nl,us,hL,hv⟩:=R.list (J1 hn) hpl
 refine xE w2.str_inv λ ts Z=>?_;rcases Z with rfl
 have a1:c1≠d:=by rintro rfl;cases Ft (g1.symm.trans hL);cases d1
 have a2:c2≠d:=by rintro rfl;cases Ft (g2.symm.trans hL);cases d2
 have a12:c1≠c2:=by rintro rfl;cases Ft (g1.symm.trans g2);rw[d1]at d2;cases d2
 clear e1 e4 w1 w2 u1 vr v0
 refine codeAny_call_plain ro.lim hb rfl R.lim ⟨cc,oc,vs,tt,rfl,hcd,e5,e6⟩ rfl (yn _ _ _ _ _ _ _) (λ x hx=>?_) (λ x hx=>?_) (λ Pk hns hk=>?_) Cm AE rk
 ·have hx':x∈V2.names:=hx
  rw[cV]at hx'
  clear hx
  revert x
  decide +kernel
 ·rw[Fh]at hx;subst hx
  show V2.names.lookup cI=_
  rw[cV];decide +kernel
 ·clear hb hcd e5 e6 oc vs tt
  have fL:=K9 (h:=s.heap)
  have R':=(R.grow (t:=s.toks+1) hk).1
  have R0:Rep W [.list [.int n]] [(d,d)] { s with heap:=Pk,toks:=s.toks+1 }:=
   Rep.adopt (V:=[]) (O:=[]) R'.bare (hk _ _ hL) (jN (ns:=[(n:Int)]) hv.ints) FO (R.new _ (FD hpl))
  have f0:=Co (W:=W) (nm:=nm) (qual:=qual) (cc:=cc) (b:=b) (l:=d) (d:=d) (pm:=pm) (ctv:=ctv) (t:=t) hns (t0:=t0) (m:=λ x=>[(cI,Value.int 1 t0)].reverse.lookup x) Ik (hk _ _ g1) d1 (.ref (d:=d) rfl) (hk _ _ g2) d2 (.str t.toArray ts)
   (R.not0 fL) (R.new _ (FD hp2)) (R.new _ (FD hp3)) (λ e=>G9 (fL.symm.trans (e▸hL))) a1 a2 a12
  refine Fy ((EG G (k:=k)).run (ro.deeper _) R0 f0 (AF (Q:=λ g st V=>g=.ret (.str ((t.drop n).take 1))/\st=[.int 1,.str ((t.drop n).take 1),.ref 0,.str t]/\V=[.list [.int (n+((t.drop n).take 1).length:Nat)]]) h1 h2 ⟨rfl,rfl,rfl⟩)) (λ fl s' hp=>?_) λ Y Y x=>x.elim
  obtain⟨OP,OT,st',g,⟨rfl,rfl,rfl⟩,R2,fr,f2,S2⟩:=hp
  obtain rfl:OT=[(d,d)]:=by
   refine xE S2.grown λ ψ Z=>?_;rcases Z with rfl
   rw[HL (Nat.add_left_cancel ((Fc ..).symm.trans R2.len))];rfl
  refine xE fr.ret_inv λ Z J=>(λ θ vx=>?_) J.1 J.2;rcases θ with rfl;clear J
  refine xE vx.str_inv λ tv Z=>?_;rcases Z with rfl
  refine xE (f2.cell O3 3 (by decide +kernel) (.inr (by show V2.names.lookup O3=_;rw[cV];decide +kernel))) λ x2 Z=>(λ z1 z2=>?_) Z.1 Z.2;clear Z
  refine xE (f2.cell bX 2 (by decide +kernel) (.inr (by show V2.names.lookup bX=_;rw[cV];decide +kernel))) λ x1 Z=>(λ z3 z4=>?_) Z.1 Z.2;clear Z
  obtain rfl:c2=x2:=Ft (show some c2=_ from z1)
  obtain rfl:c1=x1:=Ft (show some c1=_ from z3)
  refine xE (z2 _ rfl (by intro e;cases e)) λ w2 Z=>(λ J y3=>?_) Z.1 Z.2;refine xE J λ p2 θ=>(λ y1 y2=>?_) θ.1 θ.2;clear Z J θ
  refine xE (z4 _ rfl (by intro e;cases e)) λ w1 Z=>(λ J y6=>?_) Z.1 Z.2;refine xE J λ p1 θ=>(λ y4 y5=>?_) θ.1 θ.2;clear Z J θ
  have hg:=yo R hpl hp2 hp3 e2 e3 a1 a2 hk R2 ⟨p1,w1,y4,y5,y6⟩ ⟨p2,w2,y1,y2,y3⟩ S2
  exact⟨_,O,_,q,hg.1,.str _ tv,hg.2⟩
noncomputable def cB:Fm:=⟨H8 12,[(O3,0),(bX,1),(dG,2),(bY,3)]⟩
noncomputable def gY:Arguments:=match T9 (C4 12) 2 with
 | .Assign _ (.Lambda ps _ _ _) _=>ps
 | _=>default
noncomputable def m9:Expr:=match T9 (C4 12) 2 with
 | .Assign _ (.Lambda _ b _ _) _=>b
 | _=>.Constant .none 0 ⟨0,0,0,0⟩
noncomputable def jw:Scope:=match T9 (C4 12) 2 with
 | .Assign _ (.Lambda _ _ sc _) _=>sc
 | _=>{ kind:=.module,names:=[],isGenerator:=false,isCoroutine:=false }
noncomputable def yq:Pos:=⟨152,4,155,19⟩
noncomputable def yr:Pos:=⟨156,13,156,25⟩
noncomputable def yt:Str:=⟨⟨[95,110,101,116,114,99,108,101,120]⟩⟩
theorem yu:C4 12=[T9 (C4 12) 0,.FunctionDef dG eS fW [] none [] V2 none dG yq,
  .Assign [.Name bY ⟨156,4,156,10⟩] (.Lambda gY m9 jw yr) ⟨156,4,156,25⟩,
  .Assign [.Attribute (.Name bY ⟨157,4,157,10⟩) J5 ⟨157,4,157,15⟩] (.Name dG ⟨157,18,157,30⟩) ⟨157,4,157,30⟩,
  T9 (C4 12) 4]:=by kernel_rfl
theorem Cp:O6 W k cB (T9 (C4 12) 0) (B7 (C9 (A6 (B6 0) A7)) [B4 1]):=
 G8 (Q5 (B0 F7 D5 rfl)) (.cons (sk (i:=1) (by kernel_rfl)) rfl .nil) (λ Y Y=>⟨rfl,rfl⟩)
theorem Cq(G:GI W):O6 W k cB (T9 (C4 12) 4) (G2 (D0 (nwC W k cL V0) (A6 (A5 3) A7))):=
 Y7 (BK (by kernel_rfl) G.m__netrclex G.w__netrclex (B0 (i5 (i:=3) (by kernel_rfl)) D5 rfl) rfl)
theorem kq:(H8 12).names=[(O3,.cell),(dG,.local),(bY,.local),(bX,.cell),(yt,.globalImplicit)]:=by kernel_rfl
noncomputable def wsL:List Nat:=[10,9,13,32]
theorem kr(l:List α)(i:Nat)(a b:α):(l.set i a).set i b=l.set i b:=Jc ..
theorem tj(N:GF W)(G:GI W){af:Addr}(hi:V[i]?=some (.inst cL []))
  (q:Q .none ((V++[I3.list []]).set i (.inst cL [(0,.int 1),(1,.fn af),(2,.str wsL),(3,.ref V.length)]))):M8 W (k+1) V0 [.ref i,.fn af] Q V:=by
 have hl:=(FC.mp hi).1
 refine H6 (n:=0) (xs:=[.ref i,.fn af]) (V:=V) (Q:=Q) N.f__netrclex_DinitD (fU G) rfl ?_
 dsimp only[bU,A4,B5,B7,B6,A5,G1,C9,A7,I0,K5,B8,B9,C3,C7,List.replicate]
 refine fI hi (Gb _) (fI (Fu hl) (show 1<=900 by decide) ?_)
 rw[kr]
 refine fI (Fu hl) (show 2<=900 by decide) ?_
 rw[kr]
 refine⟨Gb _,fI (m:=[(0,.int 1),(1,.fn af),(2,.str wsL)]) ((Fs (by rw[Fj];exact hl)).trans (Fu hl)) (show 3<=900 by decide) ?_⟩
 rw[KH _ _ (by rw[Fj];exact hl),kr,<- KH _ _ hl,Fj]
 exact q
structure LxI(W:Wld)(c0 P:Addr)(qn:Str):Prop where
 mkf:MkI W c0 P
 fn:∀o fd,W.K.lookup N6=some o->o.data=.func fd->fd.code=.ref c0/\fd.qualname=qn
 fi:FnI W N6 cB [O3] (C4 12)
noncomputable def T7(qn:Str):List (Pos×Str):=[(yq,(qn ++ ".<locals>.")++dG),(yr,(qn ++ ".<locals>.") ++ "<lambda>")]
structure LxP where
 ii:Nat
 ip:Nat
 il:Nat
 a:Addr
 b:Addr
 t:List Nat
structure O8(V:Sto)(p:LxP)(n:Nat)(ln:Int)(pb:List AV):Prop where
 inst:V[p.ii]?=some (.inst cL [(0,.int ln),(1,.fn p.a),(2,.str wsL),(3,.ref p.ip)])
 pbk:V[p.ip]?=some (.list pb)
 has:oj V p.a p.b
 rd:o0 V p.b p.t p.il
 pos:V[p.il]?=some (.list [.int n])
 ne:p.ip≠p.il
theorem yv{c1 c2:Addr}(h1:env.cells.lookup bX=some c1)(h2:env.cells.lookup O3=some c2):closureFor V2 env=pure [(O3,c2),(bX,c1)]:=by
 have e1:cellOf env bX=pure c1:=by unfold cellOf;rw[h1]
 have e2:cellOf env O3=pure c2:=by unfold cellOf;rw[h2]
 unfold closureFor
 rw[cV]
 simp[e1,e2]
theorem yw(h:env.scope=H8 12):qualnameIn env dG dG=env.qual++dG:=by
 unfold qualnameIn
 rw[if_neg]
 have:env.kindOf dG=some .local:=by show List.lookup dG env.scope.names=_;rw[h,kq];decide +kernel
 rw[this];decide
theorem ma:cB.slots.lookup dG=some 2/\(cB.scope.names.lookup dG=some .local\/cB.scope.names.lookup dG=some .cell):=by
 refine⟨by decide +kernel,.inl ?_⟩
 show(H8 12).names.lookup dG=_;rw[kq];decide +kernel
theorem zq(qn:Str):(∀e∈T7 qn,e.1.line=yq.line->e.1.col=yq.col->e.2=(qn ++ ".<locals>.")++dG)/\(∀e∈T7 qn,e.1.line=yr.line->e.1.col=yr.col->e.2=(qn ++ ".<locals>.") ++ "<lambda>"):=by
 constructor
 ·intro e he h1 h2
  simp only[T7,Fv,FO,or_false]at he
  rcases he with rfl|rfl
  ·rfl
  ·cases h1
 ·intro e he h1 h2
  simp only[T7,Fv,FO,or_false]at he
  rcases he with rfl|rfl
  ·cases h1
  ·rfl
theorem oj.mono{OP:Sto}{a b:Addr}(h:oj V a b)(hi:∀(j:Nat) (a:Addr) (o:Obj),V[j]?=some (.raw a o)->OP[j]?=some (.raw a o)):oj OP a b:=by
 refine xE h λ i1 Z=>xE Z λ i2 J=>xE J λ o θ=>xE θ λ fd ξ=>xE ξ λ d ϑ=>xE ϑ λ es ϖ=>xE ϖ λ m ϱ=>(λ a1 a2 a3 a4 a5 a6=>?_) ϱ.1 ϱ.2.1 ϱ.2.2.1 ϱ.2.2.2.1 ϱ.2.2.2.2.1 ϱ.2.2.2.2.2;clear h Z J θ ξ ϑ ϖ ϱ
 exact⟨i1,i2,o,fd,d,es,m,hi _ _ _ a1,a2,a3,a4,hi _ _ _ a5,a6⟩
theorem o0.mono{OP:Sto}{b:Addr}{t:List Nat}{il:Nat}(h:o0 V b t il)(hi:∀(j:Nat) (a:Addr) (o:Obj),V[j]?=some (.raw a o)->OP[j]?=some (.raw a o))(hc:∀(j:Nat) (a:Addr) (x:AV),V[j]?=some (.cell a x)->OP[j]?=some (.cell a x)):o0 OP b t il:=by
 obtain⟨ib,j1,j2,ic,c1,c2,cc,nm,qual,pm,ctv,oc,vs,tt,e1,e2,e3,e4,e5,e6⟩:=h
 exact⟨ib,j1,j2,ic,c1,c2,cc,nm,qual,pm,ctv,oc,vs,tt,hi _ _ _ e1,hc _ _ _ e2,hc _ _ _ e3,hi _ _ _ e4,e5,e6⟩
theorem O8.to{OP:Sto}{p:LxP}{n':Nat}{ln ln':Int}{pb pb':List AV}(h:O8 V p n ln pb)(hi:∀(j:Nat) (a:Addr) (o:Obj),V[j]?=some (.raw a o)->OP[j]?=some (.raw a o))(hc:∀(j:Nat) (a:Addr) (x:AV),V[j]?=some (.cell a x)->OP[j]?=some (.cell a x))
  (h1:OP[p.ii]?=some (.inst cL [(0,.int ln'),(1,.fn p.a),(2,.str wsL),(3,.ref p.ip)]))(h2:OP[p.ip]?=some (.list pb'))(h3:OP[p.il]?=some (.list [.int n'])):O8 OP p n' ln' pb':=
 ⟨h1,h2,h.has.mono hi,h.rd.mono hi hc,h3,h.ne⟩
noncomputable abbrev lmO(qn:Str)(pm cc ctv:Value)(d:Addr):Obj:={ (fnO "<lambda>" ((qn ++ ".<locals>.") ++ "<lambda>") gY (.expr m9) jw [] pm cc ctv)with dict:=some d }
noncomputable abbrev o3(hs:Int)(t':Tok)(a b d c1 c2:Addr)(n m:Nat)(t:List Nat):Sto:=
 [.raw d (dictOf [⟨hs,.str J5 t',.ref b⟩] 1),.inst cL [(0,.int 1),(1,.fn a),(2,.str wsL),(3,.ref (m+2))],.list [],.cell c1 (.ref n),.cell c2 (.str t)]
theorem nc{l τ:List α}:(l++τ)[l.length+k]?=τ[k]?:=by rw[Ga (Fi ..),Hc]
theorem tm{PD PF:Sto}{P a b d c1 c2 cc:Addr}{cc4 pm4 ctv4 pm ctv:Value}{qn nm qual:Str}{ps4:Array Value}{ia ib ic:Nat}{oc:Obj}{vs:Array Value}{tc t':Tok}{hs:Int}{t:List Nat}
  (hl0:0<V.length)(X2:V4 (V++[.list [.int 0]]) PD)(X4:V4 PD PF)(T4:V5 PF P ps4 (T7 qn))(hia:PF[ia]?=some (.raw a (fnO "<lambda>" ((qn ++ ".<locals>.") ++ "<lambda>") gY (.expr m9) jw [] pm4 cc4 ctv4)))(hial:PD.length<=ia)
  (hib:PD[ib]?=some (I3.raw b (fnO nm qual eS (.stmts fW) V2 [(O3,c2),(bX,c1)] pm (.ref cc) ctv)))(hib0:0<ib)(hic0:ic≠0)(hic:PD[ic]?=some (.raw cc oc))(hicd:oc.data=.fields vs)(hicv:vs[1]?=some (.str qual tc)):
  V4 V (PF.set ia (.raw a (lmO qn pm4 cc4 ctv4 d))++o3 hs t' a b d c1 c2 V.length PF.length t)/\V5 (PF.set ia (.raw a (lmO qn pm4 cc4 ctv4 d))++o3 hs t' a b d c1 c2 V.length PF.length t) P ps4 (T7 qn)/\
   O8 (PF.set ia (.raw a (lmO qn pm4 cc4 ctv4 d))++o3 hs t' a b d c1 c2 V.length PF.length t) ⟨PF.length+1,PF.length+2,V.length,a,b,t⟩ 0 1 []:=by
 have l2:V.length+1<=PD.length:=by have:=X2.1;rw[Fc]at this;exact this
 have l4:PD.length<=PF.length:=X4.1
 have hia':=B3 hia
 have len:(PF.set ia (.raw a (lmO qn pm4 cc4 ctv4 d))).length=PF.length:=Fj ..
 have mid:∀{k:Nat}{τ:Sto},(PF.set ia (.raw a (lmO qn pm4 cc4 ctv4 d))++τ)[PF.length+k]?=τ[k]?:=fun{k τ}=>by rw[<- len];exact nc
 have E5:∀{j:Nat}{y:I3},j≠ia->PF[j]?=some y->(PF.set ia (.raw a (lmO qn pm4 cc4 ctv4 d))++o3 hs t' a b d c1 c2 V.length PF.length t)[j]?=some y:=λ hj e=>by
  rw[Fs (by rw[len];exact B3 e),Fg (HE hj)];exact e
 have E2:∀{j:Nat}{y:I3},j≠0->PD[j]?=some y->(PF.set ia (.raw a (lmO qn pm4 cc4 ctv4 d))++o3 hs t' a b d c1 c2 V.length PF.length t)[j]?=some y:=λ hj e=>
  E5 (FP (Fo (B3 e) hial)) (X4.2 _ _ hj e)
 have hA:(PF.set ia (.raw a (lmO qn pm4 cc4 ctv4 d))++o3 hs t' a b d c1 c2 V.length PF.length t)[ia]?=some (.raw a (lmO qn pm4 cc4 ctv4 d)):=by
  rw[Fs (by rw[len];exact hia'),Fu hia']
 refine⟨⟨?_,λ j y hj e=>E2 hj (X2.2 _ _ hj (V4.app.2 _ _ hj e))⟩,⟨E5 (FP (Fo hl0 (fp (GL l2) hial))) T4.raw,T4.ok,λ e he cv hc=>?_⟩,
  mid (k:=1),mid (k:=2),⟨ia,PF.length,_,_,d,_,1,hA,rfl,rfl,rfl,mid (k:=0),ll (beq_self_eq_true _)⟩,
  ⟨ib,PF.length+3,PF.length+4,ic,c1,c2,cc,_,_,pm,ctv,oc,vs,tc,E2 (FU hib0) hib,mid (k:=3),mid (k:=4),E2 hic0 hic,hicd,hicv⟩,
  E2 (FU hl0) (X2.2 _ _ (FU hl0) aD),FU (Fo l2 (fp l4 (Fi ..)))⟩
 ·rw[Fc,len];exact fp (GL l2) (fp l4 (Fi ..))
 ·obtain⟨cc',i',g1,g2,oc',vs',t'',g3,g4,g5⟩:=T4.hit e he cv hc
  refine⟨cc',i',g1,g2,oc',vs',t'',E5 ?_ g3,g4,g5⟩
  rintro rfl
  rw[hia]at g3;cases g3;cases g4
theorem AH{x y z:I3}:((V++[x])++[y]).set V.length z=V++[z,y]:=by rw[Fz,List.singleton_append,gV]
theorem Cr:O6 W k cB (.Assign [.Attribute (.Name bY ⟨157,4,157,10⟩) J5 ⟨157,4,157,15⟩] (.Name dG ⟨157,18,157,30⟩) ⟨157,4,157,30⟩) (B7 (A5 2) [BS (A5 3)]):=
 G8 (i5 (i:=2) (by kernel_rfl)) (.cons (Ez (i5 (i:=3) (by kernel_rfl)) rfl) rfl .nil) (λ Y Y=>⟨rfl,rfl⟩)
theorem tn{c1 c2:Addr}{x1 x2:AV}{v1 v2:Value}(R:Rep W V O s)(k1:s.heap.IsCell c1 (some v1))(w1:VR W.h0 s.heap O v1 x1)(k2:s.heap.IsCell c2 (some v2))(w2:VR W.h0 s.heap O v2 x2)(ne:c1≠c2)(a1:c1∉O.map (·.2))(n1:W.h0.get? c1=none)(a2:c2∉O.map (·.2))(n2:W.h0.get? c2=none):
  Rep W (V++[.cell c1 x1]++[.cell c2 x2]) (O++[(c1,c1)]++[(c2,c2)]) s:=
 k1.elim λ o1 g1=>k2.elim λ o2 g2=>(R.adoptO (λ U=>.cell g1.1 g1.2 (VR.mono U w1)) a1 n1).adoptO (λ U=>.cell g2.1 g2.2 (VR.mono U (VR.mono ⟨λ Y Y Y t=>t,_,rfl⟩ w2))) (λ h=>by
  rw[FG]at h
  exact(FR.mp h).elim a2 λ h=>ne (Fh.mp h).symm) n2
theorem rq{x:Str}{c:Addr}{y:AV}(f:FrR W cB env st h O)(hx:cB.slots.lookup x=some i)(hk:(H8 12).names.lookup x=some .cell)(hc:env.cells.lookup x=some c)(hy:st[i]?=some y)(hu:y≠.undef):∃v,h.IsCell c (some v)/\VR W.h0 h O v y:=
 (f.cell x i hx (.inl hk)).elim λ c' z=>(Ft (z.1.symm.trans hc):c'=c)▸z.2 y hy hu
theorem ru:(H8 12).names.lookup bX=some .cell/\(H8 12).names.lookup O3=some .cell:=by rw[kq];decide +kernel
theorem yx{Pk:Heap}{Pn:Mp}{hs:Int}{t':Tok}{t:List Nat}{a b c1 c2 d:Addr}(hnew:∀b∈frX env,Pk.get? b=none)(hk1:env.cells.lookup bX=some c1)(hk2:env.cells.lookup O3=some c2)
  (vx:VR W.h0 s.heap O v x)(R:Rep W (V++[.raw d (dictOf [⟨hs,.str J5 t',.ref b⟩] 1),.inst cL [(0,.int 1),(1,.fn a),(2,.str wsL),(3,.ref (m+2))],.list []]) O s)(f:FrR W cB env [.str t,.ref n,.fn b,.fn a] s.heap O)(S:E8 W (frX env) Pn Pk O s.heap)(q:Q x (V++o3 hs t' a b d c1 c2 n m t)):
  ∃OP OT g,n4 Q g [] OP/\Rep W OP OT s/\bD W.h0 s.heap OT (.ret v) g/\E8 W (frX env) Pn Pk OT s.heap:=by
 have m1:=mem_of_lookup hk1
 have m2:=mem_of_lookup hk2
 refine(rq f (i:=1) (by decide +kernel) ru.1 hk1 rfl (by intro e;cases e)).elim λ v1 k1=>(rq f (i:=0) (by decide +kernel) ru.2 hk2 rfl (by intro e;cases e)).elim λ v2 k2=>?_
 have R9:=tn R k1.1 k1.2 k2.1 k2.2 (λ e=>absurd (f.inj _ _ _ hk1 (e▸hk2)) (by decide +kernel)) (f.apartC _ m1) (f.newC _ m1) (f.apartC _ m2) (f.newC _ m2)
 rw[Fz,Fz]at R9
 exact⟨_,_,.ret x,q,R9,.ret (VR.mono ⟨λ Y Y Y t=>t,[(c1,c1)]++[(c2,c2)],Fz ..⟩ vx),(S.own (hnew c1 (.tail _ (Gk (f:=(·.2)) m1)))).own (hnew c2 (.tail _ (Gk (f:=(·.2)) m2)))⟩
theorem yy{qn:Str}(N:GF W)(G:GI W){Pm:Shared}{Pn:Mp}{ia:Nat}{t:List Nat}{a b c1 c2:Addr}{cc4 pm4 ctv4:Value}(ro:N3 (k+2) A)(R:Rep W V O s)(f:FrR W cB env [.str t,.ref n,.fn b,.fn a] s.heap O)
  (S:E8 W (frX env) Pn Pm.heap O s.heap)(hnew:∀b∈frX env,Pm.heap.get? b=none)(hk1:env.cells.lookup bX=some c1)(hk2:env.cells.lookup O3=some c2)(hia:V[ia]?=some (.raw a (fnO "<lambda>" ((qn ++ ".<locals>.") ++ "<lambda>") gY (.expr m9) jw [] pm4 cc4 ctv4)))
  (q:∀d hs t',Q (.ref (V.length+1)) (V.set ia (.raw a (lmO qn pm4 cc4 ctv4 d))++o3 hs t' a b d c1 c2 n V.length t)):
  wpAny W.M A (execs [.Assign [.Attribute (.Name bY ⟨157,4,157,10⟩) J5 ⟨157,4,157,15⟩] (.Name dG ⟨157,18,157,30⟩) ⟨157,4,157,30⟩,T9 (C4 12) 4] env)
   (λ fl s'=>∃OP OT g,n4 Q g [] OP/\Rep W OP OT s'/\bD W.h0 s'.heap OT fl g/\E8 W (frX env) Pn Pm.heap OT s'.heap) NoE s:=by
 refine vK (P:=λ st OP=>st=[.str t,.ref n,.fn b,.fn a]/\∃d hs t',OP=V.set ia (.raw a (lmO qn pm4 cc4 ctv4 d))++[.raw d (dictOf [⟨hs,.str J5 t',.ref b⟩] 1)]) Cr ro R f S
  ⟨a,b,ia,_,_,rfl,rfl,hia,rfl,rfl,rfl,λ d hs t'=>⟨rfl,rfl,d,hs,t',rfl⟩⟩ λ s6 Sf Sg st6 hp R6 f6 S6=>?_
 clear R f S
 obtain⟨rfl,d,hs,t',rfl⟩:=hp
 have len6:(V.set ia (.raw a (lmO qn pm4 cc4 ctv4 d))++[I3.raw d (dictOf [⟨hs,.str J5 t',.ref b⟩] 1)]).length=V.length+1:=(Fc ..).trans (congrArg (· + 1) (Fj ..))
 refine AG (x:=.ref (V.length+1)) (P:=λ st OP=>st=[.str t,.ref n,.fn b,.fn a]/\
  OP=V.set ia (.raw a (lmO qn pm4 cc4 ctv4 d))++[.raw d (dictOf [⟨hs,.str J5 t',.ref b⟩] 1),.inst cL [(0,.int 1),(1,.fn a),(2,.str wsL),(3,.ref (V.length+2))],.list []]) (Cq (k:=k+2) G) ro R6 f6 S6 ?_ λ v s7 Sh Si st7 hp vx R7 f7 S7=>?_
 ·refine tj (k:=k) N G (af:=a) aD ⟨rfl,congrArg (λ n=>G3.ret (.ref n)) len6,rfl,?_⟩
  rw[AH,Fc,len6,Fz]
  rfl
 clear R6 f6 S6
 refine(λ Z J=>?_) hp.1 hp.2;rcases Z with rfl;rcases J with rfl;clear hp
 exact yx (V:=V.set ia (.raw a (lmO qn pm4 cc4 ctv4 d))) hnew hk1 hk2 vx R7 f7 S7 (q d hs t')
set_option maxHeartbeats 1000000 in
theorem o6{c0 P:Addr}{qn:Str}(N:GF W)(G:GI W)(L:LxI W c0 P qn){ps:Array Value}{t:List Nat}(T:V5 V P ps (T7 qn))
  (q:∀OP ps' (p:LxP),V4 V OP->V5 OP P ps' (T7 qn)->V.length<=p.ii->V.length<=p.ip->V.length<=p.il->p.t=t->O8 OP p 0 1 []->Q (.ref p.ii) OP):M8 W (k+3) N6 [.str t] Q V:=by
 refine lC (n:=3) (xs:=[.str t]) (V:=V) (Q:=Q) L.fi rfl (fun{A env s OQ O o fd} hK hd hcode hqual ro R f S hnew=>?_)
 obtain⟨hc0,hqn⟩:=L.fn _ _ hK hd
 rw[hc0]at hcode
 rw[hqn]at hqual
 have hl0:=B3 T.raw
 rw[yu]
 refine vK (P:=λ st OP=>st=[.str t,.ref V.length,.undef,.undef]/\OP=V++[.list [.int 0]]) (Cp (k:=k+2)) ro R f (wk S) ⟨by decide,rfl,rfl,rfl⟩ λ s1 Pu Sj st1 hp R1 f1 S1=>?_
 clear R f S hK hd
 refine(λ Z J=>?_) hp.1 hp.2;rcases Z with rfl;rcases J with rfl;clear hp
 have T1:V5 (V++[.list [.int 0]]) P ps (T7 qn):=T.mono V4.app (Fs hl0)
 refine xE (f1.cell bX 1 (by decide +kernel) (.inl ru.1)) λ c1 Z=>(λ hk1 J=>?_) Z.1 Z.2;clear Z
 refine xE (f1.cell O3 0 (by decide +kernel) (.inl ru.2)) λ c2 Z=>(λ hk2 J=>?_) Z.1 Z.2;clear Z
 refine JS (xB (by kernel_rfl) (by kernel_rfl) (by kernel_rfl) ?_)
 rw[yw f1.scope,hqual]
 refine zh L.mkf (show docOf fW=none by kernel_rfl) (yv hk1 hk2) f1.globals hcode R1 T1 (.head _) (zq qn).1 λ b PD Sk s2 cc ctv pm ps2 R2 S2 X2 T2 Y hib hc2=>?_
 refine eX R2 (f1.step0 S2 (R1.sub0 S2)) (.fn b) ma.1 ma.2 λ s3 R3 f3 S3 U3=>?_
 have Sa:=S1.trans ((wk S2).trans S3)
 clear S1 S2 S3 U3 R1 R2 f1 T T1
 refine JS (MS (uz (by kernel_rfl) ?_) rfl rfl)
 rw[hqual]
 refine zh (clos:=[]) L.mkf trivial (by kernel_rfl) f3.globals hcode R3 T2 (.tail _ (.head _)) (zq qn).2 λ a Ry Sl s4 cc4 ctv4 pm4 ps4 R4 S4 X4 T4 Y hia hc4=>?_
 have tgS:lu W (k+2) cB [.Name bY ⟨156,4,156,10⟩] [B4 3]:=.cons (sk (i:=3) (by kernel_rfl)) rfl .nil
 refine lz (Q:=λ st OP=>st=[.str t,.ref V.length,.fn b,.fn a]/\OP=Ry) ro tgS R4 (f3.step0 S4 (R3.sub0 S4)) (.fn a) ⟨rfl,rfl⟩ λ s5 PF Sm st5 h5 R5 f5 S5=>?_
 refine(λ Z J=>?_) h5.1 h5.2;rcases Z with rfl;rcases J with rfl;clear h5
 refine xE hib λ ib Z=>(λ hibl hib=>?_) Z.1 Z.2;clear Z
 refine xE hia λ ia Z=>(λ hial hia=>?_) Z.1 Z.2;clear Z
 refine xE hc2 λ ic Z=>xE Z λ oc J=>xE J λ vs θ=>xE θ λ tc ξ=>(λ hic0 hic hicd hicv=>?_) ξ.1 ξ.2.1 ξ.2.2.1 ξ.2.2.2;clear hc2 Z J θ ξ
 have l5:V.length<=PF.length:=fp (fp (fp (Fi ..) (Fw (Fc ..).symm)) X2.1) X4.1
 have hib0:0<ib:=Fo hl0 (fp (fp (Fi ..) (Fw (Fc ..).symm)) hibl)
 refine yy N G ro R5 f5 (Sa.trans ((wk S4).trans S5)) hnew hk1 hk2 hia λ d hs t'=>?_
 obtain⟨E,T',LX⟩:=tm hl0 X2 X4 T4 hia hial hib hib0 hic0 hic hicd hicv (d:=d) (hs:=hs) (t':=t') (t:=t)
 exact q _ ps4 _ E T' (GD l5) (GD (GD l5)) (Fn _) rfl LX
theorem ku{a:Addr}{o:Obj}{y:I3}(h:V[j]?=some (.raw a o))(hi:V[i]?=some y)(hy:∀a o,y≠.raw a o):j≠i:=by
 rintro rfl;rw[h]at hi;cases hi;exact hy _ _ rfl
theorem jx{a:Addr}{y:I3}(h:V[j]?=some (.cell a x))(hi:V[i]?=some y)(hy:∀a o,y≠.cell a o):j≠i:=by
 rintro rfl;rw[h]at hi;cases hi;exact hy _ _ rfl
theorem O8.posTo{p:LxP}{n':Nat}{ln:Int}{pb:List AV}(h:O8 V p n ln pb):O8 (V.set p.il (.list [.int n'])) p n' ln pb:=by
 have hl:=B3 h.pos
 have hi:p.ii≠p.il:=by intro e;have:=h.inst;rw[e,h.pos]at this;cases this
 refine h.to (λ j a o e=>?_) (λ j a x e=>?_) ?_ ?_ (Fu hl)
 ·rw[Fg (ku e h.pos (by intro _ _ e;cases e)).symm];exact e
 ·rw[Fg (jx e h.pos (by intro _ _ e;cases e)).symm];exact e
 ·rw[Fg hi.symm];exact h.inst
 ·rw[Fg h.ne.symm];exact h.pbk
theorem O8.lnTo{p:LxP}{ln ln':Int}{pb:List AV}(h:O8 V p n ln pb):O8 (V.set p.ii (.inst cL [(0,.int ln'),(1,.fn p.a),(2,.str wsL),(3,.ref p.ip)])) p n ln' pb:=by
 have hl:=B3 h.inst
 have hi:p.ii≠p.il:=by intro e;have:=h.inst;rw[e,h.pos]at this;cases this
 have hp:p.ii≠p.ip:=by intro e;have:=h.inst;rw[e,h.pbk]at this;cases this
 refine h.to (λ j a o e=>?_) (λ j a x e=>?_) (Fu hl) ?_ ?_
 ·rw[Fg (ku e h.inst (by intro _ _ e;cases e)).symm];exact e
 ·rw[Fg (jx e h.inst (by intro _ _ e;cases e)).symm];exact e
 ·rw[Fg hp];exact h.pbk
 ·rw[Fg hi];exact h.pos
theorem O8.pbTo{p:LxP}{ln:Int}{pb pb':List AV}(h:O8 V p n ln pb):O8 (V.set p.ip (.list pb')) p n ln pb':=by
 have hl:=B3 h.pbk
 have hp:p.ii≠p.ip:=by intro e;have:=h.inst;rw[e,h.pbk]at this;cases this
 refine h.to (λ j a o e=>?_) (λ j a x e=>?_) ?_ (Fu hl) ?_
 ·rw[Fg (ku e h.pbk (by intro _ _ e;cases e)).symm];exact e
 ·rw[Fg (jx e h.pbk (by intro _ _ e;cases e)).symm];exact e
 ·rw[Fg hp.symm];exact h.inst
 ·rw[Fg h.ne];exact h.pos
theorem o0.isFn{b:Addr}{t:List Nat}{il:Nat}(h:o0 V b t il):BO V b:=by
 obtain⟨ib,j1,j2,ic,c1,c2,cc,nm,qual,pm,ctv,oc,vs,tt,e1,_⟩:=h
 exact⟨ib,_,_,e1,rfl⟩
theorem rv(N:GF W)(G:GI W){p:LxP}{ln:Int}{pb:List AV}(h:O8 V p n ln pb)(ht:p.t.length<900000)(hn:n<=p.t.length)
  (q:∀OP,OP.length=V.length->(∀j,j≠p.ii->j≠p.il->OP[j]?=V[j]?)->O8 OP p (n+((p.t.drop n).take 1).length) (ln+if (p.t.drop n).take 1=[10]then 1 else 0) pb->Q (.str ((p.t.drop n).take 1)) OP):
  M8 W (k+2) C0 [.ref p.ii] Q V:=by
 refine H6 (n:=1) (xs:=[.ref p.ii]) (V:=V) (Q:=Q) N.f__netrclex__read_char (dn G) rfl ?_
 have hp:=h.posTo (n':=n+((p.t.drop n).take 1).length)
 have hi:p.ii≠p.il:=by intro e;have:=h.inst;rw[e,h.pos]at this;cases this
 dsimp only[aC,A4,B5,B7,G2,sIf,F9,L7,H7,H0,I4,I5,I2,G4,A5,B6,G1,G7,G0,C2,I9,L4,D1,L2,H5,C9,I8,I6,G5,I1,M4,D0,pIf,L9,E4,L5,L6,M1,M5,D7,L3,L1,tOr,J4,M0,F0,A7,A6,B4,K6,K5,J8,J9,J7,D9,I0,inI,B8,B9,C5,C6,C3,C7,List.replicate]
 refine aE h.inst rfl ⟨p.a,p.b,rfl,h.has,h.rd.isFn,yp (k:=k) G h.rd h.pos (Fe hn ht) (FE (FF ht (by decide))) ?_⟩
 generalize (p.t.drop n).take 1=sg at *
 have e5:=λ m:I3=>(Fg (a:=m) hi.symm).trans h.inst
 refine N7 (b:=decide (sg=[10])) rfl ?_
 by_cases hs:sg=[10]
 ·rw[if_pos hs]at q
  rw[decide_eq_true hs,if_pos rfl]
  refine aE (e5 _) rfl (fI (e5 _) (show 4<=900 by decide) (q _ (by rw[Fj,Fj]) (λ j h1 h2=>?_) hp.lnTo))
  rw[Fg h1.symm,Fg h2.symm]
 ·rw[if_neg hs,Iu]at q
  rw[decide_eq_false hs,if_neg Hi]
  exact q _ (Fj ..) (λ j h1 h2=>Fg h2.symm) hp
structure B2(V OP:Sto)(p:LxP)(n:Nat)(ln:Int):Prop where
 len:OP.length=V.length+2
 same:∀j,j<V.length->j≠p.ii->j≠p.il->OP[j]?=V[j]?
 lex:O8 OP p n ln []
 meth:OP[V.length]?=some (.flds "method" [.fn C0,.ref p.ii])
 cit:OP[V.length+1]?=some (.flds "callable_iterator" [.ref V.length,.str [],.bool false])
 pi:p.ii<V.length
 pil:p.il<V.length
theorem B2.ne{OP:Sto}{p:LxP}{ln:Int}(b:B2 V OP p n ln):V.length+k≠p.ii/\V.length+k≠p.il:=
 ⟨FU (Fo b.pi (Fi ..)),FU (Fo b.pil (Fi ..))⟩
theorem rx{t:List Nat}{c:Nat}{r:List Nat}(hr:t.drop n=c::r):n<t.length:=IK λ h=>by rw[Js h]at hr;cases hr
theorem iD{t:List Nat}{c:Nat}{r:List Nat}(hr:t.drop n=c::r):t.drop (n+1)=r:=by rw[<- Jl,hr];rfl
theorem rcB(N:GF W)(G:GI W){OP:Sto}{p:LxP}{ln:Int}{c:Nat}{r:List Nat}(b:B2 V OP p n ln)(ht:p.t.length<900000)(hr:p.t.drop n=c::r)
  (q:∀Pr,B2 V Pr p (n+1) (ln+if c=10 then 1 else 0)->p.t.drop (n+1)=r->Q (.str [c]) Pr):M8 W (k+2) C0 [.ref p.ii] Q OP:=by
 have h1:(p.t.drop n).take 1=[c]:=by rw[hr];rfl
 refine rv (k:=k) N G b.lex ht (FE (rx hr)) λ Pr l1 l2 l3=>?_
 rw[h1]at l3 ⊢
 have e:(if c=10 then(1:Int)else 0)=if [c]=[10]then 1 else 0:=by by_cases h:c=10 <;> simp[h]
 exact q Pr ⟨l1.trans b.len,λ j hj a1 a2=>(l2 j a1 a2).trans (b.same j hj a1 a2),e▸l3,(l2 _ (b.ne (k:=0)).1 (b.ne (k:=0)).2).trans b.meth,(l2 _ b.ne.1 b.ne.2).trans b.cit,b.pi,b.pil⟩ (iD hr)
theorem nxB(N:GF W)(G:GI W){OP:Sto}{p:LxP}{ln:Int}{c:Nat}{r:List Nat}{R:Option AV->Sto->Prop}(b:B2 V OP p n ln)(ht:p.t.length<900000)(hr:p.t.drop n=c::r)
  (q:∀Pr,B2 V Pr p (n+1) (ln+if c=10 then 1 else 0)->p.t.drop (n+1)=r->R (some (.str [c])) Pr):ot W (k+3) (V.length+1) R OP:=
 .inr ⟨V.length,_,_,_,b.cit,b.meth,G.e__netrclex__read_char.obj,rcB (k:=k) N G b ht hr λ Pr b' hr'=>⟨b'.cit.trans b.cit.symm,b'.meth.trans b.meth.symm,[c],rfl,λ Y=>q Pr b' hr',λ e=>by cases e⟩⟩
theorem nxE(N:GF W)(G:GI W){OP:Sto}{p:LxP}{ln:Int}{R:Option AV->Sto->Prop}(b:B2 V OP p n ln)(ht:p.t.length<900000)(hn:n=p.t.length)
  (q:∀Pr,Pr.length=V.length+2->(∀j,j<V.length->j≠p.ii->j≠p.il->Pr[j]?=V[j]?)->O8 Pr p n ln []->R none Pr):ot W (k+3) (V.length+1) R OP:=by
 have h1:(p.t.drop n).take 1=[]:=by rw[hn,Lv];rfl
 refine .inr ⟨V.length,_,_,_,b.cit,b.meth,G.e__netrclex__read_char.obj,rv (k:=k) N G b.lex ht (Fw hn) λ Pr l1 l2 l3=>?_⟩
 rw[h1,if_neg (by decide),Iu,Jx,JR]at l3
 rw[h1]
 have c1:=(l2 _ b.ne.1 b.ne.2).trans b.cit
 refine⟨l2 _ b.ne.1 b.ne.2,l2 _ (b.ne (k:=0)).1 (b.ne (k:=0)).2,[],rfl,λ e=>(e rfl).elim,λ Y=>?_⟩
 refine q _ ((Fj ..).trans (l1.trans b.len)) (λ j hj a1 a2=>(Fg (FU (Hq hj))).trans ((l2 j a1 a2).trans (b.same j hj a1 a2))) (l3.to (λ j a o e=>?_) (λ j a x e=>?_) ?_ ?_ ?_)
 ·rw[Fg (ku e c1 (by intro _ _ e;cases e)).symm];exact e
 ·rw[Fg (jx e c1 (by intro _ _ e;cases e)).symm];exact e
 ·rw[Fg b.ne.1];exact l3.inst
 ·have:p.ip≠V.length+1:=by intro e;have:=l3.pbk;rw[e,c1]at this;cases this
  rw[Fg this.symm];exact l3.pbk
 ·rw[Fg b.ne.2];exact l3.pos
theorem yz(N:GF W)(G:GI W){p:LxP}{ln:Int}{pb:List AV}(h:O8 V p n ln (x::pb))(hl:pb.length<1000)(q:Q x (V.set p.ip (.list pb))):
  M8 W (k+1) E3 [.ref p.ii] Q V:=by
 refine H6 (n:=3) (xs:=[.ref p.ii]) (V:=V) (Q:=Q) N.f__netrclex_get_token (aK G) rfl ?_
 rw[show W2 W k=A4 _ (A4 _ (A4 _ (A4 _ _)))from rfl]
 have hz:pb.length<lim:=FF hl (by decide)
 dsimp only[A4,B5,B7,G2,sIf,F9,L7,H7,H0,I4,I5,I2,G4,A5,B6,G1,G7,G0,C2,I9,L4,D1,L2,H5,C9,I8,I6,G5,I1,M4,D0,pIf,L9,E4,L5,L6,M1,M5,D7,L3,L1,tOr,J4,M0,F0,A7,A6,B4,K6,K5,J8,J9,J7,D9,I0,inI,B8,B9,C5,C6,C3,C7,List.replicate]
 refine aE h.inst rfl (p6 (jv (J1 h.pbk) hz) ?_)
 exact aE h.inst rfl (Ax (J1 h.pbk) hz q)
noncomputable def enc:Bool×Nat->List Nat
 | (true,c)=>[92,c]
 | (false,c)=>[c]
noncomputable def cg(l:List (Bool×Nat)):List Nat:=l.flatMap enc
noncomputable def txt(l:List (Bool×Nat)):List Nat:=l.map (·.2)
theorem md(e:Bool×Nat)(l:List (Bool×Nat)):cg (e::l)=enc e++cg l:=by simp[cg]
theorem o7:∀its:List (Bool×Nat),its.length<=(cg its).length
 | []=>by simp
 | (x,y)::l=>by
  have:=o7 l
  cases x <;> simp[md,enc] <;> lia
theorem ry:∀its:List Nat,(its.flatMap (λ c=>[92,c])).length=2*its.length
 | []=>rfl
 | x::l=>by rw[HZ,Fc,ry l];simp;exact Hl _ _
def bQ(W:Wld)(k:Nat):ST:=(A4 (sIf (D7 .Eq (A5 3) (G1 [34])) (A4 (G2 (A5 1)) B5) (A4 (sIf (D7 .Eq (A5 3) (G1 [92])) (A4 (B7 (I1 W k cL C0 (A5 0) A7) [(B4 3)]) B5) B5) B5)) (A4 (H0 1 (A5 3)) B5))
def bE(W:Wld)(k:Nat):ST:=(A4 (sIf (D7 .In (A5 3) (I6 (A5 0) 2)) (A4 (G2 (A5 1)) B5) (A4 (sIf (D7 .Eq (A5 3) (G1 [92])) (A4 (B7 (I1 W k cL C0 (A5 0) A7) [(B4 3)]) B5) B5) B5)) (A4 (H0 1 (A5 3)) B5))
theorem B2.ins{OP:Sto}{p:LxP}{ln:Int}(b:B2 V OP p n ln):iK cL OP (.ref p.ii):=V6 b.lex.inst
theorem B2.ws{OP:Sto}{p:LxP}{ln:Int}(b:B2 V OP p n ln)(q:Q (.str wsL) OP):so (.ref p.ii) 2 Q OP:=aE b.lex.inst rfl q
theorem B2.nl{OP:Sto}{p:LxP}{c:Nat}{ln:Int}(b:B2 V OP p n (ln+if c=10 then 1 else 0))(h:c≠10):B2 V OP p n ln:=by rw[if_neg h,Iu]at b;exact b
theorem rA{tok:List Nat}{c:Nat}(h:tok.length+(k+1)<=lim):tok.length+[c].length<=lim/\(tok++[c]).length+k<=lim:=⟨fp (Gf (GO ..) _) h,by rw[Fc,JA,Hl [c].length];exact h⟩
inductive LqI(V:Sto)(p:LxP)(ln:Int)(r T:List Nat)(M m:Nat)(st:List AV)(Pu:Sto):Prop
 | mk {its:List (Bool×Nat)}{tok n ch:_}:m=its.length->st=[.ref p.ii,.str tok,.ref (V.length+1),ch]->B2 V Pu p n ln->p.t.drop n=cg its++34::r->(∀e∈its,e.2≠10/\(e.1=false->e.2≠34/\e.2≠92))->
   tok++txt its=T->n+(cg its).length=M->tok.length+its.length<=lim->LqI V p ln r T M m st Pu
set_option tactic.hygienic true in
theorem Cs(N:GF W)(G:GI W){OP:Sto}{p:LxP}{ln:Int}{its:List (Bool×Nat)}{r:List Nat}{tok:List Nat}{ch:AV}{Q:G3->List AV->Sto->Prop}(b:B2 V OP p n ln)(ht:p.t.length<900000)
  (hr:p.t.drop n=cg its++34::r)(hv:∀e∈its,e.2≠10/\(e.1=false->e.2≠34/\e.2≠92))(hl:tok.length+its.length<=lim)
  (q:∀Pr ch,B2 V Pr p (n+(cg its).length+1) ln->Q (.ret (.str (tok++txt its))) [.ref p.ii,.str (tok++txt its),.ref (V.length+1),ch] Pr):
  gw W (k+3) (A5 2) (B4 3) (bQ W (k+3)) [.ref p.ii,.str tok,.ref (V.length+1),ch] Q OP:=by
 refine⟨V.length+1,rfl,LqI V p ln r (tok++txt its) (n+(cg its).length),its.length,.mk rfl rfl b hr hv rfl rfl hl,?_⟩
 generalize tok++txt its=T at q ⊢
 generalize n+(cg its).length=M at q ⊢
 clear hr hv hl b
 rintro m st Pu h
 obtain⟨rfl,rfl,b1,hr1,hv1,ht1,hn1,hl1⟩:=h
 rename_i its1 tok1 n1 ch1
 refine⟨⟨_,b1.cit⟩,?_⟩
 cases its1 with
 | nil=>
  refine nxB (k:=k) N G b1 ht hr1 λ PD b2 hr2=>?_
  dsimp only[jR,bQ,A4,B5,B7,G2,sIf,F9,L7,H7,H0,I4,I5,I2,G4,A5,B6,G1,G7,G0,C2,I9,L4,D1,L2,H5,C9,I8,I6,G5,I1,M4,D0,pIf,L9,E4,L5,L6,M1,M5,D7,L3,L1,tOr,J4,M0,F0,A7,A6,B4,K6,K5,J8,J9,J7,D9,I0,inI,B8,B9,C5,C6,C3,C7,List.replicate]
  refine W3 rfl ?_
  obtain rfl:tok1=T:=(FL _).symm.trans ht1
  obtain rfl:n1=M:=hn1
  exact q _ _ (b2.nl (by decide))
 | cons e its2=>
  obtain⟨h10,h34⟩:=hv1 e (.head _)
  have hv2:∀e∈its2,e.2≠10/\(e.1=false->e.2≠34/\e.2≠92):=λ x hx=>hv1 x (.tail _ hx)
  obtain⟨es,c⟩:=e
  rw[md]at hr1 hn1
  obtain⟨hlt,hl2⟩:=rA (c:=c) (k:=its2.length) hl1
  have ht2:(tok1++[c])++txt its2=T:=by rw[<- ht1,Fz];rfl
  clear hl1 ht1 hv1
  cases es with
  | true=>
   refine nxB (k:=k) N G b1 ht (show p.t.drop n1=92::c::(cg its2++34::r)from hr1) λ PD b2 hr2=>?_
   dsimp only[jR,bQ,A4,B5,B7,G2,sIf,F9,L7,H7,H0,I4,I5,I2,G4,A5,B6,G1,G7,G0,C2,I9,L4,D1,L2,H5,C9,I8,I6,G5,I1,M4,D0,pIf,L9,E4,L5,L6,M1,M5,D7,L3,L1,tOr,J4,M0,F0,A7,A6,B4,K6,K5,J8,J9,J7,D9,I0,inI,B8,B9,C5,C6,C3,C7,List.replicate]
   refine W4 rfl (W3 rfl ⟨b2.ins,rcB (k:=k+1) N G b2 ht hr2 λ Qe b3 hr3=>mW hlt ⟨its2.length,FY _,.mk rfl rfl ((b3.nl h10).nl (by decide)) hr3 hv2 ht2 ?_ hl2⟩⟩)
   rw[<- hn1,Fc,<- JA];rfl
  | false=>
   obtain⟨g1,g2⟩:=h34 rfl
   refine nxB (k:=k) N G b1 ht (show p.t.drop n1=c::(cg its2++34::r)from hr1) λ PD b2 hr2=>?_
   have d:∀{x},c≠x->some (decide (([c]:List Nat)=[x]))=some false:=λ h=>congrArg some (decide_eq_false λ e=>h (List.cons.inj e).1)
   dsimp only[jR,bQ,A4,B5,B7,G2,sIf,F9,L7,H7,H0,I4,I5,I2,G4,A5,B6,G1,G7,G0,C2,I9,L4,D1,L2,H5,C9,I8,I6,G5,I1,M4,D0,pIf,L9,E4,L5,L6,M1,M5,D7,L3,L1,tOr,J4,M0,F0,A7,A6,B4,K6,K5,J8,J9,J7,D9,I0,inI,B8,B9,C5,C6,C3,C7,List.replicate]
   refine W4 (d g1) (W4 (d g2) (mW hlt ⟨its2.length,FY _,.mk rfl rfl (b2.nl h10) hr2 hv2 ht2 ?_ hl2⟩))
   rw[<- hn1,Fc,<- JA];rfl
inductive LeI(V:Sto)(p:LxP)(ln:Int)(w:Nat)(r T:List Nat)(M m:Nat)(st:List AV)(Pu:Sto):Prop
 | mk {its tok:List Nat}{n ch:_}:m=its.length->st=[.ref p.ii,.str tok,.ref (V.length+1),ch]->B2 V Pu p n ln->p.t.drop n=its.flatMap (λ c=>[92,c])++w::r->(∀c∈its,c≠10)->
   tok++its=T->n+2*its.length=M->tok.length+its.length<=lim->LeI V p ln w r T M m st Pu
set_option tactic.hygienic true in
theorem Ct(N:GF W)(G:GI W){OP:Sto}{p:LxP}{ln:Int}{its:List Nat}{w:Nat}{r:List Nat}{tok:List Nat}{ch:AV}{Q:G3->List AV->Sto->Prop}(b:B2 V OP p n ln)(ht:p.t.length<900000)
  (hr:p.t.drop n=its.flatMap (λ c=>[92,c])++w::r)(hv:∀c∈its,c≠10)(hw:w∈wsL)(hl:tok.length+its.length<=lim)
  (q:∀Pr ch,B2 V Pr p (n+2*its.length+1) (ln+if w=10 then 1 else 0)->Q (.ret (.str (tok++its))) [.ref p.ii,.str (tok++its),.ref (V.length+1),ch] Pr):
  gw W (k+3) (A5 2) (B4 3) (bE W (k+3)) [.ref p.ii,.str tok,.ref (V.length+1),ch] Q OP:=by
 refine⟨V.length+1,rfl,LeI V p ln w r (tok++its) (n+2*its.length),its.length,.mk rfl rfl b hr hv rfl rfl hl,?_⟩
 generalize tok++its=T at q ⊢
 generalize n+2*its.length=M at q ⊢
 clear hr hv hl b
 rintro m st Pu h
 obtain⟨rfl,rfl,b1,hr1,hv1,ht1,hn1,hl1⟩:=h
 rename_i its1 tok1 n1 ch1
 refine⟨⟨_,b1.cit⟩,?_⟩
 cases its1 with
 | nil=>
  refine nxB (k:=k) N G b1 ht hr1 λ PD b2 hr2=>?_
  dsimp only[jR,bE,A4,B5,B7,G2,sIf,F9,L7,H7,H0,I4,I5,I2,G4,A5,B6,G1,G7,G0,C2,I9,L4,D1,L2,H5,C9,I8,I6,G5,I1,M4,D0,pIf,L9,E4,L5,L6,M1,M5,D7,L3,L1,tOr,J4,M0,F0,A7,A6,B4,K6,K5,J8,J9,J7,D9,I0,inI,B8,B9,C5,C6,C3,C7,List.replicate]
  refine b2.ws (W3 (congrArg some (decide_eq_true hw)) ?_)
  obtain rfl:tok1=T:=(FL _).symm.trans ht1
  obtain rfl:n1=M:=hn1
  exact q _ _ b2
 | cons c its2=>
  obtain⟨hlt,hl2⟩:=rA (c:=c) (k:=its2.length) hl1
  refine nxB (k:=k) N G b1 ht (show p.t.drop n1=92::c::(its2.flatMap (λ c=>[92,c])++w::r)from hr1) λ PD b2 hr2=>?_
  dsimp only[jR,bE,A4,B5,B7,G2,sIf,F9,L7,H7,H0,I4,I5,I2,G4,A5,B6,G1,G7,G0,C2,I9,L4,D1,L2,H5,C9,I8,I6,G5,I1,M4,D0,pIf,L9,E4,L5,L6,M1,M5,D7,L3,L1,tOr,J4,M0,F0,A7,A6,B4,K6,K5,J8,J9,J7,D9,I0,inI,B8,B9,C5,C6,C3,C7,List.replicate]
  refine b2.ws (W4 rfl (W3 rfl ⟨b2.ins,rcB (k:=k+1) N G b2 ht hr2 λ Qe b3 hr3=>mW hlt ⟨its2.length,FY _,.mk rfl rfl ((b3.nl (hv1 c (.head _))).nl (by decide)) hr3 (λ x hx=>hv1 x (.tail _ hx)) ?_ ?_ hl2⟩⟩))
  ·rw[<- ht1,Fz];rfl
  ·rw[<- hn1,GB];lia
theorem Cu{A B:ST}{Q:G3->List AV->Sto->Prop}{PW:Sto}{p:LxP}{ln:Int}{y:AV}(b:B2 PW V p n ln)(h:∀K:G3->List AV->Sto->Prop,(∀v st V,Q (.ret v) st V->K (.ret v) st V)->A [.ref p.ii,x,y,.str [34]] K V):
  A4 (sIf (D7 .In (A5 3) (I6 (A5 0) 2)) (A4 H7 B5) B5) (A4 (sIf (D7 .Eq (A5 3) (G1 [34])) (A4 A B5) B) B5) [.ref p.ii,x,y,.str [34]] Q V:=by
 dsimp only[A4,B5,B7,G2,sIf,F9,L7,H7,H0,I4,I5,I2,G4,A5,B6,G1,G7,G0,C2,I9,L4,D1,L2,H5,C9,I8,I6,G5,I1,M4,D0,pIf,L9,E4,L5,L6,M1,M5,D7,L3,L1,tOr,J4,M0,F0,A7,A6,B4,K6,K5,J8,J9,J7,D9,I0,inI,B8,B9,C5,C6,C3,C7,List.replicate]
 exact b.ws (W4 rfl (W3 rfl (h _ λ v st V q=>q)))
theorem Cv{A B:ST}{Q:G3->List AV->Sto->Prop}{PW:Sto}{p:LxP}{ln:Int}{y:AV}(b:B2 PW V p n ln)(h:∀K:G3->List AV->Sto->Prop,(∀v st V,Q (.ret v) st V->K (.ret v) st V)->B [.ref p.ii,x,y,.str [92]] K V):
  A4 (sIf (D7 .In (A5 3) (I6 (A5 0) 2)) (A4 H7 B5) B5) (A4 (sIf (D7 .Eq (A5 3) (G1 [34])) A B) B5) [.ref p.ii,x,y,.str [92]] Q V:=by
 dsimp only[A4,B5,B7,G2,sIf,F9,L7,H7,H0,I4,I5,I2,G4,A5,B6,G1,G7,G0,C2,I9,L4,D1,L2,H5,C9,I8,I6,G5,I1,M4,D0,pIf,L9,E4,L5,L6,M1,M5,D7,L3,L1,tOr,J4,M0,F0,A7,A6,B4,K6,K5,J8,J9,J7,D9,I0,inI,B8,B9,C5,C6,C3,C7,List.replicate]
 exact b.ws (W4 rfl (W4 rfl (h _ λ v st V q=>q)))
theorem AI(N:GF W)(G:GI W){C:ST}{Q:G3->List AV->Sto->Prop}{OP:Sto}{p:LxP}{ln:Int}{c:Nat}{r:List Nat}{y:AV}(b:B2 V OP p n ln)(ht:p.t.length<900000)(hr:p.t.drop n=c::r)
  (h:∀(K:G3->List AV->Sto->Prop) (Pr:Sto),(∀v st V,Q (.ret v) st V->K (.ret v) st V)->B2 V Pr p (n+1) (ln+if c=10 then 1 else 0)->p.t.drop (n+1)=r->C [.ref p.ii,.str [c],y,.str [c]] K Pr):
  A4 (sIf (D7 .Eq (A5 3) (G1 [92])) (A4 (B7 (I1 W (k+2) cL C0 (A5 0) A7) [(B4 3)]) B5) B5) (A4 (H0 1 (A5 3)) (A4 C B5)) [.ref p.ii,.str [],y,.str [92]] Q OP:=by
 dsimp only[A4,B5,B7,G2,sIf,F9,L7,H7,H0,I4,I5,I2,G4,A5,B6,G1,G7,G0,C2,I9,L4,D1,L2,H5,C9,I8,I6,G5,I1,M4,D0,pIf,L9,E4,L5,L6,M1,M5,D7,L3,L1,tOr,J4,M0,F0,A7,A6,B4,K6,K5,J8,J9,J7,D9,I0,inI,B8,B9,C5,C6,C3,C7,List.replicate]
 exact W3 rfl ⟨b.ins,rcB (k:=k) N G b ht hr λ Pr b' hr'=>mW (show 1<=lim by decide) (h _ Pr (λ v st V q=>q) b' hr')⟩
def bT(W:Wld)(k:Nat):ST:=A4 (sIf (D7 .In (A5 3) (I6 (A5 0) 2)) (A4 H7 B5) B5) (A4 (sIf (D7 .Eq (A5 3) (G1 [34])) (A4 (gw W k (A5 2) (B4 3) (bQ W k)) B5)
 (A4 (sIf (D7 .Eq (A5 3) (G1 [92])) (A4 (B7 (I1 W k cL C0 (A5 0) A7) [(B4 3)]) B5) B5) (A4 (H0 1 (A5 3)) (A4 (gw W k (A5 2) (B4 3) (bE W k)) B5)))) B5)
theorem EH{Q:G3->List AV->Sto->Prop}{PW:Sto}{p:LxP}{c:Nat}{ln:Int}{y:AV}(b:B2 PW V p n ln)(h:c∈wsL)(q:Q .cont [.ref p.ii,x,y,.str [c]] V):bT W k [.ref p.ii,x,y,.str [c]] Q V:=by
 unfold bT
 dsimp only[A4,B5,B7,G2,sIf,F9,L7,H7,H0,I4,I5,I2,G4,A5,B6,G1,G7,G0,C2,I9,L4,D1,L2,H5,C9,I8,I6,G5,I1,M4,D0,pIf,L9,E4,L5,L6,M1,M5,D7,L3,L1,tOr,J4,M0,F0,A7,A6,B4,K6,K5,J8,J9,J7,D9,I0,inI,B8,B9,C5,C6,C3,C7,List.replicate]
 exact b.ws (W3 (congrArg some (decide_eq_true h)) q)
inductive Tk:List Nat->List Nat->List Nat->Prop
 | quoted {its:_} (hv:∀e∈its,e.2≠10/\(e.1=false->e.2≠34/\e.2≠92)):Tk (34::(cg its++[34])) (txt its) []
 | bare {c its w:_} (hc:c≠10) (hv:∀c∈its,c≠10) (hw:w∈wsL):Tk (92::c::(its.flatMap (λ c=>[92,c])++[w])) (c::its) [w]
def TkR(p:LxP)(n:Nat)(ws used tok nl r:List Nat):Prop:=(p.t.drop n=ws++used++r/\Tk used tok nl)\/(p.t.drop n=ws/\n<=p.t.length/\used=[]/\tok=[]/\nl=[])
theorem TkR.next{p:LxP}{c:Nat}{ws used tok nl r:List Nat}(h:TkR p n (c::ws) used tok nl r):∃r',p.t.drop n=c::r'/\TkR p (n+1) ws used tok nl r:=by
 rcases h with⟨h1,h2⟩|⟨h1,h2,h3⟩
 ·exact⟨_,h1,.inl ⟨iD h1,h2⟩⟩
 ·exact⟨_,h1,.inr ⟨iD h1,rx h1,h3⟩⟩
inductive GtI(V:Sto)(p:LxP)(used tok nl r:List Nat)(L:Int)(M m:Nat)(st:List AV)(Pu:Sto):Prop
 | mk {ws ln n ch:_}:m=ws.length->st=[.ref p.ii,.str [],.ref (V.length+1),ch]->B2 V Pu p n ln->(∀c∈ws,c∈wsL)->TkR p n ws used tok nl r->ln+(ws.count 10:Nat)=L->n+ws.length=M->GtI V p used tok nl r L M m st Pu
theorem rB{a:Nat}{t l:List Nat}(h:t.drop n=l)(ht:t.length<900000)(ha:a<=l.length):0+a<=lim:=by
 have:=congrArg List.length h
 rw[Ho]at this
 rw[Gy]
 exact fp ha (this▸fp (HH ..) (FE (FF ht (by decide))))
theorem AJ{p:LxP}{ln:Int}(h:O8 V p n ln []):B2 V (V++[I3.flds "method" [AV.fn C0,AV.ref p.ii]]++[I3.flds "callable_iterator" [AV.ref (List.length V),AV.str [],AV.bool false]]) p n ln:=by
 rw[Fz]
 have up:∀{j:Nat},j<V.length->(V++([I3.flds "method" [AV.fn C0,AV.ref p.ii]]++[I3.flds "callable_iterator" [AV.ref (List.length V),AV.str [],AV.bool false]]))[j]?=V[j]?:=λ hj=>Fs hj
 have up':∀{j:Nat}{y:I3},V[j]?=some y->(V++([I3.flds "method" [AV.fn C0,AV.ref p.ii]]++[I3.flds "callable_iterator" [AV.ref (List.length V),AV.str [],AV.bool false]]))[j]?=some y:=λ e=>(up (B3 e)).trans e
 exact⟨Fc ..,λ j hj Y Y=>up hj,h.to (λ j a o e=>up' e) (λ j a x e=>up' e) (up' h.inst) (up' h.pbk) (up' h.pos),nc (k:=0),nc (k:=1),B3 h.inst,B3 h.pos⟩
set_option tactic.hygienic true in
theorem ng(N:GF W)(G:GI W){p:LxP}{ln:Int}{ws used tok nl r:List Nat}(h:O8 V p n ln [])(ht:p.t.length<900000)(hws:∀c∈ws,c∈wsL)
  (hr:(p.t.drop n=ws++used++r/\Tk used tok nl)\/(p.t.drop n=ws/\n<=p.t.length/\used=[]/\tok=[]/\nl=[]))
  (q:∀OP,OP.length=V.length+2->(∀j,j<V.length->j≠p.ii->j≠p.il->OP[j]?=V[j]?)->O8 OP p (n+(ws++used).length) (ln+((ws++nl).count 10:Nat)) []->Q (.str tok) OP):M8 W (k+4) E3 [.ref p.ii] Q V:=by
 refine H6 (n:=3) (xs:=[.ref p.ii]) (V:=V) (Q:=Q) N.f__netrclex_get_token (aK G) rfl ?_
 rw[show W2 W (k+3)=A4 _ (A4 _ (A4 _ (A4 (gw W (k+3) _ _ (bT W (k+3))) _)))from rfl]
 dsimp only[A4,B5,B7,sIf,G2,J4,I6,A5,G1,D0,M1,A6,A7,I0,B4,B8,B9,C3,C7,List.replicate,C5,C6]
 refine aE h.inst rfl (p7 (jv (J1 h.pbk) (Gb _)) ⟨V6 h.inst,?_⟩)
 unfold qJ
 refine⟨⟨[AV.fn C0,AV.ref p.ii],aD⟩,?_⟩
 have b0:=AJ h
 rw[show(V++[I3.flds "method" [AV.fn C0,AV.ref p.ii]]).length=V.length+1 from Fc ..]
 generalize V++[I3.flds "method" [AV.fn C0,AV.ref p.ii]]++[I3.flds "callable_iterator" [AV.ref (List.length V),AV.str [],AV.bool false]]=Sn at b0
 refine⟨V.length+1,rfl,GtI V p used tok nl r (ln+(ws.count 10:Nat)) (n+ws.length),ws.length,.mk rfl rfl b0 hws hr rfl rfl,?_⟩
 clear b0 hws hr
 rw[Fc,<- JA,HK,Ih,<- It]at q
 generalize ln+(ws.count 10:Nat)=L at q ⊢
 generalize n+ws.length=M at q ⊢
 rintro m st Pu h1
 obtain⟨rfl,rfl,b1,hws1,hr1,rfl,rfl⟩:=h1
 rename_i ws1 ln1 n1 ch1
 refine⟨⟨_,b1.cit⟩,?_⟩
 cases ws1 with
 | cons c ws2=>
  refine xE hr1.next λ r' Z=>(λ hr' k'=>?_) Z.1 Z.2;clear Z
  refine nxB (k:=k) N G b1 ht hr' λ PD b2 hr2=>?_
  refine EH b2 (hws1 c (.head _)) ⟨ws2.length,FY _,.mk rfl rfl b2 (λ x hx=>hws1 x (.tail _ hx)) k' ?_ ?_⟩
  ·rw[KJ,Ih,It,KT (if c=10 then(1:Int)else 0)]
   by_cases h:c=10
   ·rw[if_pos h,if_pos (beq_iff_eq.mpr h)];rfl
   ·rw[if_neg h,if_neg (λ e=>h (beq_iff_eq.mp e))];rfl
  ·rw[GB,JA,Hl 1]
 | nil=>
  simp only[Jx,JR,Mv,Lr,Iu]at q
  rcases hr1 with⟨h1,h2⟩|⟨h1,h2,rfl,rfl,rfl⟩
  ·induction h2 with
   | @quoted its hv=>
    refine nxB (k:=k) N G b1 ht (show p.t.drop n1=34::(cg its++34::r) by rw[h1];simp) λ PD b2 hr2=>Cu b2 λ K hK=>?_
    refine Cs (r:=r) N G (b2.nl (by decide)) ht hr2 hv (rB hr2 ht (fp (o7 its) (by rw[Fc];exact Fi ..))) λ Qe ch b3=>hK _ _ _ ?_
    refine q Qe b3.len b3.same ?_
    rw[show n1+(34::(cg its++[34])).length=n1+1+(cg its).length+1 by rw[GB,Fc,Gs];lia,Mv,Lr,Iu]
    exact b3.lex
   | @bare c its w hc hv hw=>
    refine nxB (k:=k) N G b1 ht (show p.t.drop n1=92::c::(its.flatMap (λ c=>[92,c])++w::r) by rw[h1];simp) λ PD b2 hr2=>Cv b2 λ K hK=>?_
    refine AI (k:=k+1) N G (b2.nl (by decide)) ht hr2 λ K' Qe hK' b3 hr3=>?_
    have hfl:=ry its
    have hz:1+its.length<=(c::(its.flatMap (λ c=>[92,c])++w::r)).length:=by rw[GB,Fc,hfl];lia
    refine Ct (w:=w) (r:=r) N G (b3.nl hc) ht hr3 hv hw (show 1+its.length<=lim from fp (GO ..) (rB hr2 ht hz)) λ Ry ch b4=>hK' _ _ _ (hK _ _ _ ?_)
    refine q Ry b4.len b4.same ?_
    rw[show n1+(92::c::(its.flatMap (λ c=>[92,c])++[w])).length=n1+1+1+2*its.length+1 by rw[GB,GB,Fc,hfl,Gs];lia,
     show(([w]:List Nat).count 10:Int)=if w=10 then 1 else 0 by by_cases h:w=10 <;> simp[h]]
    exact b4.lex
  ·have hn:n1=p.t.length:=Gv h2 (List.drop_eq_nil_iff.mp h1)
   refine nxE (k:=k) N G b1 ht hn λ PD g1 g2 g3=>q PD g1 g2 ?_
   rw[Jx,JR,Mv,Lr,Iu]
   exact g3
noncomputable def X8(l:List Nat):List AV:=l.map λ j:Nat=>AV.int (j:Int)
noncomputable def iE(b:Blk):AV:=.tup [.int (au b).1,.int (au b).2]
noncomputable def N2(b:Blk):AV:=.tup [iE b,.int b.need,.int b.net,.tup (X8 b.pl)]
noncomputable abbrev itA(h:HI):AV:=.tup [iE h.b,.int h.ii,N2 h.b]
theorem yA(V:Sto)(a b:Int):eqS V (.int a) (.int b)=some (decide (a=b)):=by
 show eqD (.int a) (.int b)=_
 unfold eqD
 rw[if_pos (by rfl)]
 congr 1
theorem AK(V:Sto)(a b c d:Int):eqS V (.tup [.int a,.int b]) (.tup [.int c,.int d])=some (decide (a=c)&&decide (b=d)):=by
 show eqD (.tuple [.int a,.int b]) (.tuple [.int c,.int d])=_
 unfold eqD
 rw[if_pos (by rfl)]
 simp only[PyData.eqv,PyData.eqvAll,Bool.and_true]
 rfl
theorem zr(n:Nat)(a b:Int):ltN n (.int a) (.int b)=some (decide (a<b)):=wO
theorem vL(n:Nat)(a b:Int)(l m:List AV):ltL (ltN n) (.int a::l) (.int b::m)=if a=b then ltL (ltN n) l m else some (decide (a<b)):=by
 rw[ltL,if_pos (by rfl),yA]
 by_cases h:a=b
 ·rw[decide_eq_true h,if_pos h]
 ·rw[decide_eq_false h,if_neg h];exact zr ..
theorem vM(n:Nat)(a b c d:Int):ltN (n+1) (.tup [.int a,.int b]) (.tup [.int c,.int d])=some (decide (a<c\/(a=c/\b<d))):=by
 show ltL (ltN n) _ _=_
 rw[vL,vL]
 by_cases h:a=c
 ·rw[if_pos h]
  by_cases h2:b=d
  ·rw[if_pos h2]
   exact congrArg some (decide_eq_false λ e=>e.elim (λ e=>absurd h (IZ e)) λ e=>absurd h2 (IZ e.2)).symm
  ·rw[if_neg h2]
   exact congrArg some (decide_eq_decide.mpr ⟨λ e=>.inr ⟨h,e⟩,λ e=>e.elim (λ e=>absurd h (IZ e)) (·.2)⟩)
 ·rw[if_neg h]
  exact congrArg some (decide_eq_decide.mpr ⟨.inl,λ e=>e.elim id λ e=>absurd e.1 h⟩)
theorem vN{x y:HI}(h:x.ii≠y.ii):ltN 4 (itA x) (itA y)=some (decide (hlt x y)):=by
 show ltL (ltN 3) _ _=_
 rw[ltL,if_pos (by rfl)]
 unfold iE
 rw[AK]
 by_cases hk:(au x.b).1=(au y.b).1/\(au x.b).2=(au y.b).2
 ·rw[decide_eq_true hk.1,decide_eq_true hk.2]
  show ltL (ltN 3) _ _=_
  rw[vL,if_neg (show ¬((x.ii:Int)=(y.ii:Int))from λ e=>h (Jg e))]
  exact congrArg some (decide_eq_decide.mpr (by have:=hk.1;have:=hk.2;unfold hlt;exact⟨λ h=>.inr ⟨hk.1,.inr ⟨hk.2,GP.mp h⟩⟩,λ h=>GP.mpr (h.elim (λ k=>absurd hk.1 (IZ k)) λ k=>k.2.elim (λ e=>absurd hk.2 (IZ e)) λ e=>e.2)⟩))
 ·rw[show(decide ((au x.b).1=(au y.b).1)&&decide ((au x.b).2=(au y.b).2))=false by rw[Bool.and_eq_false_iff,decide_eq_false_iff_not,decide_eq_false_iff_not];exact Decidable.not_and_iff_or_not.mp hk]
  show ltN 3 _ _=_
  rw[vM]
  exact congrArg some (decide_eq_decide.mpr (by unfold hlt;exact⟨λ h=>h.imp id λ k=>⟨k.1,.inl k.2⟩,λ h=>h.imp id λ k=>⟨k.1,k.2.elim id λ e=>absurd ⟨k.1,e.1⟩ hk⟩⟩))
theorem rC{p:Nat}(hp:p<H.length):(H.map itA)[p]?=some (itA (gt H p)):=by
 rw[FK,dZ hp];rfl
theorem AL{L:List HI}(h:(L.map (·.ii)).Nodup)(hj:j<L.length)(hk:k<L.length)(hjk:j≠k):(gt L j).ii≠(gt L k).ii:=by
 have e:∀m,m<L.length->(L.map (·.ii))[m]?=some (gt L m).ii:=λ m hm=>by rw[FK,dZ hm];rfl
 intro q
 have h1:=e j hj
 have h2:=e k hk
 rw[q]at h1
 exact hjk ((Nm (by simpa using hj) h).mp (h1.trans h2.symm))
theorem yB{p:Nat}(h:1<=p):((p:Int)-1).fdiv (2 ^ (1:Int).toNat)=(par p:Nat):=by
 have:(2:Int) ^ (1:Int).toNat=2:=by decide
 rw[this,IM _ (by decide)]
 unfold par;exact congrArg (· / (2:Int)) (Lo h).symm
noncomputable abbrev hS(V:Sto)(ih:Nat)(H:List HI):Sto:=V.set ih (.list (H.map itA))
theorem iY{ih:Nat}{p:Nat}(hih:ih<V.length)(hp:p<H.length)(hz:H.length<1000)(q:Q (itA (gt H p)) (hS V ih H)):bh (.ref ih) (.int (p:Int)) Q (hS V ih H):=
 du (gU hih _) (rC hp) (by rw[Fd];exact FF hz (by decide)) q
theorem me{ih:Nat}{p:Nat}{x:HI}{Q:Sto->Prop}(hih:ih<V.length)(hp:p<H.length)(hz:H.length<1000)(q:Q (hS V ih (H.set p x))):nY (.ref ih) (.int (p:Int)) (itA x) Q (hS V ih H):=
 mY (gU hih _) (by rw[Fd];exact hp) (by rw[Fd];exact FF hz (by decide)) (by rw[Jc,<- LN];exact q)
theorem vO{p q:Nat}{x:HI}{L:List HI}(hp:p<H.length)(hq:q<H.length)(hpq:p≠q)(gp:(H.set p x).Perm L):((H.set p (gt H q)).set q x).Perm L:=by
 have e:gt H q=H[q]:=Ft ((dZ hq).symm.trans (Ff hq))
 rw[e]
 exact(uJ hp hq hpq).trans gp
theorem Cw{L:List HI}{p:Nat}{x:HI}(nd:(L.map (·.ii)).Nodup)(gp:(H.set p x).Perm L)(hp:p<H.length)(hj:j<H.length)(hk:k<H.length)(hjk:j≠k):(if j=p then x else gt H j).ii≠(if k=p then x else gt H k).ii:=by
 have:=AL ((gp.map _).nodup_iff.mpr nd) (j:=j) (k:=k) (by rw[Fj];exact hj) (by rw[Fj];exact hk) hjk
 rwa [X0 hp,X0 hp]at this
theorem qa{a b:Nat}:ltN n (.int (a:Int)) (.int (b:Int))=some (decide (a<b)):=(zr ..).trans (congrArg some (decide_eq_decide.mpr GP))
inductive SdI(V:Sto)(ih s:Nat)(x:HI)(L:List HI)(m:Nat)(st:List AV)(OP:Sto):Prop
 | mk {H:List HI}{v4 v5:AV}:st=[.ref ih,.int s,.int m,itA x,v4,v5]->OP=hS V ih H->H.length<1000->m<H.length->d0 s m->de H s m->uH H m x->oG H s m->(H.set m x).Perm L->SdI V ih s x L m st OP
set_option tactic.hygienic true in
theorem yC(N:GF W)(G:GI W){ih:Nat}{s p:Nat}(hl:V[ih]?=some (.list (H.map itA)))(hp:p<H.length)(hd:d0 s p)(h1:de H s p)(h2:uH H p (gt H p))(h3:oG H s p)
  (nd:(H.map (·.ii)).Nodup)(hz:H.length<1000)(q:∀H',H'.Perm H->M9 H' s->Q .none (V.set ih (.list (H'.map itA)))):M8 W (k+1) aZ [.ref ih,.int s,.int p] Q V:=by
 refine H6 (n:=3) (xs:=[.ref ih,.int s,.int p]) (V:=V) (Q:=Q) N.f__siftdown (oW G) rfl ?_
 have hih:=B3 hl
 have hS0:hS V ih H=V:=ba hl
 dsimp only[iT,A4,B7,D1,A5,I0,B4,B8,B9,C5,C6,C3,C7,List.replicate]
 rw[<- hS0]
 refine iY hih hp hz ?_
 rw[hS0]
 refine cT (SdI V ih s (gt H p) H) (.mk rfl hS0.symm hz hp hd h1 h2 h3 (by rw[ba (dZ hp)])) ?_
 generalize gt H p=x
 clear hS0 h1 h2 h3 hd hp hl hz
 intro m st OP K h hK
 obtain⟨rfl,rfl,hz,hp,hd,g1,g2,g3,gp⟩:=h
 rename_i H' v4 v5
 have fin:(m=s\/¬hlt x (gt H' (par m)))->nY (.ref ih) (.int (m:Int)) (itA x) (λ OZ=>Q .none OZ) (hS V ih H'):=λ hc=>me hih hp hz (q _ gp (BY hp hd g1 g2 hc))
 have hc:cC (hS V ih H') .Gt (.int (m:Int)) (.int (s:Int))=some (decide (s<m)):=congrArg some (decide_eq_decide.mpr GP)
 dsimp only[A4,B5,B7,G2,sIf,F9,L7,H7,H0,I4,I5,I2,G4,A5,B6,G1,G7,G0,C2,I9,L4,D1,L2,H5,C9,I8,I6,G5,I1,M4,D0,pIf,L9,E4,L5,L6,M1,M5,D7,L3,L1,tOr,J4,M0,F0,A7,A6,B4,K6,K5,J8,J9,J7,D9,I0,inI,B8,B9,C5,C6,C3,C7,List.replicate]
 by_cases hsp:s<m
 ·have hne:=FU hsp
  have hpp:=bM (hd.up hne).2
  have hq:par m<H'.length:=FF hpp hp
  refine W3 (hc.trans (congrArg some (decide_eq_true hsp))) (fJ (zo (by decide) ?_))
  rw[yB (hd.up hne).2]
  refine iY hih hq hz ?_
  have hidx:x.ii≠(gt H' (par m)).ii:=by
   have:=Cw nd gp hp hp hq (FU hpp)
   rwa [if_pos rfl,if_neg (FP hpp)]at this
  have hc2:cC (hS V ih H') .Lt (itA x) (itA (gt H' (par m)))=some (decide (hlt x (gt H' (par m)))):=vN hidx
  by_cases hlt':hlt x (gt H' (par m))
  ·obtain⟨u1,u2,u3,u4⟩:=xF hp hne hd g1 g2 g3 hlt'
   exact W3 (hc2.trans (congrArg some (decide_eq_true hlt'))) (me hih hp hz (hK.ct _ _ ⟨par m,hpp,.mk rfl rfl (by rw[Fj];exact hz) (by rw[Fj];exact hq) u4 u1 u2 u3 (vO hp hq (FU hpp) gp)⟩))
  ·exact W4 (hc2.trans (congrArg some (decide_eq_false hlt'))) (hK.br _ _ (fin (.inr hlt')))
 ·exact W4 (hc.trans (congrArg some (decide_eq_false hsp))) (fin (.inl (Gv (Ir.mp hsp) hd.le)))
inductive SuI(V:Sto)(ih s n:Nat)(x:HI)(L:List HI)(m:Nat)(st:List AV)(OP:Sto):Prop
 | mk {H:List HI}{p:Nat}{v6:AV}:m=n-p->st=[.ref ih,.int p,.int n,.int s,itA x,.int ((2*p+1:Nat):Int),v6]->OP=hS V ih H->H.length=n->p<n->d0 s p->de H s p->oG H s p->(H.set p x).Perm L->SuI V ih s n x L m st OP
theorem zt{p:Nat}:par (2*p+1)=p:=by unfold par;exact Nat.mul_div_cancel_left _ Ln
theorem Cy{p:Nat}:par (2*p+1+1)=p:=by unfold par;exact Nat.mul_add_div Ln _ 1
theorem nh{d p:Nat}(h1:1<=d)(h:par d=p):d=2*p+1\/d=2*p+1+1:=by unfold par at h;lia
theorem vP{ih s p c:Nat}{x:HI}{L:List HI}{v6:AV}{Q:Sto->Prop}(hih:ih<V.length)(hn:H.length=n)(hz:n<1000)(hp:p<n)(hd:d0 s p)(g1:de H s p)(g3:oG H s p)(gp:(H.set p x).Perm L)(c1:c<n)(c2:1<=c)(c4:par c=p)
  (c5:∀d,1<=d->d<H.length->par d=p->d≠c->¬hlt (gt H d) (gt H c))(go:∀OP,(∃m,m<n-p/\SuI V ih s n x L m [.ref ih,.int c,.int n,.int s,itA x,.int ((2*c+1:Nat):Int),v6] OP)->Q OP):
  bh (.ref ih) (.int (c:Int)) (λ y ON=>nY (.ref ih) (.int (p:Int)) y Q ON) (hS V ih H):=by
 subst hn
 have hpc:p<c:=c4▸bM c2
 obtain⟨u1,u2,u3⟩:=sR hp c1 c2 c4 hd g1 g3 c5
 exact iY hih c1 hz (me hih hp hz (go _ ⟨H.length-c,KR hp hpc,.mk rfl rfl rfl Fj c1 u3 u1 u2 (vO hp c1 (FP hpc) gp)⟩))
set_option tactic.hygienic true in
theorem ni(N:GF W)(G:GI W){ih:Nat}{s:Nat}(hl:V[ih]?=some (.list (H.map itA)))(hs:s<H.length)(hh:M9 H (s+1))
  (nd:(H.map (·.ii)).Nodup)(hz:H.length<1000)(q:∀H',H'.Perm H->M9 H' s->Q .none (V.set ih (.list (H'.map itA)))):M8 W (k+2) Y1 [.ref ih,.int s] Q V:=by
 refine H6 (n:=5) (xs:=[.ref ih,.int s]) (V:=V) (Q:=Q) N.f__siftup (td G) rfl ?_
 have hih:=B3 hl
 have hS0:hS V ih H=V:=ba hl
 have l2:∀{a:Int},a.natAbs<lim\/(2:Int).natAbs<lim:=.inr (by decide)
 dsimp only[lX,A4,B7,D1,A5,D0,A6,A7,I0,B4,C2,B6,B8,B9,C5,C6,C3,C7,List.replicate]
 refine cS (J1 hl) (by rw[Fd];exact FE (FF hz (by decide))) ?_
 rw[<- hS0,Fd]
 refine iY hih hs hz (l8 l2 (S0 ?_))
 rw[hS0]
 refine cT (SuI V ih s H.length (gt H s) H) (.mk rfl rfl hS0.symm rfl hs .refl (λ j j1 j2 j3 j4 j5=>hh j j1 j2 (Gj j3 (HE j5))) (λ c _ _ _ h=>(h rfl).elim) (by rw[ba (dZ hs)])) ?_
 generalize gt H s=x
 generalize H.length=n at hz ⊢
 clear hS0 hh hs hl
 intro m st OP K h hK
 obtain⟨rfl,rfl,rfl,hn,hp,hd,g1,g3,gp⟩:=h
 rename_i H' p v6
 dsimp only[A4,B5,B7,G2,sIf,F9,L7,H7,H0,I4,I5,I2,G4,A5,B6,G1,G7,G0,C2,I9,L4,D1,L2,H5,C9,I8,I6,G5,I1,M4,D0,pIf,L9,E4,L5,L6,M1,M5,D7,L3,L1,tOr,J4,M0,F0,A7,A6,B4,K6,K5,J8,J9,J7,D9,I0,inI,B8,B9,C5,C6,C3,C7,List.replicate]
 have hc:cC (hS V ih H') .Lt (.int ((2*p+1:Nat):Int)) (.int (n:Int))=some (decide (2*p+1<n)):=qa
 by_cases hch:2*p+1<n
 ·have hc6:cC (hS V ih H') .Lt (.int ((2*p+1+1:Nat):Int)) (.int (n:Int))=some (decide (2*p+1+1<n)):=qa
  refine W3 (hc.trans (congrArg some (decide_eq_true hch))) (S0 ?_)
  by_cases hr:2*p+1+1<n
  ·refine W3 (hc6.trans (congrArg some (decide_eq_true hr))) (iY hih (hn▸hch) (hn▸hz) (iY hih (hn▸hr) (hn▸hz) ?_))
   have hidx:(gt H' (2*p+1)).ii≠(gt H' (2*p+1+1)).ii:=by
    have:=Cw nd gp (hn▸hp) (hn▸hch) (hn▸hr) (FP (FY _))
    rwa [if_neg (by lia),if_neg (by lia)]at this
   have hc2:cC (hS V ih H') .Lt (itA (gt H' (2*p+1))) (itA (gt H' (2*p+1+1)))=some (decide (hlt (gt H' (2*p+1)) (gt H' (2*p+1+1)))):=vN hidx
   by_cases hlt':hlt (gt H' (2*p+1)) (gt H' (2*p+1+1))
   ·refine N7 (hc2.trans (congrArg some (decide_eq_true hlt'))) ?_
    refine vP hih hn hz hp hd g1 g3 gp hch (GO ..) zt (λ d d1 d2 d3 d4=>?_) λ OP h=>l8 l2 (S0 (hK.nx _ _ h))
    rcases nh d1 d3 with rfl|rfl
    ·exact(d4 rfl).elim
    ·exact mN hlt'
   ·refine N7 (hc2.trans (congrArg some (decide_eq_false hlt'))) ?_
    refine vP hih hn hz hp hd g1 g3 gp hr (GO ..) Cy (λ d d1 d2 d3 d4=>?_) λ OP h=>l8 l2 (S0 (hK.nx _ _ h))
    rcases nh d1 d3 with rfl|rfl
    ·exact hlt'
    ·exact(d4 rfl).elim
  ·refine W4 (hc6.trans (congrArg some (decide_eq_false hr))) ?_
   refine vP hih hn hz hp hd g1 g3 gp hch (GO ..) zt (λ d d1 d2 d3 d4=>?_) λ OP h=>l8 l2 (S0 (hK.nx _ _ h))
   rcases nh d1 d3 with rfl|rfl
   ·exact(d4 rfl).elim
   ·exact absurd (hn▸d2) hr
 ·subst hn
  refine W4 (hc.trans (congrArg some (decide_eq_false hch))) (me hih hp hz ?_)
  have hlen:(H'.set p x).length=H'.length:=Fj
  have leaf:∀{c},1<=c->c<(H'.set p x).length->par c=p->False:=λ c1 c2 c3=>by
   rcases nh c1 c3 with rfl|rfl
   ·exact hch (hlen▸c2)
   ·exact hch (GU (hlen▸c2))
  refine yC (k:=k) N G (Fu hih) (hlen.symm▸hp) hd (λ j j1 j2 j3 j4 j5=>?_) (λ c c1 c2 c3=>(leaf c1 c2 c3).elim) (λ c c1 c2 c3=>(leaf c1 c2 c3).elim) ((gp.map _).nodup_iff.mpr nd) (hlen.symm▸hz) λ H2 p2 h2=>?_
  ·rw[X0 hp,X0 hp,if_neg j4,if_neg j5]
   exact g1 j j1 (hlen▸j2) j3 j4 j5
  ·rw[Jc]
   exact q H2 (p2.trans gp) h2
theorem AM(N:GF W)(G:GI W){ih:Nat}{Q':G3->List AV->Sto->Prop}(hih:ih<V.length)(nd:(H.map (·.ii)).Nodup)(hz:H.length<1000)(q:∀H',H'.Perm H->M9 H' 0->Q .none (hS V ih H'))(hQ:∀st OP,Q .none OP->Q' .next st OP)(m:Nat):
  ∀(v:AV) (H':List HI),m<=H.length->H'.Perm H->M9 H' m->i8 (λ Y=>True) (B4 2) (A4 (F9 (D0 (fnB W (k+2) Y1) (A6 (A5 0) (A6 (A5 2) A7)))) B5) Q' (V9 ((m:Int)-1) m (-1)) [.ref ih,.int H.length,v] (hS V ih H'):=by
 induction m with
 | zero=>exact λ v H' hm p h=>⟨trivial,hQ _ _ (q H' p h)⟩
 | succ m ih'=>
  intro v H' hm p h
  rw[iL,show(((m+1:Nat):Int)-1)=(m:Int) by lia]
  refine⟨trivial,ni (k:=k) N G (Fu hih) (p.length_eq▸hm) h ((p.map _).nodup_iff.mpr nd) (p.length_eq▸hz) λ H2 p2 h2=>?_⟩
  rw[Jc]
  exact ih' _ H2 (GL hm) (p2.trans p) h2
theorem yD(N:GF W)(G:GI W){ih:Nat}(hl:V[ih]?=some (.list (H.map itA)))
  (nd:(H.map (·.ii)).Nodup)(hz:H.length<1000)(q:∀H',H'.Perm H->M9 H' 0->Q .none (V.set ih (.list (H'.map itA)))):M8 W (k+3) bA [.ref ih] Q V:=by
 refine H6 (n:=2) (xs:=[.ref ih]) (V:=V) (Q:=Q) N.f_heapify (th G) rfl ?_
 have hih:=B3 hl
 have hdiv:((H.length:Int)).fdiv 2=((H.length / 2:Nat):Int):=(IM _ (by decide)).trans (Int.natCast_ediv ..).symm
 rw[show l7 W (k+2)=A4 _ (A4 (O7 _ _ (A4 (F9 (D0 (fnB W (k+2) Y1) (A6 (A5 0) (A6 (A5 2) A7)))) B5)) B5)from rfl]
 dsimp only[A4,B5,B7,A5,B6,C2,D0,A6,A7,I0,B4,O7,sA,B8,B9,C5,C6,C3,C7,List.replicate]
 refine cS (J1 hl) (by rw[Fd];exact FE (FF hz (by decide))) (vI (by decide) ?_)
 rw[Fd,hdiv]
 unfold rgP
 have hl2:H.length / 2<1000000:=Fe (KM ..) (FF hz (by decide))
 refine⟨⟨HA (by decide) (FX _),GP.mpr hl2⟩,?_⟩
 have h0:M9 H (H.length / 2):=λ j j1 j2 j3=>by unfold par at j3;exact absurd j3 (Nat.not_le_of_lt (Fo (FQ (FY _) (Nat.add_div_right _ Ln).symm) (Nat.div_le_div_right (fp (Fw (congrArg Nat.succ (Ke j1))) j2))))
 dsimp only
 rw[Kl,Ni,GR]
 rw[<- show hS V ih H=V from ba hl]
 exact AM (k:=k) N G hih nd hz q (λ st OP q=>q) (H.length / 2) .undef H (KM ..) (.refl _) h0
theorem zu{y:HI}(h:M9 H 0):M9 (H.set 0 y) 1:=by
 intro j j1 j2 j3
 rw[Fj]at j2
 have h0:0<H.length:=Fo j1 (FE j2)
 rw[X0 h0,X0 h0,if_neg (FU j1),if_neg (FU j3)]
 exact h j j1 j2 (Gb _)
theorem yE(N:GF W)(G:GI W){ih:Nat}{y:HI}(hl:V[ih]?=some (.list (H.map itA)))(hp:0<H.length)(hh:M9 H 0)(hy:y.ii=(gt H 0).ii)
  (nd:(H.map (·.ii)).Nodup)(hz:H.length<1000)(q:∀H',H'.Perm (H.set 0 y)->M9 H' 0->Q (itA (gt H 0)) (V.set ih (.list (H'.map itA)))):M8 W (k+3) V8 [.ref ih,itA y] Q V:=by
 refine H6 (n:=1) (xs:=[.ref ih,itA y]) (V:=V) (Q:=Q) N.f_heapreplace (kL G) rfl ?_
 have hih:=B3 hl
 have hS0:hS V ih H=V:=ba hl
 have nd':((H.set 0 y).map (·.ii)).Nodup:=by
  rw[LN,hy,ba]
  ·exact nd
  ·rw[FK,dZ hp];rfl
 dsimp only[fD,A4,B5,B7,G2,sIf,F9,L7,H7,H0,I4,I5,I2,G4,A5,B6,G1,G7,G0,C2,I9,L4,D1,L2,H5,C9,I8,I6,G5,I1,M4,D0,pIf,L9,E4,L5,L6,M1,M5,D7,L3,L1,tOr,J4,M0,F0,A7,A6,B4,K6,K5,J8,J9,J7,D9,I0,inI,B8,B9,C5,C6,C3,C7,List.replicate]
 rw[<- hS0]
 refine iY (p:=0) hih hp hz (me (p:=0) hih hp hz ?_)
 refine ni (k:=k) (s:=0) N G (Fu hih) (by rw[Fj];exact hp) (zu hh) nd' (by rw[Fj];exact hz) λ H2 p2 h2=>?_
 rw[Jc]
 exact q H2 p2 h2
theorem yF(N:GF W)(G:GI W){ih:Nat}(hl:V[ih]?=some (.list (H.map itA)))(hp:0<H.length)(hh:M9 H 0)
  (nd:(H.map (·.ii)).Nodup)(hz:H.length<1000)(q:∀v H',(gt H 0::H').Perm H->M9 H' 0->Q v (V.set ih (.list (H'.map itA)))):M8 W (k+3) bz [.ref ih] Q V:=by
 refine H6 (n:=2) (xs:=[.ref ih]) (V:=V) (Q:=Q) N.f_heappop (te G) rfl ?_
 have hih:=B3 hl
 obtain⟨L,z,rfl⟩:∃L z,H=L++[z]:=by
  have hne:H≠[]:=by intro e;rw[e]at hp;exact absurd hp (by decide)
  exact⟨H.dropLast,H.getLast hne,(KL hne).symm⟩
 have hLz:L.length<999:=by rw[Fc]at hz;exact Jv hz
 rw[FG]at hl
 dsimp only[lZ,A4,B5,B7,G2,sIf,F9,L7,H7,H0,I4,I5,I2,G4,A5,B6,G1,G7,G0,C2,I9,L4,D1,L2,H5,C9,I8,I6,G5,I1,M4,D0,pIf,L9,E4,L5,L6,M1,M5,D7,L3,L1,tOr,J4,M0,F0,A7,A6,B4,K6,K5,J8,J9,J7,D9,I0,inI,B8,B9,C5,C6,C3,C7,List.replicate]
 refine vH (J1 hl) (by rw[Fd];exact Hq hLz) ?_
 have e4:=jv (gU hih (L.map itA)) (by rw[Fd];exact FE (FF hLz (by decide)))
 cases L with
 | nil=>exact p7 e4 (q _ [] (.refl _) (λ j Y j2 Y=>absurd j2 (IX _)))
 | cons x L=>
  have hz2:(x::L).length<1000:=Hq hLz
  refine p6 e4 (iY (p:=0) hih (Hs _) hz2 (me (p:=0) hih (Hs _) hz2 ?_))
  have nd':((z::L).map (·.ii)).Nodup:=by
   have p:(x::L++[z]).Perm (x::(z::L)):=.cons _ (JM ..)
   exact(GZ.mp ((p.map (·.ii)).nodup_iff.mp nd)).2
  have hh':M9 (z::L) 1:=by
   have l:∀{m},m<(x::L).length->gt (x::L++[z]) m=gt (x::L) m:=λ hm=>by
    unfold gt;rw[FA,FA,Fs hm]
   refine zu (y:=z) (H:=x::L) λ j j1 j2 j3=>?_
   have:=hh j j1 (Fo j2 (by rw[Fc];exact Fi ..)) j3
   rwa [l j2,l (FF (bM j1) j2)]at this
  refine ni (k:=k) (s:=0) (H:=z::L) N G (Fu hih) (Hs _) hh' nd' hz2 λ H2 p2 h2=>?_
  rw[Jc]
  exact q _ H2 (.cons x (p2.trans (JM ..).symm)) h2
theorem o8(N:GF W)(G:GI W){b:Blk}(q:Q (iE b) V):M8 W (k+1) al [.int b.need,.int b.net] Q V:=by
 refine H6 (n:=0) (xs:=[.int b.need,.int b.net]) (V:=V) (Q:=Q) N.f__law_key (pZ G) rfl ?_
 dsimp only[ki,A4,B5,B7,G2,sIf,F9,L7,H7,H0,I4,I5,I2,G4,A5,B6,G1,G7,G0,C2,I9,L4,D1,L2,H5,C9,I8,I6,G5,I1,M4,D0,pIf,L9,E4,L5,L6,M1,M5,D7,L3,L1,tOr,J4,M0,F0,A7,A6,B4,K6,K5,J8,J9,J7,D9,I0,inI,B8,B9,C5,C6,C3,C7,List.replicate]
 unfold iE at q
 by_cases h:0<=b.net
 ·rw[ie h]at q
  exact W3 (congrArg some (decide_eq_true h)) ⟨D8 (show 2<1000000 by decide),q⟩
 ·rw[ik h]at q
  exact W4 (congrArg some (decide_eq_false h)) (fJ ⟨D8 (show 2<1000000 by decide),q⟩)
mutual
noncomputable def AV.ok:Nat->AV->Bool
 | _,.int _=>true
 | _,.none=>true
 | _,.str s=>PyData.strOk ⟨s.toArray⟩
 | 0,.tup _=>false
 | n+1,.tup l=>AV.okL n l
 | _,_=>false
noncomputable def AV.okL:Nat->List AV->Bool
 | _,[]=>true
 | n,x::l=>AV.ok n x&&AV.okL n l
end
mutual
theorem AV.ok_py:∀{n:Nat}{x:AV},AV.ok n x=true->∃d,x.py=some d/\d.canLay0=true/\d.depth<=n
 | n,.int i,_=>⟨_,by simp only[AV.py];rfl,by simp only[PyData.canLay0],by simp only[PyData.depth];exact Gb _⟩
 | n,.none,_=>⟨_,by simp only[AV.py];rfl,by simp only[PyData.canLay0],by simp only[PyData.depth];exact Gb _⟩
 | n,.str s,h=>⟨_,by simp only[AV.py];rfl,by simp only[PyData.canLay0];simpa only[AV.ok] using h,by simp only[PyData.depth];exact Gb _⟩
 | 0,.tup l,h=>by simp[AV.ok]at h
 | n+1,.tup l,h=>by
  rw[AV.ok]at h
  refine xE (AV.okL_py h) λ d Z=>(λ h1 h2 h3=>?_) Z.1 Z.2.1 Z.2.2;clear Z
  exact⟨.tuple d,by simp only[AV.py,h1,JZ],by simpa only[PyData.canLay0] using h2,by simp only[PyData.depth];exact Fq h3⟩
 | n,.undef,h=>by simp[AV.ok]at h
 | n,.bool _,h=>by simp[AV.ok]at h
 | n,.ref _,h=>by simp[AV.ok]at h
 | n,.fn _,h=>by simp[AV.ok]at h
 | n,.clist _,h=>by simp[AV.ok]at h
theorem AV.okL_py:∀{n:Nat}{l:List AV},AV.okL n l=true->∃d,AV.pyL l=some d/\PyData.canLayAll0 d=true/\PyData.depthAll d<=n
 | n,[],_=>⟨[],by simp only[AV.pyL],by simp only[PyData.canLayAll0],by simp only[PyData.depthAll];exact Gb _⟩
 | n,x::l,h=>by
  rw[AV.okL,Gn]at h
  refine xE (AV.ok_py h.1) λ d Z=>(λ h1 h2 h3=>?_) Z.1 Z.2.1 Z.2.2;clear Z
  refine xE (AV.okL_py h.2) λ e Z=>(λ g1 g2 g3=>?_) Z.1 Z.2.1 Z.2.2;clear Z
  refine⟨d::e,by simp only[AV.pyL,h1,g1,Gz,JZ],by simp only[PyData.canLayAll0,h2,g2,Ow],by simp only[PyData.depthAll];lia⟩
end
set_option tactic.hygienic true in
mutual
theorem rD:∀{n m:Nat}{x y:AV}{d e:PyData},AV.ok n x=true->AV.ok m y=true->x.py=some d->y.py=some e->(PyData.eqv d e=true↔x=y)
 | n,m,.int i,y,d,e,hx,hy,h1,h2=>by
  simp only[AV.py,Hy]at h1;subst h1
  cases y <;> simp[AV.ok]at hy <;> simp only[AV.py,Gu,Hy]at h2
  ·subst h2;simp[PyData.eqv]
  ·subst h2;simp[PyData.eqv]
  ·subst h2;simp[PyData.eqv]
  ·refine xE h2 λ a Z=>(λ J θ=>?_) Z.1 Z.2;rcases θ with rfl;clear h2 Z;simp[PyData.eqv]
 | n,m,.none,y,d,e,hx,hy,h1,h2=>by
  simp only[AV.py,Hy]at h1;subst h1
  cases y <;> simp[AV.ok]at hy <;> simp only[AV.py,Gu,Hy]at h2
  ·subst h2;simp[PyData.eqv]
  ·subst h2;simp[PyData.eqv]
  ·subst h2;simp[PyData.eqv]
  ·refine xE h2 λ a Z=>(λ J θ=>?_) Z.1 Z.2;rcases θ with rfl;clear h2 Z;simp[PyData.eqv]
 | n,m,.str s,y,d,e,hx,hy,h1,h2=>by
  simp only[AV.py,Hy]at h1;subst h1
  cases y <;> simp[AV.ok]at hy <;> simp only[AV.py,Gu,Hy]at h2
  ·subst h2;simp[PyData.eqv]
  ·subst h2;simp[PyData.eqv]
  ·rename_i t
   subst h2
   simp only[PyData.eqv,fP,decide_eq_true_eq,AV.str.injEq]
  ·refine xE h2 λ a Z=>(λ J θ=>?_) Z.1 Z.2;rcases θ with rfl;clear h2 Z;simp[PyData.eqv]
 | 0,_,.tup l,_,_,_,h,_,_,_=>by simp[AV.ok]at h
 | n+1,m,.tup l,y,d,e,hx,hy,h1,h2=>by
  simp only[AV.py,Gu]at h1
  obtain⟨d',h1,rfl⟩:=h1
  rw[AV.ok]at hx
  cases y <;> (try (simp[AV.ok]at hy;done)) <;> simp only[AV.py,Gu,Hy]at h2
  ·subst h2;simp[PyData.eqv]
  ·subst h2;simp[PyData.eqv]
  ·subst h2;simp[PyData.eqv]
  ·obtain⟨a,h2,rfl⟩:=h2
   cases m with
   | zero=>simp[AV.ok]at hy
   | succ m=>
    rw[AV.ok]at hy
    simp only[PyData.eqv,AV.tup.injEq]
    exact kv hx hy h1 h2
 | n,_,.undef,_,_,_,h,_,_,_=>by simp[AV.ok]at h
 | n,_,.bool _,_,_,_,h,_,_,_=>by simp[AV.ok]at h
 | n,_,.ref _,_,_,_,h,_,_,_=>by simp[AV.ok]at h
 | n,_,.fn _,_,_,_,h,_,_,_=>by simp[AV.ok]at h
 | n,_,.clist _,_,_,_,h,_,_,_=>by simp[AV.ok]at h
theorem kv:∀{n m:Nat}{x y:List AV}{d e:List PyData},AV.okL n x=true->AV.okL m y=true->AV.pyL x=some d->AV.pyL y=some e->(PyData.eqvAll d e=true↔x=y)
 | n,m,[],y,d,e,hx,hy,h1,h2=>by
  simp only[AV.pyL,Hy]at h1;subst h1
  cases y with
  | nil=>simp only[AV.pyL,Hy]at h2;subst h2;simp[PyData.eqvAll]
  | cons _ _=>
   simp only[AV.pyL,GA,Gu]at h2
   obtain⟨a,_,b,_,rfl⟩:=h2
   simp[PyData.eqvAll]
 | n,m,x::l,y,d,e,hx,hy,h1,h2=>by
  simp only[AV.pyL,GA,Gu]at h1
  obtain⟨a,a1,b,b1,rfl⟩:=h1
  rw[AV.okL,Gn]at hx
  cases y with
  | nil=>simp only[AV.pyL,Hy]at h2;subst h2;simp[PyData.eqvAll]
  | cons y l'=>
   simp only[AV.pyL,GA,Gu]at h2
   obtain⟨a',a2,b',b2,rfl⟩:=h2
   rw[AV.okL,Gn]at hy
   simp only[PyData.eqvAll,Gn,List.cons.injEq]
   rw[rD hx.1 hy.1 a1 a2,kv hx.2 hy.2 b1 b2]
end
theorem AV.ok_top(h:AV.ok n x=true):iJ V x=x.py:=by
 cases x <;> first|rfl|(simp[AV.ok]at h)
theorem vQ{y:AV}(hx:AV.ok n x=true)(hy:AV.ok m y=true)(hn:n<=60)(hm:m<=60):∃b,eqS V x y=some b/\(b=true↔x=y):=by
 refine xE (AV.ok_py hx) λ d Z=>(λ d1 d2 d3=>?_) Z.1 Z.2.1 Z.2.2;clear Z
 refine xE (AV.ok_py hy) λ e Z=>(λ e1 e2 e3=>?_) Z.1 Z.2.1 Z.2.2;clear Z
 refine⟨PyData.eqv d e,?_,rD hx hy d1 e1⟩
 unfold eqS
 rw[AV.ok_top hx,AV.ok_top hy,d1,e1]
 simp only[Gz,eqD,SeqAt.shaped,d2,e2,MT]
 rw[if_pos]
 simp only[Gn,decide_eq_true_eq]
 exact⟨zzb (fp d3 hn) rfl,zzb (fp e3 hm) rfl⟩
theorem rE{x y:List AV}(hi:lst V i=some x)(hj:lst V j=some y)(hx:AV.okL n x=true)(hy:AV.okL m y=true)(hn:n<=60)(hm:m<=60):∃b,eqS V (.ref i) (.ref j)=some b/\(b=true↔x=y):=by
 refine xE (AV.okL_py hx) λ d Z=>(λ d1 d2 d3=>?_) Z.1 Z.2.1 Z.2.2;clear Z
 refine xE (AV.okL_py hy) λ e Z=>(λ e1 e2 e3=>?_) Z.1 Z.2.1 Z.2.2;clear Z
 refine⟨PyData.eqvAll d e,?_,kv hx hy d1 e1⟩
 unfold eqS iJ
 simp only[hi,hj,d1,e1,Gz,JZ,eqD,SeqAt.shaped,PyData.canLay0,PyData.depth,d2,e2,MT,PyData.eqv]
 rw[if_pos]
 simp only[Gn,decide_eq_true_eq]
 exact⟨decide_eq_true (zzb (Fq (fp d3 hn)) rfl),decide_eq_true (zzb (Fq (fp e3 hm)) rfl)⟩
theorem jy:∀{l:List AV},(∀x∈l,AV.ok n x=true)->AV.okL n l=true
 | [],_=>by simp only[AV.okL]
 | x::l,h=>by rw[AV.okL,h x (.head _),jy λ y hy=>h y (.tail _ hy)];rfl
theorem vR(n:Nat)(l:List Nat):AV.okL n (X8 l)=true:=jy λ x hx=>by
 obtain⟨j,_,rfl⟩:=FN.mp hx
 simp only[AV.ok]
theorem vS(b:Blk):AV.ok 2 (N2 b)=true:=by
 simp only[N2,iE,AV.ok,AV.okL,vR,Ow]
theorem rF:AV.ok 0 (.str [])=true:=by simp[AV.ok,PyData.strOk]
theorem AN(b:Blk):cC V .NotEq (N2 b) (.str [])=some true:=by
 refine xE (vQ (V:=V) (vS b) rF (by decide) (by decide)) λ r Z=>(λ h1 h2=>?_) Z.1 Z.2;clear Z
 show(eqS V _ _).map (!·)=_
 rw[h1]
 induction r with
 | false=>rfl
 | true=>exact absurd (h2.mp rfl) (by unfold N2;intro e;cases e)
theorem AO(b:Blk):cC V .Eq (N2 b) (.str [])=some false:=by
 refine xE (vQ (V:=V) (vS b) rF (by decide) (by decide)) λ r Z=>(λ h1 h2=>?_) Z.1 Z.2;clear Z
 show eqS V _ _=_
 rw[h1]
 induction r with
 | false=>rfl
 | true=>exact absurd (h2.mp rfl) (by unfold N2;intro e;cases e)
theorem V5.raws{OP:Sto}{P:Addr}{ps:Array Value}{qs:List (Pos×Str)}(T:V5 V P ps qs)(h:∀(i:Nat) (a:Addr) (o:Obj),V[i]?=some (.raw a o)->OP[i]?=some (.raw a o)):V5 OP P ps qs:=
 ⟨h _ _ _ T.raw,T.ok,λ e he cv hc=>let ⟨cc,i,a,b,oc,vs,t,c,r⟩:=T.hit e he cv hc;⟨cc,i,a,b,oc,vs,t,h _ _ _ c,r⟩⟩
theorem kx{y z:I3}(h:V[i]?=some y)(hy:∀a o,y≠.raw a o)(j:Nat)(a:Addr)(o:Obj)(e:V[j]?=some (.raw a o)):(V.set i z)[j]?=some (.raw a o):=by
 rw[Fg (ku e h hy).symm];exact e
theorem bb{τ:Sto}(j:Nat)(a:Addr)(o:Obj)(e:V[j]?=some (.raw a o)):(V++τ)[j]?=some (.raw a o):=by
 rw[Fs (B3 e)];exact e
theorem O8.app{τ:Sto}{p:LxP}{ln:Int}{pb:List AV}(h:O8 V p n ln pb):O8 (V++τ) p n ln pb:=by
 have up:∀(j:Nat) (y:I3),V[j]?=some y->(V++τ)[j]?=some y:=λ j y e=>by rw[Fs (B3 e)];exact e
 exact h.to (λ j a o e=>up _ _ e) (λ j a o e=>up _ _ e) (up _ _ h.inst) (up _ _ h.pbk) (up _ _ h.pos)
theorem mf(N:GF W)(G:GI W){p:LxP}{ln:Int}{x:List AV}{pb:List AV}(h:O8 V p n ln pb)(hl:pb.length<1000)(q:Q .none (V.set p.ip (.list (pb++[.tup x])))):
  M8 W (k+1) J6 [.ref p.ii,.tup x] Q V:=by
 refine H6 (n:=0) (xs:=[.ref p.ii,.tup x]) (V:=V) (Q:=Q) N.f__netrclex_push_token (dm G) rfl ?_
 dsimp only[aA,A4,B5,B7,G2,sIf,F9,L7,H7,H0,I4,I5,I2,G4,A5,B6,G1,G7,G0,C2,I9,L4,D1,L2,H5,C9,I8,I6,G5,I1,M4,D0,pIf,L9,E4,L5,L6,M1,M5,D7,L3,L1,tOr,J4,M0,F0,A7,A6,B4,K6,K5,J8,J9,J7,D9,I0,inI,B8,B9,C5,C6,C3,C7,List.replicate]
 exact aE h.inst rfl (cA (J1 h.pbk) (FF hl (by decide)) q)
theorem vT{a b:Blk}:cC V .Lt (iE a) (iE b)=some (decide (¬kle b a)):=by
 show ltN 4 _ _=_
 unfold iE
 rw[vM]
 refine congrArg some (decide_eq_decide.mpr ?_)
 unfold kle
 by_cases h1:0<=a.net <;> by_cases h2:0<=b.net <;> simp[h1,h2,ie,ik] <;> lia
theorem qb{a b:Int}:(if b > a then b else a)=max a b:=by lia
def grC(W:Wld)(k:Nat):ST:=A4 (B7 (D0 (fnB W k N6) (A6 (G1 []) A7)) [(B4 11)]) (A4 (F9 (I1 W k cL J6 (A5 11) (A6 (I8 (A6 (D0 (fnB W k al) (A6 (A5 3) (A6 (A5 4) A7))) (A6 (A5 3) (A6 (A5 4) (A6 (A5 5) A7))))) A7))) (A4 (O7 (aF (L2 (A5 2) (.some (A5 6)) .none)) (B4 12) (A4 (F9 (I1 W k cL J6 (A5 11) (A6 (A5 12) A7))) B5)) (A4 (G2 (A5 11)) B5)))
def Cz:ST:=A4 (B7 (D0 gu (A6 (A5 3) (A6 (C2 Operator.Sub (A5 8) (A5 4)) A7))) [B4 3])
      (A4 (B7 (C2 Operator.Add (A5 4) (A5 9)) [B4 4])
       (A4 (B7 (C2 Operator.Add (A5 5) (A5 10)) [B4 5])
        (A4 (B7 (C2 Operator.Add (A5 6) (B6 1)) [B4 6]) B5)))
def grB:ST:=A4 (B7 (D1 (A5 2) (A5 6)) [J8 (J9 4 (D9 (B4 7) (D9 (B4 8) (D9 (B4 9) (D9 (B4 10) J7)))))]) Cz
inductive GpI(V:Sto)(n2:Nat)(src:List AV)(P:Addr)(ps:Array Value)(qn:Str)(p:LxP)(all:List Blk)(st:List AV)(rest:List Blk)(st':List AV)(OP:Sto):Prop
 | mk {done:List Blk}:all=done++rest->FrS [12] st st'->O8 OP p 0 1 (done.map N2)->V5 OP P ps (T7 qn)->V4 V OP->lst OP n2=some src->GpI V n2 src P ps qn p all st rest st' OP
theorem V4.set{OP:Sto}{y:I3}(X:V4 V OP)(h:V.length<=i):V4 V (OP.set i y):=
 ⟨by rw[Fj];exact X.1,λ j z j0 hj=>(Fg (FU (Fo (B3 hj) h))).trans (X.2 j z j0 hj)⟩
theorem vU{R:List Blk}{t:Nat}:c6 (R.map N2) (some (t:Int)) none=(R.drop t).map N2:=by
 unfold c6
 rw[List.map_drop]
 exact Hg (by rw[Ho];exact Fn _)
set_option tactic.hygienic true in
theorem AP{c0 P:Addr}{qn:Str}(N:GF W)(G:GI W)(L:LxI W c0 P qn){ps:Array Value}(T:V5 V P ps (T7 qn)){ib t:Nat}{R:List Blk}{v:Blk}(hs:st.length=13)
  (h2:st[2]?=some (.ref ib))(h3:st[3]?=some (.int v.need))(h4:st[4]?=some (.int v.net))(h5:st[5]?=some (.tup (X8 v.pl)))(h6:st[6]?=some (.int t))(hl:V[ib]?=some (.list (R.map N2)))(hz:R.length<50)
  (q:∀OP ps' (p:LxP),V4 V OP->V5 OP P ps' (T7 qn)->V.length<=p.ii->V.length<=p.ip->V.length<=p.il->p.t=[]->O8 OP p 0 1 ((v::R.drop t).map N2)->Q (.ref p.ii) OP):grC W (k+3) st (n4 Q) V:=by
 unfold grC
 dsimp only[A4,B5,B7,F9,G2,D0,I1,I8,A6,A7,G1,fnB,I0,B4,O7,aF,L2,H5]
 refine o6 (k:=k) N G L T λ Pu ps1 p X1 T1 a1 a2 a3 a4 S1=>?_
 have f:∀{j x},st[j]?=some x->11≠j->(st.set 11 (.ref p.ii))[j]?=some x:=λ h hj=>E7 h hj
 have e11:(st.set 11 (.ref p.ii))[11]?=some (.ref p.ii):=K7 (by rw[hs];decide)
 have hs':(st.set 11 (.ref p.ii)).length=13:=(Fj ..).trans hs
 replace h2:=f h2 (by decide)
 replace h3:=f h3 (by decide)
 replace h4:=f h4 (by decide)
 replace h5:=f h5 (by decide)
 replace h6:=f h6 (by decide)
 clear f hs
 generalize st.set 11 (.ref p.ii)=st at *
 refine C8 e11 rfl ⟨V6 S1.inst,C8 h3 rfl (C8 h4 rfl (o8 (k:=k+2) N G (C8 h3 rfl (C8 h4 rfl (C8 h5 rfl ⟨D8 (show 4<1000000 by decide),mf (k:=k+2) N G S1 (Nat.zero_lt_succ _) ?_⟩)))))⟩
 have hib0:ib≠0:=by rintro rfl;rw[T.raw]at hl;cases hl
 have S2:=S1.pbTo (pb':=[v].map N2)
 have T2:V5 (Pu.set p.ip (.list ([v].map N2))) P ps1 (T7 qn):=T1.raws (kx S1.pbk (λ _ _ h=>by cases h))
 have X2:V4 V (Pu.set p.ip (.list ([v].map N2))):=X1.set a2
 rw[show Pu.set p.ip (.list ([]++[AV.tup [iE v,.int v.need,.int v.net,.tup (X8 v.pl)]]))=Pu.set p.ip (.list ([v].map N2))from rfl]
 generalize Pu.set p.ip (.list ([v].map N2))=PD at S2 T2 X2
 clear S1 T1 X1 h3 h4 h5 T
 refine C8 h2 rfl (C8 h6 rfl (k_i (zk (lo:=some (t:Int)) (hi:=none) (J1 (X2.2 _ _ hib0 hl)) ⟨FX t,trivial⟩ (D8 (by rw[Fd];exact FF hz (by decide))) (gW E0 ?_))))
 rw[vU]
 have hipl:=B3 S2.pbk
 refine bW (GpI V PD.length ((R.drop t).map N2) P ps1 qn p (v::R.drop t) st) (λ _ _ _ h=>by obtain⟨_,_,_,_,_,h⟩:=h;exact h) ?_ ?_ (R.drop t) st _ (.mk (done:=[v]) rfl FrS.rfl' S2.app (T2.raws bb) (X2.trans .app) E0)
 ·intro b rest st' Qe K h hK
  obtain⟨hd,F,S3,T3,X3,hsrc⟩:=h
  rename_i done
  have F':FrS [12] st (st'.set 12 (N2 b)):=F.set (.head _)
  have hdl:done.length<100:=by
   have:=congrArg List.length hd
   rw[GB,Ho,Fc]at this
   exact zzb (Fq (fp (fp (Fi _ _) (Fw this.symm)) (Fe (HH _ _) hz))) rfl
  dsimp only[B4,A4,F9,B5,I1,A6,A7]
  refine C8 (F'.at e11 (by decide)) rfl ⟨V6 S3.inst,C8 (K7 (by rw[F.len,hs'];decide)) rfl (mf (k:=k+2) N G S3 (by rw[Fd];exact FF hdl (by decide)) (hK.nx _ _ (.mk (done:=done++[b]) (by rw[hd,Fz];rfl) F' ?_ (T3.raws (kx S3.pbk (λ _ _ h=>by cases h))) (X3.set a2) ?_)))⟩
  ·rw[FG];exact S3.pbTo
  ·refine J1 ((Fg (FP ?_)).trans (F6 hsrc))
   exact hipl
 ·intro st' Qe h
  obtain⟨hd,F,S3,T3,X3,hsrc⟩:=h
  rename_i done
  rw[FL]at hd
  exact C8 (F.at e11 (by decide)) rfl (q Qe ps1 p X3 T3 a1 a2 a3 a4 (hd▸S3))
inductive GrI(V:Sto)(ib j:Nat)(gain:Int)(R rows:List Blk)(m:Nat)(st:List AV)(OP:Sto):Prop
 | mk {t:Nat}{v:Blk}{v7 v8 v9 v10:AV}:m=R.length-t->OP=V->st=[.int j,.int gain,.ref ib,.int v.need,.int v.net,.tup (X8 v.pl),.int t,v7,v8,v9,v10,.undef,.undef]->v.pl≠[]->v.pl.length<=1+50*t->U1 v (R.drop t)=rows->GrI V ib j gain R rows m st OP
set_option tactic.hygienic true in
theorem yG{c0 P:Addr}{qn:Str}(N:GF W)(G:GI W)(L:LxI W c0 P qn){ps:Array Value}(T:V5 V P ps (T7 qn)){ib:Nat}{gain:Int}{R:List Blk}
  (hl:V[ib]?=some (.list (R.map N2)))(hz:R.length<50)(hpl:∀b∈R,b.pl≠[]/\b.pl.length<=50)
  (q:∀OP ps' (p:LxP),V4 V OP->V5 OP P ps' (T7 qn)->V.length<=p.ii->V.length<=p.ip->V.length<=p.il->p.t=[]->O8 OP p 0 1 ((U1 ⟨max 0 (-gain),gain,[j]⟩ R).map N2)->Q (.ref p.ii) OP):
  M8 W (k+4) Y2 [.int j,.int gain,.ref ib] Q V:=by
 refine H6 (n:=10) (xs:=[.int j,.int gain,.ref ib]) (V:=V) (Q:=Q) N.f__law_grown (mT G) rfl ?_
 have hL:=J1 hl
 rw[show gH W (k+3)=A4 _ (A4 _ (A4 _ (A4 _ (A4 (cE _ grB) (grC W (k+3))))))from rfl]
 dsimp only[A4,B5,B7,D0,I9,B6,A5,I8,A6,A7,I0,B4,inI,B8,B9,C5,C6,C3,C7,List.replicate]
 refine oZ ?_
 rw[qb]
 refine⟨D8 (show 1<1000000 by decide),?_⟩
 refine cT (GrI V ib j gain R (U1 ⟨max 0 (-gain),gain,[j]⟩ R)) (.mk (t:=0) (v:=⟨max 0 (-gain),gain,[j]⟩) rfl rfl rfl (by intro e;cases e) (Fn _) rfl) ?_
 intro m st OP K h hK
 obtain⟨rfl,rfl,rfl,hv,hvl,hab⟩:=h
 rename_i t v v7 v8 v9 v10
 have hRl:(R.map N2).length<=lim:=D8 (by rw[Fd];exact FF hz (by decide))
 have hc:cC OP .Lt (.int (t:Int)) (.int ((R.map N2).length:Int))=some (decide (t<R.length)):=by rw[Fd];exact qa
 have fin:U1 v (R.drop t)=v::R.drop t->∀{w7 w8 w9 w10:AV},grC W (k+3) [.int j,.int gain,.ref ib,.int v.need,.int v.net,.tup (X8 v.pl),.int t,w7,w8,w9,w10,.undef,.undef] (n4 Q) OP:=λ he {_ _ _ _}=>
  AP N G L T rfl rfl rfl rfl rfl rfl hl hz (by rw[<- he,hab];exact q)
 dsimp only[L1,D7,L3,A5,D0,D1,B6,A6,A7,fnB,B8,B9]
 by_cases htl:t<R.length
 ·obtain⟨b,hb,hdr,hbm⟩:∃b,R[t]?=some b/\R.drop t=b::R.drop (t+1)/\b∈R:=⟨R[t],Ff htl,HF htl,Ly htl⟩
  have hbA:(R.map N2)[t]?=some (N2 b):=by rw[FK,hb];rfl
  have hR6:(R.map N2).length<1000000:=Fe (Fw (Fd ..)) (FF hz (by decide))
  refine cS hL hRl (W3 (hc.trans (congrArg some (decide_eq_true htl))) (du hL hbA hR6 (kp (p:=0) rfl (show 4<1000000 by decide) (o8 (k:=k+2) N G ?_))))
  by_cases hk:kle v b
  ·exact W4 (vT.trans (congrArg some (decide_eq_false (not_not_intro hk)))) (fin (by rw[hdr];exact if_pos hk))
  ·refine W3 (vT.trans (congrArg some (decide_eq_true hk))) ?_
   obtain⟨p1,p2⟩:=hpl b hbm
   have q1:∀{l:List Nat},l≠[]->X8 l≠[]:=λ h e=>h (KQ.mp e)
   have q3:(X8 v.pl).length+(X8 b.pl).length<=lim:=D8 (by unfold X8;rw[Fd,Fd];exact zzb (Fq (Ib (fp hvl (Gf (GN 50 (FE (FF htl hz))) 1)) p2)) rfl)
   unfold grB Cz
   dsimp only[A4,B5,B7,G2,sIf,F9,L7,H7,H0,I4,I5,I2,G4,A5,B6,G1,G7,G0,C2,I9,L4,D1,L2,H5,C9,I8,I6,G5,I1,M4,D0,pIf,L9,E4,L5,L6,M1,M5,D7,L3,L1,tOr,J4,M0,F0,A7,A6,B4,K6,K5,J8,J9,J7,D9,I0,inI,B8,B9,C5,C6,C3,C7,List.replicate]
   refine du hL hbA hR6 ⟨rfl,fJ (oZ (S0 ⟨⟨q1 hv,q1 p1,q3⟩,S0 ?_⟩))⟩
   rw[qb,show X8 v.pl++X8 b.pl=X8 (comp v b).pl from(FG ..).symm]
   refine hK.nx _ _ ⟨R.length-(t+1),KR htl (FY _),.mk (t:=t+1) (v:=comp v b) rfl rfl rfl (λ e=>hv (Km.mp e).1) ?_ ?_⟩
   ·show(v.pl++b.pl).length<=_
    rw[Fc];lia
   ·rw[<- hab,hdr];exact(if_neg hk).symm
 ·exact cS hL hRl (W4 (hc.trans (congrArg some (decide_eq_false htl))) (fin (by rw[Kn (Ir.mp htl)];rfl)))
noncomputable def LxP.ix(p:LxP):List Nat:=[p.ii,p.ip,p.il]
structure AQ(ls:List LxP):Prop where
 t0:∀(j:Nat) (p:LxP),ls[j]?=some p->p.t=[]
 dj:∀(j j':Nat) (p p':LxP),ls[j]?=some p->ls[j']?=some p'->j≠j'->∀x∈p.ix,x∉p'.ix
structure P6(V:Sto)(ls:List LxP)(rows:List (List Blk)):Prop where
 len:ls.length=rows.length
 lex:∀(j:Nat) (p:LxP) (r:List Blk),ls[j]?=some p->rows[j]?=some r->∃ln,O8 V p 0 ln (r.map N2)
def FrX(ls:List LxP)(V OP:Sto):Prop:=V.length<=OP.length/\∀x,x<V.length->(∀(j:Nat) (p:LxP),ls[j]?=some p->x∉p.ix)->OP[x]?=V[x]?
theorem FrX.rfl'{ls:List LxP}:FrX ls V V:=⟨Fn _,λ Y Y Y=>rfl⟩
theorem FrX.trans{ls:List LxP}{OP Pr:Sto}(a:FrX ls V OP)(b:FrX ls OP Pr):FrX ls V Pr:=
 ⟨fp a.1 b.1,λ x hx h=>(b.2 x (Fo hx a.1) h).trans (a.2 x hx h)⟩
theorem FrX.app{ls:List LxP}{τ:Sto}:FrX ls V (V++τ):=⟨by simp,λ x hx Y=>Fs hx⟩
theorem FrX.set{ls:List LxP}{OP:Sto}{y:I3}(h:FrX ls V OP)(hi:V.length<=i):FrX ls V (OP.set i y):=
 ⟨by simpa using h.1,λ x hx hn=>by rw[Fg (FU (Fo hx hi))];exact h.2 x hx hn⟩
theorem O8.keep{OP:Sto}{p:LxP}{ln:Int}{pb:List AV}(h:O8 V p n ln pb){X:List Nat}(hX:∀x∈X,∃y,V[x]?=some y/\(∀a o,y≠.raw a o)/\∀a o,y≠.cell a o)(hk:∀x,x<V.length->x∉X->OP[x]?=V[x]?)(hp:∀x∈p.ix,x∉X):O8 OP p n ln pb:=by
 have up:∀(j:Nat) (y:I3),V[j]?=some y->j∉X->OP[j]?=some y:=λ j y e hn=>(hk j (B3 e) hn).trans e
 refine h.to (λ j a o e=>up _ _ e λ hm=>?_) (λ j a x e=>up _ _ e λ hm=>?_) (up _ _ h.inst (hp _ (by simp[LxP.ix]))) (up _ _ h.pbk (hp _ (by simp[LxP.ix]))) (up _ _ h.pos (hp _ (by simp[LxP.ix])))
 ·obtain⟨y,h1,h2,_⟩:=hX _ hm
  rw[e]at h1;cases h1;exact h2 _ _ rfl
 ·obtain⟨y,h1,_,h2⟩:=hX _ hm
  rw[e]at h1;cases h1;exact h2 _ _ rfl
theorem O8.ixs{p:LxP}{ln:Int}{pb:List AV}(h:O8 V p n ln pb):∀x∈p.ix,∃y,V[x]?=some y/\(∀a o,y≠.raw a o)/\∀a o,y≠.cell a o:=by
 intro x hx
 simp only[LxP.ix,Fv,FO,or_false]at hx
 rcases hx with rfl|rfl|rfl
 ·exact⟨_,h.inst,by simp,by simp⟩
 ·exact⟨_,h.pbk,by simp,by simp⟩
 ·exact⟨_,h.pos,by simp,by simp⟩
theorem P6.keep{OP:Sto}{ls:List LxP}(h:P6 V ls rows){X:List Nat}(hX:∀x∈X,∃y,V[x]?=some y/\(∀a o,y≠.raw a o)/\∀a o,y≠.cell a o)(hk:∀x,x<V.length->x∉X->OP[x]?=V[x]?)
  (hp:∀(j:Nat) (p:LxP),ls[j]?=some p->∀x∈p.ix,x∉X):P6 OP ls rows:=
 ⟨h.len,λ j p r h1 h2=>let ⟨ln,h3⟩:=h.lex j p r h1 h2;⟨ln,h3.keep hX hk (hp j p h1)⟩⟩
theorem P6.app{τ:Sto}{ls:List LxP}(h:P6 V ls rows):P6 (V++τ) ls rows:=
 h.keep (X:=[]) (λ x hx=>by cases hx) (λ x hx Y=>Fs hx) (λ Y Y Y Y Y h=>by cases h)
theorem P6.set{ls:List LxP}(h:P6 V ls rows){y:I3}(hi:V[i]?=some (.list l))(hp:∀(j:Nat) (p:LxP),ls[j]?=some p->i∉p.ix):P6 (V.set i y) ls rows:=by
 refine h.keep (X:=[i]) (λ x hx=>?_) (λ x hx hn=>?_) (λ j p hj x hx hm=>?_)
 ·obtain rfl:=Fh.mp hx
  exact⟨_,hi,by simp,by simp⟩
 ·rw[Fg (by simpa using HE (by simpa using hn:x≠i))]
 ·obtain rfl:=Fh.mp hm
  exact hp j p hj hx
theorem rG(N:GF W)(G:GI W){ls:List LxP}(OI:AQ ls)(A:P6 V ls rows){p:LxP}{r:List Blk}(hp:ls[j]?=some p)(hr:rows[j]?=some r)(hl:r.length<1000)
  (q1:∀b r',r=b::r'->∀OP,P6 OP ls (rows.set j r')->FrX ls V OP->Q (N2 b) OP)(q2:r=[]->∀OP,P6 OP ls rows->FrX ls V OP->Q (.str []) OP):
  M8 W (k+4) E3 [.ref p.ii] Q V:=by
 refine xE (A.lex j p r hp hr) λ ln S=>?_
 cases r with
 | cons b r'=>
  refine yz (k:=k+3) N G (x:=N2 b) (pb:=r'.map N2) S (by simp at hl ⊢;exact GU hl) (q1 b r' rfl _ ⟨by rw[Fj];exact A.len,λ j' p' r2 h1 h2=>?_⟩ ⟨by simp,λ x hx hn=>?_⟩)
  ·by_cases e:j=j'
   ·subst e
    rw[hp]at h1;cases h1
    rw[Fu (B3 hr)]at h2;cases h2
    exact⟨ln,S.pbTo⟩
   ·rw[Fg e]at h2
    refine xE (A.lex j' p' r2 h1 h2) λ ln' S'=>?_
    refine⟨ln',S'.keep (X:=[p.ip]) (λ x hx=>?_) (λ x hx hn=>?_) (λ x hx hm=>?_)⟩
    ·obtain rfl:=Fh.mp hx
     exact⟨_,S.pbk,by simp,by simp⟩
    ·rw[Fg (by simpa using HE (by simpa using hn:x≠p.ip))]
    ·obtain rfl:=Fh.mp hm
     exact OI.dj j' j p' p h1 hp (HE e) _ hx (by simp[LxP.ix])
  ·have:=hn j p hp
   rw[Fg]
   intro e;subst e;exact this (by simp[LxP.ix])
 | nil=>
  have t0:=OI.t0 j p hp
  refine ng (k:=k) (ws:=[]) (used:=[]) (tok:=[]) (nl:=[]) (r:=[]) N G S (by rw[t0];decide) (λ c hc=>by cases hc) (.inr ⟨by rw[t0];rfl,Gb _,rfl,rfl,rfl⟩) λ OP l1 l2 l3=>?_
  have l3':O8 OP p 0 ln []:=by simpa using l3
  refine q2 rfl OP ⟨A.len,λ j' p' r2 h1 h2=>?_⟩ ⟨zzl l1,λ x hx hn=>l2 x hx ?_ ?_⟩
  ·by_cases e:j=j'
   ·subst e
    rw[hp]at h1;cases h1
    rw[hr]at h2;cases h2
    exact⟨ln,l3'⟩
   ·refine xE (A.lex j' p' r2 h1 h2) λ ln' S'=>?_
    refine⟨ln',S'.keep (X:=p.ix) S.ixs (λ x hx hn=>l2 x hx ?_ ?_) (λ x hx hm=>OI.dj j' j p' p h1 hp (HE e) _ hx hm)⟩
    ·intro e;subst e;exact hn (by simp[LxP.ix])
    ·intro e;subst e;exact hn (by simp[LxP.ix])
  ·intro e;subst e;exact hn j p hp (by simp[LxP.ix])
  ·intro e;subst e;exact hn j p hp (by simp[LxP.ix])
def CA:ST:=A4 (sIf (D7 .NotEq (A5 3) (G1 [])) (A4 (F9 (G5 (A5 1) O1 aG (A6 (I8 (A6 (D1 (A5 3) (B6 0)) (A6 (A5 2) (A6 (A5 3) A7)))) A7))) B5) B5) B5
def mgA(W:Wld)(k:Nat):ST:=A4 (B7 (I1 W k cL E3 (D1 (A5 0) (A5 2)) A7) [(B4 3)]) CA
def CB(W:Wld)(k:Nat):ST:=A4 (sIf (D7 .Eq (A5 6) (G1 [])) (A4 (F9 (D0 (fnB W k bz) (A6 (A5 1) A7))) B5) (A4 (F9 (D0 (fnB W k V8) (A6 (A5 1) (A6 (I8 (A6 (D1 (A5 6) (B6 0)) (A6 (A5 2) (A6 (A5 6) A7)))) A7)))) B5)) B5
def CC(W:Wld)(k:Nat):ST:=A4 (F9 (G5 (A5 4) O1 aG (A6 (A5 3) A7))) (A4 (B7 (I1 W k cL E3 (D1 (A5 0) (A5 2)) A7) [(B4 6)]) (CB W k))
def mgB(W:Wld)(k:Nat):ST:=A4 (B7 (D1 (A5 1) (B6 0)) [(J8 (J9 3 (D9 (B4 5) (D9 (B4 2) (D9 (B4 3) J7)))))]) (CC W k)
def mgE(W:Wld)(k:Nat):ST:=A4 (cE (J4 (A5 1)) (mgB W k)) (A4 (G2 (A5 4)) B5)
def mgD(W:Wld)(k:Nat):ST:=A4 (F9 (D0 (fnB W k bA) (A6 (A5 1) A7))) (A4 (B7 (C9 A7) [(B4 4)]) (mgE W k))
def Sz(rows:List (List Blk)):Prop:=∀(j:Nat) (r:List Blk),rows[j]?=some r->r.length<1000
theorem Sz.set{b:Blk}{r:List Blk}(h:Sz rows)(hj:rows[j]?=some (b::r)):Sz (rows.set j r):=by
 intro i r' hi
 by_cases e:j=i
 ·subst e
  rw[Fu (B3 hj)]at hi;cases hi
  have:=h j _ hj
  simp at this;exact GU this
 ·rw[Fg e]at hi
  exact h i r' hi
section
variable {W:Wld}{k:Nat}(N:GF W) (G:GI W) {V:Sto}{ls:List LxP}{rows:List (List Blk)}(OI:AQ ls) {il:Nat}(A0:P6 V ls rows)
 (hl:V[il]?=some (.list (ls.map λ p=>AV.ref p.ii))) (hilx:∀(j:Nat) (p:LxP),ls[j]?=some p->il∉p.ix) (hn:ls.length<100)
theorem P6.lt{V:Sto}{ls:List LxP}(A:P6 V ls rows){p:LxP}(hp:ls[j]?=some p):∀x∈p.ix,x<V.length:=by
 intro x hx
 have hj:=B3 hp
 rw[A.len]at hj
 obtain⟨ln,S⟩:=A.lex j p _ hp (Ff hj)
 obtain⟨y,e,_⟩:=S.ixs x hx
 exact B3 e
include A0 in
theorem hno(hi:V.length<=i):∀(j:Nat) (p:LxP),ls[j]?=some p->i∉p.ix:=λ j p hp hm=>by
 have:=A0.lt hp _ hm
 exact GY hi this
inductive M1I(V:Sto)(ls:List LxP)(rows:List (List Blk))(il i:Nat)(st:List AV)(Pu:Sto):Prop
 | mk {H:List HI}{rows':List (List Blk)}{v2 v3:AV}:st=[.ref il,.ref V.length,v2,v3,.undef,.undef,.undef]->P6 Pu ls rows'->Sz rows'->Pu[V.length]?=some (.list (H.map itA))->FrX ls V Pu->HV H rows' rows i->H.length<=i->M1I V ls rows il i st Pu
theorem vV{b:Blk}:H.map itA++[AV.tup [iE b,.int (i:Int),N2 b]]=(H++[(⟨b,i⟩:HI)]).map itA:=(FG (f:=itA) (l₁:=H) (l₂:=[⟨b,i⟩])).symm
inductive zv(ls:List LxP)(rows:List (List Blk))(il i:Nat)(V:Sto):Prop
 | mk (p:LxP) (r:List Blk):ls[i]?=some p->rows[i]?=some r->iK cL V (.ref p.ii)->(∀{Q:AV->Sto->Prop},Q (.ref p.ii) V->bh (.ref il) (.int (i:Int)) Q V)->zv ls rows il i V
include hl hilx hn in
theorem vW{rows':List (List Blk)}{Pu:Sto}(A:P6 Pu ls rows')(F:FrX ls V Pu)(hi:i<ls.length):zv ls rows' il i Pu:=by
 have hp:ls[i]?=some ls[i]:=Ff hi
 generalize ls[i]=p at hp
 have hr:rows'[i]?=some (rows'[i]'(A.len▸hi)):=Ff (A.len▸hi)
 generalize rows'[i]'(A.len▸hi)=r at hr
 obtain⟨ln,S⟩:=A.lex i p r hp hr
 exact⟨p,r,hp,hr,V6 S.inst,λ q=>du (J1 ((F.2 il (B3 hl) hilx).trans hl)) (by rw[FK,hp];rfl) (by rw[Fd];exact FF hn (by decide)) q⟩
include N G OI A0 hl hilx hn in
set_option tactic.hygienic true in
theorem AR{Pu:Sto}{Q:G3->List AV->Sto->Prop}{K:G3->List AV->Sto->Prop}(hi:i<ls.length)(h:M1I V ls rows il i st Pu)(hK:KO (M1I V ls rows il (i+1)) Q K):mgA W (k+4) (st.set 2 (.int i)) K Pu:=by
 obtain⟨rfl,A,OK,hh,F,OJ,hHi⟩:=h
 rename_i H rows' v2 v3
 obtain⟨p,r,hp,hr,hins,idx⟩:=vW hl hilx hn A F hi
 unfold mgA
 dsimp only[A4,B7,I1,D1,A5,I0,B4,A7,C5,C6,B8,B9]
 refine idx ⟨hins,?_⟩
 have hho:∀{PD},FrX ls Pu PD->PD[V.length]?=some (.list (H.map itA)):=λ F2=>(F2.2 _ (B3 hh) (hno A0 (Fn _))).trans hh
 unfold CA
 refine rG (k:=k) N G OI A hp hr (OK _ _ hr) (λ b r' hb PD A2 F2=>?_) (λ hb PD A2 F2=>?_)
 ·subst hb
  have hh2:=hho F2
  dsimp only[A4,B5,B7,G2,sIf,F9,L7,H7,H0,I4,I5,I2,G4,A5,B6,G1,G7,G0,C2,I9,L4,D1,L2,H5,C9,I8,I6,G5,I1,M4,D0,pIf,L9,E4,L5,L6,M1,M5,D7,L3,L1,tOr,J4,M0,F0,A7,A6,B4,K6,K5,J8,J9,J7,D9,I0,inI,B8,B9,C5,C6,C3,C7,List.replicate,N2]
  refine W3 (AN b) ⟨aQ (J1 hh2),kp (L:=[iE b,.int b.need,.int b.net,.tup (X8 b.pl)]) (p:=0) rfl (show 4<1000000 by decide) ⟨D8 (show 3<1000000 by decide),(cA (J1 hh2) (by rw[Fd];exact FF (Fe hHi (FF hi hn)) (by decide)) ?_).2⟩⟩
  refine hK.nx _ _ (.mk (H:=H++[⟨b,i⟩]) rfl (A2.set hh2 (hno A0 (Fn _))) (OK.set hr) ?_ ((F.trans F2).set (Fn _)) (OJ.add hr) (by rw[Fc];exact Fq hHi))
  rw[<- vV]
  exact Fu (B3 hh2)
 ·subst hb
  dsimp only[A4,B5,B7,G2,sIf,F9,L7,H7,H0,I4,I5,I2,G4,A5,B6,G1,G7,G0,C2,I9,L4,D1,L2,H5,C9,I8,I6,G5,I1,M4,D0,pIf,L9,E4,L5,L6,M1,M5,D7,L3,L1,tOr,J4,M0,F0,A7,A6,B4,K6,K5,J8,J9,J7,D9,I0,inI,B8,B9,C5,C6,C3,C7,List.replicate]
  exact W4 rfl (hK.nx _ _ (.mk rfl A2 OK (hho F2) (F.trans F2) (OJ.skip hr) (GD hHi)))
inductive MgI(V:Sto)(ls:List LxP)(rows:List (List Blk))(il n0 n1:Nat)(m:Nat)(st:List AV)(Pu:Sto):Prop
 | mk {H:List HI}{rows' cur:List (List Blk)}{T:List (Nat×Blk)}{v2 v3 v5 v6:AV}:m=cur.flatten.length->st=[.ref il,.ref n0,v2,v3,.ref n1,v5,v6]->P6 Pu ls rows'->Sz rows'->Pu[n0]?=some (.list (H.map itA))->Pu[n1]?=some (.list (T.map λ x=>N2 x.2))->FrX ls V Pu->HV H rows' cur ls.length->
   H.length<=ls.length->M9 H 0->(∀T',Mrg cur T'->Mrg rows (T++T'))->T.length+cur.flatten.length<=999->MgI V ls rows il n0 n1 m st Pu
include N G OI A0 hl hilx hn in
theorem yH{n0 n1:Nat}(h0:V.length<=n0)(h1:V.length<=n1)(h01:n0≠n1){Q K:G3->List AV->Sto->Prop}{rows' cur:List (List Blk)}{T:List (Nat×Blk)}{Pu:Sto}{v2 v3 v5 v6:AV}
  (A:P6 Pu ls rows')(OK:Sz rows')(hh:Pu[n0]?=some (.list (H.map itA)))(ht:Pu[n1]?=some (.list (T.map λ x=>N2 x.2)))(F:FrX ls V Pu)(OJ:HV H rows' cur ls.length)(hH:H.length<=ls.length)(hp:M9 H 0)
  (hm:∀T',Mrg cur T'->Mrg rows (T++T'))(hc:T.length+cur.flatten.length<=999)(h0l:0<H.length)(hK:KO (λ st Pu=>∃m,m<cur.flatten.length/\MgI V ls rows il n0 n1 m st Pu) Q K):mgB W (k+4) [.ref il,.ref n0,v2,v3,.ref n1,v5,v6] K Pu:=by
 have hxm:=Ac h0l
 refine xE (OJ.mem hxm) λ r Z=>(λ hr hcur=>?_) Z.1 Z.2;clear Z
 have hmin:=OJ.min (by rw[<- OJ.len,<- A.len];exact Fn _) hp h0l
 have hii:=OJ.lt _ hxm
 have hH1:H.length<1000:=Fe hH (FF hn (by decide))
 have hfl:=uK hcur
 have hTl:(T.map λ x=>N2 x.2).length<lim:=by rw[Fd];exact Fe (fp (Fi ..) hc) (by decide)
 generalize hx:gt H 0=x at *
 unfold mgB
 dsimp only[A4,B7,D1,A5,B6,I0,B8,B9]
 refine du (p:=0) (J1 hh) (rC h0l) (by rw[Fd];exact FF hH1 (by decide)) ?_
 rw[hx]
 unfold CC
 dsimp only[A4,B7,F9,G5,I1,D1,A5,I0,J8,inT,J9,D9,J7,B4,A6,A7,itA,N2,C5,C6,B8,B9]
 refine⟨rfl,cA (J1 ht) hTl ?_⟩
 have A2:P6 (Pu.set n1 (.list ((T.map λ x=>N2 x.2)++[N2 x.b]))) ls rows':=A.set ht (hno A0 h1)
 have F2:FrX ls V (Pu.set n1 (.list ((T.map λ x=>N2 x.2)++[N2 x.b]))):=F.set h1
 have hh2:(Pu.set n1 (.list ((T.map λ x=>N2 x.2)++[N2 x.b])))[n0]?=some (.list (H.map itA)):=(Fg (HE h01)).trans hh
 have ht2:(Pu.set n1 (.list ((T.map λ x=>N2 x.2)++[N2 x.b])))[n1]?=some (.list ((T++[(x.ii,x.b)]).map λ x=>N2 x.2)):=(Fu (B3 ht)).trans (by rw[FG];rfl)
 show bh _ _ _ (Pu.set n1 (.list ((T.map λ x=>N2 x.2)++[N2 x.b])))
 generalize Pu.set n1 (.list ((T.map λ x=>N2 x.2)++[N2 x.b]))=PD at A2 F2 hh2 ht2 ⊢
 clear A F hh ht hTl
 obtain⟨p,r2,hpj,hr2,hins,idx⟩:=vW hl hilx hn A2 F2 hii
 obtain rfl:r=r2:=Ft (hr.symm.trans hr2)
 refine idx ⟨hins,?_⟩
 have hm2:∀{r'},cur[x.ii]?=some (x.b::r')->∀T',Mrg (cur.set x.ii r') T'->Mrg rows ((T++[(x.ii,x.b)])++T'):=λ e T' hT=>by
  rw[Fz]
  exact hm _ (.step e hmin hT)
 have fin:∀{H':List HI}{rows2 cur2:List (List Blk)}{Qe:Sto}{w2 w3 w5 w6:AV},(cur2.flatten.length+1=cur.flatten.length)->P6 Qe ls rows2->Sz rows2->FrX ls PD Qe->HV H' rows2 cur2 ls.length->H'.length<=H.length->M9 H' 0->(∀T',Mrg cur2 T'->Mrg rows ((T++[(x.ii,x.b)])++T'))->
   Qe[n0]?=some (.list (H.map itA))->K .next [.ref il,.ref n0,w2,w3,.ref n1,w5,w6] (Qe.set n0 (.list (H'.map itA))):=λ e A3 Z3 F3 V3 hl3 hp3 hm3 hh3=>
  hK.nx _ _ ⟨_,Nat.lt_of_succ_le (Fw e),.mk rfl rfl (A3.set hh3 (hno A0 h0)) Z3 (Fu (B3 hh3)) ((Fg h01).trans ((F3.2 _ (B3 ht2) (hno A0 h1)).trans ht2)) ((F2.trans F3).set h0) V3 (fp hl3 hH) hp3 hm3 (by rw[Fc,Gs];exact fp (Fw ((GC _ _).trans (congrArg (_ + ·) e))) hc)⟩
 unfold CB
 refine rG (k:=k) N G OI A2 hpj hr (OK _ _ hr) (λ b r' hb Qe A3 F3=>?_) (λ hb Qe A3 F3=>?_)
 ·subst hb
  have hh3:=(F3.2 _ (B3 hh2) (hno A0 h0)).trans hh2
  dsimp only[A4,B5,B7,G2,sIf,F9,L7,H7,H0,I4,I5,I2,G4,A5,B6,G1,G7,G0,C2,I9,L4,D1,L2,H5,C9,I8,I6,G5,I1,M4,D0,pIf,L9,E4,L5,L6,M1,M5,D7,L3,L1,tOr,J4,M0,F0,A7,A6,B4,K6,K5,J8,J9,J7,D9,I0,inI,B8,B9,C5,C6,C3,C7,List.replicate,N2,fnB]
  refine W4 (AO b) (kp (L:=[iE b,.int b.need,.int b.net,.tup (X8 b.pl)]) (p:=0) rfl (show 4<1000000 by decide) ⟨D8 (show 3<1000000 by decide),?_⟩)
  subst hx
  refine yE (k:=k+1) (y:=⟨b,(gt H 0).ii⟩) N G hh3 h0l hp rfl OJ.nd hH1 λ H' p' hp'=>fin hfl A3 (OK.set hr) F3 ?_ (by rw[p'.length_eq,Fj];exact Fn _) hp' (hm2 hcur) hh3
  cases H with
  | nil=>cases h0l
  | cons x H=>exact(OJ.rep hr).perm p'
 ·subst hb
  have hh3:=(F3.2 _ (B3 hh2) (hno A0 h0)).trans hh2
  dsimp only[A4,B5,B7,G2,sIf,F9,L7,H7,H0,I4,I5,I2,G4,A5,B6,G1,G7,G0,C2,I9,L4,D1,L2,H5,C9,I8,I6,G5,I1,M4,D0,pIf,L9,E4,L5,L6,M1,M5,D7,L3,L1,tOr,J4,M0,F0,A7,A6,B4,K6,K5,J8,J9,J7,D9,I0,inI,B8,B9,C5,C6,C3,C7,List.replicate,fnB]
  refine W3 rfl ?_
  subst hx
  exact yF (k:=k+1) N G hh3 h0l hp OJ.nd hH1 λ Y H' p' hp'=>fin hfl A3 OK F3 ((OJ.perm p').pop hr) (GL (Fw p'.length_eq)) hp' (hm2 hcur) hh3
include N G OI A0 hl hilx hn in
set_option tactic.hygienic true in
theorem yI(hz:rows.flatten.length<1000)
  (q:∀OP T ro,Mrg rows T->FrX ls V OP->V.length<=ro->OP[ro]?=some (.list (T.map λ x=>N2 x.2))->Q (.ref ro) OP):M8 W (k+5) P7 [.ref il] Q V:=by
 refine H6 (n:=6) (xs:=[.ref il]) (V:=V) (Q:=Q) N.f__law_merged (kO G) rfl ?_
 rw[show fH W (k+4)=A4 _ (A4 (O7 (H3 _) _ (mgA W (k+4))) (mgD W (k+4)))from rfl]
 have hl6:ls.length<1000000:=FF hn (by decide)
 dsimp only[A4,B7,C9,A7,I0,B4,O7,H3,A6,D0,A5,C3,C7,List.replicate,C5,C6,B8,B9]
 refine⟨Gb _,cS (D2 (J1 hl)) (D8 (by rw[Fd];exact hl6)) ?_⟩
 rw[Fd]
 refine zl hl6 ?_
 rw[Kl,Ni]
 have Z0:Sz rows:=λ j r hj=>Fe (List.sublist_flatten_of_mem (FD hj)).length_le hz
 refine U4 (M1I V ls rows il) (λ i st τ K hi h hK=>?_) (λ st Pu h=>?_) (.mk (H:=[]) rfl A0.app Z0 aD .app (HV.zero _) (Fn _))
 ·rw[GR]
  exact AR (k:=k) N G OI A0 hl hilx hn hi h hK
 obtain⟨rfl,A1,Z1,hh1,F1,V1,hH1⟩:=h
 rename_i H rows' v2 v3
 unfold mgD mgE
 dsimp only[A4,F9,B7,G2,B5,D0,fnB,A6,A7,A5,C9,I0,B4,J4,C5,C6,B8,B9]
 refine yD (k:=k+1) N G hh1 V1.nd (Fe hH1 (FF hn (by decide))) λ H' p' hp'=>⟨Gb _,?_⟩
 have hn0:=B3 hh1
 have hlen:(Pu.set V.length (I3.list (H'.map itA))).length=Pu.length:=Fj ..
 refine cT (MgI V ls rows il V.length Pu.length) (.mk (T:=[]) rfl (by rw[hlen]) ((A1.set hh1 (hno A0 (Fn _))).app) Z1 ((Fs (by rw[hlen];exact hn0)).trans (Fu hn0)) (by rw[<- hlen];exact aD) ((F1.set (Fn _)).trans .app) (V1.perm p') (by rw[p'.length_eq];exact hH1) hp'
  (λ T' hT=>hT) (by rw[Jx,Gy];exact FW hz)) ?_
 intro m st PD K h hK
 obtain⟨rfl,rfl,A,OK,hh,ht,F,OJ,hH,hp,hm,hc⟩:=h
 rename_i H2 rows2 cur T w2 w3 w5 w6
 have htr:=jv (J1 hh) (D8 (by rw[Fd];exact Fe hH hl6))
 dsimp only[A5,B8,B9]
 cases H2 with
 | nil=>
  refine p7 htr (q PD T _ ?_ F F1.1 ht)
  have:=hm [] (OJ.done (by rw[<- OJ.len,<- A.len];exact Fn _))
  rwa [FL]at this
 | cons x H2=>exact p6 htr (yH (k:=k) N G OI A0 hl hilx hn (Fn _) F1.1 (FP hn0) A OK hh ht F OJ hH hp hm hc (Hs _) hK)
end
def stD:ST:=A4 (F9 (G5 (A5 1) O1 aG (A6 (I8 (A6 (A5 2) (A6 (A5 3) A7))) A7))) B5
def stC:ST:=A4 (sIf (D7 .Eq (A5 2) (D1 (D1 (A5 1) (I9 (B6 1))) (B6 0))) (A4 (F9 (G5 (A5 1) O1 mF A7)) B5) B5) stD
def stB:ST:=A4 (sIf (D7 .Gt (A5 3) (D1 (D1 (A5 1) (I9 (B6 1))) (B6 1))) stC B5) B5
inductive StI(V:Sto)(ip:Nat)(OK:List (Int×Int))(rem:List (Int×Int))(st:List AV)(OP:Sto):Prop
 | mk {R:List (Int×Int)}{v2 v3:AV}:st=[.ref ip,.ref V.length,v2,v3]->OP=V++[.list (R.map prA)]->R≠[]->R.length+rem.length<1001->rem.foldl dU R=OK->StI V ip OK rem st OP
set_option tactic.hygienic true in
theorem rH(N:GF W)(G:GI W){ip:Nat}{Ps:List (Int×Int)}(hl:V[ip]?=some (.list (Ps.map prA)))(hz:Ps.length<1000)
  (q:Q (.ref V.length) (V++[.list ((aN Ps).map prA)])):M8 W (k+1) Y3 [.ref ip] Q V:=by
 refine H6 (n:=3) (xs:=[.ref ip]) (V:=V) (Q:=Q) N.f__law_steps (mU G) rfl ?_
 rw[show gJ W k=A4 _ (A4 (O7 _ _ stB) _)from rfl]
 dsimp only[A4,B5,B7,G2,C9,I8,B6,A6,A7,I0,B4,O7,aF,A5,C3,C7,List.replicate,C5,C6,B8,B9]
 refine⟨D8 (show 2<1000000 by decide),D8 (show 1<1000000 by decide),gW (D2 (J1 hl)) ?_⟩
 refine bW (StI V ip (aN Ps)) (λ _ _ _ h=>?_) ?_ ?_ Ps _ _ (.mk (R:=[(0,0)]) rfl rfl (by intro e;cases e) (show 1+Ps.length<1001 from zzo (Hl _ _) (GV hz)) rfl)
 ·obtain⟨_,rfl,_⟩:=h
  exact D2 (J1 hl)
 ·intro x rem st OP K h hK
  obtain⟨rfl,rfl,hR,hz,hQ⟩:=h
  rename_i R v2 v3
  refine xE (cG hR) λ I Z=>xE Z λ l J=>(λ θ e1 e2=>?_) J.1 J.2.1 J.2.2;rcases θ with rfl;clear Z J
  rw[Fc,Gs,GB]at hz
  have es:dU (I++[l]) x=if x.2 > l.2 then(if x.1=l.1 then I else I++[l])++[x]else I++[l]:=by unfold dU;rw[e1,e2];rfl
  replace hQ:rem.foldl dU (dU (I++[l]) x)=aN Ps:=hQ
  rw[es]at hQ
  rw[FG]
  have ix:∀{Q:AV->Sto->Prop},Q (prA l) (V++[.list (I.map prA++[prA l])])->bh (.ref V.length) (.int (-1)) Q (V++[.list (I.map prA++[prA l])]):=λ q=>AA E0 q
  have app:∀{OM:List (Int×Int)},OM.length<1001->(OM++[x]).length+rem.length<1001->rem.foldl dU (OM++[x])=aN Ps->stD [.ref ip,.ref V.length,.int x.1,.int x.2] K (V++[.list (OM.map prA)]):=fun{OM} hJ hJ2 he=>by
   unfold stD
   dsimp only[A4,B5,F9,G5,I8,A5,A6,A7,B8,B9]
   refine⟨aQ E0,D8 (show 2<1000000 by decide),(cA E0 (by rw[Fd];exact FF hJ (by decide)) ?_).2⟩
   rw[dq]
   exact hK.nx _ _ (.mk (R:=OM++[x]) rfl (by rw[FG];rfl) (by intro e;cases Km.mp e |>.2) hJ2 he)
  have len:∀{OM:List (Int×Int)},(OM++[x]).length+rem.length=OM.length+(rem.length+1):=by intro OM;rw[Fc,Gs];exact GC _ _
  dsimp only[J8,inT,J9,D9,J7,B4,C5,C6]
  refine⟨rfl,?_⟩
  unfold stB
  dsimp only[A4,sIf,B5,D7,A5,D1,I9,B6,inI,B8,B9]
  refine ix (kp (p:=1) rfl (show 2<1000000 by decide) ?_)
  by_cases hg:x.2 > l.2
  ·rw[if_pos hg]at hQ
   refine W3 (congrArg some (decide_eq_true hg)) ?_
   unfold stC
   rw[A4]
   dsimp only[sIf,D7,A4,B5,F9,G5,A7,A5,D1,I9,B6,inI,B8,B9]
   refine ix (kp (p:=0) rfl (show 2<1000000 by decide) ?_)
   by_cases hp:x.1=l.1
   ·rw[if_pos hp]at hQ
    refine W3 (congrArg some (decide_eq_true hp)) (vH E0 (by rw[Fd];exact GU (Fe (Fi _ _) (Jv hz))) ?_)
    rw[dq]
    exact app (OM:=I) (Fe (fp (HS _) (Fi _ _)) hz) (by rw[len];exact Fe (Gr (HS _) _) hz) hQ
   ·rw[if_neg hp]at hQ
    refine W4 (congrArg some (decide_eq_false hp)) ?_
    have:=app (OM:=I++[l]) (by rw[Fc];exact Fe (Fi _ (rem.length+1)) hz) (by rw[len,Fc];exact hz) hQ
    rwa [FG]at this
  ·rw[if_neg hg]at hQ
   refine W4 (congrArg some (decide_eq_false hg)) (hK.nx _ _ (.mk (R:=I++[l]) rfl (by rw[FG];rfl) hR (by rw[Fc,Gs];exact GU hz) hQ))
 ·intro st OP h
  obtain⟨rfl,rfl,_,_,rfl⟩:=h
  exact q
inductive yJ(sc:List Int)(f:Nat)(V:Sto)(i:Nat):List AV->Sto->Prop
 | mk {T:List Int}{x3:AV}:T.length=6->(∀x∈T,0<=x/\x<=10000+(i:Int)*1000000)->yJ sc f V i [.clist sc,.ref f,.ref V.length,x3] (V++[.list (T.map .int)])
set_option tactic.hygienic true in
theorem vX(N:GF W)(G:GI W){f:Nat}{sc fs:List Int}(hf:V[f]?=some (.list (fs.map .int)))(h6:fs.length=6)(hb:∀x∈fs,0<=x/\x<=10000)(hz:sc.length<=63)
  (q:∀T:List Int,T.length=6->(∀x∈T,0<=x/\x<1000000000)->Q (.ref V.length) (V++[.list (T.map .int)])):M8 W (k+1) aa [.clist sc,.ref f] Q V:=by
 refine H6 (n:=2) (xs:=[.clist sc,.ref f]) (V:=V) (Q:=Q) N.f__law_totals (kM G) rfl ?_
 rw[show fF W k=A4 _ (A4 (O7 _ _ _) _)from rfl]
 dsimp only[A4,B5,B7,G2,sIf,F9,L7,H7,H0,I4,I5,I2,G4,A5,B6,G1,G7,G0,C2,I9,L4,D1,L2,H5,C9,I8,I6,G5,I1,M4,D0,pIf,L9,E4,L5,L6,M1,M5,D7,L3,L1,tOr,J4,M0,F0,A7,A6,B4,K6,K5,J8,J9,J7,D9,I0,inI,B8,B9,C5,C6,C3,C7,List.replicate]
 refine Az (J1 hf) (by rw[Fd,h6];exact D8 (by decide)) ?_
 dsimp only[I0,B4,A4,B5,B7,G2,sIf,F9,L7,H7,H0,I4,I5,I2,G4,A5,B6,G1,G7,G0,C2,I9,L4,D1,L2,H5,C9,I8,I6,G5,I1,M4,D0,pIf,L9,E4,L5,L6,M1,M5,D7,L3,L1,tOr,J4,M0,F0,A7,A6,B4,K6,K5,J8,J9,J7,D9,I0,inI,B8,B9,C5,C6,C3,C7,List.replicate,O7,H3]
 refine And.intro (D8 (zzb (Fq hz) rfl)) ?_
 dsimp only[rgP,inI]
 refine⟨⟨zzm,zzi (GG hz) rfl⟩,?_⟩
 refine U4 (yJ sc f V) ?_ ?_ (.mk h6 λ x hx=>by have:=hb x hx;lia)
 ·rintro i st τ K hi (⟨t1,t2⟩:yJ ..) hK
  rename_i T x3
  dsimp only[A4,B5,B7,G2,sIf,F9,L7,H7,H0,I4,I5,I2,G4,A5,B6,G1,G7,G0,C2,I9,L4,D1,L2,H5,C9,I8,I6,G5,I1,M4,D0,pIf,L9,E4,L5,L6,M1,M5,D7,L3,L1,tOr,J4,M0,F0,A7,A6,B4,K6,K5,J8,J9,J7,D9,I0,inI,B8,B9,C5,C6,C3,C7,List.replicate]
  refine cS E0 (by rw[Fd,t1];exact D8 (by decide)) ?_
  have hlt:i % 6<T.length:=FQ (Jw _ (by decide)) t1.symm
  refine rj (by rw[Fd,t1];decide) ⟨trivial,?_⟩
  have em:(0+(i:Int)).fmod ((T.map AV.int).length:Nat)=((i % 6:Nat):Int):=by rw[Fd,t1,GR,JJ _ (by decide)];exact rfl
  rw[em]
  obtain⟨t,ht⟩:∃t,T[i % 6]?=some t:=⟨_,Ff hlt⟩
  refine Y9 E0 rfl ht (zze t1 rfl) ?_
  obtain⟨c,hc⟩:∃c,sc[i]?=some c:=⟨_,Ff hi⟩
  refine AB (GR _) hc (zzb (Fq hz) rfl) ?_
  refine Cj (by decide) (rj (by decide) ?_)
  refine vJ E0 rfl (by rw[Fd];exact hlt) (by rw[Fd];exact zze t1 rfl) ?_
  rw[dq]
  have hm:0<=c.fmod 1000000/\c.fmod 1000000<1000000:=⟨Int.fmod_nonneg_of_pos _ (by decide),Int.fmod_lt_of_pos _ (by decide)⟩
  have:=yJ.mk (sc:=sc) (f:=f) (V:=V) (i:=i+1) (T:=T.set (i % 6) (t+c.fmod 1000000)) (x3:=.int (0+i)) (by simp[t1]) λ x hx=>by
   rcases Lg hx with h|rfl
   ·have:=t2 x h;lia
   ·have:=t2 t (FD ht);lia
  rw[LN]at this
  exact hK.nx _ _ this
 ·rintro st τ ⟨t1,t2⟩
  dsimp only[A4,B5,B7,G2,sIf,F9,L7,H7,H0,I4,I5,I2,G4,A5,B6,G1,G7,G0,C2,I9,L4,D1,L2,H5,C9,I8,I6,G5,I1,M4,D0,pIf,L9,E4,L5,L6,M1,M5,D7,L3,L1,tOr,J4,M0,F0,A7,A6,B4,K6,K5,J8,J9,J7,D9,I0,inI,B8,B9,C5,C6,C3,C7,List.replicate]
  exact q _ t1 λ x hx=>by have:=t2 x hx;lia
noncomputable def esc(w:List Nat):List Nat:=w.flatMap λ c=>[92,c]
noncomputable def gZ(way:Nat)(w:List Nat):List Nat:=match way with
 | 0=>34::(w++[34])
 | 1=>esc w
 | _=>34::(esc w++[34])
theorem ky:∀w:List Nat,(esc w).length=2*w.length
 | []=>rfl
 | c::w=>by
  have:=ky w
  unfold esc at this ⊢
  rw[HZ,Fc,this]
  show 2+2*w.length=_
  rw[GB];exact Hl _ _
theorem o9:∀w:List Nat,(Txt.join ⟨#[]⟩ (w.map λ c=>⟨#[92,c]⟩)).cps.toList=esc w
 | []=>rfl
 | [c]=>rfl
 | c::d::w=>by
  have e:=o9 (d::w)
  unfold Txt.join at e ⊢
  rw[StrLaws.glued_eq_join]at e ⊢
  rw[Gg,Gg,join_cons_cons,La,La]
  rw[Gg]at e
  rw[Gw,e]
  rfl
theorem vY(N:GF W)(G:GI W){w:List Nat}{way:Nat}(hw:w.length<1000)(h3:way<3)
  (q:∀τ:Sto,τ.length=2->Q (.str (gZ way w)) (V++τ)):M8 W (k+1) X5 [.str w,.int way] Q V:=by
 refine H6 (n:=2) (xs:=[.str w,.int way]) (V:=V) (Q:=Q) N.f__law_spelled (km G) rfl ?_
 rw[show eh W k=A4 _ (A4 _ _)from rfl]
 dsimp only[A4,B5,B7,G2,sIf,F9,L7,H7,H0,I4,I5,I2,G4,A5,B6,G1,G7,G0,C2,I9,L4,D1,L2,H5,C9,I8,I6,G5,I1,M4,D0,pIf,L9,E4,L5,L6,M1,M5,D7,L3,L1,tOr,J4,M0,F0,A7,A6,B4,K6,K5,J8,J9,J7,D9,I0,inI,B8,B9,C5,C6,C3,C7,List.replicate,aF,isStr]
 refine And.intro trivial ?_
 dsimp only[N5,aF,A4,B5,B7,G2,sIf,F9,L7,H7,H0,I4,I5,I2,G4,A5,B6,G1,G7,G0,C2,I9,L4,D1,L2,H5,C9,I8,I6,G5,I1,M4,D0,pIf,L9,E4,L5,L6,M1,M5,D7,L3,L1,tOr,J4,M0,F0,A7,A6,B4,K6,K5,J8,J9,J7,D9,I0,inI,B8,B9,C5,C6,C3,C7,List.replicate]
 refine U6 (v:=λ c:Nat=>AV.str [c]) (λ Y=>true) (λ c=>AV.str [92,c]) (λ Y=>trivial) (O4 (zzb hw rfl)) (λ c Y acc K K' h1 Y=>?_) ?_
 ·dsimp only[A4,B5,B7,G2,sIf,F9,L7,H7,H0,I4,I5,I2,G4,A5,B6,G1,G7,G0,C2,I9,L4,D1,L2,H5,C9,I8,I6,G5,I1,M4,D0,pIf,L9,E4,L5,L6,M1,M5,D7,L3,L1,tOr,J4,M0,F0,A7,A6,B4,K6,K5,J8,J9,J7,D9,I0,inI,B8,B9,C5,C6,C3,C7,List.replicate]
  exact fK (D8 (show 2<1000000 by decide)) (h1 rfl)
 ·have hj:∀K:AV->Sto->Prop,K (.str (esc w)) (V++[.list (w.map λ c=>.str [92,c])])->ud [.str [],.ref V.length] K (V++[.list ((w.filter λ Y=>true).map λ c=>.str [92,c])]):=λ K hK=>by
   rw[show(w.filter λ Y=>true)=w from Hu.mpr λ Y Y=>rfl]
   refine⟨w.map λ c=>[92,c],by rw[E0,Gh];rfl,joinOk_of ?_,?_⟩
   ·rw[Gh,Gh,Fd,Fd]
    have:∀w:List Nat,(w.map λ Y=>2).sum=2*w.length:=λ w=>by induction w with
     | nil=>rfl
     | cons c w ih=>rw[Gg,Jz,ih,GB];exact Hl _ _
    have e:=this w
    show(w.map λ Y=>2).sum+w.length*0<=_
    exact zzb (fp (Fw e) (GN 2 (FE hw))) rfl
   ·rw[Gh]
    exact(o9 w).symm▸hK
  refine hj _ ?_
  have hl:=ky w
  refine fK (D8 (by simp;exact zzo (Hl _ _) (zzb (GV hw) rfl))) (fK (D8 (by simp;exact zzb (GV (GV hw)) rfl)) ?_)
  dsimp only
  refine fK (D8 (by simp;exact zzo (Hl _ _) (zzb (Fq (Fq (fp (Fw hl) (GN 2 (FE hw))))) rfl))) (fK (D8 (by simp;exact zzb (Fq (Fq (Fq (fp (Fw hl) (GN 2 (FE hw)))))) rfl)) (And.intro (D8 (show 3<1000000 by decide)) ?_))
  refine bV E0 rfl (x:=.str (gZ way w)) ?_ (show 3<1000000 by decide) ?_
  ·match way,h3 with
   | 0,_=>rfl
   | 1,_=>rfl
   | 2,_=>rfl
  ·rw[Fz]
   exact q _ rfl
inductive CD(w:List Nat)(V:Sto)(i:Nat):List AV->Sto->Prop
 | mk {x3 x4 x5:AV}:CD w V i [.str w,.int 8,.ref V.length,x3,x4,x5] (V++[.list (((List.range i).map λ j:Nat=>bN w (1+j)).map .int)])
inductive CE(w:List Nat)(V:Sto)(i:Nat)(ks:List Nat):List AV->Sto->Prop
 | mk {x5:AV}{c:Int}:ks.foldl (sS (1+i)) c=bN w (1+i)->CE w V i ks [.str w,.int 8,.ref V.length,.int (1+i),.int c,x5] (V++[.list (((List.range i).map λ j:Nat=>bN w (1+j)).map .int)])
set_option tactic.hygienic true in
theorem vZ(N:GF W)(G:GI W){w:List Nat}(q:Q (.ref V.length) (V++[.list ((jW w).map .int)])):M8 W (k+1) X6 [.str w,.int 8] Q V:=by
 refine H6 (n:=4) (xs:=[.str w,.int 8]) (V:=V) (Q:=Q) N.f__law_columns (kj G) rfl ?_
 rw[show d8 W k=A4 _ (A4 (O7 _ _ (A4 _ (A4 (O7 _ _ (A4 _ _)) _))) _)from rfl]
 dsimp only[A4,B5,B7,G2,sIf,F9,L7,H7,H0,I4,I5,I2,G4,A5,B6,G1,G7,G0,C2,I9,L4,D1,L2,H5,C9,I8,I6,G5,I1,M4,D0,pIf,L9,E4,L5,L6,M1,M5,D7,L3,L1,tOr,J4,M0,F0,A7,A6,B4,K6,K5,J8,J9,J7,D9,I0,inI,B8,B9,C5,C6,C3,C7,List.replicate,O7,H3]
 refine And.intro (D8 (show 0<1000000 by decide)) (S0 ?_)
 dsimp only[rgP,inI]
 refine⟨by decide,U4 (CD w V) ?_ ?_ .mk⟩
 ·rintro i st τ K hi ⟨⟩ hK
  dsimp only[A4,B5,B7,G2,sIf,F9,L7,H7,H0,I4,I5,I2,G4,A5,B6,G1,G7,G0,C2,I9,L4,D1,L2,H5,C9,I8,I6,G5,I1,M4,D0,pIf,L9,E4,L5,L6,M1,M5,D7,L3,L1,tOr,J4,M0,F0,A7,A6,B4,K6,K5,J8,J9,J7,D9,I0,inI,B8,B9,C5,C6,C3,C7,List.replicate,O7,aF]
  refine bW (v:=λ c:Nat=>AV.str [c]) (CE w V i) (λ _ _ _ _=>trivial) ?_ ?_ w _ _ (.mk rfl)
  ·rintro c ks st τ K h hK
   induction h with
   | mk h=>
    rename_i x5 c0
    dsimp only[A4,B5,B7,G2,sIf,F9,L7,H7,H0,I4,I5,I2,G4,A5,B6,G1,G7,G0,C2,I9,L4,D1,L2,H5,C9,I8,I6,G5,I1,M4,D0,pIf,L9,E4,L5,L6,M1,M5,D7,L3,L1,tOr,J4,M0,F0,A7,A6,B4,K6,K5,J8,J9,J7,D9,I0,inI,B8,B9,C5,C6,C3,C7,List.replicate]
    refine N7 (b:=decide (c=9)) (by show some (decide ([c]=[9]))=_;simp) ?_
    have e:(c::ks).foldl (sS (1+i)) c0=ks.foldl (sS (1+i)) (if c=9 then c0+(1+i)-c0.fmod (1+i)else c0+1):=rfl
    refine ti (λ hc=>?_) λ hc=>?_
    ·refine S0 (rj (by lia) (fJ ?_))
     rw[e,if_pos hc]at h
     exact hK.nx _ _ (.mk h)
    ·refine S0 ?_
     rw[e,if_neg hc]at h
     exact hK.nx _ _ (.mk h)
  ·rintro st τ h
   induction h with
   | mk h=>
    rename_i x5 c0
    dsimp only[A4,B5,B7,G2,sIf,F9,L7,H7,H0,I4,I5,I2,G4,A5,B6,G1,G7,G0,C2,I9,L4,D1,L2,H5,C9,I8,I6,G5,I1,M4,D0,pIf,L9,E4,L5,L6,M1,M5,D7,L3,L1,tOr,J4,M0,F0,A7,A6,B4,K6,K5,J8,J9,J7,D9,I0,inI,B8,B9,C5,C6,C3,C7,List.replicate]
    refine cA E0 (O4 (by simp;exact zzb hi rfl)) ?_
    rw[dq]
    have e:((List.range i).map λ j:Nat=>bN w (1+j)).map AV.int++[.int c0]=((List.range (i+1)).map λ j:Nat=>bN w (1+j)).map AV.int:=by
     rw[ID];simp;exact h
    rw[e]
    exact hK.nx _ _ .mk
 ·rintro st τ ⟨⟩
  exact q
theorem nk[DecidableEq α]{v:α->AV}(hv:∀a,AV.ok 3 (v a)=true)(inj:∀a b,v a=v b->a=b){l m:List α}(hi:lst V i=some (l.map v))(hj:lst V j=some (m.map v)):
  cC V .Eq (.ref i) (.ref j)=some (decide (l=m))/\cC V .NotEq (.ref i) (.ref j)=some (!decide (l=m)):=by
 have ok:∀l:List α,AV.okL 3 (l.map v)=true:=λ l=>jy λ x hx=>by refine xE (FN.mp hx) λ a Z=>(λ J θ=>?_) Z.1 Z.2;rcases θ with rfl;clear Z;exact hv a
 refine xE (rE hi hj (ok l) (ok m) (by decide) (by decide)) λ b Z=>(λ e1 e2=>?_) Z.1 Z.2;clear Z
 have e:b=decide (l=m):=by
  rw[Ie,e2,decide_eq_true_eq]
  exact⟨λ h=>(Nc λ a b=>inj a b).mp h,λ h=>by rw[h]⟩
 rw[e]at e1
 exact⟨e1,by show(eqS _ _ _).map _=_;rw[e1];rfl⟩
theorem dw{l m:List Int}(hi:lst V i=some (l.map .int))(hj:lst V j=some (m.map .int)):cC V .Eq (.ref i) (.ref j)=some (decide (l=m))/\cC V .NotEq (.ref i) (.ref j)=some (!decide (l=m)):=
 nk (λ a=>by simp[AV.ok]) (λ a b e=>by cases e;rfl) hi hj
theorem kz(w:List Nat):(jW w).length=8:=by unfold jW;simp
theorem wa(N:GF W)(G:GI W){l m:List Int}(hi:lst V i=some (l.map .int))(hj:lst V j=some (m.map .int))(e:l.length=m.length)(hz:l.length<1000)
  (q:∀τ:Sto,τ.length=2->Q (.bool (decide (fR l m=[]))) (V++τ)):M8 W (k+1) aq [.ref i,.ref j] Q V:=by
 refine H6 (n:=0) (xs:=[.ref i,.ref j]) (V:=V) (Q:=Q) N.f__law_less (oY G) rfl ?_
 rw[show iX W k=A4 _ _ from rfl]
 dsimp only[A4,B5,B7,G2,sIf,F9,L7,H7,H0,I4,I5,I2,G4,A5,B6,G1,G7,G0,C2,I9,L4,D1,L2,H5,C9,I8,I6,G5,I1,M4,D0,pIf,L9,E4,L5,L6,M1,M5,D7,L3,L1,tOr,J4,M0,F0,A7,A6,B4,K6,K5,J8,J9,J7,D9,I0,inI,B8,B9,C5,C6,C3,C7,List.replicate]
 refine⟨i,j,l,m,rfl,hi,hj,e,O4 (zzb hz rfl),And.intro (D8 (show 0<1000000 by decide)) ?_⟩
 refine N7 (b:=decide (fR l m=[])) ?_ ?_
 ·exact(dw (l:=fR l m) (m:=[]) (by rw[Fz];exact Y4) E0).1
 ·rw[Fz]
  exact q _ rfl
noncomputable def wsM(t:List Nat)(w:List Nat)(cnt:List Int):List (Nat×AV):=[(4,.str t),(5,.int w.length),(6,.int (wsP w).1.length),(7,.tup [.tup (cnt.map .int),.int (wsP w).2]),(8,.bool (decide (cnt.length<=1)))]
def wiC:ST:=A4 (sIf (D7 .GtE (A5 5) (D0 aY (A6 (A5 4) A7))) (A4 (B7 (C2 .Add (A5 4) (L5 (C9 (A6 (B6 0) A7)) (C2 .Add (C2 .Sub (A5 5) (D0 aY (A6 (A5 4) A7))) (B6 1)))) [(B4 4)]) B5) B5) (A4 (B7 (C2 .Add (D1 (A5 4) (A5 5)) (B6 1)) [(K6 (A5 4) (A5 5))]) (A4 (B7 (B6 0) [(B4 5)]) B5))
def wiB:ST:=A4 (sIf (D7 .Eq (A5 8) (A5 2)) (A4 (B7 (C2 .Add (A5 6) (B6 1)) [(B4 6)]) (A4 (B7 (C2 .Add (A5 5) (B6 1)) [(B4 5)]) B5)) (A4 (sIf (D7 .Eq (A5 8) (A5 3)) (A4 (B7 (C2 .Add (A5 6) (B6 1)) [(B4 6)]) (A4 (B7 (C2 .Add (A5 7) (B6 1)) [(B4 7)]) wiC)) (A4 L7 B5)) B5)) B5
def wiE:ST:=(A4 (B7 (A5 6) [(K5 (A5 0) 5)]) (A4 (B7 (A5 7) [(K5 (A5 0) 6)]) (A4 (B7 (I8 (A6 (D0 xo (A6 (A5 4) A7)) (A6 (A5 5) A7))) [(K5 (A5 0) 7)]) (A4 (B7 (L4 .LtE (D0 aY (A6 (A5 4) A7)) (B6 1)) [(K5 (A5 0) 8)]) B5))))
theorem CF(W:Wld)(k:Nat):bo W k=A4 (B7 (A5 1) [(K5 (A5 0) 4)]) (A4 (I2 (I8 (A6 (L6 (.str [32])) (A6 (L6 (.str [9])) A7))) 2 3) (A4 (B7 (C9 A7) [(B4 4)]) (A4 (B7 (B6 0) [(B4 5),(B4 6),(B4 7)]) (A4 (O7 (aF (I6 (A5 0) 4)) (B4 8) wiB) wiE)))):=rfl
inductive WiI(i:Nat)(t:List Nat)(V:Sto)(d:List Nat):List AV->Sto->Prop
 | mk {ci:Nat}{cnt:List Int}{τ:Sto}{x8:AV}:Cn cnt (wsP d).1->cnt.length<=d.length->V.length<=ci->lst (V++τ) ci=some (cnt.map .int)->
  WiI i t V d [.ref i,.str t,.str [32],.str [9],.ref ci,.int (wsP d).2,.int d.length,.int (wsP d).1.length,x8] (V++τ)
theorem g0(d:List Nat)(c:Nat):wsP (d++[c])=wsS (wsP d) c:=by unfold wsP;rw[List.foldl_append];rfl
def wiD:ST:=(A4 (B7 (C2 .Add (D1 (A5 4) (A5 5)) (B6 1)) [(K6 (A5 4) (A5 5))]) (A4 (B7 (B6 0) [(B4 5)]) B5))
theorem rI{ci:Nat}{t:List Nat}{ρ:Sto}{d:List Nat}{x8:AV}{cnt:List Int}{v:Int}{K:G3->List AV->Sto->Prop}(hv:cnt[(wsP d).2]?=some v)(hn:Cn (cnt.set (wsP d).2 (v+1)) ((wsP d).1++[(wsP d).2]))(hz:cnt.length<=d.length+1)(hd:d.length<1000)(hci:V.length<=ci)(RH:∃τ,ρ=V++τ)(hl:lst ρ ci=some (cnt.map .int))
  (q:∀st τ,WiI i t V (d++[9]) st τ->K .next st τ):
  wiD [.ref i,.str t,.str [32],.str [9],.ref ci,.int (wsP d).2,.int (d.length+1),.int ((wsP d).1.length+1),x8] K ρ:=by
 refine xE RH λ τ Z=>?_;rcases Z with rfl;clear RH
 unfold wiD
 dsimp only[A4,B5,B7,G2,sIf,F9,L7,H7,H0,I4,I5,I2,G4,A5,B6,G1,G7,G0,C2,I9,L4,D1,L2,H5,C9,I8,I6,G5,I1,M4,D0,pIf,L9,E4,L5,L6,M1,M5,D7,L3,L1,tOr,J4,M0,F0,A7,A6,B4,K6,K5,J8,J9,J7,D9,I0,inI,B8,B9,C5,C6,C3,C7,List.replicate]
 have hb:=B3 hv
 refine Y9 hl rfl hv (zzb (Fe hz (GV hd)) rfl) (S0 ?_)
 refine vJ hl rfl (by rw[Fd];exact hb) (by rw[Fd];exact zzb (Fe hz (GV hd)) rfl) ?_
 rw[JD _ _ hci]
 have hlen:ci-V.length<τ.length:=by
  have:=B3 (F6 hl)
  rw[Fc]at this
  exact Nat.sub_lt_left_of_lt_add hci this
 have e:wsP (d++[9])=((wsP d).1++[(wsP d).2],0):=by rw[g0];rfl
 have:=WiI.mk (i:=i) (t:=t) (V:=V) (d:=d++[9]) (ci:=ci) (x8:=x8) (τ:=τ.set (ci-V.length) (.list ((cnt.set (wsP d).2 (v+1)).map .int))) (by rw[e];exact hn) (by rw[Fj,Fc];exact hz) hci (J1 (by rw[Ga hci,Fu hlen]))
 rw[e,Fc,Fc,Ih,Ih,LN]at this
 exact q _ _ this
theorem wb(d:List Nat):(wsP d).2<=d.length/\(wsP d).1.length<=d.length:=by
 have:=df d
 unfold ak at this
 lia
set_option tactic.hygienic true in
theorem yK{t:List Nat}{d:List Nat}{c:Nat}{τ:Sto}{K:G3->List AV->Sto->Prop}(h:WiI i t V d st τ)(hd:d.length<1000)(hc:c=32\/c=9)(q:∀st τ,WiI i t V (d++[c]) st τ->K .next st τ):
  wiB (st.set 8 (.str [c])) K τ:=by
 induction h with
 | mk h1 h2 h3 h4=>
  rename_i ci cnt τ x8
  have hb:=(wb d).1
  unfold wiB
  rcases hc with rfl|rfl
  ·dsimp only[A4,B5,B7,G2,sIf,F9,L7,H7,H0,I4,I5,I2,G4,A5,B6,G1,G7,G0,C2,I9,L4,D1,L2,H5,C9,I8,I6,G5,I1,M4,D0,pIf,L9,E4,L5,L6,M1,M5,D7,L3,L1,tOr,J4,M0,F0,A7,A6,B4,K6,K5,J8,J9,J7,D9,I0,inI,B8,B9,C5,C6,C3,C7,List.replicate]
   refine N7 (b:=true) rfl ?_
   rw[if_pos rfl]
   refine S0 (S0 ?_)
   have e:wsP (d++[32])=((wsP d).1,(wsP d).2+1):=by rw[g0];rfl
   have:=WiI.mk (i:=i) (t:=t) (V:=V) (d:=d++[32]) (ci:=ci) (x8:=.str [32]) (τ:=τ) (by rw[e];exact h1) (by rw[Fc];exact fp h2 (Fi _ _)) h3 h4
   rw[e,Fc,Ih,Ih]at this
   exact q _ _ this
  ·dsimp only[A4,B5,B7,G2,sIf,F9,L7,H7,H0,I4,I5,I2,G4,A5,B6,G1,G7,G0,C2,I9,L4,D1,L2,H5,C9,I8,I6,G5,I1,M4,D0,pIf,L9,E4,L5,L6,M1,M5,D7,L3,L1,tOr,J4,M0,F0,A7,A6,B4,K6,K5,J8,J9,J7,D9,I0,inI,B8,B9,C5,C6,C3,C7,List.replicate]
   refine N7 (b:=false) rfl ?_
   rw[if_neg (by decide)]
   refine N7 (b:=true) rfl ?_
   rw[if_pos rfl]
   refine S0 (S0 ?_)
   rw[show wiC=A4 _ wiD from rfl]
   have hm:∀{n:Nat},n=cnt.length->(cnt.map AV.int).length=n:=λ e=>by rw[Fd,e]
   dsimp only[A4,B5,B7,G2,sIf,F9,L7,H7,H0,I4,I5,I2,G4,A5,B6,G1,G7,G0,C2,I9,L4,D1,L2,H5,C9,I8,I6,G5,I1,M4,D0,pIf,L9,E4,L5,L6,M1,M5,D7,L3,L1,tOr,J4,M0,F0,A7,A6,B4,K6,K5,J8,J9,J7,D9,I0,inI,B8,B9,C5,C6,C3,C7,List.replicate]
   refine cS h4 (D8 (by rw[Fd];exact zzb (Fe h2 hd) rfl)) (N7 (b:=decide (cnt.length<=(wsP d).2)) (by
    show some (decide _)=_
    rw[Fd]
    exact congrArg some (decide_eq_decide.mpr Iw)) ?_)
   refine ti (λ hlt=>?_) λ hlt=>?_
   ·refine And.intro (D8 (show 1<1000000 by decide)) ?_
    have h4':lst (V++τ++[.list [.int 0]]) ci=some (cnt.map .int):=D2 h4
    refine cS h4' (D8 (by rw[Fd];exact zzb (Fe h2 hd) rfl)) (fJ (S0 ?_))
    refine⟨.int 0,E0,by rw[Fd];lia,by rw[Fd];lia,?_⟩
    have h4'':lst (V++τ++[.list [.int 0]]++[.list (List.replicate ((((wsP d).2:Nat):Int)-((cnt.map AV.int).length:Nat)+1).toNat (.int 0))]) ci=some (cnt.map .int):=D2 h4'
    have en:((((wsP d).2:Nat):Int)-((cnt.map AV.int).length:Nat)+1).toNat=(wsP d).2-cnt.length+1:=by rw[Fd];exact zzp hlt
    refine mX h4'' E0 (D8 (by rw[en,Kw,Fd];exact zzb (GV (Fe (zzt h2 hb) hd)) rfl)) ?_
    rw[en]
    have hc9:(cnt++List.replicate ((wsP d).2-cnt.length+1) (0:Int))[(wsP d).2]?=some 0:=by
     rw[Ga hlt,Lx,if_pos (FY _)]
    have hl9:(cnt++List.replicate ((wsP d).2-cnt.length+1) (0:Int)).length=(wsP d).2+1:=by rw[Fc,Kw];exact congrArg Nat.succ (Hp hlt)
    exact rI hc9 (h1.new hlt) (fp (Fw hl9) (Fq hb)) hd (by simp) ⟨τ++([.list [.int 0]]++([.list (List.replicate ((wsP d).2-cnt.length+1) (.int 0))]++[.list (cnt.map .int++List.replicate ((wsP d).2-cnt.length+1) (.int 0))])),by simp only[Fz]⟩ (by
     rw[FG,List.map_replicate];exact E0) q
   ·exact rI (h1.get _ (IK hlt)) (h1.old (IK hlt)) (GD h2) hd h3 ⟨_,rfl⟩ h4 q
theorem tq{a b τ:Sto}{ci:Nat}(h:a.length=b.length)(hc:a.length<=ci):lst (a++τ) ci=lst (b++τ) ci:=by
 unfold lst
 rw[Ga hc,Ga (h▸hc),h]
set_option tactic.hygienic true in
theorem wc{t w:List Nat}{ρ:Sto}{K:G3->List AV->Sto->Prop}(h:WiI i t (V.set i (.inst cW [(4,.str t)])) w st ρ)(hi:i<V.length)(hw:w.length<1000)
  (q:∀st cnt τ,Cn cnt (wsP w).1->K .next st (V.set i (.inst cW (wsM t w cnt))++τ)):wiE st K ρ:=by
 induction h with
 | mk h1 h2 h3 h4=>
  rename_i ci cnt τ x8
  have hX:∀m,((V.set i (.inst cW m))++τ)[i]?=some (.inst cW m):=λ m=>by
   rw[Fs (by rw[Fj];exact hi),Fu hi]
  have hS:∀m m':List (Nat×AV),((V.set i (.inst cW m))++τ).set i (.inst cW m')=(V.set i (.inst cW m'))++τ:=λ m m'=>by
   rw[KH _ _ (by rw[Fj];exact hi),Jc]
  have hL:∀m,lst ((V.set i (.inst cW m))++τ) ci=some (cnt.map .int):=λ m=>by
   rw[<- h4]
   exact tq (by rw[Fj,Fj]) (by rw[Fj]at h3 ⊢;exact h3)
  have hz:(cnt.map AV.int).length<=lim:=D8 (by rw[Fd];exact zzb (Fe h2 hw) rfl)
  unfold wiE
  dsimp only[A4,B5,B7,G2,sIf,F9,L7,H7,H0,I4,I5,I2,G4,A5,B6,G1,G7,G0,C2,I9,L4,D1,L2,H5,C9,I8,I6,G5,I1,M4,D0,pIf,L9,E4,L5,L6,M1,M5,D7,L3,L1,tOr,J4,M0,F0,A7,A6,B4,K6,K5,J8,J9,J7,D9,I0,inI,B8,B9,C5,C6,C3,C7,List.replicate]
  refine fI (hX _) (show 1<=900 by decide) ?_
  rw[hS]
  refine fI (hX _) (show 2<=900 by decide) ?_
  rw[hS]
  refine Ci (hL _) hz (And.intro (D8 (show 2<1000000 by decide)) ?_)
  refine fI (hX _) (show 3<=900 by decide) ?_
  rw[hS]
  refine cS (hL _) hz (N7 (b:=decide (cnt.length<=1)) (by
   show some (decide _)=_
   rw[Fd]
   exact congrArg some (decide_eq_decide.mpr Iw)) ?_)
  refine fI (hX _) (show 4<=900 by decide) ?_
  rw[hS]
  exact q _ _ _ h1
theorem yL(N:GF W)(G:GI W){w r:List Nat}(hi:V[i]?=some (.inst cW []))(hw:∀c∈w,c=32\/c=9)(hr:∀c,r.head?=some c->c≠32/\c≠9)(hz:w.length<1000)
  (q:∀cnt τ,Cn cnt (wsP w).1->Q .none (V.set i (.inst cW (wsM (w++r) w cnt))++τ)):M8 W (k+1) Y8 [.ref i,.str (w++r)] Q V:=by
 refine H6 (n:=7) (xs:=[.ref i,.str (w++r)]) (V:=V) (Q:=Q) N.f_Whitespace_DinitD (ft G) rfl ?_
 rw[CF]
 have hl:=B3 hi
 dsimp only[A4,B5,B7,G2,sIf,F9,L7,H7,H0,I4,I5,I2,G4,A5,B6,G1,G7,G0,C2,I9,L4,D1,L2,H5,C9,I8,I6,G5,I1,M4,D0,pIf,L9,E4,L5,L6,M1,M5,D7,L3,L1,tOr,J4,M0,F0,A7,A6,B4,K6,K5,J8,J9,J7,D9,I0,inI,B8,B9,C5,C6,C3,C7,List.replicate,O7,aF]
 refine fI hi (Gb _) (And.intro (D8 (show 2<1000000 by decide)) ⟨_,_,rfl,D8 (show 0<1000000 by decide),aE ((Fs (by rw[Fj];exact hl)).trans (Fu hl)) rfl ?_⟩)
 dsimp only[itV]
 refine bW (v:=λ c:Nat=>AV.str [c]) (λ ks st τ=>∃d,w++r=d++ks/\d.length<=w.length/\WiI i (w++r) (V.set i (.inst cW [(4,.str (w++r))])) d st τ) (λ Y Y Y Y=>trivial) ?_ ?_ (w++r) _ _
  ⟨[],rfl,Gb _,.mk (cnt:=[]) .nil (Fn _) (Fn _) E0⟩
 ·rintro c ks st τ K ⟨d,e,hd,h⟩ hK
  by_cases hlt:d.length<w.length
  ·have hc:w[d.length]?=some c:=by
    rw[<- Fs (l₂:=r) hlt,e,Ga (Fn _),Kt];rfl
   exact yK h (FF hlt hz) (hw c (FD hc)) λ st τ h'=>hK.nx _ _ ⟨d++[c],by rw[e];simp,by rw[Fc];exact hlt,h'⟩
  ·have e1:w=d/\r=c::ks:=NX e (Gv (Ht hlt) hd)
   refine(λ Z J=>?_) e1.1 e1.2;rcases Z with rfl;rcases J with rfl;clear e1
   obtain⟨c1,c2⟩:=hr c rfl
   have hb:=hK.br
   induction h with
   | mk h1 h2 h3 h4=>
    unfold wiB
    dsimp only[A4,B5,B7,G2,sIf,F9,L7,H7,H0,I4,I5,I2,G4,A5,B6,G1,G7,G0,C2,I9,L4,D1,L2,H5,C9,I8,I6,G5,I1,M4,D0,pIf,L9,E4,L5,L6,M1,M5,D7,L3,L1,tOr,J4,M0,F0,A7,A6,B4,K6,K5,J8,J9,J7,D9,I0,inI,B8,B9,C5,C6,C3,C7,List.replicate]
    refine N7 (b:=false) (by show some (decide ([c]=[32]))=_;simp[c1]) ?_
    rw[if_neg (by decide)]
    refine N7 (b:=false) (by show some (decide ([c]=[9]))=_;simp[c2]) ?_
    rw[if_neg (by decide)]
    exact hb _ _ (wc (.mk h1 h2 h3 h4) hl hz λ Y Y Y h=>q _ _ h)
 ·rintro st τ ⟨d,e,hd,h⟩
  have e1:w=d:=by
   have:=congrArg List.length e
   rw[FL,Fc]at this
   exact(NX (t₁:=r) (t₂:=[]) e (Gv (fp (Fi _ _) (Fw this)) hd)).1
  subst e1
  exact wc h hl hz λ Y Y Y h=>q _ _ h
structure WsO(V:Sto)(i:Nat)(w:List Nat):Prop where
 ex:∃t cnt,V[i]?=some (.inst cW (wsM t w cnt))/\Cn cnt (wsP w).1
 runs:∀r∈(wsP w).1,r<=6
 tail:(wsP w).2<=6
 len:w.length<1000
theorem wd{cnt:List Int}{w:List Nat}(h:Cn cnt (wsP w).1)(hr:∀r∈(wsP w).1,r<=6):cnt.length<=7:=by
 by_cases e:cnt=[]
 ·subst e;simp
 ·have:=hr _ (h.top e)
  exact Nat.le_add_of_sub_le this
noncomputable def lrI(cnt:List Int)(b:Nat):Int:=if (b:Int) > (cnt.length:Int)-1 then b else(cnt.length:Int)-1
theorem rJ(N:GF W)(G:GI W){t w:List Nat}{cnt:List Int}(hi:V[i]?=some (.inst cW (wsM t w cnt)))(hz:cnt.length<=7)(q:Q (.int (lrI cnt (wsP w).2)) V):
  M8 W (k+1) E9 [.ref i] Q V:=by
 refine H6 (n:=2) (xs:=[.ref i]) (V:=V) (Q:=Q) N.f_Whitespace_longest_run_of_spaces (ao G) rfl ?_
 rw[show Q0 W k=A4 _ (A4 _ B5)from rfl]
 dsimp only[A4,B5,B7,G2,sIf,F9,L7,H7,H0,I4,I5,I2,G4,A5,B6,G1,G7,G0,C2,I9,L4,D1,L2,H5,C9,I8,I6,G5,I1,M4,D0,pIf,L9,E4,L5,L6,M1,M5,D7,L3,L1,tOr,J4,M0,F0,A7,A6,B4,K6,K5,J8,J9,J7,D9,I0,inI,B8,B9,C5,C6,C3,C7,List.replicate]
 refine aE hi rfl (And.intro rfl ?_)
 dsimp only[A4,B5,B7,G2,sIf,F9,L7,H7,H0,I4,I5,I2,G4,A5,B6,G1,G7,G0,C2,I9,L4,D1,L2,H5,C9,I8,I6,G5,I1,M4,D0,pIf,L9,E4,L5,L6,M1,M5,D7,L3,L1,tOr,J4,M0,F0,A7,A6,B4,K6,K5,J8,J9,J7,D9,I0,inI,B8,B9,C5,C6,C3,C7,List.replicate]
 refine And.intro (D8 (by rw[Fd];exact zzb (Fq hz) rfl)) (fJ ?_)
 rw[Fd]
 exact q
theorem AS{ts L:Nat}(rs:List Nat)(h:∀r∈rs,r<L):((List.range (L-ts)).map λ x=>(ts+x) / ts*rs.count (ts+x)).sum=fl ts rs:=by
 unfold fl
 rw[<- qO (λ i=>i / ts) L h]
 have zero:∀l:List Nat,(∀i∈l,i<ts)->(l.map λ i=>i / ts*rs.count i).sum=0:=λ l=>by
  induction l with
  | nil=>intro _;rfl
  | cons a l ih=>
   intro h
   rw[Gg,Jz,ih λ i hi=>h i (.tail _ hi),NG (h a (.head _))]
   simp
 by_cases e:L<=ts
 ·rw[Kx e,zero _ λ i hi=>Fo (Gi.mp hi) e]
  rfl
 ·obtain⟨d,rfl⟩:=Lk (FE (IK e))
  rw[Hc,List.range_add,FG,Mf,zero _ λ i hi=>Gi.mp hi,Gy,Gh]
  rfl
inductive IlI(i ts:Nat)(w:List Nat)(cnt:List Int)(V:Sto)(j:Nat):List AV->Sto->Prop
 | mk {x5:AV}:IlI i ts w cnt V j [.ref i,.int ts,.tup (cnt.map .int),.int (wsP w).2,.int (((List.range j).map λ x=>(ts+x) / ts*(wsP w).1.count (ts+x)).sum:Nat),x5] V
set_option tactic.hygienic true in
theorem rK(N:GF W)(G:GI W){ts:Nat}{t w:List Nat}{cnt:List Int}(hi:V[i]?=some (.inst cW (wsM t w cnt)))(hc:Cn cnt (wsP w).1)(hz:cnt.length<=7)(h1:1<=ts)(h2:ts<1000)
  (q:Q (.int (ak ts (wsP w):Nat)) V):M8 W (k+1) I7 [.ref i,.int ts] Q V:=by
 refine H6 (n:=4) (xs:=[.ref i,.int ts]) (V:=V) (Q:=Q) N.f_Whitespace_indent_level (cf G) rfl ?_
 rw[show Y6 W k=A4 _ (A4 _ (A4 (O7 _ _ (A4 _ _)) (A4 _ _)))from rfl]
 dsimp only[A4,B5,B7,G2,sIf,F9,L7,H7,H0,I4,I5,I2,G4,A5,B6,G1,G7,G0,C2,I9,L4,D1,L2,H5,C9,I8,I6,G5,I1,M4,D0,pIf,L9,E4,L5,L6,M1,M5,D7,L3,L1,tOr,J4,M0,F0,A7,A6,B4,K6,K5,J8,J9,J7,D9,I0,inI,B8,B9,C5,C6,C3,C7,List.replicate]
 refine aE hi rfl (And.intro rfl ?_)
 dsimp only[A4,B5,B7,G2,sIf,F9,L7,H7,H0,I4,I5,I2,G4,A5,B6,G1,G7,G0,C2,I9,L4,D1,L2,H5,C9,I8,I6,G5,I1,M4,D0,pIf,L9,E4,L5,L6,M1,M5,D7,L3,L1,tOr,J4,M0,F0,A7,A6,B4,K6,K5,J8,J9,J7,D9,I0,inI,B8,B9,C5,C6,C3,C7,List.replicate,O7,H3]
 refine And.intro (D8 (by rw[Fd];exact zzb (Fq hz) rfl)) ?_
 dsimp only[rgP,inI]
 rw[Fd]
 refine⟨⟨zzm,zzi h2 rfl,zzm,zzi (GG hz) rfl⟩,U4 (IlI i ts w cnt V) ?_ ?_ .mk⟩
 ·rintro j st τ K hj ⟨⟩ hK
  rename_i x5
  dsimp only[A4,B5,B7,G2,sIf,F9,L7,H7,H0,I4,I5,I2,G4,A5,B6,G1,G7,G0,C2,I9,L4,D1,L2,H5,C9,I8,I6,G5,I1,M4,D0,pIf,L9,E4,L5,L6,M1,M5,D7,L3,L1,tOr,J4,M0,F0,A7,A6,B4,K6,K5,J8,J9,J7,D9,I0,inI,B8,B9,C5,C6,C3,C7,List.replicate]
  have hlt:ts+j<cnt.length:=Hw (FQ hj (Jy _ _))
  refine vI ⟨λ h=>FU h1 (Jg h),by unfold lim;lia⟩ ?_
  refine bq (r:=.int ((wsP w).1.count (ts+j):Nat)) ⟨zzm,zzi (Fo hlt hz) rfl⟩ ?_ ?_
  ·show at' _ _=_
   rw[show((ts:Int)+(j:Int))=((ts+j:Nat):Int)from rfl,ko,FK,hc.get _ hlt]
   rfl
  have hq:((ts:Int)+(j:Int)).fdiv (ts:Int)=(((ts+j) / ts:Nat):Int):=by rw[IM _ (FX _)];rfl
  rw[hq]
  have hs:(ts+j) / ts<=1000:=fp (KM _ _) (fp (FE hlt) (zzb hz rfl))
  refine l8 (.inr (by unfold lim;lia)) (S0 ?_)
  have:=IlI.mk (i:=i) (ts:=ts) (w:=w) (cnt:=cnt) (V:=V) (j:=j+1) (x5:=.int ((ts:Int)+(j:Int)))
  rw[ID,FG,Mf,Ih]at this
  refine hK.nx _ _ ?_
  simpa using this
 ·rintro st τ ⟨⟩
  dsimp only[A4,B5,B7,G2,sIf,F9,L7,H7,H0,I4,I5,I2,G4,A5,B6,G1,G7,G0,C2,I9,L4,D1,L2,H5,C9,I8,I6,G5,I1,M4,D0,pIf,L9,E4,L5,L6,M1,M5,D7,L3,L1,tOr,J4,M0,F0,A7,A6,B4,K6,K5,J8,J9,J7,D9,I0,inI,B8,B9,C5,C6,C3,C7,List.replicate]
  refine aE hi rfl (S0 (l8 (.inr (by unfold lim;lia)) (S0 ?_)))
  have e:((cnt.length:Int)-(ts:Int)).toNat=cnt.length-ts:=Jy _ _
  rw[e,AS _ hc.lt]
  unfold ak at q
  rw[Ih,Int.natCast_mul,Ih]at q
  exact q
set_option tactic.hygienic true in
theorem we{cnt:List Int}{rs:List Nat}{b:Nat}(h:Cn cnt rs)(hr:∀r∈rs,r<=6)(hb:b<=6):∃a:Nat,lrI cnt b=a/\a<=6/\b<=a/\(∀r∈rs,r<=a)/\cnt.length<=a+1:=by
 have lt:∀r∈rs,r<=cnt.length-1:=λ r hr'=>Hh (h.lt r hr')
 unfold lrI
 split
 ·rename_i hc
  have hc:cnt.length<=b+1:=by clear hr lt hb h;exact Iw.mp (HY (FT hc))
  exact⟨b,rfl,hb,Fn _,λ r hr'=>fp (lt r hr') (ME hc),hc⟩
 ·rename_i hc
  have hc:b+1<=cnt.length:=by clear hr lt hb h;exact Iw.mp (Int.add_le_of_le_sub_right (Ha.mp hc))
  have h1:=fp (GO 1 b) hc
  have hne:cnt≠[]:=λ e=>by rw[e]at h1;exact IX _ h1
  exact⟨cnt.length-1,(Lo h1).symm,hr _ (h.top hne),Hh hc,lt,Fw (Ke h1).symm⟩
theorem mh{cnt:List Int}{rs:List Nat}(h:Cn cnt rs)(h1:cnt.length<=1):∀r∈rs,r=0:=λ r hr=>by have:=h.lt r hr;exact Ks.mp (Fo this h1)
inductive WlI(i j N:Nat)(v w:List Nat)(V:Sto)(t:Nat):List AV->Sto->Prop
 | mk {x3:AV}:(∀ts,2<=ts->ts<2+t->ak ts (wsP v)<ak ts (wsP w))->WlI i j N v w V t [.ref i,.ref j,.int N,x3] V
def wlB(W:Wld)(k:Nat):ST:=(A4 (sIf (D7 .GtE (I1 W k cW I7 (A5 0) (A6 (A5 3) A7)) (I1 W k cW I7 (A5 1) (A6 (A5 3) A7))) (A4 (G2 (G0 false)) B5) B5) B5)
def wlD(W:Wld)(k:Nat):ST:=A4 (O7 (H3 (A6 (B6 2) (A6 (C2 .Add (A5 2) (B6 1)) A7))) (B4 3) (wlB W k)) (A4 (G2 (G0 true)) B5)
def wlC(W:Wld)(k:Nat):ST:=(A4 (B7 (C2 .Add (D0 gu (A6 (I1 W k cW E9 (A5 0) A7) (A6 (I1 W k cW E9 (A5 1) A7) A7))) (B6 1)) [(B4 2)]) (wlD W k))
theorem CG{N:Nat}(h:i<((N:Int)+1-2).toNat):2+i<=N:=FW (Hw (FQ h (Jy (_+1) 2)))
theorem AU{N t:Nat}(h:t<=N)(h2:2<=t):t<2+((N:Int)+1-2).toNat:=FQ (GG h) ((Hp (GD (fp h2 h))).symm.trans (congrArg (2 + ·) (Jy (_+1) 2).symm))
structure WsK(V:Sto)(i:Nat)(w:List Nat)(t:List Nat)(c:List Int):Prop where
 e:V[i]?=some (.inst cW (wsM t w c))
 nn:Cn c (wsP w).1
 z:c.length<=7
theorem yM(N:GF W)(G:GI W){M:Nat}{v w t1 t2:List Nat}{c1 c2:List Int}(hv:WsK V i v t1 c1)(hw:WsK V j w t2 c2)(hM:M<1000)(key:lt8 v w↔∀ts,2<=ts->ts<=M->ak ts (wsP v)<ak ts (wsP w))
  (q:∀b:Bool,(b=true↔lt8 v w)->Q (.bool b) V):wlD W (k+1) [.ref i,.ref j,.int M,.undef] (n4 Q) V:=by
 unfold wlD
 dsimp only[A4,O7,H3,A6,A7,B6,C2]
 refine C8 rfl rfl (S0 ⟨⟨by decide,by decide,zzm,zzi (GV hM) rfl⟩,U4 (WlI i j M v w V) ?_ ?_ (.mk λ ts h1 h2=>absurd h1 (Iq.mpr h2))⟩)
 ·rintro t st τ K ht ⟨h⟩ hK
  have ht:=CG ht
  have hz:=Fe ht hM
  have h1:1<=2+t:=fp (by decide) (Fi 2 t)
  unfold wlB
  dsimp only[B4,A4,B5,sIf,D7,G2,G0,I1,A6,A7,C5,C6]
  rw[show(2:Int)+(t:Int)=((2+t:Nat):Int)from rfl]
  refine And.intro (V6 hv.e) (rK N G hv.e hv.nn hv.z h1 hz (And.intro (V6 hw.e) (rK N G hw.e hw.nn hw.z h1 hz ?_)))
  refine N7 (b:=decide (ak (2+t) (wsP w)<=ak (2+t) (wsP v))) (congrArg some (decide_eq_decide.mpr Iw)) ?_
  by_cases hc:ak (2+t) (wsP w)<=ak (2+t) (wsP v)
  ·rw[if_pos (decide_eq_true hc)]
   exact hK.rt _ _ _ (q false ⟨λ h=>(nomatch h),λ h=>absurd (key.mp h (2+t) (Fi ..) ht) (Ir.mpr hc)⟩)
  ·rw[if_neg (by rw[decide_eq_false hc];decide)]
   refine hK.nx _ _ (.mk λ ts h1 h2=>?_)
   rcases Ip (FW h2)with he|rfl
   ·exact h ts h1 he
   ·exact Iq.mp hc
 ·rintro st τ ⟨h⟩
  exact q true ⟨λ Y=>key.mpr λ ts h1 h2=>h ts h1 (AU h2 h1),λ Y=>rfl⟩
set_option tactic.hygienic true in
theorem yN(a b:Nat):(if (b:Int) > (a:Int)then(b:Int)else(a:Int))+1=((max a b+1:Nat):Int):=by
 split
 ·rename_i h
  rw[LA (FE (GP.mp h))];rfl
 ·rename_i h
  rw[Ob (Iw.mp (Ha.mp h))];rfl
theorem AW(N:GF W)(G:GI W){v w t1 t2:List Nat}{c1 c2:List Int}(hv:WsK V i v t1 c1)(hw:WsK V j w t2 c2)(ov:WsO V i v)(ow:WsO V j w)(hn:v.length<w.length)(hs:1<c1.length\/1<c2.length)
  (q:∀b:Bool,(b=true↔lt8 v w)->Q (.bool b) V):wlC W (k+1) [.ref i,.ref j,.undef,.undef] (n4 Q) V:=by
 refine xE (we hv.nn ov.runs ov.tail) λ a1 Z=>(λ f1 f2 f3 f4 f5=>?_) Z.1 Z.2.1 Z.2.2.1 Z.2.2.2.1 Z.2.2.2.2;clear Z
 refine xE (we hw.nn ow.runs ow.tail) λ a2 Z=>(λ g1 g2 g3 g4 g5=>?_) Z.1 Z.2.1 Z.2.2.1 Z.2.2.2.1 Z.2.2.2.2;clear Z
 unfold wlC
 dsimp only[A4,B7,C2,B6,D0,I1,A6,A7,B4,I0]
 refine C8 rfl rfl (And.intro (V6 hv.e) (rJ N G hv.e hv.z (C8 rfl rfl (And.intro (V6 hw.e) (rJ N G hw.e hw.z ?_)))))
 rw[f1,g1]
 refine oZ (S0 ?_)
 rw[yN]
 have l1:=Nat.le_max_left a1 a2
 have l2:=Nat.le_max_right a1 a2
 have m6:=Nat.max_le.mpr ⟨f2,g2⟩
 have h1:1<=max a1 a2:=hs.elim (λ h=>fp (FW (Fo h f5)) l1) λ h=>fp (FW (Fo h g5)) l2
 exact yM N G hv hw (Fe (Fq m6) (by decide)) (sT (λ r hr=>GG (fp (f4 r hr) l1)) (λ r hr=>GG (fp (g4 r hr) l2)) (GG (fp f3 l1)) (GG (fp g3 l2)) (Fq h1) (fp (Fq m6) (by decide)) hn) q
theorem yO(N:GF W)(G:GI W){v w:List Nat}(hv:WsO V i v)(hw:WsO V j w)(q:∀b:Bool,(b=true↔lt8 v w)->Q (.bool b) V):
  M8 W (k+2) Q9 [.ref i,.ref j] Q V:=by
 refine H6 (n:=2) (xs:=[.ref i,.ref j]) (V:=V) (Q:=Q) N.f_Whitespace_less (gK G) rfl ?_
 rw[show cz W (k+1)=A4 _ (A4 _ (wlC W (k+1)))from rfl]
 obtain⟨t1,c1,e1,n1⟩:=hv.ex
 obtain⟨t2,c2,e2,n2⟩:=hw.ex
 have z1:=wd n1 hv.runs
 have z2:=wd n2 hw.runs
 have fin:=λ hn hs=>AW (k:=k) N G (Q:=Q) ⟨e1,n1,z1⟩ ⟨e2,n2,z2⟩ hv hw hn hs q
 generalize wlC W (k+1)=R at fin ⊢
 dsimp only[A4,B5,sIf,D7,I6,G2,G0,L4,J4,L1,L3,B6,D0,A6,A7]
 refine C8 rfl rfl (aE e1 rfl (C8 rfl rfl (aE e2 rfl (N7 (b:=decide (w.length<=v.length)) (congrArg some (decide_eq_decide.mpr Iw)) ?_))))
 refine ti (λ hn=>q false ⟨λ h=>(nomatch h),λ h=>?_⟩) λ hn=>?_
 ·have:=mP.mp h 1 (Fn _) (by decide)
  rw[df,df]at this
  exact absurd this (Ir.mpr hn)
 have hn:=Iq.mp hn
 refine C8 rfl rfl (aE e1 rfl (gh rfl (ti (λ h1=>C8 rfl rfl (aE e2 rfl (gh rfl (ti (λ h2=>C8 rfl rfl (aE e1 rfl (C8 rfl rfl (aE e2 rfl (N7 (b:=decide ((wsP v).1.length<=(wsP w).1.length)) (congrArg some (decide_eq_decide.mpr Iw)) (q _ ?_)))))) λ h2=>fin hn (.inr (Iq.mp h2)))))) λ h1=>fin hn (.inl (Iq.mp h1)))))
 rw[decide_eq_true_eq]
 exact(oH (mh n1 h1) (mh n2 h2) hw.tail hn).symm
theorem WsO.app{τ:Sto}{w:List Nat}(h:WsO V i w):WsO (V++τ) i w:=by
 obtain⟨t,cnt,e,n⟩:=h.ex
 exact⟨⟨t,cnt,by rw[Fs (B3 e)];exact e,n⟩,h.runs,h.tail,h.len⟩
theorem aX{τ:Sto}{a b:List AV}:lst (V++(.list a::.list b::τ)) (V.length+1)=some b:=by
 unfold lst
 rw[Ga (Fi _ 1),Hc]
 rfl
theorem jz{τ:Sto}{a b c:I3}:(V++(a::b::τ)).set (V.length+1) c=V++(a::c::τ):=by
 rw[JD _ _ (Fi _ 1),Hc];rfl
structure Mk6(V:Sto)(im:Nat)(w:Nat->List Nat)(n:Nat):Prop where
 ex:∃is:List Nat,V[im]?=some (.list (is.map .ref))/\is.length=n/\∀k i,is[k]?=some i->WsO V i (w k)
theorem Mk6.app{τ:Sto}{im:Nat}{w:Nat->List Nat}(h:Mk6 V im w n):Mk6 (V++τ) im w n:=by
 refine xE h.ex λ is Z=>(λ e hn h=>?_) Z.1 Z.2.1 Z.2.2;clear Z
 exact⟨is,by rw[Fs (B3 e)];exact e,hn,λ k i hk=>(h k i hk).app⟩
theorem Mk6.at{im:Nat}{w:Nat->List Nat}(h:Mk6 V im w n)(hk:k<n)(hn:n<1000):∃i,WsO V i (w k)/\iK cW V (.ref i)/\∀{z:Int}{K:AV->Sto->Prop},z=k->K (.ref i) V->bh (.ref im) (.int z) K V:=by
 refine xE h.ex λ is Z=>(λ e hl h=>?_) Z.1 Z.2.1 Z.2.2;clear Z
 have hi:is[k]?=some is[k]:=Ff (FQ hk hl.symm)
 have ho:=h k _ hi
 refine xE ho.ex λ t Z=>xE Z λ cnt J=>(λ e1 n1=>?_) J.1 J.2;clear Z J
 exact⟨_,ho,V6 e1,λ hz hK=>bV (J1 e) hz (by rw[FK,hi];rfl) (by rw[Fd];exact zzo hl (zzb hn rfl)) hK⟩
noncomputable def bZ(l:List Nat):List AV:=l.map λ j:Nat=>AV.int (j:Int)
inductive OuI(im:Nat)(w:Nat->List Nat)(V:Sto)(k:Nat):List AV->Sto->Prop
 | mk {x3:AV}{τ:Sto}:OuI im w V k [.ref im,.ref V.length,.ref (V.length+1),x3] (V++(.list (((List.range k).map (dF λ a b=>lt8 (w a) (w b))).map .int)::.list (bZ (dE (λ a b=>lt8 (w a) (w b)) k))::τ))
inductive OuJ(im:Nat)(w:Nat->List Nat)(V:Sto)(k:Nat)(n:Nat):List AV->Sto->Prop
 | mk {τ:Sto}{P R:List Nat}:dE (λ a b=>lt8 (w a) (w b)) k=P++R->(∀r∈R,¬lt8 (w r) (w k))->P.length=n->
  OuJ im w V k n [.ref im,.ref V.length,.ref (V.length+1),.int k] (V++(.list (((List.range k).map (dF λ a b=>lt8 (w a) (w b))).map .int)::.list (bZ P)::τ))
def ouB:ST:=A4 (F9 (G5 (A5 2) O1 mF A7)) B5
def ouT(W:Wld)(k:Nat):TT:=(L1 (D7 .NotEq (A5 2) (C9 A7)) (L3 (J4 (I1 W k cW Q9 (D1 (A5 0) (D1 (A5 2) (I9 (B6 1)))) (A6 (D1 (A5 0) (A5 3)) A7)))))
def ouC:ST:=(A4 (F9 (G5 (A5 1) O1 aG (A6 (D1 (C2 .Add (C9 (A6 (I9 (B6 1)) A7)) (A5 2)) (I9 (B6 1))) A7))) (A4 (F9 (G5 (A5 2) O1 aG (A6 (A5 3) A7))) B5))
set_option tactic.hygienic true in
theorem yP{im:Nat}(N:GF W)(G:GI W){w:Nat->List Nat}{ρ:Sto}{K:G3->List AV->Sto->Prop}{F:List AV->Sto->Prop}(hm:Mk6 V im w n)(hn:n<1000)(hj:j<n)(h:OuJ im w V j m st ρ)
  (hK:∀st ρ m',m'<m->OuJ im w V j m' st ρ->K .next st ρ)
  (hQ:∀τ,F [.ref im,.ref V.length,.ref (V.length+1),.int j] (V++(.list (((List.range j).map (dF λ a b=>lt8 (w a) (w b))).map .int)::.list (bZ (bu (λ a b=>lt8 (w a) (w b)) j))::τ))):
  ouT W (k+2) st (λ c ON=>if c=true then ouB st K ON else F st ON) ρ:=by
 induction h with
 | mk h1 h2 h3=>
  rename_i τ P R
  have hz:P.length<=j:=by
   have:=jX (L:=λ a b=>lt8 (w a) (w b)) j
   rw[h1,Fc]at this
   exact fp (Fi _ _) this
  have trn:∀a b c,lt8 (w a) (w b)->lt8 (w b) (w c)->lt8 (w a) (w c):=λ a b c x y=>x.trans y
  unfold ouT
  dsimp only[A4,B5,B7,G2,sIf,F9,L7,H7,H0,I4,I5,I2,G4,A5,B6,G1,G7,G0,C2,I9,L4,D1,L2,H5,C9,I8,I6,G5,I1,M4,D0,pIf,L9,E4,L5,L6,M1,M5,D7,L3,L1,tOr,J4,M0,F0,A7,A6,B4,K6,K5,J8,J9,J7,D9,I0,inI,B8,B9,C5,C6,C3,C7,List.replicate]
  refine And.intro (D8 (show 0<1000000 by decide)) ?_
  refine N7 (b:=!decide (P=[])) (nk (v:=λ j:Nat=>AV.int (j:Int)) (l:=P) (m:=[]) (λ a=>by simp[AV.ok]) (λ a b e=>by injection e with e;exact Jg e) (D2 aX) E0).2 ?_
  rcases Ij P with rfl|⟨I,top,rfl⟩
  ·rw[if_neg (by simp),if_neg (by simp)]
   have:=hQ (τ++[.list []])
   rw[oJ trn h1 h2 (λ x hx=>by cases hx)]at this
   simpa using this
  ·rw[Ii]at *
   rw[if_pos (by simp)]
   have ix:∀{RI:Sto}{K:AV->Sto->Prop},K (.int top) (V++(.list (((List.range j).map (dF λ a b=>lt8 (w a) (w b))).map .int)::.list (bZ (I++[top]))::τ)++RI)->bh (.ref (V.length+1)) (.int (-1)) K (V++(.list (((List.range j).map (dF λ a b=>lt8 (w a) (w b))).map .int)::.list (bZ (I++[top]))::τ)++RI):=λ hK=>by
    refine bq (r:=.int top) ⟨by decide,by decide⟩ ?_ hK
    show(lst _ _).bind _=_
    rw[D2 aX,Gz]
    unfold bZ
    rw[FG]
    exact mV _ _
   have htop:top<j:=by
    have:top∈dE (λ a b=>lt8 (w a) (w b)) j:=by rw[h1];simp
    exact(gC.mp this).1
   have hm':=(hm.app (τ:=.list (((List.range j).map (dF λ a b=>lt8 (w a) (w b))).map .int)::.list (bZ (I++[top]))::τ)).app (τ:=[.list []])
   refine xE (hm'.at (k:=top) (FF htop hj) hn) λ i1 Z=>?_;rcases Z with⟨o1,s1,g1⟩
   refine xE (hm'.at (k:=j) hj hn) λ i2 Z=>?_;rcases Z with⟨o2,s2,g2⟩
   refine ix (g1 rfl (And.intro s1 (g2 rfl (yO N G o1 o2 λ b hb=>gh rfl ?_))))
   by_cases hl:lt8 (w top) (w j)
   ·rw[hb.mpr hl,if_neg (by decide)]
    have:=hQ (τ++[.list []])
    rw[oJ trn h1 h2 (λ x hx=>by simp at hx;subst hx;exact hl)]at this
    simpa using this
   ·have hb':b=false:=by rw[<- Bool.not_eq_true,hb];exact hl
    rw[hb',if_pos (by decide)]
    unfold ouB
    dsimp only[A4,B5,B7,G2,sIf,F9,L7,H7,H0,I4,I5,I2,G4,A5,B6,G1,G7,G0,C2,I9,L4,D1,L2,H5,C9,I8,I6,G5,I1,M4,D0,pIf,L9,E4,L5,L6,M1,M5,D7,L3,L1,tOr,J4,M0,F0,A7,A6,B4,K6,K5,J8,J9,J7,D9,I0,inI,B8,B9,C5,C6,C3,C7,List.replicate]
    have hst:∀x:I3,V++(.list (((List.range j).map (dF λ a b=>lt8 (w a) (w b))).map .int)::x::τ)++[.list []]=V++(.list (((List.range j).map (dF λ a b=>lt8 (w a) (w b))).map .int)::x::(τ++[.list []])):=λ x=>by simp
    rw[hst]
    refine vH (l:=bZ I) (x:=.int top) (by rw[aX];unfold bZ;rw[FG];rfl) (by unfold bZ;rw[Fd];rw[Fc]at hz;exact FF (Fe (fp (Fi _ _) hz) hj) hn) ?_
    rw[jz]
    refine hK _ _ I.length (by rw[<- h3];simp) (.mk (R:=top::R) (by rw[h1];simp) (λ r hr=>?_) rfl)
    rcases Fv.mp hr with rfl|hr
    ·exact hl
    ·exact h2 r hr
theorem wg(l:List Nat):at' ([.int (-1)]++bZ l) (-1)=some (.int (lQ l)):=by
 rcases Ij l with rfl|⟨I,x,rfl⟩
 ·rfl
 ·rw[Ii,jY,show bZ (I++[x])=bZ I++[.int x]from FG ..,<- Fz]
  exact mV _ _
set_option tactic.hygienic true in
theorem yQ{im:Nat}(N:GF W)(G:GI W){w:Nat->List Nat}(hm:Mk6 V im w n)(hn:n<1000)
  (q:∀τ:Sto,Q (.ref V.length) (V++(.list (((List.range n).map (dF λ a b=>lt8 (w a) (w b))).map .int)::τ))):M8 W (k+3) X7 [.ref im] Q V:=by
 refine H6 (n:=3) (xs:=[.ref im]) (V:=V) (Q:=Q) N.f__law_outline (kl G) rfl ?_
 rw[show ed W (k+2)=A4 _ (A4 _ (A4 (O7 _ _ (A4 (cE (ouT W (k+2)) ouB) ouC)) (A4 _ _)))from rfl]
 refine xE hm.ex λ is Z=>(λ e hl J=>?_) Z.1 Z.2.1 Z.2.2;clear Z
 dsimp only[A4,B5,B7,G2,sIf,F9,L7,H7,H0,I4,I5,I2,G4,A5,B6,G1,G7,G0,C2,I9,L4,D1,L2,H5,C9,I8,I6,G5,I1,M4,D0,pIf,L9,E4,L5,L6,M1,M5,D7,L3,L1,tOr,J4,M0,F0,A7,A6,B4,K6,K5,J8,J9,J7,D9,I0,inI,B8,B9,C5,C6,C3,C7,List.replicate,O7,H3]
 refine And.intro (D8 (show 0<1000000 by decide)) (And.intro (D8 (show 0<1000000 by decide)) ?_)
 refine cS (D2 (D2 (J1 e))) (D8 (by rw[Fd];exact zzo hl (zzb hn rfl))) ?_
 dsimp only[rgP,inI]
 rw[Fd,hl]
 refine⟨⟨zzm,zzi hn rfl⟩,U4 (OuI im w V) ?_ ?_ ?_⟩
 ·rintro j st τ K hj h hK
  induction h with
  | mk=>
   rename_i x3 τ
   dsimp only[A4,B5,B7,G2,sIf,F9,L7,H7,H0,I4,I5,I2,G4,A5,B6,G1,G7,G0,C2,I9,L4,D1,L2,H5,C9,I8,I6,G5,I1,M4,D0,pIf,L9,E4,L5,L6,M1,M5,D7,L3,L1,tOr,J4,M0,F0,A7,A6,B4,K6,K5,J8,J9,J7,D9,I0,inI,B8,B9,C5,C6,C3,C7,List.replicate]
   refine cT (OuJ im w V j) (n:=(dE (λ a b=>lt8 (w a) (w b)) j).length) ?_ ?_
   ·have:=OuJ.mk (im:=im) (w:=w) (V:=V) (k:=j) (τ:=τ) (P:=dE (λ a b=>lt8 (w a) (w b)) j) (R:=[]) (by simp) (λ r hr=>by cases hr) rfl
    simpa using this
   ·intro m st ρ K2 h2 hK2
    refine yP (w:=w) (F:=λ st V=>ouC st K V) N G hm hn hj h2 (λ st ρ m' h h'=>hK2.nx _ _ ⟨m',h,h'⟩) λ τ=>?_
    have hz:=fp (Hj (λ j'=>open Classical in decide (lt8 (w j') (w j))) (dE (λ a b=>lt8 (w a) (w b)) j)) (jX j)
    have hz:(bZ (bu (λ a b=>lt8 (w a) (w b)) j)).length<=j:=by unfold bZ;rw[Fd];exact hz
    unfold ouC
    dsimp only[A4,B5,B7,G2,sIf,F9,L7,H7,H0,I4,I5,I2,G4,A5,B6,G1,G7,G0,C2,I9,L4,D1,L2,H5,C9,I8,I6,G5,I1,M4,D0,pIf,L9,E4,L5,L6,M1,M5,D7,L3,L1,tOr,J4,M0,F0,A7,A6,B4,K6,K5,J8,J9,J7,D9,I0,inI,B8,B9,C5,C6,C3,C7,List.replicate]
    have h2:∀x:I3,lst (V++(x::.list (bZ (bu (λ a b=>lt8 (w a) (w b)) j))::τ)++[.list [.int (-1)]]) (V.length+1)=some (bZ (bu (λ a b=>lt8 (w a) (w b)) j)):=λ x=>by
     unfold lst
     rw[Fz,Ga (Fi _ 1),Hc]
     rfl
    refine And.intro (aQ Y4) (And.intro (D8 (show 1<1000000 by decide)) (mX E0 (h2 _) (D8 (by show 1+_<_;exact zzo (Hl _ _) (zzb (GV (Fe hz (FF hj hn))) rfl))) ?_))
    refine bq (r:=.int (dF (λ a b=>lt8 (w a) (w b)) j)) ⟨by decide,by decide⟩ ?_ ?_
    ·show(lst _ _).bind _=_
     rw[E0,Gz]
     exact wg _
    have ea:∀a b:I3,V++(.list (((List.range j).map (dF λ a b=>lt8 (w a) (w b))).map .int)::.list (bZ (bu (λ a b=>lt8 (w a) (w b)) j))::τ)++[a]++[b]=V++(.list (((List.range j).map (dF λ a b=>lt8 (w a) (w b))).map .int)::.list (bZ (bu (λ a b=>lt8 (w a) (w b)) j))::(τ++([a]++[b]))):=λ a b=>by simp
    rw[ea]
    refine(cA Y4 (O4 (by rw[Fd,Fd,FZ];exact zzb (FF hj hn) rfl)) ?_).2
    rw[gV]
    refine cA aX (O4 (zzb (Fe hz (FF hj hn)) rfl)) ?_
    rw[jz]
    have:=OuI.mk (im:=im) (w:=w) (V:=V) (k:=j+1) (x3:=.int j) (τ:=τ++([.list [.int (-1)]]++[.list ([.int (-1)]++bZ (bu (λ a b=>lt8 (w a) (w b)) j))]))
    rw[sU,ID,FG,FG,show bZ (bu (λ a b=>lt8 (w a) (w b)) j++[j])=bZ (bu (λ a b=>lt8 (w a) (w b)) j)++[.int j]from FG ..]at this
    exact hK.nx _ _ this
 ·intro st τ h
  induction h with
  | mk=>
   rename_i x3 τ
   have e:((n:Int)-0).toNat=n:=rfl
   rw[e]
   exact q _
 ·have:=OuI.mk (im:=im) (w:=w) (V:=V) (k:=0) (x3:=.undef) (τ:=[])
  rw[show dE (λ a b=>lt8 (w a) (w b)) 0=[]from rfl]at this
  simpa [bZ] using this
theorem AX:∀m:Fin 64,∀i:Fin 6,(Builtin.bitAnd (((m.1:Int)).fdiv (2 ^ (i.1:Int).toNat)) 1≠0)↔m.1.testBit i.1=true:=by decide +kernel
theorem AY:∀m:Fin 64,m.1≠0->∃t:Fin 6,(Builtin.Int.intBits (m.1:Int):Int)-1=(t.1:Int)/\m.1.testBit t.1=true:=by decide +kernel
theorem yR:∀i:Fin 6,(1:Int)*2 ^ (i.1:Int).toNat=((2 ^ i.1:Nat):Int):=by decide +kernel
noncomputable def oA:Option Int->AV
 | some p=>.int p
 | none=>.none
noncomputable def bc(os:List Int)(i:Nat):Option Nat:=(os[i]?).bind λ o=>if o<0 then none else some o.toNat
structure SeG(gs os:List Int):Prop where
 gl:gs.length=6
 ol:os.length=6
 ob:∀(i:Nat) (o:Int),os[i]?=some o->-1<=o/\o<i
 gb:∀g∈gs,-9<=g/\g<=9
def seK:ST:=A4 (F9 (G5 (A5 6) O1 aG (A6 (D1 (A5 3) (C2 .Sub (A5 4) (C2 .LShift (B6 1) (A5 7)))) A7))) B5
def seJ:ST:=A4 (sIf (tOr (D7 .Lt (D1 (A5 1) (A5 7)) (B6 0)) (J4 (C2 .BitAnd (C2 .RShift (A5 4) (D1 (A5 1) (A5 7))) (B6 1)))) seK B5) B5
def seI:ST:=A4 (sIf (L1 (J4 (C2 .BitAnd (C2 .RShift (A5 4) (A5 7)) (B6 1))) (D7 .IsNot (D1 (A5 3) (C2 .Sub (A5 4) (C2 .LShift (B6 1) (A5 7)))) G7)) seJ B5) B5
theorem zw{Q:Bool->Sto->Prop}(hm:m<64)(hi:i<6)(q:Q (m.testBit i) V):
  cK .RShift (.int m) (.int i) (λ x ON=>cK .BitAnd x (.int 1) (λ y OS=>r0 y Q OS) ON) V:=by
 refine zo (FX _) (Ck (gh (b:=m.testBit i) ?_ q))
 show some (decide _)=_
 have:=AX ⟨m,hm⟩ ⟨i,hi⟩
 exact congrArg some (by rw[Ie,decide_eq_true_eq];exact this)
theorem qc(hm:m<64)(hi:i<6)(hb:m.testBit i=true):2 ^ i<=m:=(qL ⟨m,hm⟩ ⟨i,hi⟩ hb).1
theorem qd(hm:m<64)(hi:i<6)(hb:m.testBit i=true)(q:Q (.int ((m-2 ^ i:Nat):Int)) V):
  cK .LShift (.int 1) (.int i) (λ y ON=>cK .Sub (.int m) y Q ON) V:=by
 refine zm ⟨FX _,zzi hi rfl,by decide⟩ (fJ ?_)
 rw[yR ⟨i,hi⟩]
 have:=qc hm hi hb
 rw[show((m:Int)-((2 ^ i:Nat):Int))=((m-2 ^ i:Nat):Int)from(Lo this).symm]
 exact q
theorem wh{ig io s p iw:Nat}{os:List Int}{ps:List (Option Int)}{ways:List Int}{x5 x8:AV}{ρ:Sto}{K:G3->List AV->Sto->Prop}(hm:m<64)(hi:i<6)(hol:os.length=6)(hob:∀(i:Nat) (o:Int),os[i]?=some o->-1<=o/\o<i)(ho:lst ρ io=some (os.map .int))(hp:lst ρ p=some (ps.map oA))(hl:ps.length=m)(hw:lst ρ iw=some (ways.map .int))(hwz:ways.length<=i)
  (q:∀W':List Int,(∀x,x∈W'↔x∈ways\/(m.testBit i=true/\ps[m-2 ^ i]?=some (some x)/\∀j,bc os i=some j->m.testBit j=true))->W'.length<=i+1->K .next [.ref ig,.ref io,.ref s,.ref p,.int m,x5,.ref iw,.int i,x8] (ρ.set iw (.list (W'.map .int)))):
  seI [.ref ig,.ref io,.ref s,.ref p,.int m,x5,.ref iw,.int i,x8] K ρ:=by
 have stay:(∀x,¬(m.testBit i=true/\ps[m-2 ^ i]?=some (some x)/\∀j,bc os i=some j->m.testBit j=true))->K .next [.ref ig,.ref io,.ref s,.ref p,.int m,x5,.ref iw,.int i,x8] ρ:=λ h=>by
  have:=q ways (λ x=>⟨.inl,λ hx=>hx.elim id λ hx=>absurd hx (h x)⟩) (GD hwz)
  rw[ba (F6 hw)]at this
  exact this
 unfold seI
 dsimp only[A4,B5,B7,G2,sIf,F9,L7,H7,H0,I4,I5,I2,G4,A5,B6,G1,G7,G0,C2,I9,L4,D1,L2,H5,C9,I8,I6,G5,I1,M4,D0,pIf,L9,E4,L5,L6,M1,M5,D7,L3,L1,tOr,J4,M0,F0,A7,A6,B4,K6,K5,J8,J9,J7,D9,I0,inI,B8,B9,C5,C6,C3,C7,List.replicate]
 refine zw hm hi ?_
 by_cases hb:¬m.testBit i=true
 ·rw[if_neg hb,if_neg (by decide)]
  exact stay λ x hx=>hb hx.1
 have hb:=Decidable.not_not.mp hb
 rw[if_pos hb]
 have hle:=qc hm hi hb
 have hpos:0<2 ^ i:=Mi i
 obtain⟨o,hpo⟩:∃o,ps[m-2 ^ i]?=some o:=⟨_,Ff (FQ (JO (Fo hpos hle) hpos) hl.symm)⟩
 have hix:∀{K:AV->Sto->Prop},K (oA o) ρ->bh (.ref p) (.int ((m-2 ^ i:Nat):Int)) K ρ:=λ hK=>Y9 hp rfl hpo (zzo hl (zzb hm rfl)) hK
 refine qd hm hi hb (hix ?_)
 induction o with
 | none=>
  refine N7 (b:=false) rfl ?_
  rw[if_neg (by decide)]
  exact stay λ x hx=>by rw[hpo]at hx;cases hx.2.1
 | some v=>
  refine N7 (b:=true) rfl ?_
  rw[if_pos rfl]
  unfold seJ
  dsimp only[A4,B5,B7,G2,sIf,F9,L7,H7,H0,I4,I5,I2,G4,A5,B6,G1,G7,G0,C2,I9,L4,D1,L2,H5,C9,I8,I6,G5,I1,M4,D0,pIf,L9,E4,L5,L6,M1,M5,D7,L3,L1,tOr,J4,M0,F0,A7,A6,B4,K6,K5,J8,J9,J7,D9,I0,inI,B8,B9,C5,C6,C3,C7,List.replicate]
  obtain⟨w,hw'⟩:∃w,os[i]?=some w:=⟨_,Ff (FQ hi hol.symm)⟩
  have hb':=hob _ _ hw'
  have hio:∀{K:AV->Sto->Prop},K (.int w) ρ->bh (.ref io) (.int (i:Int)) K ρ:=λ hK=>Y9 ho rfl hw' (zze hol rfl) hK
  have add:(∀j,bc os i=some j->m.testBit j=true)->seK [.ref ig,.ref io,.ref s,.ref p,.int m,x5,.ref iw,.int i,x8] K ρ:=λ hj=>by
   unfold seK
   dsimp only[A4,B5,B7,G2,sIf,F9,L7,H7,H0,I4,I5,I2,G4,A5,B6,G1,G7,G0,C2,I9,L4,D1,L2,H5,C9,I8,I6,G5,I1,M4,D0,pIf,L9,E4,L5,L6,M1,M5,D7,L3,L1,tOr,J4,M0,F0,A7,A6,B4,K6,K5,J8,J9,J7,D9,I0,inI,B8,B9,C5,C6,C3,C7,List.replicate]
   refine And.intro (aQ hw) (qd hm hi hb (hix ?_))
   refine(cA hw (O4 (by rw[Fd];exact zzb (Fe hwz hi) rfl)) ?_).2
   have:=q (ways++[v]) (λ x=>by
    rw[FR,Fh]
    exact or_congr .rfl ⟨λ e=>⟨hb,by rw[hpo,e],hj⟩,λ h=>by have:=h.2.1;rw[hpo]at this;injection this with this;injection this with this;exact this.symm⟩) (by rw[Fc];exact Gr hwz 1)
   rw[FG]at this
   exact this
  refine hio (N7 (b:=decide (w<0)) (by show ltN 4 _ _=_;rfl) ?_)
  by_cases hneg:w<0
  ·rw[if_pos (by simpa using hneg),if_pos rfl]
   exact add λ j hj=>by
    unfold bc at hj
    rw[hw',Gz,if_pos hneg]at hj
    cases hj
  ·rw[if_neg (by simpa using hneg)]
   refine hio ?_
   refine xE (Hn (Ha.mp hneg)) λ j Z=>?_;rcases Z with rfl
   have hj6:j<6:=FF (GP.mp hb'.2) hi
   have hown:bc os i=some j:=by
    unfold bc
    rw[hw',Gz,if_neg hneg]
    rfl
   refine zw hm hj6 ?_
   by_cases hbj:m.testBit j=true
   ·rw[if_pos hbj]
    exact add λ j' hj'=>by rw[hown]at hj';cases hj';exact hbj
   ·rw[if_neg hbj]
    exact stay λ x hx=>hbj (hx.2.2 j hown)
noncomputable def gF(gs:List Int)(i:Nat):Int:=gs.getD i 0
inductive SeI(gs os:List Int)(ig io:Nat)(V:Sto)(i:Nat):List AV->Sto->Prop
 | mk {ps:List (Option Int)}{τ:Sto}{x4 x5 x6 x7 x8:AV}:ps.length=i+1->(∀k o,ps[k]?=some o->cu (bc os) (gF gs) k o)->
  SeI gs os ig io V i [.ref ig,.ref io,.ref V.length,.ref (V.length+1),x4,x5,x6,x7,x8] (V++(.list (((List.range (i+1)).map (W0 (gF gs))).map .int)::.list (ps.map oA)::τ))
inductive SeJ(os:List Int)(ps:List (Option Int))(ig io s p m:Nat)(x5:AV)(B:Sto)(t:Nat):List AV->Sto->Prop
 | mk {ways:List Int}{x7 x8:AV}:(∀x,x∈ways↔∃i,i<t/\m.testBit i=true/\ps[m-2 ^ i]?=some (some x)/\∀j,bc os i=some j->m.testBit j=true)->ways.length<=t->
  SeJ os ps ig io s p m x5 B t [.ref ig,.ref io,.ref s,.ref p,.int m,x5,.ref B.length,x7,x8] (B++[.list (ways.map .int)])
def seE:ST:=(sIf (D7 .Eq (A5 6) (C9 A7)) (A4 (F9 (G5 (A5 3) O1 aG (A6 G7 A7))) B5) (A4 (F9 (G5 (A5 3) O1 aG (A6 (D0 gu (A6 (D0 xm (A6 (A5 6) A7)) (A6 (I9 (D1 (A5 2) (A5 4))) A7))) A7))) B5))
def seF:ST:=A4 (O7 (H3 (A6 (D0 aY (A6 (A5 0) A7)) A7)) (B4 7) seI) (A4 seE B5)
def seM:ST:=(A4 (B7 (C2 .Sub (G5 (A5 4) pJ blB A7) (B6 1)) [(B4 5)]) (A4 (F9 (G5 (A5 2) O1 aG (A6 (C2 .Add (D1 (A5 2) (C2 .Sub (A5 4) (C2 .LShift (B6 1) (A5 5)))) (D1 (A5 0) (A5 5))) A7))) (A4 (B7 (C9 A7) [(B4 6)]) seF)))
def seR:ST:=(A4 (G2 (I8 (A6 (D1 (A5 3) (I9 (B6 1))) (A6 (D0 uU (A6 (N5 (H3 (A6 (D0 aY (A6 (A5 2) A7)) A7)) (D7 .IsNot (D1 (A5 3) (A5 8)) G7) (I8 (A6 (D1 (A5 3) (A5 8)) (A6 (D1 (A5 2) (A5 8)) A7))) 8) A7)) A7)))) B5)
theorem CH(W:Wld)(k:Nat):iV W k=A4 (B7 (C9 (A6 (B6 0) A7)) [(B4 2)]) (A4 (B7 (C9 (A6 (B6 0) A7)) [(B4 3)]) (A4 (O7 (H3 (A6 (B6 1) (A6 (C2 .LShift (B6 1) (D0 aY (A6 (A5 0) A7))) A7))) (B4 4) seM) seR)):=rfl
theorem nq{gs os:List Int}(h:SeG gs os):∀i j,bc os i=some j->j<i:=λ i j e=>by
 unfold bc at e
 cases hw:os[i]? with
 | none=>rw[hw]at e;cases e
 | some o=>
  rw[hw,Gz]at e
  have:=h.ob i o hw
  by_cases hn:o<0
  ·rw[if_pos hn]at e;cases e
  ·rw[if_neg hn]at e
   injection e with e
   exact zzo e.symm ((OB (Ha.mp hn)).mpr this.2)
theorem wi{ig io:Nat}{gs os:List Int}{τ:Sto}{ps:List (Option Int)}{ways:List Int}{x5 x7 x8:AV}{K:G3->List AV->Sto->Prop}(hg:SeG gs os)(h0:0<m)(hm:m<64)(hl:ps.length=m)(hP:∀k o,ps[k]?=some o->cu (bc os) (gF gs) k o)(hz:ways.length<=6)
  (hw:∀x,x∈ways↔∃i,i<6/\m.testBit i=true/\ps[m-2 ^ i]?=some (some x)/\∀j,bc os i=some j->m.testBit j=true){B:Sto}(hB:B=V++(.list (((List.range (m+1)).map (W0 (gF gs))).map .int)::.list (ps.map oA)::τ))
  (q:∀st τ,SeI gs os ig io V m st τ->K .next st τ):seE [.ref ig,.ref io,.ref V.length,.ref (V.length+1),.int m,x5,.ref B.length,x7,x8] K (B++[.list (ways.map .int)]):=by
 have step:=cu.step (own:=bc os) (g:=gF gs) (m:=m) (P:=λ k=>(ps[k]?).join) (ways:=ways) (nq hg) h0 hm (λ k hk=>by
  obtain⟨o,ho⟩:∃o,ps[k]?=some o:=⟨_,Ff (FQ hk hl.symm)⟩
  rw[ho]
  exact hP k o ho) (λ p=>(hw p).trans ⟨fun⟨i,a,b,c,d⟩=>⟨i,a,b,by rw[c];rfl,d⟩,fun⟨i,a,b,c,d⟩=>⟨i,a,b,by
   cases e:ps[m-2 ^ i]? with
   | none=>rw[e]at c;cases c
   | some o=>rw[e]at c;exact congrArg some c,d⟩⟩)
 have put:∀o,cu (bc os) (gF gs) m o->∀x:I3,K .next [.ref ig,.ref io,.ref V.length,.ref (V.length+1),.int m,x5,.ref B.length,x7,x8] (V++(.list (((List.range (m+1)).map (W0 (gF gs))).map .int)::.list (ps.map oA++[oA o])::(τ++([.list (ways.map .int)]++[x])))):=λ o ho x=>by
  have:=SeI.mk (gs:=gs) (os:=os) (ig:=ig) (io:=io) (V:=V) (i:=m) (ps:=ps++[o]) (τ:=τ++([.list (ways.map .int)]++[x])) (x4:=.int m) (x5:=x5) (x6:=.ref B.length) (x7:=x7) (x8:=x8) (by rw[Fc,hl];rfl) (λ k o' hk=>by
   by_cases e:k<ps.length
   ·rw[Fs e]at hk;exact hP k o' hk
   ·rw[Ga (Ht e)]at hk
    have:=B3 hk
    rw[Gs]at this
    have ek:k=m:=(Gv (LR.mp (Ks.mp this)) (Ht e)).trans hl
    subst ek
    rw[hl,Kt]at hk
    injection hk with hk
    subst hk
    exact ho)
  rw[FG]at this
  exact q _ _ this
 subst hB
 have hlen:=Fd (as:=ps) oA
 unfold seE
 dsimp only[A4,B5,B7,G2,sIf,F9,L7,H7,H0,I4,I5,I2,G4,A5,B6,G1,G7,G0,C2,I9,L4,D1,L2,H5,C9,I8,I6,G5,I1,M4,D0,pIf,L9,E4,L5,L6,M1,M5,D7,L3,L1,tOr,J4,M0,F0,A7,A6,B4,K6,K5,J8,J9,J7,D9,I0,inI,B8,B9,C5,C6,C3,C7,List.replicate]
 have ea:∀(y:I3) (a b:I3),V++(.list (((List.range (m+1)).map (W0 (gF gs))).map .int)::y::τ)++[a]++[b]=V++(.list (((List.range (m+1)).map (W0 (gF gs))).map .int)::y::(τ++([a]++[b]))):=λ y a b=>by simp
 refine And.intro (D8 (show 0<1000000 by decide)) ?_
 refine N7 (dw (l:=ways) (m:=[]) (D2 E0) E0).1 ?_
 by_cases hn:ways=[]
 ·rw[if_pos (by simpa using hn),ea]
  refine cA aX (O4 (zzo (hlen.trans hl) (zzb hm rfl))) ?_
  rw[jz]
  exact put none (step.1 hn) _
 ·rw[if_neg (by simpa using hn)]
  have hn':=hn
  refine And.intro (aQ (by rw[ea];exact aX)) ⟨ways,D2 E0,hn,λ M hM hmin=>?_⟩
  dsimp only
  refine bV (p:=m) (x:=.int (W0 (gF gs) m)) (by rw[ea];exact Y4) rfl (by rw[FK,FK,Hv (FY m)];rfl) (by rw[Fd,Fd,FZ];exact zzb (GV hm) rfl) ?_
  refine oZ ?_
  rw[ea]
  refine(cA aX (O4 (zzo (hlen.trans hl) (zzb hm rfl))) ?_).2
  rw[jz]
  have:=put (some (max M (-(W0 (gF gs) m)))) (step.2 M hM hmin) (.list [])
  rw[show(if -(W0 (gF gs) m) > M then -(W0 (gF gs) m)else M)=max M (-(W0 (gF gs) m)) by lia]
  exact this
theorem EI{i:Int}(q:Q (.int (Builtin.Int.intBits i)) V):blB [.int i] Q V:=q
set_option tactic.hygienic true in
theorem wj{ig io:Nat}{gs os:List Int}{ρ:Sto}{K:G3->List AV->Sto->Prop}(hg:SeG gs os)(hig:V[ig]?=some (.list (gs.map .int)))(hio:V[io]?=some (.list (os.map .int)))(hm:m+1<64)(h:SeI gs os ig io V m st ρ)
  (q:∀st τ,SeI gs os ig io V (m+1) st τ->K .next st τ):seM (st.set 4 (.int ((m+1:Nat):Int))) K ρ:=by
 induction h with
 | mk h1 h2=>
  rename_i ps τ x4 x5 x6 x7 x8
  obtain⟨⟨t,ht6⟩,t1,t2⟩:=AY ⟨m+1,hm⟩ (Nat.succ_ne_zero m)
  dsimp only at t1 t2
  have hpw:=qc hm ht6 t2
  have hpos:0<2 ^ t:=Mi t
  obtain⟨gv,hgv⟩:∃gv,gs[t]?=some gv:=⟨_,Ff (by rw[hg.gl];exact ht6)⟩
  unfold seM
  dsimp only[A4,B5,B7,G2,sIf,F9,L7,H7,H0,I4,I5,I2,G4,A5,B6,G1,G7,G0,C2,I9,L4,D1,L2,H5,C9,I8,I6,G5,I1,M4,D0,pIf,L9,E4,L5,L6,M1,M5,D7,L3,L1,tOr,J4,M0,F0,A7,A6,B4,K6,K5,J8,J9,J7,D9,I0,inI,B8,B9,C5,C6,C3,C7,List.replicate]
  refine And.intro trivial (EI (fJ ?_))
  rw[t1]
  dsimp only
  refine And.intro (aQ Y4) (qd hm ht6 t2 ?_)
  refine bV (p:=m+1-2 ^ t) (x:=.int (W0 (gF gs) (m+1-2 ^ t))) Y4 rfl (by rw[FK,FK,Hv (JO (Hs _) hpos)];rfl) (by rw[Fd,Fd,FZ];exact zzb hm rfl) ?_
  refine bV (p:=t) (x:=.int gv) (D2 (J1 hig)) rfl (by rw[FK,hgv];rfl) (by rw[Fd,hg.gl];decide) (S0 ?_)
  refine(cA Y4 (O4 (by rw[Fd,Fd,FZ];exact zzb hm rfl)) ?_).2
  rw[gV]
  have es:((List.range (m+1)).map (W0 (gF gs))).map AV.int++[.int (W0 (gF gs) (m+1-2 ^ t)+gv)]=((List.range (m+1+1)).map (W0 (gF gs))).map AV.int:=by
   rw[ID (n:=m+1),FG,FG]
   have:W0 (gF gs) (m+1)=W0 (gF gs) (m+1-2 ^ t)+gv:=by
    rw[sP hm ht6 t2]
    unfold gF
    rw[FA,hgv];rfl
   rw[<- this]
   rfl
  rw[es]
  refine And.intro (D8 (show 0<1000000 by decide)) ?_
  generalize hB:V++(.list (((List.range (m+1+1)).map (W0 (gF gs))).map .int)::.list (ps.map oA)::τ)=B
  have gB:lst B ig=some (gs.map .int):=by rw[<- hB];exact D2 (J1 hig)
  have oB:lst B io=some (os.map .int):=by rw[<- hB];exact D2 (J1 hio)
  have pB:lst B (V.length+1)=some (ps.map oA):=by rw[<- hB];exact aX
  unfold seF
  dsimp only[A4,B5,B7,G2,sIf,F9,L7,H7,H0,I4,I5,I2,G4,A5,B6,G1,G7,G0,C2,I9,L4,D1,L2,H5,C9,I8,I6,G5,I1,M4,D0,pIf,L9,E4,L5,L6,M1,M5,D7,L3,L1,tOr,J4,M0,F0,A7,A6,B4,K6,K5,J8,J9,J7,D9,I0,inI,B8,B9,C5,C6,C3,C7,List.replicate,O7,H3]
  refine cS (D2 gB) (D8 (by rw[Fd,hg.gl];decide)) ?_
  dsimp only[rgP,inI]
  rw[Fd,hg.gl]
  refine⟨⟨by decide,by decide⟩,U4 (SeJ os ps ig io V.length (V.length+1) (m+1) (.int t) B) ?_ ?_ (.mk (ways:=[]) (λ x=>⟨λ h=>(by cases h),fun⟨i,h,_⟩=>absurd h (IX _)⟩) (Fn _))⟩
  ·rintro i st ρ K2 hi h hK
   have hi:i<6:=hi
   induction h with
   | mk j1 j2=>
    rename_i ways x7 x8
    dsimp only[B4,C5,C6]
    rw[GR]
    refine wh hm hi hg.ol hg.ob (D2 oB) (D2 pB) h1 E0 j2 λ W' hW hz=>?_
    rw[dq]
    refine hK.nx _ _ (.mk (λ x=>(hW x).trans ?_) hz)
    rw[j1 x]
    constructor
    ·rintro (⟨i',a,b⟩|⟨a,b,c⟩)
     ·exact⟨i',Hq a,b⟩
     ·exact⟨i,FY i,a,b,c⟩
    ·rintro ⟨i',a,b⟩
     by_cases e:i'=i
     ·subst e;exact .inr b
     ·exact .inl ⟨i',Gj (FW a) e,b⟩
  ·rintro st ρ h
   induction h with
   | mk j1 j2=>
    rename_i ways x7 x8
    exact wi hg (Hs m) hm h1 h2 j2 j1 hB.symm q
theorem rL{gs:List Int}(h:∀g∈gs,-9<=g/\g<=9):∀l:List Nat,-9*(l.length:Int)<=Z8 (gF gs) l/\Z8 (gF gs) l<=9*(l.length:Int)
 | []=>by simp[Z8]
 | i::l=>by
  have ih:=rL h l
  have:-9<=gF gs i/\gF gs i<=9:=by
   unfold gF
   rw[FA]
   cases e:gs[i]? with
   | none=>simp
   | some g=>exact h g (FD e)
  rw[GB]
  simp only[Z8]
  lia
theorem qe{gs:List Int}(h:∀g∈gs,-9<=g/\g<=9)(m:Nat):-400<=W0 (gF gs) m/\W0 (gF gs) m<=400:=by
 have h1:=rL h ((List.range 6).filter λ j=>m.testBit j)
 have h2:=Hj (λ j=>m.testBit j) (List.range 6)
 rw[FZ]at h2
 unfold W0
 lia
set_option tactic.hygienic true in
theorem yS(N:GF W)(G:GI W){ig io:Nat}{gs os:List Int}(hg:SeG gs os)(hig:V[ig]?=some (.list (gs.map .int)))(hio:V[io]?=some (.list (os.map .int)))
  (q:∀(P:Nat->Option Int) (Ss:List (Int×Int)) (τ:Sto),(∀k,k<64->cu (bc os) (gF gs) k (P k))->(∀x,x∈Ss↔∃k,k<64/\P k=some x.1/\x.2=W0 (gF gs) k)->Ss.Pairwise (λ a b=>a.1<=b.1)->Ss.length<=64->
   Q (.tup [oA (P 63),.ref (V++τ).length]) (V++τ++[.list (Ss.map prA)])):M8 W (k+1) a0 [.ref ig,.ref io] Q V:=by
 refine H6 (n:=7) (xs:=[.ref ig,.ref io]) (V:=V) (Q:=Q) N.f__law_sets (oX G) rfl ?_
 rw[CH]
 dsimp only[A4,B5,B7,G2,sIf,F9,L7,H7,H0,I4,I5,I2,G4,A5,B6,G1,G7,G0,C2,I9,L4,D1,L2,H5,C9,I8,I6,G5,I1,M4,D0,pIf,L9,E4,L5,L6,M1,M5,D7,L3,L1,tOr,J4,M0,F0,A7,A6,B4,K6,K5,J8,J9,J7,D9,I0,inI,B8,B9,C5,C6,C3,C7,List.replicate,O7,H3]
 refine And.intro (D8 (show 1<1000000 by decide)) (And.intro (D8 (show 1<1000000 by decide)) ?_)
 refine cS (D2 (D2 (J1 hig))) (D8 (by rw[Fd,hg.gl];decide)) (zm ?_ ?_)
 ·rw[Fd,hg.gl];decide
 dsimp only[rgP,inI]
 rw[Fd,hg.gl]
 refine⟨by decide,U4 (n:=63) (SeI gs os ig io V) ?_ ?_ ?_⟩
 ·rintro m st ρ K hm h hK
  have:=wj hg hig hio (GV hm) h hK.nx
  dsimp only[B4]
  rw[show(1:Int)+(m:Int)=((m+1:Nat):Int)from KT _ _]
  exact this
 ·rintro st ρ h
  induction h with
  | mk h1 h2=>
   rename_i ps τ x4 x5 x6 x7 x8
   have h1:ps.length=64:=h1
   have hat:∀m,m<64->∃o,ps[m]?=some o:=λ m hm=>⟨_,Ff (FQ hm h1.symm)⟩
   unfold seR
   dsimp only[A4,B5,B7,G2,sIf,F9,L7,H7,H0,I4,I5,I2,G4,A5,B6,G1,G7,G0,C2,I9,L4,D1,L2,H5,C9,I8,I6,G5,I1,M4,D0,pIf,L9,E4,L5,L6,M1,M5,D7,L3,L1,tOr,J4,M0,F0,A7,A6,B4,K6,K5,J8,J9,J7,D9,I0,inI,B8,B9,C5,C6,C3,C7,List.replicate]
   refine bq (r:=oA ((ps[63]?).join)) ⟨by decide,by decide⟩ ?_ ?_
   ·show(lst _ _).bind _=_
    rw[aX,Gz]
    unfold at'
    rw[if_neg (by decide),if_pos (by rw[Fd];lia),Fd,h1]
    show(ps.map oA)[63]?=_
    refine xE (hat 63 (by decide)) λ o ho=>?_
    rw[FK,ho]
    rfl
   generalize hB:V++(.list (((List.range (63+1)).map (W0 (gF gs))).map .int)::.list (ps.map oA)::τ)=B
   have sB:lst B V.length=some (((List.range 64).map (W0 (gF gs))).map .int):=by rw[<- hB];exact Y4
   have pB:lst B (V.length+1)=some (ps.map oA):=by rw[<- hB];exact aX
   dsimp only[N5,H3,A4,B5,B7,G2,sIf,F9,L7,H7,H0,I4,I5,I2,G4,A5,B6,G1,G7,G0,C2,I9,L4,D1,L2,H5,C9,I8,I6,G5,I1,M4,D0,pIf,L9,E4,L5,L6,M1,M5,D7,L3,L1,tOr,J4,M0,F0,A7,A6,B4,K6,K5,J8,J9,J7,D9,I0,inI,B8,B9,C5,C6,C3,C7,List.replicate]
   refine cS sB (D8 (by rw[Fd,Fd,FZ];decide)) ?_
   dsimp only[rgP,inI]
   rw[Fd,Fd,FZ]
   refine⟨by decide,?_⟩
   rw[cU,show(((64:Nat):Int)-0).toNat=64 from rfl]
   refine U6 (v:=λ i:Nat=>AV.int (0+i)) (λ m=>((ps[m]?).join).isSome) (λ m=>.tup [oA ((ps[m]?).join),.int (W0 (gF gs) m)]) (λ _=>trivial) (O4 (by rw[FZ];decide)) (λ m hm acc K K' a b=>?_) ?_
   ·have hm:m<64:=Gi.mp hm
    refine xE (hat m hm) λ o ho=>?_
    have px:∀{K:AV->Sto->Prop},K (oA o) (B++[.list acc])->bh (.ref (V.length+1)) (.int (0+(m:Int))) K (B++[.list acc]):=λ hK=>Y9 (D2 pB) (GR _) ho (zze h1 rfl) hK
    rw[ho]at a b
    dsimp only[A4,B5,B7,G2,sIf,F9,L7,H7,H0,I4,I5,I2,G4,A5,B6,G1,G7,G0,C2,I9,L4,D1,L2,H5,C9,I8,I6,G5,I1,M4,D0,pIf,L9,E4,L5,L6,M1,M5,D7,L3,L1,tOr,J4,M0,F0,A7,A6,B4,K6,K5,J8,J9,J7,D9,I0,inI,B8,B9,C5,C6,C3,C7,List.replicate]
    induction o with
    | none=>exact px (N7 (b:=false) rfl (b rfl))
    | some v=>
     refine px (N7 (b:=true) rfl (px ?_))
     exact bV (D2 sB) (GR _) (by rw[FK,FK,Hv hm];rfl) (by rw[Fd,Fd,FZ];decide) (And.intro (D8 (show 2<1000000 by decide)) (a rfl))
   ·have e:(((List.range 64).filter λ m=>((ps[m]?).join).isSome).map λ m=>AV.tup [oA ((ps[m]?).join),.int (W0 (gF gs) m)])=(((List.range 64).filter λ m=>((ps[m]?).join).isSome).map λ m=>(((ps[m]?).join).getD 0,W0 (gF gs) m)).map prA:=by
     rw[Gh]
     refine HG λ m hm=>?_
     have:=(Gm.mp hm).2
     refine xE (Jh.mp this) λ v hv=>?_
     simp only[Function.comp,hv]
     rfl
    have hlen:=Hj (λ m=>((ps[m]?).join).isSome) (List.range 64)
    rw[FZ]at hlen
    refine⟨_,by rw[E0,e],by rw[Fd];exact hlen,λ p hp=>?_,λ Ss s1 s2=>And.intro (D8 (show 2<1000000 by decide)) ?_⟩
    ·refine xE (FN.mp hp) λ m Z=>(λ J θ=>?_) Z.1 Z.2;rcases θ with rfl;clear Z
     exact qe hg.gb m
    ·have:=q (λ k=>(ps[k]?).join) Ss ((.list (((List.range (63+1)).map (W0 (gF gs))).map .int)::.list (ps.map oA)::τ)++[.list (((List.range 64).filter λ m=>((ps[m]?).join).isSome).map λ m=>AV.tup [oA ((ps[m]?).join),.int (W0 (gF gs) m)])]) (λ k hk=>by
      refine xE (hat k hk) λ o ho=>?_
      show cu _ _ _ ((ps[k]?).join)
      rw[ho]
      exact h2 k o ho) (λ x=>by
      rw[s1.mem_iff,FN]
      constructor
      ·rintro ⟨m,hm,rfl⟩
       obtain⟨a,b⟩:=Gm.mp hm
       refine xE (Jh.mp b) λ v hv=>?_
       exact⟨m,Gi.mp a,by rw[hv];rfl,rfl⟩
      ·rintro ⟨m,a,b,c⟩
       exact⟨m,Gm.mpr ⟨Gi.mpr a,by rw[b];rfl⟩,by rw[b];exact Oq rfl c.symm⟩) s2 (by rw[s1.length_eq,Fd];exact hlen)
     rw[<- Fz,hB]at this
     exact this
 ·have:=SeI.mk (gs:=gs) (os:=os) (ig:=ig) (io:=io) (V:=V) (i:=0) (ps:=[some 0]) (τ:=[]) (x4:=.undef) (x5:=.undef) (x6:=.undef) (x7:=.undef) (x8:=.undef) rfl (λ k o hk=>by
   have:=B3 hk
   have ek:k=0:=by rw[Gs]at this;exact Ks.mp this
   subst ek
   injection hk with hk
   subst hk
   exact cu.zero _ _)
  have e0:W0 (gF gs) 0=0:=rfl
  rw[show List.range (0+1)=[0]from rfl]at this
  simp only[Gg,List.map_nil,e0]at this
  rw[Fz,Fc]
  exact this
theorem yT(t:List Nat):Txt.count ⟨t.toArray⟩ ⟨#[10]⟩=(t.count 10:Nat):=by
 have:∀l:List Nat,cnt 10 l=(l.count 10:Nat):=λ l=>by
  induction l with
  | nil=>rfl
  | cons c l ih=>
   rw[cnt_cons,ih,KJ]
   by_cases h:c=10
   ·subst h;simp;exact KT _ _
   ·simp[h]
 exact(count_is _ _).trans (this t)
structure aR(n:Nat)(w:List Nat):Prop where
 mem:∀c∈w,c=32\/c=9
 len:w.length<=2*n
 runs:∀r∈(wsP w).1,r<=n
 tail:(wsP w).2<=n
theorem aR.mono{w:List Nat}(h:aR n w)(hm:n<=m):aR m w:=⟨h.mem,fp h.len (GN _ hm),λ r hr=>fp (h.runs r hr) hm,fp h.tail hm⟩
theorem aR.nil(n:Nat):aR n []:=⟨λ c h=>absurd h FO,Gb _,λ r h=>absurd h FO,Gb _⟩
theorem aR.tab{w:List Nat}(h:aR n w)(hl:w.length+1<=2*n):aR n (w++[9]):=by
 have e:wsP (w++[9])=((wsP w).1++[(wsP w).2],0):=by rw[g0];rfl
 refine⟨λ c hc=>?_,by rw[Fc];exact hl,λ r hr=>?_,by rw[e];exact Gb _⟩
 ·rcases FR.mp hc with hc|hc
  ·exact h.mem c hc
  ·exact .inr (Fh.mp hc)
 ·rw[e]at hr
  rcases FR.mp hr with hr|hr
  ·exact h.runs r hr
  ·rw[Fh.mp hr];exact h.tail
theorem aR.blank{w:List Nat}(h:aR n w):aR (n+1) (w++[32])/\(w++[32]).length+1<=2*(n+1):=by
 have e:wsP (w++[32])=((wsP w).1,(wsP w).2+1):=by rw[g0];rfl
 have hl:=h.len
 have hl2:(w++[32]).length+1<=2*(n+1):=by rw[Fc,Gs];exact Fq (Fq hl)
 refine⟨⟨λ c hc=>?_,FE hl2,λ r hr=>?_,by rw[e];exact Fq h.tail⟩,hl2⟩
 ·rcases FR.mp hc with hc|hc
  ·exact h.mem c hc
  ·exact .inl (Fh.mp hc)
 ·rw[e]at hr
  exact GD (h.runs r hr)
noncomputable def nr:List (List Nat):=[[],[32],[9],[32,9]]
theorem aR.piece{w p:List Nat}(h:aR n w)(hp:nr[i]?=some p):aR (n+1) (w++p):=by
 match i,hp with
 | 0,hp=>cases hp;rw[FL];exact h.mono (HS n)
 | 1,hp=>cases hp;exact h.blank.1
 | 2,hp=>cases hp;exact(h.mono (HS n)).tab (by have:=h.len;exact Fq (GD this))
 | 3,hp=>
  cases hp
  obtain⟨h1,h2⟩:=h.blank
  have:=h1.tab h2
  rw[Fz]at this
  exact this
 | i+4,hp=>simp[nr]at hp
noncomputable def kA(i:Int):List Nat:=(Str.ofString (toString i)).cps.toList
theorem nw:∀i:Fin 19,(kA ((i.1:Int)-9)).length<=2/\(∀c∈kA ((i.1:Int)-9),c≠10/\c≠34/\c≠92/\c<100)/\PySem.intText? ⟨(kA ((i.1:Int)-9)).toArray⟩=some ((i.1:Int)-9):=by decide +kernel
noncomputable def aS(w:List Nat)(k:Nat)(g:Int):List Nat:=w++[97+k]++kA g
def wm(c:Nat):Prop:=c≠10/\c≠34/\c≠92/\c<1000
structure qf(t:List Nat):Prop where
 mem:∀c∈t,wm c
 ne:t≠[]
 len:t.length<=20
theorem tu{w:List Nat}{g:Int}(h:aR 6 w)(hk:k<6)(hg:-9<=g/\g<=9):qf (aS w k g):=by
 obtain⟨h1,h2,_⟩:=nw ⟨(g+9).toNat,zzd hg⟩
 have e:(((g+9).toNat:Nat):Int)-9=g:=zzf hg
 dsimp only at h1 h2
 rw[e]at h1 h2
 refine⟨λ c hc=>?_,by simp[aS],?_⟩
 ·unfold aS at hc
  unfold wm
  rcases FR.mp hc with hc|hc
  ·rcases FR.mp hc with hc|hc
   ·have:=h.mem c hc;exact this.elim (λ e=>e.symm▸by decide) λ e=>e.symm▸by decide
   ·rw[Fh.mp hc];lia
  ·have:=h2 c hc;exact⟨this.1,this.2.1,this.2.2.1,zzb this.2.2.2 rfl⟩
 ·have:=h.len
  unfold aS
  rw[Fc,Fc,Gs]
  exact zzb (Ib (Fq this) h1) rfl
structure Itm where
 way:Nat
 w:List Nat
 ss:Nat
structure g7(t:Itm):Prop where
 way:t.way<3
 w:qf t.w
 ss:t.ss=10\/t.ss=32
noncomputable def aT(its:List Itm):List Nat:=its.flatMap λ t=>gZ t.way t.w++[t.ss]
theorem CI{t:Itm}(h:g7 t):∃used nl ws,gZ t.way t.w++[t.ss]=used++ws/\Tk used t.w nl/\used.count 10=nl.count 10/\(∀c∈ws,c∈wsL):=by
 obtain⟨way,w,s⟩:=t
 obtain⟨h1,⟨h2,h3,h4⟩,h5⟩:=h
 dsimp only at *
 have n10:w.count 10=0:=KY.mpr λ hm=>(h2 10 hm).1 rfl
 have hs:s∈wsL:=by rcases h5 with rfl|rfl <;> decide
 have e10:(esc w).count 10=0:=KY.mpr λ hm=>by
  refine xE (JQ.mp hm) λ c Z=>(λ hc hm=>?_) Z.1 Z.2;clear Z
  rcases Fv.mp hm with e|hm
  ·cases e
  ·have:=Fh.mp hm
   exact(h2 c hc).1 this.symm
 have q:∀its:List (Bool×Nat),txt its=w->(cg its).count 10=0->(∀e∈its,e.2≠10/\(e.1=false->e.2≠34/\e.2≠92))->∃used nl ws,34::(cg its++[34])++[s]=used++ws/\Tk used w nl/\used.count 10=nl.count 10/\(∀c∈ws,c∈wsL):=λ its e1 e2 e3=>by
  have:=Tk.quoted e3
  rw[e1]at this
  refine⟨_,_,[s],rfl,this,?_,λ c hc=>by rw[Fh.mp hc];exact hs⟩
  rw[KJ,HK,e2]
  rfl
 match way,h1 with
 | 0,_=>
  have e:cg (w.map λ c=>(false,c))=w:=by
   unfold cg
   rw[Nz]
   show w.flatMap (λ c=>[c])=w
   simp
  have:=q (w.map λ c=>(false,c)) (by unfold txt;rw[Gh];exact MA _) (by rw[e];exact n10) (λ x hx=>by
   refine xE (FN.mp hx) λ c Z=>(λ hc J=>?_) Z.1 Z.2;rcases J with rfl;clear Z
   have:=h2 c hc
   exact⟨this.1,λ Y=>⟨this.2.1,this.2.2.1⟩⟩)
  rw[e]at this
  exact this
 | 2,_=>
  have e:cg (w.map λ c=>(true,c))=esc w:=by
   unfold cg
   rw[Nz]
   rfl
  have:=q (w.map λ c=>(true,c)) (by unfold txt;rw[Gh];exact MA _) (by rw[e];exact e10) (λ x hx=>by
   refine xE (FN.mp hx) λ c Z=>(λ hc J=>?_) Z.1 Z.2;rcases J with rfl;clear Z
   exact⟨(h2 c hc).1,λ h=>nomatch h⟩)
  rw[e]at this
  exact this
 | 1,_=>
  refine xE (List.exists_cons_of_ne_nil h3) λ c Z=>xE Z λ r J=>?_;rcases J with rfl;clear Z
  have:=Tk.bare (c:=c) (its:=r) (w:=s) (h2 c (.head _)).1 (λ x hx=>(h2 x (.tail _ hx)).1) hs
  refine⟨_,_,[],?_,this,?_,λ c hc=>absurd hc FO⟩
  ·rw[FL];rfl
  ·show(esc (c::r)++[s]).count 10=_
   rw[HK,e10,Gy]
theorem iZ(t:Itm)(its:List Itm):aT (t::its)=gZ t.way t.w++[t.ss]++aT its:=by unfold aT;rw[HZ]
theorem mi{t:Itm}(h:g7 t):(gZ t.way t.w++[t.ss]).length<=50:=by
 have:=h.w.len
 have h3:=h.way
 have e:=ky t.w
 rw[Fc,Gs]
 match hw:t.way,h3 with
 | 0,_=>simp only[gZ,GB,Fc,Jx];exact zzb (Gr this 3) rfl
 | 1,_=>simp only[gZ];exact zzb (Fq (fp (Fw e) (GN 2 this))) rfl
 | 2,_=>simp only[gZ,GB,Fc,Jx];exact zzb (Gr (fp (Fw e) (GN 2 this)) 3) rfl
theorem dy:∀{its:List Itm},(∀t∈its,g7 t)->(aT its).length<=50*its.length
 | [],_=>Fn _
 | t::its,h=>by
  have h1:=mi (h t (.head _))
  have h2:=dy λ x hx=>h x (.tail _ hx)
  rw[iZ,Fc,GB]
  exact fp (Ib h1 h2) (Fw (Hl _ _))
theorem nz{a:Nat}(h:0<m/\m<10000)(q:Q (.int ((a / m:Nat):Int)) V):cK .FloorDiv (.int (a:Int)) (.int (m:Int)) Q V:=by
 refine vI ⟨λ Qv=>FU h.1 (Jg Qv),by unfold lim;lia⟩ ?_
 rw[IM _ (FX _)]
 exact q
theorem kB{a:Nat}(h:0<m)(q:Q (.int ((a % m:Nat):Int)) V):cK .Mod (.int (a:Int)) (.int (m:Int)) Q V:=by
 refine rj (λ Qv=>FU h (Jg Qv)) ?_
 rw[JJ _ (FX _)]
 exact q
noncomputable def pd(l:List Nat):List AV:=l.map λ n:Nat=>AV.int (n:Int)
theorem lb0(N:GF W)(G:GI W){sc:List Int}{K:G3->List AV->Sto->Prop}(h0:st[0]?=some (.clist sc))(hz:sc.length<=63)(hl:1<st.length)
  (q:∀(T:List Nat) (a:Nat) st' ρ,FrS [1] st st'->Pre V ρ->st'[1]?=some (.ref a)->T.length=6->lst ρ a=some (pd T)->K .next st' ρ):gL W (k+1) st K V:=by
 unfold gL
 dsimp only[B7,D0,fnB,A6,A7,C9,B6,I0,B4]
 refine C8 h0 rfl (And.intro (D8 (show 6<1000000 by decide)) ?_)
 refine vX N G (fs:=[96,606,1357,1692,696,1004]) aD rfl (by decide) hz λ T t1 t2=>?_
 obtain⟨Tn,rfl⟩:∃Tn:List Nat,T=Tn.map λ n:Nat=>(n:Int):=⟨T.map Int.toNat,by
  rw[Gh]
  refine(MA T).symm.trans (HG λ x hx=>?_)
  have:=t2 x hx
  show x=((x.toNat:Nat):Int)
  exact(Int.toNat_of_nonneg this.1).symm⟩
 refine q Tn _ _ _ (FrS.rfl'.set (.head _)) (Pre.rfl'.app.app) (K7 hl) (by rw[Fd]at t1;exact t1) ?_
 rw[E0,Gh]
 rfl
inductive LdI(st:List AV)(a:Nat)(V:Sto)(i:Nat):List AV->Sto->Prop
 | mk {st':List AV}{lds:List (List Nat)}{τ:Sto}:FrS [2,3,4] st st'->st'[2]?=some (.ref V.length)->lds.length=i->(∀j l,lds[j]?=some l->aR (j+1) l)->LdI st a V i st' (V++(.list (lds.map .str)::τ))
set_option tactic.hygienic true in
theorem lb2{T:List Nat}{a:Nat}{R:ST}{K:G3->List AV->Sto->Prop}(hs:4<st.length)(h1:st[1]?=some (.ref a))(hT:lst V a=some (pd T))(h6:T.length=6)
  (q:∀(lds:List (List Nat)) (b:Nat) st' ρ,FrS [2,3,4] st st'->Pre V ρ->st'[2]?=some (.ref b)->lds.length=6->lst ρ b=some (lds.map .str)->(∀j l,lds[j]?=some l->aR (j+1) l)->R st' K ρ):
  A4 (gM W k) (A4 (gN W k) R) st K V:=by
 unfold gM gN
 dsimp only[A4,B7,C9,A7,I0,B4,O7,H3,A6,B6]
 refine And.intro (D8 (show 0<1000000 by decide)) ?_
 dsimp only[rgP,inI]
 refine⟨by decide,U4 (n:=6) (LdI st a V) ?_ ?_ (.mk (lds:=[]) (FrS.rfl'.set (.head _)) (K7 (Fe (by decide) hs)) rfl λ j l h=>(by cases h))⟩
 ·rintro i st' ρ K hi h hK
  induction h with
  | mk f1 f2 f3 f4=>
   rename_i lds τ
   have f1':FrS [2,3,4] st (st'.set 3 (.int (0+i))):=f1.set (by decide)
   have e3:(st'.set 3 (.int (0+i)))[3]?=some (.int (0+i)):=K7 (by rw[f1.len];exact Fe (by decide) hs)
   have e1:=f1'.at h1 (by decide)
   have e2:(st'.set 3 (.int (0+i)))[2]?=some (.ref V.length):=E7 f2 (by decide)
   dsimp only[B4]
   generalize st'.set 3 (.int (0+i))=s at f1' e3 e1 e2 ⊢
   rw[GR]at e3
   obtain⟨t,ht⟩:∃t,T[i]?=some t:=⟨_,Ff (FQ hi h6.symm)⟩
   have ix:∀{ρ:Sto}{K:AV->Sto->Prop},Pre V ρ->K (.int (t:Int)) ρ->bh (.ref a) (.int (i:Int)) K ρ:=λ hp hK=>bV (hp.lst hT) rfl (by unfold pd;rw[FK,ht];rfl) (by unfold pd;rw[Fd];exact zze h6 rfl) hK
   have hp:Pre V (V++(.list (lds.map .str)::τ)):=⟨_,rfl⟩
   dsimp only[A4,B7,C9,A7,I0,B4,F9,D1,C2,G1,A6,B6,G5,B5,pIf,D7]
   refine And.intro (D8 (show 4<1000000 by decide)) (C8 e1 rfl (C8 e3 rfl (ix hp.app (nz (m:=6) (by decide) (kB (m:=4) (by decide) ?_)))))
   obtain⟨p,hpc⟩:∃p,nr[t / 6 % 4]?=some p:=⟨_,Ff (show t / 6 % 4<4 from Jw _ (by decide))⟩
   refine bV (L:=nr.map .str) E0 rfl (by rw[FK,hpc];rfl) (show 4<1000000 by decide) ?_
   have hl4:4<s.length:=by rw[f1'.len];exact hs
   have e4:(s.set 4 (.str p))[4]?=some (.str p):=K7 hl4
   have e1:(s.set 4 (.str p))[1]?=some (.ref a):=E7 e1 (by decide)
   have e2:(s.set 4 (.str p))[2]?=some (.ref V.length):=E7 e2 (by decide)
   have e3:(s.set 4 (.str p))[3]?=some (.int i):=E7 e3 (by decide)
   have f2':FrS [2,3,4] st (s.set 4 (.str p)):=f1'.set (by decide)
   generalize s.set 4 (.str p)=s at e1 e2 e3 e4 f2' ⊢
   rw[Fz,C3]
   rw[show ∀x:I3,τ++[x]=τ++[x]from λ _=>rfl]
   generalize τ++[I3.list _]=τ
   have hp:Pre V (V++(.list (lds.map .str)::τ)):=⟨_,rfl⟩
   have fin:∀w:List Nat,aR i w->∀K':AV->Sto->Prop,(∀υ,LdI st a V (i+1) s υ->K' .none υ)->A5 4 s (λ y OS=>cK .Add (.str w) y (λ x ON=>aG [.ref V.length,x] K' ON) OS) (V++(.list (lds.map .str)::τ)):=λ w hw K' hK'=>by
    have hpl:p.length<=2:=by have:=(aR.nil 0).piece hpc;have:=this.len;simpa using this
    have hwl:=hw.len
    refine C8 e4 rfl (fK (D8 (zzb (Fq (Ib (fp hwl (GN 2 (FE hi))) hpl)) rfl)) ?_)
    refine(cA Y4 (O4 (by rw[Fd];exact zzo f3 (zzb hi rfl))) ?_).2
    rw[gV]
    have:=LdI.mk (a:=a) (V:=V) (i:=i+1) (lds:=lds++[w++p]) (τ:=τ) f2' e2 (by rw[Fc,f3];rfl) λ j l hj=>by
     by_cases hlt:j<lds.length
     ·rw[Fs hlt]at hj;exact f4 j l hj
     ·have h2:=B3 hj
      rw[Fc,Gs]at h2
      have ej:j=lds.length:=Gv (FW h2) (Ht hlt)
      subst ej
      rw[Ga (Fn _),Kt]at hj
      cases hj
      rw[f3]
      exact hw.piece hpc
    rw[FG]at this
    exact hK' _ this
   refine C8 e2 rfl (And.intro (aQ Y4) (C8 e3 rfl (N7 (b:=decide (0<i)) (by show some (decide ((0:Int)<(i:Int)))=_;exact congrArg some (decide_eq_decide.mpr Int.natCast_pos)) ?_)))
   refine ti (λ hi0=>?_) λ hi0=>?_
   ·refine C8 e2 rfl (C8 e1 rfl (C8 e3 rfl (ix hp (C8 e3 rfl (kB hi0 ?_)))))
    obtain⟨w,hw⟩:∃w,lds[t % i]?=some w:=⟨_,Ff (by rw[f3];exact Jw _ hi0)⟩
    refine Y9 Y4 rfl hw (zzo f3 (zzb hi rfl)) ?_
    have:=Jw t hi0
    exact fin w ((f4 _ _ hw).mono this) _ λ υ h=>hK.nx _ _ h
   ·exact fin [] (aR.nil _) _ λ υ h=>hK.nx _ _ h
 ·rintro st' ρ h
  induction h with
  | mk f1 f2 f3 f4=>exact q _ _ _ _ f1 ⟨_,rfl⟩ f2 f3 Y4 f4
theorem lb3{T:List Nat}{a:Nat}{K:G3->List AV->Sto->Prop}(hs:st.length=45)(h1:st[1]?=some (.ref a))(hT:lst V a=some (pd T))(h6:T.length=6)
  (q:∀(gs:List Int) (b:Nat) st' ρ,FrS [5] st st'->Pre V ρ->st'[5]?=some (.ref b)->gs.length=6->(∀g∈gs,-9<=g/\g<=9)->lst ρ b=some (gs.map .int)->K .next st' ρ):gO W k st K V:=by
 unfold gO
 dsimp only[B7,N5,aF,I0,B4]
 refine C8 h1 rfl ?_
 refine gW (hT) ?_
 refine U6 (v:=λ n:Nat=>AV.int (n:Int)) (λ Y=>true) (λ n=>.int (((n / 24 % 19:Nat):Int)-9)) (λ acc=>D2 hT) (O4 (zze h6 rfl)) (λ n hn acc K K' h1 Y=>?_) ?_
 ·dsimp only[F0,C2,B6]
  exact C8 (K7 (zzg hs rfl)) rfl (nz (m:=24) (by decide) (kB (m:=19) (by decide) (fJ (h1 rfl))))
 ·refine q (T.map λ n:Nat=>((n / 24 % 19:Nat):Int)-9) _ _ _ (FrS.rfl'.set (.head _)) (Pre.rfl'.app) (K7 (zzg hs rfl)) (by rw[Fd,h6]) (λ g hg=>?_) ?_
  ·obtain⟨n,_,rfl⟩:=FN.mp hg
   have:=Jw (n / 24) (show 0<19 by decide)
   lia
  ·rw[E0,Gh,show(T.filter λ Y=>true)=T from Hu.mpr λ Y Y=>rfl]
   rfl
noncomputable def Q1(lds:List (List Nat))(gs:List Int):List (List Nat):=(List.range 6).map λ k=>aS (lds.getD k []) k (gs.getD k 0)
theorem lb4{lds:List (List Nat)}{gs:List Int}{a b:Nat}{K:G3->List AV->Sto->Prop}(hs:st.length=45)(h2:st[2]?=some (.ref a))(h5:st[5]?=some (.ref b))(hL:lst V a=some (lds.map .str))(l6:lds.length=6)(hO:∀j l,lds[j]?=some l->aR (j+1) l)
  (hG:lst V b=some (gs.map .int))(g6:gs.length=6)(gb:∀g∈gs,-9<=g/\g<=9)
  (q:∀(c:Nat) st' ρ,FrS [6] st st'->Pre V ρ->st'[6]?=some (.ref c)->lst ρ c=some ((Q1 lds gs).map .str)->K .next st' ρ):gP W k st K V:=by
 unfold gP
 dsimp only[G4,N5,H3,A6,A7,B6]
 dsimp only[rgP,inI]
 refine⟨by decide,?_⟩
 rw[cU]
 refine U6 (v:=λ i:Nat=>AV.int (0+i)) (λ Y=>true) (λ k=>.str (aS (lds.getD k []) k (gs.getD k 0))) (λ Y=>trivial) (O4 (by rw[FZ];decide)) (λ k hk acc K K' h1 Y=>?_) ?_
 ·have hk:k<6:=Gi.mp hk
  obtain⟨l,hl⟩:∃l,lds[k]?=some l:=⟨_,Ff (FQ hk l6.symm)⟩
  obtain⟨g,hg⟩:∃g,gs[k]?=some g:=⟨_,Ff (FQ hk g6.symm)⟩
  have e:aS (lds.getD k []) k (gs.getD k 0)=l++[97+k]++kA g:=by
   unfold aS
   rw[FA,FA,hl,hg]
   rfl
  have hz:=(hO k l hl).len
  have hgb:=gb g (FD hg)
  obtain⟨s1,_⟩:=nw ⟨(g+9).toNat,zzd hgb⟩
  rw[show(((g+9).toNat:Nat):Int)-9=g from zzf hgb]at s1
  rw[e]at h1
  have e31:(st.set 31 (.int (0+(k:Int))))[31]?=some (.int (0+(k:Int))):=K7 (zzg hs rfl)
  dsimp only[F0,C2,D1,D0,A6,A7,G1]
  refine C8 (E7 h2 (by decide)) rfl (C8 e31 rfl (Y9 (D2 hL) (GR _) hl (zze l6 rfl) (C8 e31 rfl ?_)))
  refine bq (r:=.str [97+k]) ⟨zzm,Jr (HN (GR _)) (zzi hk rfl)⟩ ?_ (fK (D8 (by rw[Gs];exact zzb (Fq (Fq (fp hz (GN 2 hk)))) rfl)) (C8 (E7 h5 (by decide)) rfl (C8 e31 rfl (Y9 (D2 hG) (GR _) hg (zze g6 rfl) ?_))))
  ·show(at' _ _).map _=_
   rw[GR,ko]
   have e:((List.range 6).map λ k=>97+k)[k]?=some (97+k):=by rw[FK,Hv hk];rfl
   exact congrArg (Option.map λ c=>AV.str [c]) e
  ·exact And.intro (show g.natAbs<lim by unfold lim;lia) (fK (D8 (by rw[Fc,Gs];show _+(kA g).length<_;exact zzb (Fq (Ib (Fq (fp hz (GN 2 hk))) s1)) rfl)) (h1 rfl))
 ·refine q _ _ _ (FrS.rfl'.set (.head _)) (Pre.rfl'.app) (K7 (zzg hs rfl)) ?_
  rw[E0]
  unfold Q1
  rw[Gh]
  rfl
theorem kC{lds:List (List Nat)}{gs:List Int}(l6:lds.length=6)(hO:∀j l,lds[j]?=some l->aR (j+1) l)(g6:gs.length=6)(gb:∀g∈gs,-9<=g/\g<=9)(hk:k<6):
  ∃l g,lds[k]?=some l/\gs[k]?=some g/\aR 6 l/\(-9<=g/\g<=9)/\(Q1 lds gs)[k]?=some (aS l k g)/\qf (aS l k g):=by
 obtain⟨l,hl⟩:∃l,lds[k]?=some l:=⟨_,Ff (FQ hk l6.symm)⟩
 obtain⟨g,hg⟩:∃g,gs[k]?=some g:=⟨_,Ff (FQ hk g6.symm)⟩
 have h1:=(hO k l hl).mono (show k+1<=6 from hk)
 have h2:=gb g (FD hg)
 refine⟨l,g,hl,hg,h1,h2,?_,tu h1 hk h2⟩
 unfold Q1
 rw[FK,Hv hk]
 simp only[JZ]
 rw[FA,FA,hl,hg]
 rfl
inductive TxI(st:List AV)(V:Sto)(ws:List (List Nat))(i:Nat):List AV->Sto->Prop
 | mk {st':List AV}{its:List Itm}{ρ:Sto}:FrS [3,7] st st'->st'[7]?=some (.str (aT its))->its.length=i->(∀t∈its,g7 t)->its.map (·.w)=ws.take i->Pre V ρ->TxI st V ws i st' ρ
set_option tactic.hygienic true in
theorem lb6(N:GF W)(G:GI W){T:List Nat}{ws:List (List Nat)}{a c:Nat}{R:ST}{K:G3->List AV->Sto->Prop}(hs:st.length=45)(h1:st[1]?=some (.ref a))(hT:lst V a=some (pd T))(h6:T.length=6)
  (h6':st[6]?=some (.ref c))(hW:lst V c=some (ws.map .str))(w6:ws.length=6)(wo:∀w∈ws,qf w)
  (q:∀(its:List Itm) st' ρ,FrS [3,7] st st'->Pre V ρ->st'[7]?=some (.str (aT its))->its.length=6->(∀t∈its,g7 t)->its.map (·.w)=ws->R st' K ρ):A4 (gQ W (k+1)) (A4 (gR W (k+1)) R) st K V:=by
 unfold gQ gR
 dsimp only[A4,B7,I0,B4,O7,H3,A6,A7,B6,G1]
 dsimp only[rgP,inI]
 refine⟨by decide,U4 (n:=6) (TxI st V ws) ?_ ?_ (.mk (its:=[]) (FrS.rfl'.set (by decide)) (K7 (zzg hs rfl)) rfl (λ t h=>absurd h FO) rfl Pre.rfl')⟩
 ·rintro i st' ρ K hi h hK
  cases h with
  | mk f1 f2 f3 f4 f5 hp=>
   rename_i its
   dsimp only[B4]
   have f1':FrS [3,7] st (st'.set 3 (.int (0+i))):=f1.set (by decide)
   have e3:(st'.set 3 (.int (0+i)))[3]?=some (.int (0+i)):=K7 (by rw[f1.len];exact zzg hs rfl)
   have e1:=f1'.at h1 (by decide)
   have e6:=f1'.at h6' (by decide)
   have e7:(st'.set 3 (.int (0+i)))[7]?=some (.str (aT its)):=E7 f2 (by decide)
   generalize st'.set 3 (.int (0+i))=s at f1' e3 e1 e6 e7 ⊢
   rw[GR]at e3
   obtain⟨t,ht⟩:∃t,T[i]?=some t:=⟨_,Ff (FQ hi h6.symm)⟩
   obtain⟨w,hw⟩:∃w,ws[i]?=some w:=⟨_,Ff (FQ hi w6.symm)⟩
   have wk:=wo w (FD hw)
   have ix:∀{ρ:Sto}{K:AV->Sto->Prop},Pre V ρ->K (.int (t:Int)) ρ->bh (.ref a) (.int (i:Int)) K ρ:=λ hp hK=>bV (hp.lst hT) rfl (by unfold pd;rw[FK,ht];rfl) (by unfold pd;rw[Fd];exact zze h6 rfl) hK
   dsimp only[A4,B7,C9,A7,I0,B4,D1,C2,G1,A6,B6,D0,fnB,B5]
   refine C8 e7 rfl (C8 e6 rfl (C8 e3 rfl (Y9 (hp.lst hW) rfl hw (zze w6 rfl) ?_)))
   refine C8 e1 rfl (C8 e3 rfl (ix hp (nz (m:=456) (by decide) (kB (m:=3) (by decide) ?_))))
   refine vY N G (by have:=wk.len;exact zzb (Fq this) rfl) (Jw _ (by decide)) λ τ _=>?_
   have hl:=dy f4
   have it:g7 ⟨t / 456 % 3,w,[10,32].getD (t / 1368 % 2) 0⟩:=⟨Jw _ (by decide),wk,by
    have:=Jw (t / 1368) (show 0<2 by decide)
    match t / 1368 % 2,this with
    | 0,_=>exact .inl rfl
    | 1,_=>exact .inr rfl⟩
   have hsl:=mi it
   rw[Fc]at hsl
   refine fK (D8 (by dsimp only at hsl;exact zzb (Fq (Ib (fp hl (GN 50 (fp (Fw f3) (FE hi)))) (fp (Fi _ _) hsl))) rfl)) (And.intro (D8 (show 2<1000000 by decide)) (C8 e1 rfl (C8 e3 rfl (ix hp.app.app (nz (m:=1368) (by decide) (kB (m:=2) (by decide) ?_))))))
   refine bV (x:=.str [[10,32].getD (t / 1368 % 2) 0]) E0 rfl ?_ (show 2<1000000 by decide) ?_
   ·have:=Jw (t / 1368) (show 0<2 by decide)
    match t / 1368 % 2,this with
    | 0,_=>rfl
    | 1,_=>rfl
   ·refine fK (D8 (by rw[Fc,Gs];dsimp only at hsl;exact zzb (Fq (Fq (Ib (fp hl (GN 50 (fp (Fw f3) (FE hi)))) (fp (Fi _ _) hsl)))) rfl)) ?_
    refine hK.nx _ _ (.mk (its:=its++[⟨t / 456 % 3,w,[10,32].getD (t / 1368 % 2) 0⟩]) (f1'.set (by decide)) ((K7 (by rw[f1'.len];exact zzg hs rfl)).trans ?_) (by rw[Fc,f3];rfl) (λ x hx=>?_) ?_ hp.app.app)
    ·unfold aT
     rw[JU,Fz]
     simp
    ·rcases FR.mp hx with hx|hx
     ·exact f4 x hx
     ·rw[Fh.mp hx];exact it
    ·rw[FG,f5,Ko,hw]
     rfl
 ·rintro st' ρ h
  induction h with
  | mk f1 f2 f3 f4 f5 hp=>
   exact q _ _ _ f1 hp f2 f3 f4 (by rw[f5,Hg (Fw w6)])
theorem wq[DecidableEq α]{v:α->AV}(inj:∀a b,v a=v b->a=b){l m:List α}(hv:∀a∈l,AV.ok 3 (v a)=true)(hv':∀a∈m,AV.ok 3 (v a)=true)(hi:lst V i=some (l.map v))(hj:lst V j=some (m.map v)):
  cC V .Eq (.ref i) (.ref j)=some (decide (l=m))/\cC V .NotEq (.ref i) (.ref j)=some (!decide (l=m)):=by
 have ok:∀l:List α,(∀a∈l,AV.ok 3 (v a)=true)->AV.okL 3 (l.map v)=true:=λ l h=>jy λ x hx=>by refine xE (FN.mp hx) λ a Z=>(λ ha J=>?_) Z.1 Z.2;rcases J with rfl;clear Z;exact h a ha
 refine xE (rE hi hj (ok l hv) (ok m hv') (by decide) (by decide)) λ b Z=>(λ e1 e2=>?_) Z.1 Z.2;clear Z
 have e:b=decide (l=m):=by
  rw[Ie,e2,decide_eq_true_eq]
  exact⟨λ h=>(Nc λ a b=>inj a b).mp h,λ h=>by rw[h]⟩
 rw[e]at e1
 exact⟨e1,by show(eqS _ _ _).map _=_;rw[e1];rfl⟩
theorem qf.ok{w:List Nat}(h:qf w):AV.ok 3 (.str w)=true:=by
 simp only[AV.ok,PyData.strOk,Array.all_eq_true_iff_forall_mem,NA,decide_eq_true_eq]
 intro c hc
 have:=(h.mem c hc).2.2.2
 exact zzb this rfl
structure Rd(p:LxP)(ρ:Sto)(n:Nat)(ws:List Nat)(its:List Itm)(υ:Sto):Prop where
 lex:O8 υ p n (1+((p.t.take n).count 10:Nat)) []
 sp:∀c∈ws,c∈wsL
 rest:p.t.drop n=ws++aT its
 le:n<=p.t.length
 len:ρ.length<=υ.length
 same:∀x,x<ρ.length->x≠p.ii->x≠p.il->υ[x]?=ρ[x]?
theorem Rd.next(N:GF W)(G:GI W){p:LxP}{ρ υ:Sto}{ws:List Nat}{t:Itm}{its:List Itm}(h:Rd p ρ n ws (t::its) υ)(ht:p.t.length<900000)(ok:g7 t)
  (q:∀n' ws' Pp,υ.length<=Pp.length->(∀x,x<υ.length->x≠p.ii->x≠p.il->Pp[x]?=υ[x]?)->Rd p ρ n' ws' its Pp->Q (.str t.w) Pp):M8 W (k+4) E3 [.ref p.ii] Q υ:=by
 refine xE (CI ok) λ used Z=>xE Z λ nl J=>xE J λ ws' θ=>(λ e1 e2 e3 e4=>?_) θ.1 θ.2.1 θ.2.2.1 θ.2.2.2;clear Z J θ
 have hr:=h.rest
 rw[iZ,e1]at hr
 have hr2:p.t.drop n=(ws++used)++(ws'++aT its):=by rw[hr];simp
 have hlen:(p.t.drop n).length=p.t.length-n:=Ho ..
 rw[hr2,Fc]at hlen
 refine ng (k:=k) N G h.lex ht h.sp (r:=ws'++aT its) (.inl ⟨hr2,e2⟩) λ Pp l1 l2 l3=>q (n+(ws++used).length) ws' Pp (zzl l1) l2 ⟨?_,e4,?_,by have:=h.le;exact fp (Gf (fp (Fi _ _) (Fw hlen)) _) (Fw (Hp this)),by have:=h.len;exact fp this (zzl l1),λ x hx h1 h2=>(l2 x (by have:=h.len;exact fp hx this) h1 h2).trans (h.same x hx h1 h2)⟩
 ·rw[List.take_add,hr2,List.take_left,HK (l₁:=p.t.take n),HK,e3]
  rw[HK]at l3
  rw[show(1:Int)+((p.t.take n).count 10:Nat)+((ws.count 10+nl.count 10:Nat):Int)=1+(((p.t.take n).count 10+(ws.count 10+nl.count 10):Nat):Int)from It _ _ _]at l3
  exact l3
 ·rw[<- Jl,hr2,Ol]
theorem Rd.last(N:GF W)(G:GI W){p:LxP}{ρ υ:Sto}{ws:List Nat}(h:Rd p ρ n ws [] υ)(ht:p.t.length<900000)
  (q:∀Pp,υ.length<=Pp.length->(∀x,x<υ.length->x≠p.ii->x≠p.il->Pp[x]?=υ[x]?)->Rd p ρ p.t.length [] [] Pp->Q (.str []) Pp):M8 W (k+4) E3 [.ref p.ii] Q υ:=by
 have hr:p.t.drop n=ws:=by rw[h.rest];exact FL _
 have hlen:(p.t.drop n).length=p.t.length-n:=Ho ..
 have hn:=h.le
 rw[hr]at hlen
 refine ng (k:=k) (used:=[]) (tok:=[]) (nl:=[]) (r:=[]) N G h.lex ht h.sp (.inr ⟨hr,hn,rfl,rfl,rfl⟩) λ Pp l1 l2 l3=>q Pp (zzl l1) l2 ?_
 have en:n+(ws++[]).length=p.t.length:=by rw[FL];exact(congrArg (_ + ·) hlen).trans (Hp hn)
 rw[en,FL]at l3
 refine⟨?_,λ c hc=>absurd hc FO,by rw[Lv];rfl,Fn _,by have:=h.len;exact fp this (zzl l1),λ x hx h1 h2=>(l2 x (by have:=h.len;exact fp hx this) h1 h2).trans (h.same x hx h1 h2)⟩
 have e:p.t.count 10=(p.t.take n).count 10+ws.count 10:=by
  rw[<- hr,<- HK,GJ]
 rw[Jo,e]
 rw[show(1:Int)+(((p.t.take n).count 10+ws.count 10:Nat):Int)=1+((p.t.take n).count 10:Nat)+(ws.count 10:Nat) by lia]
 exact l3
inductive TkI(p:LxP)(ρ:Sto)(its:List Itm)(j:Nat):List Nat->List AV->Sto->Prop
 | mk {d r:List Itm}{ks:List Nat}{n:Nat}{ws:List Nat}{υ:Sto}:its=d++r->ks.length=r.length->Rd p ρ n ws r υ->lst υ j=some (d.map λ t=>.str t.w)->TkI p ρ its j ks (d.map λ t=>.str t.w) υ
set_option tactic.hygienic true in
theorem lb8(N:GF W)(G:GI W){p:LxP}{ρ:Sto}{its:List Itm}{K:G3->List AV->Sto->Prop}(hs:st.length=45)(h8:st[8]?=some (.ref p.ii))(hp:O8 ρ p 0 1 [])(e:p.t=aT its)(h6:its.length=6)(ok:∀t∈its,g7 t)
  (q:∀n ws d st' υ,FrS [9] st st'->Rd p ρ n ws [] υ->st'[9]?=some (.ref d)->lst υ d=some (its.map λ t=>.str t.w)->K .next st' υ):gS W (k+4) st K ρ:=by
 unfold gS
 dsimp only[B7,N5,H3,A6,A7,B6,I0,B4]
 dsimp only[rgP,inI]
 refine⟨by decide,?_⟩
 rw[cU]
 have hz:=dy ok
 have ii:=B3 hp.inst
 have il:=B3 hp.pos
 have gi:∀{υ:Sto}{n:Nat}{ln:Int},O8 υ p n ln []->iK cL υ (.ref p.ii):=λ h=>V6 h.inst
 refine fj (v:=λ i:Nat=>AV.int (0+i)) (TkI p ρ its ρ.length) (λ _ _ _ _=>trivial) ?_ ?_ _ _ _ (.mk (d:=[]) (r:=its) (n:=0) (ws:=[]) rfl (by rw[FZ,h6];rfl) ⟨?_,λ c hc=>absurd hc FO,by rw[My,e];rfl,Gb _,by rw[Fc];exact Fi ..,λ x hx _ _=>Fs hx⟩ E0)
 ·intro i ks acc υ K2 K' h h1 h2
  cases h with
  | mk a1 a2 a3 a4=>
   rename_i d r n ws
   cases r with
   | nil=>cases a2
   | cons t r=>
    dsimp only[F0,I1,A7]
    refine C8 (E7 h8 (by decide)) rfl (And.intro (gi a3.lex) (a3.next N G (by rw[e];exact Fe hz (h6.symm▸by decide)) (ok t (by rw[a1];simp)) λ n' ws' Pp b1 b2 b3=>?_))
    have hj:lst Pp ρ.length=some (d.map λ t=>.str t.w):=by
     rw[<- a4]
     unfold lst
     rw[b2 ρ.length (B3 (F6 a4)) (FU ii) (FU il)]
    have hdl:d.length<=6:=by rw[<- h6,a1,Fc];exact Fi _ _
    refine h1 _ _ _ hj (O4 (by rw[Fd];exact zzb (Fq hdl) rfl)) ?_
    have lj:=B3 (F6 hj)
    have:=TkI.mk (p:=p) (ρ:=ρ) (its:=its) (j:=ρ.length) (d:=d++[t]) (r:=r) (ks:=ks) (n:=n') (ws:=ws') (υ:=Pp.set ρ.length (.list (d.map (λ t=>.str t.w)++[.str t.w]))) (by rw[a1];simp) (by simpa using a2)
     ⟨b3.lex.keep (X:=[ρ.length]) (λ x hx=>by
       obtain rfl:=Fh.mp hx
       exact⟨_,F6 hj,by simp,by simp⟩) (λ x hx hn=>Fg (λ e=>hn (by rw[<- e];exact .head _))) (λ x hx hm=>by
       obtain rfl:=Fh.mp hm
       have:=B3 hp.pbk
       simp only[LxP.ix,Fv,FO,or_false]at hx
       exact hx.elim (FU ii) λ h=>h.elim (FU this) (FU il)),
      b3.sp,b3.rest,b3.le,by rw[Fj];exact b3.len,λ x hx c1 c2=>by rw[Fg (FU hx)];exact b3.same x hx c1 c2⟩
     (by rw[FG];unfold lst;rw[Fu lj];rfl)
    rw[FG]at this
    exact this
 ·intro acc υ h
  cases h with
  | mk a1 a2 a3 a4=>
   rename_i d r n ws
   have:r=[]:=HL a2.symm
   subst this
   rw[FL]at a1
   subst a1
   exact q n ws _ _ _ (FrS.rfl'.set (.head _)) a3 (K7 (zzg hs rfl)) a4
 ·rw[List.take_zero]
  exact hp.app
theorem CJ{t s:List Nat}{i:Int}(e:Txt.count ⟨t.toArray⟩ ⟨s.toArray⟩=i)(q:Q (.int i) V):zU [.str t,.str s] Q V:=by
 subst e;exact q
theorem lb9(N:GF W)(G:GI W){p:LxP}{ρ υ:Sto}{its:List Itm}{d c:Nat}{ws:List Nat}{K:G3->List AV->Sto->Prop}(h8:st[8]?=some (.ref p.ii))(h7:st[7]?=some (.str p.t))(h9:st[9]?=some (.ref d))(h6:st[6]?=some (.ref c))
  (hz:p.t.length<900000)(h:Rd p ρ n ws [] υ)(hd:lst υ d=some (its.map λ t=>.str t.w))(hc:lst υ c=some ((its.map (·.w)).map .str))(ok:∀t∈its,g7 t)
  (q:∀Pp,υ.length<=Pp.length->(∀x,x<υ.length->x≠p.ii->x≠p.il->Pp[x]?=υ[x]?)->K .next st Pp):gT W (k+4) st K υ:=by
 unfold gT
 dsimp only[sIf,M0,D7,I1,I6,C2,B6,G5,G1,A6,A7,B5,A4]
 have okw:∀a∈its.map (·.w),AV.ok 3 (.str a)=true:=λ a ha=>by
  obtain⟨t,ht,rfl⟩:=FN.mp ha
  exact(ok t ht).w.ok
 have hd':lst υ d=some ((its.map (·.w)).map .str):=by rw[hd,Gh];rfl
 refine C8 h9 rfl (C8 h6 rfl (N7 (wq (v:=AV.str) (λ a b e=>by injection e) okw okw hd' hc).2 ?_))
 rw[decide_eq_true rfl]
 refine C8 h8 rfl (And.intro (V6 h.lex.inst) (h.last N G hz λ Pp b1 b2 b3=>?_))
 refine N7 (b:=false) rfl ?_
 have hx:=b3.lex
 rw[Jo]at hx
 refine C8 h8 rfl (aE hx.inst rfl (C8 h7 rfl (And.intro trivial ?_)))
 have e10:Txt.count ⟨p.t.toArray⟩ ⟨#[10]⟩=(p.t.count 10:Nat):=yT _
 refine CJ e10 (S0 (N7 (b:=false) ?_ ?_))
 ·show some (!decide _)=_
  rw[decide_eq_true rfl]
  rfl
 ·rw[if_neg (by decide)]
  exact q Pp b1 b2
theorem g8{l:List α}(d:α)(h:l.length=n):l=(List.range n).map λ k=>l.getD k d:=by
 refine Nk λ i=>?_
 rw[FK]
 by_cases hi:i<n
 ·rw[Hv hi,Ff (FQ hi h.symm)]
  simp[FA,Ff (show i<l.length from FQ hi h.symm)]
 ·rw[IU (fp (Fw h) (Ht hi)),IU (by rw[FZ];exact Ht hi)];rfl
theorem fY{y:I3}(h:lst V i=some l)(hn:j≠i):lst (V.set j y) i=some l:=by
 exact J1 ((Fg hn).trans (F6 h))
theorem b9{m:List AV}(h:lst V i=some l):lst (V.set i (.list m)) i=some m:=gU (B3 (F6 h)) m
theorem WsO.set{w:List Nat}{y:I3}(h:WsO V i w)(hl:lst V j=some l):WsO (V.set j y) i w:=by
 obtain⟨t,cnt,e,n⟩:=h.ex
 refine⟨⟨t,cnt,?_,n⟩,h.runs,h.tail,h.len⟩
 rw[Fg]
 ·exact e
 ·rintro rfl
  have:=F6 hl
  rw[e]at this
  cases this
noncomputable def ldF(lds:List (List Nat))(k:Nat):List Nat:=lds.getD k []
theorem wt{lds:List (List Nat)}(l6:lds.length=6)(hO:∀j l,lds[j]?=some l->aR (j+1) l)(hk:k<6):aR 6 (ldF lds k):=by
 have:lds[k]?=some (ldF lds k):=by
  unfold ldF
  rw[FA,Ff (FQ hk l6.symm)]
  rfl
 exact(hO k _ this).mono hk
inductive AZ(w:Nat->List Nat)(V:Sto)(j:Nat)(i:Nat):List AV->Sto->Prop
 | mk {is:List Nat}{υ:Sto}:is.length=i->(∀k a,is[k]?=some a->WsO υ a (w k))->Pre V υ->lst υ j=some (is.map .ref)->AZ w V j i (is.map .ref) υ
theorem EJ(N:GF W)(G:GI W){lds:List (List Nat)}{gs:List Int}{d:Nat}{K:G3->List AV->Sto->Prop}(hs:st.length=45)(h9:st[9]?=some (.ref d))(hd:lst V d=some ((Q1 lds gs).map .str))(l6:lds.length=6)(hO:∀j l,lds[j]?=some l->aR (j+1) l)
  (q:∀im st' ρ,FrS [10] st st'->Pre V ρ->st'[10]?=some (.ref im)->Mk6 ρ im (ldF lds) 6->K .next st' ρ):ei W (k+5) st K V:=by
 unfold ei
 dsimp only[B7,N5,aF,I0,B4]
 refine C8 h9 rfl (gW hd ?_)
 have e:(Q1 lds gs).map AV.str=(List.range' 0 6).map λ k=>AV.str (ldF lds k++([97+k]++kA (gs.getD k 0))):=by unfold Q1;rw[Gh,Iz];exact HG λ k Y=>congrArg AV.str (Fz ..)
 rw[e]
 refine gX (AZ (ldF lds) V V.length) (λ ks acc υ h=>?_) ?_ ?_ 6 0 _ _ rfl (.mk (is:=[]) rfl (λ k a h=>G9 h) Pre.rfl'.app E0)
 ·induction h with
  | mk a2 a3 a4 a5=>rw[a4.lst hd,<- e]
 ·intro i acc υ K2 K' hi h h1 h2
  induction h with
  | @mk is υ a2 a3 a4 a5=>
   have ho:=wt l6 hO hi
   have hz:(ldF lds i).length<1000:=Fe ho.len (by decide)
   dsimp only[F0,D0,A6,A7,nwC,nwB]
   refine C8 (K7 (hs▸by decide)) rfl ?_
   have hr:∀c,([97+i]++kA (gs.getD i 0)).head?=some c->c≠32/\c≠9:=λ c hc=>by
    cases hc
    exact⟨FU (Fo (by decide) (Fi 97 _)),FU (Fo (by decide) (Fi 97 _))⟩
   refine yL (W:=W) (k:=k+3) N G (V:=υ++[.inst cW []]) (i:=υ.length) (w:=ldF lds i) (r:=[97+i]++kA (gs.getD i 0)) (Q:=λ r OP=>r=AV.none/\K2 (.ref υ.length) OP) aD ho.mem hr hz λ cnt τ hc=>⟨rfl,?_⟩
   rw[dq]
   generalize ldF lds i++([97+i]++kA (gs.getD i 0))=w
   have hj:lst (υ++[.inst cW (wsM w (ldF lds i) cnt)]++τ) V.length=some (is.map .ref):=D2 (D2 a5)
   refine h1 _ _ _ hj (O4 (by rw[Fd,a2];exact FF hi (by decide))) ?_
   have:=AZ.mk (w:=ldF lds) (V:=V) (j:=V.length) (is:=is++[υ.length]) (i:=i+1) (υ:=(υ++[I3.inst cW (wsM w (ldF lds i) cnt)]++τ).set V.length (I3.list (is.map AV.ref++[AV.ref υ.length]))) (by rw[Fc,a2];rfl) (λ k a hk=>by
    rcases ri hk with hk|⟨rfl,rfl⟩
    ·exact((a3 k a hk).app.app).set hj
    ·rw[a2]
     exact(WsO.app ⟨⟨_,cnt,aD,hc⟩,ho.runs,ho.tail,hz⟩).set hj) (a4.app.app.set (Fn _)) (by rw[FG];exact b9 hj)
   rw[FG]at this
   exact this
 ·intro acc υ h
  induction h with
  | mk a2 a3 a4 a5=>exact q _ _ _ (FrS.rfl'.set (.head _)) a4 (K7 (hs▸by decide)) ⟨⟨_,F6 a5,a2,a3⟩⟩
theorem Mk6.nat{im:Nat}{w:Nat->List Nat}(h:Mk6 V im w n):∃is:List Nat,lst V im=some ((List.range n).map λ k=>AV.ref (is.getD k 0))/\∀k,k<n->∀{K:AV->Sto->Prop}(ρ:Sto),Pre V ρ->K (.int (w k).length) ρ->so (.ref (is.getD k 0)) 5 K ρ:=by
 refine xE h.ex λ is Z=>(λ e hn h=>?_) Z.1 Z.2.1 Z.2.2;clear Z
 refine⟨is,?_,λ k hk K ρ hp hK=>?_⟩
 ·rw[J1 e]
  have:=congrArg (List.map AV.ref) (g8 0 hn)
  rw[Gh]at this
  exact congrArg some this
 ·have hi:is[k]?=some (is.getD k 0):=by rw[FA,Ff (FQ hk hn.symm)];rfl
  refine xE ((h k _ hi).ex) λ t Z=>xE Z λ cnt J=>(λ e1 n1=>?_) J.1 J.2;clear Z J
  refine xE hp λ τ Z=>?_;rcases Z with rfl;clear hp
  exact aE (m:=wsM t (w k) cnt) (by rw[Fs (B3 e1)];exact e1) rfl hK
theorem Pre.mk6{ρ:Sto}{im:Nat}{w:Nat->List Nat}(hp:Pre V ρ)(h:Mk6 V im w n):Mk6 ρ im w n:=by
 obtain⟨τ,rfl⟩:=hp
 exact h.app
theorem EK{lds:List (List Nat)}{im a:Nat}{K:G3->List AV->Sto->Prop}(hs:st.length=45)(h10:st[10]?=some (.ref im))(h2:st[2]?=some (.ref a))(hM:Mk6 V im (ldF lds) 6)(hL:lst V a=some (lds.map .str))(l6:lds.length=6)(hz:∀k,k<6->(ldF lds k).length<=12)
  (q:∀ρ,Pre V ρ->K .next st ρ):eu W k st K V:=by
 refine xE (hM.nat) λ is Z=>(λ e1 e2=>?_) Z.1 Z.2;clear Z
 have hL':lds.map AV.str=(List.range 6).map λ k=>AV.str (ldF lds k):=by
  have:=congrArg (List.map AV.str) (g8 [] l6)
  rw[Gh]at this
  exact this
 unfold eu
 dsimp only[sIf,D7,N5,aF]
 refine C8 h10 rfl ?_
 refine gW (e1) ?_
 refine U6 (v:=λ k=>AV.ref (is.getD k 0)) (λ Y=>true) (λ k=>.int (ldF lds k).length) (λ acc=>D2 e1) (O4 (by rw[FZ];decide)) (λ k hk acc K K' h1 Y=>?_) ?_
 ·dsimp only[F0,I6]
  exact C8 (K7 (zzg hs rfl)) rfl (e2 k (Gi.mp hk) _ Pre.rfl'.app (h1 rfl))
 refine C8 h2 rfl ?_
 refine gW (D2 hL) ?_
 rw[hL']
 refine U6 (v:=λ k=>AV.str (ldF lds k)) (λ Y=>true) (λ k=>.int (ldF lds k).length) (λ acc=>by rw[<- hL'];exact D2 (D2 hL)) (O4 (by rw[FZ];decide)) (λ k hk acc K K' h1 Y=>?_) ?_
 ·dsimp only[F0,D0,A6,A7]
  exact C8 (K7 (zzg hs rfl)) rfl (And.intro (D8 (by have:=hz k (Gi.mp hk);exact zzb (Fq this) rfl)) (h1 rfl))
 have ef:((List.range 6).filter λ Y=>true)=List.range 6:=Hu.mpr λ Y Y=>rfl
 rw[ef]
 have el:((List.range 6).map λ k=>AV.int ((ldF lds k).length:Nat))=((List.range 6).map λ k=>((ldF lds k).length:Int)).map .int:=by rw[Gh];rfl
 refine N7 (dw (l:=(List.range 6).map λ k=>((ldF lds k).length:Int)) (m:=(List.range 6).map λ k=>((ldF lds k).length:Int)) (by rw[el];exact D2 E0) (by rw[el];exact E0)).2 ?_
 rw[decide_eq_true rfl,if_neg (by decide)]
 exact q _ Pre.rfl'.app.app
theorem Ba(l:List α)(n:Nat)(h:n<=l.length):c6 l (some ((n:Nat):Int)) none=l.drop n:=by
 unfold c6
 dsimp only
 rw[show((some ((n:Nat):Int)).getD 0).toNat=n from rfl,Hg (by rw[Ho];exact Fn _)]
theorem EL{lds:List (List Nat)}{gs:List Int}{im d:Nat}{K:G3->List AV->Sto->Prop}(hs:st.length=45)(h10:st[10]?=some (.ref im))(h9:st[9]?=some (.ref d))(hM:Mk6 V im (ldF lds) 6)(hd:lst V d=some ((Q1 lds gs).map .str))(l6:lds.length=6)(hO:∀j l,lds[j]?=some l->aR (j+1) l)
  (g6:gs.length=6)(gb:∀g∈gs,-9<=g/\g<=9)
  (q:∀g st' ρ,FrS [11] st st'->Pre V ρ->st'[11]?=some (.ref g)->lst ρ g=some (gs.map .int)->K .next st' ρ):ew W k st K V:=by
 refine xE (hM.nat) λ is Z=>(λ e1 e2=>?_) Z.1 Z.2;clear Z
 unfold ew
 dsimp only[G4,N5,H3,A6,A7,B6]
 dsimp only[rgP,inI]
 refine⟨by decide,?_⟩
 rw[cU]
 refine U6 (v:=λ i:Nat=>AV.int (0+i)) (λ Y=>true) (λ k=>.int (gs.getD k 0)) (λ Y=>trivial) (O4 (by rw[FZ];decide)) (λ k hk acc K K' h1 Y=>?_) ?_
 ·have hk:k<6:=Gi.mp hk
  refine xE (kC l6 hO g6 gb hk) λ l Z=>xE Z λ g J=>(λ a1 a2 a3 a4 a5 a6=>?_) J.1 J.2.1 J.2.2.1 J.2.2.2.1 J.2.2.2.2.1 J.2.2.2.2.2;clear Z J
  have el:ldF lds k=l:=by unfold ldF;rw[FA,a1];rfl
  have eg:gs.getD k 0=g:=by rw[FA,a2];rfl
  rw[eg]at h1
  have e36:(st.set 36 (.int (0+(k:Int))))[36]?=some (.int (0+(k:Int))):=K7 (zzg hs rfl)
  dsimp only[F0,D0,A6,A7,L2,D1,H5,C2,I6,B6]
  refine C8 (E7 h9 (by decide)) rfl (C8 e36 rfl (bV (D2 hd) (GR _) (by rw[FK,a5];rfl) (by rw[Fd];unfold Q1;rw[Fd,FZ];decide) ?_))
  refine C8 (E7 h10 (by decide)) rfl (C8 e36 rfl (bV (D2 e1) (GR _) (by rw[FK,Hv hk];rfl) (by rw[Fd,FZ];decide) ?_))
  refine e2 k hk _ Pre.rfl'.app (S0 ?_)
  dsimp only[wU]
  rw[el]
  refine⟨⟨by show(0:Int)<=_;exact Int.le_add_one (FX _),trivial⟩,D8 (by have:=a6.len;exact zzb (Fq this) rfl),?_⟩
  have ec:c6 (aS l k g) (some (((l.length:Nat):Int)+1)) none=kA g:=by
   rw[show(((l.length:Nat):Int)+1)=((l.length+1:Nat):Int)from rfl]
   have hlen:l.length+1=(l++[97+k]).length:=by rw[Fc];rfl
   rw[Ba _ _ (by unfold aS;rw[hlen,Fc (as:=l++[97+k])];exact Fi ..),hlen]
   unfold aS
   exact Ol ..
  rw[ec]
  obtain⟨s1,_,s3⟩:=nw ⟨(g+9).toNat,zzd a4⟩
  rw[show(((g+9).toNat:Nat):Int)-9=g from zzf a4]at s1 s3
  refine And.intro (zzb s1 rfl) ?_
  rw[s3]
  exact h1 rfl
 ·refine q _ _ _ (FrS.rfl'.set (.head _)) (Pre.rfl'.app) (K7 (zzg hs rfl)) ?_
  rw[E0,show(((6:Int)-0).toNat)=6 from rfl,show((List.range 6).filter λ Y=>true)=List.range 6 from rfl]
  have:=congrArg (List.map AV.int) (g8 0 g6)
  rw[Gh]at this
  exact congrArg some this.symm
abbrev ltD(lds:List (List Nat))(a b:Nat):Prop:=lt8 (ldF lds a) (ldF lds b)
noncomputable def tw(lds:List (List Nat)):List Int:=(List.range 6).map (dF (ltD lds))
theorem EM(N:GF W)(G:GI W){lds:List (List Nat)}{im:Nat}{K:G3->List AV->Sto->Prop}(hs:st.length=45)(h10:st[10]?=some (.ref im))(hM:Mk6 V im (ldF lds) 6)
  (q:∀o st' ρ,FrS [12] st st'->Pre V ρ->st'[12]?=some (.ref o)->lst ρ o=some ((tw lds).map .int)->K .next st' ρ):ez W (k+5) st K V:=by
 unfold ez
 dsimp only[B7,D0,fnB,A6,A7,I0,B4]
 refine C8 h10 rfl (yQ (k:=k+2) N G hM (by decide) λ τ=>?_)
 exact q _ _ _ (FrS.rfl'.set (.head _)) ⟨_,rfl⟩ (K7 (zzg hs rfl)) Y4
structure Cl6(V:Sto)(ic:Nat)(w:Nat->List Nat):Prop where
 ex:∃cs:List Nat,lst V ic=some (cs.map .ref)/\cs.length=6/\∀k c,cs[k]?=some c->lst V c=some ((jW (w k)).map .int)
theorem Cl6.pre{ρ:Sto}{ic:Nat}{w:Nat->List Nat}(h:Cl6 V ic w)(hp:Pre V ρ):Cl6 ρ ic w:=by
 refine xE h.ex λ cs Z=>(λ a b c=>?_) Z.1 Z.2.1 Z.2.2;clear Z
 exact⟨cs,hp.lst a,b,λ k x e=>hp.lst (c k x e)⟩
inductive ClI(w:Nat->List Nat)(V:Sto)(j:Nat)(i:Nat):List AV->Sto->Prop
 | mk {cs:List Nat}{υ:Sto}:cs.length=i->(∀k c,cs[k]?=some c->j<c/\lst υ c=some ((jW (w k)).map .int))->Pre V υ->lst υ j=some (cs.map .ref)->ClI w V j i (cs.map .ref) υ
theorem CK{a b:Nat}(ha:a<6)(hb:b<6):-1000000<(a:Int)+1/\(a:Int)+1<1000000/\-1000000<(b:Int)+1/\(b:Int)+1<1000000:=⟨zzm,zzi (GV ha) rfl,zzm,zzi (GV hb) rfl⟩
theorem EN(N:GF W)(G:GI W){lds:List (List Nat)}{a:Nat}{K:G3->List AV->Sto->Prop}(hs:st.length=45)(h2:st[2]?=some (.ref a))(hL:lst V a=some (lds.map .str))(l6:lds.length=6)
  (q:∀ic st' ρ,FrS [13] st st'->Pre V ρ->st'[13]?=some (.ref ic)->Cl6 ρ ic (ldF lds)->K .next st' ρ):eA W (k+5) st K V:=by
 have hL':lds.map AV.str=(List.range' 0 6).map λ k=>AV.str (ldF lds k):=by
  have:=congrArg (List.map AV.str) (g8 [] l6)
  rw[Gh,Iz]at this
  exact this
 unfold eA
 dsimp only[B7,N5,aF,I0,B4]
 refine C8 h2 rfl (gW hL ?_)
 rw[hL']
 refine gX (ClI (ldF lds) V V.length) (λ i acc υ h=>?_) ?_ ?_ 6 0 _ _ rfl (.mk (cs:=[]) rfl (λ k a h=>G9 h) Pre.rfl'.app E0)
 ·induction h with
  | mk a2 a3 a4 a5=>rw[a4.lst hL,<- hL']
 ·intro i acc υ K2 K' hi h h1 h2
  induction h with
  | @mk cs υ a2 a3 a4 a5=>
   dsimp only[F0,D0,fnB,A6,A7,B6]
   refine C8 (K7 (hs▸by decide)) rfl (vZ N G ?_)
   have hj:=D2 (τ:=[I3.list ((jW (ldF lds i)).map .int)]) a5
   have hlt:=B3 (F6 a5)
   refine h1 _ _ _ hj (O4 (by rw[Fd,a2];exact FF hi (by decide))) ?_
   have:=ClI.mk (w:=ldF lds) (V:=V) (j:=V.length) (cs:=cs++[υ.length]) (i:=i+1) (υ:=(υ++[I3.list ((jW (ldF lds i)).map .int)]).set V.length (I3.list (cs.map AV.ref++[AV.ref υ.length]))) (by rw[Fc,a2];rfl) (λ k c hk=>by
    rcases ri hk with hk|⟨rfl,rfl⟩
    ·obtain⟨b1,b2⟩:=a3 k c hk
     exact⟨b1,fY (D2 b2) (FP b1)⟩
    ·rw[a2]
     exact⟨hlt,fY E0 (FP hlt)⟩) (a4.app.set (Fn _)) (by rw[FG];exact b9 hj)
   rw[FG]at this
   exact this
 ·intro acc υ h
  induction h with
  | mk a2 a3 a4 a5=>exact q _ _ _ (FrS.rfl'.set (.head _)) a4 (K7 (hs▸by decide)) ⟨_,a5,a2,λ k c h=>(a3 k c h).2⟩
theorem rM{v w:List Nat}:fR (jW v) (jW w)=[]↔lt8 v w:=by
 unfold fR jW
 rw[KQ,Jt]
 have:((List.range 8).map λ i:Nat=>bN v (1+i)).zip ((List.range 8).map λ i:Nat=>bN w (1+i))=(List.range 8).map λ i:Nat=>(bN v (1+i),bN w (1+i)):=by
  rw[List.zip_map',]
 rw[this]
 constructor
 ·intro h t ht
  have:=h (bN v (1+t),bN w (1+t)) (FN.mpr ⟨t,Gi.mpr ht,rfl⟩)
  simpa using this
 ·rintro h ⟨a,b⟩ hx
  obtain⟨t,ht,e⟩:=FN.mp hx
  injection e with e1 e2
  subst e1 e2
  have:=h t (Gi.mp ht)
  simpa using this
def duT(W:Wld)(k:Nat):TT:=(L3 (J4 (D0 (fnB W k aq) (A6 (D1 (A5 13) (A5 38)) (A6 (D1 (A5 13) (A5 39)) A7)))))
def duI(W:Wld)(k:Nat):TT:=(D7 .Eq (N5 (H3 (A6 (C2 .Add (A5 38) (B6 1)) (A6 (C2 .Add (A5 3) (B6 1)) A7))) (duT W k) (A5 39) 39) (C9 A7))
theorem yU(N:GF W)(G:GI W){ω:Sto}{lds:List (List Nat)}{ic a:Nat}{F:Bool->Sto->Prop}(hs:st.length=45)(h13:st[13]?=some (.ref ic))(h38:st[38]?=some (.int a))(h3:st[3]?=some (.int i))(hC:Cl6 ω ic (ldF lds))(ha:a<i)(hi:i<6)
  (q:∀(b:Bool) (υ:Sto),(b=true↔∀x,a<x->x<=i->ltD lds a x)->Pre ω υ->F b υ):duI W (k+5) st F ω:=by
 unfold duI
 dsimp only[D7,N5,H3,A6,A7,C2,B6,C9]
 refine C8 h38 rfl (S0 (C8 h3 rfl (S0 ⟨CK (FF ha hi) hi,?_⟩)))
 dsimp only
 rw[fV,show(((i:Int)+1)-((a:Int)+1)).toNat=i-a from(Jy (_+1) (_+1)).trans (JE _ 1 _)]
 refine xE hC.ex λ cs Z=>(λ c1 c2 c3=>?_) Z.1 Z.2.1 Z.2.2;clear Z
 refine iC (λ x=>open Classical in !decide (ltD lds a (a+1+x))) (λ x=>.int ((a+1+x:Nat):Int)) (λ Y Y=>trivial) (O4 (zzb (Fe (HH _ _) hi) rfl)) (λ x υ K K' hx hp h1 h2=>?_) λ υ hp hl=>?_
 ·have col:∀n,n<6->∃c,cs[n]?=some c/\lst υ c=some ((jW (ldF lds n)).map .int):=λ n hn=>by
   have hc:cs[n]?=some cs[n]:=Ff (c2▸hn)
   exact⟨_,hc,hp.lst (c3 n _ hc)⟩
  refine xE (col a (FF ha hi)) λ ca Z=>(λ f1 f2=>?_) Z.1 Z.2;clear Z
  refine xE (col (a+1+x) (Fe (fp (Fw (Nt _ _)) (Hw hx)) hi)) λ cx Z=>(λ g1 g2=>?_) Z.1 Z.2;clear Z
  have e39:(st.set 39 (.int ((a:Int)+1+x)))[39]?=some (.int ((a:Int)+1+x)):=K7 (hs▸by decide)
  have z6:cs.length<1000000:=c2▸by decide
  unfold duT
  dsimp only[L3,J4,D0,fnB,A6,A7,D1]
  refine C8 (E7 h13 (by decide)) rfl (C8 (E7 h38 (by decide)) rfl (Y9 (hp.lst c1) rfl f1 z6 (C8 (E7 h13 (by decide)) rfl (C8 e39 rfl (Y9 (p:=a+1+x) (hp.lst c1) rfl g1 z6 ?_)))))
  refine wa N G f2 g2 (by rw[kz,kz]) (by rw[kz];decide) λ τ Y=>gh rfl ?_
  by_cases hl:ltD lds a (a+1+x)
  ·rw[decide_eq_true (rM.mpr hl)]
   exact h2 _ Pre.rfl'.app (by rw[open Classical in decide_eq_true hl];rfl)
  ·rw[decide_eq_false (λ h=>hl (rM.mp h))]
   exact C8 e39 rfl (h1 _ Pre.rfl'.app (by rw[open Classical in decide_eq_false hl];rfl))
 ·refine And.intro (D8 (show 0<1000000 by decide)) ?_
  have e:(((List.range (i-a)).filter λ x=>open Classical in !decide (ltD lds a (a+1+x))).map λ x=>AV.int ((a+1+x:Nat):Int))=((((List.range (i-a)).filter λ x=>open Classical in !decide (ltD lds a (a+1+x))).map λ x=>((a+1+x:Nat):Int))).map .int:=by rw[Gh];rfl
  rw[e]at hl
  refine N7 (dw (m:=[]) (D2 hl) E0).1 (q _ _ ?_ hp.app)
  rw[decide_eq_true_eq,KQ,Jt]
  have key:∀x,¬(open Classical in !decide (ltD lds a (a+1+x)))=true↔ltD lds a (a+1+x):=λ x=>by
   by_cases hl:ltD lds a (a+1+x)
   ·rw[open Classical in decide_eq_true hl];exact⟨λ Y=>hl,λ Y=>Hi⟩
   ·rw[open Classical in decide_eq_false hl];exact⟨λ h=>absurd rfl h,λ h=>absurd h hl⟩
  constructor
  ·intro h x h1 h2
   refine xE (Lk (Nu h1)) λ d Z=>?_;rcases Z with rfl
   exact(key d).mp (h d (Gi.mpr (Nat.lt_sub_iff_add_lt'.mpr (fp (Fw (Nt _ _).symm) h2))))
  ·intro h x hx
   have hx:=Gi.mp hx
   exact(key x).mpr (h (a+1+x) (Fo (FY a) (Fi ..)) (fp (Fw (Nt _ _)) (Hw hx)))
noncomputable def bp(l:List Nat):List AV:=l.map λ x:Nat=>AV.int (x:Int)
def duH(W:Wld)(k:Nat):ST:=(G4 (N5 (H3 (A6 (A5 3) A7)) (duI W k) (A5 38) 38) 15)
def duA:ST:=(A4 (F9 (G5 (A5 14) O1 aG (A6 (D0 gu (A6 (C2 .Add (C9 (A6 (I9 (B6 1)) A7)) (A5 15)) A7)) A7))) B5)
theorem yV(N:GF W)(G:GI W){ω:Sto}{lds:List (List Nat)}{ic:Nat}{K:G3->List AV->Sto->Prop}(hs:st.length=45)(h13:st[13]?=some (.ref ic))(h3:st[3]?=some (.int i))(hC:Cl6 ω ic (ldF lds))(hi:i<6)
  (q:∀(c:Nat) (υ:Sto),Pre ω υ->lst υ c=some (bp (bu (ltD lds) i))->K .next (st.set 15 (.ref c)) υ):duH W (k+5) st K ω:=by
 unfold duH
 dsimp only[G4,N5,H3,A6,A7]
 refine C8 h3 rfl ?_
 refine zl (FF hi (by decide)) ?_
 rw[fV,show((i:Int)-0).toNat=i from rfl]
 refine iC (λ a=>open Classical in decide (∀x,a<x->x<=i->ltD lds a x)) (λ a=>.int ((a:Nat):Int)) (λ Y Y=>trivial) (O4 (FF hi (by decide))) (λ a υ K K' ha hp h1 h2=>?_) λ υ hp hl=>?_
 ·have e38:(st.set 38 (.int (0+(a:Int))))[38]?=some (.int (a:Int)):=by rw[GR];exact K7 (hs▸by decide)
  refine yU N G (lds:=lds) (a:=a) (i:=i) (by rw[Fj];exact hs) (E7 h13 (by decide)) e38 (E7 h3 (by decide)) (hC.pre hp) ha hi λ b Pp hb hp'=>?_
  induction b with
  | true=>exact C8 e38 rfl (h1 _ hp' (open Classical in decide_eq_true (hb.mp rfl)))
  | false=>exact h2 _ hp' (open Classical in decide_eq_false λ h=>Hi (hb.mpr h))
 ·rw[qP (L:=ltD lds) (k:=i) (λ j Y=>by simp)]at hl
  exact q _ _ hp hl
inductive DuI(lds:List (List Nat))(st:List AV)(V:Sto)(i:Nat):List AV->Sto->Prop
 | mk {st':List AV}{υ:Sto}:FrS [3,14,15] st st'->st'[14]?=some (.ref V.length)->Pre V υ->lst υ V.length=some (((List.range i).map (dF (ltD lds))).map .int)->DuI lds st V i st' υ
theorem EO(N:GF W)(G:GI W){lds:List (List Nat)}{ic:Nat}{R:ST}{K:G3->List AV->Sto->Prop}(hs:st.length=45)(h13:st[13]?=some (.ref ic))(hC:Cl6 V ic (ldF lds))
  (q:∀c st' ρ,FrS [3,14,15] st st'->Pre V ρ->st'[14]?=some (.ref c)->lst ρ c=some ((tw lds).map .int)->R st' K ρ):A4 (eB W (k+5)) (A4 (eC W (k+5)) R) st K V:=by
 rw[show eC W (k+5)=O7 (H3 (A6 (B6 6) A7)) (B4 3) (A4 (duH W (k+5)) duA)from rfl]
 unfold eB
 dsimp only[A4,B7,C9,A7,I0,B4,O7,H3,A6,B6]
 refine And.intro (D8 (show 0<1000000 by decide)) ?_
 dsimp only[rgP,inI]
 refine⟨by decide,U4 (n:=6) (DuI lds st V) ?_ ?_ (.mk (FrS.rfl'.set (by decide)) (K7 (zzg hs rfl)) Pre.rfl'.app E0)⟩
 ·rintro i st' υ K hi h hK
  induction h with
  | mk f1 f2 f3 f4=>
   dsimp only[B4,A4]
   have f1':FrS [3,14,15] st (st'.set 3 (.int (0+i))):=f1.set (by decide)
   have e3:(st'.set 3 (.int (0+i)))[3]?=some (.int (0+i)):=K7 (by rw[f1.len];exact zzg hs rfl)
   have e14:(st'.set 3 (.int (0+i)))[14]?=some (.ref V.length):=E7 f2 (by decide)
   generalize st'.set 3 (.int (0+i))=s at f1' e3 e14 ⊢
   rw[GR]at e3
   have hl:s.length=45:=by rw[f1'.len];exact hs
   refine yV N G (lds:=lds) hl (f1'.at h13 (by decide)) e3 (hC.pre f3) hi λ c Pp hp hc=>?_
   have f15:(s.set 15 (.ref c))[15]?=some (.ref c):=K7 (zzg hl rfl)
   have f14:(s.set 15 (.ref c))[14]?=some (.ref V.length):=E7 e14 (by decide)
   have fs:FrS [3,14,15] st (s.set 15 (.ref c)):=f1'.set (by decide)
   generalize s.set 15 (.ref c)=s' at f15 f14 fs ⊢
   have hj:=hp.lst f4
   have hhl:(bu (ltD lds) i).length<=6:=by
    have h1:=Hj (λ j=>open Classical in decide (ltD lds j i)) (dE (ltD lds) i)
    have h2:=jX (L:=ltD lds) i
    unfold bu
    exact fp (fp h1 h2) (FE hi)
   unfold duA
   dsimp only[A4,F9,G5,A6,A7,D0,C2,C9,I9,B6,B5]
   refine C8 f14 rfl (And.intro (aQ hj) (And.intro (D8 (show 1<1000000 by decide)) (C8 f15 rfl (mX E0 (D2 hc) (D8 (by unfold bp;rw[Fd];show 1+_<_;exact zzo (Hl _ _) (zzb (GV (Fq hhl)) rfl))) ?_))))
   refine⟨(-1)::(bu (ltD lds) i).map (λ j:Nat=>(j:Int)),by rw[E0];unfold bp;rw[Gg,Gh];rfl,by simp,λ M hM hmax=>?_⟩
   have eM:M=dF (ltD lds) i:=sV (xJ i) hM hmax
   refine(cA (D2 (D2 hj)) (O4 (by rw[Fd,Fd,FZ];exact zzb hi rfl)) ?_).2
   refine hK.nx _ _ (.mk fs f14 ((f3.trans hp).app.app.set (Fn _)) ?_)
   rw[b9 (D2 (D2 hj)),ID,FG,FG,eM]
   rfl
 ·rintro st' υ h
  induction h with
  | mk f1 f2 f3 f4=>exact q _ _ _ f1 f3 f2 f4
theorem EP{os:List Int}{a b:Nat}{K:G3->List AV->Sto->Prop}(h12:st[12]?=some (.ref a))(h14:st[14]?=some (.ref b))(ha:lst V a=some (os.map .int))(hb:lst V b=some (os.map .int))(q:K .next st V):eD W k st K V:=by
 unfold eD
 dsimp only[sIf,D7]
 refine C8 h12 rfl (C8 h14 rfl (N7 (dw ha hb).2 ?_))
 rw[decide_eq_true rfl,if_neg (by decide)]
 exact q
theorem yW(lds:List (List Nat)){gs:List Int}(g6:gs.length=6)(gb:∀g∈gs,-9<=g/\g<=9):SeG gs (tw lds):=by
 refine⟨g6,by unfold tw;rw[Fd,FZ],λ i o h=>?_,gb⟩
 unfold tw at h
 have hi:=B3 h
 rw[Fd,FZ]at hi
 rw[FK,Hv hi]at h
 cases h
 exact xK i
theorem wu{l:List Value}(h:TriplesOk l)(s:Str)(t:Tok):l[1]?≠some (.str s t):=by
 match l,h with
 | [],_=>exact λ e=>nomatch e
 | .int _ _::.int _ _::_::_,_=>exact λ e=>nomatch e
theorem O8.ext0{OP:Sto}{P:Addr}{ps:Array Value}{qs:List (Pos×Str)}{p:LxP}{ln:Int}{pb:List AV}(T:V5 V P ps qs)(h:O8 V p n ln pb)(E:V4 V OP):O8 OP p n ln pb:=by
 have z:∀{j:Nat}{y:I3},V[j]?=some y->y≠.raw P (tbO ps)->OP[j]?=some y:=fun{j y} e hn=>E.2 j y (λ h0=>by subst h0;rw[T.raw]at e;cases e;exact hn rfl) e
 refine⟨z h.inst (by simp),z h.pbk (by simp),?_,?_,z h.pos (by simp),h.ne⟩
 ·refine xE h.has λ i1 Z=>xE Z λ i2 J=>xE J λ o θ=>xE θ λ fd ξ=>xE ξ λ d ϑ=>xE ϑ λ es ϖ=>xE ϖ λ m ϱ=>(λ a1 a2 a3 a4 a5 a6=>?_) ϱ.1 ϱ.2.1 ϱ.2.2.1 ϱ.2.2.2.1 ϱ.2.2.2.2.1 ϱ.2.2.2.2.2;clear Z J θ ξ ϑ ϖ ϱ
  exact⟨i1,i2,o,fd,d,es,m,z a1 (λ e=>by injection e with _ e;subst e;cases a3),a2,a3,a4,z a5 (λ e=>by injection e with _ e;cases e),a6⟩
 ·obtain⟨ib,j1,j2,ic,c1,c2,cc,nm,qual,pm,ctv,oc,vs,tt,e1,e2,e3,e4,e5,e6⟩:=h.rd
  refine⟨ib,j1,j2,ic,c1,c2,cc,nm,qual,pm,ctv,oc,vs,tt,z e1 (λ e=>by injection e with _ e;cases e),z e2 (by simp),z e3 (by simp),z e4 (λ e=>?_),e5,e6⟩
  injection e with _ e
  subst e
  cases e5
  exact wu T.ok qual tt (by rw[<- e6];simp)
theorem kD:∀{R:List Blk}(h:∀b∈R,b.pl≠[]),R.length<=(R.flatMap (·.pl)).length/\∀b∈R,b.pl.length<=(R.flatMap (·.pl)).length
 | [],_=>⟨Fn _,λ b h=>absurd h FO⟩
 | b::R,h=>by
  obtain⟨h1,h2⟩:=kD λ x hx=>h x (.tail _ hx)
  have hb:=List.length_pos_iff.mpr (h b (.head _))
  rw[HZ,Fc,GB]
  refine⟨fp (Fq h1) (fp (Fw (Hl _ 1)) (Gr hb _)),λ x hx=>?_⟩
  rcases Fv.mp hx with rfl|hx
  ·exact Fi _ _
  ·have:=h2 x hx;exact fp this (GO _ _)
theorem GoodR.small{own:Nat->Option Nat}{g:Nat->Int}{ns:List Nat}{R:List Blk}(h:GoodR own g ns R):R.length<=ns.length/\∀b∈R,b.pl≠[]/\b.pl.length<=ns.length:=by
 have ne:∀b∈R,b.pl≠[]:=λ b hb e=>by
  have:=(h.blk b hb).need (b.need-1)
  rw[e]at this
  have h2:b.need<=b.need-1:=this.mpr (by simp[ok])
  lia
 obtain⟨h1,h2⟩:=kD ne
 rw[h.perm.length_eq]at h1 h2
 exact⟨h1,λ b hb=>⟨ne b hb,h2 b hb⟩⟩
theorem Z9.permNs{own:Nat->Option Nat}{ns ns' X:List Nat}(h:Z9 own ns X)(hp:ns.Perm ns'):Z9 own ns' X:=
 ⟨h.nd,λ j hj=>hp.mem_iff.mp (h.sub j hj),λ A j B e i hi hin=>h.prec A j B e i hi (hp.mem_iff.mpr hin)⟩
theorem GoodR.permNs{own:Nat->Option Nat}{g:Nat->Int}{ns ns':List Nat}{R:List Blk}(h:GoodR own g ns R)(hp:ns.Perm ns'):GoodR own g ns' R:=
 ⟨hp.nodup_iff.mp h.nd,h.sorted,h.perm.trans hp,h.valid.permNs hp,h.blk,λ X hX=>let ⟨r,a,b⟩:=h.dom X (hX.permNs hp.symm);⟨r,a,λ e=>b (e.trans hp.symm)⟩⟩
structure Pd where
 c:Ch
 p:LxP
structure PI(os:List Int)(g:Nat->Int)(k n0 il:Nat)(pend:List Pd)(L:List AV)(υ:Sto):Prop where
 good:∀e∈pend,lN (bc os) g e.c.kk e.c.ns e.c.R
 perm:(M6 (pend.map (·.c))).Perm (List.range' k (6-k))
 ks:pend.map (λ e=>e.c.kk)=(List.range' k (6-k)).filter λ j=>decide (os.getD j 0<(k:Int))
 llen:L.length=6
 ref:∀e∈pend,L[e.c.kk]?=some (.ref e.p.ii)
 lst:Internal.lst υ il=some L
 lex:∀e∈pend,∃ln,O8 υ e.p 0 ln (e.c.R.map N2)
 t0:∀e∈pend,e.p.t=[]
 dj:pend.Pairwise λ e e'=>∀x∈e.p.ix,x∉e'.p.ix
 ab:∀e∈pend,∀x∈e.p.ix,n0<=x
 le:n0<=υ.length
 il0:il<n0
theorem PI.nd{os:List Int}{g:Nat->Int}{n0 il:Nat}{pend:List Pd}{L:List AV}{υ:Sto}(h:PI os g k n0 il pend L υ):(M6 (pend.map (·.c))).Nodup:=h.perm.nodup_iff.mpr Li
theorem PI.lsOk{os:List Int}{g:Nat->Int}{n0 il:Nat}{pend:List Pd}{L:List AV}{υ:Sto}(h:PI os g k n0 il pend L υ)(s:Pd->Bool):AQ ((pend.filter s).map (·.p)):=by
 refine⟨λ j p hj=>?_,λ j j' p p' hj hj' hne x hx hx'=>?_⟩
 ·obtain⟨e,he,rfl⟩:=FN.mp (FD hj)
  exact h.t0 e (Gm.mp he).1
 ·have pw:((pend.filter s).map (·.p)).Pairwise λ p p':LxP=>∀x∈p.ix,x∉p'.ix:=Lj.mpr (h.dj.filter s)
  have pw:=He.mp pw
  obtain⟨a1,a2⟩:=FC.mp hj
  obtain⟨b1,b2⟩:=FC.mp hj'
  rcases IH j j' with q|q
  ·have:=pw j j' a1 b1 q
   rw[a2,b2]at this
   exact this x hx hx'
  ·have:=pw j' j b1 a1 (Gj q (HE hne))
   rw[a2,b2]at this
   exact this x hx' hx
theorem PI.allLex{os:List Int}{g:Nat->Int}{n0 il:Nat}{pend:List Pd}{L:List AV}{υ:Sto}(h:PI os g k n0 il pend L υ)(s:Pd->Bool):P6 υ ((pend.filter s).map (·.p)) ((pend.filter s).map λ e=>e.c.R):=by
 refine⟨by rw[Fd,Fd],λ j p r hj hr=>?_⟩
 rw[FK]at hj hr
 cases he:(pend.filter s)[j]? with
 | none=>rw[he]at hj;cases hj
 | some e=>
  rw[he]at hj hr
  cases hj;cases hr
  exact h.lex e (Gm.mp (FD he)).1
theorem rN{k':Nat}(N:GF W)(G:GI W){os:List Int}{g:Nat->Int}{n0 il q:Nat}{pend:List Pd}{L:List AV}{υ:Sto}(h:PI os g k n0 il pend L υ)(s:Pd->Bool)(hq:υ[q]?=some (.list ((pend.filter s).map λ e=>.ref e.p.ii)))(hqx:∀e∈pend,q∉e.p.ix)
  (hQ:∀Pp T ro,Mrg ((pend.filter s).map λ e=>e.c.R) T->FrX ((pend.filter s).map (·.p)) υ Pp->υ.length<=ro->Pp[ro]?=some (.list (T.map λ x=>N2 x.2))->Q (.ref ro) Pp):M8 W (k'+5) P7 [.ref q] Q υ:=by
 have hlen:pend.length<=6:=by
  have:=congrArg List.length h.ks
  rw[Fd]at this
  have h2:=Hj (λ j=>decide (os.getD j 0<(k:Int))) (List.range' k (6-k))
  rw[Io]at h2
  exact fp (Fw this) (fp h2 (HH _ _))
 have hf:=Hj s pend
 refine yI N G (h.lsOk s) (h.allLex s) (by rw[hq,Gh];rfl) (λ j p hj=>?_) (by rw[Fd];exact zzb (Fq (fp hf hlen)) rfl) ?_ hQ
 ·obtain⟨e,he,rfl⟩:=FN.mp (FD hj)
  exact hqx e (Gm.mp he).1
 ·have small:∀l:List Pd,(∀e∈l,e.c.R.length<=6)->((l.map λ e=>e.c.R).flatten).length<=6*l.length:=λ l=>by
   induction l with
   | nil=>intro _;exact Fn _
   | cons e l ih=>
    intro hl
    have h1:=hl e (.head _)
    have h2:=ih λ x hx=>hl x (.tail _ hx)
    rw[Gg,Nl,Fc,GB]
    exact fp (Ib h1 h2) (Fw (Hl _ _))
  have:=small (pend.filter s) λ e he=>by
   have hm:=(Gm.mp he).1
   have h1:=(h.good e hm).toGoodR.small.1
   have h2:e.c.ns.length<=6:=by
    have hp:=h.perm.length_eq
    rw[Io]at hp
    have:∀l:List Pd,e∈l->e.c.ns.length<=(M6 (l.map (·.c))).length:=λ l=>by
     induction l with
     | nil=>intro hx;cases hx
     | cons f l ih=>
      intro hx
      unfold M6 at ih ⊢
      rw[Gg,Gg,Nl,Fc]
      rcases Fv.mp hx with rfl|hx
      ·exact Fi ..
      ·have:=ih hx;exact fp (ih hx) (GO _ _)
    have:=this pend hm
    exact fp this (fp (Fw hp) (HH _ _))
   exact fp h1 h2
  exact zzb (Fq (fp this (GN 6 (fp hf hlen)))) rfl
theorem dz{a:Nat}:V9 (a:Int) n 1=(List.range' a n).map λ j:Nat=>AV.int (j:Int):=by
 rw[cU,List.range'_eq_map_range,Gh]
 exact HG λ i Y=>rfl
theorem nA{os:List Int}(hj:j<os.length)(h:os.getD j 0=(k:Int)):bc os j=some k:=by
 unfold bc
 rw[FA,Ff hj]at h
 rw[Ff hj,Gz]
 have h:os[j]=(k:Int):=h
 rw[h,if_neg (Ha.mpr (FX _))]
 rfl
section
variable {os:List Int}{g:Nat->Int}{k n0 il:Nat}{pend:List Pd}{L:List AV}{υ:Sto}
theorem PI.keep(h:PI os g k n0 il pend L υ){Pp:Sto}(hl:Internal.lst Pp il=some L)(hx:∀e∈pend,∀ln,O8 υ e.p 0 ln (e.c.R.map N2)->∃ln,O8 Pp e.p 0 ln (e.c.R.map N2))(hle:n0<=Pp.length):PI os g k n0 il pend L Pp:=
 ⟨h.good,h.perm,h.ks,h.llen,h.ref,hl,λ e he=>let ⟨ln,a⟩:=h.lex e he;hx e he ln a,h.t0,h.dj,h.ab,hle,h.il0⟩
theorem PI.app(h:PI os g k n0 il pend L υ){τ:Sto}:PI os g k n0 il pend L (υ++τ):=
 h.keep (D2 h.lst) (λ e he ln a=>⟨ln,a.app⟩) (by rw[Fc];exact Kq h.le)
theorem PI.lt(h:PI os g k n0 il pend L υ){e:Pd}(he:e∈pend){x:Nat}(hx:x∈e.p.ix):x<υ.length:=by
 obtain⟨ln,a⟩:=h.lex e he
 obtain⟨y,hy,_⟩:=a.ixs x hx
 exact B3 hy
theorem PI.kin(h:PI os g k n0 il pend L υ){e:Pd}(he:e∈pend):k<=e.c.kk/\e.c.kk<6/\os.getD e.c.kk 0<(k:Int):=by
 have:e.c.kk∈pend.map (λ e=>e.c.kk):=Gk (f:=λ e:Pd=>e.c.kk) he
 rw[h.ks]at this
 obtain⟨a,b⟩:=Gm.mp this
 have:=Jb.mp a
 simp only[decide_eq_true_eq]at b
 exact⟨this.1,(LQ _ _).elim (λ e=>FQ this.2 (Hp e)) λ e=>absurd this.1 (Nat.not_le_of_lt (FQ this.2 (congrArg (_ + ·) (Kx e)))),b⟩
theorem PI.sel(h:PI os g k n0 il pend L υ)(s:Nat->Bool)(hs:∀j,s j=true->os.getD j 0<(k:Int)):((List.range' k (6-k)).filter s).map (λ j=>L.getD j .none)=(pend.filter λ e=>s e.c.kk).map λ e=>.ref e.p.ii:=by
 have e1:(List.range' k (6-k)).filter s=(pend.filter λ e=>s e.c.kk).map λ e=>e.c.kk:=by
  have:=congrArg (List.filter s) h.ks
  rw[Kc,NY]at this
  rw[show(List.range' k (6-k)).filter s=(List.range' k (6-k)).filter λ a=>s a&&decide (os.getD a 0<(k:Int))from JH λ j Y=>by
   cases hj:s j with
   | false=>rfl
   | true=>rw[decide_eq_true (hs j hj)];rfl]
  exact this.symm
 rw[e1,Gh]
 refine HG λ e he=>?_
 have:=h.ref e (Gm.mp he).1
 show L.getD e.c.kk .none=_
 rw[FA,this]
 rfl
theorem iF(s:Pd->Bool)(pend:List Pd):(M6 ((pend.filter s).map (·.c))++M6 ((pend.filter λ e=>!s e).map (·.c))).Perm (M6 (pend.map (·.c))):=by
 unfold M6
 rw[<- List.flatten_append,<- FG,<- FG]
 exact(((List.filter_append_perm s pend).map (·.c)).map (·.ns)).flatten
def KB(n0 il:Nat)(υ Pp:Sto):Prop:=∀x,x<n0->x≠0->x≠il->Pp[x]?=υ[x]?
theorem KB.trans{a b c:Sto}(h:KB n0 il a b)(h':KB n0 il b c):KB n0 il a c:=λ x h1 h2 h3=>(h' x h1 h2 h3).trans (h x h1 h2 h3)
theorem FrX.lex{ls:List LxP}{Pp:Sto}(F:FrX ls υ Pp)(A:P6 υ ls rows){p:LxP}{ln:Int}{pb:List AV}(h:O8 υ p 0 ln pb)(hd:∀(j:Nat) (p':LxP),ls[j]?=some p'->∀x∈p.ix,x∉p'.ix):O8 Pp p 0 ln pb:=by
 refine h.keep (X:=ls.flatMap LxP.ix) (λ x hx=>?_) (λ x hx hn=>F.2 x hx λ j p' hj hm=>hn (JQ.mpr ⟨p',FD hj,hm⟩)) (λ x hx hm=>?_)
 ·obtain⟨p',hp,hx⟩:=JQ.mp hx
  obtain⟨j,hj⟩:=Ja hp
  obtain⟨r,hr⟩:∃r,rows[j]?=some r:=⟨_,Ff (by rw[<- A.len];exact B3 hj)⟩
  obtain⟨ln',S⟩:=A.lex j p' _ hj hr
  exact S.ixs x hx
 ·obtain⟨p',hp,hm⟩:=JQ.mp hm
  obtain⟨j,hj⟩:=Ja hp
  exact hd j p' hj x hx hm
theorem FrX.raws{ls:List LxP}{Pp:Sto}(F:FrX ls υ Pp)(A:P6 υ ls rows)(j:Nat)(a:Addr)(o:Obj)(e:υ[j]?=some (.raw a o)):Pp[j]?=some (.raw a o):=by
 refine(F.2 j (B3 e) λ i p hp hm=>?_).trans e
 obtain⟨r,hr⟩:∃r,rows[i]?=some r:=⟨_,Ff (by rw[<- A.len];exact B3 hp)⟩
 obtain⟨ln',S⟩:=A.lex i p _ hp hr
 obtain⟨y,h1,h2,_⟩:=S.ixs j hm
 rw[e]at h1
 cases h1
 exact h2 _ _ rfl
theorem PI.next{gs:List Int}(hg:SeG gs os)(h:PI os (gF gs) (k+1) n0 il pend L υ)(hk:k<6){T:List (Nat×Blk)}(hm:Mrg ((pend.filter λ e=>decide (os.getD e.c.kk 0=(k:Int))).map λ e=>e.c.R) T){Pp:Sto}{p:LxP}
  (hl:Internal.lst Pp il=some (L.set k (.ref p.ii)))(hx:∀e∈pend,decide (os.getD e.c.kk 0=(k:Int))=false->∃ln,O8 Pp e.p 0 ln (e.c.R.map N2))(hp:∃ln,O8 Pp p 0 ln ((U1 (sg (gF gs) k) (T.map (·.2))).map N2))(ht:p.t=[])
  (hnew:∀x∈p.ix,υ.length<=x)(hle:n0<=Pp.length):∃pend',PI os (gF gs) k n0 il pend' (L.set k (.ref p.ii)) Pp:=by
 have hsub:∀e∈pend.filter (λ e=>decide (os.getD e.c.kk 0=(k:Int))),e∈pend/\os.getD e.c.kk 0=(k:Int):=λ e he=>⟨(Gm.mp he).1,by simpa using (Gm.mp he).2⟩
 have hrest:∀e∈pend.filter (λ e=>!decide (os.getD e.c.kk 0=(k:Int))),e∈pend/\os.getD e.c.kk 0≠(k:Int):=λ e he=>⟨(Gm.mp he).1,by simpa using (Gm.mp he).2⟩
 have hsp:=iF (λ e=>decide (os.getD e.c.kk 0=(k:Int))) pend
 have hperm:=hsp.trans h.perm
 have hr:List.range' k (6-k)=k::List.range' (k+1) (6-(k+1)):=by
  rw[show 6-k=(6-(k+1))+1 from(Nat.succ_pred_eq_of_pos (IB hk)).symm,ND]
 have hmem:∀j∈M6 ((pend.filter λ e=>decide (os.getD e.c.kk 0=(k:Int))).map (·.c)),k+1<=j:=λ j hj=>(Jb.mp (hperm.mem_iff.mp (Gq _ hj))).1
 refine⟨⟨⟨k,k::M6 ((pend.filter λ e=>decide (os.getD e.c.kk 0=(k:Int))).map (·.c)),U1 (sg (gF gs) k) (T.map (·.2))⟩,p⟩::pend.filter (λ e=>!decide (os.getD e.c.kk 0=(k:Int))),?_,?_,?_,by rw[Fj];exact h.llen,?_,hl,?_,?_,?_,?_,hle,h.il0⟩
 ·intro e he
  rcases Fv.mp he with rfl|he
  ·refine BU (cs:=(pend.filter λ e=>decide (os.getD e.c.kk 0=(k:Int))).map (·.c)) (λ c hc=>?_) (GZ.mpr ⟨λ hk=>by have:=hmem k hk;exact MD _ this,?_⟩) (λ c hc=>?_) (λ i hi hin=>?_) (by rw[Gh];exact hm)
   ·refine xE (FN.mp hc) λ e Z=>(λ he J=>?_) Z.1 Z.2;rcases J with rfl;clear Z
    exact h.good e (hsub e he).1
   ·exact(Ia.mp (hperm.nodup_iff.mpr Li)).1
   ·refine xE (FN.mp hc) λ e Z=>(λ he J=>?_) Z.1 Z.2;rcases J with rfl;clear Z
    obtain⟨h1,h2⟩:=hsub e he
    exact nA (by rw[hg.ol];exact(h.kin h1).2.1) h2
   ·have:=nq hg k i hi
    rcases Fv.mp hin with rfl|hin
    ·exact Iy _ this
    ·have:=hmem i hin;lia
  ·exact h.good e (hrest e he).1
 ·rw[Gg,hr]
  show((k::M6 ((pend.filter λ e=>decide (os.getD e.c.kk 0=(k:Int))).map (·.c)))++M6 ((pend.filter λ e=>!decide (os.getD e.c.kk 0=(k:Int))).map (·.c))).Perm _
  rw[C3]
  exact hperm.cons k
 ·rw[Gg,hr,Lw]
  have hok:os.getD k 0<(k:Int):=by
   have hlt:k<os.length:=by rw[hg.ol];exact hk
   have:=hg.ob k os[k] (Ff hlt)
   rw[FA,Ff hlt]
   exact this.2
  rw[if_pos (by simpa using hok)]
  congr 1
  have:=congrArg (List.filter λ j=>!decide (os.getD j 0=(k:Int))) h.ks
  rw[Kc,NY]at this
  refine this.trans (JH λ j Y=>?_)
  rw[Ie]
  simp only[Gn,HJ,decide_eq_false_iff_not,decide_eq_true_eq]
  exact⟨λ h=>Int.lt_iff_le_and_ne.mpr ⟨Int.le_of_lt_add_one h.2,h.1⟩,λ h=>⟨IZ h,Iv h (Int.lt_succ _)⟩⟩
 ·intro e he
  rcases Fv.mp he with rfl|he
  ·exact Fu (by rw[h.llen];exact hk)
  ·have:=h.kin (hrest e he).1
   rw[Fg (FP this.1)]
   exact h.ref e (hrest e he).1
 ·intro e he
  rcases Fv.mp he with rfl|he
  ·exact hp
  ·exact hx e (hrest e he).1 (by simpa using (hrest e he).2)
 ·intro e he
  rcases Fv.mp he with rfl|he
  ·exact ht
  ·exact h.t0 e (hrest e he).1
 ·refine GQ.mpr ⟨λ e he x hx hm=>?_,h.dj.filter _⟩
  have h1:=hnew x hx
  have h2:=h.lt (hrest e he).1 hm
  exact GY h1 h2
 ·intro e he x hx
  rcases Fv.mp he with rfl|he
  ·exact fp h.le (hnew x hx)
  ·exact h.ab e (hrest e he).1 x hx
end
def liB(W:Wld)(k:Nat):ST:=(A4 (B7 (D0 (fnB W k P7) (A6 (N5 (H3 (A6 (C2 .Add (A5 3) (B6 1)) (A6 (B6 6) A7))) (D7 .Eq (D1 (A5 12) (A5 40)) (A5 3)) (D1 (A5 16) (A5 40)) 40) A7)) [(B4 17)]) (A4 (B7 (D0 (fnB W k Y2) (A6 (A5 3) (A6 (D1 (A5 11) (A5 3)) (A6 (A5 17) A7)))) [(K6 (A5 16) (A5 3))]) B5))
theorem V4.lst{OP:Sto}{P:Addr}{ps:Array Value}{qs:List (Pos×Str)}(T:V5 V P ps qs)(E:V4 V OP)(h:Internal.lst V i=some l):Internal.lst OP i=some l:=by
 have e:=F6 h
 exact J1 (E.2 i _ (λ h0=>by subst h0;rw[T.raw]at e;cases e) e)
theorem yX{k':Nat}{c0 P:Addr}{qn:Str}(N:GF W)(G:GI W)(LX:LxI W c0 P qn){gs os:List Int}(hg:SeG gs os){n0 il ig io:Nat}{pend:List Pd}{L:List AV}{υ:Sto}{K:G3->List AV->Sto->Prop}(hs:st.length=45)
  (h3:st[3]?=some (.int k))(h11:st[11]?=some (.ref ig))(h12:st[12]?=some (.ref io))(h16:st[16]?=some (.ref il))(hk:k<6)(h:PI os (gF gs) (k+1) n0 il pend L υ){ps:Array Value}(T:V5 υ P ps (T7 qn))(hig:lst υ ig=some (gs.map .int))(hio:lst υ io=some (os.map .int))(nig:ig<n0/\ig≠il)
  (q:∀pend' L' Pp v,PI os (gF gs) k n0 il pend' L' Pp->(∃ps,V5 Pp P ps (T7 qn))->KB n0 il υ Pp->K .next (st.set 17 v) Pp):liB W (k'+5) st K υ:=by
 unfold liB
 dsimp only[A4,B7,D0,fnB,A6,A7,N5,H3,C2,B6,I0,B4,B5]
 refine C8 h3 rfl (S0 ?_)
 dsimp only[rgP,inI]
 refine⟨⟨zzm,zzi (GV hk) rfl,by decide,by decide⟩,?_⟩
 rw[show((k:Int)+1)=((k+1:Nat):Int)from rfl,show((6:Int)-((k+1:Nat):Int)).toNat=6-(k+1)from Jy 6 _,dz]
 refine U6 (v:=λ j:Nat=>AV.int (j:Int)) (λ j=>decide (os.getD j 0=(k:Int))) (λ j=>L.getD j .none) (λ Y=>trivial) (O4 (by rw[Io];exact zzb (Nat.sub_lt_succ _ _) rfl)) (λ j hj acc K1 K2 a b=>?_) ?_
 ·have hj:=Jb.mp hj
  have hj6:j<os.length:=by rw[hg.ol];exact FQ hj.2 (Hp hk)
  have eo:os[j]?=some (os.getD j 0):=by rw[FA,Ff hj6];rfl
  have eL:L[j]?=some (L.getD j .none):=by rw[FA,Ff (by rw[h.llen];exact FQ hj.2 (Hp hk))];rfl
  have e40:(st.set 40 (.int (j:Int)))[40]?=some (.int (j:Int)):=K7 (zzg hs rfl)
  dsimp only[D7,D1]
  refine C8 (E7 h12 (by decide)) rfl (C8 e40 rfl (Y9 (D2 hio) rfl eo (by rw[hg.ol];decide) (C8 (E7 h3 (by decide)) rfl (N7 (b:=decide (os.getD j 0=(k:Int))) rfl ?_))))
  by_cases hd:os.getD j 0=(k:Int)
  ·rw[decide_eq_true hd]
   exact C8 (E7 h16 (by decide)) rfl (C8 e40 rfl (bV (D2 h.lst) rfl eL (by rw[h.llen];decide) (a (decide_eq_true hd))))
  ·rw[decide_eq_false hd]
   exact b (decide_eq_false hd)
 rw[h.sel (λ j=>decide (os.getD j 0=(k:Int))) λ j hj=>by have:=of_decide_eq_true hj;lia]
 have hle:=h.le
 have hA:=h.app (τ:=[.list ((pend.filter λ e=>decide (os.getD e.c.kk 0=(k:Int))).map λ e=>.ref e.p.ii)])
 have hall:=hA.allLex λ e=>decide (os.getD e.c.kk 0=(k:Int))
 have fx:∀{e:Pd},e∈pend->∀{x:Nat},x<n0->x∉e.p.ix:=λ he x hx hm=>by have:=h.ab _ he x hm;exact GY this hx
 refine rN N G hA (λ e=>decide (os.getD e.c.kk 0=(k:Int))) aD (λ e he hm=>by have:=h.lt he hm;exact Iy _ this) λ QN T2 ro hm F hro hr=>?_
 have T1:=T.raws (OP:=υ++[.list ((pend.filter λ e=>decide (os.getD e.c.kk 0=(k:Int))).map λ e=>.ref e.p.ii)]) bb
 have T2':=T1.raws (F.raws hall)
 have fr:∀{x:Nat},x<n0->QN[x]?=υ[x]?:=fun{x} hx=>(F.2 x (by rw[Fc];exact Fo (Fo hx hle) (Fi _ _)) λ j p hj hm=>by
  refine xE (FN.mp (FD hj)) λ e Z=>(λ he J=>?_) Z.1 Z.2;rcases J with rfl;clear Z
  exact fx (Gm.mp he).1 hx hm).trans (Fs (fp hx hle))
 have l2:∀{x:Nat}{l:List AV},x<n0->lst υ x=some l->lst QN x=some l:=fun{x l} hx hl=>J1 ((fr hx).trans (F6 hl))
 have s17:(st.set 17 (.ref ro))[17]?=some (.ref ro):=K7 (zzg hs rfl)
 have s3:(st.set 17 (.ref ro))[3]?=some (.int k):=E7 h3 (by decide)
 have s11:(st.set 17 (.ref ro))[11]?=some (.ref ig):=E7 h11 (by decide)
 have s16:(st.set 17 (.ref ro))[16]?=some (.ref il):=E7 h16 (by decide)
 have q:=λ pend' L' Pp=>q pend' L' Pp (.ref ro)
 generalize st.set 17 (.ref ro)=s at s17 s3 s11 s16 q ⊢
 obtain⟨gv,hgv⟩:∃gv,gs[k]?=some gv:=⟨_,Ff (by rw[hg.gl];exact hk)⟩
 have egv:gF gs k=gv:=by unfold gF;rw[FA,hgv];rfl
 dsimp only[D1,K6]
 refine C8 s3 rfl (C8 s11 rfl (C8 s3 rfl (Y9 (l2 nig.1 hig) rfl hgv (by rw[hg.gl];decide) (C8 s17 rfl ?_))))
 have hGM:GoodR (bc os) (gF gs) (M6 ((pend.filter λ e=>decide (os.getD e.c.kk 0=(k:Int))).map (·.c))) (T2.map (·.2)):=by
  have hsp:=(iF (λ e=>decide (os.getD e.c.kk 0=(k:Int))) pend).trans h.perm
  refine uC (λ c hc=>?_) (Ia.mp (hsp.nodup_iff.mpr Li)).1 (λ c hc i hi hin=>?_) (by rw[Gh];exact hm)
  ·refine xE (FN.mp hc) λ e Z=>(λ he J=>?_) Z.1 Z.2;rcases J with rfl;clear Z
   exact h.good e (Gm.mp he).1
  ·refine xE (FN.mp hc) λ e Z=>(λ he J=>?_) Z.1 Z.2;rcases J with rfl;clear Z
   obtain⟨h1,h2⟩:=Gm.mp he
   have:=nA (os:=os) (by rw[hg.ol];exact(h.kin h1).2.1) (of_decide_eq_true h2)
   rw[this]at hi
   cases hi
   have:=(Jb.mp (hsp.mem_iff.mp (Gq _ hin))).1
   exact MD _ this
 refine(λ sm1 sm2=>?_) hGM.small.1 hGM.small.2
 have hns:(M6 ((pend.filter λ e=>decide (os.getD e.c.kk 0=(k:Int))).map (·.c))).length<=6:=by
  have:=((iF (λ e=>decide (os.getD e.c.kk 0=(k:Int))) pend).trans h.perm).length_eq
  rw[Fc,Io]at this
  exact fp (Fi _ _) (fp (Fw this) (HH _ _))
 refine yG (k:=k'+1) N G LX T2' (R:=T2.map (·.2)) (by rw[hr,Gh];rfl) (zzb (Fq (fp sm1 hns)) rfl) (λ b hb=>⟨(sm2 b hb).1,by have:=(sm2 b hb).2;exact zzb (fp this hns) rfl⟩) λ Rk ps3 p E T3 p1 p2 p3 p4 p5=>?_
 have hil:=h.il0
 have il3:lst Rk il=some L:=E.lst T2' (l2 hil h.lst)
 refine C8 s16 rfl (C8 s3 rfl (vJ il3 rfl (by rw[h.llen];exact hk) (by rw[h.llen];decide) ?_))
 have hli:=B3 (F6 il3)
 have keep:∀{p':LxP}{ln:Int}{pb:List AV},O8 Rk p' 0 ln pb->il∉p'.ix->O8 (Rk.set il (.list (L.set k (.ref p.ii)))) p' 0 ln pb:=fun{p' ln pb} S hn=>by
  refine S.keep (X:=[il]) (λ x hx=>?_) (λ x hx hn=>Fg (λ e=>hn (by rw[<- e];exact .head _))) (λ x hx hm=>?_)
  ·obtain rfl:=Fh.mp hx
   exact⟨_,F6 il3,by simp,by simp⟩
  ·obtain rfl:=Fh.mp hm
   exact hn hx
 have hnew:∀x∈p.ix,υ.length<=x:=λ x hx=>by
  have:=F.1
  rw[Fc]at this
  simp only[LxP.ix,Fv,FO,or_false]at hx
  exact fp (fp (Fi _ _) this) (hx.elim (λ e=>fp p1 (Fw e.symm)) λ h=>h.elim (λ e=>fp p2 (Fw e.symm)) λ e=>fp p3 (Fw e.symm))
 have hl3:=E.1
 have hl2:=F.1
 rw[Fc]at hl2
 have fin:=h.next hg hk hm (Pp:=Rk.set il (.list (L.set k (.ref p.ii)))) (p:=p) (b9 il3) (λ e he hd=>by
   refine xE (h.lex e he) λ ln S=>?_
   refine⟨ln,keep (O8.ext0 T2' (F.lex hall S.app λ j p' hj x hx hm=>?_) E) (fx he hil)⟩
   refine xE (FN.mp (FD hj)) λ e' Z=>(λ he' J=>?_) Z.1 Z.2;rcases J with rfl;clear Z
   obtain⟨h1,h2⟩:=Gm.mp he'
   have pw:=h.dj
   refine xE (Ja he) λ i1 hi1=>?_
   refine xE (Ja h1) λ i2 hi2=>?_
   have pw:=He.mp pw
   refine xE (FC.mp hi1) λ a1 a2=>?_
   refine xE (FC.mp hi2) λ b1 b2=>?_
   rcases Ll i1 i2 with c|c|c
   ·have:=pw i1 i2 a1 b1 c
    rw[a2,b2]at this
    exact this x hx hm
   ·subst c
    rw[hi1]at hi2
    cases hi2
    rw[hd]at h2
    cases h2
   ·have:=pw i2 i1 b1 a1 c
    rw[a2,b2]at this
    exact this x hm hx) ⟨1,keep (by
    have e:sg (gF gs) k=⟨max 0 (-gv),gv,[k]⟩:=by unfold sg;rw[egv]
    rw[e]
    exact p5) (λ hm=>by have:=hnew _ hm;exact GY (fp hle this) hil)⟩ p4 hnew (by rw[Fj];exact fp hle (fp (Fi _ _) (fp hl2 hl3)))
 refine xE fin λ pend' hfin=>?_;clear fin
 refine q pend' _ _ hfin ⟨ps3,T3.raws (kx (F6 il3) (by simp))⟩ λ x hx h0 hxl=>?_
 rw[Fg (HE hxl)]
 obtain⟨y,hy⟩:∃y,QN[x]?=some y:=⟨_,Ff (Fo hx (fp hle (fp (Fi _ _) hl2)))⟩
 rw[E.2 x y h0 hy,<- hy]
 exact fr hx
inductive LiI(W:Wld)(P:Addr)(qn:Str)(os gs:List Int)(n0 il:Nat)(st:List AV)(V:Sto)(i:Nat):List AV->Sto->Prop
 | mk {st':List AV}{υ:Sto}{pend:List Pd}{L:List AV}{ps:Array Value}:FrS [3,16,17,18] st st'->st'[16]?=some (.ref il)->PI os (gF gs) (6-i) n0 il pend L υ->V5 υ P ps (T7 qn)->KB n0 il V υ->LiI W P qn os gs n0 il st V i st' υ
theorem wx{υ:Sto}{P:Addr}{ps:Array Value}{qs:List (Pos×Str)}{A B:I3}(T:V5 V P ps qs)(h:KB (V.length+2) (V.length+1) (V++[A]++[B]) υ){x:Nat}(hl:lst V x=some l):lst υ x=some l/\x<V.length+2/\x≠V.length+1:=by
 have hx:=B3 (F6 hl)
 have h0:x≠0:=λ h0=>by subst h0;have e:=F6 hl;rw[T.raw]at e;cases e
 have h1:=FP (Hq hx)
 have h2:=Hq (Hq hx)
 exact⟨J1 ((h x h2 h0 h1).trans (F6 (D2 (D2 hl)))),h2,h1⟩
theorem ER{k':Nat}{c0 P:Addr}{qn:Str}(N:GF W)(G:GI W)(LX:LxI W c0 P qn){gs os:List Int}(hg:SeG gs os){ig io:Nat}{R:ST}{K:G3->List AV->Sto->Prop}(hs:st.length=45)
  (h11:st[11]?=some (.ref ig))(h12:st[12]?=some (.ref io)){ps:Array Value}(T:V5 V P ps (T7 qn))(hig:lst V ig=some (gs.map .int))(hio:lst V io=some (os.map .int))
  (q:∀(pend:List Pd) (L:List AV) (ps:Array Value) st' υ,FrS [3,16,17,18] st st'->st'[16]?=some (.ref (V.length+1))->PI os (gF gs) 0 (V.length+2) (V.length+1) pend L υ->V5 υ P ps (T7 qn)->(∀{x:Nat}{l:List AV},lst V x=some l->lst υ x=some l/\x<V.length+2/\x≠V.length+1)->R st' K υ):
  A4 (cQ W (k'+5)) (A4 (cR W (k'+5)) R) st K V:=by
 rw[show cR W (k'+5)=O7 (sA (A6 (B6 6) A7)) (B4 3) (liB W (k'+5))from rfl]
 unfold cQ
 dsimp only[A4,B7,L5,C9,A6,A7,G7,B6,I0,B4,O7,sA]
 refine And.intro (D8 (show 1<1000000 by decide)) ⟨.none,E0,by decide,by decide,⟨by decide,?_⟩⟩
 have hlen1:(V++[I3.list [AV.none]]).length=V.length+1:=by rw[Fc];rfl
 have hlen2:(V++[I3.list [AV.none]]++[I3.list (List.replicate 6 AV.none)]).length=V.length+2:=by rw[Fc,hlen1];rfl
 have T1:V5 (V++[.list [.none]]++[.list (List.replicate 6 .none)]) P ps (T7 qn):=(T.raws bb).raws bb
 have l6:lst (V++[.list [.none]]++[.list (List.replicate 6 .none)]) (V.length+1)=some (List.replicate 6 .none):=vG hlen1.symm
 dsimp only
 rw[show V9 ((0:Int)+(((6:Int)-0).toNat:Nat)-1) ((6:Int)-0).toNat (-1)=(List.range' 0 6).map λ i:Nat=>AV.int ((0:Int)+(((6:Int)-0).toNat:Nat)-1+i*(-1))from by unfold V9;rw[Iz];rfl,hlen1]
 rw[show(6:Int).toNat=6 from rfl]
 refine mZ (LiI W P qn os gs (V.length+2) (V.length+1) st (V++[.list [.none]]++[.list (List.replicate 6 .none)])) (λ Y Y Y Y=>trivial) ?_ ?_ 6 0 _ _ rfl
  (.mk (pend:=[]) (L:=List.replicate 6 .none) (FrS.rfl'.set (by decide)) (K7 (hs▸by decide)) ⟨λ e h=>absurd h FO,.refl _,rfl,rfl,λ e h=>absurd h FO,l6,λ e h=>absurd h FO,λ e h=>absurd h FO,.nil,λ e h=>absurd h FO,Fw hlen2.symm,FY _⟩ T1 λ Y Y Y Y=>rfl)
 ·intro i s υ K2 hi h hK
  induction h with
  | @mk pend L ps2 a2 a3 a4 a5 a6=>
   have e5:5-i+1=6-i:=by clear a4;exact(Nat.succ_sub (FW hi)).symm
   rw[show(0:Int)+(((6:Int)-0).toNat:Nat)-1+(i:Int)*(-1)=((5-i:Nat):Int) by clear a4;rw[show(((6:Int)-0).toNat:Nat)=6 from rfl];lia]
   have hsl:s.length=45:=a2.len.trans hs
   have b1:=wx T a6 hig
   refine yX N G LX hg (k:=5-i) (st:=s.set 3 (.int ((5-i:Nat):Int))) (by rw[Fj];exact hsl) (K7 (hsl▸by decide)) (E7 (a2.at h11 (by decide)) (by decide)) (E7 (a2.at h12 (by decide)) (by decide)) (E7 a3 (by decide)) (Fe (HH ..) (by decide)) (e5▸a4) a5 b1.1 (wx T a6 hio).1 b1.2 λ pend' L' Pp v b1 ⟨ps3,b2⟩ b3=>?_
   exact hK.nx _ _ (.mk ((a2.set (by decide)).set (by decide)) (E7 (E7 a3 (by decide)) (by decide)) (by rw[show 6-(i+1)=5-i from JE 5 1 i];exact b1) b2 (a6.trans b3))
 ·intro s υ h
  induction h with
  | @mk pend L ps2 a2 a3 a4 a5 a6=>exact q _ _ _ _ _ a2 a3 a4 a5 (wx T a6)
theorem ES{k':Nat}{c0 P:Addr}{qn:Str}(N:GF W)(G:GI W)(LX:LxI W c0 P qn){gs os:List Int}(hg:SeG gs os){ig io:Nat}{R:ST}{K:G3->List AV->Sto->Prop}(hs:st.length=45)
  (h11:st[11]?=some (.ref ig))(h12:st[12]?=some (.ref io)){ps:Array Value}(T:V5 V P ps (T7 qn))(hig:lst V ig=some (gs.map .int))(hio:lst V io=some (os.map .int))
  (q:∀(Wh:List Blk) iw st' ρ,FrS [3,16,17,18] st st'->st'[18]?=some (.ref iw)->lst ρ iw=some (Wh.map N2)->GoodR (bc os) (gF gs) (List.range 6) Wh->(∀i l,lst V i=some l->lst ρ i=some l)->(∃ps,V5 ρ P ps (T7 qn))->R st' K ρ):
  A4 (cQ W (k'+5)) (A4 (cR W (k'+5)) (A4 (eE W (k'+5)) R)) st K V:=by
 refine ER N G LX hg hs h11 h12 T hig hio λ pend L ps2 s υ a2 a3 a4 a5 kb=>?_
 have hsl:s.length=45:=a2.len.trans hs
 have hio2:=(kb hio).1
 unfold eE
 dsimp only[A4,B7,I0,B4,D0,fnB,A6,A7,N5,H3,B6]
 refine⟨by decide,?_⟩
 have er:V9 (0:Int) ((6:Int)-0).toNat 1=(List.range' 0 6).map λ j:Nat=>AV.int (j:Int):=dz (a:=0) (n:=6)
 dsimp only
 rw[er]
 refine U6 (v:=λ j:Nat=>AV.int (j:Int)) (λ j=>decide (os.getD j 0<0)) (λ j=>L.getD j .none) (λ Y=>trivial) (O4 (by rw[Io];decide)) (λ j hj acc K1 K2 a b=>?_) ?_
 ·have hj:=(Jb.mp hj).2
  have eo:os[j]?=some (os.getD j 0):=by rw[FA,Ff (hg.ol.symm▸hj)];rfl
  have eL:L[j]?=some (L.getD j .none):=by rw[FA,Ff (a4.llen.symm▸hj)];rfl
  have e41:(s.set 41 (.int (j:Int)))[41]?=some (.int (j:Int)):=K7 (hsl▸by decide)
  dsimp only[D7,D1,B6]
  refine C8 (E7 (a2.at h12 (by decide)) (by decide)) rfl (C8 e41 rfl (Y9 (D2 hio2) rfl eo (by rw[hg.ol];decide) (N7 (b:=decide (os.getD j 0<0)) rfl ?_)))
  by_cases hd:os.getD j 0<0
  ·rw[decide_eq_true hd]
   exact C8 (E7 a3 (by decide)) rfl (C8 e41 rfl (bV (D2 a4.lst) rfl eL (by rw[a4.llen];decide) (a (decide_eq_true hd))))
  ·rw[decide_eq_false hd]
   exact b (decide_eq_false hd)
 rw[a4.sel (λ j=>decide (os.getD j 0<0)) λ j hj=>of_decide_eq_true hj]
 have hA:=a4.app (τ:=[.list ((pend.filter λ e=>decide (os.getD e.c.kk 0<0)).map λ e=>.ref e.p.ii)])
 have hle:=a4.le
 refine rN N G hA (λ e=>decide (os.getD e.c.kk 0<0)) aD (λ e he hm=>by have:=a4.lt he hm;exact Iy _ this) λ QN T2 ro hm F hro hr=>?_
 have hall:pend.filter (λ e=>decide (os.getD e.c.kk 0<0))=pend:=Hu.mpr λ e he=>decide_eq_true (a4.kin he).2.2
 have hm2:=hm
 rw[hall]at hm2
 have hGM:GoodR (bc os) (gF gs) (M6 (pend.map (·.c))) (T2.map (·.2)):=by
  refine uC (λ c hc=>?_) a4.nd (λ c hc i hi hin=>?_) (by rw[Gh];exact hm2)
  ·obtain⟨e,he,rfl⟩:=FN.mp hc
   exact a4.good e he
  ·obtain⟨e,he,rfl⟩:=FN.mp hc
   have h1:=a4.kin he
   unfold bc at hi
   rw[FA]at h1
   cases e1:os[e.c.kk]? with
   | none=>rw[e1]at hi;cases hi
   | some o=>
    rw[e1]at hi h1
    have h3:o<0:=h1.2.2
    rw[Gz,if_pos h3]at hi
    cases hi
 refine q (T2.map (·.2)) ro _ _ (a2.set (by decide)) (K7 (zzg hsl rfl)) (by rw[J1 hr,Gh];rfl) (hGM.permNs (by rw[Iz];exact a4.perm)) (λ x l hl=>?_) ⟨ps2,(a5.raws bb).raws (F.raws (hA.allLex λ e=>decide (os.getD e.c.kk 0<0)))⟩
 obtain⟨h1,h2,_⟩:=kb hl
 refine J1 ((F.2 x (by rw[Fc];exact Fo (Fo h2 hle) (Fi _ _)) λ j p hj hmm=>?_).trans (F6 (D2 h1)))
 obtain⟨e,he,rfl⟩:=FN.mp (FD hj)
 have:=a4.ab e (Gm.mp he).1 x hmm
 exact GY this h2
def wrB:ST:=(A4 (B7 (C2 .Add (A5 19) (D0 n9 (A6 (A5 26) A7))) [(B4 19)]) (A4 (B7 (D0 gu (A6 (A5 21) (A6 (C2 .Sub (A5 24) (A5 22)) A7))) [(B4 21)]) (A4 (B7 (C2 .Add (A5 22) (A5 25)) [(B4 22)]) (A4 (sIf (D7 .GtE (A5 25) (B6 0)) (A4 (F9 (G5 (A5 20) O1 aG (A6 (I8 (A6 (A5 21) (A6 (A5 22) A7))) A7))) B5) B5) B5))))
inductive WrI(Wh:List Blk)(st:List AV)(V:Sto):List Blk->List AV->Sto->Prop
 | mk {d r:List Blk}{a:Nat}{st':List AV}{υ:Sto}:Wh=d++r->FrS [19,20,21,22,23,24,25,26] st st'->st'[19]?=some (.ref a)->st'[20]?=some (.ref (V.length+1))->st'[21]?=some (.int (G6 d).purse)->st'[22]?=some (.int (G6 d).hand)->
  Pre V υ->lst υ a=some (bp (G6 d).order)->lst υ (V.length+1)=some ((G6 d).pairs.map prA)->a≠V.length+1->WrI Wh st V r st' υ
theorem yY{Wh d r:List Blk}{b:Blk}{s:List AV}{υ:Sto}{a:Nat}{K:G3->List AV->Sto->Prop}(hs:st.length=45)(hW:Wh=d++b::r)(f:FrS [19,20,21,22,23,24,25,26] st s)(h19:s[19]?=some (.ref a))(h20:s[20]?=some (.ref (V.length+1)))(h21:s[21]?=some (.int (G6 d).purse))(h22:s[22]?=some (.int (G6 d).hand))
  (h24:s[24]?=some (.int b.need))(h25:s[25]?=some (.int b.net))(h26:s[26]?=some (.tup (X8 b.pl)))(hp:Pre V υ)(ho:lst υ a=some (bp (G6 d).order))(hq:lst υ (V.length+1)=some ((G6 d).pairs.map prA))(hz:(G6 d).order.length+b.pl.length<1000)(hz2:(G6 d).pairs.length<1000)
  (q:∀st' Pp,WrI Wh st V r st' Pp->K .next st' Pp):wrB s K υ:=by
 have hsl:s.length=45:=by rw[f.len];exact hs
 have hl2:(bp (G6 d).order).length=(G6 d).order.length:=Fd ..
 have hl3:(X8 b.pl).length=b.pl.length:=Fd ..
 have es:G6 (d++[b])=W9 (G6 d) b:=fg d b
 unfold wrB
 dsimp only[A4,B7,C2,D0,A6,A7,I0,B4]
 refine C8 h19 rfl (C8 h26 rfl (And.intro (D8 (zzo hl3 (zzb (Fe (GO _ _) hz) rfl))) (mX (D2 ho) E0 (D8 (hl2▸hl3▸zzb hz rfl)) ?_)))
 have hlt:=B3 (F6 hq)
 generalize hu:υ++[I3.list (X8 b.pl)]++[I3.list (bp (G6 d).order++X8 b.pl)]=QN
 have hlen:(υ++[I3.list (X8 b.pl)]).length=υ.length+1:=by rw[Fc];rfl
 have ho2:lst QN (υ++[I3.list (X8 b.pl)]).length=some (bp (G6 (d++[b])).order):=by
  rw[<- hu,E0,es]
  exact congrArg some (FG ..).symm
 have hq2:lst QN (V.length+1)=some ((G6 d).pairs.map prA):=by rw[<- hu];exact D2 (D2 hq)
 have hp2:Pre V QN:=by rw[<- hu];exact hp.app.app
 have hne:(υ++[I3.list (X8 b.pl)]).length≠V.length+1:=FU (FQ (Hq hlt) hlen.symm)
 generalize (υ++[I3.list (X8 b.pl)]).length=a2 at ho2 hne ⊢
 have f1:FrS [19,20,21,22,23,24,25,26] st (s.set 19 (.ref a2)):=f.set (by decide)
 have g19:(s.set 19 (.ref a2))[19]?=some (.ref a2):=K7 (zzg hsl rfl)
 have g20:(s.set 19 (.ref a2))[20]?=some (.ref (V.length+1)):=E7 h20 (by decide)
 have g22:(s.set 19 (.ref a2))[22]?=some (.int (G6 d).hand):=E7 h22 (by decide)
 have g25:(s.set 19 (.ref a2))[25]?=some (.int b.net):=E7 h25 (by decide)
 have g21:(s.set 19 (.ref a2))[21]?=some (.int (G6 d).purse):=E7 h21 (by decide)
 have g24:(s.set 19 (.ref a2))[24]?=some (.int b.need):=E7 h24 (by decide)
 have hsl1:(s.set 19 (.ref a2)).length=45:=by rw[Fj];exact hsl
 generalize s.set 19 (.ref a2)=s1 at f1 g19 g20 g22 g25 g21 g24 hsl1 ⊢
 refine C8 g21 rfl (C8 g24 rfl (C8 g22 rfl (fJ (oZ ?_))))
 rw[qb,show max (G6 d).purse (b.need-(G6 d).hand)=(G6 (d++[b])).purse by rw[es];rfl]
 have f2:FrS [19,20,21,22,23,24,25,26] st (s1.set 21 (.int (G6 (d++[b])).purse)):=f1.set (by decide)
 have k19:(s1.set 21 (.int (G6 (d++[b])).purse))[19]?=some (.ref a2):=E7 g19 (by decide)
 have k20:(s1.set 21 (.int (G6 (d++[b])).purse))[20]?=some (.ref (V.length+1)):=E7 g20 (by decide)
 have k22:(s1.set 21 (.int (G6 (d++[b])).purse))[22]?=some (.int (G6 d).hand):=E7 g22 (by decide)
 have k25:(s1.set 21 (.int (G6 (d++[b])).purse))[25]?=some (.int b.net):=E7 g25 (by decide)
 have k21:(s1.set 21 (.int (G6 (d++[b])).purse))[21]?=some (.int (G6 (d++[b])).purse):=K7 (zzg hsl1 rfl)
 have hsl2:(s1.set 21 (.int (G6 (d++[b])).purse)).length=45:=by rw[Fj];exact hsl1
 generalize s1.set 21 (.int (G6 (d++[b])).purse)=s2 at f2 k19 k20 k22 k25 k21 hsl2 ⊢
 refine C8 k22 rfl (C8 k25 rfl (S0 ?_))
 rw[show(G6 d).hand+b.net=(G6 (d++[b])).hand by rw[es];rfl]
 have f3:FrS [19,20,21,22,23,24,25,26] st (s2.set 22 (.int (G6 (d++[b])).hand)):=f2.set (by decide)
 have m19:(s2.set 22 (.int (G6 (d++[b])).hand))[19]?=some (.ref a2):=E7 k19 (by decide)
 have m20:(s2.set 22 (.int (G6 (d++[b])).hand))[20]?=some (.ref (V.length+1)):=E7 k20 (by decide)
 have m21:(s2.set 22 (.int (G6 (d++[b])).hand))[21]?=some (.int (G6 (d++[b])).purse):=E7 k21 (by decide)
 have m25:(s2.set 22 (.int (G6 (d++[b])).hand))[25]?=some (.int b.net):=E7 k25 (by decide)
 have m22:(s2.set 22 (.int (G6 (d++[b])).hand))[22]?=some (.int (G6 (d++[b])).hand):=K7 (zzg hsl2 rfl)
 generalize s2.set 22 (.int (G6 (d++[b])).hand)=s3 at f3 m19 m20 m21 m25 m22 ⊢
 dsimp only[sIf,D7,B6,B5]
 refine C8 m25 rfl (N7 (b:=decide (0<=b.net)) rfl ?_)
 have hW2:Wh=(d++[b])++r:=by rw[hW];simp
 by_cases hn:0<=b.net
 ·rw[decide_eq_true hn,if_pos rfl]
  dsimp only[A4,F9,G5,I8,A6,A7,B5]
  refine C8 m20 rfl (And.intro (aQ hq2) (C8 m21 rfl (C8 m22 rfl (And.intro (D8 (show 2<1000000 by decide)) ?_))))
  refine(cA hq2 (O4 (by rw[Fd];exact zzb hz2 rfl)) ?_).2
  refine q _ _ (.mk hW2 f3 m19 m20 m21 m22 (hp2.set (HS _)) (fY ho2 (HE hne)) ?_ hne)
  rw[b9 hq2]
  have:(G6 (d++[b])).pairs=(G6 d).pairs++[((G6 (d++[b])).purse,(G6 (d++[b])).hand)]:=by
   rw[es];unfold W9;dsimp only;rw[if_pos hn]
  rw[this,FG]
  rfl
 ·rw[decide_eq_false hn,if_neg (by decide)]
  refine q _ _ (.mk hW2 f3 m19 m20 m21 m22 hp2 ho2 ?_ hne)
  have:(G6 (d++[b])).pairs=(G6 d).pairs:=by
   rw[es];unfold W9;dsimp only;rw[if_neg hn]
  rw[this]
  exact hq2
set_option tactic.hygienic true in
theorem ET{Wh:List Blk}{iw:Nat}{R:ST}{K:G3->List AV->Sto->Prop}(hs:st.length=45)(h18:st[18]?=some (.ref iw))(hw:lst V iw=some (Wh.map N2))(hz:(Wh.flatMap (·.pl)).length<=6)(hz2:Wh.length<=6)
  (q:∀a b st' ρ,FrS [19,20,21,22,23,24,25,26] st st'->Pre V ρ->st'[19]?=some (.ref a)->st'[20]?=some (.ref b)->st'[21]?=some (.int (G6 Wh).purse)->lst ρ a=some (bp (G6 Wh).order)->lst ρ b=some ((G6 Wh).pairs.map prA)->R st' K ρ):
  A4 (eF W k) (A4 (eG W k) (A4 (eH W k) (A4 (eI W k) (A4 (eJ W k) R)))) st K V:=by
 rw[show eJ W k=O7 (aF (A5 18)) (J8 (J9 4 (D9 (B4 23) (D9 (B4 24) (D9 (B4 25) (D9 (B4 26) J7)))))) wrB from rfl]
 unfold eF eG eH eI
 dsimp only[A4,B7,C9,A7,B6,I0,B4,O7,aF]
 refine And.intro (D8 (show 0<1000000 by decide)) (And.intro (D8 (show 0<1000000 by decide)) ?_)
 refine C8 (E7 (E7 (E7 (E7 h18 (by decide)) (by decide)) (by decide)) (by decide)) rfl ?_
 refine gW (D2 (D2 hw)) ?_
 have ordl:∀d r:List Blk,Wh=d++r->(G6 d).order.length<=6/\(G6 d).pairs.length<=d.length:=λ d r e=>by
  rw[da]
  rw[e,JU,Fc]at hz
  refine⟨fp (Fi _ _) hz,?_⟩
  have:∀(l:List Blk) (s:WSt),(l.foldl W9 s).pairs.length<=s.pairs.length+l.length:=λ l=>by
   induction l with
   | nil=>intro s;exact Fn _
   | cons b l ih=>
    intro s
    have:=ih (W9 s b)
    have h1:(W9 s b).pairs.length<=s.pairs.length+1:=by
     unfold W9
     dsimp only
     split
     ·rw[Fc];exact Fn _
     ·exact HS _
    rw[HO,GB]
    exact fp this (fp (Gr h1 _) (Fw (GC _ _)))
  have:=this d ⟨[],0,0,[]⟩
  unfold G6
  simpa using this
 have l1:(V++[I3.list []]).length=V.length+1:=by rw[Fc];rfl
 refine bW (v:=N2) (WrI Wh st V) (λ ks s υ h=>?_) ?_ ?_ _ _ _
  (.mk (d:=[]) (a:=V.length) rfl ((((FrS.rfl'.set (by decide)).set (by decide)).set (by decide)).set (by decide)) (E7 (E7 (E7 (K7 (zzg hs rfl)) (by decide)) (by decide)) (by decide)) (by rw[<- l1];exact E7 (E7 (K7 (by rw[Fj];exact zzg hs rfl)) (by decide)) (by decide)) (E7 (K7 (by simp only[Fj];exact zzg hs rfl)) (by decide)) (K7 (by simp only[Fj];exact zzg hs rfl)) Pre.rfl'.app.app (D2 E0) (by rw[<- l1];exact E0) (FP (FY _)))
 ·induction h with
  | mk a1 a2 a3 a4 a5 a6 a7 a8 a9 a10=>rw[a7.lst hw]
 ·intro b r s υ K2 h hK
  cases h with
  | mk a1 a2 a3 a4 a5 a6 a7 a8 a9 a10=>
   rename_i d a
   have hsl:s.length=45:=by rw[a2.len];exact hs
   dsimp only[J8,N2,J9,D9,J7,B4]
   refine And.intro rfl ?_
   have e1:=ordl _ _ a1
   have e2:=ordl (d++[b]) r (by rw[a1];simp)
   rw[fg]at e2
   have e2:=e2.1
   unfold W9 at e2
   dsimp only at e2
   rw[Fc]at e2
   have hd:d.length<=6:=by rw[a1,Fc]at hz2;exact fp (Fi _ _) hz2
   refine yY (d:=d) (r:=r) (b:=b) hs a1 ((((a2.set (by decide)).set (by decide)).set (by decide)).set (by decide)) (E7 (E7 (E7 (E7 a3 (by decide)) (by decide)) (by decide)) (by decide)) (E7 (E7 (E7 (E7 a4 (by decide)) (by decide)) (by decide)) (by decide)) (E7 (E7 (E7 (E7 a5 (by decide)) (by decide)) (by decide)) (by decide)) (E7 (E7 (E7 (E7 a6 (by decide)) (by decide)) (by decide)) (by decide))
    (E7 (E7 (K7 (by rw[Fj];exact zzg hsl rfl)) (by decide)) (by decide)) (E7 (K7 (by simp only[Fj];exact zzg hsl rfl)) (by decide)) (K7 (by simp only[Fj];exact zzg hsl rfl)) a7 a8 a9 (zzb (Fq e2) rfl) (zzb (Fq (fp e1.2 hd)) rfl) λ st' Pp h'=>hK.nx _ _ h'
 ·intro s υ h
  generalize hks:([]:List Blk)=l at h
  induction h with
  | mk a1 a2 a3 a4 a5 a6 a7 a8 a9 a10=>
   subst hks
   rw[FL]at a1
   subst a1
   exact q _ _ _ _ a2 a7 a3 a4 a5 a8 a9
theorem pe(l:List Nat):bp l=(l.map λ n:Nat=>(n:Int)).map .int:=by unfold bp;rw[Gh];rfl
theorem EU{X:List Nat}{a:Nat}{K:G3->List AV->Sto->Prop}(h19:st[19]?=some (.ref a))(hX:lst V a=some (bp X))(hp:X.Perm (List.range 6))(q:∀ρ,Pre V ρ->K .next st ρ):eN W k st K V:=by
 unfold eN
 dsimp only[sIf,D7,D0,A6,A7,C9,B6]
 have h6:X.length=6:=hp.length_eq
 refine C8 h19 rfl ⟨X.map λ n:Nat=>(n:Int),by rw[hX,pe],by rw[Fd];exact zze h6 rfl,λ ns' p1 p2=>And.intro (D8 (show 6<1000000 by decide)) ?_⟩
 have e:ns'=[0,1,2,3,4,5]:=by
  have pp:ns'.Perm [0,1,2,3,4,5]:=p1.trans (hp.map λ n:Nat=>(n:Int))
  exact pp.eq_of_pairwise (le:=λ a b:Int=>a<=b) (λ a b Y Y h1 h2=>Ig h1 h2) p2 (by decide)
 subst e
 refine N7 (dw (l:=[0,1,2,3,4,5]) (m:=[0,1,2,3,4,5]) (D2 E0) E0).2 ?_
 rw[decide_eq_true rfl,if_neg (by decide)]
 exact q _ Pre.rfl'.app.app
theorem tx(l:List Nat)(k:Nat):(l.map λ n:Nat=>(n:Int)).idxOf (k:Int)=l.idxOf k:=by
 induction l with
 | nil=>rfl
 | cons a l ih=>
  rw[Gg,Oa,Oa,ih]
  by_cases h:a=k
  ·subst h;simp
  ·have h1:((a:Int)==(k:Int))=false:=by rw[beq_eq_false_iff_ne];exact λ Qv=>h (Jg Qv)
   have h2:(a==k)=false:=by rw[beq_eq_false_iff_ne];exact h
   rw[h1,h2]
theorem EV{gs os:List Int}(hg:SeG gs os){X:List Nat}{a d:Nat}{K:G3->List AV->Sto->Prop}(hs:st.length=45)(h19:st[19]?=some (.ref a))(h14:st[14]?=some (.ref d))(hX:lst V a=some (bp X))(hd:lst V d=some (os.map .int))(hp:X.Perm (List.range 6))(hv:Z9 (bc os) (List.range 6) X)
  (q:∀ρ,Pre V ρ->K .next st ρ):eO W k st K V:=by
 unfold eO
 dsimp only[sIf,D7,N5,H3,A6,A7,C9,B6]
 dsimp only[rgP,inI]
 have h6:X.length=6:=hp.length_eq
 have er:V9 (0:Int) ((6:Int)-0).toNat 1=(List.range' 0 6).map λ j:Nat=>AV.int (j:Int):=dz (a:=0) (n:=6)
 refine⟨by decide,?_⟩
 rw[er]
 have ix:∀{j:Nat}{acc:List AV}{K:AV->Sto->Prop},j<6->K (.int (X.idxOf j)) (V++[.list acc])->xq [.ref a,.int (j:Int)] K (V++[.list acc]):=fun{j acc K} hj hK=>by
  refine⟨X.map λ n:Nat=>(n:Int),by rw[D2 hX,pe],FN.mpr ⟨j,hp.mem_iff.mpr (Gi.mpr hj),rfl⟩,D8 (by rw[Fd];exact zze h6 rfl),?_⟩
  rw[tx]
  exact hK
 refine U6 (v:=λ j:Nat=>AV.int (j:Int)) (λ Y=>false) (λ Y=>.none) (λ Y=>trivial) (O4 (by rw[Io];decide)) (λ j hj acc K1 K2 a1 b1=>?_) ?_
 ·have hj:=Jb.mp hj
  have hj6:j<os.length:=by rw[hg.ol];exact hj.2
  have eo:os[j]?=some os[j]:=Ff hj6
  have e42:(st.set 42 (.int (j:Int)))[42]?=some (.int (j:Int)):=K7 (zzg hs rfl)
  have hid:∀{K:AV->Sto->Prop},K (.int os[j]) (V++[.list acc])->bh (.ref d) (.int (j:Int)) K (V++[.list acc]):=λ hK=>Y9 (D2 hd) rfl eo (by rw[hg.ol];decide) hK
  dsimp only[L1,D7,B6,D1,G5,A6,A7]
  refine C8 (E7 h14 (by decide)) rfl (C8 e42 rfl (hid (N7 (b:=decide (0<=os[j])) rfl ?_)))
  by_cases h0:0<=os[j]
  ·rw[decide_eq_true h0,if_pos rfl]
   refine xE (Hn h0) λ o ho=>?_
   have hob:=hg.ob j _ eo
   have hown:bc os j=some o:=nA hj6 (by rw[FA,eo];exact ho)
   have hlt:X.idxOf o<X.idxOf j:=by
    refine xE (Na (hp.mem_iff.mpr (Gi.mpr (show j<6 from hj.2)))) λ A Z=>xE Z λ B hAB=>?_;clear Z
    have hoA:=hv.prec A j B hAB o hown (Gi.mpr (FF (GP.mp (ho▸hob.2)) hj.2))
    have hnd:=hv.nd
    rw[hAB]at hnd ⊢
    have hjA:j∉A:=λ hm=>(Ia.mp hnd).2.2 j hm j (.head _) rfl
    rw[Nn,if_pos hoA,Nn,if_neg hjA]
    have:=List.idxOf_lt_length_of_mem hoA
    exact Fo this (GO _ _)
   have hi1:=aQ (D2 (τ:=[.list acc]) hX)
   refine C8 (E7 h19 (by decide)) rfl (And.intro hi1 (C8 (E7 h14 (by decide)) rfl (C8 e42 rfl (hid ?_))))
   rw[ho]
   refine ix (FF (GP.mp (ho▸hob.2)) hj.2) (C8 (E7 h19 (by decide)) rfl (And.intro hi1 (C8 e42 rfl (ix hj.2 ?_))))
   refine N7 (b:=false) ?_ (b1 rfl)
   show some (decide _)=_
   exact congrArg some (decide_eq_false (λ h=>GY (FE hlt) (GP.mp h)))
  ·rw[decide_eq_false h0,if_neg (by decide)]
   exact b1 rfl
 ·rw[show((List.range' 0 6).filter λ Y=>false)=[]from rfl]
  refine And.intro (D8 (show 0<1000000 by decide)) (N7 (dw (l:=[]) (m:=[]) (D2 E0) E0).2 ?_)
  rw[decide_eq_true rfl,if_neg (by decide)]
  exact q _ Pre.rfl'.app.app
theorem rO{gs:List Int}:∀l:List Nat,(l.map (gF gs)).sum=Z8 (gF gs) l
 | []=>rfl
 | i::l=>by rw[Gg,Jz,rO l];rfl
theorem EW{gs:List Int}(g6:gs.length=6){X:List Nat}{a b:Nat}{K:G3->List AV->Sto->Prop}(hs:st.length=45)(h19:st[19]?=some (.ref a))(h5:st[5]?=some (.ref b))(hX:lst V a=some (bp X))(hb:lst V b=some (gs.map .int))(hp:X.Perm (List.range 6))
  (q:∀c st' ρ,FrS [27] st st'->Pre V ρ->st'[27]?=some (.ref c)->lst ρ c=some (((List.range 7).map λ s=>Z8 (gF gs) (X.take s)).map .int)->K .next st' ρ):eP W k st K V:=by
 unfold eP
 dsimp only[G4,N5,H3,A6,A7,B6]
 dsimp only[rgP,inI]
 have h6:X.length=6:=hp.length_eq
 have er:V9 (0:Int) ((7:Int)-0).toNat 1=(List.range' 0 7).map λ j:Nat=>AV.int (j:Int):=dz (a:=0) (n:=7)
 refine⟨by decide,?_⟩
 rw[er]
 refine iC (λ Y=>true) (λ i=>.int (Z8 (gF gs) (X.take i))) (λ Y Y=>trivial) (O4 (by decide)) (λ i υ K2 K' hi hp' h1 Y=>?_) λ υ hp' hl=>?_
 ·have e43:(st.set 43 (.int (i:Int)))[43]?=some (.int (i:Int)):=K7 (hs▸by decide)
  dsimp only[F0,D0,A6,A7,aF,L2]
  refine C8 (E7 h19 (by decide)) rfl ?_
  unfold H5
  refine C8 e43 rfl (k_i (zk (lo:=none) (hi:=some (i:Int)) (hp'.lst hX) ⟨trivial,FX i⟩ (D8 (by unfold bp;rw[Fd,h6];decide)) ?_))
  rw[show c6 (bp X) none (some (i:Int))=(X.take i).map λ x:Nat=>AV.int (x:Int)from(List.map_take ..).symm]
  refine gW E0 (U6 (v:=λ j:Nat=>AV.int (j:Int)) (λ Y=>true) (λ j=>.int (gF gs j)) (λ acc=>D2 E0) (O4 (by rw[Lz,h6];exact Fe (LB ..) (by decide))) (λ j hj acc K3 K4 c1 c2=>?_) ?_)
  ·have hj6:j<6:=Gi.mp (hp.mem_iff.mp (HR hj))
   have hgv:gs[j]?=some (gF gs j):=by unfold gF;rw[FA,Ff (g6.symm▸hj6)];rfl
   exact C8 (E7 (E7 h5 (by decide)) (by decide)) rfl (C8 (K7 (by rw[Fj,hs];decide)) rfl (Y9 (D2 (D2 (hp'.lst hb))) rfl hgv (by rw[g6];decide) (c1 rfl)))
  ·refine⟨(X.take i).map (gF gs),?_,?_⟩
   ·rw[E0,Gh,show((X.take i).filter λ Y=>true)=X.take i from Hu.mpr λ Y Y=>rfl]
    rfl
   ·rw[rO]
    exact h1 _ Pre.rfl'.app.app rfl
 ·rw[show((List.range 7).filter λ Y=>true)=List.range 7 from rfl]at hl
  exact q _ _ _ (FrS.rfl'.set (.head _)) hp' (K7 (hs▸by decide)) (hl.trans (congrArg some (Gh ..).symm))
theorem EX(N:GF W)(G:GI W){gs os:List Int}(hg:SeG gs os){Wh:List Blk}{ig io:Nat}{K:G3->List AV->Sto->Prop}(hs:st.length=45)(h5:st[5]?=some (.ref ig))(h14:st[14]?=some (.ref io))(hig:lst V ig=some (gs.map .int))(hio:lst V io=some (os.map .int))(hW:GoodR (bc os) (gF gs) (List.range 6) Wh)
  (q:∀(Ss:List (Int×Int)) c st' ρ,FrS [28,29] st st'->Pre V ρ->st'[28]?=some (.int (G6 Wh).purse)->st'[29]?=some (.ref c)->lst ρ c=some (Ss.map prA)->Ss.length<=64->(G6 Wh).purse=prs (gF gs) (G6 Wh).order->aN (G6 Wh).pairs=aN Ss->K .next st' ρ):eQ W (k+1) st K V:=by
 unfold eQ
 dsimp only[B7,D0,fnB,A6,A7,I0]
 refine C8 h5 rfl (C8 h14 rfl (yS N G hg (F6 hig) (F6 hio) λ P Ss τ q1 q2 q3 q4=>?_))
 obtain⟨e1,e2,e3⟩:=uG (nq hg) hW q1 q2 q3
 dsimp only[J8,J9,D9,J7,B4]
 refine And.intro rfl ?_
 rw[e1]
 exact q Ss _ _ _ ((FrS.rfl'.set (by decide)).set (by decide)) Pre.rfl'.app.app (E7 (K7 (zzg hs rfl)) (by decide)) (K7 (by rw[Fj];exact zzg hs rfl)) E0 q4 e2 e3
theorem EY(N:GF W)(G:GI W){gs:List Int}{Wh:List Blk}{Ss:List (Int×Int)}{b c d:Nat}{K:G3->List AV->Sto->Prop}(h21:st[21]?=some (.int (G6 Wh).purse))(h28:st[28]?=some (.int (G6 Wh).purse))(h27:st[27]?=some (.ref d))(h20:st[20]?=some (.ref b))(h29:st[29]?=some (.ref c))
  (hd:lst V d=some (((List.range 7).map λ s=>Z8 (gF gs) ((G6 Wh).order.take s)).map .int))(hb:lst V b=some ((G6 Wh).pairs.map prA))(hc:lst V c=some (Ss.map prA))(z1:(G6 Wh).pairs.length<1000)(z2:Ss.length<=64)(z3:(G6 Wh).order.length=6)
  (e1:(G6 Wh).purse=prs (gF gs) (G6 Wh).order)(e2:aN (G6 Wh).pairs=aN Ss)(q:∀st ρ,Pre V ρ->K (.ret (.bool true)) st ρ):eR W (k+1) st K V:=by
 unfold eR
 dsimp only[G2,L9,E4,I9,D0,fnB,A6,A7,L4]
 refine C8 h21 rfl (C8 h28 rfl (N7 (b:=true) (congrArg some (decide_eq_true rfl)) ?_))
 refine C8 h27 rfl ⟨_,hd,by simp,λ M hM hmin=>?_⟩
 have hp:(G6 Wh).purse = -M:=by
  rw[e1]
  refine xC (gF gs) _ M ?_ λ i hi=>?_
  ·obtain⟨s,hs,rfl⟩:=FN.mp hM
   exact⟨s,by have:=Gi.mp hs;exact fp (FW this) (Fw z3.symm),rfl⟩
  ·exact hmin _ (FN.mpr ⟨i,Gi.mpr (GG (fp hi (Fw z3))),rfl⟩)
 refine k_i (N7 (b:=true) (congrArg some (decide_eq_true hp)) ?_)
 refine C8 h20 rfl (rH N G (F6 hb) z1 ?_)
 refine C8 h29 rfl (rH N G (F6 (D2 hc)) (zzb (Fq z2) rfl) ?_)
 refine N7 (b:=true) ((nk (v:=prA) (λ a=>by simp[AV.ok,AV.okL]) (λ x y e=>by
  injection e with e
  injection e with e1 e2
  injection e1 with e1
  injection e2 with e2 _
  injection e2 with e2
  exact Oq e1 e2) (D2 E0) E0).1.trans (congrArg some (decide_eq_true e2))) (q _ _ Pre.rfl'.app.app)
theorem EZ{a b:ST}{K:G3->List AV->Sto->Prop}(h:∀K',(∀st V,b st K V->K' .next st V)->(∀v st V,K (.ret v) st V->K' (.ret v) st V)->a st K' V):A4 a b st K V:=h _ (λ Y Y h=>h) λ Y Y Y h=>h
def lwD(W:Wld)(k:Nat):ST:=A4 (eN W k) (A4 (eO W k) (A4 (eP W k) (A4 (eQ W k) (A4 (eR W k) (B5)))))
def lwC(W:Wld)(k:Nat):ST:=A4 (eD W k) (A4 (cQ W k) (A4 (cR W k) (A4 (eE W k) (A4 (eF W k) (A4 (eG W k) (A4 (eH W k) (A4 (eI W k) (A4 (eJ W k) (lwD W k)))))))))
def lwB(W:Wld)(k:Nat):ST:=A4 (gT W k) (A4 (ei W k) (A4 (eu W k) (A4 (ew W k) (A4 (ez W k) (A4 (eA W k) (A4 (eB W k) (A4 (eC W k) (lwC W k))))))))
def lwA(W:Wld)(k:Nat):ST:=A4 (gP W k) (A4 (gQ W k) (A4 (gR W k) (A4 (ju W k) (A4 (gS W k) (lwB W k)))))
theorem yZ:vF W k=A4 (gL W k) (A4 (gM W k) (A4 (gN W k) (A4 (gO W k) (lwA W k)))):=rfl
theorem fu{a b:ST}{K:G3->List AV->Sto->Prop}(h:∀K',(∀st V,b st K V->K' .next st V)->a st K' V):A4 a b st K V:=h _ λ Y Y h=>h
theorem wy{c0 P:Addr}{qn:Str}(N:GF W)(G:GI W)(LX:LxI W c0 P qn){sc:List Int}(hz:sc.length<=63){ps:Array Value}(T:V5 V P ps (T7 qn)){K:G3->List AV->Sto->Prop}(q:∀st V,(∃ps,V[0]?=some (.raw P (tbO ps)))->K (.ret (.bool true)) st V):
  vF W (k+5) ([.clist sc]++List.replicate 44 .undef) K V:=by
 have hs0:([.clist sc]++List.replicate 44 .undef:List AV).length=45:=rfl
 have s0:([.clist sc]++List.replicate 44 .undef:List AV)[0]?=some (.clist sc):=rfl
 generalize ([.clist sc]++List.replicate 44 .undef:List AV)=st0 at hs0 s0 ⊢
 rw[yZ]
 refine fu λ K_ n_=>lb0 N G s0 hz (zzg hs0 rfl) λ Tn a1 st1 So f1 p1 v1 t6 l1=>n_ _ _ ?_
 have hs1:st1.length=45:=f1.len.trans hs0
 refine lb2 (zzg hs1 rfl) v1 l1 t6 λ lds a2 st2 Sp f2 p2 v2 l6 l2 hO=>?_
 have hs2:st2.length=45:=f2.len.trans hs1
 refine fu λ K_ n_=>lb3 hs2 (f2.at v1 (by decide)) (p2.lst l1) t6 λ gs a5 st3 Sq f3 p3 v5 g6 gb l5=>n_ _ _ ?_
 have hs3:st3.length=45:=f3.len.trans hs2
 unfold lwA
 refine fu λ K_ n_=>lb4 hs3 (f3.at v2 (by decide)) v5 (p3.lst l2) l6 hO l5 g6 gb λ a6 st4 Sr f4 p4 v6 l6'=>n_ _ _ ?_
 have hs4:st4.length=45:=f4.len.trans hs3
 have w6:(Q1 lds gs).length=6:=by unfold Q1;rw[Fd,FZ]
 have wo:∀w∈Q1 lds gs,qf w:=λ w hw=>by
  refine xE (Ja hw) λ i hi=>?_
  refine xE (kC l6 hO g6 gb (k:=i) (by have:=B3 hi;exact FQ this w6)) λ l Z=>xE Z λ g J=>(λ θ ξ ϑ ϖ a b=>?_) J.1 J.2.1 J.2.2.1 J.2.2.2.1 J.2.2.2.2.1 J.2.2.2.2.2;clear Z J
  rw[hi]at a
  cases a
  exact b
 refine lb6 N G hs4 (f4.at (f3.at (f2.at v1 (by decide)) (by decide)) (by decide)) (p4.lst (p3.lst (p2.lst l1))) t6 v6 l6' w6 wo λ its st5 RJ f5 p5 v7 i6 iok iw=>?_
 have hs5:st5.length=45:=f5.len.trans hs4
 have T5:V5 RJ P ps (T7 qn):=by
  refine xE ((((p1.trans p2).trans p3).trans p4).trans p5) λ τ Z=>?_;rcases Z with rfl
  exact T.raws bb
 unfold ju
 refine fu λ K_ n_=>?_
 dsimp only[B7,D0,fnB,A6,A7,I0,B4]
 refine C8 v7 rfl (o6 (k:=k+2) N G LX T5 λ RP ps6 p E6 T6 i1 i2 i3 pt hp=>n_ _ _ ?_)
 have hs6:(st5.set 8 (.ref p.ii)).length=45:=by rw[Fj];exact hs5
 have v8:(st5.set 8 (.ref p.ii))[8]?=some (.ref p.ii):=K7 (zzg hs5 rfl)
 have v7:(st5.set 8 (.ref p.ii))[7]?=some (.str (aT its)):=E7 v7 (by decide)
 have v6:(st5.set 8 (.ref p.ii))[6]?=some (.ref a6):=E7 (f5.at v6 (by decide)) (by decide)
 have v5:(st5.set 8 (.ref p.ii))[5]?=some (.ref a5):=E7 (f5.at (f4.at v5 (by decide)) (by decide)) (by decide)
 have v2:(st5.set 8 (.ref p.ii))[2]?=some (.ref a2):=E7 (f5.at (f4.at (f3.at v2 (by decide)) (by decide)) (by decide)) (by decide)
 have l2:=p5.lst (p4.lst (p3.lst l2))
 have l5:=p5.lst (p4.lst l5)
 have l6':=p5.lst l6'
 generalize st5.set 8 (.ref p.ii)=st6 at hs6 v8 v7 v6 v5 v2 ⊢
 refine fu λ K_ n_=>lb8 (k:=k+1) N G hs6 v8 hp pt i6 iok λ n ws d st7 RQ f7 rd v9 l9=>n_ _ _ ?_
 have hzt:=dy iok
 rw[<- pt]at v7
 unfold lwB
 refine fu λ K_ n_=>lb9 (k:=k+1) N G (f7.at v8 (by decide)) (f7.at v7 (by decide)) v9 (f7.at v6 (by decide)) (by rw[pt];exact Fe hzt (i6.symm▸by decide)) rd l9 (c:=a6) ?_ iok λ Rl len8 same8=>n_ _ _ ?_
 ·rw[iw]
  have e:=F6 (E6.lst T5 l6')
  exact J1 ((rd.same a6 (B3 e) (by have:=B3 (F6 l6');exact FP (fp this i1)) (by have:=B3 (F6 l6');exact FP (fp this i3))).trans e)
 have k8:∀{x:Nat}{y:I3},RP[x]?=some y->x≠p.ii->x≠p.il->Rl[x]?=some y:=fun{x y} e n1 n2=>by
  have hx:=B3 e
  have hl7:=rd.len
  exact(same8 x (fp hx hl7) n1 n2).trans ((rd.same x hx n1 n2).trans e)
 have old8:∀{x:Nat}{l:List AV},lst RJ x=some l->lst Rl x=some l:=fun{x l} e=>by
  have hx:=B3 (F6 e)
  exact J1 (k8 (F6 (E6.lst T5 e)) (FP (fp hx i1)) (FP (fp hx i3)))
 have T8:V5 Rl P ps6 (T7 qn):=T6.raws λ j a o e=>k8 e (by rintro rfl;rw[hp.inst]at e;cases e) (by rintro rfl;rw[hp.pos]at e;cases e)
 have l9:lst Rl d=some ((Q1 lds gs).map .str):=by
  have hd:=B3 (F6 l9)
  have e9:lst RQ d=some ((Q1 lds gs).map .str):=by rw[l9,<- iw,Gh];rfl
  refine J1 ((same8 d hd ?_ ?_).trans (F6 e9))
  ·rintro rfl
   have:=F6 e9
   rw[rd.lex.inst]at this
   cases this
  ·rintro rfl
   have:=F6 e9
   rw[rd.lex.pos]at this
   cases w6':(Q1 lds gs)with
   | nil=>rw[w6']at w6;cases w6
   | cons w r=>rw[w6']at this;cases this
 have l2:=old8 l2
 have l5:=old8 l5
 have hs7:st7.length=45:=f7.len.trans hs6
 have v5:=f7.at v5 (by decide)
 have v2:=f7.at v2 (by decide)
 refine fu λ K_ n_=>EJ N G hs7 v9 l9 l6 hO λ im st8 Su f8 p9 v10 hM=>n_ _ _ ?_
 have hs8:st8.length=45:=f8.len.trans hs7
 have v9:=f8.at v9 (by decide)
 have v5:=f8.at v5 (by decide)
 have v2:=f8.at v2 (by decide)
 refine fu λ K_ n_=>EK hs8 v10 v2 hM (p9.lst l2) l6 (λ i hi=>(wt l6 hO hi).len) λ RR p10=>n_ _ _ ?_
 refine fu λ K_ n_=>EL hs8 v10 v9 (p10.mk6 hM) (p10.lst (p9.lst l9)) l6 hO g6 gb λ a11 st9 RS f9 p11 v11 l11=>n_ _ _ ?_
 have hs9:st9.length=45:=f9.len.trans hs8
 refine fu λ K_ n_=>EM N G hs9 (f9.at v10 (by decide)) (p11.mk6 (p10.mk6 hM)) λ a12 st10 RT f10 p12 v12 l12=>n_ _ _ ?_
 have hs10:st10.length=45:=f10.len.trans hs9
 have v5:=f10.at (f9.at v5 (by decide)) (by decide)
 have v2:=f10.at (f9.at v2 (by decide)) (by decide)
 have v11:=f10.at v11 (by decide)
 refine fu λ K_ n_=>EN N G hs10 v2 (p12.lst (p11.lst (p10.lst (p9.lst l2)))) l6 λ ic st11 RU f11 p13 v13 hC=>n_ _ _ ?_
 have hs11:st11.length=45:=f11.len.trans hs10
 refine EO N G hs11 v13 hC λ a14 st12 RA f12 p14 v14 l14=>?_
 have hs12:st12.length=45:=f12.len.trans hs11
 have v5:=f12.at (f11.at v5 (by decide)) (by decide)
 have v11:=f12.at (f11.at v11 (by decide)) (by decide)
 have v12:=f12.at (f11.at v12 (by decide)) (by decide)
 have l12:=p14.lst (p13.lst l12)
 have l11:=p14.lst (p13.lst (p12.lst l11))
 have p8:=((((p9.trans p10).trans p11).trans p12).trans p13).trans p14
 have l5:=p8.lst l5
 have hg:=yW lds g6 gb
 unfold lwC
 refine fu λ K_ n_=>EP v12 v14 l12 l14 (n_ _ _ ?_)
 have T14:V5 RA P ps6 (T7 qn):=by
  refine xE p8 λ τ Z=>?_;rcases Z with rfl;clear p8
  exact T8.raws bb
 refine ES N G LX hg hs12 v11 v12 T14 l11 l12 λ Wh iw' st13 RV f13 v18 l18 hW k15 ⟨ps15,T15⟩=>?_
 have hs13:st13.length=45:=f13.len.trans hs12
 have v5:=f13.at v5 (by decide)
 have v14:=f13.at v14 (by decide)
 have hpl:=hW.perm.length_eq
 have hsm:=hW.small.1
 rw[FZ]at hpl hsm
 refine ET hs13 v18 l18 (Fw hpl) hsm λ a19 a20 st14 RW f14 p16 v19 v20 v21 l19 l20=>?_
 have hs14:st14.length=45:=f14.len.trans hs13
 have v5:=f14.at v5 (by decide)
 have v14:=f14.at v14 (by decide)
 have hperm:(G6 Wh).order.Perm (List.range 6):=by rw[da];exact hW.perm
 have hval:Z9 (bc (tw lds)) (List.range 6) (G6 Wh).order:=by rw[da];exact hW.valid
 unfold lwD
 refine fu λ K_ n_=>EU v19 l19 hperm λ RX p17=>n_ _ _ ?_
 refine fu λ K_ n_=>EV hg hs14 v19 v14 (p17.lst l19) (p17.lst (p16.lst (k15 _ _ l14))) hperm hval λ RY p18=>n_ _ _ ?_
 refine fu λ K_ n_=>EW g6 hs14 v19 v5 (p18.lst (p17.lst l19)) (p18.lst (p17.lst (p16.lst (k15 _ _ l5)))) hperm λ a27 st15 RZ f15 p19 v27 l27=>n_ _ _ ?_
 have hs15:st15.length=45:=f15.len.trans hs14
 refine fu λ K_ n_=>EX (k:=k+4) N G hg hs15 (f15.at v5 (by decide)) (f15.at v14 (by decide)) (p19.lst (p18.lst (p17.lst (p16.lst (k15 _ _ l5))))) (p19.lst (p18.lst (p17.lst (p16.lst (k15 _ _ l14))))) hW λ Ss a29 st16 Se f16 p20 v28 v29 l29 z29 e1 e2=>n_ _ _ ?_
 have zp:(G6 Wh).pairs.length<1000:=by
  have:∀(l:List Blk) (s:WSt),(l.foldl W9 s).pairs.length<=s.pairs.length+l.length:=λ l=>by
   induction l with
   | nil=>intro s;exact Fn _
   | cons b l ih=>
    intro s
    have:=ih (W9 s b)
    have h1:(W9 s b).pairs.length<=s.pairs.length+1:=by
     unfold W9
     dsimp only
     split
     ·rw[Fc];exact Fn _
     ·exact HS _
    rw[HO,GB]
    exact fp this (fp (Gr h1 _) (Fw (GC _ _)))
  have:=this Wh ⟨[],0,0,[]⟩
  unfold G6
  have h0:(⟨[],0,0,[]⟩:WSt).pairs.length=0:=rfl
  lia
 refine EZ λ K_ n_ r_=>EY (k:=k+4) N G (f16.at (f15.at v21 (by decide)) (by decide)) v28 (f16.at v27 (by decide)) (f16.at (f15.at v20 (by decide)) (by decide)) v29 (p20.lst l27) (p20.lst (p19.lst (p18.lst (p17.lst l20)))) l29 zp z29 hperm.length_eq e1 e2 λ st ρ p21=>r_ _ _ _ (q st ρ ⟨ps15,by
  refine xE ((((((p16.trans p17).trans p18).trans p19).trans p20).trans p21)) λ τ Z=>?_;rcases Z with rfl
  exact bb _ _ _ T15.raw⟩)
def N8(ps:Arguments)(names:List Str):Prop:=∀(fd:FuncData) (vs:List Value),fd.params=ps->fd.defaults=.none->fd.kwdefaults=.none->vs.length=names.length->bindArgs fd ⟨vs,[]⟩=pure (names.zip vs)
theorem tA{l:List α}(h:l.length=n+1):∃a r,l=a::r/\r.length=n:=by
 cases l with
 | nil=>cases h
 | cons a r=>exact⟨a,r,rfl,Nr h⟩
theorem Bb{l:List α}(h:l.length=0):l=[]:=Kf.mp h
theorem kP{ps:Arguments}{a:Str}(h:∀nm q body sc g cl doc pm an cd ct bt v1,bindArgs (FuncData.mk nm q ps body sc g cl .none .none doc pm an cd ct bt) ⟨[v1],[]⟩=pure [(a,v1)]):N8 ps [a]:=by
 rintro ⟨nm,q,_,body,sc,g,cl,_,_,doc,pm,an,cd,ct,bt⟩ vs rfl rfl rfl hl
 refine xE (tA hl) λ v1 Z=>xE Z λ w1 J=>(λ θ h1=>?_) J.1 J.2;rcases θ with rfl;clear Z J
 obtain rfl:=Bb h1
 exact h ..
theorem iG{ps:Arguments}{a b:Str}(h:∀nm q body sc g cl doc pm an cd ct bt v1 v2,bindArgs (FuncData.mk nm q ps body sc g cl .none .none doc pm an cd ct bt) ⟨[v1,v2],[]⟩=pure [(a,v1),(b,v2)]):N8 ps [a,b]:=by
 rintro ⟨nm,q,_,body,sc,g,cl,_,_,doc,pm,an,cd,ct,bt⟩ vs rfl rfl rfl hl
 obtain⟨v1,w1,rfl,h1⟩:=tA hl
 obtain⟨v2,w2,rfl,h2⟩:=tA h1
 obtain rfl:=Bb h2
 exact h ..
theorem CL{ps:Arguments}{a b c:Str}(h:∀nm q body sc g cl doc pm an cd ct bt v1 v2 v3,bindArgs (FuncData.mk nm q ps body sc g cl .none .none doc pm an cd ct bt) ⟨[v1,v2,v3],[]⟩=pure [(a,v1),(b,v2),(c,v3)]):N8 ps [a,b,c]:=by
 rintro ⟨nm,q,_,body,sc,g,cl,_,_,doc,pm,an,cd,ct,bt⟩ vs rfl rfl rfl hl
 refine xE (tA hl) λ v1 Z=>xE Z λ w1 J=>(λ θ h1=>?_) J.1 J.2;rcases θ with rfl;clear Z J
 refine xE (tA h1) λ v2 Z=>xE Z λ w2 J=>(λ θ h2=>?_) J.1 J.2;rcases θ with rfl;clear Z J
 refine xE (tA h2) λ v3 Z=>xE Z λ w3 J=>(λ θ h3=>?_) J.1 J.2;rcases θ with rfl;clear Z J
 obtain rfl:=Bb h3
 exact h ..
noncomputable def ndS:List Str->Bool
 | []=>true
 | a::l=>!l.contains a&&ndS l
theorem qg:∀{l:List Str},ndS l=true->l.Nodup
 | [],_=>.nil
 | a::l,h=>by
  simp only[ndS,Gn,HJ,List.contains_eq_mem,decide_eq_false_iff_not]at h
  exact GZ.mpr ⟨h.1,qg h.2⟩
noncomputable def rP:List Str->Nat->List (Str×Nat)->Bool
 | [],_,_=>true
 | p::ps,i,sl=>(match sl.lookup p with|some j=>Nat.beq j i|none=>false)&&rP ps (i+1) sl
theorem pf:∀{ps:List Str}{n:Nat}{sl:List (Str×Nat)},rP ps n sl=true->∀i (h:i<ps.length),sl.lookup ps[i]=some (n+i)
 | [],_,_,_,i,h=>absurd h (IX i)
 | p::ps,n,sl,hb,i,h=>by
  simp only[rP,Gn]at hb
  cases i with
  | zero=>
   have:=hb.1
   show sl.lookup p=some n
   cases e:sl.lookup p with
   | none=>rw[e]at this;cases this
   | some j=>rw[e]at this;rw[Mm this]
  | succ i=>
   have:=pf hb.2 i (Jv h)
   rw[show n+(i+1)=n+1+i by lia]
   exact this
noncomputable def ndN:List Nat->Bool
 | []=>true
 | a::l=>l.all (λ b=>!Nat.beq a b)&&ndN l
theorem wz:∀{sl:List (Str×Nat)},ndN (sl.map (·.2))=true->∀x y i,sl.lookup x=some i->sl.lookup y=some i->x=y
 | [],_,x,y,i,h,_=>by cases h
 | (z,j)::sl,hb,x,y,i,h1,h2=>by
  simp only[Gg,ndN,Gn]at hb
  rcases hb with⟨hj,hb⟩
  have nj:∀w,sl.lookup w=some j->False:=λ w hw=>by
   have:=Jk.mp hj j (FN.mpr ⟨(w,j),Internal.mem_of_lookup hw,rfl⟩)
   rw[show Nat.beq j j=true from Nat.beq_refl j]at this
   cases this
  rw[HD]at h1 h2
  cases e1:x==z <;> cases e2:y==z <;> rw[e1]at h1 <;> rw[e2]at h2 <;> dsimp only at h1 h2
  ·exact wz hb x y i h1 h2
  ·cases h2;exact(nj x h1).elim
  ·cases h1;exact(nj y h2).elim
  ·rw[eq_of_beq e1,eq_of_beq e2]
noncomputable def okF(F:Fm)(params:List Str):Bool:=!F.scope.isCoroutine&&(!F.scope.isGenerator&&((match F.scope.kind with|.function=>true|_=>false)&&(ndS params&&(params.all (λ p=>match F.scope.names.lookup p with|some .local=>true|some .cell=>true|_=>false) &&
 (ndS (F.scope.names.map (·.1))&&(F.scope.names.all (λ p=>match p.2 with|.free=>false|_=>true)&&(ndN (F.slots.map (·.2))&&rP params 0 F.slots)))))))
theorem P0{a:Addr}{params:List Str}{ps:Arguments}{body:List Stmt}{sc:Scope}(e:N4 W.K a=O2 ps body sc)(hs:F.scope=sc)(hb:N8 ps params)(ok:okF F params=true):FnI W a F params body:=by
 unfold okF at ok
 simp only[Gn,HJ]at ok
 refine(λ k1 k2 k3 k4 k5 k6 k7 k8 k9=>?_) ok.1 ok.2.1 ok.2.2.1 ok.2.2.2.1 ok.2.2.2.2.1 ok.2.2.2.2.2.1 ok.2.2.2.2.2.2.1 ok.2.2.2.2.2.2.2.1 ok.2.2.2.2.2.2.2.2;clear ok
 refine⟨?_,k1,k2,?_,qg k4,λ p hp=>?_,qg k6,λ p hp he=>?_,wz k8,λ i h=>by rw[pf k9 i h,Gy]⟩
 ·unfold N4 at e
  cases ho:W.K.lookup a with
  | none=>rw[ho]at e;cases e
  | some o=>
   rw[ho]at e
   obtain⟨oc,od,odt,os⟩:=o
   dsimp only at e
   induction odt with
   | func fd=>
    unfold O2 at e
    injection e with e
    injection e with e1 e
    injection e with e2 e
    injection e with e3 e
    injection e with e4 e
    injection e with e5 e
    injection e5 with e5 e6
    injection e with e7 e8
    injection e7 with e7 e9
    exact⟨_,fd,rfl,rfl,e3.trans hs.symm,e2,e4,e5,e6,e8,λ vs hl=>hb fd vs e1 e7 e9 hl⟩
   | _=>cases e
 ·cases hk:F.scope.kind with
  | function=>rfl
  | _=>rw[hk]at k3;cases k3
 ·have:=Jk.mp k5 p hp
  cases hl:F.scope.names.lookup p with
  | none=>rw[hl]at this;cases this
  | some q=>
   rw[hl]at this
   induction q with
   | «local»=>exact .inl rfl
   | cell=>exact .inr rfl
   | _=>cases this
 ·have:=Jk.mp k7 p hp
  rw[he]at this
  cases this
theorem nB:N8 (H4 5) [aP,dk,lV]:=CL (by intro nm q body sc g cl doc pm an cd ct bt v1 v2 v3;kernel_rfl)
theorem qh:N8 (H4 6) [aP,lV]:=iG (by intro nm q body sc g cl doc pm an cd ct bt v1 v2;kernel_rfl)
theorem kE:N8 (H4 3) [aP,pV]:=iG (by intro nm q body sc g cl doc pm an cd ct bt v1 v2;kernel_rfl)
theorem qi:N8 (H4 2) [aP]:=kP (by intro nm q body sc g cl doc pm an cd ct bt v1;kernel_rfl)
theorem qj:N8 (H4 4) [n_x]:=kP (by intro nm q body sc g cl doc pm an cd ct bt v1;kernel_rfl)
theorem pg:N8 (H4 18) [kd,oR]:=iG (by intro nm q body sc g cl doc pm an cd ct bt v1 v2;kernel_rfl)
theorem jb:N8 (H4 15) [pW,rh]:=iG (by intro nm q body sc g cl doc pm an cd ct bt v1 v2;kernel_rfl)
theorem jc:N8 (H4 17) [jr]:=kP (by intro nm q body sc g cl doc pm an cd ct bt v1;kernel_rfl)
theorem kF:N8 (H4 13) [bR,kc]:=iG (by intro nm q body sc g cl doc pm an cd ct bt v1 v2;kernel_rfl)
theorem jd:N8 (H4 14) [pY,va]:=iG (by intro nm q body sc g cl doc pm an cd ct bt v1 v2;kernel_rfl)
theorem kQ:N8 (H4 20) [n_k,pU,jm]:=CL (by intro nm q body sc g cl doc pm an cd ct bt v1 v2 v3;kernel_rfl)
theorem kG:N8 (H4 19) [jq]:=kP (by intro nm q body sc g cl doc pm an cd ct bt v1;kernel_rfl)
theorem kR:N8 (H4 21) [js]:=kP (by intro nm q body sc g cl doc pm an cd ct bt v1;kernel_rfl)
theorem nC:N8 (H4 22) [jo,d6]:=iG (by intro nm q body sc g cl doc pm an cd ct bt v1 v2;kernel_rfl)
theorem ae:N8 (N9 10 2) [P5]:=kP (by intro nm q body sc g cl doc pm an cd ct bt v1;kernel_rfl)
theorem cb:N8 (N9 10 3) [P5,iB]:=iG (by intro nm q body sc g cl doc pm an cd ct bt v1 v2;kernel_rfl)
theorem fZ:N8 (N9 10 6) [P5,fh]:=iG (by intro nm q body sc g cl doc pm an cd ct bt v1 v2;kernel_rfl)
theorem eT:N8 (N9 10 1) [P5,Aw]:=iG (by intro nm q body sc g cl doc pm an cd ct bt v1 v2;kernel_rfl)
theorem cX:N8 (N9 8 3) [P5,jt]:=iG (by intro nm q body sc g cl doc pm an cd ct bt v1 v2;kernel_rfl)
theorem fv:N8 (N9 8 0) [P5,Ak]:=iG (by intro nm q body sc g cl doc pm an cd ct bt v1 v2;kernel_rfl)
theorem nE:N8 (H4 16) [u0,fh]:=iG (by intro nm q body sc g cl doc pm an cd ct bt v1 v2;kernel_rfl)
theorem cY:N8 (N9 8 1) [P5]:=kP (by intro nm q body sc g cl doc pm an cd ct bt v1;kernel_rfl)
theorem dA:N8 (N9 8 2) [P5]:=kP (by intro nm q body sc g cl doc pm an cd ct bt v1;kernel_rfl)
theorem Bc:N8 (H4 23) [bR]:=kP (by intro nm q body sc g cl doc pm an cd ct bt v1;kernel_rfl)
theorem kS:N8 (H4 12) [O3]:=kP (by intro nm q body sc g cl doc pm an cd ct bt v1;kernel_rfl)
theorem D6{l m:List α}(e:l=m)(i:Nat){a b:α}(h1:l[i]?=some a)(h2:m[i]?=some b):a=b:=Ft (h1.symm.trans ((congrArg (λ l=>l[i]?) e).trans h2))
theorem Q6{K:Frag}{a:Addr}{ps:Arguments}{body:List Stmt}{sc:Scope}(e:N4 K a=O2 ps body sc):∃o fd,K.lookup a=some o/\o.data=.func fd:=by
 unfold N4 at e
 cases ho:K.lookup a with
 | none=>rw[ho]at e;cases e
 | some o=>
  rw[ho]at e
  obtain⟨oc,od,odt,os⟩:=o
  dsimp only at e
  induction odt with
  | func fd=>exact⟨_,fd,rfl,rfl⟩
  | _=>cases e
set_option tactic.hygienic true in
theorem wA{name:Str}{y:List Nat}(h1:readsIn W.K cW (.type "type")=true)(h2:(match findCls W.K (.ref cW) (.type "type") name with
 | some (.val (.str y _))=>some y.cps.toList
 | _=>none)=some y):ClV W cW name y:=by
 split at h2
 ·rename_i z t e
  cases h2
  exact⟨_,t,h1,e⟩
 ·cases h2
section
variable {W:Wld}
theorem Bd(e:rT W.K=rU):FnI W 240 O9 [bR] (C4 23):=P0 (D6 e 16 rfl rfl) rfl Bc (by kernel_rfl)
theorem kU(e:rT W.K=rU):FnI W N6 cB [O3] (C4 12):=P0 (D6 e 5 rfl rfl) rfl kS (by kernel_rfl)
theorem CM(e:rT W.K=rU):GF W where
 f__siftdown:=P0 (D6 e 3 rfl rfl) rfl nB (by kernel_rfl)
 f__siftup:=P0 (D6 e 4 rfl rfl) rfl qh (by kernel_rfl)
 f_heapreplace:=P0 (D6 e 1 rfl rfl) rfl kE (by kernel_rfl)
 f_heappop:=P0 (D6 e 0 rfl rfl) rfl qi (by kernel_rfl)
 f_heapify:=P0 (D6 e 2 rfl rfl) rfl qj (by kernel_rfl)
 f__law_key:=P0 (D6 e 11 rfl rfl) rfl pg (by kernel_rfl)
 f__law_columns:=P0 (D6 e 8 rfl rfl) rfl jb (by kernel_rfl)
 f__law_outline:=P0 (D6 e 10 rfl rfl) rfl jc (by kernel_rfl)
 f__law_totals:=P0 (D6 e 6 rfl rfl) rfl kF (by kernel_rfl)
 f__law_spelled:=P0 (D6 e 7 rfl rfl) rfl jd (by kernel_rfl)
 f__law_grown:=P0 (D6 e 13 rfl rfl) rfl kQ (by kernel_rfl)
 f__law_merged:=P0 (D6 e 12 rfl rfl) rfl kG (by kernel_rfl)
 f__law_steps:=P0 (D6 e 14 rfl rfl) rfl kR (by kernel_rfl)
 f__law_sets:=P0 (D6 e 15 rfl rfl) rfl nC (by kernel_rfl)
 f_Whitespace_longest_run_of_spaces:=P0 (D6 e 22 rfl rfl) rfl ae (by kernel_rfl)
 f_Whitespace_indent_level:=P0 (D6 e 23 rfl rfl) rfl cb (by kernel_rfl)
 f_Whitespace_less:=P0 (D6 e 24 rfl rfl) rfl fZ (by kernel_rfl)
 f_Whitespace_DinitD:=P0 (D6 e 21 rfl rfl) rfl eT (by kernel_rfl)
 f__netrclex_push_token:=P0 (D6 e 20 rfl rfl) rfl cX (by kernel_rfl)
 f__netrclex_DinitD:=P0 (D6 e 17 rfl rfl) rfl fv (by kernel_rfl)
 f__law_less:=P0 (D6 e 9 rfl rfl) rfl nE (by kernel_rfl)
 f__netrclex__read_char:=P0 (D6 e 18 rfl rfl) rfl cY (by kernel_rfl)
 f__netrclex_get_token:=P0 (D6 e 19 rfl rfl) rfl dA (by kernel_rfl)
theorem Fa(ec:wD W.K=wF)(eb:wG W.K=wH):ph W cL:=⟨D6 ec 0 rfl rfl,D6 ec 1 rfl rfl,D6 eb 0 rfl rfl,D6 eb 1 rfl rfl,λ k=>match k with|⟨0,_⟩=>D6 ec 4 rfl rfl|⟨1,_⟩=>D6 ec 5 rfl rfl|⟨2,_⟩=>D6 ec 6 rfl rfl|⟨3,_⟩=>D6 ec 7 rfl rfl|⟨4,_⟩=>D6 ec 8 rfl rfl|⟨5,_⟩=>D6 ec 9 rfl rfl|⟨6,_⟩=>D6 ec 10 rfl rfl|⟨7,_⟩=>D6 ec 11 rfl rfl|⟨8,_⟩=>D6 ec 12 rfl rfl,λ k=>match k with|⟨0,_⟩=>D6 eb 4 rfl rfl|⟨1,_⟩=>D6 eb 5 rfl rfl|⟨2,_⟩=>D6 eb 6 rfl rfl|⟨3,_⟩=>D6 eb 7 rfl rfl|⟨4,_⟩=>D6 eb 8 rfl rfl|⟨5,_⟩=>D6 eb 9 rfl rfl|⟨6,_⟩=>D6 eb 10 rfl rfl|⟨7,_⟩=>D6 eb 11 rfl rfl|⟨8,_⟩=>D6 eb 12 rfl rfl⟩
theorem Fb(ec:wD W.K=wF)(eb:wG W.K=wH):ph W cW:=⟨D6 ec 13 rfl rfl,D6 ec 14 rfl rfl,D6 eb 13 rfl rfl,D6 eb 14 rfl rfl,λ k=>match k with|⟨0,_⟩=>D6 ec 17 rfl rfl|⟨1,_⟩=>D6 ec 18 rfl rfl|⟨2,_⟩=>D6 ec 19 rfl rfl|⟨3,_⟩=>D6 ec 20 rfl rfl|⟨4,_⟩=>D6 ec 21 rfl rfl|⟨5,_⟩=>D6 ec 22 rfl rfl|⟨6,_⟩=>D6 ec 23 rfl rfl|⟨7,_⟩=>D6 ec 24 rfl rfl|⟨8,_⟩=>D6 ec 25 rfl rfl,λ k=>match k with|⟨0,_⟩=>D6 eb 17 rfl rfl|⟨1,_⟩=>D6 eb 18 rfl rfl|⟨2,_⟩=>D6 eb 19 rfl rfl|⟨3,_⟩=>D6 eb 20 rfl rfl|⟨4,_⟩=>D6 eb 21 rfl rfl|⟨5,_⟩=>D6 eb 22 rfl rfl|⟨6,_⟩=>D6 eb 23 rfl rfl|⟨7,_⟩=>D6 eb 24 rfl rfl|⟨8,_⟩=>D6 eb 25 rfl rfl⟩
theorem CN(ef:rT W.K=rU)(eg:zz W.K=zA)(ec:wD W.K=wF)(eb:wG W.K=wH)(et:Bi W.K=Bj)(es:Bk W.K=Bl)(hm:∀n v,nsIn W.K mainGlobals n=some v->W.mg n=v)(hb:∀x:Str,x≠"__name__"->W.mb x=bootBuiltins x):GI W where
 b_int:=(hb _ (by decide +kernel)).trans (by kernel_rfl)
 b_iter:=(hb _ (by decide +kernel)).trans (by kernel_rfl)
 b_len:=(hb _ (by decide +kernel)).trans (by kernel_rfl)
 b_list:=(hb _ (by decide +kernel)).trans (by kernel_rfl)
 b_max:=(hb _ (by decide +kernel)).trans (by kernel_rfl)
 b_min:=(hb _ (by decide +kernel)).trans (by kernel_rfl)
 b_range:=(hb _ (by decide +kernel)).trans (by kernel_rfl)
 b_reversed:=(hb _ (by decide +kernel)).trans (by kernel_rfl)
 b_sorted:=(hb _ (by decide +kernel)).trans (by kernel_rfl)
 b_str:=(hb _ (by decide +kernel)).trans (by kernel_rfl)
 b_sum:=(hb _ (by decide +kernel)).trans (by kernel_rfl)
 b_tuple:=(hb _ (by decide +kernel)).trans (by kernel_rfl)
 b_zip:=(hb _ (by decide +kernel)).trans (by kernel_rfl)
 c_S:=wA (D6 eb 26 rfl rfl) (D6 es 0 rfl rfl)
 c_T:=wA (D6 eb 26 rfl rfl) (D6 es 1 rfl rfl)
 e_Whitespace_indent_level:=⟨D6 ec 15 rfl rfl,D6 ec 30 rfl rfl,D6 et 6 rfl rfl,Q6 (D6 ef 23 rfl rfl),by decide +kernel⟩
 e_Whitespace_less:=⟨D6 ec 15 rfl rfl,D6 ec 31 rfl rfl,D6 et 7 rfl rfl,Q6 (D6 ef 24 rfl rfl),by decide +kernel⟩
 e_Whitespace_longest_run_of_spaces:=⟨D6 ec 15 rfl rfl,D6 ec 29 rfl rfl,D6 et 5 rfl rfl,Q6 (D6 ef 22 rfl rfl),by decide +kernel⟩
 e__netrclex__read_char:=⟨D6 ec 2 rfl rfl,D6 ec 26 rfl rfl,D6 et 2 rfl rfl,Q6 (D6 ef 18 rfl rfl),by decide +kernel⟩
 e__netrclex_get_token:=⟨D6 ec 2 rfl rfl,D6 ec 27 rfl rfl,D6 et 3 rfl rfl,Q6 (D6 ef 19 rfl rfl),by decide +kernel⟩
 e__netrclex_push_token:=⟨D6 ec 2 rfl rfl,D6 ec 28 rfl rfl,D6 et 4 rfl rfl,Q6 (D6 ef 20 rfl rfl),by decide +kernel⟩
 m_Whitespace:=hm _ _ (D6 eg 6 rfl rfl)
 m__law_columns:=hm _ _ (D6 eg 10 rfl rfl)
 m__law_grown:=hm _ _ (D6 eg 15 rfl rfl)
 m__law_key:=hm _ _ (D6 eg 13 rfl rfl)
 m__law_less:=hm _ _ (D6 eg 11 rfl rfl)
 m__law_lexer:=hm _ _ (D6 eg 7 rfl rfl)
 m__law_merged:=hm _ _ (D6 eg 14 rfl rfl)
 m__law_outline:=hm _ _ (D6 eg 12 rfl rfl)
 m__law_sets:=hm _ _ (D6 eg 17 rfl rfl)
 m__law_spelled:=hm _ _ (D6 eg 9 rfl rfl)
 m__law_steps:=hm _ _ (D6 eg 16 rfl rfl)
 m__law_totals:=hm _ _ (D6 eg 8 rfl rfl)
 m__netrclex:=hm _ _ (D6 eg 5 rfl rfl)
 m__siftdown:=hm _ _ (D6 eg 3 rfl rfl)
 m__siftup:=hm _ _ (D6 eg 4 rfl rfl)
 m_heapify:=hm _ _ (D6 eg 2 rfl rfl)
 m_heappop:=hm _ _ (D6 eg 0 rfl rfl)
 m_heapreplace:=hm _ _ (D6 eg 1 rfl rfl)
 o__law_columns:=Q6 (D6 ef 8 rfl rfl)
 o__law_grown:=Q6 (D6 ef 13 rfl rfl)
 o__law_key:=Q6 (D6 ef 11 rfl rfl)
 o__law_less:=Q6 (D6 ef 9 rfl rfl)
 o__law_lexer:=Q6 (D6 ef 5 rfl rfl)
 o__law_merged:=Q6 (D6 ef 12 rfl rfl)
 o__law_outline:=Q6 (D6 ef 10 rfl rfl)
 o__law_sets:=Q6 (D6 ef 15 rfl rfl)
 o__law_spelled:=Q6 (D6 ef 7 rfl rfl)
 o__law_steps:=Q6 (D6 ef 14 rfl rfl)
 o__law_totals:=Q6 (D6 ef 6 rfl rfl)
 o__siftdown:=Q6 (D6 ef 3 rfl rfl)
 o__siftup:=Q6 (D6 ef 4 rfl rfl)
 o_heapify:=Q6 (D6 ef 2 rfl rfl)
 o_heappop:=Q6 (D6 ef 0 rfl rfl)
 o_heapreplace:=Q6 (D6 ef 1 rfl rfl)
 w_Whitespace:=⟨D6 eb 15 rfl rfl,D6 eb 16 rfl rfl,D6 ec 16 rfl rfl,D6 et 1 rfl rfl,Fb ec eb⟩
 w__netrclex:=⟨D6 eb 2 rfl rfl,D6 eb 3 rfl rfl,D6 ec 3 rfl rfl,D6 et 0 rfl rfl,Fa ec eb⟩
 z_int:=hm _ _ (D6 eg 26 rfl rfl)
 z_iter:=hm _ _ (D6 eg 31 rfl rfl)
 z_len:=hm _ _ (D6 eg 19 rfl rfl)
 z_list:=hm _ _ (D6 eg 23 rfl rfl)
 z_max:=hm _ _ (D6 eg 20 rfl rfl)
 z_min:=hm _ _ (D6 eg 21 rfl rfl)
 z_range:=hm _ _ (D6 eg 28 rfl rfl)
 z_reversed:=hm _ _ (D6 eg 29 rfl rfl)
 z_sorted:=hm _ _ (D6 eg 27 rfl rfl)
 z_str:=hm _ _ (D6 eg 25 rfl rfl)
 z_sum:=hm _ _ (D6 eg 22 rfl rfl)
 z_tuple:=hm _ _ (D6 eg 24 rfl rfl)
 z_zip:=hm _ _ (D6 eg 30 rfl rfl)
end
theorem y7{cl:Str->Option Addr}{sc:List Int}{as:List Addr}(r:ReadsAllW [] cl h vs (sc.map WData.int) as):IntsAre vs sc:=
 (readsAll_intsAre0 (readsAll_of_readsAllW (sc.map PyData.int) (by rw[ofPys_ints];exact r))).1
theorem y8{l:OpenLaw}(hm:l.most=some 63)(hb:l.bound=none){sc:List Int}(h:l.pre.holds [] { args:=[.list (sc.map WData.int)] } = true):sc.length<=63:=by
 unfold OpenLaw.pre at h
 rw[hm,hb]at h
 rcases IH 63 sc.length with q|q
 ·have e:less? (WData.int ((63:Nat):Int)) (WData.int ((sc.map WData.int).length:Nat))=some true:=congrArg some (decide_eq_true (by rw[Fd];lia))
  dsimp only[WTm.holds,WTm.value,B8]at h
  rw[e]at h
  cases h
 ·exact q
theorem tB{l:OpenLaw}{args:List WData}:l.row.toRowW.claim.post args (.bool true) args=true:=by
 have e:same (.bool true) (.bool true)=true:=by decide +kernel
 have h:WTm.holds [] (.eq .res (.lit (.bool true))) { args:=args,res:=some (.bool true),after:=args } = true:=by
  dsimp only[WTm.holds,WTm.value]
  rw[e]
 exact h
section
variable {h:Heap}{P:Addr}
theorem nF(hP:h.get? P=some (tbO #[])){b:Addr}{o:Obj}(e:h.get? b=some o)(hn:o≠tbO #[]):(hideAll h [P]).get? b=some o:=by
 refine NT _ e λ hm=>?_
 have:=Fh.mp hm
 subst this
 rw[hP]at e
 exact hn (Ft e).symm
theorem qk(hP:h.get? P=some (tbO #[])){b:Addr}{o:Obj}(e:h.get? b=some o)(hn:o.cls≠.none):(hideAll h [P]).get? b=some o:=nF hP e λ q=>hn (by rw[q])
theorem wB(hP:h.get? P=some (tbO #[])){a:Addr}{m:Str->Option Value}(x:h.Ns a m):(hideAll h [P]).Ns a m:=
 let ⟨o,es,ep,e,hd,r⟩:=x;⟨o,es,ep,nF hP e (λ q=>by rw[q]at hd;cases hd),hd,r⟩
end
theorem gc{K:Frag}{N:Addr}{n:Str}{r:Option Value}(e:nsIn K N n=some r):∃o,K.lookup N=some o:=by
 cases q:K.lookup N with
 | some o=>exact⟨o,rfl⟩
 | none=>
  unfold nsIn at e
  rw[q]at e
  cases e
theorem tC{c P:Addr}{ps:Array Value}(hc:h.IsCode c P ps)(ht:h.TableAt c P ps):CdH h c P:=by
 refine(λ Z J=>?_) ht.1 ht.2;refine xE Z λ o θ=>xE θ λ vs ξ=>(λ e1 e2 e3 e4=>?_) ξ.1 ξ.2.1 ξ.2.2.1 ξ.2.2.2;clear ht Z θ ξ
 refine xE hc λ o' Z=>xE Z λ vs' J=>xE J λ file θ=>xE θ λ tf ξ=>xE ξ λ flags ϑ=>xE ϑ λ tg ϖ=>xE ϖ λ inF ϱ=>xE ϱ λ text ϕ=>xE ϕ λ tt ϰ=>xE ϰ λ op ϵ=>(λ f1 f2 f3 f4 f5 f6 f7 ϝ Y Sv f11=>?_) ϵ.1 ϵ.2.1 ϵ.2.2.1 ϵ.2.2.2.1 ϵ.2.2.2.2.1 ϵ.2.2.2.2.2.1 ϵ.2.2.2.2.2.2.1 ϵ.2.2.2.2.2.2.2.1 ϵ.2.2.2.2.2.2.2.2.1 ϵ.2.2.2.2.2.2.2.2.2.1 ϵ.2.2.2.2.2.2.2.2.2.2;clear hc Z J θ ξ ϑ ϖ ϱ ϕ ϰ ϵ
 rw[e1]at f1;cases f1
 rw[e3]at f2;cases f2
 exact⟨o,vs,file,tf,flags,tg,inF,text,tt,e1,e2,e3,e4,f3,f4,f5,f6,f7,f11⟩
theorem CO{K:Frag}{N:Addr}{m:Str->Option Value}{n:Str}{r:Option Value}(X:K.In h)(G:h.Ns N m)(e:nsIn K N n=some r):m n=r:=by
 refine xE (gc e) λ o q=>?_
 refine xE G λ o' Z=>xE Z λ es J=>xE J λ ep θ=>(λ ho hd ξ hf=>?_) θ.1 θ.2.1 θ.2.2.1 θ.2.2.2;clear G Z J θ
 have:=X _ _ q
 rw[ho]at this
 cases this
 obtain⟨oc,od,odt,osl⟩:=o
 dsimp only at hd
 subst hd
 unfold nsIn at e
 rw[q]at e
 dsimp only at e
 rw[<- hf n]
 unfold nsFind findBy
 rw[<- Array.find?_toList]
 cases hq:es.toList.find? (λ x=>x.key.isStr n)with
 | some x=>
  rw[hq]at e
  cases e
  rfl
 | none=>
  rw[hq]at e
  dsimp only at e
  split at e
  ·cases e
  ·cases e;rfl
theorem y9{OQ:Shared}{c P:Addr}{qn:Str}(h0:W.h0=hideAll OQ.heap [P])(hos:OQ.os=W.s0.os)(N:GF W)(G:GI W)(fl:FnI W 240 O9 [bR] (C4 23))(LX:LxI W c P qn)(h6:OQ.heap.TableAt c P #[])(hP:OQ.heap.get? P=some (tbO #[]))(hg:OQ.gens=#[])
  {oS:Obj}(hS:OQ.heap.get? cStatics=some oS)(hS':W.h0.get? cStatics=some oS){sa:Addr}{sc:List Int}(hl:OQ.heap.IsList sa vs.toArray)(hI:IntsAre vs sc)(hz:sc.length<=63):
  wpAny (model W.prog W.w) callerA (call (.ref 240) [.ref sa]) (λ v s'=>v=.bool true/\OldK OQ.heap s'.heap/\s'.os=OQ.os/\s'.gens=#[]) NoE OQ:=by
 have R:Rep W [.raw P (tbO #[])] [(P,P)] OQ:=by
  refine⟨rfl,λ i o p ho hp=>?_,by simp,λ p hp=>?_,.of_keep λ b o e=>of_hideAll _ (h0▸e),hg,hos,⟨oS,hS',hS⟩⟩
  ·cases i with
   | zero=>
    cases ho
    cases hp
    exact .raw hP (by nofun) (by nofun)
   | succ i=>cases ho
  ·obtain rfl:=Fh.mp hp
   rw[h0]
   exact hideAll_none _ (.head _)
 have TS:V5 [.raw P (tbO #[])] P #[] (T7 qn):=⟨rfl,trivial,λ e he cv hc=>by cases hc⟩
 have CS:M8 W 6 240 [.clist sc] (λ r V=>r=.bool true/\∃ps,V[0]?=some (.raw P (tbO ps))) [.raw P (tbO #[])]:=
  H6 (n:=44) fl (Cg G) rfl (wy N G LX hz TS λ st V h=>⟨rfl,h⟩)
 have hls:W.h0.IsList sa vs.toArray:=by
  refine xE hl λ o Z=>(λ e hc r=>?_) Z.1 Z.2.1 Z.2.2;clear hl Z
  exact⟨o,h0▸qk hP e (by rw[hc];nofun),hc,r⟩
 have ro:N3 6 callerA:=⟨rfl,by decide +kernel,by decide +kernel⟩
 refine Fy (CS.wp ro R (.cons (.clist hls hI) .nil)) (λ v s' hp=>?_) λ Y Y x=>x
 obtain⟨OP,OT,x,⟨rfl,ps,hps⟩,R',vr,S⟩:=hp
 refine⟨vr.bool_inv,?_,R'.os.trans hos.symm,R'.gens⟩
 have hP':s'.heap.get? P=some (tbO ps):=by
  refine xE S.grow λ ψ Z=>(λ PX J=>?_) Z.1 Z.2;clear Z
  have h0:OT[0]?=some (P,P):=by rw[PX];rfl
  have:=R'.obj 0 _ _ hps h0
  cases this with
  | raw h _ _=>exact h
 refine⟨λ b o e=>?_,λ b o e=>?_⟩
 ·by_cases hb:b=P
  ·subst hb
   rw[hP]at e
   cases e
   exact .inr (.inl ⟨h6.isCodeTable,rfl,#[],ps,rfl,by rw[MZ];exact hP'⟩)
  ·have hfar:W.h0.get? b=some o:=by rw[h0];exact NT _ e λ hm=>hb (Fh.mp hm)
   rcases R'.old.old b o hfar with q|⟨⟨c',o',vs',q1,q2⟩,q3⟩|⟨rfl,_⟩
   ·exact .inl q
   ·exact .inr (.inl ⟨⟨c',o',vs',of_hideAll _ (h0▸q1),q2⟩,q3⟩)
   ·refine xE R'.stat λ oo Z=>(λ q1 q2=>?_) Z.1 Z.2;clear Z
    rw[hfar]at q1
    cases q1
    exact .inl q2
 ·by_cases hb:b=P
  ·subst hb
   exact⟨_,hP'⟩
  ·exact R'.old.there b o (by rw[h0];exact NT _ e λ hm=>hb (Fh.mp hm))
theorem CP{p:Program}{loose:List Str}{mean:ExcName->Option Value}{mb:Str->Option Value}{OQ:Shared}{c P:Addr}{o:Obj}{fd:FuncData}{ps:Array Value}(T:Top p loose mean W.mg mb OQ.heap)(h0:W.h0=hideAll OQ.heap [P])(hK:∀a o,W.K.lookup a=some o->OQ.heap.get? a=some o)
  (h2:OQ.heap.get? N6=some o)(h3:o.data=.func fd)(h4:fd.code=.ref c)(h5:OQ.heap.IsCode c P ps)(h6:OQ.heap.TableAt c P ps)(hP:OQ.heap.get? P=some (tbO #[]))(fi:FnI W N6 cB [O3] (C4 12)):LxI W c P fd.qualname:=by
 refine xE T.g λ om Z=>xE Z λ es1 J=>xE J λ ep1 θ=>(λ hom hdm rm=>?_) θ.1 θ.2.1 θ.2.2;clear Z J θ
 refine⟨⟨?_,?_,?_⟩,λ o' fd' e1 e2=>?_,fi⟩
 ·refine(tC h5 h6).get λ o q2 q1=>h0▸qk hP q1 (by rw[q2];nofun)
 ·intro q
  rw[<- q,hom]at hP
  cases hP
  cases hdm
 ·refine xE T.bmain λ bm Z=>xE Z λ ob J=>(λ b1 b2 b3 b4 b5 b6=>?_) J.1 J.2.1 J.2.2.1 J.2.2.2.1 J.2.2.2.2.1 J.2.2.2.2.2;clear Z J
  refine⟨bm,ob,b1,b2,?_,?_,h0▸qk hP b3 (by rw[b4];nofun),b4,b5,b6⟩
  ·rintro rfl
   rw[hom]at b3
   cases b3
   rw[hdm]at b6
   cases b6
  ·rintro rfl
   rw[hP]at b3
   cases b3
   cases b6
 ·have e3:=hK _ _ e1
  rw[h2]at e3
  cases e3
  rw[h3]at e2
  cases e2
  exact⟨h4,rfl⟩
theorem Be{prog p:Program}{loose:List Str}{mean:ExcName->Option Value}{w:World}{OQ:Shared}{mg mb:Str->Option Value}(T:Top p loose mean mg mb OQ.heap)(OL:Bo OQ.heap)(hrec:∃d∈recsOf p,d.name=wJ)(hg:OQ.gens=#[])
  {sa:Addr}{sc:List Int}(hl:OQ.heap.IsList sa vs.toArray)(hI:IntsAre vs sc)(hz:sc.length<=63){fa:Addr}(hfa:mg wK=some (.ref fa)):
  wpAny (model prog w) callerA (call (.ref fa) [.ref sa]) (λ v s'=>v=.bool true/\OldK OQ.heap s'.heap/\s'.os=OQ.os/\s'.gens=#[]) NoE OQ:=by
 refine xE OL λ K Z=>(λ hK eK=>?_) Z.1 Z.2;clear OL Z
 have ef:rT K=rU:=congrArg (λ x:ml=>x.1) eK
 have eg:zz K=zA:=congrArg (λ x:ml=>x.2.1) eK
 have X:K.In OQ.heap:=λ a o e=>(hK a o e).1
 have hm:∀n v,nsIn K mainGlobals n=some v->mg n=v:=λ n v e=>CO X T.g e
 have rf:∀{a b:Addr},(some (Value.ref a))=some (Value.ref b)->a=b:=λ h=>by cases h;rfl
 obtain rfl:=rf (hfa.symm.trans (hm wK _ (D6 eg 18 rfl rfl)))
 refine xE hrec λ d Z=>(λ hd hdn=>?_) Z.1 Z.2;clear hrec Z
 refine xE (T.tab d hd) λ a Z=>xE Z λ o J=>xE J λ fd θ=>xE θ λ c ξ=>xE ξ λ P ϑ=>(λ h1 h2 h3 h4 h5 h6=>?_) ϑ.1 ϑ.2.1 ϑ.2.2.1 ϑ.2.2.2.1 ϑ.2.2.2.2.1 ϑ.2.2.2.2.2;clear Z J θ ξ ϑ
 rw[hdn]at h1
 obtain rfl:=rf (h1.symm.trans (hm wJ _ (D6 eg 7 rfl rfl)))
 have hP:OQ.heap.get? P=some (tbO #[]):=h6.2
 refine xE T.nolimit λ mcs Z=>(λ J hlim=>?_) Z.1 Z.2;refine xE J λ oS θ=>xE θ λ es2 ξ=>xE ξ λ ep2 ϑ=>(λ hoS hdS rS=>?_) ϑ.1 ϑ.2.1 ϑ.2.2;clear Z J θ ξ ϑ
 have hS':=nF hP hoS λ q=>by rw[q]at hdS;cases hdS
 have kin:∀a o,K.lookup a=some o->(hideAll OQ.heap [P]).get? a=some o/\(o.cls≠.none\/a=cStatics):=λ a o e=>by
  obtain⟨e1,e2⟩:=hK a o e
  refine⟨nF hP e1 λ q=>e2.elim (λ e2=>e2 (by rw[q])) λ e2=>?_,e2⟩
  subst e2
  rw[e1]at hoS
  cases hoS
  rw[q]at hdS
  cases hdS
 have cl:∀{a:Addr},(∃o,K.lookup a=some o)->a≠cStatics->∀o,(hideAll OQ.heap [P]).get? a=some o->o.cls≠.none:=fun⟨o',h⟩ hn o e=>by
  rw[(kin _ _ h).1]at e
  cases e
  exact(kin _ _ h).2.resolve_right hn
 obtain⟨W,w1,w2,w3,w4,w5,w6⟩:∃W:Wld,W.prog=prog/\W.w=w/\W.s0 = { OQ with heap:=hideAll OQ.heap [P] }/\W.K=K/\W.mg=mg/\W.mb=mb:=
  ⟨⟨prog,w,{ OQ with heap:=hideAll OQ.heap [P] },K,kin,⟨mcs,wB hP ⟨oS,es2,ep2,hoS,hdS,rS⟩,hlim⟩,mg,mb,wB hP T.g,wB hP T.b,cl (gc (D6 eg 0 rfl rfl:nsIn K mainGlobals _=some (some (.ref 28)))) (by decide),
   cl (gc (D6 eg 32 rfl rfl:nsIn K builtinsNs _=some (some (.builtin "len")))) (by decide)⟩,rfl,rfl,rfl,rfl,rfl,rfl⟩
 subst w1 w2 w4 w5 w6
 have h0:W.h0=hideAll OQ.heap [P]:=congrArg (·.heap) w3
 exact y9 h0 (congrArg (·.os) w3).symm (CM ef) (CN ef eg (congrArg (λ x:ml=>x.2.2.1) eK) (congrArg (λ x:ml=>x.2.2.2.1) eK) (congrArg (λ x:ml=>x.2.2.2.2.1) eK) (congrArg (λ x:ml=>x.2.2.2.2.2) eK) hm T.builtins) (Bd ef)
  (CP T h0 X h2 h3 h4 h5 h6 hP (kU ef)) h6 hP hg hoS (h0▸hS') hl hI hz
theorem wC{q:Program}{loose:List Str}{XP:(Str->Option Value)->Heap->Prop}{d:DefRec}{kwd:List (Str×Expr)}{l:OpenLaw}(hm:l.most=some 63)(hb:l.bound=none)(hn:d.name=wK)(hrec:((recsOf q).any λ d=>d.name==wJ)=true):
  WalkO q loose XP jD.says l.row.toRowW d kwd λ f vs=>PySem.call f vs:=by
 intro w Pm OQ mg mb G OL a o pm cd doc dV kV ho hd hcd hD hmg hgens args vals as hpre hlay hread hwell hlow
 obtain⟨p1,p2⟩:=pre_splitW hpre
 refine xE (hasAllW_cons p1) λ x Z=>xE Z λ r J=>(λ θ hx hr=>?_) J.1 J.2.1 J.2.2;rcases θ with rfl;clear Z J
 obtain rfl:=hasAllW_nil hr
 refine xE (hasW_list hx) λ xs Z=>(λ J hi=>?_) Z.1 Z.2;rcases J with rfl;clear Z
 refine xE (items_int hi) λ sc Z=>?_;rcases Z with rfl
 refine xE (readsAllW_cons_inv hread) λ v Z=>xE Z λ vs J=>xE J λ a1 θ=>xE θ λ a2 ξ=>(λ ϑ ϖ r1 r2=>?_) ξ.1 ξ.2.1 ξ.2.2.1 ξ.2.2.2;rcases ϑ with rfl;rcases ϖ with rfl;clear Z J θ ξ
 obtain⟨rfl,rfl⟩:=readsAllW_nil_inv r2
 refine xE (readsW_list_open r1) λ l Z=>xE Z λ o' J=>xE J λ its θ=>xE θ λ n ξ=>xE ξ λ ai ϑ=>(λ ϖ e1 e2 e3 e4 ϱ=>?_) ϑ.1 ϑ.2.1 ϑ.2.2.1 ϑ.2.2.2.1 ϑ.2.2.2.2.1 ϑ.2.2.2.2.2;rcases ϖ with rfl;clear Z J θ ξ ϑ
 refine xE (List.any_eq_true.mp hrec) λ d' Z=>(λ hd' hq=>?_) Z.1 Z.2;clear Z
 rw[hn]at hmg
 refine Fy (Be G.T OL ⟨d',hd',eq_of_beq hq⟩ hgens (vs:=Array.toList _) ⟨_,e1,e2,_,by rw[Array.toArray_toList];exact e3⟩ (y7 e4) (y8 hm hb p2) hmg) (λ v s' ⟨hv,h1,h2,h3⟩=>?_) λ Y Y x=>x.elim
 subst hv
 exact⟨.inl ⟨_,.bool true,[],rfl,λ Y=>rfl,.bool true,tB,λ Y=>⟨.nil,λ a h=>absurd h FO⟩⟩,h1,h2,.of_eq h3⟩
theorem Bf:PySem.Challenge.rw_pg0253_01=wI:=congrArg (λ p=>({ prog:=p,name:=(PySem.Str.ofString "law"),about:=[(PySem.Str.ofString "heapreplace")],foot:=12,most:=some 63,bound:=none,writes:=false }:OpenLaw)) Bh
theorem F4f:PySem.Challenge.rw_pg0253_01.Holds:=(congrArg OpenLaw.Holds Bf).mpr (zB wC)
end Mine.Internal
theorem PySem.Challenge.cw_pg0253_01_holds : PySem.Challenge.rw_pg0253_01.Holds :=
 Mine.Internal.F4f
