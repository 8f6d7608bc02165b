import PyProof.Rows.All
import Wide.All
import OpenK.AllK
import Wide.FinOn
import PyProof.ExcBaseAll.ValueError
import PyProof.ExcAttrAll.ValueError
import PySem.Challenge.RW_om0079_02
set_option Elab.async false
set_option bootstrap.genMatcherCode false
set_option genSizeOf false
set_option compiler.extract_closed false
set_option genInjectivity false
set_option linter.all false
set_option maxRecDepth 100000
set_option autoImplicit false
set_option tactic.hygienic false
open _root_ renaming List->yk,Option->yl,if_neg->ym,if_pos->yo,Unit->yu,Bool->yx,absurd->yD,congrArg->yI,String->yL,Array->yM,UInt8->yQ,beq_iff_eq->y5,decide_eq_true->y9,decide_eq_true_eq->ze,beq_self_eq_true->zl,congrFun->zA,decide_eq_false->AS,if_true->AW,Decidable->A1,if_false->BA,of_decide_eq_true->BP,or_false->BQ,beq_eq_false_iff_ne->CZ,bne_iff_ne->DV,beq_false_of_ne->Fj,decide_eq_false_iff_not->Hv
open Nat renaming le_trans->yn,lt_of_lt_of_le->yv,ne_of_lt->yA,le_refl->yF,le_add_right->yH,lt_succ_self->yK,lt_of_le_of_lt->yR,lt_succ_of_lt->yZ,lt_trans->y0,add_lt_add_left->y8,le_of_lt_succ->zb,zero_le->zc,le_of_eq->zj,ne_of_gt->zk,le_of_not_lt->zr,lt_irrefl->zt,le_of_lt->zz,le_of_succ_le->zC,add_assoc->zH,add_comm->zI,zero_add->zM,add_le_add_left->zO,lt_add_right->zV,mul_le_mul_left->Af,le_succ->Am,not_lt_zero->An,add_le_add_right->AG,sub_add_cancel->AN,sub_self->AQ,succ_le_succ->AR,lt_of_succ_lt->A4,add_le_add->Bc,add_right_comm->Bd,le_antisymm->Be,lt_add_of_pos_right->Bf,mul_succ->Bg,succ_pos->Bh,mod_lt->Bw,sub_zero->Bx,max->BJ,mul_comm->BK,one_pos->BL,pow_add->BM,le_of_succ_le_succ->Ca,lt_of_lt_of_eq->Cb,min->Cd,mod_eq_of_lt->Ce,mul_assoc->Cf,not_lt->Cg,sub_le->Ci,add_sub_cancel'->CM,add_zero->CN,le_of_not_le->CP,lt_or_eq_of_le->CQ,mul_add->CR,mul_le_mul_right->CT,strongRecOn->CU,testBit_lt_two_pow->CV,add_left_cancel->DE,div_add_mod->DF,div_div_eq_div_mul->DG,div_eq_of_lt->DH,div_lt_iff_lt_mul->DI,le_add_of_sub_le->DJ,min_le_left->DK,one_mul->DL,pow_le_pow_right->DM,pow_succ->DN,sub_lt->DO,sub_pos_of_lt->DP,add_lt_add->EY,add_sub_cancel_left->EZ,div_lt_self->E0,eq_of_testBit_eq->E1,lt_of_le_of_ne->E3,min_eq_left->E4,mul_add_div->E5,not_le->E6,pow_mul->E7,pow_pos->E8,succ_mul->E9,succ_ne_self->Fb,testBit_eq_decide_div_mod_eq->Fc,add_lt_add_right->GX,le_add_left->GY,le_mul_of_pos_left->GZ,le_sub_of_add_le->G0,lt_add_of_pos_left->G3,lt_trichotomy->G6,min_eq_right->G7,mod_two_eq_zero_or_one->G8,pos_of_ne_zero->G9,sub_lt_sub_left->Ha,succ_lt_succ->Hb,zero_testBit->Hc
open PySem renaming Addr->yp,wpAny->yq,Expr->yr,Value->yt,model->yw,Shared->yy,wpAny_bind->yz,Heap->yC,wpAny_pure->yG,wpAny_mono->yO,Stmt->yU,intKind->y1,wpAny_holding->zw,CmpOp->zD,codeAny->zQ,Around->zX,Operator->z7,World->z9,Comprehension->Aa,Keyword->Ac,NameKind->Ae,cellsFrom->Ai,Scope->Ao,assignEach->Ap,starEach->Ar,Builtin->As,sysModules->AJ,wpAny_field->AY,Result->A5,wpAny_standAt->A6,wpAny_Name->Bj,DictEntry->Bl,FuncData->Bn,Program->By,mainGlobals->BB,wpAny_call->BC,Params->BN,codeAny_mono->BO,wpAny_newObj_type->BR,IsPart->BX,Keeper->BY,wpAny_assign_Name->Co,wpAny_load->Cp,wpAny_of_eq->Cq,call_meets->C0,isSubtype_type->C1,typeIs_str->C2,wpAny_Call_ofName->C3,wpAny_pyIter_list->C4,ExceptHandler->Dh,builtinLookup_eq_fast->DW,call_meetsIn->DX,typeLookup_type->D4,wpAny_seqItems->D5,wpAny_setField->D6,IsRangeIter->Ex,codeAny_builtin->Fk,codeAny_call_builtin->Fn,getMethod_builtin->Fo,wpAny_callSpecial?_slot->Fp,wpAny_call_entry->Fq,wpAny_collect_seq->Fs,wpAny_execs_nil->Ft,wpAny_point->Fu,wpAny_specialOf->Fv,codeAny_forLoop_any->Hu,wpAny_loadName_cell->Hw,wpAny_pyNext_list_end->Hx,wpAny_pyNext_list_item->Hy,wpAny_storeName_local->Hz
open List renaming range->yB,length_map->yE,map_append->yN,mem_cons->yP,length_append->yV,mem_map->yW,append_nil->yX,mem_cons_self->yY,getElem?_eq_some_iff->y2,mem_append->y3,mem_range->y7,map_cons->za,mem_singleton->zf,length_range->zh,lookup_cons->zi,contains_iff_mem->zp,map_map->zq,isEmpty_iff->zv,forall_mem_cons->zx,mem_of_getElem?->zy,getElem?_map->zB,append_assoc->zF,mem_map_of_mem->zG,getElem?_eq_getElem->zN,mem_cons_of_mem->zS,mem_filter->zT,range'->zU,mem_append_left->z0,nodup_append->z6,not_mem_nil->Ad,map_congr_left->Aj,pairwise_cons->Ak,foldl_cons->Aw,length_cons->Ax,getElem?_append_left->AD,mem_append_right->AE,getElem?_append_right->A9,lookup->Ba,nodup_cons->Bb,getElem?_eq_none->Br,length_filter_le->Bs,mem_flatMap->Bt,pairwise_singleton->Bu,range_succ->Bv,flatMap_cons->BH,all_eq_true->BZ,any_cons->B0,filter_append->B1,filter_cons->B4,filter_eq_nil_iff->B6,filter_eq_self->B7,length_drop->B8,take_of_length_le->B9,filter_cons_of_neg->CD,filter_cons_of_pos->CG,foldl_append->CH,length_singleton->CI,lookup_append->CJ,size_toArray->CK,cons_ne_nil->Dt,count_append->Du,drop_eq_getElem_cons->Dv,filter_congr->Dw,flatMap_append->Dx,getElem?_range->Dy,length_nil->Dz,map_nil->DA,pairwise_map->DB,range'_succ->DC,sum_cons->DD,any_eq_true->Ez,any_map->EA,contains_cons->EB,count_cons->EC,drop_eq_nil_of_le->ED,drop_length->EF,drop_zero->EG,find?_some->EH,flatMap_singleton->EI,flatten_cons->EJ,getElem?_drop->EK,getElem?_eq_none_iff->EL,getElem_mem->EM,getLast?_eq_getElem?->EN,getLast?_map->EO,isEmpty_nil->EP,length_reverse->ER,map_eq_nil_iff->ES,mem_filterMap->ET,mem_reverse->EU,mem_singleton_self->EV,pairwise_append->EW,sum_append->EX,any_toArray->Gl,append_inj'->Gm,concat_eq_append->Gn,cons_append->Gp,contains_eq_any_beq->Gq,count_pos_iff->Gs,eq_nil_or_concat->Gu,ext_getElem?->Gv,find?_cons->Gw,forIn_nil->Gx,getElem?_set->Gy,getLast?_concat->Gz,idxOf_append->GA,length_eq_one_iff->GB,length_flatten->GC,lt_irrefl->GD,map_reverse->GF,map_singleton->GH,mem_iff_getElem?->GI,mem_of_find?_eq_some->GJ,mem_range'_1->GK,mem_take_iff_getElem->GL,pairwise_iff_getElem->GN,pairwise_lt_range->GO,range_add->GP,replicate->GQ,reverse_cons->GR,take_append_drop->GU,toList_toArray->GV
open Bool renaming and_eq_true_iff->yS,and_eq_true->zg,eq_iff_iff->AZ,false_ne_true->A0,noConfusion->BD,false_eq_true->BS,not_eq_true'->Ct,true_and->Cu,eq_false_iff->C7,false_and->C8,or_eq_true->C9,or_false->Dc,and_false->Eb,false_or->Ec,or_eq_false_iff->Ed,not_eq_true->FC
open Option renaming map_eq_some_iff->y4,bind_eq_some_iff->zd,none->zP,isSome_iff_exists->CX,map->DT,map_some->Fg,elim_some->He,isNone_iff_eq_none->Hf,isSome_some->Hg
open PySem.Heap renaming get?_push_size->y6,get?_none_of_le->zm,get?_push_of_some->zR,SameBut->zY,lt_size->Ab,get?_update_self->A7,size_push->BF,get?_update_other->Cv
open Int renaming natCast_nonneg->zo,toNat_natCast->zK,ofNat_lt->Av,fdiv->Az,ofNat_le->AA,le_trans->Bp,fmod->BG,lt_of_lt_of_le->BV,not_lt->BW,eq_ofNat_of_zero_le->Cw,le_of_lt->Cy,lt_trans->Cz,add_comm->Dm,le_refl->Dn,sub_nonneg_of_le->Dq,lt_of_le_of_lt->Eo,natCast_add->Ep,ofNat_sub->Es,ediv_nonneg->FT,fdiv_eq_ediv_of_nonneg->FU,le_antisymm->FV,le_sub_left_of_add_le->FW,natAbs_of_nonneg->FX,natCast_eq_zero->FY,natCast_pow->FZ,ofNat_natAbs_of_nonpos->F0
open True renaming intro->zJ
open List.cons renaming inj->zL,injEq->AM
open PySem.Value renaming ref->zW,isInt->Ay,none->AI,isInt_shape->Ht
open UInt8 renaming ofNat->z8,toNat_ofNat'->CY,toNat->Fi,toNat_lt->Hs
open Option.some renaming inj->Ag,injEq->Hh
open PySem.W renaming instObj->Aq,emptyDict->AU,looks_field->DY,putName_dict->DZ,typeIs_bytes->D0
open PySem.Builtin.Str renaming glued->Au,occurrences->De,tooLong->Df
open PySem.NameKind renaming free->AF,cell->CL
open PySem.PyData renaming int->AH,keyHash->Bi,list->Bz,depthAll->Ck,eqvAll->Cn,canLayAll0->DU,depth->Fh,canLay0->Hk
open Int.ofNat renaming inj->A3
open PyProof.Rows renaming IntsAre->A8,bitAnd_pp->Hl,getItem_tuple->Hm
open PySem.Builtin.Range renaming rangeSize->Bk,small->Dd
open Exists renaming imp->Bm
open PySem.Heap.SameBut renaming update->Bo
open Eq renaming mpr->BE
open PySem.F renaming plainAttrs_list->BU,plainAttrs_dict->Di,plainAttrs_str->Dj,slot_list_append->Dk,slot_dict_get->Eh,slot_list_clear->Ei,slot_list_pop->Ej,slot_str_index->Ek,slot_str_join->El,args_list_append_2->FJ,entry_list_append->FK,slot_dict_items->FL,slot_dict_values->FN,slot_list_setitem->FO,slot_range_iterator_next->FP,type_list_append->FQ,type_list_clear->FR
open Nat.succ renaming inj->Cj
open And renaming imp_right->Cr
open Array renaming replicate->Cs,length_toList->C5,toList_append->C6,eq_empty_of_size_eq_zero->D7,getElem?_eq_getElem->D8,getElem?_eq_some_iff->D9,size_append->Ea,any_toList->Fw,getElem?_eq_none_iff->Fx,isEmpty_eq_false_iff->Fy,toList_push->FA
open List.Pairwise renaming filter->CC
open PySem.Obj renaming putName->CW,isFreed_of_fields->DR,mapFields->DS,cls_mapFields->Fd,data_mapFields->Ff
open Classical renaming byContradiction->Dg
open ForInStep renaming yield->Dl
open PySem.IsL renaming update->Ds
open Ne renaming symm->DQ
open PySem.Builtin.Int renaming intBits->Ee,intTooBig->FD
open PySem.Builtin renaming bitAnd->Ef,bitOr->FE
open PySem.EntryCells renaming newEntry->Eg
open PySem.W.FB renaming slot_bytes_getitem->En
open PySem.W.KF renaming slot_mset->Ey
open PySem.Calls renaming call_function_entry->FF,evalArgs_plain->FG,spliced_cons->FH
open PySem.Code renaming quiet_builtin->FI
open PySem.IsRange renaming new->Gi
open List.Nodup renaming count->Gj
open List.Perm renaming eq_of_pairwise->Gk
open PySem.MeetsSeq renaming EqGives->GW
open PySem.Operator renaming Add->Hd
open Prod.mk renaming inj->Hi,injEq->Hj
open PySem.SeqAt renaming compareEq_reads->Hn,compareNe_reads->Ho
open PySem.SeqInW renaming in_listW->Hp,notIn_listW->Hq
open String renaming reduceBEq->Hr
open PySem.MeetsSeq.EqGives renaming int->HA
theorem Internal.si{α:Type}{a b:α}(h:some a=some b):a=b:=Ag h
theorem Internal.nn{α:Type}{P:Prop}{q:α}(h:(none:yl α)=some q):P:=nomatch h
theorem Internal.hdZ{P:Prop}(h:∀G:Prop,(P->G)->G):P:=h P id
noncomputable section
namespace Internal
open PySem
set_option genInjectivity true in
inductive AV where
 |none|bool (b:yx)|int (i:Int)|str (s:Str)|bytes (b:yM yQ)
 |typ (n:yL)|tup (vs:yk AV)|lst (vs:yk AV)|ref (i:Nat)
noncomputable def AV.int?:AV->yl Int
 |.int i=>some i
 |_=>zP
noncomputable def AV.HO:AV->yl Nat
 |.ref i=>some i
 |_=>zP
noncomputable def AV.Iz:AV->yl Str
 |.str i=>some i
 |_=>zP
noncomputable def AV.HT:AV->yl (yM yQ)
 |.bytes i=>some i
 |_=>zP
noncomputable def AV.Iy:AV->yl (yk AV)
 |.tup i=>some i
 |_=>zP
noncomputable def AV.Jn:AV->yl (yk AV)
 |.lst i=>some i
 |_=>zP
noncomputable def AV.bool?:AV->yl yx
 |.bool i=>some i
 |_=>zP
noncomputable def AV.J4:AV->yl yL
 |.typ i=>some i
 |_=>zP
noncomputable def AV.Ja:AV->yx
 |.none=>true
 |_=>false
theorem AV.OO(o:AV):(AV.int? o).elim True λi=>o=.int i:=by cases o<;>first|exact rfl|exact zJ|exact .inl rfl|exact .inr rfl
variable{v:AV}
theorem AV.JX{i:Int}(h:AV.int? v=some i):v=.int i:=by have e:=AV.OO v; rw[h]at e; exact e
theorem AV.NO(o:AV):(AV.Iz o).elim True λi=>o=.str i:=by cases o<;>first|exact rfl|exact zJ|exact .inl rfl|exact .inr rfl
theorem AV.JO{i:Str}(h:AV.Iz v=some i):v=.str i:=by have e:=AV.NO v; rw[h]at e; exact e
theorem AV.JZ(o:AV):(AV.HT o).elim True λi=>o=.bytes i:=by cases o<;>first|exact rfl|exact zJ|exact .inl rfl|exact .inr rfl
theorem AV.Jp{i:yM yQ}(h:AV.HT v=some i):v=.bytes i:=by have e:=AV.JZ v; rw[h]at e; exact e
theorem AV.NJ(o:AV):(AV.Iy o).elim True λi=>o=.tup i:=by cases o<;>first|exact rfl|exact zJ|exact .inl rfl|exact .inr rfl
theorem AV.I7{i:yk AV}(h:AV.Iy v=some i):v=.tup i:=by have e:=AV.NJ v; rw[h]at e; exact e
theorem AV.OG(o:AV):(AV.Jn o).elim True λi=>o=.lst i:=by cases o<;>first|exact rfl|exact zJ|exact .inl rfl|exact .inr rfl
theorem AV.JU{i:yk AV}(h:AV.Jn v=some i):v=.lst i:=by have e:=AV.OG v; rw[h]at e; exact e
theorem AV.MT(o:AV):(AV.bool? o).elim True λi=>o=.bool i:=by cases o<;>first|exact rfl|exact zJ|exact .inl rfl|exact .inr rfl
theorem AV.JC{i:yx}(h:AV.bool? v=some i):v=.bool i:=by have e:=AV.MT v; rw[h]at e; exact e
theorem AV.NG(o:AV):(AV.J4 o).elim True λi=>o=.typ i:=by cases o<;>first|exact rfl|exact zJ|exact .inl rfl|exact .inr rfl
theorem AV.JN{i:yL}(h:AV.J4 v=some i):v=.typ i:=by have e:=AV.NG v; rw[h]at e; exact e
theorem AV.IW(h:v.Ja=true):v=.none:=by cases v<;>first|rfl|cases h
theorem AV.NZ(o:AV):(AV.HO o).elim True λi=>o=.ref i:=by cases o<;>first|exact rfl|exact zJ|exact .inl rfl|exact .inr rfl
variable{i:Nat}
theorem AV.Ib(h:AV.HO v=some i):v=.ref i:=by have e:=AV.NZ v; rw[h]at e; exact e
set_option genInjectivity true in
inductive AO where
 |dead
 |list (vs:yk AV)
 |frozen (vs:yk AV)
 |dict (kvs:yk (Int×AV)) (ver:Nat)
 |set (ks:yk Int)
 |inst (d:Nat)
 |attrs (fs:yk (Str×AV))
 |node (d:Nat) (a b c:yl AV)
 |iter (l:Nat) (i:Nat)
 |H9 (it:Nat)
 |exc (vs:yk AV)
noncomputable def AO.H6:AO->yl (yk AV)
 |.list v=>some v
 |_=>zP
noncomputable def AO.items?:AO->yl (yk AV)
 |.list v=>some v
 |.frozen v=>some v
 |_=>zP
noncomputable def AO.HM:AO->yl (yk (Int×AV)×Nat)
 |.dict k v=>some (k,v)
 |_=>zP
noncomputable def AO.JP:AO->yl (yk Int)
 |.set v=>some v
 |_=>zP
noncomputable def AO.Jb:AO->yl Nat
 |.inst v=>some v
 |_=>zP
noncomputable def AO.I6:AO->yl (yk (Str×AV))
 |.attrs v=>some v
 |_=>zP
structure Node where
 d:Nat
 x:yl AV
 y:yl AV
 z:yl AV
noncomputable def AO.JG:AO->yl Node
 |.node d x y z=>some ⟨d,x,y,z⟩
 |_=>zP
noncomputable def AO.JH:AO->yl (Nat×Nat)
 |.iter l i=>some (l,i)
 |_=>zP
noncomputable def AO.Jz:AO->yl Nat
 |.H9 i=>some i
 |_=>zP
theorem AO.L7(o:AO):(AO.Jb o).elim True λv=>o=.inst v:=by cases o<;>first|exact rfl|exact zJ|exact .inl rfl|exact .inr rfl
variable{o:AO}
theorem AO.Iv{v:Nat}(h:AO.Jb o=some v):o=.inst v:=by have e:=AO.L7 o; rw[h]at e; exact e
theorem AO.J0(o:AO):(AO.I6 o).elim True λv=>o=.attrs v:=by cases o<;>first|exact rfl|exact zJ|exact .inl rfl|exact .inr rfl
theorem AO.Im{v:yk (Str×AV)}(h:AO.I6 o=some v):o=.attrs v:=by have e:=AO.J0 o; rw[h]at e; exact e
theorem AO.Lj(o:AO):(AO.JG o).elim True λv=>o=.node v.d v.x v.y v.z:=by cases o<;>first|exact rfl|exact zJ|exact .inl rfl|exact .inr rfl
theorem AO.IX{v:Node}(h:AO.JG o=some v):o=.node v.d v.x v.y v.z:=by have e:=AO.Lj o; rw[h]at e; exact e
theorem AO.L3(o:AO):(AO.JH o).elim True λv=>o=.iter v.1 v.2:=by cases o<;>first|exact rfl|exact zJ|exact .inl rfl|exact .inr rfl
theorem AO.I3{v:Nat×Nat}(h:AO.JH o=some v):o=.iter v.1 v.2:=by have e:=AO.L3 o; rw[h]at e; exact e
theorem AO.JT(o:AO):(AO.Jz o).elim True λv=>o=.H9 v:=by cases o<;>first|exact rfl|exact zJ|exact .inl rfl|exact .inr rfl
theorem AO.Jl{v:Nat}(h:AO.Jz o=some v):o=.H9 v:=by have e:=AO.JT o; rw[h]at e; exact e
noncomputable def AO.RG:AO->yl (yk AV)
 |.exc v=>some v
 |_=>zP
theorem AO.OX(o:AO):(AO.RG o).elim True λv=>o=.exc v:=by cases o<;>first|exact rfl|exact zJ
theorem AO.JY{v:yk AV}(h:AO.RG o=some v):o=.exc v:=by have e:=AO.OX o; rw[h]at e; exact e
noncomputable def AO.Qq:AO->yx
 |.dead=>true
 |_=>false
theorem AO.LM(o:AO):(AO.H6 o).elim True λv=>o=.list v:=by cases o<;>first|exact rfl|exact zJ|exact .inl rfl|exact .inr rfl
theorem AO.HP{v:yk AV}(h:AO.H6 o=some v):o=.list v:=by have e:=AO.LM o; rw[h]at e; exact e
theorem AO.JV(o:AO):(AO.items? o).elim True λv=>o=.list v\/o=.frozen v:=by cases o<;>first|exact rfl|exact zJ|exact .inl rfl|exact .inr rfl
theorem AO.IJ{v:yk AV}(h:AO.items? o=some v):o=.list v\/o=.frozen v:=by have e:=AO.JV o; rw[h]at e; exact e
theorem AO.ME(o:AO):(AO.HM o).elim True λv=>o=.dict v.1 v.2:=by cases o<;>first|exact rfl|exact zJ|exact .inl rfl|exact .inr rfl
theorem AO.HV{v:yk (Int×AV)×Nat}(h:AO.HM o=some v):o=.dict v.1 v.2:=by have e:=AO.ME o; rw[h]at e; exact e
theorem AO.NQ(o:AO):(AO.JP o).elim True λv=>o=.set v:=by cases o<;>first|exact rfl|exact zJ|exact .inl rfl|exact .inr rfl
theorem AO.I8{v:yk Int}(h:AO.JP o=some v):o=.set v:=by have e:=AO.NQ o; rw[h]at e; exact e
structure St where
 loc:Str->yl AV
 hp:Nat->AO
 nx:Nat
inductive AX where
 |stop
 |cycle (args:yk AV)
inductive Res(α:Type) where
 |ok (a:α) (O:St)
 |err (x:AX) (O:St)
noncomputable def M(α:Type):=St->yl (Res α)
variable{α β:Type}
namespace M
@[reducible] noncomputable def ret(a:α):M α:=λO=>some (.ok a O)
noncomputable def fail:M α:=λZ=>none
noncomputable def bind(m:M α)(f:α->M β):M β:=λO =>
 match m O with
 |none=>none
 |some (.ok a O')=>f a O'
 |some (.err x O')=>some (.err x O')
instance:Monad M where
 pure:=ret
 bind:=bind
end M
noncomputable def bj(o:yl α)(f:α->M β)(g:M β):M β:=match o with
 |some a=>f a
 |none=>g
noncomputable def ae(o:yl α):M α:=λO=>match o with|some a=>some (.ok a O)|none=>none
noncomputable def pn(x:AX):M α:=λO=>some (.err x O)
noncomputable def aa(x:Str):M AV:=λO=>match O.loc x with|some v=>some (.ok v O)|none=>none
noncomputable def an(x:Str)(v:AV):M yu:=λO=>some (.ok () {O with loc:=λy=>if y=x then some v else O.loc y})
noncomputable def rd(i:Nat):M AO:=λO=>if i<O.nx then some (.ok (O.hp i) O)else none
noncomputable def wr(i:Nat)(o:AO):M yu:=λO=>if i<O.nx then some (.ok () {O with hp:=λj=>if j=i then o else O.hp j})else none
noncomputable def new(o:AO):M Nat:=λO=>some (.ok O.nx {O with hp:=λj=>if j=O.nx then o else O.hp j,nx:=O.nx+1})
noncomputable def HC:Nat:=1000000
noncomputable def Pn:Int:=2 ^ 200
noncomputable def bh(i:Int):yx:=decide (-Pn<i)&&decide (i<Pn)
noncomputable def ba:z7->Int->Int->yl Int
 |.Add,a,b=>some (a+b)
 |.Sub,a,b=>some (a-b)
 |.Mult,a,b=>if bh a&&bh b then some (a*b)else none
 |.FloorDiv,a,b=>if b != 0&&bh b then some (Az a b)else none
 |.Mod,a,b=>if b != 0 then some (BG a b)else none
 |.Pow,a,b=>if a==2&&decide (0<=b)&&decide (b<=1000)then some (2 ^ b.toNat)else none
 |.LShift,a,b=>if bh a&&decide (0<=b)&&decide (b<=1000)then some (a*2 ^ b.toNat)else none
 |.RShift,a,b=>if decide (0<=b)then some (Az a (2 ^ b.toNat))else none
 |.BitAnd,a,b=>some (Ef a b)
 |.BitOr,a,b=>some (FE a b)
 |_,_,_=>none
noncomputable def binOp(op:z7)(x y:AV):yl AV :=
 match x.int? with
 |some a=>(match y.int? with
  |some b=>(ba op a b).map .int
  |none=>none)
 |none=>match x.HT with
  |some a=>(match y.HT with
   |some b=>if op==.Add&&decide (a.size+b.size<=HC)then some (.bytes (a++b))else none
   |none=>none)
  |none=>x.Iz.bind λa=>y.Iz.bind λb=>if op==.Add&&decide (a.length+b.length<=HC)then some (.str (a++b))else none
noncomputable def UK(x y:AV):yl yx :=
 match x.int? with
 |some a=>y.int?.map λb=>a==b
 |none=>match x.bool? with
  |some a=>y.bool?.map λb=>a==b
  |none=>match x.Iz with
   |some a=>y.Iz.map λb=>a==b
   |none=>x.HT.bind λa=>y.HT.map λb=>a.toList==b.toList
noncomputable def items?(hp:Nat->AO)(nx:Nat)(v:AV):yl (yk AV) :=
 match v.Jn with
 |some vs=>some vs
 |none=>v.HO.bind λi=>if i<nx then(hp i).items? else none
noncomputable def bz:yk AV->yl (yk Int)
 |[]=>some []
 |.int i::r=>(bz r).map (i :: ·)
 |_=>none
noncomputable def f8:yk AV->yl (yk Str)
 |[]=>some []
 |.str i::r=>(f8 r).map (i :: ·)
 |_=>none
noncomputable def cT(hp:Nat->AO)(nx:Nat):yk AV->yl (yk (yk Int))
 |[]=>some []
 |v::r=>(items? hp nx v).bind λvs=>(bz vs).bind λa=>(cT hp nx r).map (a :: ·)
noncomputable def gJ(hp:Nat->AO)(nx:Nat)(op:z7)(x y:AV):yl AV :=
 match items? hp nx x,items? hp nx y with
 |some a,some b=>if op==.Add&&decide (a.length+b.length<=HC)then some (.lst (a++b))else none
 |_,_=>binOp op x y
noncomputable def Pd(hp:Nat->AO)(nx:Nat)(a b:AV):yl yx :=
 match items? hp nx a,items? hp nx b with
 |some xs,some ys =>
  match bz xs,bz ys with
  |some is,some js=>some (is==js)
  |_,_=>match cT hp nx xs,cT hp nx ys with
   |some is,some js=>some (is==js)
   |_,_=>none
 |_,_=>UK a b
noncomputable def jo(hp:Nat->AO)(nx:Nat)(a b:AV):yl yx :=
 match items? hp nx b with
 |some xs=>(match a.int? with
  |some i=>(bz xs).map (·.contains i)
  |none=>a.Iz.bind λx=>(f8 xs).map (·.contains x))
 |none=>a.int?.bind λi=>b.HO.bind λj=>if j<nx then(match(hp j).JP with
  |some ks=>some (ks.contains i)
  |none=>(hp j).HM.map λd=>(d.1.lookup i).isSome)else none
noncomputable def ON(a b:AV):yl yx:=if b.Ja then some a.Ja else b.J4.bind λn=>a.J4.map λm=>m==n
noncomputable def MP(f:Int->Int->yx)(a b:AV):yl yx:=a.int?.bind λx=>b.int?.map λy=>f x y
noncomputable def Il(hp:Nat->AO)(nx:Nat)(op:zD)(a b:AV):yl yx :=
 match op with
 |.Eq=>Pd hp nx a b
 |.NotEq=>(Pd hp nx a b).map (!·)
 |.Lt=>MP (λx y=>decide (x<y)) a b
 |.LtE=>MP (λx y=>decide (x<=y)) a b
 |.Gt=>MP (λx y=>decide (x>y)) a b
 |.GtE=>MP (λx y=>decide (x≥y)) a b
 |.Is=>ON a b
 |.IsNot=>(ON a b).map (!·)
 |.In=>jo hp nx a b
 |.NotIn=>(jo hp nx a b).map (!·)
noncomputable def dC(hp:Nat->AO)(nx:Nat):AV->yl yx
 |.none=>some false
 |.bool b=>some b
 |.int i=>some (i != 0)
 |.lst vs=>if vs.length<=HC then some (!vs.isEmpty)else none
 |.ref i=>if i<nx then(hp i).H6.bind λvs=>if vs.length<=HC then some (!vs.isEmpty)else none else none
 |_=>none
noncomputable def IF(vs:yk AV)(i:Int):yl AV:=if 0<=i then(if i<2 ^ 62 then vs[i.toNat]? else none)else if i < - 2 ^ 62 then none else if 0<=i+vs.length then vs[(i+vs.length).toNat]? else none
noncomputable def gc(hp:Nat->AO)(nx:Nat)(o i:AV):yl AV :=
 i.int?.bind λk=>match o.Iy with
 |some vs=>IF vs k
 |none=>match o.HT with
  |some b=>if 0<=k/\b.size<=HC then(b[k.toNat]?).map λx=>.int x.toNat else none
  |none=>match items? hp nx o with
   |some vs=>IF vs k
   |none=>o.HO.bind λj=>if j<nx then(hp j).HM.bind λd=>d.1.lookup k else none
noncomputable def me:yl AV->yl (yl Int)
 |none=>some none
 |some v=>v.int?.map some
noncomputable def UO(b:yM yQ)(lo hi st:yl Int):yl AV :=
 match st with
 |some _=>none
 |none=>match hi with
  |none=>none
  |some h=>match lo with
   |none=>if 0<=h/\b.size<=HC then some (.bytes (b.toList.take h.toNat).toArray)else none
   |some l=>if 0<=l/\0<=h/\b.size<=HC then some (.bytes ((b.toList.drop l.toNat).take (h.toNat-l.toNat)).toArray)else none
noncomputable def RQ(vs:yk AV)(lo hi st:yl Int):yl AV :=
 match lo with
 |none=>(match hi with
  |some h=>(match st with
   |none=>if 0<=h then(if vs.length<=HC then some (.lst (vs.take h.toNat))else none)else none
   |some _=>none)
  |none=>(match st with
   |some k=>if k=-1 then(if vs.length<=HC then some (.lst vs.reverse)else none)else none
   |none=>none))
 |some l=>(match hi with
  |none=>(match st with
   |none=>if 0<=l then(if vs.length<=HC then some (.lst (vs.drop l.toNat))else none)else none
   |some _=>none)
  |some _=>none)
noncomputable def kP(hp:Nat->AO)(nx:Nat)(v:AV)(lo hi st:yl AV):yl AV :=
 (me lo).bind λl=>(me hi).bind λh=>(me st).bind λs=>match v.HT with
 |some b=>UO b l h s
 |none=>(items? hp nx v).bind λvs=>RQ vs l h s
noncomputable def jY(x:Int):yk Int->yk Int
 |[]=>[x]
 |y::r=>if x<=y then x::y::r else y::jY x r
noncomputable def cz:yk Int->yk Int
 |[]=>[]
 |x::r=>jY x (cz r)
noncomputable def ew(x:Str):yk Str->yk Str
 |[]=>[x]
 |y::r=>if decide (y.cps.toList<x.cps.toList)then y::ew x r else x::y::r
noncomputable def aD:yk Str->yk Str
 |[]=>[]
 |x::r=>ew x (aD r)
noncomputable def ie:yk Int->yl Int
 |[]=>none
 |x::r=>some (r.foldl (λa b=>if b>a then b else a) x)
structure ax where
 params:Arguments
 body:yk yU
 scope:Ao
 dflt:yk AV
structure VU where
 slots:yx
 meths:yk (Str×ax)
structure Tab where
 IG:Str->yl ax
 meths:Str->yl ax
 IA:yl ax
 HI:Str->yl AV
 IQ:Pos->yx
structure Cx where
 scope:Ao
 outer:Str->yl AV
 HR:yx
 xn:yx
inductive ac where
 |next|brk|cont
 |ret (v:AV)
inductive aw where
 |Ip (vs:yk AV)
 |seq (vs:yk AV)
 |HY (i:Nat)
 |H7 (i ver:Nat) (vs:yk AV)
 |pairs (o:yl (Nat×Nat)) (vs:yk (AV×AV))
noncomputable def ak:=ax->yk AV->yk (Str×AV)->M AV
noncomputable def aM(fd:ax)(pos:yk AV)(kw:yk (Str×AV)):yl (yk (Str×AV)) :=
 let names:=(fd.params.posonlyargs++fd.params.args).map (·.arg);let kwn:=fd.params.kwonlyargs.map (·.arg)
 match fd.params.vararg with
 |some a=>if kw.isEmpty&&kwn.isEmpty&&decide (names.length<=pos.length)&&decide (pos.length<=1000)then some (names.zip pos++[(a.arg,.tup (pos.drop names.length))])else none
 |none =>
  if kwn.isEmpty&&kw.isEmpty&&decide (pos.length<=names.length)&&decide (names.length<=pos.length+fd.dflt.length)then
   some (names.zip (pos++fd.dflt.drop (pos.length+fd.dflt.length-names.length)))
  else if pos.length==names.length&&kw.map (·.1)==kwn then some (names.zip pos++kw)
  else none
noncomputable def eB(HK:Cx->yk yU->M ac)(fd:ax)(pos:yk AV)(kw:yk (Str×AV)):M AV:=λO =>
 match aM fd pos kw with
 |none=>none
 |some bs =>
  match HK ⟨fd.scope,λZ=>none,false,false⟩ fd.body {O with loc:=λx=>bs.lookup x}with
  |none=>none
  |some (.ok fl O')=>some (.ok (match fl with|.ret v=>v|_=>.none) {O' with loc:=O.loc})
  |some (.err .stop _)=>none
  |some (.err (.cycle vs) O')=>some (.err (.cycle vs) {O' with loc:=O.loc})
noncomputable def HF(m:M α):M α:=λO =>
 match m O with
 |some (.ok a O')=>some (.ok a O')
 |_=>none
noncomputable def bm(test:M yx)(body orelse:M ac):Nat->M ac
 |0=>M.fail
 |n+1=>do
  let c <- HF test
  if c then do
   let f <- HF body
   match f with
   |.next=>bm test body orelse n
   |.cont=>bm test body orelse n
   |.brk=>pure .next
   |.ret v=>pure (.ret v)
  else HF orelse
noncomputable def bt(HE:M yu)(body:α->M ac):yk α->M ac
 |[]=>pure .next
 |v::r=>do
  let f <- HF (body v)
  match f with
  |.next=>do HE; bt HE body r
  |.cont=>do HE; bt HE body r
  |.brk=>pure .next
  |.ret v=>pure (.ret v)
noncomputable def ez(body:AV->M ac)(i:Nat):Nat->Nat->M ac
 |0,_=>M.fail
 |n+1,k=>do
  let o <- rd i;let vs <- ae o.items?
  bj vs[k]? (λv=>do
   let f <- HF (body v)
   match f with
   |.next=>ez body i n (k+1)
   |.cont=>ez body i n (k+1)
   |.brk=>pure .next
   |.ret v=>pure (.ret v)) (pure .next)
noncomputable def du(i ver:Nat):M yu:=do
 let o <- rd i;let d <- ae o.HM
 if d.2=ver then pure ()else M.fail
noncomputable def cy(L:Nat)(its:aw)(body1:AV->M ac):M ac :=
 match its with
 |.Ip vs=>bt (pure ()) body1 vs
 |.seq vs=>bt (pure ()) body1 vs
 |.HY i=>ez body1 i L 0
 |.H7 i ver vs=>bt (du i ver) body1 vs
 |.pairs _ _=>M.fail
noncomputable def MQ(o:yl (Nat×Nat)):M yu:=match o with
 |none=>pure ()
 |some p=>du p.1 p.2
noncomputable def dj(L:Nat)(its:aw)(body1:AV->M ac):M ac :=
 match its with
 |.HY i=>ez body1 i L 0
 |.pairs o vs=>bt (MQ o) (λv=>body1 (.tup [v.1,v.2])) vs
 |_=>M.fail
structure HQ where
 ev:Cx->yr->M AV
 tr:Cx->yr->M yx
 its:Cx->yr->M aw
 asg:Cx->yr->AV->M yu
 HK:Cx->yk yU->M ac
noncomputable def kindOf(cx:Cx)(x:Str):yl Ae:=cx.scope.names.lookup x
noncomputable def xv(e:yr)(d:α)(n:Str->Pos->α:=λZ Z=>d)(a:yr->Str->Pos->α:=λZ Z Z=>d)(s:yr->yr->Pos->α:=λZ Z Z=>d)(t:yk yr->Nat->Pos->α:=λZ Z Z=>d)(sl:yl yr->yl yr->yl yr->α:=λZ Z Z=>d)(c:yr->yk yr->yk Ac->Pos->α:=λZ Z Z Z=>d)(b:PySem.BoolOp->yk yr->α:=λZ Z=>d)(u:UnaryOp->yr->Pos->α:=λZ Z Z=>d)(i:α:=d)(cm:yr->yk zD->yk yr->α:=λZ Z Z=>d)(lc:α:=d)(sc:α:=d)(st:α:=d)(sd:yr->α:=λZ=>d)(k:Const->α:=λZ=>d):α :=
 @Expr.casesOn (λZ=>α) e
  (λo es Z=>b o es)
  (λZ Z Z=>d)
  (λZ Z Z Z=>d)
  (λo x p=>u o x p)
  (λZ Z Z Z=>d)
  (λZ Z Z Z=>i)
  (λZ Z Z=>d)
  (λZ Z Z=>st)
  (λZ Z Z Z=>lc)
  (λZ Z Z Z=>sc)
  (λZ Z Z Z Z=>sc)
  (λZ Z Z Z=>d)
  (λZ Z=>d)
  (λZ Z=>d)
  (λZ Z=>d)
  (λx o ys Z=>cm x o ys)
  (λf x k p=>c f x k p)
  (λZ Z Z Z=>d)
  (λZ Z=>d)
  (λc Z Z=>k c)
  (λx y p=>a x y p)
  (λx y p=>s x y p)
  (λx Z=>sd x)
  (λx p=>n x p)
  (λZ Z=>d)
  (λx k p=>t x k p)
  (λx y z Z=>sl x y z)
noncomputable def sv(x:yU)(d:α)(f:Str->Arguments->yk yU->Ao->α:=λZ Z Z Z=>d)(c:Str->yk yU->α:=λZ Z=>d):α :=
 @Stmt.casesOn (λZ=>α) x
  (λn a b Z Z Z s Z Z Z=>f n a b s)
  (λZ Z Z Z Z Z Z Z Z Z=>d)
  (λn Z Z b Z Z Z Z Z Z Z=>c n b)
  (λZ Z=>d)
  (λZ Z=>d)
  (λZ Z Z=>d)
  (λZ Z Z Z Z Z Z=>d)
  (λZ Z Z Z=>d)
  (λZ Z Z Z Z=>d)
  (λZ Z Z Z Z=>d)
  (λZ Z Z Z Z=>d)
  (λZ Z Z Z=>d)
  (λZ Z Z Z=>d)
  (λZ Z Z=>d)
  (λZ Z Z=>d)
  (λZ Z Z=>d)
  (λZ Z Z=>d)
  (λZ Z Z Z Z=>d)
  (λZ Z Z Z Z=>d)
  (λZ Z Z=>d)
  (λZ Z=>d)
  (λZ Z Z Z=>d)
  (λZ Z=>d)
  (λZ Z=>d)
  (λZ Z=>d)
  (λZ=>d)
  (λZ=>d)
  (λZ=>d)
noncomputable def gK(e:yr):yx:=xv e false (st:=true)
noncomputable def vk(T:Tab)(cx:Cx)(x:Str):M AV :=
 if x==("__debug__": Str)then M.fail else
 match kindOf cx x with
 |some .local=>aa x
 |some .cell=>aa x
 |some .free=>ae (cx.outer x)
 |some .globalImplicit=>ae (T.HI x)
 |_=>M.fail
noncomputable def bu(cx:Cx)(x:Str)(v:AV):M yu :=
 match kindOf cx x with
 |some .local=>an x v
 |some .cell=>an x v
 |_=>M.fail
noncomputable def gF(cx:Cx):M yu:=if cx.HR then M.fail else pure ()
noncomputable def bp(cx:Cx)(x:Str):yx:=kindOf cx x==some .globalImplicit && !(x==("__debug__": Str))
noncomputable def aE(f:(Nat->AO)->Nat->yl α):M α:=λO=>match f O.hp O.nx with|some a=>some (.ok a O)|none=>none
noncomputable def aR(e:yr):yx:=xv e false (sd:=λZ=>true)
noncomputable def c7(r:HQ)(cx:Cx):yk yr->M (yk AV)
 |[]=>pure []
 |e::es=>if aR e then M.fail else do let v <- r.ev cx e; let vs <- c7 r cx es; pure (v::vs)
noncomputable def stored(kvs:yk (Int×AV))(k:Int)(v:AV):yk (Int×AV) :=
 if kvs.any (λkv=>kv.1=k)then kvs.map (λkv=>if kv.1=k then(kv.1,v)else kv)else kvs++[(k,v)]
noncomputable def bS:yk AV->yl (yk yQ)
 |[]=>some []
 |.int i::r=>if 0<=i/\i<256 then(bS r).map (z8 i.toNat :: ·)else none
 |_=>none
noncomputable def dT(i:Nat)(vs:yk AV):M yu:=if vs.length<=HC then wr i (.list vs)else M.fail
noncomputable def sy:yk yL:=["abs","int","type","bool","len","divmod","chr","bytes","tuple","list","sorted","max","sum","set","iter"]
noncomputable def hW(f:Str):yl yL:=sy.find? λn=>f==Str.ofString n
noncomputable def Ta:yk yL:=["index","join","append","pop","clear","get","add"]
noncomputable def vh(f:Str):yl yL:=Ta.find? λn=>f==Str.ofString n
noncomputable def bX(p:Prop)[A1 p](a:AV):M AV:=λO=>if p then some (.ok a O)else none
noncomputable def one?:yk AV->yl AV
 |[v]=>some v
 |_=>none
noncomputable def NH:yk AV->yl (AV×AV)
 |[v,u]=>some (v,u)
 |_=>none
noncomputable def TJ(args:yk AV):M AV:=do let v <- ae (one? args); let i <- ae v.int?; pure (.int i.natAbs)
noncomputable def TH(args:yk AV):M AV:=do let v <- ae (one? args); let i <- ae v.int?; pure (.int i)
noncomputable def Qu(args:yk AV):M AV:=do
 let v <- ae (one? args)
 bj v.HT (λZ=>pure (.typ "bytes")) (do let _ <- ae v.bool?; pure (.typ "bool"))
noncomputable def vR(args:yk AV):M AV:=do let v <- ae (one? args); let vs <- aE λhp nx=>items? hp nx v; bX (vs.length<=HC) (.bool (!vs.isEmpty))
noncomputable def yd(args:yk AV):M AV:=do
 let v <- ae (one? args)
 bj v.HT (λb=>bX (b.size<=HC) (.int b.size)) (bj v.Iy (λvs=>bX (vs.length<=HC) (.int vs.length))
  (do let vs <- aE λhp nx=>items? hp nx v; bX (vs.length<=HC) (.int vs.length)))
noncomputable def vQ(args:yk AV):M AV:=do
 let p <- ae (NH args);let a <- ae p.1.int?;let b <- ae p.2.int?
 bX ((b != 0&&bh b)=true) (.tup [.int (Az a b),.int (BG a b)])
noncomputable def RX(args:yk AV):M AV:=do let v <- ae (one? args); let i <- ae v.int?; bX (0<=i/\i<128) (.str ⟨#[i.toNat]⟩)
noncomputable def nj(args:yk AV):M AV:=do let v <- ae (one? args); let vs <- aE λhp nx=>items? hp nx v; let os <- ae (bS vs); bX (vs.length<=HC) (.bytes os.toArray)
noncomputable def qC(args:yk AV):M AV:=do let v <- ae (one? args); let vs <- aE λhp nx=>items? hp nx v; bX (vs.length<=HC) (.tup vs)
noncomputable def vO(args:yk AV):M AV:=do
 let v <- ae (one? args);let i <- ae v.HO;let o <- rd i;let vs <- ae o.H6
 bX (vs.length<=HC) (.lst vs)
noncomputable def fY(args:yk AV):M AV:=do
 let v <- ae (one? args)
 bj v.Iy (λvs=>do let is <- ae (bz vs); bX (is.length<64) (.lst ((cz is).map .int))) (do
  let vs <- aE λhp nx=>items? hp nx v
  bj (bz vs) (λis=>bX (is.length<64) (.lst ((cz is).map .int))) (do let xs <- ae (f8 vs); bX (xs.length<64) (.lst ((aD xs).map .str))))
noncomputable def RW(args:yk AV):M AV :=
 do let v <- ae (one? args); let vs <- aE λhp nx=>items? hp nx v; let is <- ae (bz vs); let m <- ae (ie is); pure (.int m)
noncomputable def RV(args:yk AV):M AV:=do let v <- ae (one? args); let vs <- aE λhp nx=>items? hp nx v; let is <- ae (bz vs); pure (.int is.sum)
noncomputable def TG(args:yk AV):M AV:=if args.isEmpty then do let i <- new (.set []); pure (.ref i)else M.fail
noncomputable def vP(args:yk AV):M AV:=do
 let v <- ae (one? args);let i <- ae v.HO;let o <- rd i;let _ <- ae o.H6;let j <- new (.iter i 0)
 pure (.ref j)
noncomputable def Pk:yk (yL×(yk AV->M AV)):=[("abs",TJ),("int",TH),("type",Qu),("bool",vR),("len",yd),("divmod",vQ),("chr",RX),("bytes",nj),("tuple",qC),("list",vO),("sorted",fY),("max",RW),("sum",RV),("set",TG),("iter",vP)]
noncomputable def bM(f:yL)(args:yk AV):M AV :=
 bj (Pk.lookup f) (λg=>g args) M.fail
noncomputable def AO.kind?:AO->yl yL
 |.list _=>some "list"
 |.dict _ _=>some "dict"
 |.set _=>some "set"
 |_=>none
noncomputable def cQ(hp:Nat->AO)(nx:Nat)(v:AV):yl yL :=
 match v.Iz with
 |some _=>some "str"
 |none=>v.HO.bind λi=>if i<nx then AO.kind? (hp i)else none
noncomputable def iz:yk (yL×yL):=[("str","index"),("str","join"),("list","append"),("list","pop"),("list","clear"),("dict","get"),("set","add")]
noncomputable def gG(hp:Nat->AO)(nx:Nat)(v:AV)(n:yL):yl yL:=(cQ hp nx v).bind λk=>if iz.contains (k,n)then some k else none
noncomputable def t1(o:AV)(args:yk AV):M AV:=do
 let x <- ae o.Iz;let v <- ae (one? args);let y <- ae v.Iz;let i <- ae (De x y 0 x.length 1).head?
 pure (.int i)
noncomputable def LG(o:AV)(args:yk AV):M AV:=do
 let x <- ae o.Iz;let v <- ae (one? args);let vs <- aE λhp nx=>items? hp nx v;let xs <- ae (f8 vs)
 bX (Df (xs.toArray.foldl (· + ·.length+x.length) 0)=false/\(Au x xs).length<=HC) (.str (Au x xs))
noncomputable def pV(o:AV)(args:yk AV):M AV:=do
 let i <- ae o.HO;let ob <- rd i;let vs <- ae ob.H6;let v <- ae (one? args)
 dT i (vs++[v])
 pure .none
noncomputable def Rl(o:AV)(args:yk AV):M AV:=do
 let i <- ae o.HO;let ob <- rd i;let vs <- ae ob.H6
 if args.isEmpty then do
  let v <- ae vs.getLast?
  dT i vs.dropLast
  pure v
 else M.fail
noncomputable def t4(o:AV)(args:yk AV):M AV:=do
 let i <- ae o.HO;let ob <- rd i;let vs <- ae ob.H6
 if args.isEmpty&&decide (vs.length<=HC)then do
  dT i []
  pure .none
 else M.fail
noncomputable def vy:yk AV->yl (Int×AV)
 |[k]=>k.int?.map λi=>(i,.none)
 |_=>none
noncomputable def Rm(o:AV)(args:yk AV):M AV:=do
 let i <- ae o.HO;let ob <- rd i;let d <- ae ob.HM;let p <- ae (vy args)
 pure ((d.1.lookup p.1).getD p.2)
noncomputable def Rn(o:AV)(args:yk AV):M AV:=do
 let i <- ae o.HO;let ob <- rd i;let ks <- ae ob.JP;let v <- ae (one? args);let k <- ae v.int?
 if ks.length<=1000 then do
  wr i (.set (if ks.contains k then ks else ks++[k]))
  pure .none
 else M.fail
noncomputable def S8:yk (yL×(AV->yk AV->M AV)):=[("index",t1),("join",LG),("append",pV),("pop",Rl),("clear",t4),("get",Rm),("add",Rn)]
noncomputable def ip(o:AV)(name:yL)(args:yk AV):M AV :=
 bj (S8.lookup name) (λg=>g o args) M.fail
noncomputable def bN(T:Tab)(o:AV)(name:Str):M (yl ax) :=
 bj o.HO (λi=>do
  let ob <- rd i
  bj ob.Jb (λd=>do
   let ob <- rd d;let fs <- ae ob.I6
   if(fs.lookup name).isNone then do
    let fd <- ae (T.meths name)
    pure (some fd)
   else M.fail) (if ob.Qq then M.fail else pure none)) (pure none)
noncomputable def bG:yk Str:=["_node2info","_ready_nodes","_npassedout","_nfinished"]
noncomputable def vd(n:Node)(a:Str):yl AV:=if a=("node": Str)then n.x else if a=("npredecessors": Str)then n.y else if a=("successors": Str)then n.z else none
noncomputable def uZ(n:Node)(a:Str)(v:AV):yl AO :=
 if a=("node": Str)then some (.node n.d (some v) n.y n.z)else if a=("npredecessors": Str)then some (.node n.d n.x (some v) n.z)else if a=("successors": Str)then some (.node n.d n.x n.y (some v))else none
noncomputable def VF(a:Str)(d:Nat):M AV:=do
 let ob <- rd d;let fs <- ae ob.I6
 if bG.contains a then ae (fs.lookup a)else M.fail
noncomputable def VE(a:Str)(i:Nat)(ob:AO):M AV:=do
 let _ <- ae ob.JH
 if a=("__next__": Str)then do let j <- new (.H9 i); pure (.ref j)else M.fail
noncomputable def VG(a:Str)(i:Nat)(ob:AO):M AV:=bj ob.RG (λvs=>if a=("args": Str)then pure (.tup vs)else M.fail) (VE a i ob)
noncomputable def VD(a:Str)(i:Nat)(ob:AO):M AV:=bj ob.JG (λn=>ae (vd n a)) (VG a i ob)
noncomputable def VH(a:Str)(i:Nat)(ob:AO):M AV:=bj ob.Jb (VF a) (VD a i ob)
noncomputable def be(o:AV)(a:Str):M AV:=do
 let i <- ae o.HO;let ob <- rd i
 VH a i ob
noncomputable def cq(fs:yk (Str×AV))(a:Str)(v:AV):yk (Str×AV) :=
 match fs with
 |[]=>[(a,v)]
 |(b,w)::r=>if b=a then(a,v)::r else(b,w)::cq r a v
noncomputable def Vj(a:Str)(v:AV)(d:Nat):M yu:=do
 let ob <- rd d;let fs <- ae ob.I6
 if fs.length<=100&&bG.contains a then wr d (.attrs (cq fs a v))else M.fail
noncomputable def Vi(a:Str)(v:AV)(i:Nat)(ob:AO):M yu:=do
 let n <- ae ob.JG;let o <- ae (uZ n a v)
 wr i o
noncomputable def dE(o:AV)(a:Str)(v:AV):M yu:=do
 let i <- ae o.HO;let ob <- rd i
 bj ob.Jb (Vj a v) (Vi a v i ob)
noncomputable def jP(o i v:AV):M yu:=do
 let j <- ae o.HO;let k <- ae i.int?;let ob <- rd j
 bj ob.H6 (λvs=>if 0<=k/\k.toNat<vs.length/\vs.length<=HC then wr j (.list (vs.set k.toNat v))else M.fail) do
  let d <- ae ob.HM
  if d.1.length<=HC then wr j (.dict (stored d.1 k v) (d.2+1))else M.fail
noncomputable def without(kvs:yk (Int×AV))(k:Int):yk (Int×AV):=kvs.filter λkv=>decide (kv.1≠k)
noncomputable def qw(o i:AV):M yu:=do
 let j <- ae o.HO;let k <- ae i.int?;let ob <- rd j;let d <- ae ob.HM
 if(d.1.lookup k).isSome&&decide (d.1.length<=HC)then wr j (.dict (without d.1 k) (d.2+1))else M.fail
noncomputable def Pu(op:z7)(a b:AV)(k:AV->M yu):M ac:=do
 let i <- ae a.int?;let j <- ae b.int?;let c <- ae (ba op i j)
 if op==.Add||op==.Sub then do k (.int c); pure .next else M.fail
noncomputable def d8(a b c:Int):yl (yk AV) :=
 if !(decide (-(2 ^ 60)<a)&&decide (a<2 ^ 60)&&decide (-(2 ^ 60)<b)&&decide (b<2 ^ 60))then none
 else if c=1 then some ((yB (b-a).toNat).map λ(k:Nat)=>AV.int (a+k))
 else none
noncomputable def ar(v:AV):M aw :=
 bj v.Jn (λvs=>pure (.seq vs)) (bj v.Iy (λvs=>pure (.seq vs)) (bj v.HT (λb=>pure (.seq (b.toList.map λx=>.int x.toNat))) (do
  let i <- ae v.HO;let ob <- rd i
  bj ob.items? (λZ=>pure (.HY i)) (do let d <- ae ob.HM; pure (.H7 i d.2 (d.1.map λp=>.int p.1))))))
noncomputable def iZ:yk AV->yl (Int×Int×Int)
 |[]=>none
 |[b]=>b.int?.map λj=>(0,j,1)
 |[a,b]=>a.int?.bind λi=>b.int?.map λj=>(i,j,1)
 |_=>none
noncomputable def Vv(it:Nat)(p:Nat×Nat)(vs:yk AV):M AV:=bj vs[p.2]? (λv=>do wr it (.iter p.1 (p.2+1)); pure v) (do wr it .dead; pn .stop)
noncomputable def Vw(it:Nat)(p:Nat×Nat):M AV:=do
 let ob <- rd p.1;let vs <- ae ob.H6
 Vv it p vs
noncomputable def Vx(it:Nat):M AV:=do
 let ob <- rd it;let p <- ae ob.JH
 Vw it p
noncomputable def cM(f:AV):M AV:=do
 let i <- ae f.HO;let ob <- rd i;let it <- ae ob.Jz
 Vx it
section
variable(T:Tab)(C:ak)(L:Nat)
noncomputable def eG(v:AV):M (yk AV):=do
 let vs <- bj v.Iy (λvs=>pure vs) (aE λhp nx=>items? hp nx v)
 if vs.length<=1000 then pure vs else M.fail
noncomputable def lG(e:yr):yl yr:=xv e none (sd:=some)
noncomputable def Te:yk yr->yl yr
 |[e]=>lG e
 |_=>none
noncomputable def uK:yk yr->yl (yr×yr)
 |[e,f]=>if aR e then none else(lG f).map λf=>(e,f)
 |_=>none
noncomputable def qs(r:HQ)(cx:Cx)(es:yk yr):M (yk AV) :=
 bj (Te es) (λe=>do let v <- r.ev cx e; eG v) (bj (uK es) (λp=>do
  let u <- r.ev cx p.1;let v <- r.ev cx p.2;let vs <- eG v
  pure (u::vs)) (c7 r cx es))
noncomputable def Pa(r:HQ)(cx:Cx):yk Ac->M (yk (Str×AV))
 |[]=>pure []
 |⟨some n,e,_⟩::ks=>do let v <- r.ev cx e; let vs <- Pa r cx ks; pure ((n,v)::vs)
 |_=>M.fail
noncomputable def mf(r:HQ)(cx:Cx):yl yr->M (yl AV)
 |none=>pure none
 |some e=>do let v <- r.ev cx e; pure (some v)
noncomputable def sQ(op:BoolOp)(r:HQ)(cx:Cx):yk yr->M AV
 |[]=>M.fail
 |[e]=>r.ev cx e
 |e::es=>do
  let v <- r.ev cx e;let b <- aE λhp nx=>dC hp nx v
  if(op==.And)==b then sQ op r cx es else pure v
noncomputable def vU(op:BoolOp)(r:HQ)(cx:Cx):yk yr->M yx
 |[]=>pure (op==.And)
 |e::es=>do
  let b <- r.tr cx e
  if(op==.And)==b then vU op r cx es else pure b
noncomputable def mM(r:HQ)(cx:Cx)(args:yk yr)(ks:yk Ac):M (yk AV×yk (Str×AV)) :=
 if ks.isEmpty then do let vs <- qs r cx args; pure (vs,[])
 else if !args.isEmpty&&ks.all λk=>k.arg.isSome then do let vs <- c7 r cx args; let kv <- Pa r cx ks; pure (vs,kv)else M.fail
noncomputable def iB(m:M AV)(i:Nat):M AV:=do
 let v <- m
 if v.Ja then pure (.ref i)else M.fail
noncomputable def Mz(r:HQ)(cx:Cx)(args:yk yr)(kws:yk Ac)(fd:yl ax)(oi:Nat->AO):M AV :=
 if kws.isEmpty then do
  let fd <- ae fd
  gF cx
  let vs <- qs r cx args;let d <- new (.attrs []);let i <- new (oi d)
  iB (HF (C fd (.ref i::vs) [])) i
 else M.fail
noncomputable def Qo(r:HQ)(cx:Cx)(args:yk yr)(n:yL):M AV:=do
 let vs <- c7 r cx args
 if !(cx.HR&&n !="len")then bM n vs else M.fail
noncomputable def mK(r:HQ)(cx:Cx)(f:Str)(args:yk yr)(kws:yk Ac):M AV :=
 if bp cx f then
  if f=("TopologicalSorter": Str)then Mz C r cx args kws (T.meths "__init__") .inst
  else if f=("_NodeInfo": Str)then Mz C r cx args kws T.IA λd=>.node d none none none
  else bj (T.IG f) (λfd=>do
   gF cx
   let p <- mM r cx args kws
   HF (C fd p.1 p.2)) (if kws.isEmpty then do let n <- ae (hW f); Qo r cx args n else M.fail)
 else M.fail
noncomputable def fQ(e:yr):yx:=xv e true (c:=λf args kws Z=>match args,kws with
 |[],[]=>xv f true (n:=λid Z => !(id==("super": Str)))
 |_,_=>true)
noncomputable def df(args:yk yr)(apos pos:Pos):yx:=args.any aR||(decide (args.length<30)&&apos.endLine==pos.line)
noncomputable def uk(r:HQ)(cx:Cx)(ov:AV)(name:Str)(args:yk yr):M AV :=
 if !args.any aR then do
  let n <- ae (vh name);let k <- aE λhp nx=>gG hp nx ov n;let vs <- c7 r cx args;let k' <- aE λhp nx=>cQ hp nx ov
  if !(cx.HR&&n !="pop")&&k==k' then ip ov n vs else M.fail
 else M.fail
noncomputable def dB(cx:Cx):yk yr->yk AV->M yu
 |[],[]=>pure ()
 |e::ts,v::vs=>xv e M.fail (n:=λx Z=>do bu cx x v; dB cx ts vs)
 |_,_=>M.fail
noncomputable def dM(cx:Cx)(t:yr)(v:AV):M yu :=
 xv t M.fail (n:=λx Z=>bu cx x v) (t:=λts Z Z=>bj v.Iy (λvs=>if !cx.HR&&decide (ts.length=vs.length)then dB cx ts vs else M.fail)
  (do let vs <- ae v.Jn; if !cx.HR&&decide (ts.length=vs.length)then dB cx ts vs else M.fail))
noncomputable def vw(r:HQ)(cx:Cx):yk yr->M yx
 |[]=>pure true
 |[e]=>r.tr cx e
 |_=>M.fail
noncomputable def aw.L4:aw->yx
 |.Ip _=>true
 |_=>false
noncomputable def jV(cx:Cx)(its:aw):M yu:=if cx.HR && !(cx.xn&&its.L4)then M.fail else pure ()
noncomputable def d0(HE:M yu)(step:α->M yu):yk α->M yu
 |[]=>pure ()
 |v::r=>do HF (step v); HE; d0 HE step r
noncomputable def mW(step:AV->M yu)(i:Nat):Nat->Nat->M yu
 |0,_=>M.fail
 |n+1,k=>do
  let o <- rd i;let vs <- ae o.items?
  bj vs[k]? (λv=>do HF (step v); mW step i n (k+1)) (pure ())
noncomputable def cL(its:aw)(bn:AV->M yu):M yu :=
 match its with
 |.Ip vs=>d0 (pure ()) bn vs
 |.seq vs=>d0 (pure ()) bn vs
 |.HY i=>mW bn i L 0
 |.H7 i ver vs=>d0 (du i ver) bn vs
 |.pairs _ _=>M.fail
noncomputable def dw(r:HQ)(cx:Cx)(emit:M yu)(ifs:yk yr):M yu:=do
 let b <- vw r cx ifs
 if b then emit else pure ()
noncomputable def eQ(r:HQ)(cx:Cx)(emit:M yu)(t:yr)(ifs:yk yr)(its:aw):M yu :=
 xv t M.fail (n:=λx Z=>cL L its (λv=>do bu cx x v; dw r cx emit ifs))
noncomputable def mU(r:HQ)(cx:Cx)(emit:M yu)(gs:yk Aa):M yu :=
 match gs with
 |[]=>emit
 |[g]=>if g.is_async=0 && !gK g.iter then do
   let its <- r.its cx g.iter
   jV cx its
   eQ L r cx emit g.target g.ifs its
  else M.fail
 |_=>M.fail
noncomputable def dz(m:M α):M α:=λO =>
 match m {O with loc:=λZ=>none}with
 |none=>none
 |some (.ok a O')=>some (.ok a {O' with loc:=O.loc})
 |some (.err _ _)=>none
noncomputable def iK(cx:Cx)(scope:Ao)(loc:Str->yl AV):Cx :=
 ⟨scope,λx=>match kindOf cx x with
  |some .local=>loc x
  |some .cell=>loc x
  |some .free=>cx.outer x
  |_=>none,cx.HR,cx.xn⟩
noncomputable def eD(i:Nat)(v:AV):M yu:=do
 let o <- rd i;let vs <- ae o.H6
 dT i (vs++[v])
noncomputable def qu(r:HQ)(cx:Cx)(e:yr)(i:Nat):M yu:=do let v <- r.ev cx e; eD i v
noncomputable def j3(cx:Cx)(scope:Ao):yx :=
 scope.kind==.function&&scope.names.all λp=>match p.2 with
  |.local=>scope.names.lookup p.1==some .local
  |.cell=>scope.names.lookup p.1==some .cell
  |.free=>scope.names.lookup p.1==some .free&&(kindOf cx p.1==some .cell||kindOf cx p.1==some .free)&&p.1 != ("__classdict__": Str)
  |.globalImplicit=>scope.names.lookup p.1==some .globalImplicit
  |_=>false
noncomputable def freeze(i:Nat):M yu:=do
 let o <- rd i;let vs <- ae o.H6
 wr i (.frozen vs)
noncomputable def Mf(fz:yx)(i:Nat):M yu:=if fz then freeze i else pure ()
noncomputable def tM:yk Aa->yl (Aa×yk Aa)
 |[]=>none
 |g::gs=>if g.is_async=0&&gs.all (λg=>g.is_async=0)&&decide (gs.length<=1)then some (g,gs)else none
noncomputable def mI(r:HQ)(cx:Cx)(elt:yr)(gens:yk Aa)(scope:Ao)(fz:yx):M AV:=do
 let g <- ae (tM gens)
 if j3 cx scope && !gK g.1.iter then do
  let its <- r.its cx g.1.iter
  jV cx its
  let i <- new (.list []);let _ <- λO=>dz (eQ L r (iK cx scope O.loc) (mU L r (iK cx scope O.loc) (qu r (iK cx scope O.loc) elt i) g.2) g.1.target g.1.ifs its) O
  Mf fz i
  pure (.ref i)
 else M.fail
noncomputable def kW(i:Nat)(kv vv:AV):M yu:=do
 let k <- ae kv.int?;let ob <- rd i;let d <- ae ob.HM
 if d.1.length<=HC then wr i (.dict (stored d.1 k vv) (d.2+1))else M.fail
noncomputable def uo(r:HQ)(cx:Cx)(k v:yr)(i:Nat):M yu:=do
 let kv <- r.ev cx k;let vv <- r.ev cx v
 kW i kv vv
noncomputable def mJ(r:HQ)(cx:Cx)(k v:yr)(gens:yk Aa)(scope:Ao):M AV:=do
 let g <- ae (tM gens)
 if j3 cx scope && !gK g.1.iter&&g.2.isEmpty then do
  let its <- r.its cx g.1.iter
  jV cx its
  let i <- new (.dict [] 0);let _ <- λO=>dz (eQ L r (iK cx scope O.loc) (uo r (iK cx scope O.loc) k v i) g.1.target g.1.ifs its) O
  pure (.ref i)
 else M.fail
noncomputable def Pb:Const->M AV
 |.none=>pure .none
 |.bool b=>pure (.bool b)
 |.int i=>pure (.int i)
 |.str s=>pure (.str s)
 |.bytes b=>pure (.bytes b.toArray)
 |_=>M.fail
noncomputable def pT(e:yr):yl Str:=xv e none (n:=λx Z=>some x)
noncomputable def vD(r:HQ)(cx:Cx)(t e:yr):M AV:=do
 let x <- ae (pT t);let v <- r.ev cx e
 bu cx x v
 pure v
noncomputable def Qn(r:HQ)(cx:Cx)(op:UnaryOp)(e:yr):M AV :=
 match op with
 |.USub=>do let v <- r.ev cx e; let i <- ae v.int?; pure (.int (-i))
 |_=>M.fail
noncomputable def vF(ks:yk (yl yr))(vs:yk yr):M AV :=
 match ks with
 |[]=>if vs.isEmpty then do let i <- new (.dict [] 0); pure (.ref i)else M.fail
 |_::_=>M.fail
noncomputable def vE(r:HQ)(cx:Cx)(es:yk yr):M AV :=
 match es with
 |[]=>do let i <- new (.list []); pure (.ref i)
 |e::es=>do let vs <- c7 r cx (e::es); if vs.length<=HC then pure (.lst vs)else M.fail
noncomputable def KO(ops:yk zD)(bs:yk yr):yl (zD×yr) :=
 match ops with
 |[]=>none
 |op::ops=>match bs with
  |[]=>none
  |b::bs=>if ops.isEmpty&&bs.isEmpty && !gK b then some (op,b)else none
noncomputable def vG(f:yx->α)(r:HQ)(cx:Cx)(a:yr)(ops:yk zD)(bs:yk yr):M α:=do
 let p <- ae (KO ops bs);let x <- r.ev cx a;let y <- r.ev cx p.2
 aE λhp nx=>(Il hp nx p.1 x y).map f
noncomputable def Mx(r:HQ)(cx:Cx)(ov:AV)(args:yk yr)(fd:ax):M AV:=do
 gF cx
 let vs <- qs r cx args
 C fd (ov::vs) []
noncomputable def mL(r:HQ)(cx:Cx)(o:yr)(name:Str)(apos:Pos)(args:yk yr)(pos:Pos):M AV :=
 if fQ o&&df args apos pos then do
  let ov <- r.ev cx o;let um <- bN T ov name
  bj um (Mx C r cx ov args) (uk r cx ov name args)
 else M.fail
noncomputable def MA(r:HQ)(cx:Cx)(f:yr)(args:yk yr)(kws:yk Ac)(pos:Pos):M AV :=
 xv f M.fail (n:=λf Z=>mK T C r cx f args kws) (a:=λo name apos=>if kws.isEmpty then mL T C r cx o name apos args pos else M.fail)
  (s:=λo i p=>if args.isEmpty&&kws.isEmpty then do
   gF cx
   let f <- r.ev cx (.Subscript o i p)
   cM f
  else M.fail)
noncomputable def My(r:HQ)(cx:Cx)(o i:yr):M AV :=
 xv i (do
  let ov <- r.ev cx o;let iv <- r.ev cx i
  aE λhp nx=>gc hp nx ov iv) (sl:=λlo hi st=>do
  let ov <- r.ev cx o;let l <- mf r cx lo;let h <- mf r cx hi;let s <- mf r cx st
  aE λhp nx=>kP hp nx ov l h s)
noncomputable def Sv(c:Const):yl Str:=match c with
 |.str s=>some s
 |_=>none
noncomputable def sm(es:yk yr):M AV:=match es with
 |[]=>M.fail
 |e::r=>if r.isEmpty then do let s <- ae (xv e none (k:=Sv)); pure (.str s)else M.fail
noncomputable def uj(r:HQ)(cx:Cx)(x0:yr):M AV :=
 @Expr.casesOn (λZ=>M AV) x0
  (λop es Z=>sQ op r cx es)
  (λt e Z=>vD r cx t e)
  (λa op b Z=>do let x <- r.ev cx a; let y <- r.ev cx b; aE λhp nx=>gJ hp nx op x y)
  (λop e Z=>Qn r cx op e)
  (λZ Z Z Z=>M.fail)
  (λt a b Z=>do let c <- r.tr cx t; if c then r.ev cx a else r.ev cx b)
  (λks vs Z=>vF ks vs)
  (λZ Z Z=>M.fail)
  (λelt gens scope pos=>mI L r cx elt gens scope (!(T.IQ pos)))
  (λZ Z Z Z=>M.fail)
  (λk v gens scope Z=>mJ L r cx k v gens scope)
  (λZ Z Z Z=>M.fail)
  (λZ Z=>M.fail)
  (λZ Z=>M.fail)
  (λZ Z=>M.fail)
  (λa ops bs Z=>vG .bool r cx a ops bs)
  (λf args kws pos=>MA T C r cx f args kws pos)
  (λZ Z Z Z=>M.fail)
  (λes Z=>sm es)
  (λc Z Z=>Pb c)
  (λo a Z=>if fQ o then do let ov <- r.ev cx o; be ov a else M.fail)
  (λo i Z=>My r cx o i)
  (λZ Z=>M.fail)
  (λx Z=>vk T cx x)
  (λes Z=>vE r cx es)
  (λes Z Z=>do let vs <- c7 r cx es; if vs.length<=HC then pure (.tup vs)else M.fail)
  (λZ Z Z Z=>M.fail)
noncomputable def vC(r:HQ)(cx:Cx)(e:yr):M yx:=do let v <- r.ev cx e; aE λhp nx=>dC hp nx v
noncomputable def J9(r:HQ)(cx:Cx)(e:yr):M yx :=
 xv e (vC r cx e) (b:=λop es=>vU op r cx es) (u:=λop Z Z=>match op with
  |.Not=>M.fail
  |_=>vC r cx e) (i:=M.fail) (cm:=λa ops bs=>vG id r cx a ops bs)
noncomputable def AO.IS:AO->yl (yk AV)
 |.frozen v=>some v
 |_=>none
theorem AO.JA(o:AO):(AO.IS o).elim True λv=>o=.frozen v:=by cases o<;>first|exact rfl|exact zJ|exact .inl rfl|exact .inr rfl
theorem AO.Jg{v:yk AV}(h:AO.IS o=some v):o=.frozen v:=by have e:=AO.JA o; rw[h]at e; exact e
noncomputable def mG(hp:Nat->AO)(nx:Nat)(v:AV):yl (yk AV) :=
 match v.Jn with
 |some vs=>some vs
 |none=>v.HO.bind λi=>if i<nx then AO.IS (hp i)else none
noncomputable def rE(r:HQ)(cx:Cx)(args:yk yr):M aw:=do
 let vs <- c7 r cx args;let p <- ae (iZ vs);let xs <- ae (d8 p.1 p.2.1 p.2.2)
 pure (.Ip xs)
noncomputable def im(k:Nat):yk AV->yk (AV×AV)
 |[]=>[]
 |v::r=>(.int k,v)::im (k+1) r
noncomputable def vp(r:HQ)(cx:Cx)(args:yk yr):M aw:=do
 let vs <- c7 r cx args;let v <- ae (one? vs);let xs <- aE λhp nx=>mG hp nx v
 pure (.pairs none (im 0 xs))
noncomputable def rF(r:HQ)(cx:Cx)(o:yr):M aw:=do
 let v <- r.ev cx o;let i <- ae v.HO;let ob <- rd i;let d <- ae ob.HM
 pure (.pairs (some (i,d.2)) (d.1.map λp=>(.int p.1,p.2)))
noncomputable def oI(r:HQ)(cx:Cx)(o:yr):M aw:=do
 let v <- r.ev cx o;let i <- ae v.HO;let ob <- rd i;let d <- ae ob.HM
 pure (.H7 i d.2 (d.1.map λp=>p.2))
noncomputable def qd(r:HQ)(cx:Cx)(e:yr):M aw:=do let v <- r.ev cx e; ar v
noncomputable def ll(r:HQ)(cx:Cx)(f:yr)(args:yk yr)(kws:yk Ac)(pos:Pos):M aw :=
 xv f (qd r cx (.Call f args kws pos))
  (n:=λg Z=>if kws.isEmpty&&bp cx g&&g==("range": Str)then rE r cx args
   else if kws.isEmpty&&bp cx g&&g==("enumerate": Str)then vp r cx args
   else qd r cx (.Call f args kws pos))
  (a:=λo name p=>if args.isEmpty&&kws.isEmpty&&(name==("items": Str))then(if fQ o&&df [] p pos then rF r cx o else M.fail)
   else if args.isEmpty&&kws.isEmpty&&(name==("values": Str))then(if fQ o&&df [] p pos then oI r cx o else M.fail)
   else qd r cx (.Call f args kws pos))
noncomputable def vo(r:HQ)(cx:Cx)(e:yr):M aw:=xv e (qd r cx e) (c:=λf args kws pos=>ll r cx f args kws pos) (st:=M.fail)
noncomputable def uA(r:HQ)(cx:Cx)(o i:yr)(v:AV):M yu :=
 xv i (do let ov <- r.ev cx o; let iv <- r.ev cx i; jP ov iv v) (sl:=λZ Z Z=>M.fail)
noncomputable def vS(r:HQ)(cx:Cx)(t:yr)(v:AV):M yu :=
 xv t (dM cx t v) (a:=λo a Z=>do let ov <- r.ev cx o; dE ov a v) (s:=λo i Z=>uA r cx o i v)
noncomputable def j8(r:HQ)(cx:Cx):yk yr->AV->M yu
 |[],_=>pure ()
 |t::ts,v=>do r.asg cx t v; j8 r cx ts v
noncomputable def kL(m h:M ac):M ac:=λO =>
 match m O with
 |some (.err .stop O')=>HF h O'
 |some (.ok a O')=>some (.ok a O')
 |_=>none
noncomputable def qg(e:yr):yx:=xv e false (lc:=true) (sc:=true)
noncomputable def tj(cx:Cx):yk yr->yx
 |[t]=>xv t false (n:=λx Z=>kindOf cx x==some .cell) (s:=λZ Z Z=>true) (a:=λZ Z Z=>true)
 |_=>true
noncomputable def qD(cx:Cx)(ts:yk yr)(e:yr):yx:=xv e true (lc:=tj cx ts) (sc:=tj cx ts) (t:=λvs Z Z=>vs.all (foldedForSure 8))
noncomputable def Qv(cx:Cx)(ts:yk yr)(e:yr):yx:=qD cx ts e && !ts.any aR
noncomputable def rY(r:HQ)(cx:Cx)(e:yl yr):M ac :=
 match e with
 |none=>pure (.ret .none)
 |some e=>do let v <- r.ev cx e; pure (.ret v)
noncomputable def oM(r:HQ)(cx:Cx)(o:yr)(at_:Str)(op:z7)(e:yr):M ac:=do
 let ov <- r.ev cx o;let a <- be ov at_;let b <- r.ev cx e
 Pu op a b λc=>dE ov at_ c
noncomputable def Ql(r:HQ)(cx:Cx)(t:yr)(op:z7)(e:yr):M ac :=
 xv t M.fail (a:=λo at_ Z=>oM r cx o at_ op e)
noncomputable def rZ(r:HQ)(cx:Cx)(o i:yr):M ac:=do let ov <- r.ev cx o; let iv <- r.ev cx i; qw ov iv; pure .next
noncomputable def Mq(r:HQ)(cx:Cx)(t:yr):M ac:=xv t M.fail (s:=λo i Z=>rZ r cx o i)
noncomputable def Qk(r:HQ)(cx:Cx)(ts:yk yr):M ac :=
 match ts with
 |[t]=>Mq r cx t
 |_=>M.fail
noncomputable def Mp(r:HQ)(cx:Cx)(x:Str)(i:yr)(a:yk yU):M ac:=do
 gF cx
 let its <- r.its cx i
 cy L its (λv=>do bu cx x v; r.HK cx a)
noncomputable def Mo(r:HQ)(cx:Cx)(t i:yr)(a:yk yU):M ac:=do
 gF cx
 let its <- r.its cx i
 dj L its (λv=>do dM cx t v; r.HK cx a)
noncomputable def Qj(r:HQ)(cx:Cx)(t i:yr)(a b:yk yU):M ac :=
 if b.isEmpty && !gK i then xv t M.fail (n:=λx Z=>Mp L r cx x i a) (t:=λts k p=>Mo L r cx (.Tuple ts k p) i a)else M.fail
noncomputable def Qd:yk Dh->yl (yl yr×yl Str×yk yU)
 |[.ExceptHandler t n b _]=>some (t,n,b)
 |_=>none
noncomputable def lC(cx:Cx)(t:yl yr):yx :=
 match t.bind pT with
 |some n=>bp cx n&&n==("StopIteration": Str)
 |none=>false
noncomputable def lw(cx:Cx)(t:yl yr):yx :=
 match t.bind pT with
 |some n=>bp cx n&&n==("CycleError": Str)
 |none=>false
noncomputable def kK(m:M ac)(h:M ac)(x:Str):M ac:=λO =>
 match m O with
 |some (.err (.cycle vs) O')=>(match h ⟨λy=>if y=x then some (.ref O'.nx)else O'.loc y,λj=>if j=O'.nx then .exc vs else O'.hp j,O'.nx+1⟩with
  |some (.ok .next σ₂)=>some (.ok .next {σ₂ with loc:=λy=>if y=x then none else σ₂.loc y})
  |_=>none)
 |some (.ok a O')=>some (.ok a O')
 |_=>none
noncomputable def Qi(r:HQ)(cx:Cx)(a:yk yU)(hs:yk Dh)(b c:yk yU):M ac:=do
 let h <- ae (Qd hs)
 if !cx.HR && !h.2.2.isEmpty&&b.isEmpty&&c.isEmpty then
  bj h.2.1 (λx=>if lw cx h.1&&kindOf cx x==some .local then kK (r.HK cx a) (r.HK {cx with HR:=true,xn:=true} h.2.2) x else M.fail)
   (if lC cx h.1 then kL (r.HK cx a) (r.HK {cx with HR:=true} h.2.2)else M.fail)
 else M.fail
noncomputable def on:yl yr->yl yr->yl (yr×yk yr)
 |some e,none=>xv e none (c:=λf args kws Z=>if kws.isEmpty then some (f,args)else none)
 |_,_=>none
noncomputable def vB(r:HQ)(cx:Cx)(e c:yl yr):M ac:=do
 let p <- ae (on e c)
 if lw cx (some p.1) && !p.2.any aR then do
  gF cx
  let vs <- c7 r cx p.2
  if vs.length<=HC then pn (.cycle vs)else M.fail
 else M.fail
noncomputable def Mn(r:HQ)(cx:Cx)(st:yU):M ac :=
 @Stmt.casesOn (λZ=>M ac) st
  (λZ Z Z Z Z Z Z Z Z Z=>M.fail)
  (λZ Z Z Z Z Z Z Z Z Z=>M.fail)
  (λZ Z Z Z Z Z Z Z Z Z Z=>M.fail)
  (λe Z=>rY r cx e)
  (λts Z=>Qk r cx ts)
  (λts e Z=>if Qv cx ts e then do let v <- r.ev cx e; j8 r cx ts v; pure .next else M.fail)
  (λZ Z Z Z Z Z Z=>M.fail)
  (λt op e Z=>Ql r cx t op e)
  (λZ Z Z Z Z=>M.fail)
  (λt i a b Z=>Qj L r cx t i a b)
  (λZ Z Z Z Z=>M.fail)
  (λt a b Z=>bm (r.tr cx t) (r.HK cx a) (r.HK cx b) L)
  (λt a b Z=>do let c <- r.tr cx t; if c then r.HK cx a else r.HK cx b)
  (λZ Z Z=>M.fail)
  (λZ Z Z=>M.fail)
  (λZ Z Z=>M.fail)
  (λe c Z=>vB r cx e c)
  (λa hs b c Z=>Qi r cx a hs b c)
  (λZ Z Z Z Z=>M.fail)
  (λZ Z Z=>M.fail)
  (λZ Z=>M.fail)
  (λZ Z Z Z=>M.fail)
  (λZ Z=>M.fail)
  (λZ Z=>M.fail)
  (λe Z=>if qg e then M.fail else do let _ <- r.ev cx e; pure .next)
  (λZ=>pure .next)
  (λZ=>pure .brk)
  (λZ=>pure .cont)
noncomputable def vA(r:HQ)(cx:Cx):yk yU->M ac
 |[]=>pure .next
 |s::ss=>do
  match <- Mn L r cx s with
  |.next=>r.HK cx ss
  |f=>pure f
noncomputable def Iw:Nat->HQ
 |0=>⟨λZ Z=>M.fail,λZ Z=>M.fail,λZ Z=>M.fail,λZ Z Z=>M.fail,λZ Z=>M.fail⟩
 |n+1=>⟨uj T C L (Iw n),J9 (Iw n),vo (Iw n),vS (Iw n),vA L (Iw n)⟩
end
noncomputable def aJ(T:Tab)(L N:Nat):Nat->ak
 |0=>λZ Z Z=>M.fail
 |d+1=>λfd pos kw=>eB (Iw T (aJ T L N d) L N).HK fd pos kw
noncomputable def mR:yk yU->yk (Str×ax)
 |[]=>[]
 |s::r=>sv s (mR r) (f:=λn args body scope=>(n,⟨args,body,scope,args.defaults.map λZ=>.none⟩)::mR r)
noncomputable def fX(c:Str):yk yU->yk (Str×ax)
 |[]=>[]
 |s::r=>sv s (fX c r) (c:=λn body=>if n=c then mR body else fX c r)
noncomputable def tabOf(p:By)(HI:Str->yl AV)(IQ:Pos->yx):Tab where
 IG:=λx=>(mR p.main.body).lookup x
 meths:=λx=>(fX "TopologicalSorter" p.main.body).lookup x
 IA:=(fX "_NodeInfo" p.main.body).lookup ("__init__": Str)
 HI:=HI
 IQ:=IQ
open PySem.W PyProof.Rows
variable{U:yk yp}{h:yC}
variable{o':Obj}
variable{a:yp}
variable{h':yC}
variable{own:yk yp}
variable{U':yk yp}
variable{c:yt}
variable{vs:yk AV}{cs:yk yt}
variable{h'':yC}
variable{U'':yk yp}{O O' O'':St}{s s' s'':yy}
variable{env:Env}{cx:Cx}
variable{prog:By}{w:z9}{ao:AO}
variable{j:Nat}
section
mutual
noncomputable def aq(U:yk yp)(h:yC):AV->yt->Prop
 |.none,v=>v=.none
 |.bool b,v=>v=.bool b
 |.int i,v=>∃t,v=.int i t
 |.str s,v=>∃t,v=.str s t
 |.bytes b,v=>∃t,v=.bytes b t
 |.typ n,v=>v=.type n
 |.tup vs,v=>∃a items,v=.ref a/\h.IsTuple a items/\a∉U/\av U h vs items.toList
 |.lst vs,v=>∃a items,v=.ref a/\h.IsList a items/\a∉U/\av U h vs items.toList
 |.ref i,v=>∃a,v=.ref a/\U[i]?=some a
noncomputable def av(U:yk yp)(h:yC):yk AV->yk yt->Prop
 |[],cs=>cs=[]
 |v::vs,cs=>∃c r,cs=c::r/\aq U h v c/\av U h vs r
end
noncomputable def bW(U:yk yp)(h:yC):yl AV->yl yt->Prop
 |none,none=>True
 |some v,some c=>aq U h v c
 |_,_=>False
noncomputable def iQ(U:yk yp)(h:yC):yl AV->yl yt->Prop
 |none,_=>True
 |some v,some c=>aq U h v c
 |some _,none=>False
theorem bW.loc{v:yl AV}{c:yl yt}(x:bW U h v c):iQ U h v c:=by cases v<;>cases c<;>first|trivial|exact x
noncomputable def fZ(o:Obj):Prop:=(∃es ep,o.data=.dict es ep)\/∃v,o.data=.cell v
noncomputable def iP(o o':Obj):Prop:=o'=o\/((∃es ep,o.data=.dict es ep)/\∃sl,o'={o with slots:=sl})
theorem iP.refl(o:Obj):iP o o:=.inl rfl
theorem iP.data{o:Obj}(h:iP o o'):o'.data=o.data:=by rcases h with rfl|⟨_,sl,rfl⟩<;>rfl
theorem iP.trans{a b c:Obj}(h:iP a b)(k:iP b c):iP a c:=by
 rcases h with rfl|⟨hc,sl,rfl⟩
 ·exact k
 ·rcases k with rfl|⟨_,sl',rfl⟩
  ·exact .inr ⟨hc,_,rfl⟩
  ·exact .inr ⟨hc,sl',rfl⟩
theorem iP.eq{o:Obj}(h:iP o o')(hc:∀es ep,o.data≠.dict es ep):o'=o:=by
 rcases h with rfl|⟨⟨es,ep,h⟩,_⟩
 ·rfl
 ·exact yD h (hc es ep)
theorem ns_ex{m:Str->yl yt}(x:h.Ns a m):∃o es ep,h.get? a=some o/\o.data=.dict es ep:=by obtain⟨o,es,ep,e,d,_⟩:=x; exact⟨o,es,ep,e,d⟩
theorem uX{m:Str->yl yt}(x:h.Ns a m):∃o,h.get? a=some o:=by obtain⟨o,_,_,e,_⟩:=x; exact⟨o,e⟩
noncomputable def ib(h h':yC):Prop:=∀a o,h.get? a=some o->∃o',h'.get? a=some o'
theorem ib.refl(h:yC):ib h h:=λZ o e=>⟨o,e⟩
theorem ib.trans{a b c:yC}(x:ib a b)(y:ib b c):ib a c:=λz o e=>(x z o e).elim λo' e'=>y z o' e'
theorem ib.none(x:ib h h')(e:h'.get? a=none):h.get? a=none:=by
 cases q:h.get? a with
 |none=>rfl
 |some o=>obtain⟨o',e'⟩:=x a o q; rw[e]at e'; exact nn e'
structure eZ(U own:yk yp)(h h':yC):Prop where
 live:ib h h'
 keep:∀a o,h.get? a=some o->a∉U->a∉own->∃o',h'.get? a=some o'/\iP o o'
structure c8(U U':yk yp)(h:yC):Prop where
 ext:∃new,U'=U++new/\∀a∈new,h.get? a=none
theorem c8.refl(U:yk yp)(h:yC):c8 U U h:=⟨⟨[],by simp,by simp⟩⟩
theorem c8.trans{a b c:yk yp}(x:c8 a b h)(y:c8 b c h')(l:ib h h'):c8 a c h:=by
 obtain⟨⟨p,rfl,hp⟩⟩:=x;obtain⟨⟨q,rfl,hq⟩⟩:=y;refine⟨⟨p++q,by simp,λz hz =>?_⟩⟩;rcases y3.mp hz with hz|hz
 ·exact hp z hz
 ·exact l.none (hq z hz)
theorem c8.get{a b:yk yp}(x:c8 a b h){z:yp}(h:a[i]?=some z):b[i]?=some z:=by obtain⟨⟨p,rfl,_⟩⟩:=x;obtain⟨hi,rfl⟩:=y2.mp h;rw[AD hi]; exact h
theorem c8.Ii{a b:yk yp}{hp:yC}(x:c8 a b hp){z:yp}{o:Obj}(h:z∉a)(hz:hp.get? z=some o):z∉b:=by
 obtain⟨⟨p,rfl,hpp⟩⟩:=x;intro hm;rcases y3.mp hm with hm|hm
 ·exact h hm
 ·rw[hpp z hm]at hz; exact nn hz
structure JM(U U':yk yp)(h:yC):Prop where
 get:∀{i:Nat} {z:yp},U[i]?=some z->U'[i]?=some z
 no:∀{z:yp} {o:Obj},z∉U->h.get? z=some o->(∀fs,o.data≠.fields fs)->z∉U'
theorem c8.x{a b:yk yp}(x:c8 a b h):JM a b h:=⟨x.get,λh1 h2 Z=>x.Ii h1 h2⟩
theorem JM.refl(U:yk yp)(h:yC):JM U U h:=⟨id,λh Z Z=>h⟩
structure kb where
 TS:yp
 NI:yp
 CE:yp
noncomputable def vV(h:yC)(a it:yp):Prop:=∃o,h.get? a=some o/\o.cls=.type "method-wrapper" /\ o.data=.fields #[.builtin "list_iterator.__next__",.ref it]
noncomputable abbrev mz(l:yp)(i:Nat):Obj:={cls:=.type "list_iterator",data:=.fields #[.ref l,.int i 0]}
noncomputable def aC(U:yk yp)(h:yC)(kvs:yk (Int×AV))(cs:yk (Int×yt)):Prop :=
 kvs.map (·.1)=cs.map (·.1)/\av U h (kvs.map (·.2)) (cs.map (·.2))
noncomputable def aQ(U:yk yp)(h:yC):yk (Str×AV)->yk Bl->Prop
 |[],es=>es=[]
 |f::fs,es=>∃e r,es=e::r/\(∃t,e.key=.str f.1 t)/\aq U h f.2 e.val/\aQ U h fs r
inductive Se(P:kb)(U:yk yp)(h:yC)(a:yp)(d:Nat)(x y z:yl AV):Prop
 |mk (dx:yp) (sl:yM (yl yt)) (h1:U[d]?=some dx) (h2:h.get? a=some {cls:=.ref P.NI,dict:=some dx,data:=.plain,slots:=sl}) (h3:bW U h x (sl[0]?).join) (h4:bW U h y (sl[1]?).join) (h5:bW U h z (sl[2]?).join)
inductive ExcAt(P:kb)(U:yk yp)(h:yC)(a:yp)(vs:yk AV):Prop
 |mk (o:Obj) (fs:yM yt) (t:yp) (items:yM yt) (ho:h.get? a=some o) (hc:o.cls=.ref P.CE) (hd:o.data=.fields fs) (f0:fs[0]?=some (.ref t)) (f2:fs[2]?=some .none) (ht:t∉U) (hi:h.IsTuple t items) (hv:av U h vs items.toList)
noncomputable def dN(prog:By)(w:z9)(P:kb)(U:yk yp)(h:yC)(a:yp):AO->Prop
 |.dead=>∃o,h.get? a=some o/\True/\∀v,o.data≠.cell v
 |.list vs=>∃items n,IsL h a items n/\av U h vs items.toList
 |.frozen vs=>∃items n,IsL h a items n/\av U h vs items.toList
 |.dict kvs _=>∃cs,h.DictOf (y1 prog w) a cs/\aC U h kvs cs
 |.set ks=>h.SetOf (y1 prog w) a (λk=>ks.contains k) ks.length
 |.inst d=>∃dx,U[d]?=some dx/\h.get? a=some (Aq P.TS dx)
 |.attrs fs=>∃es n,h.get? a=some (W.dictOf es n)/\aQ U h fs es/\(fs.map (·.1)).Nodup
 |.node d x y z=>Se P U h a d x y z
 |.iter l i=>∃la,U[l]?=some la/\h.get? a=some (mz la i)
 |.H9 it=>∃ia,U[it]?=some ia/\vV h a ia
 |.exc vs=>ExcAt P U h a vs
noncomputable def bq(U:yk yp)(h h':yC):Prop:=∀a o,h.get? a=some o->a∉U->(∃xs n,o.data=.seq xs n)->h'.get? a=some o
theorem eZ.keeps(x:eZ U own h h')(ho:∀a∈own,∀o,h.get? a=some o->fZ o):bq U h h':=by
 intro a o e hn hc;have hno:a∉own:=λhm=>by obtain⟨xs,n,hc⟩:=hc;rcases ho a hm o e with⟨es,ep,hd⟩|⟨v,hd⟩<;>(rw[hd]at hc; cases hc)
 obtain⟨o',e',hs⟩:=x.keep a o e hn hno;rw[e',hs.eq (λes ep q=>by obtain⟨xs,n,hc⟩:=hc; rw[q]at hc; cases hc)]
noncomputable def fw(U:yk yp)(h:yC):Prop:=∀a∈U,∃o,h.get? a=some o/\True/\∀v,o.data≠.cell v
mutual
theorem aq.mono(hk:bq U h h')(ha:fw U h)(hx:JM U U' h):∀{v:AV} {c:yt},aq U h v c->aq U' h' v c
 |.none,_=>λe=>e
 |.bool _,_=>λe=>e
 |.int _,_=>λe=>e
 |.str _,_=>λe=>e
 |.bytes _,_=>λe=>e
 |.typ _,_=>λe=>e
 |.tup vs,c=>λe=>by obtain⟨a,items,rfl,⟨o,ho,hc,n,hd⟩,hn,hv⟩:=e;exact⟨a,items,rfl,⟨o,hk a o ho hn ⟨_,_,hd⟩,hc,n,hd⟩,hx.no hn ho (λfs q=>by rw[hd]at q; cases q),av.mono hk ha hx hv⟩
 |.lst vs,c=>λe=>by obtain⟨a,items,rfl,⟨o,ho,hc,n,hd⟩,hn,hv⟩:=e;exact⟨a,items,rfl,⟨o,hk a o ho hn ⟨_,_,hd⟩,hc,n,hd⟩,hx.no hn ho (λfs q=>by rw[hd]at q; cases q),av.mono hk ha hx hv⟩
 |.ref i,c=>λe=>by obtain⟨a,rfl,hi⟩:=e;exact⟨a,rfl,hx.get hi⟩
theorem av.mono(hk:bq U h h')(ha:fw U h)(hx:JM U U' h):∀{vs:yk AV} {cs:yk yt},av U h vs cs->av U' h' vs cs
 |[],_=>λe=>e
 |v::vs,cs=>λe=>by obtain⟨c,r,rfl,hv,hr⟩:=e;exact⟨c,r,rfl,aq.mono hk ha hx hv,av.mono hk ha hx hr⟩
end
theorem bW.mono(hk:bq U h h')(ha:fw U h)(hx:JM U U' h){v:yl AV}{c:yl yt}(e:bW U h v c):bW U' h' v c:=by cases v<;>cases c<;>first|exact e|exact aq.mono hk ha hx e
theorem iQ.mono(hk:bq U h h')(ha:fw U h)(hx:JM U U' h){v:yl AV}{c:yl yt}(e:iQ U h v c):iQ U' h' v c:=by cases v<;>cases c<;>first|trivial|exact aq.mono hk ha hx e
theorem aQ.mono(hk:bq U h h')(ha:fw U h)(hx:JM U U' h):∀{fs:yk (Str×AV)} {es:yk Bl},aQ U h fs es->aQ U' h' fs es
 |[],_=>λe=>e
 |f::fs,es=>λe=>by obtain⟨c,r,rfl,ht,hv,hr⟩:=e;exact⟨c,r,rfl,ht,aq.mono hk ha hx hv,aQ.mono hk ha hx hr⟩
theorem av.length:∀{vs:yk AV} {cs:yk yt},av U h vs cs->vs.length=cs.length
 |[],_,e=>by cases e; rfl
 |v::vs,cs,e=>by obtain⟨c,r,rfl,_,hr⟩:=e; simp[av.length hr]
theorem av.get:∀{vs:yk AV} {cs:yk yt},av U h vs cs->∀{i:Nat} {v:AV},vs[i]?=some v->∃c,cs[i]?=some c/\aq U h v c
 |[],_=>λZ i v hi=>by simp at hi
 |v::vs,cs=>λe i u hi=>by
  obtain⟨c,r,rfl,hv,hr⟩:=e;cases i with
  |zero=>simp at hi; subst hi; exact⟨c,by simp,hv⟩
  |succ i=>simp at hi; obtain⟨c',h1,h2⟩:=av.get hr hi; exact⟨c',by simpa using h1,h2⟩
theorem av.append:∀{vs us:yk AV} {cs ds:yk yt},av U h vs cs->av U h us ds->av U h (vs++us) (cs++ds)
 |[],_,_,_=>λe f=>by cases e; exact f
 |v::vs,us,cs,ds=>λe f=>by obtain⟨c,r,rfl,hv,hr⟩:=e; exact⟨c,r++ds,rfl,hv,av.append hr f⟩
theorem av.one(e:aq U h v c):av U h [v] [c]:=⟨c,[],rfl,e,rfl⟩
theorem av.of_get:∀{vs:yk AV} {cs:yk yt},vs.length=cs.length->(∀(i:Nat) (v:AV) (c:yt),vs[i]?=some v->cs[i]?=some c->aq U h v c)->av U h vs cs
 |[],cs=>λhl Z=>by cases cs with|nil=>rfl|cons c cs=>cases hl
 |v::vs,cs=>λhl e=>by
  cases cs with
  |nil=>cases hl
  |cons c cs=>exact⟨c,cs,rfl,e 0 v c rfl rfl,av.of_get (Cj hl) λi v' c' h1 h2=>e (i+1) v' c' h1 h2⟩
set_option tactic.hygienic true in
theorem av.take(e:av U h vs cs)(n:Nat):av U h (vs.take n) (cs.take n) :=
 av.of_get (by simp[e.length]) λi v c h1 h2=>by
  rw[List.getElem?_take]at h1 h2;split at h1
  ·rename_i hi;rw[yo hi]at h2;obtain⟨c',h3,h4⟩:=e.get h1;rw[h2]at h3; (have h9:=si h3; clear h3; subst h9); exact h4
  ·exact nn h1
theorem av.drop(e:av U h vs cs)(n:Nat):av U h (vs.drop n) (cs.drop n) :=
 av.of_get (by simp[e.length]) λi v c h1 h2=>by rw[EK]at h1 h2;obtain⟨c',h3,h4⟩:=e.get h1;rw[h2]at h3; (have h9:=si h3; clear h3; subst h9); exact h4
theorem av.reverse:∀{vs:yk AV} {cs:yk yt},av U h vs cs->av U h vs.reverse cs.reverse
 |[],_=>λe=>by cases e; rfl
 |v::vs,cs=>λe=>by obtain⟨c,r,rfl,hv,hr⟩:=e;rw[GR,GR];exact av.append (av.reverse hr) (.one hv)
theorem av.ints:∀{vs:yk AV} {cs:yk yt} {is:yk Int},av U h vs cs->bz vs=some is->A8 cs is
 |[],cs,is=>λe hi=>by cases e; (have h9:=si hi; clear hi; subst h9); exact .nil
 |v::vs,cs,is=>λe hi=>by
  obtain⟨c,r,rfl,hv,hr⟩:=e;cases v with
  |int i =>obtain⟨js,hj,rfl⟩:=y4.mp (show(bz vs).map (i :: ·)=some is from hi);obtain⟨t,rfl⟩:=hv;exact .cons _ _ (av.ints hr hj)
  |_=>exact nn hi
structure au where
 K:Frag
 prog:By
 w:z9
 P:kb
 h₀:yC
 s₀:yy
variable(S:au)
noncomputable def Nv(S:au)(U:yk yp)(h:yC)(envs:yk Env):Prop :=
 ∀e∈envs,e.scope.kind=.function/\∃L o es ep,e.frame=some L/\h.get? L=some o/\o.data=.dict es ep/\S.h₀.get? L=none/\L∉U
structure Frs where
 l:yk Env
 x:yl yp
set_option genInjectivity true in
structure a9(S:au)(envs:Frs)(U:yk yp)(O:St)(s:yy):Prop where
 base:∀b o,S.h₀.get? b=some o->s.heap.get? b=some o
 gens:s.gens=S.s₀.gens
 os:s.os=S.s₀.os
 len:U.length=O.nx
 nodup:U.Nodup
 above:∀a∈U,S.h₀.get? a=none
 objs:∀i a,U[i]?=some a->dN S.prog S.w S.P U s.heap a (O.hp i)
 IK:Nv S U s.heap envs.l
 xs:∀a,envs.x=some a->∃i vs,U[i]?=some a/\O.hp i=.exc vs
inductive Nw(env:Env)(U:yk yp)(h:yC)(x:Str)(p:yp->Prop)(v:yl AV):Prop
 |mk (a:yp) (c:yl yt) (h1:env.cells.lookup x=some a) (h2:p a) (h3:h.IsCell a c) (h4:bW U h v c)
structure gV(env:Env)(own:yk yp)(cx:Cx)(U:yk yp)(loc:Str->yl AV)(h:yC):Prop where
 ns:∃m,h.Ns env.locals m/\∀x,kindOf cx x=some .local->iQ U h (loc x) (m x)
 cells:∀x,kindOf cx x=some .cell->Nw env U h x (λa=>a∈own) (loc x)
 frees:∀x,kindOf cx x=some .free->Nw env U h x (λa=>a∉own) (cx.outer x)
 HZ:∀a∈own,a∉U/\∃o,h.get? a=some o/\fZ o
 HW:env.locals∈own
 apart:∀x y a,kindOf cx x=some .cell->kindOf cx y=some .cell->env.cells.lookup x=some a->env.cells.lookup y=some a->x=y
structure VT(S:au)(env:Env)(cx:Cx):Prop where
 kind:env.scope.kind=.function
 glob:env.globals=BB
 bi:env.builtins=builtinsNs
 loc:∀x,kindOf cx x=some .local->env.kindOf x=some .local
 cell:∀x,kindOf cx x=some .cell->env.kindOf x=some .cell
 free:∀x,kindOf cx x=some .free->env.kindOf x=some .cell\/(env.kindOf x=some .free/\x≠("__classdict__": Str))
 gl:∀x,kindOf cx x=some .globalImplicit->env.kindOf x=some .globalImplicit
noncomputable def AO.Sw:AO->Prop
 |.frozen _=>True
 |.dead=>True
 |.exc _=>True
 |_=>False
noncomputable def eS(x o:AO):Prop:=x=o/\o.Sw
structure Ext(own U:yk yp)(O:St)(s:yy)(U':yk yp)(O':St)(s':yy):Prop where
 heap:eZ U own s.heap s'.heap
 HU:c8 U U' s.heap
 Ie:∀i a kvs v,U[i]?=some a->O.hp i=.dict kvs v->∃kvs' v',O'.hp i=.dict kvs' v'/\v<=v'/\(v'=v->kvs'=kvs/\s'.heap.get? a=s.heap.get? a)
 Ij:∀i a o,U[i]?=some a->eS (O.hp i) o->eS (O'.hp i) o/\s'.heap.get? a=s.heap.get? a
theorem eZ.refl(U own:yk yp)(h:yC):eZ U own h h:=⟨.refl _,λZ o e Z Z=>⟨o,e,.refl _⟩⟩
theorem eZ.trans(x:eZ U own h h')(y:eZ U' own h' h'')(z:c8 U U' h):eZ U own h h'':=by refine⟨x.live.trans y.live,λa o e hn hw =>?_⟩;obtain⟨o',e',k⟩:=x.keep a o e hn hw;obtain⟨o'',e'',k'⟩:=y.keep a o' e' (z.Ii hn e) hw;exact⟨o'',e'',k.trans k'⟩
theorem Ext.refl(own U:yk yp)(O:St)(s:yy):Ext own U O s U O s :=
 ⟨.refl ..,.refl ..,λZ Z kvs v Z e=>⟨kvs,v,e,yF _,λZ=>⟨rfl,rfl⟩⟩,λZ Z Z Z e=>⟨e,rfl⟩⟩
theorem Ext.trans(x:Ext own U O s U' O' s')(y:Ext own U' O' s' U'' O'' s''):Ext own U O s U'' O'' s'':=by
 refine⟨x.heap.trans y.heap x.HU,x.HU.trans y.HU x.heap.live,λi a kvs v hi e =>?_,λi a vs hi e =>?_⟩
 rotate_left
 ·obtain⟨a1,b1⟩:=x.Ij i a vs hi e;obtain⟨a2,b2⟩:=y.Ij i a vs (x.HU.get hi) a1;exact⟨a2,b2.trans b1⟩
 refine hdZ λGG hGG =>?_;obtain⟨k1,v1,e1,l1,q1⟩:=x.Ie i a kvs v hi e;obtain⟨k2,v2,e2,l2,q2⟩:=y.Ie i a k1 v1 (x.HU.get hi) e1;refine hGG ?_;refine⟨k2,v2,e2,yn l1 l2,λhv =>?_⟩;have hv1:v1=v:=Be (hv▸l2) l1;obtain⟨a1,b1⟩:=q1 hv1;obtain⟨a2,b2⟩:=q2 (hv.trans hv1.symm);exact⟨a2.trans a1,b2.trans b1⟩
theorem gV.IY{loc:Str->yl AV}(F:gV env own cx U loc h) :
  ∀a∈own,∀o,h.get? a=some o->fZ o:=by
 intro a ha o e;obtain⟨_,o',e',hd⟩:=F.HZ a ha;rw[e]at e'; (have h9:=si e'; clear e'; subst h9); exact hd
theorem dN.cls{P:kb}(x:dN prog w P U h a ao):∃o,h.get? a=some o/\True/\∀v,o.data≠.cell v:=by
 cases ao with
 |dead=>exact x
 |list vs=>obtain⟨items,n,e,_⟩:=x; exact⟨_,e,trivial,by simp⟩
 |frozen vs=>obtain⟨items,n,e,_⟩:=x; exact⟨_,e,trivial,by simp⟩
 |dict kvs v=>obtain⟨cs,⟨o,es,ep,e,hc,hd,_⟩,_⟩:=x; exact⟨o,e,trivial,by rw[hd]; intro v q; cases q⟩
 |set ks=>obtain⟨o,es,ep,t,e,hc,hd,_⟩:=x; exact⟨o,e,trivial,by rw[hd]; intro v q; cases q⟩
 |inst d=>obtain⟨dx,_,e⟩:=x; exact⟨_,e,trivial,by simp⟩
 |attrs fs=>obtain⟨es,n,e,_⟩:=x; exact⟨_,e,trivial,by simp⟩
 |node d x y z=>obtain⟨dx,sl,_,e,_⟩:=x; exact⟨_,e,trivial,by simp⟩
 |iter l i=>obtain⟨la,_,e⟩:=x; exact⟨_,e,trivial,by simp⟩
 |H9 it=>obtain⟨ia,_,o,e,hc,hd⟩:=x; exact⟨o,e,trivial,by rw[hd]; intro v q; cases q⟩
 |exc vs=>obtain⟨o,fs,t,items,ho,hc,hd⟩:=x; exact⟨o,ho,trivial,by rw[hd]; intro v q; cases q⟩
variable{envs:Frs}
theorem a9.HD{S:au}(H:a9 S envs U O s):fw U s.heap:=by intro a ha;obtain⟨i,hi,rfl⟩:=List.mem_iff_getElem.mp ha;exact(H.objs i _ (y2.mpr ⟨hi,rfl⟩)).cls
theorem a9.lt{S:au}(H:a9 S envs U O s)(ha:a∈U):a<s.heap.objs.size:=by obtain⟨o,e,_⟩:=H.HD a ha; exact Ab e
theorem a9.inj{S:au}(H:a9 S envs U O s)(hi:U[i]?=some a)(hj:U[j]?=some a):i=j:=by
 obtain⟨h1,e1⟩:=y2.mp hi;obtain⟨h2,e2⟩:=y2.mp hj;have hp:=GN.mp H.nodup;rcases G6 i j with q|q|q
 ·exact yD (e1.trans e2.symm) (hp i j h1 h2 q)
 ·exact q
 ·exact yD (e2.trans e1.symm) (hp j i h2 h1 q)
theorem a9.at{S:au}(H:a9 S envs U O s)(hi:i<O.nx):∃a,U[i]?=some a/\a∈U/\dN S.prog S.w S.P U s.heap a (O.hp i):=by
 have hl:i<U.length:=by rw[H.len]; exact hi
 exact⟨U[i],y2.mpr ⟨hl,rfl⟩,EM hl,H.objs i _ (y2.mpr ⟨hl,rfl⟩)⟩
theorem dN.mono{P:kb}(hk:bq U h h')(hok:fw U h)(hx:JM U U' h)
  (he:h'.get? a=h.get? a) (x:dN prog w P U h a ao):dN prog w P U' h' a ao:=by
 cases ao with
 |dead=>obtain⟨o,e,r⟩:=x; exact⟨o,he.trans e,r⟩
 |list vs=>obtain⟨items,n,e,hv⟩:=x; exact⟨items,n,he.trans e,hv.mono hk hok hx⟩
 |frozen vs=>obtain⟨items,n,e,hv⟩:=x; exact⟨items,n,he.trans e,hv.mono hk hok hx⟩
 |dict kvs v=>obtain⟨cs,⟨o,es,ep,e,r⟩,hp⟩:=x; exact⟨cs,⟨o,es,ep,he.trans e,r⟩,hp.1,hp.2.mono hk hok hx⟩
 |set ks=>obtain⟨o,es,ep,t,e,r⟩:=x; exact⟨o,es,ep,t,he.trans e,r⟩
 |inst d=>obtain⟨dx,hd,e⟩:=x; exact⟨dx,hx.get hd,he.trans e⟩
 |attrs fs=>obtain⟨es,n,e,hf,hn⟩:=x; exact⟨es,n,he.trans e,hf.mono hk hok hx,hn⟩
 |node d x y z=>obtain⟨dx,sl,hd,e,h1,h2,h3⟩:=x; exact⟨dx,sl,hx.get hd,he.trans e,h1.mono hk hok hx,h2.mono hk hok hx,h3.mono hk hok hx⟩
 |iter l i=>obtain⟨la,hl,e⟩:=x; exact⟨la,hx.get hl,he.trans e⟩
 |H9 it=>obtain⟨ia,hl,o,e,r⟩:=x; exact⟨ia,hx.get hl,o,he.trans e,r⟩
 |exc vs =>obtain⟨o,fs,t,items,ho,hc,hd,f0,f2,ht,⟨ot,hot,hct,n,hdt⟩,hv⟩:=x;exact⟨o,fs,t,items,he.trans ho,hc,hd,f0,f2,hx.no ht hot (λfs q=>by rw[hdt]at q; cases q),⟨ot,hk t ot hot ht ⟨_,_,hdt⟩,hct,n,hdt⟩,hv.mono hk hok hx⟩
end
structure HB(S:au)(envs:Frs)(env:Env)(own:yk yp)(cx:Cx)(U:yk yp)(O:St)(s:yy):Prop where
 H:a9 S envs U O s
 F:gV env own cx U O.loc s.heap
variable{S:au}{envs:Frs}
structure aF(s s':yy):Prop where
 keep:∀a o,s.heap.get? a=some o->s'.heap.get? a=some o
 gens:s'.gens=s.gens
 os:s'.os=s.os
theorem aF.refl(s:yy):aF s s:=⟨λZ Z e=>e,rfl,rfl⟩
theorem aF.trans{a b c:yy}(x:aF a b)(y:aF b c):aF a c:=⟨λp o e=>y.keep p o (x.keep p o e),y.gens.trans x.gens,y.os.trans x.os⟩
theorem aF.tok(s:yy)(t:Nat):aF s {s with toks:=t}:=⟨λZ Z e=>e,rfl,rfl⟩
theorem aF.push(s:yy)(o:Obj)(t:Nat):aF s {s with heap:=s.heap.push o,toks:=t}:=⟨λZ Z e=>zR o e,rfl,rfl⟩
theorem aF.OR(x:aF s s')(U own:yk yp):eZ U own s.heap s'.heap:=⟨λa o e=>⟨o,x.keep a o e⟩,λZ o e Z Z=>⟨o,x.keep _ o e,.refl _⟩⟩
theorem aF.keeps(x:aF s s')(U:yk yp):bq U s.heap s'.heap:=λa o e Z Z=>x.keep a o e
theorem a9.quiet(H:a9 S envs U O s)(x:aF s s'):a9 S envs U O s' where
 base:=λb o e=>x.keep b o (H.base b o e)
 gens:=x.gens.trans H.gens
 os:=x.os.trans H.os
 len:=H.len
 nodup:=H.nodup
 above:=H.above
 objs:=λi a hi=>by obtain⟨o,e,_⟩:=(H.objs i a hi).cls;exact(H.objs i a hi).mono (x.keeps U) H.HD (.refl ..) ((x.keep a o e).trans e.symm)
 IK:=λe he=>by refine hdZ λGG hGG =>?_;obtain⟨hk,L,o,es,ep,h1,h2,r⟩:=H.IK e he;refine hGG ?_;exact⟨hk,L,o,es,ep,h1,x.keep L o h2,r⟩
 xs:=H.xs
theorem gV.ext{loc:Str->yl AV}(F:gV env own cx U loc h)(x:eZ U [] h h')(ok:fw U h)(hx:JM U U' h):gV env own cx U' loc h':=by
 have hk:bq U h h':=x.keeps (λa ha=>by cases ha);have st:∀a o,h.get? a=some o->a∉U->∃o',h'.get? a=some o'/\iP o o':=λa o e hn=>x.keep a o e hn (by simp);have mem:∀a∈own,a∉U:=λa ha=>(F.HZ a ha).1;constructor
 ·refine hdZ λGG hGG =>?_;obtain⟨m,⟨o,es,ep,e,hd,r⟩,hm⟩:=F.ns;obtain⟨o₁,e₁,k⟩:=st _ _ e (mem _ F.HW);refine hGG ?_;exact⟨m,⟨o₁,es,ep,e₁,k.data.trans hd,r⟩,λy hy=>(hm y hy).mono hk ok hx⟩
 ·intro y hy;obtain⟨a,c,h1,h2,⟨o,h3,h5⟩,h6⟩:=F.cells y hy;obtain⟨o₁,e₁,k⟩:=st _ _ h3 (mem _ h2);exact⟨a,c,h1,h2,⟨o₁,e₁,k.data.trans h5⟩,h6.mono hk ok hx⟩
 ·intro y hy;obtain⟨a,c,h1,h2,⟨o,h3,h5⟩,h6⟩:=F.frees y hy;have hn:a∉U:=λhm=>by obtain⟨o',e',_,hh⟩:=ok a hm;rw[h3]at e'; (have h9:=si e'; clear e'; subst h9); exact hh _ h5
  obtain⟨o₁,e₁,k⟩:=st _ _ h3 hn;exact⟨a,c,h1,h2,⟨o₁,e₁,k.data.trans h5⟩,h6.mono hk ok hx⟩
 ·intro a ha;refine hdZ λGG hGG =>?_;obtain⟨hn,o,e,ho⟩:=F.HZ a ha;obtain⟨o₁,e₁,k⟩:=st _ _ e hn;refine hGG ?_;exact⟨hx.no hn e (λfs q=>by rcases ho with⟨_,_,ho⟩|⟨_,ho⟩<;>(rw[q]at ho; cases ho)),o₁,e₁,by unfold fZ; rw[k.data]; exact ho⟩
 ·exact F.HW
 ·exact F.apart
theorem HB.quiet(N:HB S envs env own cx U O s)(x:aF s s'):HB S envs env own cx U O s' :=
 ⟨N.H.quiet x,N.F.ext (x.OR ..) N.H.HD (.refl ..)⟩
theorem a9.H2(H:a9 S envs U O s)(x:aF s s'):Ext own U O s U O s':=by
 refine⟨x.OR ..,.refl ..,λi a kvs v hi e=>⟨kvs,v,e,yF _,λZ=>⟨rfl,?_⟩⟩,λi a vs hi e=>⟨e,?_⟩⟩
 ·obtain⟨o,eo,_⟩:=(H.objs i a hi).cls;exact(x.keep a o eo).trans eo.symm
 ·obtain⟨o,eo,_⟩:=(H.objs i a hi).cls;exact(x.keep a o eo).trans eo.symm
noncomputable def upd(hp:Nat->AO)(i:Nat)(o:AO):Nat->AO:=λj=>if j=i then o else hp j
theorem a9.U1(H:a9 S envs U O s)(hf:∀vs,¬eS (O.hp i) vs)(b:yp)(hb:envs.x=some b):∃j vs,U[j]?=some b/\upd O.hp i o j=.exc vs:=by obtain⟨j,vs,h1,h2⟩:=H.xs b hb;exact⟨j,vs,h1,by rw[upd,ym (λq:j=i=>hf (.exc vs) ⟨by rw[<-q]; exact h2,trivial⟩)]; exact h2⟩
theorem a9.U2(H:a9 S envs U O s)(b:yp)(hb:envs.x=some b):∃j vs,(U++[a])[j]?=some b/\upd O.hp O.nx o j=.exc vs:=by obtain⟨j,vs,h1,h2⟩:=H.xs b hb;have hl:=(y2.mp h1).1;exact⟨j,vs,by rw[AD hl]; exact h1,by rw[upd,ym (by rw[<-H.len]; exact yA hl)]; exact h2⟩
theorem a9.write{t:Nat}(H:a9 S envs U O s)(hi:U[i]?=some a)(hs:zY a s.heap h')(ho:dN S.prog S.w S.P U h' a o)(hf:∀vs,¬eS (O.hp i) vs) :
  a9 S envs U {O with hp:=upd O.hp i o} {s with heap:=h',toks:=t}:=by
 have ham:a∈U:=zy hi;have hk:bq U s.heap h':=λb ob e hn Z=>(hs.2 b (λq=>hn (q▸ham))).trans e;constructor
 ·intro b ob e;exact(hs.2 b (λq=>by rw[q,H.above a ham]at e; exact nn e)).trans (H.base b ob e)
 ·exact H.gens
 ·exact H.os
 ·exact H.len
 ·exact H.nodup
 ·exact H.above
 ·intro j b hj;by_cases hij:j=i
  ·subst hij;rw[hi]at hj; (have h9:=si hj; clear hj; subst h9);show dN _ _ _ _ _ _ (upd O.hp j o j);rw[upd,yo rfl]; exact ho
  ·have hne:b≠a:=λq=>hij (H.inj (q▸hj) hi);show dN _ _ _ _ _ _ (upd O.hp i o j);rw[upd,ym hij];exact(H.objs j b hj).mono hk H.HD (.refl ..) (hs.2 b hne)
 ·intro e he;refine hdZ λGG hGG =>?_;obtain⟨hk',L,ob,es,ep,h1,h2,h4,h5,h6⟩:=H.IK e he;refine hGG ?_;exact⟨hk',L,ob,es,ep,h1,(hs.2 L (λq=>h6 (q▸ham))).trans h2,h4,h5,h6⟩
 ·exact λb hb=>H.U1 hf b hb
theorem pX(hs:zY a h h')(ha:∃o,h'.get? a=some o):ib h h':=λb o e=>by
 by_cases q:b=a
 ·rw[q]; exact ha
 ·exact⟨o,(hs.2 b q).trans e⟩
theorem eZ.sameBut(hs:zY a h h')(ha:a∈U\/a∈own)(ha':∃o,h'.get? a=some o):eZ U own h h' :=
 ⟨pX hs ha',λb o e h1 h2=>⟨o,(hs.2 b (λq=>ha.elim (λm=>h1 (q▸m)) λm=>h2 (q▸m))).trans e,.refl _⟩⟩
theorem HB.write{t:Nat}(N:HB S envs env own cx U O s)(hi:U[i]?=some a)(hs:zY a s.heap h')(ho:dN S.prog S.w S.P U h' a o)
  (hv:∀kvs v,O.hp i=.dict kvs v->∃kvs',o=.dict kvs' (v+1)) (hf:∀vs,¬eS (O.hp i) vs) :
  HB S envs env own cx U {O with hp:=upd O.hp i o} {s with heap:=h',toks:=t}/\Ext own U O s U {O with hp:=upd O.hp i o} {s with heap:=h',toks:=t}:=by
 have ham:a∈U:=zy hi;have ha':∃o,h'.get? a=some o:=ho.cls.imp λZ z=>z.1;refine⟨⟨N.H.write hi hs ho hf,N.F.ext (eZ.sameBut hs (.inl ham) ha') N.H.HD (.refl ..)⟩,eZ.sameBut hs (.inl ham) ha',.refl ..,λj b kvs v hj e =>?_,λj b vs hj e =>?_⟩
 ·by_cases hij:j=i
  ·subst hij;obtain⟨kvs',rfl⟩:=hv kvs v e;exact⟨kvs',v+1,by simp[upd],by lia,λq=>yD q (by lia)⟩
  ·have hne:b≠a:=λq=>hij (N.H.inj (q▸hj) hi);exact⟨kvs,v,by simp[upd,hij,e],yF _,λZ=>⟨rfl,hs.2 b hne⟩⟩
 ·have hij:j≠i:=λq=>hf vs (q▸e);have hne:b≠a:=λq=>hij (N.H.inj (q▸hj) hi);exact⟨by simpa[upd,hij]using e,hs.2 b hne⟩
theorem a9.alloc(H:a9 S envs U O s)(x:aF s s')(ha:s.heap.get? a=none)(ho:dN S.prog S.w S.P (U++[a]) s'.heap a o) :
  a9 S envs (U++[a]) {O with hp:=upd O.hp O.nx o,nx:=O.nx+1} s':=by
 have hn:a∉U:=λhm=>by obtain⟨o,e,_⟩:=H.HD a hm; rw[ha]at e; exact nn e
 have hx:c8 U (U++[a]) s.heap:=⟨⟨[a],rfl,by simpa using ha⟩⟩;have H':=H.quiet x;constructor
 ·exact H'.base
 ·exact H'.gens
 ·exact H'.os
 ·simp[H.len]
 ·rw[z6];exact⟨H.nodup,by simp,λb hb c hc=>by simp at hc; subst hc; exact λq=>hn (q▸hb)⟩
 ·intro b hb;rcases y3.mp hb with hb|hb
  ·exact H.above b hb
  ·simp at hb; subst hb;cases q:S.h₀.get? b with
   |none=>rfl
   |some o=>have:=H.base b o q; rw[ha]at this; exact nn this
 ·intro j b hj;by_cases hjl:j<U.length
  ·rw[AD hjl]at hj;have hne:j≠O.nx:=by rw[<-H.len]; exact yA (by assumption)
   show dN _ _ _ _ _ _ (upd O.hp O.nx o j);rw[upd,ym hne];obtain⟨ob,e,_⟩:=(H.objs j b hj).cls;exact(H.objs j b hj).mono (x.keeps U) H.HD hx.x ((x.keep b ob e).trans e.symm)
  ·rw[A9 (by exact zr (by assumption))]at hj;have hj0:j-U.length=0:=by
    rcases Nat.eq_zero_or_pos (j-U.length)with q|q
    ·exact q
    ·rw[Br (show [a].length<=_ from q)]at hj; exact nn hj
   rw[hj0]at hj; simp at hj; subst hj;have hje:j=O.nx:=by rw[<-H.len]; exact Be (Nat.le_of_sub_eq_zero hj0) (zr hjl)
   show dN _ _ _ _ _ _ (upd O.hp O.nx o j);rw[upd,yo hje]; exact ho
 ·intro e he;refine hdZ λGG hGG =>?_;obtain⟨hk,L,ob,es,ep,h1,h2,h4,h5,h6⟩:=H'.IK e he;obtain⟨_,L',ob',_,_,h1',h2',_⟩:=H.IK e he;refine hGG ?_;rw[h1]at h1'; (have h9:=si h1'; clear h1'; subst h9);exact⟨hk,L,ob,es,ep,h1,h2,h4,h5,hx.Ii h6 h2'⟩
 ·exact H.U2
theorem HB.alloc(N:HB S envs env own cx U O s)(x:aF s s')(ha:s.heap.get? a=none)(ho:dN S.prog S.w S.P (U++[a]) s'.heap a o) :
  HB S envs env own cx (U++[a]) {O with hp:=upd O.hp O.nx o,nx:=O.nx+1} s'/\Ext own U O s (U++[a]) {O with hp:=upd O.hp O.nx o,nx:=O.nx+1} s':=by
 have hx:c8 U (U++[a]) s.heap:=⟨⟨[a],rfl,by simpa using ha⟩⟩;refine⟨⟨N.H.alloc x ha ho,N.F.ext (x.OR ..) N.H.HD hx.x⟩,x.OR ..,hx,λi b kvs v hi e =>?_,λi b vs hi e =>?_⟩
 ·have hne:i≠O.nx:=by obtain⟨hl,_⟩:=y2.mp hi;rw[<-N.H.len]; exact yA (by assumption)
  obtain⟨ob,eb,_⟩:=(N.H.objs i b hi).cls;exact⟨kvs,v,by simp[upd,hne,e],yF _,λZ=>⟨rfl,(x.keep b ob eb).trans eb.symm⟩⟩
 ·have hne:i≠O.nx:=by obtain⟨hl,_⟩:=y2.mp hi;rw[<-N.H.len]; exact yA (by assumption)
  obtain⟨ob,eb,_⟩:=(N.H.objs i b hi).cls;exact⟨by simpa[upd,hne]using e,(x.keep b ob eb).trans eb.symm⟩
noncomputable def ai(loc:Str->yl AV)(x:Str)(v:yl AV):Str->yl AV:=λy=>if y=x then v else loc y
theorem a9.QX{t:Nat}{loc:Str->yl AV}(H:a9 S envs U O s)(F:gV env own cx U O.loc s.heap)(ha:a∈own)(hb:S.h₀.get? a=none)(hs:zY a s.heap h')(ha':∃o,h'.get? a=some o)
  (hf:∀o,s.heap.get? a=some o->(∃es ep,o.data=.dict es ep)->∃o' es ep,h'.get? a=some o'/\o'.data=.dict es ep) :
  a9 S envs U {O with loc:=loc} {s with heap:=h',toks:=t}:=by
 have hn:a∉U:=(F.HZ a ha).1;have hk:bq U s.heap h':=(eZ.sameBut hs (.inr ha) ha').keeps F.IY;constructor
 ·intro b ob e;exact(hs.2 b (λq=>by rw[q,hb]at e; exact nn e)).trans (H.base b ob e)
 ·exact H.gens
 ·exact H.os
 ·exact H.len
 ·exact H.nodup
 ·exact H.above
 ·intro j b hj;exact(H.objs j b hj).mono hk H.HD (.refl ..) (hs.2 b (λq=>hn (q▸zy hj)))
 ·intro e he;refine hdZ λGG hGG =>?_;obtain⟨hk',L,ob,es,ep,h1,h2,h4,h5,h6⟩:=H.IK e he;refine hGG ?_;by_cases hL:L=a
  ·subst hL;refine hdZ λGG hGG =>?_;obtain⟨o',es',ep',e1,e3⟩:=hf ob h2 ⟨_,_,h4⟩;refine hGG ?_;exact⟨hk',L,o',es',ep',h1,e1,e3,h5,h6⟩
  ·exact⟨hk',L,ob,es,ep,h1,(hs.2 L hL).trans h2,h4,h5,h6⟩
 ·exact H.xs
theorem a9.JB{t:Nat}{loc:Str->yl AV}(H:a9 S envs U O s)(ha:a∈own)(hn:a∉U)(hs:zY a s.heap h')(ha':∃o,h'.get? a=some o) :
  Ext own U O s U {O with loc:=loc} {s with heap:=h',toks:=t} :=
 ⟨eZ.sameBut hs (.inr ha) ha',.refl ..,λi b kvs v hi e=>⟨kvs,v,e,yF _,λZ=>⟨rfl,hs.2 b (λq=>hn (q▸zy hi))⟩⟩,λi b vs hi e=>⟨e,hs.2 b (λq=>hn (q▸zy hi))⟩⟩
structure At(S:au)(A:zX)(envs:Frs)(env:Env)(own:yk yp)(cx:Cx)(d:Nat):Prop where
 Ik:VT S env cx
 hi:∀a∈own,S.h₀.get? a=none
 fr:A.frames=some envs.l
 hd:cx.HR=false->A.handled=none
 hx:cx.xn=true->∃b,A.handled=some (.ref b)/\envs.x=some b
 So:A.depth+20*(d+1)<=900
 un:A.units+100*(d+1)<=9000
 Qg:∃e outer,envs.l=e::outer/\e.frame=env.frame
theorem gV.Jj{loc:Str->yl AV}{x:Str}{v:yl AV}{c:yl yt}{m m':Str->yl yt}(F:gV env own cx U loc h)(ok:fw U h)(hx:kindOf cx x=some .local)
  (hm:h.Ns env.locals m) (hr:∀y,kindOf cx y=some .local->iQ U h (loc y) (m y)) (hm':h'.Ns env.locals m') (he:∀y,m' y=if y=x then c else m y) (hs:zY env.locals h h') (hv:iQ U h v c) :
  gV env own cx U (ai loc x v) h':=by
 have hk:bq U h h':=(eZ.sameBut hs (.inr F.HW) (uX hm')).keeps F.IY;constructor
 ·refine⟨m',hm',λy hy =>?_⟩;rw[he y];by_cases e:y=x
  ·subst e; simp only[ai,yo]; exact hv.mono hk ok (.refl ..)
  ·simp only[ai,ym e]; exact(hr y hy).mono hk ok (.refl ..)
 ·intro y hy;obtain⟨a,c',h1,h2,h3,h4⟩:=F.cells y hy;have hyx:y≠x:=λq=>by rw[q,hx]at hy; cases hy
  have hne:a≠env.locals:=λq=>by obtain⟨o,es,ep,e1,e2,_⟩:=hm;obtain⟨o',e3,e4⟩:=h3;rw[q,e1]at e3; (have h9:=si e3; clear e3; subst h9); rw[e2]at e4; cases e4
  exact⟨a,c',h1,h2,h3.sameBut hs hne,by simp only[ai,ym hyx]; exact h4.mono hk ok (.refl ..)⟩
 ·intro y hy;obtain⟨a,c',h1,h2,h3,h4⟩:=F.frees y hy;exact⟨a,c',h1,h2,h3.sameBut hs (λq=>h2 (q▸F.HW)),h4.mono hk ok (.refl ..)⟩
 ·intro a ha;obtain⟨h1,o,e,ho⟩:=F.HZ a ha;refine⟨h1,?_⟩;by_cases q:a=env.locals
  ·subst q;obtain⟨o',es,ep,e',d',_⟩:=hm';exact⟨o',e',.inl ⟨es,ep,d'⟩⟩
  ·exact⟨o,(hs.2 a q).trans e,ho⟩
 ·exact F.HW
 ·exact F.apart
theorem gV.setCell{loc:Str->yl AV}{x:Str}{v:yl AV}{c:yl yt}(F:gV env own cx U loc h)(ok:fw U h)(hx:kindOf cx x=some .cell)
  (ha:env.cells.lookup x=some a) (hao:a∈own) (hc₀:∃c₀,h.IsCell a c₀) (hc:h'.IsCell a c) (hs:zY a h h') (hv:bW U h v c) :
  gV env own cx U (ai loc x v) h':=by
 have hk:bq U h h':=(eZ.sameBut hs (.inr hao) (Bm (λZ z=>z.1) hc)).keeps F.IY;have hL:env.locals≠a:=λq=>by obtain⟨m,⟨o,es,ep,e1,e2,_⟩,_⟩:=F.ns;obtain⟨c₀,o',e3,e4⟩:=hc₀;rw[<-q,e1]at e3; (have h9:=si e3; clear e3; subst h9); rw[e2]at e4; cases e4
 constructor
 ·obtain⟨m,hm,hr⟩:=F.ns;refine⟨m,hm.sameBut hs hL,λy hy =>?_⟩;have hyx:y≠x:=λq=>by rw[q,hx]at hy; cases hy
  simp only[ai,ym hyx]; exact(hr y hy).mono hk ok (.refl ..)
 ·intro y hy;obtain⟨b,c',h1,h2,h3,h4⟩:=F.cells y hy;by_cases e:y=x
  ·subst e;rw[ha]at h1; (have h9:=si h1; clear h1; subst h9);exact⟨a,c,ha,hao,hc,by simp only[ai,yo]; exact hv.mono hk ok (.refl ..)⟩
  ·have hne:b≠a:=λq=>e (F.apart y x a hy hx (q▸h1) ha);exact⟨b,c',h1,h2,h3.sameBut hs hne,by simp only[ai,ym e]; exact h4.mono hk ok (.refl ..)⟩
 ·intro y hy;obtain⟨b,c',h1,h2,h3,h4⟩:=F.frees y hy;exact⟨b,c',h1,h2,h3.sameBut hs (λq=>h2 (q▸hao)),h4.mono hk ok (.refl ..)⟩
 ·intro b hb;obtain⟨h1,o,e,ho⟩:=F.HZ b hb;refine⟨h1,?_⟩;by_cases q:b=a
  ·subst q;obtain⟨o',e',d'⟩:=hc;exact⟨o',e',.inr ⟨c,d'⟩⟩
  ·exact⟨o,(hs.2 b q).trans e,ho⟩
 ·exact F.HW
 ·exact F.apart
variable{A:zX}{d:Nat}
variable{E:yt->yy->Prop}
theorem eU{x:Str}{Q:yu->yy->Prop}(C:At S A envs env own cx d)(N:HB S envs env own cx U O s)(hk:kindOf cx x=some .local\/kindOf cx x=some .cell)(hv:aq U s.heap v c)
  (h:∀s',HB S envs env own cx U {O with loc:=ai O.loc x (some v)} s'->Ext own U O s U {O with loc:=ai O.loc x (some v)} s'->Q () s') :
  yq (yw S.prog S.w) A (storeName env x c) Q E s:=by
 rcases hk with hk|hk
 ·obtain⟨m,hm,hr⟩:=N.F.ns;refine Hz (C.Ik.loc x hk) hm (λh' hn hs=>h _ ⟨?_,?_⟩ ?_) (by rw[C.Ik.kind]; rfl)
  ·exact N.H.QX N.F N.F.HW (C.hi _ N.F.HW) hs (uX hn) λo Z Z=>ns_ex hn
  ·exact N.F.Jj N.H.HD hk hm hr hn (λy=>rfl) hs (v:=some v) (c:=some c) hv
  ·exact N.H.JB N.F.HW (N.F.HZ _ N.F.HW).1 hs (uX hn)
 ·obtain⟨a,c',h1,h2,h3,h4⟩:=N.F.cells x hk;refine wpAny_storeName_cell C.Ik.kind (C.Ik.cell x hk) h1 h3 (λh' hc hs =>?_);have e:({s with heap:=h'}:yy)={s with heap:=h',toks:=s.toks}:=rfl;rw[e];refine h _ ⟨?_,?_⟩ ?_
  ·exact N.H.QX N.F h2 (C.hi _ h2) hs (Bm (λZ z=>z.1) hc) λo eo z=>by obtain⟨es,ep,q⟩:=z;obtain⟨o',e',d'⟩:=h3; rw[eo]at e'; (have h9:=si e'; clear e'; subst h9); rw[q]at d'; cases d'
  ·exact N.F.setCell N.H.HD hk h1 h2 ⟨c',h3⟩ hc hs (v:=some v) (c:=some c) hv
  ·exact N.H.JB h2 (N.F.HZ _ h2).1 hs (Bm (λZ z=>z.1) hc)
noncomputable abbrev VR(α β:Type):=yk yp->yC->β->α->Prop
inductive HG(S:au)(envs:Frs)(env:Env)(own:yk yp)(cx:Cx){α β:Type}(R:VR α β)(U:yk yp)(O:St)(s:yy)(r:Res β)(c:α)(s':yy):Prop
 |mk (v:β) (O':St) (U':yk yp) (e:r=.ok v O') (hR:R U' s'.heap v c) (N:HB S envs env own cx U' O' s') (X:Ext own U O s U' O' s')
inductive JK(S:au)(U:yk yp)(hb h:yC)(a:yp)(cls:yt)(t:yp)(v1:yt):Prop
 |mk (o:Obj) (fs:yM yt) (h0:S.h₀.get? a=none) (hn:a∉U) (hb0:hb.get? a=none) (ho:h.get? a=some o) (hc:o.cls=cls) (hd:o.data=.fields fs) (f0:fs[0]?=some (.ref t)) (f1:fs[1]?=some v1) (f2:fs[2]?=some .none)
inductive sY(S:au)(U:yk yp)(hb h:yC)(a tb:yp)(v3:yt):Prop
 |mk (o:Obj) (ts:yM yt) (hne:tb≠a) (h0:S.h₀.get? tb=none) (hn:tb∉U) (hb0:hb.get? tb=none) (ho:h.get? tb=some o) (hc:o.cls=.type "traceback") (hd:o.data=.fields ts) (f3:ts[3]?=some v3)
noncomputable def yj(S:au)(U:yk yp)(hb h:yC):AX->yt->Prop
 |.stop,e=>∃a t,e=.ref a/\JK S U hb h a (.type "StopIteration") t .none
 |.cycle vs,e=>∃a t items v1,e=.ref a/\JK S U hb h a (.ref S.P.CE) t v1/\(v1=.none\/∃tb,v1=.ref tb/\sY S U hb h a tb .none)/\t∉U/\h.IsTuple t items/\av U h vs items.toList
variable{hb:yC}
theorem yj.back{h0:yC}{x:AX}{e:yt}(l:ib h0 hb)(r:yj S U hb h x e):yj S U h0 h x e:=by
 cases x with
 |stop =>obtain⟨a,t,rfl,⟨o,fs,p1,p2,p3,p4,p5,p6,p7,p8,p9⟩⟩:=r;exact⟨a,t,rfl,⟨o,fs,p1,p2,l.none p3,p4,p5,p6,p7,p8,p9⟩⟩
 |cycle vs =>obtain⟨a,t,items,v1,rfl,⟨o,fs,p1,p2,p3,p4,p5,p6,p7,p8,p9⟩,htb,r2⟩:=r;refine⟨a,t,items,v1,rfl,⟨o,fs,p1,p2,l.none p3,p4,p5,p6,p7,p8,p9⟩,htb.imp id λz =>?_,r2⟩;obtain⟨tb,e,q⟩:=z;refine⟨tb,e,?_⟩;obtain⟨o',ts,q1,q2,q3,q4,q5,q6,q7,q8⟩:=q;exact⟨o',ts,q1,q2,q3,l.none q4,q5,q6,q7,q8⟩
inductive H3(S:au)(envs:Frs)(env:Env)(own:yk yp)(cx:Cx){β:Type}(U:yk yp)(O:St)(s:yy)(r:Res β)(e:yt)(s':yy):Prop
 |mk (x:AX) (O':St) (U':yk yp) (h:r=.err x O') (hx:yj S U' s.heap s'.heap x e) (N:HB S envs env own cx U' O' s') (X:Ext own U O s U' O' s')
noncomputable def HN(S:au)(A:zX)(envs:Frs)(env:Env)(own:yk yp)(cx:Cx)(R:VR α β)(t:Sem α)(m:M β):Prop :=
 ∀U O s r,m O=some r->HB S envs env own cx U O s->yq (yw S.prog S.w) A t (HG S envs env own cx R U O s r) (H3 S envs env own cx U O s r) s
theorem HG.back{R:VR α β}{r:Res β}{c:α}(x:Ext own U O s U' O' s')(h:HG S envs env own cx R U' O' s' r c s''):HG S envs env own cx R U O s r c s'':=by obtain⟨v,σ₂,am₂,e,hR,hN,hX⟩:=h;exact⟨v,σ₂,am₂,e,hR,hN,x.trans hX⟩
theorem H3.back{r:Res β}(x:Ext own U O s U' O' s')(h:H3 S envs env own cx U' O' s' r c s''):H3 S envs env own cx U O s r c s'':=by obtain⟨v,σ₂,am₂,e,hR,hN,hX⟩:=h;exact⟨v,σ₂,am₂,e,hR.back x.heap.live,hN,x.trans hX⟩
variable{γ:Type}
theorem HN.seq{R:VR α β}{t:Sem α}{m:M β}{g:β->M γ}{r:Res γ}{Q:α->yy->Prop}
  (h:HN S A envs env own cx R t m) (hr:M.bind m g O=some r) (N:HB S envs env own cx U O s)
  (hQ:∀v c U' O' s',R U' s'.heap v c->HB S envs env own cx U' O' s'->Ext own U O s U' O' s'->g v O'=some r->Q c s')
  (hE:∀e s',H3 S envs env own cx U O s r e s'->E e s'):yq (yw S.prog S.w) A t Q E s:=by
 unfold M.bind at hr;cases hm:m O with
 |none=>rw[hm]at hr; exact nn hr
 |some q =>
  rw[hm]at hr;refine yO (h U O s q hm N) (λc s' hc =>?_) (λe s' he =>?_)
  ·obtain⟨v,O',U',rfl,hR,hN,hX⟩:=hc;exact hQ v c U' O' s' hR hN hX hr
  ·obtain⟨x,O',U',rfl,hR,hN,hX⟩:=he;refine hE e s' ⟨x,O',U',?_,hR,hN,hX⟩;simpa using hr.symm
theorem HN.last{R:VR α β}{t:Sem α}{m:M β}{r:Res β}{Q:α->yy->Prop}
  (h:HN S A envs env own cx R t m) (hr:m O=some r) (N:HB S envs env own cx U O s)
  (hQ:∀c s',HG S envs env own cx R U O s r c s'->Q c s') (hE:∀e s',H3 S envs env own cx U O s r e s'->E e s'):yq (yw S.prog S.w) A t Q E s :=
 yO (h U O s r hr N) hQ hE
theorem wq{M:Model}{t t':Sem α}{Q:α->yy->Prop}(e:t=t')(h:yq M A t' Q E s):yq M A t Q E s:=BE (yI (yq M A · Q E s) e) h
theorem d4{M:Model}{t:Sem α}{Q:α->yy->Prop}(h:∀K:α->yy->Prop,(∀v s',Q v s'->K v s')->yq M A t K E s):yq M A t Q E s:=h Q λZ Z h=>h
variable{n:Nat}
theorem j2{vs:yk α}(h:n+1<=vs.length):∃u,vs[vs.length-(n+1)]?=some u/\vs.drop (vs.length-(n+1))=u::vs.drop (vs.length-n)/\vs.length-(n+1)+1=vs.length-n:=by have hlt:vs.length-(n+1)<vs.length:=DO (yv (Bh n) h) (Bh n);have e:vs.length-(n+1)+1=vs.length-n:=AN (DP h);exact⟨_,zN hlt,e▸Dv hlt,e⟩
theorem aq.ofInt{i:Int}(x:aq U h v c)(e:v.int?=some i):∃t,c=.int i t:=by have:=AV.JX e;subst this; exact x
theorem aq.ofStr{i:Str}(x:aq U h v c)(e:v.Iz=some i):∃t,c=.str i t:=by have:=AV.JO e;subst this; exact x
theorem aq.ofBytes{i:yM yQ}(x:aq U h v c)(e:v.HT=some i):∃t,c=.bytes i t:=by have:=AV.Jp e;subst this; exact x
theorem aq.ofBool{i:yx}(x:aq U h v c)(e:v.bool?=some i):c=.bool i:=by have:=AV.JC e;subst this; exact x
theorem aq.P6{i:yL}(x:aq U h v c)(e:v.J4=some i):c=.type i:=by have:=AV.JN e;subst this; exact x
theorem aq.Rg(x:aq U h v c)(e:v.Ja=true):c=.none:=by have:=AV.IW e;subst this; exact x
theorem aq.I9(x:aq U h v c)(e:v.Iy=some vs):∃a items,c=.ref a/\h.IsTuple a items/\a∉U/\av U h vs items.toList:=by have:=AV.I7 e;subst this; exact x
theorem aq.Jk(x:aq U h v c)(e:v.Jn=some vs):∃a items,c=.ref a/\h.IsList a items/\a∉U/\av U h vs items.toList:=by have:=AV.JU e;subst this; exact x
theorem aq.H4(x:aq U h v c)(e:v.HO=some i):∃a,c=.ref a/\U[i]?=some a:=by have:=AV.Ib e;subst this; exact x
variable{Q:yt->yy->Prop}
theorem tB{a:Int}(h:bh a=true):a.natAbs<2 ^ 200:=by
 unfold bh Pn at h;simp only[zg,ze]at h;obtain⟨h1,h2⟩:=h;have e:((2 ^ 200:Nat):Int)=(2:Int) ^ 200:=by rfl
 rcases Int.le_total 0 a with h0|h0
 ·exact Av.mp (by rw[FX h0,e]; exact h2)
 ·exact Av.mp (by rw[F0 h0,e]; exact Int.neg_lt_of_neg_lt h1)
theorem lI{a:Int}(h:bh a=true):a.natAbs.log2<200:=by
 have h1:=tB h;by_cases h0:a.natAbs=0
 ·rw[h0]; decide
 ·exact(Nat.log2_lt h0).mpr h1
theorem gr{a:Int}(h:bh a=true):Ee a<=201:=by have:=lI h;unfold Ee;split<;>(first|exact zc _|lia)
theorem S7{a b:Int}(ha:bh a=true)(hb:bh b=true):IntMulOk a b:=by
 have h1:=gr ha;have h2:=gr hb;unfold IntMulOk FD;intro h;simp only[zg,ze]at h;have:(bitsLine:Int)=134217728:=by decide
 lia
theorem SX{a b:Int}(hb:bh b=true):Builtin.divisionGoesByPylong a b=false:=PyProof.noPylong_of_log2 (by have:=lI hb; lia)
variable{p:Prop}
set_option tactic.hygienic true in
theorem aZ[A1 p]{a b:α}(h:(if p then some a else none)=some b):p/\a=b:=by
 by_cases hp:p
 ·rw[yo hp]at h; exact⟨hp,Ag h⟩
 ·rw[ym hp]at h; exact nn h
variable{op:z7}
theorem xo{a b v:Int}{t u:Tok}(hv:ba op a b=some v)(h:∀s' t',aF s s'->Q (.int v t') s') :
  yq (yw prog w) A (binaryOp op (.int a t) (.int b u)) Q E s:=by
 cases op with
 |Add=>(have h9:=si hv; clear hv; subst h9); exact add_int (h _ _ (.tok ..))
 |Sub=>(have h9:=si hv; clear hv; subst h9); exact sub_int (h _ _ (.tok ..))
 |Mult =>obtain⟨hc,rfl⟩:=aZ hv;exact mul_int (h _ _ (.tok ..)) (S7 (yS.mp hc).1 (yS.mp hc).2)
 |FloorDiv =>obtain⟨hc,rfl⟩:=aZ hv;obtain⟨h1,h2⟩:=yS.mp hc;exact AutoIntOps.floordiv_1 (by simpa using h1) (by rw[SX h2]; decide) (h _ _ (.tok ..))
 |Mod =>obtain⟨hc,rfl⟩:=aZ hv;exact mod_int' (by simpa using hc) (h _ _ (.tok ..))
 |Pow =>
  obtain⟨hc,rfl⟩:=aZ hv;simp only[zg,ze,y5]at hc;obtain⟨⟨rfl,h0⟩,h1⟩:=hc;by_cases hb:b=0
  ·subst hb; exact AutoIntOps.pow_0 (by decide) (by decide) (h _ _ (.tok ..))
  ·refine AutoIntOps.pow_4 h0 (by simpa using hb) (by decide) (by decide) ?_ (h _ _ (.tok ..));unfold FD;have e:(Ee 2:Int)=2:=by decide
   have:(bitsLine:Int)=134217728:=by decide
   rw[e]; simp only[gt_iff_lt,ze]; lia
 |LShift =>obtain⟨hc,rfl⟩:=aZ hv;simp only[zg,ze]at hc;refine lshift_int hc.1.2 ?_ (h _ _ (.tok ..));have:=gr hc.1.1;lia
 |RShift =>obtain⟨hc,rfl⟩:=aZ hv;exact rshift_int (by simpa using hc) (h _ _ (.tok ..))
 |BitAnd=>(have h9:=si hv; clear hv; subst h9); exact and_int (h _ _ (.tok ..))
 |BitOr=>(have h9:=si hv; clear hv; subst h9); exact or_int (h _ _ (.tok ..))
 |_=>exact nn hv
variable{l:yp}{xs ys:yM yt}
theorem nU{b:yp}(hl:s.heap.IsList l xs)(hb:s.heap.IsList b ys)(hz:xs.size+ys.size<=sizeLine)
  (h:Q (.ref s.heap.objs.size) {s with heap:=s.heap.push {cls:=.type "list",data:=.seq (xs++ys)}}) :
  yq (yw prog w) A (binaryOp .Add (.ref l) (.ref b)) Q E s:=by
 refine hdZ λGG hGG =>?_;obtain⟨⟨cls,dd,data,sl⟩,ho,hc,n,hd⟩:=hl;obtain⟨⟨cls2,dd2,data2,sl2⟩,ho2,hc2,n2,hd2⟩:=hb;refine hGG ?_;simp only at hc hd hc2 hd2;subst hc hd hc2 hd2;exact concat_meets ⟨_,ho,rfl⟩ ⟨_,ho2,rfl⟩ noFill_list_add seq_list_add PySem.F.slot_list_add PySem.F.entry_list_add (PySem.F.args_list_add_2 _ _) (list_addW l b xs ys n n2 dd dd2 sl sl2 hz) ⟨ho,ho2,h⟩
theorem aq.Je(ok:fw U s.heap)(hlt:∀a∈U,a<s.heap.objs.size)(hv:av U s.heap vs xs.toList) :
  aq U (s.heap.push {cls:=.type "list",data:=.seq xs n}) (.lst vs) (.ref s.heap.objs.size) :=
 ⟨_,xs,rfl,⟨_,y6 _ rfl,rfl,n,rfl⟩,λhm=>zt _ (hlt _ hm),hv.mono ((aF.push s _ 0).keeps U) ok (.refl ..)⟩
theorem aq.Jd(ok:fw U s.heap)(hv:av U s.heap vs xs.toList) :
  aq U (s.heap.push {cls:=.type "tuple",data:=.seq xs n}) (.tup vs) (.ref s.heap.objs.size) :=
 ⟨_,xs,rfl,⟨_,y6 _ rfl,rfl,n,rfl⟩,λhm=>(by
  obtain⟨o,e,_⟩:=ok _ hm;rw[zm (yF _)]at e; exact nn e),hv.mono ((aF.push s _ 0).keeps U) ok (.refl ..)⟩
theorem bK:HC<=sizeLine:=by decide
variable{b:AV}{ca cb:yt}
set_option tactic.hygienic true in
theorem o9{a:AV}(ok:fw U s.heap)(hlt:∀a∈U,a<s.heap.objs.size)(hv:binOp op a b=some v)(ha:aq U s.heap a ca)(hb:aq U s.heap b cb)
  (h:∀c s',aF s s'->aq U s'.heap v c->Q c s'):yq (yw prog w) A (binaryOp op ca cb) Q E s:=by
 unfold binOp at hv;split at hv
 ·rename_i x hx;split at hv
  ·rename_i y hy;refine(let QQ:=_; let EE:=_; (?_:yq _ _ _ QQ EE _));obtain⟨i,hi,rfl⟩:=y4.mp hv;obtain⟨t,rfl⟩:=ha.ofInt hx;obtain⟨u,rfl⟩:=hb.ofInt hy;exact xo hi λs' t' q=>h _ _ q ⟨t',rfl⟩
  ·exact nn hv
 ·split at hv
  ·rename_i x hx;obtain⟨t,rfl⟩:=ha.ofBytes hx;split at hv
   ·rename_i y hy;obtain⟨u,rfl⟩:=hb.ofBytes hy;obtain⟨hc,e⟩:=aZ hv;subst e;simp only[zg,ze,y5]at hc;obtain⟨rfl,hz⟩:=hc;exact KBy.add_bytes (yn hz bK) λt' k=>h _ _ (.tok ..) ⟨t',rfl⟩
   ·exact nn hv
  ·obtain⟨x,hx,hv⟩:=zd.mp hv;obtain⟨y,hy,hv⟩:=zd.mp hv;obtain⟨t,rfl⟩:=ha.ofStr hx;obtain⟨u,rfl⟩:=hb.ofStr hy;obtain⟨hc,e⟩:=aZ hv;subst e;simp only[zg,ze,y5]at hc;obtain⟨rfl,hz⟩:=hc;exact SB.add (λt' k=>h _ _ (.tok ..) ⟨t',rfl⟩) (yn hz bK)
set_option tactic.hygienic true in
theorem aP(H:a9 S envs U O s)(hv:aq U s.heap v c)(hi:items? O.hp O.nx v=some vs) :
  ∃a xs,c=.ref a/\s.heap.IsList a xs/\av U s.heap vs xs.toList:=by
 unfold items? at hi;split at hi
 ·rename_i us hu
  (have h9:=si hi; clear hi; subst h9)
  refine hdZ λGG hGG =>?_;obtain⟨a,xs,e,h1,_,h2⟩:=hv.Jk hu;refine hGG ?_;exact⟨a,xs,e,h1,h2⟩
 ·refine hdZ λGG hGG =>?_;obtain⟨i,e,hi⟩:=zd.mp hi;obtain⟨a,e2,ha⟩:=hv.H4 e;refine hGG ?_;by_cases hlt:i<O.nx
  ·rw[yo hlt]at hi;refine hdZ λGG hGG =>?_;obtain⟨a',h1,_,h3⟩:=H.at hlt;refine hGG ?_;rw[ha]at h1; (have h9:=si h1; clear h1; subst h9);rcases AO.IJ hi with ho|ho<;>rw[ho]at h3<;>obtain⟨xs,n,h4,h5⟩:=h3<;>exact⟨a,xs,e2,h4.isList,h5⟩
  ·rw[ym hlt]at hi; exact nn hi
set_option tactic.hygienic true in
theorem xi(H:a9 S envs U O s){a:AV}(hv:gJ O.hp O.nx op a b=some v)(ha:aq U s.heap a ca)(hb:aq U s.heap b cb)
  (h:∀c s',aF s s'->aq U s'.heap v c->Q c s'):yq (yw S.prog S.w) A (binaryOp op ca cb) Q E s:=by
 unfold gJ at hv;cases hu:items? O.hp O.nx a with
 |none=>rw[hu]at hv; exact o9 H.HD (λZ hx=>H.lt hx) hv ha hb h
 |some us =>
 cases hw:items? O.hp O.nx b with
 |none=>rw[hu,hw]at hv; exact o9 H.HD (λZ hx=>H.lt hx) hv ha hb h
 |some ws =>
 rw[hu,hw]at hv;replace hv:(if(op==.Add&&decide (us.length+ws.length<=HC))=true then some (AV.lst (us++ws))else none)=some v:=hv;split at hv
 ·rename_i hc
  (have h9:=si hv; clear hv; subst h9)
  refine hdZ λGG hGG =>?_;obtain⟨l1,xs,rfl,hl1,hv1⟩:=aP H ha hu;obtain⟨l2,ys,rfl,hl2,hv2⟩:=aP H hb hw;simp only[zg,ze,y5]at hc;obtain⟨rfl,hz⟩:=hc;refine hGG ?_;rw[hv1.length,hv2.length]at hz;refine nU hl1 hl2 (yn (by simpa using hz) bK) (h _ _ (.push ..) ?_);refine aq.Je H.HD (λZ hx=>H.lt hx) ?_;rw[C6]; exact hv1.append hv2
 ·exact nn hv
variable{is:yk Int}
theorem eW(x:A8 cs is):ReadsAll h cs (is.map AH) []:=by
 induction x with
 |nil=>exact .nil
 |cons n t r ih=>exact .cons (.int n t) ih
theorem dJ(is:yk Int):DU (is.map AH)=true:=by
 induction is with
 |nil=>rfl
 |cons i is ih=>simp[DU,Hk,ih]
theorem eP:∀(is js:yk Int),Cn (is.map AH) (js.map AH)=(is==js)
 |[],[]=>rfl
 |[],_::_=>rfl
 |_::_,[]=>rfl
 |i::is,j::js=>by simp[Cn,PyData.eqv,eP is js]
variable{hp:Nat->AO}{nx:Nat}
theorem xm{is:yk (yk Int)}(hi:cT hp nx (v::vs)=some is):∃us js ks,items? hp nx v=some us/\bz us=some js/\cT hp nx vs=some ks/\js::ks=is:=by obtain⟨us,e1,hi⟩:=zd.mp (show(items? hp nx v).bind (λvs'=>(bz vs').bind λa=>(cT hp nx vs).map (a :: ·))=some is from hi);obtain⟨js,e2,hi⟩:=zd.mp hi;obtain⟨ks,e3,hi⟩:=y4.mp hi;exact⟨us,js,ks,e1,e2,e3,hi⟩
theorem Pc{a:AV}{r:yx}(hv:Pd hp nx a b=some r):(∃xs ys,items? hp nx a=some xs/\items? hp nx b=some ys/\((∃is js,bz xs=some is/\bz ys=some js/\(is==js)=r)\/∃is js,cT hp nx xs=some is/\cT hp nx ys=some js/\(is==js)=r))\/UK a b=some r:=by
 unfold Pd at hv;cases hx:items? hp nx a with
 |none=>rw[hx]at hv; exact .inr hv
 |some xs =>
 cases hy:items? hp nx b with
 |none=>rw[hx,hy]at hv; exact .inr hv
 |some ys =>
 rw[hx,hy]at hv; dsimp only at hv;refine .inl ⟨xs,ys,rfl,rfl,?_⟩;have k:(∀is js,bz xs=some is->bz ys=some js->False)->∃is js,cT hp nx xs=some is/\cT hp nx ys=some js/\(is==js)=r:=λh=>by
  cases hi:cT hp nx xs with
  |none=>cases h1:bz xs<;>cases h2:bz ys<;>rw[h1,h2,hi]at hv<;>first|exact(h _ _ h1 h2).elim|exact nn hv
  |some is =>
  cases hj:cT hp nx ys with
  |none=>cases h1:bz xs<;>cases h2:bz ys<;>rw[h1,h2,hi,hj]at hv<;>first|exact(h _ _ h1 h2).elim|exact nn hv
  |some js=>cases h1:bz xs<;>cases h2:bz ys<;>rw[h1,h2,hi,hj]at hv<;>first|exact(h _ _ h1 h2).elim|exact⟨is,js,rfl,rfl,Ag hv⟩
 cases hi:bz xs with
 |none=>exact .inr (k λ_ _ e=>by rw[hi]at e; exact nn e)
 |some is =>
 cases hj:bz ys with
 |none=>exact .inr (k λ_ _ _ e=>by rw[hj]at e; exact nn e)
 |some js=>rw[hi,hj]at hv; exact .inl ⟨is,js,rfl,rfl,Ag hv⟩
set_option tactic.hygienic true in
theorem gz(H:a9 S envs U O s):∀{vs:yk AV} {cs:yk yt} {is:yk (yk Int)},av U s.heap vs cs->cT O.hp O.nx vs=some is->∃as,ReadsAll s.heap cs (is.map λl=>Bz (l.map AH)) as
 |[],cs,is=>λe hi=>by cases e; (have h9:=si hi; clear hi; subst h9); exact⟨[],.nil⟩
 |v::vs,cs,is=>λe hi=>by obtain⟨c,r,rfl,hv,hr⟩:=e;obtain⟨us,js,ks,hu,hj,hk,rfl⟩:=xm hi;obtain⟨a,xs,rfl,⟨o,ho,hc,n,hd⟩,hx⟩:=aP H hv hu;obtain⟨as,hr'⟩:=gz H hr hk;exact⟨_,.cons (.list ho hc hd (eW (hx.ints hj))) hr'⟩
theorem d3(is:yk (yk Int)):DU (is.map λl=>Bz (l.map AH))=true:=by
 induction is with
 |nil=>rfl
 |cons i is ih=>simp[DU,Hk,ih,dJ]
theorem fV:∀(is js:yk (yk Int)),Cn (is.map λl=>Bz (l.map AH)) (js.map λl=>Bz (l.map AH))=(is==js)
 |[],[]=>rfl
 |[],_::_=>rfl
 |_::_,[]=>rfl
 |i::is,j::js=>by have:=fV is js;simp only[za,Cn,PyData.eqv,eP,this];rfl
theorem mP(is:yk Int):(Bz (is.map AH)).depth<=2:=by
 have:∀is:yk Int,Ck (is.map AH)<=1:=λis=>by
  induction is with
  |nil=>simp[Ck]
  |cons i is ih=>simp[Ck,Fh]; assumption
 have:=this is;simp[Fh]; assumption
theorem sp(is:yk (yk Int)):(Bz (is.map λl=>Bz (l.map AH))).depth<=3:=by
 have:∀is:yk (yk Int),Ck (is.map λl=>Bz (l.map AH))<=2:=λis=>by
  induction is with
  |nil=>simp[Ck]
  |cons i is ih=>have:=mP i; simp only[za,Ck]; exact Nat.max_le.mpr ⟨this,ih⟩
 have:=this is;simp only[Fh]; exact AR this
variable{as:yk yp}
theorem dZ{ds:yk PyData}(hl:h.IsList a xs)(hr:ReadsAll h xs.toList ds as):Reads h (.ref a) (.list ds) (a::as) :=
 by obtain⟨_,ho,hc,_,hd⟩:=hl; exact .list ho hc hd hr
theorem fC(x y:Str):(x.cps.toList==y.cps.toList)=(x==y):=by
 rw[AZ];simp only[y5];constructor
 ·intro h; cases x; cases y; simp at h; simp[h]
 ·intro h; rw[h]
variable{k:Nat}
theorem OB{a b c u:Nat}(h:u+10<k)(ha:a<=c)(hc:c<=10):u+min a b<k:=yR (zO (yn (DK ..) (yn ha hc)) _) h
set_option tactic.hygienic true in
theorem vH{a:AV}{r:yx}(H:a9 S envs U O s)(hu:A.units+10<cLine)(hv:Pd O.hp O.nx a b=some r)(ha:aq U s.heap a ca)(hb:aq U s.heap b cb) :
  (Q (.bool r) s->yq (yw S.prog S.w) A (compareOp .Eq ca cb) Q E s)/\(Q (.bool (!r)) s->yq (yw S.prog S.w) A (compareOp .NotEq ca cb) Q E s):=by
 rcases Pc hv with⟨xs,ys,hx,hy,⟨is,js,hi,hj,rfl⟩|⟨is,js,hi,hj,rfl⟩⟩|hv
 ·obtain⟨l1,us,rfl,hl1,hv1⟩:=aP H ha hx;obtain⟨l2,ws,rfl,hl2,hv2⟩:=aP H hb hy;have r1:=dZ hl1 (eW (hv1.ints hi));have r2:=dZ hl2 (eW (hv2.ints hj));have hd:=mP is;refine⟨λh=>Hn r1 r2 (dJ _) (dJ _) (OB hu hd (by decide)) ?_,λh=>Ho r1 r2 (dJ _) (dJ _) (OB hu hd (by decide)) ?_⟩
  ·show Q (.bool (Cn _ _)) s; rw[eP]; exact h
  ·show Q (.bool (!PyData.eqvAll _ _)) s; rw[eP]; exact h
 ·obtain⟨l1,us,rfl,hl1,hv1⟩:=aP H ha hx;obtain⟨l2,ws,rfl,hl2,hv2⟩:=aP H hb hy;obtain⟨as,q1⟩:=gz H hv1 hi;obtain⟨bs,q2⟩:=gz H hv2 hj;have r1:=dZ hl1 q1;have r2:=dZ hl2 q2;have hd:=sp is;refine⟨λh=>Hn r1 r2 (d3 _) (d3 _) (OB hu hd (by decide)) ?_,λh=>Ho r1 r2 (d3 _) (d3 _) (OB hu hd (by decide)) ?_⟩
  ·show Q (.bool (Cn _ _)) s; rw[fV]; exact h
  ·show Q (.bool (!PyData.eqvAll _ _)) s; rw[fV]; exact h
 ·unfold UK at hv;split at hv
  ·rename_i i hi;obtain⟨j,hj,rfl⟩:=y4.mp hv;obtain⟨t,rfl⟩:=ha.ofInt hi; obtain⟨u,rfl⟩:=hb.ofInt hj;exact⟨λh=>eq_int h,λh=>ne_int h⟩
  ·split at hv
   ·rename_i i hi;obtain⟨j,hj,rfl⟩:=y4.mp hv;cases ha.ofBool hi; cases hb.ofBool hj;exact⟨λh=>eq_bool h,λh=>ne_bool h⟩
   ·split at hv
    ·rename_i i hi;obtain⟨j,hj,rfl⟩:=y4.mp hv;obtain⟨t,rfl⟩:=ha.ofStr hi; obtain⟨u,rfl⟩:=hb.ofStr hj;exact⟨λh=>P.eq_str (by rw[fC]; exact h),λh=>P.ne_str (by rw[show ∀x y:yk Nat,(x != y) = !(x==y)from λZ Z=>rfl,fC]; exact h)⟩
    ·obtain⟨i,hi,hv⟩:=zd.mp hv;obtain⟨j,hj,rfl⟩:=y4.mp hv;obtain⟨t,rfl⟩:=ha.ofBytes hi; obtain⟨u,rfl⟩:=hb.ofBytes hj;exact⟨λh=>PySem.W.eq_bytes h,λh=>PySem.W.ne_bytes h⟩
theorem any_ints(h:A8 xs.toList is)(k:Int):xs.any (Ay k)=is.contains k:=by
 obtain⟨xs⟩:=xs;simp only[Gl];simp only at h;induction h with
 |nil=>rfl
 |cons n t r ih =>simp only[B0,Ay,EB,ih];congr 1;rw[AZ]; simp only[y5]; exact eq_comm
noncomputable def qe(x:Str):yt->yx
 |.str y _=>y==x
 |_=>false
theorem qM{xs:yk Str}(hi:f8 (v::vs)=some xs):∃i ys,v=.str i/\f8 vs=some ys/\i::ys=xs:=by
 cases v with
 |str i=>obtain⟨ys,hy,e⟩:=y4.mp (show(f8 vs).map (i :: ·)=some xs from hi); exact⟨i,ys,rfl,hy,e⟩
 |_=>exact nn hi
theorem sP{x:Str}:∀{vs:yk AV} {cs:yk yt} {xs:yk Str},av U h vs cs->f8 vs=some xs->cs.any (qe x)=xs.contains x
 |[],cs,xs=>λe hi=>by cases e; (have h9:=si hi; clear hi; subst h9); rfl
 |v::vs,cs,xs=>λe hi=>by obtain⟨c,r,rfl,hv,hr⟩:=e;obtain⟨i,ys,rfl,hy,rfl⟩:=qM hi;obtain⟨t,rfl⟩:=hv;show((i==x)||r.any (qe x))=_;rw[sP hr hy,EB];congr 1;rw[AZ]; simp only[y5]; exact eq_comm
theorem lA:∀{vs:yk AV} {cs:yk yt} {xs:yk Str},av U h vs cs->f8 vs=some xs->∀c∈cs,∃y t,c=.str y t
 |[],cs,xs=>λe hi=>by cases e; simp
 |v::vs,cs,xs=>λe hi=>by
  obtain⟨c,r,rfl,hv,hr⟩:=e;obtain⟨i,ys,rfl,hy,rfl⟩:=qM hi;obtain⟨t,rfl⟩:=hv;intro c hc;rcases yP.mp hc with rfl|hc
  ·exact⟨_,_,rfl⟩
  ·exact lA hr hy c hc
theorem t7(x:A8 cs is):∀c∈cs,∃y t,c=.int y t:=by
 induction x with
 |nil=>exact λc hc=>nomatch hc
 |cons n t r ih =>
  intro c hc;rcases yP.mp hc with rfl|hc
  ·exact⟨_,_,rfl⟩
  ·exact ih c hc
theorem cN:∀{kvs:yk (Int×AV)} {cs:yk (Int×yt)},aC U h kvs cs->∀k,bW U h (kvs.lookup k) (valueAt cs k)
 |[],cs=>λh09 k=>by
  obtain⟨h1,_⟩:=h09;cases cs with
  |nil=>trivial
  |cons c cs=>simp at h1
 |(j,v)::kvs,cs=>λh09 k=>by
  obtain⟨h1,h2⟩:=h09;cases cs with
  |nil=>simp at h1
  |cons c cs =>
   obtain⟨c1,c2⟩:=c;simp only[za,AM]at h1;obtain⟨rfl,h1⟩:=h1;obtain⟨d,r,e,hv,hr⟩:=h2;simp only[za,AM]at e;obtain⟨rfl,rfl⟩:=e;have ih:=cN (kvs:=kvs) (cs:=cs) ⟨h1,hr⟩ k;unfold valueAt at ih ⊢;rw[zi,Gw];by_cases q:k=j
   ·subst q; rw[zl,y9 rfl]; exact hv
   ·have q':¬j=k:=λe=>q e.symm;simp only[CZ.mpr q,q',decide_false];exact ih
theorem bW.isSome{a:yl AV}{b:yl yt}(x:bW U h a b):a.isSome=b.isSome:=by cases a<;>cases b<;>first|rfl|exact x.elim
theorem dI{cs:yk (Int×yt)}(x:h.DictOf (y1 S.prog S.w) a cs):h.MapOf (y1 S.prog S.w) a (valueAt cs):=x.mapOf
theorem yi(H:a9 S envs U O s)(hb:(S.h₀.get? AJ).isSome=true)(ha:a∈U):(a==AJ)=false:=by rw[CZ];intro e;have:=H.above a ha;rw[e]at this; rw[this]at hb; cases hb
set_option tactic.hygienic true in
theorem ry{a:AV}{r:yx}(H:a9 S envs U O s)(hb4:(S.h₀.get? AJ).isSome=true)(hv:jo O.hp O.nx a b=some r)(ha:aq U s.heap a ca)(hb:aq U s.heap b cb) :
  ((∀s',aF s s'->Q (.bool r) s')->yq (yw S.prog S.w) A (compareOp .In ca cb) Q E s)/\((∀s',aF s s'->Q (.bool (!r)) s')->yq (yw S.prog S.w) A (compareOp .NotIn ca cb) Q E s):=by
 unfold jo at hv;split at hv
 ·rename_i xs hx;obtain⟨l,us,rfl,hl,hvs⟩:=aP H hb hx;split at hv
  ·rename_i i hi;obtain⟨is,hi',rfl⟩:=y4.mp hv;obtain⟨t,rfl⟩:=ha.ofInt hi;have hia:=hvs.ints hi';have he:∀y,y∈us->GW y (.int i t) (Ay i y):=λy hy=>by obtain⟨n,t',rfl⟩:=t7 hia y (by simpa using hy);exact HA n i t' t
   refine⟨λh=>Hp _ he hl ?_,λh=>Hq _ he hl ?_⟩<;>(rw[any_ints hia]; exact h _ (.refl _))
  ·obtain⟨x,hx',hv⟩:=zd.mp hv;obtain⟨is,hi,rfl⟩:=y4.mp hv;obtain⟨t,rfl⟩:=ha.ofStr hx';have he:∀y,y∈us->GW y (.str x t) (qe x y):=λy hy=>by obtain⟨n,t',rfl⟩:=lA hvs hi y (by simpa using hy);exact eqGives_str n x t' t
   have e:us.any (qe x)=is.contains x:=by have us:=us;rw[Gl]; exact sP hvs hi
   refine⟨λh=>Hp _ he hl ?_,λh=>Hq _ he hl ?_⟩<;>(rw[e]; exact h _ (.refl _))
 ·obtain⟨i,hi,hv⟩:=zd.mp hv;obtain⟨j,hj,hv⟩:=zd.mp hv;obtain⟨t,rfl⟩:=ha.ofInt hi;obtain⟨l,rfl,hl⟩:=hb.H4 hj;by_cases hlt:j<O.nx
  ·rw[yo hlt]at hv;obtain⟨l',h1,hm,h3⟩:=H.at hlt;rw[hl]at h1; (have h9:=si h1; clear h1; subst h9);have hk:(y1 S.prog S.w).is i (.int i t)=true:=by show Ay i (.int i t)=true; simp[Ay]
   split at hv
   ·rename_i ks ho;rw[AO.I8 ho]at h3
    (have h9:=si hv; clear hv; subst h9)
    exact⟨λh=>wpAny_inSet_of (knd:=y1 S.prog S.w) (k:=i) hk rfl h3 (h _ (.tok ..)),λh=>wpAny_notInSet_of (knd:=y1 S.prog S.w) (k:=i) hk rfl h3 (h _ (.tok ..))⟩
   ·refine hdZ λGG hGG =>?_;obtain⟨d,ho,rfl⟩:=y4.mp hv;rw[AO.HV ho]at h3;obtain⟨cs,hd,hp⟩:=h3;refine hGG ?_;have e:=(cN hp i).isSome;rw[e];exact⟨λh=>wpAny_in_of (knd:=y1 S.prog S.w) (k:=i) hk (yi H hb4 hm) (dI hd) (h _ (.tok ..)),
     λh=>wpAny_notIn_of (knd:=y1 S.prog S.w) (k:=i) hk (yi H hb4 hm) (dI hd) (h _ (.tok ..))⟩
  ·rw[ym hlt]at hv; exact nn hv
theorem uY{a:AV}(ha:aq U s.heap a ca):(ca==.none)=a.Ja:=by
 cases a with
 |none=>cases ha; rfl
 |bool b=>cases ha; rfl
 |int i=>obtain⟨t,rfl⟩:=ha; rfl
 |str i=>obtain⟨t,rfl⟩:=ha; rfl
 |bytes i=>obtain⟨t,rfl⟩:=ha; rfl
 |typ n=>cases ha; rfl
 |tup vs=>obtain⟨t,_,rfl,_⟩:=ha; rfl
 |lst vs=>obtain⟨t,_,rfl,_⟩:=ha; rfl
 |ref i=>obtain⟨t,rfl,_⟩:=ha; rfl
set_option tactic.hygienic true in
theorem vq{a:AV}{r:yx}(hv:ON a b=some r)(ha:aq U s.heap a ca)(hb:aq U s.heap b cb) :
  (Q (.bool r) s->yq (yw S.prog S.w) A (compareOp .Is ca cb) Q E s)/\(Q (.bool (!r)) s->yq (yw S.prog S.w) A (compareOp .IsNot ca cb) Q E s):=by
 unfold ON at hv;split at hv
 ·rename_i hn
  (have h9:=si hv; clear hv; subst h9)
  cases hb.Rg hn;exact⟨λh=>is_none (by rw[uY ha]; exact h),λh=>isNot_none (by rw[uY ha]; exact h)⟩
 ·obtain⟨n,hn,hv⟩:=zd.mp hv;obtain⟨m,hm,rfl⟩:=y4.mp hv;cases hb.P6 hn;cases ha.P6 hm;have e:(Value.type m==Value.type n)=(m==n):=by rw[AZ]; simp
  exact⟨λh=>wpAny_is_plain rfl (by rw[e]; exact h),λh=>wpAny_isNot_plain rfl (by rw[e]; exact h)⟩
theorem jH{f:Int->Int->yx}{a:AV}{r:yx}(hv:MP f a b=some r)(ha:aq U s.heap a ca)(hb:aq U s.heap b cb):∃x y t u,ca=.int x t/\cb=.int y u/\r=f x y:=by refine hdZ λGG hGG =>?_;obtain⟨x,hx,hv⟩:=zd.mp hv;obtain⟨y,hy,rfl⟩:=y4.mp hv;obtain⟨t,e⟩:=ha.ofInt hx;obtain⟨u,e'⟩:=hb.ofInt hy;refine hGG ?_;exact⟨x,y,t,u,e,e',rfl⟩
theorem mv{o:yl yx}{r:yx}(h:o.map (!·)=some r):o=some (!r):=by obtain⟨q,e,rfl⟩:=y4.mp h;rw[e,Bool.not_not]
theorem sr{op:zD}{a:AV}{r:yx}(H:a9 S envs U O s)(hb4:(S.h₀.get? AJ).isSome=true)(hu:A.units+10<cLine)(hv:Il O.hp O.nx op a b=some r)(ha:aq U s.heap a ca)(hb:aq U s.heap b cb)
  (h:∀s',aF s s'->Q (.bool r) s'):yq (yw S.prog S.w) A (compareOp op ca cb) Q E s:=by
 have h':∀s',aF s s'->Q (.bool (!(!r))) s':=by rw[Bool.not_not]; exact h
 refine(let QQ:=_; let EE:=_; (?_:yq _ _ _ QQ EE _));cases op with
 |Eq=>exact(vH H hu hv ha hb).1 (h _ (.refl _))
 |NotEq=>exact(vH H hu (mv hv) ha hb).2 (h' _ (.refl _))
 |Lt=>obtain⟨x,y,t,u,rfl,rfl,rfl⟩:=jH hv ha hb; exact lt_int (h _ (.refl _))
 |LtE=>obtain⟨x,y,t,u,rfl,rfl,rfl⟩:=jH hv ha hb; exact le_int (h _ (.refl _))
 |Gt=>obtain⟨x,y,t,u,rfl,rfl,rfl⟩:=jH hv ha hb; exact gt_int (h _ (.refl _))
 |GtE=>obtain⟨x,y,t,u,rfl,rfl,rfl⟩:=jH hv ha hb; exact ge_int (h _ (.refl _))
 |Is=>exact(vq hv ha hb).1 (h _ (.refl _))
 |IsNot=>exact(vq (mv hv) ha hb).2 (h' _ (.refl _))
 |In=>exact(ry H hb4 hv ha hb).1 h
 |NotIn=>exact(ry H hb4 (mv hv) ha hb).2 h'
theorem fit63{a b:Nat}(h:a<=HC)(e:a=b):(b:Int)<2 ^ 63:=by subst e; exact Eo (AA.mpr h) (by decide)
theorem oa{b:yx}{Q:yx->yy->Prop}(H:a9 S envs U O s)(hv:dC O.hp O.nx v=some b)(hc:aq U s.heap v c)(h:∀s',aF s s'->Q b s'):yq (yw S.prog S.w) A (truthy c) Q E s:=by
 have hl:∀vs,items? O.hp O.nx v=some vs->vs.length<=HC->(!vs.isEmpty)=b->yq (yw S.prog S.w) A (truthy c) Q E s:=by
  intro vs hi hz hb;obtain⟨a,xs,rfl,hl,hx⟩:=aP H hc hi;have hlen:=hx.length;have hlen':vs.length=xs.size:=by simpa using hlen
  refine wpAny_truthy_list hl (fit63 hz hlen') ?_;have e:(!xs.isEmpty)=b:=by
   rw[<-hb];cases vs with
   |nil=>simp at hlen'; have:xs = #[]:=D7 hlen'.symm; subst this; rfl
   |cons v vs =>
    simp at hlen';have:xs.isEmpty=false:=by rw[Fy]; intro q; subst q; simp at hlen'
    rw[this]; rfl
  rw[e]; exact h _ (.tok ..)
 cases v with
 |none=>cases hc; (have h9:=si hv; clear hv; subst h9); exact yG (h _ (.refl _))
 |bool b'=>cases hc; (have h9:=si hv; clear hv; subst h9); exact wpAny_truthy_bool (h _ (.refl _))
 |int i=>obtain⟨t,rfl⟩:=hc; (have h9:=si hv; clear hv; subst h9); exact PyProof.Rows.truthy_int (h _ (.refl _))
 |lst vs=>obtain⟨hz,e⟩:=aZ hv; exact hl vs rfl hz e
 |ref i =>
  by_cases hlt:i<O.nx
  ·obtain⟨us,ho,hv⟩:=zd.mp ((yo hlt).symm.trans hv);obtain⟨hz,e⟩:=aZ hv;refine hl us ?_ hz e;show(if i<O.nx then(O.hp i).items? else none)=_;rw[yo hlt,AO.HP ho]; rfl
  ·cases(ym hlt).symm.trans hv
 |_=>exact nn hv
set_option tactic.hygienic true in
theorem ite_o{c:Prop}[A1 c]{o:yl α}{q:α}(h:(if c then o else none)=some q):c/\o=some q:=by
 by_cases k:c
 ·rw[yo k]at h; exact⟨k,h⟩
 ·rw[ym k]at h; exact nn h
theorem at_inv{i:Int}(hv:IF vs i=some v):(0<=i/\i<2 ^ 62/\vs[i.toNat]?=some v)\/(i<0/\- 2 ^ 62<=i/\0<=i+vs.length/\vs[(i+vs.length).toNat]?=some v):=by
 unfold IF at hv;by_cases h0:0<=i
 ·rw[yo h0]at hv;obtain⟨h1,hv⟩:=ite_o hv;exact .inl ⟨h0,h1,hv⟩
 ·rw[ym h0]at hv;by_cases h1:i < - 2 ^ 62
  ·rw[yo h1]at hv; exact nn hv
  ·rw[ym h1]at hv;obtain⟨h2,hv⟩:=ite_o hv;exact .inr ⟨Int.not_le.mp h0,BW.mp h1,h2,hv⟩
theorem sq_at{i j:Int}(e:(if i<0 then i+(n:Int)else i)=j)(h0:0<=j)(h:j<n):seqIndex? i n=some j.toNat:=by show(if decide (0<=(if i<0 then i+(n:Int)else i))&&decide ((if i<0 then i+(n:Int)else i)<n)then some (if i<0 then i+(n:Int)else i).toNat else none)=_;rw[e,yo (by rw[y9 h0,y9 h]; rfl)]
theorem lt63{i:Int}(h:i<2 ^ 62):i<2 ^ 63:=Cz h (by decide)
theorem ge63{i:Int}(h:- 2 ^ 62<=i):-(2 ^ 63)<=i:=Bp (by decide) h
theorem Pw{i:Int}{u:Tok}(hl:s.heap.IsList a xs)(hx:av U s.heap vs xs.toList)(hv:IF vs i=some v)(h:∀c,aq U s.heap v c->Q c s) :
  yq (yw S.prog S.w) A (getItem (.ref a) (.int i u)) Q E s:=by
 have hlen:vs.length=xs.size:=by simpa using hx.length
 rcases at_inv hv with⟨h0,h1,hv⟩|⟨h0,h1,h2,hv⟩
 ·obtain⟨c,hc,hr⟩:=hx.get hv;exact wpAny_getItem_list hl h0 (lt63 h1) (by simpa using hc) (h c hr)
 ·obtain⟨c,hc,hr⟩:=hx.get hv;rw[hlen]at hc h2;exact wpAny_getItem_list_neg hl h0 (by rw[<-Int.zero_sub]; exact Int.sub_right_le_of_le_add h2) (ge63 h1) (by simpa using hc) (h c hr)
theorem M6{i:Int}{u:Tok}(hl:s.heap.IsTuple a xs)(hx:av U s.heap vs xs.toList)(hv:IF vs i=some v)(h:∀c,aq U s.heap v c->Q c s) :
  yq (yw S.prog S.w) A (getItem (.ref a) (.int i u)) Q E s:=by
 have hlen:vs.length=xs.size:=by simpa using hx.length
 rcases at_inv hv with⟨h0,h1,hv⟩|⟨h0,h1,h2,hv⟩
 ·obtain⟨c,hc,hr⟩:=hx.get hv;exact Hm hl (Bp (by decide) h0) (lt63 h1) (sq_at (ym (BW.mpr h0)) h0 ((Int.toNat_lt h0).mp (hlen▸(y2.mp hv).1))) (by simpa using hc) (h c hr)
 ·obtain⟨c,hc,hr⟩:=hx.get hv;rw[hlen]at hc h2;exact Hm hl (ge63 h1) (Cz h0 (by decide)) (sq_at (yo h0) h2 (by have:=Int.add_lt_add_right h0 (xs.size:Int); rwa[Int.zero_add]at this)) (by simpa using hc) (h c hr)
noncomputable def PE(s:yy)(c:yt):Prop:=∃T id,s.TypeIs c T/\typeLookup (.type T) "__getitem__"= pure (some (.builtin id))
variable{co ci:yt}
set_option tactic.hygienic true in
theorem xy{o i:AV}(H:a9 S envs U O s)(hv:gc O.hp O.nx o i=some v)(ho:aq U s.heap o co)(hi:aq U s.heap i ci)
  (h:∀c s',aF s s'->aq U s'.heap v c->Q c s'):PE s co/\yq (yw S.prog S.w) A (getItem co ci) Q E s:=by
 obtain⟨k,hk,hv⟩:=zd.mp hv;obtain⟨t,rfl⟩:=hi.ofInt hk;split at hv
 ·rename_i vs hvs;obtain⟨a,xs,rfl,hl,_,hx⟩:=ho.I9 hvs;exact⟨⟨_,_,hl.typeIs,F.slot_tuple_getitem.lookup⟩,M6 hl hx hv λc hc=>h c s (.refl _) hc⟩
 ·split at hv
  ·rename_i b hb;obtain⟨u,rfl⟩:=ho.ofBytes hb;by_cases hc:0<=k/\b.size<=HC
   ·rw[yo hc]at hv;obtain⟨h0,hz⟩:=hc;obtain⟨x,hx,rfl⟩:=y4.mp hv;have hz:b.size<=1099511627776:=yn hz (by decide);refine⟨⟨_,_,D0 s _ u,En.lookup⟩,?_⟩;obtain⟨l⟩:=b;have hx':l[k.toNat]?=some x:=by simpa using hx
    have h8:=y2.mp hx';have hlt:=h8.1;have e:=h8.2;refine PySem.W.getItem_bytes (l:=l) (by simpa using hz) h0 ((Int.toNat_lt h0).mp hlt) ?_;have e':l.getD k.toNat 0=x:=by rw[List.getD_eq_getElem?_getD,hx']; rfl
    rw[e']; exact h _ _ (.tok ..) ⟨_,rfl⟩
   ·rw[ym hc]at hv; exact nn hv
  ·split at hv
   ·rename_i vs hvs;refine hdZ λGG hGG =>?_;obtain⟨a,xs,rfl,hl,hx⟩:=aP H ho hvs;refine hGG ?_;exact⟨⟨_,_,hl.typeIs,slot_list_getitem.lookup⟩,Pw hl hx hv λc hc=>h c s (.refl _) hc⟩
   ·obtain⟨j,hj,hv⟩:=zd.mp hv;obtain⟨a,rfl,ha⟩:=ho.H4 hj;by_cases hlt:j<O.nx
    ·refine hdZ λGG hGG =>?_;obtain⟨d,hd,hv⟩:=zd.mp ((yo hlt).symm.trans hv);obtain⟨a',h1,hm,h3⟩:=H.at hlt;refine hGG ?_;rw[ha]at h1; (have h9:=si h1; clear h1; subst h9);rw[AO.HV hd]at h3;obtain⟨cs,hd,hp⟩:=h3;have e:=cN hp k;rw[hv]at e;cases hc:valueAt cs k with
     |none=>rw[hc]at e; exact e.elim
     |some c =>rw[hc]at e;exact⟨⟨_,_,hd.typeIs,F.slot_dict_getitem.lookup⟩,wpAny_getItem_of (knd:=y1 S.prog S.w) (k:=k) (by show Ay k (.int k t)=true; simp[Ay]) (dI hd) hc (h c _ (.tok ..) e)⟩
    ·cases(ym hlt).symm.trans hv
theorem wI(xs:yM yt){h:Int}(h0:0<=h):slicePick xs none (some h) none=(xs.toList.take h.toNat).toArray:=by rw[kms_pick_eq,kms_pick];simp only[kms_lo,kms_hi,ym (show ¬h<0 by lia),EG,Bx];rw[kmk_take_min]
theorem wJ(xs:yM yt){h:Int}(h0:0<=h):slicePick xs (some h) none none=(xs.toList.drop h.toNat).toArray:=by rw[kms_pick_eq,kms_pick];simp only[kms_lo,kms_hi,ym (show ¬h<0 by lia)];rw[kmk_drop_min,B9 (by rw[B8]; exact Nat.sub_le_sub_left (DK ..) _)]
theorem RO(L:yk α)(l u:Nat):(L.drop l).take (min u L.length-min l L.length)=(L.drop l).take (u-l):=by
 by_cases h:l<=L.length
 ·rw[E4 h];by_cases hu:u<=L.length
  ·rw[E4 hu]
  ·rw[G7 (CP hu),B9 (by rw[B8]; exact yF _),B9 (by rw[B8]; exact Nat.sub_le_sub_right (CP hu) _)]
 ·rw[ED (CP h),List.take_nil,List.take_nil]
theorem j4{i:Int}(h:0<=i):clipAt n i=min i.toNat n:=by unfold clipAt;obtain⟨k,rfl⟩:=Cw h;rw[ym (BW.mpr h)];show(max 0 (min (k:Int) (n:Int))).toNat=min k n;rw[<-Lean.Omega.Int.ofNat_min,Int.max_eq_right (zo _),zK]
noncomputable def cZ(U:yk yp)(h:yC):yl AV->yt->Prop
 |none,c=>c=.none
 |some v,c=>aq U h v c
theorem md{o:yl AV}{l:yl Int}(h:cZ U s.heap o c)(e:me o=some l):BX c l:=by
 cases o with
 |none=>(have h9:=si e; clear e; subst h9); cases h; exact .none
 |some v =>obtain⟨i,hi,rfl⟩:=y4.mp e;obtain⟨t,rfl⟩:=aq.ofInt h hi;exact .int _ _
set_option tactic.hygienic true in
theorem MJ{o:AV}{lo hi st:yl AV}{cl ch cs:yt}{sl:yp}(H:a9 S envs U O s)(hv:kP O.hp O.nx o lo hi st=some v)(ho:aq U s.heap o co)
  (hl:cZ U s.heap lo cl) (hh:cZ U s.heap hi ch) (hs:cZ U s.heap st cs) (hsl:s.heap.IsSliceOf sl cl ch cs)
  (h:∀c s',aF s s'->aq U s'.heap v c->Q c s'):PE s co/\yq (yw S.prog S.w) A (getItem co (.ref sl)) Q E s:=by
 have lists:∀(vs us:yk AV) (l u k:yl Int),items? O.hp O.nx o=some vs->vs.length<=HC->BX cl l->BX ch u->BX cs k->k≠some 0 ->
   (∀xs:yM yt,av U s.heap vs xs.toList->av U s.heap us (slicePick xs l u k).toList)->v=.lst us->PE s co/\yq (yw S.prog S.w) A (getItem co (.ref sl)) Q E s:=by
  intro vs us l u k hi hz pl pu pk hk hp hve;obtain⟨a,xs,rfl,hl,hx⟩:=aP H ho hi;refine⟨⟨_,_,hl.typeIs,slot_list_getitem.lookup⟩,wpAny_getItem_list_slice hl hsl pl pu pk hk (h _ _ (.push ..) ?_) ?_⟩
  ·rw[hve]; exact aq.Je H.HD (λa ha=>H.lt ha) (hp xs hx)
  ·have:vs.length=xs.size:=by simpa using hx.length
   exact yn (this▸hz) bK
 have byts:∀(b:yM yQ) (t:Tok) (l u:yl Int) (r:yM yQ),co=.bytes b t->cs=.none->b.size<=HC->BX cl l->BX ch u->KBy.picked b l u=r->v=.bytes r->PE s co/\yq (yw S.prog S.w) A (getItem co (.ref sl)) Q E s:=by
  intro b t l u r e1 e2 hz pl pu hr hve;subst e1 e2;refine⟨⟨_,_,D0 s _ t,En.lookup⟩,getItem_meets (D0 _ _ _) (by decide) En FB.entry_bytes_getitem (FB.args_bytes_getitem_2 _ _) (KBc.meets_slice2 b t _ pl pu)
   ⟨hsl,yn (KBc.size_picked_le b l u) (yn hz bK),λt' k=>h _ _ (.tok ..) ?_⟩⟩
  rw[hve,hr]; exact⟨t',rfl⟩
 refine hdZ λGG hGG =>?_;obtain⟨l,el,hv⟩:=zd.mp hv;obtain⟨u,eu,hv⟩:=zd.mp hv;obtain⟨k,ek,hv⟩:=zd.mp hv;refine hGG ?_;have pl:=md hl el;have pu:=md hh eu;have pk:=md hs ek;split at hv
 ·rename_i b hb;obtain⟨t,e1⟩:=ho.ofBytes hb;cases k with
  |some _=>exact nn hv
  |none=>cases u with
   |none=>exact nn hv
   |some h' =>
    cases pk;cases l with
    |none =>have h8:=aZ hv;have hc:=h8.1;have e:=h8.2;refine byts b t none (some h') _ e1 rfl hc.2 pl pu ?_ e.symm;rw[KBc.picked_eq];simp only[Option.elim_none,He,j4 hc.1,EG,Bx];rw[show b.size=b.toList.length from by simp,kmk_take_min]
    |some l =>obtain⟨hc,e⟩:=aZ hv;refine byts b t (some l) (some h') _ e1 rfl hc.2.2 pl pu ?_ e.symm;rw[KBc.picked_eq];simp only[He,j4 hc.1,j4 hc.2.1];rw[show b.size=b.toList.length from by simp,kmk_drop_min];apply yI List.toArray;exact RO _ _ _
 ·obtain⟨vs,hi,hv⟩:=zd.mp hv;cases l with
  |none=>cases u with
   |some h'=>cases k with
    |none =>
     by_cases hc:0<=h'
     ·obtain⟨hz,e⟩:=aZ ((yo hc).symm.trans hv);exact lists vs _ none (some h') none hi hz pl pu pk (by simp) (λxs hx=>by rw[wI xs hc]; exact hx.take _) e.symm
     ·cases(ym hc).symm.trans hv
    |some _=>exact nn hv
   |none=>cases k with
    |some k =>
     by_cases hc:k=-1
     ·obtain⟨hz,e⟩:=aZ ((yo hc).symm.trans hv);subst hc;exact lists vs _ none none (some (-1)) hi hz pl pu pk (by decide) (λxs hx=>by rw[krv_pick]; exact hx.reverse) e.symm
     ·cases(ym hc).symm.trans hv
    |none=>exact nn hv
  |some l=>cases u with
   |none=>cases k with
    |none =>
     by_cases hc:0<=l
     ·obtain⟨hz,e⟩:=aZ ((yo hc).symm.trans hv);exact lists vs _ (some l) none none hi hz pl pu pk (by simp) (λxs hx=>by rw[wJ xs hc]; exact hx.drop _) e.symm
     ·cases(ym hc).symm.trans hv
    |some _=>exact nn hv
   |some _=>exact nn hv
noncomputable def Js(S:au)(x:Str)(c:yt):Prop :=
 ∃mg mb,S.h₀.Ns BB mg/\S.h₀.Ns builtinsNs mb/\(mg x=some c\/(mg x=none/\mb x=some c))
structure Base(S:au)(T:Tab):Prop where
 Jh:(S.h₀.get? AJ).isSome=true
 nolimit:S.h₀.NoLimit
 HI:∀x v,T.HI x=some v->∃c,Js S x c/\∀U h,aq U h v c
variable{T:Tab}
theorem bk(C:At S A envs env own cx d)(H:a9 S envs U O s){x:Str}(hk:kindOf cx x=some .globalImplicit)(g:Js S x c)(h:Q c s):yq (yw S.prog S.w) A (loadName env x) Q E s:=by
 refine hdZ λGG hGG =>?_;obtain⟨mg,mb,hg,hb,hx⟩:=g;refine hGG ?_;have hg':s.heap.Ns BB mg:=hg.keeps H.base;have hb':s.heap.Ns builtinsNs mb:=hb.keeps H.base;unfold loadName;refine wq (by simp only[Env.blockKind,C.Ik.kind,C.Ik.gl x hk,ScopeKind.isAnnotationScope,C8,BS,BA]; rfl) ?_;unfold loadGlobal;rw[C.Ik.glob,C.Ik.bi];refine yz (wpAny_nsGet hg' ?_);rcases hx with hx|⟨hx,hx'⟩
 ·rw[hx]; exact yG h
 ·rw[hx];refine yz (wpAny_nsGet hb' ?_);rw[hx']; exact yG h
set_option tactic.hygienic true in
set_option tactic.hygienic true in
theorem pW(B:Base S T)(C:At S A envs env own cx d)(x:Str):HN S A envs env own cx aq (loadName env x) (vk T cx x):=by
 intro U O s r hr N;unfold vk at hr;refine(let QQ:=_; let EE:=_; (?_:yq _ _ _ QQ EE _));split at hr
 ·refine(let QQ:=_; let EE:=_; (?_:yq _ _ _ QQ EE _));exact nn hr
 ·rename_i hd;cases hk:kindOf cx x with
  |none=>rw[hk]at hr; exact nn hr
  |some k =>
   rw[hk]at hr;cases k with
   |«local» =>
    change aa x O=some r at hr;unfold aa at hr;cases hv:O.loc x with
    |none=>rw[hv]at hr; exact nn hr
    |some v =>
     rw[hv]at hr; (have h9:=si hr; clear hr; subst h9);obtain⟨m,hm,hl⟩:=N.F.ns;have e:=hl x hk;rw[hv]at e;cases hc:m x with
     |none=>rw[hc]at e; exact e.elim
     |some c =>rw[hc]at e;exact wpAny_loadName_local C.Ik.kind (C.Ik.loc x hk) hm hc ⟨v,O,U,rfl,e,N,.refl ..⟩
   |cell =>
    change aa x O=some r at hr;unfold aa at hr;cases hv:O.loc x with
    |none=>rw[hv]at hr; exact nn hr
    |some v =>
     rw[hv]at hr; (have h9:=si hr; clear hr; subst h9);obtain⟨a,c,h1,h2,h3,e⟩:=N.F.cells x hk;rw[hv]at e;cases c with
     |none=>exact e.elim
     |some c=>exact Hw C.Ik.kind (C.Ik.cell x hk) h1 h3 ⟨v,O,U,rfl,e,N,.refl ..⟩
   |free =>
    change ae (cx.outer x) O=some r at hr;unfold ae at hr;cases hv:cx.outer x with
    |none=>rw[hv]at hr; exact nn hr
    |some v =>
     rw[hv]at hr; (have h9:=si hr; clear hr; subst h9);obtain⟨a,c,h1,h2,h3,e⟩:=N.F.frees x hk;rw[hv]at e;cases c with
     |none=>exact e.elim
     |some c =>
      rcases C.Ik.free x hk with q|⟨q,q'⟩
      ·refine(let QQ:=_; let EE:=_; (?_:yq _ _ _ QQ EE _));exact Hw C.Ik.kind q h1 h3 ⟨v,O,U,rfl,e,N,.refl ..⟩
      ·exact wpAny_loadName_free C.Ik.kind q h1 h3 ⟨v,O,U,rfl,e,N,.refl ..⟩ (by simpa using q')
   |globalExplicit=>exact nn hr
   |globalImplicit =>
    change ae (T.HI x) O=some r at hr;unfold ae at hr;cases hv:T.HI x with
    |none=>rw[hv]at hr; exact nn hr
    |some v =>rw[hv]at hr; (have h9:=si hr; clear hr; subst h9);obtain⟨c,g,hc⟩:=B.HI x v hv;exact bk C N.H hk g ⟨v,O,U,rfl,hc _ _,N,.refl ..⟩
theorem fE(C:At S A envs env own cx d){x:Str}{r:Res yu}{Q:yu->yy->Prop}(N:HB S envs env own cx U O s)(hr:bu cx x v O=some r)(hv:aq U s.heap v c)
  (h:∀O' s',r=.ok () O'->O'={O with loc:=ai O.loc x (some v)}->HB S envs env own cx U O' s'->Ext own U O s U O' s'->Q () s'):yq (yw S.prog S.w) A (storeName env x c) Q E s:=by
 unfold bu at hr;cases hk:kindOf cx x with
 |none=>rw[hk]at hr; exact nn hr
 |some k =>
  rw[hk]at hr;cases k with
  |«local» => (have h9:=si hr; clear hr; subst h9); exact eU C N (.inl hk) hv λs' N' X=>h _ s' rfl rfl N' X
  |cell=>(have h9:=si hr; clear hr; subst h9); exact eU C N (.inr hk) hv λs' N' X=>h _ s' rfl rfl N' X
  |free=>exact nn hr
  |globalExplicit=>exact nn hr
  |globalImplicit=>exact nn hr
noncomputable def RB:VR yx yx:=λZ Z b c=>c=b
noncomputable def RU:VR yu yu:=λZ Z Z Z=>True
theorem bR{f:(Nat->AO)->Nat->yl α}{r:Res α}(h:aE f O=some r):∃a,f O.hp O.nx=some a/\r=.ok a O:=by
 unfold aE at h;cases hf:f O.hp O.nx with
 |none=>rw[hf]at h; exact nn h
 |some a=>rw[hf]at h; (have h9:=si h; clear h; subst h9); exact⟨a,rfl,rfl⟩
theorem my{o:yl α}{r:Res α}(h:ae o O=some r):∃a,o=some a/\r=.ok a O:=by
 unfold ae at h;cases hf:o with
 |none=>rw[hf]at h; exact nn h
 |some a=>rw[hf]at h; (have h9:=si h; clear h; subst h9); exact⟨a,rfl,rfl⟩
inductive LB{α β:Type}(o:yl α)(f:α->M β)(O:St)(r:Res β):Prop
 |mk (a:α) (h:o=some a) (hr:f a O=some r)
inductive OS{α β:Type}(o:yl α)(f:α->M β)(g:M β)(O:St)(r:Res β):Prop
 |s (a:α) (h:o=some a) (hr:f a O=some r)
 |n (h:o=none) (hr:g O=some r)
structure IM{α:Type}(p:Prop)(m:M α)(O:St)(r:Res α):Prop where
 h:p
 hr:m O=some r
theorem ad{o:yl α}{f:α->M β}{r:Res β}(h:M.bind (ae o) f O=some r):LB o f O r:=by
 cases o with
 |none=>exact nn h
 |some a=>exact⟨a,rfl,h⟩
theorem bb{g:(Nat->AO)->Nat->yl α}{f:α->M β}{r:Res β}(h:M.bind (aE g) f O=some r):LB (g O.hp O.nx) f O r:=by
 unfold M.bind aE at h;cases e:g O.hp O.nx with
 |none=>rw[e]at h; exact nn h
 |some a=>rw[e]at h; exact⟨a,rfl,h⟩
theorem aH{o:yl α}{f:α->M β}{g:M β}{r:Res β}(h:bj o f g O=some r):OS o f g O r:=by
 cases o with
 |some a=>exact .s a rfl h
 |none=>exact .n rfl h
theorem az[A1 p]{m:M α}{r:Res α}(h:(if p then m else M.fail) O=some r):IM p m O r:=by
 by_cases hp:p
 ·rw[yo hp]at h; exact⟨hp,h⟩
 ·rw[ym hp]at h; exact nn h
theorem bf[A1 p]{a:AV}{r:Res AV}(h:bX p a O=some r):p/\r=.ok a O:=by
 by_cases hp:p
 ·exact⟨hp,(Ag ((yo hp).symm.trans h)).symm⟩
 ·cases(ym hp).symm.trans h
theorem o7{m:M α}{f:α->M β}{r:Res β}(h:M.bind m f O=some r)(hm:∀q,m O=some q->∃a,q=.ok a O):∃a,m O=some (.ok a O)/\f a O=some r:=by
 unfold M.bind at h;cases e:m O with
 |none=>rw[e]at h; exact nn h
 |some q =>obtain⟨a,rfl⟩:=hm q e;rw[e]at h;exact⟨a,rfl,h⟩
noncomputable def IT:VR Flow ac:=λU h f c=>match f,c with
 |.next,.next=>True
 |.brk,.brk=>True
 |.cont,.cont=>True
 |.ret v,.ret c=>aq U h v c
 |_,_=>False
theorem IT.inv{f:ac}{c:Flow}(x:IT U h f c):(f=.next/\c=.next)\/(f=.brk/\c=.brk)\/(f=.cont/\c=.cont)\/∃v w,f=.ret v/\c=.ret w:=by cases f<;>cases c<;>first|exact x.elim|exact .inl ⟨rfl,rfl⟩|exact .inr (.inl ⟨rfl,rfl⟩)|exact .inr (.inr (.inl ⟨rfl,rfl⟩))|exact .inr (.inr (.inr ⟨_,_,rfl,rfl⟩))
noncomputable def dP(own U:yk yp)(O:St)(h:yC)(HE:M yu)(b:yp):Prop :=
 (b∉U/\b∉own/\∃o xs n,h.get? b=some o/\o.data=.seq xs n)\/(∃i ver kvs,U[i]?=some b/\O.hp i=.dict kvs ver/\HE=du i ver)\/(∃i vs,U[i]?=some b/\eS (O.hp i) vs)
inductive qG(S:au)(own:yk yp)(hb:yC)(O:St)(U:yk yp)(h:yC)(o:yl (Nat×Nat))(vs:yk (AV×AV))(x:yt):Prop
 |enum (e it l:yp) (xs:yM yt) (us:yk AV) (ho:o=none) (ex:x=.ref e) (ap:e≠it/\l≠e/\l≠it) (st:IsEnum h e it 0 .none/\h.IsListIter it l 0/\h.IsList l xs)
   (hp:∀a∈[e,it],a∉U/\hb.get? a=none/\a∉own/\S.h₀.get? a=none) (hf:dP own U O h (pure ()) l) (hx:av U h us xs.toList) (hv:vs=im 0 us)
 |items (i ver:Nat) (a v:yp) (kvs:yk (Int×AV)) (ho:o=some (i,ver)) (ha:U[i]?=some a) (hd:O.hp i=.dict kvs ver) (ex:x=.ref v) (hw:h.IsItemsView v a) (hv:vs=kvs.map λp=>(.int p.1,p.2))
inductive TX(h:yC)(vs:yk AV)(x:yt):Prop
 |mk (r:yp) (a b c:Int) (t u v:Tok) (e:x=.ref r) (hr:IsRange h r a b c t u v) (hs:Dd a b c=true) (hv:vs=(yB (Bk a b c).toNat).map λ(k:Nat)=>AV.int (a+k*c))
noncomputable def UY(S:au)(own:yk yp)(hb:yC)(O:St)(U:yk yp)(h:yC):aw->yt->Prop
 |.Ip vs,x=>TX h vs x
 |.seq vs,x=>aq U h (.lst vs) x\/aq U h (.tup vs) x\/∃b t,x=.bytes b t/\vs=b.toList.map λy=>AV.int y.toNat
 |.HY i,x=>∃a,x=.ref a/\U[i]?=some a/\∃us,(O.hp i).items?=some us
 |.H7 i ver vs,x=>∃a kvs,U[i]?=some a/\O.hp i=.dict kvs ver/\((x=.ref a/\vs=kvs.map λp=>AV.int p.1)\/(∃v,x=.ref v/\h.IsValuesView v a/\vs=kvs.map (·.2)))
 |.pairs o vs,x=>qG S own hb O U h o vs x
inductive PS(S:au)(envs:Frs)(env:Env)(own:yk yp)(cx:Cx)(U:yk yp)(O:St)(s:yy)(q:Res aw)(x:yt)(s':yy):Prop
 |mk (its:aw) (O':St) (U':yk yp) (e:q=.ok its O') (hI:UY S own s.heap O' U' s'.heap its x) (N:HB S envs env own cx U' O' s') (X:Ext own U O s U' O' s')
structure HJ(S:au)(T:Tab)(r:HQ)(d:Nat):Prop where
 ev:∀{A envs env own cx},At S A envs env own cx d->∀e,HN S A envs env own cx aq (eval e env) (r.ev cx e)
 tr:∀{A envs env own cx},At S A envs env own cx d->∀e,HN S A envs env own cx RB (isTrue e env (eval e env)) (r.tr cx e)
 its:∀{A envs env own cx},At S A envs env own cx d->∀{e U O s q},r.its cx e O=some q->HB S envs env own cx U O s ->
  yq (yw S.prog S.w) A (eval e env) (PS S envs env own cx U O s q) (H3 S envs env own cx U O s q) s
 asg:∀{A envs env own cx},At S A envs env own cx d->∀{t v U O s q c},r.asg cx t v O=some q->HB S envs env own cx U O s->aq U s.heap v c ->
  yq (yw S.prog S.w) A (assign t env c) (HG S envs env own cx RU U O s q) (H3 S envs env own cx U O s q) s
 HK:∀{A envs env own cx},At S A envs env own cx d->∀ss,HN S A envs env own cx IT (execs ss env) (r.HK cx ss)
variable{r:HQ}
theorem At.QH(C:At S A envs env own cx d):A.units+10<cLine:=by exact yR (AG (yn (yH _ _) C.un) 10) (by decide)
theorem HB.lt(N:HB S envs env own cx U O s):∀a∈U,a<s.heap.objs.size:=λZ ha=>N.H.lt ha
theorem aq.ext(N:HB S envs env own cx U O s)(X:Ext own U O s U' O' s')(h:aq U s.heap v c):aq U' s'.heap v c :=
 h.mono (X.heap.keeps N.F.IY) N.H.HD X.HU.x
theorem av.ext{v:yk AV}{c:yk yt}(N:HB S envs env own cx U O s)(X:Ext own U O s U' O' s')(h:av U s.heap v c):av U' s'.heap v c :=
 h.mono (X.heap.keeps N.F.IY) N.H.HD X.HU.x
theorem HG.quiet{R:VR α β}{v:β}{c:α}(N:HB S envs env own cx U O s)(q:aF s s')(h:R U s'.heap v c):HG S envs env own cx R U O s (.ok v O) c s' :=
 ⟨v,O,U,rfl,h,N.quiet q,N.H.H2 q⟩
theorem r8(c:Const)(k:Nat)(p:Pos):HN S A envs env own cx aq (eval (.Constant c k p) env) (uj T (λZ Z Z=>M.fail) 0 r cx (.Constant c k p)):=by
 intro U O s q hr N;cases c with
 |none=>(have h9:=si hr; clear hr; subst h9); exact wpAny_Constant_none (HG.quiet N (.refl _) rfl)
 |bool b=>(have h9:=si hr; clear hr; subst h9); exact wpAny_Constant_bool (HG.quiet N (.refl _) rfl)
 |int i=>(have h9:=si hr; clear hr; subst h9); exact wpAny_Constant_int (HG.quiet N (.tok ..) ⟨_,rfl⟩)
 |str x=>(have h9:=si hr; clear hr; subst h9); exact wpAny_Constant_str (HG.quiet N (.tok ..) ⟨_,rfl⟩)
 |bytes b=>(have h9:=si hr; clear hr; subst h9); exact wpAny_mkTextBytes (HG.quiet N (.tok ..) ⟨_,rfl⟩)
 |float x=>exact nn hr
 |complex x y=>exact nn hr
 |ellipsis=>exact nn hr
theorem Mw(I:HJ S T r d)(C:At S A envs env own cx d)(a b:yr)(op:z7)(p:Pos) :
  HN S A envs env own cx aq (eval (.BinOp a op b p) env) (M.bind (r.ev cx a) λx=>M.bind (r.ev cx b) λy=>aE λhp nx=>gJ hp nx op x y):=by
 intro U O s q hr N;refine wpAny_BinOp ((I.ev C a).seq hr N (λx ca am1 σ1 s1 v1 N1 X1 hr1 =>?_) (λZ Z h=>h));refine(I.ev C b).seq hr1 N1 (λy cb am2 σ2 s2 v2 N2 X2 hr2 =>?_) (λZ Z h=>h.back X1);obtain⟨v,hv,rfl⟩:=bR hr2;exact xi N2.H hv (v1.ext N1 X2) v2 λc s' qq hc=>(HG.quiet N2 qq hc).back (X1.trans X2)
theorem O5(I:HJ S T r d)(C:At S A envs env own cx d)(op:UnaryOp)(a:yr)(p:Pos):HN S A envs env own cx aq (eval (.UnaryOp op a p) env) (Qn r cx op a):=by
 intro U O s q hr N;refine(let QQ:=_; let EE:=_; (?_:yq _ _ _ QQ EE _));cases op with
 |USub =>
  refine wpAny_UnaryOp ((I.ev C a).seq hr N (λx ca am1 σ1 s1 v1 N1 X1 hr1 =>?_) (λZ Z h=>h));have h9:=ad hr1; clear hr1; obtain⟨i,hi,hr1⟩:=h9
  (have h9:=si hr1; clear hr1; subst h9)
  obtain⟨t,rfl⟩:=v1.ofInt hi;exact neg_int ((HG.quiet N1 (.tok ..) ⟨_,rfl⟩).back X1)
 |_=>exact nn hr
theorem Mu(I:HJ S T r d)(C:At S A envs env own cx d)(t a b:yr)(p:Pos) :
  HN S A envs env own cx aq (eval (.IfExp t a b p) env) (M.bind (r.tr cx t) λc=>if c then r.ev cx a else r.ev cx b):=by
 intro U O s q hr N;refine wpAny_IfExp ((I.tr C t).seq hr N (λx cb am1 σ1 s1 v1 N1 X1 hr1 =>?_) (λZ Z h=>h));cases v1;cases x with
 |true=>exact(I.ev C a).last hr1 N1 (λZ Z h=>h.back X1) (λZ Z h=>h.back X1)
 |false=>exact(I.ev C b).last hr1 N1 (λZ Z h=>h.back X1) (λZ Z h=>h.back X1)
theorem rz{op:zD}{b:yr}(h:gK b=false):behindInMarks op b=false:=by cases b<;>first|rfl|exact BD h
theorem kr{ops:yk zD}{bs:yk yr}{p:zD×yr}(h:KO ops bs=some p):ops=[p.1]/\bs=[p.2]/\gK p.2=false:=by
 cases ops with
 |nil=>exact nn h
 |cons op ops =>
  cases bs with
  |nil=>exact nn h
  |cons b bs =>obtain⟨hc,rfl⟩:=aZ h;obtain⟨hc,h3⟩:=yS.mp hc;have h8:=yS.mp hc;have h1:=h8.1;have h2:=h8.2;exact⟨yI _ (zv.mp h1),yI _ (zv.mp h2),by simpa using h3⟩
theorem uh(B:Base S T)(I:HJ S T r d)(C:At S A envs env own cx d)(a:yr)(ops:yk zD)(bs:yk yr)(p:Pos) :
  HN S A envs env own cx aq (eval (.Compare a ops bs p) env) (vG .bool r cx a ops bs):=by
 intro U O s q hr N;have h9:=ad hr; clear hr; obtain⟨⟨op,b⟩,hp,hr⟩:=h9;have h8:=kr hp;have e1:=h8.1;have e2:=h8.2.1;have hb:=h8.2.2;refine wq (by rw[e1,e2]) ?_;refine wpAny_Compare1 ((I.ev C a).seq hr N (λx ca am1 σ1 s1 v1 N1 X1 hr1 =>?_) (λZ Z h=>h)) (rz hb);refine(I.ev C b).seq hr1 N1 (λy cb am2 σ2 s2 v2 N2 X2 hr2 =>?_) (λZ Z h=>h.back X1);obtain⟨v,hv,rfl⟩:=bR hr2;obtain⟨c,hv2,rfl⟩:=y4.mp hv;exact sr N2.H B.Jh C.QH hv2 (v1.ext N1 X2) v2 λs' qq=>(HG.quiet N2 qq rfl).back (X1.trans X2)
theorem ti(B:Base S T)(I:HJ S T r d)(C:At S A envs env own cx d)(a:yr)(ops:yk zD)(bs:yk yr)(p:Pos)(whole:Sem yt) :
  HN S A envs env own cx RB (isTrue (.Compare a ops bs p) env whole) (vG id r cx a ops bs):=by
 intro U O s q hr N;have h9:=ad hr; clear hr; obtain⟨⟨op,b⟩,hp,hr⟩:=h9;have h8:=kr hp;have e1:=h8.1;have e2:=h8.2.1;have hb:=h8.2.2;refine wq (by rw[e1,e2]) ?_;refine wpAny_isTrue_Compare1 ((I.ev C a).seq hr N (λx ca am1 σ1 s1 v1 N1 X1 hr1 =>?_) (λZ Z h=>h)) (rz hb);refine(I.ev C b).seq hr1 N1 (λy cb am2 σ2 s2 v2 N2 X2 hr2 =>?_) (λZ Z h=>h.back X1);obtain⟨v,hv,rfl⟩:=bR hr2;obtain⟨c,hv2,rfl⟩:=y4.mp hv;exact sr N2.H B.Jh C.QH hv2 (v1.ext N1 X2) v2 λs' qq=>wpAny_truthy_bool ((HG.quiet N2 qq rfl).back (X1.trans X2))
theorem qJ(I:HJ S T r d)(C:At S A envs env own cx d)(e:yr)(he:isTrue e env (eval e env)=(do let v <- eval e env; standAt e.pos; holding [v] (truthy v))) :
  HN S A envs env own cx RB (isTrue e env (eval e env)) (M.bind (r.ev cx e) λv=>aE λhp nx=>dC hp nx v):=by
 intro U O s q hr N;refine wpAny_isTrue_value ((I.ev C e).seq hr N (λx ca am1 σ1 s1 v1 N1 X1 hr1 =>?_) (λZ Z h=>h)) he;obtain⟨v,hv,rfl⟩:=bR hr1;exact oa N1.H hv v1 λs' qq=>(HG.quiet N1 qq rfl).back X1
theorem j9(I:HJ S T r d)(C:At S A envs env own cx d)(op:BoolOp):∀es,HN S A envs env own cx RB (allTrue op es env) (vU op r cx es)
 |[]=>λU O s q hr N=>by
  (have h9:=si hr; clear hr; subst h9)
  cases op
  ·exact wpAny_allTrue_And_nil (HG.quiet N (.refl _) rfl)
  ·exact wpAny_allTrue_Or_nil (HG.quiet N (.refl _) rfl)
 |e::es=>λU O s q hr N=>by
  change M.bind (r.tr cx e) (λb=>if(op==.And)==b then vU op r cx es else pure b) O=some q at hr;cases op
  ·refine wpAny_allTrue_And_cons ((I.tr C e).seq hr N (λx cb am1 σ1 s1 v1 N1 X1 hr1 =>?_) (λZ Z h=>h));cases v1;cases x with
   |true=>exact(j9 I C .And es).last hr1 N1 (λZ Z h=>h.back X1) (λZ Z h=>h.back X1)
   |false=>(have h9:=si hr1; clear hr1; subst h9); exact(HG.quiet N1 (.refl _) rfl).back X1
  ·refine wpAny_allTrue_Or_cons ((I.tr C e).seq hr N (λx cb am1 σ1 s1 v1 N1 X1 hr1 =>?_) (λZ Z h=>h));cases v1;cases x with
   |true=>(have h9:=si hr1; clear hr1; subst h9); exact(HG.quiet N1 (.refl _) rfl).back X1
   |false=>exact(j9 I C .Or es).last hr1 N1 (λZ Z h=>h.back X1) (λZ Z h=>h.back X1)
theorem pc(I:HJ S T r d)(C:At S A envs env own cx d)(op:BoolOp)(p:Pos):∀es,HN S A envs env own cx aq (eval (.BoolOp op es p) env) (sQ op r cx es)
 |[]=>λU O s q hr N=>by exact nn hr
 |[e]=>λU O s q hr N=>BoolOp_one (I.ev C e U O s q hr N)
 |e::e'::es=>λU O s q hr N=>by
  change M.bind (r.ev cx e) (λv=>M.bind (aE λhp nx=>dC hp nx v) λb=>if(op==.And)==b then sQ op r cx (e'::es)else pure v) O=some q at hr;have step:∀(x:AV) (ca:yt) (am1:yk yp) (σ1:St) (s1:yy),aq am1 s1.heap x ca->HB S envs env own cx am1 σ1 s1->Ext own U O s am1 σ1 s1 ->
    M.bind (aE λhp nx=>dC hp nx x) (λb=>if(op==.And)==b then sQ op r cx (e'::es)else pure x) σ1=some q ->
    yq (yw S.prog S.w) A (truthy ca) (λc s2=>if(op==.And)==c then yq (yw S.prog S.w) A (eval (.BoolOp op (e'::es) p) env) (HG S envs env own cx aq U O s q) (H3 S envs env own cx U O s q) s2 else HG S envs env own cx aq U O s q ca s2) (H3 S envs env own cx U O s q) s1:=by
   intro x ca am1 σ1 s1 v1 N1 X1 hr1;obtain⟨b,hb,hr2⟩:=o7 hr1 (λq hq=>by obtain⟨a,_,rfl⟩:=bR hq; exact⟨a,rfl⟩);obtain⟨b',hb',e⟩:=bR hb;cases e;refine oa N1.H hb' v1 λs2 qq =>?_;have N2:=N1.quiet qq;have X2:=X1.trans (N1.H.H2 (own:=own) qq);by_cases hc:((op==.And)==b)=true
   ·rw[yo hc]at hr2 ⊢;exact(pc I C op p (e'::es)).last hr2 N2 (λZ Z h=>h.back X2) (λZ Z h=>h.back X2)
   ·rw[ym hc]at hr2 ⊢
    (have h9:=si hr2; clear hr2; subst h9)
    exact(HG.quiet N1 qq (v1.ext N1 (N1.H.H2 qq))).back X1
  cases op
  ·refine BoolOp_and ((I.ev C e).seq hr N (λx ca am1 σ1 s1 v1 N1 X1 hr1 =>?_) (λZ Z h=>h));refine yO (step x ca am1 σ1 s1 v1 N1 X1 hr1) (λc s2 h =>?_) (λZ Z h=>h);cases c<;>exact h
  ·refine BoolOp_or ((I.ev C e).seq hr N (λx ca am1 σ1 s1 v1 N1 X1 hr1 =>?_) (λZ Z h=>h));refine yO (step x ca am1 σ1 s1 v1 N1 X1 hr1) (λc s2 h =>?_) (λZ Z h=>h);cases c<;>exact h
variable{e:yr}
theorem c9(h:aR e=false)(es:yk yr)(pos:Pos):backTo pos (Ar (e::es) env)=(false,eval e env)::backTo pos (Ar es env):=by cases e<;>first|rfl|exact BD h
theorem fh(I:HJ S T r d)(C:At S A envs env own cx d)(pos:Pos):∀es,HN S A envs env own cx av (spliced (backTo pos (Ar es env))) (c7 r cx es)
 |[]=>λU O s q hr N=>by(have h9:=si hr; clear hr; subst h9); exact wpAny_items_nil (HG.quiet N (.refl _) rfl)
 |e::es=>λU O s q hr N=>by
  replace hr:(if aR e then M.fail else M.bind (r.ev cx e) λv=>M.bind (c7 r cx es) λvs=>pure (v::vs)) O=some q:=hr;cases hs:aR e with
  |true=>rw[hs]at hr; exact nn hr
  |false =>rw[hs]at hr;change M.bind (r.ev cx e) (λv=>M.bind (c7 r cx es) λvs=>pure (v::vs)) O=some q at hr;rw[c9 hs];refine FH ((I.ev C e).seq hr N (λx ca am1 σ1 s1 v1 N1 X1 hr1 =>?_) (λZ Z h=>h));refine(fh I C pos es).seq hr1 N1 (λys cs am2 σ2 s2 v2 N2 X2 hr2 =>?_) (λZ Z h=>h.back X1);exact⟨_,_,_,(si hr2).symm,⟨_,_,rfl,v1.ext N1 X2,v2⟩,N2,X1.trans X2⟩
set_option tactic.hygienic true in
theorem O7(I:HJ S T r d)(C:At S A envs env own cx d)(es:yk yr)(p:Pos) :
  HN S A envs env own cx aq (eval (.List es p) env) (M.bind (c7 r cx es) λvs=>if vs.length<=HC then pure (.lst vs)else M.fail):=by
 intro U O s q hr N;refine wpAny_List ((fh I C p es).seq hr N (λvs cs am1 σ1 s1 v1 N1 X1 hr1 =>?_) (λZ Z h=>h));split at hr1
 ·rename_i hz
  (have h9:=si hr1; clear hr1; subst h9)
  refine⟨by rw[<-v1.length]; exact yn hz bK,(HG.quiet N1 (.push ..) ?_).back X1⟩;exact aq.Je N1.H.HD N1.lt (by simpa using v1)
 ·exact nn hr1
set_option tactic.hygienic true in
theorem Mr(I:HJ S T r d)(C:At S A envs env own cx d)(es:yk yr)(k:Nat)(p:Pos) :
  HN S A envs env own cx aq (eval (.Tuple es k p) env) (M.bind (c7 r cx es) λvs=>if vs.length<=HC then pure (.tup vs)else M.fail):=by
 intro U O s q hr N;refine wpAny_Tuple ((fh I C p es).seq hr N (λvs cs am1 σ1 s1 v1 N1 X1 hr1 =>?_) (λZ Z h=>h));split at hr1
 ·rename_i hz
  (have h9:=si hr1; clear hr1; subst h9)
  refine⟨by rw[<-v1.length]; exact yn hz bK,(HG.quiet N1 (.push ..) ?_).back X1⟩;exact aq.Jd N1.H.HD (by simpa using v1)
 ·exact nn hr1
theorem HG.alloc(N:HB S envs env own cx U O s)(q:aF s s')(ha:s.heap.get? a=none)(ho:dN S.prog S.w S.P (U++[a]) s'.heap a o) :
  HG S envs env own cx aq U O s (.ok (.ref O.nx) {O with hp:=upd O.hp O.nx o,nx:=O.nx+1}) (.ref a) s':=by
 obtain⟨N',X'⟩:=N.alloc q ha ho;refine⟨_,_,U++[a],rfl,⟨a,rfl,?_⟩,N',X'⟩;rw[<-N.H.len,A9 (yF _)]; simp
theorem Lr{f:Nat->M β}:M.bind (new o) f O=f O.nx {O with hp:=upd O.hp O.nx o,nx:=O.nx+1}:=rfl
theorem uf(p:Pos):HN S A envs env own cx aq (eval (.List [] p) env) (M.bind (new (.list [])) λi=>pure (.ref i)):=by
 intro U O s q hr N;rw[Lr]at hr
 (have h9:=si hr; clear hr; subst h9)
 refine wpAny_List (wpAny_items_nil ⟨by decide,HG.alloc N (.push ..) (zm (yF _)) ⟨#[],0,y6 _ rfl,rfl⟩⟩)
theorem ug(p:Pos):HN S A envs env own cx aq (eval (.Dict [] [] p) env) (M.bind (new (.dict [] 0)) λi=>pure (.ref i)):=by
 intro U O s q hr N;rw[Lr]at hr
 (have h9:=si hr; clear hr; subst h9)
 refine wpAny_Dict_empty ?_;exact HG.alloc N (.push ..) (zm (yF _)) ⟨[],.new _,rfl,rfl⟩
theorem vZ{i:yr}{o:yt}(hi:∀a b c q,i≠.Slice a b c q):subscripted i false o c=operate [o,c] (getItem o c):=by cases i<;>first|rfl|exact yD rfl (hi _ _ _ _)
theorem RL(I:HJ S T r d)(C:At S A envs env own cx d)(o i:yr)(p:Pos)(hi:∀a b c q,i≠.Slice a b c q) :
  HN S A envs env own cx aq (eval (.Subscript o i p) env) (M.bind (r.ev cx o) λov=>M.bind (r.ev cx i) λiv=>aE λhp nx=>gc hp nx ov iv):=by
 intro U O s q hr N;refine Subscript_ ((I.ev C o).seq hr N (λx ca am1 σ1 s1 v1 N1 X1 hr1 =>?_) (λZ Z h=>h));refine(I.ev C i).seq hr1 N1 (λy cb am2 σ2 s2 v2 N2 X2 hr2 =>?_) (λZ Z h=>h.back X1);refine hdZ λGG hGG =>?_;obtain⟨v,hv,rfl⟩:=bR hr2;obtain⟨⟨T',id,h1,h2⟩,h3⟩:=xy (Q:=HG S envs env own cx aq U O s (.ok v σ2)) (E:=H3 S envs env own cx U O s (.ok v σ2)) N2.H hv (v1.ext N1 X2) v2 (λc s' qq hc=>(HG.quiet N2 qq hc).back (X1.trans X2));refine hGG ?_;refine tail_any h1 h2 h3 (ops:=[ca,cb]) ?_;exact vZ hi
noncomputable def RP:VR yt (yl AV):=cZ
theorem jS(I:HJ S T r d)(C:At S A envs env own cx d):∀o,HN S A envs env own cx RP (evalPart o env) (mf r cx o)
 |none=>λU O s q hr N=>by(have h9:=si hr; clear hr; subst h9); exact wpAny_evalPart_none (HG.quiet N (.refl _) rfl)
 |some e=>λU O s q hr N=>by change M.bind (r.ev cx e) (λv=>pure (some v)) O=some q at hr;refine wpAny_evalPart_some ((I.ev C e).seq hr N (λx ca am1 σ1 s1 v1 N1 X1 hr1 =>?_) (λZ Z h=>h));exact⟨_,_,_,(si hr1).symm,v1,N1,X1⟩
theorem cZ.ext{v:yl AV}(N:HB S envs env own cx U O s)(X:Ext own U O s U' O' s')(h:cZ U s.heap v c):cZ U' s'.heap v c:=by
 cases v with
 |none=>exact h
 |some v=>exact aq.ext N X h
theorem RM(I:HJ S T r d)(C:At S A envs env own cx d)(o:yr)(lo hi st:yl yr)(p p':Pos) :
  HN S A envs env own cx aq (eval (.Subscript o (.Slice lo hi st p') p) env)
   (M.bind (r.ev cx o) λov=>M.bind (mf r cx lo) λl=>M.bind (mf r cx hi) λh=>M.bind (mf r cx st) λs=>aE λhp nx=>kP hp nx ov l h s):=by
 intro U O s q hr N;refine Subscript_ ((I.ev C o).seq hr N (λx ca am1 σ1 s1 v1 N1 X1 hr1 =>?_) (λZ Z h=>h));refine wpAny_Slice ((jS I C lo).seq hr1 N1 (λl cl am2 σ2 s2 v2 N2 X2 hr2 =>?_) (λZ Z h=>h.back X1));refine(jS I C hi).seq hr2 N2 (λhh ch am3 σ3 s3 v3 N3 X3 hr3 =>?_) (λZ Z h=>h.back (X1.trans X2));refine(jS I C st).seq hr3 N3 (λk ck am4 σ4 s4 v4 N4 X4 hr4 =>?_) (λZ Z h=>h.back (X1.trans (X2.trans X3)));refine(let QQ:=_; let EE:=_; (?_:yq _ _ _ QQ EE _));obtain⟨v,hv,rfl⟩:=bR hr4;have X14:=X1.trans (X2.trans (X3.trans X4));have q5:=aF.push s4 {cls:=.type "slice",data:=.fields #[cl,ch,ck]} s4.toks;have N5:=N4.quiet q5;have X5:=N4.H.H2 (own:=own) q5;have V1:=((((v1.ext N1 X2).ext N2 X3).ext N3 X4).ext N4 X5);have V2:=cZ.ext N4 X5 (cZ.ext N3 X4 (cZ.ext N2 X3 v2));have V3:=cZ.ext N4 X5 (cZ.ext N3 X4 v3);have V4:=cZ.ext N4 X5 v4;obtain⟨⟨T',id,h1,h2⟩,h3⟩:=MJ (Q:=HG S envs env own cx aq U O s (.ok v σ4)) (E:=H3 S envs env own cx U O s (.ok v σ4)) (A:=A) N5.H hv V1 V2 V3 V4 (Heap.IsSliceOf.new _ _ _ _) (λc s' qq hc=>(HG.quiet N5 qq hc).back (X14.trans X5));cases st with
 |none=>exact tail_any h1 h2 h3 (ops:=[.ref s4.heap.objs.size,ca]) rfl
 |some st=>exact tail_any h1 h2 h3 (ops:=[ca,.ref s4.heap.objs.size]) rfl
theorem O6(I:HJ S T r d)(C:At S A envs env own cx d)(o i:yr)(p:Pos):HN S A envs env own cx aq (eval (.Subscript o i p) env) (My r cx o i):=by
 cases i with
 |Slice lo hi st p'=>exact RM I C o lo hi st p p'
 |_=>exact RL I C o _ p λa b c q e=>by cases e
theorem Mt(I:HJ S T r d)(C:At S A envs env own cx d)(es:yk yr)(p:Pos):HN S A envs env own cx aq (eval (.List es p) env) (vE r cx es):=by
 cases es with
 |nil=>exact uf p
 |cons e es=>exact O7 I C (e::es) p
theorem Ms(I:HJ S T r d)(C:At S A envs env own cx d)(t e:yr)(p:Pos) :
  HN S A envs env own cx aq (eval (.NamedExpr t e p) env) (vD r cx t e):=by
 intro U O s q hr N;have h9:=ad hr; clear hr; obtain⟨x,hx,hr⟩:=h9;refine(let QQ:=_; let EE:=_; (?_:yq _ _ _ QQ EE _));cases t with
 |Name y p' =>
  cases(hx);refine wpAny_NamedExpr ((I.ev C e).seq hr N (λv ca am1 σ1 s1 v1 N1 X1 hr1 =>?_) (λZ Z h=>h));change M.bind (bu cx x v) (λZ=>pure v) σ1=some q at hr1;unfold M.bind at hr1;cases hs:bu cx x v σ1 with
  |none=>rw[hs]at hr1; exact nn hr1
  |some q' =>refine Co (fE C N1 hs v1 λO' s' e1 e2 N' X' =>?_);subst e1;rw[hs]at hr1;exact⟨_,_,_,(si hr1).symm,v1.ext N1 X',N',X1.trans X'⟩
 |_=>exact nn hx
set_option tactic.hygienic true in
theorem N9{q:Res AO}(h:rd i O=some q):i<O.nx/\q=.ok (O.hp i) O:=by
 unfold rd at h;split at h
 ·rename_i hi; (have h9:=si h; clear h; subst h9); exact⟨hi,rfl⟩
 ·exact nn h
theorem aN{f:AO->M β}{q:Res β}(h:M.bind (rd i) f O=some q):IM (i<O.nx) (f (O.hp i)) O q:=by
 unfold M.bind at h;cases e:rd i O with
 |none=>rw[e]at h; exact nn h
 |some p=>obtain⟨h1,rfl⟩:=N9 e; rw[e]at h; exact⟨h1,h⟩
set_option tactic.hygienic true in
theorem kT{f:yu->M β}{q:Res β}(h:M.bind (wr i o) f O=some q):IM (i<O.nx) (f ()) {O with hp:=upd O.hp i o} q:=by
 unfold M.bind wr at h;split at h
 ·exact nn h
 ·rename_i e;split at e
  ·rename_i hi;cases e; exact⟨hi,h⟩
  ·exact nn e
 ·rename_i e;split at e<;>(first|exact nn e|cases e)
variable{q:Res yu}
set_option tactic.hygienic true in
theorem dQ(h:wr i o O=some q):i<O.nx/\q=.ok () {O with hp:=upd O.hp i o}:=by
 unfold wr at h;split at h
 ·rename_i hi; (have h9:=si h; clear h; subst h9); exact⟨hi,rfl⟩
 ·exact nn h
variable{kvs:yk (Int×AV)}
theorem aC.cons_inv{k:Int}{cs:yk (Int×yt)}(x:aC U h ((k,v)::kvs) cs):∃c r,cs=(k,c)::r/\aq U h v c/\aC U h kvs r:=by
 obtain⟨h1,h2⟩:=x;cases cs with
 |nil=>simp at h1
 |cons c' cs =>refine hdZ λGG hGG =>?_;have c1:=c'.1;have c2:=c'.2;simp only[za,AM]at h1;obtain⟨rfl,h1⟩:=h1;obtain⟨d,r,e,hv',hr⟩:=h2;simp only[za,AM]at e;obtain⟨rfl,rfl⟩:=e;refine hGG ?_;exact⟨_,_,rfl,hv',h1,hr⟩
theorem aC.nil_inv{cs:yk (Int×yt)}(x:aC U h [] cs):cs=[]:=by
 cases cs with
 |nil=>rfl
 |cons c cs=>have:=x.1; simp at this
theorem aC.cons{k:Int}{cs:yk (Int×yt)}(hv:aq U h v c)(x:aC U h kvs cs):aC U h ((k,v)::kvs) ((k,c)::cs) :=
 ⟨by simp[x.1],⟨_,_,rfl,hv,x.2⟩⟩
theorem aC.Jm{k:Int}(hv:aq U h v c):∀{kvs:yk (Int×AV)} {cs:yk (Int×yt)},aC U h kvs cs ->
  aC U h (kvs.map λkv=>if kv.1=k then(kv.1,v)else kv) (cs.map λkv=>if kv.1=k then(kv.1,c)else kv)
 |[],cs=>λx=>by rw[x.nil_inv]; exact⟨rfl,rfl⟩
 |(j,u)::kvs,cs=>λx=>by
  obtain⟨c',r,rfl,hu,hr⟩:=x.cons_inv;have ih:=aC.Jm (k:=k) hv hr;by_cases q:j=k
  ·simp only[za,q,AW]; exact .cons hv ih
  ·simp only[za,q,BA]; exact .cons hu ih
theorem aC.filter{k:Int}:∀{kvs:yk (Int×AV)} {cs:yk (Int×yt)},aC U h kvs cs->aC U h (Internal.without kvs k) (PySem.without cs k)
 |[],cs=>λx=>by rw[x.nil_inv]; exact⟨rfl,rfl⟩
 |(j,u)::kvs,cs=>λx=>by
  obtain⟨c',r,rfl,hu,hr⟩:=x.cons_inv;have ih:=aC.filter (k:=k) hr;unfold Internal.without PySem.without at ih ⊢;by_cases q:j=k
  ·simp only[B4,q,ne_eq,not_true_eq_false,decide_false,BS,BA]; exact ih
  ·simp only[B4,q,ne_eq,not_false_eq_true,decide_true,AW]; exact .cons hu ih
variable{kvs':yk (Int×AV)}
theorem aC.append{cs cs':yk (Int×yt)}(x:aC U h kvs cs)(y:aC U h kvs' cs'):aC U h (kvs++kvs') (cs++cs') :=
 ⟨by simp[x.1,y.1],by rw[yN,yN]; exact x.2.append y.2⟩
theorem aC.stored{cs:yk (Int×yt)}{k:Int}(x:aC U h kvs cs)(hv:aq U h v c):aC U h (Internal.stored kvs k v) (PySem.stored cs k c):=by
 have hany:kvs.any (λkv=>decide (kv.1=k))=cs.any (λkv=>decide (kv.1=k)):=by
  have e1:kvs.any (λkv=>decide (kv.1=k))=(kvs.map (·.1)).any (λj=>decide (j=k)):=by rw[EA]; rfl
  have e2:cs.any (λkv=>decide (kv.1=k))=(cs.map (·.1)).any (λj=>decide (j=k)):=by rw[EA]; rfl
  rw[e1,e2,x.1]
 unfold Internal.stored PySem.stored;rw[hany];split
 ·exact x.Jm hv
 ·exact x.append (.cons hv ⟨rfl,rfl⟩)
theorem aC.mono(hk:bq U h h')(ha:fw U h)(hx:JM U U' h){cs:yk (Int×yt)}(x:aC U h kvs cs):aC U' h' kvs cs :=
 ⟨x.1,x.2.mono hk ha hx⟩
theorem aC.length{cs:yk (Int×yt)}(x:aC U h kvs cs):kvs.length=cs.length:=by have:=x.2.length; simpa using this
theorem Mv(ks:yk (yl yr))(vs:yk yr)(p:Pos):HN S A envs env own cx aq (eval (.Dict ks vs p) env) (vF ks vs):=by
 intro U O s q hr N;cases ks with
 |nil =>obtain⟨h,hr1⟩:=az hr;rw[zv.mp h];exact ug p U O s q hr1 N
 |cons k ks=>exact nn hr
variable{pos:Pos}
section
variable{M:Model}
theorem a8{f:yt}{first:yk yt}{args:yk (yx×Sem yt)}{kws:yk (yl Str×Sem yt)}
  (h:yq M A (evalArgs f true args kws) (λa s₁=>(∃k,∀Q':BY->yy->Prop,Q' k s₁->yq M A (keeperOf f) Q' E s₁)/\yq M A (call f (first++a.pos) a.kw) Q E s₁) E s):yq M A (callWith pos f first args kws) Q E s:=by
 unfold callWith;refine yz (zw (yO h (λa s₁ h₁=>yz (A6 ?_)) λZ Z x=>x));refine hdZ λGG hGG =>?_;obtain⟨⟨k,hk⟩,hc⟩:=h₁;refine hGG ?_;have tail:∀{t:Sem yt},yq M A t Q E s₁->yq M A (t >>=λr=>holding [r] point >>=λZ=>pure r) Q E s₁ :=
  λht=>yz (yO ht (λr s₂ hr=>yz (zw (Fu (yG hr)))) λZ Z x=>x)
 have marked (mk:yt):yq M A (callMarked mk f (first++a.pos) a.kw) Q E s₁:=by unfold callMarked; exact Calls.wpAny_keep hc
 refine yz (hk _ ?_);cases k<;>cases(args.any (·.1)||kws.any (·.1.isNone))<;>dsimp only<;>first
  |exact tail (marked _)
  |exact tail hc
  |exact tail (wpAny_operating hc)
  |(split<;>first|exact tail hc|exact tail (marked _))
theorem dY(id:yL):∃k,∀Q':BY->yy->Prop,Q' k s->yq M A (keeperOf (.builtin id)) Q' E s:=⟨.machine,λZ h=>yG h⟩
theorem jX(id:yL):∃k,∀Q':BY->yy->Prop,Q' k s->yq M A (keeperOf (.type id)) Q' E s:=⟨.machine,λZ h=>yG h⟩
theorem oH{o:Obj}{fd:Bn}(h:s.heap.get? a=some o)(hd:o.data=.func fd):∃k,∀Q':BY->yy->Prop,Q' k s->yq M A (keeperOf (.ref a)) Q' E s :=
 ⟨.frame,λZ hq=>by
  unfold keeperOf;refine yz (Cp h ?_);rw[hd]; exact yG hq⟩
end
noncomputable def Qz:VR Args (yk AV):=λU h vs a=>av U h vs a.pos/\a.kw=[]
theorem b9(I:HJ S T r d)(C:At S A envs env own cx d)(f:yt)(pos:Pos)(es:yk yr):HN S A envs env own cx Qz (evalArgs f true (backTo pos (Ar es env)) []) (c7 r cx es):=by
 intro U O s q hr N;refine(let QQ:=_; let EE:=_; (?_:yq _ _ _ QQ EE _));cases es with
 |nil=>(have h9:=si hr; clear hr; subst h9); exact PySem.evalArgs_none (HG.quiet N (.refl _) ⟨rfl,rfl⟩)
 |cons e es =>
  cases hs:aR e with
  |true =>replace hr:(if aR e then M.fail else M.bind (r.ev cx e) λv=>M.bind (c7 r cx es) λvs=>pure (v::vs)) O=some q:=hr;rw[hs]at hr; exact nn hr
  |false =>have h:=fh I C pos (e::es) U O s q hr N;rw[c9 hs]at h ⊢;refine FG (yO h (λcs s' hc =>?_) (λZ Z h=>h));obtain⟨v,O',U',e1,e2,e3,e4⟩:=hc;exact⟨v,O',U',e1,⟨e2,rfl⟩,e3,e4⟩
theorem lF{Q:yk yt->yy->Prop}(N:HB S envs env own cx U O s)(hc:aq U s.heap v c)
  (hv:(∃us,v=.tup us/\vs=us)\/items? O.hp O.nx v=some vs) (hz:vs.length<=HC)
  (h:∀cs s',aF s s'->av U s'.heap vs cs->Q cs s'):StarOf (yw S.prog S.w) A E c Q s:=by
 rcases hv with⟨us,rfl,rfl⟩|hv
 ·refine hdZ λGG hGG =>?_;obtain⟨a,xs,rfl,⟨o,ho,hcl,n,hd⟩,_,hx⟩:=hc;refine hGG ?_;have hlen:vs.length=xs.size:=by simpa using hx.length
  have z:yq (yw S.prog S.w) A (collect (.ref a)) Q E s:=by refine Fs a (.inr rfl) ho hcl hd (λh' hk =>?_) (yn (hlen▸hz) bK);have q:aF s {s with heap:=h'}:=⟨hk,rfl,rfl⟩;exact h _ _ q (hx.mono (q.keeps U) N.H.HD (.refl ..))
  unfold StarOf notIterableAtAll;exact yz (Fv (T :="tuple") ⟨o,ho,hcl⟩ PySem.F.slot_tuple_iter.lookup (yG ⟨rfl,z⟩))
 ·refine hdZ λGG hGG =>?_;obtain⟨a,xs,rfl,⟨o,ho,hcl,n,hd⟩,hx⟩:=aP N.H hc hv;refine hGG ?_;have hlen:vs.length=xs.size:=by simpa using hx.length
  have z:yq (yw S.prog S.w) A (collect (.ref a)) Q E s:=by refine Fs a (.inl rfl) ho hcl hd (λh' hk =>?_) (yn (hlen▸hz) bK);have q:aF s {s with heap:=h'}:=⟨hk,rfl,rfl⟩;exact h _ _ q (hx.mono (q.keeps U) N.H.HD (.refl ..))
  unfold StarOf notIterableAtAll;exact yz (Fv (T :="list") ⟨o,ho,hcl⟩ PySem.F.slot_list_iter.lookup (yG ⟨rfl,z⟩))
theorem wb(e:yr):(lG e).elim True λf=>∃p,e=.Starred f p:=by cases e<;>first|exact zJ|exact⟨_,rfl⟩
theorem kh{f:yr}(h:lG e=some f):∃p,e=.Starred f p:=by have q:=wb e; rw[h]at q; exact q
theorem xf{es:yk yr}{f:yr}(h:Te es=some f):∃p,es=[.Starred f p]:=by
 match es,h with
 |[e],h=>obtain⟨p,rfl⟩:=kh h; exact⟨p,rfl⟩
theorem pj{es:yk yr}{q:yr×yr}(h:uK es=some q):∃p,aR q.1=false/\es=[q.1,.Starred q.2 p]:=by
 cases es with
 |nil=>exact nn h
 |cons e r=>cases r with
 |nil=>exact nn h
 |cons f r=>cases r with
 |cons _ _=>exact nn h
 |nil =>
  change (if aR e=true then none else(lG f).map λf=>(e,f))=some q at h;cases hs:aR e with
  |true=>rw[hs]at h; exact nn h
  |false =>rw[hs]at h;obtain⟨f',hf,rfl⟩:=y4.mp h;obtain⟨p,rfl⟩:=kh hf;exact⟨p,hs,rfl⟩
theorem fH{q:Res (yk AV)}(h:eG v O=some q):∃vs,((∃us,v=.tup us/\vs=us)\/items? O.hp O.nx v=some vs)/\vs.length<=1000/\q=.ok vs O:=by
 have fin:∀{vs:yk AV},(if vs.length<=1000 then pure vs else M.fail:M (yk AV)) O=some q->vs.length<=1000/\q=.ok vs O:=λ{vs} h=>by
  by_cases hz:vs.length<=1000
  ·rw[yo hz]at h; (have h9:=si h; clear h; subst h9); exact⟨hz,rfl⟩
  ·rw[ym hz]at h; exact nn h
 change M.bind (bj v.Iy (λvs=>pure vs) (aE λhp nx=>items? hp nx v)) _ O=_ at h;cases e:v.Iy with
 |some us=>rw[e]at h; exact⟨us,.inl ⟨us,AV.I7 e,rfl⟩,fin h⟩
 |none =>rw[e]at h;change M.bind (aE λhp nx=>items? hp nx v) _ O=_ at h;obtain⟨vs,h1,h2⟩:=bb h;exact⟨vs,.inr h1,fin h2⟩
theorem LP(h:n<=1000):n<=HC:=yn h (by decide)
theorem fU(I:HJ S T r d)(C:At S A envs env own cx d)(f:yt)(pos:Pos)(es:yk yr):HN S A envs env own cx Qz (evalArgs f true (backTo pos (Ar es env)) []) (qs r cx es):=by
 intro U O s q hr N;refine(let QQ:=_; let EE:=_; (?_:yq _ _ _ QQ EE _));rcases aH hr with⟨e,he,hr⟩|⟨-,hr'⟩
 ·obtain⟨p,rfl⟩:=xf he;refine ks_lone ((I.ev C e).seq hr N (λv c am1 σ1 s1 v1 N1 X1 hr1 =>?_) (λZ Z h=>h));refine hdZ λGG hGG =>?_;obtain⟨vs,h1,hz,rfl⟩:=fH hr1;refine hGG ?_;exact lF N1 v1 h1 (LP hz) λcs s' qq hc=>(HG.quiet N1 qq ⟨hc,rfl⟩).back X1
 ·clear hr;rcases aH hr' with⟨p,he,hr⟩|⟨-,hr⟩
  ·clear hr';obtain⟨ps,hs',rfl⟩:=pj he;obtain⟨e,f'⟩:=p;change M.bind (r.ev cx e) (λu=>M.bind (r.ev cx f') λv=>M.bind (eG v) λvs=>pure (u::vs)) O=some q at hr;rw[c9 hs'];refine FG (FH ((I.ev C e).seq hr N (λu cu am1 σ1 s1 v1 N1 X1 hr1 =>?_) (λZ Z h=>h)));refine ks_spliced (rest:=[]) ((I.ev C f').seq hr1 N1 (λv c am2 σ2 s2 v2 N2 X2 hr2 =>?_) (λZ Z h=>h.back X1));obtain⟨vs,h1,hr3⟩:=o7 hr2 (λq hq=>by obtain⟨vs,_,_,rfl⟩:=fH hq; exact⟨vs,rfl⟩);obtain⟨vs',h2,hz,e'⟩:=fH h1;cases e'
   (have h9:=si hr3; clear hr3; subst h9)
   refine lF N2 v2 h2 (LP hz) λcs s' qq hc=>yG ?_;refine(HG.quiet N2 qq ⟨?_,rfl⟩).back (X1.trans X2);rw[yX];exact⟨_,_,rfl,(v1.ext N1 X2).ext N2 (N2.H.H2 qq),hc⟩
  ·exact b9 I C f pos es U O s q hr N
theorem hZ(hfit:(xs.size:Int)<2 ^ 63):Meets (As.«bool.__new__» ⟨[.type "bool",.ref a],[]⟩) (λZ R s=>s.heap.IsList a xs/\R (.ok (.ret (.bool (!xs.isEmpty)))) {s with toks:=s.toks+1+1}) :=
 Meets.of_wp λprog w A R s hs=>by
  refine(let QQ:=_; let EE:=_; (?_:yq _ _ _ QQ EE _));obtain⟨hp,g,d,tk,os⟩:=s;have hl:=hs.1;have hs:=hs.2;have f1:=F.conv_sub_bool
  repeat (any_goals (first|assumption|(with_reducible refine wpAny_truthy_list hl hfit ?_)|wp_step))
  all_goals first|exact⟨_,rfl,hs⟩|exact hs|skip
theorem mZ(hl:s.heap.IsList a xs)(hfit:(xs.size:Int)<2 ^ 63)(h:Q (.bool (!xs.isEmpty)) {s with toks:=s.toks+1+1}):yq (yw prog w) A (call (.type "bool") [.ref a]) Q E s :=
 call_bool_1 (hZ hfit) ⟨hl,(show wants (λobj s₁=>s₁.TypeIs obj "bool" /\ Q obj s₁) E _ _ from⟨rfl,h⟩)⟩
theorem mY(hl:s.heap.IsList a xs)(h:Q (.ref s.heap.objs.size) {s with heap:=s.heap.push {cls:=.type "list_iterator",data:=.fields #[.ref a,.int 0 0]}}) :
  yq (yw prog w) A (call (.builtin "iter") [.ref a]) Q E s:=by
 refine FF (by decide +kernel) (by decide +kernel) kdk_entry_iter (kdk_args_iter _) ?_;unfold As.«iter»;refine yz (m:=someArgs "iter" 1 2 _) (Cq (a:=[zW a]) (by first|rfl|kernel_rfl) ?_);show yq _ _ (pyIter (.ref a) >>=_) _ _ _;refine yz (C4 hl ?_);exact yG ⟨_,rfl,h⟩
theorem rL(x y:Int)(r:yk Int):jY x (y::r)=if x<=y then x::y::r else y::jY x r:=rfl
theorem gN(x:Int):∀l,(jY x l).Perm (x::l)
 |[]=>.refl _
 |y::r=>by
  rw[rL];split
  ·exact .refl _
  ·exact((gN x r).cons y).trans (.swap x y r)
theorem iY:∀l,(cz l).Perm l
 |[]=>.refl _
 |x::r=>(gN x (cz r)).trans ((iY r).cons x)
set_option tactic.hygienic true in
theorem ik(x:Int):∀l:yk Int,l.Pairwise (· <= ·)->(jY x l).Pairwise (· <= ·)
 |[]=>λZ=>Bu _ _
 |y::r=>λh=>by
  obtain⟨h1,h2⟩:=Ak.mp h;rw[rL];split
  ·rename_i hxy;refine Ak.mpr ⟨λz hz =>?_,h⟩;rcases yP.mp hz with rfl|hz
   ·exact hxy
   ·exact Bp hxy (h1 z hz)
  ·rename_i hxy;refine Ak.mpr ⟨λz hz =>?_,ik x r h2⟩;rcases yP.mp ((gN x r).mem_iff.mp hz)with rfl|hz
   ·lia
   ·exact h1 z hz
theorem gp:∀l,(cz l).Pairwise (· <= ·)
 |[]=>.nil
 |x::r=>ik x _ (gp r)
theorem d6{l l':yk Int}(hp:l'.Perm l)(hs:l'.Pairwise (· <= ·)):l'=cz l :=
 Gk (λa b Z Z h1 h2=>FV h1 h2) hs (gp l) (hp.trans (iY l).symm)
variable{ns:yk Int}
theorem pv{vs:yk yt}(hl:s.heap.IsTuple l vs.toArray)(hI:A8 vs ns)(h64:vs.length<64)
  (h:∀(a:yp) (h':yC) (out:yM yt) (ns':yk Int),A8 out.toList ns'->ns'.Perm ns->ns'.Pairwise (· <= ·)->(∀b o,s.heap.get? b=some o->h'.get? b=some o)->s.heap.get? a=none->h'.IsList a out->Q (.ref a) {s with heap:=h'}) :
  yq (yw prog w) A (call (.builtin "sorted") [.ref l]) Q E s:=by
 refine FF kind_sorted plain_sorted entry_sorted (args_sorted1 _) ?_;unfold As.«sorted»;refine yz (m:=checkCount "sorted" 1 1 _) (yG ?_);refine hdZ λGG hGG =>?_;obtain⟨o,ho,hc,n,hd⟩:=hl;refine hGG ?_;refine yz (Fs l (.inr rfl) ho hc hd (λh₁ hk =>?_) (by simp only[CK]; exact yn (zz h64) (by decide)));refine yz (wpAny_newList ?_);have hoL:(h₁.push (seqObj "list" vs.toArray 0)).get? h₁.objs.size=some (seqObj "list" vs.toArray 0):=y6 _ rfl;have fresh:s.heap.get? h₁.objs.size=none:=by
  cases q:s.heap.get? h₁.objs.size with
  |none=>rfl
  |some o'=>exact yD (Ab (hk _ _ q)) (zt _)
 refine yz (zw (Fq slot_list_sort ⟨_,hoL,rfl⟩ entry_list_sort (list_sort_tree hoL hI h64 λout ns' a1 a2 a3=>⟨_,rfl,?_⟩) (args_list_sort _)));obtain⟨e,he⟩:=sortedHeap_at (out:=out) hoL;refine yG ⟨_,rfl,h h₁.objs.size _ out ns' a1 a2 a3 (λb ob eb =>?_) fresh ⟨_,he,rfl,_,rfl⟩⟩;have hb:b≠h₁.objs.size:=λq=>by rw[q,fresh]at eb; exact nn eb
 have hlt:b<(h₁.push (seqObj "list" vs.toArray 0)).objs.size:=Ab (zR _ (hk b ob eb));rw[sortedHeap_old hb hlt];exact zR _ (hk b ob eb)
theorem Tc(x y:Str):Spec.ltCps x.cps.toList y.cps.toList=decide (x.cps.toList<y.cps.toList):=ltCps_eq _ _
theorem oF{a b c:yk Nat}(h1:¬b<a)(h2:¬c<b):¬c<a:=by have h1':a<=b:=h1;have h2':b<=c:=h2;exact(Std.le_trans h1' h2':a<=c)
theorem pZ{a b:yk Nat}(h1:¬b<a)(h2:¬a<b):a=b:=by have h1':a<=b:=h1;have h2':b<=a:=h2;exact Std.le_antisymm h1' h2'
noncomputable abbrev Rr(x y:Str):Prop:=¬y.cps.toList<x.cps.toList
theorem pY{x y:Str}(h1:Rr x y)(h2:Rr y x):x=y:=by have:=pZ h1 h2;cases x; cases y; simp at this; simp[this]
theorem gM(x y:Str)(r:yk Str):ew x (y::r)=if decide (y.cps.toList<x.cps.toList)then y::ew x r else x::y::r:=rfl
theorem gL(x:Str):∀l,(ew x l).Perm (x::l)
 |[]=>.refl _
 |y::r=>by
  rw[gM];split
  ·exact((gL x r).cons y).trans (.swap x y r)
  ·exact .refl _
theorem iX:∀l,(aD l).Perm l
 |[]=>.refl _
 |x::r=>(gL x (aD r)).trans ((iX r).cons x)
set_option tactic.hygienic true in
theorem ij(x:Str):∀l:yk Str,l.Pairwise Rr->(ew x l).Pairwise Rr
 |[]=>λZ=>Bu _ _
 |y::r=>λh=>by
  obtain⟨h1,h2⟩:=Ak.mp h;rw[gM];split
  ·rename_i hxy;refine Ak.mpr ⟨λz hz =>?_,ij x r h2⟩;rcases yP.mp ((gL x r).mem_iff.mp hz)with rfl|hz
   ·simp only[ze]at hxy;exact λq=>yD (Std.lt_trans hxy q) (Std.lt_irrefl)
   ·exact h1 z hz
  ·rename_i hxy;refine Ak.mpr ⟨λz hz =>?_,h⟩;simp only[ze]at hxy;rcases yP.mp hz with rfl|hz
   ·exact hxy
   ·exact oF hxy (h1 z hz)
theorem gj:∀l,(aD l).Pairwise Rr
 |[]=>.nil
 |x::r=>ij x _ (gj r)
theorem i0:∀(l:yk Str) (p:Str),risingS p l=true->(p::l).Pairwise Rr
 |[]=>λp Z=>by simp
 |x::r=>λp h=>by
  simp only[risingS,zg,Ct,Tc,Hv]at h;have ih:=i0 r x h.2;obtain⟨i1,i2⟩:=Ak.mp ih;refine Ak.mpr ⟨λz hz =>?_,ih⟩;rcases yP.mp hz with rfl|hz
  ·exact h.1
  ·exact oF h.1 (i1 z hz)
theorem pw:∀l:yk Str,sortedS l=true->l.Pairwise Rr
 |[]=>λZ=>.nil
 |x::r=>λh=>i0 r x h
theorem lH{l l':yk Str}(hp:l'.Perm l)(hs:sortedS l'=true):l'=aD l :=
 Gk (λZ Z Z Z h1 h2=>pY h1 h2) (pw _ hs) (gj l) (hp.trans (iX l).symm)
theorem lB:∀{vs:yk AV} {cs:yk yt} {xs:yk Str},av U h vs cs->f8 vs=some xs->StrsAre cs xs
 |[],cs,xs=>λe hi=>by cases e; cases(show some []=some xs from hi); exact .nil
 |v::vs,cs,xs=>λe hi=>by
  obtain⟨c,r,rfl,hv,hr⟩:=e;cases v with
  |str i =>obtain⟨ys,hy,rfl⟩:=y4.mp hi;obtain⟨t,rfl⟩:=hv;exact .cons _ _ (lB hr hy)
  |_=>exact nn hi
theorem Kc{is:yk Str}(x:StrsAre cs is):av U h (is.map .str) cs:=by
 induction x with
 |nil=>rfl
 |cons n t r ih=>exact⟨_,_,rfl,⟨t,rfl⟩,ih⟩
theorem Kd{is:yk Str}(x:StrsAre cs is):cs.length=is.length:=by
 induction x with
 |nil=>rfl
 |cons n t r ih=>simp[ih]
noncomputable def uu:yL->yt
 |"abs"=> .builtin "abs"
 |"int"=> .type "int"
 |"type"=> .type "type"
 |"bool"=> .type "bool"
 |"len"=> .builtin "len"
 |"divmod"=> .builtin "divmod"
 |"chr"=> .builtin "chr"
 |"bytes"=> .type "bytes"
 |"tuple"=> .type "tuple"
 |"list"=> .type "list"
 |"sorted"=> .builtin "sorted"
 |"max"=> .builtin "max"
 |"sum"=> .builtin "sum"
 |"set"=> .type "set"
 |"iter"=> .builtin "iter"
 |_=>.none
theorem av.Rv(x:av U h [] cs):cs=[]:=x
theorem av.inv1(x:av U h [v] cs):∃c,cs=[c]/\aq U h v c:=by obtain⟨c,r,rfl,hv,hr⟩:=x; cases hr; exact⟨c,rfl,hv⟩
variable{u:AV}
theorem av.inv2(x:av U h [v,u] cs):∃c d,cs=[c,d]/\aq U h v c/\aq U h u d:=by obtain⟨c,r,rfl,hv,hr⟩:=x; obtain⟨d,rfl,hu⟩:=hr.inv1; exact⟨c,d,rfl,hv,hu⟩
set_option tactic.hygienic true in
theorem ky:∀{vs:yk AV} {os:yk yQ},bS vs=some os->∃is:yk Int,bz vs=some is/\(∀n∈is,0<=n/\n<256)/\os=is.map λn=>z8 n.toNat
 |[],os=>λh=>by(have h9:=si h; clear h; subst h9); exact⟨[],rfl,by simp,rfl⟩
 |v::vs,os=>λh=>by
  cases v with
  |int i =>?_
  |_=>exact nn h
  replace h:(if 0<=i/\i<256 then(bS vs).map (z8 i.toNat :: ·)else none)=some os:=h;by_cases hi:0<=i/\i<256
  ·rw[yo hi]at h;obtain⟨os',ho,rfl⟩:=y4.mp h;obtain⟨is,h1,h2,rfl⟩:=ky ho;exact⟨i::is,yI (DT (i :: ·)) h1,λn hn=>(yP.mp hn).elim (λe=>e▸hi) (λhn=>h2 n hn),by simp⟩
  ·rw[ym hi]at h; exact nn h
theorem mA(x:A8 cs is):av U h (is.map .int) cs:=by
 induction x with
 |nil=>rfl
 |cons n t r ih=>exact⟨_,_,rfl,⟨t,rfl⟩,ih⟩
theorem tZ:∀{is:yk Int} {m:Int},ie is=some m->m∈is/\∀a∈is,a<=m
 |[],m=>λh=>by simp[ie]at h
 |x::r,m=>λh=>by
  simp only[ie,Hh]at h;have key:∀(r:yk Int) (x:Int),(r.foldl (λa b=>if b>a then b else a) x∈x::r)/\(∀a∈x::r,a<=r.foldl (λa b=>if b>a then b else a) x):=by
   intro r;induction r with
   |nil=>intro x; simp
   |cons y r ih =>
    intro x;rw[Aw];obtain⟨h1,h2⟩:=ih (if y>x then y else x);refine⟨?_,?_⟩
    ·rcases yP.mp h1 with e|e
     ·rw[e]; split<;>simp
     ·simp[e]
    ·intro a ha;have h3:=h2 (if y>x then y else x) (by simp);rcases yP.mp ha with rfl|ha
     ·refine Bp ?_ h3; split<;>lia
     ·rcases yP.mp ha with rfl|ha
      ·refine Bp ?_ h3; split<;>lia
      ·exact h2 a (by simp[ha])
  subst h; exact key r x
theorem rm(hi:A8 xs.toList ns):∃ps:yM (Int×Tok),xs=intItems ps/\ns=ps.toList.map (·.1):=by obtain⟨l⟩:=xs;obtain⟨ps,e⟩:=(IntsAre.allInts (l:=l) hi).items;refine⟨ps,e,?_⟩;rw[<-IntsAre.numsOf hi,<-nums_intItems,<-e]
theorem empty_eq(h:vs.length=xs.size):(!xs.isEmpty) = !vs.isEmpty:=by
 cases vs with
 |nil=>simp at h; have:xs = #[]:=D7 h.symm; subst this; rfl
 |cons v vs =>
  simp at h;have:xs.isEmpty=false:=by rw[Fy]; intro q; subst q; simp at h
  rw[this]; rfl
theorem HG.OF{t:Nat}(N:HB S envs env own cx U O s)(hk:∀b o,s.heap.get? b=some o->h'.get? b=some o)(hn:s.heap.get? a=none)(hl:h'.IsList a xs)(hx:av U s.heap vs xs.toList) :
  HG S envs env own cx aq U O s (.ok (.lst vs) O) (.ref a) {s with heap:=h',toks:=t}:=by
 have q:aF s {s with heap:=h',toks:=t}:=⟨hk,rfl,rfl⟩;refine HG.quiet N q ⟨a,xs,rfl,hl,λhm =>?_,hx.mono (q.keeps U) N.H.HD (.refl ..)⟩;obtain⟨o,e,_⟩:=N.H.HD a hm;rw[hn]at e; exact nn e
theorem av.one?{args:yk AV}(hv:av U h args cs)(e:one? args=some v):∃c,cs=[c]/\aq U h v c:=by
 cases args with
 |nil=>cases e
 |cons a r=>cases r with
  |cons c r=>cases e
  |nil=>rw[<-si e]; exact hv.inv1
theorem av.NH{args:yk AV}{p:AV×AV}(hv:av U h args cs)(e:NH args=some p):∃c d,cs=[c,d]/\aq U h p.1 c/\aq U h p.2 d:=by
 cases args with
 |nil=>cases e
 |cons a r=>cases r with
  |nil=>cases e
  |cons b r=>cases r with
   |cons c r=>cases e
   |nil=>rw[<-si e]; exact hv.inv2
noncomputable def Jt(S:au)(A:zX)(envs:Frs)(env:Env)(own:yk yp)(cx:Cx)(f:yL)(g:yk AV->M AV):Prop :=
 ∀{U:yk yp} {O:St} {s:yy} {args:yk AV} {cs:yk yt} {q:Res AV},(f ≠ "len" -> A.handled=none)->A.units+10<cLine->HB S envs env own cx U O s->(S.h₀.get? AJ).isSome=true->g args O=some q->av U s.heap args cs ->
  yq (yw S.prog S.w) A (call (uu f) cs) (HG S envs env own cx aq U O s q) (H3 S envs env own cx U O s q) s
theorem M2:Jt S A envs env own cx "abs" TJ:=λZ Z N Z hr hv=>by
 have h9:=ad hr; clear hr; obtain⟨v,e,hr⟩:=h9;have h9:=ad hr; clear hr; obtain⟨i,e2,hr⟩:=h9
 (have h9:=si hr; clear hr; subst h9)
 obtain⟨c,rfl,h1⟩:=hv.one? e;obtain⟨t,rfl⟩:=h1.ofInt e2;refine call_abs_int λu tk =>?_;have e:(if i<0 then -i else i)=(i.natAbs:Int):=by
  split
  ·exact(F0 (Cy (by assumption))).symm
  ·exact(FX (BW.mp (by assumption))).symm
 rw[e]; exact HG.quiet N (.tok ..) ⟨_,rfl⟩
theorem M0:Jt S A envs env own cx "int" TH:=λZ Z N Z hr hv=>by
 have h9:=ad hr; clear hr; obtain⟨v,e,hr⟩:=h9;have h9:=ad hr; clear hr; obtain⟨i,e2,hr⟩:=h9
 (have h9:=si hr; clear hr; subst h9)
 obtain⟨c,rfl,h1⟩:=hv.one? e;obtain⟨t,rfl⟩:=h1.ofInt e2;exact call_int_int (HG.quiet N (.refl _) ⟨_,rfl⟩)
theorem yb:Jt S A envs env own cx "type" Qu:=λZ Z N Z hr hv=>by
 have h9:=ad hr; clear hr; obtain⟨v,e,hr⟩:=h9;obtain⟨c,rfl,h1⟩:=hv.one? e;have h9:=aH hr; clear hr; rcases h9 with⟨b,hb,hr⟩|⟨-,hr⟩
 ·(have h9:=si hr; clear hr; subst h9)
  obtain⟨t,rfl⟩:=h1.ofBytes hb;exact call_type_of (D0 _ _ t) rfl (HG.quiet N (.refl _) rfl)
 ·have h9:=ad hr; clear hr; obtain⟨b,hb,hr⟩:=h9
  (have h9:=si hr; clear hr; subst h9)
  cases h1.ofBool hb;exact call_type_of (Tx :="bool") rfl rfl (HG.quiet N (.refl _) rfl)
theorem dS(hx:av U h vs xs.toList):vs.length=xs.size:=by simpa using hx.length
theorem yf:Jt S A envs env own cx "bool" vR:=λZ Z N Z hr hv=>by have h9:=ad hr; clear hr; obtain⟨v,e,hr⟩:=h9;have h9:=bb hr; clear hr; obtain⟨vs,hi,hr⟩:=h9;obtain⟨hz,rfl⟩:=bf hr;obtain⟨c,rfl,h1⟩:=hv.one? e;obtain⟨a,xs,rfl,hl,hx⟩:=aP N.H h1 hi;have hlen:=dS hx;have hbig:HC=1000000:=rfl;refine mZ hl (by lia) ?_;rw[empty_eq hlen]; exact HG.quiet N (.tok ..) rfl
theorem MZ:Jt S A envs env own cx "len" yd:=λZ Z N Z hr hv=>by
 have h9:=ad hr; clear hr; obtain⟨v,e,hr⟩:=h9;obtain⟨c,rfl,h1⟩:=hv.one? e;have h9:=aH hr; clear hr; rcases h9 with⟨b,hb,hr⟩|⟨-,hr⟩
 ·obtain⟨hz,rfl⟩:=bf hr;obtain⟨t,rfl⟩:=h1.ofBytes hb;exact PySem.W.len_bytes (yn hz (by decide)) (HG.quiet N (.tok ..) ⟨_,rfl⟩)
 ·have h9:=aH hr; clear hr; rcases h9 with⟨vs,hvs,hr⟩|⟨-,hr⟩
  ·obtain⟨hz,rfl⟩:=bf hr;obtain⟨a,xs,rfl,hl,-,hx⟩:=h1.I9 hvs;have hlen:=dS hx;refine len_tuple hl (fit63 hz hlen) ?_;rw[<-hlen]; exact HG.quiet N (.tok ..) ⟨_,rfl⟩
  ·have h9:=bb hr; clear hr; obtain⟨vs,hi,hr⟩:=h9;obtain⟨hz,rfl⟩:=bf hr;obtain⟨a,xs,rfl,hl,hx⟩:=aP N.H h1 hi;have hlen:=dS hx;refine len_list hl (fit63 hz hlen) ?_;rw[<-hlen]; exact HG.quiet N (.tok ..) ⟨_,rfl⟩
theorem sI:Jt S A envs env own cx "divmod" vQ:=λZ Z N Z hr hv=>by have h9:=ad hr; clear hr; obtain⟨p,e,hr⟩:=h9;have h9:=ad hr; clear hr; obtain⟨i,e1,hr⟩:=h9;have h9:=ad hr; clear hr; obtain⟨j,e2,hr⟩:=h9;obtain⟨hc,rfl⟩:=bf hr;obtain⟨c,d,rfl,h1,h2⟩:=hv.NH e;obtain⟨t,rfl⟩:=h1.ofInt e1;obtain⟨u,rfl⟩:=h2.ofInt e2;simp only[zg,DV,ne_eq]at hc;exact divmod_int hc.1 (HG.quiet N (.push ..) (aq.Jd N.H.HD ⟨_,_,rfl,⟨_,rfl⟩,⟨_,_,rfl,⟨_,rfl⟩,rfl⟩⟩)) (.inl (SX hc.2))
theorem M1:Jt S A envs env own cx "chr" RX:=λZ Z N Z hr hv=>by have h9:=ad hr; clear hr; obtain⟨v,e,hr⟩:=h9;have h9:=ad hr; clear hr; obtain⟨i,e2,hr⟩:=h9;obtain⟨hc,rfl⟩:=bf hr;obtain⟨c,rfl,h1⟩:=hv.one? e;obtain⟨t,rfl⟩:=h1.ofInt e2;refine P.chr_of_int ?_ (HG.quiet N (.tok ..) ⟨_,rfl⟩);simp only[Ed,Hv]; lia
theorem ux:Jt S A envs env own cx "bytes" nj:=λhh Z N Z hr hv=>by have h9:=ad hr; clear hr; obtain⟨v,e,hr⟩:=h9;have h9:=bb hr; clear hr; obtain⟨vs,hi,hr⟩:=h9;have h9:=ad hr; clear hr; obtain⟨os,ho,hr⟩:=h9;refine hdZ λGG hGG =>?_;obtain⟨hz,rfl⟩:=bf hr;obtain⟨c,rfl,h1⟩:=hv.one? e;obtain⟨a,⟨xs⟩,rfl,hl,hx⟩:=aP N.H h1 hi;obtain⟨is,h3,h4,rfl⟩:=ky ho;refine hGG ?_;have hlen:=dS hx;exact call_bytes_ints (vs:=xs) hl (hx.ints h3) h4 (yn (show xs.length<=HC from(show vs.length=xs.length from hlen)▸hz) bK) (hh (by decide)) λh' t k hk=>HG.quiet N ⟨hk,rfl,rfl⟩ ⟨t,rfl⟩
theorem uw:Jt S A envs env own cx "tuple" qC:=λ{U O s args cs q} _ _ N _ hr hv=>by have h9:=ad hr; clear hr; obtain⟨v,e,hr⟩:=h9;have h9:=bb hr; clear hr; obtain⟨vs,hi,hr⟩:=h9;obtain⟨hz,rfl⟩:=bf hr;obtain⟨c,rfl,h1⟩:=hv.one? e;obtain⟨a,xs,rfl,hl,hx⟩:=aP N.H h1 hi;have hlen:=dS hx;refine call_tuple_list hl (λh' hk =>?_) (yn (hlen▸hz) bK);have q1:aF s {s with heap:=h'}:=⟨hk,rfl,rfl⟩;have N1:=N.quiet q1;exact(HG.quiet (s:={s with heap:=h'}) N1 (.push ..) (aq.Jd N1.H.HD (hx.mono (q1.keeps U) N.H.HD (.refl ..)))).back (N.H.H2 q1)
theorem LJ(N:HB S envs env own cx U O s)(hl:s.heap.IsList a xs)(hx:av U s.heap vs xs.toList)(hz:vs.length<=HC) :
  yq (yw S.prog S.w) A (call (uu "list") [.ref a]) (HG S envs env own cx aq U O s (.ok (.lst vs) O)) E s:=by
 refine hdZ λGG hGG =>?_;obtain⟨o,ho,hc,n,hd⟩:=hl;refine hGG ?_;exact call_list_seq a (.inl rfl) ho hc hd (λh' c' hk hn=>HG.OF N hk (zm (yF _)) ⟨_,hn,rfl,_,rfl⟩ hx) (yn (dS hx▸hz) bK)
theorem yc:Jt S A envs env own cx "list" vO:=λZ Z N Z hr hv=>by have h9:=ad hr; clear hr; obtain⟨v,e,hr⟩:=h9;obtain⟨c,rfl,h1⟩:=hv.one? e;have h9:=ad hr; clear hr; obtain⟨i,hi,hr⟩:=h9;have h9:=aN hr; clear hr; obtain⟨hlt,hr⟩:=h9;have h9:=ad hr; clear hr; obtain⟨vs,hvs,hr⟩:=h9;obtain⟨a,rfl,ha⟩:=h1.H4 hi;obtain⟨a',h2,hm,h3⟩:=N.H.at hlt;rw[ha]at h2; (have h9:=si h2; clear h2; subst h9);obtain⟨hz,rfl⟩:=bf hr;rw[AO.HP hvs]at h3;obtain⟨xs,n,hl,hx⟩:=h3;exact LJ N hl.isList hx hz
theorem sH:Jt S A envs env own cx "sorted" fY:=λ{U O s args cs q} _ _ N _ hr hv=>by
 have h9:=ad hr; clear hr; obtain⟨v,e,hr⟩:=h9;obtain⟨c,rfl,h1⟩:=hv.one? e;have h9:=aH hr; clear hr; rcases h9 with⟨vs,hvs,hr⟩|⟨-,hr⟩
 ·have h9:=ad hr; clear hr; obtain⟨is,hi,hr⟩:=h9;obtain⟨hz,rfl⟩:=bf hr;obtain⟨a,⟨xs⟩,rfl,hl,_,hx⟩:=h1.I9 hvs;have hia:=hx.ints hi;refine pv (vs:=xs) hl hia (show xs.length<64 from hia.length▸hz) λa' h' out ns' g1 g2 g3 hk hn hl' =>?_;rw[<-d6 g2 g3];exact HG.OF N hk hn hl' (mA g1)
 ·have h9:=bb hr; clear hr; obtain⟨vs,hvs,hr⟩:=h9;obtain⟨a,⟨xs⟩,rfl,hl,hx⟩:=aP N.H h1 hvs;have h9:=aH hr; clear hr; rcases h9 with⟨is,hi,hr⟩|⟨-,hr⟩
  ·obtain⟨hz,rfl⟩:=bf hr;have hia:=hx.ints hi;refine sorted_ints (vs:=xs) hl hia (show xs.length<64 from hia.length▸hz) λout ns' g1 g2 g3 =>?_;rw[<-d6 g2 g3];obtain⟨e,he⟩:=sortedAll_at s.heap xs out;exact HG.OF (t:=s.toks) N (λZ Z=>sortedAll_old) (zm (Am _)) ⟨_,he,rfl,_,rfl⟩ (mA g1)
  ·have h9:=ad hr; clear hr; obtain⟨ss,hs,hr⟩:=h9;obtain⟨hz,rfl⟩:=bf hr;have hia:=lB hx hs;refine sorted_strs (vs:=xs) hl hia (show xs.length<64 from by have:=Kd hia; simp only at this; lia) λout ns' g1 g2 g3 =>?_;rw[<-lH g2 g3];obtain⟨e,he⟩:=sortedAll_at s.heap xs out;exact HG.OF (t:=s.toks) N (λZ Z=>sortedAll_old) (zm (Am _)) ⟨_,he,rfl,_,rfl⟩ (Kc g1)
theorem Po{ps:yM (Int×Tok)}{m:Int}(hm:ie (ps.toList.map (·.1))=some m):0<ps.size/\numAt ps (argBest (λi j=>decide (numAt ps i>numAt ps j)) (ps.size-1))=m:=by
 have hpos:0<ps.size:=by
  cases q:ps.size with
  |zero=>have:ps = #[]:=D7 q; subst this; simp[ie]at hm
  |succ n=>exact Bh n
 obtain⟨g1,g2⟩:=argBest_gt (numAt ps) (ps.size-1);obtain⟨m1,m2⟩:=tZ hm;refine⟨hpos,FV ?_ ?_⟩
 ·refine m2 _ ?_;rw[numAt_eq]; exact getD_mem (by rw[yE,C5]; exact yR g1 (DO hpos BL))
 ·obtain⟨j,hj,e⟩:=mem_getD m1;rw[yE,C5]at hj;rw[<-e,<-numAt_eq]; exact g2 j (Nat.le_pred_of_lt hj)
theorem MY:Jt S A envs env own cx "max" RW:=λhh Z N Z hr hv=>by
 have h9:=ad hr; clear hr; obtain⟨v,e,hr⟩:=h9;have h9:=bb hr; clear hr; obtain⟨us,hus,hr⟩:=h9;have h9:=ad hr; clear hr; obtain⟨is,hi,hr⟩:=h9;have h9:=ad hr; clear hr; obtain⟨m,hm,hr⟩:=h9
 (have h9:=si hr; clear hr; subst h9)
 refine hdZ λGG hGG =>?_;obtain⟨c,rfl,h1⟩:=hv.one? e;obtain⟨a,xs,rfl,hl,hx⟩:=aP N.H h1 hus;obtain⟨ps,rfl,rfl⟩:=rm (hx.ints hi);obtain⟨hpos,e⟩:=Po hm;refine hGG ?_;refine max_intList (hh (by decide)) hl hpos λv h' tk hv' hk =>?_;obtain⟨t,rfl⟩:=intItems_at hv';rw[e]; exact HG.quiet N ⟨hk,rfl,rfl⟩ ⟨_,rfl⟩
theorem MW:Jt S A envs env own cx "sum" RV:=λhh Z N Z hr hv=>by
 have h9:=ad hr; clear hr; obtain⟨v,e,hr⟩:=h9;have h9:=bb hr; clear hr; obtain⟨vs,hvs,hr⟩:=h9;have h9:=ad hr; clear hr; obtain⟨is,hi,hr⟩:=h9
 (have h9:=si hr; clear hr; subst h9)
 refine hdZ λGG hGG =>?_;obtain⟨c,rfl,h1⟩:=hv.one? e;obtain⟨a,xs,rfl,hl,hx⟩:=aP N.H h1 hvs;obtain⟨ps,rfl,rfl⟩:=rm (hx.ints hi);refine hGG ?_;refine sum_intListG (hh (by decide)) hl λh' tk t' hk =>?_;rw[preSum_eq,B9 (by simp)]; exact HG.quiet N ⟨hk,rfl,rfl⟩ ⟨_,rfl⟩
theorem MX:Jt S A envs env own cx "set" TG:=λ{U O s args cs q} _ _ N _ hr hv=>by
 cases args with
 |cons _ _=>exact nn hr
 |nil =>
  cases hv.Rv
  (have h9:=si hr; clear hr; subst h9)
  refine call_set_0 λled=>HG.alloc N (.push ..) (zm (yF _)) ?_;have hs:=(intSetOf_fresh led) S.prog S.w;exact SetOf_congr (hs.setOf (y6 _ rfl) (by decide)) (λk=>rfl) rfl
theorem ye:Jt S A envs env own cx "iter" vP:=λ{U O s args cs q} _ _ N _ hr hv=>by
 have h9:=ad hr; clear hr; obtain⟨v,e,hr⟩:=h9;have h9:=ad hr; clear hr; obtain⟨i,hi,hr⟩:=h9;have h9:=aN hr; clear hr; obtain⟨hlt,hr⟩:=h9;have h9:=ad hr; clear hr; obtain⟨vs,hvs,hr⟩:=h9
 (have h9:=si hr; clear hr; subst h9)
 refine hdZ λGG hGG =>?_;obtain⟨c,rfl,h1⟩:=hv.one? e;obtain⟨a,rfl,ha⟩:=h1.H4 hi;obtain⟨a',h2,hm,h3⟩:=N.H.at hlt;refine hGG ?_;rw[ha]at h2; (have h9:=si h2; clear h2; subst h9);rw[AO.HP hvs]at h3;refine hdZ λGG hGG =>?_;obtain⟨xs,n,hl,hx⟩:=h3;refine hGG ?_;refine mY hl.isList (HG.alloc N (.push ..) (zm (yF _)) ⟨a,?_,y6 _ rfl⟩);rw[AD (y2.mp ha).1]; exact ha
theorem MS:∀p∈Pk,Jt S A envs env own cx p.1 p.2 :=
 zx.mpr ⟨M2,zx.mpr ⟨M0,zx.mpr ⟨yb,zx.mpr ⟨yf,zx.mpr ⟨MZ,zx.mpr ⟨sI,zx.mpr ⟨M1,zx.mpr ⟨ux,zx.mpr ⟨uw,zx.mpr ⟨yc,zx.mpr ⟨sH,zx.mpr ⟨MY,zx.mpr ⟨MW,zx.mpr ⟨MX,zx.mpr ⟨ye,λZ h=>nomatch h⟩⟩⟩⟩⟩⟩⟩⟩⟩⟩⟩⟩⟩⟩⟩
theorem iA[BEq α][LawfulBEq α]{x:α}{v:β}:∀{l:yk (α×β)},l.lookup x=some v->(x,v)∈l
 |(y,w)::r,h=>by
  rw[zi]at h;cases e:x==y with
  |true=>rw[e]at h; (have h9:=si h; clear h; subst h9); rw[eq_of_beq e]; exact .head _
  |false=>rw[e]at h; exact .tail _ (iA h)
theorem xY{f:yL}{args:yk AV}{q:Res AV}(hh:f ≠ "len" -> A.handled=none)(hu:A.units+10<cLine)(N:HB S envs env own cx U O s)(hb4:(S.h₀.get? AJ).isSome=true)(hr:bM f args O=some q)(hv:av U s.heap args cs) :
  yq (yw S.prog S.w) A (call (uu f) cs) (HG S envs env own cx aq U O s q) (H3 S envs env own cx U O s q) s:=by
 have h9:=aH hr; clear hr; rcases h9 with⟨g,hg,hr⟩|⟨-,hr⟩
 ·exact MS _ (iA hg) hh hu N hb4 hr hv
 ·exact nn hr
set_option tactic.hygienic true in
theorem fK{f:yu->M β}{q:Res β}(h:M.bind (dT i vs) f O=some q):vs.length<=HC/\i<O.nx/\f () {O with hp:=upd O.hp i (.list vs)}=some q:=by
 unfold dT at h;split at h
 ·rename_i hz; obtain⟨h1,h2⟩:=kT h; exact⟨hz,h1,h2⟩
 ·exact nn h
theorem HG.Jc{m:Nat}{t:Nat}(N:HB S envs env own cx U O s)(hi:U[i]?=some a)(ho:∃us,O.hp i=.list us)(hs:zY a s.heap h')(hl:IsL h' a ys m)(hx:av U s.heap vs ys.toList)(hv:aq U s.heap v c) :
  HG S envs env own cx aq U O s (.ok v {O with hp:=upd O.hp i (.list vs)}) c {s with heap:=h',toks:=t}:=by
 have hk:bq U s.heap h':=λb ob e hn Z=>(hs.2 b (λq=>hn (q▸zy hi))).trans e;obtain⟨N',X'⟩:=N.write (t:=t) hi hs (o:=.list vs) ⟨ys,m,hl,hx.mono hk N.H.HD (.refl ..)⟩ (λkvs v e=>by obtain⟨us,hu⟩:=ho; rw[hu]at e; cases e) (λvs e=>by obtain⟨us,hu⟩:=ho; rw[hu]at e; obtain⟨rfl,e⟩:=e; exact e);exact⟨_,_,U,rfl,hv.mono hk N.H.HD (.refl ..),N',X'⟩
theorem jW(hi:i<nx):cQ hp nx (.ref i)=AO.kind? (hp i):=yo hi
noncomputable def Vg(S:au)(A:zX)(envs:Frs)(env:Env)(own:yk yp)(cx:Cx)(U:yk yp)(O:St)(s:yy)(o:AV)(co:yt)(cs:yk yt)(name:yL)(q:Res AV):Prop :=
 ∃Ty id,cQ O.hp O.nx o=some Ty/\PlainAttrs Ty/\Slot Ty (Str.ofString name) id/\typeOf (.builtin id)=pure (.type "method_descriptor")/\s.TypeIs co Ty/\(∀a,co=.ref a->∃ob,s.heap.get? a=some ob/\ob.dict=none) /\
  yq (yw S.prog S.w) A (call (.builtin id) (co::cs)) (HG S envs env own cx aq U O s q) (H3 S envs env own cx U O s q) s
noncomputable def Iu(S:au)(A:zX)(envs:Frs)(env:Env)(own:yk yp)(cx:Cx)(name:yL)(g:AV->yk AV->M AV):Prop :=
 ∀{U:yk yp} {O:St} {s:yy} {o:AV} {args:yk AV} {co:yt} {cs:yk yt} {q:Res AV},HB S envs env own cx U O s->(S.h₀.get? AJ).isSome=true->g o args O=some q->aq U s.heap o co->av U s.heap args cs->Vg S A envs env own cx U O s o co cs name q
theorem t0:Iu S A envs env own cx "index" t1:=λN Z hr ho hv=>by
 have h9:=ad hr; clear hr; obtain⟨x,hx,hr⟩:=h9;have h9:=ad hr; clear hr; obtain⟨v,e,hr⟩:=h9;have h9:=ad hr; clear hr; obtain⟨y,hy,hr⟩:=h9;have h9:=ad hr; clear hr; obtain⟨i,hi,hr⟩:=h9
 (have h9:=si hr; clear hr; subst h9)
 obtain⟨t,rfl⟩:=ho.ofStr hx;obtain⟨c,rfl,h1⟩:=hv.one? e;obtain⟨u,rfl⟩:=h1.ofStr hy;obtain⟨rest,hoc⟩:=List.head?_eq_some_iff.mp hi;refine⟨"str",_,by unfold cQ; rw[hx],Dj,Ek,F.type_str_index,C2 _ _ _,λa e=>(nomatch e),?_⟩;exact call_gives Ek (C2 _ _ _) F.entry_str_index (F.args_str_index_2 _ _) (gives_str_index _ _ _ _ _ _ hoc) (HG.quiet N (.tok ..) ⟨_,rfl⟩)
theorem tu{ss:yk Str}(x:StrsAre cs ss):∃l:yk (Str×Tok),cs=strValues l/\ss=l.map (·.1):=by
 induction x with
 |nil=>exact⟨[],rfl,rfl⟩
 |cons y t r ih=>obtain⟨l,rfl,rfl⟩:=ih; exact⟨(y,t)::l,rfl,rfl⟩
theorem xd:Iu S A envs env own cx "join" LG:=λ{U O s o args co cs q} N _ hr ho hv=>by
 have h9:=ad hr; clear hr; obtain⟨x,hx,hr⟩:=h9;have h9:=ad hr; clear hr; obtain⟨v,e,hr⟩:=h9;have h9:=bb hr; clear hr; obtain⟨vs,hvs,hr⟩:=h9;have h9:=ad hr; clear hr; obtain⟨ss,hss,hr⟩:=h9;obtain⟨hz,rfl⟩:=bf hr;obtain⟨t,rfl⟩:=ho.ofStr hx;obtain⟨c,rfl,h1⟩:=hv.one? e;obtain⟨a,xs,rfl,hl,hxs⟩:=aP N.H h1 hvs;refine⟨"str",_,by unfold cQ; rw[hx],Dj,El,F.type_str_join,C2 _ _ _,λa e=>(nomatch e),?_⟩;obtain⟨l,e1,rfl⟩:=tu (lB hxs hss);have hl':s.heap.IsList a (strValues l).toArray:=by rw[<-e1]; simpa using hl
 refine C0 El (C2 _ _ _) F.entry_str_join (F.args_str_join_2 _ _) (meets_str_join_list _ _ a l hz.1) ⟨hl',?_⟩;cases l with
 |nil=>exact⟨yn hz.2 bK,HG.quiet N (.tok ..) ⟨_,rfl⟩⟩
 |cons p l =>
  cases l with
  |nil=>exact HG.quiet N (.refl _) ⟨_,rfl⟩
  |cons p' l=>exact⟨yn hz.2 bK,HG.quiet N (.tok ..) ⟨_,rfl⟩⟩
theorem lj{o:AV}(N:HB S envs env own cx U O s)(ho:aq U s.heap o co)(e:o.HO=some i)(hi:i<O.nx)(hv:(O.hp i).H6=some vs) :
  ∃a xs n,co=.ref a/\U[i]?=some a/\O.hp i=.list vs/\IsL s.heap a xs n/\av U s.heap vs xs.toList/\cQ O.hp O.nx o=some "list":= by
 refine hdZ λGG hGG =>?_;obtain⟨a,rfl,ha⟩:=ho.H4 e;obtain⟨a',h2,hm,h3⟩:=N.H.at hi;refine hGG ?_;rw[ha]at h2; (have h9:=si h2; clear h2; subst h9);have hvs:=AO.HP hv;rw[hvs]at h3;refine hdZ λGG hGG =>?_;obtain⟨xs,n,hl,hx⟩:=h3;refine hGG ?_;exact⟨a,xs,n,rfl,ha,hvs,hl,hx,by rw[AV.Ib e,jW hi,hvs]; rfl⟩
theorem jw(hl:IsL h a xs n):∀b,zW a=.ref b->∃ob,h.get? b=some ob/\ob.dict=none:=λb e=>by cases e; exact⟨_,hl,rfl⟩
theorem rB:Iu S A envs env own cx "append" pV:=λ{U O s o args co cs q} N _ hr ho hv=>by
 have h9:=ad hr; clear hr; obtain⟨i,hi,hr⟩:=h9;have h9:=aN hr; clear hr; obtain⟨hlt,hr⟩:=h9;have h9:=ad hr; clear hr; obtain⟨vs,hvs,hr⟩:=h9;have h9:=ad hr; clear hr; obtain⟨v,e,hr⟩:=h9;obtain⟨hz,_,hr⟩:=fK hr
 (have h9:=si hr; clear hr; subst h9)
 refine hdZ λGG hGG =>?_;obtain⟨a,xs,n,rfl,ha,hl0,hl,hx,hm⟩:=lj N ho hi hlt hvs;obtain⟨c,rfl,hc⟩:=hv.one? e;refine hGG ?_;have hz':xs.size+1<=HC:=by rw[<-dS hx]; simpa using hz
 refine⟨_,_,hm,BU,Dk,FQ,⟨_,hl,rfl⟩,jw hl,?_⟩;exact C0 Dk ⟨_,hl,rfl⟩ FK (FJ _ _) (list_append a xs n c (yn (zC hz') bK)) ⟨hl,HG.Jc (t:=s.toks) N ha ⟨_,hl0⟩ (Bo ..) (Ds hl _) (by rw[FA]; exact hx.append (.one hc)) rfl⟩
theorem ul(h:0<xs.size):(xs.eraseIdxIfInBounds (xs.size-1)).toList=xs.toList.take (xs.size-1):=by obtain⟨l⟩:=xs;have hl0:l.length-1<l.length:=DO h BL;rw[Array.eraseIdxIfInBounds,dif_pos (show(⟨l⟩:yM yt).size-1<(⟨l⟩:yM yt).size from hl0)];simp[List.eraseIdx_eq_take_drop_succ,show l.length-1+1=l.length from AN h]
theorem LF:Iu S A envs env own cx "pop" Rl:=λ{U O s o args co cs q} N _ hr ho hv=>by
 have h9:=ad hr; clear hr; obtain⟨i,hi,hr⟩:=h9;have h9:=aN hr; clear hr; obtain⟨hlt,hr⟩:=h9;have h9:=ad hr; clear hr; obtain⟨vs,hvs,hr⟩:=h9;cases args with
 |cons _ _=>exact nn hr
 |nil =>
  have h9:=ad hr; clear hr; obtain⟨v,hlast,hr⟩:=h9;obtain⟨hz,_,hr⟩:=fK hr
  (have h9:=si hr; clear hr; subst h9)
  cases hv.Rv;refine hdZ λGG hGG =>?_;obtain⟨a,xs,n,rfl,ha,hl0,hl,hx,hm⟩:=lj N ho hi hlt hvs;have hlen:=dS hx;rw[List.length_dropLast]at hz;rw[EN]at hlast;obtain⟨c,hc,hcv⟩:=hx.get hlast;refine hGG ?_;have hpos:0<xs.size:=hlen▸yR (zc _) (y2.mp hlast).1;rw[hlen]at hc;refine⟨_,_,hm,BU,Ej,F.type_list_pop,⟨_,hl,rfl⟩,jw hl,?_⟩;refine C0 Ej ⟨_,hl,rfl⟩ F.entry_list_pop (F.args_list_pop_1 _) (MeetsSeq.list_pop_last a xs n c (by simpa using hc) (by first|exact yn (DJ (hlen▸hz)) (by decide)|exact yR (DJ (hlen▸hz)) (by decide))) ⟨hl,?_⟩;refine HG.Jc (t:=s.toks) N ha ⟨_,hl0⟩ (Bo ..) (Ds hl _) ?_ hcv;rw[ul hpos,List.dropLast_eq_take,hlen];exact hx.take _
theorem t3:Iu S A envs env own cx "clear" t4:=λ{U O s o args co cs q} N _ hr ho hv=>by
 have h9:=ad hr; clear hr; obtain⟨i,hi,hr⟩:=h9;have h9:=aN hr; clear hr; obtain⟨hlt,hr⟩:=h9;have h9:=ad hr; clear hr; obtain⟨vs,hvs,hr⟩:=h9;cases args with
 |cons _ _=>exact nn hr
 |nil =>
  cases hv.Rv;refine hdZ λGG hGG =>?_;obtain⟨a,xs,n,rfl,ha,hl0,hl,hx,hm⟩:=lj N ho hi hlt hvs;refine hGG ?_;by_cases hz:vs.length<=HC
  ·rw[show(([]:yk AV).isEmpty&&decide (vs.length<=HC))=true from y9 hz,yo rfl]at hr;have h8:=fK hr;have hr:=h8.2.2
   (have h9:=si hr; clear hr; subst h9)
   refine⟨_,_,hm,BU,Ei,FR,⟨_,hl,rfl⟩,jw hl,?_⟩;exact C0 Ei ⟨_,hl,rfl⟩ F.entry_list_clear (F.args_list_clear_1 _) (AutoSeq1.list_clear_list_0 a xs n (yn (dS hx▸hz) bK)) ⟨hl,HG.Jc (t:=s.toks) N ha ⟨_,hl0⟩ (Bo ..) (Ds hl _) rfl rfl⟩
  ·rw[show(([]:yk AV).isEmpty&&decide (vs.length<=HC))=false from AS hz]at hr;exact nn hr
theorem nV{args:yk AV}{p:Int×AV}(hv:av U h args cs)(e:vy args=some p):∃t,cs=[.int p.1 t]/\p.2=.none:=by
 cases args with
 |nil=>exact nn e
 |cons k r=>cases r with
 |cons _ _=>exact nn e
 |nil =>obtain⟨i,hi,rfl⟩:=y4.mp e;obtain⟨c,rfl,h1⟩:=hv.inv1;obtain⟨t,rfl⟩:=h1.ofInt hi;exact⟨t,rfl,rfl⟩
theorem got{ks:yk (Int×yt)}{k:Int}{d:AV}(hp:aC U h kvs ks)(hk:bq U h h')(ok:fw U h)(hd:aq U h d c):aq U h' ((kvs.lookup k).getD d) ((valueAt ks k).getD c):=by have e:=cN hp k;cases h5:kvs.lookup k<;>cases h6:valueAt ks k<;>rw[h5,h6]at e<;>first|exact hd.mono hk ok (.refl ..)|exact aq.mono hk ok (.refl ..) e|exact e.elim
theorem LH:Iu S A envs env own cx "get" Rm:=λ{U O s o args co cs q} N hb4 hr ho hv=>by
 have h9:=ad hr; clear hr; obtain⟨i,hi,hr⟩:=h9;have h9:=aN hr; clear hr; obtain⟨hlt,hr⟩:=h9;have h9:=ad hr; clear hr; obtain⟨d,hd,hr⟩:=h9;have h9:=ad hr; clear hr; obtain⟨p,hp,hr⟩:=h9
 (have h9:=si hr; clear hr; subst h9)
 obtain⟨a,rfl,ha⟩:=ho.H4 hi;obtain⟨a',h2,hm,h3⟩:=N.H.at hlt;rw[ha]at h2; (have h9:=si h2; clear h2; subst h9);rw[AO.HV hd]at h3;obtain⟨ks,hks,hpr⟩:=h3;have hmk:cQ O.hp O.nx o=some "dict":= by rw[AV.Ib hi,jW hlt,AO.HV hd]; rfl
 have hbare:∀b,zW a=.ref b->∃ob,s.heap.get? b=some ob/\ob.dict=none:=λb e=>by cases e; exact(dI hks).noDict _ rfl
 have hk:∀t,(y1 S.prog S.w).is p.1 (.int p.1 t)=true:=λt=>by show Ay p.1 (.int p.1 t)=true; simp[Ay]
 obtain⟨t,rfl,e⟩:=nV hv hp;refine⟨_,_,hmk,Di,Eh,F.type_dict_get,hks.typeIs,hbare,?_⟩;refine DX Eh hks.typeIs F.entry_dict_get (F.args_dict_get_2 _ _) (meets_dict_get (y1 S.prog S.w) a (k:=p.1) (hk t) (yi N.H hb4 hm)) ⟨_,dI hks,?_⟩;rw[e];exact HG.quiet N (.tok ..) (got (c:=.none) hpr (λZ Z e Z Z=>e) N.H.HD rfl)
theorem PC(ks:yk Int)(k k':Int):(ks.contains k'||decide (k'=k))=(if ks.contains k then ks else ks++[k]).contains k':=by
 by_cases q:ks.contains k=true
 ·rw[yo q];by_cases q':k'=k
  ·subst q'; rw[q,y9 rfl]; rfl
  ·rw[AS q',Dc]
 ·rw[ym q,Gq,Gq,List.any_append];simp only[B0,List.any_nil,Dc];rfl
theorem LI:Iu S A envs env own cx "add" Rn:=λ{U O s o args co cs q} N _ hr ho hv=>by
 have h9:=ad hr; clear hr; obtain⟨i,hi,hr⟩:=h9;have h9:=aN hr; clear hr; obtain⟨hlt,hr⟩:=h9;have h9:=ad hr; clear hr; obtain⟨ks,hks,hr⟩:=h9;have h9:=ad hr; clear hr; obtain⟨v,e,hr⟩:=h9;have h9:=ad hr; clear hr; obtain⟨k,hk,hr⟩:=h9;obtain⟨a,rfl,ha⟩:=ho.H4 hi;obtain⟨a',h2,hm,h3⟩:=N.H.at hlt;rw[ha]at h2; (have h9:=si h2; clear h2; subst h9);have hvs:=AO.I8 hks;rw[hvs]at h3;obtain⟨c,rfl,hc⟩:=hv.one? e;obtain⟨t,rfl⟩:=hc.ofInt hk;by_cases hz:ks.length<=1000
 ·rw[yo hz]at hr;have h9:=kT hr; clear hr; obtain⟨_,hr⟩:=h9
  (have h9:=si hr; clear hr; subst h9)
  have hex:=h3;refine hdZ λGG hGG =>?_;obtain⟨ob,es,ep,tb,e1,e2,_⟩:=h3;refine hGG ?_;refine⟨"set",_,by rw[AV.Ib hi,jW hlt,hvs]; rfl,F.plainAttrs_set,F.slot_set_add,F.type_set_add,hex.typeIs,λb e=>(by cases e; exact⟨ob,e1,e2.2.1⟩),?_⟩;refine call_set_add (knd:=y1 S.prog S.w) (k:=k) (by show Ay k (.int k t)=true; simp[Ay]) rfl hex (yR (AR hz) (by decide)) λh' hs hS =>?_;have hset:h'.SetOf (y1 S.prog S.w) a (λk'=>(if ks.contains k then ks else ks++[k]).contains k') (if ks.contains k then ks else ks++[k]).length:=by
   refine SetOf_congr hS (λk'=>PC ks k k') ?_;by_cases q:ks.contains k=true
   ·rw[yo q,yo q]
   ·rw[ym q,ym q]; simp
  obtain⟨N',X'⟩:=N.write (t:=s.toks+1) ha hs (o:=.set (if ks.contains k then ks else ks++[k])) hset (λkvs v e=>by rw[hvs]at e; cases e) (λvs e=>by rw[hvs]at e; obtain⟨rfl,e⟩:=e; exact e);exact⟨_,_,U,rfl,rfl,N',X'⟩
 ·rw[ym hz]at hr; exact nn hr
theorem Lu:∀p∈S8,Iu S A envs env own cx p.1 p.2 :=
 zx.mpr ⟨t0,zx.mpr ⟨xd,zx.mpr ⟨rB,zx.mpr ⟨LF,zx.mpr ⟨t3,zx.mpr ⟨LH,zx.mpr ⟨LI,λZ h=>nomatch h⟩⟩⟩⟩⟩⟩⟩
theorem xV{o:AV}{name:yL}{args:yk AV}{q:Res AV}(N:HB S envs env own cx U O s)(hb4:(S.h₀.get? AJ).isSome=true)(hr:ip o name args O=some q)(ho:aq U s.heap o co)(hv:av U s.heap args cs) :
  Vg S A envs env own cx U O s o co cs name q:=by
 have h9:=aH hr; clear hr; rcases h9 with⟨g,hg,hr⟩|⟨-,hr⟩
 ·exact Lu _ (iA hg) N hb4 hr ho hv
 ·exact nn hr
open PySem.Calls
variable{C:ak}
theorem gV.ext'{loc:Str->yl AV}(F:gV env own cx U loc h)(hk:bq U h h')(st:∀a o,h.get? a=some o->a∉U->fZ o->∃o',h'.get? a=some o'/\iP o o')(ok:fw U h)(hx:JM U U' h):gV env own cx U' loc h':=by
 have mem:∀a∈own,a∉U:=λa ha=>(F.HZ a ha).1;constructor
 ·refine hdZ λGG hGG =>?_;obtain⟨m,⟨o,es,ep,e,hd,r⟩,hm⟩:=F.ns;obtain⟨o₁,e₁,k⟩:=st _ _ e (mem _ F.HW) (.inl ⟨es,ep,hd⟩);refine hGG ?_;exact⟨m,⟨o₁,es,ep,e₁,k.data.trans hd,r⟩,λy hy=>(hm y hy).mono hk ok hx⟩
 ·intro y hy;obtain⟨a,c,h1,h2,⟨o,h3,h5⟩,h6⟩:=F.cells y hy;obtain⟨o₁,e₁,k⟩:=st _ _ h3 (mem _ h2) (.inr ⟨c,h5⟩);exact⟨a,c,h1,h2,⟨o₁,e₁,k.data.trans h5⟩,h6.mono hk ok hx⟩
 ·intro y hy;obtain⟨a,c,h1,h2,⟨o,h3,h5⟩,h6⟩:=F.frees y hy;have hn:a∉U:=λhm=>by obtain⟨o',e',_,hh⟩:=ok a hm;rw[h3]at e'; (have h9:=si e'; clear e'; subst h9); exact hh _ h5
  obtain⟨o₁,e₁,k⟩:=st _ _ h3 hn (.inr ⟨c,h5⟩);exact⟨a,c,h1,h2,⟨o₁,e₁,k.data.trans h5⟩,h6.mono hk ok hx⟩
 ·intro a ha;refine hdZ λGG hGG =>?_;obtain⟨hn,o,e,ho⟩:=F.HZ a ha;obtain⟨o₁,e₁,k⟩:=st _ _ e hn ho;refine hGG ?_;exact⟨hx.no hn e (λfs q=>by rcases ho with⟨_,_,ho⟩|⟨_,ho⟩<;>(rw[q]at ho; cases ho)),o₁,e₁,by unfold fZ; rw[k.data]; exact ho⟩
 ·exact F.HW
 ·exact F.apart
structure uD(fs:yk yp)(ex:yk yp)(s s':yy):Prop where
 keep:∀b o,b∉ex->b∉fs->s.heap.get? b=some o->s'.heap.get? b=some o
 slot:∀b o,b∉ex->s.heap.get? b=some o->∃sl,s'.heap.get? b=some {o with slots:=sl}
 gens:s'.gens=s.gens
 os:s'.os=s.os
noncomputable def b6(envs:Frs):yk yp:=envs.l.filterMap (·.frame)
theorem eO{L:yp}(H:Nv S U h envs.l)(hL:L∈b6 envs):∃o es ep,h.get? L=some o/\o.data=.dict es ep/\S.h₀.get? L=none/\L∉U:=by refine hdZ λGG hGG =>?_;obtain⟨e,he,hf⟩:=ET.mp hL;obtain⟨_,L',o,es,ep,h1,h2,h3,h4,h5⟩:=H e he;refine hGG ?_;rw[hf]at h1; (have h9:=si h1; clear h1; subst h9);exact⟨o,es,ep,h2,h3,h4,h5⟩
noncomputable def Nb(S:au)(U:yk yp)(h:yC)(ex:yk yp):Prop:=∀a∈ex,a∉U/\S.h₀.get? a=none/\∀o,h.get? a=some o->∃fs,o.data=.fields fs
theorem uD.keeps{ex:yk yp}(N:HB S envs env own cx U O s)(hp:Nb S U s.heap ex)(t:uD (b6 envs) ex s s'):bq U s.heap s'.heap:=by
 intro a o e hn hc;refine t.keep a o (λhm =>?_) (λhm =>?_) e
 ·refine hdZ λGG hGG =>?_;obtain⟨_,_,h3⟩:=hp a hm;obtain⟨fs,hd⟩:=h3 o e;refine hGG ?_;obtain⟨xs,k,hc⟩:=hc;rw[hd]at hc; cases hc
 ·obtain⟨o',es,ep,e',hd,_⟩:=eO N.H.IK hm;rw[e]at e'; (have h9:=si e'; clear e'; subst h9);obtain⟨xs,k,hc⟩:=hc;rw[hd]at hc; cases hc
theorem HB.turn{ex:yk yp}(N:HB S envs env own cx U O s)(hp:Nb S U s.heap ex)(t:uD (b6 envs) ex s s'):HB S envs env own cx U O s':=by
 have hk:=t.keeps N hp;have hna:∀a∈U,a∉ex/\a∉b6 envs:=λa ha=>⟨λhm=>(hp a hm).1 ha,λhm=>by
  obtain⟨_,_,_,_,_,_,hh⟩:=eO N.H.IK hm; exact hh ha⟩
 have hex:∀a o,s.heap.get? a=some o->(∀fs,o.data≠.fields fs)->a∉ex:=λa o e hd hm=>by obtain⟨fs,h1⟩:=(hp a hm).2.2 o e; exact hd fs h1
 refine⟨⟨?_,t.gens.trans N.H.gens,t.os.trans N.H.os,N.H.len,N.H.nodup,N.H.above,?_,?_,N.H.xs⟩,N.F.ext' hk (λa o e hn ho =>?_) N.H.HD (.refl ..)⟩
 ·intro b o e;refine t.keep b o (λhm=>by rw[(hp b hm).2.1]at e; exact nn e) (λhm =>?_) (N.H.base b o e);refine hdZ λGG hGG =>?_;obtain⟨_,_,_,_,_,h0,_⟩:=eO N.H.IK hm;refine hGG ?_;rw[h0]at e; exact nn e
 ·intro i a hi;obtain⟨o,e,_⟩:=(N.H.objs i a hi).cls;have:=hna a (zy hi);exact(N.H.objs i a hi).mono hk N.H.HD (.refl ..) ((t.keep a o this.1 this.2 e).trans e.symm)
 ·intro e he;refine hdZ λGG hGG =>?_;obtain⟨hk',L,o,es,ep,h1,h2,h3,r⟩:=N.H.IK e he;obtain⟨sl,h4⟩:=t.slot L o (hex L o h2 (λfs q=>by rw[h3]at q; cases q)) h2;refine hGG ?_;exact⟨hk',L,_,es,ep,h1,h4,h3,r⟩
 ·have hd:∀fs,o.data≠.fields fs:=λfs q=>by rcases ho with⟨es,ep,ho⟩|⟨v,ho⟩<;>(rw[q]at ho; cases ho)
  have h1:=hex a o e hd;by_cases hm:a∈b6 envs
  ·refine hdZ λGG hGG =>?_;obtain⟨o',es,ep,e',hd',_⟩:=eO N.H.IK hm;refine hGG ?_;rw[e]at e'; (have h9:=si e'; clear e'; subst h9);obtain⟨sl,h2⟩:=t.slot a o h1 e;exact⟨_,h2,.inr ⟨⟨es,ep,hd'⟩,sl,rfl⟩⟩
  ·exact⟨o,t.keep a o h1 hm e,.refl _⟩
theorem Ext.turn{ex:yk yp}(H:a9 S envs U O s)(X:Ext own U O s U' O' s')(N':HB S envs env own cx U' O' s')(hp:Nb S U' s'.heap ex)(hn:∀a∈ex,s.heap.get? a=none)(t:uD (b6 envs) ex s' s''):Ext own U O s U' O' s'':=by
 have hni:∀a o,s.heap.get? a=some o->a∉ex:=λa o e hm=>by rw[hn a hm]at e; exact nn e
 refine⟨⟨λa o e =>?_,λa o e h1 h2 =>?_⟩,X.HU,λi a kvs v hi e =>?_,λi a vs hi e =>?_⟩
 ·obtain⟨o',e'⟩:=X.heap.live a o e;obtain⟨sl,h⟩:=t.slot a o' (hni a o e) e';exact⟨_,h⟩
 ·obtain⟨o',e',st⟩:=X.heap.keep a o e h1 h2;by_cases hm:a∈b6 envs
  ·refine hdZ λGG hGG =>?_;obtain⟨o'',es,ep,e'',hd',_⟩:=eO N'.H.IK hm;refine hGG ?_;rw[e']at e''; (have h9:=si e''; clear e''; subst h9);obtain⟨sl,h⟩:=t.slot a o' (hni a o e) e';exact⟨_,h,st.trans (.inr ⟨⟨es,ep,hd'⟩,sl,rfl⟩)⟩
  ·exact⟨o',t.keep a o' (hni a o e) hm e',st⟩
 ·refine hdZ λGG hGG =>?_;obtain⟨k',v',e1,e2,e3⟩:=X.Ie i a kvs v hi e;refine hGG ?_;refine⟨k',v',e1,e2,λq=>⟨(e3 q).1,?_⟩⟩;obtain⟨o,eo,_⟩:=(H.objs i a hi).cls;have h4:=(e3 q).2;rw[eo]at h4;rw[eo];refine t.keep a o (hni a o eo) (λhm =>?_) h4;obtain⟨_,_,_,_,_,_,hh⟩:=eO N'.H.IK hm;exact hh (zy (X.HU.get hi))
 ·obtain⟨e1,e2⟩:=X.Ij i a vs hi e;obtain⟨o,eo,_⟩:=(H.objs i a hi).cls;rw[eo]at e2;rw[eo];refine⟨e1,t.keep a o (hni a o eo) (λhm =>?_) e2⟩;obtain⟨_,_,_,_,_,_,hh⟩:=eO N'.H.IK hm;exact hh (zy (X.HU.get hi))
theorem jC:∀{l:yk Env},Nv S U h l->h.FunFrames S.h₀ l
 |[]=>λZ=>trivial
 |e::l=>λH=>by obtain⟨hk,L,o,es,ep,h1,h2,h3,h4,h5⟩:=H e (by simp);exact⟨by rw[hk]; decide,⟨L,o,h1,h4,h2,λvs q=>by rw[h3]at q; cases q⟩,jC λe' he'=>H e' (by simp[he'])⟩
theorem tX{e L:yp}{hv:yt}{b:yx}{oe:Obj}{vs:yM yt}{Q:yu->yy->Prop}(P:At S A envs env own cx d)(N:HB S envs env own cx U O s)(he:s.heap.get? e=some oe)(hd:oe.data=.fields vs)(h1:1<vs.size)(hL:env.frame=some L)
  (h:∀s' tb ts oT oe' vs',uD (b6 envs) [e] s s'->s'.heap.get? e=some oe'->oe'.cls=oe.cls->oe'.data=.fields vs'->vs'[1]?=some (.ref tb)->vs'[0]?=vs[0]?->vs'[2]?=vs[2]?->s.heap.get? tb=none->s'.heap.get? tb=some oT->oT.data=.fields ts->oT.cls=.type "traceback" -> 3<ts.size->Q () s') :
  yq (yw S.prog S.w) A (PySem.frameOf env >>=λfr=>entryPlaceOf L b >>=λpl=>Eg hv fr .none (rawInt L) .none pl >>=λx=>setField (.ref e) 1 x) Q E s:=by
 refine hdZ λGG hGG =>?_;obtain⟨e0,outer,henvs,hfe⟩:=P.Qg;have hl:=jC N.H.IK;refine hGG ?_;have hL0:e0.frame=some L:=hfe.trans hL;have hne:e∉b6 envs:=λhm=>by obtain⟨o,es,ep,e1,e2,_⟩:=eO N.H.IK hm;rw[he]at e1; (have h9:=si e1; clear e1; subst h9); rw[hd]at e2; cases e2
 have hfo:PySem.frameOf env=PySem.frameOf e0:=by unfold PySem.frameOf; rw[hfe]
 rw[hfo];refine yz (wpAny_frameOf_fun (base:=S.h₀) (env:=e0) (outer:=outer) (by rw[P.fr,henvs]) (by rw[<-henvs]; exact hl) hL0 λh₁ hs₁ =>?_);rw[<-henvs]at hs₁;refine yz (wpAny_entryPlaceOf λpl hpl =>?_);unfold Eg newFields;refine yz (BR ?_ (hpl.sizeOk5 _ _ _ _ _));have he₁:h₁.get? e=some oe:=(hs₁.2.1 e hne).trans he;generalize hT:({cls:=.type "traceback",dict:=none,data:=.fields ([hv,.ref L,.none,rawInt L,.none]++(if pl.isEmpty then GQ 6 AI else pl)).toArray}:Obj)=oT;have hdT:oT.data=.fields ([hv,.ref L,.none,rawInt L,.none]++(if pl.isEmpty then GQ 6 AI else pl)).toArray:=by rw[<-hT]
 have hcT:oT.cls=.type "traceback":= by rw[<-hT]
 clear hT;have he₂:=zR (h:=h₁) oT he₁;refine D6 he₂ hd h1 ?_;have hTe:h₁.objs.size≠e:=zk (Ab he₁);have hd₃:=Ff hd (·.setIfInBounds 1 (zW h₁.objs.size));have he₃:=A7 (DS (·.setIfInBounds 1 (zW h₁.objs.size))) he₂ (DR hd₃);have hT₃:=(Cv (h₁.push oT) (DS (·.setIfInBounds 1 (zW h₁.objs.size))) (DQ hTe)).trans (y6 h₁ (DR hdT));have keep:∀b o,b≠e->h₁.get? b=some o->((h₁.push oT).update e (DS (·.setIfInBounds 1 (zW h₁.objs.size)))).get? b=some o :=
  λb o hbe hb=>(Cv _ _ (DQ hbe)).trans (zR _ hb)
 refine h _ h₁.objs.size _ _ _ _ ⟨λb o hb hbf e1=>keep b o (by simpa using hb) ((hs₁.2.1 b hbf).trans e1),λb o hb e1 =>?_,rfl,rfl⟩ he₃ (Fd _ _) hd₃ (by simp[h1]) (by simp) (by simp) ?_ hT₃ hdT hcT (by simp)
 ·obtain⟨sl,e2⟩:=hs₁.2.2 b o e1;exact⟨sl,keep b _ (by simpa using hb) e2⟩
 ·exact zm (by rw[hs₁.1]; exact yF _)
variable{tb:yp}
theorem mH{oT:Obj}{ts:yM yt}{v:yt}{Q:yu->yy->Prop}(hT:s.heap.get? tb=some oT)(hdT:oT.data=.fields ts)(hi:i<ts.size)
  (h:∀s' oT',uD (b6 envs) [tb] s s'->s'.heap.get? tb=some oT'->oT'.cls=oT.cls->oT'.data=.fields (ts.setIfInBounds i v)->Q () s'):yq (yw S.prog S.w) A (setField (.ref tb) i v) Q E s:=by
 have hdd:=Ff hdT (·.setIfInBounds i v);refine D6 hT hdT hi (h _ _ ⟨λb o hb Z e1 =>?_,λb o hb e1=>⟨o.slots,?_⟩,rfl,rfl⟩ (A7 _ hT (DR hdd)) (Fd _ _) hdd)
 ·exact(Cv _ _ (λq=>hb (by simp[q]))).trans e1
 ·exact(Cv _ _ (λq=>hb (by simp[q]))).trans e1
variable{am₀:yk yp}{σ₀:St}{s₀:yy}{v1 v3:yt}
section
variable{t:yp}{cls:yt}
theorem JK.N0(hx:JK S U s₀.heap s.heap a cls t v1):Nb S U s.heap [a]:=by obtain⟨o,fs,p1,p2,p3,p4,p5,p6,p7,p8,p9⟩:=hx;intro b hb; simp at hb; subst hb;exact⟨p2,p1,λo e=>by rw[p4]at e; (have h9:=si e; clear e; subst h9); exact⟨_,p6⟩⟩
theorem sY.N0(hx:sY S U s₀.heap s.heap a tb v3):Nb S U s.heap [tb]:=by obtain⟨o,fs,p1,p2,p3,p4,p5,p6,p7,p8⟩:=hx;intro b hb; simp at hb; subst hb;exact⟨p3,p2,λo e=>by rw[p5]at e; (have h9:=si e; clear e; subst h9); exact⟨_,p7⟩⟩
theorem JK.turn{b:yp}(hx:JK S U s₀.heap s.heap a cls t v1)(h:b≠a)(T:uD (b6 envs) [b] s s'):JK S U s₀.heap s'.heap a cls t v1:=by obtain⟨o,fs,p1,p2,p3,p4,p5,p6,p7,p8,p9⟩:=hx;obtain⟨sl,e⟩:=T.slot a o (by simpa using DQ h) p4;exact⟨_,fs,p1,p2,p3,e,p5,p6,p7,p8,p9⟩
theorem mu{Q:yu->yy->Prop}(P:At S A envs env own cx d)(H₀:a9 S envs am₀ σ₀ s₀)(N:HB S envs env own cx U O s)(X:Ext own am₀ σ₀ s₀ U O s)(hx:JK S U s₀.heap s.heap a cls t v1)(hv:v1=.none\/∃tb,v1=.ref tb/\sY S U s₀.heap s.heap a tb .none)
  (h:∀s' tb v3,HB S envs env own cx U O s'->Ext own am₀ σ₀ s₀ U O s'->bq U s.heap s'.heap->JK S U s₀.heap s'.heap a cls t (.ref tb)->sY S U s₀.heap s'.heap a tb v3->Q () s'):yq (yw S.prog S.w) A (noteFrame (.ref a) env) Q E s:=by
 obtain⟨L,hf⟩:∃L,env.frame=some L:=by refine hdZ λGG hGG =>?_;obtain⟨e0,outer,henvs,hfe⟩:=P.Qg;obtain⟨_,L,_,_,_,hL,_⟩:=N.H.IK e0 (by rw[henvs]; simp);refine hGG ?_;exact⟨L,hfe.symm.trans hL⟩
 have entry:∀{s:yy} {v1:yt} {hv:yt} {b:yx},HB S envs env own cx U O s->Ext own am₀ σ₀ s₀ U O s->JK S U s₀.heap s.heap a cls t v1->(∀s' tb v3,HB S envs env own cx U O s'->Ext own am₀ σ₀ s₀ U O s'->bq U s.heap s'.heap->JK S U s₀.heap s'.heap a cls t (.ref tb)->sY S U s₀.heap s'.heap a tb v3->Q () s') ->
   yq (yw S.prog S.w) A (PySem.frameOf env >>=λfr=>entryPlaceOf L b >>=λpl=>Eg hv fr .none (rawInt L) .none pl >>=λx=>setField (.ref a) 1 x) Q E s:=by
  intro s v1 hv b N X hx h;have R:=hx.N0;obtain⟨o,fs,p1,p2,p3,p4,p5,p6,p7,p8,p9⟩:=hx;refine tX P N p4 p6 (D9.mp p8).1 hf λs' tb ts oT oe' vs' T e1 e2 e3 e4 e5 e5' e6 e7 e8 e9 e10 =>?_;refine h s' tb ts[3] (N.turn R T) (X.turn H₀ N R (λb hb=>by simp at hb; subst hb; exact p3) T) (T.keeps N R) ⟨oe',vs',p1,p2,p3,e1,e2.trans p5,e3,e5.trans p7,e4,e5'.trans p9⟩ ⟨oT,ts,(λq=>by rw[q,p4]at e6; cases e6),?_,?_,X.heap.live.none e6,e7,e9,e8,D8 e10⟩
  ·cases qq:S.h₀.get? tb with
   |none=>rfl
   |some o=>have:=N.H.base tb o qq; rw[e6]at this; exact nn this
  ·exact λhm=>by obtain⟨o,e,_⟩:=N.H.HD tb hm; rw[e6]at e; exact nn e
 unfold noteFrame;refine wq (by simp only[hf]; rfl) ?_;have hx':=hx;obtain⟨o,fs,p1,p2,p3,p4,p5,p6,p7,p8,p9⟩:=hx';refine yz (AY p4 p6 p8 ?_);rcases hv with rfl|⟨tb,rfl,ht⟩
 ·rw[ym (by decide)];exact entry N X hx h
 ·rw[yo (by simp)];have R:=ht.N0;obtain⟨oT,ts,q1,q2,q3,q4,q5,q6,q7,q8⟩:=ht;refine yz (AY q5 q7 q8 ?_);rw[ym (by simp[rawInt])];refine yz (mH (envs:=envs) q5 q7 (D9.mp q8).1 λs1 oT1 T1 Z Z Z =>?_);exact entry (N.turn R T1) (X.turn H₀ N R (λb hb=>by simp at hb; subst hb; exact q4) T1) (hx.turn q1 T1) λs' tb v3 n x k=>h s' tb v3 n x λa o e1 e2 e3=>k a o (T1.keeps N R a o e1 e2 e3) e2 e3
theorem eA{Q:yu->yy->Prop}(H₀:a9 S envs am₀ σ₀ s₀)(N:HB S envs env own cx U O s)(X:Ext own am₀ σ₀ s₀ U O s)(hx:JK S U s₀.heap s.heap a cls t (.ref tb))(ht:sY S U s₀.heap s.heap a tb v3)
  (h:∀s',HB S envs env own cx U O s'->Ext own am₀ σ₀ s₀ U O s'->bq U s.heap s'.heap->JK S U s₀.heap s'.heap a cls t (.ref tb)->sY S U s₀.heap s'.heap a tb .none->Q () s'):yq (yw S.prog S.w) A (setFlight (.ref a) none) Q E s:=by
 have R:=ht.N0;have hx':=hx;obtain⟨o,fs,p1,p2,p3,p4,p5,p6,p7,p8,p9⟩:=hx';obtain⟨oT,ts,q1,q2,q3,q4,q5,q6,q7,q8⟩:=ht;unfold setFlight;refine yz (AY p4 p6 p8 ?_);rw[yo (show(zW tb != AI)=true from by simp)];have hlt:=(D9.mp q8).1;refine mH (envs:=envs) q5 q7 hlt λs1 oT1 T1 e1 e2 e3 =>?_;exact h s1 (N.turn R T1) (X.turn H₀ N R (λb hb=>by simp at hb; subst hb; exact q4) T1) (T1.keeps N R) (hx.turn q1 T1) ⟨oT1,_,q1,q2,q3,q4,e1,e2.trans q6,e3,by simp[hlt]⟩
end
noncomputable def dK(U:yk yp)(h:yC)(kw:yk (Str×AV))(ckw:yk (Str×yt)):Prop:=kw.map (·.1)=ckw.map (·.1)/\av U h (kw.map (·.2)) (ckw.map (·.2))
theorem dK.cons_inv{k:Str}{kvs:yk (Str×AV)}{cs:yk (Str×yt)}(x:dK U h ((k,v)::kvs) cs):∃c r,cs=(k,c)::r/\aq U h v c/\dK U h kvs r:=by
 obtain⟨h1,h2⟩:=x;cases cs with
 |nil=>simp at h1
 |cons p r =>refine hdZ λGG hGG =>?_;obtain⟨k',c⟩:=p;simp at h1;obtain⟨c',r',e,h3,h4⟩:=h2;simp at e;obtain⟨rfl,rfl⟩:=e;obtain⟨rfl,h1⟩:=h1;refine hGG ?_;exact⟨c,r,rfl,h3,h1,h4⟩
theorem dK.nil_inv{cs:yk (Str×yt)}(x:dK U h [] cs):cs=[]:=by have:=x.1; simpa using this.symm
theorem dK.lookup:∀{kw:yk (Str×AV)} {cs:yk (Str×yt)},dK U h kw cs->∀x,bW U h (kw.lookup x) (cs.lookup x)
 |[],cs=>λe x=>by cases e.nil_inv; exact trivial
 |(k,v)::kvs,cs=>λe x=>by
  obtain⟨c,r,rfl,hv,hr⟩:=e.cons_inv;rw[zi,zi];cases hx:x==k
  ·exact hr.lookup x
  ·exact hv
theorem dK.mono(hk:bq U h h')(ha:fw U h)(hx:JM U U' h){kvs:yk (Str×AV)}{cs:yk (Str×yt)}(x:dK U h kvs cs):dK U' h' kvs cs :=
 ⟨x.1,x.2.mono hk ha hx⟩
noncomputable def kg(S:au)(f:Bn)(fd:ax):Prop :=
 ∀pos kw bs,aM fd pos kw=some bs->(bs.map (·.1)).Nodup/\(∀x∈bs,fd.scope.names.lookup x.1=some .local\/fd.scope.names.lookup x.1=some .cell) /\
  ∀(M:Model) (A:zX) (E:yt->yy->Prop) (Q:yk (Str×yt)->yy->Prop) U s cpos ckw,(∀b o,S.h₀.get? b=some o->s.heap.get? b=some o)->fw U s.heap ->
   av U s.heap pos cpos->dK U s.heap kw ckw->(∀cbs s',aF s s'->dK U s'.heap bs cbs->Q cbs s')->yq M A (bindArgs f ⟨cpos,ckw⟩) Q E s
structure ir(S:au)(fa:yp)(fd:ax):Prop where
 obj:∃o f,S.h₀.get? fa=some o/\o.data=.func f/\f.scope=fd.scope/\f.body=.stmts fd.body/\f.closure=[]/\f.globals=BB/\f.builtins=builtinsNs/\S.h₀.CodeRec f.code f.qualname/\kg S f fd
 co:fd.scope.isCoroutine=false
 gen:fd.scope.isGenerator=false
 kind:fd.scope.kind=.function
 Lh:∀x,fd.scope.names.lookup x≠some .free
noncomputable def eT(S:au)(envs:Frs)(U:yk yp)(O:St)(s:yy)(r:Res AV):A5->yy->Prop:=λq s' =>
 match q with
 |.ok (.ret c)=>∃v O' U',r=.ok v O'/\O'.loc=O.loc/\aq U' s'.heap v c/\a9 S envs U' O' s'/\Ext [] U O s U' O' s'
 |.error e=>∃vs O' U',r=.err (.cycle vs) O'/\O'.loc=O.loc/\yj S U' s.heap s'.heap (.cycle vs) e/\a9 S envs U' O' s'/\Ext [] U O s U' O' s'
 |_=>False
theorem dq1{a:Nat}(h:a+20*(d+1)+5<=900):a+1+20*(d+1)<=900:=yn (by rw[Bd]; exact zO (by decide) _) h
theorem dq3{a:Nat}(h:a+100*(d+1)+50<=9000):a+3+100*(d+1)<=9000:=yn (by rw[Bd]; exact zO (by decide) _) h
theorem dp1{a:Nat}(j:Nat)(h:a+20*(d+1)<=900)(hj:j+5<=20):a+j+20*d+5<=900:=by rw[Bd a j,zH]; exact yn (zO hj _) h
theorem un1{a:Nat}(j:Nat)(h:a+100*(d+1)<=9000)(hj:j+50<=100):a+j+100*d+50<=9000:=by rw[Bd a j,zH]; exact yn (zO hj _) h
structure eF(S:au)(C:ak)(d:Nat):Prop where
 call:∀{fa fd},ir S fa fd->∀{A} {envs:Frs} {U O s pos kw cpos ckw r},A.frames=some envs.l->A.handled=none->A.depth+20*d+5<=900->A.units+100*d+50<=9000 ->
  C fd pos kw O=some r->a9 S envs U O s->av U s.heap pos cpos->dK U s.heap kw ckw->zQ (yw S.prog S.w) A (.call (.ref fa) ⟨cpos,ckw⟩) (eT S envs U O s r) s
theorem sA(kindOf:Str->yl Ae):∀(bs:yk (Str×yt)) (m:Str->yl yt) (x:Str),(bs.map (·.1)).Nodup->kindOf x=some .local ->
  bindL kindOf bs m x=(match bs.lookup x with|some v=>some v|none=>m x)
 |[],m,x,_,_=>rfl
 |(n,v)::r,m,x,hn,hx=>by
  simp only[za,Bb]at hn;unfold bindL;rw[sA kindOf r _ x hn.2 hx,zi];by_cases e:x=n
  ·subst e;have:r.lookup x=none:=by
    cases q:r.lookup x with
    |none=>rfl
    |some u=>exact yD (zG (f:=(·.1)) (mem_of_lookup q)) hn.1
   rw[this]; simp[hx]
  ·have e':(x==n)=false:=by simpa using e
   rw[e'];cases r.lookup x with
   |some u=>rfl
   |none=>dsimp only; split<;>simp[e]
theorem sD(kindOf:Str->yl Ae):∀(bs:yk (Str×yt)) (m:Str->yl yt) (x:Str),(bs.map (·.1)).Nodup->kindOf x=some .cell ->
  bindC kindOf bs m x=(match bs.lookup x with|some v=>some v|none=>m x)
 |[],m,x,_,_=>rfl
 |(n,v)::r,m,x,hn,hx=>by
  simp only[za,Bb]at hn;unfold bindC;rw[sD kindOf r _ x hn.2 hx,zi];by_cases e:x=n
  ·subst e;have:r.lookup x=none:=by
    cases q:r.lookup x with
    |none=>rfl
    |some u=>exact yD (zG (f:=(·.1)) (mem_of_lookup q)) hn.1
   rw[this]; simp[hx]
  ·have e':(x==n)=false:=by simpa using e
   rw[e'];cases r.lookup x with
   |some u=>rfl
   |none=>dsimp only; split<;>simp[e]
noncomputable def b4(cs:yk (Str×yp)):yk yp:=cs.filterMap λp=>cs.lookup p.1
theorem dW{cs:yk (Str×yp)}(h:a∈b4 cs):∃n,cs.lookup n=some a:=by obtain⟨p,_,e⟩:=ET.mp h;exact⟨_,e⟩
theorem ko{cs:yk (Str×yp)}{n:Str}(h:cs.lookup n=some a):a∈b4 cs :=
 ET.mpr ⟨(n,a),mem_of_lookup h,h⟩
theorem j5:∀(names:yk (Str×Ae)) (n:Nat) (acc:yk (Str×yp)) (x:Str),(acc.lookup x).isSome=true->((Ai n names acc).lookup x).isSome=true
 |[]=>λZ Z Z h=>h
 |(y,k)::r=>λn acc x h=>by
  unfold Ai;split
  ·refine j5 r _ _ x ?_;rw[zi]; split
   ·rfl
   ·exact h
  ·exact j5 r _ _ x h
theorem cH:∀(names:yk (Str×Ae)) (n:Nat) (acc:yk (Str×yp)) (x:Str),names.lookup x=some .cell->((Ai n names acc).lookup x).isSome=true
 |[]=>λZ Z Z h=>by exact nn h
 |(y,k)::r=>λn acc x h=>by
  rw[zi]at h;unfold Ai;cases e:x==y
  ·rw[e]at h;split
   ·exact cH r _ _ x h
   ·exact cH r _ _ x h
  ·rw[e]at h; (have h9:=si h; clear h; subst h9);rw[yo (by rfl)];exact j5 r _ _ x (by rw[zi,e]; rfl)
theorem Ext.weak(X:Ext [] U O s U' O' s'):Ext own U O s U' O' s' :=
 ⟨⟨X.heap.live,λa o e h1 Z=>X.heap.keep a o e h1 (by simp)⟩,X.HU,X.Ie,X.Ij⟩
theorem eT.now{q:Res AV}(N:HB S envs env own cx U O s)(h:eT S envs U O s q (.ok (.ret c)) s'):HG S envs env own cx aq U O s q c s':=by refine hdZ λGG hGG =>?_;obtain⟨v,O',U',rfl,hl,hv,H,X⟩:=h;refine hGG ?_;exact⟨v,O',U',rfl,hv,⟨H,hl▸N.F.ext X.heap N.H.HD X.HU.x⟩,X.weak⟩
theorem eT.err{q:Res AV}(N:HB S envs env own cx U O s){e:yt}(h:eT S envs U O s q (.error e) s'):H3 S envs env own cx U O s q e s':=by refine hdZ λGG hGG =>?_;obtain⟨vs,O',U',rfl,hl,hx,H,X⟩:=h;refine hGG ?_;exact⟨_,O',U',rfl,hx,⟨H,hl▸N.F.ext X.heap N.H.HD X.HU.x⟩,X.weak⟩
theorem xU(B:Base S T)(I:HJ S T r d):eF S (eB r.HK) (d+1):=by
 constructor;intro fa fd F A envs U O s pos kw cpos ckw q hfr hhd hdep hun hr H hv hkw;refine(let RR:=_; (?_:zQ _ _ _ RR _));obtain⟨o,f,ho,hd,hsc,hbody,hclo,hgl,hbi,hcd,hB⟩:=F.obj;unfold eB at hr;cases hb:aM fd pos kw with
 |none=>rw[hb]at hr; exact nn hr
 |some bs =>
 rw[hb]at hr;dsimp only at hr;obtain⟨HR,hkinds,hbind⟩:=hB pos kw bs hb;refine codeAny_call_function (yR (yn (yn (yH _ _) (yH _ _)) hdep) (by decide)) (H.base _ _ ho) hd (by rw[hsc]; exact F.co) (by rw[hsc]; exact F.gen) hbody (hcd.keeps H.base) ?_;refine hbind _ _ _ _ U s cpos ckw H.base H.HD hv hkw λcbs s₁ q₁ hbs =>?_;rw[hclo,hsc];have hmem:∀x∈cbs,fd.scope.names.lookup x.1=some .local\/fd.scope.names.lookup x.1=some .cell:=by
  intro x hx;have:x.1∈bs.map (·.1):=by rw[hbs.1]; exact zG hx
  obtain⟨y,hy,e⟩:=yW.mp this;rw[<-e]; exact hkinds y hy
 refine wpAny_newFunctionEnv_cells F.kind (λx hx=>(hmem x hx).imp id λh=>⟨h,cH _ _ _ _ h⟩) λenv he s₂ x =>?_;have H₁:=H.quiet q₁;have hlocals:env.locals=s₁.heap.objs.size:=by rw[he]; rfl
 have hcells:env.cells=Ai (s₁.heap.objs.size+1) fd.scope.names []:=by rw[he]; rfl
 have hscope:env.scope=fd.scope:=by rw[he]; rfl
 have hkindof:∀y,env.kindOf y=fd.scope.names.lookup y:=λy=>by rw[he]; rfl
 have q₂:aF s₁ s₂:=by obtain⟨h',tk,rfl⟩:=x.toInCall.same;exact⟨x.toInCall.keep,rfl,rfl⟩
 have hfresh:∀a,s₁.heap.objs.size<=a->s₁.heap.get? a=none:=λa ha=>by
  cases q:s₁.heap.get? a with
  |none=>rfl
  |some o=>exact yD (Ab q) (Cg.mpr ha)
 refine⟨(B.nolimit.keeps H.base).keeps (λb o e=>(q₁.trans q₂).keep b o e),codeAny_func ?_⟩;refine(let QQ:=_; let EE:=_; (?_:yq _ _ _ QQ EE _));cases hex:r.HK ⟨fd.scope,λZ=>none,false,false⟩ fd.body {O with loc:=λx=>bs.lookup x}with
 |none=>rw[hex]at hr; exact nn hr
 |some res =>
 rw[hex]at hr;have hownN:∀a∈env.locals::b4 env.cells,s₁.heap.get? a=none:=by
  intro a ha;rcases yP.mp ha with rfl|ha
  ·exact hfresh _ (by rw[hlocals]; exact yF _)
  ·obtain⟨n,hm⟩:=dW ha;have:=x.above n _ (mem_of_lookup hm);exact hfresh _ (by rw[hlocals]at this; exact zz this)
 have hownAm:∀a∈env.locals::b4 env.cells,a∉U:=by intro a ha hm;obtain⟨o,e,_⟩:=H₁.HD a hm;rw[hownN a ha]at e; exact nn e
 have hownB:∀a∈env.locals::b4 env.cells,S.h₀.get? a=none:=by
  intro a ha;cases q:S.h₀.get? a with
  |none=>rfl
  |some o=>have:=H₁.base a o q; rw[hownN a ha]at this; exact nn this
 have hL:∃o es ep,s₂.heap.get? env.locals=some o/\o.data=.dict es ep:=ns_ex x.toInCall.ns;have H₂:a9 S ⟨env::envs.l,envs.x⟩ U {O with loc:=λx=>bs.lookup x} s₂:=by
  have H':=H₁.quiet q₂;refine⟨H'.base,H'.gens,H'.os,H'.len,H'.nodup,H'.above,H'.objs,?_,H'.xs⟩;intro e hm;rcases yP.mp hm with rfl|hm
  ·refine hdZ λGG hGG =>?_;obtain⟨o,es,ep,e1,e2⟩:=hL;refine hGG ?_;exact⟨by rw[hscope]; exact F.kind,_,o,es,ep,by rw[he]; rfl,hlocals▸e1,e2,hlocals▸hownB _ (by simp),hlocals▸hownAm _ (by simp)⟩
  ·exact H'.IK e hm
 have hbs₂:dK U s₂.heap bs cbs:=hbs.mono (q₂.keeps U) H₁.HD (.refl ..);have F₂:gV env (env.locals::b4 env.cells) ⟨fd.scope,λZ=>none,false,false⟩ U (λx=>bs.lookup x) s₂.heap:=by
  constructor
  ·refine⟨_,x.toInCall.ns,λy hy =>?_⟩;rw[sA _ _ _ _ (by rw[<-hbs.1]; exact HR) ((hkindof y).trans hy)];have:=hbs₂.lookup y;cases hq:cbs.lookup y<;>rw[hq]at this<;>exact this.loc
  ·intro y hy;obtain⟨c,hc⟩:=CX.mp (cH fd.scope.names (s₁.heap.objs.size+1) [] y hy);rw[<-hcells]at hc;refine⟨c,_,hc,zS _ (ko hc),x.cell y c hc,?_⟩;rw[sD _ _ _ _ (by rw[<-hbs.1]; exact HR) ((hkindof y).trans hy)];have:=hbs₂.lookup y;cases hq:cbs.lookup y<;>rw[hq]at this<;>exact this
  ·intro y hy;exact yD hy (F.Lh y)
  ·intro a ha;refine⟨hownAm a ha,?_⟩;rcases yP.mp ha with rfl|ha
   ·refine hdZ λGG hGG =>?_;obtain⟨o,es,ep,e1,e2⟩:=hL;refine hGG ?_;exact⟨o,e1,.inl ⟨es,ep,e2⟩⟩
   ·refine hdZ λGG hGG =>?_;obtain⟨n,hm⟩:=dW ha;obtain⟨o,e1,e2⟩:=x.cell n a hm;refine hGG ?_;exact⟨o,e1,.inr ⟨_,e2⟩⟩
  ·exact yY
  ·intro y z a _ _ hy hz;exact name_of_addr x.apart (mem_of_lookup hy) (mem_of_lookup hz)
 have C₂:At S (A.deeper env) ⟨env::envs.l,envs.x⟩ env (env.locals::b4 env.cells) ⟨fd.scope,λZ=>none,false,false⟩ d:=by
  refine⟨⟨by rw[hscope]; exact F.kind,by rw[he]; exact hgl,by rw[he]; exact hbi,λy hy=>(hkindof y).trans hy,λy hy=>(hkindof y).trans hy,λy hy=>yD hy (F.Lh y),λy hy=>(hkindof y).trans hy⟩,hownB,?_,λZ=>hhd,(λh=>by cases h),?_,?_,⟨env,envs.l,rfl,rfl⟩⟩
  ·show A.frames.map (env :: ·)=_;rw[hfr]; rfl
  ·exact dq1 hdep
  ·exact dq3 hun
 have back:∀{U':yk yp} {O':St} {s':yy},HB S ⟨env::envs.l,envs.x⟩ env (env.locals::b4 env.cells) ⟨fd.scope,λZ=>none,false,false⟩ U' O' s'->Ext (env.locals::b4 env.cells) U {O with loc:=λx=>bs.lookup x} s₂ U' O' s' ->
   a9 S envs U' {O' with loc:=O.loc} s'/\Ext [] U O s U' {O' with loc:=O.loc} s':=by
  intro U' O' s' N' X';refine⟨?_,?_⟩
  ·have H':=N'.H;exact⟨H'.base,H'.gens,H'.os,H'.len,H'.nodup,H'.above,H'.objs,λe hm=>H'.IK e (zS _ hm),H'.xs⟩
  ·have hq:=q₁.trans q₂;refine⟨⟨λa o e=>X'.heap.live a o (hq.keep a o e),λa o e hn Z=>X'.heap.keep a o (hq.keep a o e) hn λhm =>?_⟩,?_,λi a kvs v hi e =>?_,λi a vs hi e =>?_⟩
   ·have:=q₁.keep a o e; rw[hownN a hm]at this; exact nn this
   ·obtain⟨⟨nw,e1,e2⟩⟩:=X'.HU;refine⟨⟨nw,e1,λa ha =>?_⟩⟩;exact ib.none (λb o e=>⟨o,hq.keep b o e⟩) (e2 a ha)
   ·refine hdZ λGG hGG =>?_;obtain⟨k',v',e1,e2,e3⟩:=X'.Ie i a kvs v hi e;refine hGG ?_;refine⟨k',v',e1,e2,λe4=>⟨(e3 e4).1,(e3 e4).2.trans ?_⟩⟩;obtain⟨o,eo,_⟩:=(H.objs i a hi).cls;exact(hq.keep a o eo).trans eo.symm
   ·obtain⟨e1,e2⟩:=X'.Ij i a vs hi e;obtain⟨o,eo,_⟩:=(H.objs i a hi).cls;exact⟨e1,e2.trans ((hq.keep a o eo).trans eo.symm)⟩
 refine yO (I.HK C₂ fd.body U _ s₂ res hex ⟨H₂,F₂⟩) (λfl s' hok =>?_) (λe s' her =>?_)
 ·obtain⟨v,O',U',rfl,hR,N',X'⟩:=hok
  (have h9:=si hr; clear hr; subst h9)
  obtain⟨k1,k2⟩:=back N' X';refine⟨_,_,U',rfl,rfl,?_,k1,k2⟩;cases v<;>cases fl<;>first|exact hR.elim|exact rfl|exact hR
 ·obtain⟨x,O',U',rfl,hx,N',X'⟩:=her;cases x with
  |stop=>exact nn hr
  |cycle vs =>
   (have h9:=si hr; clear hr; subst h9)
   refine hdZ λGG hGG =>?_;obtain⟨a,t,items,v1,rfl,hX,hv,ht,⟨o,ho,hc,n,hd⟩,hvs⟩:=hx;refine hGG ?_;refine yz (mu C₂ H₂ N' X' hX hv λs4 tb v3 N4 X4 k4 hX4 hT4 =>?_);refine eA H₂ N4 X4 hX4 hT4 λs5 N5 X5 k5 hX5 hT5 =>?_;obtain⟨h1,h2⟩:=back N5 X5;have k:bq U' s'.heap s5.heap:=λb ob e1 e2 e3=>k5 b ob (k4 b ob e1 e2 e3) e2 e3;have R:yj S U' s₂.heap s5.heap (.cycle vs) (.ref a):=⟨a,t,items,_,rfl,hX5,.inr ⟨tb,rfl,hT5⟩,ht,⟨o,k t o ho ht ⟨_,_,hd⟩,hc,n,hd⟩,hvs.mono k N'.H.HD (.refl ..)⟩;exact⟨vs,_,U',rfl,rfl,R.back λb o e=>⟨o,(q₁.trans q₂).keep b o e⟩,h1,h2⟩
open Builtin Builtin.ObjectAttr
noncomputable def Ss:yk yt:=[.type "ValueError",.type "Exception",.type "BaseException",.type "object"]
inductive T7(S:au):Prop
 |mk (nm q:Str) (N:yp) (bs:yk yt) (hdct:yx) (sn:yk Str) (sub:yk yt) (ab:yx) (col:yl yx) (dd:yl yp) (k0 k1 k2 k3 k5:yl yt) (mN:Str->yl yt)
  (hC:S.h₀.get? S.P.CE=some (excClassObj nm q S.P.CE N bs Ss hdct sn sub ab col dd k0 k1 k2 k3 k5 "ValueError.__new__")) (hN:S.h₀.Ns N mN) (hq:∀n∈quietNames,mN n=none)
structure bP(S:au)(T:Tab):Prop extends Base S T where
 Jr:S.K.In S.h₀
 NK:findIn S.K (.ref S.P.TS) "__getattribute__"= some (some (.builtin "object.__getattribute__"))
 QJ:findIn S.K (.ref S.P.TS) "__getattr__"= some none
 JE:hasDictIn S.K S.P.TS=true
 PV:findIn S.K (.ref S.P.TS) "__setattr__"= some (some (.builtin "object.__setattr__"))
 J6:plainOver S.K S.P.TS=true
 Jw:∀a∈bG,findIn S.K (.ref S.P.TS) a=some none
 Jv:∀name fd,T.meths name=some fd->∃f,findIn S.K (.ref S.P.TS) name=some (some (.ref f))/\typeIn S.K (.ref f)=some (.type "function")/\ir S f fd /\
  specialIn S.K (.ref f) "__get__"= some (some (.builtin "function.__get__"))/\takesIn S.K (.ref f)=some false/\copiedNames.contains name=false
 J7:makesIn S.K S.P.TS=true
 J8:keepIn S.K (.ref S.P.TS)=true
 S5:findIn S.K (.ref S.P.NI) "__getattribute__"= some (some (.builtin "object.__getattribute__"))
 S0:findIn S.K (.ref S.P.NI) "__getattr__"= some none
 P9:(clsIn S.K S.P.NI).isSome=true
 P8:findIn S.K (.ref S.P.NI) "__setattr__"= some (some (.builtin "object.__setattr__"))
 Lm:plainOver S.K S.P.NI=true
 Jy:∀(a:Str) (i:Nat),(a,i)∈([("node",0),("npredecessors",1),("successors",2)]:yk (Str×Nat))->∃p,findIn S.K (.ref S.P.NI) a=some (some (.ref p)) /\
  specialIn S.K (.ref p) "__get__"= some (some (.builtin "member_descriptor.__get__"))/\takesIn S.K (.ref p)=some true/\slotIn S.K p S.P.NI=some i/\typeIn S.K (.ref p)=some (.type "member_descriptor")
 Lq:∀fd,T.IA=some fd->∃f,findIn S.K (.ref S.P.NI) "__init__"= some (some (.ref f))/\typeIn S.K (.ref f)=some (.type "function")/\ir S f fd
 Lo:makesIn S.K S.P.NI=true
 Lp:keepIn S.K (.ref S.P.NI)=true
 Qe:Js S "TopologicalSorter" (.ref S.P.TS)
 Qf:Js S "_NodeInfo" (.ref S.P.NI)
 IG:∀f fd,T.IG f=some fd->∃fa,Js S f (.ref fa)/\ir S fa fd
 Jo:Js S "range" (.type "range")
 JJ:Js S "enumerate" (.type "enumerate")
 ce:T7 S
 Ma:Js S "CycleError" (.ref S.P.CE)
 JI:Js S "StopIteration" (.type "StopIteration")
 blt:∀f n,hW f=some n->T.IG f=none->Js S f (uu n)
theorem aq.handed(x:aq U h v c):handedIn c=true:=by
 cases v with
 |none=>cases x; rfl
 |bool b=>cases x; rfl
 |int i=>obtain⟨t,rfl⟩:=x; rfl
 |str i=>obtain⟨t,rfl⟩:=x; rfl
 |bytes i=>obtain⟨t,rfl⟩:=x; rfl
 |typ n=>cases x; rfl
 |tup vs=>obtain⟨a,_,rfl,_⟩:=x; rfl
 |lst vs=>obtain⟨a,_,rfl,_⟩:=x; rfl
 |ref i=>obtain⟨a,rfl,_⟩:=x; rfl
theorem rH{e:Bl}{x y:Str}{t:Tok}(h:e.key=.str x t):e.key.isStr y=(x==y):=by rw[h]; rfl
theorem ro:∀{fs:yk (Str×AV)} {es:yk Bl},aQ U h fs es->es.any (·.refKey)=false
 |[],es,x=>by cases x; rfl
 |f::fs,es,x=>by obtain⟨e,r,rfl,⟨t,hk⟩,_,hr⟩:=x;rw[B0,ro hr,Dc];unfold DictEntry.refKey;rw[hk]
theorem qo(a:Str):∀{fs:yk (Str×AV)} {es:yk Bl},aQ U h fs es->(∃v e,fs.lookup a=some v/\es.find? (·.key.isStr a)=some e/\aq U h v e.val)\/(fs.lookup a=none/\es.find? (·.key.isStr a)=none)
 |[],es=>λx=>by cases x; exact .inr ⟨rfl,rfl⟩
 |f::fs,es=>λx=>by
  obtain⟨e,r,rfl,⟨t,hk⟩,hv,hr⟩:=x;obtain⟨k,v⟩:=f;rw[zi,Gw,rH hk];by_cases q:a=k
  ·subst q; rw[zl]; exact .inl ⟨v,e,rfl,rfl,hv⟩
  ·rw[CZ.mpr q,CZ.mpr (DQ q)];exact qo a hr
variable{es:yk Bl}
theorem oJ{a:Str}{fs:yk (Str×AV)}(x:aQ U h fs es)(e:fs.lookup a=some v):∃c,getL a es=some (some c)/\aq U h v c:=by refine hdZ λGG hGG =>?_;obtain⟨v',en,e1,q,hv⟩|⟨e1,_⟩:=qo a x<;>rw[e]at e1<;>(first|(have h9:=si e1; clear e1; subst h9)|cases e1);refine hGG ?_;unfold getL;rw[q]; exact⟨_,rfl,hv⟩
theorem oK{a:Str}{fs:yk (Str×AV)}(x:aQ U h fs es)(e:fs.lookup a=none):getL a es=some none:=by
 obtain⟨v',en,e1,q,hv⟩|⟨_,q⟩:=qo a x
 ·rw[e]at e1; exact nn e1
 unfold getL;rw[q]; simp[ro x]
theorem rP{a:Str}{fs:yk (Str×AV)}(x:aQ U h fs es):(getL a es).isSome=true:=by
 cases q:fs.lookup a with
 |none=>rw[oK x q]; rfl
 |some v=>obtain⟨c,e,_⟩:=oJ x q; rw[e]; rfl
theorem KI(a k:Str)(v u:AV)(r:yk (Str×AV)):cq ((k,u)::r) a v=if k=a then(a,v)::r else(k,u)::cq r a v:=rfl
theorem aQ.put{a:Str}{key:yt}{hsh:Int}{t:Tok}(hk:key=.str a t)(hv:aq U h v c):∀{fs:yk (Str×AV)} {es:yk Bl},aQ U h fs es->aQ U h (cq fs a v) (putL a hsh key c es)
 |[],es=>λx=>by cases x; exact⟨_,_,rfl,⟨t,hk⟩,hv,rfl⟩
 |f::fs,es=>λx=>by
  obtain⟨e,r,rfl,⟨t',hk'⟩,hv',hr⟩:=x;obtain⟨k,u⟩:=f;unfold putL;rw[KI];rw[rH hk'];by_cases q:k=a
  ·subst q;simp only[yo,zl];exact⟨_,_,rfl,⟨t',hk'⟩,hv,hr⟩
  ·have q1:(k==a)=false:=by simpa using q
   simp only[ym q,q1];exact⟨_,_,rfl,⟨t',hk'⟩,hv',aQ.put hk hv hr⟩
theorem ow(a:Str)(v:AV):∀fs:yk (Str×AV),(fs.map (·.1)).Nodup->((cq fs a v).map (·.1)).Nodup/\∀x∈(cq fs a v).map (·.1),x=a\/x∈fs.map (·.1)
 |[]=>λZ=>⟨Bu _ _,λx hx=>.inl (zf.mp hx)⟩
 |(k,u)::r=>λh=>by
  simp only[za,Bb]at h;rw[KI];by_cases q:k=a
  ·subst q; rw[yo rfl];exact⟨by simp[h.1]; exact h.2,λx hx=>.inr (by simpa using hx)⟩
  ·rw[ym q];obtain⟨h1,h2⟩:=ow a v r h.2;refine⟨?_,λx hx =>?_⟩
   ·simp only[za,Bb];refine⟨λhm =>?_,h1⟩;rcases h2 k hm with e|e
    ·exact q e
    ·exact h.1 e
   ·simp only[za,yP]at hx ⊢;rcases hx with hx|hx
    ·exact .inr (.inl hx)
    ·rcases h2 x hx with e|e
     ·exact .inl e
     ·exact .inr (.inr e)
theorem aQ.length:∀{fs:yk (Str×AV)} {es:yk Bl},aQ U h fs es->fs.length=es.length
 |[],es,x=>by cases x; rfl
 |f::fs,es,x=>by obtain⟨e,r,rfl,_,_,hr⟩:=x; simp[aQ.length hr]
theorem a9.Jr(B:bP S T)(H:a9 S envs U O s):S.K.In s.heap:=λa o e=>H.base a o (B.Jr a o e)
variable{dd:Nat}
theorem qi{x:yp}(H:a9 S envs U O s)(hi:U[i]?=some x)(e:O.hp i=.inst dd):∃dx,U[dd]?=some dx/\s.heap.get? x=some (Aq S.P.TS dx):=by have:=H.objs i x hi;rw[e]at this; exact this
variable{expr:yx}
theorem M5(B:bP S T){x:yp}{a:Str}{fs:yk (Str×AV)}(H:a9 S envs U O s)(hi:U[i]?=some x)(e:O.hp i=.inst dd)(hd:O.hp dd=.attrs fs)(hn:a∈bG)
  (hv:fs.lookup a=some v) (h:∀c,aq U s.heap v c->Q c {s with toks:=s.toks+1}):yq (yw S.prog S.w) A (getAttr (.ref x) a expr) Q E s:=by
 refine hdZ λGG hGG =>?_;obtain⟨dx,h1,h2⟩:=qi H hi e;have h3:=H.objs dd dx h1;rw[hd]at h3;obtain⟨es,n,h4,h5,_⟩:=h3;obtain⟨c,h6,h7⟩:=oJ h5 hv;refine hGG ?_;have I:InstAt s.heap x (Aq S.P.TS dx) S.P.TS (some (dictOf es n)):=⟨h2,rfl,rfl,h4⟩;exact get_value (H.Jr B) I B.NK (findObj_own B.JE (B.Jw a hn) rfl h6) h7.handed (h c h7)
variable{dx:yp}
theorem j6(B:bP S T){x:yp}{a:Str}{sl:yM (yl yt)}(H:a9 S envs U O s)(hd:U[dd]?=some dx)
  (ho:s.heap.get? x=some {cls:=.ref S.P.NI,dict:=some dx,data:=.plain,slots:=sl}) (ha:(a,k)∈([("node",0),("npredecessors",1),("successors",2)]:yk (Str×Nat))) (hv:bW U s.heap (some v) (sl[k]?).join)
  (h:∀c,aq U s.heap v c->Q c {s with toks:=s.toks+1}):yq (yw S.prog S.w) A (getAttr (.ref x) a expr) Q E s:=by
 refine hdZ λGG hGG =>?_;obtain⟨od,h3,_⟩:=(H.objs dd dx hd).cls;have I:InstAt s.heap x {cls:=.ref S.P.NI,dict:=some dx,data:=.plain,slots:=sl} S.P.NI (some od):=⟨ho,rfl,rfl,h3⟩;obtain⟨p,p1,p2,p3,p4,p5⟩:=B.Jy a k ha;refine hGG ?_;cases hc:(sl[k]?).join with
 |none=>rw[hc]at hv; exact hv.elim
 |some c =>rw[hc]at hv;exact get_bind (H.Jr B) I B.S5 (findObj_data B.P9 p1 p2 p3) B.S0 (BC (slot_get (s:={s with toks:=s.toks+1}) (show S.K.In s.heap from H.Jr B) I p4 hc (handed_on (aq.handed hv) (h c hv))))
open Builtin.Getset_descriptor
variable{K:Frag}
variable{ox:Obj}{name:Str}
section
variable{x C:yp}{R:A5->yy->Prop}
set_option tactic.hygienic true in
theorem tz{tk:Tok}{v:yt}(X:K.In s.heap)(I:InstAt s.heap x ox C (some (dictOf es n)))(hd:ox.dict=some dx)(hp:plainOver K C=true)
  (ht:takerIn K C name=some none) (hh:hasDictIn K C=true) (hl:(getL name es).isSome=true) (hz:es.length<=500)
  (h:R (.ok (.ret .none)) {s with heap:=s.heap.update dx (CW name (Bi w.params name) (.str name s.toks) v),toks:=s.toks+1}) :
  zQ (yw prog w) A (.call (.builtin "object.__setattr__") ⟨[.ref x,.str name tk,v],[]⟩) R s:=by
 refine osa_open X I hp ht λb =>?_;refine hdZ λGG hGG =>?_;obtain⟨cd,hc,hd'⟩:=any_some hh;obtain⟨hx,hcl,hn,hdi⟩:=I;obtain⟨oc,odi,oda,osl⟩:=ox;refine hGG ?_;dsimp only at hcl hd hdi;refine(let QQ:=_; let EE:=_; (?_:yq _ _ _ QQ EE _));subst hcl hd;have D:s.heap.get? dx=some (dictOf es n):=hdi;have D':(s.heap.update dx (CW name (Bi w.params name) (.str name s.toks) v)).get? dx=some (dictOf (putL name (Bi w.params name) (.str name s.toks) v es) (putN name es n)):=by rw[<-DZ];exact A7 _ D (by rw[DZ]; rfl)
 have hlen:(putL name (Bi w.params name) (.str name s.toks) v es).length<=es.length+1:=by
  clear D D' hl hz hdi;induction es with
  |nil=>simp[putL]
  |cons e r ih=>unfold putL; split<;>simp; exact ih
 refine yz (yG (yz (yz (wpAny_loadPart hx (yz ((looks_clsIn X hc).here ?_))))));rw[hd'];refine yG (a:=some dx) (yz (yG (yz ?_)));unfold nsSet;refine yz (yz (wpAny_askSetting (yG (yz (wpAny_mkText (yz (wpAny_loadPart D ?_)))))));unfold getL at hl;dsimp only;have c:(!(es.toArray.any (·.key.isStr name))&&es.toArray.any (·.refKey))=false:=by
  rw[<-Fw,<-Fw];split at hl
  ·rename_i en he;rw[Ez.mpr ⟨en,GJ he,EH he⟩]; rfl
  ·split at hl
   ·cases hl
   ·rename_i z; rw[FC]at z; rw[z,Eb]
 refine wq (by rw[aRefKeyMayBeTheName_at,c]) ?_;refine wpAny_updatePart D ?_;refine yz (wpAny_lookBehind D' (pastItsLine_dict (by rw[CK,sizeLine_eq]; lia)) ?_);exact yG h
theorem tw{od:yl Obj}{v:yt}{p:Nat}(X:K.In s.heap)(I:InstAt s.heap x ox C od)(hp:slotIn K p C=some i)(hi:i<1000)
  (h:R (.ok (.ret .none)) {s with heap:=s.heap.update x λo=>{o with slots:=(o.slots++Cs (i+1-o.slots.size) none).setIfInBounds i (some v)}}) :
  zQ (yw prog w) A (.call (.builtin "member_descriptor.__set__") ⟨[.ref p,.ref x,v],[]⟩) R s:=by
 refine hdZ λGG hGG =>?_;obtain⟨n,tn,owner,behind,tb,d,sl,cd,ho,hc,hm,hb,rfl⟩:=slot_of X hp;obtain⟨hh,g,dr,t,os⟩:=s;refine hGG ?_;have L0:=I.type (M:=yw prog w);have L1:=looks_mroIn (M:=yw prog w) X hm;have L2:Looks (yw prog w) hh (Slots.slotNamesOf (.ref C)) cd.slotNames:=(looks_clsIn X hc).andThen .now;have hx:=I.at_;dsimp only at ho hx L0 L1;have f0:=DY (M:=yw prog w) ho 0 (v:=.str n tn) rfl;have f1:=DY (M:=yw prog w) ho 1 (v:=owner) rfl;have f3:=DY (M:=yw prog w) ho 3 (v:=.builtin "proto.slot#set") rfl;have f4:=DY (M:=yw prog w) ho 4 (v:=.int behind tb) rfl;refine Fn Ey.plain KF.entry_mset (Ey.check _ _ _ _ _ _ _ _ ⟨_,ho,rfl⟩ (KF.args_mset _ _ _) ?_);unfold As.«member_descriptor.__set__» descrSet descrStoreThrough descrCheckInstance descrNameAndClass isInstance;have f5:Looks (yw prog w) hh (descrItself (.ref p)) [.ref p]:=((Looks.ld (part:=none) ho).andThen .now).andThen (Looks.of_pure (by kernel_rfl))
 repeat lk
 refine⟨FI _ (by decide +kernel),Fk KF.entry_slotset ?_⟩;unfold As.«proto.slot#set» Slots.target
 repeat lk
 refine wq (by rw[ym hb]) ?_;refine yG (yz ?_);unfold setSlotAt;dsimp only;refine wq (by rw[ym (by rw[sizeLine_eq]; lia)]) ?_;exact wpAny_updatePart hx (yG h)
end
theorem tm(B:bP S T){a:Str}(h:a∈bG):takerIn S.K S.P.TS a=some none:=by unfold takerIn; rw[B.Jw a h]; rfl
theorem M4(B:bP S T){x:yp}{a:Str}{fs:yk (Str×AV)}{Q:yu->yy->Prop}(N:HB S envs env own cx U O s)(hi:U[i]?=some x)(e:O.hp i=.inst dd)(hd:O.hp dd=.attrs fs)(hn:a∈bG)
  (hz:fs.length<=100) (hv:aq U s.heap v c)
  (h:∀s',HB S envs env own cx U {O with hp:=upd O.hp dd (.attrs (cq fs a v))} s'->Ext own U O s U {O with hp:=upd O.hp dd (.attrs (cq fs a v))} s'->Q () s') :
  yq (yw S.prog S.w) A (setAttr (.ref x) a c) Q E s:=by
 refine hdZ λGG hGG =>?_;obtain⟨dx,h1,h2⟩:=qi N.H hi e;have h3:=N.H.objs dd dx h1;rw[hd]at h3;obtain⟨es,n,h4,h5,h6⟩:=h3;refine hGG ?_;have I:InstAt s.heap x (Aq S.P.TS dx) S.P.TS (some (dictOf es n)):=⟨h2,rfl,rfl,h4⟩;refine set_plain (N.H.Jr B) I B.PV (tz (s:={s with toks:=s.toks+1}) (show S.K.In s.heap from N.H.Jr B) I rfl B.J6 (tm B hn) B.JE (rP h5) (by rw[<-h5.length]; exact yn (by assumption) (by decide +kernel)) ?_);have hs:zY dx s.heap (s.heap.update dx (CW a (Bi S.w.params a) (.str a (s.toks+1)) c)):=Bo ..;have hg:(s.heap.update dx (CW a (Bi S.w.params a) (.str a (s.toks+1)) c)).get? dx=some (dictOf (putL a (Bi S.w.params a) (.str a (s.toks+1)) c es) (putN a es n)):=by rw[<-DZ];exact A7 _ h4 (by rw[DZ]; rfl)
 have hk:bq U s.heap (s.heap.update dx (CW a (Bi S.w.params a) (.str a (s.toks+1)) c)):=λb ob eb hnb Z=>(hs.2 b (λq=>hnb (q▸zy h1))).trans eb;obtain⟨N',X'⟩:=N.write (t:=s.toks+1+1) h1 hs (o:=.attrs (cq fs a v)) ⟨_,_,hg,aQ.mono hk N.H.HD (.refl ..) (aQ.put rfl hv h5),(ow a v fs h6).1⟩ (λkvs v' q=>by rw[hd]at q; cases q) (λvs q=>by rw[hd]at q; obtain⟨rfl,q⟩:=q; exact q);exact h _ N' X'
variable{y:yl AV}
set_option tactic.hygienic true in
theorem pG{x:yl AV}{sl:yM (yl yt)}(hv:aq U h v c)(hy:bW U h y (sl[j]?).join)(hx:x=if j=k then some v else y) :
  bW U h x (((sl++Cs (k+1-sl.size) none).setIfInBounds k (some c))[j]?).join:=by
 by_cases q:j=k
 ·subst q;rw[yo rfl]at hx; subst hx;rw[Array.getElem?_setIfInBounds_self_of_lt (by rw[Ea,Array.size_replicate,zI]; exact DJ (yF _))];exact hv
 ·rw[ym q]at hx; subst hx;rw[Array.getElem?_setIfInBounds_ne (λz=>q z.symm)];rw[Array.getElem?_append];split
  ·exact hy
  ·rename_i hlt;rw[Array.getElem?_eq_none (by exact zr (by assumption))]at hy;rw[Array.getElem?_replicate];split<;>exact hy
variable{z:yl AV}
theorem lJ(B:bP S T){xa:yp}{a:Str}{x x' y' z':yl AV}{Q:yu->yy->Prop}(N:HB S envs env own cx U O s)(hi:U[i]?=some xa)(e:O.hp i=.node dd x y z)
  (ha:(a,k)∈([("node",0),("npredecessors",1),("successors",2)]:yk (Str×Nat))) (hv:aq U s.heap v c)
  (hx:x'=if 0=k then some v else x) (hy:y'=if 1=k then some v else y) (hz:z'=if 2=k then some v else z)
  (h:∀s',HB S envs env own cx U {O with hp:=upd O.hp i (.node dd x' y' z')} s'->Ext own U O s U {O with hp:=upd O.hp i (.node dd x' y' z')} s'->Q () s') :
  yq (yw S.prog S.w) A (setAttr (.ref xa) a c) Q E s:=by
 have h3:=N.H.objs i xa hi;rw[e]at h3;refine hdZ λGG hGG =>?_;obtain⟨dx,sl,h1,h2,r1,r2,r3⟩:=h3;obtain⟨od,h4,_⟩:=(N.H.objs dd dx h1).cls;have I:InstAt s.heap xa {cls:=.ref S.P.NI,dict:=some dx,data:=.plain,slots:=sl} S.P.NI (some od):=⟨h2,rfl,rfl,h4⟩;obtain⟨p,p1,p2,p3,p4,p5⟩:=B.Jy a k ha;refine hGG ?_;have ht:takerIn S.K S.P.NI a=some (some (.ref p)):=by unfold takerIn; rw[p1]; show(takesIn S.K (.ref p)).map _=_; rw[p3]; rfl
 have hk3:k<1000:=by simp at ha; rcases ha with⟨_,rfl⟩|⟨_,rfl⟩|⟨_,rfl⟩<;>decide
 refine set_plain (N.H.Jr B) I B.P8 (osa_descr (s:={s with toks:=s.toks+1}) Ey (show S.K.In s.heap from N.H.Jr B) I B.Lm ht p5 (tw (s:={s with toks:=s.toks+1}) (show S.K.In s.heap from N.H.Jr B) I p4 hk3 ?_));have hs:zY xa s.heap (s.heap.update xa λo=>{o with slots:=(o.slots++Cs (k+1-o.slots.size) none).setIfInBounds k (some c)}):=Bo ..;have hk:bq U s.heap (s.heap.update xa λo=>{o with slots:=(o.slots++Cs (k+1-o.slots.size) none).setIfInBounds k (some c)}):=λb ob eb hnb Z=>(hs.2 b (λq=>hnb (q▸zy hi))).trans eb;have hg:=A7 (λo:Obj=>{o with slots:=(o.slots++Cs (k+1-o.slots.size) none).setIfInBounds k (some c)}) h2 rfl;obtain⟨N',X'⟩:=N.write (t:=s.toks+1) hi hs (o:=.node dd x' y' z') ⟨dx,_,h1,hg,(pG hv r1 hx).mono hk N.H.HD (.refl ..),(pG hv r2 hy).mono hk N.H.HD (.refl ..),(pG hv r3 hz).mono hk N.H.HD (.refl ..)⟩ (λkvs v' q=>by rw[e]at q; cases q) (λvs q=>by rw[e]at q; obtain⟨rfl,q⟩:=q; exact q);exact h _ N' X'
set_option tactic.hygienic true in
theorem gw(B:bP S T){o:AV}{a:Str}{Q:yu->yy->Prop}(N:HB S envs env own cx U O s)(hr:dE o a v O=some q)(ho:aq U s.heap o co)(hv:aq U s.heap v c)
  (h:∀s' O',q=.ok () O'->HB S envs env own cx U O' s'->Ext own U O s U O' s'->Q () s'):yq (yw S.prog S.w) A (setAttr co a c) Q E s:=by
 have h9:=ad hr; clear hr; obtain⟨i,hi,hr⟩:=h9;have h9:=aN hr; clear hr; obtain⟨hlt,hr⟩:=h9;obtain⟨x,rfl,hx⟩:=ho.H4 hi;have h9:=aH hr; clear hr; rcases h9 with⟨dd,hd,hr⟩|⟨-,hr⟩
 ·have h9:=aN hr; clear hr; obtain⟨hdd,hr⟩:=h9;have h9:=ad hr; clear hr; obtain⟨fs,hf,hr⟩:=h9;have h9:=az hr; clear hr; obtain⟨hc,hr⟩:=h9;refine(let QQ:=_; let EE:=_; (?_:yq _ _ _ QQ EE _));obtain⟨hc,hn⟩:=yS.mp hc;obtain⟨_,rfl⟩:=dQ hr;exact M4 B N hx (AO.Iv hd) (AO.Im hf) (zp.mp hn) (BP hc) hv λs' N' X'=>h s' _ rfl N' X'
 ·have h9:=ad hr; clear hr; obtain⟨n,hn,hr⟩:=h9;have h9:=ad hr; clear hr; obtain⟨o',ho',hr⟩:=h9;obtain⟨_,rfl⟩:=dQ hr;have hn:=AO.IX hn;unfold uZ at ho';split at ho'
  ·rename_i ha; subst ha; (have h9:=si ho'; clear ho'; subst h9);exact lJ B (k:=0) N hx hn (by decide) hv rfl rfl rfl λs' N' X'=>h s' _ rfl N' X'
  ·split at ho'
   ·rename_i ha; subst ha; (have h9:=si ho'; clear ho'; subst h9);exact lJ B (k:=1) N hx hn (by decide) hv rfl rfl rfl λs' N' X'=>h s' _ rfl N' X'
   ·obtain⟨ha,rfl⟩:=aZ ho';subst ha;exact lJ B (k:=2) N hx hn (by decide) hv rfl rfl rfl λs' N' X'=>h s' _ rfl N' X'
theorem fJ:Slot "list_iterator" "__getattribute__" "object.__getattribute__":=
 .of (owner :="object") (n :="__getattribute__") (by rw[D4,DW]; kernel_rfl) (by decide +kernel) (by decide +kernel) (by decide +kernel)
  (by first|exact .inl (by decide +kernel)|exact .inr (by decide +kernel)) (by rw[C1]; kernel_rfl)
theorem iU:typeOf (.builtin "list_iterator.__next__")=pure (.type "wrapper_descriptor"):=by kernel_rfl
theorem gu:Slot "wrapper_descriptor" "__get__" "wrapper_descriptor.__get__":=
 .of (owner :="wrapper_descriptor") (n :="__get__") (by rw[D4,DW]; kernel_rfl) (by decide +kernel) (by decide +kernel) (by decide +kernel)
  (by first|exact .inl (by decide +kernel)|exact .inr (by decide +kernel)) (by rw[C1]; kernel_rfl)
theorem qt:entryFor table "wrapper_descriptor.__get__"= some As.«wrapper_descriptor.__get__» := entryFor_of_tree (by kernel_rfl)
theorem sO(a b c:yt):argsOk "wrapper_descriptor.__get__" ⟨[a,b,c],[]⟩:=by unfold argsOk; kernel_rfl
theorem QE:typeLookup (.type "wrapper_descriptor") "__set__"= pure none:=by rw[D4,DW]; kernel_rfl
theorem QG:typeLookup (.type "wrapper_descriptor") "__delete__"= pure none:=by rw[D4,DW]; kernel_rfl
theorem QK:isSubtype (.type "list_iterator") (.type "list_iterator")=pure true:=by rw[C1]; kernel_rfl
theorem QW:(".".intercalate ("list_iterator.__next__".cutAt '.').dropLast) ="list_iterator":= by decide +kernel
theorem tq:isSubtype (.type "list_iterator") (.type (".".intercalate ("list_iterator.__next__".cutAt '.').dropLast))=pure true:=by rw[QW]; exact QK
noncomputable abbrev pg(it:yp):Obj:={cls:=.type "method-wrapper",data:=.fields #[.builtin "list_iterator.__next__",.ref it]}
variable{it:yp}
theorem QF{R:A5->yy->Prop}(hit:s.heap.IsListIter it l i)(h:R (.ok (.ret (.ref s.heap.objs.size))) {s with heap:=s.heap.push (pg it)}) :
  zQ (yw prog w) A (.call (.builtin "wrapper_descriptor.__get__") ⟨[.builtin "list_iterator.__next__",.ref it,.type "list_iterator"],[]⟩) R s:=by
 have hT5:s.TypeIs (.builtin "list_iterator.__next__") "wrapper_descriptor":= iU;have hT:=hit.typeIs;have f:=tq;refine Fn gu.plain qt (gu.check _ _ _ _ _ _ _ _ hT5 (sO _ _ _) ?_);unfold As.«wrapper_descriptor.__get__»
 repeat (any_goals (first|assumption|wp_step))
theorem UZ.iter(e:h.get? it=some (mz l i)):h.IsListIter it l i:=⟨_,e,rfl,rfl⟩
set_option maxHeartbeats 1000000 in
theorem Mc(ho:s.heap.get? it=some (mz l i))
  (h:Q (.ref s.heap.objs.size) {s with heap:=s.heap.push (pg it),toks:=s.toks+1}) :
  yq (yw prog w) A (getAttr (.ref it) "__next__" true) Q E s:=by
 have f1:=fJ.lookup;have f2:=fJ.bind (.ref it);have f3:=slot_listiter_next.lookup;have f4:=iU;have f5:=gu.lookup;have f6:=QE;have f7:=QG;obtain⟨hp,g,d,tk,os⟩:=s;dsimp only at ho h;have hT:∀tk,(⟨hp,g,d,tk,os⟩:yy).TypeIs (.ref it) "list_iterator":=λZ=>⟨_,ho,rfl⟩;have hT0:(⟨hp,g,d,tk,os⟩:yy).TypeIs (.ref it) "list_iterator":= ⟨_,ho,rfl⟩;have hT1:(⟨hp,g,d,tk+1,os⟩:yy).TypeIs (.ref it) "list_iterator":= ⟨_,ho,rfl⟩;unfold getAttr getAttrBy
 repeat (any_goals (first|assumption|exact hT _|wp_step))
 refine Fn fJ.plain F.entry_object_getattribute (fJ.check _ _ _ _ _ _ _ _ hT1 (F.args_object_getattribute_2 _ _) ?_);unfold As.«object.__getattribute__»
 repeat (any_goals (first|assumption|exact hT _|wp_step))
 refine QF (s:=⟨hp,g,d,tk+1,os⟩) (UZ.iter ho) ?_
 repeat (any_goals (first|assumption|exact hT _|wp_step))
theorem MR(it:yp):checkBoundCall "list_iterator.__next__" ⟨[.ref it],[]⟩=pure ():=by first|kernel_rfl|rfl
theorem xT{nw:yp}{R:A5->yy->Prop}(hn:vV s.heap nw it)
  (h:yq (yw prog w) A.in1 (As.«list_iterator.__next__» ⟨[.ref it],[]⟩) (λfin s'=>match fin with|.done f=>R (.ok f) s'|.again c'=>c'.quiet=true/\zQ (yw prog w) A c' R s') (λe s'=>R (.error e) s') s) :
  zQ (yw prog w) A (.call (.ref nw) ⟨[],[]⟩) R s:=by
 refine hdZ λGG hGG =>?_;obtain⟨o,ho,hc,hd⟩:=hn;refine hGG ?_;refine codeAny_of_tree ?_;show yq _ _ (callAny (.ref nw) _) _ _ _;obtain⟨cl,dc,da,sl⟩:=o;cases hd;cases hc;delta callAny;refine yz (Cp ho ?_);show yq _ _ (checkBoundCall "list_iterator.__next__" ⟨[.ref it],[]⟩ >>=_) _ _ _;refine wq (by rw[MR]) ?_;refine yz (yG (yz (yG ?_)));exact yG (And.intro (FI _ (by decide +kernel)) (Fk entry_listiter_next (by
  rw[Around.under_plainId (by decide +kernel)]; exact h)))
variable{items:yM yt}
theorem wZ{x:yt}{Q:Fin->yy->Prop}(ho:s.heap.get? it=some (mz l i))(hl:s.heap.IsList l items)(hx:items[i]?=some x)
  (hQ:∀h',h'.get? it=some (mz l (i+1))->zY it s.heap h'->Q (.done (.ret x)) {s with heap:=h'}) :
  yq (yw prog w) A (As.«list_iterator.__next__» ⟨[.ref it],[]⟩) Q E s:=by
 refine hdZ λGG hGG =>?_;obtain⟨ol,hol,_,nl,hdl⟩:=hl;refine hGG ?_;show yq _ _ (field (.ref it) 0 >>=_) _ _ s;refine yz (AY ho rfl (x:=.ref l) rfl ?_);show yq _ _ (if(zW l==AI)=true then _ else _) _ _ s;rw[ym (show ¬((zW l==AI)=true)from A0)];show yq _ _ (field (.ref it) 1 >>=_) _ _ s;refine yz (AY ho rfl (x:=.int i 0) rfl ?_);show yq _ _ (seqItems? (.ref l) >>=_) _ _ s;refine yz (D5 hol hdl ?_);refine(let QQ:=_; let EE:=_; (?_:yq _ _ _ QQ EE _));simp only[zK,hx];refine yz (D6 ho rfl (by simp) (yG (hQ _ ?_ (Bo ..))));exact A7 _ ho rfl
theorem wY{Q:Fin->yy->Prop}(hh:A.handled=none)(ho:s.heap.get? it=some (mz l i))(hl:s.heap.IsList l items)(hx:items[i]?=none)
  (hE:∀h' o,h'.get? it=some o->o.cls=.type "list_iterator" -> (∃fs,o.data=.fields fs)->(∀b ob,b≠it->s.heap.get? b=some ob->h'.get? b=some ob) ->
   h'.get? s.heap.objs.size=some {cls:=.type "tuple",data:=.seq #[]}->h'.get? (s.heap.objs.size+1)=some {cls:=.type "StopIteration",data:=.fields #[.ref s.heap.objs.size,.none,.none,.none,.bool false,.none]}->E (.ref (s.heap.objs.size+1)) {s with heap:=h'}) :
  yq (yw prog w) A (As.«list_iterator.__next__» ⟨[.ref it],[]⟩) Q E s:=by
 refine hdZ λGG hGG =>?_;obtain⟨ol,hol,_,nl,hdl⟩:=hl;refine hGG ?_;show yq _ _ (field (.ref it) 0 >>=_) _ _ s;refine yz (AY ho rfl (x:=.ref l) rfl ?_);show yq _ _ (if(zW l==AI)=true then _ else _) _ _ s;rw[ym (show ¬((zW l==AI)=true)from A0)];show yq _ _ (field (.ref it) 1 >>=_) _ _ s;refine yz (AY ho rfl (x:=.int i 0) rfl ?_);show yq _ _ (seqItems? (.ref l) >>=_) _ _ s;refine yz (D5 hol hdl ?_);refine(let QQ:=_; let EE:=_; (?_:yq _ _ _ QQ EE _));simp only[zK,hx];refine yz (wpAny_rule (yz (D6 ho rfl (by simp) ?_)));show yq _ _ (newExc (.type "StopIteration") [] >>=_) _ _ _;refine yz ?_;refine(let QQ:=_; let EE:=_; (?_:yq _ _ _ QQ EE _));simp only[newExc,newTuple];refine yz (BR ?_ (by size_fits));refine yz (m:=firstArgMember _ _) (Cq (a:=AI) (by first|rfl|(simp only[firstArgMember]; rfl)) ?_);refine BR ?_ (by size_fits);show yq _ _ (raiseNew _) _ _ _;delta raiseNew;refine yz (wpAny_handled ?_);refine wq (by rw[hh]) ?_;refine yz (yG (wpAny_throw ?_));have key:∀(h1:yC),h1.objs.size=s.heap.objs.size->(∃o,h1.get? it=some o/\o.cls=.type "list_iterator" /\ ∃fs,o.data=.fields fs)->(∀b ob,b≠it->s.heap.get? b=some ob->h1.get? b=some ob) ->
   E (.ref (h1.push {cls:=.type "tuple",data:=.seq #[]}).objs.size) {s with heap:=(h1.push {cls:=.type "tuple",data:=.seq #[]}).push {cls:=.type "StopIteration",data:=.fields #[.ref h1.objs.size,.none,.none,.none,.bool false,.none]}}:=by
  intro h1 e1 ⟨o,e2,e3,e4⟩ e5;have h0:=y6 h1 (o:={cls:=.type "tuple",data:=.seq #[]}) rfl;have h2:=y6 (h1.push {cls:=.type "tuple",data:=.seq #[]}) (o:={cls:=.type "StopIteration",data:=.fields #[.ref h1.objs.size,.none,.none,.none,.bool false,.none]}) rfl;have h3:=zR {cls:=.type "StopIteration",data:=.fields #[.ref h1.objs.size,.none,.none,.none,.bool false,.none]} h0;have es:(h1.push {cls:=.type "tuple",data:=.seq #[]}).objs.size=s.heap.objs.size+1:=by rw[BF,e1]
  rw[es]at h2 ⊢;rw[e1]at h2 h3 ⊢;exact hE _ o (zR _ (zR _ e2)) e3 e4 (λb ob hb e=>zR _ (zR _ (e5 b ob hb e))) h3 h2
 refine key _ (Heap.size_update ..) ⟨_,A7 _ ho rfl,rfl,⟨_,rfl⟩⟩ (λb ob hb e=>(Heap.get?_update_ne _ _ _ _ hb).trans e)
theorem HB.J2(N:HB S envs env own cx U O s)(hi:U[i]?=some a)(hs:∀b ob,b≠a->s.heap.get? b=some ob->s'.heap.get? b=some ob)(hg:s'.gens=s.gens)(hos:s'.os=s.os)
  (ho:dN S.prog S.w S.P U s'.heap a o) (hv:∀kvs v,O.hp i=.dict kvs v->∃kvs',o=.dict kvs' (v+1)) (hf:∀vs,¬eS (O.hp i) vs) :
  HB S envs env own cx U {O with hp:=upd O.hp i o} s'/\Ext own U O s U {O with hp:=upd O.hp i o} s':=by
 have ham:a∈U:=zy hi;have ha':∃o,s'.heap.get? a=some o:=ho.cls.imp λZ z=>z.1;have hk:bq U s.heap s'.heap:=λb ob e hn Z=>hs b ob (λq=>hn (q▸ham)) e;have hx:∀own,eZ U own s.heap s'.heap:=λown=>⟨λb ob e=>by
  by_cases q:b=a
  ·rw[q]; exact ha'
  ·exact⟨ob,hs b ob q e⟩,λb ob e h1 h2=>⟨ob,hs b ob (λq=>h1 (q▸ham)) e,.refl _⟩⟩
 refine⟨⟨⟨?_,hg.trans N.H.gens,hos.trans N.H.os,N.H.len,N.H.nodup,N.H.above,?_,?_,N.H.U1 hf⟩,N.F.ext (hx _) N.H.HD (.refl ..)⟩,hx _,.refl ..,λj b kvs v hj e =>?_,λj b vs hj e =>?_⟩
 ·intro b ob e;exact hs b ob (λq=>by rw[q,N.H.above a ham]at e; exact nn e) (N.H.base b ob e)
 ·intro j b hj;by_cases hij:j=i
  ·subst hij;rw[hi]at hj; (have h9:=si hj; clear hj; subst h9);show dN _ _ _ _ _ _ (upd O.hp j o j);rw[upd,yo rfl]; exact ho
  ·have hne:b≠a:=λq=>hij (N.H.inj (q▸hj) hi);show dN _ _ _ _ _ _ (upd O.hp i o j);rw[upd,ym hij];obtain⟨ob,eb,_⟩:=(N.H.objs j b hj).cls;exact(N.H.objs j b hj).mono hk N.H.HD (.refl ..) ((hs b ob hne eb).trans eb.symm)
 ·intro e he;refine hdZ λGG hGG =>?_;obtain⟨hk',L,ob,es,ep,h1,h2,h4,h5,h6⟩:=N.H.IK e he;refine hGG ?_;exact⟨hk',L,ob,es,ep,h1,hs L ob (λq=>h6 (q▸ham)) h2,h4,h5,h6⟩
 ·by_cases hij:j=i
  ·subst hij;obtain⟨kvs',rfl⟩:=hv kvs v e;exact⟨kvs',v+1,by simp[upd],by lia,λq=>yD q (by lia)⟩
  ·have hne:b≠a:=λq=>hij (N.H.inj (q▸hj) hi);obtain⟨ob,eb,_⟩:=(N.H.objs j b hj).cls;exact⟨kvs,v,by simp[upd,hij,e],yF _,λZ=>⟨rfl,(hs b ob hne eb).trans eb.symm⟩⟩
 ·have hij:j≠i:=λq=>hf vs (q▸e);have hne:b≠a:=λq=>hij (N.H.inj (q▸hj) hi);obtain⟨ob,eb,_⟩:=(N.H.objs j b hj).cls;exact⟨by simpa[upd,hij]using e,(hs b ob hne eb).trans eb.symm⟩
theorem nZ{f:AV}{cf:yt}{q:Res AV}(hh:A.handled=none)(N:HB S envs env own cx U O s)(hr:cM f O=some q)(hf:aq U s.heap f cf) :
  (∃k,∀Q':BY->yy->Prop,Q' k s->yq (yw S.prog S.w) A (keeperOf cf) Q' (H3 S envs env own cx U O s q) s) /\
  yq (yw S.prog S.w) A (call cf []) (HG S envs env own cx aq U O s q) (H3 S envs env own cx U O s q) s:=by
 have h9:=ad hr; clear hr; obtain⟨i,hfi,hr⟩:=h9;have h9:=aN hr; clear hr; obtain⟨_,hr⟩:=h9;have h9:=ad hr; clear hr; obtain⟨it,hp,hr⟩:=h9;have h9:=aN hr; clear hr; obtain⟨_,hr⟩:=h9;have h9:=ad hr; clear hr; obtain⟨⟨l,k⟩,hp2,hr⟩:=h9;have h9:=aN hr; clear hr; obtain⟨_,hr⟩:=h9;have h9:=ad hr; clear hr; obtain⟨vs,hp3,hr⟩:=h9;refine hdZ λGG hGG =>?_;obtain⟨x,rfl,hx⟩:=hf.H4 hfi;have h1:=N.H.objs i x hx;rw[AO.Jl hp]at h1;obtain⟨ia,hia,hw⟩:=h1;have h2:=N.H.objs it ia hia;have hp2:=AO.I3 hp2;rw[hp2]at h2;obtain⟨la,hla,ho⟩:=h2;have h3:=N.H.objs l la hla;rw[AO.HP hp3]at h3;obtain⟨items,n,hl,hv⟩:=h3;refine hGG ?_;refine⟨⟨.machine,λQ' hq =>?_⟩,?_⟩
 ·obtain⟨o,ho,hc,hd⟩:=hw;unfold keeperOf;refine yz (Cp ho ?_);refine wq (by simp only[hd,hc]; rfl) ?_;exact yG hq
 ·refine(let QQ:=_; let EE:=_; (?_:yq _ _ _ QQ EE _));refine BC (xT hw ?_);have h9:=aH hr; clear hr; rcases h9 with⟨v,hvk,hr⟩|⟨hvk,hr⟩
  ·have h9:=kT hr; clear hr; obtain⟨_,hr⟩:=h9
   (have h9:=si hr; clear hr; subst h9)
   refine(let QQ:=_; let EE:=_; (?_:yq _ _ _ QQ EE _));obtain⟨c,hc,hvc⟩:=hv.get hvk;refine wZ ho hl.isList (by simpa using hc) λh' e1 e2 =>?_;have hs:∀b ob,b≠ia->s.heap.get? b=some ob->h'.get? b=some ob:=λb ob hb e=>(e2.2 b hb).trans e;have h8:=N.J2 (s':={s with heap:=h'}) (o:=.iter l (k+1)) hia hs rfl rfl ⟨la,hla,e1⟩ (λkvs v e=>by rw[hp2]at e; cases e) (λvs e=>by rw[hp2]at e; obtain⟨rfl,e⟩:=e; exact e);have N':=h8.1;have X':=h8.2;exact⟨v,_,U,rfl,hvc.ext N X',N',X'⟩
  ·have h9:=kT hr; clear hr; obtain⟨_,hr⟩:=h9
   (have h9:=si hr; clear hr; subst h9)
   have hnone:items[k]?=none:=by have hlen:=hv.length;rw[EL]at hvk;rw[Fx]; simp at hlen; lia
   refine wY hh ho hl.isList hnone λh' o e1 e2 e3 e4 e5 e6 =>?_;have hn1:s.heap.get? (s.heap.objs.size+1)=none:=zm (Am _);obtain⟨N',X'⟩:=N.J2 (s':={s with heap:=h'}) (o:=.dead) hia e4 rfl rfl ⟨o,e1,trivial,λv q=>by obtain⟨fs,e3⟩:=e3; rw[e3]at q; cases q⟩ (λkvs v e=>by rw[hp2]at e; cases e) (λvs e=>by rw[hp2]at e; obtain⟨rfl,e⟩:=e; exact e);refine⟨.stop,_,U,rfl,⟨_,_,rfl,⟨_,_,?_,?_,hn1,e6,rfl,rfl,rfl,rfl,rfl⟩⟩,N',X'⟩
   ·cases q:S.h₀.get? (s.heap.objs.size+1)with
    |none=>rfl
    |some o=>have:=N.H.base _ o q; rw[hn1]at this; exact nn this
   ·intro hm;obtain⟨o,e,_⟩:=N.H.HD _ hm;rw[hn1]at e; exact nn e
theorem yh(B:bP S T){x:yp}(N:HB S envs env own cx U O s)(h1:ExcAt S.P U s.heap x vs):yq (yw S.prog S.w) A (getAttr (.ref x) "args" true) (HG S envs env own cx aq U O s (.ok (.tup vs) O)) E s:=by obtain⟨o,fs,t,items,ho,hc,hd,f0,f2,ht,hi,hv⟩:=h1;obtain⟨nm,q,Nn,bs,hdct,sn,sub,ab,col,dd,k0,k1,k2,k3,k5,mN,hC,hN,hq⟩:=B.ce;obtain⟨hp,g,dd,tk,os⟩:=s;exact args_attr_own F.attrBase_ValueError (N.H.base _ _ hC) (hN.keeps N.H.base) hq .base ho hc hd f0 (HG.quiet N (.tok ..) ⟨t,items,rfl,hi,ht,hv⟩)
set_option tactic.hygienic true in
theorem kB(B:bP S T){o:AV}{a:Str}{q:Res AV}(N:HB S envs env own cx U O s)(hr:be o a O=some q)(ho:aq U s.heap o co) :
  yq (yw S.prog S.w) A (getAttr co a true) (HG S envs env own cx aq U O s q) (H3 S envs env own cx U O s q) s:=by
 have h9:=ad hr; clear hr; obtain⟨i,hi,hr⟩:=h9;have h9:=aN hr; clear hr; obtain⟨_,hr⟩:=h9;refine(let QQ:=_; let EE:=_; (?_:yq _ _ _ QQ EE _));obtain⟨x,rfl,hx⟩:=ho.H4 hi;have h9:=aH hr; clear hr; rcases h9 with⟨dd,hd,hr⟩|⟨-,hr⟩
 ·have h9:=aN hr; clear hr; obtain⟨_,hr⟩:=h9;have h9:=ad hr; clear hr; obtain⟨fs,hf,hr⟩:=h9;have h9:=az hr; clear hr; obtain⟨hc,hr⟩:=h9;obtain⟨v,hv,rfl⟩:=my hr;exact M5 B N.H hx (AO.Iv hd) (AO.Im hf) (zp.mp hc) hv λc hc=>HG.quiet N (.tok ..) hc
 ·have h9:=aH hr; clear hr; rcases h9 with⟨n,hn,hr⟩|⟨-,hr⟩
  ·obtain⟨v,hv,rfl⟩:=my hr;have h1:=N.H.objs i x hx;rw[AO.IX hn]at h1;obtain⟨dx,sl,h2,h3,r1,r2,r3⟩:=h1;unfold vd at hv;split at hv
   ·rename_i ha; subst ha;rw[hv]at r1;exact j6 B (k:=0) N.H h2 h3 (by decide) r1 λc hc=>HG.quiet N (.tok ..) hc
   ·split at hv
    ·rename_i ha; subst ha;rw[hv]at r2;exact j6 B (k:=1) N.H h2 h3 (by decide) r2 λc hc=>HG.quiet N (.tok ..) hc
    ·split at hv
     ·rename_i ha; subst ha;rw[hv]at r3;exact j6 B (k:=2) N.H h2 h3 (by decide) r3 λc hc=>HG.quiet N (.tok ..) hc
     ·exact nn hv
  ·have h9:=aH hr; clear hr; rcases h9 with⟨vs,hvs,hr⟩|⟨-,hr⟩
   ·have h9:=az hr; clear hr; obtain⟨ha,hr⟩:=h9;subst ha
    (have h9:=si hr; clear hr; subst h9)
    have h1:=N.H.objs i x hx;rw[AO.JY hvs]at h1;exact yh B N h1
   have h9:=ad hr; clear hr; obtain⟨⟨l,k⟩,hp,hr⟩:=h9;have h9:=az hr; clear hr; obtain⟨ha,hr⟩:=h9;subst ha;have h1:=N.H.objs i x hx;rw[AO.I3 hp]at h1;obtain⟨la,hla,h2⟩:=h1
   (have h9:=si hr; clear hr; subst h9)
   refine Mc h2 ?_;refine HG.alloc (s':={s with heap:=s.heap.push (pg x),toks:=s.toks+1}) N (.push ..) (zm (yF _)) ?_;refine⟨x,?_,⟨_,y6 _ rfl,rfl,rfl⟩⟩;rw[AD (y2.mp hx).1]; exact hx
variable{attr:Str}
theorem ya{id:Str}{p:Pos}{w:Sem yt}(h:(id != ("super": Str))=true):attributeBase (.Call (.Name id p) [] [] pos) attr env w=w:=by unfold attributeBase;dsimp only;rw[h];simp
theorem vN{o:yr}(h:fQ o=true):attributeBase o attr env (eval o env)=eval o env:=by
 cases o with
 |Call f args kws pos =>
  cases f with
  |Name id p =>
   cases args with
   |cons _ _=>rfl
   |nil =>
    cases kws with
    |cons _ _=>rfl
    |nil=>exact ya h
  |_=>rfl
 |_=>rfl
theorem O9(B:bP S T)(I:HJ S T r d)(P:At S A envs env own cx d)(o:yr)(a:Str)(p:Pos)(hb:fQ o=true) :
  HN S A envs env own cx aq (eval (.Attribute o a p) env) (M.bind (r.ev cx o) λov=>be ov a):=by
 intro U O s q hr N;refine Attribute_any_ ((I.ev P o).seq hr N (λx ca am1 σ1 s1 v1 N1 X1 hr1 =>?_) (λZ Z h=>h)) (by rw[arm_eval_Attribute,vN hb]);exact yO (kB B N1 hr1 v1) (λZ Z h=>h.back X1) (λZ Z h=>h.back X1)
noncomputable def R9:VR Args (yk AV×yk (Str×AV)):=λU h p a=>av U h p.1 a.pos/\dK U h p.2 a.kw
theorem sj(I:HJ S T r d)(P:At S A envs env own cx d)(pos:Pos):∀ks,HN S A envs env own cx (λU h kv (vs:yk yt)=>dK U h kv (((backToKw pos (keywordEach ks env)).filterMap (·.1)).zip vs)/\vs.length=ks.length) (evalAll ((backToKw pos (keywordEach ks env)).map (·.2))) (Pa r cx ks)
 |[]=>λU O s q hr N=>by
  (have h9:=si hr; clear hr; subst h9)
  exact wpAny_evalAll_nil (HG.quiet N (.refl _) ⟨⟨rfl,rfl⟩,rfl⟩)
 |⟨none,e,p⟩::ks=>λU O s q hr N=>by exact nn hr
 |⟨some n,e,p⟩::ks=>λU O s q hr N=>by
  change M.bind (r.ev cx e) (λv=>M.bind (Pa r cx ks) λvs=>pure ((n,v)::vs)) O=some q at hr;refine wpAny_evalAll_cons ?_;refine yz ((I.ev P e).seq hr N (λx ca am1 σ1 s1 v1 N1 X1 hr1=>yz (A6 (yG ?_))) (λZ Z h=>h));refine(sj I P pos ks).seq hr1 N1 (λkv cs am2 σ2 s2 v2 N2 X2 hr2 =>?_) (λZ Z h=>h.back X1);refine⟨_,σ2,am2,(si hr2).symm,⟨⟨?_,?_⟩,?_⟩,N2,X1.trans X2⟩
  ·show n::_=n::_;rw[v2.1.1]; rfl
  ·exact⟨ca,_,rfl,v1.ext N1 X2,v2.1.2⟩
  ·show cs.length+1=ks.length+1;rw[v2.2]
theorem LQ(pos:Pos):∀ks:yk Ac,(∀k∈ks,k.arg.isSome=true)->(backToKw pos (keywordEach ks env)).all (·.1.isSome)=true
 |[]=>λZ=>rfl
 |⟨n,e,p⟩::ks=>λh=>by show((n.isSome)&&_)=true;rw[show n.isSome=true from h ⟨n,e,p⟩ (by simp),Cu];exact LQ pos ks λk hk=>h k (by simp[hk])
theorem qr(I:HJ S T r d)(P:At S A envs env own cx d)(f:yt)(pos:Pos)(es:yk yr)(ks:yk Ac):HN S A envs env own cx R9 (evalArgs f true (backTo pos (Ar es env)) (backToKw pos (keywordEach ks env))) (mM r cx es ks):=λU O s q hr N=>by
 refine(let QQ:=_; let EE:=_; (?_:yq _ _ _ QQ EE _));cases ks with
 |nil =>refine(fU I P f pos es).seq hr N (λvs a am1 σ1 s1 v1 N1 X1 hr1 =>?_) (λZ Z h=>h);exact⟨_,σ1,am1,(si hr1).symm,⟨v1.1,by rw[v1.2]; exact⟨rfl,rfl⟩⟩,N1,X1⟩
 |cons k ks =>
  have h9:=az hr; clear hr; obtain⟨hc,hr⟩:=h9;obtain⟨hc1,hc⟩:=yS.mp hc;cases es with
  |nil=>cases hc1
  |cons e es =>
   have hs:aR e=false:=by
    cases hs:aR e with
    |false=>rfl
    |true =>have e0:c7 r cx (e::es)=M.fail:=yo hs;rw[e0]at hr; exact nn hr
   have hsim:=fh I P pos (e::es);rw[c9 hs]at hsim ⊢;refine evalArgs_kw (LQ pos _ (BZ.mp hc)) ?_;refine hsim.seq hr N (λvs cs am1 σ1 s1 v1 N1 X1 hr1 =>?_) (λZ Z h=>h);refine(sj I P pos (k::ks)).seq hr1 N1 (λkv ck am2 σ2 s2 v2 N2 X2 hr2 =>?_) (λZ Z h=>h.back X1);exact⟨_,σ2,am2,(si hr2).symm,⟨v1.ext N1 X2,v2.1⟩,N2,X1.trans X2⟩
theorem oZ{f:Str}{n:yL}(h:hW f=some n):n∈sy:=GJ h
theorem xh{n:yL}(h:n∈sy):∃k,∀Q':BY->yy->Prop,Q' k s->yq (yw S.prog S.w) A (keeperOf (uu n)) Q' E s:=by simp only[sy,yP,Ad,BQ]at h;rcases h with rfl|rfl|rfl|rfl|rfl|rfl|rfl|rfl|rfl|rfl|rfl|rfl|rfl|rfl|rfl<;>first|exact dY _|exact jX _
theorem cD{f:yu->M β}{q:Res β}(h:M.bind (gF cx) f O=some q):cx.HR=false/\f () O=some q:=by
 unfold gF M.bind at h;cases hc:cx.HR with
 |true=>rw[hc]at h; exact nn h
 |false=>rw[hc]at h; exact⟨rfl,h⟩
theorem bI{f:Str}(h:bp cx f=true):kindOf cx f=some .globalImplicit/\(f==("__debug__": Str))=false:=by obtain⟨h1,h2⟩:=yS.mp h;exact⟨eq_of_beq h1,by simpa using h2⟩
set_option tactic.hygienic true in
theorem et{m:M α}{q:Res α}(h:HF m O=some q):∃a O',q=.ok a O'/\m O=some (.ok a O'):=by
 unfold HF at h;cases e:m O with
 |none=>rw[e]at h; exact nn h
 |some r =>
  rw[e]at h;cases r with
  |ok a O'=>exact⟨a,O',(si h).symm,rfl⟩
  |err _ _=>exact nn h
variable{σ₁:St}
theorem eT.ret{rr:A5}(h:eT S envs U O s (.ok u σ₁) rr s'):∃v,rr=.ok (.ret v)/\eT S envs U O s (.ok u σ₁) (.ok (.ret v)) s':=by
 rcases rr with e|(_|_|_|v)
 ·obtain⟨_,_,_,e,_⟩:=h; cases e
 all_goals first|exact h.elim|exact⟨v,rfl,h⟩
theorem qz(B:bP S T)(I:HJ S T r d)(CO:eF S C d)(P:At S A envs env own cx d)(f:Str)(np pos:Pos)(args:yk yr)(kws:yk Ac)(fd:ax)(hg:bp cx f=true)(hf:T.IG f=some fd) :
  HN S A envs env own cx aq (eval (.Call (.Name f np) args kws pos) env) (M.bind (gF cx) λZ=>M.bind (mM r cx args kws) λp=>HF (C fd p.1 p.2)):=by
 intro U O s q hr N;refine hdZ λGG hGG =>?_;obtain⟨hh,hr⟩:=cD hr;obtain⟨hg,hx⟩:=bI hg;obtain⟨fa,g,F⟩:=B.IG f fd hf;obtain⟨o,fdat,ho,hd,_⟩:=F.obj;refine hGG ?_;refine C3 (Bj (bk P N.H hg g ?_) hx);refine a8 ((qr I P (.ref fa) pos args kws).seq hr N (λvs a am1 σ1 s1 v1 N1 X1 hr1=>⟨oH (N1.H.base _ _ ho) hd,?_⟩) (λZ Z h=>h));have hd1:=P.So;have hu1:=P.un;refine(let QQ:=_; let EE:=_; (?_:yq _ _ _ QQ EE _));obtain⟨u0,σ0,rfl,hr5⟩:=et hr1;refine BC (BO (CO.call F P.fr (P.hd hh) (dp1 0 hd1 (by decide)) (un1 0 hu1 (by decide)) hr5 N1.H v1.1 v1.2) λrr s' hR =>?_);obtain⟨v,rfl,hR⟩:=hR.ret;exact(eT.now N1 hR).back X1
theorem qA(B:bP S T)(I:HJ S T r d)(P:At S A envs env own cx d)(f:Str)(np pos:Pos)(args:yk yr)(n:yL)(hg:bp cx f=true)(hf:T.IG f=none)(hn:hW f=some n) :
  HN S A envs env own cx aq (eval (.Call (.Name f np) args [] pos) env) (Qo r cx args n):=by
 intro U O s q hr N;have h8:=bI hg;have hg:=h8.1;have hx:=h8.2;refine C3 (Bj (bk P N.H hg (B.blt f n hn hf) ?_) hx);refine a8 ((b9 I P (uu n) pos args).seq hr N (λvs a am1 σ1 s1 v1 N1 X1 hr1=>⟨xh (oZ hn),?_⟩) (λZ Z h=>h));refine wq (by rw[v1.2]) ?_;have h9:=az hr1; clear hr1; obtain⟨hc,hr1⟩:=h9;refine yO (xY (λhl=>P.hd ?_) P.QH N1 B.Jh hr1 v1.1) (λZ Z h=>h.back X1) (λZ Z h=>h.back X1);cases hq:cx.HR with
 |false=>rfl
 |true=>exact yD (by rw[hq]at hc; simpa using hc) hl
theorem rA{m:M AV}{q:Res AV}(h:iB m i O=some q):∃p,m O=some p/\∀v O',p=.ok v O'->v=.none/\q=.ok (.ref i) O':=by
 unfold iB at h;change M.bind m _ O=some q at h;unfold M.bind at h;cases e:m O with
 |none=>rw[e]at h; exact nn h
 |some p =>
  refine⟨p,rfl,λv O' hp =>?_⟩;subst hp;rw[e]at h;obtain⟨h1,h2⟩:=az h
  (have h9:=si h2; clear h2; subst h9)
  exact⟨AV.IW h1,rfl⟩
variable{fd:ax}{oi:Nat->AO}
theorem made(B:bP S T)(CO:eF S C d)(P:At S A envs env own cx d)(hh:cx.HR=false){K:yp}{fI:yp}{q:Res AV}
  (N:HB S envs env own cx U O s) (hm:makesIn S.K K=true) (hi:findIn S.K (.ref K) "__init__"= some (some (.ref fI))) (ht:typeIn S.K (.ref fI)=some (.type "function")) (F:ir S fI fd) (hv:av U s.heap vs cs)
  (ho:∀U' h x dx,U'[O.nx]?=some dx->h.get? x=some (Aq K dx)->dN S.prog S.w S.P U' h x (oi O.nx))
  (hr:M.bind (new (.attrs [])) (λdd=>M.bind (new (oi dd)) λi=>iB (HF (C fd (.ref i::vs) [])) i) O=some q) :
  yq (yw S.prog S.w) A (call (.ref K) cs) (HG S envs env own cx aq U O s q) (H3 S envs env own cx U O s q) s:=by
 have hr2:iB (HF (C fd (.ref (O.nx+1)::vs) [])) (O.nx+1) {O with hp:=upd (upd O.hp O.nx (.attrs [])) (O.nx+1) (oi O.nx),nx:=O.nx+1+1}=some q:=hr;clear hr;have X:S.K.In s.heap:=N.H.Jr B;have e1:s.heap.get? s.heap.objs.size=none:=zm (yF _);have Q1:aF s {s with heap:=s.heap.push AU}:=.push s AU s.toks;have lam:U.length=O.nx:=N.H.len;refine(let QQ:=_; let EE:=_; (?_:yq _ _ _ QQ EE _));obtain⟨N1,X1⟩:=N.alloc (s':={s with heap:=s.heap.push AU}) (o:=.attrs []) Q1 e1 ⟨[],0,y6 _ rfl,rfl,by simp⟩;have e2:(s.heap.push AU).get? (s.heap.objs.size+1)=none:=zm (by rw[BF]; exact yF _);have Q2:aF {s with heap:=s.heap.push AU} {s with heap:=(s.heap.push AU).push (Aq K s.heap.objs.size)}:=.push {s with heap:=s.heap.push AU} (Aq K s.heap.objs.size) s.toks;have g2:((s.heap.push AU).push (Aq K s.heap.objs.size)).get? (s.heap.objs.size+1)=some (Aq K s.heap.objs.size):=by have:=y6 (s.heap.push AU) (o:=Aq K s.heap.objs.size) rfl;rwa[BF]at this
 obtain⟨N2,X2⟩:=N1.alloc (s':={s with heap:=(s.heap.push AU).push (Aq K s.heap.objs.size)}) (o:=oi O.nx) Q2 e2 (ho _ _ _ s.heap.objs.size (by rw[AD (by simp[lam]),A9 (zj lam)]; simp[lam]) g2);have hv2:=(hv.ext N X1).ext N1 X2;have hd1:=P.So;have hu1:=P.un;obtain⟨p,hC,hp⟩:=rA hr2;obtain⟨u0,σ0,rfl,hC5⟩:=et hC;obtain⟨hh',gg,dr,tt,os⟩:=s;refine BC (make_core (makes_of X hm) (looks_findIn X hi) (λself=>bind_fn X self ht) (.inl rfl) ?_);have hself:aq ((U++[hh'.objs.size])++[hh'.objs.size+1]) ((hh'.push AU).push (Aq K hh'.objs.size)) (.ref (O.nx+1)) (.ref (hh'.objs.size+1)):=⟨_,rfl,by rw[A9 (by simp[lam])]; simp[lam]⟩;refine BO (CO.call F (A:=A.under (.builtin "type.__call__" ⟨.ref K::cs,[]⟩)) (kw:=[]) (ckw:=[]) P.fr (P.hd hh) (dp1 1 hd1 (by decide)) (un1 1 hu1 (by decide)) hC5 N2.H (cpos:=.ref (hh'.objs.size+1)::cs) ⟨_,_,rfl,hself,hv2⟩ ⟨rfl,rfl⟩) λrr s' hR =>?_;obtain⟨v,rfl,hR⟩:=hR.ret;obtain⟨v1,O',U',e9,N3,X3,X4⟩:=eT.now N2 hR;cases e9;obtain⟨rfl,rfl⟩:=hp _ _ rfl;cases N3;exact⟨rfl,_,_,U',rfl,hself.ext N2 X4,X3,(X1.trans X2).trans X4⟩
theorem jI(B:bP S T)(I:HJ S T r d)(CO:eF S C d)(P:At S A envs env own cx d){f:Str}{K:yp}{fd:yl ax}(np pos:Pos)(args:yk yr)(kws:yk Ac)(hg:bp cx f=true)(gl:Js S f (.ref K))(hk:keepIn S.K (.ref K)=true)(hm:makesIn S.K K=true)
  (hi:∀fd',fd=some fd'->∃fI,findIn S.K (.ref K) "__init__"= some (some (.ref fI))/\typeIn S.K (.ref fI)=some (.type "function")/\ir S fI fd')
  (ho:∀U' h x n dx,U'[n]?=some dx->h.get? x=some (Aq K dx)->dN S.prog S.w S.P U' h x (oi n)) :
  HN S A envs env own cx aq (eval (.Call (.Name f np) args kws pos) env) (Mz C r cx args kws fd oi):=by
 intro U O s q hr N;have h9:=az hr; clear hr; obtain⟨hkw,hr⟩:=h9;refine(let QQ:=_; let EE:=_; (?_:yq _ _ _ QQ EE _));cases zv.mp hkw;have h9:=ad hr; clear hr; obtain⟨fd',hfd,hr⟩:=h9;refine hdZ λGG hGG =>?_;obtain⟨hh,hr⟩:=cD hr;obtain⟨hg,hx⟩:=bI hg;obtain⟨fI,h1,h2,h3⟩:=hi fd' hfd;refine hGG ?_;refine C3 (Bj (bk P N.H hg gl ?_) hx);refine a8 ((fU I P (.ref K) pos args).seq hr N (λvs a am1 σ1 s1 v1 N1 X1 hr1=>⟨?_,?_⟩) (λZ Z h=>h))
 ·obtain⟨k,_,hk⟩:=looks_keep (M:=yw S.prog S.w) hk (N1.H.Jr B);exact⟨k,λQ' hq=>hk _ _ _ _ (λZ Z e=>e) hq⟩
 ·refine wq (by rw[v1.2]) ?_;exact yO (made (oi:=oi) B CO P hh N1 hm h1 h2 h3 v1.1 (λU' h x dx=>ho U' h x _ dx) hr1) (λZ Z h=>h.back X1) (λZ Z h=>h.back X1)
theorem sb(B:bP S T)(I:HJ S T r d)(CO:eF S C d)(P:At S A envs env own cx d)(f:Str)(np pos:Pos)(args:yk yr)(kws:yk Ac) :
  HN S A envs env own cx aq (eval (.Call (.Name f np) args kws pos) env) (mK T C r cx f args kws):=by
 intro U O s q hr N;have h9:=az hr; clear hr; obtain⟨hg,hr⟩:=h9;refine(let QQ:=_; let EE:=_; (?_:yq _ _ _ QQ EE _));by_cases h1:f=("TopologicalSorter": Str)
 ·refine(let QQ:=_; let EE:=_; (?_:yq _ _ _ QQ EE _));subst h1;exact jI (oi:=.inst) B I CO P np pos args kws hg B.Qe B.J8 B.J7 (λfd hf=>by obtain⟨fI,h1,h2,h3,_⟩:=B.Jv "__init__" fd hf; exact⟨fI,h1,h2,h3⟩) (λU' h x n dx e1 e2=>⟨dx,e1,e2⟩) U O s q ((zA (yo rfl) O).symm.trans hr) N
 ·replace hr:=(zA (ym h1) O).symm.trans hr;by_cases h2:f=("_NodeInfo": Str)
  ·subst h2;exact jI (oi:=λd=>.node d none none none) B I CO P np pos args kws hg B.Qf B.Lp B.Lo B.Lq (λU' h x n dx e1 e2=>⟨dx,#[],e1,e2,trivial,trivial,trivial⟩) U O s q ((zA (yo rfl) O).symm.trans hr) N
  ·replace hr:=(zA (ym h2) O).symm.trans hr;have h9:=aH hr; clear hr; rcases h9 with⟨fd,hf,hr⟩|⟨hf,hr⟩
   ·exact qz B I CO P f np pos args kws fd hg hf U O s q hr N
   ·have h9:=az hr; clear hr; obtain⟨hk,hr⟩:=h9;cases zv.mp hk;have h9:=ad hr; clear hr; obtain⟨n,hn,hr⟩:=h9;exact qA B I P f np pos args n hg hf hn U O s q hr N
theorem rI(h:aR e=true):∃f p,e=.Starred f p:=by cases e<;>first|exact⟨_,_,rfl⟩|exact BD h
theorem qN(pos:Pos):∀es:yk yr,(backTo pos (Ar es env)).all (λx => !x.1) = !(es.any aR)
 |[]=>rfl
 |e::es=>by
  cases hs:aR e with
  |false=>rw[c9 hs,List.all_cons,qN pos es,B0,hs]; simp
  |true =>obtain⟨f,p,rfl⟩:=rI hs;rw[B0,hs];rfl
theorem RE(pos:Pos)(args:yk yr):methodCallForm (args.length+([]:yk Ac).length) (backTo pos (Ar args env)) (backToKw pos (keywordEach [] env))=(!(args.any aR)&&decide (args.length<30)):=by unfold methodCallForm;rw[qN];show(!args.any aR&&true&&decide (args.length+0+0<30))=_;simp
variable{args:yk yr}
theorem ke{o:yr}{apos:Pos}(hb:fQ o=true)(hg:df args apos pos=true)
  (h:yq (yw S.prog S.w) A (eval o env) (λov s₁=>yq (yw S.prog S.w) A (if args.any aR then(do pure (<- getAttr ov name true,[]))else getMethod ov name (do return(<- importBound o env).getD true)) (λp s₂=>yq (yw S.prog S.w) A (callWith pos p.1 p.2 (backTo pos (Ar args env)) []) Q E s₂) E s₁) E s) :
  yq (yw S.prog S.w) A (eval (.Call (.Attribute o name apos) args [] pos) env) Q E s:=by
 rw[arm_eval_Call,vN hb];refine yz (yO h (λov s₁ h₁=>yz (A6 ?_)) λZ Z e=>e);unfold methodCall;rw[RE];cases hs:args.any aR with
 |true =>rw[hs]at h₁;have hpos:methodCallPos false o env apos pos=pure pos:=rfl;refine yz (zw (yO (show yq _ _ (calleeOf false o env ov name) _ _ _ from h₁) (λp s₂ h₂ =>?_) λZ Z e=>e));exact yz (Cq hpos h₂)
 |false =>
  rw[hs]at h₁;simp only[df,hs,Ec,zg,ze]at hg;have hpos:methodCallPos true o env apos pos=pure pos:=by unfold methodCallPos; simp[hg.2]
  have hf:(!false&&decide (args.length<30))=true:=by simp[hg.1]
  rw[hf];refine yz (zw (yO (show yq _ _ (calleeOf true o env ov name) _ _ _ from h₁) (λp s₂ h₂ =>?_) λZ Z e=>e));exact yz (Cq hpos h₂)
theorem xb{f:Str}{n:yL}(h:vh f=some n):f=Str.ofString n:=by have:=EH h;simpa using this
variable{Ty:yL}
set_option tactic.hygienic true in
theorem tO{x:yp}(H:a9 S envs U O s)(h:AO.kind? (O.hp i)=some Ty)(hx:U[i]?=some x):s.TypeIs (.ref x) Ty/\(∀a,zW x=.ref a->∃ob,s.heap.get? a=some ob/\ob.dict=none):=by
 have h1:=H.objs i x hx;generalize hp:O.hp i=o at h h1;cases o<;>(first|exact nn h|(have h9:=si h; clear h; subst h9))
 ·obtain⟨xs,n,hl,_⟩:=h1;exact⟨⟨_,hl,rfl⟩,jw hl⟩
 ·obtain⟨cs,hd,_⟩:=h1;exact⟨hd.typeIs,λb e=>(by cases e; exact(dI hd).noDict _ rfl)⟩
 ·refine hdZ λGG hGG =>?_;obtain⟨ob,es,ep,t,e,hc,_⟩:=h1;refine hGG ?_;exact⟨⟨ob,e,hc.1⟩,λb e'=>(by cases e'; exact⟨ob,e,hc.2.1⟩)⟩
set_option tactic.hygienic true in
theorem tY{o:AV}(H:a9 S envs U O s)(h:cQ O.hp O.nx o=some Ty)(ho:aq U s.heap o co) :
  s.TypeIs co Ty/\(∀a,co=.ref a->∃ob,s.heap.get? a=some ob/\ob.dict=none):=by
 unfold cQ at h;split at h
 ·rename_i x hx
  (have h9:=si h; clear h; subst h9)
  obtain⟨t,rfl⟩:=ho.ofStr hx;exact⟨C2 _ _ _,λa e=>by cases e⟩
 ·obtain⟨i,hi,h⟩:=zd.mp h;obtain⟨x,rfl,hx⟩:=ho.H4 hi;by_cases hlt:i<O.nx
  ·exact tO H ((yo hlt).symm.trans h) hx
  ·cases(ym hlt).symm.trans h
theorem Oz{k n:yL}(h:(k,n)∈iz):∃id,PlainAttrs k/\Slot k (Str.ofString n) id/\typeOf (.builtin id)=pure (.type "method_descriptor"):=by
 simp only[iz,yP,Hj,Ad,BQ]at h;rcases h with⟨rfl,rfl⟩|⟨rfl,rfl⟩|⟨rfl,rfl⟩|⟨rfl,rfl⟩|⟨rfl,rfl⟩|⟨rfl,rfl⟩|⟨rfl,rfl⟩
 ·exact⟨_,Dj,Ek,F.type_str_index⟩
 ·exact⟨_,Dj,El,F.type_str_join⟩
 ·exact⟨_,BU,Dk,FQ⟩
 ·exact⟨_,BU,Ej,F.type_list_pop⟩
 ·exact⟨_,BU,Ei,FR⟩
 ·exact⟨_,Di,Eh,F.type_dict_get⟩
 ·exact⟨_,F.plainAttrs_set,F.slot_set_add,F.type_set_add⟩
theorem NP{k:yL}{n:Str}{a b:yL}(h1:Slot k n a)(h2:Slot k n b):a=b:=by have h:=h1.lookup.symm.trans h2.lookup;injection h with h;injection h with h;injection h
theorem nO{n k:yL}(h:gG hp nx v n=some k):cQ hp nx v=some k/\(k,n)∈iz:=by obtain⟨k',h1,h2⟩:=zd.mp h;obtain⟨hc,rfl⟩:=aZ h2;exact⟨h1,zp.mp hc⟩
variable{ov:AV}
theorem sf{q:Res AV}(hr:uk r cx ov name args O=some q):args.any aR=false:=by obtain⟨h,_⟩:=az hr;simpa using h
theorem Lv(B:bP S T)(I:HJ S T r d)(P:At S A envs env own cx d){q:Res AV}{pl:Sem yx}
  (N:HB S envs env own cx U O s) (ho:aq U s.heap ov co) (hr:uk r cx ov name args O=some q) :
  yq (yw S.prog S.w) A (getMethod co name pl) (λp s₂=>yq (yw S.prog S.w) A (callWith pos p.1 p.2 (backTo pos (Ar args env)) []) (HG S envs env own cx aq U O s q) (H3 S envs env own cx U O s q) s₂) (H3 S envs env own cx U O s q) s:=by
 have h9:=az hr; clear hr; obtain⟨_,hr⟩:=h9;have h9:=ad hr; clear hr; obtain⟨n,hn,hr⟩:=h9;have h9:=bb hr; clear hr; obtain⟨k,hk,hr⟩:=h9;refine(let QQ:=_; let EE:=_; (?_:yq _ _ _ QQ EE _));rw[xb hn];refine hdZ λGG hGG =>?_;obtain⟨hk,hm⟩:=nO hk;obtain⟨id,pa,sl,ty⟩:=Oz hm;obtain⟨hT,hD⟩:=tY N.H hk ho;refine hGG ?_;refine Fo hT pa sl ty hD ?_;refine a8 ((b9 I P (.builtin id) pos args).seq hr N (λvs a am1 σ1 s1 v1 N1 X1 hr1=>⟨dY _,?_⟩) (λZ Z h=>h));have h9:=bb hr1; clear hr1; obtain⟨k1,hk1,hr1⟩:=h9;refine hdZ λGG hGG =>?_;obtain⟨hc,hr2⟩:=az hr1;obtain⟨Ty,id',m1,m2,m3,m4,m5,m6,m7⟩:=xV (A:=A) N1 B.Jh hr2 (ho.ext N X1) v1.1;refine hGG ?_;rw[m1]at hk1;have e1:k=Ty:=(eq_of_beq (yS.mp hc).2).trans (Ag hk1).symm;refine(let QQ:=_; let EE:=_; (?_:yq _ _ _ QQ EE _));subst e1;obtain rfl:=NP sl m3;rw[v1.2];exact yO m7 (λZ Z h=>h.back X1) (λZ Z h=>h.back X1)
theorem nE{o:AV}{f:yl ax->M β}{q:Res β}(h:M.bind (bN T o name) f O=some q):f none O=some q\/∃fd i dd fs,f (some fd) O=some q/\o.HO=some i/\O.hp i=.inst dd/\O.hp dd=.attrs fs/\fs.lookup name=none/\T.meths name=some fd:=by
 have key:∀u,bN T o name O=some u->u=.ok none O\/∃fd i dd fs,u=.ok (some fd) O/\o.HO=some i/\O.hp i=.inst dd/\O.hp dd=.attrs fs/\fs.lookup name=none/\T.meths name=some fd:=by
  intro u hu;have h9:=aH hu; clear hu; rcases h9 with⟨i,hi,hu⟩|⟨_,hu⟩
  ·have h9:=aN hu; clear hu; obtain⟨_,hu⟩:=h9;have h9:=aH hu; clear hu; rcases h9 with⟨dd,hd,hu⟩|⟨_,hu⟩
   ·have h9:=aN hu; clear hu; obtain⟨_,hu⟩:=h9;have h9:=ad hu; clear hu; obtain⟨fs,hf,hu⟩:=h9;have h9:=az hu; clear hu; obtain⟨hl,hu⟩:=h9;have h9:=ad hu; clear hu; obtain⟨fd,hm,hu⟩:=h9
    (have h9:=si hu; clear hu; subst h9)
    exact .inr ⟨fd,i,dd,fs,rfl,hi,AO.Iv hd,AO.Im hf,Hf.mp hl,hm⟩
   ·split at hu
    ·exact nn hu
    ·(have h9:=si hu; clear hu; subst h9); exact .inl rfl
  ·(have h9:=si hu; clear hu; subst h9); exact .inl rfl
 unfold M.bind at h;cases e:bN T o name O with
 |none=>rw[e]at h; exact nn h
 |some u =>
  rcases key u e with rfl|⟨fd,i,dd,fs,rfl,h1⟩
  ·rw[e]at h; exact .inl h
  ·rw[e]at h; exact .inr ⟨fd,i,dd,fs,h,h1⟩
variable{am1:yk yp}{σ1:St}
theorem xc(B:bP S T)(I:HJ S T r d)(CO:eF S C d)(P:At S A envs env own cx d){o:yr}{s1:yy}{q:Res AV}{fs:yk (Str×AV)}
  (N1:HB S envs env own cx am1 σ1 s1) (v1:aq am1 s1.heap ov co) (hr2:Mx C r cx ov args fd σ1=some q) (hi:ov.HO=some i) (hp:σ1.hp i=.inst dd) (hd:σ1.hp dd=.attrs fs) (hl:fs.lookup name=none) (hm:T.meths name=some fd) :
  yq (yw S.prog S.w) A (if args.any aR then(do pure (<- getAttr co name true,[]))else getMethod co name (do return(<- importBound o env).getD true)) (λp s₂=>yq (yw S.prog S.w) A (callWith pos p.1 p.2 (backTo pos (Ar args env)) []) (HG S envs env own cx aq am1 σ1 s1 q) (H3 S envs env own cx am1 σ1 s1 q) s₂) (H3 S envs env own cx am1 σ1 s1 q) s1:=by
 refine hdZ λGG hGG =>?_;obtain⟨hh,hr3⟩:=cD hr2;obtain rfl:=AV.Ib hi;obtain⟨x,rfl,hx⟩:=v1;obtain⟨dx,h1,h2⟩:=qi N1.H hx hp;have h3:=N1.H.objs dd dx h1;rw[hd]at h3;obtain⟨es,n,h4,h5,_⟩:=h3;have II:InstAt s1.heap x (Aq S.P.TS dx) S.P.TS (some (dictOf es n)):=⟨h2,rfl,rfl,h4⟩;obtain⟨f,f1,f2,F,f3,f4,f5⟩:=B.Jv name fd hm;obtain⟨ofn,fdat,ho,hdat,_⟩:=F.obj;refine hGG ?_;have hg0:getL name es=some none:=oK h5 hl;have hd1:=P.So;have hu1:=P.un;refine(let QQ:=_; let EE:=_; (?_:yq _ _ _ QQ EE _));cases hst:args.any aR with
 |true =>
  rw[yo rfl];refine yz (get_bind (N1.H.Jr B) II B.NK (findObj_fn B.JE f1 f3 f4 f5 (by show lookIn name (dictOf es n)=_; rw[lookIn_dict,hg0])) B.QJ
   (BC (fn_get (s:={s1 with toks:=s1.toks+1}) (show S.K.In s1.heap from N1.H.Jr B) f2 (handed_on rfl (yG ?_)))))
  dsimp only;have Qm:aF s1 {s1 with heap:=s1.heap.push (methodObj (.ref f) (.ref x)),toks:=s1.toks+1}:=.push ..;have Nm:=N1.quiet Qm;have Xm:Ext own am1 σ1 s1 am1 σ1 _:=N1.H.H2 Qm;have hmo:(s1.heap.push (methodObj (.ref f) (.ref x))).get? s1.heap.objs.size=some (methodObj (.ref f) (.ref x)):=y6 _ rfl;refine a8 ((fU I P (.ref s1.heap.objs.size) pos args).seq hr3 Nm (λvs a am2 σ2 s2 v2 N2 X2 hr4 =>?_) (λZ Z h=>h.back Xm));have hnm:s1.heap.objs.size∉am1:=λhm=>by obtain⟨ob,e,_⟩:=N1.H.HD _ hm;rw[zm (yF _)]at e; exact nn e
  have hno:s1.heap.objs.size∉own:=λhm=>by obtain⟨_,ob,e,_⟩:=N1.F.HZ _ hm;rw[zm (yF _)]at e; exact nn e
  obtain⟨om,em,st⟩:=X2.heap.keep _ _ hmo hnm hno;have em':s2.heap.get? s1.heap.objs.size=some (methodObj (.ref f) (.ref x)):=by rw[em,st.eq (λes ep q=>by cases q)]
  refine⟨⟨.boundFrame,λQ' hq =>?_⟩,?_⟩
  ·unfold keeperOf;refine yz (Cp em' ?_);refine yz (Cp (N2.H.base _ _ ho) ?_);rw[hdat];exact yG hq
  ·refine(let QQ:=_; let EE:=_; (?_:yq _ _ _ QQ EE _));rw[v2.2];have hself:aq am2 s2.heap (.ref i) (.ref x):=⟨x,rfl,X2.HU.get hx⟩;refine BC (method_call em' (BO (CO.call F (kw:=[]) (ckw:=[]) P.fr (P.hd hh) (dp1 0 hd1 (by decide)) (un1 0 hu1 (by decide)) hr4 N2.H (cpos:=.ref x::a.pos) ⟨_,_,rfl,hself,v2.1⟩ ⟨rfl,rfl⟩) λrr s' hR =>?_));rcases rr with e|(_|_|_|v)<;>first|exact hR.elim|exact(eT.now N2 hR).back (Xm.trans X2)|exact(eT.err N2 hR).back (Xm.trans X2)
 |false =>rw[ym A0];refine method_fn (N1.H.Jr B) II B.NK B.QJ f1 f2 (by show(lookIn name (dictOf es n)).map _=_; rw[lookIn_dict,hg0]; rfl) ?_;refine a8 ((fU I P (.ref f) pos args).seq hr3 N1 (λvs a am2 σ2 s2 v2 N2 X2 hr4=>⟨oH (N2.H.base _ _ ho) hdat,?_⟩) (λZ Z h=>h));refine(let QQ:=_; let EE:=_; (?_:yq _ _ _ QQ EE _));rw[v2.2];have hself:aq am2 s2.heap (.ref i) (.ref x):=⟨x,rfl,X2.HU.get hx⟩;refine BC (BO (CO.call F (kw:=[]) (ckw:=[]) P.fr (P.hd hh) (dp1 0 hd1 (by decide)) (un1 0 hu1 (by decide)) hr4 N2.H (cpos:=.ref x::a.pos) ⟨_,_,rfl,hself,v2.1⟩ ⟨rfl,rfl⟩) λrr s' hR =>?_);rcases rr with e|(_|_|_|v)<;>first|exact hR.elim|exact(eT.now N2 hR).back X2|exact(eT.err N2 hR).back X2
theorem se(B:bP S T)(I:HJ S T r d)(CO:eF S C d)(P:At S A envs env own cx d)(o:yr)(name:Str)(apos pos:Pos)(args:yk yr) :
  HN S A envs env own cx aq (eval (.Call (.Attribute o name apos) args [] pos) env) (mL T C r cx o name apos args pos):=by
 intro U O s q hr N;have h9:=az hr; clear hr; obtain⟨hc,hr⟩:=h9;have h8:=yS.mp hc;have hb:=h8.1;have hg:=h8.2;refine ke hb hg ((I.ev P o).seq hr N (λov co am1 σ1 s1 v1 N1 X1 hr1 =>?_) (λZ Z h=>h));have done:yq (yw S.prog S.w) A (if args.any aR then(do pure (<- getAttr co name true,[]))else getMethod co name (do return(<- importBound o env).getD true)) (λp s₂=>yq (yw S.prog S.w) A (callWith pos p.1 p.2 (backTo pos (Ar args env)) []) (HG S envs env own cx aq am1 σ1 s1 q) (H3 S envs env own cx am1 σ1 s1 q) s₂) (H3 S envs env own cx am1 σ1 s1 q) s1:=by
  refine(let QQ:=_; let EE:=_; (?_:yq _ _ _ QQ EE _));rcases nE hr1 with hr2|⟨fd,i,dd,fs,hr2,h1,h2,h3,h4,h5⟩
  ·rw[sf hr2,ym A0];exact Lv B I P N1 v1 hr2
  ·exact xc B I CO P N1 v1 hr2 h1 h2 h3 h4 h5
 exact yO done (λp s2 h2=>yO h2 (λZ Z h=>h.back X1) (λZ Z h=>h.back X1)) (λZ Z h=>h.back X1)
theorem ui(I:HJ S T r d)(P:At S A envs env own cx d)(o i:yr)(p p':Pos) :
  HN S A envs env own cx aq (eval (.Call (.Subscript o i p) [] [] p') env) (M.bind (gF cx) λZ=>M.bind (r.ev cx (.Subscript o i p)) λf=>cM f):=by
 intro U O s q hr N;have h8:=cD hr;have hh:=h8.1;have hr:=h8.2;show yq _ _ (do callWith p' (<- eval (.Subscript o i p) env) [] (backTo p' (Ar [] env)) (backToKw p' (keywordEach [] env))) _ _ s;refine yz ((I.ev P _).seq hr N (λf cf am1 σ1 s1 v1 N1 X1 hr1 =>?_) (λZ Z h=>h));refine a8 (PySem.evalArgs_none ?_);obtain⟨⟨k,hk⟩,hc⟩:=nZ (A:=A) (P.hd hh) N1 hr1 v1;exact⟨⟨k,λQ' hq=>yO (hk Q' hq) (λZ Z h=>h) (λZ Z h=>h.back X1)⟩,yO hc (λZ Z h=>h.back X1) (λZ Z h=>h.back X1)⟩
noncomputable def eY(S:au)(own U:yk yp)(h:yC)(its:yk yp):Prop :=
 ∀a∈its,a∉U/\a∉own/\S.h₀.get? a=none/\∃o fs n,h.get? a=some o/\o.cls=.type n/\o.data=.fields fs
noncomputable def IP(its:yk yp)(s s':yy):Prop:=(∀b o,b∉its->s.heap.get? b=some o->s'.heap.get? b=some o)/\s'.gens=s.gens/\s'.os=s.os
variable{its:yk yp}
theorem IP.keeps(hp:eY S own U s.heap its)(h:IP its s s'):bq U s.heap s'.heap:=by intro a o e hn hc;refine h.1 a o (λhm =>?_) e;obtain⟨_,_,_,o',fs,n,e',hcl,hd⟩:=hp a hm;rw[e]at e'; (have h9:=si e'; clear e'; subst h9);obtain⟨xs,k,hc⟩:=hc;rw[hd]at hc; cases hc
theorem HB.but(N:HB S envs env own cx U O s)(hp:eY S own U s.heap its)(h:IP its s s'):HB S envs env own cx U O s':=by
 have hk:=h.keeps hp;have hna:∀a∈U,a∉its:=λa ha hm=>(hp a hm).1 ha;refine⟨⟨?_,h.2.1.trans N.H.gens,h.2.2.trans N.H.os,N.H.len,N.H.nodup,N.H.above,?_,?_,N.H.xs⟩,N.F.ext' hk (λa o e hn ho =>?_) N.H.HD (.refl ..)⟩
 ·intro b o e;exact h.1 b o (λhm=>by rw[(hp b hm).2.2.1]at e; exact nn e) (N.H.base b o e)
 ·intro i a hi;obtain⟨o,e,_⟩:=(N.H.objs i a hi).cls;exact(N.H.objs i a hi).mono hk N.H.HD (.refl ..) ((h.1 a o (hna a (zy hi)) e).trans e.symm)
 ·intro e he;refine hdZ λGG hGG =>?_;obtain⟨hk',L,o,es,ep,h1,h2,h3,r⟩:=N.H.IK e he;refine hGG ?_;refine⟨hk',L,o,es,ep,h1,h.1 L o (λhm =>?_) h2,h3,r⟩;obtain⟨_,_,_,o',fs,n,e',_,hd⟩:=hp L hm;rw[h2]at e'; (have h9:=si e'; clear e'; subst h9); rw[h3]at hd; cases hd
 ·refine⟨o,h.1 a o (λhm =>?_) e,.refl _⟩;obtain⟨_,_,_,o',fs,n,e',_,hd⟩:=hp a hm;rw[e]at e'; (have h9:=si e'; clear e'; subst h9);rcases ho with⟨es,ep,ho⟩|⟨v,ho⟩<;>(rw[hd]at ho; cases ho)
theorem Ext.but(H:a9 S envs U O s)(X:Ext own U O s U' O' s')(hn:∀a∈its,s.heap.get? a=none)(h:IP its s' s''):Ext own U O s U' O' s'':=by
 have hni:∀a o,s.heap.get? a=some o->a∉its:=λa o e hm=>by rw[hn a hm]at e; exact nn e
 refine⟨⟨λa o e =>?_,λa o e h1 h2 =>?_⟩,X.HU,λi a kvs v hi e =>?_,λi a vs hi e =>?_⟩
 ·obtain⟨o',e'⟩:=X.heap.live a o e;exact⟨o',h.1 a o' (hni a o e) e'⟩
 ·obtain⟨o',e',st⟩:=X.heap.keep a o e h1 h2;exact⟨o',h.1 a o' (hni a o e) e',st⟩
 ·refine hdZ λGG hGG =>?_;obtain⟨k',v',e1,e2,e3⟩:=X.Ie i a kvs v hi e;refine hGG ?_;refine⟨k',v',e1,e2,λq=>⟨(e3 q).1,?_⟩⟩;obtain⟨o,eo,_⟩:=(H.objs i a hi).cls;have:=(e3 q).2;rw[eo]at this;rw[eo];exact h.1 a o (hni a o eo) this
 ·obtain⟨e1,e2⟩:=X.Ij i a vs hi e;obtain⟨o,eo,_⟩:=(H.objs i a hi).cls;rw[eo]at e2;rw[eo];exact⟨e1,h.1 a o (hni a o eo) e2⟩
theorem eY.run(hp:eY S own U s.heap its)(X:Ext own U O s U' O' s'):eY S own U' s'.heap its/\∀a∈its,s'.heap.get? a=s.heap.get? a:=by
 have key:∀a∈its,s'.heap.get? a=s.heap.get? a:=λa ha=>by refine hdZ λGG hGG =>?_;obtain⟨h1,h2,h3,o,fs,n,e,hc,hd⟩:=hp a ha;obtain⟨o',e',st⟩:=X.heap.keep a o e h1 h2;refine hGG ?_;rw[e',e,st.eq (λes ep q=>by rw[hd]at q; cases q)]
 refine⟨λa ha =>?_,key⟩;refine hdZ λGG hGG =>?_;obtain⟨h1,h2,h3,o,fs,n,e,hc,hd⟩:=hp a ha;refine hGG ?_;exact⟨X.HU.Ii h1 e,h2,h3,o,fs,n,(key a ha).trans e,hc,hd⟩
inductive NB{α β:Type}(m:M α)(f:α->M β)(O:St)(q:Res β):Prop
 |mk (a:α) (O':St) (h:m O=some (.ok a O')) (hr:f a O'=some q)
theorem cE{m:M α}{f:α->M β}{q:Res β}(h:M.bind (HF m) f O=some q):NB m f O q:=by
 unfold M.bind at h;cases e:HF m O with
 |none=>rw[e]at h; exact nn h
 |some p =>refine hdZ λGG hGG =>?_;obtain⟨a,O',rfl,e'⟩:=et e;refine hGG ?_;rw[e]at h; exact⟨a,O',e',h⟩
theorem HN.HF{R:VR α β}{t:Sem α}{m:M β}{v:β}{Q:α->yy->Prop}(h:HN S A envs env own cx R t m)(hr:m O=some (.ok v O'))(N:HB S envs env own cx U O s)
  (hQ:∀c U' s',R U' s'.heap v c->HB S envs env own cx U' O' s'->Ext own U O s U' O' s'->Q c s'):yq (yw S.prog S.w) A t Q E s:=by
 refine yO (h U O s _ hr N) (λc s' hc =>?_) (λe s' he =>?_)
 ·obtain⟨v',σ₁,am₁,e,hR,N1,X1⟩:=hc;cases e; exact hQ c am₁ s' hR N1 X1
 ·obtain⟨x,σ₁,am₁,e,_⟩:=he;cases e
inductive PG(S:au)(r:HQ)(envs:Frs)(env:Env)(own:yk yp)(cx:Cx)(U:yk yp)(O:St)(s:yy)(test:yr)(body orelse:yk yU)(q:Res ac)(n:Nat)(s':yy):Prop
 |mk (U':yk yp) (O':St) (h:bm (r.tr cx test) (r.HK cx body) (r.HK cx orelse) n O'=some q) (N:HB S envs env own cx U' O' s') (X:Ext own U O s U' O' s')
theorem Ml(I:HJ S T r d)(P:At S A envs env own cx d)(test:yr)(body orelse:yk yU)(p:Pos)(L:Nat) :
  HN S A envs env own cx IT (exec (.While test body orelse p) env) (bm (r.tr cx test) (r.HK cx body) (r.HK cx orelse) L):=by
 intro U O s q hr N;refine wpAny_While ?_;refine codeAny_whileLoop (PG S r envs env own cx U O s test body orelse q) (λn s' hI=>d4 λK hK =>?_) L ⟨U,O,hr,N,.refl ..⟩;obtain⟨am1,σ1,hr1,N1,X1⟩:=hI;cases n with
 |zero=>exact nn hr1
 |succ n =>
  obtain⟨c,σ2,hc,hr2⟩:=cE hr1;refine(I.tr P test).HF hc N1 λcc am2 s2 hR N2 X2=>hK _ _ ?_;cases hR;cases c with
  |true =>
   rw[yo rfl];rw[yo rfl]at hr2;refine(let QQ:=_; let EE:=_; (?_:yq _ _ _ QQ EE _));obtain⟨f,σ3,hf,hr3⟩:=cE hr2;refine d4 λK2 hK2=>(I.HK P body).HF hf N2 λcf am3 s3 hR3 N3 X3 =>?_;rcases hR3.inv with⟨rfl,rfl⟩|⟨rfl,rfl⟩|⟨rfl,rfl⟩|⟨v,w,rfl,rfl⟩
   ·exact hK2 _ _ ⟨n,yK _,am3,σ3,hr3,N3,(X1.trans X2).trans X3⟩
   ·exact hK2 _ _ ⟨_,σ3,am3,(si hr3).symm,trivial,N3,(X1.trans X2).trans X3⟩
   ·exact hK2 _ _ ⟨n,yK _,am3,σ3,hr3,N3,(X1.trans X2).trans X3⟩
   ·exact hK2 _ _ ⟨_,σ3,am3,(si hr3).symm,hR3,N3,(X1.trans X2).trans X3⟩
  |false =>rw[ym (by simp)];rw[ym (by simp)]at hr2;refine hdZ λGG hGG =>?_;obtain⟨f,σ3,rfl,hf⟩:=et hr2;refine hGG ?_;refine(I.HK P orelse).HF hf N2 λcf am3 s3 hR3 N3 X3 =>?_;exact⟨_,σ3,am3,rfl,hR3,N3,(X1.trans X2).trans X3⟩
theorem HG.unit(e:q=.ok () σ₁)(N:HB S envs env own cx U σ₁ s')(X:Ext own U O s U σ₁ s'):HG S envs env own cx RU U O s q () s':=⟨(),σ₁,U,e,trivial,N,X⟩
theorem oP{t:yp}(hne:t≠it):∀(n i:Nat) (s:yy) (Q:yk yt->yy->Prop),s.heap.IsListIter it t i->s.heap.IsList t items->i+n<=items.size ->
  (∀h',h'.IsListIter it t (i+n)->zY it s.heap h'->Q ((items.toList.drop i).take n) {s with heap:=h'})->yq (yw prog w) A (draw (.ref it) n) Q E s
 |0=>λi s Q hit Z Z hQ=>yG (by simpa using hQ s.heap hit (Heap.SameBut.refl ..))
 |n+1=>λi s Q hit ht hle hQ=>by
  have hlt:i<items.size:=yv (Bf (Bh n)) hle;show yq _ _ (pyNext (.ref it) >>=_) Q E s;refine yz (Hy hit ht (x:=items[i]) (by simp[hlt]) λh₁ hit₁ hs₁ =>?_);refine yz (zw (oP hne n (i+1) _ _ hit₁ (ht.extBut hs₁.extBut hne) (by rw[Bd]; exact hle) λh₂ hit₂ hs₂=>yG ?_));have hd:items.toList.drop i=items[i]::items.toList.drop (i+1):=by simp[Dv,hlt]
  have:=hQ h₂ (by rw[show i+(n+1)=i+1+n from(Bd i 1 n).symm]; exact hit₂) (hs₁.trans hs₂);rw[hd,List.take_succ_cons]at this;exact this
theorem sK{elts:yk yr}{x1:Nat}{t:yp}{Q:yu->yy->Prop}(hh:A.handled=none)(ht:s.heap.IsList t items)
  (hn:(Ap elts env).length=items.size) (hstar:(Ap elts env).findIdx? (·.1)=none)
  (h:∀h',Heap.ExtBut s.heap.objs.size s.heap h'->yq (yw prog w) A (assignInOrder ((Ap elts env).map (·.2)) items.toList) Q E {s with heap:=h'}) :
  yq (yw prog w) A (assign (.Tuple elts x1 pos) env (.ref t)) Q E s:=by
 rw[arm_assign_Tuple];refine yz (A6 ?_);unfold unpack;rw[hn,hstar];refine yz (zw ?_);have hlt:t≠s.heap.objs.size:=by obtain⟨o,ho,_⟩:=ht; exact yA (Ab ho)
 unfold unpackItems;refine yz ?_;unfold notIterableAtAll;refine yz (Fv ht.typeIs F.slot_list_iter.lookup ?_);refine yG ?_;refine(let QQ:=_; let EE:=_; (?_:yq _ _ _ QQ EE _));rw[ym A0];refine yz (zw (C4 ht ?_));refine yz (zw (oP hlt items.size 0 _ _ ⟨_,y6 _ rfl,rfl,rfl⟩ (ht.push _) (zj (zM _)) λh₁ hit₁ hs₁ =>?_));have hall:List.take items.size (List.drop 0 items.toList)=items.toList:=by rw[EG]; exact B9 (by simp)
 rw[hall,ym (by simp)];have ht₁:h₁.IsList t items:=(ht.push _).extBut hs₁.extBut hlt;refine yz (zw (Hx hh hit₁ ht₁ (by simp) λh₂ he₂ =>?_));refine wq (by rw[show(Option.isSome (none:yl yt))=false from rfl,ym A0]) ?_;exact yG (h h₂ λb o hb e=>he₂ b o hb (hs₁.extBut b o hb (zR _ e)))
variable{t:yr}{ts:yk yr}
theorem ic(h:dB cx (t::ts) (v::vs) O=some q):∃x px,t=.Name x px/\M.bind (bu cx x v) (λZ=>dB cx ts vs) O=some q:=by cases t<;>first|exact nn h|exact⟨_,_,rfl,h⟩
theorem iS(h:dB cx (t::ts) [] O=some q):False:=by cases t<;>exact nn h
set_option tactic.hygienic true in
theorem fB(P:At S A envs env own cx d):∀{ts:yk yr} {vs:yk AV} {cs:yk yt} {U:yk yp} {O:St} {s:yy} {q:Res yu} {E:yt->yy->Prop},HB S envs env own cx U O s->dB cx ts vs O=some q->av U s.heap vs cs ->
  yq (yw S.prog S.w) A (assignInOrder ((Ap ts env).map (·.2)) cs) (HG S envs env own cx RU U O s q) E s
 |[],vs,cs,U,O,s,q,E=>λN hr hv=>by
  cases vs with
  |cons v vs=>exact nn hr
  |nil =>
  (have h9:=si hr; clear hr; subst h9); cases hv
  exact yG (.unit rfl N (.refl ..))
 |t::ts,vs,cs,U,O,s,q,E=>λN hr hv=>by
  cases vs with
  |nil=>exact(iS hr).elim
  |cons v vs =>
  have h9:=ic hr; clear hr; obtain⟨x,px,rfl,hr⟩:=h9;obtain⟨c,cr,rfl,hc,hcr⟩:=hv;show yq _ _ (do holding cr (assign (.Name x px) env c); assignInOrder ((Ap ts env).map (·.2)) cr) _ _ _;refine yz (zw (Co ?_));unfold M.bind at hr;cases e:bu cx x v O with
  |none=>rw[e]at hr; exact nn hr
  |some p =>rw[e]at hr;refine fE P N e hc λσ₁ s₁ e1 Z N1 X1 =>?_;subst e1;exact yO (fB P N1 hr (hcr.ext N X1)) (λZ Z h=>h.back X1) (λZ Z h=>h)
theorem ny(t:yr)(ts:yk yr):(Ap (t::ts) env).length=(Ap ts env).length+1:=by cases t<;>rfl
theorem cX:∀ts:yk yr,(Ap ts env).length=ts.length
 |[]=>rfl
 |t::ts=>(ny t ts).trans (yI (· + 1) (cX ts))
theorem v8{x:Str}{p:Res yu}(h:bu cx x v O=some p):∃O',p=.ok () O':=by
 unfold bu at h;cases hk:kindOf cx x with
 |none=>rw[hk]at h; exact nn h
 |some k=>rw[hk]at h; cases k<;>first|((have h9:=si h; clear h; subst h9); exact⟨_,rfl⟩)|(exact nn h; done)
set_option tactic.hygienic true in
theorem fA(env:Env):∀{ts:yk yr} {vs:yk AV} {O:St} {q:Res yu},dB cx ts vs O=some q->(Ap ts env).findIdx? (·.1)=none
 |[],_,_,_=>λZ=>rfl
 |t::ts,vs,O,q=>λh=>by
  cases vs with
  |nil=>exact(iS h).elim
  |cons v vs =>
  have h9:=ic h; clear h; obtain⟨x,px,rfl,h⟩:=h9;unfold M.bind at h;cases e:bu cx x v O with
  |none=>rw[e]at h; exact nn h
  |some p =>obtain⟨O',rfl⟩:=v8 e;rw[e]at h;have h1:=fA env h;show List.findIdx? _ ((false,assign (.Name x px) env)::Ap ts env)=none;rw[List.findIdx?_cons]; simp[h1]
theorem na(P:At S A envs env own cx d)(N:HB S envs env own cx U O s)(hr:dM cx t v O=some q)(hv:aq U s.heap v c) :
  yq (yw S.prog S.w) A (assign t env c) (HG S envs env own cx RU U O s q) E s:=by
 refine(let QQ:=_; let EE:=_; (?_:yq _ _ _ QQ EE _));cases t with
 |Name x px=>exact Co (fE P N hr hv λσ₁ s₁ e1 Z N1 X1=>.unit e1 N1 X1)
 |Tuple ts k pos =>
  have h9:=aH hr; clear hr; rcases h9 with⟨vs,hvs,hr⟩|⟨-,hr⟩
  rotate_left
  ·have h9:=ad hr; clear hr; obtain⟨vs,hvs,hr⟩:=h9;have h9:=az hr; clear hr; obtain⟨hc,hr⟩:=h9;refine hdZ λGG hGG =>?_;obtain⟨hc1,hc2⟩:=yS.mp hc;obtain⟨a,items,rfl,ht,hn,hvs⟩:=hv.Jk hvs;refine hGG ?_;have hlen:vs.length=items.size:=by simpa using hvs.length
   refine sK (P.hd (by simpa using hc1)) ht (by rw[cX,BP hc2,hlen]) (fA env hr) λh' he =>?_;have Q1:aF s {s with heap:=h'}:=⟨λb o e=>he b o (yA (Ab e)) e,rfl,rfl⟩;exact yO (fB P (N.quiet Q1) hr (hvs.mono (Q1.keeps U) N.H.HD (.refl ..))) (λZ Z h=>h.back (N.H.H2 Q1)) (λZ Z h=>h)
  have h9:=az hr; clear hr; obtain⟨hc,hr⟩:=h9;refine hdZ λGG hGG =>?_;obtain⟨hc1,hc2⟩:=yS.mp hc;obtain⟨a,items,rfl,ht,hn,hvs⟩:=hv.I9 hvs;refine hGG ?_;have hlen:vs.length=items.size:=by simpa using hvs.length
  refine wpAny_assign_Tuple (P.hd (by simpa using hc1)) ht (by rw[cX,BP hc2,hlen]) (fA env hr) λh' he =>?_;have Q1:aF s {s with heap:=h'}:=⟨λb o e=>he b o (yA (Ab e)) e,rfl,rfl⟩;exact yO (fB P (N.quiet Q1) hr (hvs.mono (Q1.keeps U) N.H.HD (.refl ..))) (λZ Z h=>h.back (N.H.H2 Q1)) (λZ Z h=>h)
 |_=>exact nn hr
theorem jJ{f:yu->M β}{b:β}{Q:yu->yy->Prop}(P:At S A envs env own cx d)(N:HB S envs env own cx U O s)(hr:M.bind (dM cx t v) f O=some (.ok b σ₁))(hv:aq U s.heap v c)
  (h:∀am₁ σ₂ s₁,HB S envs env own cx am₁ σ₂ s₁->Ext own U O s am₁ σ₂ s₁->f () σ₂=some (.ok b σ₁)->Q () s₁):yq (yw S.prog S.w) A (assign t env c) Q E s:=by
 unfold M.bind at hr;cases e:dM cx t v O with
 |none=>rw[e]at hr; exact nn hr
 |some p =>rw[e]at hr;refine yO (na P N e hv (E:=λZ Z=>False)) (λu s1 h1 =>?_) (λZ Z h=>h.elim);obtain⟨_,σ1,am1,rfl,_,N1,X1⟩:=h1;exact h am1 σ1 s1 N1 X1 hr
theorem uv{p:Pos}(hr:dM cx (.Tuple ts k p) v O=some q)(hv:aq U h v c):∃a,c=.ref a:=by
 have h9:=aH hr; clear hr; rcases h9 with⟨vs,hvs,hr⟩|⟨-,hr⟩
 ·obtain⟨a,_,e,_⟩:=hv.I9 hvs; exact⟨a,e⟩
 ·have h9:=ad hr; clear hr; obtain⟨vs,hvs,hr⟩:=h9;obtain⟨a,_,e,_⟩:=hv.Jk hvs; exact⟨a,e⟩
theorem dP.run{HE:M yu}{b:yp}(hf:dP own U O s.heap HE b)(X:Ext own U O s U' O' s')(hc:∃p,HE O'=some p):dP own U' O' s'.heap HE b/\s'.heap.get? b=s.heap.get? b:=by
 rcases hf with⟨h1,h2,o,xs,n,e,hd⟩|⟨i,ver,kvs,hi,e,rfl⟩|⟨i,vs,hi,e⟩
 ·obtain⟨o',e',st⟩:=X.heap.keep b o e h1 h2;have:o'=o:=st.eq (λes ep q=>by rw[hd]at q; cases q);subst this;exact⟨.inl ⟨X.HU.Ii h1 e,h2,o',xs,n,e',hd⟩,e'.trans e.symm⟩
 ·refine hdZ λGG hGG =>?_;obtain⟨p,hc⟩:=hc;have h9:=aN hc; clear hc; obtain⟨_,hc⟩:=h9;obtain⟨kvs',v',e1,e2,e3⟩:=X.Ie i b kvs ver hi e;rw[e1]at hc;obtain⟨q,_⟩:=az hc;refine hGG ?_;change v'=ver at q;subst q;obtain⟨rfl,e4⟩:=e3 rfl;exact⟨.inr (.inl ⟨i,v',kvs',X.HU.get hi,e1,rfl⟩),e4⟩
 ·obtain⟨e1,e2⟩:=X.Ij i b vs hi e;exact⟨.inr (.inr ⟨i,vs,X.HU.get hi,e1⟩),e2⟩
theorem dP.but{HE:M yu}{b:yp}(hf:dP own U O s.heap HE b)(hb:b∉its)(h:IP its s s'):dP own U O s'.heap HE b:=by
 rcases hf with⟨h1,h2,o,xs,n,e,hd⟩|h
 ·exact .inl ⟨h1,h2,o,xs,n,h.1 b o hb e,hd⟩
 ·exact .inr h
structure SW(S:au)(A:zX)(own U:yk yp)(O:St)(h:yC)(vs:yk AV)(HE:M yu)(I:yp)(fp:yk yp)(P:Nat->yt->Prop)(Wt:Nat->yC->Prop)(i:Nat):Prop where
 walk:Walks S.prog S.w A I fp [I] vs.length P Wt
 st:Wt i h
 Ic:eY S own U h [I]
 shape:∀j g,Wt j g->∃o fs n,g.get? I=some o/\o.cls=.type n/\o.data=.fields fs
 fix:∀b∈fp,b=I\/(b≠I/\dP own U O h HE b)
 vals:∀j v u,P j v->vs[j]?=some u->aq U h u v
variable{I:yp}{fp:yk yp}{P:Nat->yt->Prop}{Wt:Nat->yC->Prop}
theorem SW.item{HE:M yu}{Q:yl yt->yy->Prop}
  (W:SW S A own U O s.heap vs HE I fp P Wt i) (N:HB S envs env own cx U O s) (hu:vs[i]?=some u)
  (h:∀v s',aq U s'.heap u v->HB S envs env own cx U O s'->IP [I] s s'->SW S A own U O s'.heap vs HE I fp P Wt (i+1)->Q (some v) s'):yq (yw S.prog S.w) A (pyNext (.ref I)) Q E s:=by
 refine W.walk.item i s Q E (y2.mp hu).1 W.st λv h' tk hP st' hk =>?_;have hb:IP [I] s {s with heap:=h',toks:=tk}:=⟨hk,rfl,rfl⟩;have N':=N.but W.Ic hb;refine h v _ ((W.vals i v u hP hu).mono (hb.keeps W.Ic) N.H.HD (.refl ..)) N' hb ⟨W.walk,st',?_,W.shape,?_,?_⟩
 ·intro a ha;refine hdZ λGG hGG =>?_;have h8:=W.Ic a ha;have h1:=h8.1;have h2:=h8.2.1;have h3:=h8.2.2.1;refine hGG ?_;simp at ha; subst ha;exact⟨h1,h2,h3,W.shape _ _ st'⟩
 ·intro b hb';rcases W.fix b hb' with e|⟨e,hf⟩
  ·exact .inl e
  ·exact .inr ⟨e,hf.but (by simpa using e) hb⟩
 ·intro j v' u' hP' hu';exact(W.vals j v' u' hP' hu').mono (hb.keeps W.Ic) N.H.HD (.refl ..)
theorem SW.done{HE:M yu}{Q:yl yt->yy->Prop}
  (W:SW S A own U O s.heap vs HE I fp P Wt vs.length) (N:HB S envs env own cx U O s)
  (h:∀s',HB S envs env own cx U O s'->IP [I] s s'->Q none s'):yq (yw S.prog S.w) A (pyNext (.ref I)) Q E s:=by
 refine W.walk.done s Q E W.st λh' tk hk =>?_;have hb:IP [I] s {s with heap:=h',toks:=tk}:=⟨hk,rfl,rfl⟩;exact h _ (N.but W.Ic hb) hb
theorem SW.run{HE:M yu}
  (W:SW S A own U O s.heap vs HE I fp P Wt i) (N:HB S envs env own cx U O s) (X:Ext own U O s U' O' s') (hc:∃p,HE O'=some p):SW S A own U' O' s'.heap vs HE I fp P Wt i:=by
 obtain⟨p',e'⟩:=W.Ic.run X;refine⟨W.walk,W.walk.frame i _ _ W.st λb hb o e =>?_,p',W.shape,λb hb =>?_,λj v u hP hu=>(W.vals j v u hP hu).ext N X⟩
 ·rcases W.fix b hb with q|⟨_,hf⟩
  ·subst q; rw[e' b (by simp)]; exact e
  ·rw[(hf.run X hc).2]; exact e
 ·rcases W.fix b hb with q|⟨q,hf⟩
  ·exact .inl q
  ·exact .inr ⟨q,(hf.run X hc).1⟩
theorem gQ{HE:M yu}(hchk:∀O p,HE O=some p->p=.ok () O){f:yu->M β}{q:Res β}(h:M.bind HE f O=some q):(∃p,HE O=some p)/\f () O=some q:=by
 unfold M.bind at h;cases e:HE O with
 |none=>rw[e]at h; exact nn h
 |some p =>have:=hchk O p e; subst this;rw[e]at h;exact⟨⟨_,rfl⟩,h⟩
theorem oY(i ver:Nat):∀O p,du i ver O=some p->p=.ok () O:=by
 intro O p h;have h9:=aN h; clear h; obtain⟨_,h⟩:=h9;have h9:=ad h; clear h; obtain⟨d,_,h⟩:=h9;have h9:=az h; clear h; obtain⟨_,h⟩:=h9
 (have h9:=si h; clear h; subst h9); rfl
theorem iN:∀(O:St) (p:Res yu),(pure ():M yu) O=some p->p=.ok () O:=by intro O p h; (have h9:=si h; clear h; subst h9); rfl
theorem fF(P:At S A envs env own cx d){x:Str}{f:yu->M β}{b:β}{Q:yu->yy->Prop}(N:HB S envs env own cx U O s)(hr:M.bind (bu cx x v) f O=some (.ok b O'))(hv:aq U s.heap v c)
  (h:∀σ₁ s₁,HB S envs env own cx U σ₁ s₁->Ext own U O s U σ₁ s₁->f () σ₁=some (.ok b O')->Q () s₁):yq (yw S.prog S.w) A (storeName env x c) Q E s:=by
 unfold M.bind at hr;cases e:bu cx x v O with
 |none=>rw[e]at hr; exact nn hr
 |some p =>rw[e]at hr;refine fE P N e hv λσ₁ s₁ e1 Z N1 X1 =>?_;subst e1;exact h σ₁ s₁ N1 X1 hr
inductive Sg(S:au)(r:HQ)(envs:Frs)(env:Env)(own:yk yp)(cx:Cx)(A:zX)(x:Str)(body:yk yU)(vs:yk AV)(HE:M yu)(It:yp)(fp:yk yp)(Pv:Nat->yt->Prop)(Wt:Nat->yC->Prop)(q:Res ac)(am₀:yk yp)(σ₀:St)(s₀:yy)(n:Nat)(s':yy):Prop
 |mk (U':_) (O':_) (u0:n<=vs.length) (u1:bt HE (λv=>M.bind (bu cx x v) λZ=>r.HK cx body) (vs.drop (vs.length-n)) O'=some q) (u2:HB S envs env own cx U' O' s') (u3:Ext own am₀ σ₀ s₀ U' O' s') (u4:SW S A own U' O' s'.heap vs HE It fp Pv Wt (vs.length-n))
variable{It:yp}{Pv:Nat->yt->Prop}
theorem OT(I:HJ S T r d)(P:At S A envs env own cx d)(x:Str)(px:Pos)(body:yk yU){HE:M yu}{q:Res ac}
  (hchk:∀O p,HE O=some p->p=.ok () O) (W:SW S A own U O s.heap vs HE It fp Pv Wt 0) (N:HB S envs env own cx U O s) (N₀:HB S envs env own cx am₀ σ₀ s₀) (X:Ext own am₀ σ₀ s₀ U O s) (hnew:s₀.heap.get? It=none)
  (hr:bt HE (λv=>M.bind (bu cx x v) λZ=>r.HK cx body) vs O=some q) :
  zQ (yw S.prog S.w) A (.forLoop (.Name x px) (.ref It) body [] env) (λrr s'=>match rr with|.ok f=>HG S envs env own cx IT am₀ σ₀ s₀ q f s'|.error e=>E e s') s:=by
 refine codeAny_forLoop (Sg S r envs env own cx A x body vs HE It fp Pv Wt q am₀ σ₀ s₀)
  (λn s' hI=>d4 λK hK =>?_) vs.length ⟨U,O,yF _,by rw[AQ]; exact hr,N,X,by rw[AQ]; exact W⟩ (λv=>rfl)
 obtain⟨am1,σ1,hn,hr1,N1,X1,W1⟩:=hI;have hni:∀a∈[It],s₀.heap.get? a=none:=λa ha=>by simp at ha; subst ha; exact hnew
 cases n with
 |zero =>
  rw[Bx,EF]at hr1
  (have h9:=si hr1; clear hr1; subst h9)
  rw[Bx]at W1;refine W1.done N1 λs2 N2 hb=>hK _ _ ?_;exact yG ⟨_,σ1,am1,rfl,trivial,N2,Ext.but N₀.H X1 hni hb⟩
 |succ n =>
  obtain⟨u,hu,hdrop,e9⟩:=j2 hn;rw[hdrop]at hr1;obtain⟨f,σ3,hf,hr3⟩:=cE hr1;refine W1.item N1 hu λv s2 hv N2 hb W2=>hK _ _ (Co ?_);have X2:=Ext.but N₀.H X1 hni hb;rw[e9]at W2;refine fF P N2 hf hv λσ4 s4 N4 X4 hf4 =>?_;refine d4 λK2 hK2=>(I.HK P body).HF hf4 N4 λcf am5 s5 hR5 N5 X5 =>?_;have X6:=(X2.trans X4).trans X5;rcases hR5.inv with⟨rfl,rfl⟩|⟨rfl,rfl⟩|⟨rfl,rfl⟩|⟨v,w,rfl,rfl⟩
  ·have h8:=gQ hchk hr3;have hc:=h8.1;have hr4:=h8.2;exact hK2 _ _ ⟨n,yK _,am5,σ3,zC hn,hr4,N5,X6,(W2.run N2 (X4.trans X5) hc)⟩
  ·exact hK2 _ _ ⟨_,σ3,am5,(si hr3).symm,trivial,N5,X6⟩
  ·obtain⟨hc,hr4⟩:=gQ hchk hr3;exact hK2 _ _ ⟨n,yK _,am5,σ3,zC hn,hr4,N5,X6,(W2.run N2 (X4.trans X5) hc)⟩
  ·exact hK2 _ _ ⟨_,σ3,am5,(si hr3).symm,hR5,N5,X6⟩
theorem nW:entryFor table "proto.unchain"= some As.«proto.unchain» := entryFor_of_fast (by kernel_rfl)
theorem qR{x:yp}{a left step:Int}{o:Obj}{fs:yM yt}{Q:yl yt->yy->Prop}(hh:A.handled=some (.ref x))(ho:s.heap.get? x=some o)(hd:o.data=.fields fs)(h2:fs[2]?=some .none)
  (hit:Ex s.heap it a left step) (hleft:left<=0) (hQ:∀h',Heap.ExtBut it s.heap h'->Q none {s with heap:=h'}):yq (yw prog w) A (pyNext (.ref it)) Q E s:=by
 have hT:s.TypeIs (.ref it) "range_iterator":= ⟨_,hit,rfl⟩;unfold pyNext;refine yz (wpAny_attempt (Fp (name:=Str.ofString "__next__") hT FP
  (Fq FP hT F.entry_range_iterator_next ?_ (F.args_range_iterator_next_1 _))))
 show yq _ _ (field (.ref it) 0 >>=_) _ _ s;refine yz (AY hit rfl (x:=rawInt a) rfl ?_);show yq _ _ (field (.ref it) 1 >>=_) _ _ s;refine yz (AY hit rfl (x:=rawInt left) rfl ?_);show yq _ _ (field (.ref it) 2 >>=_) _ _ s;refine yz (AY hit rfl (x:=rawInt step) rfl ?_);show yq _ _ (if left<=0 then _ else _) _ _ s;refine(let QQ:=_; let EE:=_; (?_:yq _ _ _ QQ EE _));rw[yo hleft];refine yz (wpAny_rule ?_);refine yz ?_;show yq _ _ (newExc (.type "StopIteration") [] >>=_) _ _ _;refine yz ?_;refine(let QQ:=_; let EE:=_; (?_:yq _ _ _ QQ EE _));simp only[newExc,newTuple];refine yz (BR ?_ (by size_fits));refine yz (m:=firstArgMember _ _) (Cq (a:=AI) (by first|rfl|(simp only[firstArgMember]; rfl)) ?_);refine BR ?_ (by size_fits);refine(let QQ:=_; let EE:=_; (?_:yq _ _ _ QQ EE _));show yq _ _ (raiseNew _) _ _ _;delta raiseNew;refine yz (wpAny_handled ?_);rw[show A.in1.handled=some (.ref x)from hh];have hx:x<s.heap.objs.size:=Ab ho;have hx2:=zR (h:=s.heap) {cls:=.type "tuple",dict:=none,data:=.seq ([]:yk yt).toArray} ho;have hx3:=Ab hx2;dsimp only;rw[yo (by simpa using yA hx3)];generalize hS:(s.heap.push _).objs.size=z;have hz:=hS▸hx3;have hnf:∀h:yC,h.objs.size=z->h.get? z=none:=λh e=>e▸zm (yF _);refine yz (zw (wpAny_runValue (Fk nW ?_)));unfold As.«proto.unchain»;dsimp only;refine yz (AY (zR _ hx2) hd h2 ?_);refine wq (by rw[yo (by rfl)]) ?_;refine yz (yG (yG ?_));dsimp only;have hE:=y6 (h:=s.heap.push {cls:=.type "tuple",dict:=none,data:=.seq ([]:yk yt).toArray}) (o:={cls:=.type "StopIteration",dict:=none,data:=.fields (#[zW s.heap.objs.size,AI,.none,.none,.bool false,.none]++ownMembersOf (.type "StopIteration") [])}) rfl;rw[hS]at hE;simp only[updateField];refine yz (yz (Cp hE ?_));dsimp only;rw[yo (by rw[Ea]; exact yv (show 2<6 from by decide) (yH _ _))];refine wpAny_update hE (wpAny_throw ?_);have hd3:=Ff (o:={cls:=.type "StopIteration",dict:=none,data:=.fields (#[zW s.heap.objs.size,AI,.none,.none,.bool false,.none]++ownMembersOf (.type "StopIteration") [])}) rfl (·.setIfInBounds 2 (zW x));have hE3:=A7 (DS (·.setIfInBounds 2 (zW x))) hE (DR hd3);refine yz (wpAny_isInstance (T :="StopIteration") (b:=true) ⟨_,hE3,Fd _ _⟩ isSubtype_stop ?_);refine yG (hQ _ λb ob hb e =>?_);have hbz:b<z:=yv (Ab e) (hS▸by rw[BF]; exact Am _);exact(Cv _ _ (zk hbz)).trans (zR _ (zR _ e))
theorem Walks.Oa{x:yp}(hh:A.handled=some (.ref x))(I:yp)(hne:x≠I)(a c:Int)(n:Nat) :
  Walks prog w A I [I,x] [I] n (λi v=>∃t,v=.int (a+i*c) t) (λi h=>Ex h I (a+(i:Nat)*c) ((n:Int)-(i:Nat)) c/\∃o fs,h.get? x=some o/\o.data=.fields fs/\fs[2]?=some .none) where
 sub:=λb hb=>by simp at hb; simp[hb]
 frame:=λ_ _ _ st hk=>⟨hk I (by simp) _ st.1,st.2.imp λo z=>z.imp λfs z=>⟨hk x (by simp) _ z.1,z.2⟩⟩
 item:=λi s Q E hi st hQ=>by
  refine wpAny_pyNext_range_item st.1 (by lia) λh' hit' hs' =>?_;refine hQ _ h' _ ⟨_,rfl⟩ ⟨?_,st.2.imp λo z=>z.imp λfs z=>⟨hs'.extBut x o hne z.1,z.2⟩⟩ λb o hb e=>hs'.extBut b o (λh=>hb (by simp[h])) e;have e1:a+((i+1:Nat):Int)*c=a+(i:Int)*c+c:=by push_cast; rw[Int.add_mul,Int.one_mul,Int.add_assoc]
  have e2:(n:Int)-((i+1:Nat):Int)=(n:Int)-(i:Int)-1:=by push_cast; lia
  rw[e1,e2]; exact hit'
 done:=λs Q E st hQ=>by obtain⟨o,fs,e,hd,h2⟩:=st.2;exact qR hh e hd h2 st.1 (by lia) λh' he'=>hQ h' s.toks λb o hb e=>he' b o (λh=>hb (by simp[h])) e
 self:=λ_ _ _ _ st hQ=>wpAny_pyIter_rangeiter st.1 hQ
theorem cG{o:Obj}{fs:yM yt}{n:yL}(N:HB S envs env own cx U O s)(hc:o.cls=.type n)(hd:o.data=.fields fs)(hf:o.isFreed=false) :
  eY S own U (s.heap.push o) [s.heap.objs.size]:=by
 intro a ha;simp at ha; subst ha;have hn:s.heap.get? s.heap.objs.size=none:=zm (yF _);refine⟨λhm =>?_,λhm =>?_,?_,o,fs,n,y6 _ hf,hc,hd⟩
 ·obtain⟨o',e,_⟩:=N.H.HD _ hm; rw[hn]at e; exact nn e
 ·obtain⟨_,o',e,_⟩:=N.F.HZ _ hm; rw[hn]at e; exact nn e
 ·cases q:S.h₀.get? s.heap.objs.size with
  |none=>rfl
  |some o=>have:=N.H.base _ o q; rw[hn]at this; exact nn this
theorem oh{o:Obj}{HE:M yu}(N:HB S envs env own cx U O s)(hn:l∉U)(e:s.heap.get? l=some o)(hd:o.data=.seq xs n):dP own U O s.heap HE l :=
 .inl ⟨hn,λhm=>by
  have:=N.F.IY l hm o e;rcases this with⟨es,ep,h⟩|⟨v,h⟩<;>(rw[hd]at h; cases h),o,xs,n,e,hd⟩
noncomputable def kJ:aw->yl (yk AV×M yu)
 |.Ip vs=>some (vs,pure ())
 |.seq vs=>some (vs,pure ())
 |.H7 i ver vs=>some (vs,du i ver)
 |_=>none
theorem kJ.HE{its:aw}{HE:M yu}(h:kJ its=some (vs,HE)):∀O p,HE O=some p->p=.ok () O:=by
 cases its<;>(first|exact nn h|cases h)
 ·exact iN
 ·exact iN
 ·exact oY _ _
theorem QO(a b c:Int):0<=Bk a b c:=by
 unfold Bk;split
 ·split
  ·exact Int.add_nonneg (FT (Dq (FW (by assumption))) (Cy (by assumption))) (by decide)
  ·exact Dn _
 ·split
  ·exact Int.add_nonneg (FT (Dq (FW (by assumption))) (Int.neg_nonneg_of_nonpos (BW.mp (by assumption)))) (by decide)
  ·exact Dn _
theorem NW{a c:Int}{w:yt}(hP:∃t,w=.int (a+j*c) t)(hu:((yB n).map λ(k:Nat)=>AV.int (a+k*c))[j]?=some u):aq U h u w:=by rw[zB]at hu;obtain⟨k,hk,rfl⟩:=y4.mp hu;obtain⟨t,rfl⟩:=hP;obtain⟨_,e⟩:=y2.mp hk;rw[List.getElem_range]at e;subst e;exact⟨t,rfl⟩
variable{ws:yk AV}
theorem LY(hh:A.handled=none\/∃x,A.handled=some (.ref x)/\envs.x=some x){r:yp}{a b c:Int}{t u v:Tok}{HE:M yu}(N:HB S envs env own cx U O s)(hr:IsRange s.heap r a b c t u v)(hsm:Dd a b c=true)
  (hl:ws.length=(Bk a b c).toNat) (hv:∀j w u,(∃t,w=.int (a+(j:Nat)*c) t)->ws[j]?=some u->∀h,aq U h u w)
  (h:∀s' fp P Wt,HB S envs env own cx U O s'->aF s s'->SW S A own U O s'.heap ws HE s.heap.objs.size fp P Wt 0->Q (.ref s.heap.objs.size) s'):yq (yw S.prog S.w) A (pyIter (.ref r)) Q E s:=by
 refine wpAny_pyIter_range hr hsm ?_;have hp:=QO a b c;revert hl hp;generalize Bk a b c=z;intro hl hp;obtain⟨n,rfl⟩:=Cw hp;rw[zK]at hl;subst hl;have q:=λh=>aF.push s h s.toks;have hst:Ex (s.heap.push {cls:=.type "range_iterator",data:=.fields #[rawInt a,rawInt ws.length,rawInt c]}) s.heap.objs.size (a+((0:Nat):Int)*c) ((ws.length:Int)-((0:Nat):Int)) c:=by rw[show a+((0:Nat):Int)*c=a by simp,show(ws.length:Int)-((0:Nat):Int)=ws.length from Int.sub_zero _];exact y6 _ rfl
 rcases hh with hh|⟨x,hh,hx⟩
 ·exact h _ _ _ _ (N.quiet (q _)) (q _) ⟨Walks.range hh s.heap.objs.size a c _,hst,cG N rfl rfl rfl,λj g st=>⟨_,_,_,st,rfl,rfl⟩,λb' hb'=>.inl (by simpa using hb'),λj w u p e=>hv j w u p e _⟩
 ·obtain⟨i,us,hi,he⟩:=N.H.xs x hx;have h1:=N.H.objs i x hi;rw[he]at h1;obtain⟨o,fs,_,_,ho,_,hd,_,f2,_⟩:=h1;have hne:x≠s.heap.objs.size:=yA (Ab ho);exact h _ _ _ _ (N.quiet (q _)) (q _) ⟨Walks.Oa hh s.heap.objs.size hne a c _,⟨hst,o,fs,(q _).keep _ _ ho,hd,f2⟩,cG N rfl rfl rfl,λj g st=>⟨_,_,_,st.1,rfl,rfl⟩,
   λb' hb'=>by simp at hb'; exact hb'.imp id λe=>by subst e; exact⟨hne,.inr (.inr ⟨i,_,hi,he,trivial⟩)⟩,λj w u p e=>hv j w u p e _⟩
theorem SJ{g:yC}{n:yL}{fs:yM yt}(x:∃o,g.get? I=some o/\o.cls=.type n/\o.data=.fields fs):∃o fs n,g.get? I=some o/\o.cls=.type n/\o.data=.fields fs:=by obtain⟨o,e,c,d⟩:=x;exact⟨o,fs,n,e,c,d⟩
theorem uJ{C:Obj->Prop}{HE:M yu}(N:HB S envs env own cx U O s)(x:∃o,s.heap.get? l=some o/\C o/\∃n,o.data=.seq xs n)(hn:l∉U)(ob:Obj):l≠s.heap.objs.size/\dP own U O (s.heap.push ob) HE l:=by obtain⟨o,e,_,n,d⟩:=x;have q:=aF.push s ob s.toks;exact⟨yA (Ab e),oh (N.quiet q) hn (q.keep _ _ e) d⟩
variable{ob:Obj}
theorem pp{fs:yM yt}{n:yL}{m:Nat}{HE:M yu}(N:HB S envs env own cx U O s)(hc:ob.cls=.type n)(hd:ob.data=.fields fs)(hf:ob.isFreed=false)(hne:l≠s.heap.objs.size)
  (W:Walks S.prog S.w A s.heap.objs.size [s.heap.objs.size,l] [s.heap.objs.size] m P Wt) (hm:ws.length=m) (st:Wt 0 (s.heap.push ob)) (sh:∀j g,Wt j g->∃o fs n,g.get? s.heap.objs.size=some o/\o.cls=.type n/\o.data=.fields fs)
  (fx:dP own U O (s.heap.push ob) HE l) (vals:∀j v u,P j v->ws[j]?=some u->aq U s.heap u v)
  (h:∀s' fp P Wt,HB S envs env own cx U O s'->aF s s'->SW S A own U O s'.heap ws HE s.heap.objs.size fp P Wt 0->Q (.ref s.heap.objs.size) s'):Q (.ref s.heap.objs.size) {s with heap:=s.heap.push ob}:=by
 have q:aF s {s with heap:=s.heap.push ob}:=.push s _ s.toks;subst hm;exact h _ _ _ _ (N.quiet q) q ⟨W,st,cG N hc hd hf,sh,λb hb=>by simp at hb; exact hb.imp id λe=>by subst e; exact⟨hne,fx⟩,λj v u p e=>(vals j v u p e).mono (q.keeps U) N.H.HD (.refl ..)⟩
theorem qP{v:yt}(hv:av U h ws xs.toList)(hP:xs[j]?=some v)(hu:ws[j]?=some u):aq U h u v:=by
 obtain⟨c,hc,hcv⟩:=hv.get hu;have h1:xs.toList[j]?=some v:=by simpa using hP
 rw[hc]at h1;cases h1;exact hcv
theorem xZ{b:yM yQ}{v:yt}(p:∃c tk,b[j]?=some c/\v=.int (c.toNat:Int) tk)(e:(b.toList.map λy=>AV.int y.toNat)[j]?=some u):aq U h u v:=by obtain⟨c,tk,hc,rfl⟩:=p;rw[zB,Array.getElem?_toList,hc]at e;obtain rfl:=(si e:AV.int (c.toNat:Int)=u);exact⟨tk,rfl⟩
theorem LR{cs:yk (Int×yt)}{v:yt}(hpr:kvs.map (·.1)=cs.map (·.1))(hP:∃k x,cs[j]?=some (k,x)/\(y1 prog w).is k v=true)(hu:(kvs.map λp=>AV.int p.1)[j]?=some u):aq U h u v:=by
 obtain⟨k,x,hk,hkey⟩:=hP;rw[zB]at hu;obtain⟨p,hp,rfl⟩:=y4.mp hu;have h2:(kvs.map (·.1))[j]?=some k:=by rw[hpr,zB,hk]; rfl
 rw[zB,hp]at h2;obtain⟨t,rfl⟩:=Ht hkey;exact⟨t,yI (λi=>Value.int i t) (si h2).symm⟩
theorem rG{its:aw}(hh:A.handled=none\/∃ws x,its=.Ip ws/\A.handled=some (.ref x)/\envs.x=some x)(hb4:(S.h₀.get? AJ).isSome=true){HE:M yu}{x:yt}(N:HB S envs env own cx U O s)(hx:UY S own hb O U s.heap its x)(hs:kJ its=some (vs,HE))
  (h:∀s' fp P Wt,HB S envs env own cx U O s'->aF s s'->SW S A own U O s'.heap vs HE s.heap.objs.size fp P Wt 0->Q (.ref s.heap.objs.size) s'):yq (yw S.prog S.w) A (pyIter x) Q E s:=by
 cases its with
 |Ip ws =>cases hs;obtain⟨r,a,b,c,t,u,v,rfl,hr,hsm,rfl⟩:=hx;exact LY (hh.imp id λh=>by obtain⟨_,x,_,e1,e2⟩:=h; exact⟨x,e1,e2⟩) N hr hsm (by simp) (λj w u p e h=>NW p e) h
 |seq ws =>
  have h0:=hh.resolve_right (λh=>by obtain⟨_,_,e,_⟩:=h; cases e);cases hs;rcases hx with hx|hx|⟨b,t,rfl,rfl⟩
  ·obtain⟨l,xs,rfl,hl,hn,hv⟩:=hx;refine C4 hl ?_;have k:=uJ (HE:=pure ()) N hl hn;exact pp N rfl rfl rfl (k default).1 (Walks.list h0 s.heap.objs.size l (k default).1 xs) (by simpa using hv.length) ⟨⟨_,y6 _ rfl,rfl,rfl⟩,hl.push _⟩ (λj g st=>SJ st.1) (k _).2 (λj v u p e=>qP hv p e) h
  ·obtain⟨l,xs,rfl,hl,hn,hv⟩:=hx;refine wpAny_pyIter_tuple hl ?_;have k:=uJ (HE:=pure ()) N hl hn;exact pp N rfl rfl rfl (k default).1 (Walks.tuple h0 s.heap.objs.size l (k default).1 xs) (by simpa using hv.length) ⟨⟨_,y6 _ rfl,rfl,rfl⟩,hl.at λo e=>zR _ e⟩ (λj g st=>SJ st.1) (k _).2 (λj v u p e=>qP hv p e) h
  ·refine KBw.pyIter_bytes ?_;have q:=λh=>aF.push s h s.toks;have hlen:(b.toList.map λy=>AV.int y.toNat).length=b.size:=by simp
   refine h _ _ _ _ (N.quiet (q _)) (q _) ⟨hlen▸KBw.walks h0 s.heap.objs.size b t,⟨_,y6 _ rfl,rfl,rfl⟩,cG N rfl rfl rfl,λj g st=>by exact SJ st,λb' hb'=>.inl (by simpa using hb'),λj v u p e=>by exact xZ p e⟩
 |H7 i ver ws =>
  have h0:=hh.resolve_right (λh=>by obtain⟨_,_,e,_⟩:=h; cases e);cases hs;obtain⟨a,kvs,ha,hp,hx⟩:=hx;have h1:=N.H.objs i a ha;rw[hp]at h1;obtain⟨cs,hd,hpr⟩:=h1;obtain⟨ep,hat⟩:=hd.dictAt;have hne:a≠s.heap.objs.size:=yA hat.lt_size;have hlen:kvs.length=cs.length:=hpr.length;have fx:∀h,dP own U O h (du i ver) a:=λh=>.inr (.inl ⟨i,ver,kvs,ha,hp,rfl⟩);rcases hx with⟨rfl,rfl⟩|⟨v,rfl,hview,rfl⟩
  ·refine wpAny_pyIter_dict (knd:=y1 S.prog S.w) (yi N.H hb4 (zy ha)) hat ?_;have hl:(kvs.map λp=>AV.int p.1).length=cs.length:=by simp[hlen]
   exact pp N rfl rfl rfl hne (Walks.dictKeys (knd:=y1 S.prog S.w) h0 s.heap.objs.size a hne cs ep) hl ⟨⟨_,y6 _ rfl,rfl,rfl⟩,hat.push _⟩ (λj g st=>SJ st.1) (fx _) (λj v u p e=>LR hpr.1 p e) h
  ·refine wpAny_pyIter_values (knd:=y1 S.prog S.w) hview hat ?_;have hl:(kvs.map (·.2)).length=cs.length:=by simp[hlen]
   refine pp N rfl rfl rfl hne (Walks.dictValues (knd:=y1 S.prog S.w) h0 s.heap.objs.size a hne cs ep) hl ⟨⟨_,y6 _ rfl,rfl,rfl⟩,hat.push _⟩ (λj g st=>SJ st.1) (fx _) (λj w u p e =>?_) h;obtain⟨k,hk⟩:=p;obtain⟨c,hc,hcv⟩:=hpr.2.get e;rw[zB,hk]at hc;cases hc;exact hcv
 |HY i=>exact nn hs
 |pairs o ps=>exact nn hs
theorem vm{Q:yl yt->yy->Prop}(P1:eY S own U s.heap [It])(N1:HB S envs env own cx U O s)(I1:s.heap.IsListIter It a k)(hl:s.heap.IsList a ys)(hc:ys[k]?=some c)
  (h:∀s',IP [It] s s'->HB S envs env own cx U O s'->eY S own U s'.heap [It]->s'.heap.IsListIter It a (k+1)->bq U s.heap s'.heap->Q (some c) s'):yq (yw S.prog S.w) A (pyNext (.ref It)) Q E s:=by
 refine Hy I1 hl hc λh' hit hs =>?_;let sZ7:yy:={s with heap:=h'};have hb:IP [It] s sZ7:=⟨λb o hb e=>hs.extBut b o (λq=>hb (q▸EV _)) e,rfl,rfl⟩;refine h _ hb (N1.but P1 hb) (λb hb' =>?_) hit (hb.keeps P1);refine hdZ λGG hGG =>?_;have h8:=P1 b hb';have p1:=h8.1;have p2:=h8.2.1;have p3:=h8.2.2.1;obtain rfl:=zf.mp hb';obtain⟨o,e,hcl,hd⟩:=hit;refine hGG ?_;exact⟨p1,p2,p3,o,_,_,e,hcl,hd⟩
theorem LO{Q:yl yt->yy->Prop}(hh:A.handled=none)(P1:eY S own U s.heap [It])(N1:HB S envs env own cx U O s)(I1:s.heap.IsListIter It a k)(hl:s.heap.IsList a ys)(hv:av U s.heap vs ys.toList)(hk:vs[k]?=none)
  (h:∀s',IP [It] s s'->HB S envs env own cx U O s'->Q none s'):yq (yw S.prog S.w) A (pyNext (.ref It)) Q E s:=by
 have hnone:ys[k]?=none:=by have hlen:=hv.length;rw[EL,hlen]at hk;rw[Fx]; exact hk
 refine Hx hh I1 hl hnone λh' he =>?_;let sZ8:yy:={s with heap:=h'};have hb:IP [It] s sZ8:=⟨λb o hb e=>he b o (λq=>hb (q▸EV _)) e,rfl,rfl⟩;exact h _ hb (N1.but P1 hb)
theorem LN(P2:eY S own U s.heap [It])(I2:s.heap.IsListIter It a k)(X:Ext own U O s U' O' s'):eY S own U' s'.heap [It]/\s'.heap.IsListIter It a k:=by refine hdZ λGG hGG =>?_;obtain⟨P5,e5⟩:=eY.run P2 X;obtain⟨o,e,r⟩:=I2;refine hGG ?_;exact⟨P5,o,(e5 _ (EV _)).trans e,r⟩
theorem jp(N:HB S envs env own cx U O s)(ha:U[i]?=some a)(hp:(O.hp i).items?=some vs):∃xs n,IsL s.heap a xs n/\av U s.heap vs xs.toList:=by have h1:=N.H.objs i a ha;rcases AO.IJ hp with e|e<;>(rw[e]at h1; exact h1)
inductive PN(S:au)(r:HQ)(envs:Frs)(env:Env)(own:yk yp)(cx:Cx)(U:yk yp)(O:St)(s:yy)(t:yr)(body:yk yU)(i:Nat)(a:yp)(q:Res ac)(n:Nat)(s':yy):Prop
 |mk (U':_) (O':_) (k:_) (u0:ez (λv=>M.bind (dM cx t v) λZ=>r.HK cx body) i n k O'=some q) (u1:HB S envs env own cx U' O' s') (u2:Ext own U O s U' O' s') (u3:U'[i]?=some a) (u4:eY S own U' s'.heap [s.heap.objs.size]) (u5:s'.heap.IsListIter s.heap.objs.size a k)
variable{L:Nat}
theorem Mg(I:HJ S T r d)(P:At S A envs env own cx d)(hh:A.handled=none)(t:yr)(hgo:∀{v:AV} {c:yt} {h:yC} {U:yk yp} {O O':St} {f:yu->M ac} {b:ac} {It l:yp} {k:Nat} {s:yy} {Q:yu->yy->Prop} {E:yt->yy->Prop},aq U h v c->M.bind (dM cx t v) f O=some (.ok b O')->s.heap.IsListIter It l k->Q () s->yq (yw S.prog S.w) A (letOwnedTupleGo t (.ref It) c) Q E s)(body:yk yU){q:Res ac}{E2:yt->yy->Prop}(N:HB S envs env own cx U O s)(ha:U[i]?=some a)(hl0:∃us,(O.hp i).items?=some us)
  (hr:ez (λv=>M.bind (dM cx t v) λZ=>r.HK cx body) i L 0 O=some q) :
  yq (yw S.prog S.w) A (pyIter (.ref a)) (λit s₂=>zQ (yw S.prog S.w) A (.forLoop t it body [] env) (λrr s'=>match rr with|.ok f=>HG S envs env own cx IT U O s q f s'|.error e=>E2 e s') s₂) E s:=by
 refine(let QQ:=_; let EE:=_; (?_:yq _ _ _ QQ EE _));obtain⟨us,hus⟩:=hl0;obtain⟨xs,n,hl,hv⟩:=jp N ha hus;refine C4 hl.isList ?_;let sZ9:yy:={s with heap:=s.heap.push (mz a 0)};have Q1:aF s sZ9:=.push s _ s.toks;have hnew:∀b∈[s.heap.objs.size],s.heap.get? b=none:=λb hb=>by simp at hb; subst hb; exact zm (yF _)
 refine Hu (PN S r envs env own cx U O s t body i a q)
  (λn s' hI=>d4 λK hK =>?_) L ⟨U,O,0,hr,N.quiet Q1,N.H.H2 Q1,ha,cG N rfl rfl rfl,⟨_,y6 _ rfl,rfl,rfl⟩⟩
 refine(let QQ:=_; let EE:=_; (?_:yq _ _ _ QQ EE _));obtain⟨am1,σ1,k,hr1,N1,X1,ha1,P1,I1⟩:=hI;cases n with
 |zero=>exact nn hr1
 |succ n =>
  obtain⟨_,hr2⟩:=aN hr1;have h9:=ad hr2; clear hr2; obtain⟨vs,hp,hr2⟩:=h9;clear hr1;obtain⟨ys,m,hl1,hv1⟩:=jp N1 ha1 hp;have h9:=aH hr2; clear hr2; rcases h9 with⟨v,hk,hr2⟩|⟨hk,hr2⟩
  ·obtain⟨f,σ3,hf,hr3⟩:=cE hr2;obtain⟨c,hc,hcv⟩:=hv1.get hk;refine vm P1 N1 I1 hl1.isList (by simpa using hc) λs2 hb N2 P2 I2 hk2=>hK _ _ (hgo hcv hf I2 ?_);have X2:=Ext.but N.H X1 hnew hb;refine jJ P N2 hf (hcv.mono hk2 N1.H.HD (.refl ..)) λam4 σ4 s4 N4 X4 hf4 =>?_;refine d4 λK2 hK2=>(I.HK P body).HF hf4 N4 λcf am5 s5 hR5 N5 X5 =>?_;have X6:=(X2.trans X4).trans X5;obtain⟨P5,I5⟩:=LN P2 I2 (X4.trans X5);have ha5:am5[i]?=some a:=(X4.trans X5).HU.get ha1;rcases hR5.inv with⟨rfl,rfl⟩|⟨rfl,rfl⟩|⟨rfl,rfl⟩|⟨v,w,rfl,rfl⟩
   ·exact hK2 _ _ ⟨n,yK _,am5,σ3,k+1,hr3,N5,X6,ha5,P5,I5⟩
   ·exact hK2 _ _ ⟨_,σ3,am5,(si hr3).symm,trivial,N5,X6⟩
   ·exact hK2 _ _ ⟨n,yK _,am5,σ3,k+1,hr3,N5,X6,ha5,P5,I5⟩
   ·exact hK2 _ _ ⟨_,σ3,am5,(si hr3).symm,hR5,N5,X6⟩
  ·exact LO hh P1 N1 I1 hl1.isList hv1 hk λs2 hb N2=>hK _ _ (yG ⟨_,σ1,am1,(si hr2).symm,trivial,N2,Ext.but N.H X1 hnew hb⟩)
theorem ju{m:M aw}{f:aw->M β}{q:Res β}(h:M.bind m f O=some q):(∃x O',m O=some (.err x O')/\q=.err x O')\/∃its O',m O=some (.ok its O')/\f its O'=some q:=by
 unfold M.bind at h;cases e:m O with
 |none=>rw[e]at h; exact nn h
 |some p =>
  rw[e]at h;cases p with
  |ok a O'=>exact .inr ⟨a,O',rfl,h⟩
  |err x O'=>(have h9:=si h; clear h; subst h9); exact .inl ⟨x,O',rfl,rfl⟩
theorem H3.Jx{x:AX}{e:yt}(h:H3 S envs env own cx U O s (.err x σ₁:Res β) e s'):H3 S envs env own cx U O s (.err x σ₁:Res γ) e s':=by obtain⟨x',O',U',e1,r1,r2,r3⟩:=h;cases e1;exact⟨_,_,U',rfl,r1,r2,r3⟩
theorem H3.no{v:β}{e:yt}{q:Res γ}(h:H3 S envs env own cx U O s (.ok v σ₁:Res β) e s'):H3 S envs env own cx U O s q e s':=by obtain⟨x',O',U',e1,r⟩:=h;cases e1
theorem vf(h:gK e=false)(x:yt):foldedSetIterable e env x=pure x:=by cases e<;>first|rfl|exact BD h
theorem Ext.Ox(X:Ext own U O s U' O' s'):s.heap.get? s'.heap.objs.size=none:=X.heap.live.none (zm (yF _))
theorem O2(B:Base S T)(I:HJ S T r d)(P:At S A envs env own cx d)(x:Str)(px p:Pos)(it:yr)(body:yk yU)(L:Nat)(hset:gK it=false) :
  HN S A envs env own cx IT (exec (.For (.Name x px) it body [] p) env) (Mp L r cx x it body):=by
 intro U O s q hr N;refine(let QQ:=_; let EE:=_; (?_:yq _ _ _ QQ EE _));obtain⟨HR,hr⟩:=cD hr;have hh:=P.hd HR;refine wpAny_For ?_ (vf hset);refine(let QQ:=_; let EE:=_; (?_:yq _ _ _ QQ EE _));rcases ju hr with⟨xx,σe,he,rfl⟩|⟨its,σ1,he,hr1⟩
 ·refine yO (I.its P he N) (λc s' hc =>?_) (λe s' h=>h.Jx);obtain⟨_,_,_,e1,_⟩:=hc; cases e1
 ·refine yO (I.its P he N) (λc s1 hc =>?_) (λe s' h=>h.no);obtain⟨its',O1',am1,e1,hI,N1,X1⟩:=hc;cases e1;cases hs:kJ its with
  |some p =>
   obtain⟨vs,HE⟩:=p;refine rG (.inl hh) B.Jh N1 hI hs λs2 fp Pv Wt N2 Q2 W =>?_;have hr2:bt HE (λv=>M.bind (bu cx x v) λZ=>r.HK cx body) vs σ1=some q:=by cases its<;>(first|exact nn hs|cases hs)<;>exact hr1
   exact OT I P x px body (kJ.HE hs) W N2 N (X1.trans (N1.H.H2 Q2)) X1.Ox hr2
  |none =>
   cases its with
   |HY i =>
    obtain⟨a,rfl,ha,hl⟩:=hI;refine yO (Mg (E2:=cameBackBy (yw S.prog S.w) A env (H3 S envs env own cx U O s q)) I P hh (.Name x px) (λZ Z Z h=>yG h) body N1 ha hl hr1) (λit' s2 h2=>BO h2 λrr s3 h3 =>?_) (λZ Z h=>h);rcases rr with e|f
    ·exact h3
    ·exact h3.back X1
   |Ip vs=>cases hs
   |seq vs=>cases hs
   |H7 i v vs=>cases hs
   |pairs o vs=>exact nn hr1
structure Qw(prog:By)(w:z9)(A:zX)(I:yp)(fp wr:yk yp)(n:Nat)(Pt:Nat->yM yt->Prop)(St:Nat->yC->Prop)(Mid:Nat->yp->yC->Prop):Prop where
 frame:∀i h h',St i h->(∀b∈fp,∀o,h.get? b=some o->h'.get? b=some o)->St i h'
 item:∀i (s:yy) (Q:yl yt->yy->Prop) (E:yt->yy->Prop),i<n->St i s.heap ->
  (∀T vals h' tk,Pt i vals->s.heap.objs.size<=T->h'.IsTuple T vals->Mid i T h'->(∀b o,b∉wr->s.heap.get? b=some o->h'.get? b=some o)->Q (some (.ref T)) {s with heap:=h',toks:=tk}) ->
  yq (yw prog w) A (pyNext (.ref I)) Q E s
 go:∀(elts:yk yr) (k:Nat) (pos:Pos) i T (s:yy) (Q:yu->yy->Prop) (E:yt->yy->Prop),Mid i T s.heap ->
  (∀h',St (i+1) h'->(∀b o,b∉wr->s.heap.get? b=some o->h'.get? b=some o)->Q () {s with heap:=h'}) ->
  yq (yw prog w) A (letOwnedTupleGo (.Tuple elts k pos) (.ref I) (.ref T)) Q E s
 apart:∀i T h,Mid i T h->T∉wr
 done:∀(s:yy) (Q:yl yt->yy->Prop) (E:yt->yy->Prop),St n s.heap ->
  (∀h' tk,(∀b o,b∉wr->s.heap.get? b=some o->h'.get? b=some o)->Q none {s with heap:=h',toks:=tk})->yq (yw prog w) A (pyNext (.ref I)) Q E s
theorem te(hh:A.handled=none)(it a:yp)(hne:a≠it)(kvs:yk (Int×yt))(ep:Nat) :
  Qw prog w A it [it,a] [it] kvs.length (λi vals=>∃k x key,kvs[i]?=some (k,x)/\(y1 prog w).is k key=true/\vals = #[key,x])
   (λi h=>(∃ok ov,IsItemIter h it a i kvs.length ep ok ov)/\h.DictAt (y1 prog w) a kvs ep)
   (λi T h=>(∃ok ov,IsItemIterOut h it a (i+1) kvs.length ep ok ov T)/\h.DictAt (y1 prog w) a kvs ep/\T≠it) where
 frame:=λi h h' hst hk=>by obtain⟨⟨ok,ov,he⟩,hd⟩:=hst;exact⟨⟨ok,ov,hk it (by simp) _ he⟩,hd.at' λo e=>hk a (by simp) o e⟩
 item:=λi s Q E hi hst hQ=>by obtain⟨⟨ok,ov,he⟩,hd⟩:=hst;have hx:kvs[i]?=some ((kvs[i]).1,(kvs[i]).2):=zN hi;refine wpAny_pyNext_items_item (knd:=y1 prog w) he hd hx λkey h' hk ho hT hsz hkp =>?_;have hlt:it<s.heap.objs.size:=Ab he;exact hQ s.heap.objs.size _ h' s.toks ⟨_,_,key,hx,hk,rfl⟩ (yF _) ⟨_,hT,rfl,_,rfl⟩ ⟨⟨_,_,ho⟩,hd.at' λo e=>hkp a o hne e,zk hlt⟩ λb o hb e=>hkp b o (by simpa using hb) e
 go:=λelts k pos i T s Q E hm hQ=>by obtain⟨⟨ok,ov,ho⟩,hd,hT⟩:=hm;exact wpAny_letOwnedTupleGo_items ho λh' he' hs'=>hQ h' ⟨⟨ok,ov,he'⟩,hd.at' λo e=>(hs'.2 a hne).trans e⟩ λb o hb e=>(hs'.2 b (by simpa using hb)).trans e
 apart:=λi T h hm hT=>by obtain⟨_,_,hT'⟩:=hm;simp at hT; exact hT' hT
 done:=λs Q E hst hQ=>by obtain⟨⟨ok,ov,he⟩,hd⟩:=hst;exact wpAny_pyNext_items_end (knd:=y1 prog w) hh he hd (Br (yF _)) λh' hx=>hQ h' s.toks λb o hb e=>hx b o (by simpa using hb) e
variable{Pt:Nat->yM yt->Prop}{Mid:Nat->yp->yC->Prop}
variable{kk:Nat}
section
structure TW(S:au)(A:zX)(own U:yk yp)(O:St)(h:yC)(vs:yk (AV×AV))(HE:M yu)(I:yp)(fp wr:yk yp)(Pt:Nat->yM yt->Prop)(St:Nat->yC->Prop)(Mid:Nat->yp->yC->Prop)(i:Nat):Prop where
 walk:Qw S.prog S.w A I fp wr vs.length Pt St Mid
 st:St i h
 Ic:eY S own U h wr
 shape:∀j g,St j g->∀a∈wr,∃o fs n,g.get? a=some o/\o.cls=.type n/\o.data=.fields fs
 fix:∀b∈fp,b∈wr\/(b∉wr/\dP own U O h HE b)
 vals:∀j xs u,Pt j xs->vs[j]?=some u->av U h [u.1,u.2] xs.toList
variable{vs:yk (AV×AV)}{HE:M yu}{wr:yk yp}
theorem TW.item{u:AV×AV}{Q0:yl yt->yy->Prop}(W:TW S A own U O s.heap vs HE It fp wr Pt Wt Mid i)(N:HB S envs env own cx U O s)(hu:vs[i]?=some u)
  (hQ0:∀v s₁,(∀(Qr:yu->yy->Prop) (E:yt->yy->Prop),(∀s',aq U s'.heap (.tup [u.1,u.2]) v->HB S envs env own cx U O s'->IP wr s s'->TW S A own U O s'.heap vs HE It fp wr Pt Wt Mid (i+1)->Qr () s') ->
   yq (yw S.prog S.w) A (letOwnedTupleGo (.Tuple ts kk pos) (.ref It) v) Qr E s₁)->Q0 (some v) s₁):yq (yw S.prog S.w) A (pyNext (.ref It)) Q0 E s:=by
 refine W.walk.item i s _ _ (y2.mp hu).1 W.st λT xs h' tk hP hT hTup hM hkp=>hQ0 _ _ λQr E h =>?_;refine W.walk.go ts kk pos i T _ _ _ hM λh'' st hk2 =>?_;have hb:IP wr s {s with heap:=h'',toks:=tk}:=⟨λb o hb e=>hk2 b o hb (hkp b o hb e),rfl,rfl⟩;have hk:=hb.keeps W.Ic;have N':=N.but W.Ic hb;have hTam:T∉U:=λhm=>yD (N.H.lt hm) (Cg.mpr hT);have hTup':h''.IsTuple T xs:=by obtain⟨o,e,rr⟩:=hTup;exact⟨o,hk2 T o (W.walk.apart i T h' hM) e,rr⟩
 refine h _ ⟨T,_,rfl,hTup',hTam,(W.vals i xs u hP hu).mono hk N.H.HD (.refl ..)⟩ N' hb ⟨W.walk,st,λa ha =>?_,W.shape,λb hb' =>?_,λj xs' u' hP' hu'=>(W.vals j xs' u' hP' hu').mono hk N.H.HD (.refl ..)⟩
 ·have h8:=W.Ic a ha;exact⟨h8.1,h8.2.1,h8.2.2.1,W.shape _ _ st a ha⟩
 ·exact(W.fix b hb').imp id λq=>⟨q.1,q.2.but q.1 hb⟩
theorem TW.done{Q:yl yt->yy->Prop}(W:TW S A own U O s.heap vs HE It fp wr Pt Wt Mid vs.length)(N:HB S envs env own cx U O s)
  (h:∀s',HB S envs env own cx U O s'->IP wr s s'->Q none s'):yq (yw S.prog S.w) A (pyNext (.ref It)) Q E s:=by
 refine W.walk.done s Q E W.st λh' tk hk =>?_;have hb:IP wr s {s with heap:=h',toks:=tk}:=⟨hk,rfl,rfl⟩;exact h _ (N.but W.Ic hb) hb
theorem TW.run(W:TW S A own U O s.heap vs HE It fp wr Pt Wt Mid i)(N:HB S envs env own cx U O s)(X:Ext own U O s U' O' s')(hc:∃p,HE O'=some p):TW S A own U' O' s'.heap vs HE It fp wr Pt Wt Mid i:=by
 obtain⟨p',e'⟩:=W.Ic.run X;refine⟨W.walk,W.walk.frame i _ _ W.st λb hb o e =>?_,p',W.shape,λb hb =>?_,λj v u hP hu=>(W.vals j v u hP hu).ext N X⟩
 ·rcases W.fix b hb with q|⟨_,hf⟩
  ·rw[e' b q]; exact e
  ·rw[(hf.run X hc).2]; exact e
 ·exact(W.fix b hb).imp id λq=>⟨q.1,(q.2.run X hc).1⟩
inductive TZ(S:au)(r:HQ)(envs:Frs)(env:Env)(own:yk yp)(cx:Cx)(A:zX)(t:yr)(body:yk yU)(vs:yk (AV×AV))(HE:M yu)(It:yp)(fp wr:yk yp)(Pt:Nat->yM yt->Prop)(Wt:Nat->yC->Prop)(Mid:Nat->yp->yC->Prop)(q:Res ac)(am₀:yk yp)(σ₀:St)(s₀:yy)(n:Nat)(s':yy):Prop
 |mk (U':yk yp) (O':St) (u0:n<=vs.length) (u1:bt HE (λv=>M.bind (dM cx t (.tup [v.1,v.2])) λZ=>r.HK cx body) (vs.drop (vs.length-n)) O'=some q) (u2:HB S envs env own cx U' O' s') (u3:Ext own am₀ σ₀ s₀ U' O' s') (u4:TW S A own U' O' s'.heap vs HE It fp wr Pt Wt Mid (vs.length-n))
theorem OU(I:HJ S T r d)(P:At S A envs env own cx d)(ts:yk yr)(kk:Nat)(px:Pos)(body:yk yU){q:Res ac}
  (hchk:∀O p,HE O=some p->p=.ok () O) (W:TW S A own U O s.heap vs HE It fp wr Pt Wt Mid 0) (N:HB S envs env own cx U O s) (N₀:HB S envs env own cx am₀ σ₀ s₀) (X:Ext own am₀ σ₀ s₀ U O s) (hnew:∀a∈wr,s₀.heap.get? a=none)
  (hr:bt HE (λv=>M.bind (dM cx (.Tuple ts kk px) (.tup [v.1,v.2])) λZ=>r.HK cx body) vs O=some q) :
  zQ (yw S.prog S.w) A (.forLoop (.Tuple ts kk px) (.ref It) body [] env) (λrr s'=>match rr with|.ok f=>HG S envs env own cx IT am₀ σ₀ s₀ q f s'|.error e=>E e s') s:=by
 refine Hu (TZ S r envs env own cx A (.Tuple ts kk px) body vs HE It fp wr Pt Wt Mid q am₀ σ₀ s₀)
  (λn s' hI=>d4 λK hK =>?_) vs.length ⟨U,O,yF _,by rw[AQ]; exact hr,N,X,by rw[AQ]; exact W⟩
 obtain⟨am1,σ1,hn,hr1,N1,X1,W1⟩:=hI;cases n with
 |zero =>
  rw[Bx,EF]at hr1
  (have h9:=si hr1; clear hr1; subst h9)
  rw[Bx]at W1;refine W1.done N1 λs2 N2 hb=>hK _ _ ?_;exact yG ⟨_,σ1,am1,rfl,trivial,N2,Ext.but N₀.H X1 hnew hb⟩
 |succ n =>
  obtain⟨u,hu,hdrop,e9⟩:=j2 hn;rw[hdrop]at hr1;obtain⟨f,σ3,hf,hr3⟩:=cE hr1;refine W1.item (ts:=ts) (kk:=kk) (pos:=px) N1 hu λv s1 hgo=>hK _ _ (hgo _ _ λs2 hv N2 hb W2 =>?_);have X2:=Ext.but N₀.H X1 hnew hb;rw[e9]at W2;refine jJ P N2 hf hv λam4 σ4 s4 N4 X4 hf4 =>?_;refine d4 λK2 hK2=>(I.HK P body).HF hf4 N4 λcf am5 s5 hR5 N5 X5 =>?_;have X6:=(X2.trans X4).trans X5;rcases hR5.inv with⟨rfl,rfl⟩|⟨rfl,rfl⟩|⟨rfl,rfl⟩|⟨v,w,rfl,rfl⟩
  ·have h8:=gQ hchk hr3;have hc:=h8.1;have hr4:=h8.2;exact hK2 _ _ ⟨n,yK _,am5,σ3,zC hn,hr4,N5,X6,(W2.run N2 (X4.trans X5) hc)⟩
  ·exact hK2 _ _ ⟨_,σ3,am5,(si hr3).symm,trivial,N5,X6⟩
  ·obtain⟨hc,hr4⟩:=gQ hchk hr3;exact hK2 _ _ ⟨n,yK _,am5,σ3,zC hn,hr4,N5,X6,(W2.run N2 (X4.trans X5) hc)⟩
  ·exact hK2 _ _ ⟨_,σ3,am5,(si hr3).symm,hR5,N5,X6⟩
theorem oN:∀(us:yk AV) (k:Nat),(im k us).length=us.length
 |[]=>λZ=>rfl
 |_::r=>λk=>yI (· + 1) (oN r (k+1))
theorem oO:∀(us:yk AV) (k j:Nat),(im k us)[j]?=us[j]?.map λv=>(AV.int ((k+j:Nat):Int),v)
 |[],_,_=>rfl
 |v::r,k,0=>rfl
 |v::r,k,j+1=>by show(im (k+1) r)[j]?=r[j]?.map _;rw[oO r (k+1) j,Nat.succ_add_eq_add_succ]
theorem LZ(hh:A.handled=none){o:yl (Nat×Nat)}{x:yt}(N:HB S envs env own cx U O s)(hlive:ib hb s.heap)(hx:qG S own hb O U s.heap o vs x)
  (h:∀s' I fp wr Pt Wt Mid,HB S envs env own cx U O s'->aF s s'->(∀a∈wr,hb.get? a=none)->TW S A own U O s'.heap vs (MQ o) I fp wr Pt Wt Mid 0->Q (.ref I) s'):yq (yw S.prog S.w) A (pyIter x) Q E s:=by
 rcases hx with⟨e,it,l,xs,us,rfl,rfl,⟨a1,a2,a3⟩,⟨h1,h2,h3⟩,hp,hf,hx,rfl⟩|⟨i,ver,a,v,kvs,rfl,ha,hd,rfl,hw,rfl⟩
 ·refine wpAny_pyIter_enum h1 ?_;have W:=WalksT.enumerate (prog:=S.prog) (w:=S.w) hh e it l a1 a2 a3 xs;have hlen:(im 0 us).length=xs.size:=(oN us 0).trans (by simpa using hx.length);have shape:∀(j:Nat) g,((∃old,IsEnum g e it (j:Int) old)/\g.IsListIter it l j/\g.IsList l xs)->∀a∈[e,it],∃o fs n,g.get? a=some o/\o.cls=.type n/\o.data=.fields fs:=by
   rintro j g ⟨⟨old,g1⟩,⟨o2,g2,g3,g4⟩,_⟩ a ha;simp at ha;rcases ha with rfl|rfl
   ·exact⟨_,_,_,g1,rfl,rfl⟩
   ·exact⟨o2,_,_,g2,g3,g4⟩
  have st:(∃old,IsEnum s.heap e it ((0:Nat):Int) old)/\s.heap.IsListIter it l 0/\s.heap.IsList l xs:=⟨⟨_,h1⟩,h2,h3⟩;refine h s e [e,it,l] [e,it] _ _ _ N (.refl s) (λa ha=>(hp a ha).2.1) ⟨by rw[hlen]; exact⟨W.frame,W.item,W.go,W.apart,W.done⟩,st,λa ha =>?_,shape,λb hb' =>?_,λj ys u hP hu =>?_⟩
  ·have h8:=hp a ha;exact⟨h8.1,h8.2.2.1,h8.2.2.2,shape 0 _ st a ha⟩
  ·by_cases q:b∈[e,it]
   ·exact .inl q
   ·simp at hb' q;obtain rfl:b=l:=by rcases hb' with q1|q1|q1; exact yD q1 q.1; exact yD q1 q.2; exact q1
    exact .inr ⟨by simpa using q,hf⟩
  ·obtain⟨t,c,hc,rfl⟩:=hP;rw[oO]at hu;obtain⟨v,hv,rfl⟩:=y4.mp hu;obtain⟨c',hc',hcv⟩:=hx.get hv;have:c'=c:=by
    have h1:xs.toList[j]?=some c:=by simpa using hc
    rw[hc']at h1; exact Ag h1
   subst this;exact⟨_,_,rfl,⟨t,by rw[zM]⟩,.one hcv⟩
 ·have h1:=N.H.objs i a ha;rw[hd]at h1;obtain⟨cs,hD,hpr⟩:=h1;obtain⟨ep,hat⟩:=hD.dictAt;have hne:a≠s.heap.objs.size:=yA hat.lt_size;refine wpAny_pyIter_items (knd:=y1 S.prog S.w) hw hat ?_;let sZ:yy:={s with heap:=s.heap.push {cls:=.type "dict_itemiterator",data:=.fields #[.none,.bool false,.ref a,.int 0 0,.int cs.length 0,.int ep 0,.none,.none]}};have q:aF s sZ:=.push s _ s.toks;have hl:(kvs.map λp=>((AV.int p.1,p.2):AV×AV)).length=cs.length:=by simp[hpr.length]
  refine h sZ s.heap.objs.size [s.heap.objs.size,a] [s.heap.objs.size] _ _ _ (N.quiet q) q (λb hb'=>by simp at hb'; subst hb'; exact hlive.none (zm (yF _)))
   ⟨hl▸te hh s.heap.objs.size a hne cs ep,⟨⟨.none,.none,by rw[hl]; exact y6 _ rfl⟩,by exact hat.push _⟩,cG N rfl rfl rfl,?_,?_,?_⟩
  ·rintro j g ⟨⟨ok,ov,g1⟩,_⟩ b hb';simp at hb'; subst hb';exact⟨_,_,_,g1,rfl,rfl⟩
  ·intro b hb';simp at hb';rcases hb' with e|e
   ·exact .inl (by simp[e])
   ·subst e; exact .inr ⟨by simpa using hne,.inr (.inl ⟨i,ver,kvs,ha,hd,rfl⟩)⟩
  ·rintro j ys u ⟨k,c,key,hk,hkey,rfl⟩ hu;rw[zB]at hu;obtain⟨p,hp,rfl⟩:=y4.mp hu;have e1:p.1=k:=by
    have h2:(kvs.map (·.1))[j]?=some k:=by rw[hpr.1,zB,hk]; rfl
    rw[zB,hp]at h2;exact Ag h2
   obtain⟨c',hc',hcv⟩:=hpr.2.get (show(kvs.map (·.2))[j]?=some p.2 by rw[zB,hp]; rfl);rw[zB,hk]at hc'
   (have h9:=si hc'; clear hc'; subst h9)
   obtain⟨t,rfl⟩:=Ht hkey;exact⟨_,_,rfl,⟨t,by rw[e1]⟩,.one (hcv.mono (q.keeps U) N.H.HD (.refl ..))⟩
theorem O1(B:Base S T)(I:HJ S T r d)(P:At S A envs env own cx d)(ts:yk yr)(kk:Nat)(px p:Pos)(it:yr)(body:yk yU)(L:Nat)(hset:gK it=false) :
  HN S A envs env own cx IT (exec (.For (.Tuple ts kk px) it body [] p) env) (Mo L r cx (.Tuple ts kk px) it body):=by
 intro U O s q hr N;refine(let QQ:=_; let EE:=_; (?_:yq _ _ _ QQ EE _));obtain⟨HR,hr⟩:=cD hr;have hh:=P.hd HR;refine wpAny_For ?_ (vf hset);refine(let QQ:=_; let EE:=_; (?_:yq _ _ _ QQ EE _));rcases ju hr with⟨xx,σe,he,rfl⟩|⟨its,σ1,he,hr1⟩
 ·refine yO (I.its P he N) (λc s' hc =>?_) (λe s' h=>h.Jx);obtain⟨_,_,_,e1,_⟩:=hc; cases e1
 ·refine yO (I.its P he N) (λc s1 hc =>?_) (λe s' h=>h.no);obtain⟨its',O1',am1,e1,hI,N1,X1⟩:=hc;cases e1;cases its with
  |HY i =>
   obtain⟨a,rfl,ha,hl⟩:=hI;refine yO (Mg (E2:=cameBackBy (yw S.prog S.w) A env (H3 S envs env own cx U O s q)) I P hh (.Tuple ts kk px) (λ{v c h U O O' f b It l k s Q E} hv hf hi hQ =>?_) body N1 ha hl hr1) (λit' s2 h2=>BO h2 λrr s3 h3 =>?_) (λZ Z h=>h)
   ·unfold M.bind at hf;cases e:dM cx (.Tuple ts kk px) v O with
    |none=>rw[e]at hf; exact nn hf
    |some p =>obtain⟨T,rfl⟩:=uv e hv;exact wpAny_letOwnedTupleGo_listiter hi hQ
   ·rcases rr with e|f
    ·exact h3
    ·exact h3.back X1
  |pairs o vs =>
   refine LZ hh N1 X1.heap.live hI λs2 I2 fp wr Pt Wt Mid N2 Q2 hw W =>?_;have hchk:∀O p,MQ o O=some p->p=.ok () O:=by
    cases o with
    |none=>exact iN
    |some p=>exact oY _ _
   exact OU I P ts kk px body hchk W N2 N (X1.trans (N1.H.H2 Q2)) hw hr1
  |Ip vs=>exact nn hr1
  |seq vs=>exact nn hr1
  |H7 i v vs=>exact nn hr1
theorem RI(B:Base S T)(I:HJ S T r d)(P:At S A envs env own cx d)(t i:yr)(a b:yk yU)(p:Pos)(L:Nat):HN S A envs env own cx IT (exec (.For t i a b p) env) (Qj L r cx t i a b):=by
 intro U O s q hr N;refine(let QQ:=_; let EE:=_; (?_:yq _ _ _ QQ EE _));obtain⟨hc,hr1⟩:=az hr;obtain⟨hb,hs⟩:=yS.mp hc;refine wq (by rw[zv.mp hb]) ?_;cases t with
 |Name x px=>exact O2 B I P x px p i a L (by simpa using hs) U O s q hr1 N
 |Tuple ts k px=>exact O1 B I P ts k px p i a L (by simpa using hs) U O s q hr1 N
 |_=>exact nn hr1
end
theorem jE{o:AV}{d:yk (Int×AV)×Nat}(N:HB S envs env own cx U O s)(ho:aq U s.heap o co)(e:o.HO=some j)(hv:(O.hp j).HM=some d) :
  ∃x cs,co=.ref x/\U[j]?=some x/\O.hp j=.dict d.1 d.2/\s.heap.DictOf (y1 S.prog S.w) x cs/\aC U s.heap d.1 cs:=by
 refine hdZ λGG hGG =>?_;obtain⟨x,rfl,hx⟩:=ho.H4 e;have h1:=N.H.objs j x hx;have hp:=AO.HV hv;rw[hp]at h1;obtain⟨cs,hd,hpr⟩:=h1;refine hGG ?_;exact⟨x,cs,rfl,hx,hp,hd,hpr⟩
theorem HB.Ju{x:yp}{t v:Nat}{cs:yk (Int×yt)}(N:HB S envs env own cx U O s)(hx:U[j]?=some x)(hp:O.hp j=.dict kvs v)(hs:zY x s.heap h')(hd:h'.DictOf (y1 S.prog S.w) x cs)(hpr:aC U s.heap kvs' cs) :
  HG S envs env own cx RU U O s (.ok () {O with hp:=upd O.hp j (.dict kvs' (v+1))}) () {s with heap:=h',toks:=t}:=by
 have hk:bq U s.heap h':=λb ob eb hnb Z=>(hs.2 b (λq=>hnb (q▸zy hx))).trans eb;obtain⟨N',X'⟩:=N.write (t:=t) hx hs (o:=.dict kvs' (v+1)) ⟨_,hd,hpr.mono hk N.H.HD (.refl ..)⟩ (λkvs' v' e=>by rw[hp]at e; cases e; exact⟨_,rfl⟩) (λvs e=>by rw[hp]at e; obtain⟨rfl,e⟩:=e; exact e);exact .unit rfl N' X'
theorem iG(k:Int)(t:Tok):(y1 S.prog S.w).is k (.int k t)=true:=by show Ay k (.int k t)=true; simp[Ay]
theorem set_list{k:Int}{t:Tok}{v:yt}{Q:yu->yy->Prop}(hl:IsL s.heap l items n)(h0:0<=k)(hj:k.toNat<items.size)(hfit:k<2 ^ 63)
  (hQ:∀h' n',IsL h' l (items.setIfInBounds k.toNat v) n'->zY l s.heap h'->Q () {s with heap:=h'}):yq (yw S.prog S.w) A (setItem (.ref l) (.int k t) v) Q E s:=by
 have hL:=hl.isList;obtain⟨o',h1⟩:∃n',Obj.mapSeq (·.setIfInBounds k.toNat v) {cls:=.type "list",dict:=none,data:=.seq items n,slots := #[]}={cls:=.type "list",dict:=none,data:=.seq (items.setIfInBounds k.toNat v) n',slots := #[]}:=⟨_,rfl⟩;unfold setItem;refine zw ?_;refine yz (wpAny_sequenceKey hL.typeIs (by decide) ?_);refine yz (Fp (name:=Str.ofString "__setitem__") hL.typeIs FO (Fq FO hL.typeIs F.entry_list_setitem ?_ (F.args_list_setitem_3 _ _ _)));show yq _ _ (Builtin.List.listSubscript? (.int k t) >>=_) _ _ s;refine yz (wpAny_listSubscript_int (fitsIndex_of h0 hfit) ?_);clear hfit;refine(let QQ:=_; let EE:=_; (?_:yq _ _ _ QQ EE _));obtain⟨j,rfl⟩:=Cw h0;have hx':items[j]?=some items[j]:=D8 hj;show yq _ _ ((seqItemAt l j >>=λr=>pure (r.map (j,·))) >>=_) _ _ s;refine yz (yz (wpAny_seqItemAt hl rfl (yG ?_)));rw[hx'];show yq _ _ (setSeqItemAt l j v >>=_) _ _ s;refine yz (wpAny_setSeqItemAt hl rfl ?_);exact yG ⟨.none,rfl,yG (hQ _ _ ((A7 _ hl rfl).trans (yI some h1)) (Bo ..))⟩
theorem wc{o i:AV}(N:HB S envs env own cx U O s)(hr:jP o i v O=some q)(ho:aq U s.heap o co)(hi:aq U s.heap i ci)(hv:aq U s.heap v c) :
  yq (yw S.prog S.w) A (setItem co ci c) (HG S envs env own cx RU U O s q) E s:=by
 have h9:=ad hr; clear hr; obtain⟨j,hj,hr⟩:=h9;have h9:=ad hr; clear hr; obtain⟨k,hk,hr⟩:=h9;have h9:=aN hr; clear hr; obtain⟨hjn,hr⟩:=h9;have h9:=aH hr; clear hr; rcases h9 with⟨vs,hvs,hr⟩|⟨-,hr⟩
 ·refine(let QQ:=_; let EE:=_; (?_:yq _ _ _ QQ EE _));have h9:=az hr; clear hr; obtain⟨⟨h0,hz,hzb⟩,hr⟩:=h9;refine hdZ λGG hGG =>?_;obtain⟨_,rfl⟩:=dQ hr;obtain⟨t,rfl⟩:=hi.ofInt hk;obtain⟨x,xs,n,rfl,hx,hp,hL,hvx,_⟩:=lj N ho hj hjn hvs;obtain⟨m,rfl⟩:=Cw h0;refine hGG ?_;have hz:m<vs.length:=hz;have hlen:vs.length=xs.size:=by simpa using hvx.length
  refine set_list hL (zo m) (hlen▸hz) (BV (Av.mpr (yv hz hzb)) (by decide)) λh' n' hL' hs =>?_;have hk':bq U s.heap h':=λb ob eb hnb Z=>(hs.2 b (λq=>hnb (q▸zy hx))).trans eb;have hvx':av U h' (vs.set m v) (xs.setIfInBounds m c).toList:=by
   rw[Array.toList_setIfInBounds];refine av.of_get (by simp[hvx.length]) λi u w h1 h2 =>?_;rw[Gy]at h1 h2;by_cases e:m=i
   ·rw[yo e]at h1 h2;subst e;rw[yo hz]at h1;rw[yo (by simpa using hlen▸hz)]at h2
    (have h9:=si h1; clear h1; subst h9); (have h9:=si h2; clear h2; subst h9)
    exact hv.mono hk' N.H.HD (.refl ..)
   ·rw[ym e]at h1 h2;obtain⟨c',h3,h4⟩:=hvx.get h1;rw[h2]at h3; (have h9:=si h3; clear h3; subst h9);exact h4.mono hk' N.H.HD (.refl ..)
  obtain⟨N',X'⟩:=N.write (t:=s.toks) hx hs (o:=.list (vs.set m v)) ⟨_,_,hL',hvx'⟩ (λkvs' v' e=>by rw[hp]at e; cases e) (λvs e=>by rw[hp]at e; obtain⟨rfl,e⟩:=e; exact e);exact .unit rfl N' X'
 have h9:=ad hr; clear hr; obtain⟨d,hd,hr⟩:=h9;have h9:=az hr; clear hr; obtain⟨hz,hr⟩:=h9;refine hdZ λGG hGG =>?_;obtain⟨_,rfl⟩:=dQ hr;obtain⟨t,rfl⟩:=hi.ofInt hk;obtain⟨x,cs,rfl,hx,hp,hD,hpr⟩:=jE N ho hj hd;refine hGG ?_;exact wpAny_setItem_pairs (knd:=y1 S.prog S.w) (iG k t) hD (λh' hd' hs=>N.Ju hx hp hs hd' (aC.stored hpr hv)) (by rw[<-hpr.length]; exact yn hz bK)
theorem xP{o i:AV}(N:HB S envs env own cx U O s)(hr:qw o i O=some q)(ho:aq U s.heap o co)(hi:aq U s.heap i ci) :
  yq (yw S.prog S.w) A (delItem co ci) (HG S envs env own cx RU U O s q) E s:=by
 have h9:=ad hr; clear hr; obtain⟨j,hj,hr⟩:=h9;have h9:=ad hr; clear hr; obtain⟨k,hk,hr⟩:=h9;have h9:=aN hr; clear hr; obtain⟨_,hr⟩:=h9;have h9:=ad hr; clear hr; obtain⟨d,hd,hr⟩:=h9;have h9:=az hr; clear hr; obtain⟨hz,hr⟩:=h9;refine hdZ λGG hGG =>?_;obtain⟨hz1,hz⟩:=yS.mp hz;obtain⟨_,rfl⟩:=dQ hr;obtain⟨t,rfl⟩:=hi.ofInt hk;obtain⟨x,cs,rfl,hx,hp,hD,hpr⟩:=jE N ho hj hd;refine hGG ?_;unfold delItem;refine zw ?_;refine yz (wpAny_sequenceKey hD.typeIs (by decide) ?_);refine yz (Fp (name:=Str.ofString "__delitem__") hD.typeIs PySem.F.slot_dict_delitem
  (DX PySem.F.slot_dict_delitem hD.typeIs PySem.F.entry_dict_delitem (PySem.F.args_dict_delitem_2 _ _) (meets_dict_delitem_pairs (y1 S.prog S.w) x (iG k t)) ⟨cs,hD,(by rw[<-hpr.length]; exact yn (BP hz) bK),?_,λh' hd' hs=>yG (N.Ju hx hp hs hd' (aC.filter hpr))⟩))
 have e:=cN hpr k;cases h6:valueAt cs k with
 |some c=>rfl
 |none=>obtain⟨v,hv⟩:=CX.mp hz1; rw[hv,h6]at e; exact e.elim
theorem ph{R:VR α β}{t:Sem α}{m:M β}{f:β->M γ}{q:Res γ}{Q:α->yy->Prop}(hr:M.bind m f O=some q)(h:∀p,m O=some p->yq (yw S.prog S.w) A t (HG S envs env own cx R U O s p) (H3 S envs env own cx U O s p) s)
  (hQ:∀v c am1 σ1 s1,R am1 s1.heap v c->HB S envs env own cx am1 σ1 s1->Ext own U O s am1 σ1 s1->f v σ1=some q->Q c s1):yq (yw S.prog S.w) A t Q (H3 S envs env own cx U O s q) s:=by
 unfold M.bind at hr;cases em:m O with
 |none=>rw[em]at hr; exact nn hr
 |some p =>
  rw[em]at hr;refine yO (h p em) (λc s' h =>?_) (λe' s' h =>?_)
  ·obtain⟨v,O',U',rfl,hR,N',X'⟩:=h;exact hQ v c U' O' s' hR N' X' hr
  ·obtain⟨x,O',U',rfl,hx,N',X'⟩:=h
   (have h9:=si hr; clear hr; subst h9)
   exact⟨x,O',U',rfl,hx,N',X'⟩
theorem sM{o i:yr}(hr:uA r cx o i v O=some q):M.bind (r.ev cx o) (λov=>M.bind (r.ev cx i) λiv=>jP ov iv v) O=some q:=by cases i<;>first|exact hr|exact nn hr
theorem kQ(ts:yk yr)(h:aR t=false):(Ap (t::ts) env).map (·.2)=assign t env::(Ap ts env).map (·.2):=by cases t<;>first|rfl|exact BD h
theorem uz(I:HJ S T r d)(P:At S A envs env own cx d){o i:yr}{p:Pos}(hr:uA r cx o i v O=some q)(N:HB S envs env own cx U O s)(hv:aq U s.heap v c) :
  yq (yw S.prog S.w) A (assign (.Subscript o i p) env c) (HG S envs env own cx RU U O s q) (H3 S envs env own cx U O s q) s:=by
 have hr':=sM hr;clear hr;refine(let QQ:=_; let EE:=_; (?_:yq _ _ _ QQ EE _));rw[arm_assign_Subscript];refine yz (zw ((I.ev P o).seq hr' N (λx co am1 σ1 s1 v1 N1 X1 hr1 =>?_) (λZ Z h=>h)));refine yz (zw ((I.ev P i).seq hr1 N1 (λy ci am2 σ2 s2 v2 N2 X2 hr2 =>?_) (λZ Z h=>h.back X1)));refine yz (A6 (yz (zw ?_)));exact yO (wc N2 hr2 (v1.ext N1 X2) v2 ((hv.ext N X1).ext N1 X2)) (λZ Z h=>wpAny_release (h.back (X1.trans X2))) (λZ Z h=>h)
theorem Py(B:bP S T)(I:HJ S T r d)(P:At S A envs env own cx d)(hr:vS r cx t v O=some q)(N:HB S envs env own cx U O s)(hv:aq U s.heap v c) :
  yq (yw S.prog S.w) A (assign t env c) (HG S envs env own cx RU U O s q) (H3 S envs env own cx U O s q) s:=by
 refine(let QQ:=_; let EE:=_; (?_:yq _ _ _ QQ EE _));cases t with
 |Attribute o a p =>rw[arm_assign_Attribute];refine yz (zw ((I.ev P o).seq hr N (λx co am1 σ1 s1 v1 N1 X1 hr1 =>?_) (λZ Z h=>h)));refine yz (A6 (yz (zw ?_)));exact gw B N1 hr1 v1 (hv.ext N X1) λs' O' e N' X'=>wpAny_release ((HG.unit e N' X').back X1)
 |Subscript o i p=>exact uz I P hr N hv
 |_=>exact na P N hr hv
theorem nz(I:HJ S T r d)(P:At S A envs env own cx d):∀{ts:yk yr} {v:AV} {c:yt} {U:yk yp} {O:St} {s:yy} {q:Res yu},ts.any aR=false->j8 r cx ts v O=some q->HB S envs env own cx U O s->aq U s.heap v c ->
  yq (yw S.prog S.w) A (assignAll c ((Ap ts env).map (·.2))) (HG S envs env own cx RU U O s q) (H3 S envs env own cx U O s q) s
 |[],v,c,U,O,s,q=>λZ hr N hv=>by
  (have h9:=si hr; clear hr; subst h9)
  exact yG (.unit rfl N (.refl ..))
 |t::ts,v,c,U,O,s,q=>λhst hr N hv=>by
  rw[B0,Ed]at hst;have e:=kQ (env:=env) ts hst.1;rw[e];change M.bind (r.asg cx t v) (λZ=>j8 r cx ts v) O=some q at hr;have one:∀{Q:yu->yy->Prop},(∀U' O' s',HB S envs env own cx U' O' s'->Ext own U O s U' O' s'->j8 r cx ts v O'=some q->Q () s')->yq (yw S.prog S.w) A (assign t env c) Q (H3 S envs env own cx U O s q) s:=λhQ =>
   ph hr (λp e=>I.asg P e N hv) λZ Z U' O' s' Z N' X' hr'=>hQ U' O' s' N' X' hr'
  cases hts:(Ap ts env).map (·.2)with
  |nil =>
   refine one λU' O' s' N' X' hr' =>?_;have:ts=[]:=by
    cases ts with
    |nil=>rfl
    |cons t' ts'=>have:=yI List.length hts; simp[cX]at this
   subst this
   (have h9:=si hr'; clear hr'; subst h9)
   exact⟨(),O',U',rfl,trivial,N',X'⟩
  |cons f fs =>show yq _ _ (do holding [c] (assign t env c); assignAll c (f::fs)) _ _ _;refine yz (zw (one λU' O' s' N' X' hr' =>?_));rw[<-hts];exact yO (nz I P hst.2 hr' N' (hv.ext N X')) (λZ Z h=>h.back X') (λZ Z h=>h.back X')
inductive BI{α β:Type}(m:M α)(f:α->M β)(O:St)(q:Res β):Prop
 |ok (a:α) (O':St) (h:m O=some (.ok a O')) (hr:f a O'=some q)
 |err (x:AX) (O':St) (h:m O=some (.err x O')) (e:q=.err x O')
theorem ft{m:M α}{f:α->M β}{q:Res β}(h:M.bind m f O=some q):BI m f O q:=by
 unfold M.bind at h;cases e:m O with
 |none=>rw[e]at h; exact nn h
 |some p =>
  rw[e]at h;cases p with
  |ok a O'=>exact .ok a O' e h
  |err x O'=>(have h9:=si h; clear h; subst h9); exact .err x O' e rfl
theorem mX(h:tj cx [t]=true):(∃x p,t=.Name x p/\kindOf cx x=some .cell)\/(∃o i p,t=.Subscript o i p)\/∃o i p,t=.Attribute o i p:=by
 cases t with
 |Name x p=>exact .inl ⟨x,p,rfl,eq_of_beq h⟩
 |Subscript o i p=>exact .inr (.inl ⟨o,i,p,rfl⟩)
 |Attribute o i p=>exact .inr (.inr ⟨o,i,p,rfl⟩)
 |_=>exact BD h
variable{line:Nat}
theorem vY(P:At S A envs env own cx d)(h:qD cx ts e=true):swapsWithSole ts e line env=pure false:=by
 cases ts with
 |nil=>rfl
 |cons t tl =>
  cases tl with
  |cons _ _=>rfl
  |nil =>
   show swapsWith e (some t) line env=pure false;have fin:∀x,kindOf cx x=some .cell->(env.kindOf x==some .local)=false:=λx k=>by rw[P.Ik.cell x k]; decide
   cases e with
   |ListComp _ _ _ _=>rcases mX h with⟨x,p,rfl,k⟩|⟨o,i,p,rfl⟩|⟨o,i,p,rfl⟩<;>first|rfl|(unfold swapsWith; dsimp only; rw[fin x k]; simp)
   |SetComp _ _ _ _=>rcases mX h with⟨x,p,rfl,k⟩|⟨o,i,p,rfl⟩|⟨o,i,p,rfl⟩<;>first|rfl|(unfold swapsWith; dsimp only; rw[fin x k]; simp)
   |DictComp _ _ _ _ _=>rcases mX h with⟨x,p,rfl,k⟩|⟨o,i,p,rfl⟩|⟨o,i,p,rfl⟩<;>first|rfl|(unfold swapsWith; dsimp only; rw[fin x k]; simp)
   |_=>rfl
theorem qK(t:yr)(ht:(∃us k p,t=.Tuple us k p)\/∃us p,t=.List us p){vs:yk yr}{p:Pos}(hb:vs.all (foldedForSure 8)=true):swappedStores [t] (.Tuple vs k p) env=pure none:=by
 rcases ht with⟨us,k',p',rfl⟩|⟨us,p',rfl⟩ <;>
 ·unfold swappedStores;dsimp only
  repeat' (first|rfl|(rw[hb]; rfl)|split)
theorem Kb(h:qD cx ts e=true):swappedStores ts e env=pure none:=by
 cases ts with
 |nil=>rfl
 |cons t tl =>
  cases t with
  |Tuple us k p =>
   cases tl with
   |cons _ _=>rfl
   |nil =>
    cases e with
    |Tuple vs k' p'=>exact qK _ (.inl ⟨_,_,_,rfl⟩) h
    |_=>rfl
  |List us p =>
   cases tl with
   |cons _ _=>rfl
   |nil =>
    cases e with
    |Tuple vs k' p'=>exact qK _ (.inr ⟨_,_,rfl⟩) h
    |_=>rfl
  |_=>rfl
theorem xI(I:HJ S T r d)(P:At S A envs env own cx d)(ts:yk yr)(e:yr)(p:Pos) :
  HN S A envs env own cx IT (exec (.Assign ts e p) env) (if Qv cx ts e then M.bind (r.ev cx e) λv=>M.bind (j8 r cx ts v) λZ=>pure .next else M.fail):=by
 intro U O s q hr N;have h9:=az hr; clear hr; obtain⟨h,hr⟩:=h9;obtain⟨h,hst⟩:=yS.mp h;have hst:ts.any aR=false:=by simpa using hst
 refine wpAny_Assign_stores ((I.ev P e).seq hr N (λv c am1 σ1 s1 v1 N1 X1 hr1 =>?_) (λZ Z h=>h)) (vY P h) (Kb h);refine yO (ph hr1 (λp e=>nz I P hst e N1 v1) λZ Z am2 σ2 s2 Z N2 X2 hr2 =>?_) (λZ Z h=>h) (λZ Z h=>h.back X1);exact⟨_,σ2,am2,(si hr2).symm,trivial,N2,X1.trans X2⟩
theorem qf(h:qg e=false):swapsWith e none line env=pure false:=by cases e<;>first|rfl|exact BD h
theorem O3(I:HJ S T r d)(P:At S A envs env own cx d)(e:yr)(p:Pos) :
  HN S A envs env own cx IT (exec (.Expr e p) env) (if qg e then M.fail else M.bind (r.ev cx e) λZ=>pure .next):=by
 intro U O s q hr N;cases h:qg e with
 |true=>rw[h]at hr; exact nn hr
 |false =>
  rw[h]at hr;refine wpAny_Expr_any ((I.ev P e).seq hr N (λv c am1 σ1 s1 v1 N1 X1 hr1 =>?_) (λZ Z h=>h)) ?_ ?_
  ·exact⟨_,σ1,am1,(si hr1).symm,trivial,N1,X1⟩
  ·unfold interactive; rw[P.Ik.kind]; rfl
  ·exact qf h
theorem xG(I:HJ S T r d)(P:At S A envs env own cx d)(e:yl yr)(p:Pos):HN S A envs env own cx IT (exec (.Return e p) env) (rY r cx e):=by
 intro U O s q hr N;cases e with
 |none=>exact wpAny_Return_none ⟨_,O,U,(si hr).symm,rfl,N,.refl ..⟩
 |some e =>refine wpAny_Return_some ((I.ev P e).seq hr N (λv c am1 σ1 s1 v1 N1 X1 hr1 =>?_) (λZ Z h=>h));exact⟨_,σ1,am1,(si hr1).symm,v1,N1,X1⟩
theorem Tv(I:HJ S T r d)(P:At S A envs env own cx d)(t:yr)(a b:yk yU)(p:Pos) :
  HN S A envs env own cx IT (exec (.If t a b p) env) (M.bind (r.tr cx t) λc=>if c then r.HK cx a else r.HK cx b):=by
 intro U O s q hr N;refine wpAny_If ((I.tr P t).seq hr N (λx c am1 σ1 s1 v1 N1 X1 hr1 =>?_) (λZ Z h=>h));cases v1;cases x with
 |true=>exact(I.HK P a).last hr1 N1 (λZ Z h=>h.back X1) (λZ Z h=>h.back X1)
 |false=>exact(I.HK P b).last hr1 N1 (λZ Z h=>h.back X1) (λZ Z h=>h.back X1)
theorem rM{a b c:Int}{t u:Tok}(hop:(op==.Add||op==.Sub)=true)(h:ba op a b=some c)
  (hQ:∀s' tk,aF s s'->Q (.int c tk) s'):yq (yw S.prog S.w) A (inplaceOp op (.int a t) (.int b u)) Q E s:=by
 cases op with
 |Add=>(have h9:=si h; clear h; subst h9); exact AutoIntOps.iadd_0 (hQ _ _ (.tok ..))
 |Sub=>(have h9:=si h; clear h; subst h9); exact AutoIntOps.isub_0 (hQ _ _ (.tok ..))
 |_=>cases hop
theorem M3{a:AV}{k:AV->M yu}{q:Res ac}(N:HB S envs env own cx U O s)(hr:Pu op a b k O=some q)(ha:aq U s.heap a ca)(hb:aq U s.heap b cb)
  (hQ:∀c s' tk,aF s s'->HB S envs env own cx U O s'->M.bind (k (.int c)) (λZ=>pure .next) O=some q->Q (.int c tk) s'):yq (yw S.prog S.w) A (inplaceOp op ca cb) Q E s:=by
 have h9:=ad hr; clear hr; obtain⟨i,hi,hr⟩:=h9;have h9:=ad hr; clear hr; obtain⟨j,hj,hr⟩:=h9;have h9:=ad hr; clear hr; obtain⟨c,hc,hr⟩:=h9;have h9:=az hr; clear hr; obtain⟨hop,hr⟩:=h9;obtain⟨t,rfl⟩:=ha.ofInt hi;obtain⟨u,rfl⟩:=hb.ofInt hj;exact rM hop hc λs' tk Q1=>hQ c s' tk Q1 (N.quiet Q1) hr
theorem ue(B:bP S T)(I:HJ S T r d)(P:At S A envs env own cx d)(o:yr)(at_:Str)(px p:Pos)(op:z7)(e:yr) :
  HN S A envs env own cx IT (exec (.AugAssign (.Attribute o at_ px) op e p) env) (oM r cx o at_ op e):=by
 intro U O s q hr N;refine wpAny_AugAssign_AttributeAny ((I.ev P o).seq hr N (λov co am1 σ1 s1 v1 N1 X1 hr1 =>?_) (λZ Z h=>h));refine yO (ph hr1 (λp e=>kB B N1 e v1) λa ca am2 σ2 s2 va N2 X2 hr2 =>?_) (λZ Z h=>h) (λZ Z h=>h.back X1);refine(I.ev P e).seq hr2 N2 (λb cb am3 σ3 s3 v3 N3 X3 hr3 =>?_) (λZ Z h=>h.back (X1.trans X2));refine M3 N3 hr3 (va.ext N2 X3) v3 λc s4 tk Q4 N4 hr4 =>?_;have X4:=((X1.trans X2).trans X3).trans (N3.H.H2 Q4);refine(let QQ:=_; let EE:=_; (?_:yq _ _ _ QQ EE _));rcases ft hr4 with⟨u5,O5',em2,hr5⟩|⟨x5,O5',em2,rfl⟩
 ·refine gw B N4 em2 (((v1.ext N1 X2).ext N2 X3).ext N3 (N3.H.H2 Q4)) ⟨tk,rfl⟩ λs5 σ5 e5 N5 X5 =>?_;cases e5;exact⟨_,_,am3,(si hr5).symm,trivial,N5,X4.trans X5⟩
 ·refine gw B N4 em2 (((v1.ext N1 X2).ext N2 X3).ext N3 (N3.H.H2 Q4)) ⟨tk,rfl⟩ λs5 σ5 e5 N5 X5 =>?_;cases e5
theorem RK(B:bP S T)(I:HJ S T r d)(P:At S A envs env own cx d)(t:yr)(p:Pos)(op:z7)(e:yr):HN S A envs env own cx IT (exec (.AugAssign t op e p) env) (Ql r cx t op e):=by
 intro U O s q hr N;refine(let QQ:=_; let EE:=_; (?_:yq _ _ _ QQ EE _));cases t with
 |Attribute o a px=>exact ue B I P o a px p op e U O s q hr N
 |_=>exact nn hr
theorem xH(I:HJ S T r d)(P:At S A envs env own cx d)(o i:yr)(px p:Pos):HN S A envs env own cx IT (exec (.Delete [.Subscript o i px] p) env) (rZ r cx o i):=by intro U O s q hr N;refine wpAny_Delete ?_;show yq _ _ (do delete (.Subscript o i px) env; deleteEach [] env) _ _ _;refine yz (wpAny_delete_Subscript ((I.ev P o).seq hr N (λov co am1 σ1 s1 v1 N1 X1 hr1 =>?_) (λZ Z h=>h)));refine(I.ev P i).seq hr1 N1 (λiv ci am2 σ2 s2 v2 N2 X2 hr2 =>?_) (λZ Z h=>h.back X1);refine yO (ph hr2 (λp e=>xP N2 e (v1.ext N1 X2) v2) λZ Z am3 σ3 s3 Z N3 X3 hr3 =>?_) (λZ Z h=>h) (λZ Z h=>h.back (X1.trans X2));exact wpAny_deleteEach_nil ⟨_,σ3,am3,(si hr3).symm,trivial,N3,(X1.trans X2).trans X3⟩
theorem RJ(I:HJ S T r d)(P:At S A envs env own cx d)(ts:yk yr)(p:Pos):HN S A envs env own cx IT (exec (.Delete ts p) env) (Qk r cx ts):=by
 intro U O s q hr N;refine(let QQ:=_; let EE:=_; (?_:yq _ _ _ QQ EE _));cases ts with
 |nil=>exact nn hr
 |cons t ts =>
  cases ts with
  |cons _ _=>exact nn hr
  |nil =>
   have hr1:Mq r cx t O=some q:=hr;refine(let QQ:=_; let EE:=_; (?_:yq _ _ _ QQ EE _));cases t with
   |Subscript o i px=>exact xH I P o i px p U O s q hr1 N
   |_=>exact nn hr1
theorem HB.HR(N:HB S envs env own cx U O s)(b c:yx)(x:yl yp)(hx:∀a,x=some a->∃i vs,U[i]?=some a/\O.hp i=.exc vs):HB S ⟨envs.l,x⟩ env own {cx with HR:=b,xn:=c} U O s :=
 ⟨⟨N.H.base,N.H.gens,N.H.os,N.H.len,N.H.nodup,N.H.above,N.H.objs,N.H.IK,hx⟩,⟨N.F.ns,N.F.cells,N.F.frees,N.F.HZ,N.F.HW,N.F.apart⟩⟩
theorem At.mark(P:At S A envs env own cx d)(hc:cx.HR=false)(e:yt):At S (A.mark (some e)) envs env own {cx with HR:=true} d :=
 ⟨⟨P.Ik.kind,P.Ik.glob,P.Ik.bi,P.Ik.loc,P.Ik.cell,P.Ik.free,P.Ik.gl⟩,P.hi,P.fr,(λh=>by cases h),(λh=>by obtain⟨b,e,_⟩:=P.hx h; rw[P.hd hc]at e; exact nn e),P.So,P.un,P.Qg⟩
theorem At.markX(P:At S A envs env own cx d)(e:yp):At S (A.mark (some (.ref e))) ⟨envs.l,some e⟩ env own {cx with HR:=true,xn:=true} d :=
 ⟨⟨P.Ik.kind,P.Ik.glob,P.Ik.bi,P.Ik.loc,P.Ik.cell,P.Ik.free,P.Ik.gl⟩,P.hi,P.fr,(λh=>by cases h),(λ_=>⟨e,rfl,rfl⟩),P.So,P.un,P.Qg⟩
theorem O0(B:bP S T)(I:HJ S T r d)(P:At S A envs env own cx d)(a:yk yU)(n:Str)(np hp tp:Pos)(h₀:yU)(hs:yk yU)(hc:cx.HR=false)(hg:bp cx n=true)(hn:n=("StopIteration": Str)) :
  HN S A envs env own cx IT (exec (.Try a [.ExceptHandler (some (.Name n np)) none (h₀::hs) hp] [] [] tp) env) (kL (r.HK cx a) (r.HK {cx with HR:=true} (h₀::hs))):=by
 intro U O s q hr N;refine(let QQ:=_; let EE:=_; (?_:yq _ _ _ QQ EE _));subst hn;obtain⟨hg,hgx⟩:=bI hg;unfold kL at hr;refine wpAny_Try_except ?_;refine(let QQ:=_; let EE:=_; (?_:yq _ _ _ QQ EE _));cases em:r.HK cx a O with
 |none=>rw[em]at hr; exact nn hr
 |some p =>
  rw[em]at hr;refine yO (I.HK P a U O s p em N) (λf s1 h1 =>?_) (λe s1 h1 =>?_)
  ·obtain⟨v,σ1,am1,rfl,hR,N1,X1⟩:=h1
   (have h9:=si hr; clear hr; subst h9)
   rcases hR.inv with⟨rfl,rfl⟩|⟨rfl,rfl⟩|⟨rfl,rfl⟩|⟨v,w,rfl,rfl⟩
   ·exact Ft ⟨_,σ1,am1,rfl,trivial,N1,X1⟩
   ·exact⟨_,σ1,am1,rfl,trivial,N1,X1⟩
   ·exact⟨_,σ1,am1,rfl,trivial,N1,X1⟩
   ·exact⟨_,σ1,am1,rfl,hR,N1,X1⟩
  ·obtain⟨x,σ1,am1,rfl,hx,N1,X1⟩:=h1;cases x with
   |cycle vs=>exact nn hr
   |stop =>
    dsimp only at hr;obtain⟨f,σ2,rfl,hr2⟩:=et hr;obtain⟨ea,ta,rfl,hX⟩:=hx;refine mu P N.H N1 X1 hX (.inl rfl) λs2 tb v3 N2 X2 k2 hX2 hT2 =>?_;refine eA N.H N2 X2 hX2 hT2 λs3 N3 X3 k3 hX3 hT3 =>?_;obtain⟨oe,fs,q1,q2,q3,he,hcl,q6,q7,q8,q9⟩:=id hX3;refine wpAny_handleBy_builtin (X :="StopIteration") (T :="StopIteration") (b:=true) (by rw[C1]; kernel_rfl) (by rw[C1]; kernel_rfl) isSubtype_stop ?_;refine Bj (bk (P.mark hc (.ref ea)) N3.H hg B.JI ⟨rfl,⟨_,he,hcl⟩,?_⟩) hgx;rw[yo rfl];refine eA N.H N3 X3 hX3 hT3 λs4 N4 X4 k4 hX4 hT4 =>?_;refine(I.HK (P.mark hc (.ref ea)) (h₀::hs)).HF hr2 (N4.HR true cx.xn envs.x N4.H.xs) λcf am5 s5 hR5 N5 X5 =>?_;have N5':HB S envs env own cx am5 σ2 s5:=by have:=N5.HR false cx.xn envs.x N5.H.xs;rw[show({({cx with HR:=true}:Cx)with HR:=false,xn:=cx.xn}:Cx)=cx from by cases cx; cases hc; rfl]at this;exact this
    exact⟨_,σ2,am5,rfl,hR5,N5',X4.trans X5⟩
set_option tactic.hygienic true in
theorem nF{t:yl yr}(h:lC cx t=true):∃np,t=some (.Name "StopIteration" np)/\bp cx "StopIteration"= true:=by
 unfold lC at h;split at h
 ·rename_i n hn;refine hdZ λGG hGG =>?_;obtain⟨e,he,hn⟩:=zd.mp hn;obtain⟨h1,h2⟩:=yS.mp h;refine hGG ?_;have:=eq_of_beq h2;subst this;cases e with
  |Name x px=>(have h9:=si hn; clear hn; subst h9); exact⟨px,he,h1⟩
  |_=>exact nn hn
 ·cases h
theorem t9{hs:yk Dh}{p:yl yr×yl Str×yk yU}(h:Qd hs=some p):∃hp,hs=[.ExceptHandler p.1 p.2.1 p.2.2 hp]:=by
 cases hs with
 |nil=>exact nn h
 |cons x r =>
  cases x with
  |ExceptHandler t n b hp =>
   cases r with
   |nil=>(have h9:=si h; clear h; subst h9); exact⟨_,rfl⟩
   |cons y r=>exact nn h
theorem jF{t:yl yr}(h:lw cx t=true):∃np,t=some (.Name "CycleError" np)/\bp cx "CycleError"= true:=by
 unfold lw at h;cases hn:t.bind pT with
 |none=>rw[hn]at h; cases h
 |some n =>
  rw[hn]at h;refine hdZ λGG hGG =>?_;obtain⟨e,he,hn⟩:=zd.mp hn;obtain⟨h1,h2⟩:=yS.mp h;refine hGG ?_;have:=eq_of_beq h2;subst this;cases e with
  |Name x px=>(have h9:=si hn; clear hn; subst h9); exact⟨px,he,h1⟩
  |_=>exact nn hn
theorem HB.adopt{t:yp}(H₀:a9 S envs am₀ σ₀ s₀)(N:HB S envs env own cx U O s)(X:Ext own am₀ σ₀ s₀ U O s)(hX:JK S U s₀.heap s.heap a (.ref S.P.CE) t v1)(ht:t∉U)(hi:s.heap.IsTuple t items)(hv:av U s.heap vs items.toList) :
  HB S envs env own cx (U++[a]) {O with hp:=upd O.hp O.nx (.exc vs),nx:=O.nx+1} s/\Ext own am₀ σ₀ s₀ (U++[a]) {O with hp:=upd O.hp O.nx (.exc vs),nx:=O.nx+1} s:=by
 obtain⟨o,fs,p1,p2,p3,p4,p5,p6,p7,p8,p9⟩:=hX;have hx:JM U (U++[a]) s.heap:=⟨λhi=>by rw[AD (y2.mp hi).1]; exact hi,λh1 h2 h3 hm=>by
  rcases y3.mp hm with hm|hm
  ·exact h1 hm
  ·simp at hm; subst hm; rw[p4]at h2; (have h9:=si h2; clear h2; subst h9); exact h3 _ p6⟩
 have hk:bq U s.heap s.heap:=λZ Z e Z Z=>e;have ok:=N.H.HD;have hlt:∀{i:Nat} {b:yp},am₀[i]?=some b->i≠O.nx:=λhi=>by obtain⟨hl,_⟩:=y2.mp (X.HU.get hi);rw[<-N.H.len]; exact yA hl
 refine⟨⟨⟨N.H.base,N.H.gens,N.H.os,by simp[N.H.len],?_,?_,?_,?_,N.H.U2⟩,N.F.ext (eZ.refl ..) ok hx⟩,X.heap,?_,λi b kvs v hi e =>?_,λi b vs hi e =>?_⟩
 ·rw[z6];exact⟨N.H.nodup,by simp,λb hb c hc=>by simp at hc; subst hc; exact λq=>p2 (q▸hb)⟩
 ·intro b hb;rcases y3.mp hb with hb|hb
  ·exact N.H.above b hb
  ·simp at hb; subst hb; exact p1
 ·intro j b hj;show dN _ _ _ _ _ _ (upd O.hp O.nx (.exc vs) j);by_cases hjl:j<U.length
  ·rw[AD hjl]at hj;rw[upd,ym (by rw[<-N.H.len]; exact yA hjl)];exact(N.H.objs j b hj).mono hk ok hx rfl
  ·obtain⟨hl,e⟩:=y2.mp hj;have hje:j=U.length:=Be (zb (by simpa using hl)) (zr hjl);subst hje;simp at e; subst e;rw[upd,yo N.H.len];obtain⟨ot,hot,hct,n,hdt⟩:=id hi;exact⟨o,fs,t,items,p4,p5,p6,p7,p9,hx.no ht hot (λfs q=>by rw[hdt]at q; cases q),hi,hv.mono hk ok hx⟩
 ·intro e he;refine hdZ λGG hGG =>?_;obtain⟨hk',L,ob,es,ep,h1,h2,h4,h5,h6⟩:=N.H.IK e he;refine hGG ?_;exact⟨hk',L,ob,es,ep,h1,h2,h4,h5,hx.no h6 h2 (λfs q=>by rw[h4]at q; cases q)⟩
 ·obtain⟨⟨nw,rfl,h⟩⟩:=X.HU;exact⟨⟨nw++[a],by simp,λz hz=>(y3.mp hz).elim (h z) λq=>by simp at q; subst q; exact p3⟩⟩
 ·obtain⟨k',v',e1,e2⟩:=X.Ie i b kvs v hi e;exact⟨k',v',by show upd _ _ _ _=_; rw[upd,ym (hlt hi)]; exact e1,e2⟩
 ·obtain⟨e1,e2⟩:=X.Ij i b vs hi e;exact⟨by show eS (upd _ _ _ _) _; rw[upd,ym (hlt hi)]; exact e1,e2⟩
theorem w8{x:Str}{Q:yu->yy->Prop}(P:At S A envs env own cx d)(N:HB S envs env own cx U O s)(hx:kindOf cx x=some .local)
  (h:∀s',HB S envs env own cx U {O with loc:=ai O.loc x none} s'->Ext own U O s U {O with loc:=ai O.loc x none} s'->Q () s'):yq (yw S.prog S.w) A (do bindName env x .none; unbindBehindTheSuite env x pos) Q E s:=by
 obtain⟨m,hm,hr⟩:=N.F.ns;have hl:=P.Ik.loc x hx;have hp:(env.scope.kind==.class||(env.scope.kind==.module&&env.locals != env.globals))=false:=by rw[P.Ik.kind]; rfl
 refine yz (wpAny_bindName (Hz hl hm (λh₁ hn₁ hs₁ =>?_) hp));unfold unbindBehindTheSuite;refine wpAny_onRaise ?_;unfold unbindName;refine yz (Fu (yz ?_));unfold deleteName;refine(let QQ:=_; let EE:=_; (?_:yq _ _ _ QQ EE _));simp only[hl,hp];rw[ym (by decide)];refine yz (wpAny_nsDel_keeps hn₁ λh₂ u hn₂ hs₂ =>?_);simp only[AW,Hg,Bool.not_true,BS,BA];refine yG (Fu ?_);have hs:=hs₁.trans hs₂;have e:(λy=>if y=x then u else if y=x then some AI else m y)=λy=>if y=x then u else m y:=by
  funext y; by_cases q:y=x
  ·rw[yo q,yo q]
  ·rw[ym q,ym q,ym q]
 rw[e]at hn₂;have hn':∃o,h₂.get? env.locals=some o:=uX hn₂;refine h _ ⟨?_,?_⟩ ?_
 ·exact N.H.QX N.F N.F.HW (P.hi _ N.F.HW) hs hn' λo Z Z=>ns_ex hn₂
 ·exact N.F.Jj N.H.HD hx hm hr hn₂ (λy=>rfl) hs (v:=none) trivial
 ·exact N.H.JB N.F.HW (N.F.HZ _ N.F.HW).1 hs hn'
theorem OZ(B:bP S T)(I:HJ S T r d)(P:At S A envs env own cx d)(a:yk yU)(n:Str)(np hp tp:Pos)(x:Str)(h₀:yU)(hs:yk yU)(hc:cx.HR=false)(hg:bp cx n=true)(hn:n=("CycleError": Str))(hxl:kindOf cx x=some .local) :
  HN S A envs env own cx IT (exec (.Try a [.ExceptHandler (some (.Name n np)) (some x) (h₀::hs) hp] [] [] tp) env) (kK (r.HK cx a) (r.HK {cx with HR:=true,xn:=true} (h₀::hs)) x):=by
 intro U O s q hr N;refine(let QQ:=_; let EE:=_; (?_:yq _ _ _ QQ EE _));subst hn;obtain⟨hg,hgx⟩:=bI hg;unfold kK at hr;refine wpAny_Try_except ?_;refine(let QQ:=_; let EE:=_; (?_:yq _ _ _ QQ EE _));cases em:r.HK cx a O with
 |none=>rw[em]at hr; exact nn hr
 |some p =>
  rw[em]at hr;refine yO (I.HK P a U O s p em N) (λf s1 h1 =>?_) (λe s1 h1 =>?_)
  ·obtain⟨v,σ1,am1,rfl,hR,N1,X1⟩:=h1
   (have h9:=si hr; clear hr; subst h9)
   rcases hR.inv with⟨rfl,rfl⟩|⟨rfl,rfl⟩|⟨rfl,rfl⟩|⟨v,w,rfl,rfl⟩
   ·exact Ft ⟨_,σ1,am1,rfl,trivial,N1,X1⟩
   ·exact⟨_,σ1,am1,rfl,trivial,N1,X1⟩
   ·exact⟨_,σ1,am1,rfl,trivial,N1,X1⟩
   ·exact⟨_,σ1,am1,rfl,hR,N1,X1⟩
  ·obtain⟨xx,σ1,am1,rfl,hx,N1,X1⟩:=h1;cases xx with
   |stop=>exact nn hr
   |cycle vs =>
    dsimp only at hr;obtain⟨ea,t,items,v1,rfl,hX,hv1,ht,⟨ot,hot,hct,nt,hdt⟩,hvs⟩:=hx;refine mu P N.H N1 X1 hX hv1 λs2 tb v3 N2 X2 k2 hX2 hT2 =>?_;refine eA N.H N2 X2 hX2 hT2 λs3 N3 X3 k3 hX3 hT3 =>?_;obtain⟨oe,fs,q1,q2,q3,he,hcl,q6,q7,q8,q9⟩:=id hX3;obtain⟨nm,qq,Nn,bs,hdct,sn,sub,ab,col,dd,k0,k1,k2',k3',k5,mN,hC,hN,hq⟩:=B.ce;refine wpAny_handleBy_cons (codeAny_handlers_test (Bj (bk (P.mark hc (.ref ea)) N3.H hg B.Ma ?_) hgx)) (by intro q; cases q);refine wpAny_excMatches_sub_self (N3.H.base _ _ hC) he hcl (by decide) ?_;refine codeAny_handlers_suite_as ?_;refine eA N.H N3 X3 hX3 hT3 λs4 N4 X4 k4 hX4 hT4 =>?_;have k:bq am1 s1.heap s4.heap:=λb ob e1 e2 e3=>k4 b ob (k3 b ob (k2 b ob e1 e2 e3) e2 e3) e2 e3;obtain⟨N5,X5⟩:=N4.adopt N.H X4 hX4 ht ⟨ot,k t ot hot ht ⟨_,_,hdt⟩,hct,nt,hdt⟩ (hvs.mono k N1.H.HD (.refl ..));have hself:aq (am1++[ea]) s4.heap (.ref σ1.nx) (.ref ea):=⟨ea,rfl,by rw[<-N1.H.len]; simp⟩;refine eU (P.markX ea) (N5.HR true true (some ea) λa e=>by cases e; exact⟨σ1.nx,vs,by rw[<-N1.H.len]; simp,by show upd _ _ _ _=_; exact yo rfl⟩) (.inl hxl) hself λs5 N6 X6 =>?_;cases eh:r.HK {cx with HR:=true,xn:=true} (h₀::hs) ⟨λy=>if y=x then some (.ref σ1.nx)else σ1.loc y,λj=>if j=σ1.nx then .exc vs else σ1.hp j,σ1.nx+1⟩with
    |none=>rw[eh]at hr; exact nn hr
    |some p =>
     rw[eh]at hr;cases p with
     |err _ _=>exact nn hr
     |ok f σ2 =>
      cases f with
      |next =>
       (have h9:=si hr; clear hr; subst h9)
       refine(I.HK (P.markX ea) (h₀::hs)).HF eh N6 λcf am6 s6 hR6 N7 X7 =>?_;cases cf<;>first|exact hR6.elim|skip
       have N7':HB S envs env own cx am6 σ2 s6:=by
        have:=N7.HR false cx.xn envs.x λa e=>by obtain⟨i,us,h1,h2⟩:=N5.H.xs a e;have XX:=X6.trans X7;exact⟨i,us,XX.HU.get h1,(XX.Ij i a (.exc us) h1 ⟨h2,trivial⟩).1.1⟩
        rw[show({({cx with HR:=true,xn:=true}:Cx)with HR:=false,xn:=cx.xn}:Cx)=cx from by cases cx; cases hc; rfl]at this;exact this
       refine w8 P N7' hxl λs7 N8 X8 =>?_;exact⟨_,_,am6,rfl,trivial,N8,((X5.trans X6).trans X7).trans X8⟩
      |_=>exact nn hr
theorem RH(B:bP S T)(I:HJ S T r d)(P:At S A envs env own cx d)(a:yk yU)(hs:yk Dh)(b c:yk yU)(tp:Pos):HN S A envs env own cx IT (exec (.Try a hs b c tp) env) (Qi r cx a hs b c):=by
 intro U O s q hr N;have h9:=ad hr; clear hr; obtain⟨⟨t,n,body⟩,h,hr⟩:=h9;refine(let QQ:=_; let EE:=_; (?_:yq _ _ _ QQ EE _));obtain⟨hc,hr2⟩:=az hr;clear hr;obtain⟨hc,h6⟩:=yS.mp hc;obtain⟨hc,h5⟩:=yS.mp hc;obtain⟨h1,h4⟩:=yS.mp hc;obtain⟨hp,rfl⟩:=t9 h;obtain rfl:=zv.mp h5;obtain rfl:=zv.mp h6;cases body with
 |nil=>cases h4
 |cons h₀ hs =>
  have hn:cx.HR=false:=by simpa using h1
  have h9:=aH hr2; clear hr2; rcases h9 with⟨x,hx,hr⟩|⟨hx,hr⟩
  ·obtain⟨hc,hr1⟩:=az hr;obtain⟨hc1,hc2⟩:=yS.mp hc;obtain⟨np,e1,hg⟩:=jF hc1;obtain rfl:t=_:=e1;obtain rfl:n=_:=hx;exact OZ B I P a _ np hp tp x h₀ hs hn hg rfl (eq_of_beq hc2) U O s q hr1 N
  ·obtain⟨hc,hr1⟩:=az hr;obtain⟨np,e1,hg⟩:=nF hc;obtain rfl:t=_:=e1;obtain rfl:n=none:=hx;exact O0 B I P a _ np hp tp h₀ hs hn hg rfl U O s q hr1 N
noncomputable def bZ(env:Env):yk (Str×Ae)->yk (Str×yp)->yk (Str×yp)
 |[],acc=>acc
 |(n,k)::r,acc=>if k==.free then bZ env r ((n,(env.cells.lookup n).getD 0)::acc)else bZ env r acc
theorem oX(env:Env)(n:Str)(k:Ae)(r:yk (Str×Ae))(acc:yk (Str×yp)):bZ env ((n,k)::r) acc=if k==.free then bZ env r ((n,(env.cells.lookup n).getD 0)::acc)else bZ env r acc:=rfl
theorem eX(env:Env)(f:Str×Ae->yk (Str×yp)->Sem (ForInStep (yk (Str×yp))))
  (hf:∀n k cs,f (n,k) cs=if k==AF then(do let a <- cellOf env n; pure (.yield ((n,a)::cs)))else pure (.yield cs)) :
  ∀(names:yk (Str×Ae)) (acc:yk (Str×yp)),(∀n,(n,AF)∈names->∃a,env.cells.lookup n=some a)->forIn names acc f=pure (bZ env names acc)
 |[]=>λacc Z=>by rw[Gx]; rfl
 |(n,k)::r=>λacc h=>by
  rw[List.forIn_cons,hf];rw[oX];cases hk:(k==AF)with
  |true =>
   have:k=.free:=by simpa using hk
   subst this;obtain⟨a,ha⟩:=h n (by simp);have hc:cellOf env n=pure a:=by unfold cellOf; rw[ha]
   rw[yo rfl,hc,ha];show forIn r ((n,a)::acc) f=_;exact eX env f hf r _ λm hm=>h m (by simp[hm])
  |false =>rw[ym (by simp)];show forIn r acc f=_;exact eX env f hf r _ λm hm=>h m (by simp[hm])
variable{scope:Ao}
theorem nY(h:∀n,(n,AF)∈scope.names->∃a,env.cells.lookup n=some a):closureFor scope env=pure (bZ env scope.names []):=by unfold closureFor;dsimp only;rw[eX env _ (λn k cs=>by cases hk:k==AF<;>simp[hk]) scope.names [] h];rfl
theorem cW(env:Env)(x:Str):∀(names:yk (Str×Ae)) (acc:yk (Str×yp)),(∀k,(x,k)∈names->k=.free)->((x,AF)∈names\/acc.lookup x=some ((env.cells.lookup x).getD 0)) ->
  (bZ env names acc).lookup x=some ((env.cells.lookup x).getD 0)
 |[]=>λacc Z h=>by
  rcases h with h|h
  ·cases h
  ·exact h
 |(n,k)::r=>λacc hk h=>by
  rw[oX];by_cases e:x=n
  ·subst e;have:=hk k (by simp);subst this;rw[yo (by rfl)];exact cW env x r _ (λk' hk'=>hk k' (by simp[hk'])) (.inr (by rw[zi,zl]))
  ·have hr:(x,AF)∈r\/acc.lookup x=some ((env.cells.lookup x).getD 0):=by
    rcases h with h|h
    ·rcases yP.mp h with h|h
     ·exact yD (Hi h).1 e
     ·exact .inl h
    ·exact .inr h
   split
   ·refine cW env x r _ (λk' hk'=>hk k' (by simp[hk'])) (hr.imp id λh =>?_);rw[zi,show(x==n)=false from by simpa using e]; exact h
   ·exact cW env x r _ (λk' hk'=>hk k' (by simp[hk'])) hr
set_option tactic.hygienic true in
theorem gR(x:Str):∀(names:yk (Str×Ae)) (n:Nat) (acc:yk (Str×yp)),(∀k,(x,k)∈names->k≠.cell)->(Ai n names acc).lookup x=acc.lookup x
 |[]=>λZ Z Z=>rfl
 |(y,k)::r=>λn acc h=>by
  unfold Ai;split
  ·rename_i hk;rw[gR x r _ _ λk' hk'=>h k' (by simp[hk'])];have e:x≠y:=λq=>by subst q; exact h k (by simp) (by simpa using hk)
   rw[zi,show(x==y)=false from by simpa using e]
  ·exact gR x r _ _ λk' hk'=>h k' (by simp[hk'])
theorem cj:∀(names:yk (Str×Ae)) (n:Nat) (acc:yk (Str×yp)),Ai n names acc=Ai n names []++acc
 |[]=>λZ Z=>rfl
 |(y,k)::r=>λn acc=>by
  unfold Ai;split
  ·rw[cj r (n+1) ((y,n)::acc),cj r (n+1) [(y,n)]]; simp
  ·exact cj r n acc
theorem gy(env:Env)(x:Str):∀names:yk (Str×Ae),(names.map λ(n,k)=>if(k==AF&&env.scope.kind==.function&&env.kindOf n==some .cell)then(n,CL)else(n,k)).lookup x =
  (names.lookup x).map λk=>if(k==AF&&env.scope.kind==.function&&env.kindOf x==some .cell)then CL else k
 |[]=>rfl
 |(n,k)::r=>by
  have ih:=gy env x r;show Ba x ((if(k==AF&&env.scope.kind==.function&&env.kindOf n==some .cell)=true then(n,CL)else(n,k))::_)=_;rw[zi (k:=n)];cases hx:x==n with
  |true =>
   have:x=n:=by simpa using hx
   subst this;split<;>simp_all[zi]
  |false =>rw[<-ih];split<;>simp[zi,hx]
theorem mV(h:j3 cx scope=true):scope.kind=.function/\∀p∈scope.names,(match p.2 with
  |.local=>scope.names.lookup p.1==some .local
  |.cell=>scope.names.lookup p.1==some .cell
  |.free=>scope.names.lookup p.1==some .free&&(kindOf cx p.1==some .cell||kindOf cx p.1==some .free)&&p.1 != ("__classdict__": Str)
  |.globalImplicit=>scope.names.lookup p.1==some .globalImplicit
  |_=>false)=true:=by
 obtain⟨h1,h2⟩:=yS.mp h;exact⟨by simpa using h1,BZ.mp h2⟩
structure InComp(S:au)(A:zX)(envs:Frs)(env:Env)(cx:Cx)(d:Nat)(scope:Ao)(U:yk yp)(O:St)(s:yy)(cenv:Env)(s':yy)(own':yk yp):Prop where
 now:HB S envs {cenv with scope:=relabel scope env} own' (iK cx scope O.loc) U {O with loc:=λZ=>none} s'
 at_:At S A envs {cenv with scope:=relabel scope env} own' (iK cx scope O.loc) d
 quiet:aF s s'
 loc:cenv.locals∈own'
 fresh:∀a∈own',s.heap.get? a=none
theorem sq(P:At S A envs env own cx d)(N:HB S envs env own cx U O s)(hok:j3 cx scope=true){Q:Env->yy->Prop} :
  closureFor scope env=pure (bZ env scope.names []) /\
  ((∀cenv s' own',InComp S A envs env cx d scope U O s cenv s' own'->Q cenv s')->yq (yw S.prog S.w) A (newFunctionEnv scope env.globals (bZ env scope.names []) [] env.qual none .none (some env)) Q E s):=by
 have h8:=mV hok;have hkind:=h8.1;have hall:=h8.2;have hfree:∀n,(n,AF)∈scope.names->scope.names.lookup n=some .free/\(kindOf cx n=some .cell\/kindOf cx n=some .free)/\n≠("__classdict__": Str):=by intro n hn;have:=hall _ hn;replace this:(scope.names.lookup n==some .free&&(kindOf cx n==some .cell||kindOf cx n==some .free)&&n != ("__classdict__": Str))=true:=this;simp only[zg,C9,y5,DV,ne_eq]at this;exact⟨this.1.1,this.1.2,this.2⟩
 have hcellAddr:∀n,(kindOf cx n=some .cell\/kindOf cx n=some .free)->∃a c,env.cells.lookup n=some a/\s.heap.IsCell a c/\bW U s.heap ((iK cx scope O.loc).outer n) c:=by
  intro n hn;rcases hn with hn|hn
  ·obtain⟨a,c,h1,h2,h3,h4⟩:=N.F.cells n hn;exact⟨a,c,h1,h3,by delta iK; dsimp only; rw[hn]; exact h4⟩
  ·obtain⟨a,c,h1,h2,h3,h4⟩:=N.F.frees n hn;exact⟨a,c,h1,h3,by delta iK; dsimp only; rw[hn]; exact h4⟩
 refine⟨nY λn hn =>?_,λhQ =>?_⟩
 ·obtain⟨a,c,h1,_⟩:=hcellAddr n (hfree n hn).2.1;exact⟨a,h1⟩
 ·simp only[newFunctionEnv,Hg,AW];refine yz (wpAny_alloc ?_);refine yz (wpAny_layCells _ (λname kind cells=>by cases hkc:kind==CL<;>simp[hkc]) _ _ _ _ ?_);rw[Gx];refine yz (yG (yG ?_));have ok:=cellsFrom_ok scope.names (s.heap.push {cls:=.type "dict",data:=.dict #[]}) (s.heap.objs.size+1) [] ⟨λZ Z hm=>(nomatch hm),List.Pairwise.nil⟩ (by rw[BF]; exact yF _);rw[show({s with heap:=s.heap.push {cls:=.type "dict",data:=.dict #[]}}:yy).heap.objs.size=s.heap.objs.size+1 from BF ..];rw[BF]at ok;rw[cj];have keep:∀b o,s.heap.get? b=some o->(pushCells (s.heap.push {cls:=.type "dict",data:=.dict #[]}) scope.names).get? b=some o:=λb o e=>pushCells_keeps _ _ b o (zR _ e);have q:aF s {s with heap:=pushCells (s.heap.push {cls:=.type "dict",data:=.dict #[]}) scope.names}:=⟨keep,rfl,rfl⟩;have hns:(pushCells (s.heap.push {cls:=.type "dict",data:=.dict #[]}) scope.names).Ns s.heap.objs.size (λZ=>none):=(Heap.Ns.new s.heap (.type "dict")).keeps (pushCells_keeps _ _);have hnone:∀a,s.heap.objs.size<=a->s.heap.get? a=none:=λa ha=>zm ha;have hfr:∀a∈s.heap.objs.size::b4 (Ai (s.heap.objs.size+1) scope.names []),s.heap.get? a=none:=by
   intro a ha;rcases yP.mp ha with rfl|ha
   ·exact hnone _ (yF _)
   ·obtain⟨n,hn⟩:=dW ha;exact hnone _ (zC (ok.empty n a (mem_of_lookup hn)).2)
  have hkof:∀x,Env.kindOf ({scope:=relabel scope env,locals:=s.heap.objs.size,globals:=env.globals,cells:=Ai (s.heap.objs.size+1) scope.names []++bZ env scope.names [],qual:=env.qual,func:=none,code:=env.code,frame:=env.frame,builtins:=env.builtins}:Env) x =
    (scope.names.lookup x).map λk=>if(k==AF&&env.scope.kind==.function&&env.kindOf x==some .cell)then CL else k:=λx=>gy env x scope.names
  refine hQ _ _ (s.heap.objs.size::b4 (Ai (s.heap.objs.size+1) scope.names [])) ⟨⟨?_,?_⟩,?_,q,yY,hfr⟩
  ·have H':=N.H.quiet q;exact⟨H'.base,H'.gens,H'.os,H'.len,H'.nodup,H'.above,H'.objs,H'.IK,H'.xs⟩
  ·constructor
   ·exact⟨_,hns,λy Z=>trivial⟩
   ·intro x hx;have hx':scope.names.lookup x=some .cell:=hx;obtain⟨c,hc⟩:=CX.mp (cH scope.names (s.heap.objs.size+1) [] x hx');refine⟨c,none,?_,zS _ (ko hc),(ok.empty x c (mem_of_lookup hc)).1,trivial⟩;show Ba x (_++_)=some c;rw[CJ,hc]; rfl
   ·intro x hx;have hx':scope.names.lookup x=some .free:=hx;refine hdZ λGG hGG =>?_;have h8:=hfree x (mem_of_lookup hx');have h2:=h8.2.1;obtain⟨a,c,h3,h4,h5⟩:=hcellAddr x h2;refine hGG ?_;have hall':∀k,(x,k)∈scope.names->k=.free:=by intro k hk;have:=hall _ hk;cases k<;>simp at this<;>first|rfl|(rw[hx']at this; cases this)
    refine⟨a,c,?_,λhm =>?_,h4.keeps keep,h5.mono (q.keeps U) N.H.HD (.refl ..)⟩
    ·show Ba x (_++_)=some a;rw[CJ,gR x _ _ _ (λk hk=>by rw[hall' k hk]; decide)];show(none:yl yp).or _=_;rw[cW env x _ _ hall' (.inl (mem_of_lookup hx')),h3]; rfl
    ·have:=hfr a hm;obtain⟨o,e,_⟩:=h4;rw[this]at e; exact nn e
   ·intro a ha;refine⟨λhm =>?_,?_⟩
    ·obtain⟨o,e,_⟩:=N.H.HD a hm; rw[hfr a ha]at e; exact nn e
    ·rcases yP.mp ha with rfl|ha
     ·refine hdZ λGG hGG =>?_;obtain⟨o,es,ep,e1,e2,_⟩:=hns;refine hGG ?_;exact⟨o,e1,.inl ⟨es,ep,e2⟩⟩
     ·obtain⟨n,hn⟩:=dW ha;obtain⟨o,e1,e2⟩:=(ok.empty n a (mem_of_lookup hn)).1;exact⟨o,e1,.inr ⟨_,e2⟩⟩
   ·exact yY
   ·intro x y a hx hy h1 h2;have hx':scope.names.lookup x=some .cell:=hx;have hy':scope.names.lookup y=some .cell:=hy;obtain⟨c,hc⟩:=CX.mp (cH scope.names (s.heap.objs.size+1) [] x hx');obtain⟨c',hc'⟩:=CX.mp (cH scope.names (s.heap.objs.size+1) [] y hy');have e1:(Ai (s.heap.objs.size+1) scope.names []++bZ env scope.names []).lookup x=some a:=h1;have e2:(Ai (s.heap.objs.size+1) scope.names []++bZ env scope.names []).lookup y=some a:=h2;rw[CJ,hc]at e1;rw[CJ,hc']at e2
    (have h9:=si e1; clear e1; subst h9); (have h9:=si e2; clear e2; subst h9)
    exact name_of_addr ok.apart (mem_of_lookup hc) (mem_of_lookup hc')
  ·refine⟨⟨hkind,P.Ik.glob,P.Ik.bi,λx hx =>?_,λx hx =>?_,λx hx =>?_,λx hx =>?_⟩,λa ha =>?_,P.fr,P.hd,P.hx,P.So,P.un,P.Qg⟩
   ·exact(hkof x).trans (by rw[show scope.names.lookup x=some .local from hx]; rfl)
   ·exact(hkof x).trans (by rw[show scope.names.lookup x=some .cell from hx]; rfl)
   ·rw[show Env.kindOf _ x=_ from hkof x,show scope.names.lookup x=some .free from hx];simp only[Fg];split
    ·exact .inl rfl
    ·exact .inr ⟨rfl,(hfree x (mem_of_lookup hx)).2.2⟩
   ·exact(hkof x).trans (by rw[show scope.names.lookup x=some .globalImplicit from hx]; rfl)
   ·cases qq:S.h₀.get? a with
    |none=>rfl
    |some o=>have:=N.H.base a o qq; rw[hfr a ha]at this; exact nn this
variable{own':yk yp}
inductive CF where
 |l (e:yr)
 |d (k v:yr)
noncomputable def CF.ex:CF->yk Aa->Ao->Pos->yr
 |.l e,gens,scope,pos=>.ListComp e gens scope pos
 |.d k v,gens,scope,pos=>.DictComp k v gens scope pos
noncomputable def gT(ce:yr)(k:Nat)(target iter:yr)(ifs:yk yr)(acc:yt)(env:Env)(em:Sem yu):Prop:=∀it,compTurn ce k it acc env=(do
  standAt iter.pos
  match <- pyNext it with
  |none=>pure (.done .next)
  |some v =>
   letOwnedTupleGo target it v
   assign target env v
   let mut ok:=true
   for c in ifs do
    if ok then ok <- isTrue c env (eval c env)
   if ok then em
   again (.compLoop ce k it acc env))
variable{gens:yk Aa}{ifs:yk yr}{acc:yt}{em:Sem yu}
theorem jG{R:A5->yy->Prop}{f:CF}{target iter:yr}{it:yt}(hT:gT (f.ex gens scope pos) k target iter ifs acc env em)(I:Nat->yy->Prop)
  (turn:∀n s,I n s->yq (yw S.prog S.w) A (pyNext it) (λr s₁=>match r with
   |none=>R (.ok .next) s₁
   |some v=>yq (yw S.prog S.w) A (letOwnedTupleGo target it v) (λZ s₁=>yq (yw S.prog S.w) A (assign target env v) (λZ s₂ =>
     yq (yw S.prog S.w) A (forIn ifs true λc r=>if r=true then do let ok <- isTrue c env (eval c env); pure (Dl ok)else pure (Dl r)) (λok s₃ =>
      if ok=true then yq (yw S.prog S.w) A em (λZ s₅=>∃m,m<n/\I m s₅) (notedBy (yw S.prog S.w) A env λe s'=>R (.error e) s') s₃
      else ∃m,m<n/\I m s₃) (notedBy (yw S.prog S.w) A env λe s'=>R (.error e) s') s₂) (notedBy (yw S.prog S.w) A env λe s'=>R (.error e) s') s₁) (notedBy (yw S.prog S.w) A env λe s'=>R (.error e) s') s₁) (notedBy (yw S.prog S.w) A env λe s'=>R (.error e) s') s)
  (n:Nat) (h:I n s) :
  zQ (yw S.prog S.w) A (.compLoop (f.ex gens scope pos) k it acc env) R s:=by
 refine codeAny_loop (by cases f<;>rfl) I (λn s hI =>?_) n h;have e:(A.under (.compLoop (f.ex gens scope pos) k it acc env)=A)/\(yw S.prog S.w).den (.compLoop (f.ex gens scope pos) k it acc env)=(compTurn (f.ex gens scope pos) k it acc env).onRaise (λx=>do noteFrame x env; theTreesLotGoes x):=by cases f<;>exact⟨rfl,rfl⟩
 refine(let QQ:=_; let EE:=_; (?_:yq _ _ _ QQ EE _));rw[e.1,e.2];refine wpAny_noted ?_;refine wq (by rw[hT]) ?_;refine yz (A6 (yz (yO (turn n s hI) (λr s₁ h₁ =>?_) λZ Z h'=>h')));refine(let QQ:=_; let EE:=_; (?_:yq _ _ _ QQ EE _));cases r with
 |none=>exact yG h₁
 |some v =>
  refine yz (yO h₁ (λZ s₁ h₁ =>?_) λZ Z h'=>h');refine yz (yO h₁ (λZ s₂ h₂=>yz (yO h₂ (λok s₃ h₃ =>?_) λZ Z h'=>h')) λZ Z h'=>h');cases ok with
  |false=>exact yG ⟨rfl,h₃⟩
  |true=>exact yz (yO h₃ (λ_ s₅ h₅=>yG ⟨rfl,h₅⟩) λZ Z h'=>h')
theorem io{R:A5->yy->Prop}{f:CF}{it:yt}{g:Aa}(hg:gens[k]?=some g)(ha:g.is_async=0)
  (h0:zQ (yw S.prog S.w) A (.compLoop (f.ex gens scope pos) k it acc env) R s)
  (h:yq (yw S.prog S.w) A (pyIter it) (λit' s'=>zQ (yw S.prog S.w) A (.compLoop (f.ex gens scope pos) k it' acc env) R s') (notedBy (yw S.prog S.w) A env λx s'=>R (.error x) s') s) :
  zQ (yw S.prog S.w) A (.compStart (f.ex gens scope pos) k it acc env) R s:=by
 refine codeAny_of_tree ?_;have e:(A.under (.compStart (f.ex gens scope pos) k it acc env)=A)/\(yw S.prog S.w).den (.compStart (f.ex gens scope pos) k it acc env)=(compStart (f.ex gens scope pos) k it acc env).onRaise (λx=>do noteFrame x env; standAt theWindowsPlace)/\clausesOf (f.ex gens scope pos)=gens/\∀it,(Code.compLoop (f.ex gens scope pos) k it acc env).quiet=true:=by cases f<;>exact⟨rfl,rfl,rfl,λZ=>rfl⟩
 refine(let QQ:=_; let EE:=_; (?_:yq _ _ _ QQ EE _));rw[e.1,e.2.1];refine wpAny_notedAt ?_;unfold compStart;rw[e.2.2.1,hg];simp only[Option.elim,ha,bne_self_eq_false,BS,BA];refine yz (wpAny_askSetting (wpAny_ite ?_));split
 ·exact yz (yG (yG ⟨e.2.2.2 _,h0⟩))
 ·exact yz (wpAny_rule (yz (A6 (yz (yO h (λit' s' h'=>yG ⟨e.2.2.2 _,h'⟩) λ_ _ x=>x)))))
noncomputable def n9(S:au)(A:zX)(envs:Frs)(env:Env)(own:yk yp)(cx:Cx)(i:Nat)(D:yp)(m:M yu)(em:Sem yu):Prop :=
 ∀{U:yk yp} {O:St} {s:yy} {O':St} {Q:yy->Prop} {E:yt->yy->Prop},HB S envs env own cx U O s->U[i]?=some D->m O=some (.ok () O') ->
  (∀U' s',HB S envs env own cx U' O' s'->Ext own U O s U' O' s'->Q s')->yq (yw S.prog S.w) A em (λZ s'=>Q s') E s
variable{D:yp}
theorem uB(N:HB S envs env own cx U O s)(hD:U[i]?=some D)(hv:aq U s.heap v c)(hr:eD i v O=some (.ok () O'))
  (hQ:∀cc U' s',HB S envs env own cx U' O' s'->Ext own U O s U' O' s'->Q cc s'):yq (yw S.prog S.w) A (call (.builtin "list.append") [.ref D,c]) Q E s:=by
 have h9:=aN hr; clear hr; obtain⟨_,hr⟩:=h9;have h9:=ad hr; clear hr; obtain⟨vs,hvs,hr⟩:=h9;have hvs:=AO.HP hvs;have h3:=N.H.objs i D hD;rw[hvs]at h3;refine hdZ λGG hGG =>?_;obtain⟨xs,n,hl,hx⟩:=h3;have h9:=az hr; clear hr; obtain⟨hz,hr⟩:=h9;obtain⟨_,hr⟩:=dQ hr;refine hGG ?_;cases hr;have hlen:vs.length=xs.size:=by simpa using hx.length
 rw[yV]at hz;refine C0 Dk ⟨_,hl,rfl⟩ FK (FJ _ _) (list_append D xs n c (yn (hlen▸zC hz) bK)) ⟨hl,?_⟩;obtain⟨_,_,U',e,_,N',X'⟩:=HG.Jc (v:=.none) (c:=.none) (t:=s.toks) N hD ⟨_,hvs⟩ (Bo ..) (Ds hl (λxs=>xs.push c)) (by rw[FA]; exact hx.append (.one hv)) rfl;cases e;exact hQ _ _ _ N' X'
theorem vI(I:HJ S T r d)(P:At S A envs env own cx d)(elt:yr)(i:Nat)(D:yp):n9 S A envs env own cx i D (qu r cx elt i) (do let _ <- call (.builtin "list.append") [.ref D,<-eval elt env]):=λ{U O s O' Q E} N hD hr hQ=>by
 rcases ft (m:=r.ev cx elt) hr with⟨v,σ2,hv,ha⟩|⟨x,σ2,_,e⟩
 ·refine yz ((I.ev P elt).HF hv N λc am2 s2 hR N2 X2 =>?_);exact yz (uB N2 (X2.HU.get hD) hR ha λZ am3 s3 N3 X3=>yG (hQ am3 s3 N3 (X2.trans X3)))
 ·cases e
theorem oS(I:HJ S T r d)(P:At S A envs env own cx d){m:M yu}{Q:yy->Prop}(hem:n9 S A envs env own cx i D m em)(N:HB S envs env own cx U O s)(hD:U[i]?=some D)
  (hr:dw r cx m ifs O=some (.ok () O')) (hQ:∀U' s',HB S envs env own cx U' O' s'->Ext own U O s U' O' s'->Q s') :
  yq (yw S.prog S.w) A (forIn ifs true λc r=>if r=true then do let ok <- isTrue c env (eval c env); pure (Dl ok)else pure (Dl r)) (λok s₃ =>
   if ok=true then yq (yw S.prog S.w) A em (λZ s₅=>Q s₅) E s₃ else Q s₃) E s:=by
 have rest:∀{am1 σ1 s1} (b:yx),HB S envs env own cx am1 σ1 s1->Ext own U O s am1 σ1 s1->((if b then m else pure ()):M yu) σ1=some (.ok () O') ->
   (if b=true then yq (yw S.prog S.w) A em (λZ s₅=>Q s₅) E s1 else Q s1):=by
  intro am1 σ1 s1 b N1 X1 h1;cases b with
  |false=>cases h1; exact hQ am1 s1 N1 X1
  |true =>rw[yo rfl];rw[yo rfl]at h1;exact hem N1 (X1.HU.get hD) h1 λam3 s3 N3 X3=>hQ am3 s3 N3 (X1.trans X3)
 refine(let QQ:=_; let EE:=_; (?_:yq _ _ _ QQ EE _));rcases ft (m:=vw r cx ifs) hr with⟨b,σ1,hb,h1⟩|⟨x,σ1,_,e⟩
 ·cases ifs with
  |nil =>cases hb;exact wpAny_tests_nil (rest true N (.refl ..) h1)
  |cons c r=>cases r with
  |cons _ _=>exact nn hb
  |nil =>refine wpAny_tests_one ((I.tr P c).HF hb N λcc am1 s1 hR N1 X1 =>?_);cases hR;exact rest b N1 X1 h1
 ·cases e
structure iq(am1:yk yp)(h1:yC)(U':yk yp)(h':yC):Prop where
 live:ib h1 h'
 keeps:bq am1 h1 h'
 SP:∀a o,h1.get? a=some o->a∉am1->fZ o->∃o',h'.get? a=some o'/\iP o o'
 HU:c8 am1 U' h1
variable{h1:yC}
theorem iq.run(hS:iq am1 h1 U s.heap)(N:HB S envs env own cx U O s)(X:Ext own U O s U' O' s')(hf:∀a∈own,h1.get? a=none):iq am1 h1 U' s'.heap:=by
 refine⟨hS.live.trans X.heap.live,λa o e hn hc =>?_,λa o e hn ho =>?_,hS.HU.trans X.HU hS.live⟩
 ·exact X.heap.keeps N.F.IY a o (hS.keeps a o e hn hc) (hS.HU.Ii hn e) hc
 ·obtain⟨o',e',st⟩:=hS.SP a o e hn ho;obtain⟨o'',e'',st'⟩:=X.heap.keep a o' e' (hS.HU.Ii hn e) (λhm=>by rw[hf a hm]at e; exact nn e);exact⟨o'',e'',st.trans st'⟩
noncomputable def Sd(am1:yk yp)(h1:yC)(its:yk yp):Prop:=∀a∈its,a∈am1\/∀o,h1.get? a=some o->∃fs,o.data=.fields fs
theorem Sd.no(h:Sd am1 h1 its){o:Obj}(e:h1.get? a=some o)(hn:a∉am1)(hc:fZ o\/(∃xs n,o.data=.seq xs n)):a∉its:=by
 intro hm;rcases h a hm with h|h
 ·exact hn h
 ·obtain⟨fs,hd⟩:=h o e;rcases hc with(⟨es,ep,hc⟩|⟨v,hc⟩)|⟨xs,k,hc⟩<;>(rw[hd]at hc; cases hc)
theorem iq.off(hS:iq am1 h1 U h')(ho:Sd am1 h1 its)(hb:∀b o,b∉its->h'.get? b=some o->h''.get? b=some o) :
  bq am1 h1 h''/\∀a o,h1.get? a=some o->a∉am1->fZ o->∃o',h''.get? a=some o'/\iP o o':=by
 refine⟨λa o e hn hc=>hb a o (ho.no e hn (.inr hc)) (hS.keeps a o e hn hc),λa o e hn hc =>?_⟩;obtain⟨o',e',st⟩:=hS.SP a o e hn hc;exact⟨o',hb a o' (ho.no e hn (.inl hc)) e',st⟩
theorem iq.but(hS:iq am1 h1 U h')(ho:Sd am1 h1 its)(hb:∀b o,b∉its->h'.get? b=some o->h''.get? b=some o)(hl:∀a∈its,∃o,h''.get? a=some o):iq am1 h1 U h'':=by
 obtain⟨k1,k2⟩:=hS.off ho hb;refine⟨λa o e =>?_,k1,k2,hS.HU⟩;by_cases hm:a∈its
 ·exact hl a hm
 ·obtain⟨o',e'⟩:=hS.live a o e;exact⟨o',hb a o' hm e'⟩
theorem Ext.inner(X:Ext own am₀ σ₀ s₀ U O s)(Y:Ext own' U O s U' O' s')(hf:∀a∈own',s₀.heap.get? a=none):Ext own am₀ σ₀ s₀ U' O' s':=by
 refine⟨⟨X.heap.live.trans Y.heap.live,λa o e hn hw =>?_⟩,X.HU.trans Y.HU X.heap.live,λi a kvs v hi e =>?_,λi a o hi e =>?_⟩
 ·obtain⟨o',e',k⟩:=X.heap.keep a o e hn hw;obtain⟨o'',e'',k'⟩:=Y.heap.keep a o' e' (X.HU.Ii hn e) (λhm=>by rw[hf a hm]at e; exact nn e);exact⟨o'',e'',k.trans k'⟩
 ·refine hdZ λGG hGG =>?_;obtain⟨k1,v1,e1,l1,q1⟩:=X.Ie i a kvs v hi e;obtain⟨k2,v2,e2,l2,q2⟩:=Y.Ie i a k1 v1 (X.HU.get hi) e1;refine hGG ?_;refine⟨k2,v2,e2,yn l1 l2,λhv =>?_⟩;have hv1:v1=v:=Be (hv▸l2) l1;obtain⟨a1,b1⟩:=q1 hv1;obtain⟨a2,b2⟩:=q2 (hv.trans hv1.symm);exact⟨a2.trans a1,b2.trans b1⟩
 ·obtain⟨a1,b1⟩:=X.Ij i a o hi e;obtain⟨a2,b2⟩:=Y.Ij i a o (X.HU.get hi) a1;exact⟨a2,b2.trans b1⟩
inductive Nu(S:au)(r:HQ)(envs:Frs)(env:Env)(own:yk yp)(cx:Cx)(A:zX)(O':St)(x:Str)(m:M yu)(ifs:yk yr)(i:Nat)(D:yp)(vs:yk AV)(HE:M yu)(It:yp)(fp:yk yp)(Pv:Nat->yt->Prop)(Wt:Nat->yC->Prop)(Inv:yk yp->St->yy->Prop)(n:Nat)(s':yy):Prop
 |mk (U':yk yp) (O'':St) (u0:n<=vs.length) (u1:d0 HE (λv=>M.bind (bu cx x v) λZ=>dw r cx m ifs) (vs.drop (vs.length-n)) O''=some (.ok () O')) (u2:HB S envs env own cx U' O'' s') (u3:Inv U' O'' s') (u4:U'[i]?=some D) (u5:SW S A own U' O'' s'.heap vs HE It fp Pv Wt (vs.length-n))
variable{px:Pos}
theorem ML(I:HJ S T r d)(P:At S A envs env own cx d){f:CF}{x:Str}{iter:yr}{R:A5->yy->Prop}{m:M yu}
  {HE:M yu} (hT:gT (f.ex gens scope pos) k (.Name x px) iter ifs (.ref D) env em) (hem:n9 S A envs env own cx i D m em) (Inv:yk yp->St->yy->Prop)
  (hrun:∀U O s U' O' s',Inv U O s->HB S envs env own cx U O s->Ext own U O s U' O' s'->Inv U' O' s')
  (hstep:∀U O s s',Inv U O s->IP [It] s s'->(∃o,s'.heap.get? It=some o)->Inv U O s')
  (hend:∀U s s',Inv U O' s->HB S envs env own cx U O' s'->IP [It] s s'->U[i]?=some D->R (.ok .next) s')
  (hchk:∀O p,HE O=some p->p=.ok () O) (W:SW S A own U O s.heap vs HE It fp Pv Wt 0) (N:HB S envs env own cx U O s) (hI:Inv U O s) (hD:U[i]?=some D)
  (hr:d0 HE (λv=>M.bind (bu cx x v) λZ=>dw r cx m ifs) vs O=some (.ok () O')) :
  zQ (yw S.prog S.w) A (.compLoop (f.ex gens scope pos) k (.ref It) (.ref D) env) R s:=by
 refine jG hT (Nu S r envs env own cx A O' x m ifs i D vs HE It fp Pv Wt Inv)
  (λn s' hI=>d4 λK hK =>?_) vs.length ⟨U,O,yF _,by rw[AQ]; exact hr,N,hI,hD,by rw[AQ]; exact W⟩
 refine(let QQ:=_; let EE:=_; (?_:yq _ _ _ QQ EE _));obtain⟨am1,σ1,hn,hr1,N1,X1,D1,W1⟩:=hI;cases n with
 |zero =>rw[Bx,EF]at hr1;cases hr1;rw[Bx]at W1;exact W1.done N1 λs2 N2 hb=>hK _ _ (hend _ _ _ X1 N2 hb D1)
 |succ n =>
  obtain⟨u,hu,hdrop,e9⟩:=j2 hn;rw[hdrop]at hr1;obtain⟨f,σ3,hf,hr3⟩:=cE hr1;refine W1.item N1 hu λv s2 hv N2 hb W2=>hK _ _ (yG (Co ?_));have hIt:∃o,s2.heap.get? It=some o:=by obtain⟨o,_,_,e,_⟩:=W2.shape _ _ W2.st; exact⟨o,e⟩
  have X2:=hstep _ _ _ _ X1 hb hIt;rw[e9]at W2;refine fF P N2 hf hv λσ4 s4 N4 X4 hf4 =>?_;refine oS I P hem N4 (X4.HU.get D1) hf4 λam5 s5 N5 X5 =>?_;obtain⟨hc,hr4⟩:=gQ hchk hr3;exact⟨n,yK _,am5,σ3,zC hn,hr4,N5,hrun _ _ _ _ _ _ (hrun _ _ _ _ _ _ X2 N2 X4) N4 X5,X5.HU.get (X4.HU.get D1),W2.run N2 (X4.trans X5) hc⟩
inductive Nt(S:au)(r:HQ)(envs:Frs)(env:Env)(own:yk yp)(cx:Cx)(O':St)(x:Str)(m:M yu)(ifs:yk yr)(i:Nat)(j:Nat)(D:yp)(a:yp)(It:yp)(Inv:yk yp->St->yy->Prop)(n:Nat)(s':yy):Prop
 |mk (U':yk yp) (O'':St) (k:Nat) (u0:mW (λv=>M.bind (bu cx x v) λZ=>dw r cx m ifs) j n k O''=some (.ok () O')) (u1:HB S envs env own cx U' O'' s') (u2:Inv U' O'' s') (u3:U'[i]?=some D) (u4:U'[j]?=some a) (u5:eY S own U' s'.heap [It]) (u6:s'.heap.IsListIter It a k)
theorem Pj(I:HJ S T r d)(P:At S A envs env own cx d)(hh:A.handled=none){f:CF}{x:Str}{iter:yr}{R:A5->yy->Prop}{m:M yu}
  (hT:gT (f.ex gens scope pos) kk (.Name x px) iter ifs (.ref D) env em) (hem:n9 S A envs env own cx i D m em) (Inv:yk yp->St->yy->Prop)
  (hrun:∀U O s U' O' s',Inv U O s->HB S envs env own cx U O s->Ext own U O s U' O' s'->Inv U' O' s')
  (hstep:∀U O s s',Inv U O s->IP [It] s s'->(∃o,s'.heap.get? It=some o)->Inv U O s')
  (hend:∀U s s',Inv U O' s->HB S envs env own cx U O' s'->IP [It] s s'->U[i]?=some D->R (.ok .next) s')
  (N:HB S envs env own cx U O s) (hI:Inv U O s) (hD:U[i]?=some D) (ha:U[j]?=some a) (hp:eY S own U s.heap [It]) (hit:s.heap.IsListIter It a 0)
  (hr:mW (λv=>M.bind (bu cx x v) λZ=>dw r cx m ifs) j L 0 O=some (.ok () O')) :
  zQ (yw S.prog S.w) A (.compLoop (f.ex gens scope pos) kk (.ref It) (.ref D) env) R s:=by
 refine jG hT (Nt S r envs env own cx O' x m ifs i j D a It Inv)
  (λn s' hI=>d4 λK hK =>?_) L ⟨U,O,0,hr,N,hI,hD,ha,hp,hit⟩
 refine(let QQ:=_; let EE:=_; (?_:yq _ _ _ QQ EE _));obtain⟨am1,σ1,k,hr1,N1,X1,D1,ha1,P1,I1⟩:=hI;cases n with
 |zero=>exact nn hr1
 |succ n =>
  refine hdZ λGG hGG =>?_;obtain⟨_,hr2⟩:=aN hr1;have h9:=ad hr2; clear hr2; obtain⟨vs,hp,hr2⟩:=h9;clear hr1;obtain⟨ys,mm,hl1,hv1⟩:=jp N1 ha1 hp;refine hGG ?_;have h9:=aH hr2; clear hr2; rcases h9 with⟨v,hk,hr2⟩|⟨hk,hr2⟩
  ·refine hdZ λGG hGG =>?_;obtain⟨f,σ3,hf,hr3⟩:=cE hr2;obtain⟨c,hc,hcv⟩:=hv1.get hk;refine hGG ?_;refine vm P1 N1 I1 hl1.isList (by simpa using hc) λs2 hb N2 P2 I2 hk2=>hK _ _ (yG (Co ?_));have X2:=hstep _ _ _ _ X1 hb (Bm (λZ z=>z.1) I2);refine fF P N2 hf (hcv.mono hk2 N1.H.HD (.refl ..)) λσ4 s4 N4 X4 hf4 =>?_;refine oS I P hem N4 (X4.HU.get D1) hf4 λam5 s5 N5 X5 =>?_;obtain⟨P5,I5⟩:=LN P2 I2 (X4.trans X5);exact⟨n,yK _,am5,σ3,k+1,hr3,N5,hrun _ _ _ _ _ _ (hrun _ _ _ _ _ _ X2 N2 X4) N4 X5,X5.HU.get (X4.HU.get D1),(X4.trans X5).HU.get ha1,P5,I5⟩
  ·cases hr2;exact LO hh P1 N1 I1 hl1.isList hv1 hk λs2 hb N2=>hK _ _ (hend _ _ _ X1 N2 hb D1)
theorem kz{its:aw}{f:yu->M β}{q:Res β}(P:At S A envs env own cx d)(h:M.bind (jV cx its) f O=some q):(A.handled=none\/∃ws x,its=.Ip ws/\A.handled=some (.ref x)/\envs.x=some x)/\f () O=some q:=by
 unfold jV at h;cases hc:cx.HR with
 |false=>rw[hc]at h; exact⟨.inl (P.hd hc),h⟩
 |true =>
  cases hx:cx.xn with
  |false=>rw[hc,hx]at h; exact nn h
  |true =>
   rw[hc,hx]at h;obtain⟨b,h1,h2⟩:=P.hx hx;cases its with
   |Ip ws=>exact⟨.inr ⟨ws,b,rfl,h1,h2⟩,h⟩
   |_=>exact nn h
inductive nD(S:au)(A:zX)(own U:yk yp)(O:St)(h:yC)(It:yp)(its:aw):Prop
 |sw (vs:yk AV) (HE:M yu) (fp:yk yp) (Pv:Nat->yt->Prop) (Wt:Nat->yC->Prop) (hs:kJ its=some (vs,HE)) (W:SW S A own U O h vs HE It fp Pv Wt 0)
 |hl (i:Nat) (a:yp) (e:its=.HY i) (hh:A.handled=none) (ha:U[i]?=some a) (hp:eY S own U h [It]) (hit:h.IsListIter It a 0)
theorem nD.Ic{its:aw}(h:nD S A own U O s.heap It its):eY S own U s.heap [It]:=by
 cases h with
 |sw vs HE fp Pv Wt hs W=>exact W.Ic
 |hl i a e hh ha hp hit=>exact hp
theorem mT(B:Base S T){its:aw}{x:yt}(hh:A.handled=none\/∃ws x,its=.Ip ws/\A.handled=some (.ref x)/\envs.x=some x)(N:HB S envs env own cx U O s)(hx:UY S own hb O U s.heap its x)
  {cx':Cx} {m:M yu} (hg:eQ L r cx' m t ifs its σ₁=some q)
  (h:∀s',HB S envs env own cx U O s'->aF s s'->nD S A own U O s'.heap s.heap.objs.size its->Q (.ref s.heap.objs.size) s'):yq (yw S.prog S.w) A (pyIter x) Q E s:=by
 cases hs:kJ its with
 |some p=>exact rG hh B.Jh N hx hs λs2 fp Pv Wt N2 Q2 W=>h s2 N2 Q2 (.sw p.1 p.2 fp Pv Wt hs W)
 |none =>
  cases its with
  |HY i =>have h0:=hh.resolve_right (λh=>by obtain⟨_,_,e,_⟩:=h; cases e);obtain⟨a,rfl,ha,us,hl⟩:=hx;obtain⟨ys,mm,hl1,hv1⟩:=jp N ha hl;refine C4 hl1.isList ?_;exact h _ (N.quiet (.push s _ s.toks)) (.push s _ s.toks) (.hl i a rfl h0 ha (cG N rfl rfl rfl) ⟨_,y6 _ rfl,rfl,rfl⟩)
  |Ip vs=>cases hs
  |seq vs=>cases hs
  |H7 i v vs=>cases hs
  |pairs o vs =>refine(let QQ:=_; let EE:=_; (?_:yq _ _ _ QQ EE _));cases t<;>exact nn hg
theorem qy{m:M yu}{its:aw}(h:eQ L r cx m t ifs its O=some q):∃x p,t=.Name x p:=by
 cases t<;>first
  |exact nn h
  |exact⟨_,_,rfl⟩
theorem oU(I:HJ S T r d)(P:At S A envs env own cx d){f:CF}{g:Aa}{R:A5->yy->Prop}{m:M yu}{its:aw}(hgk:gens[k]?=some g)(ha:g.is_async=0)
  (hT:gT (f.ex gens scope pos) k g.target g.iter g.ifs (.ref D) env em) (hem:n9 S A envs env own cx i D m em) (Inv:yk yp->St->yy->Prop)
  (hrun:∀U O s U' O' s',Inv U O s->HB S envs env own cx U O s->Ext own U O s U' O' s'->Inv U' O' s')
  (hstep:∀U O s s',Inv U O s->IP [It] s s'->(∃o,s'.heap.get? It=some o)->Inv U O s')
  (hend:∀U s s',Inv U O' s->HB S envs env own cx U O' s'->IP [It] s s'->U[i]?=some D->R (.ok .next) s')
  (W:nD S A own U O s.heap It its) (N:HB S envs env own cx U O s) (hI:Inv U O s) (hD:U[i]?=some D) (hr:eQ L r cx m g.target g.ifs its O=some (.ok () O')) :
  zQ (yw S.prog S.w) A (.compStart (f.ex gens scope pos) k (.ref It) (.ref D) env) R s:=by
 obtain⟨x,px,ht⟩:=qy hr;rw[ht]at hT hr;cases W with
 |sw vs HE fp Pv Wt hs W =>
  have hr2:d0 HE (λv=>M.bind (bu cx x v) λZ=>dw r cx m g.ifs) vs O=some (.ok () O'):=by cases its<;>(first|exact nn hs|cases hs)<;>exact hr
  have loop:=ML I P hT hem Inv hrun hstep hend (kJ.HE hs) W N hI hD hr2;exact io hgk ha loop (W.walk.self 0 _ _ _ W.st loop)
 |hl j a e hh hj hp hit =>subst e;have loop:=Pj I P hh hT hem Inv hrun hstep hend N hI hD hj hp hit hr;exact io hgk ha loop (wpAny_pyIter_listiter hit loop)
theorem MC(B:Base S T)(I:HJ S T r d)(P:At S A envs env own cx d){f:CF}{g:Aa}{m:M yu}(hgk:gens[k]?=some g)
  (hT:gT (f.ex gens scope pos) k g.target g.iter g.ifs (.ref D) env em) (hem:n9 S A envs env own cx i D m em):n9 S A envs env own cx i D (mU L r cx m [g]) (do
   let x <- eval g.iter env
   standAt g.iter.pos
   let x <- foldedSetIterable g.iter env x;let _ <- runOwn (.compStart (f.ex gens scope pos) k (<- holding [x] (pyIter x)) (.ref D) env) env):=λ{U O s O' Q E} N hD hr hQ=>by
 have h9:=az hr; clear hr; obtain⟨hc,hr⟩:=h9;refine(let QQ:=_; let EE:=_; (?_:yq _ _ _ QQ EE _));obtain⟨ha,hset⟩:=yS.mp hc;have ha:g.is_async=0:=by simpa using ha
 rcases ju hr with⟨xx,σe,he,e⟩|⟨its,σ1,he,hr1⟩
 ·cases e
 refine yz (yO (I.its P he N) (λc s1 hc =>?_) (λe s' h =>?_))
 rotate_left
 ·obtain⟨_,_,_,e1,_⟩:=h; cases e1
 obtain⟨its',O1',am1,e1,hI,N1,X1⟩:=hc;cases e1;obtain⟨hh,hr2⟩:=kz P hr1;refine yz (A6 (yz (Cq (vf (by simpa using hset) c) (yz (zw (mT B hh N1 hI hr2 λs2 N2 Q2 W =>?_))))));have X2:=X1.trans (N1.H.H2 (own:=own) Q2);refine yz (wpAny_runOwn (oU I P hgk ha hT hem (λU' O' s'=>Ext own U O s U' O' s') (λ_ _ _ _ _ _ X Z Y=>X.trans Y) (λ_ _ _ _ X hb hl=>Ext.but N.H X (λa ha=>by simp at ha; subst ha; exact X1.Ox) hb) (λam3 s3 s4 X N3 hb hD3 =>?_) W N2 X2 (X2.HU.get hD) hr2));exact yG (hQ am3 s4 N3 (Ext.but N.H X (λa ha=>by simp at ha; subst ha; exact X1.Ox) hb))
theorem Pe(I:HJ S T r d)(P:At S A envs env own cx d)(kx vx:yr)(i:Nat)(D:yp):n9 S A envs env own cx i D (uo r cx kx vx i) (do
  let kv <- eval kx env;let vv <- holding [kv] (eval vx env)
  standAt {kx.pos with endLine:=vx.pos.endLine,endCol:=vx.pos.endCol}
  holding [kv,vv] (dictSet D kv vv)):=λ{U O s O' Q E} N hD hr hQ=>by
 refine(let QQ:=_; let EE:=_; (?_:yq _ _ _ QQ EE _));rcases ft (m:=r.ev cx kx) hr with⟨kv,σ1,h1,hr1⟩|⟨x,σ2,_,e⟩
 rotate_left
 ·cases e
 rcases ft (m:=r.ev cx vx) hr1 with⟨vv,σ2,h2,hr2⟩|⟨x,σ2,_,e⟩
 rotate_left
 ·cases e
 refine yz ((I.ev P kx).HF h1 N λck am1 s1 hk N1 X1 =>?_);refine yz (zw ((I.ev P vx).HF h2 N1 λcv am2 s2 hv N2 X2 =>?_));refine yz (A6 (zw ?_));have hD2:am2[i]?=some D:=X2.HU.get (X1.HU.get hD);have hk2:=hk.ext N1 X2;have h9:=ad hr2; clear hr2; obtain⟨k,hki,hr2⟩:=h9;have h9:=aN hr2; clear hr2; obtain⟨hjn,hr2⟩:=h9;have h9:=ad hr2; clear hr2; obtain⟨dd,hd,hr2⟩:=h9;have h9:=az hr2; clear hr2; obtain⟨hz,hr2⟩:=h9;obtain⟨_,e⟩:=dQ hr2;cases e;refine hdZ λGG hGG =>?_;obtain⟨t,rfl⟩:=hk2.ofInt hki;obtain⟨x,cs,e,hx,hp,hDD,hpr⟩:=jE N2 (co:=.ref D) (o:=.ref i) ⟨D,rfl,hD2⟩ rfl hd;refine hGG ?_;cases e;refine wpAny_dictSet_pairs (knd:=y1 S.prog S.w) (iG k t) hDD (λh' hd' hs =>?_) (by rw[<-hpr.length]; exact yn hz bK);obtain⟨_,σ3,am3,e,_,N3,X3⟩:=N2.Ju (t:=s2.toks+1) hx hp hs hd' (aC.stored hpr hv);cases e;exact hQ _ _ N3 ((X1.trans X2).trans X3)
structure Lay(own' U:yk yp)(O:St)(s:yy)(D:yp)(o:AO)(U':yk yp)(O':St)(s':yy):Prop where
 q:aF s s'
 US:U'=U++[D]
 hp:O'.hp=upd O.hp O.nx o
 D_:s.heap.get? D=none
 Uv:∀a∈own',s.heap.get? a=none
 len:U.length=O.nx
theorem Lay.get(l:Lay own' U O s D o U' O' s')(h:U[i]?=some a):U'[i]?=some a/\O'.hp i=O.hp i:=by have h8:=y2.mp h;have hi:=h8.1;refine⟨by rw[l.US,AD hi]; exact h,?_⟩;rw[l.hp,upd,ym (by have:=l.len; lia)]
theorem Lay.P7(l:Lay own' U O s D o U' O' s')(h:a∉U)(e:s.heap.get? a=some ob):a∉U':=by
 rw[l.US]; intro hm;rcases y3.mp hm with hm|hm
 ·exact h hm
 ·simp at hm; subst hm; rw[l.D_]at e; exact nn e
theorem Lay.Lf(l:Lay own' U O s D o U' O' s')(e:s.heap.get? a=some ob):a∉own':=λhm=>by rw[l.Uv a hm]at e; exact nn e
theorem Lay.HU(l:Lay own' U O s D o U' O' s'):c8 U U' s.heap:=⟨⟨[D],l.US,by simpa using l.D_⟩⟩
theorem Lay.Ic(l:Lay own' U O s D o U' O' s')(h:eY S own U s.heap its):eY S own' U' s'.heap its:=by intro a ha;refine hdZ λGG hGG =>?_;obtain⟨h1,h2,h3,ob,fs,n,e,hc,hd⟩:=h a ha;refine hGG ?_;exact⟨l.P7 h1 e,l.Lf e,h3,ob,fs,n,l.q.keep a ob e,hc,hd⟩
theorem Lay.fixed(l:Lay own' U O s D o U' O' s'){HE:M yu}{b:yp}(h:dP own U O s.heap HE b):dP own' U' O' s'.heap HE b:=by
 rcases h with⟨h1,h2,ob,xs,n,e,hd⟩|⟨i,ver,kvs,hi,e,rfl⟩|⟨i,vs,hi,e⟩
 ·exact .inl ⟨l.P7 h1 e,l.Lf e,ob,xs,n,l.q.keep b ob e,hd⟩
 ·exact .inr (.inl ⟨i,ver,kvs,(l.get hi).1,(l.get hi).2.trans e,rfl⟩)
 ·exact .inr (.inr ⟨i,vs,(l.get hi).1,by rw[(l.get hi).2]; exact e⟩)
theorem Lay.sw(l:Lay own' U O s D o U' O' s'){HE:M yu}(ok:fw U s.heap)
  (W:SW S A own U O s.heap vs HE I fp P Wt i):SW S A own' U' O' s'.heap vs HE I fp P Wt i:=by
 refine⟨W.walk,W.walk.frame i _ _ W.st λb hb ob e=>l.q.keep b ob e,l.Ic W.Ic,W.shape,λb hb =>?_,λj v u hP hu=>(W.vals j v u hP hu).mono (l.q.keeps U) ok l.HU.x⟩;rcases W.fix b hb with q|⟨q,hf⟩
 ·exact .inl q
 ·exact .inr ⟨q,l.fixed hf⟩
theorem Lay.begun(l:Lay own' U O s D o U' O' s'){its:aw}(ok:fw U s.heap)(W:nD S A own U O s.heap It its):nD S A own' U' O' s'.heap It its:=by
 cases W with
 |sw vs HE fp Pv Wt hs W=>exact .sw vs HE fp Pv Wt hs (l.sw ok W)
 |hl i a e hh ha hp hit=>exact .hl i a e hh (l.get ha).1 (l.Ic hp) (hit.at λo e=>l.q.keep _ o e)
theorem MN{am3 am5:yk yp}{σ3 σ5:St}{s3 s4 s5 s5':yy}{cenv:Env}(H₀:a9 S envs am₀ σ₀ s₀)(N3:HB S envs env own cx am3 σ3 s3)(X3:Ext own am₀ σ₀ s₀ am3 σ3 s3)
  (hits0:∀a∈its,s₀.heap.get? a=none) (hodd:Sd am3 s3.heap its) (IC:InComp S A envs env cx d scope am3 σ3 s3 cenv s4 own')
  (hX:Ext own am₀ σ₀ s₀ am5 σ5 s5) (hS:iq am3 s3.heap am5 s5.heap) (N5:HB S envs {cenv with scope:=relabel scope env} own' (iK cx scope σ3.loc) am5 σ5 s5') (hb:IP its s5 s5') :
  ∃m,s5'.heap.Ns cenv.locals m/\∀h',zY cenv.locals s5'.heap h' ->
   HB S envs env own cx am5 {σ5 with loc:=σ3.loc} {s5' with heap:=h'}/\Ext own am₀ σ₀ s₀ am5 {σ5 with loc:=σ3.loc} {s5' with heap:=h'}:=by
 obtain⟨m,hm,_⟩:=N5.F.ns;refine⟨m,hm,λh' hs =>?_⟩;have hC3:s3.heap.get? cenv.locals=none:=IC.fresh _ IC.loc;have hC0:s₀.heap.get? cenv.locals=none:=X3.heap.live.none hC3;have hCb:S.h₀.get? cenv.locals=none:=IC.at_.hi _ IC.loc;refine hdZ λGG hGG =>?_;obtain⟨hCam,oC,eC,hoC⟩:=N5.F.HZ _ IC.loc;refine hGG ?_;have hbC:IP [cenv.locals] s5' {s5' with heap:=h'}:=⟨λb ob hb e=>hs.extBut b ob (by simpa using hb) e,rfl,rfl⟩;have hk5:bq am5 s5'.heap h':=by intro a ob e hn hc;refine hs.extBut a ob (λq =>?_) e;subst q;rw[eC]at e; (have h9:=si e; clear e; subst h9);obtain⟨xs,n,hc⟩:=hc; rcases hoC with⟨es,ep,hd⟩|⟨v,hd⟩<;>(rw[hd]at hc; cases hc)
 have hodd':Sd am3 s3.heap (cenv.locals::its):=by
  intro a ha;rcases yP.mp ha with rfl|ha
  ·exact .inr λob e=>by rw[hC3]at e; exact nn e
  ·exact hodd a ha
 have hb2:∀b ob,b∉cenv.locals::its->s5.heap.get? b=some ob->h'.get? b=some ob:=λb ob hb' e=>by simp at hb';exact hs.extBut b ob hb'.1 (hb.1 b ob hb'.2 e)
 obtain⟨k1,k2⟩:=hS.off hodd' hb2;have H5:=N5.H;refine⟨⟨⟨?_,H5.gens,H5.os,H5.len,H5.nodup,H5.above,?_,?_,H5.xs⟩,N3.F.ext' k1 k2 N3.H.HD hS.HU.x⟩,?_⟩
 ·intro b ob e;exact hs.extBut b ob (λq=>by rw[q,hCb]at e; exact nn e) (H5.base b ob e)
 ·intro i a hi;obtain⟨ob,e,_⟩:=(H5.objs i a hi).cls;have hne:a≠cenv.locals:=λq=>hCam (q▸zy hi);exact(H5.objs i a hi).mono hk5 H5.HD (.refl ..) (hs.2 a hne)
 ·intro e he;refine hdZ λGG hGG =>?_;obtain⟨hk',L,ob,es,ep,h1,h2,h3⟩:=H5.IK e he;obtain⟨_,L',ob',_,_,h1',h2',_⟩:=N3.H.IK e he;refine hGG ?_;rw[h1]at h1'; (have h9:=si h1'; clear h1'; subst h9);exact⟨hk',L,ob,es,ep,h1,hs.extBut L ob (λq=>by rw[q,hC3]at h2'; exact nn h2') h2,h3⟩
 ·have e:=Ext.but H₀ (Ext.but H₀ hX hits0 hb) (λa ha=>by simp at ha; subst ha; exact hC0) hbC;exact⟨e.heap,e.HU,e.Ie,e.Ij⟩
theorem HB.freeze(N:HB S envs env own cx U O s)(hi:U[i]?=some a)(h:O.hp i=.list vs) :
  HB S envs env own cx U {O with hp:=upd O.hp i (.frozen vs)} s/\Ext own U O s U {O with hp:=upd O.hp i (.frozen vs)} s:=by
 have h1:=N.H.objs i a hi;rw[h]at h1;exact N.write (t:=s.toks) (h':=s.heap) hi ⟨rfl,λZ Z=>rfl⟩ (o:=.frozen vs) h1 (λkvs v e=>by rw[h]at e; cases e) (λvs e=>by rw[h]at e; obtain⟨rfl,e⟩:=e; exact e)
variable{fz:yx}
theorem ud{q:Res AV}(N:HB S envs env own cx U O s)(hi:U[i]?=some a)(hr:M.bind (if fz then freeze i else pure ()) (λZ=>pure (.ref i)) O=some q) :
  ∃O',q=.ok (.ref i) O'/\HB S envs env own cx U O' s/\Ext own U O s U O' s:=by
 cases fz with
 |false=>(have h9:=si hr; clear hr; subst h9); exact⟨O,rfl,N,.refl ..⟩
 |true =>
  rw[yo rfl]at hr;rcases ft hr with⟨_,σ1,h1,h2⟩|⟨x,σ1,h1,_⟩
  ·(have h9:=si h2; clear h2; subst h9)
   have h9:=aN h1; clear h1; obtain⟨_,h1⟩:=h9;have h9:=ad h1; clear h1; obtain⟨vs,hp,h1⟩:=h9;obtain⟨_,h1⟩:=dQ h1;cases h1;obtain⟨a1,a2⟩:=N.freeze hi (AO.HP hp);exact⟨_,rfl,a1,a2⟩
  ·have h9:=aN h1; clear h1; obtain⟨_,h1⟩:=h9;have h9:=ad h1; clear h1; obtain⟨vs,hp,h1⟩:=h9;have h8:=dQ h1;have h1:=h8.2;cases h1
variable{gs:yk Aa}
theorem kp{it:yr}{n:Int}(h:tM gens=some (⟨t,it,ifs,n⟩,gs)):n=0/\gens=⟨t,it,ifs,0⟩::gs/\gs.length<=1/\∀g∈gs,g.is_async=0:=by
 cases gens with
 |nil=>exact nn h
 |cons g gs' =>
  obtain⟨hc,e⟩:=aZ h;obtain⟨hc,h2⟩:=yS.mp hc;obtain⟨h1,h3⟩:=yS.mp hc;cases e;have:n=0:=by simpa using h1
  subst this;exact⟨rfl,rfl,by simpa using h2,λg hg=>by simpa using BZ.mp h3 g hg⟩
theorem jz{m:M α}{f:α->M β}{q:Res β}(h:M.bind (dz m) f O=some q):∃a O',m {O with loc:=λZ=>none}=some (.ok a O')/\f a {O' with loc:=O.loc}=some q:=by
 unfold M.bind dz at h;cases e:m {O with loc:=λZ=>none}with
 |none=>rw[e]at h; exact nn h
 |some p =>
  cases p with
  |ok a O'=>rw[e]at h; exact⟨a,O',rfl,h⟩
  |err x O'=>rw[e]at h; exact nn h
theorem rq{f:Nat->M β}{q:Res β}(h:M.bind (new o) f O=some q):f O.nx {O with hp:=upd O.hp O.nx o,nx:=O.nx+1}=some q:=h
variable{newAcc:Sem yt}
theorem xS(I:HJ S T r d)(P:At S A envs env own cx d){f:CF}{g:Aa}{its:aw}{s2:yy}{q:Res AV}
  {mm:Cx->Nat->M yu} {em:Env->yp->Sem yu} (hok:j3 cx scope=true) (hgk:gens[0]?=some g) (ha:g.is_async=0)
  (hT:∀env' D,gT (f.ex gens scope pos) 0 g.target g.iter g.ifs (.ref D) env' (em env' D)) (hem:∀{env' own' cx'} D i,At S A envs env' own' cx' d->n9 S A envs env' own' cx' i D (mm cx' i) (em env' D))
  (hacc:∀(Q:yt->yy->Prop) (E:yt->yy->Prop),Q (.ref s2.heap.objs.size) {s2 with heap:=s2.heap.push ob}->yq (yw S.prog S.w) A newAcc Q E s2) (hob:dN S.prog S.w S.P (am1++[s2.heap.objs.size]) (s2.heap.push ob) s2.heap.objs.size o)
  (N₀:HB S envs env own cx am₀ σ₀ s₀) (N2:HB S envs env own cx am1 σ1 s2) (X2:Ext own am₀ σ₀ s₀ am1 σ1 s2) (hit0:s₀.heap.get? It=none) (W:nD S A own am1 σ1 s2.heap It its)
  (hr:M.bind (new o) (λi=>M.bind (λO=>dz (eQ L r (iK cx scope O.loc) (mm (iK cx scope O.loc) i) g.target g.ifs its) O) λZ=>M.bind (Mf fz i) λZ=>pure (.ref i)) σ1=some q) :
  yq (yw S.prog S.w) A newAcc (λacc s₃=>yq (yw S.prog S.w) A (newFunctionEnv scope env.globals (bZ env scope.names []) [] env.qual none .none (some env)) (λcenv s₄ =>
   zQ (yw S.prog S.w) A (.compStart (f.ex gens scope pos) 0 (.ref It) acc {cenv with scope:=relabel scope env}) (compPost (yw S.prog S.w) A E none (HG S envs env own cx aq am₀ σ₀ s₀ q) acc cenv.locals) s₄) E s₃) E s2:=by
 refine hacc _ _ ?_;have Q3:aF s2 {s2 with heap:=s2.heap.push ob}:=.push s2 _ s2.toks;have hDn:s2.heap.get? s2.heap.objs.size=none:=zm (yF _);refine hdZ λGG hGG =>?_;obtain⟨N3,X3⟩:=N2.alloc Q3 hDn (o:=o) hob;have hr3:=rq hr;obtain⟨_,σ5,hg,hfz⟩:=jz (O:={σ1 with hp:=upd σ1.hp σ1.nx o,nx:=σ1.nx+1}) hr3;refine hGG ?_;have hX03:=X2.trans X3;refine(sq P N3 hok).2 λcenv s4 own' IC =>?_;have hidx:(am1++[s2.heap.objs.size])[σ1.nx]?=some s2.heap.objs.size:=by rw[<-N2.H.len,A9 (yF _)]; simp
 have lay:Lay own' am1 σ1 s2 s2.heap.objs.size o (am1++[s2.heap.objs.size]) {σ1 with hp:=upd σ1.hp σ1.nx o,nx:=σ1.nx+1,loc:=λZ=>none} s4 :=
  ⟨Q3.trans IC.quiet,rfl,rfl,hDn,λa ha=>ib.none (λb o e=>⟨o,Q3.keep b o e⟩) (IC.fresh a ha),N2.H.len⟩
 have hfr0:∀a∈own',s₀.heap.get? a=none:=λa ha=>hX03.heap.live.none (IC.fresh a ha);have hits0:∀a∈[It],s₀.heap.get? a=none:=λa ha=>by simp at ha; subst ha; exact hit0
 have hodd3:Sd (am1++[s2.heap.objs.size]) (s2.heap.push ob) [It]:=by intro a ha;refine hdZ λGG hGG =>?_;obtain⟨_,_,_,o,fs,n,e,hc,hd⟩:=W.Ic a ha;refine hGG ?_;refine .inr λo' e' =>?_;have:=Q3.keep a o e;rw[show Heap.get? _ a=_ from e']at this; (have h9:=si this; clear this; subst h9);exact⟨fs,hd⟩
 refine oU I IC.at_ hgk ha (hT _ _) (hem _ _ IC.at_) (λU' O' s'=>Ext own am₀ σ₀ s₀ U' O' s'/\iq (am1++[s2.heap.objs.size]) (s2.heap.push ob) U' s'.heap)
  (λa b c a' b' c' hI hN hX=>⟨hI.1.inner hX hfr0,hI.2.run hN hX IC.fresh⟩) (λa b c c' hI hb hl=>⟨Ext.but N₀.H hI.1 hits0 hb,hI.2.but hodd3 hb.1 λa ha=>by simp at ha; subst ha; exact hl⟩) (λam5 s5 s5' hI N5 hb hD5 =>?_) (lay.begun N2.H.HD W) IC.now ⟨?_,?_⟩ hidx hg
 ·obtain⟨m,hm,hend⟩:=MN N₀.H N3 hX03 hits0 hodd3 IC hI.1 hI.2 N5 hb;refine⟨m,hm,λh' hs =>?_⟩;obtain⟨N6,X6⟩:=hend h' hs;obtain⟨σ7,rfl,N7,X7⟩:=ud N6 hD5 hfz;exact⟨_,σ7,am5,rfl,⟨_,rfl,hD5⟩,N7,X6.trans X7⟩
 ·have e:=hX03.trans (N3.H.H2 (own:=own) IC.quiet);exact⟨e.heap,e.HU,e.Ie,e.Ij⟩
 ·exact⟨λa o e=>⟨o,IC.quiet.keep a o e⟩,λa o e Z Z=>IC.quiet.keep a o e,λa o e Z Z=>⟨o,IC.quiet.keep a o e,.refl _⟩,.refl ..⟩
theorem qp(B:Base S T)(I:HJ S T r d)(P:At S A envs env own cx d){f:CF}{it:yr}{mm:Cx->Nat->M yu}{em:Env->yp->Sem yu}
  (hok:j3 cx scope=true) (hset:gK it=false) (hcl:clausesOf (f.ex (⟨t,it,ifs,0⟩::gs) scope pos)=⟨t,it,ifs,0⟩::gs)
  (hev:eval (f.ex (⟨t,it,ifs,0⟩::gs) scope pos) env=comprehension (f.ex (⟨t,it,ifs,0⟩::gs) scope pos) scope env (firstIterPos (⟨t,it,ifs,0⟩::gs) pos) newAcc false (eval it env))
  (hT:∀env' D,gT (f.ex (⟨t,it,ifs,0⟩::gs) scope pos) 0 t it ifs (.ref D) env' (em env' D)) (hem:∀{env' own' cx'} D i,At S A envs env' own' cx' d->n9 S A envs env' own' cx' i D (mm cx' i) (em env' D))
  (hacc:∀s2 (Q:yt->yy->Prop) (E:yt->yy->Prop),Q (.ref s2.heap.objs.size) {s2 with heap:=s2.heap.push ob}->yq (yw S.prog S.w) A newAcc Q E s2)
  (hob:∀(am1:yk yp) (h:yC),dN S.prog S.w S.P (am1++[h.objs.size]) (h.push ob) h.objs.size o) :
  HN S A envs env own cx aq (eval (f.ex (⟨t,it,ifs,0⟩::gs) scope pos) env)
   (M.bind (r.its cx it) λits=>M.bind (jV cx its) λZ=>M.bind (new o) λi=>M.bind (λO=>dz (eQ L r (iK cx scope O.loc) (mm (iK cx scope O.loc) i) t ifs its) O) λZ=>M.bind (Mf fz i) λZ=>pure (.ref i)):=by
 intro U O s q hr N;refine(let QQ:=_; let EE:=_; (?_:yq _ _ _ QQ EE _));obtain⟨hkind,hall⟩:=mV hok;rw[hev];refine wpAny_comprehension_free (use:=none) hcl (vf hset) (sq (Q:=λZ Z=>True) (E:=λZ Z=>True) P N hok).1 hkind (λx hx hl =>?_) ?_
 ·have:=hall x hx;rw[hl]at this;simpa using this
 refine d4 λK hK =>?_;rcases ju hr with⟨xx,σe,he,rfl⟩|⟨its,σ1,he,hr1⟩
 ·refine yO (I.its P he N) (λc s' hc =>?_) (λe s' h=>h.Jx);obtain⟨_,_,_,e1,_⟩:=hc; cases e1
 refine yO (I.its P he N) (λc s1 hc =>?_) (λe s' h=>h.no);obtain⟨its',O1',am1,e1,hI,N1,X1⟩:=hc;cases e1;obtain⟨hh,hr2⟩:=kz P hr1;obtain⟨_,σ5,hg,_⟩:=jz (O:={σ1 with hp:=upd σ1.hp σ1.nx o,nx:=σ1.nx+1}) (rq hr2);refine hK _ _ (mT B hh N1 hI hg λs2 N2 Q2 W =>?_);exact xS I P (g:=⟨t,it,ifs,0⟩) hok rfl rfl hT hem (hacc s2) (hob am1 s2.heap) N N2 (X1.trans (N1.H.H2 Q2)) X1.Ox W hr2
theorem J5(elt t it t2 it2:yr)(ifs ifs2:yk yr)(scope:Ao)(pos:Pos)(env':Env)(D:yp):gT ((CF.l elt).ex [⟨t,it,ifs,0⟩,⟨t2,it2,ifs2,0⟩] scope pos) 0 t it ifs (.ref D) env' (do
   let x <- eval it2 env'
   standAt it2.pos
   let x <- foldedSetIterable it2 env' x;let _ <- runOwn (.compStart ((CF.l elt).ex [⟨t,it,ifs,0⟩,⟨t2,it2,ifs2,0⟩] scope pos) 1 (<- holding [x] (pyIter x)) (.ref D) env') env'):=λjt=>by
 simp only[bind_assoc,pure_bind];rfl
theorem r9(B:Base S T)(I:HJ S T r d)(P:At S A envs env own cx d)(elt:yr)(gens:yk Aa)(scope:Ao)(pos:Pos)(fz:yx)(L:Nat):HN S A envs env own cx aq (eval (.ListComp elt gens scope pos) env) (mI L r cx elt gens scope fz):=by
 intro U O s q hr N;refine(let QQ:=_; let EE:=_; (?_:yq _ _ _ QQ EE _));obtain⟨g,hg,hr1⟩:=ad hr;have h9:=az hr1; clear hr1; obtain⟨hc,hr1⟩:=h9;obtain⟨h1,h2⟩:=yS.mp hc;clear hr;obtain⟨⟨t,it,ifs,n⟩,gs⟩:=g;obtain⟨rfl,rfl,hl,ha2⟩:=kp hg;have hl1:∀(am1:yk yp) (h:yC),dN S.prog S.w S.P (am1++[h.objs.size]) (h.push {cls:=.type "list",dict:=none,data:=.seq ([]:yk yt).toArray}) h.objs.size (.list []):=λam1 h=>⟨#[],_,y6 _ rfl,rfl⟩;have ha:∀s2 (Q:yt->yy->Prop) (E:yt->yy->Prop),Q (.ref s2.heap.objs.size) {s2 with heap:=s2.heap.push {cls:=.type "list",dict:=none,data:=.seq ([]:yk yt).toArray}}->yq (yw S.prog S.w) A (newList []) Q E s2:=λs2 Q E h=>BR h;cases gs with
 |nil=>exact qp (f:=.l elt) (gs:=[]) (fz:=fz) (L:=L) (mm:=λcx' i=>qu r cx' elt i) (em:=λenv' D=>(do let _ <- call (.builtin "list.append") [.ref D,<-eval elt env'])) B I P h1 (by simpa using h2) rfl rfl (λenv' D it=>rfl) (λD i P'=>vI I P' elt i D) ha hl1 U O s q hr1 N
 |cons g2 gs =>
  cases gs with
  |cons _ _=>exact yD hl (by simp)
  |nil =>obtain⟨t2,it2,ifs2,n2⟩:=g2;obtain rfl:n2=0:=ha2 ⟨t2,it2,ifs2,n2⟩ yY;exact qp (f:=.l elt) (gs:=[⟨t2,it2,ifs2,0⟩]) (fz:=fz) (L:=L) (mm:=λcx' i=>mU L r cx' (qu r cx' elt i) [⟨t2,it2,ifs2,0⟩]) B I P h1 (by simpa using h2) rfl rfl (λenv' D=>J5 elt t it t2 it2 ifs ifs2 scope pos env' D) (λ{env' own' cx'} D i P'=>MC B I P' (f:=.l elt) (gens:=[⟨t,it,ifs,0⟩,⟨t2,it2,ifs2,0⟩]) (g:=⟨t2,it2,ifs2,0⟩) (k:=1) (scope:=scope) (pos:=pos) (em:=(do let _ <- call (.builtin "list.append") [.ref D,<-eval elt env'])) rfl (λit=>rfl) (vI I P' elt i D)) ha hl1 U O s q hr1 N
theorem sa(B:Base S T)(I:HJ S T r d)(P:At S A envs env own cx d)(k v:yr)(gens:yk Aa)(scope:Ao)(pos:Pos)(L:Nat):HN S A envs env own cx aq (eval (.DictComp k v gens scope pos) env) (mJ L r cx k v gens scope):=by intro U O s q hr N;refine(let QQ:=_; let EE:=_; (?_:yq _ _ _ QQ EE _));refine hdZ λGG hGG =>?_;obtain⟨g,hg,hr1⟩:=ad hr;have h9:=az hr1; clear hr1; obtain⟨hc,hr1⟩:=h9;obtain⟨hc,h3⟩:=yS.mp hc;obtain⟨h1,h2⟩:=yS.mp hc;clear hr;obtain⟨⟨t,it,ifs,n⟩,gs⟩:=g;obtain⟨rfl,rfl,hl,ha2⟩:=kp hg;refine hGG ?_;obtain rfl:=zv.mp h3;refine qp (f:=.d k v) (gs:=[]) (fz:=false) (L:=L) (o:=.dict [] 0) (ob:={cls:=.type "dict",dict:=none,data:=.dict #[]}) (newAcc:=newDict) (mm:=λcx' i=>uo r cx' k v i) B I P h1 (by simpa using h2) rfl rfl (λenv' D it=>rfl) (λD i P'=>Pe I P' k v i D) (λs2 Q E h=>BR h) (λam1 h=>⟨[],.new _,rfl,rfl⟩) U O s q hr1 N
set_option tactic.hygienic true in
theorem qQ{a b:Int}:Bk a b 1=((b-a).toNat:Int):=by
 unfold Bk;rw[yo (by decide)];split
 ·rename_i h;rw[Int.ediv_one,Int.sub_add_cancel,Int.toNat_of_nonneg (Dq (Cy h))]
 ·rename_i h;rw[Int.toNat_of_nonpos (Int.sub_nonpos_of_le (BW.mp h))]; rfl
theorem Rp{x:Int}(h:-(2 ^ 60)<x):-(2 ^ 63)<=x:=Cy (Cz (by decide) h)
theorem Rz{x:Int}(h:x<2 ^ 60):x<2 ^ 63:=Cz h (by decide)
theorem qS{a b c:Int}{xs:yk AV}(h:d8 a b c=some xs) :
  c≠0/\bh c=true/\Dd a b c=true/\xs=(yB (Bk a b c).toNat).map λ(k:Nat)=>AV.int (a+k*c):=by
 unfold d8 at h;split at h
 ·exact nn h
 rename_i hs;simp only[FC,Bool.not_eq_false',zg,ze]at hs;split at h
 ·rename_i hc
  (have h9:=si h; clear h; subst h9); subst hc
  refine⟨by decide,by decide,?_,?_⟩
  ·obtain⟨⟨⟨h1,h2⟩,h3⟩,h4⟩:=hs;unfold Dd;rw[qQ];simp only[Builtin.Range.rangeFitsLong,zg,C9,ze,y5];refine⟨⟨⟨⟨⟨Rp h1,Rz h2⟩,⟨Rp h3,Rz h4⟩⟩,by decide⟩,⟨Bp (by decide) (zo _),Eo (AA.mpr (Int.toNat_le.mpr (Cy (BV (Int.sub_lt_sub h4 h1) (by decide:(2 ^ 60:Int) - -2 ^ 60<=((2 ^ 61:Nat):Int)))))) (by decide)⟩⟩,.inr ?_⟩;rw[yo (by decide)];simp only[zg,ze];rw[show b+(1-1)=b from Int.add_zero b]; exact⟨Rp h3,Rz h4⟩
  ·rw[qQ,zK]; simp
 ·exact nn h
theorem fS{t:Sem yt}{m:M AV}{q:Res aw}(h:HN S A envs env own cx aq t m)(hr:M.bind m ar O=some q)(N:HB S envs env own cx U O s) :
  yq (yw S.prog S.w) A t (PS S envs env own cx U O s q) (H3 S envs env own cx U O s q) s:=by
 refine h.seq hr N (λv c am1 σ1 s1 v1 N1 X1 hr1 =>?_) (λZ Z h=>h);have h9:=aH hr1; clear hr1; rcases h9 with⟨vs,e,hr1⟩|⟨-,hr1⟩
 ·(have h9:=si hr1; clear hr1; subst h9)
  exact⟨_,σ1,am1,rfl,.inl (v1.Jk e),N1,X1⟩
 have h9:=aH hr1; clear hr1; rcases h9 with⟨vs,e,hr1⟩|⟨-,hr1⟩
 ·(have h9:=si hr1; clear hr1; subst h9)
  exact⟨_,σ1,am1,rfl,.inr (.inl (v1.I9 e)),N1,X1⟩
 have h9:=aH hr1; clear hr1; rcases h9 with⟨b,e,hr1⟩|⟨-,hr1⟩
 ·(have h9:=si hr1; clear hr1; subst h9)
  obtain⟨t,rfl⟩:=v1.ofBytes e;exact⟨_,σ1,am1,rfl,.inr (.inr ⟨_,t,rfl,rfl⟩),N1,X1⟩
 have h9:=ad hr1; clear hr1; obtain⟨i,hi,hr1⟩:=h9;have h9:=aN hr1; clear hr1; obtain⟨_,hr1⟩:=h9;obtain⟨a,rfl,ha⟩:=v1.H4 hi;have h9:=aH hr1; clear hr1; rcases h9 with⟨vs,hp,hr1⟩|⟨-,hr1⟩
 ·(have h9:=si hr1; clear hr1; subst h9)
  exact⟨_,σ1,am1,rfl,⟨a,rfl,ha,_,hp⟩,N1,X1⟩
 ·have h9:=ad hr1; clear hr1; obtain⟨d,hd,hr1⟩:=h9
  (have h9:=si hr1; clear hr1; subst h9)
  exact⟨_,σ1,am1,rfl,⟨a,_,ha,AO.HV hd,.inl ⟨rfl,rfl⟩⟩,N1,X1⟩
theorem we:∀{vs:yk AV} {cs:yk yt} {p:Int×Int×Int},av U h vs cs->iZ vs=some p ->
  (p.1=0/\p.2.2=1/\∃t,cs=[.int p.2.1 t])\/(p.2.2=1/\∃t u,cs=[.int p.1 t,.int p.2.1 u])
 |[],_,_=>λZ e=>nn e
 |a::r,cs,p=>λv e=>by
  cases r with
  |nil =>
  refine hdZ λGG hGG =>?_;obtain⟨c,rfl,h1⟩:=v.inv1;obtain⟨j,e1,rfl⟩:=y4.mp e;obtain⟨t,rfl⟩:=h1.ofInt e1;refine hGG ?_;exact .inl ⟨rfl,rfl,t,rfl⟩
  |cons b r=>cases r with
  |cons _ _=>exact nomatch e
  |nil =>
  refine hdZ λGG hGG =>?_;obtain⟨c,d,rfl,h1,h2⟩:=v.inv2;obtain⟨i,e1,e⟩:=zd.mp e;obtain⟨j,e2,rfl⟩:=y4.mp e;obtain⟨t,rfl⟩:=h1.ofInt e1;obtain⟨u,rfl⟩:=h2.ofInt e2;refine hGG ?_;exact .inr ⟨rfl,t,u,rfl⟩
theorem xj(B:bP S T)(I:HJ S T r d)(P:At S A envs env own cx d)(np pos:Pos)(args:yk yr){q:Res aw}(hg:bp cx "range"= true)(N:HB S envs env own cx U O s)
  (hr:rE r cx args O=some q) :
  yq (yw S.prog S.w) A (eval (.Call (.Name "range" np) args [] pos) env) (PS S envs env own cx U O s q) (H3 S envs env own cx U O s q) s:=by
 have h8:=bI hg;have hg:=h8.1;have hgx:=h8.2;refine C3 (Bj (bk P N.H hg B.Jo ?_) hgx);refine a8 ((b9 I P (.type "range") pos args).seq hr N (λvs a am1 σ1 s1 v1 N1 X1 hr1=>⟨jX _,?_⟩) (λZ Z h=>h));rw[v1.2];have v1:=v1.1;have h9:=ad hr1; clear hr1; obtain⟨p,hp,hr1⟩:=h9;have h9:=ad hr1; clear hr1; obtain⟨xs,hx,hr1⟩:=h9
 (have h9:=si hr1; clear hr1; subst h9)
 obtain⟨hc0,hcs,hsm,rfl⟩:=qS hx;obtain⟨b,e,k⟩:=p;rcases we v1 hp with⟨e1,e2,t,hc⟩|⟨e2,t,u,hc⟩
 ·cases e1; cases e2;refine wq (by rw[hc]) ?_;refine call_range_1 ?_;exact⟨_,σ1,am1,rfl,⟨_,_,_,_,_,_,_,rfl,Gi ..,hsm,rfl⟩,N1.quiet (.push ..),X1.trans (N1.H.H2 (.push ..))⟩
 ·cases e2;refine wq (by rw[hc]) ?_;refine call_range_2 ?_;exact⟨_,σ1,am1,rfl,⟨_,_,_,_,_,_,_,rfl,Gi ..,hsm,rfl⟩,N1.quiet (.push ..),X1.trans (N1.H.H2 (.push ..))⟩
set_option tactic.hygienic true in
theorem xD(N:HB S envs env own cx U O s)(hv:aq U s.heap v c)(h:mG O.hp O.nx v=some vs) :
  ∃a items,c=.ref a/\s.heap.IsList a items/\av U s.heap vs items.toList/\∀HE,dP own U O s.heap HE a:=by
 unfold mG at h;split at h
 ·rename_i us e
  (have h9:=si h; clear h; subst h9)
  refine hdZ λGG hGG =>?_;obtain⟨a,items,rfl,hl,hn,hx⟩:=hv.Jk e;obtain⟨o,ho,hc,n,hd⟩:=id hl;refine hGG ?_;exact⟨a,items,rfl,hl,hx,λHE=>oh N hn ho hd⟩
 ·refine hdZ λGG hGG =>?_;obtain⟨i,hi,h⟩:=zd.mp h;obtain⟨a,rfl,ha⟩:=hv.H4 hi;refine hGG ?_;by_cases hlt:i<O.nx
  ·have hp:=AO.Jg ((yo hlt).symm.trans h);have h1:=N.H.objs i a ha;rw[hp]at h1;refine hdZ λGG hGG =>?_;obtain⟨xs,n,hl,hx⟩:=h1;refine hGG ?_;exact⟨a,xs,rfl,hl.isList,hx,λHE=>.inr (.inr ⟨i,_,ha,hp,trivial⟩)⟩
  ·cases(ym hlt).symm.trans h
theorem LV(B:bP S T)(I:HJ S T r d)(P:At S A envs env own cx d)(np pos:Pos)(args:yk yr){q:Res aw}(hg:bp cx "enumerate"= true)(N:HB S envs env own cx U O s)
  (hr:vp r cx args O=some q) :
  yq (yw S.prog S.w) A (eval (.Call (.Name "enumerate" np) args [] pos) env) (PS S envs env own cx U O s q) (H3 S envs env own cx U O s q) s:=by
 have h8:=bI hg;have hg:=h8.1;have hgx:=h8.2;refine C3 (Bj (bk P N.H hg B.JJ ?_) hgx);refine a8 ((b9 I P (.type "enumerate") pos args).seq hr N (λvs a am1 σ1 s1 v1 N1 X1 hr1=>⟨jX _,?_⟩) (λZ Z h=>h));have h9:=ad hr1; clear hr1; obtain⟨p,hp,hr1⟩:=h9;have h9:=bb hr1; clear hr1; obtain⟨xs,hx,hr1⟩:=h9;refine hdZ λGG hGG =>?_;obtain⟨c,hc,h1⟩:=v1.1.one? hp;obtain⟨l,is,rfl,hl,hv,hf⟩:=xD N1 h1 hx;refine hGG ?_;refine wq (by rw[v1.2,hc]) ?_;refine call_enumerate_list hl λh' e1 e2 e3 ek =>?_;have Q1:aF s1 {s1 with heap:=h'}:=⟨ek,rfl,rfl⟩;have X2:=N1.H.H2 (own:=own) Q1;have hnone:∀k,s1.heap.get? (s1.heap.objs.size+k)=none:=λk=>zm (yH _ _);have hlt:l<s1.heap.objs.size:=by obtain⟨o,e,_⟩:=hl; exact Ab e
 have hq:=(Ag hr1).symm;subst hq;refine⟨_,σ1,am1,rfl,.enum (s1.heap.objs.size+1) s1.heap.objs.size l is xs rfl rfl ⟨Fb _,yA (yZ hlt),yA hlt⟩ ⟨e1,e2,?_⟩ ?_ ((hf (pure ())).run X2 ⟨_,rfl⟩).1 (hv.ext N1 X2) rfl,N1.quiet Q1,X1.trans X2⟩
 ·obtain⟨o,e,r⟩:=hl; exact⟨o,ek _ _ e,r⟩
 ·have h:∀k,s1.heap.objs.size+k∉am1/\s.heap.get? (s1.heap.objs.size+k)=none/\s1.heap.objs.size+k∉own/\S.h₀.get? (s1.heap.objs.size+k)=none:=λk=>by
   refine⟨λhm =>?_,X1.heap.live.none (hnone k),λhm =>?_,?_⟩
   ·obtain⟨o,e,_⟩:=N1.H.HD _ hm; rw[hnone k]at e; exact nn e
   ·obtain⟨_,o,e,_⟩:=N1.F.HZ _ hm; rw[hnone k]at e; exact nn e
   ·cases q:S.h₀.get? (s1.heap.objs.size+k)with
    |none=>rfl
    |some o=>have:=N1.H.base _ o q; rw[hnone k]at this; exact nn this
  intro a ha;simp at ha;rcases ha with rfl|rfl
  ·exact h 1
  ·exact h 0
theorem t6(B:bP S T)(I:HJ S T r d)(P:At S A envs env own cx d)(o:yr)(apos pos:Pos){q:Res aw}(hb:fQ o=true)(hg:df [] apos pos=true)(N:HB S envs env own cx U O s)
  (hr:oI r cx o O=some q) :
  yq (yw S.prog S.w) A (eval (.Call (.Attribute o "values" apos) [] [] pos) env) (PS S envs env own cx U O s q) (H3 S envs env own cx U O s q) s:=by
 refine ke hb hg ((I.ev P o).seq hr N (λv co am1 σ1 s1 v1 N1 X1 hr1 =>?_) (λZ Z h=>h));have h9:=ad hr1; clear hr1; obtain⟨i,hi,hr1⟩:=h9;have h9:=aN hr1; clear hr1; obtain⟨_,hr1⟩:=h9;have h9:=ad hr1; clear hr1; obtain⟨dd,hd,hr1⟩:=h9;refine(let QQ:=_; let EE:=_; (?_:yq _ _ _ QQ EE _))
 (have h9:=si hr1; clear hr1; subst h9)
 refine hdZ λGG hGG =>?_;obtain⟨a,cs,rfl,ha,hp,hD,hpr⟩:=jE N1 v1 hi hd;refine hGG ?_;refine wq (by rw[ym (show ¬([]:yk yr).any aR=true from A0)]) ?_;refine Fo hD.typeIs Di FN F.type_dict_values (λb e=>by cases e; exact(dI hD).noDict _ rfl) ?_;refine a8 ((b9 I P (.builtin _) pos []).HF (v:=[]) rfl N1 λa2 am2 s2 v2 N2 X2=>⟨dY _,?_⟩);refine wq (by rw[v2.2,show a2.pos=[]from v2.1]) ?_;have h1:=N2.H.objs i a (X2.HU.get ha);rw[hp]at h1;refine(let QQ:=_; let EE:=_; (?_:yq _ _ _ QQ EE _));obtain⟨cs,hD,hpr⟩:=h1;refine DX FN hD.typeIs F.entry_dict_values (F.args_dict_values_1 _) (meets_dict_values (y1 S.prog S.w) a (yi N2.H B.Jh (zy (X2.HU.get ha)))) ⟨⟨_,hD⟩,?_⟩;have Q3:aF s2 {s2 with heap:=s2.heap.push {cls:=.type "dict_values",data:=.fields #[.ref a]}}:=.push s2 _ s2.toks;exact⟨_,σ1,am2,rfl,⟨a,dd.1,X2.HU.get ha,hp,.inr ⟨_,rfl,⟨_,y6 _ rfl,rfl,rfl⟩,rfl⟩⟩,N2.quiet Q3,(X1.trans X2).trans (N2.H.H2 Q3)⟩
theorem xk(B:bP S T)(I:HJ S T r d)(P:At S A envs env own cx d)(o:yr)(apos pos:Pos){q:Res aw}(hb:fQ o=true)(hg:df [] apos pos=true)(N:HB S envs env own cx U O s)
  (hr:rF r cx o O=some q) :
  yq (yw S.prog S.w) A (eval (.Call (.Attribute o "items" apos) [] [] pos) env) (PS S envs env own cx U O s q) (H3 S envs env own cx U O s q) s:=by
 refine ke hb hg ((I.ev P o).seq hr N (λv co am1 σ1 s1 v1 N1 X1 hr1 =>?_) (λZ Z h=>h));have h9:=ad hr1; clear hr1; obtain⟨i,hi,hr1⟩:=h9;have h9:=aN hr1; clear hr1; obtain⟨_,hr1⟩:=h9;have h9:=ad hr1; clear hr1; obtain⟨dd,hd,hr1⟩:=h9;refine(let QQ:=_; let EE:=_; (?_:yq _ _ _ QQ EE _))
 (have h9:=si hr1; clear hr1; subst h9)
 refine hdZ λGG hGG =>?_;obtain⟨a,cs,rfl,ha,hp,hD,hpr⟩:=jE N1 v1 hi hd;refine hGG ?_;refine wq (by rw[ym (show ¬([]:yk yr).any aR=true from A0)]) ?_;refine Fo hD.typeIs Di FL F.type_dict_items (λb e=>by cases e; exact(dI hD).noDict _ rfl) ?_;refine a8 ((b9 I P (.builtin _) pos []).HF (v:=[]) rfl N1 λa2 am2 s2 v2 N2 X2=>⟨dY _,?_⟩);refine wq (by rw[v2.2,show a2.pos=[]from v2.1]) ?_;have h1:=N2.H.objs i a (X2.HU.get ha);rw[hp]at h1;refine(let QQ:=_; let EE:=_; (?_:yq _ _ _ QQ EE _));obtain⟨cs,hD,hpr⟩:=h1;refine DX FL hD.typeIs F.entry_dict_items (F.args_dict_items_1 _) (meets_dict_items (y1 S.prog S.w) a (yi N2.H B.Jh (zy (X2.HU.get ha)))) ⟨⟨_,hD⟩,?_⟩;have Q3:aF s2 {s2 with heap:=s2.heap.push {cls:=.type "dict_items",data:=.fields #[.ref a]}}:=.push s2 _ s2.toks;exact⟨_,σ1,am2,rfl,qG.items i dd.2 a _ dd.1 rfl (X2.HU.get ha) hp rfl ⟨_,y6 _ rfl,rfl,rfl⟩ rfl,N2.quiet Q3,(X1.trans X2).trans (N2.H.H2 Q3)⟩
variable{kws:yk Ac}
theorem LW(B:bP S T)(I:HJ S T r d)(P:At S A envs env own cx d){f:Str}{np:Pos}{q:Res aw}(hr:ll r cx (.Name f np) args kws pos O=some q)(N:HB S envs env own cx U O s) :
  yq (yw S.prog S.w) A (eval (.Call (.Name f np) args kws pos) env) (PS S envs env own cx U O s q) (H3 S envs env own cx U O s q) s:=by
 refine(let QQ:=_; let EE:=_; (?_:yq _ _ _ QQ EE _));by_cases h1:(kws.isEmpty&&bp cx f&&f==("range": Str))=true
 ·have hr2:=(zA (yo h1) O).symm.trans hr;clear hr;obtain⟨h1,h3⟩:=yS.mp h1;have h8:=yS.mp h1;have h1:=h8.1;have h2:=h8.2;obtain rfl:=zv.mp h1;have h3:=eq_of_beq h3;subst h3;exact xj B I P np pos args h2 N hr2
 replace hr:=(zA (ym h1) O).symm.trans hr;clear h1;by_cases h1:(kws.isEmpty&&bp cx f&&f==("enumerate": Str))=true
 ·have hr2:=(zA (yo h1) O).symm.trans hr;clear hr;obtain⟨h1,h3⟩:=yS.mp h1;obtain⟨h1,h2⟩:=yS.mp h1;obtain rfl:=zv.mp h1;have h3:=eq_of_beq h3;subst h3;exact LV B I P np pos args h2 N hr2
 exact fS (I.ev P _) ((zA (ym h1) O).symm.trans hr) N
theorem LX(B:bP S T)(I:HJ S T r d)(P:At S A envs env own cx d){o:yr}{p:Pos}{q:Res aw}(hr:ll r cx (.Attribute o name p) args kws pos O=some q)(N:HB S envs env own cx U O s) :
  yq (yw S.prog S.w) A (eval (.Call (.Attribute o name p) args kws pos) env) (PS S envs env own cx U O s q) (H3 S envs env own cx U O s q) s:=by
 refine(let QQ:=_; let EE:=_; (?_:yq _ _ _ QQ EE _));by_cases h1:(args.isEmpty&&kws.isEmpty&&(name==("items": Str)))=true
 ·obtain⟨hc,hr2⟩:=az ((zA (yo h1) O).symm.trans hr);clear hr;obtain⟨h1,h3⟩:=yS.mp h1;obtain⟨h1,h2⟩:=yS.mp h1;obtain rfl:=zv.mp h1;obtain rfl:=zv.mp h2;have h3:=eq_of_beq h3;subst h3;obtain⟨c1,c2⟩:=yS.mp hc;exact xk B I P o p pos c1 c2 N hr2
 replace hr:=(zA (ym h1) O).symm.trans hr;clear h1;by_cases h1:(args.isEmpty&&kws.isEmpty&&(name==("values": Str)))=true
 ·have h8:=az ((zA (yo h1) O).symm.trans hr);have hc:=h8.1;have hr2:=h8.2;clear hr;obtain⟨h1,h3⟩:=yS.mp h1;obtain⟨h1,h2⟩:=yS.mp h1;obtain rfl:=zv.mp h1;obtain rfl:=zv.mp h2;have h3:=eq_of_beq h3;subst h3;obtain⟨c1,c2⟩:=yS.mp hc;exact t6 B I P o p pos c1 c2 N hr2
 exact fS (I.ev P _) ((zA (ym h1) O).symm.trans hr) N
theorem OL(B:bP S T)(I:HJ S T r d)(P:At S A envs env own cx d){q:Res aw}(hr:vo r cx e O=some q)(N:HB S envs env own cx U O s) :
  yq (yw S.prog S.w) A (eval e env) (PS S envs env own cx U O s q) (H3 S envs env own cx U O s q) s:=by
 refine(let QQ:=_; let EE:=_; (?_:yq _ _ _ QQ EE _));cases e with
 |Call f args kws pos =>
  have hr:ll r cx f args kws pos O=some q:=hr;cases f with
  |Name f np=>exact LW B I P hr N
  |Attribute o name p=>exact LX B I P hr N
  |_=>exact fS (I.ev P _) hr N
 |Set _ _=>exact nn hr
 |_=>exact fS (I.ev P _) hr N
theorem lN{e c:yl yr}{p:yr×yk yr}(h:on e c=some p):c=none/\∃pos,e=some (.Call p.1 p.2 [] pos):=by
 cases e with
 |none=>exact nn h
 |some e =>
  cases c with
  |some c=>exact nn h
  |none =>
   cases e with
   |Call f args kws pos =>obtain⟨hk,rfl⟩:=aZ h;obtain rfl:=zv.mp hk;exact⟨rfl,pos,rfl⟩
   |_=>exact nn h
theorem ve(pos:Pos)(env:Env):∀(es:yk yr),es.any aR=false->(backTo pos (Ar es env)).any (·.1)=false
 |[]=>λZ=>rfl
 |e::es=>λh=>by obtain⟨h1,h2⟩:=Ed.mp (show(aR e||es.any aR)=false from h);rw[c9 h1];exact ve pos env es h2
theorem LC{e:yp}(N:HB S envs env own cx U O s)(X:Ext own am₀ σ₀ s₀ U O s)(hv:av U s.heap vs cs)(hm:Heap.MadeExcOf s.heap h' e (.ref S.P.CE) cs) :
  H3 S envs env own cx am₀ σ₀ s₀ (.err (.cycle vs) O:Res β) (.ref e) {s with heap:=h'}:=by
 refine hdZ λGG hGG =>?_;obtain⟨t,h1,h2,h3⟩:=hm.there;refine hGG ?_;have Q:aF s {s with heap:=h'}:=⟨hm.keeps,rfl,rfl⟩;have hb:∀{a},s.heap.get? a=none->S.h₀.get? a=none:=λ{a} ha=>by
  cases q:S.h₀.get? a with
  |none=>rfl
  |some o=>have:=N.H.base a o q; rw[ha]at this; exact nn this
 have ha:∀{a},s.heap.get? a=none->a∉U:=λ{a} ha hm=>by obtain⟨o,e,_⟩:=N.H.HD a hm; rw[ha]at e; exact nn e
 exact⟨.cycle vs,O,U,rfl,⟨e,t,_,.none,rfl,⟨_,_,hb hm.new,ha hm.new,X.heap.live.none hm.new,h1,rfl,rfl,rfl,rfl,rfl⟩,.inl rfl,ha h2,⟨_,h3,rfl,_,rfl⟩,hv.mono (Q.keeps U) N.H.HD (.refl ..)⟩,N.quiet Q,X.trans (N.H.H2 Q)⟩
theorem Mm(B:bP S T)(I:HJ S T r d)(P:At S A envs env own cx d)(e c:yl yr)(pos:Pos):HN S A envs env own cx IT (exec (.Raise e c pos) env) (vB r cx e c):=by intro U O s q hr N;have h9:=ad hr; clear hr; obtain⟨p,hp,hr⟩:=h9;refine(let QQ:=_; let EE:=_; (?_:yq _ _ _ QQ EE _));obtain⟨rfl,cpos,rfl⟩:=lN hp;obtain⟨hc,hr1⟩:=az hr;clear hr;obtain⟨hc,hst⟩:=yS.mp hc;obtain⟨HR,hr2⟩:=cD hr1;obtain⟨np,e1,hg⟩:=jF hc;obtain⟨hg,hgx⟩:=bI hg;obtain⟨f,args⟩:=p;obtain rfl:=Ag e1;obtain⟨nm,qq,Nn,bs,hdct,sn,sub,ab,col,dd,k0,k1,k2,k3,k5,mN,hC,hN,hq⟩:=B.ce;refine wpAny_Raise_call_sub (nm:=nm) (q:=qq) (N:=Nn) (bs:=bs) (hdct:=hdct) (sn:=sn) (sub:=sub) (ab:=ab) (col:=col) (dd:=dd) (k0:=k0) (k1:=k1) (k2:=k2) (k3:=k3) (k5:=k5) F.excBase_ValueError (P.hd HR) (ve cpos env args ((Ct _).mp hst)) (hq _ (by decide)) (Bj (bk P N.H hg B.Ma ⟨rfl,?_⟩) hgx);refine(b9 I P _ cpos args).seq hr2 N (λvs a am1 σ1 s1 v1 N1 X1 hr3 =>?_) (λZ Z h=>h);obtain⟨hz,hr4⟩:=az hr3;cases hr4;exact⟨v1.2,by rw[<-v1.1.length]; exact yn hz bK,N1.H.base _ _ hC,hN.keeps N1.H.base,λh' e hm=>LC N1 X1 v1.1 hm⟩
theorem v7{s:Str}(h:xv e none (k:=Sv)=some s):∃k p,e=.Constant (.str s) k p:=by
 cases e with
 |Constant c k p =>
  cases c with
  |str t=>cases h; exact⟨k,p,rfl⟩
  |_=>exact nn h
 |_=>exact nn h
theorem xJ(T:Tab)(r:HQ)(es:yk yr)(p:Pos):HN S A envs env own cx aq (eval (.JoinedStr es p) env) (sm es):=by
 intro U O s q hr N;refine(let QQ:=_; let EE:=_; (?_:yq _ _ _ QQ EE _));cases es with
 |nil=>exact nn hr
 |cons e es =>obtain⟨he,hr1⟩:=az hr;obtain rfl:=zv.mp he;obtain⟨t,ht,hr2⟩:=ad hr1;obtain⟨k,p',rfl⟩:=v7 ht;exact wpAny_JoinedStr_one (r8 (T:=T) (r:=r) (.str t) k p' U O s q hr2 N)
theorem O8(B:bP S T)(I:HJ S T r d)(CO:eF S C d)(P:At S A envs env own cx d)(f:yr)(args:yk yr)(kws:yk Ac)(pos:Pos):HN S A envs env own cx aq (eval (.Call f args kws pos) env) (MA T C r cx f args kws pos):=by
 intro U O s q hr N;refine(let QQ:=_; let EE:=_; (?_:yq _ _ _ QQ EE _));cases f with
 |Name f np=>exact sb B I CO P f np pos args kws U O s q hr N
 |Attribute o name apos =>obtain⟨h,hr1⟩:=az hr;rw[zv.mp h];exact se B I CO P o name apos pos args U O s q hr1 N
 |Subscript o i p =>obtain⟨h,hr1⟩:=az hr;obtain⟨h1,h2⟩:=yS.mp h;refine wq (by rw[zv.mp h1,zv.mp h2]) ?_;exact ui I P o i p pos U O s q hr1 N
 |_=>exact nn hr
theorem O4(B:bP S T)(I:HJ S T r d)(CO:eF S C d)(L:Nat)(P:At S A envs env own cx d)(e:yr):HN S A envs env own cx aq (eval e env) (uj T C L r cx e):=by
 intro U O s q hr N;refine(let QQ:=_; let EE:=_; (?_:yq _ _ _ QQ EE _));cases e with
 |Constant c k p=>exact r8 (T:=T) (r:=r) c k p U O s q hr N
 |Name x p =>
  have hd:(x==("__debug__": Str))=false:=by
   cases h:x==("__debug__": Str)with
   |false=>rfl
   |true=>cases(zA (yo h) O).symm.trans (show vk T cx x O=some q from hr)
  exact Bj (pW B.toBase P x U O s q hr N) hd
 |BoolOp op es p=>exact pc I P op p es U O s q hr N
 |NamedExpr t e p=>exact Ms I P t e p U O s q hr N
 |BinOp a op b p=>exact Mw I P a b op p U O s q hr N
 |UnaryOp op e p=>exact O5 I P op e p U O s q hr N
 |IfExp t a b p=>exact Mu I P t a b p U O s q hr N
 |Dict ks vs p=>exact Mv ks vs p U O s q hr N
 |List es p=>exact Mt I P es p U O s q hr N
 |Tuple es k p=>exact Mr I P es k p U O s q hr N
 |ListComp elt gens sc p=>exact r9 B.toBase I P elt gens sc p _ L U O s q hr N
 |Compare a ops bs p=>exact uh B.toBase I P a ops bs p U O s q hr N
 |Call f args kws pos=>exact O8 B I CO P f args kws pos U O s q hr N
 |Attribute o a p=>obtain⟨h,hr1⟩:=az hr; exact O9 B I P o a p h U O s q hr1 N
 |Subscript o i p=>exact O6 I P o i p U O s q hr N
 |DictComp k v gens sc p=>exact sa B.toBase I P k v gens sc p L U O s q hr N
 |JoinedStr es p=>exact xJ T r es p U O s q hr N
 |_=>exact nn hr
theorem NM(B:bP S T)(I:HJ S T r d)(P:At S A envs env own cx d)(e:yr):HN S A envs env own cx RB (isTrue e env (eval e env)) (J9 r cx e):=by
 intro U O s q hr N;refine(let QQ:=_; let EE:=_; (?_:yq _ _ _ QQ EE _));cases e with
 |BoolOp op es p=>exact wpAny_isTrue_BoolOp (j9 I P op es U O s q hr N)
 |UnaryOp op e p =>
  cases op with
  |Not=>exact nn hr
  |_=>exact qJ I P _ rfl U O s q hr N
 |IfExp _ _ _ _=>exact nn hr
 |Compare a ops bs p=>exact ti B.toBase I P a ops bs p _ U O s q hr N
 |_=>exact qJ I P _ rfl U O s q hr N
theorem OY(B:bP S T)(I:HJ S T r d)(L:Nat)(P:At S A envs env own cx d)(st:yU):HN S A envs env own cx IT (exec st env) (Mn L r cx st):=by
 intro U O s q hr N;refine(let QQ:=_; let EE:=_; (?_:yq _ _ _ QQ EE _));cases st with
 |Expr e p=>exact O3 I P e p U O s q hr N
 |Pass p=>(have h9:=si hr; clear hr; subst h9); exact wpAny_Pass ⟨_,O,U,rfl,trivial,N,.refl ..⟩
 |Break p=>(have h9:=si hr; clear hr; subst h9); exact wpAny_Break ⟨_,O,U,rfl,trivial,N,.refl ..⟩
 |Continue p=>(have h9:=si hr; clear hr; subst h9); exact wpAny_Continue ⟨_,O,U,rfl,trivial,N,.refl ..⟩
 |Return e p=>exact xG I P e p U O s q hr N
 |Assign ts e p=>exact xI I P ts e p U O s q hr N
 |AugAssign t op e p=>exact RK B I P t p op e U O s q hr N
 |Delete ts p=>exact RJ I P ts p U O s q hr N
 |If t a b p=>exact Tv I P t a b p U O s q hr N
 |While t a b p=>exact Ml I P t a b p L U O s q hr N
 |For t i a b p=>exact RI B.toBase I P t i a b p L U O s q hr N
 |Try a hs b c p=>exact RH B I P a hs b c p U O s q hr N
 |Raise e c p=>exact Mm B I P e c p U O s q hr N
 |_=>exact nn hr
theorem Mk(B:bP S T)(I:HJ S T r d)(L:Nat)(P:At S A envs env own cx d):∀ss:yk yU,HN S A envs env own cx IT (execs ss env) (vA L r cx ss)
 |[]=>λU O s q hr N=>by(have h9:=si hr; clear hr; subst h9); exact Ft ⟨_,O,U,rfl,trivial,N,.refl ..⟩
 |st::ss=>λU O s q hr N=>by
  refine wpAny_execs_cons ((OY B I L P st).seq hr N (λf cf am1 σ1 s1 hR N1 X1 hr1 =>?_) (λZ Z h=>h));rcases hR.inv with⟨rfl,rfl⟩|⟨rfl,rfl⟩|⟨rfl,rfl⟩|⟨v,w,rfl,rfl⟩
  ·exact(I.HK P ss).last hr1 N1 (λZ Z h=>h.back X1) (λZ Z h=>h.back X1)
  ·(have h9:=si hr1; clear hr1; subst h9); exact⟨_,σ1,am1,rfl,trivial,N1,X1⟩
  ·(have h9:=si hr1; clear hr1; subst h9); exact⟨_,σ1,am1,rfl,trivial,N1,X1⟩
  ·(have h9:=si hr1; clear hr1; subst h9); exact⟨_,σ1,am1,rfl,hR,N1,X1⟩
theorem uO(B:bP S T)(CO:eF S C d)(L:Nat):∀n,HJ S T (Iw T C L n) d
 |0=>⟨λZ Z Z Z Z Z h=>(nomatch h),λZ Z Z Z Z Z h=>(nomatch h),λZ Z Z Z Z Z h=>(nomatch h),λZ Z Z Z Z Z Z Z h=>(nomatch h),λZ Z Z Z Z Z h=>(nomatch h)⟩
 |n+1 =>
  have I:=uO B CO L n
  ⟨λP e=>O4 B I CO L P e,λP e=>NM B I P e,λP Z Z Z Z Z hr N=>OL B I P hr N,λP Z Z Z Z Z Z Z hr N hv=>Py B I P hr N hv,λP ss=>Mk B I L P ss⟩
theorem vK(B:bP S T)(L N:Nat):∀d,eF S (aJ T L N d) d
 |0=>⟨λZ Z Z Z Z Z Z Z Z Z Z Z Z Z Z h=>(nomatch h)⟩
 |d+1=>xU B.toBase (uO B (vK B L N d) L N)
structure gU(K:Frag)(CS:yk (yp×Str))(h:yC)(mg mb:Str->yl yt):Prop where
 X:K.In h
 codes:∀p∈CS,h.CodeRec (.ref p.1) p.2
 g:h.Ns BB mg
 b:h.Ns builtinsNs mb
 boot:∀x:Str,x ≠ "__name__" -> mb x=bootBuiltins x
 nolimit:h.NoLimit
 Uh:(h.get? AJ).isSome=true
variable{mg:Str->yl yt}
set_option tactic.hygienic true in
theorem tW{N:yp}{n:Str}{v:yt}(X:K.In h)(G:h.Ns N mg)(e:nsIn K N n=some (some v)):mg n=some v:=by
 obtain⟨o,es,ep,ho,hd,_,hf⟩:=G;unfold nsIn at e;cases q:K.lookup N with
 |none=>rw[q]at e; exact nn e
 |some o' =>
  have:=X _ _ q;rw[ho]at this;cases this;obtain⟨c,d,da,sl⟩:=o;cases hd;rw[q]at e;dsimp only at e;cases he:es.toList.find? (·.key.isStr n)with
  |some x =>rw[he]at e;cases e;rw[<-hf];unfold nsFind findBy;rw[<-Array.find?_toList,he];rfl
  |none=>rw[he]at e; dsimp only at e; split at e<;>(first|exact nn e|cases e)
variable{CS:yk (yp×Str)}{mb:Str->yl yt}
theorem dH(G:gU S.K CS S.h₀ mg mb){x:Str}{v:yt}(e:nsIn S.K BB x=some (some v)):Js S x v:=⟨mg,mb,G.g,G.b,.inl (tW G.X G.g e)⟩
theorem ff(G:gU S.K CS S.h₀ mg mb){x:Str}{v:yt}(e:nsIn S.K BB x=some none)(hx:x ≠ "__name__")(hv:bootBuiltins x=some v):Js S x v :=
 ⟨mg,mb,G.g,G.b,.inr ⟨ns_none_of G.X G.g e,(G.boot x hx).trans hv⟩⟩
structure PT(K:Frag)(CS:yk (yp×Str))(fa:yp)(fd:ax)(f:Bn):Prop where
 obj:∃o,K.lookup fa=some o/\o.data=.func f
 scope:f.scope=fd.scope
 body:f.body=.stmts fd.body
 VI:f.closure=[]
 VC:f.globals=BB
 bi:f.builtins=builtinsNs
 code:∃c,f.code=.ref c/\(c,f.qualname)∈CS
noncomputable def uP(s:Ao):yx := !s.isCoroutine && !s.isGenerator&&s.kind==.function&&s.names.all λp=>p.2 != .free
theorem nQ{l:yk (Str×Ae)}(h:(l.all λp=>p.2 != .free)=true)(x:Str):l.lookup x≠some .free:=by intro e;have:=BZ.mp h _ (mem_of_lookup e);simp at this
variable{fa:yp}
theorem aV(G:gU S.K CS S.h₀ mg mb){f:Bn}(l:PT S.K CS fa fd f)(hs:uP fd.scope=true)(B:kg S f fd):ir S fa fd:=by obtain⟨o,ho,hd⟩:=l.obj;obtain⟨c,e1,e2⟩:=l.code;simp only[uP,zg,Ct,y5]at hs;exact⟨⟨o,f,G.X _ _ ho,hd,l.scope,l.body,l.VI,l.VC,l.bi,e1▸G.codes _ e2,B⟩,hs.1.1.1,hs.1.1.2,hs.1.2,nQ hs.2⟩
theorem kR:∀(a:yk α) (b:yk β),a.length=b.length->(a.zip b).map (·.1)=a
 |[]=>λb Z=>by cases b<;>rfl
 |x::a=>λb h=>by
  cases b with
  |nil=>cases h
  |cons y b=>exact yI (x :: ·) (kR a b (Cj h))
theorem pf:∀(names:yk Str) (pos:yk AV) (cs:yk yt),av U h pos cs->names.length=pos.length->dK U h (names.zip pos) (names.zip cs)
 |[]=>λpos cs e h=>by
  cases pos with
  |cons _ _=>cases h
  |nil=>cases e; exact⟨rfl,rfl⟩
 |n::names=>λpos cs e h=>by
  cases pos with
  |nil=>cases h
  |cons v pos =>
  obtain⟨c,r,rfl,hv,hr⟩:=e;obtain⟨h1,h2⟩:=pf names pos r hr (by simpa using h);refine⟨?_,?_⟩
  ·show n::(names.zip pos).map (·.1)=n::(names.zip r).map (·.1); rw[h1]
  ·exact⟨c,_,rfl,hv,h2⟩
noncomputable def k9(fd:ax):yk Str:=(fd.params.posonlyargs++fd.params.args).map (·.arg)
noncomputable def hJ(fd:ax)(ns:yk Str):yx:=decide (ns.Nodup)&&ns.all λn=>fd.scope.names.lookup n==some .local||fd.scope.names.lookup n==some .cell
theorem jr{ns:yk Str}(h:hJ fd ns=true):ns.Nodup/\∀n∈ns,fd.scope.names.lookup n=some .local\/fd.scope.names.lookup n=some .cell:=by simp only[hJ,zg,ze,BZ,C9,y5]at h;exact h
set_option tactic.hygienic true in
theorem aT{f:Bn}(ns:yk Str)(hn:k9 fd=ns)(hv:fd.params.vararg=none)(hk:fd.params.kwonlyargs=[])(hd:fd.dflt=[])(hok:hJ fd ns=true)
  (hb:∀cs:yk yt,cs.length=ns.length->bindArgs f ⟨cs,[]⟩=pure (ns.zip cs)):kg S f fd:=by
 intro pos kw bs h;obtain⟨HR,hks⟩:=jr hok;have key:kw=[]/\pos.length=ns.length/\bs=ns.zip pos:=by
  unfold aM at h;simp only[hv,hk,hd,show(fd.params.posonlyargs++fd.params.args).map (·.arg)=ns from hn,DA,EP,Cu,Dz,CN,List.drop_nil,yX]at h;split at h
  ·rename_i hc;simp only[zg,zv,ze]at hc
   (have h9:=si h; clear h; subst h9)
   exact⟨hc.1.1,by lia,rfl⟩
  ·split at h
   ·rename_i hc;simp only[zg,y5,ES]at hc
    (have h9:=si h; clear h; subst h9)
    rw[hc.2,yX];exact⟨rfl,hc.1,rfl⟩
   ·exact nn h
 obtain⟨rfl,hl,rfl⟩:=key;refine⟨by rw[kR _ _ hl.symm]; exact HR,λx hx=>hks _ ?_,λM A E Q U s cpos ckw Z Z hvs hkw hQ =>?_⟩
 ·have:=zG (f:=(·.1)) hx;rwa[kR _ _ hl.symm]at this
 ·cases hkw.nil_inv;rw[hb cpos (by rw[<-hvs.length]; exact hl)];exact yG (hQ _ s (.refl _) (pf ns pos cpos hvs hl.symm))
set_option tactic.hygienic true in
theorem o8{f:Bn}(n m:Str)(hn:k9 fd=[n,m])(hv:fd.params.vararg=none)(hk:fd.params.kwonlyargs=[])(hd:fd.dflt=[.none])(hok:hJ fd [n,m]=true)
  {T:yp} {o:Obj} {nn:Nat} {k:yl (yM yt)->yk yt->Sem (yk (Str×yt))} (hdf:f.defaults=.ref T) (ho:S.h₀.get? T=some o) (hs:o.data=.seq items nn)
  (h₁:∀cs,bindArgs f ⟨cs,[]⟩=seqItems? f.defaults >>=λd=>k d cs) (h₂:∀c,k (some items) [c]=pure [(n,c),(m,.none)]) (h₃:∀c c',k (some items) [c,c']=pure [(n,c),(m,c')]):kg S f fd:=by
 intro pos kw bs h;obtain⟨HR,hks⟩:=jr hok;have key:kw=[]/\((∃v,pos=[v]/\bs=[(n,v),(m,.none)])\/∃v u,pos=[v,u]/\bs=[(n,v),(m,u)]):=by
  unfold aM at h;simp only[hv,hk,hd,show(fd.params.posonlyargs++fd.params.args).map (·.arg)=[n,m]from hn,DA,EP,Cu,Ax,Dz]at h;split at h
  ·rename_i hc;simp only[zg,zv,ze]at hc
   (have h9:=si h; clear h; subst h9)
   refine⟨hc.1.1,?_⟩
   match pos,hc with
   |[],hc=>simp at hc
   |[v],hc=>exact .inl ⟨v,rfl,rfl⟩
   |[v,u],hc=>exact .inr ⟨v,u,rfl,rfl⟩
   |_::_::_::_,hc=>simp at hc
  ·split at h
   ·rename_i hc;simp only[zg,y5,ES]at hc
    (have h9:=si h; clear h; subst h9)
    rw[hc.2,yX]
    match pos,hc with
    |[v,u],hc=>exact⟨rfl,.inr ⟨v,u,rfl,rfl⟩⟩
    |[],hc=>simp at hc
    |[v],hc=>simp at hc
    |_::_::_::_,hc=>simp at hc
   ·exact Internal.nn h
 obtain⟨rfl,key⟩:=key;rcases key with⟨v,rfl,rfl⟩|⟨v,u,rfl,rfl⟩
 ·refine⟨HR,λx hx=>hks _ (zG (f:=(·.1)) hx),λM A E Q U s cpos ckw hb Z hvs hkw hQ =>?_⟩;cases hkw.nil_inv;refine(let QQ:=_; let EE:=_; (?_:yq _ _ _ QQ EE _));obtain⟨c,rfl,hc⟩:=hvs.inv1;refine(let QQ:=_; let EE:=_; (?_:yq _ _ _ QQ EE _));rw[h₁,hdf];refine yz (D5 (hb _ _ ho) hs ?_);rw[h₂];exact yG (hQ _ s (.refl _) ⟨rfl,⟨c,_,rfl,hc,.one rfl⟩⟩)
 ·refine⟨HR,λx hx=>hks _ (zG (f:=(·.1)) hx),λM A E Q U s cpos ckw hb Z hvs hkw hQ =>?_⟩;cases hkw.nil_inv;obtain⟨c,c',rfl,hc,hc'⟩:=hvs.inv2;rw[h₁,hdf];refine yz (D5 (hb _ _ ho) hs ?_);rw[h₃];exact yG (hQ _ s (.refl _) ⟨rfl,⟨c,_,rfl,hc,.one hc'⟩⟩)
set_option tactic.hygienic true in
theorem o0{f:Bn}(ns:yk Str)(a:Arg)(hn:k9 fd=ns)(hv:fd.params.vararg=some a)(hk:fd.params.kwonlyargs=[])(hok:hJ fd (ns++[a.arg])=true)
  (hb:∀cs rest:yk yt,cs.length=ns.length->bindArgs f ⟨cs++rest,[]⟩=newTuple rest >>=λt=>pure (ns.zip cs++[(a.arg,t)])):kg S f fd:=by
 intro pos kw bs h;obtain⟨HR,hks⟩:=jr hok;have key:kw=[]/\ns.length<=pos.length/\pos.length<=1000/\bs=ns.zip pos++[(a.arg,.tup (pos.drop ns.length))]:=by
  unfold aM at h;simp only[hv,hk,show(fd.params.posonlyargs++fd.params.args).map (·.arg)=ns from hn,DA,EP,Bool.and_true]at h;split at h
  ·rename_i hc;simp only[zg,zv,ze]at hc
   (have h9:=si h; clear h; subst h9)
   exact⟨hc.1.1,hc.1.2,hc.2,rfl⟩
  ·exact nn h
 obtain⟨rfl,hl,h1000,rfl⟩:=key;have hzt:ns.zip pos=ns.zip (pos.take ns.length):=by
  conv=>lhs; rw[<-GU ns.length pos]
  have:(pos.take ns.length).length=ns.length:=by simp; lia
  rw[show ns.zip (pos.take ns.length++pos.drop ns.length)=(ns++[]).zip (pos.take ns.length++pos.drop ns.length)from by simp,List.zip_append this.symm];simp
 have hlt:(pos.take ns.length).length=ns.length:=by simp; lia
 have hfst:(ns.zip pos++[(a.arg,AV.tup (pos.drop ns.length))]).map (·.1)=ns++[a.arg]:=by rw[hzt,yN,kR _ _ hlt.symm]; rfl
 refine⟨by rw[hfst]; exact HR,λx hx=>hks _ ?_,λM A E Q U s cpos ckw Z ok hvs hkw hQ =>?_⟩
 ·have:=zG (f:=(·.1)) hx;rwa[hfst]at this
 ·cases hkw.nil_inv;have hcl:=hvs.length;have e:cpos=cpos.take ns.length++cpos.drop ns.length:=(GU _ _).symm;rw[e,hb _ _ (by simp; lia)];refine yz (wpAny_newTuple ?_ (by
   have:(cpos.drop ns.length).length<=1000:=by simp; lia
   exact yn this (by decide)))
  have q:aF s {s with heap:=s.heap.push {cls:=.type "tuple",data:=.seq (cpos.drop ns.length).toArray}}:=.push s _ s.toks;refine yG (hQ _ _ q ?_);have hz:=pf (U:=U) (h:=s.heap) ns (pos.take ns.length) (cpos.take ns.length) (hvs.take _) hlt.symm;rw[hzt];refine⟨by rw[yN,yN,hz.1]; rfl,?_⟩;rw[yN,yN];refine av.append (hz.2.mono (q.keeps U) ok (.refl ..)) (.one ⟨_,_,rfl,⟨_,y6 _ rfl,rfl,_,rfl⟩,?_,?_⟩)
  ·intro hm;obtain⟨o,e,_⟩:=ok _ hm;rw[zm (yF _)]at e; exact nn e
  ·simp only[GV];exact(hvs.drop _).mono (q.keeps U) ok (.refl ..)
set_option tactic.hygienic true in
theorem Pm{f:Bn}(n m:Str)(hn:k9 fd=[n])(hv:fd.params.vararg=none)(hk:fd.params.kwonlyargs.map (·.arg)=[m])(hd:fd.dflt=[])(hok:hJ fd [n,m]=true)
  (hb:∀c c':yt,bindArgs f ⟨[c],[(m,c')]⟩=pure [(n,c),(m,c')]):kg S f fd:=by
 intro pos kw bs h;obtain⟨HR,hks⟩:=jr hok;have key:∃v u,pos=[v]/\kw=[(m,u)]/\bs=[(n,v),(m,u)]:=by
  unfold aM at h;simp only[hv,hk,hd,show(fd.params.posonlyargs++fd.params.args).map (·.arg)=[n]from hn,List.isEmpty_cons,C8,BS,BA]at h;split at h
  ·rename_i hc;simp only[zg,y5]at hc
   (have h9:=si h; clear h; subst h9)
   match pos,kw,hc with
   |[v],[(x,u)],hc=>simp at hc; obtain rfl:=hc; exact⟨v,u,rfl,rfl,rfl⟩
   |[],_,hc=>simp at hc
   |_::_::_,_,hc=>simp at hc
   |[v],[],hc=>simp at hc
   |[v],_::_::_,hc=>simp at hc
  ·exact nn h
 obtain⟨v,u,rfl,rfl,rfl⟩:=key;refine⟨HR,λx hx=>hks _ (zG (f:=(·.1)) hx),λM A E Q U s cpos ckw Z Z hvs hkw hQ =>?_⟩;obtain⟨c,rfl,hc⟩:=hvs.inv1;obtain⟨c',r,rfl,hc',hr⟩:=hkw.cons_inv;cases hr.nil_inv;rw[hb];exact yG (hQ _ s (.refl _) ⟨rfl,⟨c,_,rfl,hc,.one hc'⟩⟩)
theorem iD{P:yk yt->Prop}(h:∀c,P [c])(cs:yk yt)(e:cs.length=1):P cs:=by obtain⟨c,rfl⟩:=GB.mp e; exact h c
theorem OI{P:yk yt->Prop}(h:∀c c',P [c,c'])(cs:yk yt)(e:cs.length=2):P cs:=by
 cases cs with
 |nil=>exact yD e (by decide)
 |cons c r=>obtain⟨c',rfl⟩:=GB.mp (Cj e); exact h c c'
theorem sl{P:yk yt->Prop}(h:P []/\∀b r,P (b::r))(cs:yk yt):P cs:=by
 cases cs with
 |nil=>exact h.1
 |cons b r=>exact h.2 b r
theorem SH{P:yk yt->yk yt->Prop}(h:∀c,P [c] []/\∀b r,P [c] (b::r))(cs rest:yk yt)(e:cs.length=1):P cs rest :=
 iD (P:=λcs=>P cs rest) (λc=>sl (P:=P [c]) (h c) rest) cs e
theorem SF{P:yk yt->yk yt->Prop}(h:∀c c',P [c,c'] []/\∀b r,P [c,c'] (b::r))(cs rest:yk yt)(e:cs.length=2):P cs rest :=
 OI (P:=λcs=>P cs rest) (λc c'=>sl (P:=P [c,c']) (h c c') rest) cs e
noncomputable def qH(F:Str->ax)(P:Str->ax->Prop):yk Str->Prop
 |[]=>True
 |n::r=>P n (F n)/\qH F P r
variable{F:Str->ax}
theorem qH.cons{P:Str->ax->Prop}{n:Str}{r:yk Str}(h:P n (F n))(hr:qH F P r):qH F P (n::r):=⟨h,hr⟩
theorem sV{P:Str->ax->Prop}:∀{ns:yk Str},qH F P ns->∀x∈ns,P x (F x)
 |[]=>λZ Z h=>nomatch h
 |n::r=>λh x hx=>by
  rcases yP.mp hx with rfl|hx
  ·exact h.1
  ·exact sV h.2 x hx
theorem gS{P:Str->ax->Prop}{nf:ax}{l:yk (Str×ax)}{ns:yk Str}(hk:l.map (·.1)=ns)(h:qH (λx=>(l.lookup x).getD nf) P ns){x:Str}(e:l.lookup x=some fd):P x fd:=by have h1:=sV h x (hk▸zG (f:=(·.1)) (mem_of_lookup e));rw[e]at h1;exact h1
noncomputable def pQ:ax:=⟨⟨[],[],none,[],[],none,[]⟩,[],⟨.function,[],false,false,[]⟩,[]⟩
noncomputable def Tu(ss:yk yU)(i:Nat):ax:=(ss[i]?).elim pQ λs=>sv s pQ (f:=λZ args body scope=>⟨args,body,scope,args.defaults.map λZ=>.none⟩)
noncomputable def RS(ss:yk yU)(i:Nat):yk yU:=(ss[i]?).elim [] λs=>sv s [] (c:=λZ b=>b)
noncomputable def kf(fd:ax)(n q:Str)(dv kv:yt)(m:Str)(t:Tok)(c:yp):Obj :=
 {cls:=.type "function",data:=.func {name:=n,qualname:=q,params:=fd.params,body:=.stmts fd.body,scope:=fd.scope,globals:=3,closure:=[],defaults:=dv,kwdefaults:=kv,pyModule:=.str m t,code:=.ref c}}
noncomputable def kd(P:BN)(es:yk (Str×Tok×yt))(n:Nat):Obj :=
 {cls:=.type "dict",data:=.dict (es.map λe=>⟨Bi P e.1,.str e.1 e.2.1,e.2.2⟩).toArray n}
noncomputable abbrev KG:By:=PySem.Challenge.pw_om0079_02
noncomputable abbrev fs(i:Nat):ax:=Tu KG.main.body i
noncomputable abbrev ms(c i:Nat):ax:=Tu (RS KG.main.body c) i
noncomputable def TR(P:BN):Frag:=[
 (3,kd P [("__name__",165,.str "law_om0079_02" 433),("__doc__",166,.none),("__package__",167,.none),("__loader__",168,.builtin "__main__.__loader__#opaque"),("__spec__",169,.none),("__annotations__",170,.ref 6),("__builtins__",171,.ref 4),("__file__",173,.str "/claim/cut.py" 172),("__cached__",174,.none),("_wall",193,.ref 21),("_NODE_OUT",198,.int (-1) 197),("_NODE_DONE",201,.int (-2) 200),("_NodeInfo",238,.ref 40),("CycleError",256,.ref 55),("TopologicalSorter",375,.ref 137),("_buffer",385,.ref 148),("_truth",393,.ref 155),("_B64",395,.bytes #[65,66,67,68,69,70,71,72,73,74,75,76,77,78,79,80,81,82,83,84,85,86,87,88,89,90,97,98,99,100,101,102,103,104,105,106,107,108,109,110,111,112,113,114,115,116,117,118,119,120,121,122,48,49,50,51,52,53,54,55,56,57,43,47] 394),("b2a_base64",409,.ref 163),("b64encode",420,.ref 171),("Int2AP",432,.ref 178),("_law_links",445,.ref 185),("_law_below",451,.ref 190),("_law_brackets",457,.ref 195),("_law_bits",463,.ref 200),("law",469,.ref 205)] 26),
 (21,kf (fs 0) "_wall" "_wall" (.none) (.none) "__main__" 164 20),
 (36,kf (ms 4 1) "__init__" "_NodeInfo.__init__" (.none) (.none) "cpy313.graphlib" 194 35),
 (39,kd P [("__module__",209,.str "cpy313.graphlib" 194),("__firstlineno__",213,.int 7 212),("__slots__",217,.ref 29),("__init__",225,.ref 36),("__static_attributes__",229,.ref 37),("node",231,.ref 41),("npredecessors",233,.ref 42),("successors",235,.ref 43),("__doc__",236,.none)] 5),
 (40,.mk (.type "type") none (.cls (.mk "_NodeInfo" [.type "object"] [.ref 40,.type "object"] 39 "_NodeInfo" false ["node","npredecessors","successors"] [] false none false)) #[none,none,some (.str "_NodeInfo" 202),some (.str "_NodeInfo" 210),some (.builtin "object.__new__"),some (.bool false)]),
 (41,.mk (.type "member_descriptor") none (.fields #[.str "node" 230,.ref 40,.builtin "proto.slot",.builtin "proto.slot#set",.int 2 0]) #[]),
 (42,.mk (.type "member_descriptor") none (.fields #[.str "npredecessors" 232,.ref 40,.builtin "proto.slot",.builtin "proto.slot#set",.int 1 0]) #[]),
 (43,.mk (.type "member_descriptor") none (.fields #[.str "successors" 234,.ref 40,.builtin "proto.slot",.builtin "proto.slot#set",.int 0 0]) #[]),
 (54,kd P [("__module__",246,.str "cpy313.graphlib" 194),("__firstlineno__",250,.int 14 249),("__static_attributes__",251,.ref 53),("__weakref__",253,.ref 56),("__doc__",254,.none)] 3),
 (55,.mk (.type "type") none (.cls (.mk "CycleError" [.type "ValueError"] [.ref 55,.type "ValueError",.type "Exception",.type "BaseException",.type "object"] 54 "CycleError" true [] [] false none false)) #[some (.ref 46),none,some (.str "CycleError" 239),some (.str "CycleError" 247),some (.builtin "ValueError.__new__"),some (.bool true)]),
 (66,.mk (.type "tuple") none (.seq #[.none]) #[]),
 (73,kf (ms 6 0) "__init__" "TopologicalSorter.__init__" (.ref 66) (.none) "cpy313.graphlib" 194 72),
 (80,kf (ms 6 1) "_get_nodeinfo" "TopologicalSorter._get_nodeinfo" (.none) (.none) "cpy313.graphlib" 194 79),
 (87,kf (ms 6 2) "add" "TopologicalSorter.add" (.none) (.none) "cpy313.graphlib" 194 86),
 (92,kf (ms 6 3) "prepare" "TopologicalSorter.prepare" (.none) (.none) "cpy313.graphlib" 194 91),
 (99,kf (ms 6 4) "get_ready" "TopologicalSorter.get_ready" (.none) (.none) "cpy313.graphlib" 194 98),
 (106,kf (ms 6 5) "is_active" "TopologicalSorter.is_active" (.none) (.none) "cpy313.graphlib" 194 105),
 (113,kf (ms 6 6) "__bool__" "TopologicalSorter.__bool__" (.none) (.none) "cpy313.graphlib" 194 112),
 (120,kf (ms 6 7) "done" "TopologicalSorter.done" (.none) (.none) "cpy313.graphlib" 194 119),
 (127,kf (ms 6 8) "_find_cycle" "TopologicalSorter._find_cycle" (.none) (.none) "cpy313.graphlib" 194 126),
 (134,kf (ms 6 9) "static_order" "TopologicalSorter.static_order" (.none) (.none) "cpy313.graphlib" 194 133),
 (136,kd P [("__module__",264,.str "cpy313.graphlib" 194),("__firstlineno__",268,.int 16 267),("__init__",278,.ref 73),("_get_nodeinfo",287,.ref 80),("add",299,.ref 87),("prepare",305,.ref 92),("get_ready",315,.ref 99),("is_active",322,.ref 106),("__bool__",329,.ref 113),("done",343,.ref 120),("_find_cycle",356,.ref 127),("static_order",363,.ref 134),("__static_attributes__",368,.ref 135),("__dict__",370,.ref 138),("__weakref__",372,.ref 139),("__doc__",373,.none)] 4),
 (137,.mk (.type "type") none (.cls (.mk "TopologicalSorter" [.type "object"] [.ref 137,.type "object"] 136 "TopologicalSorter" true [] [] false none false)) #[none,none,some (.str "TopologicalSorter" 257),some (.str "TopologicalSorter" 265),some (.builtin "object.__new__"),some (.bool true)]),
 (148,kf (fs 8) "_buffer" "_buffer" (.none) (.none) "binascii" 376 147),
 (155,kf (fs 9) "_truth" "_truth" (.none) (.none) "binascii" 376 154),
 (163,kf (fs 11) "b2a_base64" "b2a_base64" (.none) (.ref 156) "binascii" 376 162),
 (164,.mk (.type "tuple") none (.seq #[.none]) #[]),
 (171,kf (fs 13) "b64encode" "b64encode" (.ref 164) (.none) "cpy313.base64" 410 170),
 (178,kf (fs 15) "Int2AP" "Int2AP" (.none) (.none) "cpy313.imaplib" 421 177),
 (185,kf (fs 17) "_law_links" "_law_links" (.none) (.none) "law_om0079_02" 433 184),
 (190,kf (fs 18) "_law_below" "_law_below" (.none) (.none) "law_om0079_02" 433 189),
 (195,kf (fs 19) "_law_brackets" "_law_brackets" (.none) (.none) "law_om0079_02" 433 194),
 (200,kf (fs 20) "_law_bits" "_law_bits" (.none) (.none) "law_om0079_02" 433 199),
 (205,kf (fs 21) "law" "law" (.none) (.none) "law_om0079_02" 433 204)]
noncomputable def nC:yk (yp×Str):=[(20,"_wall"),(35,"_NodeInfo.__init__"),(72,"TopologicalSorter.__init__"),(79,"TopologicalSorter._get_nodeinfo"),(86,"TopologicalSorter.add"),(91,"TopologicalSorter.prepare"),(98,"TopologicalSorter.get_ready"),(105,"TopologicalSorter.is_active"),(112,"TopologicalSorter.__bool__"),(119,"TopologicalSorter.done"),(126,"TopologicalSorter._find_cycle"),(133,"TopologicalSorter.static_order"),(147,"_buffer"),(154,"_truth"),(162,"b2a_base64"),(170,"b64encode"),(177,"Int2AP"),(184,"_law_links"),(189,"_law_below"),(194,"_law_brackets"),(199,"_law_bits"),(204,"law")]
noncomputable def fq(h:yC)(c:yp):yl Str:=match h.get? c with
 |some o=>match o.data with
  |.fields vs=>match(vs[1]?:yl yt)with
   |some (.str x _)=>some x
   |_=>none
  |_=>none
 |none=>none
set_option tactic.hygienic true in
theorem uq{c:yp}{q:Str}(e:fq h c=some q):h.CodeRec (.ref c) q:=by
 unfold fq at e;cases ho:h.get? c with
 |none=>rw[ho]at e; exact nn e
 |some o =>
  rw[ho]at e;obtain⟨cl,dc,da,sl⟩:=o;cases da with
  |fields vs =>
   dsimp only at e;cases hv:vs[1]? with
   |none=>rw[hv]at e; exact nn e
   |some x =>
    rw[hv]at e;cases x with
    |str x t=>cases e; exact⟨c,_,vs,t,rfl,ho,rfl,hv⟩
    |_=>exact nn e
  |_=>exact nn e
noncomputable def PF(K:BN->Frag)(cs:yk (yp×Str))(w:z9)(h:yC):Prop:=(K w.params).In h/\∀p∈cs,fq h p.1=some p.2
theorem NR{K:BN->Frag}{cs:yk (yp×Str)}(e:∀P,as=(K P).map (·.1))(w:z9)(s:yy)
  (h:(as.map s.heap.get?,cs.map λp=>fq s.heap p.1)=((K w.params).map λp=>some p.2,cs.map λp=>some p.2)):PF K cs w s.heap:=by
 obtain⟨h1,h2⟩:=Hi h;refine⟨?_,λp hp=>List.map_inj_left.mp h2 p hp⟩;exact InK.of e w s h1
theorem tE{K:BN->Frag}{cs:yk (yp×Str)}(w:z9)(h h':yC)(x:PF K cs w h)(k:∀b o,h.get? b=some o->h'.get? b=some o):PF K cs w h':=by
 refine⟨InK.keeps w h h' x.1 k,λp hp =>?_⟩;have:=x.2 p hp;unfold fq at this ⊢;cases q:h.get? p.1 with
 |none=>rw[q]at this; exact nn this
 |some o=>rw[k _ _ q]; rw[q]at this; exact this
theorem OJ{p q:By}{loose:yk Str}{Xt:yy->yx}{Yf:yy->α}{Ya:z9->α}{N:Nat}{H₀:BN->yC}{gs₀:yM GenState}{d₀:Drawn}{k₀:Nat}
  (open_:∀w:z9,(fencedOpening treeTable p w N).map (λs=>(s.heap,s.gens,s.drawn,s.toks))=some (H₀ w.params,gs₀,d₀,k₀))
  (run:∀(w:z9) (os:OsState),(topFrom treeTable p w N ⟨H₀ w.params,gs₀,d₀,k₀,os⟩).map (λs=>(openSeen q loose (importedModules p.main.body) Xt true s,Yf s))=some (openGood q loose,Ya w)) :
  LeftO p q loose Xt Yf Ya N:=λw=>by
 refine hdZ λGG hGG =>?_;obtain⟨⟨h,gs,d,k,os⟩,e,e'⟩:=y4.mp (open_ w);obtain⟨rfl,rfl,rfl,rfl⟩:h=H₀ w.params/\gs=gs₀/\d=d₀/\k=k₀:=by simpa using e'
 refine hGG ?_;unfold openEnds;rw[e];exact run w os
noncomputable def T8:yk yp:=(TR ⟨λZ=>0,λZ=>0,λt=>t,λZ=>0,λZ Z=>0,λZ=>true,λZ=>0,.refcount,.text,λZ=>0,λZ=>none,λZ=>false,λZ Z Z=>true,λZ Z Z=>true,true,λZ=>false,λZ=>none,λZ=>none,λZ Z Z=>0,λZ Z=>none,λZ=>none,λZ=>(0,false,"UTC"),λZ=>none,λd=>d,λZ=>false⟩).map (·.1)
theorem PU(P:BN):T8=(TR P).map (·.1):=rfl
noncomputable def UW(s:yy):yk (yl Obj)×yk (yl Str):=(T8.map s.heap.get?,nC.map λp=>fq s.heap p.1)
noncomputable def UX(w:z9):yk (yl Obj)×yk (yl Str):=((TR w.params).map λp=>some p.2,nC.map λp=>some p.2)
noncomputable def SO:By:=PySem.W.view KG [21]
noncomputable def vj:yk Str:=["_wall","__name__","_NODE_OUT","_NODE_DONE","_NodeInfo","CycleError","TopologicalSorter","_buffer","_truth","_B64","b2a_base64","b64encode","Int2AP","_law_links","_law_below","_law_brackets","_law_bits"]
noncomputable abbrev Vt:RowW:=(PySem.Challenge.rw_om0079_02.row).toRowW
theorem UA:∀w:z9,(fencedOpening treeTable KG w 3000).map (λs=>(s.heap,s.gens,s.drawn,s.toks))=some (boot_heap w.params,Array.mk [],boot_drawn,boot_toks) :=
 boot_open rfl rfl (λZ=>rfl)
theorem Rq:LeftO KG SO vj (λs=>xlAt SO [] s&&recOk Vt.records s) UW UX 3000:=OJ UA λw os=>by kernel_rfl
set_option maxHeartbeats 4000000
noncomputable def nr:yM yQ := #[65,66,67,68,69,70,71,72,73,74,75,76,77,78,79,80,81,82,83,84,85,86,87,88,89,90,97,98,99,100,101,102,103,104,105,106,107,108,109,110,111,112,113,114,115,116,117,118,119,120,121,122,48,49,50,51,52,53,54,55,56,57,43,47]
noncomputable def gv(x:Str):yl AV :=
 if x=("_B64": Str)then some (.bytes nr)else if x=("_NODE_OUT": Str)then some (.int (-1))else if x=("_NODE_DONE": Str)then some (.int (-2))
 else if x=("bytes": Str)then some (.typ "bytes")else if x=("bool": Str)then some (.typ "bool")else none
noncomputable def T2:Tab:=tabOf PySem.Challenge.pw_om0079_02 gv (λp=>p.line==44||p.line==185)
noncomputable def S2(w:z9)(s:yy):au:=⟨TR w.params,PySem.Challenge.pw_om0079_02,w,⟨137,40,55⟩,s.heap,s⟩
theorem bF{l:yk (yp×Str)}{x:yp×Str}(e:l[i]?=some x):x∈l:=zy e
set_option tactic.hygienic true in
theorem xA(G:gU (S2 w s).K nC (S2 w s).h₀ mg mb):∀x v,T2.HI x=some v->∃c,Js (S2 w s) x c/\∀U h,aq U h v c:=by
 intro x v e;change gv x=some v at e;unfold gv at e;split at e
 ·rename_i hx; subst hx; (have h9:=si e; clear e; subst h9); exact⟨_,dH G (v:=.bytes nr 394) (by kernel_rfl),λZ Z=>⟨_,rfl⟩⟩
 split at e
 ·rename_i hx; subst hx; (have h9:=si e; clear e; subst h9); exact⟨_,dH G (v:=.int (-1) 197) (by kernel_rfl),λZ Z=>⟨_,rfl⟩⟩
 split at e
 ·rename_i hx; subst hx; (have h9:=si e; clear e; subst h9); exact⟨_,dH G (v:=.int (-2) 200) (by kernel_rfl),λZ Z=>⟨_,rfl⟩⟩
 split at e
 ·rename_i hx; subst hx; (have h9:=si e; clear e; subst h9); exact⟨_,ff G (v:=.type "bytes") (by kernel_rfl) (by decide) (by kernel_rfl),λZ Z=>rfl⟩
 split at e
 ·rename_i hx; subst hx; (have h9:=si e; clear e; subst h9); exact⟨_,ff G (v:=.type "bool") (by kernel_rfl) (by decide) (by kernel_rfl),λZ Z=>rfl⟩
 ·exact nn e
noncomputable abbrev T6(w:z9)(s:yy)(n:Str)(fd:ax):Prop:=∃fa,Js (S2 w s) n (.ref fa)/\ir (S2 w s) fa fd
namespace R
noncomputable def pQ:ax:=⟨⟨[],[],none,[],[],none,[]⟩,[],⟨.function,[],false,false,[]⟩,[]⟩
noncomputable def bl(x:Str):ax:=(T2.IG x).getD pQ
noncomputable def bH(x:Str):ax:=(T2.meths x).getD pQ
end R
theorem xB(G:gU (S2 w s).K nC (S2 w s).h₀ mg mb):qH R.bl (T6 w s) [Str.ofString "_wall",Str.ofString "_buffer",Str.ofString "_truth",Str.ofString "b2a_base64",Str.ofString "b64encode",Str.ofString "Int2AP",Str.ofString "_law_links",Str.ofString "_law_below",Str.ofString "_law_brackets",Str.ofString "_law_bits",Str.ofString "law"]:=by refine .cons ⟨21,dH G (by kernel_rfl),aV G (⟨⟨_,rfl,rfl⟩,(by kernel_rfl),(by kernel_rfl),(by kernel_rfl),(by kernel_rfl),(by kernel_rfl),⟨_,rfl,bF (i:=0) rfl⟩⟩) (by kernel_rfl) (aT [Str.ofString "k"] (by kernel_rfl) (by kernel_rfl) (by kernel_rfl) (by kernel_rfl) (by kernel_rfl) (iD λc=>rfl))⟩ ?_;refine .cons ⟨148,dH G (by kernel_rfl),aV G (⟨⟨_,rfl,rfl⟩,(by kernel_rfl),(by kernel_rfl),(by kernel_rfl),(by kernel_rfl),(by kernel_rfl),⟨_,rfl,bF (i:=12) rfl⟩⟩) (by kernel_rfl) (aT [Str.ofString "data"] (by kernel_rfl) (by kernel_rfl) (by kernel_rfl) (by kernel_rfl) (by kernel_rfl) (iD λc=>rfl))⟩ ?_;refine .cons ⟨155,dH G (by kernel_rfl),aV G (⟨⟨_,rfl,rfl⟩,(by kernel_rfl),(by kernel_rfl),(by kernel_rfl),(by kernel_rfl),(by kernel_rfl),⟨_,rfl,bF (i:=13) rfl⟩⟩) (by kernel_rfl) (aT [Str.ofString "x"] (by kernel_rfl) (by kernel_rfl) (by kernel_rfl) (by kernel_rfl) (by kernel_rfl) (iD λc=>rfl))⟩ ?_;refine .cons ⟨163,dH G (by kernel_rfl),aV G (⟨⟨_,rfl,rfl⟩,(by kernel_rfl),(by kernel_rfl),(by kernel_rfl),(by kernel_rfl),(by kernel_rfl),⟨_,rfl,bF (i:=14) rfl⟩⟩) (by kernel_rfl) (Pm (Str.ofString "data") (Str.ofString "newline") (by kernel_rfl) (by kernel_rfl) (by kernel_rfl) (by kernel_rfl) (by kernel_rfl) (λc c'=>rfl))⟩ ?_;refine .cons ⟨171,dH G (by kernel_rfl),aV G (⟨⟨_,rfl,rfl⟩,(by kernel_rfl),(by kernel_rfl),(by kernel_rfl),(by kernel_rfl),(by kernel_rfl),⟨_,rfl,bF (i:=15) rfl⟩⟩) (by kernel_rfl) (o8 (Str.ofString "s") (Str.ofString "altchars") (by kernel_rfl) (by kernel_rfl) (by kernel_rfl) (by kernel_rfl) (by kernel_rfl) rfl (G.X _ _ rfl) rfl (λcs=>rfl) (λc=>rfl) (λc c'=>rfl))⟩ ?_;refine .cons ⟨178,dH G (by kernel_rfl),aV G (⟨⟨_,rfl,rfl⟩,(by kernel_rfl),(by kernel_rfl),(by kernel_rfl),(by kernel_rfl),(by kernel_rfl),⟨_,rfl,bF (i:=16) rfl⟩⟩) (by kernel_rfl) (aT [Str.ofString "num"] (by kernel_rfl) (by kernel_rfl) (by kernel_rfl) (by kernel_rfl) (by kernel_rfl) (iD λc=>rfl))⟩ ?_;refine .cons ⟨185,dH G (by kernel_rfl),aV G (⟨⟨_,rfl,rfl⟩,(by kernel_rfl),(by kernel_rfl),(by kernel_rfl),(by kernel_rfl),(by kernel_rfl),⟨_,rfl,bF (i:=17) rfl⟩⟩) (by kernel_rfl) (aT [Str.ofString "script"] (by kernel_rfl) (by kernel_rfl) (by kernel_rfl) (by kernel_rfl) (by kernel_rfl) (iD λc=>rfl))⟩ ?_;refine .cons ⟨190,dH G (by kernel_rfl),aV G (⟨⟨_,rfl,rfl⟩,(by kernel_rfl),(by kernel_rfl),(by kernel_rfl),(by kernel_rfl),(by kernel_rfl),⟨_,rfl,bF (i:=18) rfl⟩⟩) (by kernel_rfl) (aT [Str.ofString "members"] (by kernel_rfl) (by kernel_rfl) (by kernel_rfl) (by kernel_rfl) (by kernel_rfl) (iD λc=>rfl))⟩ ?_;refine .cons ⟨195,dH G (by kernel_rfl),aV G (⟨⟨_,rfl,rfl⟩,(by kernel_rfl),(by kernel_rfl),(by kernel_rfl),(by kernel_rfl),(by kernel_rfl),⟨_,rfl,bF (i:=19) rfl⟩⟩) (by kernel_rfl) (aT [Str.ofString "forms"] (by kernel_rfl) (by kernel_rfl) (by kernel_rfl) (by kernel_rfl) (by kernel_rfl) (iD λc=>rfl))⟩ ?_;refine .cons ⟨200,dH G (by kernel_rfl),aV G (⟨⟨_,rfl,rfl⟩,(by kernel_rfl),(by kernel_rfl),(by kernel_rfl),(by kernel_rfl),(by kernel_rfl),⟨_,rfl,bF (i:=20) rfl⟩⟩) (by kernel_rfl) (aT [Str.ofString "figures",Str.ofString "size"] (by kernel_rfl) (by kernel_rfl) (by kernel_rfl) (by kernel_rfl) (by kernel_rfl) (OI λc c'=>rfl))⟩ ?_;refine .cons ⟨205,dH G (by kernel_rfl),aV G (⟨⟨_,rfl,rfl⟩,(by kernel_rfl),(by kernel_rfl),(by kernel_rfl),(by kernel_rfl),(by kernel_rfl),⟨_,rfl,bF (i:=21) rfl⟩⟩) (by kernel_rfl) (aT [Str.ofString "script"] (by kernel_rfl) (by kernel_rfl) (by kernel_rfl) (by kernel_rfl) (by kernel_rfl) (iD λc=>rfl))⟩ ?_;exact trivial
noncomputable abbrev MethP(w:z9)(s:yy)(n:Str)(fd:ax):Prop:=∃f,findIn (S2 w s).K (.ref (S2 w s).P.TS) n=some (some (.ref f))/\typeIn (S2 w s).K (.ref f)=some (.type "function")/\ir (S2 w s) f fd /\
  specialIn (S2 w s).K (.ref f) "__get__"= some (some (.builtin "function.__get__"))/\takesIn (S2 w s).K (.ref f)=some false/\copiedNames.contains n=false
theorem uc(G:gU (S2 w s).K nC (S2 w s).h₀ mg mb):qH R.bH (MethP w s) [Str.ofString "__init__",Str.ofString "_get_nodeinfo",Str.ofString "add",Str.ofString "prepare",Str.ofString "get_ready",Str.ofString "is_active",Str.ofString "__bool__",Str.ofString "done",Str.ofString "_find_cycle",Str.ofString "static_order"]:=by refine .cons ⟨73,(by kernel_rfl),(by kernel_rfl),aV G (⟨⟨_,rfl,rfl⟩,(by kernel_rfl),(by kernel_rfl),(by kernel_rfl),(by kernel_rfl),(by kernel_rfl),⟨_,rfl,bF (i:=2) rfl⟩⟩) (by kernel_rfl) (o8 (Str.ofString "self") (Str.ofString "graph") (by kernel_rfl) (by kernel_rfl) (by kernel_rfl) (by kernel_rfl) (by kernel_rfl) rfl (G.X _ _ rfl) rfl (λcs=>rfl) (λc=>rfl) (λc c'=>rfl)),(by kernel_rfl),(by kernel_rfl),(by kernel_rfl)⟩ ?_;refine .cons ⟨80,(by kernel_rfl),(by kernel_rfl),aV G (⟨⟨_,rfl,rfl⟩,(by kernel_rfl),(by kernel_rfl),(by kernel_rfl),(by kernel_rfl),(by kernel_rfl),⟨_,rfl,bF (i:=3) rfl⟩⟩) (by kernel_rfl) (aT [Str.ofString "self",Str.ofString "node"] (by kernel_rfl) (by kernel_rfl) (by kernel_rfl) (by kernel_rfl) (by kernel_rfl) (OI λc c'=>rfl)),(by kernel_rfl),(by kernel_rfl),(by kernel_rfl)⟩ ?_;refine .cons ⟨87,(by kernel_rfl),(by kernel_rfl),aV G (⟨⟨_,rfl,rfl⟩,(by kernel_rfl),(by kernel_rfl),(by kernel_rfl),(by kernel_rfl),(by kernel_rfl),⟨_,rfl,bF (i:=4) rfl⟩⟩) (by kernel_rfl) (o0 [Str.ofString "self",Str.ofString "node"] _ (by kernel_rfl) (by kernel_rfl) (by kernel_rfl) (by kernel_rfl) (SF λc c'=>⟨rfl,λb r=>rfl⟩)),(by kernel_rfl),(by kernel_rfl),(by kernel_rfl)⟩ ?_;refine .cons ⟨92,(by kernel_rfl),(by kernel_rfl),aV G (⟨⟨_,rfl,rfl⟩,(by kernel_rfl),(by kernel_rfl),(by kernel_rfl),(by kernel_rfl),(by kernel_rfl),⟨_,rfl,bF (i:=5) rfl⟩⟩) (by kernel_rfl) (aT [Str.ofString "self"] (by kernel_rfl) (by kernel_rfl) (by kernel_rfl) (by kernel_rfl) (by kernel_rfl) (iD λc=>rfl)),(by kernel_rfl),(by kernel_rfl),(by kernel_rfl)⟩ ?_;refine .cons ⟨99,(by kernel_rfl),(by kernel_rfl),aV G (⟨⟨_,rfl,rfl⟩,(by kernel_rfl),(by kernel_rfl),(by kernel_rfl),(by kernel_rfl),(by kernel_rfl),⟨_,rfl,bF (i:=6) rfl⟩⟩) (by kernel_rfl) (aT [Str.ofString "self"] (by kernel_rfl) (by kernel_rfl) (by kernel_rfl) (by kernel_rfl) (by kernel_rfl) (iD λc=>rfl)),(by kernel_rfl),(by kernel_rfl),(by kernel_rfl)⟩ ?_;refine .cons ⟨106,(by kernel_rfl),(by kernel_rfl),aV G (⟨⟨_,rfl,rfl⟩,(by kernel_rfl),(by kernel_rfl),(by kernel_rfl),(by kernel_rfl),(by kernel_rfl),⟨_,rfl,bF (i:=7) rfl⟩⟩) (by kernel_rfl) (aT [Str.ofString "self"] (by kernel_rfl) (by kernel_rfl) (by kernel_rfl) (by kernel_rfl) (by kernel_rfl) (iD λc=>rfl)),(by kernel_rfl),(by kernel_rfl),(by kernel_rfl)⟩ ?_;refine .cons ⟨113,(by kernel_rfl),(by kernel_rfl),aV G (⟨⟨_,rfl,rfl⟩,(by kernel_rfl),(by kernel_rfl),(by kernel_rfl),(by kernel_rfl),(by kernel_rfl),⟨_,rfl,bF (i:=8) rfl⟩⟩) (by kernel_rfl) (aT [Str.ofString "self"] (by kernel_rfl) (by kernel_rfl) (by kernel_rfl) (by kernel_rfl) (by kernel_rfl) (iD λc=>rfl)),(by kernel_rfl),(by kernel_rfl),(by kernel_rfl)⟩ ?_;refine .cons ⟨120,(by kernel_rfl),(by kernel_rfl),aV G (⟨⟨_,rfl,rfl⟩,(by kernel_rfl),(by kernel_rfl),(by kernel_rfl),(by kernel_rfl),(by kernel_rfl),⟨_,rfl,bF (i:=9) rfl⟩⟩) (by kernel_rfl) (o0 [Str.ofString "self"] _ (by kernel_rfl) (by kernel_rfl) (by kernel_rfl) (by kernel_rfl) (SH λc=>⟨rfl,λb r=>rfl⟩)),(by kernel_rfl),(by kernel_rfl),(by kernel_rfl)⟩ ?_;refine .cons ⟨127,(by kernel_rfl),(by kernel_rfl),aV G (⟨⟨_,rfl,rfl⟩,(by kernel_rfl),(by kernel_rfl),(by kernel_rfl),(by kernel_rfl),(by kernel_rfl),⟨_,rfl,bF (i:=10) rfl⟩⟩) (by kernel_rfl) (aT [Str.ofString "self"] (by kernel_rfl) (by kernel_rfl) (by kernel_rfl) (by kernel_rfl) (by kernel_rfl) (iD λc=>rfl)),(by kernel_rfl),(by kernel_rfl),(by kernel_rfl)⟩ ?_;refine .cons ⟨134,(by kernel_rfl),(by kernel_rfl),aV G (⟨⟨_,rfl,rfl⟩,(by kernel_rfl),(by kernel_rfl),(by kernel_rfl),(by kernel_rfl),(by kernel_rfl),⟨_,rfl,bF (i:=11) rfl⟩⟩) (by kernel_rfl) (aT [Str.ofString "self"] (by kernel_rfl) (by kernel_rfl) (by kernel_rfl) (by kernel_rfl) (by kernel_rfl) (iD λc=>rfl)),(by kernel_rfl),(by kernel_rfl),(by kernel_rfl)⟩ ?_;exact trivial
theorem MU{f:Str}{n:yL}(h:hW f=some n):f=Str.ofString n:=by have:=EH h;simpa using this
theorem Me(G:gU (S2 w s).K nC (S2 w s).h₀ mg mb):∀f n,hW f=some n->T2.IG f=none->Js (S2 w s) f (uu n):=by intro f n h _;have hm:=oZ h;have:=MU h;subst this;simp only[sy,yP,Ad,BQ]at hm;rcases hm with rfl|rfl|rfl|rfl|rfl|rfl|rfl|rfl|rfl|rfl|rfl|rfl|rfl|rfl|rfl<;>exact ff G (by kernel_rfl) (by decide) (by kernel_rfl)
noncomputable abbrev QD(w:z9)(s:yy)(_:Str)(fd:ax):Prop:=∃f,findIn (S2 w s).K (.ref (S2 w s).P.NI) "__init__"= some (some (.ref f))/\typeIn (S2 w s).K (.ref f)=some (.type "function")/\ir (S2 w s) f fd
theorem xz(G:gU (S2 w s).K nC (S2 w s).h₀ mg mb):qH (λx=>((fX "_NodeInfo" PySem.Challenge.pw_om0079_02.main.body).lookup x).getD R.pQ) (QD w s) [Str.ofString "__init__"] :=
 .cons ⟨36,(by kernel_rfl),(by kernel_rfl),aV G (⟨⟨_,rfl,rfl⟩,(by kernel_rfl),(by kernel_rfl),(by kernel_rfl),(by kernel_rfl),(by kernel_rfl),⟨_,rfl,bF (i:=1) rfl⟩⟩) (by kernel_rfl) (aT [Str.ofString "self",Str.ofString "node"] (by kernel_rfl) (by kernel_rfl) (by kernel_rfl) (by kernel_rfl) (by kernel_rfl) (OI λc c'=>rfl))⟩ trivial
theorem full(G:gU (S2 w s).K nC (S2 w s).h₀ mg mb):bP (S2 w s) T2 where
 Jh:=G.Uh
 nolimit:=G.nolimit
 HI:=xA G
 Jr:=G.X
 NK:=by kernel_rfl
 QJ:=by kernel_rfl
 JE:=by kernel_rfl
 PV:=by kernel_rfl
 J6:=by kernel_rfl
 Jw:=by intro a ha;simp only[bG,yP,Ad,BQ]at ha;rcases ha with rfl|rfl|rfl|rfl<;>kernel_rfl
 Jv:=λname fd e=>gS (P:=MethP w s) (l:=fX "TopologicalSorter" PySem.Challenge.pw_om0079_02.main.body) (by kernel_rfl) (uc G) e
 J7:=by kernel_rfl
 J8:=by kernel_rfl
 S5:=by kernel_rfl
 S0:=by kernel_rfl
 P9:=by kernel_rfl
 P8:=by kernel_rfl
 Lm:=by kernel_rfl
 Jy:=by
  intro a i h;simp only[yP,Hj,Ad,BQ]at h;rcases h with⟨rfl,rfl⟩|⟨rfl,rfl⟩|⟨rfl,rfl⟩
  ·exact⟨41,by kernel_rfl,by kernel_rfl,by kernel_rfl,by kernel_rfl,by kernel_rfl⟩
  ·exact⟨42,by kernel_rfl,by kernel_rfl,by kernel_rfl,by kernel_rfl,by kernel_rfl⟩
  ·exact⟨43,by kernel_rfl,by kernel_rfl,by kernel_rfl,by kernel_rfl,by kernel_rfl⟩
 Lq:=λfd e=>gS (P:=QD w s) (x :="__init__") (l:=fX "_NodeInfo" PySem.Challenge.pw_om0079_02.main.body) (by kernel_rfl) (xz G) e
 Lo:=by kernel_rfl
 Lp:=by kernel_rfl
 Qe:=dH G (by kernel_rfl)
 Qf:=dH G (by kernel_rfl)
 Jo:=ff G (by kernel_rfl) (by decide) (by kernel_rfl)
 JJ:=ff G (by kernel_rfl) (by decide) (by kernel_rfl)
 Ma:=dH G (by kernel_rfl)
 ce:=by
  have e:nsOkIn (S2 w s).K 54=true:=by kernel_rfl
  exact .mk (S:=S2 w s) "CycleError" "CycleError" 54 _ _ _ _ _ _ _ _ _ _ _ _ _ (G.X _ _ rfl) (.of_isNs (isNs_of_in G.X e)) λn hn=>by simp only[quietNames,yP,Ad,BQ]at hn;rcases hn with rfl|rfl|rfl|rfl<;>exact nsMap_none_of_in G.X e (by kernel_rfl)
 IG:=λf fd e=>gS (P:=T6 w s) (l:=mR PySem.Challenge.pw_om0079_02.main.body) (by kernel_rfl) (xB G) e
 JI:=ff G (by kernel_rfl) (by decide) (by kernel_rfl)
 blt:=Me G
set_option maxHeartbeats 4000000
noncomputable def Sl:St:=⟨λZ=>none,λZ=>.dead,0⟩
noncomputable def nB(T:Tab):Prop:=∀ns:yk Int,ns.length<=63->∃L N fd O,T.IG "law"= some fd/\aJ T L N 8 fd [.lst (ns.map .int)] [] Sl=some (.ok (.bool true) O)
theorem NV(PL:nB T2)(G:gU (S2 w s).K nC (S2 w s).h₀ mg mb){vs:yk yt}(hmg:mg "law"= some (.ref fa))(hl:s.heap.IsList l vs.toArray)(hi:A8 vs ns)(hn:ns.length<=63) :
  yq (yw PySem.Challenge.pw_om0079_02 w) callerA (call (.ref fa) [.ref l]) (λv s'=>v=.bool true/\(∀b o,s.heap.get? b=some o->s'.heap.get? b=some o)/\s'.os=s.os/\s'.gens=s.gens) (λZ Z=>False) s:=by
 refine hdZ λGG hGG =>?_;obtain⟨L,N,fd,O,hfd,hrun⟩:=PL ns hn;obtain⟨fa',⟨mg',mb',g1,g2,g3⟩,F⟩:=(full G).IG _ _ hfd;refine hGG ?_;have hfa:fa'=fa:=by
  have e:mg' "law"= mg "law":= by refine hdZ λGG hGG =>?_;obtain⟨o,es,ep,e1,e2,_,e3⟩:=g1;obtain⟨o',es',ep',e1',e2',_,e3'⟩:=G.g;refine hGG ?_;rw[e1]at e1'; (have h9:=si e1'; clear e1'; subst h9);rw[e2]at e2'; cases e2';rw[<-e3,<-e3']
  rw[e,hmg]at g3;rcases g3 with g3|⟨g3,_⟩
  ·cases g3; rfl
  ·cases g3
 refine(let QQ:=_; let EE:=_; (?_:yq _ _ _ QQ EE _));subst hfa;have H0:a9 (S2 w s) ⟨[],none⟩ [] Sl s:=⟨λZ Z e=>e,rfl,rfl,rfl,.nil,λa ha=>(nomatch ha),λi a hi=>(by simp at hi),λe he=>(nomatch he),λa h=>(nomatch h)⟩;have hv:av [] s.heap [.lst (ns.map .int)] [.ref l]:=.one ⟨l,_,rfl,hl,by simp,by simpa using mA hi⟩;refine BC (BO ((vK (full G) L N 8).call F (A:=callerA) (envs:=⟨[],none⟩) rfl rfl (by decide) (by decide) hrun H0 hv ⟨rfl,rfl⟩) λrr s' hR =>?_);rcases rr with e|(_|_|_|v)<;>first|exact hR.elim|(obtain⟨_,_,_,e,_⟩:=hR; cases e; done)|skip
 refine hdZ λGG hGG =>?_;obtain⟨v',O',U',e,_,hv',H',X'⟩:=hR;refine hGG ?_;cases e;exact⟨hv',H'.base,H'.os,H'.gens⟩
noncomputable def UG:DefRec:=((defOf SO (Str.ofString "law")).map λp=>p.1).getD ⟨Str.ofString "law",R.pQ.params,[],R.pQ.scope,⟨0,0,0,0⟩⟩
theorem Ug:PySem.Challenge.rw_om0079_02.wellSaid=true:=by kernel_rfl
set_option tactic.hygienic true in
theorem xg(PL:nB T2):PySem.Challenge.rw_om0079_02.Holds:=by
 refine holds_law Ug λsaid=>holds_open (d:=UG) (kwd:=[]) (q:=SO) (loose:=vj) (XP:=XL SO []) (YP:=PF TR nC) Rq (NR PU) tE (λs e=>xl_of s (yS.mp e).1) XL.keeps (by kernel_rfl) (by kernel_rfl) (by kernel_rfl) (λs e=>recFacts_of (yS.mp e).2) (by rfl) said (by decide +kernel) ⟨rfl,rfl,rfl,rfl,rfl,by decide +kernel⟩ ?hw ?hc
 case hw=>w_witness2
 case hc =>
 intro w s₀ s₁ mg mb G Y fa o pm cd doc dV kV ho hd hcd hD hmg hg args vals as hpre hlay hrd hwl hlo;have KX:=Y;refine Ground.open G ?_;intro T B D TE TW;have hsys:(s₁.heap.get? AJ).isSome=true:=by refine hdZ λGG hGG =>?_;obtain⟨mm,⟨o,es,ep,e,_⟩,_⟩:=(T.seer (by kernel_rfl)).mods;refine hGG ?_;rw[e]; rfl
 have G1:gU (S2 w s₁).K nC (S2 w s₁).h₀ mg mb:=⟨KX.1,λp hp=>uq (KX.2 p hp),T.g,T.b,T.builtins,T.nolimit,hsys⟩;clear hd hcd hD B D TE TW Y
 wrow_args hpre hlay hrd hwl hlo
 rename_i ns _ _ _ _ _ _ _ l vs _ hL _ _ _ hI _ hc _;refine yO (NV PL G1 hmg hL hI (by lia)) (λv s' h=>GoodW.toG ?_) (λZ Z h=>h.elim);obtain⟨rfl,h1,h2,h3⟩:=h;refine⟨.inl ⟨_,.bool true,[],rfl,raisesW_false (by wrow_none_raised),.bool true,by kernel_rfl,λZ=>⟨.nil,λa ha=>by cases ha⟩⟩,h1,h2,h3.trans hg⟩
noncomputable abbrev Sx(s:yL):Str:=Str.ofString s
theorem ig:∀{a b:yk Char},a.map Char.toNat=b.map Char.toNat->a=b
 |[],[],_=>rfl
 |[],_::_,h=>by simp at h
 |_::_,[],h=>by simp at h
 |x::a,y::b,h=>by simp only[za,AM]at h;have hxy:x=y:=Char.toNat_inj.mp h.1;rw[hxy,ig h.2]
@[simp] theorem jn(a b:yL):(Str.ofString a=Str.ofString b)=(a=b):=by
 apply propext;constructor
 ·intro h;rw[Str.ofString_eq_toList,Str.ofString_eq_toList]at h;injection h with h;have h2:=yI Array.toList h;simp only[GV]at h2;have h3:a.toList=b.toList:=ig h2;exact String.toList_inj.mp h3
 ·rintro rfl; rfl
noncomputable def Ok(m:M α)(O:St)(Q:α->St->Prop):Prop:=match m O with
 |some (.ok a O')=>Q a O'
 |_=>False
theorem Ok.out{m:M α}{Q:α->St->Prop}(h:Ok m O Q):∃a O',m O=some (.ok a O')/\Q a O':=by
 unfold Ok at h;cases e:m O with
 |none=>rw[e]at h; exact False.elim h
 |some r =>
  rw[e]at h;cases r with
  |ok a O'=>exact⟨a,O',rfl,h⟩
  |err x O'=>exact False.elim h
theorem Ok.of{m:M α}{a:α}{Q:α->St->Prop}(e:m O=some (.ok a O'))(h:Q a O'):Ok m O Q:=by unfold Ok; rw[e]; exact h
theorem Ok.mono{m:M α}{Q R:α->St->Prop}(h:Ok m O Q)(hR:∀a O',Q a O'->R a O'):Ok m O R:=by obtain⟨a,O',e,q⟩:=h.out;exact .of e (hR _ _ q)
@[simp] theorem cg(m:M α)(f:α->M β)(O:St)(Q:β->St->Prop):Ok (M.bind m f) O Q=Ok m O λa O'=>Ok (f a) O' Q:=by
 unfold Ok M.bind;cases m O with
 |none=>rfl
 |some r=>cases r<;>rfl
@[simp] theorem tQ(a:α)(O:St)(Q:α->St->Prop):Ok (M.ret a) O Q=Q a O:=rfl
@[simp] theorem cJ(x:Str)(O:St)(Q:AV->St->Prop):Ok (aa x) O Q=∃v,O.loc x=some v/\Q v O:=by unfold Ok aa;cases h:O.loc x<;>simp
@[simp] theorem jT(x:Str)(v:AV)(O:St)(Q:yu->St->Prop):Ok (an x v) O Q=Q () {O with loc:=ai O.loc x (some v)}:=rfl
@[simp] theorem T9(loc:Str->yl AV)(x y:Str)(v:yl AV):ai loc x v y=if y=x then v else loc y:=rfl
@[simp] theorem rf(o:yl α)(O:St)(Q:α->St->Prop):Ok (ae o) O Q=∃v,o=some v/\Q v O:=by unfold Ok ae;cases o<;>simp
@[simp] theorem jU(f:(Nat->AO)->Nat->yl α)(O:St)(Q:α->St->Prop):Ok (aE f) O Q=∃v,f O.hp O.nx=some v/\Q v O:=by unfold Ok aE;cases f O.hp O.nx<;>simp
@[simp] theorem SR(i:Nat)(O:St)(Q:AO->St->Prop):Ok (rd i) O Q=(i<O.nx/\Q (O.hp i) O):=by unfold Ok rd;by_cases h:i<O.nx<;>simp[h]
@[simp] theorem SQ(i:Nat)(o:AO)(O:St)(Q:yu->St->Prop):Ok (wr i o) O Q=(i<O.nx/\Q () {O with hp:=upd O.hp i o}):=by unfold Ok wr;by_cases h:i<O.nx<;>simp[h]; rfl
@[simp] theorem dG(m:M α)(O:St)(Q:α->St->Prop):Ok (HF m) O Q=Ok m O Q:=by
 unfold Ok HF;cases m O with
 |none=>rfl
 |some r=>cases r<;>rfl
@[simp] theorem bc(hp:Nat->AO)(i j:Nat)(o:AO):upd hp i o j=if j=i then o else hp j:=rfl
theorem HS{o:yl α}{a:α}{f:α->M β}{Q:β->St->Prop}(e:o=some a)(h:Ok (f a) O Q):Ok (M.bind (ae o) f) O Q:=by subst e; exact h
theorem IE{f:AO->M β}{Q:β->St->Prop}(hi:i<O.nx)(h:Ok (f (O.hp i)) O Q):Ok (M.bind (rd i) f) O Q:=by rw[cg,SR]; exact⟨hi,h⟩
theorem IL{o:yl α}{a:α}{f:α->M β}{g:M β}{Q:β->St->Prop}(e:o=some a)(h:Ok (f a) O Q):Ok (bj o f g) O Q:=by subst e; exact h
theorem okN{o:yl α}{f:α->M β}{g:M β}{Q:β->St->Prop}(e:o=none)(h:Ok g O Q):Ok (bj o f g) O Q:=by subst e; exact h
theorem jm[A1 p]{m:M β}{Q:β->St->Prop}(hp:p)(h:Ok m O Q):Ok (if p then m else M.fail) O Q:=by rw[yo hp]; exact h
theorem Rf{Q:yu->St->Prop}(hi:i<O.nx)(h:Q () {O with hp:=upd O.hp i o}):Ok (wr i o) O Q:=by rw[SQ]; exact⟨hi,h⟩
theorem U9{o:yl α}{a:α}{Q:α->St->Prop}(e:o=some a)(h:Q a O):Ok (ae o) O Q:=by subst e; exact h
theorem J1{g:(Nat->AO)->Nat->yl α}{a:α}{f:α->M β}{Q:β->St->Prop}(e:g O.hp O.nx=some a)(h:Ok (f a) O Q):Ok (M.bind (aE g) f) O Q:=by rw[cg,jU]; exact⟨a,e,h⟩
theorem JR[A1 p]{a:AV}{Q:AV->St->Prop}(hp:p)(h:Q a O):Ok (bX p a) O Q:=by unfold Ok bX; rw[yo hp]; exact h
theorem eL{o:yl α}{a:α}{f:α->M β}{r:yl (Res β)}(e:o=some a)(h:f a O=r):M.bind (ae o) f O=r:=by subst e; exact h
theorem eR{f:AO->M β}{r:yl (Res β)}(hi:i<O.nx)(h:f (O.hp i) O=r):M.bind (rd i) f O=r:=by unfold M.bind rd; rw[yo hi]; exact h
theorem eC{o:yl α}{a:α}{f:α->M β}{g:M β}{r:yl (Res β)}(e:o=some a)(h:f a O=r):bj o f g O=r:=by subst e; exact h
theorem UL[A1 p]{m:M β}{r:yl (Res β)}(hp:p)(h:m O=r):(if p then m else M.fail) O=r:=by rw[yo hp]; exact h
theorem cO{t:M yx}{b o:M ac}{Q:ac->St->Prop}(I:Nat->St->Prop)
  (step:∀k O,I k O->Ok t O λc σ1=>if c=true then Ok b σ1 λf σ2=>match f with
   |.next=>∃m,m<k/\I m σ2
   |.cont=>∃m,m<k/\I m σ2
   |.brk=>Q .next σ2
   |.ret v=>Q (.ret v) σ2 else Ok o σ1 Q):∀(n k:Nat) (O:St),k<n->I k O->Ok (bm t b o n) O Q
 |0=>λk O h Z=>yD h (An _)
 |n+1=>λk O h hI=>by
  show Ok (M.bind (HF t) λc=>if c=true then M.bind (HF b) λf=>match f with|.next=>bm t b o n|.cont=>bm t b o n|.brk=>M.ret .next|.ret v=>M.ret (.ret v)else HF o) O Q;rw[cg,dG];refine(step k O hI).mono λc σ1 h1 =>?_;cases c with
  |false=>rw[ym (by simp)]at h1 ⊢; rw[dG]; exact h1
  |true =>
   rw[yo rfl]at h1 ⊢;rw[cg,dG];refine h1.mono λf σ2 h2 =>?_;cases f with
   |next=>obtain⟨m,hm,h3⟩:=h2; exact cO I step n m σ2 (yv hm (zb h)) h3
   |cont=>obtain⟨m,hm,h3⟩:=h2; exact cO I step n m σ2 (yv hm (zb h)) h3
   |brk=>exact h2
   |ret v=>exact h2
theorem br{HE:M yu}{body:γ->M ac}{Q:ac->St->Prop}(I:yk γ->St->Prop)
  (step:∀v r O,I (v::r) O->Ok (body v) O λf σ2=>match f with
   |.next=>Ok HE σ2 λZ σ3=>I r σ3
   |.cont=>Ok HE σ2 λZ σ3=>I r σ3
   |.brk=>Q .next σ2
   |.ret v=>Q (.ret v) σ2) (hend:∀O,I [] O->Q .next O):∀(vs:yk γ) (O:St),I vs O->Ok (bt HE body vs) O Q
 |[]=>λO hI=>hend O hI
 |v::r=>λO hI=>by
  show Ok (M.bind (HF (body v)) λf=>match f with|.next=>M.bind HE λZ=>bt HE body r|.cont=>M.bind HE λZ=>bt HE body r|.brk=>M.ret .next|.ret v=>M.ret (.ret v)) O Q;rw[cg,dG];refine(step v r O hI).mono λf σ2 h2 =>?_;cases f with
  |next=>show Ok (M.bind HE _) _ _; rw[cg]; exact h2.mono λZ σ3 h3=>br I step hend r σ3 h3
  |cont=>show Ok (M.bind HE _) _ _; rw[cg]; exact h2.mono λZ σ3 h3=>br I step hend r σ3 h3
  |brk=>exact h2
  |ret v=>exact h2
theorem fO{HE:M yu}{step:γ->M yu}{Q:yu->St->Prop}(I:yk γ->St->Prop)
  (hstep:∀v r O,I (v::r) O->Ok (step v) O λZ σ2=>Ok HE σ2 λZ σ3=>I r σ3) (hend:∀O,I [] O->Q () O):∀(vs:yk γ) (O:St),I vs O->Ok (d0 HE step vs) O Q
 |[]=>λO hI=>hend O hI
 |v::r=>λO hI=>by show Ok (M.bind (HF (step v)) λZ=>M.bind HE λZ=>d0 HE step r) O Q;rw[cg,dG];refine(hstep v r O hI).mono λZ σ2 h2 =>?_;rw[cg];exact h2.mono λZ σ3 h3=>fO I hstep hend r σ3 h3
theorem er{body:AV->M ac}{Q:ac->St->Prop}{us:yk AV}(I:yk AV->St->Prop)(hst:∀r O,I r O->(O.hp i).items?=some us/\i<O.nx)
  (step:∀v r O,I (v::r) O->Ok (body v) O λf σ2=>match f with
   |.next=>I r σ2
   |.cont=>I r σ2
   |.brk=>Q .next σ2
   |.ret v=>Q (.ret v) σ2) (hend:∀O,I [] O->Q .next O):∀(n k:Nat) (O:St),us.length<n+k->k<=us.length->I (us.drop k) O->Ok (ez body i n k) O Q
 |0=>λk O h hk Z=>yD hk (E6.mpr (zM k▸h))
 |n+1=>λk O h hk hI=>by
  obtain⟨h1,h2⟩:=hst _ _ hI;refine IE h2 (HS h1 ?_);by_cases hlt:k<us.length
  ·refine IL (zN hlt) ?_;rw[Dv hlt]at hI;show Ok (M.bind (HF (body us[k])) λf=>match f with|.next=>ez body i n (k+1)|.cont=>ez body i n (k+1)|.brk=>M.ret .next|.ret v=>M.ret (.ret v)) O Q;rw[cg,dG];refine(step _ _ O hI).mono λf σ2 h2 =>?_;cases f with
   |next=>exact er I hst step hend n (k+1) σ2 (by rw[zI k 1,<-zH]; exact h) hlt h2
   |cont=>exact er I hst step hend n (k+1) σ2 (by rw[zI k 1,<-zH]; exact h) hlt h2
   |brk=>exact h2
   |ret v=>exact h2
  ·refine okN (Br (by exact zr (by assumption))) ?_;rw[ED (by exact zr (by assumption))]at hI;exact hend O hI
theorem Rc{c:yx}{a:AV}{m:M AV}{Q:AV->St->Prop}(e:m O=if c=true then some (.ok a O)else none):Ok m O Q=(c=true/\Q a O):=by unfold Ok; rw[e];cases c<;>simp
theorem uU{a:AV}{m:M AV}{Q:AV->St->Prop}(e:m O=some (.ok a O')):Ok m O Q=Q a O':=by unfold Ok; rw[e]
@[simp] theorem kO(a b:Int)(O:St)(Q:AV->St->Prop):Ok (bM "divmod" [.int a,.int b]) O Q=((b != 0&&bh b)=true/\Q (.tup [.int (Az a b),.int (BG a b)]) O):=Rc (by kernel_rfl)
@[simp] theorem pN(a:Int)(O:St)(Q:AV->St->Prop):Ok (bM "abs" [.int a]) O Q=Q (.int a.natAbs) O:=uU (by kernel_rfl)
@[simp] theorem pM(a:Int)(O:St)(Q:AV->St->Prop):Ok (bM "int" [.int a]) O Q=Q (.int a) O:=uU (by kernel_rfl)
@[simp] theorem K4(a:yM yQ)(O:St)(Q:AV->St->Prop):Ok (bM "type" [.bytes a]) O Q=Q (.typ "bytes") O:=uU (by kernel_rfl)
@[simp] theorem mo(a:yx)(O:St)(Q:AV->St->Prop):Ok (bM "type" [.bool a]) O Q=Q (.typ "bool") O:=uU (by kernel_rfl)
theorem kY[A1 p]{a:AV}{m:M AV}{Q:AV->St->Prop}(e:m O=if p then some (.ok a O)else none):Ok m O Q=(p/\Q a O):=by unfold Ok; rw[e];by_cases h:p<;>simp[h]
@[simp] theorem Oi(a:Int)(O:St)(Q:AV->St->Prop):Ok (bM "chr" [.int a]) O Q=((0<=a/\a<128)/\Q (.str ⟨#[a.toNat]⟩) O):=kY (by kernel_rfl)
@[simp] theorem NC(a:yM yQ)(O:St)(Q:AV->St->Prop):Ok (bM "len" [.bytes a]) O Q=(a.size<=HC/\Q (.int a.size) O):=kY (by kernel_rfl)
@[simp] theorem nJ(a:yk AV)(O:St)(Q:AV->St->Prop):Ok (bM "len" [.tup a]) O Q=(a.length<=HC/\Q (.int a.length) O):=kY (by kernel_rfl)
@[simp] theorem NA(a:yk AV)(O:St)(Q:AV->St->Prop):Ok (bM "len" [.lst a]) O Q=(a.length<=HC/\Q (.int a.length) O):=kY (by kernel_rfl)
noncomputable def KJ:AO->yx
 |.inst _=>false
 |.dead=>false
 |_=>true
theorem ra(h:KJ o=true):o.Jb=none/\o.Qq=false:=by cases o<;>first|exact⟨rfl,rfl⟩|cases h
theorem fe{Q:yl ax->St->Prop}(hi:i<O.nx)(hk:KJ (O.hp i)=true)(h:Q none O):Ok (bN T2 (.ref i) name) O Q :=
 IL rfl (IE hi (okN (ra hk).1 (by rw[(ra hk).2]; exact h)))
theorem wP{x:Str}{Q:yl ax->St->Prop}(h:Q none O):Ok (bN T2 (.str x) name) O Q:=h
theorem mh{fs:yk (Str×AV)}{Q:yl ax->St->Prop}(hi:i<O.nx)(hd:d<O.nx)(h1:O.hp i=.inst d)(h2:O.hp d=.attrs fs)(h3:fs.lookup name=none)(h4:T2.meths name=some fd)(h:Q (some fd) O) :
  Ok (bN T2 (.ref i) name) O Q :=
 IL rfl (IE hi (IL (by rw[h1]; rfl) (IE hd (HS (by rw[h2]; rfl) (jm (by rw[h3]; rfl) (HS h4 h))))))
theorem vn{n k:yL}(h:cQ hp nx v=some k)(hm:iz.contains (k,n)=true):gG hp nx v n=some k:=by unfold gG; rw[h]; exact yo hm
theorem mw(hi:i<nx)(h:hp i=o):cQ hp nx (.ref i)=AO.kind? o:=by subst h; exact yo hi
theorem db(hi:i<nx)(h:hp i=.list vs):cQ hp nx (.ref i)=some "list":= mw hi h
theorem mx{v:Nat}(hi:i<nx)(h:hp i=.dict kvs v):cQ hp nx (.ref i)=some "dict":= mw hi h
theorem oA{ks:yk Int}(hi:i<nx)(h:hp i=.set ks):cQ hp nx (.ref i)=some "set":= mw hi h
theorem lK(hl:vs.length<=HC)(hi:i<O.nx):dT i vs O=some (.ok () {O with hp:=upd O.hp i (.list vs)}):=by unfold dT;rw[yo hl];unfold wr;rw[yo hi];rfl
theorem m9(hl:vs.length<=HC)(hi:i<O.nx):M.bind (dT i vs) (λZ=>M.ret v) O=some (.ok v {O with hp:=upd O.hp i (.list vs)}):=by unfold M.bind;rw[lK hl hi]
theorem qB(i:Nat)(v:AV)(O:St)(vs:yk AV)(hi:i<O.nx)(h:O.hp i=.list vs)(hl:vs.length<HC):ip (.ref i) "append" [v] O=some (.ok .none {O with hp:=upd O.hp i (.list (vs++[v]))}) :=
 eC (a:=pV) (by kernel_rfl) (eL rfl (eR hi (eL (by rw[h]; rfl) (eL rfl (m9 (by rw[yV]; exact hl) hi)))))
theorem xW(i:Nat)(O:St)(vs:yk AV)(v:AV)(hi:i<O.nx)(h:O.hp i=.list (vs++[v]))(hl:vs.length<=HC):ip (.ref i) "pop" [] O=some (.ok v {O with hp:=upd O.hp i (.list vs)}) :=
 eC (a:=Rl) (by kernel_rfl) (eL rfl (eR hi (eL (a:=vs++[v]) (by rw[h]; rfl) (UL rfl (eL Gz (by rw[List.dropLast_concat]; exact m9 hl hi))))))
theorem sx(i:Nat)(O:St)(vs:yk AV)(hi:i<O.nx)(h:O.hp i=.list vs)(hl:vs.length<=HC):ip (.ref i) "clear" [] O=some (.ok .none {O with hp:=upd O.hp i (.list [])}) :=
 eC (a:=t4) (by kernel_rfl) (eL rfl (eR hi (eL (a:=vs) (by rw[h]; rfl) (UL (y9 hl) (m9 (zc _) hi)))))
theorem ut(i:Nat)(O:St)(kvs:yk (Int×AV))(ver:Nat)(k:Int)(hi:i<O.nx)(h:O.hp i=.dict kvs ver):ip (.ref i) "get" [.int k] O=some (.ok ((kvs.lookup k).getD .none) O) :=
 eC (a:=Rm) (by kernel_rfl) (eL rfl (eR hi (eL (a:=(kvs,ver)) (by rw[h]; rfl) (eL rfl rfl))))
theorem uE(hi:i<O.nx):M.bind (wr i o) (λZ=>M.ret v) O=some (.ok v {O with hp:=upd O.hp i o}):=by unfold M.bind wr; rw[yo hi]; rfl
theorem xX(i:Nat)(O:St)(ks:yk Int)(k:Int)(hi:i<O.nx)(h:O.hp i=.set ks)(hl:ks.length<=1000):ip (.ref i) "add" [.int k] O=some (.ok .none {O with hp:=upd O.hp i (.set (if ks.contains k then ks else ks++[k]))}) :=
 eC (a:=Rn) (by kernel_rfl) (eL rfl (eR hi (eL (a:=ks) (by rw[h]; rfl) (eL rfl (eL rfl (UL hl (uE hi)))))))
theorem fP{a:Str}{fs:yk (Str×AV)}{Q:AV->St->Prop}(hi:i<O.nx)(hd:d<O.nx)(h1:O.hp i=.inst d)(h2:O.hp d=.attrs fs)(h3:bG.contains a=true)(h4:fs.lookup a=some v)(h:Q v O) :
  Ok (be (.ref i) a) O Q :=
 HS rfl (IE hi (IL (by rw[h1]; rfl) (IE hd (HS (by rw[h2]; rfl) (jm h3 (U9 h4 h))))))
theorem dF{a:Str}{fs:yk (Str×AV)}{Q:yu->St->Prop}(hi:i<O.nx)(hd:d<O.nx)(h1:O.hp i=.inst d)(h2:O.hp d=.attrs fs)(h3:(decide (fs.length<=100)&&bG.contains a)=true)(h:Q () {O with hp:=upd O.hp d (.attrs (cq fs a v))}) :
  Ok (dE (.ref i) a v) O Q :=
 HS rfl (IE hi (IL (by rw[h1]; rfl) (IE hd (HS (by rw[h2]; rfl) (jm h3 (Rf hd h))))))
theorem cP{x:yl AV}{a:Str}{Q:AV->St->Prop}(hi:i<O.nx)(h1:O.hp i=.node d x y z)
  (h2:(a=Sx "node" /\ x=some v)\/(a=Sx "npredecessors" /\ y=some v)\/(a=Sx "successors" /\ z=some v)) (h:Q v O):Ok (be (.ref i) a) O Q:=by
 refine HS rfl (IE hi (okN (by rw[h1]; rfl) (IL (a:=⟨d,x,y,z⟩) (by rw[h1]; rfl) (U9 ?_ h))));rcases h2 with⟨rfl,rfl⟩|⟨rfl,rfl⟩|⟨rfl,rfl⟩<;>rfl
theorem cI{x:yl AV}{a:Str}{Q:yu->St->Prop}(hi:i<O.nx)(h1:O.hp i=.node d x y z)
  (h:(a=Sx "node" /\ Q () {O with hp:=upd O.hp i (.node d (some v) y z)})\/(a=Sx "npredecessors" /\ Q () {O with hp:=upd O.hp i (.node d x (some v) z)})\/(a=Sx "successors" /\ Q () {O with hp:=upd O.hp i (.node d x y (some v))})) :
  Ok (dE (.ref i) a v) O Q:=by
 refine HS rfl (IE hi (okN (by rw[h1]; rfl) (HS (a:=⟨d,x,y,z⟩) (by rw[h1]; rfl) ?_)));rcases h with⟨rfl,h⟩|⟨rfl,h⟩|⟨rfl,h⟩<;>exact HS rfl (Rf hi h)
variable{ver:Nat}
theorem mi{k:Int}{Q:yu->St->Prop}(hj:j<O.nx)(h1:O.hp j=.dict kvs ver)(hl:kvs.length<=HC)(h:Q () {O with hp:=upd O.hp j (.dict (stored kvs k v) (ver+1))}) :
  Ok (jP (.ref j) (.int k) v) O Q :=
 HS rfl (HS rfl (IE hj (okN (by rw[h1]; rfl) (HS (a:=(kvs,ver)) (by rw[h1]; rfl) (jm hl (Rf hj h))))))
theorem KZ{k:Int}{Q:yu->St->Prop}(hj:j<O.nx)(h1:O.hp j=.dict kvs ver)(hl:((kvs.lookup k).isSome&&decide (kvs.length<=HC))=true)(h:Q () {O with hp:=upd O.hp j (.dict (without kvs k) (ver+1))}) :
  Ok (qw (.ref j) (.int k)) O Q :=
 HS rfl (HS rfl (IE hj (HS (a:=(kvs,ver)) (by rw[h1]; rfl) (jm hl (Rf hj h)))))
theorem wT{Q:aw->St->Prop}(hi:i<O.nx)(h1:O.hp i=.list vs)(h:Q (.HY i) O):Ok (ar (.ref i)) O Q :=
 okN rfl (okN rfl (okN rfl (HS rfl (IE hi (IL (a:=vs) (by rw[h1]; rfl) h)))))
theorem wU{Q:aw->St->Prop}(hi:i<O.nx)(h1:O.hp i=.dict kvs ver)(h:Q (.H7 i ver (kvs.map λp=>.int p.1)) O):Ok (ar (.ref i)) O Q :=
 okN rfl (okN rfl (okN rfl (HS rfl (IE hi (okN (by rw[h1]; rfl) (HS (a:=(kvs,ver)) (by rw[h1]; rfl) h))))))
theorem g9{Q:yu->St->Prop}(hi:i<O.nx)(h1:O.hp i=.dict kvs ver)(h:Q () O):Ok (du i ver) O Q :=
 IE hi (HS (a:=(kvs,ver)) (by rw[h1]; rfl) (jm rfl h))
theorem ku{Q:yu->St->Prop}(hi:i<O.nx)(h1:O.hp i=.list vs)(hl:vs.length<HC)(h:Q () {O with hp:=upd O.hp i (.list (vs++[v]))}):Ok (eD i v) O Q :=
 IE hi (HS (a:=vs) (by rw[h1]; rfl) (Ok.of (lK (by rw[yV]; exact hl) hi) h))
@[simp] theorem rD(hp:Nat->AO)(nx:Nat)(a b:yM yQ):gJ hp nx .Add (.bytes a) (.bytes b)=if a.size+b.size<=HC then some (.bytes (a++b))else none:=by show(if(Hd==Hd&&decide (a.size+b.size<=HC))=true then some (AV.bytes (a++b))else none)=_;by_cases h:a.size+b.size<=HC<;>simp[h]
@[simp] theorem xq(a b:Int):ba .LShift a b=if(bh a&&decide (0<=b)&&decide (b<=1000))=true then some (a*2 ^ b.toNat)else none:=rfl
@[simp] theorem xp(a b:Int):ba .RShift a b=if decide (0<=b)=true then some (Az a (2 ^ b.toNat))else none:=rfl
theorem tA(i:Int):bh i=true↔-(2 ^ 200)<i/\i<2 ^ 200:=by unfold bh Pn;rw[zg,ze,ze]
theorem gq(h:n<2 ^ 200):bh (n:Int)=true:=by
 have e:((2 ^ 200:Nat):Int)=(2:Int) ^ 200:=by rfl
 exact(tA _).mpr ⟨BV (by decide) (zo n),e▸Av.mpr h⟩
@[simp] theorem kG(hp:Nat->AO)(nx:Nat)(b:yM yQ)(l h:Int):kP hp nx (.bytes b) (some (.int l)) (some (.int h)) none=if 0<=l/\0<=h/\b.size<=HC then some (.bytes ((b.toList.drop l.toNat).take (h.toNat-l.toNat)).toArray)else none:=rfl
@[simp] theorem MK(hp:Nat->AO)(nx:Nat)(vs:yk AV)(h:Int):kP hp nx (.lst vs) none (some (.int h)) none=if 0<=h then(if vs.length<=HC then some (.lst (vs.take h.toNat))else none)else none:=rfl
@[simp] theorem th(hp:Nat->AO)(nx:Nat)(i:yx):dC hp nx (.bool i)=some i:=rfl
theorem tg(hi:i<nx)(h:hp i=.list vs)(hl:vs.length<=HC):dC hp nx (.ref i)=some (!vs.isEmpty):=by show(if i<nx then(hp i).H6.bind λvs=>if vs.length<=HC then some (!vs.isEmpty)else none else none)=_;rw[yo hi,h];exact yo hl
@[simp] theorem dt(hp:Nat->AO)(nx:Nat)(a b:Int):Il hp nx .Eq (.int a) (.int b)=some (a==b):=rfl
@[simp] theorem iM(hp:Nat->AO)(nx:Nat)(a b:Int):Il hp nx .NotEq (.int a) (.int b)=some (!(a==b)):=rfl
@[simp] theorem ur(hp:Nat->AO)(nx:Nat)(a b:Int):Il hp nx .GtE (.int a) (.int b)=some (decide (a≥b)):=rfl
@[simp] theorem MO(hp:Nat->AO)(nx:Nat)(a b:AV):Il hp nx .Is a b=ON a b:=rfl
@[simp] theorem Sp(hp:Nat->AO)(nx:Nat)(a b:AV):Il hp nx .IsNot a b=(ON a b).map (!·):=rfl
@[simp] theorem OM(m n:yL):ON (.typ m) (.typ n)=some (m==n):=rfl
@[simp] theorem ND:ON .none .none=some true:=rfl
@[simp] theorem nT(b:yx):ON (.bool b) .none=some false:=rfl
@[simp] theorem rR(hp:Nat->AO)(nx:Nat)(b:yM yQ)(i:Int):gc hp nx (.bytes b) (.int i)=if 0<=i/\b.size<=HC then(b[i.toNat]?).map λx=>.int x.toNat else none:=rfl
@[simp] theorem Sn(hp:Nat->AO)(nx:Nat)(vs:yk AV)(i:Int):gc hp nx (.lst vs) (.int i)=IF vs i:=(rfl)
theorem ub(i:Int)(hj:j<nx)(h:hp j=.dict kvs ver):gc hp nx (.ref j) (.int i)=kvs.lookup i:=by show(match items? hp nx (.ref j)with|some vs=>IF vs i|none=>if j<nx then(hp j).HM.bind λd=>d.1.lookup i else none)=_;rw[show items? hp nx (.ref j)=none from(yo hj).trans (by rw[h]; rfl),h];exact yo hj
@[simp] theorem L9:T2.HI (Sx "_B64")=some (.bytes nr):=by kernel_rfl
@[simp] theorem rO:T2.HI (Sx "_NODE_OUT")=some (.int (-1)):=by kernel_rfl
@[simp] theorem xu:T2.HI (Sx "_NODE_DONE")=some (.int (-2)):=by kernel_rfl
@[simp] theorem RA:T2.HI (Sx "bytes")=some (.typ "bytes"):=by kernel_rfl
@[simp] theorem xt:T2.HI (Sx "bool")=some (.typ "bool"):=by kernel_rfl
@[simp] theorem xe(x y:Str)(v:β)(r:yk (Str×β)):Ba x ((y,v)::r)=if x=y then some v else r.lookup x:=by
 rw[zi];by_cases h:x=y
 ·subst h; simp
 ·rw[ym h,show(x==y)=false from by simpa using h]
end Internal
end
noncomputable section
local macro_rules | `(tactic| infer_instance)=>(let g:=λa=>Lean.mkNode `group #[Lean.mkAtom "|",a]; let l:=("V.c V.r V.nil V.l V.bin V.cmp V.idx V.opt V.cut V.neg V.cons V.g V.b V.at V.its L0 LK0 J.i I.addN I.add I.sub LS LK".splitOn " ").toArray.map λn=>g (Lean.mkNode `Lean.Parser.Tactic.apply #[Lean.mkAtom "apply",Lean.mkIdent n.toName]); return Lean.mkNode `Lean.Parser.Tactic.withReducible #[Lean.mkAtom "with_reducible",Lean.mkNode `Lean.Parser.Tactic.first #[Lean.mkAtom "first",Lean.mkNullNode (#[g (Lean.mkNode `Lean.Parser.Tactic.assumption #[Lean.mkAtom "assumption"])]++l.push (g (Lean.mkNode `tacticKernel_rfl #[Lean.mkAtom "kernel_rfl"])))]])
open Internal.M renaming bind->yJ,ret->zu,fail->AL
open Internal renaming Ok->yT,ae->zE,Il->AB,M->AK,aE->Bq,bX->CA,rd->CB,aJ->Dr,ar->Et,fO->Eu,kL->Ew,an->Ga,br->Gb,cg->Gc,dG->Ge,eD->Gf,jU->Gg,kK->Gh
open Internal.Ok renaming of->zZ
namespace Internal.R
open PySem Internal
noncomputable def Ln:ax:=T2.IA.getD pQ
structure M(α:Type) where
 m:AK α
 w:St->(α->St->Prop)->Prop
 ok:∀{O Q},w O Q->yT m O Q
 mono:∀{O} {Q R:α->St->Prop},w O Q->(∀a O',Q a O'->R a O')->w O R
variable{α β γ:Type}
noncomputable def Ok(v:M α)(O:St)(Q:α->St->Prop):Prop:=v.w O Q
variable{O:St}
theorem Ok.mono{v:M α}{Q R:α->St->Prop}(h:Ok v O Q)(hR:∀a O',Q a O'->R a O'):Ok v O R:=v.mono h hR
theorem Ok.toM{v:M α}{Q:α->St->Prop}(h:Ok v O Q):yT v.m O Q:=v.ok h
theorem Ok.out{v:M α}{Q:α->St->Prop}(h:Ok v O Q):∃a O',v.m O=some (.ok a O')/\Q a O':=(v.ok h).out
noncomputable def up(m:AK α):M α:=⟨m,yT m,λh=>h,λh k=>h.mono k⟩
theorem UP{v:M α}{f:α->AK β}{P:α->St->Prop}{Q:β->St->Prop}(h:v.w O P)(k:∀a O',P a O'->yT (f a) O' Q):yT (yJ v.m f) O Q :=
 BE (Gc ..) ((v.ok h).mono k)
namespace M
noncomputable def ret(a:α):M α:=⟨zu a,λO Q=>Q a O,λh=>h,λh k=>k _ _ h⟩
noncomputable def fail:M α:=⟨AL,λZ Z=>False,λh=>h.elim,λh Z=>h.elim⟩
noncomputable def bind(v:M α)(f:α->M β):M β:=⟨yJ v.m λa=>(f a).m,λO Q=>v.w O λa O'=>(f a).w O' Q,λh=>UP h λZ Z h=>(f _).ok h,λh k=>v.mono h λZ Z h=>(f _).mono h k⟩
end M
noncomputable def ak:=ax->yk AV->yk (Str×AV)->M AV
noncomputable def cm(C:ak):Internal.ak:=λfd p k=>(C fd p k).m
noncomputable def aJ(T:Tab)(L N d:Nat):ak:=λfd p k=>up (Dr T L N d fd p k)
inductive qk(o:yl α)(K:α->St->Prop)(O:St):Prop
 |mk (v:α) (e:o=some v) (h:K v O):qk o K O
noncomputable def ask(f:St->yl α):M α:=⟨λO=>match f O with|some a=>some (.ok a O)|none=>none,λO Q=>qk (f O) Q O,
 λh=>by obtain⟨v,e,h⟩:=h; exact zZ (by rw[e]) h,λh k=>by obtain⟨v,e,h⟩:=h; exact⟨v,e,k _ _ h⟩⟩
noncomputable def aa(x:Str):M AV:=ask λO=>O.loc x
noncomputable def ae(o:yl α):M α:=ask λZ=>o
noncomputable def aE(f:(Nat->AO)->Nat->yl α):M α:=ask λO=>f O.hp O.nx
noncomputable def an(x:Str)(v:AV):M yu:=⟨Ga x v,λO Q=>Q () {O with loc:=ai O.loc x (some v)},λh=>h,λh k=>k _ _ h⟩
noncomputable def new(o:AO):M Nat:=⟨Internal.new o,λO Q=>Q O.nx {O with hp:=upd O.hp O.nx o,nx:=O.nx+1},λh=>h,λh k=>k _ _ h⟩
noncomputable def ar(v:AV):M aw:=up (Et v)
noncomputable def eD(i:Nat)(v:AV):M yu:=up (Gf i v)
noncomputable def du(i ver:Nat):M yu:=up (Internal.du i ver)
noncomputable def Ru(c:yx)(a b:M α):M α:=⟨if c then a.m else b.m,λO Q=>if c=true then a.w O Q else b.w O Q,λh=>by cases c; exact b.ok h; exact a.ok h,λh k=>by cases c; exact b.mono h k; exact a.mono h k⟩
noncomputable def bX(p:Prop)[A1 p](a:AV):M AV:=⟨if p then zu a else AL,λO Q=>p/\Q a O,λh=>by rw[yo h.1]; exact h.2,λh k=>⟨h.1,k _ _ h.2⟩⟩
noncomputable def cst(v:AV):M AV:=M.ret v
noncomputable def aK(op:z7)(a b:M AV):M AV:=M.bind a λx=>M.bind b λy=>aE λhp nx=>gJ hp nx op x y
noncomputable def pR(a:M AV):M AV:=M.bind a λx=>⟨yJ (zE x.int?) λi=>zu (.int (-i)),λO Q=>∃i,x=.int i/\Q (.int (-i)) O,
 λh=>by obtain⟨i,rfl,h⟩:=h; exact h,λh k=>by obtain⟨i,e,h⟩:=h; exact⟨i,e,k _ _ h⟩⟩
noncomputable def Ti(t:M yx)(a b:M AV):M AV:=M.bind t λc=>Ru c a b
noncomputable def bO(o:AO):M AV:=M.bind (new o) λi=>M.ret (.ref i)
noncomputable def aj:yk (M AV)->M (yk AV)
 |[]=>M.ret []
 |a::as=>M.bind a λv=>M.bind (aj as) λvs=>M.ret (v::vs)
noncomputable def VB(kv:AV)(f:Int->M α):M α:=⟨match kv with|.int i=>(f i).m|_=>AL,λO Q=>∃i,kv=.int i/\(f i).w O Q,λh=>by obtain⟨i,rfl,h⟩:=h; exact(f i).ok h,
 λh k=>by obtain⟨i,e,h⟩:=h; exact⟨i,e,(f i).mono h k⟩⟩
noncomputable def Ia(as:yk (M AV)):M AV:=M.bind (aj as) λvs=>bX (vs.length<=HC) (.lst vs)
noncomputable def tf(as:yk (M AV)):M AV:=M.bind (aj as) λvs=>bX (vs.length<=HC) (.tup vs)
noncomputable def R4(g:α->β)(f:(Nat->AO)->Nat->yl α):M β:=⟨Bq λhp nx=>(f hp nx).map g,λO Q=>qk (f O.hp O.nx) (λa=>Q (g a)) O,
 λ{O Q} h=>by obtain⟨v,e,h⟩:=h; exact BE (Gg ..) ⟨g v,by rw[e]; rfl,h⟩,λh k=>by obtain⟨v,e,h⟩:=h; exact⟨v,e,k _ _ h⟩⟩
noncomputable def TL(f:(Nat->AO)->Nat->yl α):M α:=⟨Bq λhp nx=>(f hp nx).map id,λO Q=>qk (f O.hp O.nx) Q O,
 λ{O Q} h=>by obtain⟨v,e,h⟩:=h; exact BE (Gg ..) ⟨v,by rw[e]; rfl,h⟩,λh k=>by obtain⟨v,e,h⟩:=h; exact⟨v,e,k _ _ h⟩⟩
noncomputable def aG(op:zD)(a b:M AV):M yx:=M.bind a λx=>M.bind b λy=>TL λhp nx=>Il hp nx op x y
noncomputable def nX(op:zD)(a b:M AV):M AV:=M.bind a λx=>M.bind b λy=>R4 .bool λhp nx=>Il hp nx op x y
noncomputable def Ji(a:M AV):M yx:=M.bind a λv=>aE λhp nx=>dC hp nx v
noncomputable def UR(b:yx)(r:M yx):M yx:=⟨if(true==b)=true then r.m else zu b,λO Q=>if b=true then r.w O Q else Q false O,λh=>by cases b; exact h; exact r.ok h,λh k=>by cases b; exact k _ _ h; exact r.mono h k⟩
noncomputable def Vu(b:yx)(r:M yx):M yx:=⟨if(false==b)=true then r.m else zu b,λO Q=>if b=true then Q true O else r.w O Q,λh=>by cases b; exact r.ok h; exact h,λh k=>by cases b; exact r.mono h k; exact k _ _ h⟩
noncomputable def M8(a r:M yx):M yx:=M.bind a λb=>UR b r
noncomputable def Ih(a r:M yx):M yx:=M.bind a λb=>Vu b r
noncomputable def TO(v:AV)(b:yx)(r:M AV):M AV:=⟨if(true==b)=true then r.m else zu v,λO Q=>if b=true then r.w O Q else Q v O,λh=>by cases b; exact h; exact r.ok h,λh k=>by cases b; exact k _ _ h; exact r.mono h k⟩
noncomputable def Uw(v:AV)(b:yx)(r:M AV):M AV:=⟨if(false==b)=true then r.m else zu v,λO Q=>if b=true then Q v O else r.w O Q,λh=>by cases b; exact r.ok h; exact h,λh k=>by cases b; exact r.mono h k; exact k _ _ h⟩
noncomputable def VN(a r:M AV):M AV:=M.bind a λv=>M.bind (aE λhp nx=>dC hp nx v) λb=>TO v b r
noncomputable def Uz(a r:M AV):M AV:=M.bind a λv=>M.bind (aE λhp nx=>dC hp nx v) λb=>Uw v b r
noncomputable def pS(x:Str)(a:M AV):M AV:=M.bind a λv=>M.bind (an x v) λZ=>M.ret v
noncomputable def Sy(a:M AV):M (yk AV):=M.bind a λv=>up (eG v)
noncomputable def Ke(u a:M AV):M (yk AV):=M.bind u λu=>M.bind a λv=>M.bind (up (eG v)) λvs=>M.ret (u::vs)
noncomputable def Lk(v:M α):M α:=⟨Internal.HF v.m,v.w,λh=>BE (Ge ..) (v.ok h),v.mono⟩
noncomputable def b8(C:ak)(fd:ax)(a:M (yk AV)):M AV:=M.bind (M.bind a λvs=>M.ret (vs,([]:yk (Str×AV)))) λp=>Lk (C fd p.1 p.2)
noncomputable def Vb:yk (Str×M AV)->M (yk (Str×AV))
 |[]=>M.ret []
 |p::r=>M.bind p.2 λv=>M.bind (Vb r) λvs=>M.ret ((p.1,v)::vs)
noncomputable def Qt(C:ak)(fd:ax)(a:M (yk AV))(k:yk (Str×M AV)):M AV:=M.bind (M.bind a λvs=>M.bind (Vb k) λkv=>M.ret (vs,kv)) λp=>Lk (C fd p.1 p.2)
noncomputable def ay(n:yL)(a:M (yk AV)):M AV:=M.bind a λvs=>up (bM n vs)
noncomputable def eM:AV->M AV:=λZ=>M.fail
noncomputable def bw(n:yL)(a:M (yk AV))(ov:AV):M AV :=
 M.bind (aE λhp nx=>gG hp nx ov n) λk=>M.bind a λvs=>M.bind (aE λhp nx=>cQ hp nx ov) λk'=>up (if(k==k')=true then ip ov n vs else AL)
noncomputable def U3(um:yl ax)(s:ax->M AV)(n:M AV):M AV:=⟨bj um (λfd=>(s fd).m) n.m,λO Q=>match um with|some fd=>(s fd).w O Q|none=>n.w O Q,
 λh=>by cases um with|none=>exact n.ok h|some fd=>exact(s fd).ok h,λh k=>by cases um with|none=>exact n.mono h k|some fd=>exact(s fd).mono h k⟩
noncomputable def aI(C:ak)(o:M AV)(name:Str)(a:M (yk AV))(blt:AV->M AV):M AV :=
 M.bind o λov=>M.bind (up (bN T2 ov name)) λum=>U3 um (λfd=>M.bind a λvs=>C fd (ov::vs) []) (blt ov)
noncomputable def oD(o:M AV)(name:Str)(blt:AV->M AV):M AV :=
 M.bind o λov=>M.bind (up (bN T2 ov name)) λum=>U3 um (λZ=>M.fail) (blt ov)
noncomputable def vg(f:M AV):M AV:=M.bind f λv=>up (cM v)
noncomputable def aW(o:M AV)(a:Str):M AV:=M.bind o λov=>up (be ov a)
noncomputable def aB(o i:M AV):M AV:=M.bind o λov=>M.bind i λiv=>aE λhp nx=>gc hp nx ov iv
noncomputable def gd(a:M AV):M (yl AV):=M.bind a λv=>M.ret (some v)
noncomputable def iL(o:M AV)(l h s:M (yl AV)):M AV:=M.bind o λov=>M.bind l λl=>M.bind h λh=>M.bind s λs=>aE λhp nx=>kP hp nx ov l h s
theorem OD{m:M AV}{i:Nat}{Q:AV->St->Prop}(h:m.w O λv σ1=>v=.none/\Q (.ref i) σ1):yT (iB m.m i) O Q:=by refine UP h λv σ1 h1 =>?_;obtain⟨rfl,h1⟩:=h1;exact h1
noncomputable def LD(m:M AV)(i:Nat):M AV:=⟨iB m.m i,λO Q=>m.w O λv σ1=>v=.none/\Q (.ref i) σ1,OD,λh k=>m.mono h λZ Z h=>⟨h.1,k _ _ h.2⟩⟩
noncomputable def Lz(C:ak)(a:M (yk AV)):M AV:=M.bind a λvs=>M.bind (new (.attrs [])) λd=>M.bind (new (.inst d)) λi=>LD (Lk (C (bH (Sx "__init__")) (.ref i::vs) [])) i
noncomputable def LA(C:ak)(a:M (yk AV)):M AV:=M.bind a λvs=>M.bind (new (.attrs [])) λd=>M.bind (new (.node d none none none)) λi=>LD (Lk (C Ln (.ref i::vs) [])) i
noncomputable def cp(a:M (yk AV)):M aw:=M.bind a λvs=>M.bind (ae (iZ vs)) λp=>M.bind (ae (d8 p.1 p.2.1 p.2.2)) λxs=>M.ret (.Ip xs)
noncomputable def MB(a:M (yk AV)):M aw:=M.bind a λvs=>M.bind (ae (one? vs)) λv=>M.bind (aE λhp nx=>mG hp nx v) λxs=>M.ret (.pairs none (im 0 xs))
noncomputable def Jf(a:M AV):M aw:=M.bind a λv=>up (yJ (zE v.HO) λi=>yJ (CB i) λob=>yJ (zE ob.HM) λd=>zu (.pairs (some (i,d.2)) (d.1.map λp=>(.int p.1,p.2))))
noncomputable def uF(a:M AV):M aw:=M.bind a λv=>up (yJ (zE v.HO) λi=>yJ (CB i) λob=>yJ (zE ob.HM) λd=>zu (.H7 i d.2 (d.1.map λp=>p.2)))
noncomputable def nA(t:M yx)(emit:M yu):M yu:=M.bind t λb=>Ru b emit (M.ret ())
noncomputable def cL(L:Nat)(its:aw)(step:AV->M yu):M yu:=up (Internal.cL L its λv=>(step v).m)
noncomputable def aL(L:Nat)(x:Str)(t:M yx)(emit:M yu)(its:aw):M yu:=cL L its λv=>M.bind (an x v) λZ=>nA t emit
noncomputable def uH:yk Str->yk AV->AK yu
 |[],[]=>zu ()
 |x::xs,v::vs=>yJ (Ga x v) λZ=>uH xs vs
 |_,_=>AL
noncomputable def uI(xs:yk Str)(vs:yk AV):AK yu:=if decide (xs.length=vs.length)=true then uH xs vs else AL
noncomputable def dR(xs:yk Str)(v:AV):M yu:=up (bj v.Iy (uI xs) (yJ (zE v.Jn) (uI xs)))
variable{σ2:St}
theorem t8{m:AK α}{a:α}(e:m {O with loc:=λZ=>none}=some (.ok a σ2)):dz m O=some (.ok a {σ2 with loc:=O.loc}):=by unfold dz;rw[e]
theorem Kj{g:St->M yu}{Q:yu->St->Prop}(h:(g O).w {O with loc:=λZ=>none} λZ σ2=>Q () {σ2 with loc:=O.loc}):yT (λO=>dz (g O).m O) O Q:=by obtain⟨Z,σ2,e,h2⟩:=((g O).ok h).out;exact zZ (t8 e) h2
noncomputable def Kk(g:St->M yu):M yu:=⟨λO=>dz (g O).m O,λO Q=>(g O).w {O with loc:=λZ=>none} λZ σ2=>Q () {σ2 with loc:=O.loc},Kj,λh k=>(g _).mono h λZ Z h=>k _ _ h⟩
noncomputable def bd(its:aw):M yu:=M.ret ()
noncomputable def OP(its:aw):M yu:=⟨if(true && !(true&&its.L4))=true then AL else zu (),λO Q=>its.L4=true/\Q () O,λh=>by rw[h.1]; exact h.2,λh k=>⟨h.1,k _ _ h.2⟩⟩
noncomputable def bE(i:Nat):M yu:=⟨freeze i,λO Q=>i<O.nx/\∃vs,O.hp i=.list vs/\Q () {O with hp:=upd O.hp i (.frozen vs)},λh=>by obtain⟨h1,vs,h2,h3⟩:=h; exact IE h1 (HS (a:=vs) (by rw[h2]; rfl) (Rf h1 h3)),
 λh k=>by obtain⟨h1,vs,h2,h3⟩:=h; exact⟨h1,vs,h2,k _ _ h3⟩⟩
noncomputable def UC(i:Nat):M yu:=M.ret ()
noncomputable def aO(nc:aw->M yu)(o:AO)(fin:Nat->M yu)(its:M aw)(g:St->Nat->aw->M yu):M AV :=
 M.bind its λits=>M.bind (nc its) λZ=>M.bind (new o) λi=>M.bind (Kk λO=>g O i its) λZ=>M.bind (fin i) λZ=>M.ret (.ref i)
noncomputable def oW(nc:aw->M yu)(its:M aw)(g:St->Nat->aw->M yu):M AV :=
 M.bind its λits=>M.bind (nc its) λZ=>M.bind (new (.dict [] 0)) λi=>M.bind (Kk λO=>g O i its) λZ=>M.ret (.ref i)
noncomputable def clause(nc:aw->M yu)(its:M aw)(g:aw->M yu):M yu:=M.bind its λits=>M.bind (nc its) λZ=>g its
noncomputable def aU(e:M AV)(i:Nat):M yu:=M.bind e λv=>eD i v
noncomputable def kE(k v:M AV)(i:Nat):M yu:=M.bind k λkv=>M.bind v λvv=>up (kW i kv vv)
noncomputable def Ts(f:ac)(r:M ac):M ac:=⟨match f with|.next=>r.m|f=>zu f,λO Q=>match f with|.next=>r.w O Q|f=>Q f O,λh=>by cases f<;>first|exact r.ok h|exact h,
 λh k=>by cases f<;>first|exact r.mono h k|exact k _ _ h⟩
noncomputable def af(m r:M ac):M ac:=M.bind m λf=>Ts f r
noncomputable def a7(a:M AV):M ac:=M.bind a λZ=>M.ret .next
noncomputable def bV(a:M AV):M ac:=M.bind a λv=>M.ret (.ret v)
noncomputable def j7:yk (AV->M yu)->AV->M yu
 |[],_=>M.ret ()
 |t::ts,v=>M.bind (t v) λZ=>j7 ts v
noncomputable def aA(a:M AV)(ts:yk (AV->M yu)):M ac:=M.bind a λv=>M.bind (j7 ts v) λZ=>M.ret .next
noncomputable def bo(o:M AV)(a:Str)(v:AV):M yu:=M.bind o λov=>up (dE ov a v)
noncomputable def b3(o i:M AV)(v:AV):M yu:=M.bind o λov=>M.bind i λiv=>up (jP ov iv v)
variable{op:z7}{Q:ac->St->Prop}
theorem RZ{a b:AV}{k:AV->M yu}
  (h:∃i j c,a=.int i/\b=.int j/\ba op i j=some c/\(op==.Add||op==.Sub)=true/\(k (.int c)).w O λZ σ1=>Q .next σ1):yT (Pu op a b λc=>(k c).m) O Q:=by
 obtain⟨i,j,c,rfl,rfl,h1,h2,h3⟩:=h;show yT (yJ (zE (AV.int? (.int i))) λi=>yJ (zE (AV.int? (.int j))) λj=>yJ (zE (ba op i j)) λc=>if(op==.Add||op==.Sub)=true then yJ (k (.int c)).m λZ=>zu .next else AL) O Q;refine HS (a:=i) rfl (HS (a:=j) rfl (HS (a:=c) h1 (jm h2 ?_)));exact UP (Q:=Q) h3 λZ Z h=>h
noncomputable def TK(op:z7)(a b:AV)(k:AV->M yu):M ac:=⟨Pu op a b λc=>(k c).m,
 λO Q=>∃i j c,a=.int i/\b=.int j/\ba op i j=some c/\(op==.Add||op==.Sub)=true/\(k (.int c)).w O λZ σ1=>Q .next σ1,RZ,
 λh k'=>h.imp λi=>Bm λj=>Bm λc=>Cr (Cr (Cr (Cr λh3=>(k _).mono h3 λZ Z h=>k' _ _ h)))⟩
noncomputable def VM(x:Str)(op:z7)(e:M AV):M ac:=M.bind (aa x) λa=>M.bind e λb=>TK op a b λc=>an x c
noncomputable def sJ(o:M AV)(at_:Str)(op:z7)(e:M AV):M ac:=M.bind o λov=>M.bind (up (be ov at_)) λa=>M.bind e λb=>TK op a b λc=>up (dE ov at_ c)
noncomputable def TA(o i:M AV):M ac:=M.bind o λov=>M.bind i λiv=>M.bind (up (qw ov iv)) λZ=>M.ret .next
noncomputable def HX(t:M yx)(a b:M ac):M ac:=M.bind t λc=>Ru c a b
noncomputable def bm(t:M yx)(b o:M ac)(n:Nat):M ac:=up (Internal.bm t.m b.m o.m n)
noncomputable def bt(HE:M yu)(body:γ->M ac)(vs:yk γ):M ac:=up (Internal.bt HE.m (λv=>(body v).m) vs)
noncomputable def ez(body:AV->M ac)(i n k:Nat):M ac:=up (Internal.ez (λv=>(body v).m) i n k)
noncomputable def cy(L:Nat)(its:aw)(body:AV->M ac):M ac:=up (Internal.cy L its λv=>(body v).m)
noncomputable def gP(L:Nat)(x:Str)(its:M aw)(body:M ac):M ac:=M.bind its λits=>cy L its λv=>M.bind (an x v) λZ=>body
noncomputable def dj(L:Nat)(its:aw)(body:AV->M ac):M ac:=up (Internal.dj L its λv=>(body v).m)
noncomputable def rT(L:Nat)(xs:yk Str)(its:M aw)(body:M ac):M ac:=M.bind its λits=>dj L its λv=>M.bind (dR xs v) λZ=>body
noncomputable def Er(v:M α)(O:St)(P:AX->St->Prop):Prop:=∃x O',v.m O=some (.err x O')/\P x O'
noncomputable def Ks(a:M (yk AV)):M ac:=M.bind a λvs=>⟨if vs.length<=HC then pn (.cycle vs)else AL,λZ Z=>False,λh=>h.elim,λh Z=>h.elim⟩
variable{x:Str}
theorem NL{m h:M ac}(e:m.w O Q\/Er m O λz O'=>∃vs,z=.cycle vs/\h.w ⟨λy=>if y=x then some (.ref O'.nx)else O'.loc y,λj=>if j=O'.nx then .exc vs else O'.hp j,O'.nx+1⟩ λf σ2=>f=.next/\Q .next {σ2 with loc:=λy=>if y=x then none else σ2.loc y}) :
  yT (Gh m.m h.m x) O Q:=by
 rcases e with e|⟨z,O',e,vs,rfl,e2⟩
 ·obtain⟨a,O',e,hq⟩:=(m.ok e).out;exact zZ (by unfold kK; rw[e]) hq
 ·obtain⟨f,σ2,e3,rfl,hq⟩:=(h.ok e2).out;exact zZ (by unfold kK; rw[e]; dsimp only; rw[e3]) hq
noncomputable def kK(m h:M ac)(x:Str):M ac:=⟨Gh m.m h.m x,λO Q=>m.w O Q\/Er m O λz O'=>∃vs,z=.cycle vs/\h.w ⟨λy=>if y=x then some (.ref O'.nx)else O'.loc y,λj=>if j=O'.nx then .exc vs else O'.hp j,O'.nx+1⟩ λf σ2=>f=.next/\Q .next {σ2 with loc:=λy=>if y=x then none else σ2.loc y},NL,
 λe k=>e.elim (λe=>.inl (m.mono e k)) λz=>.inr (by obtain⟨z,O',e,vs,c,e2⟩:=z; exact⟨z,O',e,vs,c,h.mono e2 λZ Z q=>⟨q.1,k _ _ q.2⟩⟩)⟩
noncomputable def kL(m h:M ac):M ac:=up (Ew m.m h.m)
noncomputable def LL:Nat:=50000
noncomputable def ou(C:ak):M ac :=
 (af (aA (aa (Sx "node")) [(bo (aa (Sx "self")) (Sx "node"))])
 (af (aA (cst (.int 0)) [(bo (aa (Sx "self")) (Sx "npredecessors"))])
 (af (aA (bO (.list [])) [(bo (aa (Sx "self")) (Sx "successors"))])
 (M.ret .next))))
theorem pD(C:ak):(Iw T2 (cm C) LL 40).HK ⟨(Ln).scope,λZ=>none,false,false⟩ (Ln).body=(ou C).m:=by
 kernel_rfl
noncomputable def fN(C:ak):M ac :=
 (af (a7 (aI C (aa (Sx "self")) (Sx "add") (Ke (aa (Sx "node")) (aa (Sx "predecessors"))) eM))
 (M.ret .next))
noncomputable def oo(C:ak):M ac :=
 (af (aA (bO (.dict [] 0)) [(bo (aa (Sx "self")) (Sx "_node2info"))])
 (af (aA (cst .none) [(bo (aa (Sx "self")) (Sx "_ready_nodes"))])
 (af (aA (cst (.int 0)) [(bo (aa (Sx "self")) (Sx "_npassedout"))])
 (af (aA (cst (.int 0)) [(bo (aa (Sx "self")) (Sx "_nfinished"))])
 (af (HX (aG .IsNot (aa (Sx "graph")) (cst .none)) (af (rT LL [(Sx "node"),(Sx "predecessors")] (Jf (aa (Sx "graph"))) (fN C))
 (M.ret .next)) (M.ret .next))
 (M.ret .next))))))
theorem pB(C:ak):(Iw T2 (cm C) LL 40).HK ⟨(bH (Sx "__init__")).scope,λZ=>none,false,false⟩ (bH (Sx "__init__")).body=(oo C).m:=by
 kernel_rfl
noncomputable def eI(C:ak):M ac :=
 (af (HX (aG .Is (pS (Sx "result") (aI C (aW (aa (Sx "self")) (Sx "_node2info")) (Sx "get") (aj [(aa (Sx "node"))]) (bw "get" (aj [(aa (Sx "node"))])))) (cst .none)) (af (aA (LA C (aj [(aa (Sx "node"))])) [(b3 (aW (aa (Sx "self")) (Sx "_node2info")) (aa (Sx "node"))),(an (Sx "result"))])
 (M.ret .next)) (M.ret .next))
 (af (bV (aa (Sx "result")))
 (M.ret .next)))
theorem gE(C:ak):(Iw T2 (cm C) LL 40).HK ⟨(bH (Sx "_get_nodeinfo")).scope,λZ=>none,false,false⟩ (bH (Sx "_get_nodeinfo")).body=(eI C).m:=by
 kernel_rfl
noncomputable def km(C:ak):M ac :=
 (af (aA (aI C (aa (Sx "self")) (Sx "_get_nodeinfo") (aj [(aa (Sx "pred"))]) eM) [(an (Sx "pred_info"))])
 (af (a7 (aI C (aW (aa (Sx "pred_info")) (Sx "successors")) (Sx "append") (aj [(aa (Sx "node"))]) (bw "append" (aj [(aa (Sx "node"))]))))
 (M.ret .next)))
noncomputable def qX(C:ak):M ac :=
 (af (HX (aG .IsNot (aW (aa (Sx "self")) (Sx "_ready_nodes")) (cst .none)) (af M.fail
 (M.ret .next)) (M.ret .next))
 (af (aA (aI C (aa (Sx "self")) (Sx "_get_nodeinfo") (aj [(aa (Sx "node"))]) eM) [(an (Sx "nodeinfo"))])
 (af (sJ (aa (Sx "nodeinfo")) (Sx "npredecessors") .Add (ay "len" (aj [(aa (Sx "predecessors"))])))
 (af (gP LL (Sx "pred") (M.bind (aa (Sx "predecessors")) ar) (km C))
 (M.ret .next)))))
theorem qW(C:ak):(Iw T2 (cm C) LL 40).HK ⟨(bH (Sx "add")).scope,λZ=>none,false,false⟩ (bH (Sx "add")).body=(qX C).m:=by
 kernel_rfl
noncomputable def jc(C:ak):M ac :=
 (af (HX (aG .IsNot (aW (aa (Sx "self")) (Sx "_ready_nodes")) (cst .none)) (af M.fail
 (M.ret .next)) (M.ret .next))
 (af (aA (aO bd (.list []) UC (uF (aW (aa (Sx "self")) (Sx "_node2info"))) (λσ0 i=>aL LL (Sx "i") (aG .Eq (aW (aa (Sx "i")) (Sx "npredecessors")) (cst (.int 0))) (aU (aW (aa (Sx "i")) (Sx "node")) i))) [(bo (aa (Sx "self")) (Sx "_ready_nodes"))])
 (af (aA (aI C (aa (Sx "self")) (Sx "_find_cycle") (aj []) eM) [(an (Sx "cycle"))])
 (af (HX (Ji (aa (Sx "cycle"))) (af (Ks (aj [(cst (.str (Sx "nodes are in a cycle"))),(aa (Sx "cycle"))]))
 (M.ret .next)) (M.ret .next))
 (M.ret .next)))))
theorem kN(C:ak):(Iw T2 (cm C) LL 40).HK ⟨(bH (Sx "prepare")).scope,λZ=>none,false,false⟩ (bH (Sx "prepare")).body=(jc C).m:=by
 kernel_rfl
noncomputable def eH(C:ak):M ac :=
 (af (aA (ae (T2.HI (Sx "_NODE_OUT"))) [(bo (aB (aa (Sx "n2i")) (aa (Sx "node"))) (Sx "npredecessors"))])
 (M.ret .next))
noncomputable def gD(C:ak):M ac :=
 (af (HX (aG .Is (aW (aa (Sx "self")) (Sx "_ready_nodes")) (cst .none)) (af M.fail
 (M.ret .next)) (M.ret .next))
 (af (aA (ay "tuple" (aj [(aW (aa (Sx "self")) (Sx "_ready_nodes"))])) [(an (Sx "result"))])
 (af (aA (aW (aa (Sx "self")) (Sx "_node2info")) [(an (Sx "n2i"))])
 (af (gP LL (Sx "node") (M.bind (aa (Sx "result")) ar) (eH C))
 (af (a7 (aI C (aW (aa (Sx "self")) (Sx "_ready_nodes")) (Sx "clear") (aj []) (bw "clear" (aj []))))
 (af (sJ (aa (Sx "self")) (Sx "_npassedout") .Add (ay "len" (aj [(aa (Sx "result"))])))
 (af (bV (aa (Sx "result")))
 (M.ret .next))))))))
theorem jf(C:ak):(Iw T2 (cm C) LL 40).HK ⟨(bH (Sx "get_ready")).scope,λZ=>none,false,false⟩ (bH (Sx "get_ready")).body=(gD C).m:=by
 kernel_rfl
noncomputable def gC(C:ak):M ac :=
 (af (HX (aG .Is (aW (aa (Sx "self")) (Sx "_ready_nodes")) (cst .none)) (af M.fail
 (M.ret .next)) (M.ret .next))
 (af (bV (Uz (nX .Lt (aW (aa (Sx "self")) (Sx "_nfinished")) (aW (aa (Sx "self")) (Sx "_npassedout"))) (ay "bool" (aj [(aW (aa (Sx "self")) (Sx "_ready_nodes"))]))))
 (M.ret .next)))
theorem je(C:ak):(Iw T2 (cm C) LL 40).HK ⟨(bH (Sx "is_active")).scope,λZ=>none,false,false⟩ (bH (Sx "is_active")).body=(gC C).m:=by
 kernel_rfl
noncomputable def dU(C:ak):M ac :=
 (af (aA (aB (aa (Sx "n2i")) (aa (Sx "successor"))) [(an (Sx "successor_info"))])
 (af (sJ (aa (Sx "successor_info")) (Sx "npredecessors") .Sub (cst (.int 1)))
 (af (HX (aG .Eq (aW (aa (Sx "successor_info")) (Sx "npredecessors")) (cst (.int 0))) (af (a7 (aI C (aW (aa (Sx "self")) (Sx "_ready_nodes")) (Sx "append") (aj [(aa (Sx "successor"))]) (bw "append" (aj [(aa (Sx "successor"))]))))
 (M.ret .next)) (M.ret .next))
 (M.ret .next))))
noncomputable def jg(C:ak):M ac :=
 (af (HX (aG .Is (pS (Sx "nodeinfo") (aI C (aa (Sx "n2i")) (Sx "get") (aj [(aa (Sx "node"))]) (bw "get" (aj [(aa (Sx "node"))])))) (cst .none)) (af M.fail
 (M.ret .next)) (M.ret .next))
 (af (aA (aW (aa (Sx "nodeinfo")) (Sx "npredecessors")) [(an (Sx "stat"))])
 (af (HX (aG .NotEq (aa (Sx "stat")) (ae (T2.HI (Sx "_NODE_OUT")))) (af (HX (aG .GtE (aa (Sx "stat")) (cst (.int 0))) (af M.fail
 (M.ret .next)) (af (HX (aG .Eq (aa (Sx "stat")) (ae (T2.HI (Sx "_NODE_DONE")))) (af M.fail
 (M.ret .next)) (af M.fail
 (M.ret .next)))
 (M.ret .next)))
 (M.ret .next)) (M.ret .next))
 (af (aA (ae (T2.HI (Sx "_NODE_DONE"))) [(bo (aa (Sx "nodeinfo")) (Sx "npredecessors"))])
 (af (gP LL (Sx "successor") (M.bind (aW (aa (Sx "nodeinfo")) (Sx "successors")) ar) (dU C))
 (af (sJ (aa (Sx "self")) (Sx "_nfinished") .Add (cst (.int 1)))
 (M.ret .next)))))))
noncomputable def oq(C:ak):M ac :=
 (af (HX (aG .Is (aW (aa (Sx "self")) (Sx "_ready_nodes")) (cst .none)) (af M.fail
 (M.ret .next)) (M.ret .next))
 (af (aA (aW (aa (Sx "self")) (Sx "_node2info")) [(an (Sx "n2i"))])
 (af (gP LL (Sx "node") (M.bind (aa (Sx "nodes")) ar) (jg C))
 (M.ret .next))))
theorem pC(C:ak):(Iw T2 (cm C) LL 40).HK ⟨(bH (Sx "done")).scope,λZ=>none,false,false⟩ (bH (Sx "done")).body=(oq C).m:=by
 kernel_rfl
noncomputable def aY(C:ak):M ac :=
 (af (kL (af (aA (vg (aB (aa (Sx "itstack")) (pR (cst (.int 1))))) [(an (Sx "node"))])
 (af (M.ret .brk)
 (M.ret .next))) (af (TA (aa (Sx "node2stacki")) (oD (aa (Sx "stack")) (Sx "pop") (bw "pop" (aj []))))
 (af (a7 (oD (aa (Sx "itstack")) (Sx "pop") (bw "pop" (aj []))))
 (M.ret .next))))
 (M.ret .next))
noncomputable def cC(C:ak):M ac :=
 (af (HX (aG .In (aa (Sx "node")) (aa (Sx "seen"))) (af (HX (aG .In (aa (Sx "node")) (aa (Sx "node2stacki"))) (af (bV (aK .Add (iL (aa (Sx "stack")) (gd (aB (aa (Sx "node2stacki")) (aa (Sx "node")))) (M.ret none) (M.ret none)) (Ia [(aa (Sx "node"))])))
 (M.ret .next)) (M.ret .next))
 (M.ret .next)) (af (a7 (aI C (aa (Sx "seen")) (Sx "add") (aj [(aa (Sx "node"))]) (bw "add" (aj [(aa (Sx "node"))]))))
 (af (a7 (aI C (aa (Sx "itstack")) (Sx "append") (aj [(aW (ay "iter" (aj [(aW (aB (aa (Sx "n2i")) (aa (Sx "node"))) (Sx "successors"))])) (Sx "__next__"))]) (bw "append" (aj [(aW (ay "iter" (aj [(aW (aB (aa (Sx "n2i")) (aa (Sx "node"))) (Sx "successors"))])) (Sx "__next__"))]))))
 (af (aA (ay "len" (aj [(aa (Sx "stack"))])) [(b3 (aa (Sx "node2stacki")) (aa (Sx "node")))])
 (af (a7 (aI C (aa (Sx "stack")) (Sx "append") (aj [(aa (Sx "node"))]) (bw "append" (aj [(aa (Sx "node"))]))))
 (M.ret .next))))))
 (af (bm (Ji (aa (Sx "stack"))) (aY C) (af (M.ret .brk)
 (M.ret .next)) LL)
 (M.ret .next)))
noncomputable def ei(C:ak):M ac :=
 (af (HX (aG .In (aa (Sx "node")) (aa (Sx "seen"))) (af (M.ret .cont)
 (M.ret .next)) (M.ret .next))
 (af (bm (Ji (cst (.bool true))) (cC C) (M.ret .next) LL)
 (M.ret .next)))
noncomputable def ga(C:ak):M ac :=
 (af (aA (aW (aa (Sx "self")) (Sx "_node2info")) [(an (Sx "n2i"))])
 (af (aA (bO (.list [])) [(an (Sx "stack"))])
 (af (aA (bO (.list [])) [(an (Sx "itstack"))])
 (af (aA (ay "set" (aj [])) [(an (Sx "seen"))])
 (af (aA (bO (.dict [] 0)) [(an (Sx "node2stacki"))])
 (af (gP LL (Sx "node") (M.bind (aa (Sx "n2i")) ar) (ei C))
 (af (bV (cst .none))
 (M.ret .next))))))))
theorem iw(C:ak):(Iw T2 (cm C) LL 40).HK ⟨(bH (Sx "_find_cycle")).scope,λZ=>none,false,false⟩ (bH (Sx "_find_cycle")).body=(ga C).m:=by
 kernel_rfl
noncomputable def qV(C:ak):M ac :=
 (af (aA (ay "type" (aj [(aa (Sx "data"))])) [(an (Sx "t"))])
 (af (HX (aG .Is (aa (Sx "t")) (ae (T2.HI (Sx "bytes")))) (af (bV (aa (Sx "data")))
 (M.ret .next)) (M.ret .next))
 (af (HX (aG .Is (aa (Sx "t")) (ae (T2.HI (Sx "bytearray")))) (af (bV (ay "bytes" (aj [(aa (Sx "data"))])))
 (M.ret .next)) (M.ret .next))
 (af (a7 (b8 C (bl (Sx "_wall")) (aj [(cst (.int 1))])))
 (M.ret .next)))))
theorem qU(C:ak):(Iw T2 (cm C) LL 40).HK ⟨(bl (Sx "_buffer")).scope,λZ=>none,false,false⟩ (bl (Sx "_buffer")).body=(qV C).m:=by
 kernel_rfl
noncomputable def uQ(C:ak):M ac :=
 (af (aA (ay "type" (aj [(aa (Sx "x"))])) [(an (Sx "t"))])
 (af (HX (Ih (aG .Is (aa (Sx "x")) (cst .none)) (Ih (aG .Is (aa (Sx "t")) (ae (T2.HI (Sx "bool")))) (Ih (aG .Is (aa (Sx "t")) (ae (T2.HI (Sx "int")))) (Ih (aG .Is (aa (Sx "t")) (ae (T2.HI (Sx "float")))) (Ih (aG .Is (aa (Sx "t")) (ae (T2.HI (Sx "complex")))) (Ih (aG .Is (aa (Sx "t")) (ae (T2.HI (Sx "str")))) (Ih (aG .Is (aa (Sx "t")) (ae (T2.HI (Sx "bytes")))) (Ih (aG .Is (aa (Sx "t")) (ae (T2.HI (Sx "bytearray")))) (Ih (aG .Is (aa (Sx "t")) (ae (T2.HI (Sx "list")))) (Ih (aG .Is (aa (Sx "t")) (ae (T2.HI (Sx "tuple")))) (Ih (aG .Is (aa (Sx "t")) (ae (T2.HI (Sx "dict")))) (Ih (aG .Is (aa (Sx "t")) (ae (T2.HI (Sx "set")))) (Ih (aG .Is (aa (Sx "t")) (ae (T2.HI (Sx "frozenset")))) (Ih (aG .Is (aa (Sx "t")) (ae (T2.HI (Sx "range")))) (M.ret false))))))))))))))) (af (bV (Ti (Ji (aa (Sx "x"))) (cst (.bool true)) (cst (.bool false))))
 (M.ret .next)) (M.ret .next))
 (af (a7 (b8 C (bl (Sx "_wall")) (aj [(cst (.int 2))])))
 (M.ret .next))))
theorem tJ(C:ak):(Iw T2 (cm C) LL 40).HK ⟨(bl (Sx "_truth")).scope,λZ=>none,false,false⟩ (bl (Sx "_truth")).body=(uQ C).m:=by
 kernel_rfl
noncomputable def cA(C:ak):M ac :=
 (af (a7 (aI C (aa (Sx "out")) (Sx "append") (aj [(aB (ae (T2.HI (Sx "_B64"))) (aK .BitAnd (aK .RShift (aa (Sx "leftchar")) (aK .Sub (aa (Sx "leftbits")) (cst (.int 6)))) (cst (.int 63))))]) (bw "append" (aj [(aB (ae (T2.HI (Sx "_B64"))) (aK .BitAnd (aK .RShift (aa (Sx "leftchar")) (aK .Sub (aa (Sx "leftbits")) (cst (.int 6)))) (cst (.int 63))))]))))
 (af (aA (aK .Sub (aa (Sx "leftbits")) (cst (.int 6))) [(an (Sx "leftbits"))])
 (M.ret .next)))
noncomputable def dL(C:ak):M ac :=
 (af (aA (aK .BitAnd (aK .BitOr (aK .LShift (aa (Sx "leftchar")) (cst (.int 8))) (aa (Sx "b"))) (cst (.int 65535))) [(an (Sx "leftchar"))])
 (af (aA (aK .Add (aa (Sx "leftbits")) (cst (.int 8))) [(an (Sx "leftbits"))])
 (af (bm (aG .GtE (aa (Sx "leftbits")) (cst (.int 6))) (cA C) (M.ret .next) LL)
 (M.ret .next))))
noncomputable def jb(C:ak):M ac :=
 (af (aA (b8 C (bl (Sx "_buffer")) (aj [(aa (Sx "data"))])) [(an (Sx "bin_data"))])
 (af (aA (b8 C (bl (Sx "_truth")) (aj [(aa (Sx "newline"))])) [(an (Sx "newline"))])
 (af (aA (bO (.list [])) [(an (Sx "out"))])
 (af (aA (cst (.int 0)) [(an (Sx "leftbits"))])
 (af (aA (cst (.int 0)) [(an (Sx "leftchar"))])
 (af (gP LL (Sx "b") (M.bind (aa (Sx "bin_data")) ar) (dL C))
 (af (HX (aG .Eq (aa (Sx "leftbits")) (cst (.int 2))) (af (a7 (aI C (aa (Sx "out")) (Sx "append") (aj [(aB (ae (T2.HI (Sx "_B64"))) (aK .LShift (aK .BitAnd (aa (Sx "leftchar")) (cst (.int 3))) (cst (.int 4))))]) (bw "append" (aj [(aB (ae (T2.HI (Sx "_B64"))) (aK .LShift (aK .BitAnd (aa (Sx "leftchar")) (cst (.int 3))) (cst (.int 4))))]))))
 (af (a7 (aI C (aa (Sx "out")) (Sx "append") (aj [(cst (.int 61))]) (bw "append" (aj [(cst (.int 61))]))))
 (af (a7 (aI C (aa (Sx "out")) (Sx "append") (aj [(cst (.int 61))]) (bw "append" (aj [(cst (.int 61))]))))
 (M.ret .next)))) (af (HX (aG .Eq (aa (Sx "leftbits")) (cst (.int 4))) (af (a7 (aI C (aa (Sx "out")) (Sx "append") (aj [(aB (ae (T2.HI (Sx "_B64"))) (aK .LShift (aK .BitAnd (aa (Sx "leftchar")) (cst (.int 15))) (cst (.int 2))))]) (bw "append" (aj [(aB (ae (T2.HI (Sx "_B64"))) (aK .LShift (aK .BitAnd (aa (Sx "leftchar")) (cst (.int 15))) (cst (.int 2))))]))))
 (af (a7 (aI C (aa (Sx "out")) (Sx "append") (aj [(cst (.int 61))]) (bw "append" (aj [(cst (.int 61))]))))
 (M.ret .next))) (M.ret .next))
 (M.ret .next)))
 (af (HX (Ji (aa (Sx "newline"))) (af (a7 (aI C (aa (Sx "out")) (Sx "append") (aj [(cst (.int 10))]) (bw "append" (aj [(cst (.int 10))]))))
 (M.ret .next)) (M.ret .next))
 (af (bV (ay "bytes" (aj [(aa (Sx "out"))])))
 (M.ret .next))))))))))
theorem kM(C:ak):(Iw T2 (cm C) LL 40).HK ⟨(bl (Sx "b2a_base64")).scope,λZ=>none,false,false⟩ (bl (Sx "b2a_base64")).body=(jb C).m:=by
 kernel_rfl
noncomputable def kl(C:ak):M ac :=
 (af (aA (Qt C (bl (Sx "b2a_base64")) (aj [(aa (Sx "s"))]) [((Sx "newline"),(cst (.bool false)))]) [(an (Sx "encoded"))])
 (af (HX (aG .IsNot (aa (Sx "altchars")) (cst .none)) (af M.fail
 (af (bV (aI C (aa (Sx "encoded")) (Sx "translate") (aj [(aI C (ae (T2.HI (Sx "bytes"))) (Sx "maketrans") (aj [(cst (.bytes #[43,47])),(aa (Sx "altchars"))]) eM)]) eM))
 (M.ret .next))) (M.ret .next))
 (af (bV (aa (Sx "encoded")))
 (M.ret .next))))
theorem mc(C:ak):(Iw T2 (cm C) LL 40).HK ⟨(bl (Sx "b64encode")).scope,λZ=>none,false,false⟩ (bl (Sx "b64encode")).body=(kl C).m:=by
 kernel_rfl
noncomputable def eJ(C:ak):M ac :=
 (af (aA (ay "divmod" (aj [(aa (Sx "num")),(cst (.int 16))])) [(dR [(Sx "num"),(Sx "mod")])])
 (af (aA (aK .Add (iL (aa (Sx "AP")) (gd (aa (Sx "mod"))) (gd (aK .Add (aa (Sx "mod")) (cst (.int 1)))) (M.ret none)) (aa (Sx "val"))) [(an (Sx "val"))])
 (M.ret .next)))
noncomputable def qZ(C:ak):M ac :=
 (af (aA (cst (.bytes #[])) [(an (Sx "val"))])
 (af (aA (cst (.bytes #[65,66,67,68,69,70,71,72,73,74,75,76,77,78,79,80])) [(an (Sx "AP"))])
 (af (aA (ay "int" (aj [(ay "abs" (aj [(aa (Sx "num"))]))])) [(an (Sx "num"))])
 (af (bm (Ji (aa (Sx "num"))) (eJ C) (M.ret .next) LL)
 (af (bV (aa (Sx "val")))
 (M.ret .next))))))
theorem qY(C:ak):(Iw T2 (cm C) LL 40).HK ⟨(bl (Sx "Int2AP")).scope,λZ=>none,false,false⟩ (bl (Sx "Int2AP")).body=(qZ C).m:=by
 kernel_rfl
noncomputable def lV:M ac:=(aA (ay "sorted" (aj [(Ia [(aK .Mod (aa (Sx "x")) (cst (.int 10))),(aK .Mod (aK .FloorDiv (aa (Sx "x")) (cst (.int 10))) (cst (.int 10)))])])) [(dR [(Sx "low"),(Sx "high")])])
noncomputable def lT(C:ak):M ac:=(a7 (aI C (aa (Sx "links")) (Sx "append") (aj [(tf [(aa (Sx "low")),(aa (Sx "high"))])]) (bw "append" (aj [(tf [(aa (Sx "low")),(aa (Sx "high"))])]))))
noncomputable def lR(C:ak):M ac:=(HX (aG .Lt (aK .FloorDiv (aa (Sx "low")) (cst (.int 2))) (aK .FloorDiv (aa (Sx "high")) (cst (.int 2)))) (af (lT C)
 (M.ret .next)) (M.ret .next))
noncomputable def lQ(C:ak):M ac:=(a7 (aI C (aa (Sx "links")) (Sx "append") (aj [(tf [(aa (Sx "high")),(aa (Sx "low"))])]) (bw "append" (aj [(tf [(aa (Sx "high")),(aa (Sx "low"))])]))))
noncomputable def lP(C:ak):M ac:=(HX (M8 (aG .Eq (aK .Mod (aK .FloorDiv (aa (Sx "x")) (cst (.int 100))) (cst (.int 9))) (cst (.int 8))) (M8 (Ih (aG .Eq (aa (Sx "low")) (aa (Sx "high"))) (Ih (aG .Lt (aK .FloorDiv (aa (Sx "low")) (cst (.int 2))) (aK .FloorDiv (aa (Sx "high")) (cst (.int 2)))) (M.ret false))) (M.ret true))) (af (lQ C)
 (M.ret .next)) (M.ret .next))
noncomputable def d9(C:ak):M ac :=
 (af lV
 (af (lR C)
 (af (lP C)
 (M.ret .next))))
noncomputable def lO(C:ak):M ac:=(gP LL (Sx "x") (M.bind (aK .Add (iL (aa (Sx "script")) (M.ret none) (gd (cst (.int 24))) (M.ret none)) (Ia [(cst (.int 20)),(cst (.int 42)),(cst (.int 64)),(cst (.int 86))])) ar) (d9 C))
noncomputable def ki(C:ak):M ac :=
 (af (aA (bO (.list [])) [(an (Sx "links"))])
 (af (lO C)
 (af (bV (aa (Sx "links")))
 (M.ret .next))))
theorem lW(C:ak):(Iw T2 (cm C) LL 40).HK ⟨(bl (Sx "_law_links")).scope,λZ=>none,false,false⟩ (bl (Sx "_law_links")).body=(ki C).m:=by
 kernel_rfl
noncomputable def l9:M ac:=(aA (aO bd (.list []) UC (M.bind (aa (Sx "members")) ar) (λσ0 i=>aL LL (Sx "row") (M.ret true) (aU (ay "list" (aj [(aa (Sx "row"))])) i))) [(an (Sx "below"))])
noncomputable def l8:M ac:=(aA (aK .Add (aB (aa (Sx "below")) (aa (Sx "k"))) (aO bd (.list []) bE (M.bind (aB (aa (Sx "below")) (aa (Sx "middle"))) ar) (λσ0 i=>aL LL (Sx "m") (aG .NotIn (aa (Sx "m")) (aB (ae (σ0.loc (Sx "below"))) (ae (σ0.loc (Sx "k"))))) (aU (aa (Sx "m")) i)))) [(b3 (aa (Sx "below")) (aa (Sx "k")))])
noncomputable def l7:M ac:=(HX (aG .In (aa (Sx "middle")) (aB (aa (Sx "below")) (aa (Sx "k")))) (af l8
 (M.ret .next)) (M.ret .next))
noncomputable def ee(C:ak):M ac :=
 (af l7
 (M.ret .next))
noncomputable def eg(C:ak):M ac :=
 (af (gP LL (Sx "k") (cp (aj [(cst (.int 10))])) (ee C))
 (M.ret .next))
noncomputable def kj(C:ak):M ac :=
 (af l9
 (af (gP LL (Sx "middle") (cp (aj [(cst (.int 10))])) (eg C))
 (af (bV (aa (Sx "below")))
 (M.ret .next))))
theorem ma(C:ak):(Iw T2 (cm C) LL 40).HK ⟨(bl (Sx "_law_below")).scope,λZ=>none,false,false⟩ (bl (Sx "_law_below")).body=(kj C).m:=by
 kernel_rfl
noncomputable def i9(C:ak):M ac:=(bV (aK .Add (aK .Add (cst (.str (Sx "("))) (aI C (cst (.str (Sx ""))) (Sx "join") (aj [(aO bd (.list []) bE (cp (aj [(ay "len" (aj [(aa (Sx "forms"))]))])) (λσ0 i=>aL LL (Sx "i") (aG .NotIn (aB (ae (σ0.loc (Sx "forms"))) (aa (Sx "i"))) (iL (ae (σ0.loc (Sx "forms"))) (M.ret none) (gd (aa (Sx "i"))) (M.ret none))) (aU (aB (ae (σ0.loc (Sx "forms"))) (aa (Sx "i"))) i)))]) (bw "join" (aj [(aO bd (.list []) bE (cp (aj [(ay "len" (aj [(aa (Sx "forms"))]))])) (λσ0 i=>aL LL (Sx "i") (aG .NotIn (aB (ae (σ0.loc (Sx "forms"))) (aa (Sx "i"))) (iL (ae (σ0.loc (Sx "forms"))) (M.ret none) (gd (aa (Sx "i"))) (M.ret none))) (aU (aB (ae (σ0.loc (Sx "forms"))) (aa (Sx "i"))) i)))])))) (cst (.str (Sx ")")))))
noncomputable def gB(C:ak):M ac :=
 (af (aA (ay "sorted" (aj [(aa (Sx "forms"))])) [(an (Sx "forms"))])
 (af (i9 C)
 (M.ret .next)))
theorem ja(C:ak):(Iw T2 (cm C) LL 40).HK ⟨(bl (Sx "_law_brackets")).scope,λZ=>none,false,false⟩ (bl (Sx "_law_brackets")).body=(gB C).m:=by
 kernel_rfl
noncomputable def nG:M ac:=(bV (aO bd (.list []) bE (cp (aj [(ay "len" (aj [(aa (Sx "figures"))]))])) (λσ0 i=>aL LL (Sx "k") (M.ret true) (clause bd (cp (aj [(ae (σ0.loc (Sx "size")))])) (aL LL (Sx "t") (aG .Eq (aK .Mod (aK .RShift (aB (ae (σ0.loc (Sx "figures"))) (aa (Sx "k"))) (aa (Sx "t"))) (cst (.int 2))) (cst (.int 1))) (aU (aK .Add (aK .Mult (ae (σ0.loc (Sx "size"))) (aa (Sx "k"))) (aa (Sx "t"))) i))))))
noncomputable def lZ(C:ak):M ac :=
 (af nG
 (M.ret .next))
theorem nH(C:ak):(Iw T2 (cm C) LL 40).HK ⟨(bl (Sx "_law_bits")).scope,λZ=>none,false,false⟩ (bl (Sx "_law_bits")).body=(lZ C).m:=by
 kernel_rfl
noncomputable def KC:M ac:=(aA (aO bd (.list []) bE (cp (aj [(cst (.int 10))])) (λσ0 i=>aL LL (Sx "k") (M.ret true) (aU (bO (.list [])) i))) [(an (Sx "members"))])
noncomputable def KA(C:ak):M ac:=(a7 (aI C (aB (aa (Sx "members")) (aa (Sx "k"))) (Sx "append") (aj [(aa (Sx "m"))]) (bw "append" (aj [(aa (Sx "m"))]))))
noncomputable def Kz(C:ak):M ac:=(HX (aG .NotIn (aa (Sx "m")) (aB (aa (Sx "members")) (aa (Sx "k")))) (af (KA C)
 (M.ret .next)) (M.ret .next))
noncomputable def lY(C:ak):M ac :=
 (af (Kz C)
 (M.ret .next))
noncomputable def Ky:M ac:=(aA (aO bd (.list []) bE (cp (aj [(cst (.int 10))])) (λσ0 i=>aL LL (Sx "k") (aG .In (aa (Sx "k")) (aB (ae (σ0.loc (Sx "below"))) (aa (Sx "k")))) (aU (aa (Sx "k")) i))) [(an (Sx "rings"))])
noncomputable def Kx:M ac:=(aA (aO bd (.list []) bE (cp (aj [(cst (.int 10))])) (λσ0 i=>aL LL (Sx "k") (aG .Eq (aO bd (.list []) bE (M.bind (aK .Add (Ia [(aa (Sx "k"))]) (aB (ae (σ0.loc (Sx "below"))) (aa (Sx "k")))) ar) (λσ1 i=>aL LL (Sx "m") (aG .In (aa (Sx "m")) (ae (σ0.loc (Sx "rings")))) (aU (aa (Sx "m")) i))) (bO (.list []))) (aU (aa (Sx "k")) i))) [(an (Sx "founded"))])
noncomputable def Kw(C:ak):M ac:=(aA (Lz C (aj [(oW bd (cp (aj [(cst (.int 10))])) (λσ0 i=>aL LL (Sx "k") (M.ret true) (kE (aa (Sx "k")) (bO (.list [])) i)))])) [(an (Sx "sorter"))])
noncomputable def Kv(C:ak):M ac:=(a7 (aI C (aa (Sx "sorter")) (Sx "add") (aj [(aa (Sx "k")),(aa (Sx "m"))]) (bw "add" (aj [(aa (Sx "k")),(aa (Sx "m"))]))))
noncomputable def lX(C:ak):M ac :=
 (af (Kv C)
 (M.ret .next))
noncomputable def Ku:M ac:=(HX (Ih (aG .Lt (ay "len" (aj [(aa (Sx "ring"))])) (cst (.int 2))) (Ih (aG .NotEq (aB (aa (Sx "ring")) (cst (.int 0))) (aB (aa (Sx "ring")) (pR (cst (.int 1))))) (M.ret false))) (af (bV (cst (.bool false)))
 (M.ret .next)) (M.ret .next))
noncomputable def Kt:M ac:=(HX (aG .NotEq (aO OP (.list []) bE (cp (aj [(cst (.int 1)),(ay "len" (aj [(aa (Sx "ring"))]))])) (λσ0 i=>aL LL (Sx "k") (aG .NotIn (aB (ae (σ0.loc (Sx "ring"))) (aK .Sub (aa (Sx "k")) (cst (.int 1)))) (aB (ae (σ0.loc (Sx "members"))) (aB (ae (σ0.loc (Sx "ring"))) (aa (Sx "k"))))) (aU (aa (Sx "k")) i))) (bO (.list []))) (af (bV (cst (.bool false)))
 (M.ret .next)) (M.ret .next))
noncomputable def wH(C:ak):M ac:=(kK (af (a7 (aI C (aa (Sx "sorter")) (Sx "prepare") (aj []) eM))
 (M.ret .next)) (af (aA (cst (.bool true)) [(an (Sx "refused"))])
 (af (aA (aB (aW (aa (Sx "error")) (Sx "args")) (cst (.int 1))) [(an (Sx "ring"))])
 (af Ku
 (af Kt
 (M.ret .next))))) (Sx "error"))
noncomputable def wG:M ac:=(HX (aG .NotEq (aa (Sx "refused")) (nX .NotEq (aa (Sx "rings")) (bO (.list [])))) (af (bV (cst (.bool false)))
 (M.ret .next)) (M.ret .next))
noncomputable def wF(C:ak):M ac:=(a7 (aI C (aa (Sx "rounds")) (Sx "append") (aj [(ay "sorted" (aj [(aa (Sx "ready"))]))]) (bw "append" (aj [(ay "sorted" (aj [(aa (Sx "ready"))]))]))))
noncomputable def i5(C:ak):M ac :=
 (af (aA (aI C (aa (Sx "sorter")) (Sx "get_ready") (aj []) eM) [(an (Sx "ready"))])
 (af (wF C)
 (af (a7 (aI C (aa (Sx "sorter")) (Sx "done") (Sy (aa (Sx "ready"))) eM))
 (M.ret .next))))
noncomputable def wE(C:ak):M ac:=(bm (Ji (aI C (aa (Sx "sorter")) (Sx "is_active") (aj []) eM)) (i5 C) (M.ret .next) LL)
noncomputable def wD:M ac:=(aA (ay "max" (aj [(aK .Add (Ia [(cst (.int 0))]) (aO bd (.list []) bE (M.bind (aB (aa (Sx "members")) (aa (Sx "k"))) ar) (λσ0 i=>aL LL (Sx "m") (M.ret true) (aU (aK .Add (cst (.int 1)) (aB (ae (σ0.loc (Sx "rank"))) (aa (Sx "m")))) i))))])) [(b3 (aa (Sx "rank")) (aa (Sx "k")))])
noncomputable def wC(C:ak):M ac:=(aA (b8 C (bl (Sx "_law_brackets")) (aj [(aO bd (.list []) bE (M.bind (aB (aa (Sx "members")) (aa (Sx "k"))) ar) (λσ0 i=>aL LL (Sx "m") (M.ret true) (aU (aB (ae (σ0.loc (Sx "form"))) (aa (Sx "m"))) i)))])) [(b3 (aa (Sx "form")) (aa (Sx "k")))])
noncomputable def i8(C:ak):M ac :=
 (af wD
 (af (wC C)
 (M.ret .next)))
noncomputable def wB:M ac:=(aA (ay "max" (aj [(aK .Add (Ia [(cst (.int 0))]) (aO bd (.list []) bE (M.bind (aa (Sx "founded")) ar) (λσ0 i=>aL LL (Sx "k") (M.ret true) (aU (aK .Add (cst (.int 1)) (aB (ae (σ0.loc (Sx "rank"))) (aa (Sx "k")))) i))))])) [(an (Sx "height"))])
noncomputable def wA:M ac:=(HX (aG .NotEq (aa (Sx "rounds")) (aO bd (.list []) bE (cp (aj [(aa (Sx "height"))])) (λσ0 i=>aL LL (Sx "r") (M.ret true) (aU (aO bd (.list []) bE (M.bind (ae (σ0.loc (Sx "founded"))) ar) (λσ1 i=>aL LL (Sx "k") (aG .Eq (aB (ae (σ0.loc (Sx "rank"))) (aa (Sx "k"))) (ae (σ1.loc (Sx "r")))) (aU (aa (Sx "k")) i))) i)))) (af (bV (cst (.bool false)))
 (M.ret .next)) (M.ret .next))
noncomputable def wz:M ac:=(aA (aO bd (.list []) bE (M.bind (aB (aa (Sx "members")) (aa (Sx "k"))) ar) (λσ0 i=>aL LL (Sx "m") (M.ret true) (aU (aB (ae (σ0.loc (Sx "number"))) (aa (Sx "m"))) i))) [(an (Sx "values"))])
noncomputable def wy:M ac:=(aA (aO bd (.list []) bE (cp (aj [(cst (.int 16))])) (λσ0 i=>aL LL (Sx "v") (aG .In (aa (Sx "v")) (ae (σ0.loc (Sx "values")))) (aU (aa (Sx "v")) i))) [(b3 (aa (Sx "held")) (aa (Sx "k")))])
noncomputable def wx:M ac:=(aA (ay "sum" (aj [(aO bd (.list []) bE (M.bind (aB (aa (Sx "held")) (aa (Sx "k"))) ar) (λσ0 i=>aL LL (Sx "v") (M.ret true) (aU (aK .Pow (cst (.int 2)) (aa (Sx "v"))) i)))])) [(b3 (aa (Sx "number")) (aa (Sx "k")))])
noncomputable def i6(C:ak):M ac :=
 (af wz
 (af wy
 (af wx
 (M.ret .next))))
noncomputable def i7(C:ak):M ac :=
 (af (gP LL (Sx "k") (M.bind (aa (Sx "row")) ar) (i6 C))
 (M.ret .next))
noncomputable def ww(C:ak):M ac:=(aA (oW bd (M.bind (aa (Sx "founded")) ar) (λσ0 i=>aL LL (Sx "k") (M.ret true) (kE (aa (Sx "k")) (b8 C (bl (Sx "Int2AP")) (aj [(aB (ae (σ0.loc (Sx "number"))) (aa (Sx "k")))])) i))) [(an (Sx "words"))])
noncomputable def wv(C:ak):M ac:=(aA (b8 C (bl (Sx "b64encode")) (aj [(ay "bytes" (aj [(aO bd (.list []) bE (M.bind (aa (Sx "founded")) ar) (λσ0 i=>aL LL (Sx "k") (M.ret true) (clause bd (M.bind (Ia [(cst (.int 0)),(aK .FloorDiv (aB (ae (σ0.loc (Sx "number"))) (aa (Sx "k"))) (cst (.int 256))),(aK .Mod (aB (ae (σ0.loc (Sx "number"))) (aa (Sx "k"))) (cst (.int 256)))]) ar) (aL LL (Sx "octet") (M.ret true) (aU (aa (Sx "octet")) i)))))]))])) [(an (Sx "text"))])
noncomputable def wu:M ac:=(HX (aG .NotEq (ay "len" (aj [(aa (Sx "text"))])) (aK .Mult (cst (.int 4)) (ay "len" (aj [(aa (Sx "founded"))])))) (af (bV (cst (.bool false)))
 (M.ret .next)) (M.ret .next))
noncomputable def wt:M ac:=(aA (cst (.str (Sx "ABCDEFGHIJKLMNOPQRSTUVWXYZabcdefghijklmnopqrstuvwxyz0123456789+/"))) [(an (Sx "signs"))])
noncomputable def wp:M ac:=(aA (iL (aO bd (.list []) bE (M.bind (aB (aa (Sx "words")) (aa (Sx "k"))) ar) (λσ0 i=>aL LL (Sx "octet") (M.ret true) (aU (aK .Sub (aa (Sx "octet")) (cst (.int 65))) i))) (M.ret none) (M.ret none) (gd (pR (cst (.int 1))))) [(an (Sx "figures"))])
noncomputable def wo(C:ak):M ac:=(aA (iL (aO bd (.list []) bE (M.bind (iL (aa (Sx "text")) (gd (aK .Mult (cst (.int 4)) (aa (Sx "place")))) (gd (aK .Add (aK .Mult (cst (.int 4)) (aa (Sx "place"))) (cst (.int 4)))) (M.ret none)) ar) (λσ0 i=>aL LL (Sx "octet") (M.ret true) (aU (aI C (ae (σ0.loc (Sx "signs"))) (Sx "index") (aj [(ay "chr" (aj [(aa (Sx "octet"))]))]) (bw "index" (aj [(ay "chr" (aj [(aa (Sx "octet"))]))]))) i))) (M.ret none) (M.ret none) (gd (pR (cst (.int 1))))) [(an (Sx "sixes"))])
noncomputable def wn(C:ak):M ac:=(HX (Ih (aG .Eq (iL (aB (aa (Sx "words")) (aa (Sx "k"))) (M.ret none) (gd (cst (.int 1))) (M.ret none)) (cst (.bytes #[65]))) (Ih (aG .NotEq (b8 C (bl (Sx "_law_bits")) (aj [(aa (Sx "figures")),(cst (.int 4))])) (aB (aa (Sx "held")) (aa (Sx "k")))) (Ih (aG .NotEq (b8 C (bl (Sx "_law_bits")) (aj [(aa (Sx "sixes")),(cst (.int 6))])) (aB (aa (Sx "held")) (aa (Sx "k")))) (M.ret false)))) (af (bV (cst (.bool false)))
 (M.ret .next)) (M.ret .next))
noncomputable def wm:M ac:=(HX (aG .NotEq (aO bd (.list []) bE (M.bind (aa (Sx "founded")) ar) (λσ0 i=>aL LL (Sx "m") (aG .NotEq (nX .Eq (aB (ae (σ0.loc (Sx "words"))) (aa (Sx "m"))) (aB (ae (σ0.loc (Sx "words"))) (ae (σ0.loc (Sx "k"))))) (nX .Eq (aB (ae (σ0.loc (Sx "form"))) (aa (Sx "m"))) (aB (ae (σ0.loc (Sx "form"))) (ae (σ0.loc (Sx "k")))))) (aU (aa (Sx "m")) i))) (bO (.list []))) (af (bV (cst (.bool false)))
 (M.ret .next)) (M.ret .next))
noncomputable def gA(C:ak):M ac :=
 (af wp
 (af (wo C)
 (af (wn C)
 (af wm
 (M.ret .next)))))
noncomputable def KE(C:ak):M ac :=
 (af (aA (b8 C (bl (Sx "_law_links")) (aj [(aa (Sx "script"))])) [(an (Sx "links"))])
 (af KC
 (af (rT LL [(Sx "m"),(Sx "k")] (M.bind (aa (Sx "links")) ar) (lY C))
 (af (aA (b8 C (bl (Sx "_law_below")) (aj [(aa (Sx "members"))])) [(an (Sx "below"))])
 (af Ky
 (af Kx
 (af (Kw C)
 (af (rT LL [(Sx "m"),(Sx "k")] (M.bind (aa (Sx "links")) ar) (lX C))
 (af (aA (cst (.bool false)) [(an (Sx "refused"))])
 (af (wH C)
 (af wG
 (af (aA (bO (.list [])) [(an (Sx "rounds"))])
 (af (wE C)
 (af (aA (bO (.dict [] 0)) [(an (Sx "rank"))])
 (af (aA (bO (.dict [] 0)) [(an (Sx "form"))])
 (af (gP LL (Sx "k") (M.bind (aa (Sx "founded")) ar) (i8 C))
 (af wB
 (af wA
 (af (aA (bO (.dict [] 0)) [(an (Sx "number"))])
 (af (aA (bO (.dict [] 0)) [(an (Sx "held"))])
 (af (gP LL (Sx "row") (M.bind (aa (Sx "rounds")) ar) (i7 C))
 (af (ww C)
 (af (wv C)
 (af wu
 (af wt
 (af (rT LL [(Sx "place"),(Sx "k")] (MB (aj [(aa (Sx "founded"))])) (gA C))
 (af (bV (cst (.bool true)))
 (M.ret .next))))))))))))))))))))))))))))
theorem KD(C:ak):(Iw T2 (cm C) LL 40).HK ⟨(bl (Sx "law")).scope,λZ=>none,false,false⟩ (bl (Sx "law")).body=(KE C).m:=by
 kernel_rfl
@[simp] theorem cg(m:M α)(f:α->M β)(O:St)(Q:β->St->Prop):Ok (M.bind m f) O Q=Ok m O λa O'=>Ok (f a) O' Q:=rfl
@[simp] theorem tQ(a:α)(O:St)(Q:α->St->Prop):Ok (M.ret a) O Q=Q a O:=rfl
@[simp] theorem cJ(x:Str)(O:St)(Q:AV->St->Prop):Ok (aa x) O Q=qk (O.loc x) Q O:=rfl
@[simp] theorem jT(x:Str)(v:AV)(O:St)(Q:yu->St->Prop):Ok (an x v) O Q=Q () {O with loc:=ai O.loc x (some v)}:=rfl
@[simp] theorem rf(o:yl α)(O:St)(Q:α->St->Prop):Ok (ae o) O Q=qk o Q O:=rfl
@[simp] theorem UB(o:AO)(O:St)(Q:Nat->St->Prop):Ok (new o) O Q=Q O.nx {O with hp:=upd O.hp O.nx o,nx:=O.nx+1}:=rfl
@[simp] theorem K0(a:AV)(O:St)(Q:AV->St->Prop):Ok (cst a) O Q=Q a O:=rfl
noncomputable def iu(r:M ac)(Q:ac->St->Prop)(f:ac)(O:St):Prop:=match f with|.next=>Ok r O Q|f=>Q f O
@[simp] theorem Uk(r:M ac)(Q:ac->St->Prop)(O:St):iu r Q .next O=Ok r O Q:=rfl
@[simp] theorem Uj(r:M ac)(Q:ac->St->Prop)(v:AV)(O:St):iu r Q (.ret v) O=Q (.ret v) O:=rfl
@[simp] theorem kX(m r:M ac)(O:St)(Q:ac->St->Prop):Ok (af m r) O Q=Ok m O (iu r Q):=rfl
noncomputable def Md:ac->AV
 |.ret v=>v
 |_=>.none
variable{L d:Nat}{fd:ax}
theorem bA{pos:yk AV}{kw bs:yk (Str×AV)}{m:M ac}(hb:aM fd pos kw=some bs)(he:(Iw T2 (cm (aJ T2 L 40 d)) L 40).HK ⟨fd.scope,λZ=>none,false,false⟩ fd.body=m.m){Q:AV->St->Prop}
  (h:Ok m {O with loc:=λx=>bs.lookup x} λfl O'=>Q (Md fl) {O' with loc:=O.loc}):Ok (aJ T2 L 40 (d+1) fd pos kw) O Q:=by
 obtain⟨fl,O',e,hq⟩:=h.out;refine zZ (O':={O' with loc:=O.loc}) ?_ hq;show eB _ fd pos kw O=_;unfold eB;rw[hb];have he':(Iw T2 (Dr T2 L 40 d) L 40).HK ⟨fd.scope,λZ=>none,false,false⟩ fd.body=m.m:=he;dsimp only;rw[he',e];cases fl<;>rfl
noncomputable def TN:Nat->Nat->yk Nat
 |0,_=>[]
 |k+1,n=>if n=0 then []else(n%16)::TN k (n / 16)
noncomputable def ap(n:Nat):yk Nat:=TN n n
theorem jK:ap 0=[]:=rfl
variable{n:Nat}
theorem div_le{k:Nat}(e:¬n=0)(h:n<=k+1):n / 16<=k:=zb (yv (E0 (G9 e) (by decide)) h)
theorem vT:∀k j n,n<=k->n<=j->TN k n=TN j n
 |0=>λj n h Z=>by cases j with
  |zero=>rfl
  |succ j=>exact(yo (Nat.le_zero.1 h)).symm
 |k+1=>λj n h h'=>by
  cases j with
  |zero=>exact yo (Nat.le_zero.1 h')
  |succ j =>
  by_cases e:n=0
  ·exact(yo e).trans (yo e).symm
  ·exact(ym e).trans ((yI _ (vT k j _ (div_le e h) (div_le e h'))).trans (ym e).symm)
theorem cY(h:n≠0):ap n=(n%16)::ap (n / 16):=by
 cases n with
 |zero=>exact yD rfl h
 |succ n =>show(if n+1=0 then []else((n+1)%16)::TN n ((n+1) / 16))=_;rw[ym h,vT n ((n+1) / 16) _ (zb (E0 (Bh n) (by decide))) (yF _)]; rfl
noncomputable def IB(n:Nat):yk yQ:=(ap n).reverse.map λd=>z8 (65+d)
@[simp] theorem kZ(op:zD)(a b:M AV)(O:St)(Q:yx->St->Prop):Ok (aG op a b) O Q=Ok a O λx σ1=>Ok b σ1 λy σ2=>qk (Il σ2.hp σ2.nx op x y) Q σ2:=rfl
@[simp] theorem Q5(a:M AV)(O:St)(Q:yx->St->Prop):Ok (Ji a) O Q=Ok a O λx σ1=>qk (dC σ1.hp σ1.nx x) Q σ1:=rfl
@[simp] theorem Ud(t:M yx)(a b:M AV)(O:St)(Q:AV->St->Prop):Ok (Ti t a b) O Q=Ok t O λc σ1=>if c=true then Ok a σ1 Q else Ok b σ1 Q:=rfl
@[simp] theorem pJ(t:M yx)(a b:M ac)(O:St)(Q:ac->St->Prop):Ok (HX t a b) O Q=Ok t O λc σ1=>if c=true then Ok a σ1 Q else Ok b σ1 Q:=rfl
@[simp] theorem Ub(o:AO)(O:St)(Q:AV->St->Prop):Ok (bO o) O Q=Q (.ref O.nx) {O with hp:=upd O.hp O.nx o,nx:=O.nx+1}:=rfl
@[simp] theorem tT(O:St)(Q:yk AV->St->Prop):Ok (aj []) O Q=Q [] O:=rfl
@[simp] theorem eK(a:M AV)(as:yk (M AV))(O:St)(Q:yk AV->St->Prop):Ok (aj (a::as)) O Q=Ok a O λv σ1=>Ok (aj as) σ1 λvs σ2=>Q (v::vs) σ2:=rfl
@[simp] theorem wV(n:yL)(a:M (yk AV))(O:St)(Q:AV->St->Prop):Ok (ay n a) O Q=Ok a O λvs σ1=>yT (bM n vs) σ1 Q:=rfl
@[simp] theorem SS(C:ak)(fd:ax)(a:M (yk AV))(O:St)(Q:AV->St->Prop):Ok (b8 C fd a) O Q=Ok a O λvs σ1=>Ok (C fd vs []) σ1 Q:=rfl
@[simp] theorem KQ(a r:M yx)(O:St)(Q:yx->St->Prop):Ok (Ih a r) O Q=Ok a O λb σ1=>if b=true then Q true σ1 else Ok r σ1 Q:=rfl
@[simp] theorem KY(a:M AV)(O:St)(Q:ac->St->Prop):Ok (a7 a) O Q=Ok a O λZ σ1=>Q .next σ1:=rfl
@[simp] theorem Of(a:M AV)(O:St)(Q:ac->St->Prop):Ok (bV a) O Q=Ok a O λv σ1=>Q (.ret v) σ1:=rfl
@[simp] theorem kt(v:AV)(O:St)(Q:yu->St->Prop):Ok (j7 [] v) O Q=Q () O:=rfl
@[simp] theorem jl(t:AV->M yu)(ts:yk (AV->M yu))(v:AV)(O:St)(Q:yu->St->Prop):Ok (j7 (t::ts) v) O Q=Ok (t v) O λZ σ1=>Ok (j7 ts v) σ1 Q:=rfl
@[simp] theorem uV(a:M AV)(ts:yk (AV->M yu))(O:St)(Q:ac->St->Prop):Ok (aA a ts) O Q=Ok a O λv σ1=>Ok (j7 ts v) σ1 λZ σ2=>Q .next σ2:=rfl
@[simp] theorem P4(o:M AV)(a:Str)(v:AV)(O:St)(Q:yu->St->Prop):Ok (bo o a v) O Q=Ok o O λov σ1=>yT (dE ov a v) σ1 Q:=rfl
@[simp] theorem gk(a:α)(K:α->St->Prop)(O:St):qk (some a) K O=K a O:=propext ⟨λ⟨_,e,h⟩=>Ag e▸h,λh=>.mk a rfl h⟩
theorem fC(a b:yL):(Sx b=Sx a)=((b==a)=true):=by rw[jn,y5]
theorem qI(loc:Str->yl AV)(a b:yL)(v:yl AV):ai loc (Sx a) v (Sx b)=bif b==a then v else loc (Sx b):=by
 unfold ai;cases h:b==a
 ·rw[ym (λe=>by rw[fC,h]at e; cases e)]; rfl
 ·rw[yo (by rw[fC,h])]; rfl
theorem iC(a b:yL)(v:β)(r:yk (Str×β)):Ba (Sx b) ((Sx a,v)::r)=bif b==a then some v else Ba (Sx b) r:=by
 rw[xe];cases h:b==a
 ·rw[ym (λe=>by rw[fC,h]at e; cases e)]; rfl
 ·rw[yo (by rw[fC,h])]; rfl
variable{D:Nat}
theorem ge(h:1<=D):∃d,D=d+1:=⟨D-1,(AN h).symm⟩
theorem ji(C:ak)(o:M AV)(name:Str)(a:M (yk AV))(blt:AV->M AV)(O:St)(Q:AV->St->Prop) :
  Ok (aI C o name a blt) O Q=Ok o O λov σ1=>yT (bN T2 ov name) σ1 λum σ2=>match um with|some fd=>Ok a σ2 λvs σ3=>Ok (C fd (ov::vs) []) σ3 Q|none=>Ok (blt ov) σ2 Q:=rfl
theorem KR(o:M AV)(name:Str)(blt:AV->M AV)(O:St)(Q:AV->St->Prop) :
  Ok (oD o name blt) O Q=Ok o O λov σ1=>yT (bN T2 ov name) σ1 λum σ2=>match um with|some fd=>False|none=>Ok (blt ov) σ2 Q:=rfl
variable{ov:AV}
theorem jk{n k:yL}{a:M (yk AV)}{Q:AV->St->Prop}(h1:cQ O.hp O.nx ov=some k)(hm:iz.contains (k,n)=true)
  (h:Ok a O λvs σ1=>cQ σ1.hp σ1.nx ov=some k/\yT (ip ov n vs) σ1 Q):Ok (bw n a ov) O Q:=by
 refine⟨k,vn h1 hm,h.mono λvs σ1 hh=>⟨k,hh.1,?_⟩⟩;exact jm (zl k) hh.2
variable{C:ak}{A:M (yk AV)}{a:M AV}
theorem mj{o:M AV}{Q:AV->St->Prop}
  (h:Ok o O λov σ1=>∃i vs,ov=.ref i/\i<σ1.nx/\σ1.hp i=.list vs/\Ok a σ1 λv σ2=>i<σ2.nx/\∃vs2,σ2.hp i=.list vs2/\vs2.length<HC/\Q .none {σ2 with hp:=upd σ2.hp i (.list (vs2++[v]))}) :
  Ok (aI C o (Sx "append") A (bw "append" (aj [a]))) O Q:=by
 rw[ji];refine h.mono λov σ1 h1 =>?_;obtain⟨i,vs,rfl,hi,hl,h2⟩:=h1;refine fe hi (by rw[hl]; rfl) (jk (db hi hl) (by decide) ?_);rw[eK];refine h2.mono λv σ2 h3 =>?_;obtain⟨hi2,vs2,hl2,hb,hq⟩:=h3;exact⟨db hi2 hl2,zZ (qB i v σ2 vs2 hi2 hl2 hb) hq⟩
theorem wS{o:M AV}{Q:AV->St->Prop}
  (h:Ok o O λov σ1=>∃i vs,ov=.ref i/\i<σ1.nx/\σ1.hp i=.list vs/\vs.length<=HC/\Q .none {σ1 with hp:=upd σ1.hp i (.list [])}) :
  Ok (aI C o (Sx "clear") A (bw "clear" (aj []))) O Q:=by
 rw[ji];refine h.mono λov σ1 h1 =>?_;obtain⟨i,vs,rfl,hi,hl,hb,h2⟩:=h1;refine fe hi (by rw[hl]; rfl) (jk (db hi hl) (by decide) ?_);exact⟨db hi hl,zZ (sx i σ1 vs hi hl hb) h2⟩
theorem KU{o:M AV}{Q:AV->St->Prop}
  (h:Ok o O λov σ1=>∃i kvs ver,ov=.ref i/\i<σ1.nx/\σ1.hp i=.dict kvs ver/\Ok a σ1 λv σ2=>∃k,v=.int k/\i<σ2.nx/\∃kvs2 ver2,σ2.hp i=.dict kvs2 ver2/\Q ((kvs2.lookup k).getD .none) σ2) :
  Ok (aI C o (Sx "get") A (bw "get" (aj [a]))) O Q:=by
 rw[ji];refine h.mono λov σ1 h1 =>?_;obtain⟨i,kvs,ver,rfl,hi,hl,h2⟩:=h1;refine fe hi (by rw[hl]; rfl) (jk (mx hi hl) (by decide) ?_);rw[eK];refine h2.mono λv σ2 h3 =>?_;obtain⟨k,rfl,hi2,kvs2,ver2,hl2,hq⟩:=h3;exact⟨mx hi2 hl2,zZ (ut i σ2 kvs2 ver2 k hi2 hl2) hq⟩
theorem tS{o:M AV}{Q:AV->St->Prop}
  (h:Ok o O λov σ1=>∃i ks,ov=.ref i/\i<σ1.nx/\σ1.hp i=.set ks/\Ok a σ1 λv σ2=>∃k,v=.int k/\i<σ2.nx/\∃ks2,σ2.hp i=.set ks2/\ks2.length<=1000/\Q .none {σ2 with hp:=upd σ2.hp i (.set (if ks2.contains k then ks2 else ks2++[k]))}) :
  Ok (aI C o (Sx "add") A (bw "add" (aj [a]))) O Q:=by
 rw[ji];refine h.mono λov σ1 h1 =>?_;obtain⟨i,ks,rfl,hi,hl,h2⟩:=h1;refine fe hi (by rw[hl]; rfl) (jk (oA hi hl) (by decide) ?_);rw[eK];refine h2.mono λv σ2 h3 =>?_;obtain⟨k,rfl,hi2,ks2,hl2,hb,hq⟩:=h3;exact⟨oA hi2 hl2,zZ (xX i σ2 ks2 k hi2 hl2 hb) hq⟩
theorem re{o:M AV}{Q:AV->St->Prop}
  (h:Ok o O λov σ1=>∃i vs v,ov=.ref i/\i<σ1.nx/\σ1.hp i=.list (vs++[v])/\vs.length<=HC/\Q v {σ1 with hp:=upd σ1.hp i (.list vs)}) :
  Ok (oD o (Sx "pop") (bw "pop" (aj []))) O Q:=by
 rw[KR];refine h.mono λov σ1 h1 =>?_;obtain⟨i,vs,v,rfl,hi,hl,hb,h2⟩:=h1;refine fe hi (by rw[hl]; rfl) (jk (db hi hl) (by decide) ?_);exact⟨db hi hl,zZ (xW i σ1 vs v hi hl hb) h2⟩
variable{name:Str}{blt:AV->M AV}
theorem KS{o:M AV}{a:M (yk AV)}{Q:AV->St->Prop}(hm:T2.meths name=some fd)
  (h:Ok o O λov σ1=>∃i d fs,ov=.ref i/\i<σ1.nx/\d<σ1.nx/\σ1.hp i=.inst d/\σ1.hp d=.attrs fs/\fs.lookup name=none/\Ok a σ1 λvs σ2=>Ok (C fd (.ref i::vs) []) σ2 Q) :
  Ok (aI C o name a blt) O Q:=by
 rw[ji];refine h.mono λov σ1 h1 =>?_;obtain⟨i,d,fs,rfl,hi,hd,h2,h3,h4,h5⟩:=h1;exact mh hi hd h2 h3 h4 hm h5
@[simp] theorem Sm(t:M yx)(emit:M yu)(O:St)(Q:yu->St->Prop):Ok (nA t emit) O Q=Ok t O λb σ1=>if b=true then Ok emit σ1 Q else Q () σ1:=rfl
@[simp] theorem Nz(x y:Str)(a b:AV)(O:St)(Q:yu->St->Prop):Ok (dR [x,y] (.tup [a,b])) O Q=Q () {O with loc:=ai (ai O.loc x (some a)) y (some b)}:=rfl
@[simp] theorem Uc(m:M AV)(i:Nat)(O:St)(Q:AV->St->Prop):Ok (LD m i) O Q=Ok m O λv σ1=>v=.none/\Q (.ref i) σ1:=rfl
theorem cO{t:M yx}{b o:M ac}(I:Nat->St->Prop)
  (step:∀k O,I k O->Ok t O λc σ1=>if c=true then Ok b σ1 λf σ2=>match f with
   |.next=>∃m,m<k/\I m σ2
   |.cont=>∃m,m<k/\I m σ2
   |.brk=>Q .next σ2
   |.ret v=>Q (.ret v) σ2 else Ok o σ1 Q) (n k:Nat) (O:St) (h:k<n) (hI:I k O):Ok (bm t b o n) O Q :=
 Internal.cO I (λk O hI=>(step k O hI).toM.mono λc σ1 h1=>by
  cases c with
  |false=>exact o.ok h1
  |true=>exact b.ok h1) n k O h hI
theorem br{HE:M yu}{body:γ->M ac}(I:yk γ->St->Prop)
  (step:∀v r O,I (v::r) O->Ok (body v) O λf σ2=>match f with
   |.next=>Ok HE σ2 λZ σ3=>I r σ3
   |.cont=>Ok HE σ2 λZ σ3=>I r σ3
   |.brk=>Q .next σ2
   |.ret v=>Q (.ret v) σ2) (hend:∀O,I [] O->Q .next O) (vs:yk γ) (O:St) (hI:I vs O):Ok (bt HE body vs) O Q :=
 Gb I (λv r O hI=>(step v r O hI).toM.mono λf σ2 h2=>by
  cases f with
  |next=>exact HE.ok h2
  |cont=>exact HE.ok h2
  |brk=>exact h2
  |ret v=>exact h2) hend vs O hI
variable{body:AV->M ac}{us:yk AV}
theorem er{i:Nat}(I:yk AV->St->Prop)(hst:∀r O,I r O->(O.hp i).items?=some us/\i<O.nx)
  (step:∀v r O,I (v::r) O->Ok (body v) O λf σ2=>match f with
   |.next=>I r σ2
   |.cont=>I r σ2
   |.brk=>Q .next σ2
   |.ret v=>Q (.ret v) σ2) (hend:∀O,I [] O->Q .next O) (n k:Nat) (O:St) (h:us.length<n+k) (hk:k<=us.length) (hI:I (us.drop k) O):Ok (ez body i n k) O Q :=
 Internal.er I hst (λv r O hI=>(step v r O hI).toM) hend n k O h hk hI
variable{y:Str}
variable{u:AV}
variable{v:AV}
variable{as:yk (M AV)}{vs:yk AV}
variable{ver:Nat}{k:Int}{kvs:yk (Int×AV)}
variable{nx:Nat}
variable{j:Nat}
variable{fs:yk (Str×AV)}
variable{z:yl AV}
variable{e:M AV}{h:Nat->AO}
variable{m:M α}
section
noncomputable def V(m:M α)(O:St)(v:α):Prop:=∀Q:α->St->Prop,Q v O->Ok m O Q
theorem L0{l:Str->yl AV}{v:yl AV}:ai l x v x=v:=yo rfl
theorem LS{l:Str->yl AV}{u v:yl AV}(d:(x==y)=false)(h:l x=v):ai l y u x=v:=(ym (by intro e; subst e; rw[zl]at d; cases d)).trans h
theorem LK{v:yl AV}{r:yk (Str×AV)}(d:(x==y)=false)(h:r.lookup x=v):Ba x ((y,u)::r)=v:=by rw[zi,d]; exact h
theorem LK0{r:yk (Str×AV)}:Ba x ((x,u)::r)=some u:=by rw[zi,zl]
theorem V.c:V (cst v) O v:=λQ h=>h
theorem V.r{v:α}:V (M.ret v) O v:=λQ h=>h
theorem V.l(e:O.loc x=some v):V (aa x) O v:=λQ h=>.mk v e h
theorem V.g{o:yl α}{v:α}(e:o=some v):V (ae o) O v:=λQ h=>.mk v e h
theorem V.bin{b:M AV}{x y z:AV}(ha:V a O x)(hb:V b O y)(e:gJ O.hp O.nx op x y=some z):V (aK op a b) O z:=λQ h=>ha _ (hb _ (.mk z e h))
theorem V.cmp{op:zD}{b:M AV}{x y:AV}{z:yx}(ha:V a O x)(hb:V b O y)(e:Il O.hp O.nx op x y=some z):V (aG op a b) O z:=λQ h=>ha _ (hb _ (.mk z e h))
theorem V.Il{op:zD}{b:M AV}{x y:AV}{z:yx}(ha:V a O x)(hb:V b O y)(e:AB O.hp O.nx op x y=some z):V (nX op a b) O (.bool z):=λQ h=>ha _ (hb _ (.mk z e h))
theorem V.tr{x:AV}{z:yx}(ha:V a O x)(e:dC O.hp O.nx x=some z):V (Ji a) O z:=λQ h=>ha _ (.mk z e h)
theorem V.idx{b:M AV}{x y z:AV}(ha:V a O x)(hb:V b O y)(e:gc O.hp O.nx x y=some z):V (aB a b) O z:=λQ h=>ha _ (hb _ (.mk z e h))
theorem V.opt{x:AV}(ha:V a O x):V (gd a) O (some x):=λQ h=>ha _ h
theorem V.cut{o:M AV}{l h s:M (yl AV)}{z:AV}{lv hv sv:yl AV}(ho:V o O ov)(hl:V l O lv)(hh:V h O hv)(hs:V s O sv)(e:kP O.hp O.nx ov lv hv sv=some z):V (iL o l h s) O z:=λQ k=>ho _ (hl _ (hh _ (hs _ (.mk z e k))))
theorem V.neg{i:Int}(ha:V a O (.int i)):V (pR a) O (.int (-i)):=λQ h=>ha _ ⟨i,rfl,h⟩
theorem V.nil:V (aj []) O []:=λQ h=>h
theorem V.cons(ha:V a O v)(hr:V (aj as) O vs):V (aj (a::as)) O (v::vs):=λQ h=>ha _ (hr _ h)
theorem V.lst(ha:V (aj as) O vs)(hl:vs.length<=HC):V (Ia as) O (.lst vs):=λQ h=>ha _ ⟨hl,h⟩
theorem V.tup(ha:V (aj as) O vs)(hl:vs.length<=HC):V (tf as) O (.tup vs):=λQ h=>ha _ ⟨hl,h⟩
noncomputable def B(m:AK α)(O:St)(v:α):Prop:=∀Q:α->St->Prop,Q v O->yT m O Q
theorem V.b{n:yL}{a:M (yk AV)}(ha:V a O vs)(hb:B (bM n vs) O v):V (ay n a) O v:=λQ h=>ha _ (hb Q h)
theorem V.at{o:M AV}{a:Str}(ho:V o O ov)(hb:B (be ov a) O v):V (aW o a) O v:=λQ h=>ho _ (hb Q h)
theorem V.its{o:M AV}{v:aw}(ho:V o O ov)(hb:B (ar ov).m O v):V (M.bind o ar) O v:=λQ h=>ho _ (hb Q h)
theorem V.Tp{o:M AV}{i:Nat}(ho:V o O (.ref i))(ha:V a O (.int k))(hi:i<O.nx)(hh:O.hp i=.dict kvs ver)(e:(kvs.lookup k).getD .none=v):V (aI C o (Sx "get") A (bw "get" (aj [a]))) O v :=
 λQ h=>KU (ho _ ⟨i,kvs,ver,rfl,hi,hh,ha _ ⟨k,rfl,hi,kvs,ver,hh,by rw[e]; exact h⟩⟩)
theorem J.i{hp:Nat->AO}{a b c:Int}(h:ba op a b=some c):gJ hp nx op (.int a) (.int b)=some (.int c):=yI (DT AV.int) h
theorem I.add{a b:Int}:ba .Add a b=some (a+b):=rfl
theorem I.sub{a b:Int}:ba .Sub a b=some (a-b):=rfl
theorem I.addN{a b:Nat}:ba .Add (a:Int) (b:Int)=some ((a+b:Nat):Int):=rfl
theorem I.mul{a b:Int}(ha:bh a=true)(hb:bh b=true):ba .Mult a b=some (a*b):=yo (by rw[ha,hb]; rfl)
theorem I.Ri{a b:Nat}(ha:bh a=true)(hb:bh b=true):ba .Mult (a:Int) (b:Int)=some ((a*b:Nat):Int):=I.mul ha hb
theorem I.fdiv{a b:Int}(h:b≠0)(hb:bh b=true):ba .FloorDiv a b=some (Az a b):=yo (by rw[hb,DV.mpr h]; rfl)
theorem I.fmod{a b:Int}(h:b≠0):ba .Mod a b=some (BG a b):=yo (DV.mpr h)
theorem Ls{a b:Nat}:Az (a:Int) (b:Int)=((a / b:Nat):Int):=(FU _ (zo b)).trans rfl
theorem Qb{a b:Nat}:BG (a:Int) (b:Int)=((a%b:Nat):Int):=(Int.fmod_eq_emod_of_nonneg _ (zo b)).trans rfl
theorem Qa{b:Nat}(h:0<b):(b:Int)≠0:=λe=>zk h (FY.mp e)
theorem I.RN{a b:Nat}(h:0<b)(hb:bh b=true):ba .FloorDiv (a:Int) (b:Int)=some ((a / b:Nat):Int):=(I.fdiv (Qa h) hb).trans (yI some Ls)
theorem I.S9{a b:Nat}(h:0<b):ba .Mod (a:Int) (b:Int)=some ((a%b:Nat):Int):=(I.fmod (Qa h)).trans (yI some Qb)
theorem I.Uu{b:Nat}(h:b<=1000):ba .Pow 2 (b:Int)=some ((2 ^ b:Nat):Int):=(yo (by rw[y9 (zo b),y9 (show(b:Int)<=1000 from AA.mpr h)]; rfl)).trans (by rw[zK,FZ]; rfl)
theorem I.SI{a b:Nat}:ba .RShift (a:Int) (b:Int)=some ((a / 2 ^ b:Nat):Int):=by rw[xp,yo (y9 (zo b)),zK,show(2:Int) ^ b=((2 ^ b:Nat):Int) by rw[FZ]; rfl,Ls]
theorem Gd.dict{hp:Nat->AO}{i:Int}(hj:j<nx)(h:hp j=.dict kvs ver)(e:kvs.lookup i=some v):gc hp nx (.ref j) (.int i)=some v:=(ub i hj h).trans e
theorem B.divmod{a b:Int}(h:(b != 0&&bh b)=true):B (bM "divmod" [.int a,.int b]) O (.tup [.int (Az a b),.int (BG a b)]):=λQ hq=>by rw[kO]; exact⟨h,hq⟩
theorem B.Pg{a b c:Nat}(h:(((b:Int) != 0)&&bh b)=true)(h1:a / b=c)(h2:a%b=d):B (bM "divmod" [.int (a:Int),.int (b:Int)]) O (.tup [.int (c:Int),.int (d:Int)]):=by have:=B.divmod (a:=a) (O:=O) h;rw[Ls,Qb,h1,h2]at this; exact this
theorem B.Th:B (ar (.lst vs)).m O (.seq vs):=λQ h=>h
theorem B.Rt:B (ar (.tup vs)).m O (.seq vs):=λQ h=>h
theorem B.UI{b:yM yQ}:B (ar (.bytes b)).m O (.seq (b.toList.map λx=>.int x.toNat)):=λQ h=>h
theorem B.Tf(h:vs.length<=HC):B (bM "len" [.tup vs]) O (.int vs.length):=λQ hq=>by rw[nJ]; exact⟨h,hq⟩
theorem B.inst{i:Nat}{a:Str}(hi:i<O.nx)(hd:d<O.nx)(h1:O.hp i=.inst d)(h2:O.hp d=.attrs fs)(h3:bG.contains a=true)(h4:fs.lookup a=some v):B (be (.ref i) a) O v:=λQ h=>fP hi hd h1 h2 h3 h4 h
theorem B.nN{i:Nat}{x y:yl AV}(hi:i<O.nx)(h1:O.hp i=.node d x y z)(e:x=some v):B (be (.ref i) (Sx "node")) O v:=λQ h=>cP hi h1 (.inl ⟨rfl,e⟩) h
theorem B.nP{i:Nat}{x y:yl AV}(hi:i<O.nx)(h1:O.hp i=.node d x y z)(e:y=some v):B (be (.ref i) (Sx "npredecessors")) O v:=λQ h=>cP hi h1 (.inr (.inl ⟨rfl,e⟩)) h
theorem B.nS{i:Nat}{x y:yl AV}(hi:i<O.nx)(h1:O.hp i=.node d x y z)(e:z=some v):B (be (.ref i) (Sx "successors")) O v:=λQ h=>cP hi h1 (.inr (.inr ⟨rfl,e⟩)) h
variable{r:M ac}
theorem s1{l:Str->yl AV}(he:V e ⟨l,h,n⟩ v)(k:Ok r ⟨ai l x (some v),h,n⟩ Q):Ok (af (aA e [an x]) r) ⟨l,h,n⟩ Q:=he _ k
theorem s2{l:Str->yl AV}{a b:AV}(he:V e ⟨l,h,n⟩ (.tup [a,b]))(k:Ok r ⟨ai (ai l x (some a)) y (some b),h,n⟩ Q):Ok (af (aA e [dR [x,y]]) r) ⟨l,h,n⟩ Q:=he _ k
theorem sN(k:Ok r O Q):Ok (af (M.ret .next) r) O Q:=k
theorem sB(k:Q .brk O):Ok (af (M.ret .brk) r) O Q:=k
theorem sE(k:Q .next O):Ok (M.ret .next) O Q:=k
theorem sS{a b:M ac}(k:Ok (af a (af b r)) O Q):Ok (af (af a b) r) O Q:=Ok.mono (v:=a) k λf Z h=>by cases f<;>exact h
theorem sT{t:M yx}{a b:M ac}(ht:V t O true)(k:Ok (af a r) O Q):Ok (af (HX t a b) r) O Q:=ht _ k
theorem sF{t:M yx}{a b:M ac}(ht:V t O false)(k:Ok (af b r) O Q):Ok (af (HX t a b) r) O Q:=ht _ k
theorem sR(he:V e O v)(k:Q (.ret v) O):Ok (af (bV e) r) O Q:=he _ k
theorem bL{Q:α->St->Prop}(k:Ok m ⟨ai O.loc x (some v),O.hp,O.nx⟩ Q):Ok (M.bind (an x v) λZ=>m) O Q:=k
theorem PY{o:M AV}{l:Str->yl AV}{i:Nat}(ho:V o ⟨l,h,n⟩ (.ref i))(ha:V a ⟨l,h,n⟩ v)(hi:i<n)(hh:h i=.list vs)(hb:vs.length<HC)(k:Ok r ⟨l,upd h i (.list (vs++[v])),n⟩ Q) :
  Ok (af (a7 (aI C o (Sx "append") A (bw "append" (aj [a])))) r) ⟨l,h,n⟩ Q :=
 mj (ho _ ⟨i,vs,rfl,hi,hh,ha _ ⟨hi,vs,hh,hb,k⟩⟩)
theorem Vk{o i:M AV}{l:Str->yl AV}{d:Int}(he:V e ⟨l,h,n⟩ v)(ho:V o ⟨l,h,n⟩ (.ref j))(hi:V i ⟨l,h,n⟩ (.int d))(hj:j<n)(hh:h j=.dict kvs ver)(hb:kvs.length<=HC)
  (k:Ok r ⟨l,upd h j (.dict (stored kvs d v) (ver+1)),n⟩ Q):Ok (af (aA e [b3 o i]) r) ⟨l,h,n⟩ Q :=
 he _ (ho _ (hi _ (mi hj hh hb k)))
theorem sC(h:Ok e O λv σ1=>Ok r ⟨ai σ1.loc x (some v),σ1.hp,σ1.nx⟩ Q):Ok (af (aA e [an x]) r) O Q:=h
theorem Ua(h:Ok e O λZ σ1=>Ok r σ1 Q):Ok (af (a7 e) r) O Q:=h
theorem cF{a:M (yk AV)}{Q:AV->St->Prop}(ha:V a O vs)(k:Ok (C fd vs []) O Q):Ok (b8 C fd a) O Q:=ha _ k
theorem nw{o:AO}{l:Str->yl AV}(k:Ok r ⟨ai l x (some (.ref n)),upd h n o,n+1⟩ Q):Ok (af (aA (bO o) [an x]) r) ⟨l,h,n⟩ Q:=k
theorem Cm.eq{hp:Nat->AO}{a b:Int}(h:a=b):AB hp nx .Eq (.int a) (.int b)=some true:=by rw[dt,h,zl]
theorem Cm.ne{hp:Nat->AO}{a b:Int}(h:a≠b):AB hp nx .Eq (.int a) (.int b)=some false:=by rw[dt,Fj h]
theorem Cm.nq{hp:Nat->AO}{a b:Int}(h:a=b):AB hp nx .NotEq (.int a) (.int b)=some false:=by rw[iM,h,zl]; rfl
theorem sU{o:M AV}{a:M (yk AV)}{i:Nat}{R:AV->St->Prop}(hm:T2.meths name=some fd)(ho:V o O (.ref i))(hi:i<O.nx)(hd:d<O.nx)(h1:O.hp i=.inst d)(h2:O.hp d=.attrs fs)(h3:fs.lookup name=none)(ha:V a O vs)
  (k:Ok (C fd (.ref i::vs) []) O R):Ok (aI C o name a blt) O R:=KS hm (ho _ ⟨i,d,fs,rfl,hi,hd,h1,h2,h3,ha _ k⟩)
end
theorem Tt(n k:Nat):Az (n:Int) (k:Int)=((n / k:Nat):Int):=by rw[FU _ (by lia)]; rfl
noncomputable abbrev Sq:yM yQ := #[65,66,67,68,69,70,71,72,73,74,75,76,77,78,79,80]
theorem td(C:ak)  {v:yM yQ}(h1:O.loc (Sx "num")=some (.int n))(h2:O.loc (Sx "val")=some (.bytes v))(h3:O.loc (Sx "AP")=some (.bytes Sq))(hv:v.size<=1000) :
  Ok (eJ C) O λf O'=>f=.next/\O'.hp=O.hp/\O'.nx=O.nx/\O'.loc (Sx "num")=some (.int ((n / 16:Nat):Int))/\O'.loc (Sx "val")=some (.bytes (#[z8 (65+n%16)]++v))/\O'.loc (Sx "AP")=some (.bytes Sq):=by
 have hlt:n%16<16:=Bw _ (by decide);have key:∀m:Nat,m<16->((Sq.toList.drop m).take 1).toArray = #[z8 (65+m)]:=by decide
 have hd:∀O,B (bM "divmod" [.int (n:Int),.int 16]) O (.tup [.int (n / 16:Nat),.int (n%16:Nat)]):=λO=>B.Pg (b:=16) (by kernel_rfl) rfl rfl;have hc:∀hp nx,kP hp nx (.bytes Sq) (some (.int (n%16:Nat))) (some (.int (n%16+1:Nat))) none=some (.bytes #[z8 (65+n%16)]):=λhp nx=>(kG ..).trans ((yo ⟨zo _,zo _,by decide⟩).trans (by rw[zK,zK,EZ,key _ hlt]));have i1:ba .Add ((n%16:Nat):Int) 1=some ((n%16+1:Nat):Int):=rfl;have j1:∀hp nx,gJ hp nx .Add (.bytes #[z8 (65+n%16)]) (.bytes v)=some (.bytes (#[z8 (65+n%16)]++v)):=λhp nx=>(rD ..).trans (yo (by show 1+v.size<=HC; unfold HC; lia));unfold eJ;exact s2 (V.b (by repeat' infer_instance) (hd _)) (s1 (V.bin (V.cut (by repeat' infer_instance) (V.opt (by repeat' infer_instance)) (V.opt (by repeat' infer_instance)) V.r (hc _ _)) (by repeat' infer_instance) (j1 _ _)) (sE ⟨rfl,rfl,rfl,by repeat' infer_instance,by repeat' infer_instance,by repeat' infer_instance⟩))
theorem uC(n:Nat):∀k,n<16 ^ k->(ap n).length<=k:=by
 intro k;induction k generalizing n with
 |zero =>intro h;have:n=0:=Nat.lt_one_iff.mp h;subst this; simp[jK]
 |succ k ih =>
  intro h;by_cases h0:n=0
  ·subst h0; simp[jK]
  ·rw[cY h0];have:=ih (n / 16) (Nat.div_lt_of_lt_mul (by rw[BK]; exact h));simp; assumption
inductive PJ(n:Nat)(v:yM yQ)(O:St)(k:Nat)(O':St):Prop
 |mk (n':Nat) (v':yM yQ) (u0:(ap n').length=k) (u1:v'.size+k<=60) (u2:IB n'++v'.toList=IB n++v.toList) (u3:O'.hp=O.hp) (u4:O'.nx=O.nx) (u5:O'.loc (Sx "num")=some (.int n')) (u6:O'.loc (Sx "val")=some (.bytes v')) (u7:O'.loc (Sx "AP")=some (.bytes Sq))
theorem tc(C:ak)  (Q:ac->St->Prop)(n:Nat)(v:yM yQ)(O:St)(h1:O.loc (Sx "num")=some (.int n))(h2:O.loc (Sx "val")=some (.bytes v))(h3:O.loc (Sx "AP")=some (.bytes Sq))(hn:n<16 ^ 60)(hL:100<=LL)(hv:v.size=0)
  (hQ:∀O',O'.hp=O.hp->O'.nx=O.nx->O'.loc (Sx "val")=some (.bytes (IB n++v.toList).toArray)->Q .next O'):Ok (bm (Ji (aa (Sx "num"))) (eJ C) (M.ret .next) LL) O Q:=by
 refine cO (PJ n v O) (λk O' hI =>?_) LL (ap n).length O (yR (uC n 60 hn) (yv (by decide) hL)) ⟨n,v,rfl,by rw[hv,zM]; exact uC n 60 hn,rfl,rfl,rfl,h1,h2,h3⟩;obtain⟨n',v',hk,hsz,hap,q1,q2,q3,q4,q5⟩:=hI;refine V.tr (z:=((n':Int) != 0)) (V.l q3) rfl _ ?_;by_cases h0:n'=0
 ·subst h0;refine hQ O' q1 q2 ?_;rw[q4,<-hap]; simp[IB,jK]
 ·have hne:((n':Int) != 0)=true:=by simp[h0]
  rw[hne,yo rfl];refine(td C q3 q4 q5 (yn (yH _ _) (yn hsz (by decide)))).mono λf σ2 h =>?_;obtain⟨rfl,r1,r2,r3,r4,r5⟩:=h;refine⟨(ap (n' / 16)).length,?_,n' / 16,_,rfl,?_,?_,r1.trans q1,r2.trans q2,r3,r4,r5⟩
  ·rw[<-hk,cY h0]; simp
  ·rw[cY h0]at hk; simp at hk ⊢; lia
  ·rw[<-hap]; unfold IB; rw[cY h0]; simp
theorem wX(hD:1<=D)(hL:100<=LL)(i:Int)(O:St)(Q:AV->St->Prop)(hi:i.natAbs<16 ^ 60)(hQ:Q (.bytes (IB i.natAbs).toArray) O):Ok (aJ T2 LL 40 D (bl (Sx "Int2AP")) [.int i] []) O Q:=by obtain⟨d,rfl⟩:=ge (yn (by decide) hD);refine bA (bs:=[(Sx "num",.int i)]) (by kernel_rfl) (qY _) ?_;unfold qZ;refine s1 V.c (s1 V.c (s1 (V.b (V.cons (V.b (V.cons (v:=.int i) (by repeat' infer_instance) V.nil) (λP k=>by rw[pN]; exact k)) V.nil) (λP k=>by rw[pM]; exact k)) (?_:Ok (bm _ _ _ _) _ (iu _ _))));refine tc _ _ i.natAbs #[] _ (by repeat' infer_instance) (by repeat' infer_instance) (by repeat' infer_instance) hi hL rfl λO' h1 h2 h3=>sR (V.l h3) ?_;rw[show({loc:=O.loc,hp:=O'.hp,nx:=O'.nx}:St)=O by rw[h1,h2]];simp only[Array.toList_empty,yX];exact hQ
structure kc(O O':St):Prop where
 loc:O'.loc=O.loc
 nx:O.nx<=O'.nx
 hp:∀j,j<O.nx->O'.hp j=O.hp j
theorem kc.refl:kc O O:=⟨rfl,yF _,λZ Z=>rfl⟩
theorem kc.trans{a b c:St}(h:kc a b)(k:kc b c):kc a c:=⟨k.loc.trans h.loc,yn h.nx k.nx,λj hj=>(k.hp j (yv hj h.nx)).trans (h.hp j hj)⟩
noncomputable def Pin:=Nat->yl AO
noncomputable def Pin.le(w w':Pin):Prop:=∀j o,w j=some o->w' j=some o
noncomputable def Pin.at(w:Pin)(O:St):Prop:=∀j o,w j=some o->j<O.nx/\O.hp j=o
variable{w:Pin}
theorem Pin.le.refl:w.le w:=λZ Z h=>h
theorem Pin.le.trans{a b c:Pin}(h:a.le b)(k:b.le c):a.le c:=λj o e=>k j o (h j o e)
structure Nx(w:Pin)(O:St)(w':Pin)(O':St):Prop where
 grow:kc O O'
 le:w.le w'
 at_:w'.at O'
 fr:∀j o,w' j=some o->w j=some o\/O.nx<=j
variable{w1 w2:Pin}{σ1:St}
theorem Nx.trans(h:Nx w O w1 σ1)(k:Nx w1 σ1 w2 σ2):Nx w O w2 σ2 :=
 ⟨h.grow.trans k.grow,h.le.trans k.le,k.at_,λj o e=>(k.fr j o e).elim (h.fr j o) λq=>.inr (yn h.grow.nx q)⟩
theorem Nx.refl(h:w.at O):Nx w O w O:=⟨.refl,.refl,h,λZ Z e=>.inl e⟩
noncomputable def Pin.add(w:Pin)(i:Nat)(o:AO):Pin:=λj=>if j=i then some o else w j
theorem Pin.Io{i:Nat}{o:AO}:(w.add i o) i=some o:=yo rfl
noncomputable def Ll(l l':Str->yl AV):Prop:=∀y v,l y=some v->l' y=some v
theorem Ll.refl{l:Str->yl AV}:Ll l l:=λZ Z h=>h
variable{l':Str->yl AV}
theorem Ll.upd{l:Str->yl AV}(h:Ll l l'){v:yl AV}:Ll (ai l x v) (ai l' x v):=λy u e=>by
 by_cases q:y=x
 ·exact(yo q).trans ((yo q).symm.trans e)
 ·exact(ym q).trans (h y u ((ym q).symm.trans e))
theorem Ll.more{l:Str->yl AV}(h:Ll l l')(k:l x=none){v:yl AV}:Ll l (ai l' x v):=λy u e=>by
 by_cases q:y=x
 ·subst q; rw[k]at e; cases e
 ·exact(ym q).trans (h y u e)
inductive PO(w1:Pin)(O:St)(R:Pin->α->Prop)(v:α)(O':St):Prop
 |mk (w2:Pin) (n:Nx w1 O w2 O') (q:∀w3,w2.le w3->R w3 v):PO w1 O R v O'
noncomputable def P(w:Pin)(l:Str->yl AV)(m:M α)(R:Pin->α->Prop):Prop :=
 ∀w1 O,w.le w1->w1.at O->Ll l O.loc->Ok m O (PO w1 O R)
noncomputable def Fl(v:α)(w:Pin)(u:α):Prop:=u=v
inductive Li(vs:yk AV)(w:Pin)(v:AV):Prop
 |val (e:v=.lst vs):Li vs w v
 |IH (i:Nat) (e:v=.ref i) (h:w i=some (.list vs)):Li vs w v
 |Ij (i:Nat) (e:v=.ref i) (h:w i=some (.frozen vs)):Li vs w v
variable{w':Pin}
theorem Li.mono(h:Li vs w v)(k:w.le w'):Li vs w' v:=by
 cases h with
 |val e=>exact .val e
 |IH i e h=>exact .IH i e (k _ _ h)
 |Ij i e h=>exact .Ij i e (k _ _ h)
theorem Li.items(h:Li vs w v)(a:w.at O):items? O.hp O.nx v=some vs:=by
 have key:∀i o,w i=some o->AO.items? o=some vs->items? O.hp O.nx (.ref i)=some vs:=λi o e h=>by have q:=a i o e;exact(yo q.1).trans (by rw[q.2]; exact h)
 cases h with
 |val e=>subst e; rfl
 |IH i e h=>subst e; exact key i _ h rfl
 |Ij i e h=>subst e; exact key i _ h rfl
variable{Ra Rb:Pin->AV->Prop}
variable{is:yk Int}
variable{js:yk Int}
variable{xs:yk (yk Int)}
section
variable{l:Str->yl AV}
theorem P.le{R:Pin->α->Prop}(h:P w l m R)(k:w.le w'):P w' l m R:=λw1 O a b c=>h w1 O (k.trans a) b c
theorem P.wk{R R':Pin->α->Prop}(h:P w l m R)(k:∀w' v,w.le w'->R w' v->R' w' v):P w l m R':=λw1 O a b c =>
 (h w1 O a b c).mono λv O' h9=>by obtain⟨w2,n,q⟩:=h9; exact⟨w2,n,λw3 z=>k w3 v (a.trans (n.le.trans z)) (q w3 z)⟩
theorem P.bind{f:α->M β}{R:Pin->α->Prop}{R':Pin->β->Prop}(h:P w l m R)(k:∀w' v,w.le w'->(∀w3,w'.le w3->R w3 v)->P w' l (f v) R'):P w l (M.bind m f) R':=λw1 O a b c =>
 (h w1 O a b c).mono λv σ1 h9=>by obtain⟨w2,n,q⟩:=h9; exact(k w2 v (a.trans n.le) q w2 σ1 .refl n.at_ (n.grow.loc▸c)).mono λu σ2 h9=>by obtain⟨w3,n',q'⟩:=h9; exact⟨w3,n.trans n',q'⟩
theorem P.ret{a:α}{R:Pin->α->Prop}(h:∀w3,w.le w3->R w3 a):P w l (M.ret a) R:=λw1 O k b c=>⟨w1,.refl b,λw3 z=>h w3 (k.trans z)⟩
theorem P.c:P w l (cst v) (Fl v):=P.ret λZ Z=>rfl
theorem P.r{v:α}:P w l (M.ret v) (Fl v):=P.ret λZ Z=>rfl
theorem P.ask{f:St->yl α}{v:α}{R:Pin->α->Prop}(e:∀w1 O,w.le w1->w1.at O->Ll l O.loc->f O=some v)(h:∀w3,w.le w3->R w3 v):P w l (ask f) R:=λw1 O k b c=>.mk v (e w1 O k b c) ⟨w1,.refl b,λw3 z=>h w3 (k.trans z)⟩
theorem P.g(e:l x=some v):P w l (aa x) (Fl v):=P.ask (λw1 O Z Z c=>c _ _ e) λZ Z=>rfl
theorem P.o{o:yl α}{v:α}(e:o=some v):P w l (ae o) (Fl v):=P.ask (λZ Z Z Z Z=>e) λZ Z=>rfl
theorem P.f{σ0:St}(h:Ll l' σ0.loc)(e:l' x=some v):P w l (ae (σ0.loc x)) (Fl v):=P.o (h _ _ e)
theorem P.li{m:M AV}(h:P w l m (Fl v))(k:Li vs w v):P w l m (Li vs):=h.wk λw' v a b=>by cases b; exact k.mono a
theorem P.lst{m:M AV}(h:P w l m (Fl (.lst vs))):P w l m (Li vs):=h.li (.val rfl)
theorem P.hp{f:(Nat->AO)->Nat->yl α}{v:α}(e:∀w1 O,w.le w1->w1.at O->f O.hp O.nx=some v):P w l (aE f) (Fl v):=P.ask (λw1 O a b c=>e w1 O a b) λZ Z=>rfl
theorem P.up{m:AK α}{v:α}(e:∀w1 O,w.le w1->w1.at O->B m O v):P w l (up m) (Fl v):=λw1 O a b c=>e w1 O a b _ ⟨w1,.refl b,λZ Z=>rfl⟩
theorem P.two{b:M AV}{f:AV->AV->M α}{R:Pin->α->Prop}(ha:P w l a Ra)(hb:P w l b Rb)(k:∀w' x y,w.le w'->(∀w3,w'.le w3->Ra w3 x)->(∀w3,w'.le w3->Rb w3 y)->P w' l (f x y) R):P w l (M.bind a λx=>M.bind b λy=>f x y) R :=
 ha.bind λw1 x a1 h1=>(hb.le a1).bind λw2 y a2 h2=>k w2 x y (a1.trans a2) (λw3 z=>h1 w3 (a2.trans z)) h2
theorem P.bin{b:M AV}{i j:Int}(ha:P w l a (Fl (.int i)))(hb:P w l b (Fl (.int j)))(e:ba op i j=some k):P w l (aK op a b) (Fl (.int k)) :=
 P.two ha hb λw' x y Z hx hy=>by cases hx w' .refl; cases hy w' .refl; exact P.hp λZ Z Z Z=>J.i e
theorem P.cat{b:M AV}(ha:P w l a (Li vs))(hb:P w l b (Li us))(e:vs.length+us.length<=HC):P w l (aK .Add a b) (Fl (.lst (vs++us))) :=
 P.two ha hb λw' x y Z hx hy=>P.hp λw1 O q r=>by show gJ O.hp O.nx .Add x y=_;unfold gJ;rw[(hx w1 q).items r,(hy w1 q).items r];exact yo (y9 e)
theorem P.TC{b:M AV}{s t:Str}(ha:P w l a (Fl (.str s)))(hb:P w l b (Fl (.str t)))(e:s.length+t.length<=HC):P w l (aK .Add a b) (Fl (.str (s++t))) :=
 P.two ha hb λw' x y Z hx hy=>by cases hx w' .refl; cases hy w' .refl; exact P.hp λZ Z Z Z=>yo (y9 e)
theorem OC{o:yl yx}{c:yx}(h:o=some c):o.map (!·)=some (!c):=by rw[h]; rfl
noncomputable def Cc(op:zD)(Ra Rb:Pin->AV->Prop)(c:yx):Prop:=∀w x y O,Ra w x->Rb w y->w.at O->AB O.hp O.nx op x y=some c
theorem P.t{op:zD}{b:M AV}{c:yx}(ha:P w l a Ra)(hb:P w l b Rb)(e:Cc op Ra Rb c):P w l (aG op a b) (Fl c) :=
 P.two ha hb λw' x y Z hx hy=>P.ask (λw1 O q r Z=>e w1 x y O (hx w1 q) (hy w1 q) r) λZ Z=>rfl
theorem P.cmp{op:zD}{b:M AV}{c:yx}(ha:P w l a Ra)(hb:P w l b Rb)(e:Cc op Ra Rb c):P w l (nX op a b) (Fl (.bool c)) :=
 P.two ha hb λw' x y Z hx hy w1 O q r c=>.mk _ (e w1 x y O (hx w1 q) (hy w1 q) r) ⟨w1,.refl r,λZ Z=>rfl⟩
theorem cw:∀is:yk Int,bz (is.map .int)=some is
 |[]=>rfl
 |i::r=>yI (DT (i :: ·)) (cw r)
theorem iW:∀is:yk Str,f8 (is.map .str)=some is
 |[]=>rfl
 |i::r=>yI (DT (i :: ·)) (iW r)
theorem Cc.fl{op:zD}{x y:AV}{c:yx}(e:∀hp nx,AB hp nx op x y=some c):Cc op (Fl x) (Fl y) c:=λw x y O hx hy Z=>by cases hx; cases hy; exact e _ _
theorem Cc.Tj{i:Int}:Cc .In (Fl (.int i)) (Li (is.map .int)) (is.contains i):=λw x y O hx hy a=>by cases hx;show jo O.hp O.nx (.int i) y=_;unfold jo; rw[hy.items a]; dsimp only[AV.int?]; rw[cw]; rfl
theorem Cc.Va{i:Int}:Cc .NotIn (Fl (.int i)) (Li (is.map .int)) (!is.contains i):=λw x y O hx hy a=>OC (Cc.Tj w x y O hx hy a)
theorem Cc.Vz{i:Str}{is:yk Str}:Cc .NotIn (Fl (.str i)) (Li (is.map .str)) (!is.contains i):=λw x y O hx hy a=>OC (by
 cases hx;show jo O.hp O.nx (.str i) y=some (is.contains i);unfold jo; rw[hy.items a]; dsimp only[AV.int?,AV.Iz,Option.bind]; rw[iW]; rfl)
theorem Cc.eq:Cc .Eq (Li (is.map .int)) (Li (js.map .int)) (is==js):=λw x y O hx hy a=>by show Pd O.hp O.nx x y=_;unfold Pd;rw[hx.items a,hy.items a];dsimp only;rw[cw,cw]
theorem Cc.ne:Cc .NotEq (Li (is.map .int)) (Li (js.map .int)) (!(is==js)):=λw x y O hx hy a=>OC (Cc.eq w x y O hx hy a)
inductive Al(w:Pin):yk AV->yk (yk Int)->Prop
 |nil:Al w [] []
 |cons {u:AV} {us:yk AV} {x:yk Int} {xs:yk (yk Int)} (h:Li (x.map .int) w u) (r:Al w us xs):Al w (u::us) (x::xs)
noncomputable def Ue(xss:yk (yk Int))(w:Pin)(v:AV):Prop:=∃us,Li us w v/\Al w us xss
theorem rJ(a:w.at O)(h:Al w us xs):cT O.hp O.nx us=some xs:=by
 induction h with
 |nil=>rfl
 |cons h r ih=>exact zd.mpr ⟨_,h.items a,zd.mpr ⟨_,cw _,y4.mpr ⟨_,ih,rfl⟩⟩⟩
theorem Al.no(h:Al w us xs)(d:xs≠[]):bz us=none:=by
 cases h with
 |nil=>exact yD rfl d
 |cons h r=>cases h with
  |val e=>subst e; rfl
  |IH i e h=>subst e; rfl
  |Ij i e h=>subst e; rfl
theorem Cc.VA{ys:yk (yk Int)}:Cc .NotEq (Ue xs) (Ue ys) (!(xs==ys)):=λw x y O ⟨us,h1,e1⟩ ⟨vs,h2,e2⟩ a=>OC (by
 show Pd O.hp O.nx x y=_;unfold Pd;rw[h1.items a,h2.items a];dsimp only;rw[rJ a e1,rJ a e2];cases xs with
 |cons _ _=>rw[e1.no (by exact Dt _ _)]
 |nil=>cases ys with
  |cons _ _=>rw[e2.no (by exact Dt _ _)]; cases bz us<;>rfl
  |nil=>cases e1; cases e2; rfl)
end
inductive It(vs:yk AV)(w:Pin)(it:aw):Prop
 |Ip (e:it=.Ip vs):It vs w it
 |seq (e:it=.seq vs):It vs w it
 |IH (i:Nat) (e:it=.HY i) (o:AO) (h:w i=some o) (k:o.items?=some vs):It vs w it
 |Tz (i ver:Nat) (kvs:yk (Int×AV)) (e:it=.H7 i ver vs) (h:w i=some (.dict kvs ver)):It vs w it
theorem oV{step:AV->AK yu}{Q:yu->St->Prop}{i:Nat}(I:yk AV->St->Prop)(hst:∀r O,I r O->(O.hp i).items?=some us/\i<O.nx)
  (hs:∀v r O,I (v::r) O->yT (step v) O λZ σ2=>I r σ2) (hend:∀O,I [] O->Q () O):∀(n k:Nat) (O:St),us.length<n+k->k<=us.length->I (us.drop k) O->yT (mW step i n k) O Q
 |0=>λk O h hk Z=>by lia
 |n+1=>λk O h hk hI=>by
  obtain⟨h1,h2⟩:=hst _ _ hI;refine IE h2 (HS h1 ?_);by_cases hlt:k<us.length
  ·refine IL (zN hlt) ?_;rw[Dv hlt]at hI;refine BE (Gc ..) (BE (Ge ..) ((hs _ _ O hI).mono λZ σ2 h2=>oV I hst hs hend n (k+1) σ2 (by lia) (by lia) h2))
  ·refine okN (Br (zr hlt)) ?_;rw[ED (zr hlt)]at hI;exact hend O hI
variable{it:aw}
theorem jv{step:AV->M yu}{Q:yu->St->Prop}(h:It vs w it)(hl:vs.length<L)(I:yk AV->St->Prop)(hw:∀r O,I r O->w.at O)
  (hs:∀v r O,I (v::r) O->Ok (step v) O λZ σ2=>I r σ2) (hend:∀O,I [] O->Q () O) (h0:I vs O):Ok (cL L it step) O Q:=by
 cases h with
 |Ip e=>subst e; exact Eu (HE:=zu ()) I (λv r O h=>(step v).ok (Ok.mono (hs v r O h) λZ σ2 h2=>(show yT (zu ()) σ2 λZ σ3=>I r σ3 from h2))) hend vs O h0
 |seq e=>subst e; exact Eu (HE:=zu ()) I (λv r O h=>(step v).ok (Ok.mono (hs v r O h) λZ σ2 h2=>(show yT (zu ()) σ2 λZ σ3=>I r σ3 from h2))) hend vs O h0
 |IH i e o h k=>subst e; exact oV I (λr O h1=>⟨by rw[(hw r O h1 i o h).2]; exact k,(hw r O h1 i o h).1⟩) (λv r O h=>(step v).ok (hs v r O h)) hend L 0 O hl (zc _) h0
 |Tz i ver kvs e h=>subst e; exact Eu I (λv r O h1=>(step v).ok ((hs v r O h1).mono λZ σ2 h2=>g9 (hw r σ2 h2 i _ h).1 (hw r σ2 h2 i _ h).2 h2)) hend vs O h0
structure Ni(i:Nat)(w:Pin)(O:St)(w':Pin)(O':St):Prop where
 nx:O.nx<=O'.nx
 hp:∀j,j<O.nx->j≠i->O'.hp j=O.hp j
 le:w.le w'
 at_:w'.at O'
 fr:∀j o,w' j=some o->w j=some o\/O.nx<=j
theorem Ni.trans{i:Nat}(h:Ni i w O w1 σ1)(k:Ni i w1 σ1 w2 σ2):Ni i w O w2 σ2 :=
 ⟨yn h.nx k.nx,λj a b=>(k.hp j (yv a h.nx) b).trans (h.hp j a b),h.le.trans k.le,k.at_,λj o e=>(k.fr j o e).elim (h.fr j o) λq=>.inr (yn h.nx q)⟩
variable{O':St}
theorem Ni.not{i:Nat}(h:Ni i w O w' O')(a:w i=none)(b:i<O.nx):w' i=none:=by
 cases e:w' i with
 |none=>rfl
 |some o =>
  rcases h.fr i o e with q|q
  ·rw[a]at q; cases q
  ·exact yD b (Cg.mpr q)
inductive Vh(w1:Pin)(O:St)(l:Str->yl AV)(i:Nat)(us:yk AV)(n:Nat)(S:Pin->yk AV->Prop)(O':St):Prop
 |mk (w2:Pin) (us':yk AV) (h1:Ni i w1 O w2 O') (h2:Ll l O'.loc) (h3:O'.hp i=.list (us++us')) (h4:us'.length<=n) (h5:∀w3,w2.le w3->S w3 us'):Vh w1 O l i us n S O'
noncomputable def Em(w:Pin)(l:Str->yl AV)(i:Nat)(m:M yu)(n:Nat)(S:Pin->yk AV->Prop):Prop :=
 ∀w1 O us,w.le w1->w1.at O->Ll l O.loc->w1 i=none->i<O.nx->O.hp i=.list us->us.length+n<=HC ->
  Ok m O λZ O'=>Vh w1 O l i us n S O'
variable{S:Pin->yk AV->Prop}
section
variable{l:Str->yl AV}{i:Nat}
theorem Em.wk{m:M yu}{S':Pin->yk AV->Prop}(h:Em w l i m n S)(k:∀w' us,S w' us->S' w' us):Em w l i m n S':=λw1 O us a b c d e f g=>(h w1 O us a b c d e f g).mono λZ O' h9=>by obtain⟨w2,us',x1,x2,x3,x4,x5⟩:=h9; exact⟨w2,us',x1,x2,x3,x4,λw3 z=>k _ _ (x5 w3 z)⟩
theorem uG{i:Nat}{o:AO}(a:w.at O)(b:w i=none):w.at {O with hp:=upd O.hp i o}:=λj p e=>⟨(a j p e).1,by
 show upd O.hp i o j=p;rw[bc,ym (λq=>by subst q; rw[b]at e; cases e)]; exact(a j p e).2⟩
theorem Pin.I0{i:Nat}{o:AO}(b:w i=none):w.le (w.add i o):=λj p e=>(ym (λq=>by subst q; rw[b]at e; cases e)).trans e
theorem Pin.R2{i:Nat}{o:AO}(a:w.at O)(b:i<O.nx):(w.add i o).at {O with hp:=upd O.hp i o}:=λj p e=>by
 by_cases q:j=i
 ·subst q;cases e.symm.trans Pin.Io;exact⟨b,yo rfl⟩
 ·have e':=(ym q).symm.trans e;exact⟨(a j p e').1,(ym q).trans (a j p e').2⟩
theorem Em.one{R:Pin->AV->Prop}(h:P w l e R):Em w l i (aU e i) 1 (λw us=>∃u,us=[u]/\R w u):=λw1 O us a b c d hi hh hn =>
 (h w1 O a b c).mono λv σ1 h9=>by
  obtain⟨w2,n,q⟩:=h9;have e1:σ1.hp i=.list us:=(n.grow.hp i hi).trans hh;have e2:i<σ1.nx:=yv hi n.grow.nx;have e3:w2 i=none:=Ni.not (i:=i) ⟨n.grow.nx,λj x Z=>n.grow.hp j x,n.le,n.at_,n.fr⟩ d hi;refine ku e2 e1 hn ⟨w2,[v],⟨n.grow.nx,λj x y =>?_,n.le,uG n.at_ e3,n.fr⟩,λy u z =>?_,yo rfl,yF _,λw3 z=>⟨v,rfl,q w3 z⟩⟩
  ·exact(ym y).trans (n.grow.hp j x)
  ·show σ1.loc y=some u;rw[n.grow.loc]; exact c y u z
inductive Fm{γ:Type}(S:γ->Pin->yk AV->Prop)(w:Pin):yk γ->yk AV->Prop
 |nil:Fm S w [] []
 |cons {v:γ} {vs:yk γ} {a b:yk AV} (h:∀w3,w.le w3->S v w3 a) (r:Fm S w vs b):Fm S w (v::vs) (a++b)
theorem Fm.mono{S:γ->Pin->yk AV->Prop}(k:w.le w'){vs:yk γ}(h:Fm S w vs us):Fm S w' vs us:=by
 induction h with
 |nil=>exact .nil
 |cons h r ih=>exact .cons (λw3 z=>h w3 (k.trans z)) ih
theorem Fm.snoc{S:γ->Pin->yk AV->Prop}{v:γ}{a:yk AV}{vs:yk γ}(h:Fm S w vs us)(k:∀w3,w.le w3->S v w3 a):Fm S w (vs++[v]) (us++a):=by
 induction h with
 |nil=>have:=Fm.cons (S:=S) (w:=w) k .nil; rwa[yX]at this
 |cons h r ih=>rw[zF]; exact .cons h ih
noncomputable def JD(p:γ->yx)(S:γ->Pin->yk AV->Prop)(v:γ)(w:Pin)(us:yk AV):Prop:=if p v=true then S v w us else us=[]
inductive T4{γ:Type}(S:γ->Pin->yk AV->Prop)(gv:γ->AV)(w1:Pin)(l:Str->yl AV)(i:Nat)(n:Nat)(us:yk AV)(O:St)(vs:yk γ)(r:yk AV)(O':St):Prop
 |mk (done rest:yk γ) (us':yk AV) (w2:Pin) (h0:vs=done++rest) (hr:r=rest.map gv) (h1:Ni i w1 O w2 O') (h2:Ll l O'.loc) (h3:O'.hp i=.list (us++us')) (h4:us'.length<=n*done.length) (h5:Fm S w2 done us'):T4 S gv w1 l i n us O vs r O'
theorem Em.loop{t:M yx}{em:M yu}{vs:yk γ}{gv:γ->AV}{p:γ->yx}{S:γ->Pin->yk AV->Prop}(hx:l x=none)(hi:It (vs.map gv) w it)(hl:vs.length<L)
  (ht:∀v,v∈vs->P w (ai l x (some (gv v))) t (Fl (p v))) (he:∀v,v∈vs->p v=true->Em w (ai l x (some (gv v))) i em n (S v)):Em w l i (aL L x t em it) (n*vs.length) (λw us=>Fm (JD p S) w vs us):=by
 intro w1 O us a b c d e f g;have hi1:It (vs.map gv) w1 it:=by cases hi with
  |Ip e=>exact .Ip e
  |seq e=>exact .seq e
  |IH i e o h k=>exact .IH i e o (a _ _ h) k
  |Tz i ver kvs e h=>exact .Tz i ver kvs e (a _ _ h)
 refine jv hi1 (by rw[yE]; exact hl) (T4 (JD p S) gv w1 l i n us O vs) (λr O' h9 j o q=>by obtain⟨_,_,_,w2,_,_,h,_,_,_,_⟩:=h9; exact h.at_ j o (h.le j o q)) (λv r O' h =>?_) (λO' h =>?_) ⟨[],vs,[],w1,rfl,rfl,⟨yF _,λZ Z Z=>rfl,.refl,b,λZ Z q=>.inl q⟩,c,by rw[yX]; exact f,zc _,.nil⟩
 ·refine(let QQ:=_; (?_:Ok _ _ QQ));obtain⟨done,rest,us',w2,h0,hr,h1,h2,h3,h4,h5⟩:=h;cases rest with
  |nil=>cases hr
  |cons v rest =>
  obtain⟨rfl,rfl⟩:=zL hr;have hv:v∈vs:=by rw[h0]; exact AE _ (yY ..)
  have hlen:done.length+1<=vs.length:=by rw[h0,yV]; exact zO (AR (zc _)) _
  refine(ht v hv w2 {O' with loc:=ai O'.loc x (some (gv v))} (a.trans h1.le) h1.at_ h2.upd).mono λc' σ1 h9 =>?_;obtain⟨w3,n3,q⟩:=h9;cases q w3 .refl;have lo:Ll (ai l x (some (gv v))) σ1.loc:=n3.grow.loc▸h2.upd;have lo2:Ll l σ1.loc:=n3.grow.loc▸h2.more hx;have ni:i<O'.nx:=yv e h1.nx;have N3:Ni i w2 {O' with loc:=ai O'.loc x (some (gv v))} w3 σ1:=⟨n3.grow.nx,λj x Z=>n3.grow.hp j x,n3.le,n3.at_,n3.fr⟩;have N2:Ni i w1 O w2 {O' with loc:=ai O'.loc x (some (gv v))}:=⟨h1.nx,h1.hp,h1.le,h1.at_,h1.fr⟩;have hh:σ1.hp i=.list (us++us'):=(n3.grow.hp i ni).trans h3;cases hp:p v with
  |false=>exact⟨done++[v],rest,us'++[],w3,by rw[h0,zF]; rfl,rfl,N2.trans N3,lo2,by rw[yX]; exact hh,by rw[yX,yV]; exact yn h4 (Af _ (yH _ _)),(h5.mono n3.le).snoc λZ Z=>by unfold JD; rw[hp,ym (by decide)]⟩
  |true =>
   refine(he v hv hp w3 σ1 (us++us') (a.trans (h1.le.trans n3.le)) n3.at_ lo ((N2.trans N3).not d e) (yv ni n3.grow.nx) hh ?_).mono λZ σ2 h9 =>?_
   ·have:n*(done.length+1)<=n*vs.length:=Af _ hlen;rw[Bg]at this; rw[yV]; exact yn (by rw[zH]; exact zO (yn (AG h4 _) this) _) g
   ·obtain⟨w4,ua,k1,k2,k3,k4,k5⟩:=h9;refine⟨done++[v],rest,us'++ua,w4,by rw[h0,zF]; rfl,rfl,(N2.trans N3).trans k1,λy u z =>?_,by rw[<-zF]; exact k3,?_,(h5.mono (n3.le.trans k1.le)).snoc λw5 z=>by unfold JD; rw[hp,yo rfl]; exact k5 w5 z⟩
    ·by_cases q:y=x
     ·subst q; rw[hx]at z; cases z
     ·exact k2 y u ((ym q).trans z)
    ·rw[yV,yV]; exact Bc h4 k4
 ·obtain⟨done,rest,us',w2,h0,hr,h1,h2,h3,h4,h5⟩:=h;have hr0:rest=[]:=by cases rest<;>first|rfl|cases hr
  subst hr0;rw[yX]at h0; subst h0;exact⟨w2,us',h1,h2,h3,h4,λw3 z=>h5.mono z⟩
theorem Em.clause{its:M aw}{g:aw->M yu}(hi:P w l its (It vs))(h:∀w' it,w.le w'->It vs w' it->Em w' l i (g it) n S):Em w l i (clause bd its g) n S:=λw1 O us a b c d e f k =>
 (hi w1 O a b c).mono λit σ1 h9=>by obtain⟨w2,n2,q⟩:=h9;have N:Ni i w1 O w2 σ1:=⟨n2.grow.nx,λj x Z=>n2.grow.hp j x,n2.le,n2.at_,n2.fr⟩;exact(h w2 it (a.trans n2.le) (q _ .refl) w2 σ1 us .refl n2.at_ (n2.grow.loc▸c) (N.not d e) (yv e n2.grow.nx) ((n2.grow.hp i e).trans f) k).mono λZ σ2 h9=>by obtain⟨w3,ua,x1,x2,x3,x4,x5⟩:=h9; exact⟨w3,ua,N.trans x1,x2,x3,x4,x5⟩
theorem mS{its:M aw}{g:St->Nat->aw->M yu}{fin:Nat->M yu}(hn:n<=HC)(hi:P w l its (It vs))
  (h:∀σ0 w' it i,Ll l σ0.loc->w.le w'->It vs w' it->Em w' (λZ=>none) i (g σ0 i it) n S) (a:w.le w1) (b:w1.at O) (c:Ll l O.loc) {Q:AV->St->Prop}
  (k:∀w2 σ2 i us,Nx w1 O w2 σ2->w2 i=none->O.nx<=i->i<σ2.nx->σ2.hp i=.list us->(∀w3,w2.le w3->S w3 us)->Ok (fin i) σ2 λZ σ3=>Q (.ref i) σ3):Ok (aO bd (.list []) fin its g) O Q :=
 (hi w1 O a b c).mono λit σ1 h9=>by
  obtain⟨w2,n2,q⟩:=h9;have no:w2 σ1.nx=none:=by
   cases e:w2 σ1.nx with
   |none=>rfl
   |some o=>exact yD (n2.at_ _ _ e).1 (zt _)
  have at2:∀l',w2.at ⟨l',upd σ1.hp σ1.nx (.list []),σ1.nx+1⟩:=λl' j o e=>⟨yZ (n2.at_ j o e).1,(ym (yA (n2.at_ j o e).1)).trans (n2.at_ j o e).2⟩;refine(h ⟨σ1.loc,upd σ1.hp σ1.nx (.list []),σ1.nx+1⟩ w2 it σ1.nx (n2.grow.loc▸c) (a.trans n2.le) (q _ .refl) w2 ⟨λZ=>none,upd σ1.hp σ1.nx (.list []),σ1.nx+1⟩ [] .refl (at2 _) (λZ Z e=>nomatch e) no (yK _) (yo rfl) (by rw[Dz,zM]; exact hn)).mono λZ σ2 h9 =>?_;obtain⟨w3,us,x1,Z2,x3,Z4,x5⟩:=h9;refine k w3 {σ2 with loc:=σ1.loc} σ1.nx us ⟨⟨n2.grow.loc,yn n2.grow.nx (zz x1.nx),λj hj =>?_⟩,n2.le.trans x1.le,x1.at_,λj o e =>?_⟩ (x1.not no (yK _)) n2.grow.nx x1.nx x3 x5
  ·have:=yv hj n2.grow.nx;exact(x1.hp j (yZ this) (yA this)).trans ((ym (yA this)).trans (n2.grow.hp j hj))
  ·rcases x1.fr j o e with q|q
   ·exact n2.fr j o q
   ·exact .inr (yn n2.grow.nx (zz q))
inductive Fz(vs:yk AV)(w:Pin)(v:AV):Prop
 |val (e:v=.lst vs):Fz vs w v
 |Ij (i:Nat) (e:v=.ref i) (h:w i=some (.frozen vs)):Fz vs w v
theorem Fz.li(h:Fz vs w v):Li vs w v:=by
 cases h with
 |val e=>exact .val e
 |Ij i e h=>exact .Ij i e h
theorem Fz.mono(h:Fz vs w v)(k:w.le w'):Fz vs w' v:=by
 cases h with
 |val e=>exact .val e
 |Ij i e h=>exact .Ij i e (k _ _ h)
theorem P.Qs{its:M aw}{g:St->Nat->aw->M yu}(hn:n<=HC)(hi:P w l its (It vs))
  (h:∀σ0 w' it i,Ll l σ0.loc->w.le w'->It vs w' it->Em w' (λZ=>none) i (g σ0 i it) n S):P w l (aO bd (.list []) bE its g) (λw u=>∃us,Fz us w u/\S w us):=λw1 O a b c =>
 mS hn hi h a b c λw2 σ2 i us x1 x2 x3 x4 x5 x6=>by
  refine⟨x4,us,x5,w2.add i (.frozen us),⟨⟨x1.grow.loc,x1.grow.nx,λj hj=>(ym (yA (yv hj x3))).trans (x1.grow.hp j hj)⟩,x1.le.trans (Pin.I0 x2),Pin.R2 x1.at_ x4,λj o e =>?_⟩,λw3 z=>⟨us,.Ij i rfl (z _ _ Pin.Io),x6 w3 ((Pin.I0 x2).trans z)⟩⟩;by_cases q:j=i
  ·exact .inr (q▸x3)
  ·exact x1.fr j o ((ym q).symm.trans e)
theorem P.comp{its:M aw}{g:St->Nat->aw->M yu}(hn:n<=HC)(hi:P w l its (It vs))
  (h:∀σ0 w' it i,Ll l σ0.loc->w.le w'->It vs w' it->Em w' (λZ=>none) i (g σ0 i it) n S):P w l (aO bd (.list []) bE its g) (λw u=>∃us,Li us w u/\S w us):=(P.Qs hn hi h).wk λw' u Z=>Bm λus a=>⟨a.1.li,a.2⟩
theorem Fm.fm{p:γ->yx}{f:γ->AV}{vs:yk γ}(h:Fm (JD p λv w us=>∃u,us=[u]/\Fl (f v) w u) w vs us):us=(vs.filter p).map f:=by
 induction h with
 |nil=>rfl
 |cons h r ih =>
  have:=h _ .refl;unfold JD at this;rw[ih,B4];split at this
  ·obtain⟨u,rfl,e⟩:=this;rw[yo (by assumption),e]; rfl
  ·rw[ym (by assumption),this]; rfl
theorem P.Tb{its:M aw}{t:St->M yx}{e:St->M AV}(gv:γ->AV){vs:yk γ}{p:γ->yx}{f:γ->AV}(hi:P w l its (It (vs.map gv)))(hl:vs.length<L)(hb:vs.length<=HC)
  (ht:∀σ0 w' v,Ll l σ0.loc->w.le w'->v∈vs->P w' (ai (λZ=>none) x (some (gv v))) (t σ0) (Fl (p v))) (he:∀σ0 w' v,Ll l σ0.loc->w.le w'->v∈vs->p v=true->P w' (ai (λZ=>none) x (some (gv v))) (e σ0) (Fl (f v))) :
  P w l (aO bd (.list []) bE its λσ0 i=>aL L x (t σ0) (aU (e σ0) i)) (Fz ((vs.filter p).map f)) :=
 (P.Qs (n:=1*vs.length) (by rw[DL]; exact hb) hi λσ0 w' it i c k h=>Em.loop rfl h hl (λv hv=>ht σ0 w' v c k hv) λv hv hp=>.one (he σ0 w' v c k hv hp)).wk λw' u Z h9=>by obtain⟨us,h1,h2⟩:=h9; exact h2.fm▸h1
theorem P.map{its:M aw}{t:St->M yx}{e:St->M AV}(gv:γ->AV){vs:yk γ}{p:γ->yx}{f:γ->AV}(hi:P w l its (It (vs.map gv)))(hl:vs.length<L)(hb:vs.length<=HC)
  (ht:∀σ0 w' v,Ll l σ0.loc->w.le w'->v∈vs->P w' (ai (λZ=>none) x (some (gv v))) (t σ0) (Fl (p v))) (he:∀σ0 w' v,Ll l σ0.loc->w.le w'->v∈vs->p v=true->P w' (ai (λZ=>none) x (some (gv v))) (e σ0) (Fl (f v))) :
  P w l (aO bd (.list []) bE its λσ0 i=>aL L x (t σ0) (aU (e σ0) i)) (Li ((vs.filter p).map f)):=(P.Tb gv hi hl hb ht he).wk λw' u Z h=>h.li
end
section
variable{l:Str->yl AV}
theorem Li.no(h:Li vs w v):v.HT=none/\v.Iy=none/\v.Iz=none:=by
 cases h with
 |val e=>subst e; exact⟨rfl,rfl,rfl⟩
 |IH i e h=>subst e; exact⟨rfl,rfl,rfl⟩
 |Ij i e h=>subst e; exact⟨rfl,rfl,rfl⟩
theorem B.len(h:Li vs w v)(a:w.at O)(b:vs.length<=HC):B (yd [v]) O (.int vs.length):=λQ q =>
 HS rfl (okN h.no.1 (okN h.no.2.1 (J1 (h.items a) (JR b q))))
theorem B.sortI(h:Li (is.map .int) w v)(a:w.at O)(b:is.length<64):B (fY [v]) O (.lst ((cz is).map .int)):=λQ q =>
 HS rfl (okN h.no.2.1 (J1 (h.items a) (IL (cw is) (JR b q))))
theorem B.SD{ss:yk Str}(h:Li (ss.map .str) w v)(a:w.at O)(b:ss.length<64)(n:ss≠[]):B (fY [v]) O (.lst ((aD ss).map .str)):=λQ q =>
 HS rfl (okN h.no.2.1 (J1 (h.items a) (okN (by cases ss with|nil=>exact yD rfl n|cons _ _=>rfl) (HS (iW ss) (JR b q)))))
theorem B.max{m:Int}(h:Li (is.map .int) w v)(a:w.at O)(b:ie is=some m):B (RW [v]) O (.int m):=λQ q=>by show yT (yJ (Bq λhp nx=>items? hp nx v) λvs=>yJ (zE (bz vs)) λis=>yJ (zE (ie is)) λm=>zu (.int m)) O Q;exact J1 (h.items a) (HS (cw is) (HS b q))
theorem B.sum(h:Li (is.map .int) w v)(a:w.at O):B (RV [v]) O (.int is.sum):=λQ q=>by show yT (yJ (Bq λhp nx=>items? hp nx v) λvs=>yJ (zE (bz vs)) λis=>zu (.int is.sum)) O Q;exact J1 (h.items a) (HS (cw is) q)
theorem B.bytes{os:yk yQ}(h:Li vs w v)(a:w.at O)(e:bS vs=some os)(b:vs.length<=HC):B (nj [v]) O (.bytes os.toArray):=λQ q=>by show yT (yJ (Bq λhp nx=>items? hp nx v) λvs=>yJ (zE (bS vs)) λos=>CA (vs.length<=HC) (.bytes os.toArray)) O Q;exact J1 (h.items a) (HS e (JR b q))
theorem B.list{i:Nat}(h:w i=some (.list vs))(a:w.at O)(b:vs.length<=HC):B (vO [.ref i]) O (.lst vs):=λQ q=>by show yT (yJ (CB i) λo=>yJ (zE o.H6) λvs=>CA (vs.length<=HC) (.lst vs)) O Q;refine IE (a i _ h).1 (HS (a:=vs) (by rw[(a i _ h).2]; rfl) (JR b q))
theorem P.a1{R:Pin->AV->Prop}(h:P w l a R):P w l (aj [a]) (λw vs=>∃v,vs=[v]/\R w v):=h.bind λw' v Z q=>P.ret λw3 z=>⟨v,rfl,q w3 z⟩
theorem P.nil:P w l (aj []) (Fl []):=P.r
theorem P.cons(ha:P w l a (Fl v))(hr:P w l (aj as) (Fl vs)):P w l (aj (a::as)) (Fl (v::vs)) :=
 ha.bind λw' v z q=>(hr.le z).bind λw2 vs Z q2=>by cases q w' .refl; cases q2 w2 .refl; exact P.r
theorem P.Ve{n:yL}{g:yk AV->AK AV}{R:Pin->AV->Prop}(hg:Pk.lookup n=some g)(h:P w l a R)(k:∀w1 v O,w.le w1->R w1 v->w1.at O->B (g [v]) O u):P w l (ay n (aj [a])) (Fl u) :=
 h.a1.bind λw' vs z q=>P.up λw1 O z1 at1 Q hq=>by obtain⟨v,rfl,r⟩:=q w1 z1;exact IL hg (k w1 v O (z.trans z1) r at1 Q hq)
theorem P.b1{n:yL}{g:yk AV->AK AV}{R:Pin->AV->Prop}(hg:Pk.lookup n=some g)(h:P w l a R)(k:∀w1 v O,R w1 v->w1.at O->B (g [v]) O u):P w l (ay n (aj [a])) (Fl u):=P.Ve hg h λw1 v O Z=>k w1 v O
theorem P.len(h:P w l a (Li vs))(b:vs.length<=HC):P w l (ay "len" (aj [a])) (Fl (.int vs.length)):=.b1 (by kernel_rfl) h λw1 v O r z=>B.len r z b
theorem P.sort(h:P w l a (Li (is.map .int)))(b:is.length<64):P w l (ay "sorted" (aj [a])) (Fl (.lst ((cz is).map .int))):=.b1 (by kernel_rfl) h λw1 v O r z=>B.sortI r z b
theorem P.max{m:Int}(h:P w l a (Li (is.map .int)))(b:ie is=some m):P w l (ay "max" (aj [a])) (Fl (.int m)):=.b1 (by kernel_rfl) h λw1 v O r z=>B.max r z b
theorem P.sum(h:P w l a (Li (is.map .int))):P w l (ay "sum" (aj [a])) (Fl (.int is.sum)):=.b1 (by kernel_rfl) h λw1 v O r z=>B.sum r z
theorem P.chr{i:Int}(h:P w l a (Fl (.int i)))(b:0<=i/\i<128):P w l (ay "chr" (aj [a])) (Fl (.str ⟨#[i.toNat]⟩)):=.b1 (g:=RX) (by kernel_rfl) h λw1 v O r z=>by cases r; exact λQ q=>HS rfl (HS rfl (JR b q))
theorem P.UE{b:yM yQ}(h:P w l a (Fl (.bytes b)))(k:b.size<=HC):P w l (ay "len" (aj [a])) (Fl (.int b.size)):=.b1 (g:=yd) (by kernel_rfl) h λw1 v O r z=>by cases r; intro Q q;exact(JR k q:yT (CA (b.size<=HC) (.int b.size)) O Q)
theorem P.idx{b:M AV}(ha:P w l a (Li vs))(hb:P w l b (Fl (.int k)))(e:IF vs k=some v):P w l (aB a b) (Fl v) :=
 P.two ha hb λw' x y Z hx hy=>by cases hy w' .refl;exact P.hp λw1 O z r=>by show(match AV.Iy x with|some vs=>IF vs k|none=>_)=_;rw[(hx w1 z).no.2.1];show(match AV.HT x with|some b=>_|none=>_)=_;rw[(hx w1 z).no.1];show(match items? O.hp O.nx x with|some vs=>IF vs k|none=>_)=_;rw[(hx w1 z).items r]; exact e
theorem P.key{b:M AV}{i:Nat}(ha:P w l a (Fl (.ref i)))(hb:P w l b (Fl (.int k)))(hi:w i=some (.dict kvs ver))(e:kvs.lookup k=some v):P w l (aB a b) (Fl v) :=
 P.two ha hb λw' x y z hx hy=>by cases hx w' .refl; cases hy w' .refl;exact P.hp λw1 O z1 r=>Gd.dict (r i _ (z1 _ _ (z _ _ hi))).1 (r i _ (z1 _ _ (z _ _ hi))).2 e
theorem P.opt(h:P w l a (Fl v)):P w l (gd a) (Fl (some v)):=h.bind λw' v Z q=>by cases q w' .refl; exact P.r
theorem P.neg{i:Int}(h:P w l a (Fl (.int i))):P w l (pR a) (Fl (.int (-i))):=h.bind λw' v Z q=>by cases q w' .refl; exact λw1 O x y z=>⟨i,rfl,w1,.refl y,λZ Z=>rfl⟩
theorem P.cut{o:M AV}{lo hi st:M (yl AV)}{R:Pin->AV->Prop}{a b c:yl AV}(h:P w l o R)(h1:P w l lo (Fl a))(h2:P w l hi (Fl b))(h3:P w l st (Fl c))
  (k:∀w1 v O,R w1 v->w1.at O->kP O.hp O.nx v a b c=some u):P w l (iL o lo hi st) (Fl u) :=
 h.bind λw1 v z q=>(h1.le z).bind λw2 a z2 q1=>(h2.le (z.trans z2)).bind λw3 b z3 q2=>(h3.le (z.trans (z2.trans z3))).bind λw4 c z4 q3=>by cases q1 w2 .refl; cases q2 w3 .refl; cases q3 w4 .refl;exact P.hp λw5 O z5 r=>k w5 v O (q w5 (z2.trans (z3.trans (z4.trans z5)))) r
theorem vJ(h:Li vs w v)(a:w.at O)(lo hi st:yl AV):kP O.hp O.nx v lo hi st=(me lo).bind λl=>(me hi).bind λh=>(me st).bind λs=>RQ vs l h s:=by unfold kP; rw[h.no.1,h.items a]; rfl
theorem P.take{o:M AV}{k:Nat}(h:P w l o (Li vs))(ha:P w l a (Fl (.int k)))(b:vs.length<=HC):P w l (iL o (M.ret none) (gd a) (M.ret none)) (Fl (.lst (vs.take k))) :=
 .cut h P.r ha.opt P.r λw1 v O r z=>(vJ r z ..).trans (by
  show(if(0:Int)<=k then(if vs.length<=HC then some (AV.lst (vs.take (k:Int).toNat))else none)else none)=_;rw[yo (zo k),yo b,zK])
theorem P.rev{o:M AV}(h:P w l o (Li vs))(b:vs.length<=HC):P w l (iL o (M.ret none) (M.ret none) (gd (pR (cst (.int 1))))) (Fl (.lst vs.reverse)) :=
 .cut h P.r P.r (P.opt (P.neg P.c)) λw1 v O r z=>(vJ r z ..).trans (yo b)
theorem P.Ia(h:P w l (aj as) (Fl vs))(b:vs.length<=HC):P w l (Ia as) (Fl (.lst vs)):=h.bind λw' v Z q=>by cases q w' .refl; exact λw1 O x y z=>⟨b,w1,.refl y,λZ Z=>rfl⟩
theorem P.or{a r:M yx}{x y:yx}(ha:P w l a (Fl x))(hr:x=false->P w l r (Fl y)):P w l (Ih a r) (Fl (x||y)):=ha.bind λw' v z q=>by
 cases q w' .refl;cases x with
 |true=>exact P.r
 |false=>exact(hr rfl).le z
theorem P.JW(h:P w l a (Li vs)):P w l (M.bind a ar) (It vs):=h.bind λw' v z q=>λw1 O x y c=>by
 have key:∀i o,w1 i=some o->o.items?=some vs->yT (Et (.ref i)) O (PO w1 O (It vs)):=λi o e k =>
  okN rfl (okN rfl (okN rfl (HS rfl (IE (y i o e).1 (IL (by rw[(y i o e).2]; exact k) ⟨w1,.refl y,λw3 z=>.IH i rfl o (z _ _ e) k⟩)))))
 cases q w1 x with
 |val e=>subst e; exact⟨w1,.refl y,λZ Z=>.seq rfl⟩
 |IH i e h=>subst e; exact key i _ h rfl
 |Ij i e h=>subst e; exact key i _ h rfl
theorem P.Vc{b:yM yQ}(h:P w l a (Fl (.bytes b))):P w l (M.bind a ar) (It (b.toList.map λx=>.int x.toNat)):=h.bind λw' v z q=>by cases q w' .refl; exact λw1 O x y c=>⟨w1,.refl y,λZ Z=>.seq rfl⟩
theorem P.Ip{a:M (yk AV)}{xs:yk AV}{i j:Int}(h:P w l a (Fl vs))(e:iZ vs=some (i,j,k))(r:d8 i j k=some xs):P w l (cp a) (It xs):=h.bind λw' v z q=>by cases q w' .refl; exact(P.o e).bind λw2 p z q=>by cases q w2 .refl; exact(P.o r).bind λw3 p z q=>by cases q w3 .refl; exact P.ret λZ Z=>.Ip rfl
theorem wl{a b:Int}(h1:-(2 ^ 60)<a)(h2:a<2 ^ 60)(h3:-(2 ^ 60)<b)(h4:b<2 ^ 60):d8 a b 1=some ((yB (b-a).toNat).map λ(k:Nat)=>AV.int (a+k)):=by unfold d8;rw[ym (by rw[y9 h1,y9 h2,y9 h3,y9 h4]; decide),yo rfl]
theorem qT{a:Int}(h1:-(2 ^ 60)<a)(h2:a<2 ^ 60)(h:n<=1000):d8 a (n:Int) 1=some ((yB ((n:Int)-a).toNat).map λ(k:Nat)=>AV.int (a+k)) :=
 wl h1 h2 (BV (by decide) (zo n)) (Eo (AA.mpr h) (by decide))
theorem wi(a:Nat)(ha:a<=1000):d8 0 (a:Int) 1=some ((yB a).map λ(k:Nat)=>AV.int (k:Int)):=by rw[qT (by decide) (by decide) ha];simp
theorem P.JQ(h:P w l a (Fl (.int n)))(b:n<=1000):P w l (cp (aj [a])) (It ((yB n).map λ(k:Nat)=>AV.int (k:Int))):=.Ip (.cons h .nil) rfl (wi n b)
theorem P.call{a:M (yk AV)}{R:Pin->AV->Prop}(h:P w l a (Fl vs))(k:∀w1 O,w.le w1->w1.at O->Ok (C fd vs []) O (PO w1 O R)):P w l (b8 C fd a) R:=λw1 O x y z =>
 (h w1 O x y z).mono λu σ1 h9=>by obtain⟨w2,n,q⟩:=h9;cases q w2 .refl;exact(k w2 σ1 (x.trans n.le) n.at_).mono λv σ2 h9=>by obtain⟨w3,n',q'⟩:=h9; exact⟨w3,n.trans n',q'⟩
theorem Sj{r:M ac}{R:Pin->AV->Prop}(h:P w l e R)(a:w.at O)(b:Ll l O.loc)(k:∀w' v O',Nx w O w' O'->(∀w3,w'.le w3->R w3 v)->Ok r {O' with loc:=ai O'.loc x (some v)} Q):Ok (af (aA e [an x]) r) O Q :=
 (h w O .refl a b).mono λv σ1 h9=>by obtain⟨w2,n,q⟩:=h9; exact k w2 v σ1 n q
theorem Sk{r:M ac}(h:P w l e (Fl v))(a:w.at O)(b:Ll l O.loc)(k:∀w' O',Nx w O w' O'->Ok r {O' with loc:=ai O'.loc x (some v)} Q):Ok (af (aA e [an x]) r) O Q :=
 Sj h a b λw' u O' n q=>by cases q w' .refl; exact k w' O' n
theorem stI{t:M yx}{a b r:M ac}{c:yx}(h:P w l t (Fl c))(ha:w.at O)(hb:Ll l O.loc)(k:∀w' O',Nx w O w' O'->if c=true then Ok (af a r) O' Q else Ok (af b r) O' Q):Ok (af (HX t a b) r) O Q :=
 (h w O .refl ha hb).mono λv σ1 h9=>by obtain⟨w2,n,q⟩:=h9;cases q w2 .refl;have:=k w2 σ1 n;cases c<;>exact this
theorem U4{r:M ac}{R:Pin->AV->Prop}(h:P w l e R)(a:w.at O)(b:Ll l O.loc)(k:∀w' v O',Nx w O w' O'->(∀w3,w'.le w3->R w3 v)->Q (.ret v) O'):Ok (af (bV e) r) O Q :=
 (h w O .refl a b).mono λv σ1 h9=>by obtain⟨w2,n,q⟩:=h9; exact k w2 v σ1 n q
end
structure SG where
 d:Nat
 n:Nat
 R:Int->Nat
 Q:Int->Nat
 keys:yk Int
 np:Int->Int
 su:Int->yk Int
 rd:AV
 po:Int
 fi:Int
noncomputable abbrev dA(G:SG):yk (Str×AV):=[(Sx "_node2info",.ref G.n),(Sx "_ready_nodes",G.rd),(Sx "_npassedout",.int G.po),(Sx "_nfinished",.int G.fi)]
noncomputable abbrev bY(G:SG):yk (Int×AV):=G.keys.map λk=>(k,AV.ref (G.R k))
set_option genInjectivity true in
structure Rep(O:St)(i:Nat)(G:SG):Prop where
 i_:i<O.nx
 ih:O.hp i=.inst G.d
 d_:G.d<O.nx
 dh:O.hp G.d=.attrs (dA G)
 n_:G.n<O.nx
 nh:∃ver,O.hp G.n=.dict (bY G) ver
 r_:∀k∈G.keys,G.R k<O.nx
 rh:∀k∈G.keys,∃dd,O.hp (G.R k)=.node dd (some (.int k)) (some (.int (G.np k))) (some (.ref (G.Q k)))
 q_:∀k∈G.keys,G.Q k<O.nx
 qh:∀k∈G.keys,O.hp (G.Q k)=.list ((G.su k).map .int)
 inj:∀k∈G.keys,∀k'∈G.keys,G.Q k=G.Q k'->k=k'
 nd:G.keys.Nodup
 clean:∀k,k∉G.keys->G.np k=0/\G.su k=[]
 QP:∀r,G.rd=.ref r->∀k∈G.keys,G.Q k≠r
noncomputable def fu(G:SG)(i j:Nat):Prop:=j=i\/j=G.d\/j=G.n\/∃k∈G.keys,j=G.R k\/j=G.Q k
variable{G:SG}
theorem Rep.frame{i:Nat}(h:Rep O i G)(hn:O.nx<=O'.nx)(hf:∀j,j<O.nx->fu G i j->O'.hp j=O.hp j):Rep O' i G:=by
 have lt:∀{j},j<O.nx->j<O'.nx:=λhj=>yv hj hn;refine⟨lt h.i_,?_,lt h.d_,?_,lt h.n_,?_,λk hk=>lt (h.r_ k hk),λk hk =>?_,λk hk=>lt (h.q_ k hk),λk hk =>?_,h.inj,h.nd,h.clean,h.QP⟩
 ·rw[hf i h.i_ (.inl rfl)]; exact h.ih
 ·rw[hf _ h.d_ (.inr (.inl rfl))]; exact h.dh
 ·rw[hf _ h.n_ (.inr (.inr (.inl rfl)))]; exact h.nh
 ·rw[hf _ (h.r_ k hk) (.inr (.inr (.inr ⟨k,hk,.inl rfl⟩)))]; exact h.rh k hk
 ·rw[hf _ (h.q_ k hk) (.inr (.inr (.inr ⟨k,hk,.inr rfl⟩)))]; exact h.qh k hk
theorem Rep.grow{i:Nat}(h:Rep O i G)(hg:kc O O'):Rep O' i G:=h.frame hg.nx λj hj Z=>hg.hp j hj
theorem Rep.loc{i:Nat}(h:Rep O i G)(l:Str->yl AV):Rep {O with loc:=l} i G:=⟨h.i_,h.ih,h.d_,h.dh,h.n_,h.nh,h.r_,h.rh,h.q_,h.qh,h.inj,h.nd,h.clean,h.QP⟩
theorem gH(R:Int->Nat)(k:Int):∀keys:yk Int,(keys.map λk=>(k,AV.ref (R k))).lookup k=if k∈keys then some (.ref (R k))else none
 |[]=>rfl
 |a::r=>by
  rw[za,zi];by_cases h:k=a
  ·subst h; simp
  ·rw[show(k==a)=false from by simpa using h,gH R k r];simp[h]
theorem tv(R:Int->Nat)(k:Int)(v:AV)(keys:yk Int)(h:k∉keys):stored (keys.map λk=>(k,AV.ref (R k))) k v=keys.map (λk=>(k,AV.ref (R k)))++[(k,v)]:=by unfold stored;rw[ym];simp only[EA,Ez,Function.comp,ze,not_exists,not_and];intro x hx e;exact h (e▸hx)
theorem Rep.Nc{i:Nat}(h:Rep O i G)(hk:k∈G.keys):G.R k≠G.n:=by intro e;obtain⟨dd,h1⟩:=h.rh k hk;obtain⟨ver,h2⟩:=h.nh;rw[e,h2]at h1; cases h1
theorem Rep.Ng{i:Nat}(h:Rep O i G)(hk:k∈G.keys):G.Q k≠G.n:=by intro e;have h1:=h.qh k hk;obtain⟨ver,h2⟩:=h.nh;rw[e,h2]at h1; cases h1
variable{k':Int}
theorem Rep.Nf{i:Nat}(h:Rep O i G)(hk:k∈G.keys)(hk':k'∈G.keys):G.R k≠G.Q k':=by intro e;obtain⟨dd,h1⟩:=h.rh k hk;have h2:=h.qh k' hk';rw[e,h2]at h1; cases h1
theorem Rep.Nd{i:Nat}(h:Rep O i G)(hk:k∈G.keys):G.R k≠G.d:=by intro e;obtain⟨dd,h1⟩:=h.rh k hk;have h2:=h.dh;rw[e,h2]at h1; cases h1
theorem Rep.Nj{i:Nat}(h:Rep O i G)(hk:k∈G.keys):G.Q k≠G.d:=by intro e;have h1:=h.qh k hk;have h2:=h.dh;rw[e,h2]at h1; cases h1
theorem Rep.R8{i:Nat}(h:Rep O i G)(hk:k∈G.keys):G.R k≠i:=by intro e;obtain⟨dd,h1⟩:=h.rh k hk;have h2:=h.ih;rw[e,h2]at h1; cases h1
theorem Rep.Sa{i:Nat}(h:Rep O i G)(hk:k∈G.keys):G.Q k≠i:=by intro e;have h1:=h.qh k hk;have h2:=h.ih;rw[e,h2]at h1; cases h1
theorem Rep.TQ{i:Nat}(h:Rep O i G)(hk:k∈G.keys)(hk':k'∈G.keys)(e:G.R k=G.R k'):k=k':=by obtain⟨dd,h1⟩:=h.rh k hk;obtain⟨dd',h2⟩:=h.rh k' hk';rw[e,h2]at h1;injection h1 with _ h3;injection h3 with h3;injection h3 with h3;exact h3.symm
theorem Rep.Rx{i:Nat}(h:Rep O i G):i≠G.n:=by intro e; obtain⟨ver,h2⟩:=h.nh; have:=h.ih; rw[e,h2]at this; cases this
theorem Rep.MI{i:Nat}(h:Rep O i G):G.d≠G.n:=by intro e; obtain⟨ver,h2⟩:=h.nh; have:=h.dh; rw[e,h2]at this; cases this
theorem Rep.Ry{i:Nat}(h:Rep O i G):i≠G.d:=by intro e; have:=h.ih; rw[e,h.dh]at this; cases this
noncomputable def bD(f:Int->Int)(k v:Int):Int->Int:=λx=>if x=k then v else f x
variable{dd:Nat}
theorem Rep.IU{i:Nat}(h:Rep O i G)(hk:k∈G.keys)(v:Int) :
  Rep {O with hp:=upd O.hp (G.R k) (.node dd (some (.int k)) (some (.int v)) (some (.ref (G.Q k))))} i {G with np:=bD G.np k v}:=by
 refine⟨h.i_,?_,h.d_,?_,h.n_,?_,h.r_,λk' hk' =>?_,h.q_,λk' hk' =>?_,h.inj,h.nd,λk' hk' =>?_,h.QP⟩
 ·show upd _ _ _ i=_; rw[bc,ym (h.R8 hk).symm]; exact h.ih
 ·show upd _ _ _ G.d=_; rw[bc,ym (h.Nd hk).symm]; exact h.dh
 ·obtain⟨ver,e⟩:=h.nh; exact⟨ver,by show upd _ _ _ G.n=_; rw[bc,ym (h.Nc hk).symm]; exact e⟩
 ·show ∃dd',upd _ _ _ (G.R k')=.node dd' _ (some (.int (bD G.np k v k'))) _;by_cases e:k'=k
  ·subst e; exact⟨dd,by rw[bc,yo rfl,bD,yo rfl]⟩
  ·obtain⟨dd',e'⟩:=h.rh k' hk';refine⟨dd',?_⟩;rw[bc,ym (λq=>e (h.TQ hk' hk q)),bD,ym e]; exact e'
 ·show upd _ _ _ (G.Q k')=_; rw[bc,ym (h.Nf hk hk').symm]; exact h.qh k' hk'
 ·show bD G.np k v k'=0/\_;rw[bD,ym (λe:k'=k=>hk' (e▸hk))]; exact h.clean k' hk'
noncomputable def hY(f:Int->yk Int)(k:Int)(v:yk Int):Int->yk Int:=λx=>if x=k then v else f x
theorem Rep.Kh{i:Nat}(h:Rep O i G)(hk:k∈G.keys)(v:yk Int) :
  Rep {O with hp:=upd O.hp (G.Q k) (.list (v.map .int))} i {G with su:=hY G.su k v}:=by
 refine⟨h.i_,?_,h.d_,?_,h.n_,?_,h.r_,λk' hk' =>?_,h.q_,λk' hk' =>?_,h.inj,h.nd,λk' hk' =>?_,h.QP⟩
 ·show upd _ _ _ i=_; rw[bc,ym (h.Sa hk).symm]; exact h.ih
 ·show upd _ _ _ G.d=_; rw[bc,ym (h.Nj hk).symm]; exact h.dh
 ·obtain⟨ver,e⟩:=h.nh; exact⟨ver,by show upd _ _ _ G.n=_; rw[bc,ym (h.Ng hk).symm]; exact e⟩
 ·obtain⟨dd',e'⟩:=h.rh k' hk';exact⟨dd',by show upd _ _ _ (G.R k')=_; rw[bc,ym (h.Nf hk' hk)]; exact e'⟩
 ·show upd _ _ _ (G.Q k')=.list ((hY G.su k v k').map .int);by_cases e:k'=k
  ·subst e; rw[bc,yo rfl,hY,yo rfl]
  ·rw[bc,ym (λq=>e (h.inj k' hk' k hk q)),hY,ym e]; exact h.qh k' hk'
 ·show _/\hY G.su k v k'=[];rw[hY,ym (λe:k'=k=>hk' (e▸hk))]; exact h.clean k' hk'
variable{p:Int}
section
variable{i:Nat}{o x:M AV}
theorem V.rd(R:Rep O i G)(ho:V o O (.ref i))(e:G.rd=v):V (aW o (Sx "_ready_nodes")) O v:=V.at ho (B.inst R.i_ R.d_ R.ih R.dh (by kernel_rfl) (by rw[<-e]; exact LK (by kernel_rfl) LK0))
theorem V.n2(R:Rep O i G)(ho:V o O (.ref i)):V (aW o (Sx "_node2info")) O (.ref G.n):=V.at ho (B.inst R.i_ R.d_ R.ih R.dh (by kernel_rfl) LK0)
theorem V.po(R:Rep O i G)(ho:V o O (.ref i)):V (aW o (Sx "_npassedout")) O (.int G.po):=V.at ho (B.inst R.i_ R.d_ R.ih R.dh (by kernel_rfl) (LK (by kernel_rfl) (LK (by kernel_rfl) LK0)))
theorem V.fi(R:Rep O i G)(ho:V o O (.ref i)):V (aW o (Sx "_nfinished")) O (.int G.fi):=V.at ho (B.inst R.i_ R.d_ R.ih R.dh (by kernel_rfl) (LK (by kernel_rfl) (LK (by kernel_rfl) (LK (by kernel_rfl) LK0))))
theorem V.np(R:Rep O i G)(hk:p∈G.keys)(ho:V o O (.ref (G.R p))):V (aW o (Sx "npredecessors")) O (.int (G.np p)):=by obtain⟨d,h⟩:=R.rh p hk; exact V.at ho (B.nP (R.r_ p hk) h rfl)
theorem V.su(R:Rep O i G)(hk:p∈G.keys)(ho:V o O (.ref (G.R p))):V (aW o (Sx "successors")) O (.ref (G.Q p)):=by obtain⟨d,h⟩:=R.rh p hk; exact V.at ho (B.nS (R.r_ p hk) h rfl)
theorem qc(hk:p∈G.keys):(bY G).lookup p=some (.ref (G.R p)):=(gH G.R p G.keys).trans (yo hk)
theorem OK(hk:p∉G.keys):(bY G).lookup p=none:=(gH G.R p G.keys).trans (ym hk)
theorem V.info(R:Rep O i G)(hk:p∈G.keys)(ho:V o O (.ref G.n))(hx:V x O (.int p)):V (aB o x) O (.ref (G.R p)):=by obtain⟨ver,h⟩:=R.nh; exact V.idx ho hx (Gd.dict R.n_ h (qc hk))
theorem V.To(R:Rep O i G)(hk:p∈G.keys)(ho:V o O (.ref G.n))(hx:V x O (.int p)):V (aI C o (Sx "get") A (bw "get" (aj [x]))) O (.ref (G.R p)):=by obtain⟨ver,h⟩:=R.nh; exact V.Tp ho hx R.n_ h (by rw[qc hk]; rfl)
theorem V.Tn(R:Rep O i G)(hk:p∉G.keys)(ho:V o O (.ref G.n))(hx:V x O (.int p)):V (aI C o (Sx "get") A (bw "get" (aj [x]))) O .none:=by obtain⟨ver,h⟩:=R.nh; exact V.Tp ho hx R.n_ h (by rw[OK hk]; rfl)
theorem V.ih(hj:j<O.nx)(h:O.hp j=.list vs)(ho:V o O (.ref j)):V (M.bind o ar) O (.HY j):=V.its ho λQ k=>wT hj h k
theorem V.UH(hj:j<O.nx)(h:O.hp j=.dict kvs ver)(ho:V o O (.ref j)):V (M.bind o ar) O (.H7 j ver (kvs.map λp=>.int p.1)):=V.its ho λQ k=>wU hj h k
theorem U6{g:M AV}{l:Str->yl AV}{a b r:M ac}(hg:V g ⟨l,h,n⟩ (.ref j))(k:Ok (af b r) ⟨ai l y (some (.ref j)),h,n⟩ Q):Ok (af (HX (aG .Is (pS y g) (cst .none)) a b) r) ⟨l,h,n⟩ Q:=hg _ (.mk false rfl k)
theorem Up{g:M AV}{l:Str->yl AV}{a b r:M ac}(hg:V g ⟨l,h,n⟩ .none)(k:Ok (af a r) ⟨ai l y (some .none),h,n⟩ Q):Ok (af (HX (aG .Is (pS y g) (cst .none)) a b) r) ⟨l,h,n⟩ Q:=hg _ (.mk true rfl k)
theorem sL  {its:M aw}{body r:M ac}{v:aw}(hi:V its O v)(k:Ok (cy LL v λv=>M.bind (an y v) λZ=>body) O (iu r Q)):Ok (af (gP LL y its body) r) O Q:=hi _ k
theorem L5{hp:Nat->AO}:AB hp nx .Is (.ref j) .none=some false:=rfl
theorem Lg{hp:Nat->AO}:AB hp nx .IsNot .none .none=some false:=rfl
noncomputable def U8(x:Str)(r:M ac)(Q:ac->St->Prop)(v:AV)(σ1:St):Prop:=Ok r ⟨ai σ1.loc x (some v),σ1.hp,σ1.nx⟩ Q
theorem sG{r:M ac}(h:Ok e O (U8 y r Q)):Ok (af (aA e [an y]) r) O Q:=h
end
variable{ts:yk (AV->M yu)}
section
variable{l:Str->yl AV}{i:Nat}{o:M AV}{x y:yl AV}{r:M ac}
theorem Vr(he:V e ⟨l,h,n⟩ v)(ho:V o ⟨l,h,n⟩ (.ref i))(hi:i<n)(h1:h i=.node d x y z)(k:Ok r ⟨l,upd h i (.node d (some v) y z),n⟩ Q):Ok (af (aA e [bo o (Sx "node")]) r) ⟨l,h,n⟩ Q:=he _ (ho _ (cI hi h1 (.inl ⟨rfl,k⟩)))
theorem Vq(he:V e ⟨l,h,n⟩ v)(ho:V o ⟨l,h,n⟩ (.ref i))(hi:i<n)(h1:h i=.node d x y z)(k:Ok r ⟨l,upd h i (.node d x (some v) z),n⟩ Q):Ok (af (aA e [bo o (Sx "npredecessors")]) r) ⟨l,h,n⟩ Q:=he _ (ho _ (cI hi h1 (.inr (.inl ⟨rfl,k⟩))))
theorem Vp{b:AO}(ho:V o ⟨l,upd h n b,n+1⟩ (.ref i))(hi:i<n+1)(h1:upd h n b i=.node d x y z)(k:Ok r ⟨l,upd (upd h n b) i (.node d x y (some (.ref n))),n+1⟩ Q):Ok (af (aA (bO b) [bo o (Sx "successors")]) r) ⟨l,h,n⟩ Q:=ho _ (cI hi h1 (.inr (.inr ⟨rfl,k⟩)))
theorem tI{c:Int}{P:yu->St->Prop}{g:M AV}(ho:V o ⟨l,h,n⟩ (.ref j))(hg:V g ⟨l,h,n⟩ (.int c))(hj:j<n)(hh:h j=.dict kvs ver)(hb:kvs.length<=HC)(k:Ok (j7 ts v) ⟨l,upd h j (.dict (stored kvs c v) (ver+1)),n⟩ P):Ok (j7 (b3 o g::ts) v) ⟨l,h,n⟩ P:=ho _ (hg _ (mi hj hh hb k))
theorem tL{u:Str}{P:yu->St->Prop}(k:Ok (j7 ts v) ⟨ai l u (some v),h,n⟩ P):Ok (j7 (an u::ts) v) ⟨l,h,n⟩ P:=k
theorem tN{P:yu->St->Prop}(k:P () O):Ok (j7 [] v) O P:=k
theorem kS{u:Str}(k:Ok r ⟨ai l u (some v),h,n⟩ Q):U8 u r Q v ⟨l,h,n⟩:=k
end
theorem tV(hD:1<=D){l:Str->yl AV}{i:Nat}(hi:i<n)(h1:h i=.node d none none none){Q:AV->St->Prop}
  (hQ:∀h',h' i=.node d (some (.int k)) (some (.int 0)) (some (.ref n))->h' n=.list []->(∀j,j<n->j≠i->h' j=h j)->Q .none ⟨l,h',n+1⟩) :
  Ok (aJ T2 LL 40 D Ln [.ref i,.int k] []) ⟨l,h,n⟩ Q:=by
 obtain⟨dd,rfl⟩:=ge (yn (by decide) hD);have hb:aM Ln [.ref i,.int k] []=some [(Sx "self",.ref i),(Sx "node",.int k)]:=by kernel_rfl
 refine bA hb (pD _) ?_;clear hb;unfold ou;refine Vr (by repeat' infer_instance) (by repeat' infer_instance) hi h1 (Vq V.c (by repeat' infer_instance) hi (yo rfl) (Vp (by repeat' infer_instance) (yZ hi) ((ym (yA hi)).trans (yo rfl)) (sE ?_)));refine hQ _ (yo rfl) ((ym (zk hi)).trans (yo rfl)) λj hj hji=>(ym hji).trans ((ym (yA hj)).trans ((ym hji).trans (ym hji)))
theorem Uq(hD:1<=D){l:Str->yl AV}{a:M (yk AV)}{r:M ac}(ha:V a ⟨l,h,n⟩ [.int k])
  (c:∀h',h' (n+1)=.node n (some (.int k)) (some (.int 0)) (some (.ref (n+2)))->h' (n+2)=.list []->(∀j,j<n->h' j=h j)->Ok (j7 ts (.ref (n+1))) ⟨l,h',n+3⟩ λZ σ2=>Ok r σ2 Q):Ok (af (aA (LA (aJ T2 LL 40 D) a) ts) r) ⟨l,h,n⟩ Q :=
 ha _ (tV hD (yK _) (yo rfl) λh' w1 w2 w3=>⟨rfl,c h' w1 w2 λj hj=>(w3 j (y0 hj (y0 (yK _) (yK _))) (yA (y0 hj (yK _)))).trans ((ym (yA (y0 hj (yK _)))).trans (ym (yA hj)))⟩)
noncomputable def jy(keys:yk Int)(k:Int):yk Int:=if k∈keys then keys else keys++[k]
theorem rx(keys:yk Int)(k x:Int):x∈jy keys k↔x∈keys\/x=k:=by
 unfold jy; split
 ·constructor
  ·exact .inl
  ·rintro(h|rfl)<;>assumption
 ·simp
structure bU(O:St)(i:Nat)(G:SG)(O':St)(G':SG):Prop where
 rep:Rep O' i G'
 nx:O.nx<=O'.nx
 hp:∀j,j<O.nx->¬fu G i j->O'.hp j=O.hp j
 d:G'.d=G.d
 n:G'.n=G.n
 rd:G'.rd=G.rd
 po:G'.po=G.po
 fi:G'.fi=G.fi
 foot:∀j,fu G' i j->fu G i j\/O.nx<=j
set_option tactic.hygienic true in
theorem bU.Ow{i:Nat}(h:Rep O i G)(hrd:G.rd=.none)(hk:k∉G.keys){hp:Nat->AO}(w1:hp G.n=.dict (bY G++[(k,.ref (O.nx+1))]) ver)(w2:hp (O.nx+1)=.node O.nx (some (.int k)) (some (.int 0)) (some (.ref (O.nx+2))))(w3:hp (O.nx+2)=.list [])(old:∀j,j<O.nx->j≠G.n->hp j=O.hp j) :
  bU O i G ⟨O.loc,hp,O.nx+3⟩ {G with keys:=G.keys++[k],R:=λx=>if x=k then O.nx+1 else G.R x,Q:=λx=>if x=k then O.nx+2 else G.Q x}:=by
 have hne:∀x,x∈G.keys->x≠k:=λx hx e=>hk (e▸hx);have hc:=h.clean k hk;refine⟨⟨zV 3 h.i_,?_,zV 3 h.d_,?_,zV 3 h.n_,⟨ver,?_⟩,λx hx =>?_,λx hx =>?_,λx hx =>?_,λx hx =>?_,λx hx y hy e =>?_,?_,λx hx =>?_,λr hr x hx =>?_⟩,yH _ 3,λj hj hf =>?_,rfl,rfl,rfl,rfl,rfl,λj hj =>?_⟩
 ·exact(old i h.i_ h.Rx).trans h.ih
 ·exact(old _ h.d_ h.MI).trans h.dh
 ·refine w1.trans ?_;have e1:bY {G with keys:=G.keys++[k],R:=λx=>if x=k then O.nx+1 else G.R x,Q:=λx=>if x=k then O.nx+2 else G.Q x}=bY G++[(k,.ref (O.nx+1))]:=by
   show(G.keys++[k]).map (λx=>(x,AV.ref (if x=k then O.nx+1 else G.R x)))=_;rw[yN];congr 1
   ·exact Aj λx hx=>by rw[ym (hne x hx)]
   ·simp
  rw[e1]
 ·simp only[y3,zf]at hx;show(if x=k then O.nx+1 else G.R x)<O.nx+3;split
  ·lia
  ·rename_i e; have:=h.r_ x (hx.resolve_right e); lia
 ·simp only[y3,zf]at hx;by_cases e:x=k
  ·subst e;refine⟨O.nx,?_⟩;simp only[AW];rw[hc.1]; exact w2
  ·have hx':=hx.resolve_right e;obtain⟨dd',e'⟩:=h.rh x hx';refine⟨dd',?_⟩;simp only[ym e];exact(old _ (h.r_ x hx') (h.Nc hx')).trans e'
 ·simp only[y3,zf]at hx;show(if x=k then O.nx+2 else G.Q x)<O.nx+3;split
  ·lia
  ·rename_i e; have:=h.q_ x (hx.resolve_right e); lia
 ·simp only[y3,zf]at hx;by_cases e:x=k
  ·subst e;simp only[AW];rw[hc.2]; exact w3
  ·have hx':=hx.resolve_right e;simp only[ym e];exact(old _ (h.q_ x hx') (h.Ng hx')).trans (h.qh x hx')
 ·simp only[y3,zf]at hx hy;dsimp only at e;by_cases ex:x=k
  ·by_cases ey:y=k
   ·rw[ex,ey]
   ·rw[yo ex,ym ey]at e;have:=h.q_ y (hy.resolve_right ey); lia
  ·by_cases ey:y=k
   ·rw[ym ex,yo ey]at e;have:=h.q_ x (hx.resolve_right ex); lia
   ·rw[ym ex,ym ey]at e;exact h.inj x (hx.resolve_right ex) y (hy.resolve_right ey) e
 ·show(G.keys++[k]).Nodup;rw[z6];exact⟨h.nd,by simp,λa ha b hb=>by simp at hb; subst hb; exact hne a ha⟩
 ·simp only[y3,zf,not_or]at hx;exact h.clean x hx.1
 ·simp only[y3,zf]at hx;exact yD (hrd.symm.trans hr) (by simp)
 ·exact old j hj λe=>hf (.inr (.inr (.inl e)))
 ·rcases hj with rfl|rfl|rfl|⟨x,hx,hj⟩
  ·exact .inl (.inl rfl)
  ·exact .inl (.inr (.inl rfl))
  ·exact .inl (.inr (.inr (.inl rfl)))
  ·simp only[y3,zf]at hx;by_cases e:x=k
   ·subst e;simp only[AW]at hj;right; rcases hj with rfl|rfl<;>lia
   ·have hx':=hx.resolve_right e;simp only[ym e]at hj;exact .inl (.inr (.inr (.inr ⟨x,hx',hj⟩)))
theorem gb(hD:2<=D){l:Str->yl AV}{hp:Nat->AO}{i:Nat}(h:Rep ⟨l,hp,n⟩ i G)(hrd:G.rd=.none)(hlen:G.keys.length<=1000)(k:Int){Q:AV->St->Prop}
  (hQ:∀h' n' G',bU ⟨l,hp,n⟩ i G ⟨l,h',n'⟩ G'->G'.keys=jy G.keys k->G'.np=G.np->G'.su=G.su->Q (.ref (G'.R k)) ⟨l,h',n'⟩) :
  Ok (aJ T2 LL 40 D (bH (Sx "_get_nodeinfo")) [.ref i,.int k] []) ⟨l,hp,n⟩ Q:=by
 obtain⟨dd,rfl⟩:=ge (yn (by decide) hD);have hb:aM (bH (Sx "_get_nodeinfo")) [.ref i,.int k] []=some [(Sx "self",.ref i),(Sx "node",.int k)]:=by kernel_rfl
 refine bA hb (gE _) ?_;clear hb;unfold eI;have R:=h.loc λx=>[(Sx "self",AV.ref i),(Sx "node",AV.int k)].lookup x;refine(let QQ:=_; (?_:Ok _ _ QQ));by_cases hk:k∈G.keys
 ·refine(let QQ:=_; (?_:Ok _ _ QQ));refine U6 (V.To R hk (V.n2 R (by repeat' infer_instance)) (by repeat' infer_instance)) (sN (sR (by repeat' infer_instance) ?_));exact hQ hp n G ⟨h,yF _,λZ Z Z=>rfl,rfl,rfl,rfl,rfl,rfl,λj hj=>.inl hj⟩ (yo hk).symm rfl rfl
 ·obtain⟨ver,hver⟩:=h.nh;refine Up (V.Tn R hk (V.n2 R (by repeat' infer_instance)) (by repeat' infer_instance)) (sS (Uq (by lia) (by repeat' infer_instance) λh' w1 w2 w3 =>?_));have gn:G.n<n+3:=yv h.n_ (yH _ _);refine tI (V.n2 (h.frame (O':=⟨_,h',n+3⟩) (yH _ _) λj hj Z=>w3 j hj) (by repeat' infer_instance)) (by repeat' infer_instance) gn ((w3 _ h.n_).trans hver) (by rw[yE]; exact yn hlen (by decide)) (tL (tN (sN (sR (by repeat' infer_instance) ?_))));have e:=hQ _ _ _ (bU.Ow h hrd hk (hp:=upd h' G.n (.dict (stored (bY G) k (.ref (n+1))) (ver+1))) ((yo rfl).trans (by rw[tv _ _ _ _ hk])) ((ym (zk (yZ h.n_))).trans w1) ((ym (zk (yZ (yZ h.n_)))).trans w2) λj hj hn=>(ym hn).trans (w3 j hj)) (ym hk).symm rfl rfl;simp only[AW]at e;exact e
theorem bU.trans{i:Nat}{G1 G2:SG}(a:bU O i G σ1 G1)(b:bU σ1 i G1 σ2 G2):bU O i G σ2 G2:=by
 refine⟨b.rep,yn a.nx b.nx,λj hj hf =>?_,b.d.trans a.d,b.n.trans a.n,b.rd.trans a.rd,b.po.trans a.po,b.fi.trans a.fi,λj hj =>?_⟩
 ·rw[b.hp j (yv hj a.nx) (λh =>?_),a.hp j hj hf];rcases a.foot j h with h|h
  ·exact hf h
  ·lia
 ·rcases b.foot j hj with h|h
  ·exact a.foot j h
  ·exact .inr (yn a.nx h)
theorem bU.refl{i:Nat}(h:Rep O i G):bU O i G O G:=⟨h,yF _,λZ Z Z=>rfl,rfl,rfl,rfl,rfl,rfl,λj hj=>.inl hj⟩
theorem bU.locs{i:Nat}{G':SG}(a:bU O i G O' G')(l l':Str->yl AV):bU {O with loc:=l} i G {O' with loc:=l'} G':=⟨a.rep.loc l',a.nx,a.hp,a.d,a.n,a.rd,a.po,a.fi,a.foot⟩
theorem bU.IU{i:Nat}(h:Rep O i G)(hk:k∈G.keys)(v:Int) :
  bU O i G {O with hp:=upd O.hp (G.R k) (.node dd (some (.int k)) (some (.int v)) (some (.ref (G.Q k))))} {G with np:=bD G.np k v} :=
 ⟨h.IU hk v,yF _,λj hj hf=>by
  show upd _ _ _ j=_;rw[bc,ym (λe=>hf (.inr (.inr (.inr ⟨k,hk,.inl e⟩))))],rfl,rfl,rfl,rfl,rfl,λj hj=>.inl hj⟩
theorem bU.Kh{i:Nat}(h:Rep O i G)(hk:k∈G.keys)(v:yk Int) :
  bU O i G {O with hp:=upd O.hp (G.Q k) (.list (v.map .int))} {G with su:=hY G.su k v} :=
 ⟨h.Kh hk v,yF _,λj hj hf=>by
  show upd _ _ _ j=_;rw[bc,ym (λe=>hf (.inr (.inr (.inr ⟨k,hk,.inr e⟩))))],rfl,rfl,rfl,rfl,rfl,λj hj=>.inl hj⟩
noncomputable def jL(keys:yk Int)(node:Int)(preds:yk Int):yk Int:=preds.foldl jy (jy keys node)
noncomputable def pe(su:Int->yk Int)(node:Int)(preds:yk Int):Int->yk Int:=preds.foldl (λsu p=>hY su p (su p++[node])) su
theorem rK(keys:yk Int)(k:Int):(jy keys k).length<=keys.length+1:=by unfold jy; split<;>simp
theorem kI(node:Int):∀(preds keys:yk Int),(preds.foldl jy keys).length<=keys.length+preds.length
 |[]=>λkeys=>by simp
 |p::r=>λkeys=>by have:=kI node r (jy keys p);have h2:=rK keys p;simp only[Aw,Ax]; lia
set_option tactic.hygienic true in
theorem pd(node:Int):∀(preds:yk Int) (su:Int->yk Int) (k:Int),(pe su node preds k).length<=(su k).length+preds.length
 |[]=>λsu k=>by simp[pe]
 |p::r=>λsu k=>by
  have:=pd node r (hY su p (su p++[node])) k;show(pe (hY su p (su p++[node])) node r k).length<=_;have hl:(hY su p (su p++[node]) k).length<=(su k).length+1:=by
   unfold hY; split
   ·rename_i e; subst e; exact zj yV
   ·exact Am _
  exact yn this (yn (AG hl _) (zj (Bd _ 1 _)))
theorem kA:T2.meths (Sx "_get_nodeinfo")=some (bH (Sx "_get_nodeinfo")):=by kernel_rfl
variable{rest:M ac}
section
variable{l:Str->yl AV}{i:Nat}{v:Int}
theorem NU{o:M AV}{j:Int}(R:Rep ⟨l,h,n⟩ i G)(hk:p∈G.keys)(ho:V o ⟨l,h,n⟩ (.ref (G.R p)))(he:V e ⟨l,h,n⟩ (.int j))(hc:ba op (G.np p) j=some v)(hop:(op==.Add||op==.Sub)=true)(k:∀h',bU ⟨l,h,n⟩ i G ⟨l,h',n⟩ {G with np:=bD G.np p v}->Ok rest ⟨l,h',n⟩ Q) :
  Ok (af (sJ o (Sx "npredecessors") op e) rest) ⟨l,h,n⟩ Q:=by
 obtain⟨d,hn⟩:=R.rh p hk;exact ho _ (cP (R.r_ p hk) hn (.inr (.inl ⟨rfl,rfl⟩)) (he _ ⟨G.np p,j,v,rfl,rfl,hc,hop,cI (R.r_ p hk) hn (.inr (.inl ⟨rfl,k _ (bU.IU R hk v)⟩))⟩))
theorem SN{o:M AV}(R:Rep ⟨l,h,n⟩ i G)(hk:p∈G.keys)(ho:V o ⟨l,h,n⟩ (.ref (G.Q p)))(ha:V a ⟨l,h,n⟩ (.int v))(hb:(G.su p).length<HC)(k:∀h',bU ⟨l,h,n⟩ i G ⟨l,h',n⟩ {G with su:=hY G.su p (G.su p++[v])}->Ok rest ⟨l,h',n⟩ Q) :
  Ok (af (a7 (aI C o (Sx "append") A (bw "append" (aj [a])))) rest) ⟨l,h,n⟩ Q:=by
 refine PY ho ha (R.q_ p hk) (R.qh p hk) (by rw[yE]; exact hb) (k _ ?_);have e:=bU.Kh R hk (G.su p++[v]);rw[yN]at e; exact e
end
inductive Nq(O:St)(i:Nat)(G:SG)(node:Int)(preds:yk Int)(r:yk AV)(O':St):Prop
 |mk (done:_) (rest:_) (G':_) (u0:preds=done++rest) (u1:r=rest.map .int) (u2:bU O i G ⟨O.loc,O'.hp,O'.nx⟩ G') (u3:O'.loc (Sx "self")=some (.ref i)) (u4:O'.loc (Sx "node")=some (.int node)) (u5:G'.keys=jL G.keys node done) (u6:G'.np=bD G.np node (G.np node+preds.length)) (u7:G'.su=pe G.su node done)
theorem K9(hD:3<=D){i:Nat}(h:Rep O i G)(hrd:G.rd=.none)(node:Int)(preds:yk Int)(hlen:G.keys.length+preds.length<=900)(hsl:∀k,(G.su k).length+preds.length<=900){Q:AV->St->Prop}
  (hQ:∀O' G',bU O i G O' G'->O'.loc=O.loc->G'.keys=jL G.keys node preds->G'.np=bD G.np node (G.np node+preds.length)->G'.su=pe G.su node preds->Q .none O')
  (hbd:aM (bH (Sx "add")) (.ref i::.int node::preds.map .int) []=some [(Sx "self",.ref i),(Sx "node",.int node),(Sx "predecessors",.tup (preds.map .int))]) :
  Ok (aJ T2 LL 40 D (bH (Sx "add")) (.ref i::.int node::preds.map .int) []) O Q:=by
 obtain⟨dd,rfl⟩:=ge (yn (by decide) hD);refine bA hbd (qW _) ?_;clear hbd;unfold qX;have R:=h.loc λx=>[(Sx "self",AV.ref i),(Sx "node",.int node),(Sx "predecessors",.tup (preds.map .int))].lookup x;refine sF (V.cmp (V.rd R (by repeat' infer_instance) hrd) V.c Lg) (sN ?_);refine sG (sU kA (by repeat' infer_instance) R.i_ R.d_ R.ih R.dh rfl (by repeat' infer_instance) (gb (by lia) R hrd (by lia) node λh1 n1 G1 a1 k1 np1 su1=>kS ?_));have hk1:node∈G1.keys:=by rw[k1,rx]; exact .inr rfl
 have hpl:(preds.map AV.int).length<=HC:=by rw[yE]; unfold HC; lia
 refine NU (a1.rep.loc _) hk1 (by repeat' infer_instance) (V.b (by repeat' infer_instance) (B.Tf hpl)) I.add rfl λh2 a2 =>?_;refine sL (V.its (by repeat' infer_instance) B.Rt) ?_;show Ok (bt (M.ret ()) _ _) _ _;refine br (Nq O i G node preds)
  (λv r O' hI =>?_) (λO' hI =>?_) _ _ ⟨[],preds,_,rfl,rfl,(a1.locs O.loc O.loc).trans (a2.locs O.loc O.loc),by repeat' infer_instance,by repeat' infer_instance,k1,?_,su1⟩
 ·refine(let QQ:=_; (?_:Ok _ _ QQ));obtain⟨done,rest,G',e1,e2,a3,q1,q2,q3,q4,q5⟩:=hI;cases rest with
  |nil=>simp at e2
  |cons p rest =>
   simp only[za,AM]at e2;obtain⟨rfl,rfl⟩:=e2;have hdl:done.length+rest.length+1=preds.length:=by rw[e1]; simp; lia
   have hkl:=kI node done (jy G.keys node);have hkl2:=rK G.keys node;have R3:=a3.rep.loc (ai O'.loc (Sx "pred") (some (.int p)));refine bL ?_;unfold km;refine sG (sU kA (by repeat' infer_instance) R3.i_ R3.d_ R3.ih R3.dh rfl (by repeat' infer_instance) (gb (by lia) R3 (a3.rd.trans hrd) (by rw[q3]; unfold jL; lia) p λh4 n4 G4 a4 k4 np4 su4=>kS ?_));have hk4:p∈G4.keys:=by rw[k4,rx]; exact .inr rfl
   have hslen:=pd node done G.su p;have hsl':=hsl p;refine SN (v:=node) (a4.rep.loc _) hk4 (V.su (a4.rep.loc _) hk4 (by repeat' infer_instance)) (by repeat' infer_instance) (by rw[su4,q5]; unfold HC; lia) λh5 a5=>sE ?_;refine⟨done++[p],rest,_,by simp[e1],rfl,a3.trans ((a4.locs O.loc O.loc).trans (a5.locs O.loc O.loc)),by repeat' infer_instance,by repeat' infer_instance,?_,?_,?_⟩
   ·show G4.keys=_; rw[k4,q3]; simp[jL]
   ·show G4.np=_; rw[np4,q4]
   ·show hY G4.su p (G4.su p++[node])=_; rw[su4,q5]; simp[pe]
 ·refine(let QQ:=_; (?_:Ok _ _ QQ));obtain⟨done,rest,G',e1,e2,a3,q1,q2,q3,q4,q5⟩:=hI;have:rest=[]:=by cases rest with
   |nil=>rfl
   |cons b r=>simp at e2
  subst this;rw[yX]at e1; subst e1;exact hQ _ G' a3 rfl q3 q4 q5
 ·show bD G1.np node (G1.np node+(preds.map AV.int).length)=_;rw[np1]; simp
section
variable{l:Str->yl AV}{i:Nat}{o:M AV}{a:Str}{r:M ac}
theorem Un(he:V e ⟨l,h,n⟩ v)(ho:V o ⟨l,h,n⟩ (.ref i))(hi:i<n)(hd:d<n)(h1:h i=.inst d)(h2:h d=.attrs fs)(h3:(decide (fs.length<=100)&&bG.contains a)=true)(k:Ok r ⟨l,upd h d (.attrs (cq fs a v)),n⟩ Q) :
  Ok (af (aA e [bo o a]) r) ⟨l,h,n⟩ Q:=he _ (ho _ (dF hi hd h1 h2 h3 k))
theorem Vl{b:AO}(ho:V o ⟨l,upd h n b,n+1⟩ (.ref i))(hi:i<n)(hd:d<n)(h1:h i=.inst d)(h2:h d=.attrs fs)(h3:(decide (fs.length<=100)&&bG.contains a)=true)(k:Ok r ⟨l,upd (upd h n b) d (.attrs (cq fs a (.ref n))),n+1⟩ Q) :
  Ok (af (aA (bO b) [bo o a]) r) ⟨l,h,n⟩ Q:=ho _ (dF (yZ hi) (yZ hd) ((ym (yA hi)).trans h1) ((ym (yA hd)).trans h2) h3 k)
end
theorem b5{hp:Nat->AO}{i:Nat}(hi:i<nx)(h:hp i=.list vs):items? hp nx (.ref i)=some vs:=by show(if i<nx then(hp i).items? else none)=_;rw[yo hi,h]; rfl
theorem sW:T2.meths (Sx "add")=some (bH (Sx "add")):=by kernel_rfl
theorem V.Sz{u:M AV}{x y:AV}(hu:V u O x)(ha:V a O y)(hb:B (eG y) O vs):V (Ke u a) O (x::vs):=λQ h=>hu _ (ha _ (hb _ h))
theorem B.star(hj:j<O.nx)(h:O.hp j=.list vs)(hl:vs.length<=1000):B (eG (.ref j)) O vs:=λQ q=>by show yT (yJ (Bq λhp nx=>items? hp nx (.ref j)) λvs=>if vs.length<=1000 then zu vs else AL) O Q;exact J1 (show(if j<O.nx then(O.hp j).items? else none)=some vs by rw[yo hj,h]; rfl) (jm hl q)
theorem rc  {o:yl (Nat×Nat)}{vs:yk (AV×AV)}(I:yk (AV×AV)->St->Prop)(hI:I vs O)
  (step:∀v r O,I (v::r) O->Ok (body (.tup [v.1,v.2])) O λf σ2=>match f with
   |.next=>yT (MQ o) σ2 λZ σ3=>I r σ3
   |.cont=>yT (MQ o) σ2 λZ σ3=>I r σ3
   |.brk=>Q .next σ2
   |.ret v=>Q (.ret v) σ2) (hend:∀O,I [] O->Q .next O):Ok (dj LL (.pairs o vs) body) O Q :=
 Gb I (λv r O h=>(step v r O h).toM) hend vs O hI
theorem V.Jf(ha:V a O (.ref j))(hj:j<O.nx)(h:O.hp j=.dict kvs ver):V (Jf a) O (.pairs (some (j,ver)) (kvs.map λp=>(.int p.1,p.2))):=λQ k =>
 ha _ (by
  show yT (yJ (CB j) λob=>yJ (zE ob.HM) λd=>zu (aw.pairs (some (j,d.2)) (d.1.map λp=>(AV.int p.1,p.2)))) O Q;exact IE hj (HS (a:=(kvs,ver)) (by rw[h]; rfl) k))
inductive QB(O:St)(i:Nat)(G:SG)(ks:yk Int)(r:Int->Nat)(q:yk (AV×AV))(O':St):Prop
 |mk (done rest:yk Int) (G':SG) (u0:ks=done++rest) (u1:q=rest.map λk=>(.int k,.ref (r k))) (u2:bU O i G ⟨O.loc,O'.hp,O'.nx⟩ G') (u3:O'.loc (Sx "self")=some (.ref i)) (u4:G'.keys=done) (u5:G'.np=λZ=>0) (u6:G'.su=λZ=>[]):QB O i G ks r q O'
variable{ks:yk Int}
theorem tU(hD:4<=D){i g:Nat}{r:Int->Nat}(hi:i<O.nx)(hd:d<O.nx)(hg:g<O.nx)(h1:O.hp i=.inst d)(h2:O.hp d=.attrs [])(h3:O.hp g=.dict (ks.map λk=>(k,.ref (r k))) ver)(nd:ks.Nodup)(hl:ks.length<=100)
  (hr:∀k∈ks,r k<O.nx/\O.hp (r k)=.list []) {Q:AV->St->Prop}
  (hQ:∀O' G,Rep O' i G->G.keys=ks->G.np=(λZ=>0)->G.su=(λZ=>[])->G.rd=.none->G.po=0->G.fi=0->O'.loc=O.loc->O.nx<=O'.nx->(∀j,j<O.nx->j≠d->O'.hp j=O.hp j)->(∀j,fu G i j->j=i\/j=d\/O.nx<=j)->Q .none O') :
  Ok (aJ T2 LL 40 D (bH (Sx "__init__")) [.ref i,.ref g] []) O Q:=by
 obtain⟨dd,rfl⟩:=ge (yn (by decide) hD);have hb:aM (bH (Sx "__init__")) [.ref i,.ref g] []=some [(Sx "self",.ref i),(Sx "graph",.ref g)]:=by kernel_rfl
 refine bA hb (pB _) ?_;clear hb;delta oo;refine(let QQ:=_; (?_:Ok _ _ QQ));obtain⟨l0,h,n⟩:=O;have hid:i≠d:=by intro e; rw[e,h2]at h1; cases h1
 have hgd:g≠d:=by intro e; rw[e,h2]at h3; cases h3
 have hgi:g≠i:=by intro e; rw[e,h1]at h3; cases h3
 refine Vl (i:=i) (d:=d) (fs:=[]) (by repeat' infer_instance) hi hd h1 h2 (by decide) ?_;refine Un (i:=i) (d:=d) (fs:=[(Sx "_node2info",.ref n)]) V.c (by repeat' infer_instance) (yZ hi) (yZ hd) ((ym hid).trans ((ym (yA hi)).trans h1)) (yo rfl) (by kernel_rfl) ?_;refine Un (i:=i) (d:=d) (fs:=[(Sx "_node2info",.ref n),(Sx "_ready_nodes",.none)]) V.c (by repeat' infer_instance) (yZ hi) (yZ hd) ((ym hid).trans ((ym hid).trans ((ym (yA hi)).trans h1))) (yo rfl) (by kernel_rfl) ?_;refine Un (i:=i) (d:=d) (fs:=[(Sx "_node2info",.ref n),(Sx "_ready_nodes",.none),(Sx "_npassedout",.int 0)]) V.c (by repeat' infer_instance) (yZ hi) (yZ hd) ((ym hid).trans ((ym hid).trans ((ym hid).trans ((ym (yA hi)).trans h1)))) (yo rfl) (by kernel_rfl) ?_;have hA:∀j,j<n->j≠d->upd (upd (upd (upd (upd h n (.dict [] 0)) d (.attrs (cq [] (Sx "_node2info") (.ref n)))) d (.attrs (cq [(Sx "_node2info",.ref n)] (Sx "_ready_nodes") .none))) d (.attrs (cq [(Sx "_node2info",.ref n),(Sx "_ready_nodes",.none)] (Sx "_npassedout") (.int 0)))) d (.attrs (cq [(Sx "_node2info",.ref n),(Sx "_ready_nodes",.none),(Sx "_npassedout",.int 0)] (Sx "_nfinished") (.int 0))) j=h j:=λj hj hjd =>
  (ym hjd).trans ((ym hjd).trans ((ym hjd).trans ((ym hjd).trans (ym (yA hj)))))
 have hB:upd (upd (upd (upd (upd h n (.dict [] 0)) d (.attrs (cq [] (Sx "_node2info") (.ref n)))) d (.attrs (cq [(Sx "_node2info",.ref n)] (Sx "_ready_nodes") .none))) d (.attrs (cq [(Sx "_node2info",.ref n),(Sx "_ready_nodes",.none)] (Sx "_npassedout") (.int 0)))) d (.attrs (cq [(Sx "_node2info",.ref n),(Sx "_ready_nodes",.none),(Sx "_npassedout",.int 0)] (Sx "_nfinished") (.int 0))) n=.dict [] 0 :=
  have e:=zk hd
  (ym e).trans ((ym e).trans ((ym e).trans ((ym e).trans (yo rfl))))
 have hC:upd (upd (upd (upd (upd h n (.dict [] 0)) d (.attrs (cq [] (Sx "_node2info") (.ref n)))) d (.attrs (cq [(Sx "_node2info",.ref n)] (Sx "_ready_nodes") .none))) d (.attrs (cq [(Sx "_node2info",.ref n),(Sx "_ready_nodes",.none)] (Sx "_npassedout") (.int 0)))) d (.attrs (cq [(Sx "_node2info",.ref n),(Sx "_ready_nodes",.none),(Sx "_npassedout",.int 0)] (Sx "_nfinished") (.int 0))) d=.attrs [(Sx "_node2info",.ref n),(Sx "_ready_nodes",.none),(Sx "_npassedout",.int 0),(Sx "_nfinished",.int 0)]:=(yo rfl).trans (by kernel_rfl);revert hA hB hC;generalize upd (upd (upd (upd (upd h n (.dict [] 0)) d (.attrs (cq [] (Sx "_node2info") (.ref n)))) d (.attrs (cq [(Sx "_node2info",.ref n)] (Sx "_ready_nodes") .none))) d (.attrs (cq [(Sx "_node2info",.ref n),(Sx "_ready_nodes",.none)] (Sx "_npassedout") (.int 0)))) d (.attrs (cq [(Sx "_node2info",.ref n),(Sx "_ready_nodes",.none),(Sx "_npassedout",.int 0)] (Sx "_nfinished") (.int 0)))=hN;intro hA hB hC;have R0:∀l',Rep ⟨l',hN,n+1⟩ i ⟨d,n,λZ=>0,λZ=>0,[],λZ=>0,λZ=>[],.none,0,0⟩:=λl'=>⟨yZ hi,(hA i hi hid).trans h1,yZ hd,hC,yK _,⟨0,hB⟩,λk hk=>(nomatch hk),λk hk=>(nomatch hk),λk hk=>(nomatch hk),λk hk=>(nomatch hk),λk hk=>(nomatch hk),.nil,λk Z=>⟨rfl,rfl⟩,λr hr=>nomatch hr⟩;refine sT (V.cmp (by repeat' infer_instance) V.c rfl) (sS ?_);refine V.Jf (O:=⟨_,hN,n+1⟩) (j:=g) (V.l (by repeat' infer_instance)) (yZ hg) ((hA g hg hgd).trans h3) _ ?_;refine rc (QB ⟨l0,hN,n+1⟩ i ⟨d,n,λZ=>0,λZ=>0,[],λZ=>0,λZ=>[],.none,0,0⟩ ks r) ⟨[],ks,_,rfl,by rw[zq]; rfl,bU.refl (R0 l0),by repeat' infer_instance,rfl,rfl,rfl⟩ (λv q O' hI =>?_) λO' hI =>?_
 ·refine(let QQ:=_; (?_:Ok _ _ QQ));obtain⟨done,rest,G',u0,u1,u2,u3,u4,u5,u6⟩:=hI;cases rest with
  |nil=>cases u1
  |cons k rest =>
   obtain⟨rfl,rfl⟩:=zL u1;have hk:k∈ks:=by rw[u0]; exact AE _ (yY ..)
   have hkd:k∉done:=λe=>by rw[u0,z6]at nd;exact nd.2.2 k e k (yY ..) rfl
   have hlen:done.length+1<=100:=by rw[u0,yV]at hl; exact yn (zO (AR (zc _)) _) hl
   have R1:=u2.rep.loc (ai (ai O'.loc (Sx "node") (some (.int k))) (Sx "predecessors") (some (.ref (r k))));have far:∀j,j<n->j≠i->j≠d->O'.hp j=h j:=λj hj a b=>(u2.hp j (yZ hj) (by
    rintro(e|e|e|⟨x,hx,_⟩)
    ·exact a e
    ·exact b e
    ·exact yD e (yA hj)
    ·cases hx)).trans (hA j hj b)
   have hrk:=hr k hk;have rki:r k≠i:=by intro e; rw[e]at hrk; exact nomatch hrk.2.symm.trans h1
   have rkd:r k≠d:=by intro e; rw[e]at hrk; exact nomatch hrk.2.symm.trans h2
   show Ok (fN (aJ T2 LL 40 dd)) ⟨ai (ai O'.loc (Sx "node") (some (.int k))) (Sx "predecessors") (some (.ref (r k))),O'.hp,O'.nx⟩ _;delta fN;refine Ua (sU sW (by repeat' infer_instance) R1.i_ R1.d_ R1.ih R1.dh rfl (V.Sz (by repeat' infer_instance) (by repeat' infer_instance) (B.star (vs:=[]) (yv hrk.1 (zC u2.nx)) ((far _ hrk.1 rki rkd).trans hrk.2) (zc _))) ?_);refine K9 (preds:=[]) (Ca hD) R1 u2.rd k (by rw[u4]; exact yn (zC hlen) (by decide)) (λx=>by rw[u6]; exact zc _) (λσ2 G2 a2 e1 e2 e3 e4=>sE ?_) (by kernel_rfl);have A2:=u2.trans (a2.locs l0 l0);refine g9 (ver:=ver) (kvs:=ks.map λk=>(k,.ref (r k))) (yv hg (zC A2.nx)) ?_ ⟨done++[k],rest,G2,by rw[u0,zF]; rfl,rfl,A2,?_,?_,?_,?_⟩
   ·refine(A2.hp g (yZ hg) ?_).trans ((hA g hg hgd).trans h3);rintro(e|e|e|⟨x,hx,_⟩)
    ·exact hgi e
    ·exact hgd e
    ·exact yD e (yA hg)
    ·cases hx
   ·rw[e1]; exact(LS (y:=Sx "predecessors") (by kernel_rfl) (LS (y:=Sx "node") (by kernel_rfl) u3):ai (ai O'.loc (Sx "node") (some (.int k))) (Sx "predecessors") (some (.ref (r k))) (Sx "self")=_)
   ·rw[e2,<-u4]; unfold jL jy; rw[ym (by rw[u4]; exact hkd)]; rfl
   ·rw[e3,u5]; funext x; unfold bD; split<;>rfl
   ·rw[e4,u6]; rfl
 ·refine(let QQ:=_; (?_:Ok _ _ QQ));refine hdZ λGG hGG =>?_;obtain⟨done,rest,G',u0,u1,u2,u3,u4,u5,u6⟩:=hI;refine hGG ?_;cases rest with
  |cons _ _=>cases u1
  |nil =>
   rw[yX]at u0;exact hQ _ G' (u2.rep.loc l0) (u4.trans u0.symm) u5 u6 u2.rd u2.po u2.fi rfl (zC u2.nx) (λj hj b=>by
    by_cases a:j=i
    ·subst a; exact u2.rep.ih.trans ((yI AO.inst u2.d).trans h1.symm)
    ·exact(u2.hp j (yZ hj) (by
      rintro(e|e|e|⟨x,hx,_⟩)
      ·exact a e
      ·exact b e
      ·exact yD e (yA hj)
      ·cases hx)).trans (hA j hj b)) λj hj=>by
    rcases u2.foot j hj with(e|e|e|⟨x,hx,_⟩)|e
    ·exact .inl e
    ·exact .inr (.inl e)
    ·exact .inr (.inr (zj e.symm))
    ·cases hx
    ·exact .inr (.inr (zC e))
structure Fe where
 k:Int
 p:Nat
 it:Nat
 nw:Nat
noncomputable def fG:yk Fe->Nat->yk (Int×AV)
 |[],_=>[]
 |f::r,m=>(f.k,.int (m:Nat))::fG r (m+1)
theorem lE(f:Fe)(r:yk Fe)(m:Nat):fG (f::r) m=(f.k,.int (m:Nat))::fG r (m+1):=rfl
theorem dD:∀(a b:yk Fe) (m:Nat),fG (a++b) m=fG a m++fG b (m+a.length)
 |[]=>λb m=>rfl
 |f::r=>λb m=>by simp only[Gp,lE,dD r b (m+1),Ax]; rw[show m+1+r.length=m+(r.length+1)from by lia]
theorem gh:∀(a:yk Fe) (m:Nat) (x:Int),((fG a m).lookup x).isSome=(a.map (·.k)).contains x
 |[]=>λm x=>rfl
 |f::r=>λm x=>by
  simp only[lE,zi,za,EB];by_cases h:x=f.k
  ·subst h; simp
  ·rw[show(x==f.k)=false from by simpa using h,gh r (m+1) x]; simp
theorem lD:∀(a:yk Fe) (m:Nat),(fG a m).length=a.length
 |[]=>λm=>rfl
 |f::r=>λm=>by simp[lE,lD r]
theorem jO:∀(a:yk Fe) (m:Nat),(fG a m).map (·.1)=a.map (·.k)
 |[]=>λm=>rfl
 |f::r=>λm=>by simp[lE,jO r]
theorem fD(kvs:yk (Int×AV))(k:Int)(v:AV)(h:k∉kvs.map (·.1)):stored kvs k v=kvs++[(k,v)]:=by unfold stored;rw[ym];simp only[Ez,ze,not_exists,not_and];intro x hx e;exact h (e▸zG hx)
theorem pi(kvs:yk (Int×AV))(k:Int)(v:AV)(h:k∉kvs.map (·.1)):without (kvs++[(k,v)]) k=kvs:=by
 unfold without;rw[B1];have e1:(kvs.filter λkv=>decide (kv.1≠k))=kvs:=by rw[B7];intro x hx;simp only[ze];intro e; exact h (e▸zG hx)
 rw[e1]; simp
structure Iq(G:SG)(b:Nat)(hp0:Nat->AO)(O:St)(seen:yk Int)(stk:yk Fe):Prop where
 old:∀j,j<b->O.hp j=hp0 j
 nx:b+4<=O.nx
 s_:O.hp b=.list (stk.map λf=>.int f.k)
 t_:O.hp (b+1)=.list (stk.map λf=>.ref f.nw)
 e_:O.hp (b+2)=.set seen
 m_:∃ver,O.hp (b+3)=.dict (fG stk 0) ver
 fk:∀f∈stk,f.k∈G.keys/\f.k∈seen/\f.p<=(G.su f.k).length
 fi:∀f∈stk,f.it<O.nx/\b+4<=f.it/\O.hp f.it=.iter (G.Q f.k) f.p
 fn:∀f∈stk,f.nw<O.nx/\b+4<=f.nw/\O.hp f.nw=.H9 f.it
 dist:(stk.map (·.it)).Nodup
 inc:(stk.map (·.k)).Nodup
 sk:∀x∈seen,x∈G.keys
 snd:seen.Nodup
structure gW(G:SG)(b:Nat)(loc:Str->yl AV):Prop where
 n2i:loc (Sx "n2i")=some (.ref G.n)
 stack:loc (Sx "stack")=some (.ref b)
 its:loc (Sx "itstack")=some (.ref (b+1))
 seen:loc (Sx "seen")=some (.ref (b+2))
 S6:loc (Sx "node2stacki")=some (.ref (b+3))
theorem gW.node{b:Nat}{loc:Str->yl AV}(h:gW G b loc)(v:yl AV):gW G b (ai loc (Sx "node") v) :=
 ⟨LS (by kernel_rfl) h.n2i,LS (by kernel_rfl) h.stack,LS (by kernel_rfl) h.its,LS (by kernel_rfl) h.seen,LS (by kernel_rfl) h.S6⟩
structure Gr(G:SG)(b:Nat)(hp0:Nat->AO):Prop where
 n_:G.n<b
 nh:∃ver,hp0 G.n=.dict (bY G) ver
 r_:∀k∈G.keys,G.R k<b
 rh:∀k∈G.keys,∃dd,hp0 (G.R k)=.node dd (some (.int k)) (some (.int (G.np k))) (some (.ref (G.Q k)))
 q_:∀k∈G.keys,G.Q k<b
 qh:∀k∈G.keys,hp0 (G.Q k)=.list ((G.su k).map .int)
 sub:∀k∈G.keys,∀y∈G.su k,y∈G.keys
 len:G.keys.length<=100
 nd:G.keys.Nodup
 Ui:∀k,(G.su k).length<=100
theorem vi{hp:Nat->AO}(x:Int)(hj:j<nx)(h:hp j=.set ks):Il hp nx .In (.int x) (.ref j)=some (ks.contains x):=by
 show jo hp nx (.int x) (.ref j)=_;unfold jo;have:items? hp nx (.ref j)=none:=by show(if j<nx then(hp j).items? else none)=none; rw[yo hj,h]; rfl
 rw[this];show(if nx>j then match(hp j).JP with|some ks=>some (ks.contains x)|none=>(hp j).HM.map λd=>(d.1.lookup x).isSome else none)=_;rw[yo hj,h]; rfl
theorem Lw{hp:Nat->AO}(x:Int)(hj:j<nx)(h:hp j=.dict kvs ver):Il hp nx .In (.int x) (.ref j)=some ((kvs.lookup x).isSome):=by
 show jo hp nx (.int x) (.ref j)=_;unfold jo;have:items? hp nx (.ref j)=none:=by show(if j<nx then(hp j).items? else none)=none; rw[yo hj,h]; rfl
 rw[this];show(if nx>j then match(hp j).JP with|some ks=>some (ks.contains x)|none=>(hp j).HM.map λd=>(d.1.lookup x).isSome else none)=_;rw[yo hj,h]; rfl
theorem mD{hp:Nat->AO}(hj:j<nx)(h:hp j=.list (vs++[v]))(hl:vs.length<=1000):gc hp nx (.ref j) (.int (-1))=some v:=by
 show(match items? hp nx (.ref j)with|some vs=>IF vs (-1)|none=>(AV.ref j).HO.bind λj=>if j<nx then(hp j).HM.bind λd=>d.1.lookup (-1)else none)=_;rw[b5 hj h];show IF (vs++[v]) (-1)=some v;unfold IF;have h62:(-(2:Int) ^ 62)<=-1:=by decide
 rw[ym (by lia),ym (by lia),yo (by simp; lia)];rw[show((-1:Int)+((vs++[v]).length:Nat)).toNat=vs.length from by simp; lia];simp
end Internal.R
namespace Internal
open PySem Internal.R
variable{nw it l p:Nat}{us:yk AV}{O:St}
theorem m8{v:AV}(h1:nw<O.nx)(h2:it<O.nx)(h3:l<O.nx)(e1:O.hp nw=.H9 it)(e2:O.hp it=.iter l p)(e3:O.hp l=.list us)(e4:us[p]?=some v) :
  cM (.ref nw) O=some (.ok v {O with hp:=upd O.hp it (.iter l (p+1))}) :=
 eL rfl (eR h1 (eL (a:=it) (by rw[e1]; rfl) (eR h2 (eL (a:=(l,p)) (by rw[e2]; rfl) (eR h3 (eL (a:=us) (by rw[e3]; rfl) (eC e4 (uE h2))))))))
theorem m0(h1:nw<O.nx)(h2:it<O.nx)(h3:l<O.nx)(e1:O.hp nw=.H9 it)(e2:O.hp it=.iter l p)(e3:O.hp l=.list us)(e4:us[p]?=none) :
  cM (.ref nw) O=some (.err .stop {O with hp:=upd O.hp it .dead}) :=
 eL rfl (eR h1 (eL (a:=it) (by rw[e1]; rfl) (eR h2 (eL (a:=(l,p)) (by rw[e2]; rfl) (eR h3 (eL (a:=us) (by rw[e3]; rfl) (by
  show bj us[p]? _ _ O=_;rw[e4];show M.bind (wr it .dead) _ O=_;unfold M.bind wr; rw[yo h2]; rfl)))))))
end Internal
namespace Internal.R
open PySem Internal
variable{m h:M ac}{O:St}{Q:ac->St->Prop}
theorem tP(e:Ok m O Q):Ok (kL m h) O Q:=by obtain⟨a,O',e1,hq⟩:=e.out;refine zZ ?_ hq;unfold Ew; rw[e1]
variable{O':St}
theorem pH(e:m.m O=some (.err .stop O'))(hh:Ok h O' Q):Ok (kL m h) O Q:=by obtain⟨a,σ2,e1,hq⟩:=hh.out;refine zZ ?_ hq;unfold Ew; rw[e];show HF h.m O'=_;unfold HF; rw[e1]
variable{b i j:Nat}
theorem bne(h:i≠j):b+i≠b+j:=λe=>h (DE e)
variable{G:SG}{hp0:Nat->AO}{seen:yk Int}{pre:yk Fe}{f:Fe}
theorem Iq.fits(D:Iq G b hp0 O seen (pre++[f])):∀g∈pre,g.it≠f.it:=by have:=D.dist;rw[yN,z6]at this;exact λg hg e=>this.2.2 g.it (zG hg) f.it (by simp) e
variable{α:Type}{a:yk α}{x:α}
theorem d7{P:α->Prop}(h:∀y∈a,P y)(hx:P x)(y:α)(hy:y∈a++[x]):P y:=(y3.mp hy).elim (h y) λe=>zf.mp e▸hx
theorem bx:x∈a++[x]:=AE _ (zf.mpr rfl)
variable{hp:Nat->AO}{l:Str->yl AV}
theorem Iq.take(D:Iq G b hp0 O seen (pre++[f]))(w:hp f.it=.iter (G.Q f.k) (f.p+1))(o:∀j,j≠f.it->hp j=O.hp j)(hl:f.p<(G.su f.k).length) :
  Iq G b hp0 ⟨l,hp,O.nx⟩ seen (pre++[{f with p:=f.p+1}]):=by
 refine hdZ λGG hGG =>?_;obtain⟨ver,hm⟩:=D.m_;obtain⟨i1,i2,i3⟩:=D.fi f bx;obtain⟨w1,w2,w3⟩:=D.fn f bx;refine hGG ?_;have lt:∀{j},j<b+4->j≠f.it:=λh=>yA (yv h i2);have nwit:∀{x y},O.hp x=.H9 y->x≠f.it:=λhx e=>by rw[e,i3]at hx; cases hx
 refine⟨λj hj=>(o j (lt (yv hj (yH _ _)))).trans (D.old j hj),D.nx,?_,?_,(o _ (lt (y8 (by decide) b))).trans D.e_,⟨ver,?_⟩,d7 (λg hg=>D.fk g (z0 _ hg)) ⟨(D.fk f bx).1,(D.fk f bx).2.1,hl⟩,d7 (λg hg =>?_) ⟨i1,i2,w⟩,d7 (λg hg =>?_) ⟨w1,w2,(o _ (nwit w3)).trans w3⟩,?_,?_,D.sk,D.snd⟩
 ·refine(o b (lt (Bf (by decide)))).trans ?_; rw[D.s_,yN,yN]; rfl
 ·refine(o _ (lt (y8 (by decide) b))).trans ?_; rw[D.t_,yN,yN]; rfl
 ·refine(o _ (lt (y8 (by decide) b))).trans ?_; rw[hm,dD,dD]; rfl
 ·obtain⟨x1,x2,x3⟩:=D.fi g (z0 _ hg);exact⟨x1,x2,(o _ (D.fits g hg)).trans x3⟩
 ·obtain⟨x1,x2,x3⟩:=D.fn g (z0 _ hg);exact⟨x1,x2,(o _ (nwit x3)).trans x3⟩
 ·have:=D.dist; rw[yN]at this ⊢; exact this
 ·have:=D.inc; rw[yN]at this ⊢; exact this
variable{ver:Nat}
theorem Iq.drop(D:Iq G b hp0 O seen (pre++[f]))(w0:hp b=.list (pre.map λf=>.int f.k))(w1:hp (b+1)=.list (pre.map λf=>.ref f.nw))(w3:hp (b+3)=.dict (fG pre 0) ver)
  (o:∀j,j≠b->j≠b+1->j≠b+3->j≠f.it->hp j=O.hp j):Iq G b hp0 ⟨l,hp,O.nx⟩ seen pre:=by
 obtain⟨i1,i2,i3⟩:=D.fi f bx;have up:∀{j},b+4<=j->j≠f.it->hp j=O.hp j:=λh e=>o _ (zk (yv (Bf (by decide)) h)) (zk (yv (y8 (by decide) b) h)) (zk (yv (y8 (by decide) b) h)) e;refine⟨λj hj=>(o j (yA hj) (yA (zV _ hj)) (yA (zV _ hj)) (yA (yv (zV _ hj) i2))).trans (D.old j hj),D.nx,w0,w1,(o _ (bne (i:=2) (j:=0) (by decide)) (bne (by decide)) (bne (by decide)) (yA (yv (y8 (by decide) b) i2))).trans D.e_,⟨ver,w3⟩,λg hg=>D.fk g (z0 _ hg),λg hg =>?_,λg hg =>?_,?_,?_,D.sk,D.snd⟩
 ·obtain⟨x1,x2,x3⟩:=D.fi g (z0 _ hg);exact⟨x1,x2,(up x2 (D.fits g hg)).trans x3⟩
 ·obtain⟨x1,x2,x3⟩:=D.fn g (z0 _ hg);exact⟨x1,x2,(up x2 (λe=>by rw[e,i3]at x3; cases x3)).trans x3⟩
 ·have:=D.dist; rw[yN,z6]at this; exact this.1
 ·have:=D.inc; rw[yN,z6]at this; exact this.1
theorem v9(hkd:f.k∉pre.map (·.k))(hl:pre.length<=1000):((((fG pre 0++[(f.k,AV.int (pre.length:Nat))]).lookup f.k).isSome&&decide ((fG pre 0++[(f.k,AV.int (pre.length:Nat))]).length<=HC))=true):=by
 rw[CJ];have:(fG pre 0).lookup f.k=none:=by
  have hs:=gh pre 0 f.k;have hc:(pre.map (·.k)).contains f.k=false:=by simpa using hkd
  rw[hc]at hs;exact Option.isSome_eq_false_iff.mp hs |> Hf.mp
 rw[this];simp; rw[lD]; unfold HC; lia
variable{n:Nat}{r:M ac}
variable{k:M ac}
variable{v:AV}{σ1:St}
variable{s:M AV}{vs:yk AV}
section
variable{h:Nat->AO}
theorem SK(e:Ok m O (iu r Q)):Ok (af (kL m k) r) O Q:=tP e
theorem SM(e:m.m O=some (.err .stop O'))(hh:Ok k O' (iu r Q)):Ok (af (kL m k) r) O Q:=pH e hh
theorem Vm{f:M AV}{x:Str}(hf:V f O (.ref j))(e:cM (.ref j) O=some (.ok v σ1))(k:Ok r ⟨ai σ1.loc x (some v),σ1.hp,σ1.nx⟩ Q):Ok (af (aA (vg f) [an x]) r) O Q:=hf _ (zZ e k)
theorem Om{f:M AV}{x:Str}(hf:V f O (.ref j))(e:cM (.ref j) O=some (.err .stop σ1)):(af (aA (vg f) [an x]) r).m O=some (.err .stop σ1):=by
 obtain⟨a,s,e1,rfl,rfl⟩:=(hf (λa s=>a=.ref j/\s=O) ⟨rfl,rfl⟩:Ok f O _).out;have e2:(vg f).m s=some (.err .stop σ1):=by show yJ _ _ s=_;unfold yJ;rw[e1];exact e
 show yJ (yJ _ _) _ s=_;unfold yJ;rw[e2]
theorem NT{o:M AV}{a:Nat}{c:Int}{kvs:yk (Int×AV)}(ho:V o ⟨l,h,n⟩ (.ref j))(hs:V s ⟨l,h,n⟩ (.ref a))(ha:a<n)(hh:h a=.list (vs++[.int c]))(hb:vs.length<=HC)(hj:j<n)(hd:upd h a (.list vs) j=.dict kvs ver)(hl:((kvs.lookup c).isSome&&decide (kvs.length<=HC))=true)
  (k:Ok r ⟨l,upd (upd h a (.list vs)) j (.dict (without kvs c) (ver+1)),n⟩ Q):Ok (af (TA o (oD s (Sx "pop") (bw "pop" (aj [])))) r) ⟨l,h,n⟩ Q:=ho _ (re (hs _ ⟨a,vs,.int c,rfl,ha,hh,hb,KZ hj hd hl k⟩))
theorem Uo{a:Nat}(hs:V s ⟨l,h,n⟩ (.ref a))(ha:a<n)(hh:h a=.list (vs++[v]))(hb:vs.length<=HC)(k:Ok r ⟨l,upd h a (.list vs),n⟩ Q):Ok (af (a7 (oD s (Sx "pop") (bw "pop" (aj [])))) r) ⟨l,h,n⟩ Q:=re (hs _ ⟨a,vs,v,rfl,ha,hh,hb,k⟩)
end
theorem MG(C:ak)  (g:Gr G b hp0)(D:Iq G b hp0 O seen (pre++[f]))(dl:gW G b O.loc)(hl:pre.length<=100)(hp:(G.su f.k)[f.p]?=none)
  (hQ:∀h',Iq G b hp0 ⟨O.loc,h',O.nx⟩ seen pre->Q .next ⟨O.loc,h',O.nx⟩):Ok (aY C) O Q:=by
 obtain⟨k1,k2,k3⟩:=D.fk f bx;obtain⟨i1,i2,i3⟩:=D.fi f bx;obtain⟨w1,w2,w3⟩:=D.fn f bx;obtain⟨ver,hm⟩:=D.m_;have lt:∀{j},j<4->b+j<O.nx:=λh=>yv (y8 h b) D.nx;have ne:∀{j},j<4->b+j≠f.it:=λh=>yA (yv (y8 h b) i2);have hq:O.hp (G.Q f.k)=.list ((G.su f.k).map .int):=(D.old _ (g.q_ _ k1)).trans (g.qh _ k1);have ht:=D.t_;have hs:=D.s_;rw[yN]at ht hs;rw[dD,zM]at hm;have hkd:f.k∉pre.map (·.k):=by intro hmem;have:=D.inc; rw[yN,z6]at this;exact this.2.2 _ hmem f.k (zf.mpr rfl) rfl
 have hst:=m0 (us:=(G.su f.k).map AV.int) w1 i1 (y0 (g.q_ _ k1) (lt (j:=0) (by decide))) w3 i3 hq (by simp[hp]);unfold aY;refine SM (Om (V.idx (V.l dl.its) (V.neg V.c) (mD (lt (by decide)) ht (by rw[yE]; exact yn hl (by decide)))) hst) ?_;refine NT (kvs:=fG pre 0++[(f.k,.int (pre.length:Nat))]) (V.l dl.S6) (V.l dl.stack) (lt (j:=0) (by decide)) ((ym (ne (j:=0) (by decide))).trans hs) (by rw[yE]; exact yn hl (by decide)) (lt (by decide)) ((ym (bne (i:=3) (j:=0) (by decide))).trans ((ym (ne (by decide))).trans hm)) (v9 hkd (yn hl (by decide))) ?_;rw[pi _ _ _ (by rw[jO]; exact hkd)];refine Uo (vs:=pre.map λf=>AV.ref f.nw) (V.l dl.its) (lt (by decide)) ((ym (bne (by decide))).trans ((ym (bne (i:=1) (j:=0) (by decide))).trans ((ym (ne (by decide))).trans ht))) (by rw[yE]; exact yn hl (by decide)) (sE ?_);exact hQ _ (D.drop ((ym (bne (i:=0) (by decide))).trans ((ym (bne (i:=0) (by decide))).trans (yo rfl))) (yo rfl) ((ym (bne (by decide))).trans (yo rfl)) λj h1 h2 h3 h4=>(ym h2).trans ((ym h3).trans ((ym h1).trans (ym h4))))
noncomputable def Sb(su:Int->yk Int)(ks:yk Int):Prop:=∀i a b,ks[i]?=some a->ks[i+1]?=some b->b∈su a
structure Dp(su:Int->yk Int)(fin pend seen:yk Int)(stk:yk Fe):Prop where
 c:∀i f,stk[i]?=some f->∀z∈(su f.k).take f.p,z∈fin\/(stk.map (·.k)++pend)[i+1]?=some z
 p:Sb su (stk.map (·.k)++pend)
 s:∀x∈seen,x∈fin\/x∈stk.map (·.k)
 o:∀a x b,fin=a++x::b->∀y∈su x,y∈a
variable{su:Int->yk Int}{fin pend:yk Int}{stk:yk Fe}{y:Int}
variable{z:α}
section
variable{x:Int}
theorem fT{b:yk α}(h:(a++b)[i]?=some z)(k:i<a.length):a[i]?=some z:=by rwa[AD k]at h
theorem gO{b:yk α}(h:a[i]?=some z):(a++b)[i]?=some z:=by rw[AD (y2.mp h).1]; exact h
theorem hO{b:α}(h:(a++[b])[i]?=some z):i<a.length\/i=a.length/\z=b:=by
 have:=(y2.mp h).1;rw[yV,CI]at this;rcases CQ (zb this)with k|k
 ·exact .inl k
 ·subst k; rw[A9 (yF _),AQ]at h;exact .inr ⟨rfl,(Ag h).symm⟩
theorem Dp.pop(D:Dp su fin [] seen (pre++[f]))(h:(su f.k)[f.p]?=none):Dp su (fin++[f.k]) [] seen pre:=by
 have hl:=EL.mp h;refine⟨λi g hg z hz =>?_,λi a b ha hb=>D.p i a b ?_ ?_,λz hz =>?_,λa z b e y hy =>?_⟩
 ·have hi:=(y2.mp hg).1;rcases D.c i g (gO hg) z hz with q|q
  ·exact .inl (z0 _ q)
  ·rw[yX,yN]at q;rcases hO q with k|⟨k,e⟩
   ·exact .inr (by rw[yX]; exact fT q k)
   ·exact .inl (e▸bx)
 ·rw[yX]at ha ⊢; rw[yN]; exact gO ha
 ·rw[yX]at hb ⊢; rw[yN]; exact gO hb
 ·rcases D.s z hz with q|q
  ·exact .inl (z0 _ q)
  ·rw[yN]at q;rcases y3.mp q with q|q
   ·exact .inr q
   ·exact .inl (AE _ q)
 ·rcases Gu b with rfl|⟨b',w,rfl⟩
  ·obtain⟨rfl,e2⟩:=Gm e rfl;obtain rfl:f.k=z:=(zL e2).1;rcases D.c pre.length f (by rw[A9 (yF _),AQ]; rfl) y (by rw[B9 hl]; exact hy)with q|q
   ·exact q
   ·have:=(y2.mp q).1;rw[yX,yE,yV]at this;exact yD this (zt _)
  ·rw[Gn,<-Gp,<-zF]at e;exact D.o a z b' (Gm e rfl).1 y hy
theorem Dp.next{f':Fe}(D:Dp su fin [] seen (pre++[f]))(h:(su f.k)[f.p]?=some y)(hk:f'.k=f.k)(hp:f'.p=f.p+1):Dp su fin [y] seen (pre++[f']):=by
 have hm:(pre++[f']).map (·.k)=(pre++[f]).map (·.k):=by rw[yN,yN,GH,GH,hk]
 refine⟨λi g hg z hz =>?_,λi a b ha hb =>?_,by rw[hm]; exact D.s,D.o⟩
 ·rw[hm];rcases hO hg with k|⟨k,e⟩
  ·rcases D.c i g (by rw[AD k]; exact fT hg k) z hz with q|q
   ·exact .inl q
   ·rw[yX]at q; exact .inr (gO q)
  ·subst e; subst k;rw[hk,hp,List.take_add_one,h]at hz;rcases y3.mp hz with q|q
   ·rcases D.c pre.length f (by rw[A9 (yF _),AQ]; rfl) z q with q|q
    ·exact .inl q
    ·rw[yX]at q; exact .inr (gO q)
   ·refine .inr ?_;rw[A9 (by rw[yE,yV]; exact yF _),yE,yV,CI,AQ];exact yI some (zf.mp q).symm
 ·rw[hm]at ha hb;rcases hO hb with k|⟨k,e⟩
  ·exact D.p i a b (by rw[yX]; exact fT ha (A4 k)) (by rw[yX]; exact fT hb k)
  ·subst e;have e1:=fT ha (by rw[<-k]; exact yK _);rw[yN]at e1;rcases hO e1 with q|⟨_,e⟩
   ·rw[yE,yV,CI]at k;rw[yE,<-Cj k]at q; exact yD q (zt _)
   ·subst e; exact zy h
theorem Dp.push(D:Dp su fin [f.k] seen stk)(h0:f.p=0):Dp su fin [] (seen++[f.k]) (stk++[f]):=by
 have hm:(stk++[f]).map (·.k)++[]=stk.map (·.k)++[f.k]:=by rw[yX,yN]; rfl
 refine⟨λi g hg z hz =>?_,by rw[hm]; exact D.p,λz hz =>?_,D.o⟩
 ·rw[hm];rcases hO hg with k|⟨k,e⟩
  ·exact D.c i g (fT hg k) z hz
  ·subst e; rw[h0]at hz; cases hz
 ·rw[yN];rcases y3.mp hz with q|q
  ·exact(D.s z q).imp_right (z0 _)
  ·exact .inr (AE _ q)
theorem Dp.skip(D:Dp su fin [y] seen stk)(h:y∈fin):Dp su fin [] seen stk:=by
 refine⟨λi g hg z hz =>?_,λi a b ha hb =>?_,D.s,D.o⟩
 ·rcases D.c i g hg z hz with q|q
  ·exact .inl q
  ·rcases hO q with k|⟨_,e⟩
   ·exact .inr (by rw[yX]; exact fT q k)
   ·exact .inl (e▸h)
 ·rw[yX]at ha hb; exact D.p i a b (gO ha) (gO hb)
theorem Dp.start(D:Dp su fin [] seen []):Dp su fin [y] seen []:=⟨λi g hg=>(nomatch hg),λi a b ha hb=>(nomatch hb),D.s,D.o⟩
end
inductive Np(G:SG)(b:Nat)(hp0:Nat->AO)(seen:yk Int)(stk:yk Fe)(n:Nat)(O':St):Prop
 |mk (pre:_) (fin:yk Int) (u0:pre.length=n) (u1:pre <+: stk) (u2:Iq G b hp0 O' seen pre) (u3:gW G b O'.loc) (u4:Dp G.su fin [] seen pre)
theorem xO(C:ak)  (hL:200<=LL)(g:Gr G b hp0)(D:Iq G b hp0 O seen stk)(dl:gW G b O.loc)(hlen:stk.length<=100)
  (dp:Dp G.su fin [] seen stk) (hend:∀O' fin,Dp G.su fin [] seen []->Iq G b hp0 O' seen []->gW G b O'.loc->Q .brk O')
  (hnext:∀O' pre f y fin,Dp G.su fin [y] seen (pre++[{f with p:=f.p+1}])->Iq G b hp0 O' seen (pre++[{f with p:=f.p+1}])->pre++[f] <+: stk->gW G b O'.loc->O'.loc (Sx "node")=some (.int y)->(G.su f.k)[f.p]?=some y->Q .next O') :
  Ok (bm (Ji (aa (Sx "stack"))) (aY C) (af (M.ret .brk) (M.ret .next)) LL) O Q:=by
 refine cO (Np G b hp0 seen stk) (λn O' hI =>?_) LL stk.length O (by lia) ⟨stk,fin,rfl,List.prefix_refl _,D,dl,dp⟩;obtain⟨pre,fin,hn,hpre,D',dl',dp'⟩:=hI;have hbn:b<O'.nx:=by have:=D'.nx; lia
 have hpl:pre.length<=100:=yn (List.IsPrefix.length_le hpre) hlen;have ht:dC O'.hp O'.nx (.ref b)=some (!(pre.map λf=>AV.int f.k).isEmpty):=tg hbn D'.s_ (by rw[yE]; exact yn hpl (by decide));refine V.tr (V.l dl'.stack) ht _ ?_;rcases Gu pre with rfl|⟨pre',f,rfl⟩
 ·exact hend O' fin dp' D' dl'
 ·rw[Gn]at *
  have hne:(!((pre'++[f]).map λf=>AV.int f.k).isEmpty)=true:=by simp
  rw[hne,yo rfl];have hpl':pre'.length<=100:=by simp at hpl; exact yn (by assumption) (by decide +kernel)
  refine(let QQ:=_; (?_:Ok _ _ QQ));cases hp:(G.su f.k)[f.p]? with
  |some y =>obtain⟨k1,k2,k3⟩:=D'.fk f bx;obtain⟨i1,i2,i3⟩:=D'.fi f bx;obtain⟨w1,w2,w3⟩:=D'.fn f bx;have hq:O'.hp (G.Q f.k)=.list ((G.su f.k).map .int):=(D'.old _ (g.q_ _ k1)).trans (g.qh _ k1);have ht':=D'.t_;rw[yN]at ht';have hnext':=m8 (us:=(G.su f.k).map AV.int) (v:=.int y) w1 i1 (y0 (g.q_ _ k1) hbn) w3 i3 hq (by simp[hp]);unfold aY;refine SK (Vm (V.idx (V.l dl'.its) (V.neg V.c) (mD (yv (y8 (by decide) b) D'.nx) ht' (by rw[yE]; exact yn hpl' (by decide)))) hnext' (sB ?_));exact hnext _ pre' f y fin (dp'.next hp rfl rfl) (D'.take (yo rfl) (λj hj=>ym hj) (y2.mp hp).1) hpre (dl'.node _) (by repeat' infer_instance) hp
  |none =>refine MG C g D' dl' hpl' hp λh' D2 =>?_;exact⟨pre'.length,by rw[<-hn]; simp,pre',fin++[f.k],rfl,(List.prefix_append pre' [f]).trans hpre,D2,dl',dp'.pop hp⟩
noncomputable def fy(keys seen:yk Int):Nat:=(keys.filter λk => !seen.contains k).length
noncomputable def fg(G:SG)(stk:yk Fe):Nat:=(stk.map λf=>2*((G.su f.k).length-f.p)+1).sum
theorem xF(x:Int)(p q:Int->yx)(keys:yk Int)(hpq:∀k,q k=true->p k=true)(hp:p x=true)(hq:q x=false)(h:x∈keys):(keys.filter q).length<(keys.filter p).length:=by
 have e:keys.filter q=(keys.filter p).filter q:=by
  rw[List.filter_filter];exact Dw λk Z=>by
   cases e:q k with
   |false=>rfl
   |true=>rw[hpq k e]; rfl
 rw[e];exact List.length_filter_lt_length_iff_exists.mpr ⟨x,zT.mpr ⟨h,hp⟩,by rw[hq]; exact A0⟩
theorem qm(G:SG):∀(a b:yk Fe),a <+: b->fg G a<=fg G b:=by intro a b h;obtain⟨t,rfl⟩:=h;unfold fg;rw[yN,EX]; lia
end Internal.R
namespace Internal
open PySem Internal.R
variable{l:Nat}{O:St}{Q:AV->St->Prop}
theorem nL{us:yk AV}(hl:l<O.nx)(h:O.hp l=.list us)(hQ:Q (.ref O.nx) {O with hp:=upd O.hp O.nx (.iter l 0),nx:=O.nx+1}):Ok (bM "iter" [.ref l]) O Q:=by refine IL (a:=vP) (by kernel_rfl) ?_;delta vP;refine HS (o:=one? [.ref l]) (a:=.ref l) rfl ?_;refine HS (a:=l) rfl ?_;refine IE hl ?_;exact HS (a:=us) (by rw[h]; rfl) hQ
theorem pP{i p:Nat}(hi:i<O.nx)(h:O.hp i=.iter l p)(hQ:Q (.ref O.nx) {O with hp:=upd O.hp O.nx (.H9 i),nx:=O.nx+1}):Ok (be (.ref i) (Sx "__next__")) O Q :=
by delta be;exact HS (a:=i) rfl (IE hi (okN (by rw[h]; rfl) (okN (by rw[h]; rfl) (okN (by rw[h]; rfl) (HS (a:=(l,p)) (by rw[h]; rfl) (jm rfl hQ))))))
end Internal
namespace Internal.R
open PySem Internal
end Internal.R
namespace Internal
open PySem Internal.R
theorem nK{i:Nat}{vs:yk AV}{O:St}{Q:AV->St->Prop}(hi:i<O.nx)(h:O.hp i=.list vs)(hl:vs.length<=HC)(hQ:Q (.int vs.length) O):Ok (bM "len" [.ref i]) O Q:=by refine IL (a:=yd) (by kernel_rfl) ?_;delta yd;refine HS (o:=one? [.ref i]) (a:=.ref i) rfl ?_;refine okN rfl ?_;refine okN rfl ?_;refine J1 (b5 hi h) ?_;exact JR hl hQ
end Internal
namespace Internal.R
open PySem Internal
end Internal.R
namespace Internal
open PySem Internal.R
theorem pL(O:St)(Q:AV->St->Prop):Ok (bM "set" []) O Q=Q (.ref O.nx) {O with hp:=upd O.hp O.nx (.set []),nx:=O.nx+1}:=by
 have e:bM "set" [] O=M.bind (new (.set [])) (λi=>M.ret (.ref i)) O:=by kernel_rfl
 unfold Ok; rw[e]; rfl
end Internal
namespace Internal.R
open PySem Internal
variable{G:SG}{b ver:Nat}{hp0 hp:Nat->AO}{O:St}{seen:yk Int}{stk:yk Fe}{l:Str->yl AV}{x:Int}
theorem Iq.push(D:Iq G b hp0 O seen stk)(hx:x∈G.keys)(hns:x∉seen)
  (w0:hp b=.list (stk.map (λf=>AV.int f.k)++[.int x])) (w1:hp (b+1)=.list (stk.map (λf=>AV.ref f.nw)++[.ref (O.nx+1)])) (w2:hp (b+2)=.set (seen++[x])) (w3:hp (b+3)=.dict (fG stk 0++[(x,.int (stk.length:Nat))]) ver) (w4:hp O.nx=.iter (G.Q x) 0) (w5:hp (O.nx+1)=.H9 O.nx)
  (old:∀j,j<O.nx->j≠b->j≠b+1->j≠b+2->j≠b+3->hp j=O.hp j):Iq G b hp0 ⟨l,hp,O.nx+2⟩ (seen++[x]) (stk++[⟨x,0,O.nx,O.nx+1⟩]):=by
 have up:∀{j},b+4<=j->j<O.nx->hp j=O.hp j:=λh hj=>old _ hj (zk (yv (Bf (by decide)) h)) (zk (yv (y8 (by decide) b) h)) (zk (yv (y8 (by decide) b) h)) (zk (yv (y8 (by decide) b) h));have m2:∀{j},j<O.nx->j<O.nx+2:=λh=>zV _ h;refine⟨λj hj=>(old j (yv (zV _ hj) D.nx) (yA hj) (yA (zV _ hj)) (yA (zV _ hj)) (yA (zV _ hj))).trans (D.old j hj),yn D.nx (yH _ _),?_,?_,w2,⟨ver,?_⟩,d7 (λf hf =>?_) ⟨hx,bx,zc _⟩,d7 (λf hf =>?_) ⟨Bf (by decide),D.nx,w4⟩,d7 (λf hf =>?_) ⟨yK _,Nat.le_succ_of_le D.nx,w5⟩,?_,?_,d7 D.sk hx,?_⟩
 ·rw[yN]; exact w0
 ·rw[yN]; exact w1
 ·rw[dD,zM]; exact w3
 ·obtain⟨a1,a2,a3⟩:=D.fk f hf; exact⟨a1,z0 _ a2,a3⟩
 ·obtain⟨a1,a2,a3⟩:=D.fi f hf; exact⟨m2 a1,a2,(up a2 a1).trans a3⟩
 ·obtain⟨a1,a2,a3⟩:=D.fn f hf; exact⟨m2 a1,a2,(up a2 a1).trans a3⟩
 ·rw[yN,z6];refine⟨D.dist,Bu ..,λa ha c hc =>?_⟩;obtain⟨f,hf,rfl⟩:=yW.mp ha;rw[zf.mp hc];exact yA (D.fi f hf).1
 ·rw[yN,z6];refine⟨D.inc,Bu ..,λa ha c hc e =>?_⟩;obtain⟨f,hf,e2⟩:=yW.mp ha;have e3:=zf.mp hc;subst e e2;exact hns ((show f.k=x from e3)▸(D.fk f hf).2.1)
 ·rw[z6];exact⟨D.snd,Bu ..,λa ha c hc e=>hns (zf.mp hc▸e▸ha)⟩
variable{h:Nat->AO}{n:Nat}{Q:ac->St->Prop}{C:ak}
variable{o:M AV}{A:M (yk AV)}
variable{vs:yk AV}
variable{e:M AV}{j:Nat}{kvs:yk (Int×AV)}
section
variable{r:M ac}{i:Nat}
theorem UU{a:M AV}{ks:yk Int}(ho:V o ⟨l,h,n⟩ (.ref i))(ha:V a ⟨l,h,n⟩ (.int x))(hi:i<n)(hh:h i=.set ks)(hb:ks.length<=1000)(hx:x∉ks)(k:∀h',h' i=.set (ks++[x])->(∀j,j≠i->h' j=h j)->Ok r ⟨l,h',n⟩ Q) :
  Ok (af (a7 (aI C o (Sx "add") A (bw "add" (aj [a])))) r) ⟨l,h,n⟩ Q :=
 tS (ho _ ⟨i,ks,rfl,hi,hh,ha _ ⟨x,rfl,hi,ks,hh,hb,k _ ((yo rfl).trans (by rw[ym (by simpa using hx)])) λj hj=>ym hj⟩⟩)
theorem VQ{a:M AV}{v:AV}(ho:V o ⟨l,h,n⟩ (.ref i))(ha:V a ⟨l,h,n⟩ v)(hi:i<n)(hh:h i=.list vs)(hb:vs.length<HC)(k:∀h',h' i=.list (vs++[v])->(∀j,j≠i->h' j=h j)->Ok r ⟨l,h',n⟩ Q) :
  Ok (af (a7 (aI C o (Sx "append") A (bw "append" (aj [a])))) r) ⟨l,h,n⟩ Q:=PY ho ha hi hh hb (k _ (yo rfl) λj hj=>ym hj)
theorem VO{g:M AV}{d:Int}{v:AV}(he:V e ⟨l,h,n⟩ v)(ho:V o ⟨l,h,n⟩ (.ref j))(hi:V g ⟨l,h,n⟩ (.int d))(hj:j<n)(hh:h j=.dict kvs ver)(hb:kvs.length<=HC)(k:∀h',h' j=.dict (stored kvs d v) (ver+1)->(∀i,i≠j->h' i=h i)->Ok r ⟨l,h',n⟩ Q):Ok (af (aA e [b3 o g]) r) ⟨l,h,n⟩ Q :=
 Vk he ho hi hj hh hb (k _ (yo rfl) λj hj=>ym hj)
theorem VP{a:M AV}{us:yk AV}{q:Nat}(ho:V o ⟨l,h,n⟩ (.ref i))(ha:V a ⟨l,h,n⟩ (.ref q))(hq:q<n)(hu:h q=.list us)(hi:i<n)(hh:h i=.list vs)(hb:vs.length<HC)(k:∀h',h' i=.list (vs++[.ref (n+1)])->h' n=.iter q 0->h' (n+1)=.H9 n->(∀j,j<n->j≠i->h' j=h j)->Ok r ⟨l,h',n+2⟩ Q) :
  Ok (af (a7 (aI C o (Sx "append") A (bw "append" (aj [aW (ay "iter" (aj [a])) (Sx "__next__")])))) r) ⟨l,h,n⟩ Q:=by
 have l1:=yK n;have l2:=yK (n+1);refine mj (ho _ ⟨i,vs,rfl,hi,hh,ha _ (nL hq hu (pP l1 (yo rfl) ⟨y0 hi (y0 l1 l2),vs,?_,hb,k _ (yo rfl) ?_ ?_ λj hj hji =>?_⟩))⟩)
 ·exact(ym (yA (y0 hi l1))).trans ((ym (yA hi)).trans hh)
 ·exact(ym (zk hi)).trans ((ym (yA l1)).trans (yo rfl))
 ·exact(ym (zk (y0 hi l1))).trans (yo rfl)
 ·exact(ym hji).trans ((ym (yA (y0 hj l1))).trans (ym (yA hj)))
end
theorem MF(C:ak)  (g:Gr G b hp0)(D:Iq G b hp0 O seen stk)(dl:gW G b O.loc)(hlen:stk.length<=100)(hsl:seen.length<=100)(hx:x∈G.keys)(hns:x∉seen)
  (hnode:O.loc (Sx "node")=some (.int x))
  (hQ:∀O' it nw,Iq G b hp0 O' (seen++[x]) (stk++[⟨x,0,it,nw⟩])->gW G b O'.loc->Q .next O') :
  Ok (af (a7 (aI C (aa (Sx "seen")) (Sx "add") (aj [(aa (Sx "node"))]) (bw "add" (aj [(aa (Sx "node"))]))))
 (af (a7 (aI C (aa (Sx "itstack")) (Sx "append") (aj [(aW (ay "iter" (aj [(aW (aB (aa (Sx "n2i")) (aa (Sx "node"))) (Sx "successors"))])) (Sx "__next__"))]) (bw "append" (aj [(aW (ay "iter" (aj [(aW (aB (aa (Sx "n2i")) (aa (Sx "node"))) (Sx "successors"))])) (Sx "__next__"))]))))
 (af (aA (ay "len" (aj [(aa (Sx "stack"))])) [(b3 (aa (Sx "node2stacki")) (aa (Sx "node")))])
 (af (a7 (aI C (aa (Sx "stack")) (Sx "append") (aj [(aa (Sx "node"))]) (bw "append" (aj [(aa (Sx "node"))]))))
 (M.ret .next))))) O Q:=by
 obtain⟨ver,hm⟩:=D.m_;obtain⟨nver,hn⟩:=g.nh;obtain⟨dd,hr⟩:=g.rh x hx;have lt:∀{j},j<4->b+j<O.nx:=λh=>yv (y8 h b) D.nx;have ob:∀{j},j<b->j<O.nx:=λh=>y0 h (lt (j:=0) (by decide));have hxk:x∉(fG stk 0).map (·.1):=by rw[jO];intro h;obtain⟨f,hf,e⟩:=yW.mp h;exact hns (e▸(D.fk f hf).2.1)
 have ml:∀g:Fe->AV,(stk.map g).length<HC:=λg=>by rw[yE]; exact yR hlen (by decide)
 obtain⟨l,h,n⟩:=O;refine UU (V.l dl.seen) (V.l hnode) (lt (by decide)) D.e_ (yn hsl (by decide)) hns λh1 a1 o1 =>?_;have p1:∀{j},j<b->h1 j=hp0 j:=λhj=>(o1 _ (yA (zV _ hj))).trans (D.old _ hj);refine VP (V.l dl.its) (V.at (V.idx (V.l dl.n2i) (V.l hnode) (Gd.dict (ob g.n_) ((p1 g.n_).trans hn) (qc hx))) (B.nS (ob (g.r_ x hx)) ((p1 (g.r_ x hx)).trans hr) rfl)) (ob (g.q_ x hx)) ((p1 (g.q_ x hx)).trans (g.qh x hx)) (lt (by decide)) ((o1 _ (bne (by decide))).trans D.t_) (ml _) λh2 a2 i2 w2 o2 =>?_;have m2:∀{j},j<n->j<n+2:=λh=>zV _ h;refine VO (V.b (V.cons (V.l dl.stack) V.nil) (λP k=>nK (m2 (lt (j:=0) (by decide))) ((o2 _ (lt (j:=0) (by decide)) (bne (i:=0) (by decide))).trans ((o1 _ (bne (i:=0) (by decide))).trans D.s_)) (zz (ml _)) k)) (V.l dl.S6) (V.l hnode) (m2 (lt (by decide))) ((o2 _ (lt (by decide)) (bne (by decide))).trans ((o1 _ (bne (by decide))).trans hm)) (by rw[lD]; exact yn hlen (by decide)) λh3 a3 o3 =>?_;rw[fD _ _ _ hxk,yE]at a3;refine VQ (V.l dl.stack) (V.l hnode) (m2 (lt (j:=0) (by decide))) ((o3 _ (bne (i:=0) (by decide))).trans ((o2 _ (lt (j:=0) (by decide)) (bne (i:=0) (by decide))).trans ((o1 _ (bne (i:=0) (by decide))).trans D.s_))) (ml _) λh4 a4 o4=>sE ?_;have gt:∀{j},j<4->∀{k},n<=k->k≠b+j:=λhj k hk=>zk (yv (lt hj) hk);refine hQ _ n (n+1) (D.push hx hns a4 ((o4 _ (bne (j:=0) (by decide))).trans ((o3 _ (bne (by decide))).trans a2)) ((o4 _ (bne (j:=0) (by decide))).trans ((o3 _ (bne (by decide))).trans ((o2 _ (lt (by decide)) (bne (by decide))).trans a1))) ((o4 _ (bne (j:=0) (by decide))).trans a3) ((o4 _ (gt (j:=0) (by decide) (yF n))).trans ((o3 _ (gt (by decide) (yF n))).trans i2)) ((o4 _ (gt (j:=0) (by decide) (Am n))).trans ((o3 _ (gt (by decide) (Am n))).trans w2)) λj hj h0 h1 h2 h3 =>?_) dl;exact(o4 j h0).trans ((o3 j h3).trans ((o2 j hj h1).trans (o1 j h2)))
variable{α:Type}
theorem nm{P:(x:α)->x∈([]:yk α)->Prop}:∀x (h:x∈([]:yk α)),P x h:=λZ h=>(Ad h).elim
theorem ct:∀(l m:yk Int),l.Nodup->(∀x∈l,x∈m)->l.length<=m.length
 |[],_,_,_=>zc _
 |a::r,m,hn,hs=>by
  have ha:a∈m:=hs a (by simp);have hr:=ct r (m.erase a) (Bb.mp hn).2 λx hx=>by have hne:x≠a:=λe=>(Bb.mp hn).1 (e▸hx);exact(List.mem_erase_of_ne hne).mpr (hs x (by simp[hx]))
  rw[List.length_erase_of_mem ha]at hr;have:0<m.length:=List.length_pos_of_mem ha;exact yn (AR hr) (zj (AN this))
theorem Iq.JF(D:Iq G b hp0 O seen stk):stk.length<=G.keys.length:=by
 have h:=ct (stk.map (·.k)) G.keys ?_ (λx hx=>by obtain⟨f,hf,rfl⟩:=yW.mp hx; exact(D.fk f hf).1)
 ·simpa using h
 ·exact D.inc
theorem Iq.Ki(D:Iq G b hp0 O seen stk):seen.length<=G.keys.length:=ct _ _ D.snd D.sk
theorem vX{keys:yk Int}(hx:x∈keys)(hns:x∉seen):fy keys (seen++[x])<fy keys seen:=by unfold fy;refine xF x (λk => !seen.contains k) (λk => !(seen++[x]).contains k) keys (λk hk =>?_) (by simpa using hns) (by simp) hx;simp at hk ⊢; exact hk.1
theorem iI(G:SG)(stk:yk Fe)(f:Fe):fg G (stk++[f])=fg G stk+(2*((G.su f.k).length-f.p)+1):=by unfold fg; rw[yN,EX]; simp
theorem og:∀(a:yk Fe) (m:Nat) (x:Int) (v:AV),(fG a m).lookup x=some v->∃j f,a[j]?=some f/\x=f.k/\v=.int ((m+j:Nat):Int)
 |[],m,x,v,h=>nomatch h
 |f::r,m,x,v,h=>by
  rw[lE]at h;rw[zi]at h;cases e:x==f.k with
  |true=>rw[e]at h; exact⟨0,f,rfl,eq_of_beq e,(Ag h).symm⟩
  |false =>rw[e]at h;obtain⟨j,g,h1,h2,h3⟩:=og r (m+1) x v h;exact⟨j+1,g,h1,h2,by rw[h3,zH,zI 1]⟩
theorem xR{nx i:Nat}(hi:i<nx)(h:hp i=.list vs)(hl:vs.length<=HC):kP hp nx (.ref i) (some (.int (j:Nat))) none none=some (.lst (vs.drop j)):=by show((items? hp nx (.ref i)).bind λvs=>RQ vs (some (j:Int)) none none)=_;rw[b5 hi h];show(if(0:Int)<=j then(if vs.length<=HC then some (AV.lst (vs.drop (j:Int).toNat))else none)else none)=_;rw[yo (zo j),yo hl,zK]
variable{fin:yk Int}
theorem Dp.ring{su:Int->yk Int}{f:Fe}(D:Dp su fin [f.k] seen stk)(h:stk[j]?=some f) :
  2<=((stk.map (·.k)).drop j++[f.k]).length/\(∀z,((stk.map (·.k)).drop j++[f.k]).head?=some z->((stk.map (·.k)).drop j++[f.k]).getLast?=some z)/\Sb su ((stk.map (·.k)).drop j++[f.k]):=by
 have hj:=(y2.mp h).1;have e:(stk.map (·.k)).drop j++[f.k]=(stk.map (·.k)++[f.k]).drop j:=(List.drop_append_of_le_length (by rw[yE]; exact zz hj)).symm;refine⟨?_,λz hz =>?_,?_⟩
 ·rw[yV,B8,yE]; exact AR (DP hj)
 ·rw[e,List.head?_drop,gO (z:=f.k) (by rw[zB,h]; rfl)]at hz;rw[Gz]; exact hz
 ·rw[e]; intro i a b ha hb;rw[EK]at ha hb;exact D.p (j+i) a b ha hb
inductive jM(G:SG)(b:Nat)(hp0:Nat->AO)(seen:yk Int)(x:Int)(m:Nat)(O':St):Prop
 |mk (seen':_) (stk:_) (y:_) (u0:m=fy G.keys seen'*202+fg G stk) (u1:Iq G b hp0 O' seen' stk) (u2:gW G b O'.loc) (u3:y∈G.keys) (u4:O'.loc (Sx "node")=some (.int y)) (fin:yk Int) (u5:Dp G.su fin [y] seen' stk) (u6:∀z∈seen,z∈seen') (u7:x∈seen'\/x=y)
theorem xN(C:ak)  (hL:50000<=LL)(g:Gr G b hp0)(D:Iq G b hp0 O seen [])(dl:gW G b O.loc)(hx:x∈G.keys)(hnode:O.loc (Sx "node")=some (.int x))
  (dp:Dp G.su fin [] seen []) (hend:∀O' seen' fin,Dp G.su fin [] seen' []->(∀z∈seen,z∈seen')->x∈seen'->Iq G b hp0 O' seen' []->gW G b O'.loc->Q .next O')
  (hring:∀O' seen' stk (ring:yk Int),Iq G b hp0 O' seen' stk->2<=ring.length->ring.length<=500->(∀z,ring.head?=some z->ring.getLast?=some z)->Sb G.su ring->Q (.ret (.lst (ring.map .int))) O') :
  Ok (bm (Ji (cst (.bool true))) (cC C) (M.ret .next) LL) O Q:=by
 have hgl:=g.len;have hu0:fy G.keys seen<=100:=yn (Bs _ _) hgl;refine cO (jM G b hp0 seen x)
  (λm O' hI =>?_) LL (fy G.keys seen*202+fg G []) O (by simp[fg]; lia) ⟨seen,[],x,rfl,D,dl,hx,hnode,fin,dp.start,λZ h=>h,.inr rfl⟩
 obtain⟨seen',stk,y,hm,D',dl',hy,hn',fin',dp',hse,hxy⟩:=hI;have hsl:=D'.JF;have hsel:=D'.Ki;have hnx:=D'.nx
 try simp only[gk,Q5,K0,th,Hh,exists_eq_left',AW,kX,Uk,Uj,pJ,uV,KY,Of,tQ,jl,kt,jT]
 unfold cC;refine(let QQ:=_; (?_:Ok _ _ QQ));rw[kX,pJ,kZ,cJ];refine⟨_,hn',?_⟩;rw[cJ];refine⟨_,dl'.seen,_,vi y (show b+2<O'.nx by lia) D'.e_,?_⟩;have rest:∀(σ2:St) (seen2:yk Int) (stk2:yk Fe) (R:ac->St->Prop) (fin2:yk Int),Dp G.su fin2 [] seen2 stk2->(∀z∈seen,z∈seen2)->x∈seen2->Iq G b hp0 σ2 seen2 stk2->gW G b σ2.loc->fy G.keys seen2*202+fg G stk2<=m->(∀σ3,Q .next σ3->R .brk σ3) ->
   (∀σ3,(∃m',m'<m/\jM G b hp0 seen x m' σ3)->R .next σ3) ->
   Ok (bm (Ji (aa (Sx "stack"))) (aY C) (af (M.ret .brk) (M.ret .next)) LL) σ2 λ(f:ac) O'=>match f with
    |.next=>Ok (M.ret .next) O' R
    |f=>R f O':=by
  intro σ2 seen2 stk2 R fin2 dp2 se2 x2 D2 dl2 hle hR1 hR2;have h2l:=D2.JF;refine xO C (by lia) g D2 dl2 (by exact yn (by assumption) (by assumption)) dp2 (λσ3 fin3 dp3 D3 dl3=>hR1 _ (hend σ3 _ fin3 dp3 se2 x2 D3 dl3)) (λσ3 pre f z fin3 dp3 D3 hpre dl3 hz hsu =>?_);show R .next σ3;refine hR2 _ ?_;have hplt:f.p<(G.su f.k).length:=(y2.mp hsu).1;have hfm:f∈stk2:=List.IsPrefix.subset hpre (by simp);obtain⟨k1,k2,k3⟩:=D2.fk f hfm;have hzm:z∈G.su f.k:=zy hsu;have z1:=g.sub f.k k1 z hzm;have hw1:=qm G _ _ hpre;rw[iI]at hw1;refine⟨fy G.keys seen2*202+fg G (pre++[{f with p:=f.p+1}]),?_,seen2,_,z,rfl,D3,dl3,z1,hz,fin3,dp3,se2,.inl x2⟩;rw[iI]; exact yv (y8 (yv (y8 (GX (Nat.mul_lt_mul_of_pos_left (Ha hplt (yK _)) (by decide)) 1) _) hw1) _) hle
 have fin:∀(σ2:St) (seen2:yk Int) (stk2:yk Fe) (fin2:yk Int),Dp G.su fin2 [] seen2 stk2->(∀z∈seen,z∈seen2)->x∈seen2->Iq G b hp0 σ2 seen2 stk2->gW G b σ2.loc->fy G.keys seen2*202+fg G stk2<=m ->
   Ok (af (bm (Ji (aa (Sx "stack"))) (aY C) (af (M.ret .brk) (M.ret .next)) LL) (M.ret .next)) σ2 λ(f:ac) σ3=>match f with
    |.next=>∃m',m'<m/\jM G b hp0 seen x m' σ3
    |.cont=>∃m',m'<m/\jM G b hp0 seen x m' σ3
    |.brk=>Q .next σ3
    |.ret v=>Q (.ret v) σ3:=by
  intro σ2 seen2 stk2 fin2 dp2 se2 x2 D2 dl2 hle;rw[kX];exact rest σ2 seen2 stk2 _ fin2 dp2 se2 x2 D2 dl2 hle (λZ h=>h) (λZ h=>h)
 by_cases hs:y∈seen'
 ·have hc:seen'.contains y=true:=by simpa using hs
  obtain⟨ver,hmm⟩:=D'.m_;rw[hc,yo rfl];have hxs:x∈seen':=hxy.elim id λe=>e▸hs;refine(let QQ:=_; (?_:Ok _ _ QQ));rw[kX,pJ,kZ,cJ];refine⟨_,hn',?_⟩;rw[cJ];refine⟨_,dl'.S6,_,Lw y (show b+3<O'.nx by lia) hmm,?_⟩;cases HR:(fG stk 0).lookup y with
  |none =>
   rw[show(none:yl AV).isSome=false from rfl,ym (by simp)];have hny:y∉stk.map (·.k):=λh=>by have:=gh stk 0 y;rw[HR,zp.mpr h]at this; cases this
   exact fin O' seen' stk fin' (dp'.skip ((dp'.s y hs).resolve_right hny)) hse hxs D' dl' (by lia)
  |some v =>obtain⟨j,f,hj,rfl,rfl⟩:=og stk 0 y v HR;rw[zM]at HR;rw[show(some (AV.int ((0+j:Nat):Int))).isSome=true from rfl,yo rfl];have ring:=dp'.ring hj;obtain⟨l,h,n⟩:=O';refine sR (v:=.lst (((stk.map (·.k)).drop j++[f.k]).map .int)) (V.bin (V.cut (V.l dl'.stack) (V.opt (V.idx (V.l dl'.S6) (V.l hn') (Gd.dict (yv (y8 (by decide) b) hnx) hmm HR))) V.r V.r (xR (yv (Bf (by decide)) hnx) D'.s_ (by rw[yE]; exact yn hsl (yn hgl (by decide))))) (V.lst (V.cons (V.l hn') V.nil) (show 1<=HC by decide)) ?_) (hring _ seen' stk _ D' ring.1 (by rw[yV,B8,yE]; exact yn (AG (yn (Ci ..) (yn hsl hgl)) 1) (by decide)) ring.2.1 ring.2.2);rw[yN,List.map_drop,zq];exact yo (y9 (by rw[B8,yE]; exact yn (AG (yn (Ci ..) (yn hsl hgl)) 1) (by decide)))
 ·have hc:seen'.contains y=false:=by simpa using hs
  rw[hc,ym (by simp)];refine MF C g D' dl' (by exact yn (by assumption) (by assumption)) (by exact yn (by assumption) (by assumption)) hy hs hn' λσ2 it nw D2 dl2 =>?_;refine fin σ2 _ _ fin' (dp'.push (f:=⟨y,0,it,nw⟩) rfl) (λz hz=>z0 _ (hse z hz)) (hxy.elim (λh=>z0 _ h) λe=>e▸bx) D2 dl2 ?_;have h1:=vX hy hs;have h2:=g.Ui y;rw[iI,hm];dsimp only;rw[zI (fg _ _),<-zH];exact AG (yn (zO (yn (AR (Af 2 h2)) (by decide)) _) (yn (zj (E9 ..).symm) (CT 202 h1))) _
theorem xE:T2.meths (Sx "_find_cycle")=some (bH (Sx "_find_cycle")):=by kernel_rfl
section
variable{r:M ac}{x:Str}
theorem qF{o:AO}(k:∀h',h' n=o->(∀j,j≠n->h' j=h j)->Ok r ⟨ai l x (some (.ref n)),h',n+1⟩ Q):Ok (af (aA (bO o) [an x]) r) ⟨l,h,n⟩ Q:=k _ (yo rfl) λj hj=>ym hj
theorem UT(k:∀h',h' n=.set []->(∀j,j≠n->h' j=h j)->Ok r ⟨ai l x (some (.ref n)),h',n+1⟩ Q):Ok (af (aA (ay "set" (aj [])) [an x]) r) ⟨l,h,n⟩ Q:=by
 have e:yT (bM "set" []) ⟨l,h,n⟩ (λv σ1=>Ok r ⟨ai σ1.loc x (some v),σ1.hp,σ1.nx⟩ Q):=by rw[pL];exact k _ (yo rfl) λj hj=>ym hj
 exact e
theorem Vo(k:Q .cont O):Ok (af (M.ret .cont) r) O Q:=k
end
theorem Iq.locs(D:Iq G b hp0 O seen stk)(l:Str->yl AV):Iq G b hp0 ⟨l,O.hp,O.nx⟩ seen stk:=⟨D.old,D.nx,D.s_,D.t_,D.e_,D.m_,D.fk,D.fi,D.fn,D.dist,D.inc,D.sk,D.snd⟩
inductive s0(O:St)(G:SG)(r:yk AV)(O':St):Prop
 |mk (seen rest:yk Int) (u0:r=rest.map AV.int) (u1:(∀x∈rest,x∈G.keys)) (u2:Iq G O.nx O.hp O' seen []) (u3:gW G O.nx O'.loc) (fin:yk Int) (u4:Dp G.su fin [] seen []) (u5:∀k∈G.keys,k∈seen\/k∈rest)
variable{D:Nat}
theorem nI(hD:1<=D)(hL:50000<=LL){i:Nat}(h:Rep O i G)(hsub:∀k∈G.keys,∀y∈G.su k,y∈G.keys)(hlen:G.keys.length<=100)(hsl:∀k,(G.su k).length<=100){Q:AV->St->Prop}
  (hQ:∀O' fin,kc O O'->(∀k∈G.keys,k∈fin)->(∀a x b,fin=a++x::b->∀y∈G.su x,y∈a)->Q .none O')
  (hR:∀O' (ring:yk Int),kc O O'->2<=ring.length->ring.length<=500->(∀z,ring.head?=some z->ring.getLast?=some z)->Sb G.su ring->Q (.lst (ring.map .int)) O'):Ok (aJ T2 LL 40 D (bH (Sx "_find_cycle")) [.ref i] []) O Q:=by
 obtain⟨dd,rfl⟩:=ge (yn (by decide) hD);have hb:aM (bH (Sx "_find_cycle")) [.ref i] []=some [(Sx "self",.ref i)]:=by kernel_rfl
 refine bA hb (iw _) ?_;clear hb;unfold ga;refine(let QQ:=_; (?_:Ok _ _ QQ));obtain⟨ver,hver⟩:=h.nh;have g:Gr G O.nx O.hp:=⟨h.n_,h.nh,h.r_,h.rh,h.q_,h.qh,hsub,hlen,h.nd,hsl⟩;have hkeys:((bY G).map λp=>AV.int p.1)=G.keys.map AV.int:=by simp[bY]
 refine s1 (V.n2 (h.loc _) (by repeat' infer_instance)) (qF λh1 a1 o1=>qF λh2 a2 o2=>UT λh3 a3 o3=>qF λh4 a4 o4 =>?_);have e1:∀j,j<O.nx->h4 j=O.hp j:=λj hj=>(o4 j (yA (zV 3 hj))).trans ((o3 j (yA (zV 2 hj))).trans ((o2 j (yA (zV 1 hj))).trans (o1 j (yA hj))));refine sL (V.UH (by exact zV 4 h.n_) ((e1 _ h.n_).trans hver) (by repeat' infer_instance)) ?_;show Ok (bt (du G.n ver) _ _) _ _;rw[hkeys];refine br (s0 O G) (λv r O' hI =>?_) (λO' hI =>?_) _ _
  ⟨[],G.keys,rfl,λZ h=>h,⟨e1,yF _,(o4 _ (bne (i:=0) (j:=3) (by decide))).trans ((o3 _ (bne (i:=0) (j:=2) (by decide))).trans ((o2 _ (bne (i:=0) (j:=1) (by decide))).trans a1)),(o4 _ (bne (i:=1) (j:=3) (by decide))).trans ((o3 _ (bne (i:=1) (j:=2) (by decide))).trans a2),(o4 _ (bne (i:=2) (j:=3) (by decide))).trans a3,⟨0,a4⟩,nm,nm,nm,.nil,.nil,nm,.nil⟩,⟨by repeat' infer_instance,by repeat' infer_instance,by repeat' infer_instance,by repeat' infer_instance,by repeat' infer_instance⟩,[],⟨λZ Z h=>nn h,λZ Z Z h=>nn h,nm,λa x b h=>by cases a<;>cases h⟩,λk hk=>.inr hk⟩
 ·refine(let QQ:=_; (?_:Ok _ _ QQ));obtain⟨seen,rest,e,hr,D',dl',fin,dp',al⟩:=hI;cases rest with
  |nil=>simp at e
  |cons x rest =>
   simp only[za,AM]at e;obtain⟨rfl,rfl⟩:=e;have HE:∀σ2 seen2 fin2,Dp G.su fin2 [] seen2 []->(∀z∈seen,z∈seen2)->x∈seen2->Iq G O.nx O.hp σ2 seen2 []->gW G O.nx σ2.loc->Ok (du G.n ver) σ2 λZ σ3=>s0 O G (rest.map AV.int) σ3:=by intro σ2 seen2 fin2 dp2 se2 x2 D2 dl2;exact g9 (kvs:=bY G) (yv h.n_ (yn (yH _ _) D2.nx)) ((D2.old _ h.n_).trans hver) ⟨seen2,rest,rfl,λy hy=>hr y (zS _ hy),D2,dl2,fin2,dp2,λk hk=>(al k hk).elim (λh=>.inl (se2 k h)) λh=>(yP.mp h).elim (λe=>.inl (e▸x2)) .inr⟩
   have dn:=dl'.node (some (.int x));have v1:V (aG .In (aa (Sx "node")) (aa (Sx "seen"))) ⟨ai O'.loc (Sx "node") (some (.int x)),O'.hp,O'.nx⟩ (seen.contains x):=V.cmp (by repeat' infer_instance) (V.l dn.seen) (vi x (yv (y8 (by decide) _) D'.nx) D'.e_);refine bL ?_;unfold ei;by_cases hs:x∈seen
   ·rw[zp.mpr hs]at v1;exact sT v1 (sS (Vo (HE _ _ fin dp' (λZ h=>h) hs (D'.locs _) dn)))
   ·rw[show seen.contains x=false by simpa using hs]at v1;exact sF v1 (sN (xN _ hL g (D'.locs (ai O'.loc (Sx "node") (some (.int x)))) dn (hr x (yY ..)) (by repeat' infer_instance) dp' (λσ2 seen2 fin2 dp2 se2 x2 D2 dl2=>HE _ _ fin2 dp2 se2 x2 D2 dl2) λσ2 seen2 stk2 ring D2 r1 r2 r3 r4=>hR _ ring ⟨rfl,yn (yH _ _) D2.nx,λj hj=>D2.old j hj⟩ r1 r2 r3 r4))
 ·obtain⟨seen,rest,e,hr,D',dl',fin,dp',al⟩:=hI;refine hQ _ fin ⟨rfl,yn (yH _ _) D'.nx,λj hj=>D'.old j hj⟩ (λk hk =>?_) dp'.o;have hr0:rest=[]:=by cases rest<;>first|rfl|cases e
  subst hr0;rcases al k hk with h|h
  ·exact(dp'.s k h).resolve_right nofun
  ·cases h
structure bT(O:St)(i:Nat)(G:SG)(r:Nat)(O':St)(G':SG):Prop where
 rep:Rep O' i G'
 nx:O'.nx=O.nx
 hp:∀j,¬fu G i j->j≠r->O'.hp j=O.hp j
 d:G'.d=G.d
 n:G'.n=G.n
 R:G'.R=G.R
 Q:G'.Q=G.Q
 keys:G'.keys=G.keys
 su:G'.su=G.su
 rd:G'.rd=G.rd
variable{O':St}{G':SG}
theorem bT.foot{i r:Nat}(s:bT O i G r O' G')(j:Nat):fu G' i j↔fu G i j:=by unfold fu; rw[s.d,s.n,s.R,s.Q,s.keys]
variable{σ1:St}
theorem bT.trans{σ2:St}{i r:Nat}{G1 G2:SG}(a:bT O i G r σ1 G1)(b:bT σ1 i G1 r σ2 G2):bT O i G r σ2 G2 :=
 ⟨b.rep,b.nx.trans a.nx,λj h1 h2=>(b.hp j (λh=>h1 ((a.foot j).mp h)) h2).trans (a.hp j h1 h2),b.d.trans a.d,b.n.trans a.n,b.R.trans a.R,b.Q.trans a.Q,b.keys.trans a.keys,b.su.trans a.su,b.rd.trans a.rd⟩
theorem bT.refl{i r:Nat}(h:Rep O i G):bT O i G r O G:=⟨h,rfl,λZ Z Z=>rfl,rfl,rfl,rfl,rfl,rfl,rfl,rfl⟩
theorem bT.locs{i r:Nat}(a:bT O i G r O' G')(l l':Str->yl AV):bT {O with loc:=l} i G r {O' with loc:=l'} G':=⟨a.rep.loc l',a.nx,a.hp,a.d,a.n,a.R,a.Q,a.keys,a.su,a.rd⟩
theorem bT.IU{i r:Nat}(h:Rep O i G){k:Int}(hk:k∈G.keys){dd:Nat}(v:Int) :
  bT O i G r {O with hp:=upd O.hp (G.R k) (.node dd (some (.int k)) (some (.int v)) (some (.ref (G.Q k))))} {G with np:=bD G.np k v} :=
 ⟨h.IU hk v,rfl,λj hf Z=>by
  show upd _ _ _ j=_;rw[bc,ym (λe=>hf (.inr (.inr (.inr ⟨k,hk,.inl e⟩))))],rfl,rfl,rfl,rfl,rfl,rfl,rfl⟩
theorem bT.PX{i r:Nat}(h:Rep O i G)(hr:G.rd=.ref r)(hl:∃us,O.hp r=.list us)(vs:yk AV):bT O i G r {O with hp:=upd O.hp r (.list vs)} G:=by
 obtain⟨us,hl⟩:=hl;refine⟨⟨h.i_,?_,h.d_,?_,h.n_,?_,h.r_,λk hk =>?_,h.q_,λk hk =>?_,h.inj,h.nd,h.clean,h.QP⟩,rfl,λj Z h2=>by show upd _ _ _ j=_; rw[bc,ym h2],rfl,rfl,rfl,rfl,rfl,rfl,rfl⟩
 ·show upd _ _ _ i=_; rw[bc,ym (λe=>by have:=h.ih; rw[e,hl]at this; cases this)]; exact h.ih
 ·show upd _ _ _ G.d=_; rw[bc,ym (λe=>by have:=h.dh; rw[e,hl]at this; cases this)]; exact h.dh
 ·obtain⟨ver,e1⟩:=h.nh; exact⟨ver,by show upd _ _ _ G.n=_; rw[bc,ym (λe=>by rw[e,hl]at e1; cases e1)]; exact e1⟩
 ·obtain⟨dd,e1⟩:=h.rh k hk; exact⟨dd,by show upd _ _ _ (G.R k)=_; rw[bc,ym (λe=>by rw[e,hl]at e1; cases e1)]; exact e1⟩
 ·show upd _ _ _ (G.Q k)=_; rw[bc,ym (h.QP r hr k hk)]; exact h.qh k hk
theorem Rep.Ig{i:Nat}(h:Rep O i G)(rd:AV)(po fi:Int)(hrd:∀r,rd=.ref r->∀k∈G.keys,G.Q k≠r) :
  Rep {O with hp:=upd O.hp G.d (.attrs (dA {G with rd:=rd,po:=po,fi:=fi}))} i {G with rd:=rd,po:=po,fi:=fi}:=by
 refine⟨h.i_,?_,h.d_,?_,h.n_,?_,h.r_,λk hk =>?_,h.q_,λk hk =>?_,h.inj,h.nd,h.clean,hrd⟩
 ·show upd _ _ _ i=_; rw[bc,ym h.Ry]; exact h.ih
 ·show upd _ _ _ G.d=_; rw[bc,yo rfl]
 ·obtain⟨ver,e1⟩:=h.nh; exact⟨ver,by show upd _ _ _ G.n=_; rw[bc,ym h.MI.symm]; exact e1⟩
 ·obtain⟨dd,e1⟩:=h.rh k hk; exact⟨dd,by show upd _ _ _ (G.R k)=_; rw[bc,ym (h.Nd hk)]; exact e1⟩
 ·show upd _ _ _ (G.Q k)=_; rw[bc,ym (h.Nj hk)]; exact h.qh k hk
theorem bT.Ig{i r:Nat}(h:Rep O i G)(po fi:Int):bT O i G r {O with hp:=upd O.hp G.d (.attrs (dA {G with po:=po,fi:=fi}))} {G with po:=po,fi:=fi} :=
 ⟨h.Ig G.rd po fi h.QP,rfl,λj hf Z=>by show upd _ _ _ j=_; rw[bc,ym (λe=>hf (.inr (.inl e)))],rfl,rfl,rfl,rfl,rfl,rfl,rfl⟩
theorem QS{r:Nat}:cq (dA G) (Sx "_ready_nodes") (.ref r)=dA {G with rd:=.ref r}:=by kernel_rfl
noncomputable def OE(m:M α)(O:St)(Q:α->St->Prop)(E:AX->St->Prop):Prop:=yT m.m O Q\/Er m O E
variable{a:M ac}{E:AX->St->Prop}
theorem OE.s{r:M ac}(h:Ok a O λf σ1=>f=.next/\OE r σ1 Q E):OE (af a r) O Q E:=by
 obtain⟨f,σ1,e,rfl,h⟩:=h.out;have key:(af a r).m O=r.m σ1:=by show yJ _ _ O=_;unfold yJ; rw[e]; rfl
 rcases h with h|⟨x,O',e1,h⟩
 ·obtain⟨f,σ2,e2,hq⟩:=h.out;exact .inl (zZ (key.trans e2) hq)
 ·exact .inr ⟨x,O',key.trans e1,h⟩
theorem Er.s{r:M ac}(h:Er a O E):Er (af a r) O E:=by obtain⟨x,O',e,h⟩:=h;refine⟨x,O',?_,h⟩;show yJ _ _ O=_;unfold yJ; rw[e]
variable{m:M α}
theorem V.eq{v:α}(h:V m O v):m.m O=some (.ok v O):=by obtain⟨u,s,e,rfl,rfl⟩:=(h (λu s=>u=v/\s=O) ⟨rfl,rfl⟩:Ok m O _).out;exact e
variable{t:M yx}
theorem Er.i{b:M ac}(ht:V t O true)(h:Er a O E):Er (HX t a b) O E:=by obtain⟨x,O',e,h⟩:=h;refine⟨x,O',?_,h⟩;show yJ _ _ O=_;unfold yJ; rw[ht.eq]; exact e
theorem Er.r{a:M (yk AV)}(ha:V a O vs)(hl:vs.length<=HC)(h:E (.cycle vs) O):Er (Ks a) O E:=by refine⟨_,O,?_,h⟩;show yJ _ _ O=_;unfold yJ; rw[ha.eq];show(if vs.length<=HC then pn (.cycle vs)else AL) O=_;rw[yo hl]; rfl
theorem Ol{d:Nat}{fd:ax}{pos:yk AV}{bs:yk (Str×AV)}{m:M ac}(hb:aM fd pos []=some bs)(he:(Iw T2 (cm (aJ T2 LL 40 d)) LL 40).HK ⟨fd.scope,λZ=>none,false,false⟩ fd.body=m.m){Q:AV->St->Prop}
  (h:OE m {O with loc:=λx=>bs.lookup x} (λfl O'=>Q (Md fl) {O' with loc:=O.loc}) λx O'=>(∃vs,x=.cycle vs)/\E x {O' with loc:=O.loc}):OE (aJ T2 LL 40 (d+1) fd pos []) O Q E:=by
 have he':(Iw T2 (Dr T2 LL 40 d) LL 40).HK ⟨fd.scope,λZ=>none,false,false⟩ fd.body=m.m:=he;have key:(aJ T2 LL 40 (d+1) fd pos []).m O=eB (Iw T2 (Dr T2 LL 40 d) LL 40).HK fd pos [] O:=rfl;unfold eB at key;rw[hb]at key;dsimp only at key;rw[he']at key;rcases h with h|⟨x,O',e,⟨vs,rfl⟩,h⟩
 ·obtain⟨fl,O',e,hq⟩:=h.out;rw[e]at key;refine .inl (zZ (key.trans ?_) hq);cases fl<;>rfl
 ·rw[e]at key;exact .inr ⟨_,_,key,h⟩
noncomputable def Pin.all(O:St):Pin:=λj=>if j<O.nx then some (O.hp j)else none
theorem Pin.HL:(Pin.all O).at O:=λj o e=>by
 unfold Pin.all at e;split at e
 ·exact⟨by assumption,si e⟩
 ·exact nn e
theorem Pin.HH{o:AO}(h:j<O.nx)(e:O.hp j=o):Pin.all O j=some o:=(yo h).trans (yI some e)
theorem Pin.M9{w1:Pin}(h:(Pin.all O).le w1)(a:w1.at σ1):O.nx<=σ1.nx/\∀j,j<O.nx->σ1.hp j=O.hp j:=by have key:∀j,j<O.nx->j<σ1.nx/\σ1.hp j=O.hp j:=λj hj=>a j _ (h j _ (Pin.HH hj rfl));refine⟨zr λq =>?_,λj hj=>(key j hj).2⟩;exact zt _ (key _ q).1
variable{w:Pin}
theorem P.v{v:α}(h:∀w1 O,w.le w1->w1.at O->Ll l O.loc->V m O v):P w l m (Fl v):=λw1 O a b c=>h w1 O a b c _ ⟨w1,.refl b,λZ Z=>rfl⟩
theorem iF{b:M ac}(ht:V t O false)(k:Ok b O Q):Ok (HX t a b) O Q:=ht _ k
theorem iT{b:M ac}(ht:V t O true)(k:Ok a O Q):Ok (HX t a b) O Q:=ht _ k
theorem aS{ts:yk (AV->M yu)}(h:Ok e O λv σ1=>Ok (j7 ts v) σ1 λZ σ2=>Q .next σ2):Ok (aA e ts) O Q:=h
theorem P.UQ{a:Str}{v:AV}{ob:AO}(ho:P w l o (Fl (.ref j)))(hw:w j=some ob)(h:∀O:St,j<O.nx->O.hp j=ob->B (be (.ref j) a) O v):P w l (aW o a) (Fl v):=ho.bind λw' u z q=>by cases q w' .refl;exact P.up λw1 O z1 r=>h O (r j _ (z1 _ _ (z _ _ hw))).1 (r j _ (z1 _ _ (z _ _ hw))).2
theorem P.vals(ho:P w l o (Fl (.ref j)))(hw:w j=some (.dict kvs ver)):P w l (uF o) (It (kvs.map (·.2))):=ho.bind λw' u z q=>by cases q w' .refl;intro w1 O a b c;have e:=b j _ (a _ _ (z _ _ hw));show yT (yJ (CB j) λob=>yJ (zE ob.HM) λd=>zu (aw.H7 j d.2 (d.1.map λp=>p.2))) O _;exact IE e.1 (HS (a:=(kvs,ver)) (by rw[e.2]; rfl) ⟨w1,.refl b,λw3 z3=>.Tz j ver kvs rfl (z3 _ _ (a _ _ (z _ _ hw)))⟩)
structure Pr(O:St)(i:Nat)(G:SG)(r:Nat)(O':St):Prop where
 rep:Rep O' i {G with rd:=.ref r}
 new:O.nx<=r
 lt:r<O'.nx
 at_:O'.hp r=.list ((G.keys.filter λk=>G.np k==0).map AV.int)
 loc:O'.loc=O.loc
 nx:O.nx<=O'.nx
 hp:∀j,j<O.nx->j≠G.d->O'.hp j=O.hp j
theorem tR(hD:2<=D)(hL:50000<=LL){i:Nat}(h:Rep O i G)(hrd:G.rd=.none)(hsub:∀k∈G.keys,∀y∈G.su k,y∈G.keys)(hlen:G.keys.length<=100)(hsl:∀k,(G.su k).length<=100) :
  OE (aJ T2 LL 40 D (bH (Sx "prepare")) [.ref i] []) O (λv O'=>∃r fin,Pr O i G r O'/\(∀k∈G.keys,k∈fin)/\∀a x b,fin=a++x::b->∀y∈G.su x,y∈a)
   λx O'=>∃r ring s,x=.cycle [.str s,.lst (ring.map .int)]/\Pr O i G r O'/\2<=ring.length/\ring.length<=500/\(∀z,ring.head?=some z->ring.getLast?=some z)/\Sb G.su ring:=by
 obtain⟨dd,rfl⟩:=ge (yn (by decide) hD);have hb:aM (bH (Sx "prepare")) [.ref i] []=some [(Sx "self",.ref i)]:=by kernel_rfl
 refine Ol hb (kN _) ?_;clear hb;delta jc;obtain⟨ver,hver⟩:=h.nh;have R:=h.loc λx=>[(Sx "self",AV.ref i)].lookup x;refine .s (iF (V.cmp (V.rd R (by repeat' infer_instance) hrd) V.c Lg) ⟨rfl,.s (aS ?_)⟩);have hn:Pin.all ⟨λx=>[(Sx "self",AV.ref i)].lookup x,O.hp,O.nx⟩ G.n=some (.dict (bY G) ver):=Pin.HH h.n_ hver;have hat:P (Pin.all ⟨λx=>[(Sx "self",AV.ref i)].lookup x,O.hp,O.nx⟩) (λx=>[(Sx "self",AV.ref i)].lookup x) (aW (aa (Sx "self")) (Sx "_node2info")) (Fl (.ref G.n)) :=
  P.v λw1 σ1 a b c=>V.n2 (i:=i) (R.frame (O':=σ1) (Pin.M9 a b).1 λj hj Z=>(Pin.M9 a b).2 j hj) (V.l (c _ _ (by repeat' infer_instance)))
 have hvals:(bY G).map (·.2)=G.keys.map λk=>AV.ref (G.R k):=by simp[bY]
 refine mS (S:=λw us=>Fm (JD (λk=>G.np k==0) λk w us=>∃u,us=[u]/\Fl (AV.int k) w u) w G.keys us) (n:=1*G.keys.length) (by rw[DL]; exact yn hlen (by decide)) (hvals▸hat.vals hn)
  (λσ0 w' it i' c1 c2 c3=>Em.loop (n:=1) rfl c3 (yR hlen (yv (by decide) hL)) (λk hk =>?_) λk hk hp=>.one ?_) .refl Pin.HL (λZ Z e=>e) λw2 σ2 j us x1 x2 x3 x4 x5 x6 =>?_
 ·obtain⟨d',e⟩:=h.rh k hk;exact P.t (P.UQ (P.g L0) (c2 _ _ (Pin.HH (h.r_ k hk) e)) λσ1 a b=>B.nP a b rfl) P.c (Cc.fl λhp nx=>dt ..)
 ·obtain⟨d',e⟩:=h.rh k hk;exact P.UQ (P.g L0) (c2 _ _ (Pin.HH (h.r_ k hk) e)) λσ1 a b=>B.nN a b rfl
 ·refine(let QQ:=_; (?_:Ok _ _ QQ));have hus:=(x6 w2 .refl).fm;subst hus;obtain⟨l2,h2,n2⟩:=σ2;obtain rfl:l2=_:=x1.grow.loc;have r2:=h.frame (O':=⟨λx=>[(Sx "self",AV.ref i)].lookup x,h2,n2⟩) x1.grow.nx λj hj Z=>x1.grow.hp j hj;refine(V.l (x:=Sx "self") (v:=.ref i) (by repeat' infer_instance)) _ (dF r2.i_ r2.d_ r2.ih r2.dh (by kernel_rfl) ?_);rw[QS];have hjq:∀k∈G.keys,G.Q k≠j:=λk hk=>yA (yv (h.q_ k hk) x3);have r3:=r2.Ig (.ref j) G.po G.fi (λr hr k hk=>by cases hr; exact hjq k hk);have jd:j≠G.d:=zk (yv h.d_ x3);refine tN ⟨rfl,?_⟩;refine hdZ λGG hGG =>?_;obtain⟨v,σ3,e3,g3,h3⟩:=Ok.out (nI (D:=dd) (G:={G with rd:=.ref j}) (Q:=λv σ3=>kc ⟨λx=>[(Sx "self",AV.ref i)].lookup x,upd h2 G.d (.attrs (dA {G with rd:=.ref j})),n2⟩ σ3/\((v=.none/\∃fin:yk Int,(∀k∈G.keys,k∈fin)/\∀a x b,fin=a++x::b->∀y∈G.su x,y∈a) \/
   ∃ring:yk Int,v=.lst (ring.map .int)/\2<=ring.length/\ring.length<=500/\(∀z,ring.head?=some z->ring.getLast?=some z)/\Sb G.su ring)) (Ca hD) hL r3 hsub hlen hsl (λσ4 fin g a b=>⟨g,.inl ⟨rfl,fin,a,b⟩⟩) λσ4 ring g a b c d=>⟨g,.inr ⟨ring,rfl,a,b,c,d⟩⟩)
  refine hGG ?_;have pr:Pr O i G j ⟨O.loc,σ3.hp,σ3.nx⟩:=⟨(r3.grow g3).loc _,x3,yv x4 g3.nx,(g3.hp j x4).trans ((ym jd).trans x5),rfl,yn x1.grow.nx g3.nx,λq hq hqd=>(g3.hp q (yv hq x1.grow.nx)).trans ((ym hqd).trans (x1.grow.hp q hq))⟩;refine .s (aS (sU xE (V.l (by repeat' infer_instance)) r3.i_ r3.d_ r3.ih r3.dh rfl V.nil (zZ e3 ⟨rfl,?_⟩)));rcases h3 with⟨rfl,fin,f1,f2⟩|⟨ring,rfl,f1,f2,f3,f4⟩
  ·exact .s (iF (V.tr (V.l (by repeat' infer_instance)) rfl) ⟨rfl,.inl ⟨j,fin,pr,f1,f2⟩⟩)
  ·have hl:(ring.map AV.int).length<=HC:=by rw[yE]; exact yn f2 (by decide)
   have ht:dC σ3.hp σ3.nx (.lst (ring.map .int))=some true:=(yo hl).trans (by cases ring with|nil=>exact yD f1 (by decide)|cons _ _=>rfl);exact .inr (Er.s (Er.i (V.tr (by repeat' infer_instance) ht) (Er.s (Er.r (V.cons V.c (V.cons (by repeat' infer_instance) V.nil)) (show 2<=HC by decide) ⟨⟨_,rfl⟩,j,ring,_,rfl,pr,f1,f2,f3,f4⟩))))
structure Qy(O:St)(G:SG)(r:Nat)(l:yk Int):Prop where
 rd:G.rd=.ref r
 r_:r<O.nx
 h:O.hp r=.list (l.map .int)
end Internal.R
namespace Internal
open PySem Internal.R
theorem nM{i:Nat}{vs:yk AV}{O:St}{Q:AV->St->Prop}(hi:i<O.nx)(h:O.hp i=.list vs)(hl:vs.length<=HC)(hQ:Q (.bool (!vs.isEmpty)) O):Ok (bM "bool" [.ref i]) O Q:=by refine IL (a:=vR) (by kernel_rfl) ?_;delta vR;refine HS (o:=one? [.ref i]) (a:=.ref i) rfl ?_;refine J1 (b5 hi h) ?_;exact JR hl hQ
end Internal
namespace Internal.R
open PySem Internal
end Internal.R
namespace Internal
open PySem Internal.R
theorem mq{i:Nat}{vs:yk AV}{O:St}{Q:AV->St->Prop}(hi:i<O.nx)(h:O.hp i=.list vs)(hl:vs.length<=HC)(hQ:Q (.tup vs) O):Ok (bM "tuple" [.ref i]) O Q:=by refine IL (a:=qC) (by kernel_rfl) ?_;delta qC;refine HS (o:=one? [.ref i]) (a:=.ref i) rfl ?_;refine J1 (b5 hi h) ?_;exact JR hl hQ
end Internal
namespace Internal.R
open PySem Internal
variable{l:Str->yl AV}{h:Nat->AO}{n i r:Nat}{G:SG}{p:Int}{C:ak}{rest:M ac}{Q:ac->St->Prop}
variable{us:yk AV}
variable{e o:M AV}
variable{op:z7}{j:Int}
variable{a b:M AV}{O:St}
variable{hp:Nat->AO}{nx:Nat}
variable{vs:yk AV}
section
variable{v:Int}
theorem jq{j d:Nat}{x y z:yl AV}(hl:h r=.list us)(hn:h j=.node d x y z):r≠j:=λe=>by rw[<-e,hl]at hn; cases hn
theorem U5(R:Rep ⟨l,h,n⟩ i G)(hk:p∈G.keys)(hl:∃us,h r=.list us)(he:V e ⟨l,h,n⟩ (.int v))(ho:V o ⟨l,h,n⟩ (.ref (G.R p)))(k:∀h',bT ⟨l,h,n⟩ i G r ⟨l,h',n⟩ {G with np:=bD G.np p v}->h' r=h r->Ok rest ⟨l,h',n⟩ Q) :
  Ok (af (aA e [bo o (Sx "npredecessors")]) rest) ⟨l,h,n⟩ Q:=by
 obtain⟨d,hn⟩:=R.rh p hk;obtain⟨us,hl⟩:=hl;exact he _ (ho _ (cI (R.r_ p hk) hn (.inr (.inl ⟨rfl,k _ (bT.IU R hk v) (ym (jq hl hn))⟩))))
theorem QM(R:Rep ⟨l,h,n⟩ i G)(hk:p∈G.keys)(hl:∃us,h r=.list us)(ho:V o ⟨l,h,n⟩ (.ref (G.R p)))(he:V e ⟨l,h,n⟩ (.int j))(hc:ba op (G.np p) j=some v)(hop:(op==.Add||op==.Sub)=true)(k:∀h',bT ⟨l,h,n⟩ i G r ⟨l,h',n⟩ {G with np:=bD G.np p v}->h' r=h r->Ok rest ⟨l,h',n⟩ Q) :
  Ok (af (sJ o (Sx "npredecessors") op e) rest) ⟨l,h,n⟩ Q:=by
 obtain⟨d,hn⟩:=R.rh p hk;obtain⟨us,hl⟩:=hl;exact ho _ (cP (R.r_ p hk) hn (.inr (.inl ⟨rfl,rfl⟩)) (he _ ⟨G.np p,j,v,rfl,rfl,hc,hop,cI (R.r_ p hk) hn (.inr (.inl ⟨rfl,k _ (bT.IU R hk v) (ym (jq hl hn))⟩))⟩))
theorem oE(R:Rep ⟨l,h,n⟩ i G)(hl:h r=.list us):r≠G.d:=λe=>by have h1:=R.dh; rw[<-e]at h1; cases hl.symm.trans h1
theorem QT:cq (dA G) (Sx "_npassedout") (.int v)=dA {G with po:=v}:=by kernel_rfl
theorem QU:cq (dA G) (Sx "_nfinished") (.int v)=dA {G with fi:=v}:=by kernel_rfl
theorem QL(R:Rep ⟨l,h,n⟩ i G)(hl:∃us,h r=.list us)(ho:V o ⟨l,h,n⟩ (.ref i))(he:V e ⟨l,h,n⟩ (.int j))(hc:ba op G.po j=some v)(hop:(op==.Add||op==.Sub)=true)(k:∀h',bT ⟨l,h,n⟩ i G r ⟨l,h',n⟩ {G with po:=v}->h' r=h r->Ok rest ⟨l,h',n⟩ Q) :
  Ok (af (sJ o (Sx "_npassedout") op e) rest) ⟨l,h,n⟩ Q:=by
 obtain⟨us,hl⟩:=hl;exact ho _ (fP R.i_ R.d_ R.ih R.dh (by kernel_rfl) (LK (by kernel_rfl) (LK (by kernel_rfl) LK0)) (he _ ⟨G.po,j,v,rfl,rfl,hc,hop,dF R.i_ R.d_ R.ih R.dh (by kernel_rfl) (by rw[QT]; exact k _ (bT.Ig R v G.fi) (ym (oE R hl)))⟩))
theorem QN(R:Rep ⟨l,h,n⟩ i G)(hl:∃us,h r=.list us)(ho:V o ⟨l,h,n⟩ (.ref i))(he:V e ⟨l,h,n⟩ (.int j))(hc:ba op G.fi j=some v)(hop:(op==.Add||op==.Sub)=true)(k:∀h',bT ⟨l,h,n⟩ i G r ⟨l,h',n⟩ {G with fi:=v}->h' r=h r->Ok rest ⟨l,h',n⟩ Q) :
  Ok (af (sJ o (Sx "_nfinished") op e) rest) ⟨l,h,n⟩ Q:=by
 obtain⟨us,hl⟩:=hl;exact ho _ (fP R.i_ R.d_ R.ih R.dh (by kernel_rfl) (LK (by kernel_rfl) (LK (by kernel_rfl) (LK (by kernel_rfl) LK0))) (he _ ⟨G.fi,j,v,rfl,rfl,hc,hop,dF R.i_ R.d_ R.ih R.dh (by kernel_rfl) (by rw[QU]; exact k _ (bT.Ig R G.po v) (ym (oE R hl)))⟩))
theorem V.Ux{v:AV}(ha:V a O v)(e:dC O.hp O.nx v=some true):V (Uz a b) O v:=λQ k=>ha _ (.mk true e k)
theorem V.Uy{v w:AV}(ha:V a O v)(e:dC O.hp O.nx v=some false)(hb:V b O w):V (Uz a b) O w:=λQ k=>ha _ (.mk false e (hb _ k))
theorem Cm.lt{a b:Int}(h:a<b):AB hp nx .Lt (.int a) (.int b)=some true:=yI some (y9 h)
theorem Cm.Vy{a b:Int}(h:¬a<b):AB hp nx .Lt (.int a) (.int b)=some false:=yI some (AS h)
theorem Ut{A:M (yk AV)}{j:Nat}(ho:V o ⟨l,h,n⟩ (.ref j))(hj:j<n)(hh:h j=.list vs)(hb:vs.length<=HC)(k:Ok rest ⟨l,upd h j (.list []),n⟩ Q) :
  Ok (af (a7 (aI C o (Sx "clear") A (bw "clear" (aj [])))) rest) ⟨l,h,n⟩ Q:=wS (ho _ ⟨j,vs,rfl,hj,hh,hb,k⟩)
end
variable{D:Nat}
theorem pI(hD:1<=D){l:yk Int}(h:Rep O i G)(hr:Qy O G r l)(hl:l.length<=1000){Q:AV->St->Prop}(hQ:Q (.bool (decide (G.fi<G.po) || !l.isEmpty)) O) :
  Ok (aJ T2 LL 40 D (bH (Sx "is_active")) [.ref i] []) O Q:=by
 obtain⟨dd,rfl⟩:=ge (yn (by decide) hD);have hb:aM (bH (Sx "is_active")) [.ref i] []=some [(Sx "self",.ref i)]:=by kernel_rfl
 refine bA hb (je _) ?_;clear hb;unfold gC;have R:=h.loc λx=>[(Sx "self",AV.ref i)].lookup x;refine sF (V.cmp (V.rd R (by repeat' infer_instance) hr.rd) V.c L5) (sN ?_);by_cases hlt:G.fi<G.po
 ·rw[y9 hlt,Bool.true_or]at hQ;exact sR (V.Ux (V.Il (V.fi R (by repeat' infer_instance)) (V.po R (by repeat' infer_instance)) (Cm.lt hlt)) rfl) hQ
 ·rw[AS hlt,Ec]at hQ;refine sR (v:=.bool !l.isEmpty) (V.Uy (V.Il (V.fi R (by repeat' infer_instance)) (V.po R (by repeat' infer_instance)) (Cm.Vy hlt)) rfl ?_) hQ;refine V.b (V.cons (V.rd R (by repeat' infer_instance) hr.rd) V.nil) (λP k=>nM hr.r_ hr.h ?_ ?_)
  ·rw[yE]; exact yn hl (by decide)
  ·rw[List.isEmpty_map]; exact k
noncomputable def jh(np:Int->Int)(l:yk Int):Int->Int:=l.foldl (λnp k=>bD np k (-1)) np
inductive Nl(O:St)(i:Nat)(r:Nat)(G:SG)(l:yk Int)(rr:yk AV)(O':St):Prop
 |mk (done:_) (rest:_) (G':_) (u0:l=done++rest) (u1:rr=rest.map .int) (u2:bT O i G r {O' with loc:=O.loc} G') (u3:O'.hp r=.list (l.map .int)) (u4:G'.np=jh G.np done) (u5:G'.po=G.po) (u6:G'.fi=G.fi) (u7:O'.loc (Sx "self")=some (.ref i)) (u8:O'.loc (Sx "n2i")=some (.ref G.n)) (u9:O'.loc (Sx "result")=some (.tup (l.map .int)))
theorem pK(hD:1<=D){l:yk Int}(h:Rep O i G)(hr:Qy O G r l)(hl:l.length<=1000)(hk:∀k∈l,k∈G.keys){Q:AV->St->Prop}
  (hQ:∀O' G',bT O i G r O' G'->Qy O' G' r []->G'.np=jh G.np l->G'.po=G.po+l.length->G'.fi=G.fi->O'.loc=O.loc->Q (.tup (l.map .int)) O') :
  Ok (aJ T2 LL 40 D (bH (Sx "get_ready")) [.ref i] []) O Q:=by
 obtain⟨dd,rfl⟩:=ge (yn (by decide) hD);have hb:aM (bH (Sx "get_ready")) [.ref i] []=some [(Sx "self",.ref i)]:=by kernel_rfl
 refine bA hb (jf _) ?_;clear hb;unfold gD;have hl':(l.map AV.int).length<=HC:=by rw[yE]; exact yn hl (by decide)
 have R:=h.loc λx=>[(Sx "self",AV.ref i)].lookup x;refine sF (V.cmp (V.rd R (by repeat' infer_instance) hr.rd) V.c L5) (sN ?_);refine s1 (V.b (V.cons (V.rd R (by repeat' infer_instance) hr.rd) V.nil) (λP k=>mq hr.r_ hr.h hl' k)) ?_;refine s1 (V.n2 (h.loc _) (by repeat' infer_instance)) ?_;refine sL (V.its (by repeat' infer_instance) B.Rt) ?_;show Ok (bt (M.ret ()) _ _) _ _;refine br (Nl O i r G l)
  (λv rr O' hI =>?_) (λO' hI =>?_) _ _ ⟨[],l,G,rfl,rfl,bT.refl h,hr.h,rfl,rfl,rfl,by repeat' infer_instance,by repeat' infer_instance,by repeat' infer_instance⟩
 ·refine(let QQ:=_; (?_:Ok _ _ QQ));obtain⟨done,rest,G',e1,e2,s3,q0,q1,q2,q3,q4,q5,q6⟩:=hI;cases rest with
  |nil=>simp at e2
  |cons p rest =>
   simp only[za,AM]at e2;obtain⟨rfl,rfl⟩:=e2;have hpk:p∈G'.keys:=by rw[s3.keys]; exact hk p (by rw[e1]; simp)
   rw[<-s3.n]at q5;refine bL ?_;unfold eH;refine U5 (r:=r) (s3.rep.loc _) hpk ⟨_,q0⟩ (V.g rO) (V.info (s3.rep.loc _) hpk (by repeat' infer_instance) (by repeat' infer_instance)) λh' s4 e4=>sE ?_;rw[s3.n]at q5;refine⟨done++[p],rest,_,by simp[e1],rfl,s3.trans (s4.locs _ _),e4.trans q0,?_,q2,q3,by repeat' infer_instance,by repeat' infer_instance,by repeat' infer_instance⟩;show bD G'.np p (-1)=_; rw[q1]; simp[jh]
 ·refine(let QQ:=_; (?_:Ok _ _ QQ));obtain⟨done,rest,G',e1,e2,s3,q0,q1,q2,q3,q4,q5,q6⟩:=hI;have:rest=[]:=by cases rest with
   |nil=>rfl
   |cons b r=>simp at e2
  subst this;rw[yX]at e1; subst e1;have hrd:G'.rd=.ref r:=s3.rd.trans hr.rd;have hrn:r<O'.nx:=Cb hr.r_ (show O.nx=O'.nx from s3.nx.symm);refine Ut (V.rd (s3.rep.loc _) (by repeat' infer_instance) hrd) hrn q0 hl' ?_;have s4:=bT.PX (s3.rep.loc O'.loc) hrd ⟨_,q0⟩ [];refine QL (r:=r) s4.rep ⟨[],yo rfl⟩ (by repeat' infer_instance) (V.b (by repeat' infer_instance) (B.Tf hl')) I.add rfl λh' s5 e5=>sR (by repeat' infer_instance) ?_;exact hQ _ _ (s3.trans ((s4.trans s5).locs _ _)) ⟨hrd,hrn,e5.trans (yo rfl)⟩ q1 (by rw[<-q2,yE]) q3 rfl
noncomputable def bn(s:Int)(st:(Int->Int)×yk Int):(Int->Int)×yk Int:=(bD st.1 s (st.1 s-1),if st.1 s-1=0 then st.2++[s]else st.2)
noncomputable def bJ(su:Int->yk Int)(k:Int)(st:(Int->Int)×yk Int):(Int->Int)×yk Int:=(su k).foldl (λst s=>bn s st) (bD st.1 k (-2),st.2)
noncomputable def bB(su:Int->yk Int)(l:yk Int)(st:(Int->Int)×yk Int):(Int->Int)×yk Int:=l.foldl (λst k=>bJ su k st) st
theorem wa(s:Int)(st:(Int->Int)×yk Int):(bn s st).2.length<=st.2.length+1:=by unfold bn; dsimp only; split<;>simp
theorem j0:∀(ss:yk Int) (st:(Int->Int)×yk Int),(ss.foldl (λst s=>bn s st) st).2.length<=st.2.length+ss.length
 |[],st=>by simp
 |s::r,st=>by have:=j0 r (bn s st);have h2:=wa s st;exact yn this (yn (AG h2 _) (zj (Bd _ 1 _)))
theorem so(su:Int->yk Int)(k:Int)(st:(Int->Int)×yk Int):(bJ su k st).2.length<=st.2.length+(su k).length:=j0 _ _
theorem kF(su:Int->yk Int)(hs:∀k,(su k).length<=100):∀(l:yk Int) (st:(Int->Int)×yk Int),(bB su l st).2.length<=st.2.length+100*l.length
 |[],st=>by simp[bB]
 |k::r,st=>by have:=kF su hs r (bJ su k st);have h2:=so su k st;have h3:=hs k;show(bB su r (bJ su k st)).2.length<=_;show _<=_+100*(r.length+1);exact yn this (yn (AG (yn h2 (zO h3 _)) _) (zj (by rw[Bg,Bd,zH])))
theorem kC:∀(ss:yk Int) (st:(Int->Int)×yk Int) (x:Int),x∉ss->(ss.foldl (λst s=>bn s st) st).1 x=st.1 x
 |[],st,x,_=>rfl
 |s::r,st,x,h=>by simp only[yP,not_or]at h;rw[Aw,kC r _ x h.2];show bD _ _ _ x=_;rw[bD,ym h.1]
variable{xs:yk Int}
theorem Pf(C:ak){t:Int}(R:Rep ⟨l,h,n⟩ i G)(hrd:G.rd=.ref r)(hrn:r<n)(hx:h r=.list (xs.map .int))(htk:t∈G.keys)(hl:xs.length<100000)(k1:l (Sx "self")=some (.ref i))(k2:l (Sx "n2i")=some (.ref G.n))
  (k:∀h' G',bT ⟨l,h,n⟩ i G r ⟨l,h',n⟩ G'->G'.np=(bn t (G.np,xs)).1->h' r=.list ((bn t (G.np,xs)).2.map .int)->G'.po=G.po->G'.fi=G.fi->Q .next ⟨ai (ai l (Sx "successor") (some (.int t))) (Sx "successor_info") (some (.ref (G.R t))),h',n⟩) :
  Ok (dU C) ⟨ai l (Sx "successor") (some (.int t)),h,n⟩ Q:=by
 unfold dU;refine s1 (V.info (R.loc _) htk (by repeat' infer_instance) (by repeat' infer_instance)) ?_;refine QM (r:=r) (R.loc _) htk ⟨_,hx⟩ (by repeat' infer_instance) V.c I.sub rfl λh' s e =>?_;have hnp:bD G.np t (G.np t-1) t=G.np t-1:=yo rfl;have v1:=V.np (o:=aa (Sx "successor_info")) s.rep htk (by repeat' infer_instance);by_cases hz:G.np t-1=0
 ·refine sT (V.cmp v1 V.c (Cm.eq (hnp.trans hz))) (sS ?_);refine PY (V.rd s.rep (by repeat' infer_instance) hrd) (by repeat' infer_instance) hrn (e.trans hx) (by rw[yE]; exact y0 hl (by decide)) (sN (sE ?_));refine k _ _ ((s.trans (bT.PX s.rep hrd ⟨_,e.trans hx⟩ _)).locs l l) rfl ?_ rfl rfl;refine(yo rfl).trans ?_;rw[bn,yo hz,yN]; rfl
 ·refine sF (V.cmp v1 V.c (Cm.ne λe'=>hz (hnp.symm.trans e'))) (sN (sE ?_));refine k _ _ (s.locs l l) rfl ?_ rfl rfl;rw[bn,ym hz]; exact e.trans hx
inductive TU(O:St)(i r:Nat)(p:Int)(G:SG)(xs:yk Int)(rr:yk AV)(σ2:St):Prop
 |mk (d2 rest2:yk Int) (G2:SG) (u0:G.su p=d2++rest2) (u1:rr=rest2.map .int) (u2:bT O i G r {σ2 with loc:=O.loc} G2) (u3:σ2.hp r=.list ((d2.foldl (λst s=>bn s st) (G.np,xs)).2.map .int)) (u4:G2.np=(d2.foldl (λst s=>bn s st) (G.np,xs)).1) (u5:G2.po=G.po) (u6:G2.fi=G.fi) (u7:σ2.loc (Sx "self")=some (.ref i)) (u8:σ2.loc (Sx "n2i")=some (.ref G.n))
theorem xK(C:ak)(hL:1000<=LL)(R:Rep O i G)(hrd:G.rd=.ref r)(hrn:r<O.nx)(hx:O.hp r=.list (xs.map .int))(hpk:p∈G.keys)(hs:∀s∈G.su p,s∈G.keys)(hl:(G.su p).length<=100)(hxl:xs.length<=90000)(k1:O.loc (Sx "self")=some (.ref i))(k2:O.loc (Sx "n2i")=some (.ref G.n))
  (hQ:∀O' G',bT O i G r {O' with loc:=O.loc} G'->G'.np=((G.su p).foldl (λst s=>bn s st) (G.np,xs)).1->O'.hp r=.list (((G.su p).foldl (λst s=>bn s st) (G.np,xs)).2.map .int)->G'.po=G.po->G'.fi=G.fi->O'.loc (Sx "self")=some (.ref i)->O'.loc (Sx "n2i")=some (.ref G.n)->Q .next O') :
  Ok (cy LL (.HY (G.Q p)) λv=>M.bind (an (Sx "successor") v) λZ=>dU C) O Q:=by
 show Ok (ez _ (G.Q p) LL 0) _ _;refine er (us:=(G.su p).map .int) (TU O i r p G xs) (λrr σ2 hI =>?_) (λv rr σ2 hI =>?_) (λσ2 hI =>?_) LL 0 _ (by rw[yE]; exact yR hl (yv (by decide) hL)) (zc _) ⟨[],G.su p,G,rfl,rfl,bT.refl R,hx,rfl,rfl,rfl,k1,k2⟩
 ·obtain⟨d2,rest2,G2,_,_,s,_⟩:=hI;have h1:=s.rep.qh p (s.keys▸hpk);have h2:=s.rep.q_ p (s.keys▸hpk);rw[s.su,s.Q]at h1;rw[s.Q]at h2;exact⟨by rw[h1]; rfl,h2⟩
 ·refine(let QQ:=_; (?_:Ok _ _ QQ));obtain⟨d2,rest2,G2,f1,f2,s,g0,g1,g2,g3,g4,g5⟩:=hI;cases rest2 with
  |nil=>simp at f2
  |cons t rest2 =>
   simp only[za,AM]at f2;obtain⟨rfl,rfl⟩:=f2;have hlen:=j0 d2 (G.np,xs);have hd:d2.length<=100:=by rw[f1]at hl; simp at hl; lia
   refine bL (Pf C (s.rep.loc _) (s.rd.trans hrd) (Cb hrn s.nx.symm) g0 (by rw[s.keys]; exact hs t (by rw[f1]; simp)) (by dsimp only at hlen; lia) g4 (g5.trans (yI (λx=>some (AV.ref x)) s.n.symm)) λh' G' s' w1 w2 w3 w4 =>?_);refine⟨d2++[t],rest2,G',by simp[f1],rfl,s.trans (s'.locs _ _),?_,?_,w3.trans g2,w4.trans g3,by repeat' infer_instance,by repeat' infer_instance⟩
   ·rw[CH]; rw[g1]at w2; exact w2
   ·rw[CH]; rw[g1]at w1; exact w1
 ·obtain⟨d2,rest2,G2,f1,f2,s,g0,g1,g2,g3,g4,g5⟩:=hI;have:rest2=[]:=by cases rest2 with
   |nil=>rfl
   |cons b r=>simp at f2
  subst this;rw[yX]at f1;rw[<-f1]at g0 g1;exact hQ σ2 G2 s g1 g0 g2 g3 g4 g5
inductive Nk(O:St)(i:Nat)(r:Nat)(G:SG)(l:yk Int)(rr:yk AV)(O':St):Prop
 |mk (done:_) (rest:_) (G':_) (u0:l=done++rest) (u1:rr=rest.map .int) (u2:bT O i G r {O' with loc:=O.loc} G') (u3:O'.hp r=.list ((bB G.su done (G.np,[])).2.map .int)) (u4:G'.np=(bB G.su done (G.np,[])).1) (u5:(∀x∈rest,G'.np x=-1)) (u6:G'.po=G.po) (u7:G'.fi=G.fi+done.length) (u8:O'.loc (Sx "self")=some (.ref i)) (u9:O'.loc (Sx "n2i")=some (.ref G.n))
theorem Oh(hD:1<=D)(hL:1000<=LL)(h:Rep O i G)(l:yk Int)(hr:Qy O G r [])(hll:l.length<=100)(hk:∀k∈l,k∈G.keys)(hnp:∀k∈l,G.np k=-1)(HR:l.Nodup)(hsub:∀k∈l,∀s∈G.su k,s∈G.keys/\s∉l)(hsl:∀k,(G.su k).length<=100){Q:AV->St->Prop}
  (hQ:∀O' G',bT O i G r O' G'->Qy O' G' r (bB G.su l (G.np,[])).2->G'.np=(bB G.su l (G.np,[])).1->G'.po=G.po->G'.fi=G.fi+l.length->O'.loc=O.loc->Q .none O')
  (hbd:aM (bH (Sx "done")) (.ref i::l.map .int) []=some [(Sx "self",.ref i),(Sx "nodes",.tup (l.map .int))]) :
  Ok (aJ T2 LL 40 D (bH (Sx "done")) (.ref i::l.map .int) []) O Q:=by
 obtain⟨dd,rfl⟩:=ge (yn (by decide) hD);refine bA hbd (pC _) ?_;clear hbd;unfold oq;refine sF (V.cmp (V.rd (h.loc _) (by repeat' infer_instance) hr.rd) V.c L5) (sN ?_);refine s1 (V.n2 (h.loc _) (by repeat' infer_instance)) ?_;refine sL (V.its (by repeat' infer_instance) B.Rt) ?_;show Ok (bt (M.ret ()) _ _) _ _;refine br (Nk O i r G l)
  (λv rr O' hI =>?_) (λO' hI =>?_) _ _ ⟨[],l,G,rfl,rfl,bT.refl h,hr.h,rfl,hnp,rfl,by simp,by repeat' infer_instance,by repeat' infer_instance⟩
 ·refine(let QQ:=_; (?_:Ok _ _ QQ));obtain⟨done,rest,G',e1,e2,s3,q0,q1,qx,q2,q3,q4,q5⟩:=hI;cases rest with
  |nil=>simp at e2
  |cons p rest =>
   simp only[za,AM]at e2;obtain⟨rfl,rfl⟩:=e2;have hpl:p∈l:=by rw[e1]; simp
   have hpk:p∈G'.keys:=by rw[s3.keys]; exact hk p hpl
   have hrd:G'.rd=.ref r:=s3.rd.trans hr.rd;have hrn:r<O'.nx:=Cb hr.r_ (show O.nx=O'.nx from s3.nx.symm);have hinit:=kF G.su hsl done (G.np,[]);have hdl:done.length<=100:=by rw[e1]at hll; simp at hll; lia
   rw[<-s3.n]at q5;refine bL ?_;unfold jg;refine U6 (V.To (s3.rep.loc _) hpk (by repeat' infer_instance) (by repeat' infer_instance)) (sN ?_);refine s1 (V.np (s3.rep.loc _) hpk (by repeat' infer_instance)) ?_;refine sF (V.cmp (by repeat' infer_instance) (V.g rO) (Cm.nq (qx p (yY ..)))) (sN ?_);refine U5 (r:=r) (s3.rep.loc _) hpk ⟨_,q0⟩ (V.g xu) (by repeat' infer_instance) λh4 s4 e4 =>?_;refine sL (V.ih (s4.rep.q_ p hpk) (s4.rep.qh p hpk) (V.su s4.rep hpk (by repeat' infer_instance))) ?_;refine xK (aJ T2 LL 40 dd) hL s4.rep hrd hrn (e4.trans q0) hpk (λs hs =>?_) (by rw[s4.su,s3.su]; exact hsl p) (by dsimp only[Dz]at hinit; lia) (by repeat' infer_instance) (by repeat' infer_instance) λσ5 G5 s5 w1 w2 w3 w4 w5 w6 =>?_
   ·rw[s4.su,s3.su]at hs;rw[s4.keys,s3.keys]; exact(hsub p hpl s hs).1
   rw[s4.su,s3.su]at w1 w2;refine QN (r:=r) (s5.rep.loc _) ⟨_,w2⟩ (by repeat' infer_instance) V.c I.add rfl λh6 s6 e6=>sE ?_;have efold:bB G.su (done++[p]) (G.np,[])=(G.su p).foldl (λst s=>bn s st) (bD G'.np p (-2),(bB G.su done (G.np,[])).2):=by rw[q1]; simp[bB,bJ]
   refine⟨done++[p],rest,_,by simp[e1],rfl,s3.trans ((s4.locs O.loc O.loc).trans ((s5.locs O.loc O.loc).trans (s6.locs O.loc O.loc))),?_,?_,λx hx =>?_,w3.trans q2,?_,w5,w6.trans (yI (λx=>some (AV.ref x)) s3.n)⟩
   ·rw[efold]; exact e6.trans w2
   ·rw[efold]; exact w1
   ·show G5.np x=-1;rw[w1,kC _ _ _ (λhm=>(hsub p hpl x hm).2 (by rw[e1]; simp[hx]))];have hxp:x≠p:=by rw[e1]at HR;rw[z6]at HR;exact λe=>(Bb.mp HR.2.1).1 (e▸hx)
    show bD G'.np p (-2) x=-1;rw[bD,ym hxp]; exact qx x (zS _ hx)
   ·show G5.fi+1=_;rw[w4]; show G'.fi+1=_;rw[q3]; simp; lia
 ·refine(let QQ:=_; (?_:Ok _ _ QQ));obtain⟨done,rest,G',e1,e2,s3,q0,q1,qx,q2,q3,q4,q5⟩:=hI;have:rest=[]:=by cases rest with
   |nil=>rfl
   |cons b r=>simp at e2
  subst this;rw[yX]at e1; subst e1;exact hQ _ G' s3 ⟨s3.rd.trans hr.rd,by rw[s3.nx]; exact hr.r_,q0⟩ q1 q2 q3 rfl
theorem kH(x k:Nat):Ef (x:Int) (((2 ^ k-1:Nat)):Int)=((x%2 ^ k:Nat):Int):=by rw[Hl (zo _) (zo _)];congr 1;simp only[zK];exact Nat.and_two_pow_sub_one_eq_mod x k
theorem M7(a b:Nat)(h:b<256):(a*256) &&& b=0:=by
 apply E1;intro i;rw[Nat.testBit_and,Hc];by_cases hi:i<8
 ·rw[show a*256=2 ^ 8*a from BK a 256,Nat.testBit_two_pow_mul];rw[AS (E6.mpr hi),C8,C8]
 ·rw[CV (x:=b) (i:=i)]
  ·simp
  ·calc b<2 ^ 8:=h
    _<=2 ^ i:=DM (by decide) (by exact zr (by assumption))
theorem x7(a b:Nat)(h:b<256):FE ((a*256:Nat):Int) (b:Int)=((a*256+b:Nat):Int):=by rw[PyProof.Rows.bitOr_and,Hl (zo _) (zo _)];simp only[zK];rw[M7 a b h];lia
noncomputable def code(d:Nat):Int:=(((nr[d]?).getD 0).toNat:Int)
noncomputable def ix(n m lb:Nat):yk AV:=(yB m).map λj=>AV.int (code (n / 2 ^ (lb+6*(m-1-j))%64))
theorem rb(n m lb:Nat):(ix n m lb).length=m:=by simp[ix]
theorem wO(n b m lb:Nat)(hb:b<256):ix (n*256+b) m (lb+8)=ix n m lb:=by unfold ix;refine Aj λj Z =>?_;rw[show lb+8+6*(m-1-j)=8+(lb+6*(m-1-j))from by rw[zI lb 8,zH],BM,<-DG,show(n*256+b) / 2 ^ 8=n from by rw[BK]; exact(E5 (by decide) n b).trans (by rw[DH hb,CN])]
theorem wN(n m lb:Nat)(h:6<=lb):ix n (m+1) (lb-6)=ix n m lb++[AV.int (code (n / 2 ^ (lb-6)%64))]:=by
 unfold ix;rw[Bv,yN];congr 1
 ·refine Aj λj hj =>?_;have:=y7.mp hj;have e:m-j=m-1-j+1:=by rw[Nat.sub_right_comm]; exact(AN (DP this)).symm
  rw[Nat.add_sub_cancel,e,Bg,zI (6*_) 6,<-zH,AN h]
 ·simp
theorem Pp(d:Nat)(h:d<64):(nr[d]?).map (λx=>AV.int (x.toNat:Int))=some (AV.int (code d)):=by
 unfold code;have:d<nr.size:=by show d<64; exact h
 rw[D8 this];rfl
inductive PI(i:Nat)(n:Nat)(O:St)(lb:Nat)(m:Nat)(k:Nat)(O':St):Prop
 |mk (m':_) (u0:k<14) (u1:6*m'+k=6*m+lb) (u2:O'.nx=O.nx) (u3:(∀j,j≠i->O'.hp j=O.hp j)) (u4:O'.loc (Sx "leftbits")=some (.int (k:Nat))) (u5:O'.loc (Sx "leftchar")=some (.int ((n%65536:Nat):Int))) (u6:O'.loc (Sx "out")=some (.ref i)) (u7:O'.loc (Sx "newline")=O.loc (Sx "newline")) (u8:O'.hp i=.list (ix n m' k))
theorem rt(n t:Nat)(h:t<8):n%65536 / 2 ^ t%64=n / 2 ^ t%64:=by
 have e:65536=2 ^ t*2 ^ (16-t):=by rw[<-BM,CM (yn (zz h) (by decide))]
 rw[e,Nat.mod_mul_right_div_self];exact Nat.mod_mod_of_dvd _ (show 2 ^ 6 ∣ 2 ^ (16-t)from Nat.pow_dvd_pow 2 (G0 (yn (zO (zb h) 6) (by decide))))
theorem RY{m' k m lb:Nat}(h:6*m'+k=6*m+lb)(hm:m<=1000)(hl:lb<14):m'<HC:=Nat.lt_of_mul_lt_mul_left (a:=6) (yR (yn (yH _ k) (zj h)) (yv (Nat.add_lt_add_of_le_of_lt (Af 6 hm) hl) (by decide)))
theorem yg(C:ak)  (hL:100<=LL)(i n:Nat)(Q:ac->St->Prop)(O:St)(lb m:Nat)(hi:i<O.nx)(hlb:lb<14)(hm:m<=1000)
  (h1:O.loc (Sx "leftbits")=some (.int lb)) (h2:O.loc (Sx "leftchar")=some (.int ((n%65536:Nat):Int))) (h3:O.loc (Sx "out")=some (.ref i)) (h4:O.hp i=.list (ix n m lb))
  (hQ:∀O' lb' m',lb'<6->6*m'+lb'=6*m+lb->O'.nx=O.nx->(∀j,j≠i->O'.hp j=O.hp j)->O'.loc (Sx "leftbits")=some (.int (lb':Nat))->O'.loc (Sx "leftchar")=some (.int ((n%65536:Nat):Int))->O'.loc (Sx "out")=some (.ref i)->O'.loc (Sx "newline")=O.loc (Sx "newline")->O'.hp i=.list (ix n m' lb')->Q .next O') :
  Ok (bm (aG .GtE (aa (Sx "leftbits")) (cst (.int 6))) (cA C) (M.ret .next) LL) O Q:=by
 refine cO (PI i n O lb m)
  (λk O' hI =>?_) LL lb O (yv hlb (yn (by decide) hL)) ⟨m,hlb,rfl,rfl,λZ Z=>rfl,h1,h2,h3,rfl,h4⟩
 obtain⟨m',hk,hmm,q1,q2,q3,q4,q5,q6,q7⟩:=hI;have v0:=V.cmp (op:=.GtE) (z:=decide ((k:Int)≥6)) (V.l q3) V.c (ur ..);by_cases h6:6<=k
 ·rw[y9 (show(k:Int)≥6 from AA.mpr h6)]at v0;have i1:ba .Sub (k:Int) 6=some ((k-6:Nat):Int):=yI some (Es h6).symm;have i3:ba .BitAnd ((n%65536 / 2 ^ (k-6):Nat):Int) 63=some ((n / 2 ^ (k-6)%64:Nat):Int):=yI some (by rw[<-rt n (k-6) (Nat.sub_lt_right_of_lt_add h6 hk)]; exact kH _ 6);have hlt:n / 2 ^ (k-6)%64<64:=Bw _ (by decide);have hg:∀hp nx,gc hp nx (.bytes nr) (.int ((n / 2 ^ (k-6)%64:Nat):Int))=some (.int (code (n / 2 ^ (k-6)%64))):=λhp nx=>(rR ..).trans ((yo ⟨zo _,by decide⟩).trans (Pp _ hlt));refine v0 _ (?_:Ok (cA C) O' _);unfold cA;refine PY (V.l q5) (V.idx (V.g L9) (V.bin (V.bin (V.l q4) (V.bin (V.l q3) V.c (J.i i1)) (J.i I.SI)) V.c (J.i i3)) (hg _ _)) (q1▸hi) q7 (by rw[rb]; exact RY hmm hm hlb) (s1 (V.bin (V.l q3) V.c (J.i i1)) (sE ?_));refine⟨k-6,DO (yv (by decide) h6) (by decide),m'+1,yR (Ci ..) hk,by rw[Bg,zH,CM h6]; exact hmm,q1,λj hj=>(ym hj).trans (q2 j hj),by repeat' infer_instance,by repeat' infer_instance,by repeat' infer_instance,by repeat' infer_instance,(yo rfl).trans ?_⟩;rw[wN n m' k h6]
 ·rw[AS (show ¬(k:Int)≥6 from λh=>h6 (AA.mp h))]at v0;exact v0 _ (hQ O' k m' (by exact Nat.lt_of_not_le (by assumption)) hmm q1 q2 q3 q4 q5 q6 q7:Q .next O')
theorem n0(x:Nat):Ef (x:Int) 65535=((x%65536:Nat):Int):=by have:=kH x 16;simpa using this
noncomputable def aX(bs:yk yQ):Nat:=bs.foldl (λa b=>a*256+b.toNat) 0
theorem ng(bs:yk yQ)(b:yQ):aX (bs++[b])=aX bs*256+b.toNat:=by simp[aX]
theorem wW(hD:1<=D)(b:yM yQ)(O:St)(Q:AV->St->Prop)(hQ:Q (.bytes b) O):Ok (aJ T2 LL 40 D (bl (Sx "_buffer")) [.bytes b] []) O Q:=by obtain⟨d,rfl⟩:=ge (yn (by decide) hD);refine bA (bs:=[(Sx "data",.bytes b)]) (by kernel_rfl) (qU _) ?_;unfold qV;refine(let QQ:=_; (?_:Ok _ _ QQ));simp[Md];exact hQ
theorem uS{a b:M ac}(h:∀K:ac->St->Prop,(∀f O',iu b Q f O'->K f O')->Ok a O K):Ok (af a b) O Q:=h (iu b Q) λZ Z h=>h
theorem Q8{a r:M yx}{Q:yx->St->Prop}(h:Ok a O λb σ1=>b=false/\Ok r σ1 Q):Ok (Ih a r) O Q:=by rw[KQ]; exact h.mono λb σ1 h=>by obtain⟨rfl,h⟩:=h; exact h
theorem Q7{a r:M yx}{Q:yx->St->Prop}(h:Ok a O λb σ1=>b=true/\Q true σ1):Ok (Ih a r) O Q:=by rw[KQ]; exact h.mono λb σ1 h=>by obtain⟨rfl,h⟩:=h; exact h
theorem KP(hD:1<=D)(b:yx)(O:St)(Q:AV->St->Prop)(hQ:Q (.bool b) O):Ok (aJ T2 LL 40 D (bl (Sx "_truth")) [.bool b] []) O Q:=by obtain⟨d,rfl⟩:=ge (yn (by decide) hD);refine bA (bs:=[(Sx "x",.bool b)]) (by kernel_rfl) (tJ _) ?_;unfold uQ;refine uS λK hK =>?_;refine(let QQ:=_; (?_:Ok _ _ QQ));simp only[gk,uV,wV,eK,tT,cJ,iC,zi,zl,mo,jl,kt,jT,tQ];refine hK _ _ ?_;refine uS λK hK =>?_;rw[pJ];refine Q8 ?_;simp only[gk,kZ,cJ,qI,iC,Hr,cond_true,cond_false,zi,zl,jn,String.reduceEq,BA,K0,MO,nT,true_and];refine Q7 ?_;simp only[gk,kZ,cJ,qI,iC,Hr,cond_true,cond_false,rf,xt,MO,OM,zl,true_and,AW];simp[Md]at hK ⊢;cases b<;>simp[Md]<;>exact hK _ _ hQ
noncomputable def dO(n m lb:Nat):yk yQ:=(yB m).map λj=>(nr[n / 2 ^ (lb+6*(m-1-j))%64]?).getD 0
theorem mt{α:Type}(f:α->yQ):∀l:yk α,bS (l.map λj=>AV.int ((f j).toNat:Int))=some (l.map f)
 |[]=>rfl
 |a::r=>by show(if(0:Int)<=((f a).toNat:Int)/\((f a).toNat:Int)<256 then _ else none)=_;rw[yo ⟨by lia,by have:=Hs (f a); lia⟩,mt f r];simp
theorem rj(n m lb:Nat):bS (ix n m lb)=some (dO n m lb):=mt _ _
variable{v:AV}
theorem mr{os:yk yQ}{Q:AV->St->Prop}(h1:items? O.hp O.nx v=some vs)(h2:bS vs=some os)(h3:vs.length<=HC)(h:Q (.bytes os.toArray) O):yT (bM "bytes" [v]) O Q:=by refine IL (a:=nj) (by kernel_rfl) ?_;show yT (yJ (zE (one? [v])) λv=>yJ (Bq λhp nx=>items? hp nx v) λvs=>yJ (zE (bS vs)) λos=>CA (vs.length<=HC) (.bytes os.toArray)) O Q;refine HS (o:=one? [v]) (a:=v) rfl ?_;refine J1 h1 ?_;refine HS h2 ?_;exact JR h3 h
end Internal.R
namespace Internal
open PySem Internal.R
theorem b5{hp:Nat->AO}{nx i:Nat}{vs:yk AV}(hi:i<nx)(h:hp i=.list vs):items? hp nx (.ref i)=some vs:=by show(if i<nx then(hp i).items? else none)=_;rw[yo hi,h]; rfl
end Internal
namespace Internal.R
open PySem Internal
inductive PH(i:Nat)(bs:yk yQ)(O:St)(r:yk AV)(O':St):Prop
 |mk (done:_) (rest:_) (lb:_) (m:_) (u0:bs=done++rest) (u1:r=rest.map (λ(x:yQ)=>AV.int x.toNat)) (u2:lb<6) (u3:6*m+lb=8*done.length) (u4:O'.nx=O.nx) (u5:(∀j,j≠i->O'.hp j=O.hp j)) (u6:O'.loc (Sx "leftbits")=some (.int (lb:Nat))) (u7:O'.loc (Sx "leftchar")=some (.int ((aX done%65536:Nat):Int))) (u8:O'.loc (Sx "out")=some (.ref i)) (u9:O'.loc (Sx "newline")=O.loc (Sx "newline")) (u10:O'.hp i=.list (ix (aX done) m lb))
theorem Pq(C:ak)  (hL:100<=LL)(i:Nat)(bs:yk yQ)(hlen:bs.length<=100)(Q:ac->St->Prop)(O:St)(hi:i<O.nx)
  (h1:O.loc (Sx "leftbits")=some (.int 0)) (h2:O.loc (Sx "leftchar")=some (.int 0)) (h3:O.loc (Sx "out")=some (.ref i)) (h4:O.hp i=.list [])
  (hQ:∀O' lb m,lb<6->6*m+lb=8*bs.length->O'.nx=O.nx->(∀j,j≠i->O'.hp j=O.hp j)->O'.loc (Sx "leftbits")=some (.int (lb:Nat))->O'.loc (Sx "out")=some (.ref i)->O'.loc (Sx "newline")=O.loc (Sx "newline")->O'.hp i=.list (ix (aX bs) m lb)->Q .next O') :
  Ok (bt (M.ret ()) (λv=>M.bind (an (Sx "b") v) λZ=>dL C) (bs.map λx=>AV.int x.toNat)) O Q:=by
 refine br (PH i bs O) (λv r O' hI =>?_) (λO' hI =>?_) _ O
  ⟨[],bs,0,0,rfl,rfl,by decide,rfl,rfl,λZ Z=>rfl,by simpa using h1,by simpa[aX]using h2,h3,rfl,by simpa[ix]using h4⟩
 ·refine(let QQ:=_; (?_:Ok _ _ QQ));obtain⟨done,rest,lb,m,e1,e2,hlb,hm,q1,q2,q3,q4,q5,q6,q7⟩:=hI;cases rest with
  |nil=>simp at e2
  |cons b rest =>
   simp only[za,AM]at e2;obtain⟨rfl,rfl⟩:=e2;have hdl:done.length<100:=yv (by rw[e1,yV]; exact Bf (Bh _)) hlen;have hb:=Hs b;have hsm:bh ((aX done%65536:Nat):Int)=true:=gq (y0 (Bw _ (by decide)) (by decide));have i1:ba .LShift ((aX done%65536:Nat):Int) 8=some (((aX done%65536:Nat):Int)*256):=(xq ..).trans (yo (by rw[hsm]; rfl));have i2:ba .BitOr (((aX done%65536:Nat):Int)*256) (b.toNat:Int)=some ((aX done%65536*256+b.toNat:Nat):Int):=yI some (by rw[<-x7 (aX done%65536) b.toNat hb]; congr 1);have i3:ba .BitAnd ((aX done%65536*256+b.toNat:Nat):Int) 65535=some ((aX (done++[b])%65536:Nat):Int):=yI some (by
    rw[n0,ng,Nat.add_mod,Nat.mul_mod,Nat.mod_mod,<-Nat.mul_mod,<-Nat.add_mod])
   have i4:ba .Add (lb:Int) 8=some ((lb+8:Nat):Int):=rfl;refine bL ?_;unfold dL;refine s1 (by repeat' infer_instance) (s1 (by repeat' infer_instance) (?_:Ok (bm _ _ _ _) _ (iu _ _)));refine yg C hL i (aX (done++[b])) _ _ (lb+8) m (q1▸hi) (GX hlb 8) (yn (GZ m (by decide:0<6)) (yn (yH _ lb) (yn (zj hm) (yn (Af 8 (zz hdl)) (by decide))))) (by repeat' infer_instance) (by repeat' infer_instance) (by repeat' infer_instance) ?_ λσ2 lb' m' hlb' hm' r1 r2 r3 r4 r5 r6 r7=>sE ?_
   ·rw[ng,wO _ _ _ _ hb]; exact q7
   ·refine⟨done++[b],rest,lb',m',by simp[e1],rfl,hlb',by rw[yV,CR,<-hm,zH]; exact hm',r1.trans q1,λj hj=>(r2 j hj).trans (q2 j hj),r3,r4,r5,?_,r7⟩;exact r6.trans (by repeat' infer_instance)
 ·obtain⟨done,rest,lb,m,e1,e2,hlb,hm,q1,q2,q3,q4,q5,q6,q7⟩:=hI;have:rest=[]:=by cases rest with
   |nil=>rfl
   |cons b r=>simp at e2
  subst this;rw[yX]at e1; subst e1;exact hQ O' lb m hlb hm q1 q2 q3 q5 q6 q7
variable{y:Str}{O:St}{Q:ac->St->Prop}
theorem Vn  {its:M aw}{body r:M ac}{v:aw}(hi:V its O v)(k:Ok (cy LL v λv=>M.bind (an y v) λZ=>body) O (iu r Q)):Ok (af (gP LL y its body) r) O Q:=hi _ k
variable{C:ak}{fd:ax}{x:Str}{vs:yk AV}{v:AV}
theorem VJ{a:M (yk AV)}{b:M AV}{Q:AV->St->Prop}(ha:V a O vs)(hb:V b O v)(k:Ok (C fd vs [(x,v)]) O Q):Ok (Qt C fd a [(x,b)]) O Q:=ha _ (hb _ k)
variable{m k:Nat}
theorem lb0{lb:Nat}(h:6*m+lb=8*(3*k))(hl:lb<6):lb=0/\m=4*k:=by omega
variable{D:Nat}
theorem Rd(hD:2<=D)(hL:100<=LL)(bs:yk yQ)(k:Nat)(hk:bs.length=3*k)(hlen:bs.length<=100)(O:St)(Q:AV->St->Prop)(hQ:∀O',kc O O'->Q (.bytes (dO (aX bs) (4*k) 0).toArray) O') :
  Ok (aJ T2 LL 40 D (bl (Sx "b2a_base64")) [.bytes bs.toArray] [(Sx "newline",.bool false)]) O Q:=by
 obtain⟨d,rfl⟩:=ge (yn (by decide) hD);have hb:aM (bl (Sx "b2a_base64")) [.bytes bs.toArray] [(Sx "newline",.bool false)]=some [(Sx "data",.bytes bs.toArray),(Sx "newline",.bool false)]:=by kernel_rfl
 refine bA hb (kM _) ?_;unfold jb;refine sC (cF (by repeat' infer_instance) (wW (Ca hD) _ _ _ (sC (cF (by repeat' infer_instance) (KP (Ca hD) _ _ _ (nw (s1 V.c (s1 V.c (Vn (V.its (by repeat' infer_instance) B.UI) ?_)))))))));show Ok (bt (M.ret ()) _ _) _ _;refine Pq _ hL O.nx bs hlen _ _ (yK _) (by repeat' infer_instance) (by repeat' infer_instance) (by repeat' infer_instance) (yo rfl) λO' lb m hlb hm q1 q2 q3 q4 q5 q6 =>?_;refine(let QQ:=_; (?_:Ok _ _ QQ));have h9:=lb0 (hk▸hm) hlb;obtain rfl:=h9.1;obtain rfl:=h9.2;have q5':O'.loc (Sx "newline")=some (.bool false):=q5.trans (by repeat' infer_instance);have v1:∀b:Int,0≠b->V (aG .Eq (aa (Sx "leftbits")) (cst (.int b))) O' false:=λb hb=>V.cmp (V.l q3) V.c (Cm.ne hb);have n1:O.nx<O'.nx:=Cb (yK _) q1.symm;refine sF (v1 2 (by decide)) (sS (sF (v1 4 (by decide)) (sN (sN (sF (V.tr (V.l q5') rfl) (sN (sR (V.b (V.cons (V.l q4) V.nil) (λP k'=>mr (b5 n1 q6) (rj _ _ _) (by rw[rb]; exact yn (Af 4 (yn (GZ k (by decide:0<3)) (hk▸hlen))) (by decide)) k')) ?_)))))));exact hQ _ ⟨rfl,zz n1,λj hj=>(q2 j (yA hj)).trans (ym (yA hj))⟩
theorem pO(hD:3<=D)(hL:100<=LL)(bs:yk yQ)(k:Nat)(hk:bs.length=3*k)(hlen:bs.length<=100)(O:St)(Q:AV->St->Prop)(hQ:∀O',kc O O'->Q (.bytes (dO (aX bs) (4*k) 0).toArray) O') :
  Ok (aJ T2 LL 40 D (bl (Sx "b64encode")) [.bytes bs.toArray] []) O Q:=by
 obtain⟨d,rfl⟩:=ge (yn (by decide) hD);have hb:aM (bl (Sx "b64encode")) [.bytes bs.toArray] []=some [(Sx "s",.bytes bs.toArray),(Sx "altchars",.none)]:=by kernel_rfl
 refine bA hb (mc _) ?_;unfold kl;refine sC (VJ (by repeat' infer_instance) V.c (Rd (by lia) hL bs k hk hlen _ _ λO' hG =>?_));refine(let QQ:=_; (?_:Ok _ _ QQ));obtain⟨l',h',n'⟩:=O';obtain rfl:=hG.loc;refine sF (V.cmp (by repeat' infer_instance) V.c rfl) (sN (sR (by repeat' infer_instance) ?_));exact hQ _ ⟨rfl,hG.nx,hG.hp⟩
variable{a b:Nat}
theorem pq(h:b<a):a-b=a-(b+1)+1:=(Nat.succ_pred_eq_of_pos (DP h)).symm
theorem jB(h:k<10):k / 2<5:=(DI (by decide)).mpr h
theorem Td:∀n,n<4->n=0\/n=1\/n=2\/n=3:=by decide
theorem pE(h:a<b):a-1<b:=yR (Ci ..) h
noncomputable def jj(xs:yk Nat):yk Int:=xs.map λ(n:Nat)=>(n:Int)
noncomputable abbrev ii(xs:yk Nat):yk AV:=(jj xs).map .int
noncomputable def eE(ls:yk (Nat×Nat)):Prop:=∀p∈ls,p.1<10/\p.2<10/\(p.1 / 2<p.2 / 2\/p.1=p.2\/(p.2,p.1)∈ls/\p.2 / 2<p.1 / 2)
noncomputable def Jq(ls:yk (Nat×Nat)):yk AV:=ls.map λp=>.tup [.int (p.1:Nat),.int (p.2:Nat)]
theorem V.Ip{a:M (yk AV)}{xs:yk AV}{i j k:Int}(ha:V a O vs)(hp:iZ vs=some (i,j,k))(e:d8 i j k=some xs):V (cp a) O (.Ip xs):=λQ h=>ha _ (.mk _ hp (.mk _ e h))
variable{hp:Nat->AO}{nx:Nat}
theorem Cm.ltN:AB hp nx .Lt (.int (a:Int)) (.int (b:Int))=some (decide (a<b)):=yI some (decide_eq_decide.mpr Av)
theorem Cm.Vd:AB hp nx .Eq (.int (a:Int)) (.int (b:Int))=some (decide (a=b)):=by
 rw[dt];by_cases h:a=b
 ·subst h; rw[zl,y9 rfl]
 ·rw[show((a:Int)==(b:Int))=false from Fj (λe=>h (A3 e)),AS h]
theorem V.Ih{a r:M yx}{x y:yx}(ha:V a O x)(hr:V r O y):V (R.Ih a r) O (x||y):=λQ h=>ha _ (by cases x<;>first|exact hr _ h|exact h)
theorem V.TP{a r:M yx}{x y:yx}(ha:V a O x)(hr:V r O y):V (R.M8 a r) O (x&&y):=λQ h=>ha _ (by cases x<;>first|exact hr _ h|exact h)
theorem Us{t:M yx}{a b r:M ac}{c:yx}(ht:V t O c)(h1:c=true->Ok (af a r) O Q)(h2:c=false->Ok (af b r) O Q):Ok (af (HX t a b) r) O Q:=by
 cases c with
 |true=>exact sT ht (h1 rfl)
 |false=>exact sF ht (h2 rfl)
variable{l:Str->yl AV}{h:Nat->AO}{n:Nat}
theorem Vs{e:M AV}{a b:AV}{r:M ac}(he:V e ⟨l,h,n⟩ (.lst [a,b]))(k:Ok r ⟨ai (ai l x (some a)) y (some b),h,n⟩ Q):Ok (af (aA e [dR [x,y]]) r) ⟨l,h,n⟩ Q:=he _ k
theorem B.SE:B (bM "sorted" [.lst [.int (a:Int),.int (b:Int)]]) O (.lst [.int ((Cd a b:Nat):Int),.int ((BJ a b:Nat):Int)]):=λQ q=>by
 refine IL (a:=fY) (by kernel_rfl) ?_;have h:=B.sortI (is:=[(a:Int),(b:Int)]) (w:=λZ=>none) (v:=.lst [.int (a:Int),.int (b:Int)]) (O:=O) (.val rfl) (λj o e=>nomatch e) (by decide:(2:Nat)<64);have e:cz [(a:Int),(b:Int)]=[((Cd a b:Nat):Int),((BJ a b:Nat):Int)]:=by
  show(if(a:Int)<=b then [(a:Int),(b:Int)]else [(b:Int),(a:Int)])=_;by_cases k:a<=b
  ·rw[yo (AA.mpr k),show Cd a b=a from E4 k,show BJ a b=b from Nat.max_eq_right k]
  ·rw[ym (λe=>k (AA.mp e)),show Cd a b=b from G7 (CP k),show BJ a b=a from Nat.max_eq_left (CP k)]
 rw[e]at h;exact h Q q
theorem mE(x b:Int)(h:0<b):∃n:Nat,BG x b=(n:Int)/\(n:Int)<b:=by obtain⟨n,e⟩:=Cw (Int.fmod_nonneg_of_pos x h);exact⟨n,e,e▸Int.fmod_lt_of_pos x h⟩
inductive Nr(O:St)(i:Nat)(tot:Nat)(r:yk AV)(O':St):Prop
 |mk (ls:yk (Nat×Nat)) (u0:∀v∈r,∃x:Int,v=.int x) (u1:eE ls) (u2:ls.length+2*r.length<=tot) (u3:O'.nx=O.nx) (u4:∀j,j≠i->O'.hp j=O.hp j) (u5:O'.hp i=.list (Jq ls)) (u6:O'.loc (Sx "links")=some (.ref i)):Nr O i tot r O'
variable{ls:yk (Nat×Nat)}{p:Nat×Nat}
theorem eE.add(h:eE ls)(hp:p.1<10/\p.2<10/\(p.1 / 2<p.2 / 2\/p.1=p.2\/(p.2,p.1)∈ls/\p.2 / 2<p.1 / 2)):eE (ls++[p]):=λq hq=>by
 rcases y3.mp hq with k|k
 ·obtain⟨a,b,c⟩:=h q k;exact⟨a,b,c.imp_right λd=>d.imp_right λe=>⟨z0 _ e.1,e.2⟩⟩
 ·rw[zf.mp k];exact⟨hp.1,hp.2.1,hp.2.2.imp_right λd=>d.imp_right λe=>⟨z0 _ e.1,e.2⟩⟩
theorem vl(ls:yk (Nat×Nat))(a b:Nat):Jq ls++[.tup [.int a,.int b]]=Jq (ls++[(a,b)]):=by unfold Jq; rw[yN]; rfl
variable{i:Nat}{O':St}
theorem t5  {tot:Nat}{r:yk AV}(hi:i<O.nx)(ht:tot<=200)(I:Nr O i tot (v::r) O'):Ok (d9 C) {O' with loc:=ai O'.loc (Sx "x") (some v)} λf σ2=>f=.next/\Nr O i tot r σ2:=by
 refine(let QQ:=_; (?_:Ok _ _ QQ));obtain⟨ls,u0,u1,u2,u3,u4,u5,u6⟩:=I;obtain⟨x,rfl⟩:=u0 v (yY ..);have u0':∀v∈r,∃x:Int,v=.int x:=λv hv=>u0 v (zS _ hv);rw[Ax]at u2;obtain⟨a,ea,la⟩:=mE x 10 (by decide);obtain⟨b,eb,lb⟩:=mE (Az x 10) 10 (by decide);obtain⟨l,h,n⟩:=O';have i':i<n:=Cb hi u3.symm;have va:ba .Mod x 10=some (a:Int):=(I.fmod (by decide)).trans (yI some ea);have vb:ba .Mod (Az x 10) 10=some (b:Int):=(I.fmod (by decide)).trans (yI some eb);have hl:BJ a b<10:=Nat.max_lt.mpr ⟨Av.mp la,Av.mp lb⟩;have hm:Cd a b<=BJ a b:=yn (DK a b) (Nat.le_max_left a b);delta d9;refine Vs (V.b (V.cons (V.lst (V.cons (V.bin (by repeat' infer_instance) V.c (J.i va)) (V.cons (V.bin (V.bin (x:=.int x) (by repeat' infer_instance) V.c (J.i (I.fdiv (by decide) (by decide)))) V.c (J.i vb)) V.nil)) (show 2<=HC by decide)) V.nil) B.SE) ?_;revert hl hm;generalize Cd a b=lo;generalize BJ a b=hh;intro hl hm;have vt:∀(l:Str->yl AV) h,l (Sx "low")=some (.int (lo:Nat))->l (Sx "high")=some (.int (hh:Nat))->V (aG .Lt (aK .FloorDiv (aa (Sx "low")) (cst (.int 2))) (aK .FloorDiv (aa (Sx "high")) (cst (.int 2)))) ⟨l,h,n⟩ (decide (lo / 2<hh / 2)):=λl h e1 e2 =>
  V.cmp (V.bin (V.l e1) V.c (J.i (I.RN (b:=2) (by decide) (by decide)))) (V.bin (V.l e2) V.c (J.i (I.RN (b:=2) (by decide) (by decide)))) Cm.ltN
 have rest:∀(l:Str->yl AV) h (ls:yk (Nat×Nat)),l (Sx "low")=some (.int (lo:Nat))->l (Sx "high")=some (.int (hh:Nat))->l (Sx "x")=some (.int x)->eE ls->ls.length+2*r.length+1<=tot->(∀j,j≠i->h j=O.hp j)->h i=.list (Jq ls)->l (Sx "links")=some (.ref i)->(lo / 2<hh / 2->(lo,hh)∈ls) ->
   Ok (af (HX (M8 (aG .Eq (aK .Mod (aK .FloorDiv (aa (Sx "x")) (cst (.int 100))) (cst (.int 9))) (cst (.int 8))) (M8 (Ih (aG .Eq (aa (Sx "low")) (aa (Sx "high"))) (Ih (aG .Lt (aK .FloorDiv (aa (Sx "low")) (cst (.int 2))) (aK .FloorDiv (aa (Sx "high")) (cst (.int 2)))) (M.ret false))) (M.ret true))) (af (a7 (aI C (aa (Sx "links")) (Sx "append") (aj [(tf [(aa (Sx "high")),(aa (Sx "low"))])]) (bw "append" (aj [(tf [(aa (Sx "high")),(aa (Sx "low"))])]))))
 (M.ret .next)) (M.ret .next)) (M.ret .next)) ⟨l,h,n⟩ λf σ2=>f=.next/\Nr O i tot r σ2:=by
  intro l h ls e1 e2 e3 o1 o2 o3 o4 o5 o6;refine(let QQ:=_; (?_:Ok _ _ QQ));obtain⟨c,ec,_⟩:=mE (Az x 100) 9 (by decide);refine Us (V.TP (V.cmp (V.bin (V.bin (x:=.int x) (V.l e3) V.c (J.i (I.fdiv (by decide) (by decide)))) V.c (J.i ((I.fmod (by decide)).trans (yI some ec)))) V.c (Cm.Vd (b:=8))) (V.TP (V.Ih (V.cmp (V.l e1) (V.l e2) Cm.Vd) (V.Ih (vt l h e1 e2) V.r)) V.r)) (λhc =>?_) λhc=>sN (sE ⟨rfl,ls,u0',o1,zC o2,u3,o3,o4,o5⟩);have hc2:lo=hh\/lo / 2<hh / 2:=by rw[Bool.and_true,Dc,zg,C9,ze,ze,ze]at hc;exact hc.2
  have hlen:ls.length<=200:=yn (yn (yH _ _) (zC o2)) ht;refine sS (PY (V.l o5) (V.tup (V.cons (V.l e2) (V.cons (V.l e1) V.nil)) (show 2<=HC by decide)) i' o4 (by unfold Jq; rw[yE]; exact yR hlen (by decide)) (sN (sE ⟨rfl,ls++[(hh,lo)],u0',o1.add ⟨hl,yR hm hl,?_⟩,?_,u3,λj hj=>(ym hj).trans (o3 j hj),(yo rfl).trans (by rw[vl]),o5⟩)))
  ·rcases hc2 with e|e
   ·exact .inr (.inl e.symm)
   ·exact .inr (.inr ⟨o6 e,e⟩)
  ·rw[yV,CI,zH,zI 1,<-zH]; exact o2
 have hlen:ls.length<=200:=yn (yn (yH _ _) u2) ht;refine Us (vt _ h (by repeat' infer_instance) (by repeat' infer_instance)) (λhc =>?_) λhc=>sN (rest _ h ls (by repeat' infer_instance) (by repeat' infer_instance) (by repeat' infer_instance) u1 (by rw[Bg,<-zH]at u2; exact zC u2) u4 u5 (by repeat' infer_instance) λe=>yD e (of_decide_eq_false hc));have hc':=BP hc;refine sS (PY (i:=i) (vs:=Jq ls) (by repeat' infer_instance) (V.tup (V.cons (by repeat' infer_instance) (V.cons (by repeat' infer_instance) V.nil)) (show 2<=HC by decide)) i' u5 (by unfold Jq; rw[yE]; exact yR hlen (by decide)) (sN (rest _ _ (ls++[(lo,hh)]) (by repeat' infer_instance) (by repeat' infer_instance) (by repeat' infer_instance) (u1.add ⟨yR hm hl,hl,.inl hc'⟩) (by rw[yV,CI]; lia) (λj hj=>(ym hj).trans (u4 j hj)) ((yo rfl).trans (by rw[vl])) (by repeat' infer_instance) λZ=>bx)))
theorem KV(hD:1<=D)(ns:yk Int)(hn:ns.length<=63)(O:St)(Q:AV->St->Prop)(hQ:∀h' ls,eE ls->ls.length<=56->h' O.nx=.list (Jq ls)->(∀j,j<O.nx->h' j=O.hp j)->Q (.ref O.nx) ⟨O.loc,h',O.nx+1⟩) :
  Ok (aJ T2 LL 40 D (bl (Sx "_law_links")) [.lst (ns.map AV.int)] []) O Q:=by
 obtain⟨dd,rfl⟩:=ge (yn (by decide) hD);refine bA (bs:=[(Sx "script",AV.lst (ns.map AV.int))]) (by kernel_rfl) (lW _) ?_;delta ki;have hlen:(ns.map AV.int).length<=HC:=by rw[yE]; exact yn hn (by decide)
 have h28:((ns.map AV.int).take 24++[AV.int 20,AV.int 42,AV.int 64,AV.int 86]).length<=28:=by rw[yV]; exact Bc (List.length_take_le _ _) (yF 4)
 refine(let QQ:=_; (?_:Ok _ _ QQ));obtain⟨l,h,n⟩:=O;refine qF λh1 a1 o1=>sL (V.its (v:=.seq ((ns.map AV.int).take 24++[AV.int 20,AV.int 42,AV.int 64,AV.int 86])) (V.bin (V.cut (by repeat' infer_instance) V.r (V.opt V.c) V.r ((MK ..).trans ((yo (by decide)).trans (yo hlen)))) (V.lst (V.cons V.c (V.cons V.c (V.cons V.c (V.cons V.c V.nil)))) (show 4<=HC by decide)) (yo (y9 (show _<=HC from ?_)))) B.Th) ?_
 ·rw[<-yV]; exact yn h28 (by decide)
 show Ok (bt (M.ret ()) _ _) _ _;refine br (Nr ⟨ai (λx=>[(Sx "script",AV.lst (ns.map AV.int))].lookup x) (Sx "links") (some (.ref n)),h1,n+1⟩ n 56) (λv r O' hI =>?_) (λO' hI =>?_) _ _ ⟨[],λv hv =>?_,nofun,?_,rfl,λZ Z=>rfl,a1,by repeat' infer_instance⟩
 ·refine(let QQ:=_; (?_:Ok _ _ QQ));refine bL ((t5 (yK n) (by decide) hI).mono λf σ2 h =>?_);obtain⟨rfl,h⟩:=h;exact h
 ·obtain⟨ls,Z1,u1,u2,u3,u4,u5,u6⟩:=hI;obtain⟨l',h',n'⟩:=O';obtain rfl:n'=n+1:=u3;refine sR (V.l u6) (hQ h' ls u1 u2 u5 λj hj=>(u4 j (yA hj)).trans (o1 j (yA hj)))
 ·rcases y3.mp hv with k|k
  ·obtain⟨x,_,e⟩:=yW.mp (List.mem_of_mem_take k); exact⟨x,e.symm⟩
  ·simp only[yP,Ad,BQ]at k;rcases k with rfl|rfl|rfl|rfl<;>exact⟨_,rfl⟩
 ·show 0+2*_<=56;rw[zM]; exact Af 2 h28
noncomputable def Ny(j:Nat)(B:Nat->yk Nat):Nat->yk Nat:=λk=>if(B k).contains j then B k++(B j).filter (λm => !(B k).contains m)else B k
noncomputable def Ir(M:Nat->yk Nat):Nat->Nat->yk Nat
 |0=>M
 |j+1=>Ny j (Ir M j)
theorem Sr(M:Nat->yk Nat)(j k:Nat):Ir M (j+1) k=Ny j (Ir M j) k:=rfl
variable{j:Nat}
theorem kU{B:Nat->yk Nat}:m∈Ny j B k↔m∈B k\/j∈B k/\m∈B j:=by
 unfold Ny;by_cases h:j∈B k
 ·rw[yo (zp.mpr h),y3,zT];constructor
  ·rintro(a|a)
   ·exact .inl a
   ·exact .inr ⟨h,a.1⟩
  ·rintro(a|a)
   ·exact .inl a
   ·by_cases q:m∈B k
    ·exact .inl q
    ·exact .inr ⟨a.2,by rw[Ct,C7]; exact λe=>q (zp.mp e)⟩
 ·rw[ym (λe=>h (zp.mp e))];exact⟨.inl,λa=>a.elim id λa=>yD a.1 h⟩
theorem iR(M:Nat->yk Nat)(k m:Nat)(h:m∈M k):∀j,m∈Ir M j k
 |0=>h
 |j+1=>kU.mpr (.inl (iR M k m h j))
theorem fb(M:Nat->yk Nat)(T:Nat->Nat->Prop)(tr:∀{a b c},T a b->T b c->T a c)(h:∀k m,m∈M k->T m k):∀j k m,m∈Ir M j k->T m k
 |0,k,m,e=>h k m e
 |j+1,k,m,e=>(kU.mp e).elim (fb M T tr h j k m) λa=>tr (fb M T tr h j j m a.2) (fb M T tr h j k j a.1)
theorem gX(M:Nat->yk Nat):∀j,∀i,i<j->∀k m,i∈Ir M j k->m∈Ir M j i->m∈Ir M j k
 |0,i,h,_,_,_,_=>yD h (An _)
 |j+1,i,h,k,m,a,b=>by
  have ih:=gX M j;rw[Sr,kU]at a b ⊢;rcases CQ (zb h)with q|q
  ·rcases a with a|⟨a1,a2⟩<;>rcases b with b|⟨b1,b2⟩
   ·exact .inl (ih i q k m a b)
   ·exact .inr ⟨ih i q k j a b1,b2⟩
   ·exact .inr ⟨a1,ih i q j m a2 b⟩
   ·exact .inr ⟨a1,b2⟩
  ·subst q;exact .inr ⟨a.elim id And.left,b.elim id And.right⟩
theorem fc(M:Nat->yk Nat)(h:∀k,(M k).Nodup/\∀m∈M k,m<10):∀j k,(Ir M j k).Nodup/\∀m∈Ir M j k,m<10
 |0,k=>h k
 |j+1,k=>by
  have i1:=fc M h j k;have i2:=fc M h j j;refine⟨?_,λm e=>(kU.mp e).elim (i1.2 m) λq=>i2.2 m q.2⟩;show(Ny j (Ir M j) k).Nodup;unfold Ny;split
  ·refine z6.mpr ⟨i1.1,i2.1.filter _,λa ha b hb e =>?_⟩;subst e;have:=(zT.mp hb).2;rw[zp.mpr ha]at this; cases this
  ·exact i1.1
variable{xs:yk Nat}
theorem rs(h:xs.Nodup)(k:∀m∈xs,m<10):xs.length<=10:=by
 have:=ct (jj xs) (jj (yB 10)) (by
  unfold jj; rw[List.Nodup,DB]; exact h.imp λe q=>e (A3 q)) λx hx=>by
   obtain⟨n,hn,rfl⟩:=yW.mp hx;exact yW.mpr ⟨n,y7.mpr (k n hn),rfl⟩
 unfold jj at this;rw[yE,yE,zh]at this; exact this
theorem iE(xs:yk Nat)(k:Nat):(jj xs).contains (k:Int)=xs.contains k:=by rw[AZ,zp,zp];unfold jj;exact⟨λh=>by obtain⟨n,hn,e⟩:=yW.mp h; exact A3 e▸hn,λh=>yW.mpr ⟨k,h,rfl⟩⟩
noncomputable def c6(B:Nat->yk Nat):yk AV:=(yB 10).map λk=>.lst (ii (B k))
variable{α:Type}
theorem lL(f:Nat->α)(h:k<10):((yB 10).map f)[k]?=some (f k):=by rw[zB,Dy h]; rfl
theorem uy(h:vs[k]?=some v)(b:k<1000):IF vs (k:Int)=some v:=by unfold IF;rw[yo (zo k),yo (Cz (Av.mpr b) (by decide)),zK]; exact h
theorem fL(f:Nat->AV)(h:k<10):IF ((yB 10).map f) (k:Int)=some (f k):=uy (lL f h) (y0 h (by decide))
theorem Kl(f:Nat->AV)(k:Nat)(v:AV):((yB 10).map f).set k v=(yB 10).map λj=>if j=k then v else f j:=by
 apply Gv;intro i;rw[Gy];by_cases hi:i<10
 ·rw[lL _ hi,lL _ hi];by_cases e:k=i
  ·subst e; rw[yo rfl,yo (by rw[yE,zh]; exact hi),yo rfl]
  ·rw[ym e,ym (λq=>e q.symm)]
 ·have z:∀g:Nat->AV,((yB 10).map g)[i]?=none:=λg=>Br (by rw[yE,zh]; exact zr hi);rw[z,z];by_cases e:k=i
  ·subst e; rw[yo rfl,ym (by rw[yE,zh]; exact hi)]
  ·rw[ym e]
theorem Oe{Q:yu->St->Prop}(hj:j<O.nx)(h1:O.hp j=.list vs)(hk:k<vs.length)(hl:vs.length<=HC)(h:Q () {O with hp:=upd O.hp j (.list (vs.set k v))}) :
  yT (jP (.ref j) (.int (k:Nat)) v) O Q :=
 HS rfl (HS rfl (IE hj (IL (a:=vs) (by rw[h1]; rfl) (jm ⟨zo k,hk,hl⟩ (Rf hj h)))))
noncomputable def de(B:Nat->yk Nat)(j kk:Nat):Nat->yk Nat:=λk=>if k<kk then Ny j B k else B k
theorem Rj(B:Nat->yk Nat)(j kk:Nat):de B j kk j=B j:=by
 unfold de Ny;split
 ·split
  ·rw[B6.mpr (λa ha=>by rw[zp.mpr ha]; decide),yX]
  ·rfl
 ·rfl
theorem oB(B:Nat->yk Nat)(j kk:Nat):de B j (kk+1)=λx=>if x=kk then(if(de B j kk kk).contains j then de B j kk kk++(de B j kk j).filter (λm => !(de B j kk kk).contains m)else de B j kk kk)else de B j kk x:=by
 funext x;rw[Rj];by_cases e:x=kk
 ·subst e;rw[yo rfl];unfold de;rw[yo (yK x),ym (zt x)]; rfl
 ·rw[ym e];unfold de;by_cases q:x<kk
  ·rw[yo q,yo (yZ q)]
  ·rw[ym q,ym (λh=>(CQ (zb h)).elim q e)]
inductive PR(O:St)(i:Nat)(B:Nat->yk Nat)(j:Nat)(r:yk AV)(O':St):Prop
 |mk (kk:Nat) (u0:r=(zU kk (10-kk)).map λ(n:Nat)=>AV.int (n:Int)) (u1:kk<=10) (u2:O.nx<=O'.nx) (u3:∀q,q<O.nx->q≠i->O'.hp q=O.hp q) (u4:O'.hp i=.list (c6 (de B j kk))) (u5:O'.loc (Sx "below")=some (.ref i)) (u6:O'.loc (Sx "middle")=some (.int (j:Nat))):PR O i B j r O'
variable{kk:Nat}
theorem fM{r:yk AV}(h:v::r=(zU kk (10-kk)).map λ(n:Nat)=>AV.int (n:Int)):kk<10/\v=.int (kk:Nat)/\r=(zU (kk+1) (10-(kk+1))).map λ(n:Nat)=>AV.int (n:Int):=by
 by_cases q:kk<10
 ·rw[pq q,DC]at h;obtain⟨a,b⟩:=zL h;exact⟨q,a,b⟩
 ·rw[Nat.sub_eq_zero_of_le (zr q)]at h; cases h
theorem gZ(h:[]=(zU kk (10-kk)).map λ(n:Nat)=>AV.int (n:Int))(b:kk<=10):kk=10:=by
 by_cases q:kk<10
 ·rw[pq q,DC]at h; cases h
 ·exact Be b (zr q)
noncomputable def Pin.one(i:Nat)(o:AO):Pin:=λj=>if j=i then some o else none
theorem Pin.QZ{o:AO}(h:i<O.nx)(e:O.hp i=o):(Pin.one i o).at O:=λj p k=>by
 unfold Pin.one at k;split at k
 ·subst j; exact⟨h,e.trans (si k)⟩
 ·exact nn k
theorem Pin.QY{o:AO}:Pin.one i o i=some o:=yo rfl
variable{w:Pin}
theorem NS{e o g:M AV}{r:M ac}(he:P w l e (Fl v))(a:w.at O)(b:Ll l O.loc)(k:∀w' O',Nx w O w' O'->Ok (b3 o g v) O' λZ σ2=>Ok r σ2 Q):Ok (af (aA e [b3 o g]) r) O Q :=
 (he w O .refl a b).mono λu O' h9=>by obtain⟨w',n,q⟩:=h9; cases q w' .refl; exact k w' O' n
theorem wQ{o g:M AV}{Q:yu->St->Prop}(ho:V o O (.ref j))(hg:V g O (.int (k:Nat)))(hj:j<O.nx)(h1:O.hp j=.list vs)(hk:k<vs.length)(hl:vs.length<=HC)(h:Q () {O with hp:=upd O.hp j (.list (vs.set k v))}):Ok (b3 o g v) O Q:=ho _ (hg _ (Oe hj h1 hk hl h))
theorem x8  (hL:1000<=LL)(hi:i<O.nx){B:Nat->yk Nat}(hB:∀k,(B k).Nodup/\∀m∈B k,m<10)(hj:j<10){r:yk AV}(I:PR O i B j (v::r) O') :
  Ok (ee C) {O' with loc:=ai O'.loc (Sx "k") (some v)} λf σ2=>f=.next/\PR O i B j r σ2:=by
 refine(let QQ:=_; (?_:Ok _ _ QQ));obtain⟨kk,u0,u1,u2,u3,u4,u5,u6⟩:=I;obtain⟨hk,rfl,hr⟩:=fM u0;have i':i<O'.nx:=yv hi u2;have hlen:∀x,(de B j kk x).length<=100:=λx=>by
  have h1:=rs (hB x).1 (hB x).2;have h2:=rs (hB j).1 (hB j).2;unfold de Ny;split
  ·split
   ·rw[yV]; exact yn (Bc h1 (yn (Bs ..) h2)) (by decide)
   ·exact yn h1 (by decide)
  ·exact yn h1 (by decide)
 have hlj:∀x,(ii (de B j kk x)).length<=100:=λx=>by unfold ii jj; rw[yE,yE]; exact hlen x
 delta ee;have w1:(Pin.one i (.list (c6 (de B j kk)))).at {O' with loc:=ai O'.loc (Sx "k") (some (.int (kk:Nat)))}:=Pin.QZ i' u4;have lb:∀(n:Nat) (y:Str),ai O'.loc (Sx "k") (some (.int (kk:Nat))) (Sx "below")=some (.ref i):=λZ Z=>LS (by kernel_rfl) u5;have lm:ai O'.loc (Sx "k") (some (.int (kk:Nat))) (Sx "middle")=some (.int (j:Nat)):=LS (by kernel_rfl) u6;have lk:ai O'.loc (Sx "k") (some (.int (kk:Nat))) (Sx "k")=some (.int (kk:Nat)):=L0;have pb:∀{l w},(Pin.one i (.list (c6 (de B j kk)))).le w->∀{o:M AV},P w l o (Fl (.ref i))->∀{g:M AV} {x:Nat},x<10->P w l g (Fl (.int (x:Nat)))->P w l (aB o g) (Li (ii (de B j kk x))):=λhw o ho g x hx hg =>
  (P.idx (ho.li (.IH i rfl (hw _ _ Pin.QY))) hg (fL _ hx)).lst
 refine stI (c:=(de B j kk kk).contains j) (l:=ai O'.loc (Sx "k") (some (.int (kk:Nat)))) (iE _ j▸P.t (P.g (LS (by kernel_rfl) u6)) (pb .refl (P.g (lb 0 "")) hk (P.g L0)) Cc.Tj) w1 (λZ Z e=>e) λw2 σ2 n2 =>?_;have nxt:(de B j kk kk).contains j=false->c6 (de B j (kk+1))=c6 (de B j kk):=λe=>by
  rw[oB,e];unfold c6;refine Aj λx hx =>?_;dsimp only;by_cases q:x=kk
  ·subst q; rw[yo rfl]; rfl
  ·rw[ym q]
 have lo2:=n2.grow.loc;obtain⟨l2,h2,n2'⟩:=σ2;obtain rfl:l2=_:=lo2;split
 ·have e:=P.cat (w:=w2) (l:=ai O'.loc (Sx "k") (some (.int (kk:Nat)))) (pb n2.le (P.g (lb 0 "")) hk (P.g L0)) (P.map (x:=Sx "m") (t:=λσ0=>aG .NotIn (aa (Sx "m")) (aB (ae (σ0.loc (Sx "below"))) (ae (σ0.loc (Sx "k"))))) (e:=λZ=>aa (Sx "m")) (p:=λm => !(de B j kk kk).contains m) (f:=λ(m:Nat)=>AV.int (m:Int)) (λ(m:Nat)=>AV.int (m:Int)) (vs:=de B j kk j)
   (P.JW (by have:=pb (l:=ai O'.loc (Sx "k") (some (.int (kk:Nat)))) n2.le (P.g (lb 0 "")) hj (P.g (x:=Sx "middle") (LS (by kernel_rfl) u6)); unfold ii jj at this; rw[zq]at this; exact this)) (yR (hlen j) (yv (by decide) hL)) (yn (hlen j) (by decide))
   (λσ0 w' m c1 c2 hm=>iE _ m▸P.t (P.g L0) (pb (n2.le.trans c2) (P.f c1 (lb 0 "")) hk (P.f c1 L0)) Cc.Va) λσ0 w' m c1 c2 hm Z=>P.g L0)
   (yn (Bc (hlj kk) (yn (zj (yE ..)) (yn (Bs ..) (hlen j)))) (by decide))
  refine sS (NS (O:=⟨_,h2,n2'⟩) e n2.at_ (λZ Z e=>e) λw3 σ3 n3 =>?_);have hh3:σ3.hp i=.list (c6 (de B j kk)):=(n3.grow.hp i (yv i' n2.grow.nx)).trans ((n2.grow.hp i i').trans u4);have hn3:O'.nx<=σ3.nx:=yn n2.grow.nx n3.grow.nx;have lo3:=n3.grow.loc;obtain⟨l3,h3,n3'⟩:=σ3;obtain rfl:l3=_:=lo3;refine wQ (V.l (lb 0 "")) (V.l lk) (yv i' hn3) hh3 (by unfold c6; rw[yE,zh]; exact hk) (by unfold c6; rw[yE,zh]; decide) (sN (sE ⟨rfl,kk+1,hr,hk,yn u2 hn3,λq hq hqi=>(ym hqi).trans ((n3.grow.hp q (yv hq (yn u2 n2.grow.nx))).trans ((n2.grow.hp q (yv hq u2)).trans (u3 q hq hqi))),(yo rfl).trans (yI AO.list ?_),lb 0 "",lm⟩));unfold c6;rw[Kl,oB,yo (by assumption)];refine Aj λx hx =>?_;dsimp only;by_cases q:x=kk
  ·rw[yo q,yo q]; unfold ii jj; rw[yN,yN,zq,zq]; rfl
  ·rw[ym q,ym q]
 ·exact sN (sE ⟨rfl,kk+1,hr,hk,yn u2 n2.grow.nx,λq hq hqi=>(n2.grow.hp q (yv hq u2)).trans (u3 q hq hqi),((n2.grow.hp i i').trans u4).trans (yI AO.list (nxt (C7.mpr (by assumption))).symm),lb 0 "",lm⟩)
inductive PQ(O:St)(i:Nat)(M:Nat->yk Nat)(r:yk AV)(O':St):Prop
 |mk (j:Nat) (u0:r=(zU j (10-j)).map λ(n:Nat)=>AV.int (n:Int)) (u1:j<=10) (u2:O.nx<=O'.nx) (u3:∀q,q<O.nx->q≠i->O'.hp q=O.hp q) (u4:O'.hp i=.list (c6 (Ir M j))) (u5:O'.loc (Sx "below")=some (.ref i)):PQ O i M r O'
theorem uT  {body:AV->M ac}(I:yk AV->St->Prop)(hI:I vs O)(step:∀v r O,I (v::r) O->Ok (body v) O λf σ2=>f=.next/\I r σ2)(hend:∀O,I [] O->Q .next O):Ok (cy LL (.Ip vs) body) O Q :=
 br (HE:=R.M.ret ()) I (λv r O h=>(step v r O h).mono λf σ2 h2=>by obtain⟨rfl,h2⟩:=h2; exact h2) hend vs O hI
theorem SY{Q:yu->St->Prop}(h:Q () O):Ok (UC i) O Q:=h
theorem V.IV:V (cp (aj [(cst (.int 10))])) O (.Ip ((zU 0 (10-0)).map λ(n:Nat)=>AV.int (n:Int))):=V.Ip (V.cons V.c V.nil) rfl (by kernel_rfl)
theorem OA(B:Nat->yk Nat)(j:Nat):c6 (de B j 10)=c6 (Ny j B):=by unfold c6 de;exact Aj λx hx=>by rw[yo (y7.mp hx)]
theorem x9  (hL:1000<=LL)(hi:i<O.nx){M:Nat->yk Nat}(hM:∀k,(M k).Nodup/\∀m∈M k,m<10){r:yk AV}(I:PQ O i M (v::r) O') :
  Ok (eg C) {O' with loc:=ai O'.loc (Sx "middle") (some v)} λf σ2=>f=.next/\PQ O i M r σ2:=by
 refine(let QQ:=_; (?_:Ok _ _ QQ));obtain⟨j,u0,u1,u2,u3,u4,u5⟩:=I;obtain⟨hj,rfl,hr⟩:=fM u0;delta eg;refine sL V.IV ?_;refine uT (PR {O' with loc:=ai O'.loc (Sx "middle") (some (.int (j:Nat)))} i (Ir M j) j) ⟨0,rfl,zc _,yF _,λZ Z Z=>rfl,u4,by repeat' infer_instance,by repeat' infer_instance⟩ (λv r' σ3 hI =>?_) (λσ3 hI =>?_)
 ·refine bL ?_;refine x8 (I:=hI) hL ?_ (fc M hM j) hj;exact yv hi u2
 ·obtain⟨kk,v0,v1,v2,v3,v4,v5,v6⟩:=hI;obtain rfl:=gZ v0 v1;refine sE ⟨rfl,j+1,hr,hj,yn u2 v2,λq hq hqi=>(v3 q (yv hq u2) hqi).trans (u3 q hq hqi),v4.trans (yI AO.list (OA _ _)),v5⟩
noncomputable def tF(w:Pin)(R:Nat->Nat)(M:Nat->yk Nat):Prop:=∀k,k<10->w (R k)=some (.list (ii (M k)))
theorem K8(hD:1<=D)(hL:1000<=LL){a:M AV}{R:Nat->Nat}{M:Nat->yk Nat}(ha:P w l a (Fl (.ref m)))(hm:w m=some (.frozen ((yB 10).map λk=>AV.ref (R k))))(hR:tF w R M)(hM:∀k,(M k).Nodup/\∀m∈M k,m<10) :
  P w l (b8 (aJ T2 LL 40 D) (bl (Sx "_law_below")) (aj [a])) (Li (c6 (Ir M 10))):=by
 obtain⟨dd,rfl⟩:=ge (yn (by decide) hD);refine P.call (P.cons ha P.nil) λw1 O a1 b1 =>?_;refine bA (bs:=[(Sx "members",.ref m)]) (by kernel_rfl) (ma _) ?_;delta kj;have hb:∀k,(ii (M k)).length<=10:=λk=>by unfold ii jj; rw[yE,yE]; exact rs (hM k).1 (hM k).2
 refine sC (mS (O:=⟨λx=>[(Sx "members",AV.ref m)].lookup x,O.hp,O.nx⟩) (w:=w1) (l:=λx=>[(Sx "members",AV.ref m)].lookup x) (S:=λw us=>Fm (JD (λk=>true) λk w us=>∃u,us=[u]/\Fl (AV.lst (ii (M k))) w u) w (yB 10) us) (n:=1*(yB 10).length) (by decide) (P.JW ((P.g LK0).li (.Ij m rfl (a1 _ _ hm))))
  (λσ0 w' it i' c1 c2 c3=>Em.loop (n:=1) rfl c3 (yv (by decide) hL) (λk hk=>P.r) λk hk hp=>.one (.Ve (g:=vO) (by kernel_rfl) (P.g L0) λw3 v O q r z =>?_)) .refl b1 (λZ Z e=>e) λw2 σ2 j us x1 x2 x3 x4 x5 x6 =>?_)
 ·cases r;exact B.list (q _ _ ((a1.trans c2) _ _ (hR k (y7.mp hk)))) z (yn (hb k) (by decide))
 ·have hus:us=c6 M:=((x6 w2 .refl).fm).trans (yI _ (B7.mpr λZ Z=>rfl));subst hus;obtain⟨l2,h2,n2⟩:=σ2;obtain rfl:l2=_:=x1.grow.loc;refine SY (sL (O:=⟨ai (λx=>[(Sx "members",AV.ref m)].lookup x) (Sx "below") (some (.ref j)),h2,n2⟩) V.IV ?_);refine uT (PQ ⟨ai (λx=>[(Sx "members",AV.ref m)].lookup x) (Sx "below") (some (.ref j)),h2,n2⟩ j M) ⟨0,rfl,zc _,yF _,λZ Z Z=>rfl,x5,by repeat' infer_instance⟩ (λv r' σ3 hI =>?_) (λσ3 hI =>?_)
  ·refine bL ?_;refine x9 (I:=hI) hL ?_ hM;exact x4
  ·refine(let QQ:=_; (?_:Ok _ _ QQ));obtain⟨kk,v0,v1,v2,v3,v4,v5⟩:=hI;obtain rfl:=gZ v0 v1;refine sR (V.l v5) ⟨Pin.add w2 j (.list (c6 (Ir M 10))),⟨⟨rfl,yn x1.grow.nx v2,λq hq=>(v3 q (yv hq x1.grow.nx) (yA (yv hq x3))).trans (x1.grow.hp q hq)⟩,x1.le.trans (Pin.I0 x2),λq o e =>?_,λq o e =>?_⟩,λw3 z=>.IH j rfl (z _ _ Pin.Io)⟩
   ·by_cases qj:q=j
    ·subst qj; cases e.symm.trans Pin.Io; exact⟨yv x4 v2,v4⟩
    ·have e':=(ym qj).symm.trans e;exact⟨yv (x1.at_ q o e').1 v2,(v3 q (x1.at_ q o e').1 qj).trans (x1.at_ q o e').2⟩
   ·by_cases qj:q=j
    ·exact .inr (qj▸x3)
    ·exact x1.fr q o ((ym qj).symm.trans e)
structure Iu(M:Nat->yk Nat):Prop where
 nd:∀k,(M k).Nodup
 lt:∀k,∀m∈M k,m<10/\k<10
 ly:∀k,∀m∈M k,m / 2<k / 2\/m=k\/k∈M m
noncomputable def dn(M:Nat->yk Nat):Nat->Nat->yx
 |0,_=>false
 |r+1,k=>(M k).all (dn M r)
variable{s:Nat}
variable{c:Nat}
section
variable{M:Nat->yk Nat}
theorem iJ{r:Nat}:dn M (r+1) k=true↔∀m∈M k,dn M r m=true:=BZ
theorem fW:∀{r k:Nat},dn M r k=true->dn M (r+1) k=true
 |0,_,h=>nomatch h
 |r+1,k,h=>iJ.mpr λm hm=>fW (iJ.mp h m hm)
theorem Qp{r:Nat}(h:dn M r k=true)(e:r<=s):dn M s k=true:=by
 obtain⟨d,rfl⟩:=Nat.le.dest e;induction d with
 |zero=>exact h
 |succ d ih=>exact fW (ih (yH _ _))
theorem Tw{T:Nat->Nat->Prop}(h:∀k m,T m k->∀r,dn M (r+1) k=true->dn M r m=true)(t:T k k):∀r,dn M r k=false
 |0=>rfl
 |r+1=>by
  cases e:dn M (r+1) k with
  |false=>rfl
  |true=>exact yD (h k k t r e) (by rw[Tw h t r]; decide)
noncomputable def Ah(M:Nat->yk Nat)(m k:Nat):Prop:=∀r,dn M (r+1) k=true->dn M r m=true
theorem Ah.one(h:m∈M k):Ah M m k:=λr e=>iJ.mp e m h
theorem Ah.tr(h:Ah M a b)(k:Ah M b c):Ah M a c:=λr e=>by
 have e1:=k r e;cases r with
 |zero=>cases e1
 |succ r=>exact fW (h r e1)
theorem Ah.no(h:Ah M k k):∀r,dn M r k=false:=Tw (T:=λm k=>Ah M m k) (λk m t=>t) h
theorem dg(h:Iu M){r:Nat}(e:dn M r k=true)(hm:m∈M k):m / 2<k / 2:=by
 rcases h.ly k m hm with q|q|q
 ·exact q
 ·subst q; rw[(Ah.one hm).no r]at e; cases e
 ·rw[((Ah.one q).tr (Ah.one hm)).no r]at e; cases e
theorem rS(h:Iu M)(hk:k<10):dn M 10 k=true↔∀m,m=k\/m∈Ir M 10 k->m∉Ir M 10 m:=by
 have fine:=fc M λk=>⟨h.nd k,λm hm=>(h.lt k m hm).1⟩;have ah:∀k m,m∈Ir M 10 k->Ah M m k:=λk m=>fb M (Ah M) Ah.tr (λk m hm=>.one hm) 10 k m;constructor
 ·intro e m hm hr;have:=(ah m m hr).no;rcases hm with rfl|hm
  ·rw[this 10]at e; cases e
  ·have:=(ah k m hm) 10 (fW e);rw[(ah m m hr).no]at this; cases this
 ·intro hg;have key:∀n k,k / 2<n->(∀m,m=k\/m∈Ir M 10 k->m∉Ir M 10 m)->dn M n k=true:=by
   intro n;induction n with
   |zero=>intro k hk; exact yD hk (An _)
   |succ n ih =>
    intro k hk hg;refine iJ.mpr λm hm =>?_;have hmB:=iR M k m hm 10;have hm10:=(h.lt k m hm).1;have hlt:m / 2<k / 2:=by
     rcases h.ly k m hm with q|q|q
     ·exact q
     ·subst q; exact yD hmB (hg m (.inl rfl))
     ·exact yD (gX M 10 m hm10 k k hmB (iR M m k q 10)) (hg k (.inl rfl))
    exact ih m (yv hlt (zb hk)) λx hx=>hg x (.inr (hx.elim (λe=>e▸hmB) λe=>gX M 10 m hm10 k x hmB e))
  exact key 10 k (y0 (jB hk) (by decide)) hg
noncomputable def lay(M:Nat->yk Nat)(d:α)(F:yk α->α):Nat->Nat->α
 |0,_=>d
 |n+1,k=>F ((M k).map (lay M d F n))
noncomputable def val(M:Nat->yk Nat)(d:α)(F:yk α->α)(k:Nat):α:=lay M d F 6 k
theorem rC(h:Iu M)(d:α)(F:yk α->α){r:Nat}:∀n n' k,dn M r k=true->k / 2<n->k / 2<n'->lay M d F n k=lay M d F n' k
 |0=>λZ Z Z a Z=>yD a (An _)
 |n+1=>λn' k e a b=>by
  cases n' with
  |zero=>exact yD b (An _)
  |succ n' =>
  exact yI F (Aj λm hm=>by
  have q:=dg h e hm;have em:dn M r m=true:=by cases r with
   |zero=>cases e
   |succ r=>exact fW (iJ.mp e m hm)
  exact rC h d F n n' m em (yv q (zb a)) (yv q (zb b)))
theorem d5(h:Iu M)(d:α)(F:yk α->α)(e:dn M 10 k=true)(hk:k<10):val M d F k=F ((M k).map (val M d F)) :=
 yI F (Aj λm hm=>by
  have q:=dg h e hm;exact rC h d F 5 6 m (fW (iJ.mp e m hm)) (y0 q (jB hk)) (yZ (y0 q (jB hk))))
theorem b7(e:dn M 10 k=true)(hm:m∈M k):dn M 10 m=true:=fW (iJ.mp e m hm)
noncomputable def PZ(xs:yk Nat):Nat:=xs.foldl (λa b=>if 1+b>a then 1+b else a) 0
theorem tG(xs:yk Nat)(a r:Nat):xs.foldl (λa b=>if 1+b>a then 1+b else a) a<=r↔a<=r/\∀x∈xs,x<r:=by
 induction xs generalizing a with
 |nil=>exact⟨λh=>⟨h,λZ q=>(Ad q).elim⟩,λh=>h.1⟩
 |cons x xs ih =>
  rw[Aw,ih];constructor
  ·rintro⟨h1,h2⟩;split at h1
   ·exact⟨yn (zz (by assumption)) h1,λy hy=>(yP.mp hy).elim (λe=>by rw[e]; exact yv (G3 BL) h1) (h2 y)⟩
   ·exact⟨h1,λy hy=>(yP.mp hy).elim (λe=>by rw[e]; exact yv (G3 BL) (yn (zr (by assumption)) h1)) (h2 y)⟩
  ·rintro⟨h1,h2⟩;have:=h2 x (yY ..);exact⟨by split<;>first|exact h1|(rw[zI]; exact this),λy hy=>h2 y (zS _ hy)⟩
noncomputable def rk(M:Nat->yk Nat):Nat->Nat:=val M 0 PZ
theorem gx(h:Iu M):∀r k,k<10->dn M 10 k=true->(dn M r k=true↔rk M k<r)
 |0,k,_,_=>⟨λh=>(A0 h).elim,λh=>yD h (An _)⟩
 |r+1,k,hk,e=>by
  unfold rk;rw[iJ,d5 h 0 PZ e hk,Nat.lt_succ_iff];unfold PZ;rw[tG];constructor
  ·intro a;exact⟨zc _,λx hx=>by
    obtain⟨m,hm,rfl⟩:=yW.mp hx;exact(gx h r m (h.lt k m hm).1 (b7 e hm)).mp (a m hm)⟩
  ·intro a m hm;exact(gx h r m (h.lt k m hm).1 (b7 e hm)).mpr (a.2 _ (zG hm))
theorem Ko(h:Iu M)(hk:k<10)(e:dn M 10 k=true):rk M k<10:=(gx h 10 k hk e).mp e
end
noncomputable def qL(xs:yk Nat):Nat:=(xs.map λv=>2 ^ v).sum
noncomputable def rN(xs:yk Nat):yk Nat:=(yB 16).filter λv=>xs.contains v
theorem jN(n:Nat)(p:Nat->yx):qL ((yB (n+1)).filter p)=(if p n=true then 2 ^ n else 0)+qL ((yB n).filter p):=by
 unfold qL;rw[Bv,B1,yN,EX,zI];congr 1;cases e:p n with
 |true=>rw[CG e]; simp
 |false=>rw[CD (by rw[e]; decide)]; simp
theorem iV:∀n,∀p:Nat->yx,qL ((yB n).filter p)<2 ^ n
 |0,p=>BL
 |n+1,p=>by have:=iV n p;rw[jN,DN,Nat.mul_two];split<;>first|exact y8 this _|(rw[zM]; exact yv this (GY ..))
theorem lx:∀n,∀p:Nat->yx,∀v,(qL ((yB n).filter p)).testBit v=(decide (v<n)&&p v)
 |0,p,v=>Hc v
 |n+1,p,v=>by
  have lt:=iV n p;rcases G6 v n with q|q|q
  ·have ih:=lx n p v;rw[y9 q]at ih;rw[jN,y9 (yZ q)];split
   ·rw[Nat.testBit_two_pow_add_gt q,ih]
   ·rw[zM,ih]
  ·subst q;rw[jN,y9 (yK v),Cu];split
   ·rw[Nat.testBit_two_pow_add_eq,CV lt]; exact(by assumption:p v=true).symm
   ·rw[zM,CV lt]; exact(C7.mpr (by assumption)).symm
  ·rw[CV (yv (iV (n+1) p) (DM (by decide) q)),AS (Cg.mpr q)]; rfl
noncomputable def Le(xs:yk Nat):Nat:=qL (rN xs)
noncomputable def nu(M:Nat->yk Nat):Nat->Nat:=val M 0 Le
theorem uW(xs:yk Nat)(v:Nat):(Le xs).testBit v=(decide (v<16)&&xs.contains v):=lx 16 _ v
theorem Ld(xs:yk Nat):Le xs<65536:=iV 16 _
theorem Lb{M:Nat->yk Nat}(h:Iu M):∀n k,k<10->dn M 10 k=true->k / 2<=n->n<=4->nu M k<[1,2,4,16,65536].getD n 0:=by
 have step:∀k,k<10->dn M 10 k=true->∀b,(∀m∈M k,nu M m<b)->b<=16->nu M k<2 ^ b:=by
  intro k hk e b hb b16;unfold nu;rw[d5 h 0 Le e hk];have:Le ((M k).map (val M 0 Le))=qL ((yB b).filter λv=>((M k).map (val M 0 Le)).contains v):=by
   apply E1;intro v;rw[uW,lx];cases c:((M k).map (val M 0 Le)).contains v with
   |false=>rw[Eb,Eb]
   |true =>obtain⟨m,hm,rfl⟩:=yW.mp (zp.mp c);have:=hb m hm;unfold nu at this;rw[y9 this,y9 (yv this b16)]
  rw[this]; exact iV b _
 intro n;induction n with
 |zero =>intro k hk e l _;exact step k hk e 0 (λm hm=>yD (dg h e hm) λq=>An _ (yv q l)) (by decide)
 |succ n ih =>
  intro k hk e l l4;have:=step k hk e ([1,2,4,16,65536].getD n 0) (λm hm=>ih m (h.lt k m hm).1 (b7 e hm) (zb (yv (dg h e hm) l)) (zC l4)) (by
   rcases Td n l4 with rfl|rfl|rfl|rfl<;>decide)
  rcases Td n l4 with rfl|rfl|rfl|rfl<;>exact this
theorem Rh{M:Nat->yk Nat}(h:Iu M)(hk:k<10)(e:dn M 10 k=true)(hm:m∈M k):nu M m<16 :=
 Lb h 3 m (h.lt k m hm).1 (b7 e hm) (zb (yv (dg h e hm) (zb (jB hk)))) (by decide)
theorem iy{M:Nat->yk Nat}(h:Iu M)(hk:k<10)(e:dn M 10 k=true)(v:Nat):(nu M k).testBit v=true↔∃m∈M k,nu M m=v:=by
 unfold nu;rw[d5 h 0 Le e hk,uW,zg,ze,zp,yW];constructor
 ·exact λa=>a.2
 ·rintro⟨m,hm,rfl⟩;exact⟨Rh h hk e hm,m,hm,rfl⟩
variable{β:Type}
theorem jQ{M:Nat->yk Nat}(h:Iu M)(f:Nat->α)(g:Nat->β)(hf:∀j k,j<10->k<10->dn M 10 j=true->dn M 10 k=true->(f j=f k↔(∀m∈M j,∃m'∈M k,f m=f m')/\∀m∈M k,∃m'∈M j,f m=f m'))
  (hg:∀j k,j<10->k<10->dn M 10 j=true->dn M 10 k=true->(g j=g k↔(∀m∈M j,∃m'∈M k,g m=g m')/\∀m∈M k,∃m'∈M j,g m=g m')) :
  ∀n j k,j / 2+k / 2<n->j<10->k<10->dn M 10 j=true->dn M 10 k=true->(f j=f k↔g j=g k)
 |0,_,_,h,_,_,_,_=>yD h (An _)
 |n+1,j,k,hn,hj,hk,ej,ek=>by
  have ih:∀a b,a∈M j->b∈M k->(f a=f b↔g a=g b)/\(f b=f a↔g b=g a):=λa b ha hb=>by have qa:=dg h ej ha;have qb:=dg h ek hb;exact⟨jQ h f g hf hg n a b (yv (EY qa qb) (zb hn)) (h.lt j a ha).1 (h.lt k b hb).1 (b7 ej ha) (b7 ek hb),jQ h f g hf hg n b a (by rw[zI]; exact yv (EY qa qb) (zb hn)) (h.lt k b hb).1 (h.lt j a ha).1 (b7 ek hb) (b7 ej ha)⟩
  rw[hf j k hj hk ej ek,hg j k hj hk ej ek];constructor
  ·exact λa=>⟨λm hm=>(a.1 m hm).imp λx z=>⟨z.1,(ih m x hm z.1).1.mp z.2⟩,λm hm=>(a.2 m hm).imp λx z=>⟨z.1,(ih x m z.1 hm).2.mp z.2⟩⟩
  ·exact λa=>⟨λm hm=>(a.1 m hm).imp λx z=>⟨z.1,(ih m x hm z.1).1.mpr z.2⟩,λm hm=>(a.2 m hm).imp λx z=>⟨z.1,(ih x m z.1 hm).2.mpr z.2⟩⟩
theorem Oq{M:Nat->yk Nat}(h:Iu M)(j k:Nat)(hj:j<10)(hk:k<10)(ej:dn M 10 j=true)(ek:dn M 10 k=true):nu M j=nu M k↔(∀m∈M j,∃m'∈M k,nu M m=nu M m')/\∀m∈M k,∃m'∈M j,nu M m=nu M m':=by
 constructor
 ·intro e;exact⟨λm hm=>by
   have:=(iy h hj ej (nu M m)).mpr ⟨m,hm,rfl⟩;rw[e]at this;obtain⟨x,y,z⟩:=(iy h hk ek _).mp this;exact⟨x,y,z.symm⟩,λm hm=>by
   have:=(iy h hk ek (nu M m)).mpr ⟨m,hm,rfl⟩;rw[<-e]at this;obtain⟨x,y,z⟩:=(iy h hj ej _).mp this;exact⟨x,y,z.symm⟩⟩
 ·rintro⟨a,b⟩;apply E1;intro v;rw[AZ,iy h hj ej,iy h hk ek];constructor
  ·rintro⟨m,hm,rfl⟩;obtain⟨x,y,z⟩:=a m hm;exact⟨x,y,z.symm⟩
  ·rintro⟨m,hm,rfl⟩;obtain⟨x,y,z⟩:=b m hm;exact⟨x,y,z.symm⟩
noncomputable abbrev sk(s:Str):yk Nat:=s.cps.toList
theorem Str.same{s t:Str}(h:sk s=sk t):s=t:=by cases s; cases t; exact yI Str.mk (Array.toList_inj.mp h)
theorem Kf(s t:Str):sk (s++t)=sk s++sk t:=C6
theorem xw(ss:yk Str)(a:yM Nat):(ss.foldl (λacc p=>acc++(Sx "").cps++p.cps) a).toList=a.toList++(ss.map sk).flatten:=by
 induction ss generalizing a with
 |nil=>simp
 |cons s r ih =>rw[Aw,ih,C6,C6,show(Sx "").cps.toList=[] by kernel_rfl,yX,za,EJ,zF]
theorem qO(ss:yk Str):sk (Au (Sx "") ss)=(ss.map sk).flatten:=by
 cases ss with
 |nil=>rfl
 |cons s r=>exact xw r s.cps
noncomputable def cK(ss:yk Str):yk Str:=((yB ss.length).filter λi => !(ss.take i).contains (ss[i]?.getD default)).map λi=>ss[i]?.getD default
noncomputable def gf(fs:yk Str):Str:=Sx "("++ Au (Sx "") (cK (aD fs))++Sx ")"
theorem pz(fs:yk Str):sk (gf fs)=40::(((cK (aD fs)).map sk).flatten++[41]):=by unfold gf;rw[Kf,Kf,qO,show sk (Sx "(")=[40] by kernel_rfl,show sk (Sx ")")=[41] by kernel_rfl]; rfl
theorem iH:∀{l:yk Str},y∈ew x l↔y=x\/y∈l
 |[]=>zf.trans (by simp)
 |z::r=>by
  rw[gM];split
  ·rw[yP,iH,yP];exact⟨λh=>h.elim (λe=>.inr (.inl e)) λh=>h.elim .inl λh=>.inr (.inr h),λh=>h.elim (λe=>.inr (.inl e)) λh=>h.elim .inl λh=>.inr (.inr h)⟩
  ·exact yP
theorem bQ:∀{l:yk Str},y∈aD l↔y∈l
 |[]=>Iff.rfl
 |x::r=>by show _∈ew x (aD r)↔_; rw[iH,bQ,yP]
theorem mC(x:Str):∀l:yk Str,(ew x l).length=l.length+1
 |[]=>rfl
 |z::r=>by rw[gM]; split<;>simp[mC x r]
theorem gm:∀l:yk Str,(aD l).length=l.length
 |[]=>rfl
 |x::r=>by show(ew x (aD r)).length=_; rw[mC,gm r]; rfl
variable{ss:yk Str}
theorem RC(h:i<ss.length):ss[i]?.getD default∈ss:=by rw[zN h]; exact EM h
theorem dq:y∈cK ss↔y∈ss:=by
 unfold cK;rw[yW];constructor
 ·rintro⟨i,hi,rfl⟩;exact RC (y7.mp (zT.mp hi).1)
 ·intro h;have key:∀n:Nat,(∃i:Nat,i<n/\ss[i]?=some y)->∃i:Nat,ss[i]?=some y/\y∉ss.take i:=by
   intro n;induction n with
   |zero=>rintro⟨i,a,_⟩; exact yD a (An _)
   |succ n ih =>
    rintro⟨i,a,b⟩;by_cases q:y∈ss.take i
    ·obtain⟨j,hj,e⟩:=GL.mp q;have h2:=Nat.lt_min.mp hj;exact ih ⟨j,yv h2.1 (zb a),by rw[zN h2.2,e]⟩
    ·exact⟨i,b,q⟩
  obtain⟨i,hi⟩:=GI.mp h;obtain⟨j,h1,h2⟩:=key (i+1) ⟨i,yK i,hi⟩;refine⟨j,zT.mpr ⟨y7.mpr (y2.mp h1).1,?_⟩,by rw[h1]; rfl⟩;rw[h1];rw[Ct,C7];exact λe=>h2 (zp.mp e)
theorem mB(x:Str):∀l:yk Str,l.Pairwise (λa b=>sk a<=sk b)->(ew x l).Pairwise λa b=>sk a<=sk b
 |[],_=>Bu ..
 |y::r,h=>by
  obtain⟨h1,h2⟩:=Ak.mp h;rw[gM];split
  ·have lt:=BP (by assumption:decide (y.cps.toList<x.cps.toList)=true);exact Ak.mpr ⟨λz hz=>(iH.mp hz).elim (λe=>e▸List.le_of_lt lt) (h1 z),mB x r h2⟩
  ·have le:sk x<=sk y:=λq=>(by assumption:¬decide (y.cps.toList<x.cps.toList)=true) (y9 q);exact Ak.mpr ⟨λz hz=>(yP.mp hz).elim (λe=>e▸le) λhz=>List.le_trans le (h1 z hz),h⟩
theorem gi:∀l:yk Str,(aD l).Pairwise λa b=>sk a<=sk b
 |[]=>.nil
 |x::r=>mB x _ (gi r)
theorem oR(h:ss.Pairwise λa b=>sk a<=sk b):(cK ss).Pairwise λa b=>sk a<sk b:=by
 unfold cK;rw[DB];refine(GO.filter _).imp_of_mem λ{a b} ha hb lt =>?_;obtain⟨ha1,_⟩:=zT.mp ha;obtain⟨hb1,hb2⟩:=zT.mp hb;have la:=y7.mp ha1;have lb:=y7.mp hb1;rw[zN la,zN lb];rw[zN lb]at hb2;have le:sk ss[a]<=sk ss[b]:=GN.mp h a b la lb lt;by_cases q:sk ss[a]<sk ss[b]
 ·exact q
 ·have e:=Str.same (List.le_antisymm le q);have:ss[b]∈ss.take b:=GL.mpr ⟨a,Nat.lt_min.mpr ⟨lt,la⟩,e⟩;rw[show(some ss[b]).getD default=ss[b]from rfl,zp.mpr this]at hb2;cases hb2
theorem uN:∀l m:yk Str,(l.Pairwise λa b=>sk a<sk b)->(m.Pairwise λa b=>sk a<sk b)->(∀x,x∈l↔x∈m)->l=m
 |[]=>λm Z Z h=>by
  cases m with
  |nil=>rfl
  |cons y m=>exact yD ((h y).mpr (yY ..)) Ad
 |x::l=>λm hl hm h=>by
  cases m with
  |nil=>exact yD ((h x).mp (yY ..)) Ad
  |cons y m =>
  obtain⟨l1,l2⟩:=Ak.mp hl;obtain⟨m1,m2⟩:=Ak.mp hm;have e:x=y:=by
   rcases yP.mp ((h x).mp (yY ..))with e|hx
   ·exact e
   ·rcases yP.mp ((h y).mpr (yY ..))with e|hy
    ·exact e.symm
    ·exact yD (m1 x hx) (List.lt_asymm (l1 y hy))
  subst e;rw[uN l m l2 m2 λz=>⟨λhz=>((yP.mp ((h z).mp (zS _ hz))).resolve_left λe=>GD _ (e▸l1 z hz)),λhz=>((yP.mp ((h z).mpr (zS _ hz))).resolve_left λe=>GD _ (e▸m1 z hz))⟩]
inductive JL:yk Nat->Prop
 |mk (xs:yk (yk Nat)) (h:∀x∈xs,JL x):JL (40::(xs.flatten++[41]))
variable{fs:yk Str}
theorem Pl(h:∀f∈fs,JL (sk f)):JL (sk (gf fs)):=by rw[pz];refine .mk _ λx hx =>?_;obtain⟨f,hf,rfl⟩:=yW.mp hx;exact h f (bQ.mp (dq.mp hf))
theorem jx{s:yk Nat}(h:JL s):∃t,s=40::t:=by cases h; exact⟨_,rfl⟩
theorem L6{s:yk Nat}(h:JL s):∀t,JL t->∀r r',s++r=t++r'->s=t/\r=r':=by
 induction h with
 |mk xs hx ih =>
  intro t ht r r' e;cases ht with
  |mk ys hy =>
   have key:∀xs ys:yk (yk Nat),(∀x∈xs,∀t,JL t->∀r r',x++r=t++r'->x=t/\r=r')->(∀x∈xs,JL x)->(∀y∈ys,JL y)->xs.flatten++41::r=ys.flatten++41::r'->xs=ys/\r=r':=by
    intro xs;induction xs with
    |nil =>
     intro ys _ _ hy e;cases ys with
     |nil=>exact⟨rfl,(zL e).2⟩
     |cons y ys =>obtain⟨t,rfl⟩:=jx (hy y (yY ..));exact yD (zL e).1 (by decide)
    |cons x xs ih2 =>
     intro ys h1 h2 hy e;cases ys with
     |nil =>obtain⟨t,rfl⟩:=jx (h2 x (yY ..));exact yD (zL e).1 (by decide)
     |cons y ys =>rw[EJ,EJ,zF,zF]at e;obtain⟨rfl,e3⟩:=h1 x (yY ..) y (hy y (yY ..)) _ _ e;obtain⟨rfl,e4⟩:=ih2 ys (λz hz=>h1 z (zS _ hz)) (λz hz=>h2 z (zS _ hz)) (λz hz=>hy z (zS _ hz)) e3;exact⟨rfl,e4⟩
   have e2:xs.flatten++41::r=ys.flatten++41::r':=by have e3:(xs.flatten++[41])++r=(ys.flatten++[41])++r':=(zL e).2;rw[zF,zF]at e3; exact e3
   obtain⟨rfl,e4⟩:=key xs ys ih hx hy e2;exact⟨rfl,e4⟩
theorem Mi{xs ys:yk (yk Nat)}(hx:∀x∈xs,JL x)(hy:∀y∈ys,JL y)(e:xs.flatten=ys.flatten):xs=ys:=by
 induction xs generalizing ys with
 |nil =>
  cases ys with
  |nil=>rfl
  |cons y ys=>obtain⟨t,rfl⟩:=jx (hy y (yY ..)); cases e
 |cons x xs ih =>
  cases ys with
  |nil=>obtain⟨t,rfl⟩:=jx (hx x (yY ..)); cases e
  |cons y ys =>obtain⟨rfl,e3⟩:=L6 (hx x (yY ..)) y (hy y (yY ..)) _ _ e;rw[ih (λz hz=>hx z (zS _ hz)) (λz hz=>hy z (zS _ hz)) e3]
noncomputable def fo(M:Nat->yk Nat):Nat->Str:=val M default gf
theorem Mh{M:Nat->yk Nat}(h:Iu M):∀n k,k / 2<n->k<10->dn M 10 k=true->JL (sk (fo M k))
 |0,_,a,_,_=>yD a (An _)
 |n+1,k,a,hk,e=>by unfold fo;rw[d5 h default gf e hk];refine Pl λf hf =>?_;obtain⟨m,hm,rfl⟩:=yW.mp hf;have:=dg h e hm;exact Mh h n m (yv this (zb a)) (h.lt k m hm).1 (b7 e hm)
theorem OV{M:Nat->yk Nat}(h:Iu M)(j k:Nat)(hj:j<10)(hk:k<10)(ej:dn M 10 j=true)(ek:dn M 10 k=true):fo M j=fo M k↔(∀m∈M j,∃m'∈M k,fo M m=fo M m')/\∀m∈M k,∃m'∈M j,fo M m=fo M m':=by
 have isf:∀k,k<10->dn M 10 k=true->∀x∈(cK (aD ((M k).map (fo M)))).map sk,JL x:=λk hk ek x hx=>by obtain⟨f,hf,rfl⟩:=yW.mp hx;obtain⟨m,hm,rfl⟩:=yW.mp (bQ.mp (dq.mp hf));exact Mh h 5 m (jB (h.lt k m hm).1) (h.lt k m hm).1 (b7 ek hm)
 have e1:∀k,k<10->dn M 10 k=true->fo M k=gf ((M k).map (fo M)):=λk hk ek=>d5 h default gf ek hk;constructor
 ·intro e;rw[e1 j hj ej,e1 k hk ek]at e;have e2:=yI sk e;rw[pz,pz]at e2;have e3:=Mi (isf j hj ej) (isf k hk ek) (List.append_cancel_right (zL e2).2);have e4:cK (aD ((M j).map (fo M)))=cK (aD ((M k).map (fo M))):=by
   have:∀a b:yk Str,a.map sk=b.map sk->a=b:=by
    intro a;induction a with
    |nil=>intro b hb; cases b<;>first|rfl|cases hb
    |cons x a ih=>intro b hb; cases b with
     |nil=>cases hb
     |cons y b=>obtain⟨p,q⟩:=zL hb; rw[Str.same p,ih b q]
   exact this _ _ e3
  have mm:∀f,f∈(M j).map (fo M)↔f∈(M k).map (fo M):=λf=>by rw[<-bQ,<-dq,e4,dq,bQ]
  exact⟨λm hm=>by obtain⟨x,y,z⟩:=yW.mp ((mm _).mp (zG hm)); exact⟨x,y,z.symm⟩,λm hm=>by obtain⟨x,y,z⟩:=yW.mp ((mm _).mpr (zG hm)); exact⟨x,y,z.symm⟩⟩
 ·rintro⟨a,b⟩;rw[e1 j hj ej,e1 k hk ek];unfold gf;rw[uN _ _ (oR (gi ((M j).map (fo M)))) (oR (gi ((M k).map (fo M)))) λx =>?_];rw[dq,bQ,dq,bQ];constructor
  ·intro h;obtain⟨m,hm,rfl⟩:=yW.mp h;obtain⟨x,y,z⟩:=a m hm;exact z▸zG y
  ·intro h;obtain⟨m,hm,rfl⟩:=yW.mp h;obtain⟨x,y,z⟩:=b m hm;exact z▸zG y
theorem Tq{M:Nat->yk Nat}(h:Iu M)(hj:j<10)(hk:k<10)(ej:dn M 10 j=true)(ek:dn M 10 k=true):fo M j=fo M k↔nu M j=nu M k:=jQ h (fo M) (nu M) (OV h) (Oq h) 20 j k (y0 (EY (jB hj) (jB hk)) (by decide)) hj hk ej ek
noncomputable def iO(figs:yk Nat)(sz:Nat):yk Nat:=(yB figs.length).flatMap λk=>((yB sz).filter λt=>figs[k]?.getD 0 / 2 ^ t%2==1).map λt=>sz*k+t
theorem mF(q:Nat->Nat->yx)(sz:Nat)(hs:0<sz):∀n,((yB n).flatMap λk=>((yB sz).filter (q k)).map λt=>sz*k+t)=(yB (sz*n)).filter λv=>q (v / sz) (v%sz)
 |0=>rfl
 |n+1=>by rw[Bv,Dx,mF q sz hs n,Bg,GP,B1,EI,List.filter_map];refine yI _ (yI _ (Dw λt ht =>?_));have:=y7.mp ht;show q n t=q ((sz*n+t) / sz) ((sz*n+t)%sz);rw[E5 hs,DH this,Nat.mul_add_mod,Ce this,CN]
theorem lM{p:Nat->yx}(h:∀v,a<=v->p v=false)(k:a<=b):(yB b).filter p=(yB a).filter p:=by
 obtain⟨d,rfl⟩:=Nat.le.dest k;have e:((yB d).map (a + ·)).filter p=[]:=B6.mpr λv hv=>by obtain⟨t,_,rfl⟩:=yW.mp hv;rw[h _ (yH _ _)]; decide
 rw[GP,B1,e,yX]
theorem QI(x:a=0\/a=1)(y:b=0\/b=1)(h:a=1↔b=1):a=b:=by
 rcases x with rfl|rfl
 ·rcases y with rfl|rfl
  ·rfl
  ·cases h.mpr rfl
 ·exact(h.mp rfl).symm
variable{figs:yk Nat}{sz:Nat}
theorem vM(hs:0<sz)(h:∀k,figs[k]?.getD 0=n / 2 ^ (sz*k)%2 ^ sz)(hn:n<2 ^ (sz*figs.length))(h16:n<2 ^ 16):iO figs sz=(yB 16).filter λv=>n.testBit v:=by
 unfold iO;rw[mF (λk t=>figs[k]?.getD 0 / 2 ^ t%2==1) sz hs];have e:∀v,(figs[v / sz]?.getD 0 / 2 ^ (v%sz)%2==1)=n.testBit v:=λv=>by
  rw[h,Fc];have h1:n / 2 ^ (sz*(v / sz))%2 ^ sz / 2 ^ (v%sz)%2=n / 2 ^ v%2:=by have:=Nat.testBit_mod_two_pow (n / 2 ^ (sz*(v / sz))) sz (v%sz);rw[Fc,Fc,y9 (Bw v hs),Cu,decide_eq_decide,DG,<-BM,DF]at this;exact QI (G8 _) (G8 _) this
  rw[h1]; rfl
 have z:∀b,n<2 ^ b->∀v,b<=v->n.testBit v=false:=λb hb v hv=>CV (yv hb (DM (by decide) hv));rw[Dw λv Z=>e v];rcases Nat.le_total (sz*figs.length) 16 with q|q
 ·exact(lM (z _ hn) q).symm
 ·exact lM (z _ h16) q
theorem rp(h:n≠0):n / 16<n:=E0 (G9 h) (by decide)
theorem R7:∀n k,(ap n)[k]?.getD 0=n / 2 ^ (4*k)%2 ^ 4:=by
 intro n;induction n using CU with
 |ind n ih =>
  intro k;by_cases h:n=0
  ·subst h; rw[jK]; simp
  ·rw[cY h];cases k with
   |zero=>simp
   |succ k=>rw[List.getElem?_cons_succ,ih (n / 16) (rp h) k,Bg,zI,BM,<-DG]
theorem TM:∀n,n<2 ^ (4*(ap n).length):=by
 intro n;induction n using CU with
 |ind n ih =>
  by_cases h:n=0
  ·subst h; exact BL
  ·rw[cY h,Ax,Bg,BM];exact(DI (by decide)).mp (ih (n / 16) (rp h))
theorem vW(h:n<65536):iO (ap n) 4=(yB 16).filter λv=>n.testBit v:=vM (by decide) (R7 n) (TM n) h
noncomputable def sixes(n:Nat):yk Nat:=(yB 4).map λc=>n / 64 ^ c%64
theorem Kg(h:n<65536):iO (sixes n) 6=(yB 16).filter λv=>n.testBit v:=by
 refine vM (by decide) (λk =>?_) (y0 h (show 65536<2 ^ 24 by decide)) h;unfold sixes;by_cases q:k<4
 ·rw[zB,Dy q,E7]; rfl
 ·rw[Br (by rw[yE,zh]; exact zr q),DH (yv h (yn (by decide:65536<=2 ^ 24) (DM (by decide) (Af 6 (zr q)))))]; rfl
theorem held_eq{M:Nat->yk Nat}(h:Iu M)(hk:k<10)(e:dn M 10 k=true):rN ((M k).map (nu M))=(yB 16).filter λv=>(nu M k).testBit v:=by unfold rN;refine Dw λv hv =>?_;rw[AZ,iy h hk e,zp,yW]
theorem SU{M:Nat->yk Nat}(h:Iu M)(hk:k<10)(e:dn M 10 k=true):nu M k<65536:=by unfold nu; rw[d5 h 0 Le e hk]; exact Ld _
theorem SV{M:Nat->yk Nat}(h:Iu M)(hk:k<10)(e:dn M 10 k=true):nu M k=qL (rN ((M k).map (nu M))):=d5 h 0 Le e hk
variable{us:yk AV}
theorem Fm.Qh{γ:Type}{g:γ->yk AV}{vs:yk γ}(h:Fm (JD (λZ=>true) λv Z us=>us=g v) w vs us):us=vs.flatMap g:=by
 induction h with
 |nil=>rfl
 |cons h r ih =>have e:=h _ .refl;unfold JD at e;rw[yo rfl]at e;rw[e,ih]; rfl
theorem L8(h:k<xs.length):(ii xs)[k]?=some (.int (xs[k]?.getD 0:Nat)):=by unfold ii jj;rw[zB,zB,zN h]; rfl
theorem cU(xs:yk Nat):(ii xs).length=xs.length:=by unfold ii jj; rw[yE,yE]
theorem vu(a b:Nat):((a:Int)==(b:Int))=(a==b):=by rw[AZ,y5,y5]; exact Int.ofNat_inj
theorem Oj(hD:1<=D)(hL:1000<=LL){a:M AV}(ha:P w l a (Fl (.lst (ii figs))))(hf:figs.length<=100)(hs:sz<=10) :
  P w l (b8 (aJ T2 LL 40 D) (bl (Sx "_law_bits")) (aj [a,cst (.int (sz:Nat))])) (Li (ii (iO figs sz))):=by
 obtain⟨dd,rfl⟩:=ge (yn (by decide) hD);refine P.call (P.cons ha (P.cons P.c P.nil)) λw1 O a1 b1 =>?_;refine bA (bs:=[(Sx "figures",.lst (ii figs)),(Sx "size",.int (sz:Nat))]) (by kernel_rfl) (nH _) ?_;delta lZ;have lf:(λx=>[(Sx "figures",AV.lst (ii figs)),(Sx "size",.int (sz:Nat))].lookup x) (Sx "figures")=some (AV.lst (ii figs)):=LK0;have lz:(λx=>[(Sx "figures",AV.lst (ii figs)),(Sx "size",.int (sz:Nat))].lookup x) (Sx "size")=some (.int (sz:Nat)):=LK (by kernel_rfl) LK0;revert lf lz;generalize (λx=>[(Sx "figures",AV.lst (ii figs)),(Sx "size",.int (sz:Nat))].lookup x)=l1;intro lf lz;have hits:P w1 l1 (cp (aj [(ay "len" (aj [(aa (Sx "figures"))]))])) (It ((yB figs.length).map λ(k:Nat)=>AV.int (k:Int))):=by have e:=P.JQ (P.len (w:=w1) (P.g lf).lst (by rw[cU]; exact yn hf (by decide))) (by rw[cU]; exact yn hf (by decide));rw[cU]at e; exact e
 refine U4 (w:=w1) (l:=l1) (P.comp (n:=1*(yB sz).length*(yB figs.length).length) (S:=λw us=>Fm (JD (λZ=>true) λk Z us=>us=((yB sz).filter λt=>figs[k]?.getD 0 / 2 ^ t%2==1).map λ(t:Nat)=>AV.int ((sz*k+t:Nat):Int)) w (yB figs.length) us) ?_
  hits λσ0 w' it i c1 c2 c3 =>
   Em.loop rfl c3 (by rw[zh]; exact yR hf (yv (by decide) hL)) (λk hk=>P.r) λk hk Z =>?_) b1 (λZ Z e=>e) λw2 v σ2 n2 q =>?_
 ·rw[DL,zh,zh]; exact yn (Nat.mul_le_mul hs hf) (by decide)
 ·have hk':=y7.mp hk;refine(Em.clause (P.JQ (P.f c1 lz) (yn hs (by decide))) λw3 it2 c4 c5=>Em.loop (n:=1) (p:=λt=>figs[k]?.getD 0 / 2 ^ t%2==1) (S:=λt w us=>∃u,us=[u]/\Fl (AV.int ((sz*k+t:Nat):Int)) w u) (LS (by kernel_rfl) rfl) c5 (by rw[zh]; exact yR hs (yv (by decide) hL)) (λt ht =>?_) λt ht Z=>.one ?_).wk λw us h=>h.fm
  ·exact P.t (P.bin (P.bin (P.idx (P.f c1 lf).lst (P.g (LS (by kernel_rfl) L0)) (uy (L8 hk') (yv hk' (yn hf (by decide))))) (P.g L0) I.SI) P.c (I.S9 (b:=2) (by decide))) P.c (Cc.fl λhp nx=>(dt ..).trans (yI some (vu _ 1)))
  ·exact P.bin (P.bin (P.f c1 lz) (P.g (LS (by kernel_rfl) L0)) (I.Ri (gq (yR hs (by decide))) (gq (y0 hk' (yR hf (by decide)))))) (P.g L0) I.addN
 ·refine⟨w2,⟨⟨rfl,n2.grow.nx,n2.grow.hp⟩,n2.le,n2.at_,n2.fr⟩,λw3 z =>?_⟩;obtain⟨us,h1,h2⟩:=q w3 z;rw[h2.Qh]at h1;unfold iO ii jj;rw[zq,List.map_flatMap];have e:(yB figs.length).flatMap (λk=>((yB sz).filter λt=>figs[k]?.getD 0 / 2 ^ t%2==1).map λ(t:Nat)=>AV.int ((sz*k+t:Nat):Int))=(yB figs.length).flatMap λk=>(((yB sz).filter λt=>figs[k]?.getD 0 / 2 ^ t%2==1).map λt=>sz*k+t).map (AV.int∘λ(n:Nat)=>(n:Int)):=by congr 1; funext k; rw[zq]; rfl
  rw[<-e]; exact h1
variable{w':Pin}
theorem Nx.locs(h:Nx w O w' O')(l:Str->yl AV):Nx w ⟨l,O.hp,O.nx⟩ w' ⟨l,O'.hp,O'.nx⟩:=⟨⟨rfl,h.grow.nx,h.grow.hp⟩,h.le,h.at_,h.fr⟩
theorem P.txt{n:yL}{A:M (yk AV)}{a:M AV}{R:Pin->AV->Prop}{u:AV}(hm:iz.contains ("str",n)=true)(h:P w l a R)(k:∀w1 v O,R w1 v->w1.at O->B (ip (.str x) n [v]) O u){o:M AV}(ho:P w l o (Fl (.str x))):P w l (aI C o (Sx n) A (bw n (aj [a]))) (Fl u) :=
 ho.bind λw1 v z q=>by cases q w1 .refl;refine(P.up (v:=none) λw2 O a b=>λQ k=>wP k).bind λw2 um z2 q2 =>?_;cases q2 w2 .refl;refine(P.hp (v :="str") λw3 O a b=>vn rfl hm).bind λw3 v3 z3 q3=>((h.le (z.trans (z2.trans z3))).a1).bind λw4 vs z4 q4=>(P.hp (v :="str") λw5 O a b=>rfl).bind λw5 v5 z5 q5 =>?_;cases q3 w3 .refl;cases q5 w5 .refl;refine P.up λw6 O a b Q kq =>?_;obtain⟨v,rfl,r⟩:=q4 w6 (z5.trans a);exact jm (zl "str") (k w6 v O r b Q kq)
theorem P.join{A:M (yk AV)}{a:M AV}{g:Str}(h:P w l a (Li (ss.map .str)))(b:Df (ss.toArray.foldl (· + ·.length+g.length) 0)=false/\(Au g ss).length<=HC):P w l (aI C (cst (.str g)) (Sx "join") A (bw "join" (aj [a]))) (Fl (.str (Au g ss))) :=
 P.txt (by decide) h (λw1 v O r z Q q=>IL (a:=LG) (by kernel_rfl) (by
  show yT (yJ (Bq λhp nx=>items? hp nx v) λvs=>yJ (zE (f8 vs)) λxs=>CA (Df (xs.toArray.foldl (· + ·.length+g.length) 0)=false/\(Au g xs).length<=HC) (.str (Au g xs))) O Q;exact J1 (r.items z) (HS (iW ss) (JR b q)))) P.c
theorem P.index{A:M (yk AV)}{o a:M AV}(ho:P w l o (Fl (.str x)))(h:P w l a (Fl (.str y)))(e:(De x y 0 x.length 1).head?=some i):P w l (aI C o (Sx "index") A (bw "index" (aj [a]))) (Fl (.int (i:Nat))) :=
 P.txt (by decide) h (λw1 v O r z Q q=>IL (a:=t1) (by kernel_rfl) (by
  cases r;show yT (yJ (zE (De x y 0 x.length 1).head?) λ(i:Nat)=>zu (.int (i:Int))) O Q;exact HS e q)) ho
noncomputable def nR(ss:yk Str):Nat:=(ss.map Str.length).sum
variable{X:Nat}
theorem OH(h:∀s∈ss,s.length<=X):nR ss<=ss.length*X:=by
 induction ss with
 |nil=>exact zc _
 |cons s r ih =>show s.length+nR r<=(r.length+1)*X;rw[E9,zI];exact Bc (ih λz hz=>h z (zS _ hz)) (h s (yY ..))
theorem xC(ss:yk Str):∀a,ss.foldl (· + ·.length+(Sx "").length) a=a+nR ss:=by
 induction ss with
 |nil=>exact λa=>rfl
 |cons s r ih=>intro a; rw[Aw,ih]; show a+s.length+0+nR r=a+(s.length+nR r); exact zH a s.length (nR r)
theorem jZ(ss:yk Str):(Au (Sx "") ss).length=nR ss:=by show(Au (Sx "") ss).cps.size=_;rw[<-C5,show(Au (Sx "") ss).cps.toList=_ from qO ss,GC,zq];rfl
theorem xQ(ss:yk Str):(cK ss).length<=ss.length:=by unfold cK;rw[yE];exact yn (Bs ..) (zj zh)
theorem MH(h:∀s∈fs,s.length<=X):nR (cK (aD fs))<=fs.length*X :=
 yn (OH λs hs=>h s (bQ.mp (dq.mp hs))) (CT _ (yn (xQ _) (zj (gm _))))
theorem vL(h:∀s∈fs,s.length<=X):(gf fs).length<=fs.length*X+2:=by
 have e:(gf fs).length=nR (cK (aD fs))+2:=by show(gf fs).cps.size=_;rw[<-C5,show(gf fs).cps.toList=_ from pz fs,Ax,yV,GC,zq]; rfl
 rw[e]; exact AG (MH h) 2
theorem ri(hD:1<=D)(hL:1000<=LL){a:M AV}(ha:P w l a (Li (fs.map .str)))(hf:fs.length<=10)(hb:∀s∈fs,s.length<=30000) :
  P w l (b8 (aJ T2 LL 40 D) (bl (Sx "_law_brackets")) (aj [a])) (Fl (.str (gf fs))):=by
 obtain⟨dd,rfl⟩:=ge (yn (by decide) hD);intro w0 σ0 a0 b0 c0;refine(ha.a1 w0 σ0 a0 b0 c0).mono λvs O h9 =>?_;obtain⟨w1,n1,q1⟩:=h9;obtain⟨v,rfl,r1⟩:=q1 w1 .refl;refine Ok.mono (v:=aJ T2 LL 40 (dd+1) (bl (Sx "_law_brackets")) [v] []) (bA (Q:=PO w1 O (Fl (.str (gf fs)))) (bs:=[(Sx "forms",v)]) (by kernel_rfl) (ja _) ?_) λu O' h9=>by obtain⟨w2,n2,q2⟩:=h9; exact⟨w2,n1.trans n2,q2⟩
 delta gB;have lv:P w1 (λx=>[(Sx "forms",v)].lookup x) (aa (Sx "forms")) (Li (fs.map .str)):=(P.g LK0).li r1;have srt:P w1 (λx=>[(Sx "forms",v)].lookup x) (ay "sorted" (aj [(aa (Sx "forms"))])) (Fl (.lst ((aD fs).map .str))):=by
  cases fs with
  |nil=>exact P.sort (is:=[]) lv (by decide)
  |cons f r=>exact .b1 (by kernel_rfl) lv λw3 v3 σ3 r3 z3=>B.SD r3 z3 (yR hf (by decide)) (Dt _ _)
 refine Sk srt n1.at_ (λZ Z e=>e) λw2 σ2 n2 =>?_;refine(let QQ:=_; (?_:Ok _ _ QQ));have hsl:=gm fs;have hX:nR (cK (aD fs))<=300000:=yn (MH hb) (CT 30000 hf);have hbd:Df ((cK (aD fs)).toArray.foldl (· + ·.length+(Sx "").length) 0)=false/\(Au (Sx "") (cK (aD fs))).length<=HC:=by rw[jZ,List.foldl_toArray,xC,zM];exact⟨AS (Cg.mpr (yn hX (by decide))),yn hX (by decide)⟩
 have e1:(Sx "(").length=1:=by kernel_rfl
 have hc:(Sx "("++ Au (Sx "") (cK (aD fs))).length<=300001:=by show(Array.size (_++_))<=_;rw[Ea,zI];have:=jZ (cK (aD fs));exact Bc (yn (zj this) hX) (zj e1)
 obtain⟨l2,h2,m2⟩:=σ2;obtain rfl:l2=_:=n2.grow.loc;have lf:ai (λx=>[(Sx "forms",v)].lookup x) (Sx "forms") (some (AV.lst ((aD fs).map .str))) (Sx "forms")=some (AV.lst ((aD fs).map .str)):=L0;have hl2:((aD fs).map AV.str).length=(aD fs).length:=yE ..;have l10:(aD fs).length<=10:=hsl▸hf;have hits:P w2 (ai (λx=>[(Sx "forms",v)].lookup x) (Sx "forms") (some (AV.lst ((aD fs).map .str)))) (cp (aj [(ay "len" (aj [(aa (Sx "forms"))]))])) (It ((yB (aD fs).length).map λ(k:Nat)=>AV.int (k:Int))):=by have e:=P.JQ (P.len (w:=w2) (P.g lf).lst (by rw[hl2]; exact yn l10 (by decide))) (by rw[hl2]; exact yn l10 (by decide));rw[hl2]at e; exact e
 have get:∀{i:Nat},i<(aD fs).length->IF ((aD fs).map AV.str) (i:Int)=some (.str ((aD fs)[i]?.getD default)):=λ{i} hi=>uy (by rw[zB,zN hi]; rfl) (yv hi (yn l10 (by decide)));have cmp:=P.map (x:=Sx "i") (t:=λσ0=>aG .NotIn (aB (ae (σ0.loc (Sx "forms"))) (aa (Sx "i"))) (iL (ae (σ0.loc (Sx "forms"))) (M.ret none) (gd (aa (Sx "i"))) (M.ret none))) (e:=λσ0=>aB (ae (σ0.loc (Sx "forms"))) (aa (Sx "i"))) (λ(k:Nat)=>AV.int (k:Int)) (p:=λi => !((aD fs).take i).contains ((aD fs)[i]?.getD default)) (f:=λi=>.str ((aD fs)[i]?.getD default)) hits
  (by rw[zh]; exact yR l10 (yv (by decide) hL)) (by rw[zh]; exact yn l10 (by decide))
  (λσ0 w' i c1 c2 hi=>P.t (P.idx (P.f c1 lf).lst (P.g L0) (get (y7.mp hi))) (by
   have:=P.take (w:=w') (P.f (l:=ai (λZ=>none) (Sx "i") (some (AV.int (i:Int)))) c1 lf).lst (P.g L0) (by rw[hl2]; exact yn l10 (by decide));rw[<-List.map_take]at this; exact this.lst) Cc.Vz) λσ0 w' i c1 c2 hi Z=>P.idx (P.f c1 lf).lst (P.g L0) (get (y7.mp hi))
 have ed:((yB (aD fs).length).filter λi => !((aD fs).take i).contains ((aD fs)[i]?.getD default)).map (λi=>AV.str ((aD fs)[i]?.getD default))=(cK (aD fs)).map .str:=by unfold cK; rw[zq]; rfl
 rw[ed]at cmp;refine U4 (P.TC (P.TC P.c (P.join cmp hbd) ?_) P.c ?_) n2.at_ Ll.refl λw3 u σ3 n3 q3=>⟨w3,(n2.locs O.loc).trans (n3.locs O.loc),q3⟩
 ·rw[e1,jZ]; exact yn (zO hX 1) (by decide)
 ·exact yn (Bc hc (zj (show(Sx ")").length=1 by kernel_rfl))) (by decide)
variable{il:Nat}{lks:yk (Nat×Nat)}
theorem rg{body:M ac}(I:yk (Nat×Nat)->St->Prop)(hst:∀r O,I r O->O.hp il=.list (Jq lks)/\il<O.nx)
  (step:∀m k r O,(m,k)∈lks->I ((m,k)::r) O->Ok body ⟨ai (ai O.loc (Sx "m") (some (.int (m:Nat)))) (Sx "k") (some (.int (k:Nat))),O.hp,O.nx⟩ λf σ2=>f=.next/\I r σ2) (hend:∀O,I [] O->Q .next O) (hL:lks.length<LL) (hI:I lks O) :
  Ok (dj LL (.HY il) λv=>M.bind (dR [(Sx "m"),(Sx "k")] v) λZ=>body) O Q:=by
 show Ok (ez (λv=>M.bind (dR [(Sx "m"),(Sx "k")] v) λZ=>body) il LL 0) O Q;refine er (us:=Jq lks) (λr O'=>∃d r',lks=d++r'/\r=Jq r'/\I r' O') (λr O' h9=>by obtain⟨d,r',_,_,h⟩:=h9; exact⟨by rw[(hst r' O' h).1]; rfl,(hst r' O' h).2⟩) (λv r O' h9 =>?_) (λO' h9 =>?_) LL 0 O (by unfold Jq; rw[yE]; exact hL) (zc _) ⟨[],lks,rfl,rfl,hI⟩
 ·refine(let QQ:=_; (?_:Ok _ _ QQ));obtain⟨d,r',e0,e,h⟩:=h9;cases r' with
  |nil=>cases e
  |cons p r' =>obtain⟨rfl,rfl⟩:=zL e;have:=step p.1 p.2 r' O' (by rw[e0]; exact AE _ (yY ..)) h;exact Ok.mono (v:=body) this λf σ2 a=>by rw[a.1]; exact⟨d++[p],r',by rw[e0,zF]; rfl,rfl,a.2⟩
 ·obtain⟨d,r',_,e,h⟩:=h9;cases r' with
  |nil=>exact hend O' h
  |cons _ _=>cases e
noncomputable def n8(M:Nat->yk Nat)(p:Nat×Nat):Nat->yk Nat:=if p.1∈M p.2 then M else λx=>if x=p.2 then M p.2++[p.1]else M x
noncomputable def ag(ls:yk (Nat×Nat)):Nat->yk Nat:=ls.foldl n8 λZ=>[]
theorem Na{M:Nat->yk Nat}:m∈n8 M p k↔m∈M k\/p=(m,k):=by
 unfold n8;by_cases h:p.1∈M p.2
 ·rw[yo h];exact⟨.inl,λa=>a.elim id λe=>by subst e; exact h⟩
 ·rw[ym h];by_cases q:k=p.2
  ·subst q;rw[yo rfl,y3,zf];exact⟨λa=>a.imp_right λe=>by rw[e],λa=>a.imp_right λe=>by rw[e]⟩
  ·rw[ym q];exact⟨.inl,λa=>a.elim id λe=>yD (by rw[e]) q⟩
theorem PD{M:Nat->yk Nat}(h:∀k,(M k).Nodup)(k:Nat):(n8 M p k).Nodup:=by
 unfold n8;split
 ·exact h k
 ·dsimp only;split
  ·exact z6.mpr ⟨h _,Bu ..,λa ha b hb e=>(by assumption:¬p.1∈M p.2) (zf.mp hb▸e▸ha)⟩
  ·exact h k
theorem rV:∀(ls:yk (Nat×Nat)) (M:Nat->yk Nat) {m k:Nat},m∈ls.foldl n8 M k↔m∈M k\/(m,k)∈ls
 |[],M,m,k=>⟨.inl,λa=>a.elim id λq=>(Ad q).elim⟩
 |p::r,M,m,k=>by rw[Aw,rV r,Na,yP,or_assoc];exact⟨λa=>a.imp_right λb=>b.imp_left Eq.symm,λa=>a.imp_right λb=>b.imp_left Eq.symm⟩
theorem qn:∀(ls:yk (Nat×Nat)) (M:Nat->yk Nat),(∀k,(M k).Nodup)->∀k,(ls.foldl n8 M k).Nodup
 |[],M,h=>h
 |p::r,M,h=>qn r _ (PD h)
theorem cR:m∈ag ls k↔(m,k)∈ls:=(rV ls _).trans ⟨λa=>a.elim (λq=>(Ad q).elim) id,.inr⟩
theorem dX(h:eE ls):Iu (ag ls) where
 nd:=qn ls _ λk=>.nil
 lt k m hm:=⟨(h _ (cR.mp hm)).1,(h _ (cR.mp hm)).2.1⟩
 ly k m hm:=(h _ (cR.mp hm)).2.2.imp_right λa=>a.imp_right λb=>cR.mpr b.1
theorem Lx(h:∀p∈ls,p.1<10)(k:Nat):(ag ls k).length<=10:=rs (qn ls _ (λk=>.nil) k) λm hm=>h _ (cR.mp hm)
inductive QA(O:St)(b:Nat)(r:yk AV)(O':St):Prop
 |mk (kk:Nat) (u0:r=(zU kk (10-kk)).map λ(n:Nat)=>AV.int (n:Int)) (u1:kk<=10) (u2:O'.nx=b+1+kk) (u3:∀q,q<b->O'.hp q=O.hp q) (u4:O'.hp b=.list ((yB kk).map λk=>AV.ref (b+1+k))) (u5:∀k,k<kk->O'.hp (b+1+k)=.list []):QA O b r O'
theorem Q6(hL:1000<=LL){Q:AV->St->Prop}(hQ:∀h',(∀q,q<O.nx->h' q=O.hp q)->h' O.nx=.frozen ((yB 10).map λk=>AV.ref (O.nx+1+k))->(∀k,k<10->h' (O.nx+1+k)=.list [])->Q (.ref O.nx) ⟨O.loc,h',O.nx+11⟩) :
  Ok (aO bd (.list []) bE (cp (aj [(cst (.int 10))])) (λσ0 i=>aL LL (Sx "k") (M.ret true) (aU (bO (.list [])) i))) O Q:=by
 refine V.IV _ ?_;have key:Ok (cL LL (.Ip ((zU 0 (10-0)).map λ(n:Nat)=>AV.int (n:Int))) λv=>M.bind (an (Sx "k") v) λZ=>nA (M.ret true) (aU (bO (.list [])) O.nx)) ⟨λZ=>none,upd O.hp O.nx (.list []),O.nx+1⟩ λZ σ2=>Ok (bE O.nx) {σ2 with loc:=O.loc} λZ σ3=>Q (.ref O.nx) σ3:=by
  refine jv (vs:=(zU 0 (10-0)).map λ(n:Nat)=>AV.int (n:Int)) (w:=λZ=>none) (.Ip rfl) (yv (by decide) hL) (QA O O.nx) (λr O' Z j o e=>nomatch e) (λv r O' hI =>?_) (λO' hI =>?_) ⟨0,rfl,zc _,rfl,λq hq=>ym (yA hq),yo rfl,λk hk=>yD hk (An _)⟩
  ·refine(let QQ:=_; (?_:Ok _ _ QQ));obtain⟨kk,u0,u1,u2,u3,u4,u5⟩:=hI;obtain⟨hk,rfl,hr⟩:=fM u0;obtain⟨l,h,n⟩:=O';obtain rfl:n=O.nx+1+kk:=u2;have nb:O.nx≠O.nx+1+kk:=yA (yv (yK _) (yH _ _));show yT (Gf O.nx (.ref (O.nx+1+kk))) ⟨ai l (Sx "k") (some (.int (kk:Nat))),upd h (O.nx+1+kk) (.list []),O.nx+1+kk+1⟩ _;refine ku (vs:=(yB kk).map λk=>AV.ref (O.nx+1+k)) (yv (yK _) (yn (yH _ _) (Am _))) ((ym nb).trans u4) (by rw[yE,zh]; exact y0 hk (by decide)) ?_;refine⟨kk+1,hr,hk,rfl,λq hq=>(ym (yA hq)).trans ((ym (yA (yv hq (yn (Am _) (yH _ _))))).trans (u3 q hq)),(yo rfl).trans (by rw[Bv,yN]; rfl),λk hk2=>(ym (zk (yv (yK _) (yH _ _)))).trans ?_⟩;rcases CQ (zb hk2)with q|q
   ·exact(ym (yA (y8 q _))).trans (u5 k q)
   ·subst q; exact yo rfl
  ·obtain⟨kk,u0,u1,u2,u3,u4,u5⟩:=hI;obtain rfl:=gZ u0 u1;obtain⟨l,h,n⟩:=O';obtain rfl:n=O.nx+1+10:=u2;exact⟨yv (yK _) (yH _ _),_,u4,hQ _ (λq hq=>(ym (yA hq)).trans (u3 q hq)) (yo rfl) λk hk=>(ym (zk (yv (yK _) (yH _ _)))).trans (u5 k hk)⟩
 exact key
theorem rQ{k:Int}(h:items? hp nx (.ref i)=some vs):gc hp nx (.ref i) (.int k)=IF vs k:=by show(match items? hp nx (.ref i)with|some vs=>IF vs k|none=>(AV.ref i).HO.bind λj=>if j<nx then(hp j).HM.bind λd=>d.1.lookup k else none)=_;rw[h]
theorem xl(hi:i<nx)(h:hp i=.frozen vs):items? hp nx (.ref i)=some vs:=by show(if i<nx then(hp i).items? else none)=_;rw[yo hi,h]; rfl
theorem NY(h:k<10):IF ((yB 10).map λk=>AV.ref (b+k)) (k:Int)=some (.ref (b+k)):=fL (λk=>AV.ref (b+k)) h
theorem Qc(e:l x=some (.ref i))(hi:i<n)(hh:h i=.list us):V (M.bind (aa x) ar) ⟨l,h,n⟩ (.HY i):=V.ih hi hh (V.l e)
theorem U7  {xs:yk Str}{its:M aw}{body r:M ac}{v:aw}(hi:V its O v)(k:Ok (dj LL v λv=>M.bind (dR xs v) λZ=>body) O (iu r Q)):Ok (af (rT LL xs its body) r) O Q:=hi _ k
inductive Sf(O:St)(il:Nat)(lks:yk (Nat×Nat))(r:yk (Nat×Nat))(O':St):Prop
 |mk (done:yk (Nat×Nat)) (u0:lks=done++r) (u1:O.nx+11<=O'.nx) (u2:∀q,q<O.nx->O'.hp q=O.hp q) (u3:O'.hp O.nx=.frozen ((yB 10).map λk=>AV.ref (O.nx+1+k))) (u4:∀k,k<10->O'.hp (O.nx+1+k)=.list (ii (ag done k))) (u5:O'.loc (Sx "links")=some (.ref il)) (u6:O'.loc (Sx "members")=some (.ref O.nx)):Sf O il lks r O'
theorem QV  (hL:1000<=LL)(ok:eE lks)(hl:lks.length<=56)(h1:O.loc (Sx "links")=some (.ref il))(h2:il<O.nx)(h3:O.hp il=.list (Jq lks)){r:M ac}
  (k:∀O',Sf O il lks [] O'->Ok r O' Q) :
  Ok (af (aA (aO bd (.list []) bE (cp (aj [(cst (.int 10))])) (λσ0 i=>aL LL (Sx "k") (M.ret true) (aU (bO (.list [])) i))) [(an (Sx "members"))]) (af (rT LL [(Sx "m"),(Sx "k")] (M.bind (aa (Sx "links")) ar) (lY C)) r)) O Q:=by
 refine sC (Q6 hL λh' a1 a2 a3 =>?_);refine U7 (Qc (LS (by kernel_rfl) h1) (yv h2 (yH _ 11)) ((a1 il h2).trans h3)) ?_;refine rg (lks:=lks) (Sf O il lks) (λr O' h9=>by obtain⟨d,u0,u1,u2,u3,u4,u5,u6⟩:=h9; exact⟨(u2 il h2).trans h3,yv h2 (yn (yH _ 11) u1)⟩) (λm kk r O' hm hI =>?_) (λO' hI=>k O' hI) (yR hl (yv (by decide) hL)) ⟨[],rfl,yF _,a1,a2,a3,by repeat' infer_instance,by repeat' infer_instance⟩;refine(let QQ:=_; (?_:Ok _ _ QQ));obtain⟨done,u0,u1,u2,u3,u4,u5,u6⟩:=hI;have h8:=ok _ hm;have hm10:=h8.1;have hk10:=h8.2.1;have lt:∀{j},j<11->O.nx+j<O'.nx:=λh=>yv (y8 h _) u1;have ltr:∀{j},j<10->O.nx+1+j<O'.nx:=λ{j} h=>by rw[zH,zI 1]; exact lt (Hb h)
 obtain⟨l,h,n⟩:=O';have lm:ai (ai l (Sx "m") (some (.int (m:Nat)))) (Sx "k") (some (.int (kk:Nat))) (Sx "m")=some (.int (m:Nat)):=LS (by kernel_rfl) L0;have lk:ai (ai l (Sx "m") (some (.int (m:Nat)))) (Sx "k") (some (.int (kk:Nat))) (Sx "k")=some (.int (kk:Nat)):=L0;have le:ai (ai l (Sx "m") (some (.int (m:Nat)))) (Sx "k") (some (.int (kk:Nat))) (Sx "members")=some (.ref O.nx):=LS (by kernel_rfl) (LS (by kernel_rfl) u6);have li:ai (ai l (Sx "m") (some (.int (m:Nat)))) (Sx "k") (some (.int (kk:Nat))) (Sx "links")=some (.ref il):=LS (by kernel_rfl) (LS (by kernel_rfl) u5);revert lm lk le li;generalize ai (ai l (Sx "m") (some (.int (m:Nat)))) (Sx "k") (some (.int (kk:Nat)))=l2;intro lm lk le li;have vr:V (aB (aa (Sx "members")) (aa (Sx "k"))) ⟨l2,h,n⟩ (.ref (O.nx+1+kk)):=V.idx (V.l le) (V.l lk) ((rQ (xl (lt (j:=0) (by decide)) u3)).trans (NY hk10));have vc:V (aG .NotIn (aa (Sx "m")) (aB (aa (Sx "members")) (aa (Sx "k")))) ⟨l2,h,n⟩ (!(ag done kk).contains m):=V.cmp (V.l lm) vr (by
  show(jo h n (.int (m:Nat)) (.ref (O.nx+1+kk))).map (!·)=_;unfold jo;rw[b5 (ltr hk10) (u4 kk hk10)];dsimp only[AV.int?];rw[cw,Fg,Fg,iE])
 have nxt:ag (done++[(m,kk)])=n8 (ag done) (m,kk):=by unfold ag; rw[CH]; rfl
 delta lY;refine Us vc (λhc =>?_) λhc =>?_
 ·have hnm:m∉ag done kk:=λe=>by rw[zp.mpr e]at hc; cases hc
  have hlen:(ii (ag done kk)).length<HC:=by have:=Lx (ls:=done) (λp hp=>(ok p (by rw[u0]; exact z0 _ hp)).1) kk;rw[cU]; exact yR this (by decide)
  refine sS (PY vr (V.l lm) (ltr hk10) (u4 kk hk10) hlen (sN (sE ⟨rfl,done++[(m,kk)],by rw[u0,zF]; rfl,u1,λq hq=>(ym (yA (yv hq (yn (Am _) (yH _ _))))).trans (u2 q hq),(ym (yA (yv (yK _) (yH _ _)))).trans u3,λk hk =>?_,li,le⟩)));rw[nxt];unfold n8;rw[ym hnm];by_cases e:k=kk
  ·subst e; refine(yo rfl).trans ?_; rw[yo rfl]; unfold ii jj; rw[yN,yN]; rfl
  ·refine(ym λq=>e (DE q)).trans ?_; rw[ym e]; exact u4 k hk
 ·refine sN (sE ⟨rfl,done++[(m,kk)],by rw[u0,zF]; rfl,u1,u2,u3,λk hk =>?_,li,le⟩);rw[nxt];have hnm:m∈ag done kk:=zp.mp (by cases e:(ag done kk).contains m with|true=>rfl|false=>rw[e]at hc; cases hc);unfold n8;rw[yo hnm]; exact u4 k hk
theorem jA(xs:yk Nat):xs.map (λ(n:Nat)=>AV.int (n:Int))=ii xs:=by unfold ii jj; rw[zq]; rfl
theorem P.UD{o:AO}:P w l (bO o) (λw u=>∃j,u=.ref j/\w j=some o):=λw1 O a b c=>by
 have no:w1 O.nx=none:=by
  cases e:w1 O.nx with
  |none=>rfl
  |some o=>exact yD (b _ _ e).1 (zt _)
 refine⟨w1.add O.nx o,⟨⟨rfl,Am _,λj hj=>ym (yA hj)⟩,Pin.I0 no,λj p e =>?_,λj p e =>?_⟩,λw3 z=>⟨O.nx,rfl,z _ _ Pin.Io⟩⟩
 ·by_cases q:j=O.nx
  ·subst q; cases e.symm.trans Pin.Io; exact⟨yK _,yo rfl⟩
  ·have e':=(ym q).symm.trans e;exact⟨yZ (b j p e').1,(ym q).trans (b j p e').2⟩
 ·by_cases q:j=O.nx
  ·exact .inr (zj q.symm)
  ·exact .inl ((ym q).symm.trans e)
theorem P.Oy:P w l (bO (.list [])) (Li []):=(P.UD (o:=AO.list [])).wk (R':=Li []) λw' u Z h9=>by obtain⟨j,e,h⟩:=h9; exact Li.IH j e h
theorem P.P0  {its:M aw}{t:St->M yx}{vs:yk Nat}{p:Nat->yx}(hi:P w l its (It (ii vs)))(hl:vs.length<=500)(hL:1000<=LL)
  (ht:∀σ0 w' v,Ll l σ0.loc->w.le w'->v∈vs->P w' (ai (λZ=>none) x (some (.int (v:Nat)))) (t σ0) (Fl (p v))) :
  P w l (aO bd (.list []) bE its λσ0 i=>aL LL x (t σ0) (aU (aa x) i)) (Fz (ii (vs.filter p))):=by
 have:=P.Tb (x:=x) (t:=t) (e:=λZ=>aa x) (λ(n:Nat)=>AV.int (n:Int)) (p:=p) (f:=λ(n:Nat)=>AV.int (n:Int)) (jA vs▸hi) (yR hl (yv (by decide) hL)) (yn hl (by decide)) ht λσ0 w' v c k hv Z=>P.g L0;rw[jA]at this; exact this
theorem P.pick  {its:M aw}{t:St->M yx}{vs:yk Nat}{p:Nat->yx}(hi:P w l its (It (ii vs)))(hl:vs.length<=500)(hL:1000<=LL)
  (ht:∀σ0 w' v,Ll l σ0.loc->w.le w'->v∈vs->P w' (ai (λZ=>none) x (some (.int (v:Nat)))) (t σ0) (Fl (p v))) :
  P w l (aO bd (.list []) bE its λσ0 i=>aL LL x (t σ0) (aU (aa x) i)) (Li (ii (vs.filter p))):=(P.P0 hi hl hL ht).wk λw' u Z h=>h.li
variable{f:Nat->Nat}
theorem P.each  {its:M aw}{e:St->M AV}{vs:yk Nat}(hi:P w l its (It (ii vs)))(hl:vs.length<=500)(hL:1000<=LL)
  (he:∀σ0 w' v,Ll l σ0.loc->w.le w'->v∈vs->P w' (ai (λZ=>none) x (some (.int (v:Nat)))) (e σ0) (Fl (.int (f v:Nat)))) :
  P w l (aO bd (.list []) bE its λσ0 i=>aL LL x (M.ret true) (aU (e σ0) i)) (Li (ii (vs.map f))):=by
 have:=P.map (x:=x) (t:=λZ=>M.ret true) (e:=e) (λ(n:Nat)=>AV.int (n:Int)) (p:=λZ=>true) (f:=λ(n:Nat)=>AV.int (f n:Int)) (jA vs▸hi) (yR hl (yv (by decide) hL)) (yn hl (by decide)) (λZ Z Z Z Z Z=>P.r) λσ0 w' v c k hv Z=>he σ0 w' v c k hv;rw[B7.mpr λZ Z=>rfl]at this;have e2:vs.map (λ(n:Nat)=>AV.int (f n:Int))=ii (vs.map f):=by rw[<-jA,zq]; rfl
 rw[e2]at this; exact this
theorem P.IV:P w l (cp (aj [(cst (.int 10))])) (It (ii (yB 10))):=jA (yB 10)▸P.JQ (n:=10) P.c (by decide)
noncomputable def jR(M:Nat->yk Nat):yk Nat:=(yB 10).filter λk=>(Ir M 10 k).contains k
noncomputable def a6(M:Nat->yk Nat):yk Nat:=(yB 10).filter λk=>dn M 10 k
theorem cS{M:Nat->yk Nat}:k∈a6 M↔k<10/\dn M 10 k=true:=by unfold a6; rw[zT,y7]
theorem pU{M:Nat->yk Nat}:k∈jR M↔k<10/\k∈Ir M 10 k:=by unfold jR; rw[zT,y7,zp]
theorem OW{M:Nat->yk Nat}(h:Iu M)(hk:k<10):(jj (([k]++Ir M 10 k).filter λm=>(jR M).contains m)==[])=dn M 10 k:=by
 rw[AZ,rS h hk,y5];unfold jj;rw[ES,B6];have lt:∀m,m=k\/m∈Ir M 10 k->m<10:=λm hm=>hm.elim (λe=>e▸hk) ((fc M (λk=>⟨h.nd k,λm hm=>(h.lt k m hm).1⟩) 10 k).2 m);constructor
 ·intro a m hm hr;exact a m (y3.mpr (hm.imp_left zf.mpr)) (zp.mpr (pU.mpr ⟨lt m hm,hr⟩))
 ·intro a m hm hr;exact a m ((y3.mp hm).imp_left zf.mp) (pU.mp (zp.mp hr)).2
structure U0(M:Nat->yk Nat)(w:Pin)(bv rv fv:AV):Prop where
 b:Li (c6 (Ir M 10)) w bv
 r:Li (ii (jR M)) w rv
 f:Fz (ii (a6 M)) w fv
theorem gY(p:Nat->yx):((yB 10).filter p).length<=10:=yn (Bs ..) (zj zh)
theorem KN(hD:1<=7)(hL:1000<=LL){R:Nat->Nat}{Mb:Nat->yk Nat}(h:Iu Mb)(at_:w.at O)(lm:O.loc (Sx "members")=some (.ref b))(hb:w b=some (.frozen ((yB 10).map λk=>AV.ref (R k))))(hR:tF w R Mb){r:M ac}
  (k:∀w' O' bv rv fv,Nx w ⟨λZ=>none,O.hp,O.nx⟩ w' ⟨λZ=>none,O'.hp,O'.nx⟩->U0 Mb w' bv rv fv->O'.loc=ai (ai (ai O.loc (Sx "below") (some bv)) (Sx "rings") (some rv)) (Sx "founded") (some fv)->Ok r O' Q) :
  Ok (af (aA (b8 (aJ T2 LL 40 7) (bl (Sx "_law_below")) (aj [(aa (Sx "members"))])) [(an (Sx "below"))])
 (af (aA (aO bd (.list []) bE (cp (aj [(cst (.int 10))])) (λσ0 i=>aL LL (Sx "k") (aG .In (aa (Sx "k")) (aB (ae (σ0.loc (Sx "below"))) (aa (Sx "k")))) (aU (aa (Sx "k")) i))) [(an (Sx "rings"))])
 (af (aA (aO bd (.list []) bE (cp (aj [(cst (.int 10))])) (λσ0 i=>aL LL (Sx "k") (aG .Eq (aO bd (.list []) bE (M.bind (aK .Add (Ia [(aa (Sx "k"))]) (aB (ae (σ0.loc (Sx "below"))) (aa (Sx "k")))) ar) (λσ1 i=>aL LL (Sx "m") (aG .In (aa (Sx "m")) (ae (σ0.loc (Sx "rings")))) (aU (aa (Sx "m")) i))) (bO (.list []))) (aU (aa (Sx "k")) i))) [(an (Sx "founded"))]) r))) O Q:=by
 have fine:=fc Mb λk=>⟨h.nd k,λm hm=>(h.lt k m hm).1⟩;have len:∀k,(Ir Mb 10 k).length<=10:=λk=>rs (fine 10 k).1 (fine 10 k).2;refine Sj (K8 hD hL (P.g lm) hb hR λk=>⟨h.nd k,λm hm=>(h.lt k m hm).1⟩) at_ Ll.refl λw1 bv σ1 n1 q1 =>?_;have hbv:=q1 w1 .refl;have row:∀{l w' o g k},k<10->w1.le w'->P w' l o (Fl bv)->P w' l g (Fl (.int (k:Nat)))->P w' l (aB o g) (Li (ii (Ir Mb 10 k))):=λhk z ho hg=>(P.idx (ho.li (hbv.mono z)) hg (fL _ hk)).lst;refine Sj (l:=ai σ1.loc (Sx "below") (some bv)) (P.pick (p:=λk=>(Ir Mb 10 k).contains k) P.IV (by decide) hL λσ0 w' v c1 c2 hv=>iE _ v▸P.t (P.g L0) (row (y7.mp hv) c2 (P.f c1 L0) (P.g L0)) Cc.Tj) n1.at_ Ll.refl λw2 rv σ2 n2 q2 =>?_;have hrv:Li (ii (jR Mb)) w2 rv:=q2 w2 .refl;have l2:σ2.loc=ai σ1.loc (Sx "below") (some bv):=n2.grow.loc;refine Sj (l:=ai σ2.loc (Sx "rings") (some rv)) (P.P0 (p:=λk=>dn Mb 10 k) P.IV (by decide) hL λσ0 w' v c1 c2 hv =>?_) n2.at_ Ll.refl λw3 fv σ3 n3 q3 =>?_
 ·have hv':=y7.mp hv;have lb:ai σ2.loc (Sx "rings") (some rv) (Sx "below")=some bv:=LS (by kernel_rfl) (l2▸L0);have inner:P w' (ai (λZ=>none) (Sx "k") (some (AV.int (v:Int)))) (M.bind (aK .Add (Ia [(aa (Sx "k"))]) (aB (ae (σ0.loc (Sx "below"))) (aa (Sx "k")))) ar) (It (ii ([v]++Ir Mb 10 v))):=by
   have e:=P.cat (l:=ai (λZ=>none) (Sx "k") (some (AV.int (v:Int)))) (a:=Ia [(aa (Sx "k"))]) (b:=aB (ae (σ0.loc (Sx "below"))) (aa (Sx "k"))) (P.lst (P.Ia (P.cons (P.g L0) P.nil) (show 1<=HC by decide))) (row hv' (n2.le.trans c2) (P.f c1 lb) (P.g L0)) (by rw[cU]; exact yn (zO (len v) 1) (by decide));have e2:[AV.int (v:Int)]++ii (Ir Mb 10 v)=ii ([v]++Ir Mb 10 v):=by unfold ii jj; rw[yN,yN]; rfl
   rw[e2]at e; exact e.lst.JW
  exact OW h hv'▸P.t (P.pick (p:=λm=>(jR Mb).contains m) inner (by rw[yV]; exact yn (zO (len v) 1) (by decide)) hL λσ1 w4 m c3 c4 hm=>iE _ m▸P.t (P.g L0) ((P.f c1 L0).li (hrv.mono (c2.trans c4))) Cc.Tj) P.Oy (Cc.eq (js:=[]))
 ·refine k w3 _ bv rv fv (Nx.trans (n1.locs λZ=>none) ((n2.locs λZ=>none).trans (n3.locs λZ=>none))) ⟨hbv.mono (n2.le.trans n3.le),hrv.mono n3.le,q3 w3 .refl⟩ ?_;show ai σ3.loc _ _=_;rw[n3.grow.loc];show ai (ai σ2.loc _ _) _ _=_;rw[l2,n1.grow.loc]
noncomputable def di:yk Int:=jj (yB 10)
inductive T3(O:St)(b:Nat)(r:yk AV)(O':St):Prop
 |mk (kk:Nat) (u0:r=(zU kk (10-kk)).map λ(n:Nat)=>AV.int (n:Int)) (u1:kk<=10) (u2:O'.nx=b+1+kk) (u3:∀q,q<b->O'.hp q=O.hp q) (u4:O'.hp b=.dict ((yB kk).map λ(k:Nat)=>((k:Int),AV.ref (b+1+k))) kk) (u5:∀k,k<kk->O'.hp (b+1+k)=.list []):T3 O b r O'
variable{ver:Nat}{kvs:yk (Int×AV)}
theorem uR{k:Int}{Q:yu->St->Prop}(hi:i<O.nx)(h1:O.hp i=.dict kvs ver)(hl:kvs.length<=HC)(hk:k∉kvs.map (·.1))(h:Q () {O with hp:=upd O.hp i (.dict (kvs++[(k,v)]) (ver+1))}):yT (kW i (.int k) v) O Q:=by rw[<-fD kvs k v hk]at h;exact HS rfl (IE hi (HS (a:=(kvs,ver)) (by rw[h1]; rfl) (jm hl (Rf hi h))))
theorem KW(hL:1000<=LL){Q:AV->St->Prop}(hQ:∀h',(∀q,q<O.nx->h' q=O.hp q)->h' O.nx=.dict ((yB 10).map λ(k:Nat)=>((k:Int),AV.ref (O.nx+1+k))) 10->(∀k,k<10->h' (O.nx+1+k)=.list [])->Q (.ref O.nx) ⟨O.loc,h',O.nx+11⟩) :
  Ok (oW bd (cp (aj [(cst (.int 10))])) (λσ0 i=>aL LL (Sx "k") (M.ret true) (kE (aa (Sx "k")) (bO (.list [])) i))) O Q:=by
 refine V.IV _ ?_;have key:Ok (cL LL (.Ip ((zU 0 (10-0)).map λ(n:Nat)=>AV.int (n:Int))) λv=>M.bind (an (Sx "k") v) λZ=>nA (M.ret true) (kE (aa (Sx "k")) (bO (.list [])) O.nx)) ⟨λZ=>none,upd O.hp O.nx (.dict [] 0),O.nx+1⟩ λZ σ2=>Q (.ref O.nx) {σ2 with loc:=O.loc}:=by
  refine jv (vs:=(zU 0 (10-0)).map λ(n:Nat)=>AV.int (n:Int)) (w:=λZ=>none) (.Ip rfl) (yv (by decide) hL) (T3 O O.nx) (λr O' Z j o e=>nomatch e) (λv r O' hI =>?_) (λO' hI =>?_) ⟨0,rfl,zc _,rfl,λq hq=>ym (yA hq),yo rfl,λk hk=>yD hk (An _)⟩
  ·refine(let QQ:=_; (?_:Ok _ _ QQ));obtain⟨kk,u0,u1,u2,u3,u4,u5⟩:=hI;obtain⟨hk,rfl,hr⟩:=fM u0;obtain⟨l,h,n⟩:=O';obtain rfl:n=O.nx+1+kk:=u2;have nb:O.nx≠O.nx+1+kk:=yA (yv (yK _) (yH _ _));refine V.l (O:=⟨ai l (Sx "k") (some (.int (kk:Nat))),h,O.nx+1+kk⟩) (v:=.int (kk:Nat)) L0 _ ?_;show yT (kW O.nx (.int (kk:Nat)) (.ref (O.nx+1+kk))) ⟨ai l (Sx "k") (some (.int (kk:Nat))),upd h (O.nx+1+kk) (.list []),O.nx+1+kk+1⟩ _;refine uR (yv (yK _) (yn (yH _ _) (Am _))) ((ym nb).trans u4) (by rw[yE,zh]; exact yn u1 (by decide)) (λe =>?_) ?_
   ·obtain⟨p,hp,e⟩:=yW.mp e;obtain⟨j,hj,rfl⟩:=yW.mp hp;exact zt _ (A3 e▸y7.mp hj)
   refine⟨kk+1,hr,hk,rfl,λq hq=>(ym (yA hq)).trans ((ym (yA (yv hq (yn (Am _) (yH _ _))))).trans (u3 q hq)),(yo rfl).trans (by rw[Bv,yN]; rfl),λk hk2=>(ym (zk (yv (yK _) (yH _ _)))).trans ?_⟩;rcases CQ (zb hk2)with q|q
   ·exact(ym (yA (y8 q _))).trans (u5 k q)
   ·subst q; exact yo rfl
  ·obtain⟨kk,u0,u1,u2,u3,u4,u5⟩:=hI;obtain rfl:=gZ u0 u1;obtain⟨l,h,n⟩:=O';obtain rfl:n=O.nx+1+10:=u2;exact hQ _ u3 u4 u5
 exact key
noncomputable def JS(ls:yk (Nat×Nat)):Int->Int:=λk=>((ls.filter λp=>((p.2:Nat):Int)==k).length:Nat)
noncomputable def ID(ls:yk (Nat×Nat)):Int->yk Int:=λm=>(ls.filter λp=>((p.1:Nat):Int)==m).map λp=>((p.2:Nat):Int)
theorem Ou(ls:yk (Nat×Nat))(m k:Nat):bD (JS ls) k (JS ls k+1)=JS (ls++[(m,k)]):=by
 funext x;unfold bD JS;rw[B1,yV];by_cases e:x=(k:Int)
 ·subst e; rw[yo rfl,CG (by exact zl _)]; rfl
 ·rw[ym e,CD (by rw[y5]; exact λq=>e q.symm)]; rfl
theorem NN(ls:yk (Nat×Nat))(m k:Nat):hY (ID ls) m (ID ls m++[(k:Int)])=ID (ls++[(m,k)]):=by
 funext x;unfold hY ID;rw[B1,yN];by_cases e:x=(m:Int)
 ·subst e; rw[yo rfl,CG (by exact zl _)]; rfl
 ·rw[ym e,CD (by rw[y5]; exact λq=>e q.symm),List.filter_nil,DA,yX]
theorem pt(ls:yk (Nat×Nat))(x:Int):(ID ls x).length<=ls.length:=by unfold ID; rw[yE]; exact Bs ..
theorem gI(h:k<10):(k:Int)∈di:=yW.mpr ⟨k,y7.mpr h,rfl⟩
structure Qx(b:Nat)(lks:yk (Nat×Nat))(i:Nat)(G:SG)(O:St):Prop where
 rep:Rep O i G
 keys:G.keys=di
 np:G.np=JS lks
 su:G.su=ID lks
 rd:G.rd=.none
 po:G.po=0
 fi:G.fi=0
 new:∀j,fu G i j->b<=j
inductive Sh(O:St)(il i b:Nat)(lks:yk (Nat×Nat))(r:yk (Nat×Nat))(O':St):Prop
 |mk (done:yk (Nat×Nat)) (G:SG) (u0:lks=done++r) (u1:O.nx<=O'.nx) (u2:∀q,q<b->O'.hp q=O.hp q) (u3:Qx b done i G O') (u4:∀y,(y==Sx "m")=false->(y==Sx "k")=false->O'.loc y=O.loc y):Sh O il i b lks r O'
theorem Ro{z:Str}{u v:yl AV}(h1:(z==x)=false)(h2:(z==y)=false):ai (ai l x u) y v z=l z:=LS h2 (LS h1 rfl)
variable{G:SG}
theorem Od(hD:3<=7)(hL:1000<=LL)(ok:eE lks)(hl:lks.length<=56)(S:Qx b [] i G O)(h1:O.loc (Sx "links")=some (.ref il))(h2:il<b)(h3:O.hp il=.list (Jq lks))(hs:O.loc (Sx "sorter")=some (.ref i))(hb:b<=O.nx){r:M ac}
  (k:∀O',Sh O il i b lks [] O'->Ok r O' Q):Ok (af (rT LL [(Sx "m"),(Sx "k")] (M.bind (aa (Sx "links")) ar) (lX (aJ T2 LL 40 7))) r) O Q:=by
 have h2':=yv h2 hb;refine U7 (O:=⟨O.loc,O.hp,O.nx⟩) (Qc h1 h2' h3) ?_;refine rg (lks:=lks) (Sh O il i b lks) (λr O' h9=>by obtain⟨d,G',u0,u1,u2,u3,u4⟩:=h9; exact⟨(u2 il h2).trans h3,yv h2' u1⟩) (λm kk r O' hm hI =>?_) (λO' hI=>k O' hI) (yR hl (yv (by decide) hL)) ⟨[],G,rfl,yF _,λZ Z=>rfl,S,λZ Z Z=>rfl⟩;refine(let QQ:=_; (?_:Ok _ _ QQ));obtain⟨done,G',u0,u1,u2,⟨s1,s2,s3,s4,s5,s6,s7,s8⟩,u4⟩:=hI;have h8:=ok _ hm;have hm10:=h8.1;have hk10:=h8.2.1;have hdl:done.length<=56:=by rw[u0,yV]at hl; exact yn (yH _ _) hl
 obtain⟨l,h,n⟩:=O';have R:=s1.loc (ai (ai l (Sx "m") (some (.int (m:Nat)))) (Sx "k") (some (.int (kk:Nat))));have ls:ai (ai l (Sx "m") (some (.int (m:Nat)))) (Sx "k") (some (.int (kk:Nat))) (Sx "sorter")=some (.ref i):=(Ro (by kernel_rfl) (by kernel_rfl)).trans ((u4 _ (by kernel_rfl) (by kernel_rfl)).trans hs);have lm:ai (ai l (Sx "m") (some (.int (m:Nat)))) (Sx "k") (some (.int (kk:Nat))) (Sx "m")=some (.int (m:Nat)):=LS (by kernel_rfl) L0;have lk:ai (ai l (Sx "m") (some (.int (m:Nat)))) (Sx "k") (some (.int (kk:Nat))) (Sx "k")=some (.int (kk:Nat)):=L0;have lo:∀y,(y==Sx "m")=false->(y==Sx "k")=false->ai (ai l (Sx "m") (some (.int (m:Nat)))) (Sx "k") (some (.int (kk:Nat))) y=O.loc y:=λy a b=>(Ro a b).trans (u4 y a b);revert ls lm lk lo R;generalize ai (ai l (Sx "m") (some (.int (m:Nat)))) (Sx "k") (some (.int (kk:Nat)))=l2;intro R ls lm lk lo;delta lX;refine Ua (sU sW (V.l ls) R.i_ R.d_ R.ih R.dh rfl (V.cons (V.l lk) (V.cons (V.l lm) V.nil)) ?_);refine K9 (preds:=[(m:Int)]) hD R s5 kk (by rw[s2]; show di.length+1<=900; decide) (λx=>by rw[s4]; exact yn (AG (yn (pt _ _) hdl) 1) (by decide)) (λσ2 G2 a2 e1 e2 e3 e4=>sE ⟨rfl,done++[(m,kk)],G2,by rw[u0,zF]; rfl,yn u1 a2.nx,λq hq=>(a2.hp q (yv hq (yn hb u1)) (λf=>zt _ (yv hq (s8 q f)))).trans (u2 q hq),⟨a2.rep,?_,?_,?_,a2.rd.trans s5,a2.po.trans s6,a2.fi.trans s7,λj f=>(a2.foot j f).elim (s8 j) λq=>yn hb (yn u1 q)⟩,λy a b=>by rw[e1]; exact lo y a b⟩) (by kernel_rfl)
 ·rw[e2,s2];show jy (jy di kk) m=di;unfold jy;rw[yo (gI hk10),yo (gI hm10)]
 ·rw[e3,s3]; exact Ou done m kk
 ·rw[e4,s4]; exact NN done m kk
theorem wK(hD:4<=7)(hL:1000<=LL){r:M ac}
  (k:∀h' n i G,O.nx<=n->(∀q,q<O.nx->h' q=O.hp q)->Qx O.nx [] i G ⟨O.loc,h',n⟩->Ok r ⟨ai O.loc (Sx "sorter") (some (.ref i)),h',n⟩ Q) :
  Ok (af (aA (Lz (aJ T2 LL 40 7) (aj [(oW bd (cp (aj [(cst (.int 10))])) (λσ0 i=>aL LL (Sx "k") (M.ret true) (kE (aa (Sx "k")) (bO (.list [])) i)))])) [(an (Sx "sorter"))]) r) O Q:=by
 refine sC (KW hL λh' a1 a2 a3 =>?_);obtain⟨l,h,n⟩:=O;show Ok (Lk (aJ T2 LL 40 7 (bH (Sx "__init__")) [.ref (n+12),.ref n] [])) ⟨l,upd (upd h' (n+11) (.attrs [])) (n+12) (.inst (n+11)),n+13⟩ _;have old:∀j,j<n+11->upd (upd h' (n+11) (.attrs [])) (n+12) (.inst (n+11)) j=h' j:=λj hj=>(ym (yA (yZ hj))).trans (ym (yA hj));have r10:∀j,j<10->n+1+j<n+11:=λj hj=>by rw[zH,zI 1]; exact y8 (Hb hj) n
 refine tU (ver:=10) (ks:=di) (r:=λx=>n+1+x.toNat) hD (yK (n+12)) (y8 (by decide) n) (Bf (by decide)) (yo rfl) ((ym (yA (yK _))).trans (yo rfl)) ((old n (by lia)).trans (a2.trans ?_)) (by decide) (by decide) (λx hx =>?_) λO' G R e1 e2 e3 e4 e5 e6 e7 e8 e9 e10=>⟨rfl,?_⟩
 ·refine yI (λx=>AO.dict x 10) ?_;unfold di jj;rw[zq]; rfl
 ·obtain⟨j,hj,rfl⟩:=yW.mp hx;have hj':=y7.mp hj;rw[zK];exact⟨yv (r10 j hj') (yH _ 2),(old _ (r10 j hj')).trans (a3 j hj')⟩
 ·obtain⟨l',hh,n'⟩:=O';obtain rfl:l'=l:=e7;refine k hh n' (n+12) G (yn (yH _ 13) e8) (λq hq=>(e9 q (yv hq (yH _ 13)) (yA (yv hq (yH _ 11)))).trans ((old q (yv hq (yH _ 11))).trans (a1 q hq))) ⟨R,e1,e2,e3,e4,e5,e6,λj f =>?_⟩;rcases e10 j f with q|q|q
  ·rw[q]; exact yH _ _
  ·rw[q]; exact yH _ _
  ·exact yn (yH _ 13) q
theorem fR{x y:Int}:y∈ID ls x↔∃m k,(m,k)∈ls/\x=((m:Nat):Int)/\y=((k:Nat):Int):=by
 unfold ID;rw[yW];constructor
 ·rintro⟨p,hp,rfl⟩;obtain⟨h1,h2⟩:=zT.mp hp;exact⟨p.1,p.2,h1,(eq_of_beq h2).symm,rfl⟩
 ·rintro⟨m,k,h,rfl,rfl⟩;exact⟨(m,k),zT.mpr ⟨h,zl _⟩,rfl⟩
theorem Ov(ok:eE lks){fin:yk Int}(h1:∀k∈di,k∈fin)(h2:∀a x b,fin=a++x::b->∀y∈ID lks x,y∈a):jR (ag lks)=[]:=by
 have key:∀j k m,m∈Ir (ag lks) j k->fin.idxOf (k:Int)<fin.idxOf (m:Int):=λj k m=>fb (ag lks) (λm k=>fin.idxOf (k:Int)<fin.idxOf (m:Int)) (λh k=>y0 k h) (λk m hm=>by
  have hl:=cR.mp hm;obtain⟨a,b,e,hn⟩:=List.eq_append_cons_of_mem (h1 _ (gI (ok _ hl).1));have hk:=h2 a _ b e k (fR.mpr ⟨m,k,hl,rfl,rfl⟩);have hlt:=List.idxOf_lt_length_of_mem hk;dsimp only at e hn;rw[e,GA,yo hk,GA,ym hn,List.idxOf_cons_self];exact yv hlt (GY ..)) j k m
 unfold jR;rw[B6];intro k hk e;exact zt _ (key 10 k k (zp.mp e))
theorem Kq(ok:eE lks){ring:yk Int}(h2:2<=ring.length)(hp:Sb (ID lks) ring):∃rn:yk Nat,ring=jj rn/\(∀x∈rn,x<10)/\∀i a b,rn[i]?=some a->rn[i+1]?=some b->a∈ag lks b:=by
 have all:∀x∈ring,∃n:Nat,x=(n:Int)/\n<10:=by
  intro x hx;obtain⟨i,hi⟩:=GI.mp hx;by_cases q:i+1<ring.length
  ·obtain⟨m,k,a,b,c⟩:=fR.mp (hp i x _ hi (zN q));exact⟨m,b,(ok _ a).1⟩
  ·have hl:=(y2.mp hi).1;obtain⟨m,k,a,b,c⟩:=fR.mp (hp (i-1) _ x (zN (pE hl)) (by rw[AN (Ca (yn h2 (zr q)))]; exact hi));exact⟨k,c,(ok _ a).2.1⟩
 have e:jj (ring.map Int.toNat)=ring:=by unfold jj;rw[zq];exact(Aj λx hx=>by obtain⟨n,rfl,_⟩:=all x hx; rfl).trans (List.map_id _)
 refine⟨ring.map Int.toNat,e.symm,λx hx =>?_,λi a b ha hb =>?_⟩
 ·obtain⟨z,hz,rfl⟩:=yW.mp hx;obtain⟨n,rfl,h⟩:=all z hz;exact h
 ·have h1:ring[i]?=some (a:Int):=by rw[<-e]; unfold jj; rw[zB,ha]; rfl
  have h3:ring[i+1]?=some (b:Int):=by rw[<-e]; unfold jj; rw[zB,hb]; rfl
  obtain⟨m,k,x,y,z⟩:=fR.mp (hp i _ _ h1 h3);exact cR.mpr (A3 y▸A3 z▸x)
variable{rn:yk Nat}
theorem wf(ok:eE lks)(h2:2<=rn.length)(hc:∀i a b,rn[i]?=some a->rn[i+1]?=some b->a∈ag lks b)(hh:∀z,rn.head?=some z->rn.getLast?=some z):jR (ag lks)≠[]:=by
 have M:=dX ok;have key:∀j a b,rn[0]?=some a->rn[j+1]?=some b->a∈Ir (ag lks) 10 b:=by
  intro j;induction j with
  |zero=>exact λa b ha hb=>iR _ _ _ (hc 0 a b ha hb) 10
  |succ j ih =>intro a b ha hb;have hl:=(y2.mp hb).1;have hj:rn[j+1]?=some rn[j+1]:=zN (A4 hl);have h1:=hc (j+1) _ b hj hb;exact gX _ 10 _ (M.lt b _ h1).1 b a (iR _ _ _ h1 10) (ih a _ ha hj)
 cases rn with
 |nil=>cases h2
 |cons z r =>
  have h3:=hh z rfl;rw[EN]at h3;have h4:=key (r.length-1) z z rfl (by rw[<-h3]; exact yI (λi=>(z::r)[i]?) (AN (Ca h2)));have hz:z<10:=by have h5:=zN (show 1<(z::r).length from h2);exact(M.lt _ _ (hc 0 z _ rfl h5)).1
  intro e;have:z∈jR (ag lks):=pU.mpr ⟨hz,h4⟩;rw[e]at this; cases this
theorem MM{o:AO}{fin:Nat->M yu}{a:M (yk AV)}{g:St->Nat->aw->M yu}{R:Pin->AV->Prop}(h:P w l (aO bd o fin (cp a) g) R):P w l (aO OP o fin (cp a) g) R:=λw1 O x y z =>
 a.mono (h w1 O x y z) λvs σ1 h1=>by refine(let QQ:=_; (?_:Ok _ _ QQ));obtain⟨p,e1,xs,e2,h2⟩:=h1;exact⟨p,e1,xs,e2,rfl,h2⟩
theorem B.args(hj:j<O.nx)(h:O.hp j=.exc vs):B (be (.ref j) (Sx "args")) O (.tup vs):=λQ q=>by delta be;exact HS (a:=j) rfl (IE hj (okN (by rw[h]; rfl) (okN (by rw[h]; rfl) (IL (a:=vs) (by rw[h]; rfl) (by rw[yo (by rfl)]; exact q)))))
theorem P.UJ{a b:M AV}{k:Int}(ha:P w l a (Fl (.tup vs)))(hb:P w l b (Fl (.int k)))(e:IF vs k=some v):P w l (aB a b) (Fl v) :=
 P.two ha hb λw' x y Z hx hy=>by cases hx w' .refl; cases hy w' .refl;exact P.hp λw1 O z r=>e
theorem Pin.IZ(h:w.at O):w.le (Pin.all O):=λj o e=>Pin.HH (h j o e).1 (h j o e).2
structure Si(w:Pin)(b:Nat)(lks:yk (Nat×Nat))(i:Nat)(O:St)(O':St):Prop where
 at_:w.at O'
 nx:O.nx<=O'.nx
 loc:∀y,(y==Sx "refused")=false->(y==Sx "ring")=false->(y==Sx "error")=false->O'.loc y=O.loc y
 ready:∃G rr,Rep O' i G/\G.keys=di/\G.np=JS lks/\G.su=ID lks/\G.rd=.ref rr/\G.po=0/\G.fi=0/\b<=rr/\rr<O'.nx/\(∀j,fu G i j->b<=j)/\O'.hp rr=.list ((di.filter λk=>JS lks k==0).map .int)
variable{rr:Nat}
theorem Qx.VK{σ1:St}{lp:Str->yl AV}(S:Qx b lks i G O)(hb:b<=O.nx)(hw:∀j o,w j=some o->j<b)(at_:w.at O)(p:Pr ⟨lp,O.hp,O.nx⟩ i G rr σ1)(g1:σ1.nx<=O'.nx)(g2:∀j,j<σ1.nx->O'.hp j=σ1.hp j)
  (loc:∀y,(y==Sx "refused")=false->(y==Sx "ring")=false->(y==Sx "error")=false->O'.loc y=O.loc y):Si w b lks i O O' where
 at_ j o e:=by have h:=at_ j o e;have hj:=hw j o e;refine⟨yv h.1 (yn p.nx g1),(g2 j (yv h.1 p.nx)).trans ((p.hp j h.1 λq =>?_).trans h.2)⟩;subst q;exact zt _ (yv hj (S.new _ (.inr (.inl rfl))))
 nx:=yn p.nx g1
 loc:=loc
 ready:=⟨{G with rd:=.ref rr},rr,(p.rep.frame g1 λj hj Z=>g2 j hj),S.keys,S.np,S.su,rfl,S.po,S.fi,yn hb p.new,yv p.lt g1,S.new,(g2 rr p.lt).trans (p.at_.trans (by rw[S.keys,S.np]))⟩
theorem oy:T2.meths (Sx "prepare")=some (bH (Sx "prepare")):=by kernel_rfl
theorem Si.more{w1 w2:Pin}{σ2:St}(B:Si w b lks i O O')(n:Nx w1 O' w2 σ2)(h:w.le w1):Si w b lks i O σ2:=by refine hdZ λGG hGG =>?_;obtain⟨a1,a2,a3,G,rr,e1,e2,e3,e4,e5,e6,e7,e8,e9,e10,e11⟩:=B;refine hGG ?_;exact⟨λj o e=>n.at_ j o (n.le j o (h j o e)),yn a2 n.grow.nx,λy p q r=>by rw[n.grow.loc]; exact a3 y p q r,G,rr,e1.frame n.grow.nx λj hj Z=>n.grow.hp j hj,e2,e3,e4,e5,e6,e7,e8,yv e9 n.grow.nx,e10,(n.grow.hp rr e9).trans e11⟩
variable{d:Nat}{E:AX->St->Prop}
theorem Er.u{o:M AV}{name:Str}{a:M (yk AV)}{blt:AV->M AV}{fs:yk (Str×AV)}(hm:T2.meths name=some fd)(ho:V o O (.ref i))(hi:i<O.nx)(hd:d<O.nx)(h1:O.hp i=.inst d)(h2:O.hp d=.attrs fs)(h3:fs.lookup name=none)(ha:V a O vs)
  (k:Er (C fd (.ref i::vs) []) O E):Er (aI C o name a blt) O E:=by
 obtain⟨x,O',e,h⟩:=k;refine⟨x,O',?_,h⟩;have e2:bN T2 (.ref i) name O=some (.ok (some fd) O):=by obtain⟨u,s,e,rfl,rfl⟩:=(mh (Q:=λum s=>um=some fd/\s=O) hi hd h1 h2 h3 hm ⟨rfl,rfl⟩).out;exact e
 show yJ o.m _ O=_;unfold yJ;rw[ho.eq];show yJ (bN T2 (.ref i) name) _ O=_;unfold yJ;rw[e2];show yJ a.m _ O=_;unfold yJ;rw[ha.eq];exact e
theorem Er.e{e:M AV}(h:Er e O E):Er (a7 e) O E:=by obtain⟨x,O',e,h⟩:=h;refine⟨x,O',?_,h⟩;show yJ _ _ O=_;unfold yJ; rw[e]
theorem Px(h:vs≠[])(b:vs.length<=1000):IF vs (-1)=vs.getLast?:=by have h1:0<vs.length:=List.length_pos_iff.mpr h;unfold IF;rw[ym (by decide),ym (by decide),yo (by rw[Dm]; exact Dq (AA.mpr h1)),EN,Dm];exact yI (λi=>vs[i]?) (Int.toNat_sub vs.length 1)
theorem Kr(h:n<=1000):d8 1 (n:Int) 1=some (ii (zU 1 (n-1))):=by rw[qT (by decide) (by decide) h,show((n:Int)-1).toNat=n-1 from Int.toNat_sub n 1,List.range'_eq_map_range];unfold ii jj;rw[zq,zq];congr 1
variable{mb:Nat}
theorem Og(hL:50000<=LL){τ:St}{e:Nat}{R:Nat->Nat}{f:Nat->yk Nat}{s:Str}(le:τ.loc (Sx "error")=some (.ref e))(lm:τ.loc (Sx "members")=some (.ref mb))(he:Pin.all τ e=some (.exc [.str s,.lst ((jj rn).map .int)]))(hm:Pin.all τ mb=some (.frozen ((yB 10).map λk=>AV.ref (R k))))(hR:tF (Pin.all τ) R f)
  (h2:2<=rn.length) (h3:rn.length<=500) (hh:∀z,rn.head?=some z->rn.getLast?=some z) (h10:∀x∈rn,x<10) (hc:∀i a b,rn[i]?=some a->rn[i+1]?=some b->a∈f b)
  (k:∀σ2,τ.nx<=σ2.nx->(∀j,j<τ.nx->σ2.hp j=τ.hp j)->(∀y,(y==Sx "refused")=false->(y==Sx "ring")=false->σ2.loc y=τ.loc y)->σ2.loc (Sx "refused")=some (.bool true)->Q .next σ2) :
  Ok (af (aA (cst (.bool true)) [(an (Sx "refused"))])
 (af (aA (aB (aW (aa (Sx "error")) (Sx "args")) (cst (.int 1))) [(an (Sx "ring"))])
 (af (HX (Ih (aG .Lt (ay "len" (aj [(aa (Sx "ring"))])) (cst (.int 2))) (Ih (aG .NotEq (aB (aa (Sx "ring")) (cst (.int 0))) (aB (aa (Sx "ring")) (pR (cst (.int 1))))) (M.ret false))) (af (bV (cst (.bool false)))
 (M.ret .next)) (M.ret .next))
 (af (HX (aG .NotEq (aO OP (.list []) bE (cp (aj [(cst (.int 1)),(ay "len" (aj [(aa (Sx "ring"))]))])) (λσ0 i=>aL LL (Sx "k") (aG .NotIn (aB (ae (σ0.loc (Sx "ring"))) (aK .Sub (aa (Sx "k")) (cst (.int 1)))) (aB (ae (σ0.loc (Sx "members"))) (aB (ae (σ0.loc (Sx "ring"))) (aa (Sx "k"))))) (aU (aa (Sx "k")) i))) (bO (.list []))) (af (bV (cst (.bool false)))
 (M.ret .next)) (M.ret .next))
 (M.ret .next))))) τ Q:=by
 obtain⟨l,h,n⟩:=τ;have hlen:(ii rn).length=rn.length:=cU rn;refine s1 V.c ?_;refine Sk (w:=Pin.all ⟨l,h,n⟩) (l:=ai l (Sx "refused") (some (.bool true))) (P.UJ (P.UQ (P.g (LS (by kernel_rfl) le)) he λσ1 a b=>B.args a b) P.c (rfl:IF [AV.str s,.lst (ii rn)] 1=some (.lst (ii rn)))) (Pin.HL (O:=⟨l,h,n⟩)) Ll.refl λw1 σ1 n1 =>?_;have l1:σ1.loc=ai l (Sx "refused") (some (.bool true)):=n1.grow.loc;have lr:ai σ1.loc (Sx "ring") (some (.lst (ii rn))) (Sx "ring")=some (.lst (ii rn)):=L0;have lm1:ai σ1.loc (Sx "ring") (some (.lst (ii rn))) (Sx "members")=some (.ref mb):=LS (by kernel_rfl) (l1▸LS (by kernel_rfl) lm);have len:∀{w' l'},l' (Sx "ring")=some (.lst (ii rn))->P w' l' (ay "len" (aj [(aa (Sx "ring"))])) (Fl (.int (rn.length:Nat))):=λ{w' l'} e=>by have:=P.len (w:=w') (l:=l') (P.g e).lst (by rw[hlen]; exact yn h3 (by decide));rw[hlen]at this; exact this
 have at_:∀{i:Nat},i<rn.length->IF (ii rn) (i:Int)=some (.int (rn[i]?.getD 0:Nat)):=λhi=>by unfold IF;rw[yo (zo _),yo (BV (Av.mpr (yv hi h3)) (by decide)),zK]; exact L8 hi
 obtain⟨z,r,rfl⟩:∃z r,rn=z::r:=by cases rn with
  |nil=>cases h2
  |cons z r=>exact⟨z,r,rfl⟩
 have hlast:IF (ii (z::r)) (-1)=some (.int (z:Nat)):=by rw[Px (by exact Dt _ _) (by rw[hlen]; exact yn h3 (by decide))];unfold ii jj;rw[EO,EO,hh z rfl]; rfl
 refine stI (c:=false) (l:=ai σ1.loc (Sx "ring") (some (.lst (ii (z::r))))) (by
  have a:=P.t (w:=w1) (len lr) P.c (Cc.fl (c:=decide ((z::r).length<2)) λhp nx=>Cm.ltN (b:=2));rw[AS (Cg.mpr h2)]at a;refine(P.or (x:=false) (y:=false) a λZ=>P.or (x:=false) (y:=false) (P.t (P.idx (P.g lr).lst P.c (at_ (i:=0) (yv (by decide) h2))) (P.idx (P.g lr).lst (P.neg P.c) hlast) (Cc.fl λhp nx =>?_)) λZ=>P.r);rw[iM]; exact yI some (by rw[show(((z::r)[0]?.getD 0:Nat):Int)=z from rfl,zl]; rfl)) n1.at_ Ll.refl λw2 σ2 n2=>sN ?_
 have l2:σ2.loc=ai σ1.loc (Sx "ring") (some (.lst (ii (z::r)))):=n2.grow.loc;rw[<-l2]at lr lm1;refine stI (c:=false) (l:=σ2.loc) (by
  have its:P w2 σ2.loc (cp (aj [(cst (.int 1)),(ay "len" (aj [(aa (Sx "ring"))]))])) (It (ii (zU 1 ((z::r).length-1)))):=.Ip (.cons .c (.cons (len lr) .nil)) rfl (Kr (yn h3 (by decide)));have e:(zU 1 ((z::r).length-1)).filter (λk => !(f ((z::r)[k]?.getD 0)).contains ((z::r)[k-1]?.getD 0))=[]:=B6.mpr λk hk=>by obtain⟨k1,k2⟩:=GK.mp hk;have hk2:k<(z::r).length:=yv k2 (zj (CM (zC h2)));have h1:(z::r)[k]?=some (z::r)[k]:=zN hk2;have h0:(z::r)[k-1]?=some (z::r)[k-1]:=zN (pE hk2);have:=hc (k-1) _ _ h0 (by rw[AN k1]; exact h1);rw[h1,h0];show ¬(!(f (z::r)[k]).contains (z::r)[k-1])=true;rw[zp.mpr this]; decide
  have pk:=P.pick (x:=Sx "k") (t:=λσ0=>aG .NotIn (aB (ae (σ0.loc (Sx "ring"))) (aK .Sub (aa (Sx "k")) (cst (.int 1)))) (aB (ae (σ0.loc (Sx "members"))) (aB (ae (σ0.loc (Sx "ring"))) (aa (Sx "k"))))) (p:=λk => !(f ((z::r)[k]?.getD 0)).contains ((z::r)[k-1]?.getD 0)) its (by rw[List.length_range']; exact yn (Ci ..) h3) (yn (by decide) hL) λσ0 w' k c1 c2 hk=>by
   obtain⟨k1,k2⟩:=GK.mp hk;have hk2:k<(z::r).length:=yv k2 (zj (CM (zC h2)));have hx:(z::r)[k]?.getD 0<10:=by rw[zN hk2]; exact h10 _ (EM hk2)
   refine iE _ ((z::r)[k-1]?.getD 0)▸P.t (P.idx (P.f c1 lr).lst (P.bin (P.g L0) P.c (show ba .Sub (k:Int) 1=some ((k-1:Nat):Int)from yI some (Es k1).symm)) (at_ (pE hk2))) ((P.idx ((P.f c1 lm1).li (.Ij mb rfl ((n1.le.trans (n2.le.trans c2)) _ _ hm))) (P.idx (P.f c1 lr).lst (P.g L0) (at_ hk2)) (fL (λk=>AV.ref (R k)) hx)).li (.IH _ rfl ((n1.le.trans (n2.le.trans c2)) _ _ (hR _ hx)))) Cc.Va
  rw[e]at pk;exact P.t (MM pk) P.Oy (Cc.ne (is:=[]) (js:=[]))) n2.at_ Ll.refl λw3 σ3 n3=>sN (sE (k σ3 ?_ ?_ ?_ ?_))
 ·exact yn n1.grow.nx (yn n2.grow.nx n3.grow.nx)
 ·exact λj hj=>(n3.grow.hp j (yv hj (yn n1.grow.nx n2.grow.nx))).trans ((n2.grow.hp j (yv hj n1.grow.nx)).trans (n1.grow.hp j hj))
 ·exact λy a b=>by rw[n3.grow.loc,l2]; refine(LS b rfl).trans ?_; rw[l1]; exact LS a rfl
 ·rw[n3.grow.loc,l2]; refine(LS (by kernel_rfl) rfl).trans ?_; rw[l1]; exact L0
theorem Tg:(jj xs==[])=xs.isEmpty:=by cases xs<;>rfl
variable{fv:AV}
theorem tK(hD:2<=7)(hL:50000<=LL){R:Nat->Nat}{bv rv:AV}(ok:eE lks)(hl:lks.length<=56)(S:Qx b lks i G O)(hb:b<=O.nx)(hw:∀j o,w j=some o->j<b)(at_:w.at O)(B:U0 (ag lks) w bv rv fv)
  (hm:w mb=some (.frozen ((yB 10).map λk=>AV.ref (R k)))) (hR:tF w R (ag lks)) (l1:O.loc (Sx "sorter")=some (.ref i)) (l2:O.loc (Sx "rings")=some rv) (l3:O.loc (Sx "members")=some (.ref mb)) {r:M ac} (k:∀O',Si w b lks i O O'->Ok r O' Q) :
  Ok (af (aA (cst (.bool false)) [(an (Sx "refused"))])
 (af (kK (af (a7 (aI (aJ T2 LL 40 7) (aa (Sx "sorter")) (Sx "prepare") (aj []) eM))
 (M.ret .next)) (af (aA (cst (.bool true)) [(an (Sx "refused"))])
 (af (aA (aB (aW (aa (Sx "error")) (Sx "args")) (cst (.int 1))) [(an (Sx "ring"))])
 (af (HX (Ih (aG .Lt (ay "len" (aj [(aa (Sx "ring"))])) (cst (.int 2))) (Ih (aG .NotEq (aB (aa (Sx "ring")) (cst (.int 0))) (aB (aa (Sx "ring")) (pR (cst (.int 1))))) (M.ret false))) (af (bV (cst (.bool false)))
 (M.ret .next)) (M.ret .next))
 (af (HX (aG .NotEq (aO OP (.list []) bE (cp (aj [(cst (.int 1)),(ay "len" (aj [(aa (Sx "ring"))]))])) (λσ0 i=>aL LL (Sx "k") (aG .NotIn (aB (ae (σ0.loc (Sx "ring"))) (aK .Sub (aa (Sx "k")) (cst (.int 1)))) (aB (ae (σ0.loc (Sx "members"))) (aB (ae (σ0.loc (Sx "ring"))) (aa (Sx "k"))))) (aU (aa (Sx "k")) i))) (bO (.list []))) (af (bV (cst (.bool false)))
 (M.ret .next)) (M.ret .next))
 (M.ret .next))))) (Sx "error"))
 (af (HX (aG .NotEq (aa (Sx "refused")) (nX .NotEq (aa (Sx "rings")) (bO (.list [])))) (af (bV (cst (.bool false)))
 (M.ret .next)) (M.ret .next)) r))) O Q:=by
 have tail:∀(c:yx) (rr:Nat) (σ1 O':St),Pr ⟨ai O.loc (Sx "refused") (some (.bool false)),O.hp,O.nx⟩ i G rr σ1->σ1.nx<=O'.nx->(∀j,j<σ1.nx->O'.hp j=σ1.hp j)->(∀y,(y==Sx "refused")=false->(y==Sx "ring")=false->(y==Sx "error")=false->O'.loc y=O.loc y)->O'.loc (Sx "refused")=some (.bool c)->c = !(jj (jR (ag lks))==[]) ->
   Ok (af (HX (aG .NotEq (aa (Sx "refused")) (nX .NotEq (aa (Sx "rings")) (bO (.list [])))) (af (bV (cst (.bool false))) (M.ret .next)) (M.ret .next)) r) O' Q:=by
  intro c rr σ1 O' p g1 g2 hlo hc ec;have bg:=(S.VK hb hw at_ p g1 g2 hlo:Si w b lks i O O');refine stI (c:=false) (w:=w) (l:=O'.loc) ?_ bg.at_ Ll.refl λw' σ2 n2=>sN (k σ2 (bg.more n2 .refl));refine P.t (P.g hc) (P.cmp ((P.g ((hlo _ (by kernel_rfl) (by kernel_rfl) (by kernel_rfl)).trans l2)).li B.r) P.Oy (Cc.ne (js:=[]))) (Cc.fl λhp nx =>?_);show(some (c == !(jj (jR (ag lks))==[]))).map (!·)=some false;rw[<-ec,zl]; rfl
 refine s1 (l:=O.loc) (h:=O.hp) (n:=O.nx) V.c ?_;have S1:Qx b lks i G ⟨ai O.loc (Sx "refused") (some (.bool false)),O.hp,O.nx⟩:=⟨S.rep.loc _,S.keys,S.np,S.su,S.rd,S.po,S.fi,S.new⟩;have ls:ai O.loc (Sx "refused") (some (.bool false)) (Sx "sorter")=some (.ref i):=LS (by kernel_rfl) l1;have hp:=tR hD hL S1.rep S1.rd (λx hx y hy=>by
  rw[S.su]at hy;obtain⟨m,kk,h,rfl,rfl⟩:=fR.mp hy;rw[S.keys]; exact gI (ok _ h).2.1) (by rw[S.keys]; decide) (λx=>by rw[S.su]; exact yn (pt _ _) (yn hl (by decide)))
 rcases hp with hp|⟨x,σ1,e,rr,ring,s,rfl,p,f1,f2,f3,f4⟩
 ·refine(Or.inl ?_:(kK _ _ _).w _ _);refine Ua (sU oy (V.l ls) S1.rep.i_ S1.rep.d_ S1.rep.ih S1.rep.dh rfl V.nil (Internal.Ok.mono hp λv σ1 h9 =>?_));obtain⟨rr,fin,p,f1,f2⟩:=h9;rw[S.keys]at f1;rw[S.su]at f2;have lo:=p.loc;refine tail false rr σ1 σ1 p (yF _) (λZ Z=>rfl) (λy a b c=>by rw[lo]; exact LS a rfl) (by rw[lo]; exact(L0:ai O.loc (Sx "refused") (some (.bool false)) (Sx "refused")=_)) ?_;rw[Ov ok f1 f2]; rfl
 ·refine(Or.inr ?_:(kK _ _ _).w _ _);rw[S.su]at f4;refine Er.s (Er.e (Er.u oy (V.l ls) S1.rep.i_ S1.rep.d_ S1.rep.ih S1.rep.dh rfl V.nil ⟨_,σ1,e,_,rfl,?_⟩));obtain⟨rn,rfl,r1,r2⟩:=Kq ok f1 f4;have hlj:(jj rn).length=rn.length:=by unfold jj; rw[yE]
  rw[hlj]at f1 f2;have f3':∀z,rn.head?=some z->rn.getLast?=some z:=λz hz=>by
   have:=f3 (z:Int) (by unfold jj; rw[List.head?_map,hz]; rfl);unfold jj at this;rw[EO]at this;cases q:rn.getLast? with
   |none=>rw[q]at this; cases this
   |some y=>rw[q]at this; exact yI some (A3 (Ag this))
  have lo:=p.loc;have low:∀j o,w j=some o->j<σ1.nx/\σ1.hp j=o:=λj o e=>by have h:=at_ j o e;refine⟨yv h.1 p.nx,(p.hp j h.1 λq =>?_).trans h.2⟩;subst q; exact zt _ (yv (hw _ o e) (S.new _ (.inr (.inl rfl))))
  have pin:∀{j o} {l':Str->yl AV},w j=some o->Pin.all ⟨l',λj=>if j=σ1.nx then .exc [.str s,.lst ((jj rn).map .int)]else σ1.hp j,σ1.nx+1⟩ j=some o:=λ{j o l'} e=>Pin.HH (yZ (low j o e).1) ((ym (yA (low j o e).1)).trans (low j o e).2);have lerr:ai σ1.loc (Sx "error") (some (.ref σ1.nx)) (Sx "error")=some (.ref σ1.nx):=L0;have lmem:ai σ1.loc (Sx "error") (some (.ref σ1.nx)) (Sx "members")=some (.ref mb):=LS (by kernel_rfl) (by rw[lo]; exact(LS (by kernel_rfl) l3:ai O.loc (Sx "refused") (some (.bool false)) (Sx "members")=_));refine Og (τ:=⟨ai σ1.loc (Sx "error") (some (.ref σ1.nx)),λj=>if j=σ1.nx then .exc [.str s,.lst ((jj rn).map .int)]else σ1.hp j,σ1.nx+1⟩) hL (R:=R) (f:=ag lks) (rn:=rn) lerr lmem (Pin.HH (yK _) (yo rfl)) (pin hm) (λk hk=>pin (hR k hk)) f1 f2 f3' r1 r2 λσ2 g1 g2 g3 g4=>⟨rfl,?_⟩;refine tail true rr σ1 ⟨λy=>if y=Sx "error"then none else σ2.loc y,σ2.hp,σ2.nx⟩ p (zC g1) (λj hj=>(g2 j (yZ hj)).trans (ym (yA hj))) (λy a b c =>?_) ?_ ?_
  ·refine(LS (l:=σ2.loc) (y:=Sx "error") (u:=none) c ?_:ai σ2.loc (Sx "error") none y=_);refine(g3 y a b).trans ((LS (l:=σ1.loc) (y:=Sx "error") (u:=some (.ref σ1.nx)) c ?_:ai σ1.loc (Sx "error") _ y=_));rw[lo]; exact(LS a rfl:ai O.loc (Sx "refused") (some (.bool false)) y=_)
  ·exact(LS (l:=σ2.loc) (y:=Sx "error") (u:=none) (by kernel_rfl) g4:ai σ2.loc (Sx "error") none (Sx "refused")=_)
  ·rw[Tg];cases q:jR (ag lks)with
   |nil=>exact yD q (wf ok f1 r2 f3')
   |cons _ _=>rfl
theorem rW:∀(S:yk Int) (st:(Int->Int)×yk Int) (k:Int),(S.foldl (λst s=>bn s st) st).1 k=st.1 k-(S.count k:Int)
 |[],st,k=>by simp
 |s::r,st,k=>by
  rw[Aw,rW r _ k];show bD st.1 s (st.1 s-1) k-_=_;rw[bD,EC];by_cases h:k=s
  ·subst h; simp; lia
  ·rw[ym h,show(s==k)=false from by simpa using λe=>h e.symm]; simp
theorem cnt_step{a:Int}(e:¬a-1=0):(1<=a-1/\a-1<=(c:Int))↔(1<=a/\a<=((c+1:Nat):Int)):=by lia
set_option tactic.hygienic true in
theorem oL:∀(S:yk Int) (st:(Int->Int)×yk Int) (k:Int),k∈(S.foldl (λst s=>bn s st) st).2↔k∈st.2\/(1<=st.1 k/\st.1 k<=(S.count k:Int))
 |[],st,k=>⟨.inl,λh=>h.elim id λh=>yD (Bp h.1 h.2:(1:Int)<=((0:Nat):Int)) (by decide)⟩
 |s::r,st,k=>by
  rw[Aw,oL r _ k];show(k∈(if st.1 s-1=0 then st.2++[s]else st.2)\/(1<=bD st.1 s (st.1 s-1) k/\bD st.1 s (st.1 s-1) k<=(r.count k:Int)))↔_;rw[bD,EC];by_cases h:k=s
  ·subst h;simp only[AW,zl];split
   ·rename_i e;simp only[y3,zf,or_true,true_or,true_iff];right;rw[Int.eq_of_sub_eq_zero e];exact⟨Dn _,AA.mpr (AR (zc _))⟩
   ·rename_i e;exact or_congr_right (cnt_step e)
  ·rw[ym h,show(s==k)=false from by simpa using λe=>h e.symm];simp only[BS,BA,CN];split
   ·simp[h]
   ·rfl
set_option tactic.hygienic true in
theorem kD:∀(S:yk Int) (st:(Int->Int)×yk Int),st.2.Nodup->(∀k∈st.2,st.1 k<=0)->(S.foldl (λst s=>bn s st) st).2.Nodup
 |[],st,h,_=>h
 |s::r,st,h,hz=>by
  rw[Aw];refine kD r _ ?_ ?_
  ·show(if st.1 s-1=0 then st.2++[s]else st.2).Nodup;split
   ·rename_i e;rw[z6];refine⟨h,by simp,λa ha b hb =>?_⟩;simp at hb; subst hb;intro e2; subst e2;have:=hz a ha; lia
   ·exact h
  ·intro k hk;have hk':k∈(if st.1 s-1=0 then st.2++[s]else st.2):=hk;show bD st.1 s (st.1 s-1) k<=0;rw[bD];split at hk'
   ·rename_i e;rcases y3.mp hk' with h1|h1
    ·have:=hz k h1;split
     ·rename_i e2; subst e2; lia
     ·exact this
    ·simp at h1; subst h1; rw[yo rfl]; lia
   ·have:=hz k hk';split
    ·rename_i e2; subst e2; lia
    ·exact this
theorem qv(su:Int->yk Int):∀(l:yk Int) (st:(Int->Int)×yk Int),(∀x∈l,∀s∈su x,s∉l)->l.Nodup ->
  (bB su l st).2=((l.flatMap su).foldl (λst s=>bn s st) st).2/\∀k,k∉l->(bB su l st).1 k=((l.flatMap su).foldl (λst s=>bn s st) st).1 k:=by
 have cong:∀(S:yk Int) (a b:Int->Int) (r:yk Int) (P:Int->Prop),(∀s∈S,P s)->(∀k,P k->a k=b k) ->
   (S.foldl (λst s=>bn s st) (a,r)).2=(S.foldl (λst s=>bn s st) (b,r)).2/\∀k,P k->(S.foldl (λst s=>bn s st) (a,r)).1 k=(S.foldl (λst s=>bn s st) (b,r)).1 k:=by
  intro S;induction S with
  |nil=>intro a b r P _ h; exact⟨rfl,h⟩
  |cons s S ih =>
   intro a b r P hS h;have hs:=h s (hS s (by simp));simp only[Aw];show(S.foldl _ (bD a s (a s-1),if a s-1=0 then r++[s]else r)).2=(S.foldl _ (bD b s (b s-1),if b s-1=0 then r++[s]else r)).2/\∀k,P k->(S.foldl _ (bD a s (a s-1),if a s-1=0 then r++[s]else r)).1 k=(S.foldl _ (bD b s (b s-1),if b s-1=0 then r++[s]else r)).1 k;rw[hs];refine ih _ _ _ P (λx hx=>hS x (by simp[hx])) λk hk =>?_;unfold bD;split
   ·rfl
   ·exact h k hk
 intro l;induction l with
 |nil=>intro st _ _; exact⟨rfl,λZ Z=>rfl⟩
 |cons x r ih =>
  intro st hs hn;obtain⟨hx,hn'⟩:=Bb.mp hn;have hs':∀y∈r,∀s∈su y,s∉r:=λy hy s hsy hm=>hs y (by simp[hy]) s hsy (by simp[hm]);obtain⟨i1,i2⟩:=ih (bJ su x st) hs' hn';have e0:bB su (x::r) st=bB su r (bJ su x st):=rfl;have ef:((x::r).flatMap su).foldl (λst s=>bn s st) st=(r.flatMap su).foldl (λst s=>bn s st) ((su x).foldl (λst s=>bn s st) st):=by rw[BH,CH]
  have c1:=cong (su x) (bD st.1 x (-2)) st.1 st.2 (λk=>k≠x) (λs hsx e=>hs x (by simp) s hsx (by simp[e])) (λk hk=>by rw[bD,ym hk]);have hd:bJ su x st=(su x).foldl (λst s=>bn s st) (bD st.1 x (-2),st.2):=rfl;have c2:=cong (r.flatMap su) (bJ su x st).1 ((su x).foldl (λst s=>bn s st) st).1 (bJ su x st).2 (λk=>k≠x) (λs hsr e=>by
   obtain⟨y,hy,hsy⟩:=Bt.mp hsr;exact hs y (by simp[hy]) s hsy (by simp[e])) (λk hk=>by rw[hd]; exact c1.2 k hk)
  have e2:(bJ su x st).2=((su x).foldl (λst s=>bn s st) st).2:=by rw[hd]; exact c1.1
  rw[e0,ef];refine⟨?_,λk hk =>?_⟩
  ·rw[i1];have:=c2.1;rw[show((bJ su x st).1,(bJ su x st).2)=bJ su x st from rfl]at this;rw[this,e2]
  ·simp only[yP,not_or]at hk;rw[i2 k hk.2];have:=c2.2 k hk.1;rw[show((bJ su x st).1,(bJ su x st).2)=bJ su x st from rfl]at this;rw[this,e2]
structure ka(keys:yk Int)(su:Int->yk Int)(rk:Int->Nat):Prop where
 nd:keys.Nodup
 up:∀x∈keys,∀y∈su x,y∈keys/\(rk x<rk y\/rk x=100/\rk y=100)
 pred:∀y∈keys,0<rk y->∃x∈keys,y∈su x/\(rk y=rk x+1\/rk x=100/\rk y=100)
noncomputable def Ph(keys:yk Int)(su:Int->yk Int)(rk:Int->Nat)(m:Nat)(k:Int):Nat:=((keys.filter λx=>decide (m<=rk x)).flatMap su).count k
structure NF(keys:yk Int)(su:Int->yk Int)(rk:Int->Nat)(m:Nat)(np:Int->Int)(l:yk Int):Prop where
 np:∀k∈keys,m<=rk k->np k=(Ph keys su rk m k:Int)
 nd:l.Nodup
 mem:∀k,k∈l↔k∈keys/\rk k=m
theorem up_lt(h:a<b\/a=100/\b=100)(hT:a<100):a<b:=h.resolve_right λe=>yA hT e.1
theorem pred_eq(h:b=a+1\/a=100/\b=100)(hT:b<100):b=a+1:=h.resolve_right λe=>yA hT e.2
variable{keys:yk Int}{su:Int->yk Int}
theorem mQ{rk:Int->Nat}(h:ka keys su rk){k:Int}(hk:k∈keys)(hm:m<=rk k)(hT:m<100):Ph keys su rk m k=0↔rk k=m:=by
 unfold Ph;rw[List.count_eq_zero];constructor
 ·intro hn;by_cases e:rk k=m
  ·exact e
  ·obtain⟨x,hx,hy,hr⟩:=h.pred k hk (yR (zc m) (E3 hm λq=>e q.symm));exact yD (Bt.mpr ⟨x,zT.mpr ⟨hx,y9 (hr.elim (λq=>zb (Cb (E3 hm λq=>e q.symm) q)) λq=>q.1.symm▸zz hT)⟩,hy⟩) hn
 ·intro e hmem;obtain⟨x,hx,hy⟩:=Bt.mp hmem;obtain⟨hx1,hx2⟩:=zT.mp hx;have:=(h.up x hx1 k hy).2;exact this.elim (λq=>E6.mpr (e▸q) (BP hx2)) λq=>yA hT (e▸q.2)
theorem oQ(su:Int->yk Int)(rk:Int->Nat)(m:Nat)(k:Int):∀keys:yk Int,Ph keys su rk m k=((keys.filter λx=>decide (rk x=m)).flatMap su).count k+Ph keys su rk (m+1) k
 |[]=>rfl
 |x::r=>by
  have ih:=oQ su rk m k r;unfold Ph at ih ⊢;rw[B4,B4,B4];by_cases h1:rk x=m
  ·rw[yo (by simp; lia),yo (by simpa using h1),ym (by simp; lia)];rw[BH,BH,Du,Du,ih]; lia
  ·by_cases h2:m<=rk x
   ·rw[yo (by simpa using h2),ym (by simpa using h1),yo (by simp; lia)];rw[BH,BH,Du,Du,ih]; lia
   ·rw[ym (by simpa using h2),ym (by simpa using h1),ym (by simp; lia)];exact ih
theorem kn:∀(a b:yk Int),a.Nodup->b.Nodup->(∀x,x∈a↔x∈b)->a.Perm b:=by intro a b ha hb h;rw[List.perm_iff_count];intro x;have ca:=Gj (a:=x) ha;have cb:=Gj (a:=x) hb;rw[ca,cb];simp[h x]
variable{np:Int->Int}
theorem NF.count{rk:Int->Nat}{l:yk Int}(h:ka keys su rk)(K:NF keys su rk m np l)(k:Int):(l.flatMap su).count k=((keys.filter λx=>decide (rk x=m)).flatMap su).count k:=by
 have hp:l.Perm (keys.filter λx=>decide (rk x=m)):=kn _ _ K.nd (CC _ h.nd) λx=>by rw[K.mem,zT]; simp
 exact(List.Perm.flatMap_right su hp).count_eq k
theorem pF:∀(l:yk Int) (np:Int->Int) (k:Int),jh np l k=if k∈l then -1 else np k
 |[],np,k=>rfl
 |x::r,np,k=>by
  show jh (bD np x (-1)) r k=_;rw[pF r];by_cases h:k∈r
  ·simp[h]
  ·by_cases e:k=x
   ·subst e; simp[h,bD]
   ·simp[h,e,bD]
theorem z_of{a:Int}(e:a=c+d)(h:a<=c):d=0:=by lia
theorem NF.next{rk:Int->Nat}{l:yk Int}(h:ka keys su rk)(K:NF keys su rk m np l)(hT:m+1<100) :
  NF keys su rk (m+1) (bB su l (jh np l,[])).1 (bB su l (jh np l,[])).2:=by
 have hs:∀x∈l,∀s∈su x,s∉l:=λx hx s hsx hm=>by have h1:=((K.mem x).mp hx).2;have:=up_lt (h.up x ((K.mem x).mp hx).1 s hsx).2 (by rw[h1]; exact A4 hT);have h2:=((K.mem s).mp hm).2;rw[h1,h2]at this; exact zt _ this
 obtain⟨f1,f2⟩:=qv su l (jh np l,[]) hs K.nd;have inS:∀k,k∈l.flatMap su->k∈keys/\m<rk k:=λk hk=>by obtain⟨x,hx,hy⟩:=Bt.mp hk;have:=h.up x ((K.mem x).mp hx).1 k hy;have h1:=((K.mem x).mp hx).2;exact⟨this.1,by rw[<-h1]; exact up_lt this.2 (by rw[h1]; exact A4 hT)⟩
 have npk:∀k∈keys,m<rk k->jh np l k=((l.flatMap su).count k:Int)+(Ph keys su rk (m+1) k:Int):=λk hk hm=>by rw[pF,ym (λhl=>yD ((K.mem k).mp hl).2 (zk hm)),K.np k hk (by exact zz (by assumption)),K.count h,oQ]; push_cast; rfl
 refine⟨λk hk hm =>?_,?_,λk =>?_⟩
 ·rw[f2 k (λhl=>yD ((K.mem k).mp hl).2 (zk hm)),rW];show jh np l k-_=_;rw[npk k hk hm,Dm]; exact Int.add_sub_cancel ..
 ·rw[f1]; exact kD _ _ (by simp) (by simp)
 ·rw[f1,oL];show(k∈[]\/(1<=jh np l k/\jh np l k<=_))↔_;simp only[Ad,false_or];constructor
  ·rintro⟨h1,h2⟩;have hpos:0<(l.flatMap su).count k:=Av.mp (BV (by decide:(0:Int)<1) (Bp h1 h2));have hmem:=Gs.mp hpos;obtain⟨i1,i2⟩:=inS k hmem;refine⟨i1,?_⟩;have:=npk k i1 i2;exact(mQ h i1 i2 hT).mp (z_of this h2)
  ·rintro⟨h1,h2⟩;have hz:=(mQ h h1 (m:=m+1) (zj h2.symm) hT).mpr h2;have e:=npk k h1 (h2▸yK m);obtain⟨x,hx,hy,hr⟩:=h.pred k h1 (h2▸Bh m);have hxl:x∈l:=(K.mem x).mpr ⟨hx,Cj ((pred_eq hr (by rw[h2]; exact hT)).symm.trans h2)⟩;have hpos:0<(l.flatMap su).count k:=Gs.mpr (Bt.mpr ⟨x,hxl,hy⟩);rw[e,hz]; exact⟨AA.mpr hpos,Dn _⟩
theorem NF.start{rk:Int->Nat}(h:ka keys su rk)(hnp:∀k∈keys,np k=((keys.flatMap su).count k:Int)):NF keys su rk 0 np (keys.filter λk=>np k==0):=by
 have e:∀k,Ph keys su rk 0 k=(keys.flatMap su).count k:=λk=>by unfold Ph; rw[B7.mpr (by simp)]
 refine⟨λk hk Z=>by rw[e]; exact hnp k hk,CC _ h.nd,λk =>?_⟩;rw[zT];refine and_congr_right λhk =>?_;rw[<-mQ h hk (m:=0) (by exact zc _) (by decide),e];rw[hnp k hk]; exact y5.trans FY
noncomputable def Kp(M:Nat->yk Nat)(x:Int):Nat:=if dn M 10 x.toNat=true then rk M x.toNat else 100
theorem dy(M:Nat->yk Nat)(k:Nat):Kp M (k:Int)=if dn M 10 k=true then rk M k else 100:=by unfold Kp; rw[zK]
theorem MD{M:Nat->yk Nat}(h:Iu M):∀r k,dn M r k=true->dn M (k / 2+1) k=true
 |0,_,e=>nomatch e
 |r+1,k,e=>iJ.mpr λm hm=>by have q:=dg h e hm;exact Qp (MD h r m (iJ.mp e m hm)) q
theorem uL(c:Nat):∀(keys:yk Int) (a:Int),keys.Nodup->a∈keys->(keys.map λx=>if a=x then c else 0).sum=c
 |[],a,_,h=>nomatch h
 |y::r,a,hn,h=>by
  obtain⟨h1,h2⟩:=Bb.mp hn;rw[za,DD];by_cases e:a=y
  ·subst e;rw[yo rfl];have:∀r:yk Int,a∉r->(r.map λx=>if a=x then c else 0).sum=0:=by
    intro r;induction r with
    |nil=>exact λZ=>rfl
    |cons z r ih=>intro hz; rw[za,DD,ym (λe:a=z=>hz (e▸yY ..)),ih λe=>hz (zS _ e)]
   rw[this r h1]; rfl
  ·rw[ym e,uL c r a h2 ((yP.mp h).resolve_left e),zM]
theorem uM(f g:Int->Nat):∀keys:yk Int,(keys.map λx=>f x+g x).sum=(keys.map f).sum+(keys.map g).sum
 |[]=>rfl
 |y::r=>by simp only[za,DD,uM f g r]; exact Nat.add_add_add_comm ..
theorem oz:∀{ls:yk (Nat×Nat)},(∀p∈ls,p.1<10)->∀y:Int,JS ls y=((di.flatMap (ID ls)).count y:Nat)
 |[],_,y=>by
  have:di.flatMap (ID [])=[]:=by unfold ID; rfl
  rw[this]; rfl
 |p::ls,h,y=>by
  have ih:=oz (ls:=ls) (λq hq=>h q (zS _ hq)) y;have e:∀x,(ID (p::ls) x).count y=(if((p.1:Nat):Int)=x then(if((p.2:Nat):Int)=y then 1 else 0)else 0)+(ID ls x).count y:=λx=>by
   unfold ID;by_cases q:((p.1:Nat):Int)=x
   ·rw[yo q,CG (p:=λp:Nat×Nat=>((p.1:Nat):Int)==x) (y5.mpr q),za,EC,zI];congr 1;by_cases z:((p.2:Nat):Int)=y
    ·rw[yo z,yo (y5.mpr z)]
    ·rw[ym z,ym (λa=>z (y5.mp a))]
   ·rw[ym q,CD (p:=λp:Nat×Nat=>((p.1:Nat):Int)==x) (λa=>q (y5.mp a)),zM]
  rw[List.count_flatMap]at ih ⊢;have e2:di.map (List.count y∘ID (p::ls))=di.map λx=>(if((p.1:Nat):Int)=x then(if((p.2:Nat):Int)=y then 1 else 0)else 0)+(ID ls x).count y:=Aj λx _=>e x;rw[e2,uM,uL _ di _ (by decide) (gI (h p (yY ..)))];have e3:JS (p::ls) y=(if((p.2:Nat):Int)=y then 1 else 0:Nat)+JS ls y:=by
   unfold JS;by_cases z:((p.2:Nat):Int)=y
   ·rw[yo z,CG (p:=λp:Nat×Nat=>((p.2:Nat):Int)==y) (y5.mpr z),Ax]; exact(Ep _ 1).trans (Dm _ _)
   ·rw[ym z,CD (p:=λp:Nat×Nat=>((p.2:Nat):Int)==y) (λa=>z (y5.mp a))]; exact(Int.zero_add _).symm
  rw[e3,ih];exact(Ep _ _).symm
theorem QR(ok:eE lks):ka di (ID lks) (Kp (ag lks)):=by
 have h:=dX ok;refine⟨by decide,λx hx y hy =>?_,λy hy h0 =>?_⟩
 ·obtain⟨m,k,hl,rfl,rfl⟩:=fR.mp hy;have h8:=ok _ hl;have m10:=h8.1;have k10:=h8.2.1;refine⟨gI k10,?_⟩;rw[dy,dy];have hm:=cR.mpr hl;by_cases e:dn (ag lks) 10 k=true
  ·have em:=b7 e hm;rw[yo e,yo em];have q:=(gx h (rk (ag lks) k+1) k k10 e).mpr (yK _);exact .inl ((gx h _ m m10 em).mp (iJ.mp q m hm))
  ·rw[ym e];by_cases em:dn (ag lks) 10 m=true
   ·rw[yo em]; exact .inl (y0 (Ko h m10 em) (by decide))
   ·rw[ym em]; exact .inr ⟨rfl,rfl⟩
 ·obtain⟨k,hk,rfl⟩:=yW.mp hy;have k10:=y7.mp hk;rw[dy]at h0 ⊢;have get:∀m,m∈ag lks k->(m:Int)∈di/\(k:Int)∈ID lks (m:Int):=λm hm=>⟨gI (h.lt k m hm).1,fR.mpr ⟨m,k,cR.mp hm,rfl,rfl⟩⟩;by_cases e:dn (ag lks) 10 k=true
  ·rw[yo e]at h0 ⊢;have n1:¬dn (ag lks) (rk (ag lks) k-1+1) k=true:=λq=>by have:=(gx h _ k k10 e).mp q;rw[AN h0]at this;exact zt _ this
   obtain⟨m,hm,hn⟩:∃m,m∈ag lks k/\¬dn (ag lks) (rk (ag lks) k-1) m=true:=by apply Dg;intro q;exact n1 (iJ.mpr λm hm=>Dg λz=>q ⟨m,hm,z⟩)
   have em:=b7 e hm;have m10:=(h.lt k m hm).1;refine⟨m,(get m hm).1,(get m hm).2,.inl ?_⟩;rw[dy,yo em];have a:¬rk (ag lks) m<rk (ag lks) k-1:=λq=>hn ((gx h _ m m10 em).mpr q);have b:=(gx h _ m m10 em).mp (iJ.mp ((gx h (rk (ag lks) k+1) k k10 e).mpr (yK _)) m hm);exact Be (DJ (zr a)) b
  ·rw[ym e];obtain⟨m,hm,hn⟩:∃m,m∈ag lks k/\¬dn (ag lks) 10 m=true:=by apply Dg;intro q;have:dn (ag lks) 11 k=true:=iJ.mpr λm hm=>Dg λz=>q ⟨m,hm,z⟩;exact e (Qp (MD h 11 k this) (yn (jB k10) (by decide)))
   exact⟨m,(get m hm).1,(get m hm).2,.inr ⟨by rw[dy,ym hn],rfl⟩⟩
noncomputable def cB(M:Nat->yk Nat)(q:Nat):yk Nat:=(a6 M).filter λk=>rk M k==q
variable{q:Nat}
theorem eN{M:Nat->yk Nat}:k∈cB M q↔(k<10/\dn M 10 k=true)/\rk M k=q:=by unfold cB; rw[zT,cS,y5]
theorem jD(M:Nat->yk Nat):(a6 M).Pairwise (· < ·):=CC _ GO
theorem Km(hq:q<100){l:yk Int}(nd:l.Nodup)(h:∀k,k∈l↔k∈di/\Kp (ag lks) k=q):cz l=jj (cB (ag lks) q):=by
 have srt:(cB (ag lks) q).Pairwise (· < ·):=CC _ (jD _);refine(d6 (kn _ _ ?_ nd λx =>?_) ?_).symm
 ·unfold jj; rw[List.Nodup,DB]; exact srt.imp λa b=>yA a (A3 b)
 ·rw[h];unfold jj di jj;constructor
  ·intro hx;obtain⟨k,hk,rfl⟩:=yW.mp hx;obtain⟨⟨a,b⟩,c⟩:=eN.mp hk;exact⟨zG (y7.mpr a),by rw[dy,yo b]; exact c⟩
  ·rintro⟨a,b⟩;obtain⟨k,hk,rfl⟩:=yW.mp a;rw[dy]at b;refine zG (eN.mpr ?_);by_cases e:dn (ag lks) 10 k=true
   ·rw[yo e]at b; exact⟨⟨y7.mp hk,e⟩,b⟩
   ·rw[ym e]at b; exact yD hq (by rw[<-b]; decide)
 ·unfold jj; rw[DB]; exact srt.imp λa=>AA.mpr (zz a)
theorem oj{rk:Int->Nat}(h:ka keys su rk)(mm:Nat):∀(d:Nat) (k:Int),k∈keys->rk k=mm+d->rk k<100->∃k'∈keys,rk k'=mm
 |0,k,hk,e,_=>⟨k,hk,e⟩
 |d+1,k,hk,e,l=>by obtain⟨x,hx,_,hr⟩:=h.pred k hk (e▸Bh _);have q:rk k=rk x+1:=hr.resolve_right λz=>yA l z.2;exact oj h mm d x hx (Cj (q.symm.trans e)) (y0 (yK _) (yR (zj q.symm) l))
theorem sX:T2.meths (Sx "is_active")=some (bH (Sx "is_active")):=by kernel_rfl
theorem tH:T2.meths (Sx "get_ready")=some (bH (Sx "get_ready")):=by kernel_rfl
theorem xL:T2.meths (Sx "done")=some (bH (Sx "done")):=by kernel_rfl
theorem xM(i:Nat)(vs:yk AV)(hl:vs.length<=999):aM (bH (Sx "done")) (.ref i::vs) []=some [(Sx "self",.ref i),(Sx "nodes",.tup vs)]:=by
 have e:∀pos:yk AV,aM (bH (Sx "done")) pos []=if(true&&true&&decide (1<=pos.length)&&decide (pos.length<=1000))=true then some ([Sx "self"].zip pos++[(Sx "nodes",.tup (pos.drop 1))])else none:=by intro pos; kernel_rfl
 rw[e,yo (by simp; assumption)]; rfl
theorem B.SA{l:yk Int}(hl:l.length<64):B (bM "sorted" [.tup (l.map .int)]) O (.lst ((cz l).map .int)):=λQ h=>by refine IL (a:=fY) (by kernel_rfl) ?_;delta fY;refine HS (o:=one? [.tup (l.map .int)]) (a:=.tup (l.map .int)) rfl ?_;refine IL (a:=l.map .int) rfl ?_;refine HS (cw l) ?_;exact JR hl h
structure GS(G G':SG):Prop where
 d:G'.d=G.d
 n:G'.n=G.n
 R:G'.R=G.R
 Q:G'.Q=G.Q
 keys:G'.keys=G.keys
 su:G'.su=G.su
variable{G':SG}
theorem GS.foot(s:GS G G')(j:Nat):fu G' i j↔fu G i j:=by unfold fu; rw[s.d,s.n,s.R,s.Q,s.keys]
theorem bT.gs{r:Nat}(s:bT O i G r O' G'):GS G G':=⟨s.d,s.n,s.R,s.Q,s.keys,s.su⟩
theorem GS.trans{A B C:SG}(a:GS A B)(b:GS B C):GS A C:=⟨b.d.trans a.d,b.n.trans a.n,b.R.trans a.R,b.Q.trans a.Q,b.keys.trans a.keys,b.su.trans a.su⟩
noncomputable def f9(Mb:Nat->yk Nat)(H:Nat):yk AV:=(yB H).map λq=>.lst (ii (cB Mb q))
inductive TY(O:St)(i rr u:Nat)(G:SG)(lks:yk (Nat×Nat))(kk:Nat)(O':St):Prop
 |mk (mm:Nat) (G':SG) (l:yk Int) (u0:kk=20-mm) (u1:mm<=10) (u2:Rep O' i G') (u3:GS G G') (u4:O'.nx=O.nx) (u5:∀j,¬fu G i j->j≠rr->j≠u->O'.hp j=O.hp j) (u6:Qy O' G' rr l) (u7:NF di (ID lks) (Kp (ag lks)) mm G'.np l) (u8:G'.fi=G'.po) (u9:O'.hp u=.list (f9 (ag lks) mm)) (u10:∀q,q<mm->∃k,k∈di/\Kp (ag lks) k=q) (u11:∀y,(y==Sx "ready")=false->O'.loc y=O.loc y):TY O i rr u G lks kk O'
theorem wR(hD:1<=7)(hL:50000<=LL){u:Nat}(ok:eE lks)(hl:lks.length<=56)(h:Rep O i G)(hk:G.keys=di)(hnp:G.np=JS lks)(hsu:G.su=ID lks)(hrd:G.rd=.ref rr)(hfi:G.fi=G.po)(hrr:rr<O.nx)(hrh:O.hp rr=.list ((di.filter λk=>JS lks k==0).map .int))
  (hu:u<O.nx) (huf:¬fu G i u) (hur:u≠rr) (hU:O.hp u=.list []) (lS:O.loc (Sx "sorter")=some (.ref i)) (lU:O.loc (Sx "rounds")=some (.ref u))
  (hQ:∀O' mm,O'.nx=O.nx->(∀j,¬fu G i j->j≠rr->j≠u->O'.hp j=O.hp j)->O'.hp u=.list (f9 (ag lks) mm)->mm<=10->(∀k,k∈di->Kp (ag lks) k<100->Kp (ag lks) k<mm)->(∀q,q<mm->∃k,k∈di/\Kp (ag lks) k=q)->(∀y,(y==Sx "ready")=false->O'.loc y=O.loc y)->Q .next O') :
  Ok (bm (Ji (aI (aJ T2 LL 40 7) (aa (Sx "sorter")) (Sx "is_active") (aj []) eM)) (i5 (aJ T2 LL 40 7)) (M.ret .next) LL) O Q:=by
 have R:=QR ok;have hsl:∀k,(ID lks k).length<=100:=λk=>yn (pt _ _) (yn hl (by decide));refine cO (TY O i rr u G lks) (λkk O' hI =>?_) LL 20 O (yv (by decide) hL) ⟨0,G,_,rfl,zc _,h,⟨rfl,rfl,rfl,rfl,rfl,rfl⟩,rfl,λZ Z Z Z=>rfl,⟨hrd,hrr,hrh⟩,by rw[hnp]; exact NF.start R λk Z=>oz (λp hp=>(ok p hp).1) k,hfi,hU,λq hq=>yD hq (An _),λZ Z=>rfl⟩;obtain⟨mm,G',l,rfl,hmm,h',gs,q1,q2,r',K',fi',hU',hne,ql⟩:=hI;have hlk:∀k∈l,k∈di:=λk hk=>((K'.mem k).mp hk).1;have hll:l.length<=10:=ct l di K'.nd hlk;have lS':=(ql (Sx "sorter") (by kernel_rfl)).trans lS;have lU':=(ql (Sx "rounds") (by kernel_rfl)).trans lU;have v0:V (Ji (aI (aJ T2 LL 40 7) (aa (Sx "sorter")) (Sx "is_active") (aj []) eM)) O' (!l.isEmpty):=by refine V.tr (x:=.bool (!l.isEmpty)) (λP k=>sU sX (V.l lS') h'.i_ h'.d_ h'.ih h'.dh rfl V.nil (pI hD h' r' (yn hll (by decide)) ?_)) rfl;rw[show(decide (G'.fi<G'.po))=false from AS (by rw[fi']; exact Int.lt_irrefl _),Ec]; exact k
 refine v0 _ ?_;by_cases hl0:l=[]
 ·subst hl0;rw[ym (by decide)];refine hQ O' mm q1 q2 hU' hmm (λk hk hk1 =>?_) hne ql;by_cases hlt:Kp (ag lks) k<mm
  ·exact hlt
  ·obtain⟨k',hk',e⟩:=oj R mm (Kp (ag lks) k-mm) k hk (CM (zr hlt)).symm hk1;exact yD ((K'.mem k').mpr ⟨hk',e⟩) (by simp)
 ·rw[yo (by cases l<;>first|exact yD rfl hl0|rfl)];refine(let QQ:=_; (?_:Ok _ _ QQ));obtain⟨k1,hk1⟩:∃k,k∈l:=by cases l with
   |nil=>exact yD rfl hl0
   |cons a b=>exact⟨a,yY ..⟩
  have hmm10:mm<10:=by
   have h1:=(K'.mem k1).mp hk1;obtain⟨k,hk,rfl⟩:=yW.mp h1.1;have h2:=h1.2;rw[dy]at h2;by_cases e:dn (ag lks) 10 k=true
   ·rw[yo e]at h2; exact h2▸Ko (dX ok) (y7.mp hk) e
   ·rw[ym e]at h2; exact yD hmm (by rw[<-h2]; decide)
  have hn:∀{x},x<O.nx->x<O'.nx:=λh=>q1▸h;delta i5;refine sC (sU tH (V.l lS') h'.i_ h'.d_ h'.ih h'.dh rfl V.nil (pK hD h' r' (yn hll (by decide)) (λk hk2=>by rw[gs.keys,hk]; exact hlk k hk2) λσ1 G1 s1 r1 np1 po1 fi1 l1 =>?_));obtain⟨lc1,h1,n1⟩:=σ1;obtain rfl:lc1=O'.loc:=l1;obtain rfl:n1=O'.nx:=s1.nx;have gs1:=gs.trans s1.gs;have Qg:∀j,¬fu G i j->j≠rr->h1 j=O'.hp j:=λj hf hjr=>s1.hp j (λhh=>hf ((gs.foot j).mp hh)) hjr;have lr1:ai O'.loc (Sx "ready") (some (.tup (l.map .int))) (Sx "ready")=some (.tup (l.map .int)):=L0;have lu1:ai O'.loc (Sx "ready") (some (.tup (l.map .int))) (Sx "rounds")=some (.ref u):=LS (by kernel_rfl) lU';have ls1:ai O'.loc (Sx "ready") (some (.tup (l.map .int))) (Sx "sorter")=some (.ref i):=LS (by kernel_rfl) lS';have lo1:∀y,(y==Sx "ready")=false->ai O'.loc (Sx "ready") (some (.tup (l.map .int))) y=O.loc y:=λy hy=>(LS hy rfl).trans (ql y hy);revert lr1 lu1 ls1 lo1;generalize ai O'.loc (Sx "ready") (some (.tup (l.map .int)))=l2;intro lr1 lu1 ls1 lo1;have hlm:(l.map AV.int).length<=999:=by rw[yE]; exact yn hll (by decide)
  refine PY (V.l lu1) (V.b (V.cons (V.l lr1) V.nil) (B.SA (yR hll (by decide)))) (hn hu) ((Qg u huf hur).trans hU') (by unfold f9; rw[yE,zh]; exact y0 hmm10 (by decide)) ?_;rw[Km (y0 hmm10 (by decide)) K'.nd K'.mem];have h4:Rep ⟨l2,upd h1 u (.list (f9 (ag lks) mm++[.lst (ii (cB (ag lks) mm))])),O'.nx⟩ i G1:=(s1.rep.loc l2).frame (yF _) λj Z hf=>ym λe:j=u=>huf (e▸(gs1.foot j).mp hf);have r4:Qy ⟨l2,upd h1 u (.list (f9 (ag lks) mm++[.lst (ii (cB (ag lks) mm))])),O'.nx⟩ G1 rr []:=⟨r1.rd,r1.r_,(ym hur.symm).trans r1.h⟩;refine Ua (sU xL (V.l ls1) h4.i_ h4.d_ h4.ih h4.dh rfl (vs:=l.map .int) (λP k=>.mk _ lr1 (jm (yn hlm (by decide)) k)) ?_);have su1:G1.su=ID lks:=gs1.su.trans hsu;refine Oh hD (yn (by decide) hL) h4 l r4 (yn hll (by decide)) (λk hk2=>by rw[gs1.keys,hk]; exact hlk k hk2) (λk hk=>by rw[np1,pF,yo hk]) K'.nd (λk hk2 s hs =>?_) (λk=>by rw[su1]; exact hsl k) (λσ5 G5 s5 r5 np5 po5 fi5 l5 =>?_) (xM _ _ hlm)
  ·rw[su1]at hs;have hup:=R.up k (hlk k hk2) s hs;refine⟨by rw[gs1.keys,hk]; exact hup.1,λhsl =>?_⟩;have e1:=((K'.mem k).mp hk2).2;have e2:=((K'.mem s).mp hsl).2;exact hup.2.elim (λq=>yA q (e1.trans e2.symm)) λq=>yD hmm (by rw[<-q.1.symm.trans e1]; decide)
  ·refine sE ?_;have gs5:=gs1.trans s5.gs;have np5':G5.np=(bB (ID lks) l (jh G'.np l,[])).1:=by rw[np5,su1,np1]
   have rd5':Qy σ5 G5 rr (bB (ID lks) l (jh G'.np l,[])).2:=by rw[su1,np1]at r5; exact r5
   have K5:=NF.next R K' (yR hmm10 (by decide));rw[<-np5']at K5;have fr5:∀j,¬fu G i j->j≠rr->σ5.hp j=upd h1 u (.list (f9 (ag lks) mm++[.lst (ii (cB (ag lks) mm))])) j:=λj hf hjr=>s5.hp j (λhh=>hf ((gs1.foot j).mp hh)) hjr;refine⟨20-(mm+1),Ha (y0 hmm10 (by decide)) (yK mm),mm+1,G5,_,rfl,hmm10,s5.rep,gs5,s5.nx.trans q1,λj f1 f2 f3 =>?_,rd5',K5,?_,?_,λq hq =>?_,λy hy =>?_⟩
   ·exact(fr5 j f1 f2).trans ((ym f3).trans ((Qg j f1 f2).trans (q2 j f1 f2 f3)))
   ·rw[fi5,po5,fi1,po1,fi']
   ·refine(fr5 u huf hur).trans ((yo rfl).trans ?_);unfold f9; rw[Bv,yN]; rfl
   ·by_cases e:q<mm
    ·exact hne q e
    ·exact⟨k1,hlk k1 hk1,((K'.mem k1).mp hk1).2.trans (Be (zr e) (zb hq))⟩
   ·rw[l5]; exact lo1 y hy
structure VS(w:Pin)(lks:yk (Nat×Nat))(u H:Nat)(O:St):Prop where
 at_:w.at O
 lt:u<O.nx
 hp:O.hp u=.list (f9 (ag lks) H)
 le:H<=10
 all:∀k,k<10->dn (ag lks) 10 k=true->rk (ag lks) k<H
 some:∀q,q<H->∃k,k∈cB (ag lks) q
theorem wL(hD:1<=7)(hL:50000<=LL){σ0:St}(ok:eE lks)(hl:lks.length<=56)(hw:∀j o,w j=some o->j<b)(B:Si w b lks i σ0 O)(lS:O.loc (Sx "sorter")=some (.ref i)){r:M ac}
  (k:∀O' u H,b<=u->VS w lks u H O'->O'.loc (Sx "rounds")=some (.ref u)->(∀y,(y==Sx "rounds")=false->(y==Sx "ready")=false->O'.loc y=O.loc y)->Ok r O' Q) :
  Ok (af (aA (bO (.list [])) [(an (Sx "rounds"))]) (af (bm (Ji (aI (aJ T2 LL 40 7) (aa (Sx "sorter")) (Sx "is_active") (aj []) eM)) (i5 (aJ T2 LL 40 7)) (M.ret .next) LL) r)) O Q:=by
 refine hdZ λGG hGG =>?_;obtain⟨a1,a2,a3,G,rr,e1,e2,e3,e4,e5,e6,e7,e8,e9,e10,e11⟩:=B;obtain⟨l,h,n⟩:=O;refine hGG ?_;have hb:b<=n:=yn e8 (zz e9);have foot:∀j,fu G i j->j<n:=λj f=>by
  rcases f with rfl|rfl|rfl|⟨x,hx,rfl|rfl⟩
  ·exact e1.i_
  ·exact e1.d_
  ·exact e1.n_
  ·exact e1.r_ x hx
  ·exact e1.q_ x hx
 refine qF λh1 b1 o1 =>?_;have R1:Rep ⟨ai l (Sx "rounds") (some (.ref n)),h1,n+1⟩ i G:=(e1.loc (ai l (Sx "rounds") (some (.ref n)))).frame (Am n) λj hj Z=>o1 j (yA hj);have ls2:ai l (Sx "rounds") (some (.ref n)) (Sx "sorter")=some (.ref i):=LS (by kernel_rfl) lS;have lr2:ai l (Sx "rounds") (some (.ref n)) (Sx "rounds")=some (.ref n):=L0;refine(wR hD hL ok hl R1 e2 e3 e4 e5 (e7.trans e6.symm) (yZ e9) ((o1 rr (yA e9)).trans e11) (yK n) (λf=>zt _ (foot n f)) (zk e9) b1 ls2 lr2 λO' mm g1 g2 g3 g4 g5 g6 g7 =>?_:Ok _ _ (iu r Q));refine k O' n mm hb ⟨λj o e =>?_,by rw[g1]; exact yK _,g3,g4,λkk hk e =>?_,λq hq =>?_⟩ ((g7 _ (by kernel_rfl)).trans lr2) λy p q=>(g7 y q).trans (LS p rfl)
 ·have hj:=hw j o e;have hjn:=yv hj hb;refine⟨by rw[g1]; exact yZ hjn,(g2 j (λf=>zt _ (yv hj (e10 j f))) (yA (yv hj e8)) (yA hjn)).trans ((o1 j (yA hjn)).trans (a1 j o e).2)⟩
 ·have:=g5 kk (gI hk);rw[dy,yo e]at this;exact this (y0 (Ko (dX ok) hk e) (by decide))
 ·obtain⟨x,hx,e⟩:=g6 q hq;obtain⟨kk,hk,rfl⟩:=yW.mp hx;rw[dy]at e;by_cases z:dn (ag lks) 10 kk=true
  ·rw[yo z]at e; exact⟨kk,eN.mpr ⟨⟨y7.mp hk,z⟩,e⟩⟩
  ·rw[ym z]at e; lia
theorem Rk(ys:yk Nat):∀a:Nat,(jj (ys.map (1 + ·))).foldl (λa b=>if b>a then b else a) (a:Int)=((ys.foldl (λa b=>if 1+b>a then 1+b else a) a:Nat):Int):=by
 induction ys with
 |nil=>exact λa=>rfl
 |cons y r ih =>
  intro a;show(jj (r.map (1 + ·))).foldl _ (if((1+y:Nat):Int)>(a:Int)then((1+y:Nat):Int)else(a:Int))=_;rw[Aw];by_cases q:1+y>a
  ·rw[yo (Av.mpr q),yo q]; exact ih _
  ·rw[ym (λe=>q (Av.mp e)),ym q]; exact ih _
theorem Ly(ys:yk Nat):ie (jj (0::ys.map (1 + ·)))=some ((PZ ys:Nat):Int):=yI some (Rk ys 0)
noncomputable def bC(f:Nat->AV)(ks:yk Nat):yk (Int×AV):=ks.map λ(k:Nat)=>((k:Int),f k)
theorem cV(f:Nat->AV):∀{ks:yk Nat},m∈ks->(bC f ks).lookup (m:Int)=some (f m)
 |[],h=>nomatch h
 |k::r,h=>by
  show Ba (m:Int) (((k:Int),f k)::bC f r)=_;rw[zi];by_cases e:m=k
  ·subst e; rw[show((m:Int)==(m:Int))=true from zl _]
  ·rw[show((m:Int)==(k:Int))=false from Fj λq=>e (A3 q)]; exact cV f ((yP.mp h).resolve_left e)
variable{ks:yk Nat}
theorem mO(f:Nat->AV)(h:k∉ks):(k:Int)∉(bC f ks).map (·.1):=λe=>by obtain⟨p,hp,e⟩:=yW.mp e;obtain⟨j,hj,rfl⟩:=yW.mp hp;exact h (A3 e▸hj)
theorem lq(f:Nat->AV)(ks:yk Nat)(k:Nat):bC f ks++[((k:Int),f k)]=bC f (ks++[k]):=by unfold bC; rw[yN]; rfl
theorem g8{o g:M AV}{k:Int}{Q:yu->St->Prop}(ho:V o O (.ref j))(hg:V g O (.int k))(hj:j<O.nx)(h1:O.hp j=.dict kvs ver)(hl:kvs.length<=HC)(hk:k∉kvs.map (·.1))(h:Q () {O with hp:=upd O.hp j (.dict (kvs++[(k,v)]) (ver+1))}):Ok (b3 o g v) O Q:=by rw[<-fD kvs k v hk]at h;exact ho _ (hg _ (mi hj h1 hl h))
theorem ahead{M:Nat->yk Nat}(h:Iu M){d r:yk Nat}(e:a6 M=d++k::r)(hm:m∈M k):m∈d:=by
 have hk:k∈a6 M:=by rw[e]; exact AE _ (yY ..)
 obtain⟨k10,dk⟩:=cS.mp hk;have hmf:m∈a6 M:=cS.mpr ⟨(h.lt k m hm).1,b7 dk hm⟩;have lt:=dg h dk hm;have srt:=jD M;rw[e]at hmf srt;rcases y3.mp hmf with q|q
 ·exact q
 ·rcases yP.mp q with q|q
  ·subst q; exact yD lt (zt _)
  ·have:=(Ak.mp (EW.mp srt).2.1).1 m q;exact yD (yv lt (Nat.div_le_div_right (zz this))) (zt _)
theorem Tr{l x p:Nat}(h:l<=a*x+2)(ha:a<=10)(hx:x+1=3*p):l+1<=3*(p*10):=by refine yn (AR (yn h (AG (CT x ha) 2))) ?_;rw[show 3*(p*10)=10*(x+1) by rw[hx,BK p 10,Nat.mul_left_comm]];exact zO (show 3<=10 by decide) (10*x)
theorem RD{M:Nat->yk Nat}(h:Iu M)(n:Nat):∀k,k<10->dn M 10 k=true->k / 2<=n->(fo M k).length+1<=3*10 ^ n:=by
 induction n with
 |zero =>intro k hk e hn;have:M k=[]:=List.eq_nil_iff_forall_not_mem.mpr λm hm=>yD (dg h e hm) λq=>An _ (yv q hn);unfold fo;rw[d5 h default gf e hk,this];exact AR (vL (X:=0) λZ q=>(Ad q).elim)
 |succ n ih =>
  intro k hk e hn;have p:0<10 ^ n:=E8 (by decide);have:=vL (fs:=(M k).map (val M default gf)) (X:=3*10 ^ n-1) λs hs=>by obtain⟨m,hm,rfl⟩:=yW.mp hs;exact G0 (ih m (h.lt k m hm).1 (b7 e hm) (zb (yv (dg h e hm) hn)))
  rw[yE]at this;unfold fo;rw[d5 h default gf e hk,DN];exact Tr this (rs (h.nd k) λm hm=>(h.lt k m hm).1) (AN (Nat.mul_pos (by decide) p))
structure Kn(w:Pin)(mb u:Nat)(R:Nat->Nat)(lks:yk (Nat×Nat))(H:Nat)(fv:AV):Prop where
 m:w mb=some (.frozen ((yB 10).map λk=>AV.ref (R k)))
 r:tF w R (ag lks)
 f:Fz (ii (a6 (ag lks))) w fv
 u:w u=some (.list (f9 (ag lks) H))
variable{H:Nat}
theorem Kn.le{u:Nat}{R:Nat->Nat}(k:Kn w mb u R lks H fv)(h:w.le w'):Kn w' mb u R lks H fv:=⟨h _ _ k.m,λj hj=>h _ _ (k.r j hj),k.f.mono h,h _ _ k.u⟩
inductive PM(O:St)(lks:yk (Nat×Nat))(r:yk AV)(O':St):Prop
 |mk (done rest:yk Nat) (ver ver':Nat) (u0:a6 (ag lks)=done++rest) (u1:r=ii rest) (u2:O.nx+2<=O'.nx) (u3:∀j,j<O.nx->O'.hp j=O.hp j) (u4:O'.hp O.nx=.dict (bC (λk=>.int (rk (ag lks) k:Nat)) done) ver) (u5:O'.hp (O.nx+1)=.dict (bC (λk=>.str (fo (ag lks) k)) done) ver') (u6:O'.loc (Sx "rank")=some (.ref O.nx)) (u7:O'.loc (Sx "form")=some (.ref (O.nx+1))) (u8:∀y,(y==Sx "rank")=false->(y==Sx "form")=false->(y==Sx "k")=false->O'.loc y=O.loc y):PM O lks r O'
theorem Pin.H8(h1:O.nx<=O'.nx)(h2:∀j,j<O.nx->O'.hp j=O.hp j):(Pin.all O).le (Pin.all O'):=λj o e=>by
 unfold Pin.all at e;split at e
 ·exact Pin.HH (yv (by assumption) h1) ((h2 j (by assumption)).trans (si e))
 ·exact nn e
theorem wg(hD:1<=7)(hL:1000<=LL){u:Nat}{R:Nat->Nat}(ok:eE lks)(K:Kn (Pin.all O) mb u R lks H fv)(lm:O.loc (Sx "members")=some (.ref mb)){r:yk AV}(I:PM O lks (v::r) O') :
  Ok (i8 (aJ T2 LL 40 7)) {O' with loc:=ai O'.loc (Sx "k") (some v)} λf σ2=>f=.next/\PM O lks r σ2:=by
 have h:=dX ok;refine(let QQ:=_; (?_:Ok _ _ QQ));obtain⟨done,rest,ver,ver',u0,u1,u2,u3,u4,u5,u6,u7,u8⟩:=I;cases rest with
 |nil=>cases u1
 |cons k rest =>
 obtain⟨rfl,rfl⟩:=zL u1;have hk:k∈a6 (ag lks):=by rw[u0]; exact AE _ (yY ..)
 obtain⟨k10,dk⟩:=cS.mp hk;have nd:k∉done:=λe=>by have:=jD (ag lks);rw[u0]at this;exact zt _ ((EW.mp this).2.2 k e k (yY ..))
 have l10:(ag lks k).length<=10:=rs (h.nd k) λm hm=>(h.lt k m hm).1;have dl:∀f:Nat->AV,(bC f done).length<=HC:=λf=>by unfold bC;rw[yE];have a:=gY λk=>dn (ag lks) 10 k;have b:(a6 (ag lks)).length=_:=yI List.length u0;rw[yV]at b;unfold a6 at b;exact yn (yn (yH _ _) (zj b.symm)) (yn a (by decide))
 obtain⟨l,hh,n⟩:=O';have lk:ai l (Sx "k") (some (.int (k:Nat))) (Sx "k")=some (.int (k:Nat)):=L0;have lr:ai l (Sx "k") (some (.int (k:Nat))) (Sx "rank")=some (.ref O.nx):=LS (by kernel_rfl) u6;have lf:ai l (Sx "k") (some (.int (k:Nat))) (Sx "form")=some (.ref (O.nx+1)):=LS (by kernel_rfl) u7;have lmm:ai l (Sx "k") (some (.int (k:Nat))) (Sx "members")=some (.ref mb):=LS (by kernel_rfl) ((u8 _ (by kernel_rfl) (by kernel_rfl) (by kernel_rfl)).trans lm);have lo:∀y,(y==Sx "rank")=false->(y==Sx "form")=false->(y==Sx "k")=false->ai l (Sx "k") (some (.int (k:Nat))) y=O.loc y:=λy a b c=>(LS c rfl).trans (u8 y a b c);revert lk lr lf lmm lo;generalize ai l (Sx "k") (some (.int (k:Nat)))=l2;intro lk lr lf lmm lo;have p0:O.nx<n:=A4 u2;have p1:O.nx+1<n:=u2;have K1:=K.le (Pin.H8 (O':=⟨l2,hh,n⟩) (zz p0) u3);have row:∀{w' l'},(Pin.all ⟨l2,hh,n⟩).le w'->l' (Sx "members")=some (.ref mb)->l' (Sx "k")=some (.int (k:Nat))->P w' l' (M.bind (aB (aa (Sx "members")) (aa (Sx "k"))) ar) (It (ii (ag lks k))):=λ{w' l'} z a b =>
  (P.li (P.idx (P.li (P.g a) (.Ij mb rfl (z _ _ K1.m))) (P.g b) (fL (λk=>AV.ref (R k)) k10)) (.IH _ rfl (z _ _ (K1.r k k10)))).JW
 delta i8;refine NS (O:=⟨l2,hh,n⟩) (w:=Pin.all ⟨l2,hh,n⟩) (l:=l2) (v:=.int (rk (ag lks) k:Nat)) ?_ Pin.HL Ll.refl λw1 σ1 n1 =>?_
 ·have e1:P (Pin.all ⟨l2,hh,n⟩) l2 (aO bd (.list []) bE (M.bind (aB (aa (Sx "members")) (aa (Sx "k"))) ar) (λσ0 i=>aL LL (Sx "m") (M.ret true) (aU (aK .Add (cst (.int 1)) (aB (ae (σ0.loc (Sx "rank"))) (aa (Sx "m")))) i))) (Li (ii ((ag lks k).map λm=>1+rk (ag lks) m))) :=
   P.each (row .refl lmm lk) (yn l10 (by decide)) hL λσ0 w' m c1 c2 hm=>P.bin P.c (P.key (P.f c1 lr) (P.g L0) (c2 _ _ (Pin.HH p0 u4)) (cV _ (ahead h u0 hm))) rfl
  have e2:=P.cat (P.lst (P.Ia (w:=Pin.all ⟨l2,hh,n⟩) (l:=l2) (P.cons (P.c (v:=.int 0)) P.nil) (show 1<=HC by decide))) e1 (by rw[cU,yE]; exact yn (zO l10 1) (by decide));have e3:[AV.int 0]++ii ((ag lks k).map λm=>1+rk (ag lks) m)=(jj (0::((ag lks k).map (rk (ag lks))).map (1 + ·))).map .int:=by rw[zq]; rfl
  rw[e3]at e2;have e4:=P.max e2.lst (Ly _);unfold rk at e4 ⊢;rw[d5 h 0 PZ dk k10]; exact e4
 have lo1:=n1.grow.loc;refine(let QQ:=_; (?_:Ok _ _ QQ));obtain⟨l1,h1,m1⟩:=σ1;obtain rfl:l1=l2:=lo1;have q0:=yv p0 n1.grow.nx;have q1:=yv p1 n1.grow.nx;refine g8 (V.l lr) (V.l lk) q0 ((n1.grow.hp _ p0).trans u4) (dl _) (mO _ nd) ?_;rw[lq];have ne:O.nx+1≠O.nx:=Fb _;have v5:upd h1 O.nx (.dict (bC (λk=>.int (rk (ag lks) k:Nat)) (done++[k])) (ver+1)) (O.nx+1)=.dict (bC (λk=>.str (fo (ag lks) k)) done) ver':=(ym ne).trans ((n1.grow.hp _ p1).trans u5);have v4:upd h1 O.nx (.dict (bC (λk=>.int (rk (ag lks) k:Nat)) (done++[k])) (ver+1)) O.nx=.dict (bC (λk=>.int (rk (ag lks) k:Nat)) (done++[k])) (ver+1):=yo rfl;have v3:∀j,j<O.nx->upd h1 O.nx (.dict (bC (λk=>.int (rk (ag lks) k:Nat)) (done++[k])) (ver+1)) j=O.hp j:=λj hj=>(ym (yA hj)).trans ((n1.grow.hp j (y0 hj p0)).trans (u3 j hj));revert v3 v4 v5;generalize upd h1 O.nx (.dict (bC (λk=>.int (rk (ag lks) k:Nat)) (done++[k])) (ver+1))=h2;intro v5 v4 v3;have K2:=K.le (Pin.H8 (O':=⟨l1,h2,m1⟩) (zz q0) v3);have row2:∀{w' l'},(Pin.all ⟨l1,h2,m1⟩).le w'->l' (Sx "members")=some (.ref mb)->l' (Sx "k")=some (.int (k:Nat))->P w' l' (M.bind (aB (aa (Sx "members")) (aa (Sx "k"))) ar) (It (ii (ag lks k))):=λ{w' l'} z a b =>
  (P.li (P.idx (P.li (P.g a) (.Ij mb rfl (z _ _ K2.m))) (P.g b) (fL (λk=>AV.ref (R k)) k10)) (.IH _ rfl (z _ _ (K2.r k k10)))).JW
 refine NS (O:=⟨l1,h2,m1⟩) (w:=Pin.all ⟨l1,h2,m1⟩) (l:=l1) (v:=.str (fo (ag lks) k)) ?_ Pin.HL Ll.refl λw3 σ3 n3 =>?_
 ·have e1:=P.map (w:=Pin.all ⟨l1,h2,m1⟩) (l:=l1) (x:=Sx "m") (t:=λZ=>M.ret true) (e:=λσ0=>aB (ae (σ0.loc (Sx "form"))) (aa (Sx "m"))) (λ(n:Nat)=>AV.int (n:Int)) (p:=λZ=>true) (f:=λm=>AV.str (fo (ag lks) m)) (jA (ag lks k)▸row2 .refl lmm lk) (yR l10 (yv (by decide) hL)) (yn l10 (by decide)) (λZ Z Z Z Z Z=>P.r)
   λσ0 w' m c1 c2 hm Z=>P.key (P.f c1 lf) (P.g L0) (c2 _ _ (Pin.HH q1 v5)) (cV _ (ahead h u0 hm))
  rw[B7.mpr λZ Z=>rfl,show(ag lks k).map (λm=>AV.str (fo (ag lks) m))=((ag lks k).map (fo (ag lks))).map .str by rw[zq]; rfl]at e1;have e2:=ri hD hL e1 (by rw[yE]; exact l10) λs hs=>by obtain⟨m,hm,rfl⟩:=yW.mp hs;have:=RD h 3 m (h.lt k m hm).1 (b7 dk hm) (zb (yv (dg h dk hm) (zb (jB k10))));exact yn (zC this) (by decide)
  unfold fo at e2 ⊢;rw[d5 h default gf dk k10]; exact e2
 have lo3:=n3.grow.loc;obtain⟨l3,h3,m3⟩:=σ3;obtain rfl:l3=l1:=lo3;have s1:=yv q1 n3.grow.nx;refine g8 (V.l lf) (V.l lk) s1 ((n3.grow.hp _ q1).trans v5) (dl _) (mO _ nd) ?_;rw[lq];exact sE ⟨rfl,done++[k],rest,ver+1,ver'+1,by rw[u0,zF]; rfl,rfl,s1,λj hj=>(ym (yA (yZ hj))).trans ((n3.grow.hp j (y0 hj q0)).trans (v3 j hj)),(ym ne.symm).trans ((n3.grow.hp _ q0).trans v4),yo rfl,lr,lf,lo⟩
theorem mn  {it:aw}{body:AV->M ac}(h:It vs w it)(hl:vs.length<LL)(I:yk AV->St->Prop)(hw:∀r O,I r O->w.at O)(h0:I vs O)
  (step:∀v r O,I (v::r) O->Ok (body v) O λf σ2=>f=.next/\I r σ2) (hend:∀O,I [] O->Q .next O):Ok (cy LL it body) O Q:=by
 have key:∀vs',I vs' O->Ok (bt (R.M.ret ()) body vs') O Q:=λvs' h=>br (HE:=R.M.ret ()) I (λv r O h=>(step v r O h).mono λf σ2 h2=>by obtain⟨rfl,h2⟩:=h2; exact h2) hend vs' O h;cases h with
 |Ip e=>subst e; exact key vs h0
 |seq e=>subst e; exact key vs h0
 |IH i e o h k =>subst e;show Ok (ez body i LL 0) O Q;exact er I (λr O h1=>⟨by rw[(hw r O h1 i o h).2]; exact k,(hw r O h1 i o h).1⟩) (λv r O h=>(step v r O h).mono λf σ2 h2=>by obtain⟨rfl,h2⟩:=h2; exact h2) hend LL 0 O hl (zc _) h0
 |Tz i ver kvs e h =>
  subst e;exact br (HE:=du i ver) I (λv r O h1=>(step v r O h1).mono λf σ2 h2=>by
   obtain⟨rfl,h2⟩:=h2;exact g9 (hw r σ2 h2 i _ h).1 (hw r σ2 h2 i _ h).2 h2) hend vs O h0
theorem Ur  {body r:M ac}(hx:O.loc x=some v)(h:Li vs w v)(a:w.at O)(k:∀it,It vs w it->Ok (cy LL it λv=>M.bind (an y v) λZ=>body) O (iu r Q)):Ok (af (gP LL y (M.bind (aa x) ar) body) r) O Q:=by
 have key:∀i o,w i=some o->o.items?=some vs->V (M.bind (aa x) ar) O (.HY i)\/v≠.ref i:=λi o e z=>by
  by_cases q:v=.ref i
  ·subst q;exact .inl (V.its (V.l hx) λQ k=>(okN rfl (okN rfl (okN rfl (HS rfl (IE (a i o e).1 (IL (by rw[(a i o e).2]; exact z) k))))):yT (Et (.ref i)) O Q))
  ·exact .inr q
 cases h with
 |val e=>subst e; exact sL (V.its (V.l hx) B.Th) (k _ (.seq rfl))
 |IH i e h=>exact(key i _ h rfl).elim (λz=>sL z (k _ (.IH i rfl _ h rfl))) λz=>yD e z
 |Ij i e h=>exact(key i _ h rfl).elim (λz=>sL z (k _ (.IH i rfl _ h rfl))) λz=>yD e z
theorem NX{x:Nat}(h:x∈xs):x<PZ xs:=((tG xs 0 (PZ xs)).mp (yF _)).2 x h
theorem xr(all:∀k,k<10->dn (ag lks) 10 k=true->rk (ag lks) k<H)(some:∀q,q<H->∃k,k∈cB (ag lks) q):PZ ((a6 (ag lks)).map (rk (ag lks)))=H:=by
 apply Be
 ·exact(tG _ 0 H).mpr ⟨zc _,λx hx=>by
   obtain⟨k,hk,rfl⟩:=yW.mp hx;obtain⟨a,b⟩:=cS.mp hk;exact all k a b⟩
 ·refine zr λq =>?_;obtain⟨k,hk⟩:=some _ q;obtain⟨⟨a,b⟩,c⟩:=eN.mp hk;have:=NX (zG (f:=rk (ag lks)) (cS.mpr ⟨a,b⟩));rw[c]at this;exact zt _ this
theorem Al.rows(w:Pin)(M:Nat->yk Nat):∀xs:yk Nat,Al w (xs.map λq=>AV.lst (ii (cB M q))) (xs.map λq=>jj (cB M q))
 |[]=>.nil
 |x::r=>.cons (.val rfl) (Al.rows w M r)
theorem Fm.rows{M:Nat->yk Nat}(h:Fm (JD (λZ=>true) λq w us=>∃u,us=[u]/\Li (ii (cB M q)) w u) w xs us):Al w us (xs.map λq=>jj (cB M q)):=by
 induction h with
 |nil=>exact .nil
 |cons h r ih =>have e:=h _ .refl;unfold JD at e;rw[yo rfl]at e;obtain⟨u,rfl,e⟩:=e;exact .cons e ih
theorem Ob(hD:1<=7)(hL:1000<=LL){u:Nat}{R:Nat->Nat}(ok:eE lks)(K:Kn (Pin.all O) mb u R lks H fv)(hH:H<=10)(all:∀k,k<10->dn (ag lks) 10 k=true->rk (ag lks) k<H)(some:∀q,q<H->∃k,k∈cB (ag lks) q)
  (lm:O.loc (Sx "members")=.some (.ref mb)) (lf:O.loc (Sx "founded")=.some fv) (lu:O.loc (Sx "rounds")=.some (.ref u)) {r:M ac}
  (k:∀O' q,O.nx<=O'.nx->(∀j,j<O.nx->O'.hp j=O.hp j)->(∃ver,Pin.all O' q=.some (.dict (bC (λk=>.str (fo (ag lks) k)) (a6 (ag lks))) ver))->O'.loc (Sx "form")=.some (.ref q)->(∀y,(y==Sx "rank")=false->(y==Sx "form")=false->(y==Sx "k")=false->(y==Sx "height")=false->O'.loc y=O.loc y)->Ok r O' Q) :
  Ok (af (aA (bO (.dict [] 0)) [(an (Sx "rank"))])
 (af (aA (bO (.dict [] 0)) [(an (Sx "form"))])
 (af (gP LL (Sx "k") (M.bind (aa (Sx "founded")) ar) (i8 (aJ T2 LL 40 7)))
 (af (aA (ay "max" (aj [(aK .Add (Ia [(cst (.int 0))]) (aO bd (.list []) bE (M.bind (aa (Sx "founded")) ar) (λσ0 i=>aL LL (Sx "k") (M.ret true) (aU (aK .Add (cst (.int 1)) (aB (ae (σ0.loc (Sx "rank"))) (aa (Sx "k")))) i))))])) [(an (Sx "height"))])
 (af (HX (aG .NotEq (aa (Sx "rounds")) (aO bd (.list []) bE (cp (aj [(aa (Sx "height"))])) (λσ0 i=>aL LL (Sx "r") (M.ret true) (aU (aO bd (.list []) bE (M.bind (ae (σ0.loc (Sx "founded"))) ar) (λσ1 i=>aL LL (Sx "k") (aG .Eq (aB (ae (σ0.loc (Sx "rank"))) (aa (Sx "k"))) (ae (σ1.loc (Sx "r")))) (aU (aa (Sx "k")) i))) i)))) (af (bV (cst (.bool false)))
 (M.ret .next)) (M.ret .next)) r))))) O Q:=by
 obtain⟨l,h,n⟩:=O;have fl:(a6 (ag lks)).length<=10:=gY _;refine qF λh1 a1 o1=>qF λh2 a2 o2 =>?_;have lr2:ai (ai l (Sx "rank") (.some (.ref n))) (Sx "form") (.some (.ref (n+1))) (Sx "rank")=.some (.ref n):=LS (by kernel_rfl) L0;have lf2:ai (ai l (Sx "rank") (.some (.ref n))) (Sx "form") (.some (.ref (n+1))) (Sx "form")=.some (.ref (n+1)):=L0;have lo2:∀y,(y==Sx "rank")=false->(y==Sx "form")=false->ai (ai l (Sx "rank") (.some (.ref n))) (Sx "form") (.some (.ref (n+1))) y=l y:=λy a b=>LS b (LS a rfl);revert lr2 lf2 lo2;generalize ai (ai l (Sx "rank") (.some (.ref n))) (Sx "form") (.some (.ref (n+1)))=l2;intro lr2 lf2 lo2;have old:∀j,j<n->h2 j=h j:=λj hj=>(o2 j (yA (yZ hj))).trans (o1 j (yA hj));have K2:Kn (Pin.all ⟨l2,h2,n+1+1⟩) mb u R lks H fv:=K.le (Pin.H8 (O':=⟨l2,h2,n+1+1⟩) (yH n 2) old);have at2:(Pin.all ⟨l,h,n⟩).at ⟨l2,h2,n+1+1⟩:=λj o e=>(Pin.HL (O:=⟨l2,h2,n+1+1⟩)) j o (Pin.H8 (O':=⟨l2,h2,n+1+1⟩) (yH n 2) old j o e);refine Ur (w:=Pin.all ⟨l,h,n⟩) ((lo2 _ (by kernel_rfl) (by kernel_rfl)).trans lf) K.f.li at2 λit q1 =>?_;refine mn q1 (by rw[cU]; exact yR fl (yv (by decide) hL)) (PM ⟨l,h,n⟩ lks) (λr O' I =>?_) ⟨[],a6 (ag lks),0,0,rfl,rfl,yF _,old,(o2 n (yA (yK n))).trans a1,a2,lr2,lf2,λy a b c=>lo2 y a b⟩ (λv r O' I=>bL (wg hD hL ok K lm I)) λO' I =>?_
 ·obtain⟨_,_,_,_,_,_,u2,u3,_⟩:=I;exact λj o e=>Pin.HL j o (Pin.H8 (yn (yH _ 2) u2) u3 j o e)
 refine(let QQ:=_; (?_:Ok _ _ QQ));obtain⟨done,rest,ver,ver',u0,u1,u2,u3,u4,u5,u6,u7,u8⟩:=I;have hr0:rest=[]:=by cases rest<;>first|rfl|cases u1
 subst hr0;rw[yX]at u0; subst u0;have K3:=K.le (Pin.H8 (yn (yH _ 2) u2) u3);have p0:n<O'.nx:=A4 u2;have lfv:O'.loc (Sx "founded")=.some fv:=(u8 _ (by kernel_rfl) (by kernel_rfl) (by kernel_rfl)).trans lf;have luu:O'.loc (Sx "rounds")=.some (.ref u):=(u8 _ (by kernel_rfl) (by kernel_rfl) (by kernel_rfl)).trans lu;have e1:P (Pin.all O') O'.loc (ay "max" (aj [(aK .Add (Ia [(cst (.int 0))]) (aO bd (.list []) bE (M.bind (aa (Sx "founded")) ar) (λσ0 i=>aL LL (Sx "k") (M.ret true) (aU (aK .Add (cst (.int 1)) (aB (ae (σ0.loc (Sx "rank"))) (aa (Sx "k")))) i))))])) (Fl (.int (H:Nat))):=by
  have e1:=P.each (x:=Sx "k") (e:=λσ0=>aK .Add (cst (.int 1)) (aB (ae (σ0.loc (Sx "rank"))) (aa (Sx "k")))) (f:=λm=>1+rk (ag lks) m) (P.JW ((P.g lfv).li K3.f.li)) (yn fl (by decide)) hL λσ0 w' m c1 c2 hm=>P.bin P.c (P.key (P.f c1 u6) (P.g L0) (c2 _ _ (Pin.HH p0 u4)) (cV _ hm)) rfl;have e2:=P.cat (P.lst (P.Ia (w:=Pin.all O') (l:=O'.loc) (P.cons (P.c (v:=.int 0)) P.nil) (show 1<=HC by decide))) e1 (by rw[cU,yE]; exact yn (zO fl 1) (by decide));have e3:[AV.int 0]++ii ((a6 (ag lks)).map λm=>1+rk (ag lks) m)=(jj (0::((a6 (ag lks)).map (rk (ag lks))).map (1 + ·))).map .int:=by rw[zq]; rfl
  rw[e3]at e2;have e4:=P.max e2.lst (Ly _);rw[xr all some]at e4; exact e4
 refine Sk e1 Pin.HL Ll.refl λw3 σ3 n3 =>?_;have l3:σ3.loc=O'.loc:=n3.grow.loc;have lh4:ai σ3.loc (Sx "height") (.some (.int (H:Nat))) (Sx "height")=.some (.int (H:Nat)):=L0;have lo4:∀y,(y==Sx "height")=false->ai σ3.loc (Sx "height") (.some (.int (H:Nat))) y=O'.loc y:=λy a=>(LS a rfl).trans (zA l3 y);revert lh4 lo4;generalize ai σ3.loc (Sx "height") (.some (.int (H:Nat)))=l4;intro lh4 lo4;have fl4:l4 (Sx "founded")=.some fv:=(lo4 _ (by kernel_rfl)).trans lfv;have rl4:l4 (Sx "rank")=.some (.ref n):=(lo4 _ (by kernel_rfl)).trans u6;refine stI (c:=false) (w:=w3) (l:=l4) ?_ n3.at_ Ll.refl λw5 σ5 n5=>sN (k σ5 (n+1) ?_ ?_ ?_ ?_ ?_)
 ·have e5:P w3 l4 (aO bd (.list []) bE (cp (aj [(aa (Sx "height"))])) (λσ0 i=>aL LL (Sx "r") (M.ret true) (aU (aO bd (.list []) bE (M.bind (ae (σ0.loc (Sx "founded"))) ar) (λσ1 i=>aL LL (Sx "k") (aG .Eq (aB (ae (σ0.loc (Sx "rank"))) (aa (Sx "k"))) (ae (σ1.loc (Sx "r")))) (aU (aa (Sx "k")) i))) i))) (Ue ((yB H).map λq=>jj (cB (ag lks) q))):=by refine(P.comp (n:=1*(yB H).length) (S:=λw us=>Fm (JD (λZ=>true) λq w us=>∃u,us=[u]/\Li (ii (cB (ag lks) q)) w u) w (yB H) us) (by rw[DL,zh]; exact yn hH (by decide)) (P.JQ (P.g lh4) (yn hH (by decide))) λσ0 w' it i c1 c2 c3=>Em.loop rfl c3 (by rw[zh]; exact yR hH (yv (by decide) hL)) (λq hq=>P.r) λq hq Z=>.one ?_).wk λw' u Z=>Bm λus=>Cr λh2=>h2.rows;refine P.pick (p:=λk=>rk (ag lks) k==q) (P.JW ((P.f c1 fl4).li (K3.f.li.mono (n3.le.trans c2)))) (yn fl (by decide)) hL λσ1 w4 m c4 c5 hm =>?_;exact P.t (P.key (P.f c1 rl4) (P.g L0) ((n3.le.trans (c2.trans c5)) _ _ (Pin.HH p0 u4)) (cV _ hm)) (P.f c4 L0) (Cc.fl λhp nx=>(dt ..).trans (yI Option.some (vu _ q)))
  have e6:P w3 l4 (aa (Sx "rounds")) (Ue ((yB H).map λq=>jj (cB (ag lks) q))):=(P.g ((lo4 _ (by kernel_rfl)).trans luu)).wk λw' v a b=>by cases b;exact⟨_,.IH u rfl (a _ _ (n3.le _ _ K3.u)),Al.rows _ _ _⟩
  have e7:=P.t e6 e5 Cc.VA;rw[show(!((yB H).map (λq=>jj (cB (ag lks) q))==(yB H).map λq=>jj (cB (ag lks) q)))=false by rw[zl]; rfl]at e7;exact e7
 ·exact yn (yn (yH n 2) u2) (yn n3.grow.nx n5.grow.nx)
 ·exact λj hj=>(n5.grow.hp j (yv hj (yn (yn (yH n 2) u2) n3.grow.nx))).trans ((n3.grow.hp j (yv hj (yn (yH n 2) u2))).trans (u3 j hj))
 ·exact⟨ver',Pin.HH (yv u2 (yn n3.grow.nx n5.grow.nx)) ((n5.grow.hp _ (yv u2 n3.grow.nx)).trans ((n3.grow.hp _ u2).trans u5))⟩
 ·rw[n5.grow.loc]; exact(lo4 _ (by kernel_rfl)).trans u7
 ·exact λy a b c d=>by rw[n5.grow.loc]; exact(lo4 y d).trans (u8 y a b c)
theorem Um{e o g:M AV}{R:Pin->AV->Prop}{r:M ac}(he:P w l e R)(a:w.at O)(b:Ll l O.loc)(k:∀w' v O',Nx w O w' O'->R w' v->Ok (b3 o g v) O' λZ σ2=>Ok r σ2 Q):Ok (af (aA e [b3 o g]) r) O Q :=
 (he w O .refl a b).mono λu O' h9=>by obtain⟨w',n,q⟩:=h9; exact k w' u O' n (q w' .refl)
theorem LU:∀xs:yk Nat,(jj xs).sum=((xs.sum:Nat):Int)
 |[]=>rfl
 |x::r=>by show(x:Int)+(jj r).sum=_;rw[LU r,DD,Ep]
theorem Li.all(h:Li vs w v)(a:w.at O):Li vs (Pin.all O) v:=h.mono (Pin.IZ a)
theorem Li.past{p:Nat}{d:yk (Int×AV)}(h:Li vs (Pin.all O) v)(hp:O.hp p=.dict d ver)(h1:O.nx<=O'.nx)(h2:∀j,j<O.nx->j≠p->O'.hp j=O.hp j):Li vs (Pin.all O') v:=by
 have key:∀i o,Pin.all O i=some o->(∀d ver,o≠.dict d ver)->Pin.all O' i=some o:=λi o e z=>by
  have a:=Pin.HL (O:=O) i o e;have ne:i≠p:=λq=>by subst q; exact z d ver (a.2.symm.trans hp)
  exact Pin.HH (yv a.1 h1) ((h2 i a.1 ne).trans a.2)
 cases h with
 |val e=>exact .val e
 |IH i e h=>exact .IH i e (key i _ h nofun)
 |Ij i e h=>exact .Ij i e (key i _ h nofun)
noncomputable def OQ(M:Nat->yk Nat)(k:Nat):yk Nat:=rN ((M k).map (nu M))
inductive s9(O:St)(lks:yk (Nat×Nat))(done:yk Nat)(O':St):Prop
 |mk (Vf:Nat->AV) (ver ver':Nat) (u2:O.nx+2<=O'.nx) (u3:∀j,j<O.nx->O'.hp j=O.hp j) (u4:O'.hp O.nx=.dict (bC (λk=>.int (nu (ag lks) k:Nat)) done) ver) (u5:O'.hp (O.nx+1)=.dict (bC Vf done) ver') (u6:O'.loc (Sx "number")=some (.ref O.nx)) (u7:O'.loc (Sx "held")=some (.ref (O.nx+1))) (u8:∀y,(y==Sx "number")=false->(y==Sx "held")=false->(y==Sx "row")=false->(y==Sx "k")=false->(y==Sx "values")=false->O'.loc y=O.loc y) (u9:∀k,k∈done->Li (ii (OQ (ag lks) k)) (Pin.all O') (Vf k)):s9 O lks done O'
variable{done:yk Nat}
theorem Ot  (hL:1000<=LL){u:Nat}{R:Nat->Nat}(ok:eE lks)(K:Kn (Pin.all O) mb u R lks H fv)(lm:O.loc (Sx "members")=some (.ref mb))(I:s9 O lks done O')(hk:k∈a6 (ag lks))(nd:k∉done)(dlen:done.length<=200)(mem:∀m,m∈ag lks k->m∈done) :
  Ok (i6 C) {O' with loc:=ai O'.loc (Sx "k") (some (.int (k:Nat)))} λf σ2=>f=.next/\s9 O lks (done++[k]) σ2:=by
 have h:=dX ok;refine(let QQ:=_; (?_:Ok _ _ QQ));obtain⟨Vf,ver,ver',u2,u3,u4,u5,u6,u7,u8,u9⟩:=I;obtain⟨k10,dk⟩:=cS.mp hk;have l10:(ag lks k).length<=10:=rs (h.nd k) λm hm=>(h.lt k m hm).1;have dl:∀f:Nat->AV,(bC f done).length<=HC:=λf=>by unfold bC; rw[yE]; exact yn dlen (by decide)
 obtain⟨l,hh,n⟩:=O';have lk:ai l (Sx "k") (some (.int (k:Nat))) (Sx "k")=some (.int (k:Nat)):=L0;have ln:ai l (Sx "k") (some (.int (k:Nat))) (Sx "number")=some (.ref O.nx):=LS (by kernel_rfl) u6;have lh:ai l (Sx "k") (some (.int (k:Nat))) (Sx "held")=some (.ref (O.nx+1)):=LS (by kernel_rfl) u7;have lo:∀y,(y==Sx "number")=false->(y==Sx "held")=false->(y==Sx "row")=false->(y==Sx "k")=false->(y==Sx "values")=false->ai l (Sx "k") (some (.int (k:Nat))) y=O.loc y:=λy a b c d e=>(LS d rfl).trans (u8 y a b c d e);revert lk ln lh lo;generalize ai l (Sx "k") (some (.int (k:Nat)))=l2;intro lk ln lh lo;have lmm:l2 (Sx "members")=some (.ref mb):=(lo _ (by kernel_rfl) (by kernel_rfl) (by kernel_rfl) (by kernel_rfl) (by kernel_rfl)).trans lm;have p0:O.nx<n:=A4 u2;have p1:O.nx+1<n:=u2;have ne:O.nx+1≠O.nx:=Fb _;have K1:=K.le (Pin.H8 (O':=⟨l2,hh,n⟩) (zz p0) u3);delta i6;refine Sj (O:=⟨l2,hh,n⟩) (w:=Pin.all ⟨l2,hh,n⟩) (l:=l2) (P.each (f:=nu (ag lks)) (P.li (P.idx (P.li (P.g lmm) (.Ij mb rfl K1.m)) (P.g lk) (fL (λk=>AV.ref (R k)) k10)) (.IH _ rfl (K1.r k k10))).JW (yn l10 (by decide)) hL λσ0 w' m c1 c2 hm=>P.key (P.f c1 ln) (P.g L0) (c2 _ _ (Pin.HH p0 u4)) (cV _ (mem m hm))) Pin.HL Ll.refl λw1 v1 σ1 n1 q1 =>?_;have hv1:=q1 w1 .refl;have lo1:=n1.grow.loc;obtain⟨l1,h1,m1⟩:=σ1;obtain rfl:l1=l2:=lo1;have lv:ai l1 (Sx "values") (some v1) (Sx "values")=some v1:=L0;have lk1:ai l1 (Sx "values") (some v1) (Sx "k")=some (.int (k:Nat)):=LS (by kernel_rfl) lk;have ln1:ai l1 (Sx "values") (some v1) (Sx "number")=some (.ref O.nx):=LS (by kernel_rfl) ln;have lh1:ai l1 (Sx "values") (some v1) (Sx "held")=some (.ref (O.nx+1)):=LS (by kernel_rfl) lh;have lo2:∀y,(y==Sx "number")=false->(y==Sx "held")=false->(y==Sx "row")=false->(y==Sx "k")=false->(y==Sx "values")=false->ai l1 (Sx "values") (some v1) y=O.loc y:=λy a b c d e=>(LS e rfl).trans (lo y a b c d e);revert lv lk1 ln1 lh1 lo2;generalize ai l1 (Sx "values") (some v1)=l3;intro lv lk1 ln1 lh1 lo2;refine Um (O:=⟨l3,h1,m1⟩) (w:=w1) (l:=l3) (R:=Li (ii (OQ (ag lks) k))) ?_ n1.at_ Ll.refl λw2 v2 σ2 n2 hv2 =>?_
 ·refine P.pick (p:=λv=>((ag lks k).map (nu (ag lks))).contains v) (jA (yB 16)▸P.JQ (n:=16) P.c (by decide)) (by decide) hL λσ0 w' v c1 c2 hv =>?_;exact iE _ v▸P.t (P.g L0) ((P.f c1 lv).li (hv1.mono c2)) Cc.Tj
 have lo3:=n2.grow.loc;obtain⟨l4,h2,m2⟩:=σ2;obtain rfl:l4=l3:=lo3;have q1:=yv p1 (yn n1.grow.nx n2.grow.nx);have q0:=A4 q1;have keep:∀j,j<n->h2 j=hh j:=λj hj=>(n2.grow.hp j (yv hj n1.grow.nx)).trans (n1.grow.hp j hj);have hd2:h2 (O.nx+1)=.dict (bC Vf done) ver':=(keep _ p1).trans u5;refine g8 (V.l lh1) (V.l lk1) q1 hd2 (dl _) (mO _ nd) ?_;have eV:bC Vf done++[((k:Int),v2)]=bC (λx=>if x=k then v2 else Vf x) (done++[k]):=by
  unfold bC;rw[yN];congr 1
  ·exact Aj λx hx=>by dsimp only; rw[ym λe:x=k=>nd (e▸hx)]
  ·show [((k:Int),v2)]=[((k:Int),if k=k then v2 else Vf k)];rw[yo rfl]
 rw[eV];have hv2':Li (ii (OQ (ag lks) k)) (Pin.all ⟨l4,upd h2 (O.nx+1) (.dict (bC (λx=>if x=k then v2 else Vf x) (done++[k])) (ver'+1)),m2⟩) v2:=(hv2.all n2.at_).past hd2 (yF _) λj Z e=>ym e;have hV:∀x,x∈done->Li (ii (OQ (ag lks) x)) (Pin.all ⟨l4,upd h2 (O.nx+1) (.dict (bC (λx=>if x=k then v2 else Vf x) (done++[k])) (ver'+1)),m2⟩) (Vf x):=λx hx=>((u9 x hx).past (O':=⟨l4,h2,m2⟩) (p:=O.nx+1) u5 (yn n1.grow.nx n2.grow.nx) λj hj Z=>keep j hj).past hd2 (yF _) λj Z e=>ym e;have w4:upd h2 (O.nx+1) (.dict (bC (λx=>if x=k then v2 else Vf x) (done++[k])) (ver'+1)) O.nx=.dict (bC (λk=>.int (nu (ag lks) k:Nat)) done) ver:=(ym ne.symm).trans ((keep _ p0).trans u4);have w5:upd h2 (O.nx+1) (.dict (bC (λx=>if x=k then v2 else Vf x) (done++[k])) (ver'+1)) (O.nx+1)=.dict (bC (λx=>if x=k then v2 else Vf x) (done++[k])) (ver'+1):=yo rfl;have w3:∀j,j<O.nx->upd h2 (O.nx+1) (.dict (bC (λx=>if x=k then v2 else Vf x) (done++[k])) (ver'+1)) j=O.hp j:=λj hj=>(ym (yA (yZ hj))).trans ((keep j (y0 hj p0)).trans (u3 j hj));revert hv2' hV w4 w5 w3;generalize upd h2 (O.nx+1) (.dict (bC (λx=>if x=k then v2 else Vf x) (done++[k])) (ver'+1))=h3;intro hv2' hV w4 w5 w3;refine NS (O:=⟨l4,h3,m2⟩) (w:=Pin.all ⟨l4,h3,m2⟩) (l:=l4) (v:=.int (nu (ag lks) k:Nat)) ?_ Pin.HL Ll.refl λw6 σ6 n6 =>?_
 ·have its:P (Pin.all ⟨l4,h3,m2⟩) l4 (M.bind (aB (aa (Sx "held")) (aa (Sx "k"))) ar) (It (ii (OQ (ag lks) k))):=((P.key (P.g lh1) (P.g lk1) (Pin.HH (O:=⟨l4,h3,m2⟩) q1 w5) (cV (λx=>if x=k then v2 else Vf x) (AE _ (zf.mpr rfl)))).li (by rw[yo rfl]; exact hv2')).JW;have hl16:(OQ (ag lks) k).length<=16:=yn (Bs ..) (zj zh);have e1:=P.sum (P.each (x:=Sx "v") (e:=λZ=>aK .Pow (cst (.int 2)) (aa (Sx "v"))) (f:=λv=>2 ^ v) its (yn hl16 (by decide)) hL λσ0 w' v c1 c2 hv=>P.bin P.c (P.g L0) (I.Uu (yn (zz (y7.mp (zT.mp hv).1)) (by decide))));rw[LU]at e1;rw[SV h k10 dk]; exact e1
 have lo6:=n6.grow.loc;obtain⟨l6,h6,m6⟩:=σ6;obtain rfl:l6=l4:=lo6;have r1:=yv q1 n6.grow.nx;have r0:=A4 r1;have hd6:h6 O.nx=.dict (bC (λk=>.int (nu (ag lks) k:Nat)) done) ver:=(n6.grow.hp _ q0).trans w4;refine g8 (V.l ln1) (V.l lk1) r0 hd6 (dl _) (mO _ nd) ?_;rw[lq];refine sE ⟨rfl,_,ver+1,ver'+1,r1,λj hj=>(ym (yA hj)).trans ((n6.grow.hp j (y0 hj q0)).trans (w3 j hj)),yo rfl,(ym ne).trans ((n6.grow.hp _ q1).trans w5),ln1,lh1,lo2,λx hx =>?_⟩;have up6:∀{v:AV} {vs:yk AV},Li vs (Pin.all ⟨l6,h3,m2⟩) v->Li vs (Pin.all ⟨l6,upd h6 O.nx (.dict (bC (λk=>.int (nu (ag lks) k:Nat)) (done++[k])) (ver+1)),m6⟩) v:=λz=>(z.past (O':=⟨l6,h6,m6⟩) (p:=O.nx) w4 n6.grow.nx λj hj Z=>n6.grow.hp j hj).past hd6 (yF _) λj Z e=>ym e;rcases y3.mp hx with q|q
 ·rw[ym λe:x=k=>nd (e▸q)]; exact up6 (hV x q)
 ·obtain rfl:=zf.mp q;rw[yo rfl]; exact up6 hv2'
theorem rX{f:Nat->yk Nat}(h:∀x,(f x).length<=10):∀j,((yB j).flatMap f).length<=10*j
 |0=>yF _
 |j+1=>by rw[Bv,Dx,yV,EI,Bg];exact Bc (rX h j) (h j)
theorem pA(M:Nat->yk Nat)(q:Nat):(cB M q).length<=10:=yn (Bs ..) (gY _)
inductive TV(O:St)(lks:yk (Nat×Nat))(j:Nat)(r:yk AV)(O':St):Prop
 |mk (done rest:yk Nat) (u0:cB (ag lks) j=done++rest) (u1:r=ii rest) (u2:s9 O lks ((yB j).flatMap (cB (ag lks))++done) O'):TV O lks j r O'
inductive PK(O:St)(lks:yk (Nat×Nat))(H:Nat)(r:yk AV)(O':St):Prop
 |mk (j:Nat) (u0:r=(zU j (H-j)).map λq=>.lst (ii (cB (ag lks) q))) (u1:j<=H) (u2:s9 O lks ((yB j).flatMap (cB (ag lks))) O'):PK O lks H r O'
theorem s9.loc(I:s9 O lks done O')(v:yl AV)(h:y=Sx "row" \/ y=Sx "k"):s9 O lks done ⟨ai O'.loc y v,O'.hp,O'.nx⟩:=by
 obtain⟨Vf,ver,ver',u2,u3,u4,u5,u6,u7,u8,u9⟩:=I;have a:(Sx "number"== y)=false:=by rcases h with rfl|rfl<;>kernel_rfl
 have b:(Sx "held"== y)=false:=by rcases h with rfl|rfl<;>kernel_rfl
 exact⟨Vf,ver,ver',u2,u3,u4,u5,LS a u6,LS b u7,λz p q r s t=>(LS (by rcases h with rfl|rfl<;>first|exact r|exact s) rfl).trans (u8 z p q r s t),u9⟩
theorem Oo  (hL:1000<=LL){u:Nat}{R:Nat->Nat}(ok:eE lks)(K:Kn (Pin.all O) mb u R lks H fv)(lm:O.loc (Sx "members")=some (.ref mb))(hH:H<=10){r:yk AV}(I:PK O lks H (v::r) O') :
  Ok (i7 C) {O' with loc:=ai O'.loc (Sx "row") (some v)} λf σ2=>f=.next/\PK O lks H r σ2:=by
 have h:=dX ok;refine(let QQ:=_; (?_:Ok _ _ QQ));obtain⟨j,u0,u1,u2⟩:=I;have hj:j<H:=E3 u1 λe=>by rw[e,AQ]at u0; cases u0
 rw[pq hj,DC]at u0;obtain⟨rfl,rfl⟩:=zL u0;delta i7;refine Ur (w:=λZ=>none) (v:=.lst (ii (cB (ag lks) j))) (x:=Sx "row") ?_ (.val rfl) (λZ Z e=>nomatch e) λit q1 =>?_
 ·exact(L0:ai O'.loc (Sx "row") _ (Sx "row")=_)
 refine mn q1 (by rw[cU]; exact yR (pA _ _) (yv (by decide) hL)) (TV O lks j) (λr O' I Z o e=>nomatch e) ⟨[],cB (ag lks) j,rfl,rfl,by rw[yX]; exact u2.loc _ (.inl rfl)⟩ (λv r' σ2 I=>bL ?_) λσ2 I =>?_
 ·refine(let QQ:=_; (?_:Ok _ _ QQ));obtain⟨done,rest,w0,w1,w2⟩:=I;cases rest with
  |nil=>cases w1
  |cons k rest =>
  obtain⟨rfl,rfl⟩:=zL w1;have hkr:k∈cB (ag lks) j:=by rw[w0]; exact AE _ (yY ..)
  obtain⟨⟨k10,dk⟩,hrk⟩:=eN.mp hkr;have nd:k∉(yB j).flatMap (cB (ag lks))++done:=λe=>by
   rcases y3.mp e with q|q
   ·obtain⟨x,hx,hk⟩:=Bt.mp q;exact yD (y7.mp hx) (by rw[<-(eN.mp hk).2,hrk]; exact zt _)
   ·have srt:(cB (ag lks) j).Pairwise (· < ·):=CC _ (jD _);rw[w0]at srt;exact zt _ ((EW.mp srt).2.2 k q k (yY ..))
  refine Ok.mono (v:=i6 C) (Ot hL ok K lm w2 (cS.mpr ⟨k10,dk⟩) nd ?_ λm hm =>?_) λf σ3 a=>⟨a.1,done++[k],rest,by rw[w0,zF]; rfl,rfl,by rw[<-zF]; exact a.2⟩
  ·rw[yV];have a:=rX (pA (ag lks)) j;have b:=pA (ag lks) j;rw[w0,yV]at b;exact yn (Bc a (yn (yH ..) b)) (yn (AG (Af 10 (yn (zz hj) hH)) 10) (by decide))
  ·refine z0 _ (Bt.mpr ⟨rk (ag lks) m,?_,eN.mpr ⟨⟨(h.lt k m hm).1,b7 dk hm⟩,rfl⟩⟩);have q:=(gx h (j+1) k k10 dk).mpr (hrk▸yK _);exact y7.mpr ((gx h j m (h.lt k m hm).1 (b7 dk hm)).mp (iJ.mp q m hm))
 ·obtain⟨done,rest,w0,w1,w2⟩:=I;have hr0:rest=[]:=by cases rest<;>first|rfl|cases w1
  subst hr0;rw[yX]at w0;subst w0;exact sE ⟨rfl,j+1,rfl,hj,by rw[Bv,Dx,EI]; exact w2⟩
structure Nh(lks:yk (Nat×Nat))(p q:Nat)(ks:yk Nat)(Vf:Nat->AV)(O:St):Prop where
 mem:∀k,k∈a6 (ag lks)->k∈ks
 num:∃ver,Pin.all O p=some (.dict (bC (λk=>.int (nu (ag lks) k:Nat)) ks) ver)
 held:∃ver,Pin.all O q=some (.dict (bC Vf ks) ver)
 li:∀k,k∈ks->Li (ii (OQ (ag lks) k)) (Pin.all O) (Vf k)
theorem wM  (hL:1000<=LL){u:Nat}{R:Nat->Nat}(ok:eE lks)(K:Kn (Pin.all O) mb u R lks H fv)(hH:H<=10)(all:∀k,k<10->dn (ag lks) 10 k=true->rk (ag lks) k<H)
  (lm:O.loc (Sx "members")=some (.ref mb)) (lu:O.loc (Sx "rounds")=some (.ref u)) {r:M ac}
  (k:∀O' p q ks Vf,O.nx<=O'.nx->(∀j,j<O.nx->O'.hp j=O.hp j)->Nh lks p q ks Vf O'->O'.loc (Sx "number")=some (.ref p)->O'.loc (Sx "held")=some (.ref q)->(∀y,(y==Sx "number")=false->(y==Sx "held")=false->(y==Sx "row")=false->(y==Sx "k")=false->(y==Sx "values")=false->O'.loc y=O.loc y)->Ok r O' Q) :
  Ok (af (aA (bO (.dict [] 0)) [(an (Sx "number"))])
 (af (aA (bO (.dict [] 0)) [(an (Sx "held"))])
 (af (gP LL (Sx "row") (M.bind (aa (Sx "rounds")) ar) (i7 C)) r))) O Q:=by
 obtain⟨l,h,n⟩:=O;refine qF λh1 a1 o1=>qF λh2 a2 o2 =>?_;have lr2:ai (ai l (Sx "number") (some (.ref n))) (Sx "held") (some (.ref (n+1))) (Sx "number")=some (.ref n):=LS (by kernel_rfl) L0;have lf2:ai (ai l (Sx "number") (some (.ref n))) (Sx "held") (some (.ref (n+1))) (Sx "held")=some (.ref (n+1)):=L0;have lo2:∀y,(y==Sx "number")=false->(y==Sx "held")=false->ai (ai l (Sx "number") (some (.ref n))) (Sx "held") (some (.ref (n+1))) y=l y:=λy a b=>LS b (LS a rfl);revert lr2 lf2 lo2;generalize ai (ai l (Sx "number") (some (.ref n))) (Sx "held") (some (.ref (n+1)))=l2;intro lr2 lf2 lo2;have old:∀j,j<n->h2 j=h j:=λj hj=>(o2 j (yA (yZ hj))).trans (o1 j (yA hj));have at2:(Pin.all ⟨l,h,n⟩).at ⟨l2,h2,n+1+1⟩:=λj o e=>(Pin.HL (O:=⟨l2,h2,n+1+1⟩)) j o (Pin.H8 (O':=⟨l2,h2,n+1+1⟩) (yH n 2) old j o e);refine Ur (w:=Pin.all ⟨l,h,n⟩) ((lo2 _ (by kernel_rfl) (by kernel_rfl)).trans lu) (.IH u rfl K.u) at2 λit q1 =>?_;have hrow:f9 (ag lks) H=(zU 0 (H-0)).map λq=>.lst (ii (cB (ag lks) q)):=by unfold f9; rw[List.range_eq_range']; rfl
 refine mn q1 (by unfold f9; rw[yE,zh]; exact yR hH (yv (by decide) hL)) (PK ⟨l,h,n⟩ lks H) (λr O' I =>?_) ⟨0,hrow,zc _,λZ=>.none,0,0,yF _,old,(o2 n (yA (yK n))).trans a1,a2,lr2,lf2,λy a b Z Z Z=>lo2 y a b,nofun⟩ (λv r O' I=>bL (Oo hL ok K lm hH I)) λO' I =>?_
 ·obtain⟨_,_,_,_,_,_,u2,u3,_⟩:=I;exact λj o e=>Pin.HL j o (Pin.H8 (yn (yH _ 2) u2) u3 j o e)
 refine(let QQ:=_; (?_:Ok _ _ QQ));obtain⟨j,v0,v1,Vf,ver,ver',u2,u3,u4,u5,u6,u7,u8,u9⟩:=I;have hj:j=H:=Be v1 (zr λq=>by rw[pq q,DC]at v0; cases v0);subst hj;refine k O' n (n+1) _ Vf (yn (yH n 2) u2) u3 ⟨λx hx =>?_,⟨ver,Pin.HH (A4 u2) u4⟩,⟨ver',Pin.HH u2 u5⟩,u9⟩ u6 u7 u8;obtain⟨a,b⟩:=cS.mp hx;exact Bt.mpr ⟨rk (ag lks) x,y7.mpr (all x a b),eN.mpr ⟨⟨a,b⟩,rfl⟩⟩
theorem qE:∀n,∀d∈ap n,d<16:=by
 intro n;induction n using CU with
 |ind n ih =>
  by_cases h:n=0
  ·subst h; exact nofun
  ·rw[cY h];intro d hd;rcases yP.mp hd with q|q
   ·rw[q]; exact Bw _ (by decide)
   ·exact ih (n / 16) (rp h) d q
theorem R5:∀n m,ap n=ap m->n=m:=by
 intro n;induction n using CU with
 |ind n ih =>
  intro m e;by_cases h:n=0
  ·subst h;by_cases q:m=0
   ·exact q.symm
   ·rw[cY q]at e; cases e
  ·by_cases q:m=0
   ·subst q; rw[cY h]at e; cases e
   ·rw[cY h,cY q]at e;obtain⟨a,b⟩:=zL e;rw[<-DF n 16,<-DF m 16,a,ih (n / 16) (rp h) _ b]
theorem PA(n:Nat):(IB n).map (λx=>AV.int x.toNat)=((ap n).reverse.map (65 + ·)).map λ(v:Nat)=>AV.int (v:Int):=by unfold IB;rw[zq,zq];refine Aj λd hd =>?_;have:=qE n d (EU.mp hd);show AV.int ((z8 (65+d)).toNat:Int)=AV.int ((65+d:Nat):Int);rw[CY,Ce (yv (y8 this 65) (by decide))]
theorem PB(h:IB n=IB m):n=m:=by
 apply R5;have e:=yI (λl:yk yQ=>l.map Fi) h;have k:∀n,(IB n).map Fi=(ap n).reverse.map (65 + ·):=λn=>by unfold IB;rw[zq];refine Aj λd hd =>?_;have:=qE n d (EU.mp hd);show(z8 (65+d)).toNat=_;rw[CY,Ce (yv (y8 this 65) (by decide))]
 rw[k,k]at e;have inj:∀a b:yk Nat,a.map (65 + ·)=b.map (65 + ·)->a=b:=by
  intro a;induction a with
  |nil=>intro b hb; cases b<;>first|rfl|cases hb
  |cons x a ih=>intro b hb; cases b with
   |nil=>cases hb
   |cons y b=>obtain⟨p,q⟩:=zL hb; rw[DE p,ih b q]
 exact List.reverse_inj.mp (inj _ _ e)
theorem Pz:∀d,(ap n).getLast?=some d->d≠0:=by
 induction n using CU with
 |ind n ih =>
  intro d e;by_cases h:n=0
  ·subst h; cases e
  ·rw[cY h]at e;by_cases q:n / 16=0
   ·rw[q,jK]at e;have e2:n%16=d:=Ag e;intro z;rw[z]at e2;exact h (by rw[<-DF n 16,q,e2])
   ·rw[cY q,List.getLast?_cons_cons,<-cY q]at e;exact ih (n / 16) (rp h) d e
theorem J3(n:Nat):((IB n).take 1==[65])=false:=by
 unfold IB;cases e:(ap n).reverse with
 |nil=>rfl
 |cons d r =>have h:=Pz (n:=n) d (by rw[<-List.head?_reverse,e]; rfl);have h16:=qE n d (EU.mp (by rw[e]; exact yY ..));rw[CZ];intro q;have a:=yI Fi (zL q).1;rw[CY,Ce (yv (y8 h16 65) (by decide))]at a;exact h (DE (k:=0) a)
noncomputable def La(n:Nat):yk yQ:=[0,z8 (n / 256),z8 (n%256)]
theorem rU(bs:yk yQ):∀a,bs.foldl (λa b=>a*256+b.toNat) a=a*256 ^ bs.length+aX bs:=by
 induction bs with
 |nil=>intro a; exact(Nat.mul_one a).symm
 |cons b r ih =>intro a;have e:aX (b::r)=(0*256+b.toNat)*256 ^ r.length+aX r:=ih _;rw[Aw,ih,e,Ax,DN,Nat.add_mul,Nat.zero_mul,zM,Cf,BK 256];exact zH ..
theorem MV(xs ys:yk yQ):aX (xs++ys)=aX xs*256 ^ ys.length+aX ys:=by show(xs++ys).foldl (λa b=>a*256+b.toNat) 0=_;rw[CH,rU]; rfl
theorem RT(h:n<65536):aX (La n)=n:=by show((0*256+0)*256+(z8 (n / 256)).toNat)*256+(z8 (n%256)).toNat=n;rw[CY,CY,Ce (a:=n / 256) ((DI (by decide)).mpr h),Ce (a:=n%256) (Bw _ (by decide))];show(0+n / 256)*256+n%256=n;rw[zM]; exact Nat.div_add_mod' n 256
theorem TF(bs:yk yQ):aX bs<256 ^ bs.length:=by
 induction bs with
 |nil=>exact BL
 |cons b r ih =>have e:aX (b::r)=(0*256+b.toNat)*256 ^ r.length+aX r:=rU r _;rw[e,Ax,Nat.zero_mul,zM,DN,BK _ 256];refine yv (y8 ih _) ?_;rw[<-E9];exact CT _ b.toNat_lt
noncomputable def cn(f:Nat->Nat)(ks:yk Nat):yk yQ:=ks.flatMap λk=>La (f k)
theorem hF(f:Nat->Nat):∀ks,(cn f ks).length=3*ks.length
 |[]=>rfl
 |k::r=>by show(La (f k)++cn f r).length=_;rw[yV,hF f r,Ax]; exact zI 3 _
theorem UN(A F m p:Nat)(hp:0<p):(A*(m*64*p)+F) / p%64=F / p%64:=by rw[<-Cf,<-Cf,zI,Nat.add_mul_div_right _ _ hp,Nat.add_mul_mod_self_right]
theorem TB:∀e,e<4->2 ^ 24=2 ^ (18-6*e)*64*2 ^ (6*e):=by decide
theorem KH(n:Nat):(256:Nat) ^ (3*n)=2 ^ (24*n):=by rw[show(256:Nat)=2 ^ 8 from rfl,<-E7,<-Cf]
theorem Ul{a b:yk Nat}(h:f k<65536){e:Nat}(he:e<4):aX (cn f (a++k::b)) / 2 ^ (6*(4*b.length+e))%64=f k / 64 ^ e%64:=by
 have e1:cn f (a++k::b)=cn f a++(La (f k)++cn f b):=by unfold cn; rw[Dx,BH]
 have lt:aX (cn f b)<2 ^ (24*b.length):=by have:=TF (cn f b);rw[hF,KH]at this;exact this
 have e2:aX (cn f (a++k::b))=(aX (cn f a)*2 ^ 24+f k)*2 ^ (24*b.length)+aX (cn f b):=by rw[e1,MV,MV,RT h,yV,hF,show(La (f k)).length=3*1 from rfl,<-CR,KH,KH,CR,BM,Nat.add_mul,<-Cf,zH]
 rw[CR,<-Cf,BM,<-DG,e2,BK _ (2 ^ (6*4*b.length)),E5 (E8 (by decide)),DH lt,CN,show(64:Nat)=2 ^ 6 from rfl,<-E7,TB e he];exact UN _ _ _ _ (E8 (by decide))
inductive T5(w1:Pin)(l:Str->yl AV)(i:Nat)(f:Nat->AV)(O:St)(vs:yk Nat)(r:yk AV)(O':St):Prop
 |mk (done rest:yk Nat) (w2:Pin) (h0:vs=done++rest) (hr:r=ii rest) (h1:Ni i w1 O w2 O') (h3:O'.hp i=.dict (bC f done) done.length):T5 w1 l i f O vs r O'
theorem P.UM  {its:M aw}{e:St->M AV}{vs:yk Nat}{f:Nat->AV}(hi:P w l its (It (ii vs)))(hn:vs.Nodup)(hl:vs.length<=500)(hL:1000<=LL)
  (he:∀σ0 w' v,Ll l σ0.loc->w.le w'->v∈vs->P w' (ai (λZ=>none) (Sx "k") (some (.int (v:Nat)))) (e σ0) (Fl (f v))) :
  P w l (oW bd its λσ0 i=>aL LL (Sx "k") (M.ret true) (kE (aa (Sx "k")) (e σ0) i)) (λw u=>∃j ver,u=.ref j/\w j=some (.dict (bC f vs) ver)):=λw1 O a b c =>
 (hi w1 O a b c).mono λit σ1 h9=>by
  obtain⟨w2,n2,q⟩:=h9;have no:w2 σ1.nx=none:=by
   cases e:w2 σ1.nx with
   |none=>rfl
   |some o=>exact yD (n2.at_ _ _ e).1 (zt _)
  have at2:w2.at ⟨λZ=>none,upd σ1.hp σ1.nx (.dict [] 0),σ1.nx+1⟩:=λj o e=>⟨yZ (n2.at_ j o e).1,(ym (yA (n2.at_ j o e).1)).trans (n2.at_ j o e).2⟩;have lo:Ll l σ1.loc:=n2.grow.loc▸c;have key:Ok (cL LL it λv=>M.bind (an (Sx "k") v) λZ=>nA (M.ret true) (kE (aa (Sx "k")) (e ⟨σ1.loc,upd σ1.hp σ1.nx (.dict [] 0),σ1.nx+1⟩) σ1.nx)) ⟨λZ=>none,upd σ1.hp σ1.nx (.dict [] 0),σ1.nx+1⟩ λZ σ2=>PO w1 O (λ(w:Pin) (u:AV)=>∃j ver,u=.ref j/\w j=some (.dict (bC f vs) ver)) (.ref σ1.nx) {σ2 with loc:=σ1.loc}:=by
   refine jv (q w2 .refl) (by rw[cU]; exact yR hl (yv (by decide) hL)) (T5 w2 l σ1.nx f ⟨λZ=>none,upd σ1.hp σ1.nx (.dict [] 0),σ1.nx+1⟩ vs) (λr O' h9 j o e=>by obtain⟨_,_,w3,_,_,h,_⟩:=h9; exact h.at_ j o (h.le j o e)) (λv r O' h =>?_) (λO' h =>?_) ⟨[],vs,w2,rfl,rfl,⟨yF _,λZ Z Z=>rfl,.refl,at2,λZ Z e=>.inl e⟩,yo rfl⟩
   ·refine(let QQ:=_; (?_:Ok _ _ QQ));obtain⟨done,rest,w3,h0,hr,h1,h3⟩:=h;cases rest with
    |nil=>cases hr
    |cons v rest =>
    obtain⟨rfl,rfl⟩:=zL hr;have hv:v∈vs:=by rw[h0]; exact AE _ (yY ..)
    have nd:v∉done:=λe=>by rw[h0,z6]at hn;exact hn.2.2 v e v (yY ..) rfl
    have hd:done.length<=500:=by rw[h0,yV]at hl; exact yn (yH _ _) hl
    have ni:σ1.nx<O'.nx:=h1.nx;refine V.l (O:={O' with loc:=ai O'.loc (Sx "k") (some (.int (v:Nat)))}) (v:=.int (v:Nat)) L0 _ ?_;refine(he ⟨σ1.loc,upd σ1.hp σ1.nx (.dict [] 0),σ1.nx+1⟩ w3 v lo (a.trans (n2.le.trans h1.le)) hv w3 {O' with loc:=ai O'.loc (Sx "k") (some (.int (v:Nat)))} .refl h1.at_ (Ll.upd (l:=λZ=>none) nofun)).mono λu σ2 h9 =>?_;obtain⟨w4,n4,q4⟩:=h9;cases q4 w4 .refl;have N4:Ni σ1.nx w3 {O' with loc:=ai O'.loc (Sx "k") (some (.int (v:Nat)))} w4 σ2:=⟨n4.grow.nx,λj x Z=>n4.grow.hp j x,n4.le,n4.at_,n4.fr⟩;have N1:Ni σ1.nx w2 ⟨λZ=>none,upd σ1.hp σ1.nx (.dict [] 0),σ1.nx+1⟩ w3 {O' with loc:=ai O'.loc (Sx "k") (some (.int (v:Nat)))}:=⟨h1.nx,h1.hp,h1.le,h1.at_,h1.fr⟩;have no4:=(N1.trans N4).not no (yK _);have hi2:=yv ni n4.grow.nx;refine uR hi2 ((n4.grow.hp _ ni).trans h3) (by unfold bC; rw[yE]; exact yn hd (by decide)) (mO f nd) ⟨done++[v],rest,w4,by rw[h0,zF]; rfl,rfl,?_,?_⟩
    ·exact⟨(N1.trans N4).nx,λj x y=>(ym y).trans ((N1.trans N4).hp j x y),(N1.trans N4).le,uG n4.at_ no4,(N1.trans N4).fr⟩
    ·rw[lq,yV]; exact yo rfl
   ·obtain⟨done,rest,w3,h0,hr,h1,h3⟩:=h;have hr0:rest=[]:=by cases rest<;>first|rfl|cases hr
    subst hr0;rw[yX]at h0; subst h0;have ni:σ1.nx<O'.nx:=h1.nx;have no3:=h1.not no (yK _);refine⟨w3.add σ1.nx (.dict (bC f vs) vs.length),⟨⟨n2.grow.loc,yn n2.grow.nx (zz ni),λj hj =>?_⟩,n2.le.trans (h1.le.trans (Pin.I0 no3)),λj o e =>?_,λj o e =>?_⟩,λw4 z=>⟨σ1.nx,_,rfl,z _ _ Pin.Io⟩⟩
    ·have:=yv hj n2.grow.nx;exact(h1.hp j (yZ this) (yA this)).trans ((ym (yA this)).trans (n2.grow.hp j hj))
    ·by_cases qj:j=σ1.nx
     ·subst qj; cases e.symm.trans Pin.Io; exact⟨ni,h3⟩
     ·exact h1.at_ j o ((ym qj).symm.trans e)
    ·by_cases qj:j=σ1.nx
     ·exact .inr (qj▸n2.grow.nx)
     ·rcases h1.fr j o ((ym qj).symm.trans e)with z|z
      ·exact n2.fr j o z
      ·exact .inr (yn n2.grow.nx (zz z))
  exact key
theorem P.Rw(hD:1<=D)(hL:1000<=LL){a:M AV}(ha:P w l a (Fl (.int (n:Nat))))(hn:n<65536):P w l (b8 (aJ T2 LL 40 D) (bl (Sx "Int2AP")) (aj [a])) (Fl (.bytes (IB n).toArray)) :=
 P.call (P.cons ha P.nil) λw1 O Z b=>wX hD (yn (by decide) hL) (n:Int) O _ (y0 hn (by decide)) ⟨w1,.refl b,λZ Z=>rfl⟩
theorem P.VL(hD:3<=D)(hL:1000<=LL){a:M AV}{bs:yk yQ}(ha:P w l a (Fl (.bytes bs.toArray)))(hk:bs.length=3*k)(hl:bs.length<=100):P w l (b8 (aJ T2 LL 40 D) (bl (Sx "b64encode")) (aj [a])) (Fl (.bytes (dO (aX bs) (4*k) 0).toArray)) :=
 P.call (P.cons ha P.nil) λw1 O Z b=>pO hD (yn (by decide) hL) bs k hk hl O _ λO' g=>⟨w1,⟨g,.refl,λj o e=>⟨yv (b j o e).1 g.nx,(g.hp j (b j o e).1).trans (b j o e).2⟩,λZ Z e=>.inl e⟩,λZ Z=>rfl⟩
theorem P.bytes{a:M AV}{os:yk yQ}(h:P w l a (Li vs))(e:bS vs=some os)(b:vs.length<=HC):P w l (ay "bytes" (aj [a])) (Fl (.bytes os.toArray)):=.b1 (g:=nj) (by kernel_rfl) h λw1 v O r z=>B.bytes r z e b
structure Fin(lks:yk (Nat×Nat))(w:Pin)(l:Str->yl AV)(fv:AV)(q:Nat)(ks:yk Nat)(Vf:Nat->AV):Prop where
 f:Fz (ii (a6 (ag lks))) w fv
 lf:l (Sx "founded")=some fv
 form:∃j ver,l (Sx "form")=some (.ref j)/\w j=some (.dict (bC (λk=>.str (fo (ag lks) k)) (a6 (ag lks))) ver)
 held:∃ver,l (Sx "held")=some (.ref q)/\w q=some (.dict (bC Vf ks) ver)
 mem:∀k,k∈a6 (ag lks)->k∈ks
 li:∀k,k∈ks->Li (ii (OQ (ag lks) k)) w (Vf k)
 words:∃j ver,l (Sx "words")=some (.ref j)/\w j=some (.dict (bC (λk=>.bytes (IB (nu (ag lks) k)).toArray) (a6 (ag lks))) ver)
 text:l (Sx "text")=some (.bytes (dO (aX (cn (nu (ag lks)) (a6 (ag lks)))) (4*(a6 (ag lks)).length) 0).toArray)
 signs:l (Sx "signs")=some (.str (Sx "ABCDEFGHIJKLMNOPQRSTUVWXYZabcdefghijklmnopqrstuvwxyz0123456789+/"))
theorem rl(f:Nat->Nat)(h:∀k,f k<65536):∀ks:yk Nat,bS (ks.flatMap λk=>[AV.int 0,.int (f k / 256:Nat),.int (f k%256:Nat)])=some (cn f ks)
 |[]=>rfl
 |k::r=>by have a:∀n:Nat,n<256->∀r:yk AV,bS (.int (n:Int)::r)=(bS r).map (z8 n :: ·):=λn hn r=>yo ⟨zo n,Av.mpr hn⟩;show bS (.int ((0:Nat):Int)::.int (f k / 256:Nat)::.int (f k%256:Nat)::(r.flatMap λk=>[AV.int 0,.int (f k / 256:Nat),.int (f k%256:Nat)]))=_;have:=h k;rw[a 0 (by decide),a _ ((DI (by decide)).mpr (h k)),a _ (Bw _ (by decide)),rl f h r]; rfl
theorem Lc(M:Nat->yk Nat)(k:Nat):nu M k<65536:=Ld _
theorem RF(M:Nat->yk Nat):(a6 M).Nodup:=(jD M).imp λh=>yA h
theorem vz(M:Nat->yk Nat):(a6 M).length<=10:=gY _
variable{Vf:Nat->AV}
theorem KL(hD:3<=7)(hL:1000<=LL){fj p:Nat}(hf:Fz (ii (a6 (ag lks))) (Pin.all O) fv)(hform:∃ver,Pin.all O fj=some (.dict (bC (λk=>.str (fo (ag lks) k)) (a6 (ag lks))) ver))(N:Nh lks p q ks Vf O)
  (lf:O.loc (Sx "founded")=some fv) (lfo:O.loc (Sx "form")=some (.ref fj)) (ln:O.loc (Sx "number")=some (.ref p)) (lh:O.loc (Sx "held")=some (.ref q)) {r:M ac} (k:∀w' O',w'.at O'->Fin lks w' O'.loc fv q ks Vf->Ok r O' Q) :
  Ok (af (aA (oW bd (M.bind (aa (Sx "founded")) ar) (λσ0 i=>aL LL (Sx "k") (M.ret true) (kE (aa (Sx "k")) (b8 (aJ T2 LL 40 7) (bl (Sx "Int2AP")) (aj [(aB (ae (σ0.loc (Sx "number"))) (aa (Sx "k")))])) i))) [(an (Sx "words"))])
 (af (aA (b8 (aJ T2 LL 40 7) (bl (Sx "b64encode")) (aj [(ay "bytes" (aj [(aO bd (.list []) bE (M.bind (aa (Sx "founded")) ar) (λσ0 i=>aL LL (Sx "k") (M.ret true) (clause bd (M.bind (Ia [(cst (.int 0)),(aK .FloorDiv (aB (ae (σ0.loc (Sx "number"))) (aa (Sx "k"))) (cst (.int 256))),(aK .Mod (aB (ae (σ0.loc (Sx "number"))) (aa (Sx "k"))) (cst (.int 256)))]) ar) (aL LL (Sx "octet") (M.ret true) (aU (aa (Sx "octet")) i)))))]))])) [(an (Sx "text"))])
 (af (HX (aG .NotEq (ay "len" (aj [(aa (Sx "text"))])) (aK .Mult (cst (.int 4)) (ay "len" (aj [(aa (Sx "founded"))])))) (af (bV (cst (.bool false)))
 (M.ret .next)) (M.ret .next))
 (af (aA (cst (.str (Sx "ABCDEFGHIJKLMNOPQRSTUVWXYZabcdefghijklmnopqrstuvwxyz0123456789+/"))) [(an (Sx "signs"))]) r)))) O Q:=by
 refine hdZ λGG hGG =>?_;obtain⟨mem,⟨nv,hn⟩,⟨hv,hh⟩,li⟩:=N;obtain⟨fver,hfo⟩:=hform;refine hGG ?_;have fl:=vz (ag lks);have num:∀{w' l' o g x},(Pin.all O).le w'->x∈a6 (ag lks)->P w' l' o (Fl (.ref p))->P w' l' g (Fl (.int (x:Nat)))->P w' l' (aB o g) (Fl (.int (nu (ag lks) x:Nat))):=λz hx ho hg=>P.key ho hg (z _ _ hn) (cV _ (mem _ hx));refine Sj (w:=Pin.all O) (l:=O.loc) (P.UM (f:=λk=>.bytes (IB (nu (ag lks) k)).toArray) (P.JW ((P.g lf).li hf.li)) (RF _) (yn fl (by decide)) hL λσ0 w' v c1 c2 hv=>P.Rw (yn (by decide) hD) hL (num c2 hv (P.f c1 ln) (P.g L0)) (Lc _ _)) Pin.HL Ll.refl λw1 v1 σ1 n1 q1 =>?_;obtain⟨wj,wver,rfl,hw⟩:=q1 w1 .refl;have l1:σ1.loc=O.loc:=n1.grow.loc;have lw2:ai σ1.loc (Sx "words") (some (.ref wj)) (Sx "words")=some (.ref wj):=L0;have lo2:∀y,(y==Sx "words")=false->ai σ1.loc (Sx "words") (some (.ref wj)) y=O.loc y:=λy a=>(LS a rfl).trans (zA l1 y);revert lw2 lo2;generalize ai σ1.loc (Sx "words") (some (.ref wj))=l2;intro lw2 lo2;have lf2:=(lo2 _ (by kernel_rfl)).trans lf;have ln2:=(lo2 _ (by kernel_rfl)).trans ln;have e1:P w1 l2 (aO bd (.list []) bE (M.bind (aa (Sx "founded")) ar) (λσ0 i=>aL LL (Sx "k") (M.ret true) (clause bd (M.bind (Ia [(cst (.int 0)),(aK .FloorDiv (aB (ae (σ0.loc (Sx "number"))) (aa (Sx "k"))) (cst (.int 256))),(aK .Mod (aB (ae (σ0.loc (Sx "number"))) (aa (Sx "k"))) (cst (.int 256)))]) ar) (aL LL (Sx "octet") (M.ret true) (aU (aa (Sx "octet")) i))))) (Li ((a6 (ag lks)).flatMap λk=>[AV.int 0,.int (nu (ag lks) k / 256:Nat),.int (nu (ag lks) k%256:Nat)])):=by
  refine(P.comp (n:=1*3*(a6 (ag lks)).length) (S:=λw us=>Fm (JD (λZ=>true) λk Z us=>us=[AV.int 0,.int (nu (ag lks) k / 256:Nat),.int (nu (ag lks) k%256:Nat)]) w (a6 (ag lks)) us) (yn (Af 3 fl) (by decide)) (P.JW ((P.g lf2).li (hf.li.mono n1.le))) λσ0 w' it i c1 c2 c3 =>
   Em.loop (gv:=λ(k:Nat)=>AV.int (k:Int)) rfl (by rw[jA]; exact c3) (yR fl (yv (by decide) hL)) (λk hk=>P.r) λk hk Z =>?_).wk λw' u Z h9=>by obtain⟨us,h1,h2⟩:=h9; exact h2.Qh▸h1
  have num2:P w' (ai (λZ=>none) (Sx "k") (some (.int (k:Nat)))) (aB (ae (σ0.loc (Sx "number"))) (aa (Sx "k"))) (Fl (.int (nu (ag lks) k:Nat))):=num (n1.le.trans c2) hk (P.f c1 ln2) (P.g L0);refine(Em.clause (vs:=[AV.int 0,.int (nu (ag lks) k / 256:Nat),.int (nu (ag lks) k%256:Nat)].map id) (P.JW (P.lst (P.Ia (P.cons P.c (P.cons (P.bin num2 P.c (I.RN (b:=256) (by decide) (by decide))) (P.cons (P.bin num2 P.c (I.S9 (b:=256) (by decide))) P.nil))) (show 3<=HC by decide)))) λw3 it2 c4 c5=>Em.loop (n:=1) (gv:=id) (p:=λZ=>true) (S:=λv w us=>∃u,us=[u]/\Fl (id v) w u) (LS (by kernel_rfl) rfl) c5 (yv (show 3<1000 by decide) hL) (λt ht=>P.r) λt ht Z=>.one (P.g L0)).wk λw us h=>h.fm
 have ol:=hF (nu (ag lks)) (a6 (ag lks));have fml:((a6 (ag lks)).flatMap λk=>[AV.int 0,.int (nu (ag lks) k / 256:Nat),.int (nu (ag lks) k%256:Nat)]).length<=HC:=by
  have:∀xs:yk Nat,(xs.flatMap λk=>[AV.int 0,.int (nu (ag lks) k / 256:Nat),.int (nu (ag lks) k%256:Nat)]).length=3*xs.length:=by
   intro xs;induction xs with
   |nil=>rfl
   |cons x r ih=>rw[BH,yV,ih]; exact zI 3 _
  rw[this]; exact yn (Af 3 fl) (by decide)
 refine Sk (l:=l2) (P.VL hD hL (P.bytes e1 (rl _ (Lc _) _) fml) ol (by rw[ol]; exact yn (Af 3 fl) (by decide))) n1.at_ Ll.refl λw3 σ3 n3 =>?_;have l3:σ3.loc=l2:=n3.grow.loc;have lt4:ai σ3.loc (Sx "text") (some (.bytes (dO (aX (cn (nu (ag lks)) (a6 (ag lks)))) (4*(a6 (ag lks)).length) 0).toArray)) (Sx "text")=some (.bytes (dO (aX (cn (nu (ag lks)) (a6 (ag lks)))) (4*(a6 (ag lks)).length) 0).toArray):=L0;have lo4:∀y,(y==Sx "text")=false->ai σ3.loc (Sx "text") (some (.bytes (dO (aX (cn (nu (ag lks)) (a6 (ag lks)))) (4*(a6 (ag lks)).length) 0).toArray)) y=l2 y:=λy a=>(LS a rfl).trans (zA l3 y);revert lt4 lo4;generalize ai σ3.loc (Sx "text") (some (.bytes (dO (aX (cn (nu (ag lks)) (a6 (ag lks)))) (4*(a6 (ag lks)).length) 0).toArray))=l4;intro lt4 lo4;have tl:(dO (aX (cn (nu (ag lks)) (a6 (ag lks)))) (4*(a6 (ag lks)).length) 0).toArray.size=4*(a6 (ag lks)).length:=by rw[CK]; unfold dO; rw[yE,zh]
 refine stI (c:=false) (l:=l4) ?_ n3.at_ Ll.refl λw5 σ5 n5=>sN ?_
 ·have a:=P.UE (w:=w3) (P.g lt4) (by rw[tl]; exact yn (Af 4 fl) (by decide));rw[tl]at a;have b:=P.len ((P.g (w:=w3) ((lo4 _ (by kernel_rfl)).trans lf2)).li (hf.li.mono (n1.le.trans n3.le))) (by rw[cU]; exact yn fl (by decide));rw[cU]at b;refine P.t a (P.bin P.c b (I.Ri (a:=4) (by decide) (gq (yR fl (by decide))))) (Cc.fl λhp nx =>?_);rw[iM,zl]; rfl
 have l5:σ5.loc=l4:=n5.grow.loc;refine s1 (l:=σ5.loc) (h:=σ5.hp) (n:=σ5.nx) V.c ?_;have up:(Pin.all O).le w5:=n1.le.trans (n3.le.trans n5.le);have old:∀y,(y==Sx "words")=false->(y==Sx "text")=false->(y==Sx "signs")=false->ai σ5.loc (Sx "signs") (some (.str (Sx "ABCDEFGHIJKLMNOPQRSTUVWXYZabcdefghijklmnopqrstuvwxyz0123456789+/"))) y=O.loc y:=λy a b c=>(LS c rfl).trans ((zA l5 y).trans ((lo4 y b).trans (lo2 y a)));have tx:ai σ5.loc (Sx "signs") (some (.str (Sx "ABCDEFGHIJKLMNOPQRSTUVWXYZabcdefghijklmnopqrstuvwxyz0123456789+/"))) (Sx "text")=some (.bytes (dO (aX (cn (nu (ag lks)) (a6 (ag lks)))) (4*(a6 (ag lks)).length) 0).toArray):=(LS (by kernel_rfl) rfl).trans ((zA l5 _).trans lt4);have wd:ai σ5.loc (Sx "signs") (some (.str (Sx "ABCDEFGHIJKLMNOPQRSTUVWXYZabcdefghijklmnopqrstuvwxyz0123456789+/"))) (Sx "words")=some (.ref wj):=(LS (by kernel_rfl) rfl).trans ((zA l5 _).trans ((lo4 _ (by kernel_rfl)).trans lw2));have sg:ai σ5.loc (Sx "signs") (some (.str (Sx "ABCDEFGHIJKLMNOPQRSTUVWXYZabcdefghijklmnopqrstuvwxyz0123456789+/"))) (Sx "signs")=(some (.str (Sx "ABCDEFGHIJKLMNOPQRSTUVWXYZabcdefghijklmnopqrstuvwxyz0123456789+/"))):=L0;revert old tx wd sg;generalize ai σ5.loc (Sx "signs") (some (.str (Sx "ABCDEFGHIJKLMNOPQRSTUVWXYZabcdefghijklmnopqrstuvwxyz0123456789+/")))=l6;intro old tx wd sg;exact k w5 ⟨l6,σ5.hp,σ5.nx⟩ n5.at_ ⟨hf.mono up,(old _ (by kernel_rfl) (by kernel_rfl) (by kernel_rfl)).trans lf,⟨fj,fver,(old _ (by kernel_rfl) (by kernel_rfl) (by kernel_rfl)).trans lfo,up _ _ hfo⟩,⟨hv,(old _ (by kernel_rfl) (by kernel_rfl) (by kernel_rfl)).trans lh,up _ _ hh⟩,mem,λx hx=>(li x hx).mono up,⟨wj,wver,wd,n5.le _ _ (n3.le _ _ hw)⟩,tx,sg⟩
noncomputable abbrev PW:Str:=Sx "ABCDEFGHIJKLMNOPQRSTUVWXYZabcdefghijklmnopqrstuvwxyz0123456789+/"
theorem tD:∀d:Nat,d<64->(De PW ⟨#[(code d).toNat]⟩ 0 PW.length 1).head?=some d:=by decide +kernel
theorem tC:∀d:Nat,d<64->0<=code d/\code d<128:=by decide +kernel
theorem P.enum{a:M AV}(h:P w l a (Fz vs)):P w l (MB (aj [a])) (λw it=>it=.pairs none (im 0 vs)):=h.a1.bind λw' us z q=>by
 obtain⟨v,rfl,_⟩:=q w' .refl;refine(P.o (o:=one? [v]) rfl).bind λw2 v2 z2 q2 =>?_;cases q2 w2 .refl;refine(P.hp (v:=vs) λw3 O z3 r =>?_).bind λw4 xs z4 q4=>by cases q4 w4 .refl; exact P.ret λZ Z=>rfl
 obtain⟨v',e,hv⟩:=q w3 (z2.trans z3);cases e;unfold mG;cases hv with
 |val e=>subst e; rfl
 |Ij i e h =>subst e;show(if i<O.nx then AO.IS (O.hp i)else none)=_;rw[yo (r i _ h).1,(r i _ h).2]; rfl
theorem wh(F:Nat->β)(h:s+4<=m):(((yB m).map F).drop s).take 4=(yB 4).map λc=>F (s+c):=by
 apply Gv;intro i;by_cases hi:i<4
 ·rw[List.getElem?_take_of_lt hi,EK,zB,Dy (yv (y8 hi s) h),zB,Dy hi]; rfl
 ·rw[Br (yn (by rw[List.length_take]; exact DK ..) (zr hi)),Br (by rw[yE,zh]; exact zr hi)]
theorem Su(a b:Nat)(h:c<4):0+6*(4*(a+(b+1))-1-(4*a+c))=6*(4*b+(3-c)):=by rw[zM,CR,show 4*a+4*(b+1)-1=4*a+(4*b+3)from rfl,Nat.add_sub_add_left,Nat.add_sub_assoc (zb h)]
theorem Ka{a b:yk Nat}(h:f k<65536):((dO (aX (cn f (a++k::b))) (4*(a++k::b).length) 0).drop (4*a.length)).take 4=(yB 4).map λc=>(nr[f k / 64 ^ (3-c)%64]?).getD 0:=by unfold dO;rw[wh _ (by rw[yV,Ax]; exact Af 4 (zO (AR (zc _)) a.length))];refine Aj λc hc =>?_;have hc4:=y7.mp hc;rw[yV,Ax,Su _ _ hc4,Ul h (yR (Ci ..) (by decide))]
noncomputable def oG(y:Str):Prop:=(y==Sx "place")=false/\(y==Sx "k")=false/\(y==Sx "figures")=false/\(y==Sx "sixes")=false
theorem Mj(hD:1<=7)(hL:1000<=LL)(ok:eE lks){l0:Str->yl AV}(F:Fin lks w l0 fv q ks Vf){a b:yk Nat}(hf:a6 (ag lks)=a++k::b)(at_:w.at O)(lo:∀y,oG y->O.loc y=l0 y) :
  Ok (gA (aJ T2 LL 40 7)) {O with loc:=ai (ai O.loc (Sx "place") (some (.int (a.length:Nat)))) (Sx "k") (some (.int (k:Nat)))} λf σ2=>f=.next/\w.at σ2/\∀y,oG y->σ2.loc y=l0 y:=by
 have h:=dX ok;have hk:k∈a6 (ag lks):=by rw[hf]; exact AE _ (yY ..)
 refine(let QQ:=_; (?_:Ok _ _ QQ));refine hdZ λGG hGG =>?_;obtain⟨k10,dk⟩:=cS.mp hk;have nk:=SU h k10 dk;have fl:=vz (ag lks);have al:a.length<10:=by rw[hf,yV,Ax]at fl; exact yv (Bf (Bh _)) fl
 obtain⟨F1,F2,⟨fj,fver,F3,F3'⟩,⟨hver,F4,F4'⟩,F5,F6,⟨wj,wver,F7,F7'⟩,F8,F9⟩:=F;obtain⟨l,hh,n⟩:=O;refine hGG ?_;have lp:ai (ai l (Sx "place") (some (.int (a.length:Nat)))) (Sx "k") (some (.int (k:Nat))) (Sx "place")=some (.int (a.length:Nat)):=LS (by kernel_rfl) L0;have lk:ai (ai l (Sx "place") (some (.int (a.length:Nat)))) (Sx "k") (some (.int (k:Nat))) (Sx "k")=some (.int (k:Nat)):=L0;have lo2:∀y,oG y->ai (ai l (Sx "place") (some (.int (a.length:Nat)))) (Sx "k") (some (.int (k:Nat))) y=l0 y:=λy z=>(Ro z.1 z.2.1).trans (lo y z);revert lp lk lo2;generalize ai (ai l (Sx "place") (some (.int (a.length:Nat)))) (Sx "k") (some (.int (k:Nat)))=l2;intro lp lk lo2;have word:∀{w' l' o g x},w.le w'->x∈a6 (ag lks)->P w' l' o (Fl (.ref wj))->P w' l' g (Fl (.int (x:Nat)))->P w' l' (aB o g) (Fl (.bytes (IB (nu (ag lks) x)).toArray)):=λz hx ho hg=>P.key ho hg (z _ _ F7') (cV (λk=>.bytes (IB (nu (ag lks) k)).toArray) hx);have apl:(ap (nu (ag lks) k)).length<=60:=uC _ 60 (y0 nk (by decide));delta gA;refine Sk (O:=⟨l2,hh,n⟩) (w:=w) (l:=l2) (P.rev (vs:=ii (ap (nu (ag lks) k)).reverse) ?_ (by rw[cU,ER]; exact yn apl (by decide))) at_ Ll.refl λw1 σ1 n1 =>?_
 ·have e:=P.each (w:=w) (l:=l2) (x:=Sx "octet") (e:=λZ=>aK .Sub (aa (Sx "octet")) (cst (.int 65))) (vs:=(ap (nu (ag lks) k)).reverse.map (65 + ·)) (f:=λv=>v-65) (by
   have:=P.Vc (word .refl hk (P.g (w:=w) (l:=l2) ((lo2 _ ⟨by kernel_rfl,by kernel_rfl,by kernel_rfl,by kernel_rfl⟩).trans F7)) (P.g lk));rw[show(IB (nu (ag lks) k)).toArray.toList=IB (nu (ag lks) k)from rfl,PA,jA]at this; exact this) (by rw[yE,ER]; exact yn apl (by decide)) hL λσ0 w' v c1 c2 hv=>by
    obtain⟨d,_,rfl⟩:=yW.mp hv;exact P.bin (P.g L0) P.c (show ba .Sub ((65+d:Nat):Int) 65=some ((65+d-65:Nat):Int)from yI some (Es (yH 65 d)).symm)
  rw[zq,show((λv=>v-65)∘(65 + ·):Nat->Nat)=id from funext λd=>EZ ..,List.map_id]at e;exact e
 have l1:σ1.loc=l2:=n1.grow.loc;have efig:(ii (ap (nu (ag lks) k)).reverse).reverse=ii (ap (nu (ag lks) k)):=by unfold ii jj; rw[<-GF,<-GF,List.reverse_reverse]
 rw[efig];have lg:ai σ1.loc (Sx "figures") (some (.lst (ii (ap (nu (ag lks) k))))) (Sx "figures")=some (.lst (ii (ap (nu (ag lks) k)))):=L0;have lp2:ai σ1.loc (Sx "figures") (some (.lst (ii (ap (nu (ag lks) k))))) (Sx "place")=some (.int (a.length:Nat)):=LS (by kernel_rfl) (l1▸lp);have lk2:ai σ1.loc (Sx "figures") (some (.lst (ii (ap (nu (ag lks) k))))) (Sx "k")=some (.int (k:Nat)):=LS (by kernel_rfl) (l1▸lk);have lo3:∀y,oG y->ai σ1.loc (Sx "figures") (some (.lst (ii (ap (nu (ag lks) k))))) y=l0 y:=λy z=>(LS z.2.2.1 rfl).trans ((zA l1 y).trans (lo2 y z));revert lg lp2 lk2 lo3;generalize ai σ1.loc (Sx "figures") (some (.lst (ii (ap (nu (ag lks) k)))))=l3;intro lg lp2 lk2 lo3;have hcut:=Ka (f:=nu (ag lks)) (a:=a) (b:=b) (k:=k) nk;rw[<-hf]at hcut;have hsx:∀c,nu (ag lks) k / 64 ^ (3-c)%64<64:=λc=>Bw _ (by decide);have its:P w1 l3 (M.bind (iL (aa (Sx "text")) (gd (aK .Mult (cst (.int 4)) (aa (Sx "place")))) (gd (aK .Add (aK .Mult (cst (.int 4)) (aa (Sx "place"))) (cst (.int 4)))) (M.ret none)) ar) (It ((yB 4).map λc=>AV.int (code (nu (ag lks) k / 64 ^ (3-c)%64)))):=by
  have m4:ba .Mult 4 (a.length:Int)=some ((4*a.length:Nat):Int):=I.Ri (a:=4) (by decide) (gq (y0 al (by decide)));have e:=P.Vc (b:=(((dO (aX (cn (nu (ag lks)) (a6 (ag lks)))) (4*(a6 (ag lks)).length) 0).drop (4*a.length)).take 4).toArray) (P.cut (w:=w1) (l:=l3) (P.g ((lo3 _ ⟨by kernel_rfl,by kernel_rfl,by kernel_rfl,by kernel_rfl⟩).trans F8)) (P.opt (P.bin P.c (P.g lp2) m4)) (P.opt (P.bin (P.bin P.c (P.g lp2) m4) P.c (I.addN (b:=4)))) P.r λw3 v O r z=>by
   cases r;rw[kG,yo ⟨zo _,zo _,by rw[CK]; unfold dO; rw[yE,zh]; exact yn (Af 4 fl) (by decide)⟩,zK,zK,EZ])
  rw[hcut,show((yB 4).map λc=>(nr[nu (ag lks) k / 64 ^ (3-c)%64]?).getD 0).toArray.toList=(yB 4).map λc=>(nr[nu (ag lks) k / 64 ^ (3-c)%64]?).getD 0 from rfl,zq]at e;exact e
 refine Sk (l:=l3) (P.rev (vs:=(yB 4).map λc=>AV.int ((nu (ag lks) k / 64 ^ (3-c)%64:Nat):Int)) ?_ (show 4<=HC by decide)) n1.at_ Ll.refl λw4 σ4 n4 =>?_
 ·have e:=P.map (x:=Sx "octet") (t:=λZ=>M.ret true) (e:=λσ0=>aI (aJ T2 LL 40 7) (ae (σ0.loc (Sx "signs"))) (Sx "index") (aj [(ay "chr" (aj [(aa (Sx "octet"))]))]) (bw "index" (aj [(ay "chr" (aj [(aa (Sx "octet"))]))]))) (λc=>AV.int (code (nu (ag lks) k / 64 ^ (3-c)%64))) (p:=λZ=>true) (f:=λc=>AV.int ((nu (ag lks) k / 64 ^ (3-c)%64:Nat):Int)) its (yv (show 4<1000 by decide) hL) (show 4<=HC by decide) (λZ Z Z Z Z Z=>P.r)
   λσ0 w' c c1 c2 hc Z=>P.index (P.f c1 ((lo3 _ ⟨by kernel_rfl,by kernel_rfl,by kernel_rfl,by kernel_rfl⟩).trans F9)) (P.chr (P.g L0) (tC _ (hsx c))) (tD _ (hsx c))
  rw[B7.mpr λZ Z=>rfl]at e;exact e
 have l4:σ4.loc=l3:=n4.grow.loc;have esix:((yB 4).map λc=>AV.int ((nu (ag lks) k / 64 ^ (3-c)%64:Nat):Int)).reverse=ii (sixes (nu (ag lks) k)):=rfl;rw[esix];have ls:ai σ4.loc (Sx "sixes") (some (.lst (ii (sixes (nu (ag lks) k))))) (Sx "sixes")=some (.lst (ii (sixes (nu (ag lks) k)))):=L0;have lg5:ai σ4.loc (Sx "sixes") (some (.lst (ii (sixes (nu (ag lks) k))))) (Sx "figures")=some (.lst (ii (ap (nu (ag lks) k)))):=LS (by kernel_rfl) (l4▸lg);have lk5:ai σ4.loc (Sx "sixes") (some (.lst (ii (sixes (nu (ag lks) k))))) (Sx "k")=some (.int (k:Nat)):=LS (by kernel_rfl) (l4▸lk2);have lo5:∀y,oG y->ai σ4.loc (Sx "sixes") (some (.lst (ii (sixes (nu (ag lks) k))))) y=l0 y:=λy z=>(LS z.2.2.2 rfl).trans ((zA l4 y).trans (lo3 y z));revert ls lg5 lk5 lo5;generalize ai σ4.loc (Sx "sixes") (some (.lst (ii (sixes (nu (ag lks) k)))))=l5;intro ls lg5 lk5 lo5;have up4:w.le w4:=n1.le.trans n4.le;have lw5:l5 (Sx "words")=some (.ref wj):=(lo5 _ ⟨by kernel_rfl,by kernel_rfl,by kernel_rfl,by kernel_rfl⟩).trans F7;have held:P w4 l5 (aB (aa (Sx "held")) (aa (Sx "k"))) (Li (ii ((yB 16).filter λv=>(nu (ag lks) k).testBit v))):=by have:=(P.key (P.g (w:=w4) ((lo5 _ ⟨by kernel_rfl,by kernel_rfl,by kernel_rfl,by kernel_rfl⟩).trans F4)) (P.g lk5) (up4 _ _ F4') (cV Vf (F5 k hk))).li ((F6 k (F5 k hk)).mono up4);unfold OQ at this;rw[held_eq h k10 dk]at this; exact this
 have bits:∀{figs:yk Nat} {x:Str} {sz:Nat},l5 x=some (.lst (ii figs))->figs.length<=100->sz<=10->iO figs sz=((yB 16).filter λv=>(nu (ag lks) k).testBit v)->P w4 l5 (aG .NotEq (b8 (aJ T2 LL 40 7) (bl (Sx "_law_bits")) (aj [(aa x),(cst (.int (sz:Nat)))])) (aB (aa (Sx "held")) (aa (Sx "k")))) (Fl false):=λe1 e2 e3 e4=>by have a:=P.t (Oj hD hL (P.g (w:=w4) e1) e2 e3) held Cc.ne;rw[e4,zl]at a; exact a
 refine stI (c:=false) (l:=l5) (P.or (x:=false) (y:=false) ?_ λZ=>P.or (x:=false) (y:=false) (bits lg5 (yn apl (by decide)) (by decide) (vW nk)) λZ=>P.or (x:=false) (y:=false) (bits ls (show 4<=100 by decide) (by decide) (Kg nk)) λZ=>P.r) n4.at_ Ll.refl λw6 σ6 n6=>sN ?_
 ·refine P.t (P.cut (u:=.bytes ((IB (nu (ag lks) k)).take 1).toArray) (word up4 hk (P.g lw5) (P.g lk5)) P.r (P.opt P.c) P.r λw3 v O r z =>?_) P.c (Cc.fl λhp nx=>yI some (J3 _));cases r;refine yo ⟨by decide,?_⟩;rw[CK]; unfold IB; rw[yE,ER]; exact yn apl (by decide)
 have l6:σ6.loc=l5:=n6.grow.loc;have up6:w.le w6:=up4.trans n6.le;refine stI (c:=false) (l:=l5) ?_ n6.at_ (λy v e=>(zA l6 y).trans e) λw7 σ7 n7=>sN (sE ⟨rfl,λj o e=>n7.at_ j o (n7.le j o (up6 j o e)),λy z =>?_⟩)
 ·have e:(a6 (ag lks)).filter (λm => !((IB (nu (ag lks) m)==IB (nu (ag lks) k))==(fo (ag lks) m==fo (ag lks) k)))=[]:=B6.mpr λm hm=>by
   obtain⟨m10,dm⟩:=cS.mp hm;have i:=Tq h m10 k10 dm dk;have:(IB (nu (ag lks) m)==IB (nu (ag lks) k))=(fo (ag lks) m==fo (ag lks) k):=by rw[AZ,y5,y5,i];exact⟨PB,λe=>by rw[e]⟩
   rw[this,zl]; decide
  have pk:=P.pick (w:=w6) (l:=l5) (x:=Sx "m") (t:=λσ0=>aG .NotEq (nX .Eq (aB (ae (σ0.loc (Sx "words"))) (aa (Sx "m"))) (aB (ae (σ0.loc (Sx "words"))) (ae (σ0.loc (Sx "k"))))) (nX .Eq (aB (ae (σ0.loc (Sx "form"))) (aa (Sx "m"))) (aB (ae (σ0.loc (Sx "form"))) (ae (σ0.loc (Sx "k")))))) (p:=λm => !((IB (nu (ag lks) m)==IB (nu (ag lks) k))==(fo (ag lks) m==fo (ag lks) k))) (P.JW ((P.g ((lo5 _ ⟨by kernel_rfl,by kernel_rfl,by kernel_rfl,by kernel_rfl⟩).trans F2)).li (F1.li.mono up6))) (yn fl (by decide)) hL λσ0 w' m c1 c2 hm=>by have lfo5:l5 (Sx "form")=some (.ref fj):=(lo5 _ ⟨by kernel_rfl,by kernel_rfl,by kernel_rfl,by kernel_rfl⟩).trans F3;have frm:∀{g x},x∈a6 (ag lks)->P w' (ai (λZ=>none) (Sx "m") (some (.int (m:Nat)))) g (Fl (.int (x:Nat)))->P w' (ai (λZ=>none) (Sx "m") (some (.int (m:Nat)))) (aB (ae (σ0.loc (Sx "form"))) g) (Fl (.str (fo (ag lks) x))):=λhx hg=>P.key (P.f c1 lfo5) hg (c2 _ _ (up6 _ _ F3')) (cV (λk=>.str (fo (ag lks) k)) hx);exact P.t (P.cmp (word (up6.trans c2) hm (P.f c1 lw5) (P.g L0)) (word (up6.trans c2) hk (P.f c1 lw5) (P.f c1 lk5)) (Cc.fl λhp nx=>rfl)) (P.cmp (frm hm (P.g L0)) (frm hk (P.f c1 lk5)) (Cc.fl λhp nx=>rfl)) (Cc.fl λhp nx=>rfl)
  rw[e]at pk;exact P.t pk P.Oy (Cc.ne (is:=[]) (js:=[]))
 ·rw[n7.grow.loc,l6]; exact lo5 y z
inductive QC(lks:yk (Nat×Nat))(w:Pin)(l0:Str->yl AV)(r:yk (AV×AV))(O:St):Prop
 |mk (a b:yk Nat) (u0:a6 (ag lks)=a++b) (u1:r=im a.length (ii b)) (u2:w.at O) (u3:∀y,oG y->O.loc y=l0 y):QC lks w l0 r O
theorem Oc(hD:1<=7)(hL:1000<=LL)(ok:eE lks)(F:Fin lks w O.loc fv q ks Vf)(at_:w.at O)(hQ:∀O',Q (.ret (.bool true)) O') :
  Ok (af (rT LL [(Sx "place"),(Sx "k")] (MB (aj [(aa (Sx "founded"))])) (gA (aJ T2 LL 40 7))) (af (bV (cst (.bool true))) (M.ret .next))) O Q:=by
 refine((P.enum (vs:=ii (a6 (ag lks))) ((P.g (w:=w) (l:=O.loc) F.lf).wk λw' v a b=>by cases b; exact F.f.mono a)) w O .refl at_ Ll.refl).mono λit σ1 h9 =>?_;obtain⟨w1,n1,q1⟩:=h9;obtain rfl:=q1 w1 .refl;refine rc (o:=none) (Q:=iu (af (bV (cst (.bool true))) (M.ret .next)) Q) (QC lks w O.loc) ⟨[],a6 (ag lks),rfl,rfl,λj o e=>n1.at_ j o (n1.le j o e),λy Z=>by rw[n1.grow.loc]⟩ (λv r σ2 I =>?_) λσ2 I=>hQ σ2;refine(let QQ:=_; (?_:Ok _ _ QQ));obtain⟨a,b,u0,u1,u2,u3⟩:=I;cases b with
 |nil=>cases u1
 |cons k b =>
 obtain⟨rfl,rfl⟩:=zL u1;have e:=Mj hD hL ok F u0 u2 u3;refine Ok.mono (v:=gA (aJ T2 LL 40 7)) e λf σ3 h9 =>?_;obtain⟨x,y,z⟩:=h9;subst x;exact⟨a++[k],b,by rw[u0,zF]; rfl,by rw[yV]; rfl,y,z⟩
theorem Q9(hD:7<=7)(hL:50000<=LL)(ns:yk Int)(hn:ns.length<=63)(hQ:∀O',Q (.ret (.bool true)) O'):Ok (KE (aJ T2 LL 40 7)) {Sl with loc:=λx=>[(Sx "script",AV.lst (ns.map .int))].lookup x} Q:=by
 have hL1:1000<=LL:=yn (by decide) hL;delta KE;refine sC (cF (V.cons (V.l (O:=⟨λx=>[(Sx "script",AV.lst (ns.map .int))].lookup x,Sl.hp,Sl.nx⟩) (v:=.lst (ns.map .int)) (by repeat' infer_instance)) V.nil) (KV (yn (by decide) hD) ns hn _ _ λh' lks ok hl a1 a2 =>?_));have ll1:ai (λx=>[(Sx "script",AV.lst (ns.map .int))].lookup x) (Sx "links") (some (.ref 0)) (Sx "links")=some (.ref 0):=L0;refine QV hL1 (O:=⟨ai (λx=>[(Sx "script",AV.lst (ns.map .int))].lookup x) (Sx "links") (some (.ref 0)),h',0+1⟩) ok hl (il:=0) ll1 (yK 0) a1 λσ1 I1 =>?_;obtain⟨done,u0,u1,u2,u3,u4,u5,u6⟩:=I1;rw[yX]at u0; subst u0;have u1':12<=σ1.nx:=u1;have hm1:Pin.all σ1 1=some (.frozen ((yB 10).map λk=>AV.ref (2+k))):=Pin.HH (yv (by decide) u1') u3;have hR1:tF (Pin.all σ1) (λk=>2+k) (ag lks):=λk hk=>Pin.HH (yv (y8 hk 2) u1') (u4 k hk);have hl1:Pin.all σ1 0=some (.list (Jq lks)):=Pin.HH (yv (by decide) u1') ((u2 0 (yK 0)).trans a1);refine KN (yn (by decide) hD) hL1 (dX ok) (w:=Pin.all σ1) Pin.HL u6 hm1 hR1 λw2 σ2 bv rv fv n2 B2 lo2 =>?_;have p2:∀{j o},Pin.all σ1 j=some o->Pin.all σ2 j=some o:=λ{j o} e=>Pin.HH (n2.at_ j o (n2.le j o e)).1 (n2.at_ j o (n2.le j o e)).2;have at2:w2.at σ2:=n2.at_;have B3:U0 (ag lks) (Pin.all σ2) bv rv fv:=⟨B2.b.mono (Pin.IZ at2),B2.r.mono (Pin.IZ at2),B2.f.mono (Pin.IZ at2)⟩;have hm2:=p2 hm1;have hR2:tF (Pin.all σ2) (λk=>2+k) (ag lks):=λk hk=>p2 (hR1 k hk);have hl2:=Pin.HL (O:=σ2) 0 _ (p2 hl1);have k2:∀y,(y==Sx "below")=false->(y==Sx "rings")=false->(y==Sx "founded")=false->σ2.loc y=σ1.loc y:=λy a b c=>by rw[lo2]; exact LS c (LS b (LS a rfl))
 have r2:σ2.loc (Sx "rings")=some rv:=by rw[lo2]; exact LS (by kernel_rfl) L0
 have f2:σ2.loc (Sx "founded")=some fv:=by rw[lo2]; exact L0
 refine wK (yn (by decide) hD) hL1 λh3 n3 i G b1 b2 S3 =>?_;have s3:ai σ2.loc (Sx "sorter") (some (.ref i)) (Sx "sorter")=some (.ref i):=L0;have k3:∀y,(y==Sx "sorter")=false->ai σ2.loc (Sx "sorter") (some (.ref i)) y=σ2.loc y:=λy a=>LS a rfl;have S3':Qx σ2.nx [] i G ⟨ai σ2.loc (Sx "sorter") (some (.ref i)),h3,n3⟩:=⟨S3.rep.loc _,S3.keys,S3.np,S3.su,S3.rd,S3.po,S3.fi,S3.new⟩;refine Od (yn (by decide) hD) hL1 ok hl S3' (il:=0) ((k3 _ (by kernel_rfl)).trans ((k2 _ (by kernel_rfl) (by kernel_rfl) (by kernel_rfl)).trans u5)) hl2.1 ((b2 0 hl2.1).trans hl2.2) s3 b1 λσ4 I4 =>?_;obtain⟨done,G4,v0,v1,v2,S4,v4⟩:=I4;rw[yX]at v0; subst v0;have at4:(Pin.all σ2).at σ4:=λj o e=>by have a:=Pin.HL (O:=σ2) j o e;exact⟨yv a.1 (yn b1 v1),(v2 j a.1).trans ((b2 j a.1).trans a.2)⟩
 have lt4:∀j o,Pin.all σ2 j=some o->j<σ2.nx:=λj o e=>(Pin.HL (O:=σ2) j o e).1;have k4:∀y,(y==Sx "m")=false->(y==Sx "k")=false->(y==Sx "sorter")=false->σ4.loc y=σ2.loc y:=λy a b c=>(v4 y a b).trans (k3 y c);refine tK (yn (by decide) hD) hL ok hl S4 (yn b1 v1) lt4 at4 B3 hm2 hR2 ((v4 _ (by kernel_rfl) (by kernel_rfl)).trans s3) ((k4 _ (by kernel_rfl) (by kernel_rfl) (by kernel_rfl)).trans r2) ((k4 _ (by kernel_rfl) (by kernel_rfl) (by kernel_rfl)).trans ((k2 _ (by kernel_rfl) (by kernel_rfl) (by kernel_rfl)).trans u6)) λσ5 B5 =>?_;have k5:=B5.loc;refine wL (yn (by decide) hD) hL ok hl lt4 B5 ((k5 _ (by kernel_rfl) (by kernel_rfl) (by kernel_rfl)).trans ((v4 _ (by kernel_rfl) (by kernel_rfl)).trans s3)) λσ6 u H hu R6 ru k6 =>?_;have le6:=Pin.IZ R6.at_;have K6:Kn (Pin.all σ6) 1 u (λk=>2+k) lks H fv:=⟨le6 _ _ hm2,λk hk=>le6 _ _ (hR2 k hk),B3.f.mono le6,Pin.HH R6.lt R6.hp⟩;have m6:σ6.loc (Sx "members")=some (.ref 1):=(k6 _ (by kernel_rfl) (by kernel_rfl)).trans ((k5 _ (by kernel_rfl) (by kernel_rfl) (by kernel_rfl)).trans ((k4 _ (by kernel_rfl) (by kernel_rfl) (by kernel_rfl)).trans ((k2 _ (by kernel_rfl) (by kernel_rfl) (by kernel_rfl)).trans u6)));have f6:σ6.loc (Sx "founded")=some fv:=(k6 _ (by kernel_rfl) (by kernel_rfl)).trans ((k5 _ (by kernel_rfl) (by kernel_rfl) (by kernel_rfl)).trans ((k4 _ (by kernel_rfl) (by kernel_rfl) (by kernel_rfl)).trans f2));refine Ob (yn (by decide) hD) hL1 ok K6 R6.le R6.all R6.some m6 f6 ru λσ7 fj c1 c2 hfo lfo k7 =>?_;have K7:=K6.le (Pin.H8 c1 c2);refine wM hL1 ok K7 R6.le R6.all ((k7 _ (by kernel_rfl) (by kernel_rfl) (by kernel_rfl) (by kernel_rfl)).trans m6) ((k7 _ (by kernel_rfl) (by kernel_rfl) (by kernel_rfl) (by kernel_rfl)).trans ru) λσ8 p q ks Vf d1 d2 N8 ln lh k8 =>?_;have up8:=Pin.H8 d1 d2;obtain⟨fver,hfo⟩:=hfo;refine KL (yn (by decide) hD) hL1 (K7.f.mono up8) ⟨fver,up8 _ _ hfo⟩ N8 ((k8 _ (by kernel_rfl) (by kernel_rfl) (by kernel_rfl) (by kernel_rfl) (by kernel_rfl)).trans ((k7 _ (by kernel_rfl) (by kernel_rfl) (by kernel_rfl) (by kernel_rfl)).trans f6)) ((k8 _ (by kernel_rfl) (by kernel_rfl) (by kernel_rfl) (by kernel_rfl) (by kernel_rfl)).trans lfo) ln lh λw9 σ9 at9 F9 =>?_;exact Oc (yn (by decide) hD) hL1 ok F9 at9 hQ
theorem plain:nB T2:=by
 intro ns hns;have hb:aM (bl (Sx "law")) [.lst (ns.map .int)] []=some [(Sx "script",.lst (ns.map .int))]:=by kernel_rfl
 have key:Ok (aJ T2 50000 40 (7+1) (bl (Sx "law")) [.lst (ns.map .int)] []) Sl λv Z=>v=.bool true:=by refine bA hb (KD _) ?_;exact Q9 (by decide) (by decide) ns hns λO'=>rfl
 refine hdZ λGG hGG =>?_;obtain⟨a,O',e,rfl⟩:=key.out;refine hGG ?_;exact⟨50000,40,bl (Sx "law"),O',by kernel_rfl,e⟩
theorem law_done:PySem.Challenge.rw_om0079_02.Holds:=xg plain
end Internal.R
end
theorem PySem.Challenge.cw_om0079_02_holds : PySem.Challenge.rw_om0079_02.Holds := by
  exact Internal.R.law_done
