import PyProof.Rows.All
import Wide.All
import OpenK.AllK
import Wide.FinOn
import PyProof.ZipIter
import PyProof.StrLawsReplace
import PySem.Challenge.RW_wy0012_01
set_option Elab.async false
set_option linter.all false
set_option maxRecDepth 100000
set_option maxHeartbeats 8000000
set_option compiler.extract_closed false
local macro_rules | `(tactic|omega)=> `(tactic|k_extra "ar")
local macro_rules | `(tactic|lia)=> `(tactic|k_extra "ar")
local macro_rules | `(tactic|walk_at $s:str)=> `(tactic|k_extra $s)
local macro_rules | `(tactic|k_mem)=> `(tactic|k_extra "mem")
section
open And renaming intro->Ut
open Array renaming getElem?_eq_getElem->PY,toArray_toList->Qy,toList_append->QI
open Bool renaming and_eq_true_iff->QB,false_ne_true->QT,false_eq_true->QX,and_eq_true->RO
open Classical renaming byContradiction->PX
open Exists renaming imp->TZ
open ForInStep renaming yield->RV
open Int renaming fmod_nonneg_of_pos->Qk,natCast_nonneg->QV,fmod_lt_of_pos->QZ,lt_of_lt_of_le->Rc,lt_of_le_of_lt->Rd,toNat_natCast->Rz,natAbs_mul->Sy,add_nonneg->Sz,natAbs_neg->SA,zero_add->Th,ofNat_lt->Ti,lt_trans->Ts,toNat->Uo,fmod->UA
open List renaming eq_nil_of_length_eq_zero->PQ,getD_eq_getElem?_getD->PV,getElem?_eq_some_iff->PZ,getElem?_eq_getElem->Qb,filter_cons_of_neg->Qg,filter_cons_of_pos->Qh,length_filter_le->Qp,getElem?_eq_none->Qq,forall_mem_cons->Qs,mem_of_getElem?->Qt,map_congr_left->QG,forall_mem_nil->QK,getD_cons_succ->QM,dropWhile_cons->QN,getD_cons_zero->QO,mem_singleton->QQ,length_append->QU,filter_append->QW,length_range->Rl,take_add_one->Rm,getElem?_map->Rn,size_toArray->Rp,append_assoc->Rx,length_cons->RB,not_mem_nil->RE,cons_append->RG,take_length->RK,ext_getElem->RN,getElem_mem->RP,mem_append->RS,length_map->RT,length_nil->RX,range_succ->Sa,nil_append->Sb,mem_filter->Sd,foldl_cons->Sf,append_nil->Sj,filter_nil->Sn,forIn_cons->So,filter_map->Sq,forIn_nil->SE,mem_cons->SH,map_cons->SJ,sum_cons->SO,any_cons->SR,mem_map->Tg,map_map->Tj,map_nil->Tx,range->TS,cons->Uv
open List.Mem renaming head->SI
open Nat renaming lt_add_of_pos_right->Qd,add_sub_cancel_left->Qi,le_of_ble_eq_true->Qr,mul_le_mul_right->Qx,add_le_add_right->Qz,pow_le_pow_right->QC,mul_le_mul_left->QF,add_le_add_left->QJ,add_sub_cancel'->QL,lt_of_lt_of_le->QR,lt_of_le_of_lt->QS,add_sub_cancel->QY,lt_succ_of_lt->Ri,le_of_succ_le->Rt,lt_succ_of_le->Rw,lt_succ_self->RC,le_add_right->RD,add_le_add->Sx,mul_le_mul->SF,lt_irrefl->SK,add_assoc->SP,ne_of_lt->Tb,le_trans->Td,ne_of_gt->Te,lt_trans->Tf,le_of_eq->Tn,le_of_lt->Tr,add_comm->Tt,succ_mul->Tw,le_refl->TA,zero_le->TC,le_succ->TG,not_lt->TY,not_le->Ug
open Option.some renaming inj->RZ
open PyProof.Rows renaming reads_list_at->SW,next_is_new->TL,IntsAre->UG,envOfC->UV,Below->Vd
open PyProof.Rows.F renaming plain_set_update_loop->PL,entry_set_update_loop->PM
open PySem renaming wpAny_newFunctionEnv_cells->PW,wpAny_callSpecial?_slot->Qf,builtinLookup_eq_fast->Qm,wpAny_storeName_local->Qn,lookup_relabel_local->Qu,wpAny_loadName_local->QA,wpAny_pyIter_range->Ra,wpAny_setField_rec->Rb,slot_listiter_next->Rh,bm_if_false->Rj,wpAny_assign_Name->Rk,wpAny_pyIter_list->Ro,wpAny_newObj_type->Ru,foldedSetIterable->Ry,wpAny_call_entry->RH,wpAny_isInstance->RI,checkBuiltinCall->RJ,entryFor_of_tree->RL,entryFor_of_fast->RQ,typeLookup_type->RU,wpAny_specialOf->RY,codeAny_builtin->Sg,codeAny_of_tree->Sk,letOwnedTupleGo->Sm,wpAny_updateSeq->Sp,recursionLimit->Su,isSubtype_type->Sv,wpAny_seqItems->Sw,newFunctionEnv->SD,intText?->SG,wpAny_holding->SM,plainId_quiet->SQ,wpAny_standAt->SS,intBits_le_64->SU,assignInOrder->SV,wpAny_attempt->SX,sizeLine_eq->Tz,wpAny_of_eq->TB,wpAny_field->TF,IsRangeIter->TK,mainGlobals->TM,wpAny_bind->TQ,wpAny_pure->TR,wpAny_mono->TT,Spec->TU,wpAny_call->TV,typeLookup->TX,wpAny_rule->Ud,wpAny_Name->Uj,wpAny_load->Uk,cellsFrom->Un,Arguments->Up,Ctx->Us,compEnvC->Uw,sizeLine->Ux,ReadsAll->Uy,IntMulOk->Uz,entryFor->UC,starEach->UD,Builtin->UE,Program->UF,ExcName->UH,codeAny->UI,relabel->UJ,Shared->UO,Around->UP,PyData->UR,rawInt->US,Result->UT,pyIter->UU,argsOk->UW,Value->UX,wpAny->UY,model->UZ,World->Va,Scope->Vb,Model->Vc,execs->Ve,Addr->Vf,Heap->Vg,Expr->Vh,eval->Vi,Code->Vj,Str->Vk,Obj->Vl,Tok->Vm,Env->Vn
open PySem.Around renaming under_plainId->Qw
open PySem.BindsTo renaming of_eq->SL
open PySem.Builtin.Bytes renaming decodersThatHold->PP
open PySem.Builtin.Int renaming intBits->QE
open PySem.Builtin.List renaming listExtendWith->PU
open PySem.Builtin.Range renaming rangeSize->Qe,small->QH
open PySem.Builtin.SmallTypes renaming ownedTupleHandOut->PN,ownedTupleIsFree->PO,nextOf->Qa
open PySem.Code renaming quiet_builtin->Rg,builtin->Tv
open PySem.Heap renaming get?_push_of_some->Qj,get?_update_self->Qo,get?_none_of_le->Qv,get?_push_size->QD,size_push->Ss,lt_size->Tc,SameBut->To,IsList->TN
open PySem.Heap.NoSeer renaming keeps->Qc
open PySem.Heap.SameBut renaming update->QP
open PySem.IntMulOk renaming of_right->Rv
open PySem.Obj renaming mapSeq->Ue
open PySem.PyData renaming canLayAll0->Rq,depthAll->Sl,int->Ui
open PySem.Reads renaming bool->Uh
open PySem.ReadsAll renaming cons->SN
open PySem.Sre renaming forSearch->SZ,Frame->Uu,Seen->UB
open PySem.Str renaming length_append->RA,ofString->Ta
open PySem.Txt renaming replace->TH,sliceBy->TP,slice->Uq
open PySem.Value renaming type->Ua,bool->Ub,none->Uc,ref->Ul,str->Um,int->Ur
open PySem.W renaming typeIs_bytes->Tp,hideAll->UK,instObj->UL,cb_drop->UM,topProg->UN,tabObj->UQ
open PySem.W.InvEndG renaming intro->SY
open Rat renaming mul_pos_iff_of_pos_left->PS,mul_neg_iff_of_pos_left->PT,intCast_le_intCast->Ql,inv_mul_cancel->Rf,mul_eq_zero->RW,intCast_inj->Si,mul_nonneg->Sr,le_of_lt->Tq,pow_succ->Tu,mul_pos->TJ
section
namespace Mine
theorem un3{a n i j c:Nat}(h:a+8*n<c)(k:i+8*j<=8*n):a+i+8*j<c:=by rw[SP];exact QS (QJ k a) h
theorem ro0{a n c:Nat}(h:a+n<c):a<c:=QS (RD a n) h
theorem ro1{a n c i:Nat}(h:a+n<c)(k:i<=n):a+i<c:=QS (QJ k a) h
theorem ro2{a n c i j:Nat}(h:a+n<c)(k:i+j<=n):a+i+j<c:=by rw[SP];exact ro1 h k
theorem nn1(a:Nat):a≠a+1:=Tb (Qd (n:=a) (k:=1) (by decide))
theorem nm1(a:Nat):a+1≠a:=(nn1 a).symm
theorem nn2(a:Nat):a≠a+1+1:=Tb (Qd (n:=a) (k:=2) (by decide))
theorem nm2(a:Nat):a+1+1≠a:=(nn2 a).symm
theorem nn3(a:Nat):a≠a+1+1+1:=Tb (Qd (n:=a) (k:=3) (by decide))
theorem nm3(a:Nat):a+1+1+1≠a:=(nn3 a).symm
theorem nn4(a:Nat):a≠a+1+1+1+1:=Tb (Qd (n:=a) (k:=4) (by decide))
theorem nm4(a:Nat):a+1+1+1+1≠a:=(nn4 a).symm
theorem nn5(a:Nat):a≠a+1+1+1+1+1:=Tb (Qd (n:=a) (k:=5) (by decide))
theorem nm5(a:Nat):a+1+1+1+1+1≠a:=(nn5 a).symm
theorem nn6(a:Nat):a≠a+1+1+1+1+1+1:=Tb (Qd (n:=a) (k:=6) (by decide))
theorem nm6(a:Nat):a+1+1+1+1+1+1≠a:=(nn6 a).symm
theorem nn7(a:Nat):a≠a+1+1+1+1+1+1+1:=Tb (Qd (n:=a) (k:=7) (by decide))
theorem nm7(a:Nat):a+1+1+1+1+1+1+1≠a:=(nn7 a).symm
theorem nn8(a:Nat):a≠a+1+1+1+1+1+1+1+1:=Tb (Qd (n:=a) (k:=8) (by decide))
theorem nm8(a:Nat):a+1+1+1+1+1+1+1+1≠a:=(nn8 a).symm
theorem nn9(a:Nat):a≠a+1+1+1+1+1+1+1+1+1:=Tb (Qd (n:=a) (k:=9) (by decide))
theorem nm9(a:Nat):a+1+1+1+1+1+1+1+1+1≠a:=(nn9 a).symm
theorem PD(a:Nat):a≠a+1+1+1+1+1+1+1+1+1+1:=Tb (Qd (n:=a) (k:=10) (by decide))
theorem nm10(a:Nat):a+1+1+1+1+1+1+1+1+1+1≠a:=(PD a).symm
theorem PC(a:Nat):a≠a+1+1+1+1+1+1+1+1+1+1+1:=Tb (Qd (n:=a) (k:=11) (by decide))
theorem nm11(a:Nat):a+1+1+1+1+1+1+1+1+1+1+1≠a:=(PC a).symm
theorem ltT{n m c:Nat}(h:n<m)(d:m<=c):n<c:=QR h d
theorem leT{n m c:Nat}(h:n<=m)(d:m<c):n<c:=QS h d
theorem eqT{n m c:Nat}(h:n=m)(d:m<c):n<c:=h ▸ d
theorem ltL{n m c:Nat}(h:n<m)(d:m<=c):n<=c:=Td (Tr h) d
theorem leL{n m c:Nat}(h:n<=m)(d:m<=c):n<=c:=Td h d
theorem eqL{n m c:Nat}(h:n=m)(d:m<=c):n<=c:=h ▸ d
theorem ltI{n m:Nat}{c:Int}(h:n<m)(d:(m:Int)<=c):(n:Int)<c:=Rc (Ti.2 h) d
theorem leI{n m:Nat}{c:Int}(h:n<=m)(d:(m:Int)<c):(n:Int)<c:=Rd (Int.ofNat_le.2 h) d
theorem eqI{n m:Nat}{c:Int}(h:n=m)(d:(m:Int)<c):(n:Int)<c:=h ▸ d
theorem eqJ{n m:Nat}{c:Int}(h:n=m)(d:c<(m:Int)):c<(n:Int):=h ▸ d
theorem i0p{n:Nat}(h:0<n):(0:Int)<n:=Ti.2 h
theorem i0q{i n:Nat}(h:i<n):(0:Int)<n:=Ti.2 (QS (TC i) h)
theorem i00(i:Nat):(0:Int)<=0+i:=by rw[Th];exact QV i
theorem i01(i:Nat):(0:Int)<=1+i:=Sz (by decide) (QV i)
theorem i02(i:Nat):(0:Int)<=0+i+1:=Sz (i00 i) (by decide)
theorem ilt{i n:Nat}(h:i<n):(0:Int)+i<n:=by rw[Th];exact Ti.2 h
theorem OS{i n:Nat}(h:i<((n:Int)-1).toNat):(1:Int)+i<n:=Int.add_lt_of_lt_sub_left (Int.lt_toNat.1 h)
theorem ilu{i n:Nat}{c:Int}(h:i<n)(d:(n:Int)<=c):(0:Int)+i<c:=Rc (ilt h) d
theorem ilv{i n m:Nat}{c:Int}(h:i<n)(k:n<m)(d:(m:Int)<=c):(0:Int)+i<c:=ilu (Tf h k) d
theorem ilw{i n m:Nat}{c:Int}(h:i<n)(k:n<=m)(d:(m:Int)<=c):(0:Int)+i<c:=ilu (QR h k) d
theorem ile(i:Nat):(0:Int)<=i:=QV i
theorem OM{r:Int}{k:Nat}{c:Int}(h:r.natAbs<=k)(d:(k:Int)<c):r<c:=Rd (Int.le_trans Int.le_natAbs (Int.ofNat_le.2 h)) d
theorem PE{r:Int}{k:Nat}{c:Int}(h:r.natAbs<=k)(d:(k:Int)<c): -c<r:=Int.neg_lt_of_neg_lt (OM (by rw[SA];exact h) d)
theorem nabA{r:Int}{k:Nat}{c:Int}(h:r.natAbs<=k)(d:(k:Int)<c): -c<r/\r<c:=⟨PE h d,OM h d⟩
theorem ngL(n:Nat){c:Int}(d:0<=c): -c<=(n:Int):=Int.le_trans (Int.neg_nonpos_of_nonneg d) (QV n)
theorem nq1{r:Int}{k:Nat}(h:r.natAbs<=k)(d:k<2 ^ 60):r<2 ^ 1920:=
 Rd Int.le_natAbs (Rc (Ti.2 (QS h d)) (by decide+kernel))
theorem nq2{r:Int}{k:Nat}(h:r.natAbs<=k)(d:k<2 ^ 60): -2 ^ 1920<r:=Int.neg_lt_of_neg_lt (nq1 (by rw[SA];exact h) d)
theorem sb1{n i:Nat}(h:i<n):n+1-(i+1)<n+1-i:=by rw[Nat.add_sub_add_right];exact Nat.sub_lt_sub_right (Tr h) (RC n)
theorem sb2{n i:Nat}(h:i<n):n-(i+1)<n-i:=Nat.sub_lt_sub_left h (RC i)
theorem sb3{n i k:Nat}(h:n-i=k+1):n-(i+1)=k:=(Nat.sub_succ n i).trans (congrArg Nat.pred h)
theorem tn0(i:Nat):(0+(i:Int)).toNat=i:=by rw[Th];rfl
theorem tl0{i n:Nat}(h:i<n):(0+(i:Int)).toNat<n:=by rw[tn0];exact h
theorem tl1{i n:Nat}(h:i<((n:Int)-1).toNat):(1+(i:Int)).toNat<n:=by have k:=OS h;rw[Int.add_comm] at k ⊢;exact Ti.1 k
theorem pp1{a:Nat}(h:0<a):a=a-1+1:=(Nat.sub_add_cancel h).symm
theorem ilx{i n m:Nat}{c:Int}(h:i<((n:Int)-1).toNat)(k:n<m)(d:(m:Int)<=c):(1:Int)+i<c:=Rc (Ts (OS h) (Ti.2 k)) d
theorem tm1(n:Nat):((n:Int)-1).toNat=n-1:=by
 cases n with
 |zero=>rfl
 |succ k=>rw[Int.natCast_succ,Int.add_sub_cancel];rfl
theorem tml{n m c:Nat}(h:n<m)(d:m<=c):((n:Int)-1).toNat<=c:=by rw[tm1];exact Td (Nat.sub_le n 1) (ltL h d)
theorem sn1{x n m:Nat}(h:x<=n-1)(k:n<m):x<m:=QS (Td h (Nat.sub_le n 1)) k
theorem sn2{x n m c:Nat}(h:x<=n-1)(k:n<m)(d:m<=c):x<c:=ltT (sn1 h k) d
theorem sn3{x n m c:Nat}(h:x<=n-1)(k:n<m)(d:m<=c):x<=c:=ltL (sn1 h k) d
theorem sn4{x n k:Nat}(h:x<=n-1)(e:n<=k+1):x<=k:=Td h (Nat.sub_le_sub_right e 1)
theorem cg0{a D:Nat}{P:Prop}(h:a<D/\P):D≠a:=Te h.1
theorem cl0{a D:Nat}{P:Prop}(h:a<D/\P):a≠D:=Tb h.1
theorem dg0{a D:Nat}(h:a<D):D≠a:=Te h
theorem dl0{a D:Nat}(h:a<D):a≠D:=Tb h
theorem cg1{a D:Nat}{Q0:Prop}{P:Prop}(h:Q0/\a<D/\P):D≠a:=Te h.2.1
theorem cl1{a D:Nat}{Q0:Prop}{P:Prop}(h:Q0/\a<D/\P):a≠D:=Tb h.2.1
theorem dg1{a D:Nat}{Q0:Prop}(h:Q0/\a<D):D≠a:=Te h.2
theorem dl1{a D:Nat}{Q0:Prop}(h:Q0/\a<D):a≠D:=Tb h.2
theorem cg2{a D:Nat}{Q0 Q1:Prop}{P:Prop}(h:Q0/\Q1/\a<D/\P):D≠a:=Te h.2.2.1
theorem cl2{a D:Nat}{Q0 Q1:Prop}{P:Prop}(h:Q0/\Q1/\a<D/\P):a≠D:=Tb h.2.2.1
theorem dg2{a D:Nat}{Q0 Q1:Prop}(h:Q0/\Q1/\a<D):D≠a:=Te h.2.2
theorem dl2{a D:Nat}{Q0 Q1:Prop}(h:Q0/\Q1/\a<D):a≠D:=Tb h.2.2
theorem cg3{a D:Nat}{Q0 Q1 Q2:Prop}{P:Prop}(h:Q0/\Q1/\Q2/\a<D/\P):D≠a:=Te h.2.2.2.1
theorem cl3{a D:Nat}{Q0 Q1 Q2:Prop}{P:Prop}(h:Q0/\Q1/\Q2/\a<D/\P):a≠D:=Tb h.2.2.2.1
theorem dg3{a D:Nat}{Q0 Q1 Q2:Prop}(h:Q0/\Q1/\Q2/\a<D):D≠a:=Te h.2.2.2
theorem dl3{a D:Nat}{Q0 Q1 Q2:Prop}(h:Q0/\Q1/\Q2/\a<D):a≠D:=Tb h.2.2.2
theorem cg4{a D:Nat}{Q0 Q1 Q2 Q3:Prop}{P:Prop}(h:Q0/\Q1/\Q2/\Q3/\a<D/\P):D≠a:=Te h.2.2.2.2.1
theorem cl4{a D:Nat}{Q0 Q1 Q2 Q3:Prop}{P:Prop}(h:Q0/\Q1/\Q2/\Q3/\a<D/\P):a≠D:=Tb h.2.2.2.2.1
theorem dg4{a D:Nat}{Q0 Q1 Q2 Q3:Prop}(h:Q0/\Q1/\Q2/\Q3/\a<D):D≠a:=Te h.2.2.2.2
theorem dl4{a D:Nat}{Q0 Q1 Q2 Q3:Prop}(h:Q0/\Q1/\Q2/\Q3/\a<D):a≠D:=Tb h.2.2.2.2
theorem cg5{a D:Nat}{Q0 Q1 Q2 Q3 Q4:Prop}{P:Prop}(h:Q0/\Q1/\Q2/\Q3/\Q4/\a<D/\P):D≠a:=Te h.2.2.2.2.2.1
theorem cl5{a D:Nat}{Q0 Q1 Q2 Q3 Q4:Prop}{P:Prop}(h:Q0/\Q1/\Q2/\Q3/\Q4/\a<D/\P):a≠D:=Tb h.2.2.2.2.2.1
theorem dg5{a D:Nat}{Q0 Q1 Q2 Q3 Q4:Prop}(h:Q0/\Q1/\Q2/\Q3/\Q4/\a<D):D≠a:=Te h.2.2.2.2.2
theorem dl5{a D:Nat}{Q0 Q1 Q2 Q3 Q4:Prop}(h:Q0/\Q1/\Q2/\Q3/\Q4/\a<D):a≠D:=Tb h.2.2.2.2.2
theorem cg6{a D:Nat}{Q0 Q1 Q2 Q3 Q4 Q5:Prop}{P:Prop}(h:Q0/\Q1/\Q2/\Q3/\Q4/\Q5/\a<D/\P):D≠a:=Te h.2.2.2.2.2.2.1
theorem cl6{a D:Nat}{Q0 Q1 Q2 Q3 Q4 Q5:Prop}{P:Prop}(h:Q0/\Q1/\Q2/\Q3/\Q4/\Q5/\a<D/\P):a≠D:=Tb h.2.2.2.2.2.2.1
theorem dg6{a D:Nat}{Q0 Q1 Q2 Q3 Q4 Q5:Prop}(h:Q0/\Q1/\Q2/\Q3/\Q4/\Q5/\a<D):D≠a:=Te h.2.2.2.2.2.2
theorem dl6{a D:Nat}{Q0 Q1 Q2 Q3 Q4 Q5:Prop}(h:Q0/\Q1/\Q2/\Q3/\Q4/\Q5/\a<D):a≠D:=Tb h.2.2.2.2.2.2
theorem cg7{a D:Nat}{Q0 Q1 Q2 Q3 Q4 Q5 Q6:Prop}{P:Prop}(h:Q0/\Q1/\Q2/\Q3/\Q4/\Q5/\Q6/\a<D/\P):D≠a:=Te h.2.2.2.2.2.2.2.1
theorem cl7{a D:Nat}{Q0 Q1 Q2 Q3 Q4 Q5 Q6:Prop}{P:Prop}(h:Q0/\Q1/\Q2/\Q3/\Q4/\Q5/\Q6/\a<D/\P):a≠D:=Tb h.2.2.2.2.2.2.2.1
theorem dg7{a D:Nat}{Q0 Q1 Q2 Q3 Q4 Q5 Q6:Prop}(h:Q0/\Q1/\Q2/\Q3/\Q4/\Q5/\Q6/\a<D):D≠a:=Te h.2.2.2.2.2.2.2
theorem dl7{a D:Nat}{Q0 Q1 Q2 Q3 Q4 Q5 Q6:Prop}(h:Q0/\Q1/\Q2/\Q3/\Q4/\Q5/\Q6/\a<D):a≠D:=Tb h.2.2.2.2.2.2.2
theorem cg8{a D:Nat}{Q0 Q1 Q2 Q3 Q4 Q5 Q6 Q7:Prop}{P:Prop}(h:Q0/\Q1/\Q2/\Q3/\Q4/\Q5/\Q6/\Q7/\a<D/\P):D≠a:=Te h.2.2.2.2.2.2.2.2.1
theorem cl8{a D:Nat}{Q0 Q1 Q2 Q3 Q4 Q5 Q6 Q7:Prop}{P:Prop}(h:Q0/\Q1/\Q2/\Q3/\Q4/\Q5/\Q6/\Q7/\a<D/\P):a≠D:=Tb h.2.2.2.2.2.2.2.2.1
theorem dg8{a D:Nat}{Q0 Q1 Q2 Q3 Q4 Q5 Q6 Q7:Prop}(h:Q0/\Q1/\Q2/\Q3/\Q4/\Q5/\Q6/\Q7/\a<D):D≠a:=Te h.2.2.2.2.2.2.2.2
theorem dl8{a D:Nat}{Q0 Q1 Q2 Q3 Q4 Q5 Q6 Q7:Prop}(h:Q0/\Q1/\Q2/\Q3/\Q4/\Q5/\Q6/\Q7/\a<D):a≠D:=Tb h.2.2.2.2.2.2.2.2
theorem PF{n p k a b:Nat}(h:n-p<k+1)(hab:a<b)(hpa:p<=a)(hb:b<=n):n-b<k:=QR (Nat.sub_lt_sub_left (QR hab hb) hab) (Td (Nat.sub_le_sub_left hpa n) (Nat.le_of_lt_succ h))
theorem oA{P0 P1:Prop}{G:Prop}(h:P0/\P1)(k:P0->P1->G):G:=h.elim fun x0 h=>k x0 h
theorem oE{α:Sort _}{P0:α->Prop}{G:Prop}(h:∃a,P0 a)(k:∀a,P0 a->G):G:=h.elim fun x0 h=>k x0 h
theorem oAA{P0 P1 P2:Prop}{G:Prop}(h:P0/\P1/\P2)(k:P0->P1->P2->G):G:=h.elim fun x0 h=>h.elim fun x1 h=>k x0 x1 h
theorem oAE{α:Sort _}{P0:Prop}{P1:α->Prop}{G:Prop}(h:P0/\∃a,P1 a)(k:P0->∀a,P1 a->G):G:=h.elim fun x0 h=>h.elim fun x1 h=>k x0 x1 h
theorem oEA{α:Sort _}{P0 P1:α->Prop}{G:Prop}(h:∃a,P0 a/\P1 a)(k:∀a,P0 a->P1 a->G):G:=h.elim fun x0 h=>h.elim fun x1 h=>k x0 x1 h
theorem oEE{α β:Sort _}{P0:α->β->Prop}{G:Prop}(h:∃a,∃b,P0 a b)(k:∀a,∀b,P0 a b->G):G:=h.elim fun x0 h=>h.elim fun x1 h=>k x0 x1 h
theorem AX{P0 P1 P2 P3:Prop}{G:Prop}(h:P0/\P1/\P2/\P3)(k:P0->P1->P2->P3->G):G:=h.elim fun x0 h=>h.elim fun x1 h=>h.elim fun x2 h=>k x0 x1 x2 h
theorem NT{α:Sort _}{P0:Prop}{P1 P2:α->Prop}{G:Prop}(h:P0/\∃a,P1 a/\P2 a)(k:P0->∀a,P1 a->P2 a->G):G:=h.elim fun x0 h=>h.elim fun x1 h=>h.elim fun x2 h=>k x0 x1 x2 h
theorem L1{α:Sort _}{P0 P1 P2:α->Prop}{G:Prop}(h:∃a,P0 a/\P1 a/\P2 a)(k:∀a,P0 a->P1 a->P2 a->G):G:=h.elim fun x0 h=>h.elim fun x1 h=>h.elim fun x2 h=>k x0 x1 x2 h
theorem PB{α β:Sort _}{P0:α->Prop}{P1:α->β->Prop}{G:Prop}(h:∃a,P0 a/\∃b,P1 a b)(k:∀a,P0 a->∀b,P1 a b->G):G:=h.elim fun x0 h=>h.elim fun x1 h=>h.elim fun x2 h=>k x0 x1 x2 h
theorem y8{α β:Sort _}{P0 P1:α->β->Prop}{G:Prop}(h:∃a,∃b,P0 a b/\P1 a b)(k:∀a,∀b,P0 a b->P1 a b->G):G:=h.elim fun x0 h=>h.elim fun x1 h=>h.elim fun x2 h=>k x0 x1 x2 h
theorem Ip{α β γ:Sort _}{P0:α->β->γ->Prop}{G:Prop}(h:∃a,∃b,∃c,P0 a b c)(k:∀a,∀b,∀c,P0 a b c->G):G:=h.elim fun x0 h=>h.elim fun x1 h=>h.elim fun x2 h=>k x0 x1 x2 h
theorem X4{P0 P1 P2 P3 P4:Prop}{G:Prop}(h:P0/\P1/\P2/\P3/\P4)(k:P0->P1->P2->P3->P4->G):G:=oAA h fun x0 x1 h=>oAA h fun x2 x3 h=>k x0 x1 x2 x3 h
theorem OJ{α:Sort _}{P0 P1 P2:Prop}{P3:α->Prop}{G:Prop}(h:P0/\P1/\P2/\∃a,P3 a)(k:P0->P1->P2->∀a,P3 a->G):G:=oAA h fun x0 x1 h=>oAE h fun x2 x3 h=>k x0 x1 x2 x3 h
theorem MR{α:Sort _}{P0 P1:Prop}{P2 P3:α->Prop}{G:Prop}(h:P0/\P1/\∃a,P2 a/\P3 a)(k:P0->P1->∀a,P2 a->P3 a->G):G:=oAA h fun x0 x1 h=>oEA h fun x2 x3 h=>k x0 x1 x2 x3 h
theorem V3{α:Sort _}{P0 P1 P2 P3:α->Prop}{G:Prop}(h:∃a,P0 a/\P1 a/\P2 a/\P3 a)(k:∀a,P0 a->P1 a->P2 a->P3 a->G):G:=oEA h fun x0 x1 h=>oAA h fun x2 x3 h=>k x0 x1 x2 x3 h
theorem Fl{α β:Sort _}{P0 P1:α->Prop}{P2:α->β->Prop}{G:Prop}(h:∃a,P0 a/\P1 a/\∃b,P2 a b)(k:∀a,P0 a->P1 a->∀b,P2 a b->G):G:=oEA h fun x0 x1 h=>oAE h fun x2 x3 h=>k x0 x1 x2 x3 h
theorem LH{α β:Sort _}{P0:α->Prop}{P1 P2:α->β->Prop}{G:Prop}(h:∃a,P0 a/\∃b,P1 a b/\P2 a b)(k:∀a,P0 a->∀b,P1 a b->P2 a b->G):G:=oEA h fun x0 x1 h=>oEA h fun x2 x3 h=>k x0 x1 x2 x3 h
theorem M3{α β:Sort _}{P0 P1 P2:α->β->Prop}{G:Prop}(h:∃a,∃b,P0 a b/\P1 a b/\P2 a b)(k:∀a,∀b,P0 a b->P1 a b->P2 a b->G):G:=oEE h fun x0 x1 h=>oAA h fun x2 x3 h=>k x0 x1 x2 x3 h
theorem R7{α β γ:Sort _}{P0 P1:α->β->γ->Prop}{G:Prop}(h:∃a,∃b,∃c,P0 a b c/\P1 a b c)(k:∀a,∀b,∀c,P0 a b c->P1 a b c->G):G:=oEE h fun x0 x1 h=>oEA h fun x2 x3 h=>k x0 x1 x2 x3 h
theorem Eo{α β γ δ:Sort _}{P0:α->β->γ->δ->Prop}{G:Prop}(h:∃a,∃b,∃c,∃d,P0 a b c d)(k:∀a,∀b,∀c,∀d,P0 a b c d->G):G:=oEE h fun x0 x1 h=>oEE h fun x2 x3 h=>k x0 x1 x2 x3 h
theorem Ep{P0 P1 P2 P3 P4 P5:Prop}{G:Prop}(h:P0/\P1/\P2/\P3/\P4/\P5)(k:P0->P1->P2->P3->P4->P5->G):G:=oAA h fun x0 x1 h=>AX h fun x2 x3 x4 h=>k x0 x1 x2 x3 x4 h
theorem KP{α:Sort _}{P0 P1 P2 P3 P4:α->Prop}{G:Prop}(h:∃a,P0 a/\P1 a/\P2 a/\P3 a/\P4 a)(k:∀a,P0 a->P1 a->P2 a->P3 a->P4 a->G):G:=oEA h fun x0 x1 h=>AX h fun x2 x3 x4 h=>k x0 x1 x2 x3 x4 h
theorem E4{α β:Sort _}{P0 P1 P2 P3:α->β->Prop}{G:Prop}(h:∃a,∃b,P0 a b/\P1 a b/\P2 a b/\P3 a b)(k:∀a,∀b,P0 a b->P1 a b->P2 a b->P3 a b->G):G:=oEE h fun x0 x1 h=>AX h fun x2 x3 x4 h=>k x0 x1 x2 x3 x4 h
theorem R3{α β γ:Sort _}{P0 P1 P2:α->β->γ->Prop}{G:Prop}(h:∃a,∃b,∃c,P0 a b c/\P1 a b c/\P2 a b c)(k:∀a,∀b,∀c,P0 a b c->P1 a b c->P2 a b c->G):G:=oEE h fun x0 x1 h=>L1 h fun x2 x3 x4 h=>k x0 x1 x2 x3 x4 h
theorem KO{α β γ δ:Sort _}{P0 P1:α->β->γ->δ->Prop}{G:Prop}(h:∃a,∃b,∃c,∃d,P0 a b c d/\P1 a b c d)(k:∀a,∀b,∀c,∀d,P0 a b c d->P1 a b c d->G):G:=oEE h fun x0 x1 h=>y8 h fun x2 x3 x4 h=>k x0 x1 x2 x3 x4 h
theorem En{α β γ δ ε:Sort _}{P0:α->β->γ->δ->ε->Prop}{G:Prop}(h:∃a,∃b,∃c,∃d,∃e,P0 a b c d e)(k:∀a,∀b,∀c,∀d,∀e,P0 a b c d e->G):G:=oEE h fun x0 x1 h=>Ip h fun x2 x3 x4 h=>k x0 x1 x2 x3 x4 h
theorem AD{P0 P1 P2 P3 P4 P5 P6:Prop}{G:Prop}(h:P0/\P1/\P2/\P3/\P4/\P5/\P6)(k:P0->P1->P2->P3->P4->P5->P6->G):G:=AX h fun x0 x1 x2 h=>AX h fun x3 x4 x5 h=>k x0 x1 x2 x3 x4 x5 h
theorem It{α β γ:Sort _}{P0:α->Prop}{P1 P2 P3:α->β->γ->Prop}{G:Prop}(h:∃a,P0 a/\∃b,∃c,P1 a b c/\P2 a b c/\P3 a b c)(k:∀a,P0 a->∀b,∀c,P1 a b c->P2 a b c->P3 a b c->G):G:=PB h fun x0 x1 x2 h=>L1 h fun x3 x4 x5 h=>k x0 x1 x2 x3 x4 x5 h
theorem Ir{α β:Sort _}{P0 P1 P2 P3 P4:α->β->Prop}{G:Prop}(h:∃a,∃b,P0 a b/\P1 a b/\P2 a b/\P3 a b/\P4 a b)(k:∀a,∀b,P0 a b->P1 a b->P2 a b->P3 a b->P4 a b->G):G:=y8 h fun x0 x1 x2 h=>AX h fun x3 x4 x5 h=>k x0 x1 x2 x3 x4 x5 h
theorem BK{α β γ:Sort _}{P0 P1 P2 P3:α->β->γ->Prop}{G:Prop}(h:∃a,∃b,∃c,P0 a b c/\P1 a b c/\P2 a b c/\P3 a b c)(k:∀a,∀b,∀c,P0 a b c->P1 a b c->P2 a b c->P3 a b c->G):G:=Ip h fun x0 x1 x2 h=>AX h fun x3 x4 x5 h=>k x0 x1 x2 x3 x4 x5 h
theorem Io{α β γ δ:Sort _}{P0 P1 P2:α->β->γ->δ->Prop}{G:Prop}(h:∃a,∃b,∃c,∃d,P0 a b c d/\P1 a b c d/\P2 a b c d)(k:∀a,∀b,∀c,∀d,P0 a b c d->P1 a b c d->P2 a b c d->G):G:=Ip h fun x0 x1 x2 h=>L1 h fun x3 x4 x5 h=>k x0 x1 x2 x3 x4 x5 h
theorem Dp{P0 P1 P2 P3 P4 P5 P6 P7:Prop}{G:Prop}(h:P0/\P1/\P2/\P3/\P4/\P5/\P6/\P7)(k:P0->P1->P2->P3->P4->P5->P6->P7->G):G:=AX h fun x0 x1 x2 h=>X4 h fun x3 x4 x5 x6 h=>k x0 x1 x2 x3 x4 x5 x6 h
theorem JS{α β γ:Sort _}{P0:Prop}{P1 P2 P3 P4:α->β->γ->Prop}{G:Prop}(h:P0/\∃a,∃b,∃c,P1 a b c/\P2 a b c/\P3 a b c/\P4 a b c)(k:P0->∀a,∀b,∀c,P1 a b c->P2 a b c->P3 a b c->P4 a b c->G):G:=oAE h fun x0 x1 h=>E4 h fun x2 x3 x4 x5 x6 h=>k x0 x1 x2 x3 x4 x5 x6 h
theorem Gi{α β:Sort _}{P0 P1 P2 P3 P4 P5:α->β->Prop}{G:Prop}(h:∃a,∃b,P0 a b/\P1 a b/\P2 a b/\P3 a b/\P4 a b/\P5 a b)(k:∀a,∀b,P0 a b->P1 a b->P2 a b->P3 a b->P4 a b->P5 a b->G):G:=y8 h fun x0 x1 x2 h=>X4 h fun x3 x4 x5 x6 h=>k x0 x1 x2 x3 x4 x5 x6 h
theorem Do{α β γ:Sort _}{P0 P1 P2 P3 P4:α->β->γ->Prop}{G:Prop}(h:∃a,∃b,∃c,P0 a b c/\P1 a b c/\P2 a b c/\P3 a b c/\P4 a b c)(k:∀a,∀b,∀c,P0 a b c->P1 a b c->P2 a b c->P3 a b c->P4 a b c->G):G:=Ip h fun x0 x1 x2 h=>X4 h fun x3 x4 x5 x6 h=>k x0 x1 x2 x3 x4 x5 x6 h
theorem C6{α β γ δ:Sort _}{P0 P1 P2 P3:α->β->γ->δ->Prop}{G:Prop}(h:∃a,∃b,∃c,∃d,P0 a b c d/\P1 a b c d/\P2 a b c d/\P3 a b c d)(k:∀a,∀b,∀c,∀d,P0 a b c d->P1 a b c d->P2 a b c d->P3 a b c d->G):G:=Ip h fun x0 x1 x2 h=>V3 h fun x3 x4 x5 x6 h=>k x0 x1 x2 x3 x4 x5 x6 h
theorem J3{P0 P1 P2 P3 P4 P5 P6 P7 P8:Prop}{G:Prop}(h:P0/\P1/\P2/\P3/\P4/\P5/\P6/\P7/\P8)(k:P0->P1->P2->P3->P4->P5->P6->P7->P8->G):G:=X4 h fun x0 x1 x2 x3 h=>X4 h fun x4 x5 x6 x7 h=>k x0 x1 x2 x3 x4 x5 x6 x7 h
theorem Iq{α β γ δ:Sort _}{P0 P1:α->β->Prop}{P2 P3 P4:α->β->γ->δ->Prop}{G:Prop}(h:∃a,∃b,P0 a b/\P1 a b/\∃c,∃d,P2 a b c d/\P3 a b c d/\P4 a b c d)(k:∀a,∀b,P0 a b->P1 a b->∀c,∀d,P2 a b c d->P3 a b c d->P4 a b c d->G):G:=M3 h fun x0 x1 x2 x3 h=>M3 h fun x4 x5 x6 x7 h=>k x0 x1 x2 x3 x4 x5 x6 x7 h
theorem Im{α β γ δ:Sort _}{P0 P1 P2 P3 P4:α->β->γ->δ->Prop}{G:Prop}(h:∃a,∃b,∃c,∃d,P0 a b c d/\P1 a b c d/\P2 a b c d/\P3 a b c d/\P4 a b c d)(k:∀a,∀b,∀c,∀d,P0 a b c d->P1 a b c d->P2 a b c d->P3 a b c d->P4 a b c d->G):G:=Eo h fun x0 x1 x2 x3 h=>X4 h fun x4 x5 x6 x7 h=>k x0 x1 x2 x3 x4 x5 x6 x7 h
theorem Hb{P0 P1 P2 P3 P4 P5 P6 P7 P8 P9:Prop}{G:Prop}(h:P0/\P1/\P2/\P3/\P4/\P5/\P6/\P7/\P8/\P9)(k:P0->P1->P2->P3->P4->P5->P6->P7->P8->P9->G):G:=X4 h fun x0 x1 x2 x3 h=>Ep h fun x4 x5 x6 x7 x8 h=>k x0 x1 x2 x3 x4 x5 x6 x7 x8 h
theorem Ha{α β:Sort _}{P0 P1:α->Prop}{P2 P3 P4 P5 P6 P7:α->β->Prop}{G:Prop}(h:∃a,P0 a/\P1 a/\∃b,P2 a b/\P3 a b/\P4 a b/\P5 a b/\P6 a b/\P7 a b)(k:∀a,P0 a->P1 a->∀b,P2 a b->P3 a b->P4 a b->P5 a b->P6 a b->P7 a b->G):G:=Fl h fun x0 x1 x2 x3 h=>Ep h fun x4 x5 x6 x7 x8 h=>k x0 x1 x2 x3 x4 x5 x6 x7 x8 h
theorem GZ{α β γ δ:Sort _}{P0 P1 P2 P3 P4 P5:α->β->γ->δ->Prop}{G:Prop}(h:∃a,∃b,∃c,∃d,P0 a b c d/\P1 a b c d/\P2 a b c d/\P3 a b c d/\P4 a b c d/\P5 a b c d)(k:∀a,∀b,∀c,∀d,P0 a b c d->P1 a b c d->P2 a b c d->P3 a b c d->P4 a b c d->P5 a b c d->G):G:=Eo h fun x0 x1 x2 x3 h=>Ep h fun x4 x5 x6 x7 x8 h=>k x0 x1 x2 x3 x4 x5 x6 x7 x8 h
theorem Fk{α β γ δ ε:Sort _}{P0 P1:α->Prop}{P2 P3 P4 P5:α->β->γ->δ->ε->Prop}{G:Prop}(h:∃a,P0 a/\P1 a/\∃b,∃c,∃d,∃e,P2 a b c d e/\P3 a b c d e/\P4 a b c d e/\P5 a b c d e)(k:∀a,P0 a->P1 a->∀b,∀c,∀d,∀e,P2 a b c d e->P3 a b c d e->P4 a b c d e->P5 a b c d e->G):G:=Fl h fun x0 x1 x2 x3 h=>BK h fun x4 x5 x6 x7 x8 x9 h=>k x0 x1 x2 x3 x4 x5 x6 x7 x8 x9 h
theorem AP{α β γ δ ε ζ:Sort _}{P0 P1 P2 P3 P4 P5:α->β->γ->δ->ε->ζ->Prop}{G:Prop}(h:∃a,∃b,∃c,∃d,∃e,∃f,P0 a b c d e f/\P1 a b c d e f/\P2 a b c d e f/\P3 a b c d e f/\P4 a b c d e f/\P5 a b c d e f)(k:∀a,∀b,∀c,∀d,∀e,∀f,P0 a b c d e f->P1 a b c d e f->P2 a b c d e f->P3 a b c d e f->P4 a b c d e f->P5 a b c d e f->G):G:=Eo h fun x0 x1 x2 x3 h=>Gi h fun x4 x5 x6 x7 x8 x9 x10 h=>k x0 x1 x2 x3 x4 x5 x6 x7 x8 x9 x10 h
theorem Em{α β γ δ ε ζ η:Sort _}{P0 P1 P2 P3 P4:α->β->γ->δ->ε->ζ->η->Prop}{G:Prop}(h:∃a,∃b,∃c,∃d,∃e,∃f,∃g,P0 a b c d e f g/\P1 a b c d e f g/\P2 a b c d e f g/\P3 a b c d e f g/\P4 a b c d e f g)(k:∀a,∀b,∀c,∀d,∀e,∀f,∀g,P0 a b c d e f g->P1 a b c d e f g->P2 a b c d e f g->P3 a b c d e f g->P4 a b c d e f g->G):G:=En h fun x0 x1 x2 x3 x4 h=>Ir h fun x5 x6 x7 x8 x9 x10 h=>k x0 x1 x2 x3 x4 x5 x6 x7 x8 x9 x10 h
theorem Ah{P0 P1 P2 P3 P4 P5 P6 P7 P8 P9 P10 P11 P12:Prop}{G:Prop}(h:P0/\P1/\P2/\P3/\P4/\P5/\P6/\P7/\P8/\P9/\P10/\P11/\P12)(k:P0->P1->P2->P3->P4->P5->P6->P7->P8->P9->P10->P11->P12->G):G:=AD h fun x0 x1 x2 x3 x4 x5 h=>AD h fun x6 x7 x8 x9 x10 x11 h=>k x0 x1 x2 x3 x4 x5 x6 x7 x8 x9 x10 x11 h
theorem Cg{P0 P1 P2 P3 P4 P5 P6 P7 P8 P9 P10 P11 P12 P13:Prop}{G:Prop}(h:P0/\P1/\P2/\P3/\P4/\P5/\P6/\P7/\P8/\P9/\P10/\P11/\P12/\P13)(k:P0->P1->P2->P3->P4->P5->P6->P7->P8->P9->P10->P11->P12->P13->G):G:=AD h fun x0 x1 x2 x3 x4 x5 h=>Dp h fun x6 x7 x8 x9 x10 x11 x12 h=>k x0 x1 x2 x3 x4 x5 x6 x7 x8 x9 x10 x11 x12 h
theorem Y7{α β γ δ ε ζ η θ ι κ:Sort _}{P0 P1 P2 P3 P4 P5 P6 P7 P8:α->β->γ->δ->ε->ζ->η->θ->ι->κ->Prop}{G:Prop}(h:∃a,∃b,∃c,∃d,∃e,∃f,∃g,∃h,∃i,∃j,P0 a b c d e f g h i j/\P1 a b c d e f g h i j/\P2 a b c d e f g h i j/\P3 a b c d e f g h i j/\P4 a b c d e f g h i j/\P5 a b c d e f g h i j/\P6 a b c d e f g h i j/\P7 a b c d e f g h i j/\P8 a b c d e f g h i j)(k:∀a,∀b,∀c,∀d,∀e,∀f,∀g,∀h,∀i,∀j,P0 a b c d e f g h i j->P1 a b c d e f g h i j->P2 a b c d e f g h i j->P3 a b c d e f g h i j->P4 a b c d e f g h i j->P5 a b c d e f g h i j->P6 a b c d e f g h i j->P7 a b c d e f g h i j->P8 a b c d e f g h i j->G):G:=En h fun x0 x1 x2 x3 x4 h=>En h fun x5 x6 x7 x8 x9 h=>J3 h fun x10 x11 x12 x13 x14 x15 x16 x17 h=>k x0 x1 x2 x3 x4 x5 x6 x7 x8 x9 x10 x11 x12 x13 x14 x15 x16 x17 h
theorem iAA{P0 P1 P2:Prop}(h0:P0)(h1:P1)(h2:P2):P0/\P1/\P2:=⟨h0,h1,h2⟩
theorem iEA{α:Sort _}{P0 P1:α->Prop}(a:α)(h0:P0 a)(h1:P1 a):∃a,P0 a/\P1 a:=⟨a,h0,h1⟩
theorem iEE{α β:Sort _}{P0:α->β->Prop}(a:α)(b:β)(h0:P0 a b):∃a,∃b,P0 a b:=⟨a,b,h0⟩
theorem Js{P0 P1 P2 P3:Prop}(h0:P0)(h1:P1)(h2:P2)(h3:P3):P0/\P1/\P2/\P3:=⟨h0,h1,h2,h3⟩
theorem OU{α:Sort _}{P0 P1:Prop}{P2:α->Prop}(h0:P0)(h1:P1)(a:α)(h2:P2 a):P0/\P1/\∃a,P2 a:=⟨h0,h1,a,h2⟩
theorem OT{α:Sort _}{P0:Prop}{P1 P2:α->Prop}(h0:P0)(a:α)(h1:P1 a)(h2:P2 a):P0/\∃a,P1 a/\P2 a:=⟨h0,a,h1,h2⟩
theorem V8{α:Sort _}{P0 P1 P2:α->Prop}(a:α)(h0:P0 a)(h1:P1 a)(h2:P2 a):∃a,P0 a/\P1 a/\P2 a:=⟨a,h0,h1,h2⟩
theorem Bm{α β:Sort _}{P0 P1:α->β->Prop}(a:α)(b:β)(h0:P0 a b)(h1:P1 a b):∃a,∃b,P0 a b/\P1 a b:=⟨a,b,h0,h1⟩
theorem Ng{α β γ:Sort _}{P0:α->β->γ->Prop}(a:α)(b:β)(c:γ)(h0:P0 a b c):∃a,∃b,∃c,P0 a b c:=⟨a,b,c,h0⟩
theorem Ft{P0 P1 P2 P3 P4:Prop}(h0:P0)(h1:P1)(h2:P2)(h3:P3)(h4:P4):P0/\P1/\P2/\P3/\P4:=⟨h0,h1,h2,h3,h4⟩
theorem BO{α:Sort _}{P0 P1 P2 P3:α->Prop}(a:α)(h0:P0 a)(h1:P1 a)(h2:P2 a)(h3:P3 a):∃a,P0 a/\P1 a/\P2 a/\P3 a:=⟨a,h0,h1,h2,h3⟩
theorem Fq{α β:Sort _}{P0 P1:α->Prop}{P2:α->β->Prop}(a:α)(h0:P0 a)(h1:P1 a)(b:β)(h2:P2 a b):∃a,P0 a/\P1 a/\∃b,P2 a b:=⟨a,h0,h1,b,h2⟩
theorem H5{α β:Sort _}{P0 P1 P2:α->β->Prop}(a:α)(b:β)(h0:P0 a b)(h1:P1 a b)(h2:P2 a b):∃a,∃b,P0 a b/\P1 a b/\P2 a b:=⟨a,b,h0,h1,h2⟩
theorem Hh{α β γ:Sort _}{P0 P1:α->β->γ->Prop}(a:α)(b:β)(c:γ)(h0:P0 a b c)(h1:P1 a b c):∃a,∃b,∃c,P0 a b c/\P1 a b c:=⟨a,b,c,h0,h1⟩
theorem Ke{α β γ δ:Sort _}{P0:α->β->γ->δ->Prop}(a:α)(b:β)(c:γ)(d:δ)(h0:P0 a b c d):∃a,∃b,∃c,∃d,P0 a b c d:=⟨a,b,c,d,h0⟩
theorem Nh{α:Sort _}{P0 P1 P2:Prop}{P3 P4:α->Prop}(h0:P0)(h1:P1)(h2:P2)(a:α)(h3:P3 a)(h4:P4 a):P0/\P1/\P2/\∃a,P3 a/\P4 a:=⟨h0,h1,h2,a,h3,h4⟩
theorem IR{α β:Sort _}{P0 P1 P2 P3:α->β->Prop}(a:α)(b:β)(h0:P0 a b)(h1:P1 a b)(h2:P2 a b)(h3:P3 a b):∃a,∃b,P0 a b/\P1 a b/\P2 a b/\P3 a b:=⟨a,b,h0,h1,h2,h3⟩
theorem Gp{α β γ δ:Sort _}{P0 P1:α->β->γ->δ->Prop}(a:α)(b:β)(c:γ)(d:δ)(h0:P0 a b c d)(h1:P1 a b c d):∃a,∃b,∃c,∃d,P0 a b c d/\P1 a b c d:=⟨a,b,c,d,h0,h1⟩
theorem Fs{P0 P1 P2 P3 P4 P5 P6:Prop}(h0:P0)(h1:P1)(h2:P2)(h3:P3)(h4:P4)(h5:P5)(h6:P6):P0/\P1/\P2/\P3/\P4/\P5/\P6:=⟨h0,h1,h2,h3,h4,h5,h6⟩
theorem Fp{α β:Sort _}{P0 P1 P2 P3 P4:α->β->Prop}(a:α)(b:β)(h0:P0 a b)(h1:P1 a b)(h2:P2 a b)(h3:P3 a b)(h4:P4 a b):∃a,∃b,P0 a b/\P1 a b/\P2 a b/\P3 a b/\P4 a b:=⟨a,b,h0,h1,h2,h3,h4⟩
theorem Fo{α β γ:Sort _}{P0 P1 P2 P3:α->β->γ->Prop}(a:α)(b:β)(c:γ)(h0:P0 a b c)(h1:P1 a b c)(h2:P2 a b c)(h3:P3 a b c):∃a,∃b,∃c,P0 a b c/\P1 a b c/\P2 a b c/\P3 a b c:=⟨a,b,c,h0,h1,h2,h3⟩
theorem IQ{α β γ δ:Sort _}{P0 P1 P2:α->β->γ->δ->Prop}(a:α)(b:β)(c:γ)(d:δ)(h0:P0 a b c d)(h1:P1 a b c d)(h2:P2 a b c d):∃a,∃b,∃c,∃d,P0 a b c d/\P1 a b c d/\P2 a b c d:=⟨a,b,c,d,h0,h1,h2⟩
theorem BL{α:Type _}{c z:α}{l:List α}(h:c∉l)(m:z∈l):c≠z:=fun e=>h (e ▸ m)
theorem lm0{α:Type _}{a:α}{l:List α}:a∈a::l:= .head _
theorem lm1{α:Type _}{a b:α}{l:List α}:b∈a::b::l:= .tail _ lm0
theorem lm2{α:Type _}{a b c:α}{l:List α}:c∈a::b::c::l:= .tail _ lm1
theorem lm3{α:Type _}{a b c d:α}{l:List α}:d∈a::b::c::d::l:= .tail _ lm2
theorem lm4{α:Type _}{a b c d e:α}{l:List α}:e∈a::b::c::d::e::l:= .tail _ lm3
theorem lm5{α:Type _}{a b c d e f:α}{l:List α}:f∈a::b::c::d::e::f::l:= .tail _ lm4
theorem lm6{α:Type _}{a b c d e f g:α}{l:List α}:g∈a::b::c::d::e::f::g::l:= .tail _ lm5
theorem lm7{α:Type _}{a b c d e f g h:α}{l:List α}:h∈a::b::c::d::e::f::g::h::l:= .tail _ lm6
theorem lm8{α:Type _}{a b c d e f g h i:α}{l:List α}:i∈a::b::c::d::e::f::g::h::i::l:= .tail _ lm7
theorem fa5{α:Type _}{P:α->Prop}{a b c d e:α}(h0:P a)(h1:P b)(h2:P c)(h3:P d)(h4:P e)(x:α)(h:x∈[a,b,c,d,e]):P x:=
 Qs.mpr ⟨h0,Qs.mpr ⟨h1,Qs.mpr ⟨h2,Qs.mpr ⟨h3,Qs.mpr ⟨h4,QK _⟩⟩⟩⟩⟩ x h
theorem gl{α:Sort _}{N:α->Prop}{a:α}(k:∀P:α->Prop,(∀x,N x->P x)->P a):N a:=k N fun _ h=>h
theorem gl2{α β:Sort _}{N:α->β->Prop}{a:α}{b:β}(k:∀P:α->β->Prop,(∀x y,N x y->P x y)->P a b):N a b:=k N fun _ _ h=>h
theorem zs1{α:Type _}{a:Option α}{o:α}{P:Prop}(h1:a=none)(h2:a=some o):P:=by rw[h1] at h2;cases h2
theorem nmA{α:Type _}{c:α}{l:List α}(h:∀x∈l,c≠x):c∉l:=fun m=>h c m rfl
theorem fa2{α:Type _}{P:α->Prop}{a b:α}(h0:P a)(h1:P b)(x:α)(h:x∈[a,b]):P x:=
 Qs.mpr ⟨h0,Qs.mpr ⟨h1,QK _⟩⟩ x h
theorem fa3{α:Type _}{P:α->Prop}{a b c:α}(h0:P a)(h1:P b)(h2:P c)(x:α)(h:x∈[a,b,c]):P x:=
 Qs.mpr ⟨h0,Qs.mpr ⟨h1,Qs.mpr ⟨h2,QK _⟩⟩⟩ x h
theorem fa4{α:Type _}{P:α->Prop}{a b c d:α}(h0:P a)(h1:P b)(h2:P c)(h3:P d)(x:α)(h:x∈[a,b,c,d]):P x:=
 Qs.mpr ⟨h0,Qs.mpr ⟨h1,Qs.mpr ⟨h2,Qs.mpr ⟨h3,QK _⟩⟩⟩⟩ x h
theorem fa7{α:Type _}{P:α->Prop}{a b c d e f g:α}(h0:P a)(h1:P b)(h2:P c)(h3:P d)(h4:P e)(h5:P f)(h6:P g)(x:α)(h:x∈[a,b,c,d,e,f,g]):P x:=
 Qs.mpr ⟨h0,Qs.mpr ⟨h1,Qs.mpr ⟨h2,Qs.mpr ⟨h3,Qs.mpr ⟨h4,Qs.mpr ⟨h5,Qs.mpr ⟨h6,QK _⟩⟩⟩⟩⟩⟩⟩ x h
theorem fa9{α:Type _}{P:α->Prop}{a b c d e f g h i:α}(h0:P a)(h1:P b)(h2:P c)(h3:P d)(h4:P e)(h5:P f)(h6:P g)(h7:P h)(h8:P i)(x:α)(h:x∈[a,b,c,d,e,f,g,h,i]):P x:=
 Qs.mpr ⟨h0,Qs.mpr ⟨h1,Qs.mpr ⟨h2,Qs.mpr ⟨h3,Qs.mpr ⟨h4,Qs.mpr ⟨h5,Qs.mpr ⟨h6,Qs.mpr ⟨h7,Qs.mpr ⟨h8,QK _⟩⟩⟩⟩⟩⟩⟩⟩⟩ x h
theorem Pg{α:Type _}{a b c d:α}(h: #[a,b]= #[c,d]):a=c/\b=d:=
 have g (i:Nat):=congrArg (fun x:Array α=>x[i]?) h;⟨RZ (g 0),RZ (g 1)⟩
theorem arr3{α:Type _}{a b c d e f:α}(h: #[a,b,c]= #[d,e,f]):a=d/\b=e/\c=f:=
 have g (i:Nat):=congrArg (fun x:Array α=>x[i]?) h;⟨RZ (g 0),RZ (g 1),RZ (g 2)⟩
theorem toA{α:Type _}{l:List α}{i:Nat}{z:α}(h:l.toArray[i]? =some z):l[i]? =some z:=by simpa using h
theorem izB{P:Int->Prop}{c:Int}{k:Nat}(h0:0<=c)(h1:c<k)(d:∀n:Nat,n<k->P n):P c:=by
 obtain⟨n,rfl⟩:=Int.eq_ofNat_of_zero_le h0;exact d n (Ti.mp h1)
theorem iaB{P:Int->Prop}{c:Int}{k:Nat}(h:c.natAbs<=k)(d:∀n:Nat,n<=k->P n/\P (-n)):P c:=by
 rcases Int.natAbs_eq c with e|e <;> rw[e]
 ·exact(d _ h).1
 ·exact(d _ h).2
theorem Pk{a b c d k m:Nat}(h1:a<=k)(h2:b<=k)(h3:c<=k)(h4:d<=k)(e:k+(k+(k+(k+0)))<=m):a+(b+(c+(d+0)))<=m:=
 Td (Sx h1 (Sx h2 (Sx h3 (Sx h4 (TA 0))))) e
theorem ij0(i j:Nat):(0:Int)<=0+i+(0+j):=by rw[Th,Th];exact Sz (QV i) (QV j)
theorem ijl{i j n a b:Nat}(hi:i<a)(hj:j<b)(h:n=a+b-1):(0:Int)+i+(0+j)<n:=by
 rw[Th,Th,h]
 have k:=Nat.add_lt_add_of_le_of_lt hi hj
 rw[Nat.succ_eq_add_one,Nat.add_right_comm] at k
 exact Ti.2 (Nat.lt_sub_of_add_lt k)
theorem s63{a b:Nat}(h:a<100)(k:b<100):(a:Int)+b-1<2 ^ 63:=
 Ts (Int.sub_lt_self _ (by decide)) (Ts (Int.add_lt_add (Ti.2 h) (Ti.2 k)) (by decide))
theorem sl1{z p k a b:Nat}(h:z-p<k+1)(h1:p<=a)(h2:a<b)(h3:b<=z):z-b<k:=
 QR (Nat.sub_lt_sub_left (QR (QS h1 h2) h3) (QS h1 h2)) (Nat.le_of_lt_succ h)
theorem sl3{S p a:Nat}(h:S<=20*p)(k:p<a):S+(a-p+0)<=20*a:=
 Td (Sx h (Nat.le_mul_of_pos_left (a-p) (by decide:0<20))) (Tn (by rw[←Nat.mul_add,QL (Tr k)]))
theorem sl4{S p z:Nat}(h0:z<=3000)(h:S<=20*p)(k:p<z):S+(z-p+0)<=100000:=
 Td (Sx (Td h (QF 20 (Td (Tr k) h0))) (Td (Nat.sub_le z p) h0)) (by decide)
theorem iz0{v:Int}(a:¬0<v)(b:¬v<0):v=0:=Int.le_antisymm (Int.not_lt.mp a) (Int.not_lt.mp b)
theorem na1{k:Int}(h:k.natAbs=1):k=1\/k= -1:=by
 rcases Int.natAbs_eq k with e|e <;> rw[h] at e
 ·exact .inl e
 ·exact .inr e
theorem n012:(n:Nat)->n=0\/n=1\/2<=n:=fun n=>by
 rcases n with _|_|n
 ·exact .inl rfl
 ·exact .inr (.inl rfl)
 ·exact .inr (.inr (Nat.le_add_left 2 n))
theorem pl1{b c L Z:Nat}(h:b<=c)(h1:(c+1)*8<=Z)(h2:Z<=2 ^ 26)(h3:L<=6*(c+1)):b+L+c<=2 ^ 27:=by
 have e:(c+1)+6*(c+1)+(c+1)=(c+1)*8:=by
  generalize c+1=m
  rw[Tt m (6*m)]
  exact((Nat.mul_comm m 8).trans ((Tw 7 m).trans (congrArg (· +m) (Tw 6 m)))).symm
 exact Td (Sx (Sx (Td h (TG c)) h3) (TG c)) (Td (Tn e) (Td h1 (Td h2 (by decide))))
theorem pl2{c Z:Nat}(h:(c+1)*8<=Z):c<=Z:=Td (Td (TG c) (Nat.le_mul_of_pos_right _ (by decide))) h
theorem pl3{b c:Nat}(h:b<=c):b+6*(c+1)+1<=(c+1)*8:=by
 have e:c+6*(c+1)+1=7*(c+1):=by rw[Tt c,SP];exact(Tw 6 (c+1)).symm
 refine Td (Nat.succ_le_succ (Qz h _)) (Td (Tn e) ?_)
 rw[Nat.mul_comm];exact QF _ (by decide)
theorem pl4{x y b c K:Nat}(hx:x<=b)(hy:y<=c)(h:b+K+c<=2 ^ 27):x+y<=2 ^ 27:=Td (Sx (Td hx (RD b K)) hy) h
theorem pl5{b c K M:Nat}(h:b+(K+(c+1))+c<=M):b+c+1+K+c<=M:=by
 have e:b+c+1+K=b+(K+(c+1)):=by rw[Tt K, ←SP, ←SP]
 rw[e];exact h
theorem ij63{i j a b:Nat}(hi:i<a)(ha:a<100)(hj:j<b)(hb:b<100):(0:Int)+i+(0+j)<2 ^ 63:=by
 rw[Th,Th];exact Ts (Int.add_lt_add (Ti.2 (Tf hi ha)) (Ti.2 (Tf hj hb))) (by decide)
theorem s1M{a b:Nat}(h:a<100)(k:b<100):(a:Int)+b-1<=((1048576:Nat):Int):=
 Int.le_of_lt (Ts (Int.sub_lt_self _ (by decide)) (Ts (Int.add_lt_add (Ti.2 h) (Ti.2 k)) (by decide)))
theorem smin(a b:Nat): -2 ^ 63<=(a:Int)+b-1:=Int.le_trans (by decide:(-2 ^ 63:Int)<=0-1) (Int.sub_le_sub_right (Sz (QV a) (QV b)) 1)
theorem ib27{b i n:Nat}(h:b<=2 ^ 26)(hi:i<n)(hn:n<100):(b:Int)+(0+i)<=2 ^ 27:=by
 rw[Th];exact Int.le_trans (Int.add_le_add (Int.ofNat_le.2 h) (Int.le_of_lt (Ti.2 (Tf hi hn)))) (by decide)
theorem se0{p z:Nat}(h:p=z):z<p\/z-p=0:= .inr (by rw[h,Nat.sub_self])
theorem se1{p z:Nat}(h:p<=z)(n:¬p=z):p<=z∧¬z-p=0:=⟨h,Nat.sub_ne_zero_of_lt (Nat.lt_of_le_of_ne h n)⟩
theorem se2{p z:Nat}(h:p=z):z-p=0:=by rw[h,Nat.sub_self]
theorem se3{p z:Nat}(h:p<=z):z-p<z+1-p:=by rw[Nat.succ_sub h];exact RC _
theorem se4(p z:Nat):3*(z-p)+6<=3*z+6:=Qz (QF 3 (Nat.sub_le z p)) 6
theorem fi0{i z k:Nat}{P:Prop}(h:z-k=0)(a:k<=i)(b:i<z):P:=absurd b (TY.mpr (Td (Nat.le_of_sub_eq_zero h) a))
theorem asz{a p z:Nat}(h:a<p+(z-p))(hp:p<=z):a<z:=by rw[QL hp] at h;exact h
theorem aks{i s k:Nat}(h:i<s+(k+1)):i<s+1+k:=by rw[SP,Tt 1];exact h
theorem akt{i s k:Nat}(h:i<s+1+k):i<s+(k+1):=by rw[SP,Tt 1] at h;exact h
theorem ad1(p d:Nat):p+1+d=p+(d+1):=by rw[SP,Tt 1]
theorem sle{s i:Nat}(h:s<=i)(e:¬i=s):s+1<=i:=Nat.lt_of_le_of_ne h (fun x=>e x.symm)
theorem bd1{x k c m:Nat}(h:x<=k)(e:k+(k+1)*c<=m):x+(x+1)*c<=m:=Td (Sx h (Qx c (Nat.succ_le_succ h))) e
theorem bd2{x k c m:Nat}(h:x<=k)(e:c+k<=m):c+x<=m:=Td (QJ h c) e
theorem bd3{x k c m:Nat}(h:x<=k)(e:k+c<=m):x+c<=m:=Td (Qz h c) e
theorem bd4{x s k c d m:Nat}(h:x<=s+d)(h2:s<=k)(e:c+(k+d)<=m):c+x<=m:=Td (QJ (Td h (Qz h2 d)) c) e
theorem tq0{a b:Nat}(h:a+1+1+1+1<=b):a<b:=QR (Qd (by decide:0<4)) h
theorem tq1{a b:Nat}(h:a+1+1+1+1<=b):a+1<b:=QR (Qd (by decide:0<3)) h
theorem tq2{a b:Nat}(h:a+1+1+1+1<=b):a+1+1<b:=QR (Qd (by decide:0<2)) h
theorem tq3{a b:Nat}(h:a+1+1+1+1<=b):a+1+1+1<b:=h
theorem npo{a b:Nat}(h:a+1<=b):0<b:=QR (Nat.zero_lt_succ _) h
theorem nge{n k:Nat}{c:Int}(h:n<=k)(d:(k:Int)<c):¬(n:Int)>=c:=Int.not_le.mpr (leI h d)
end Mine
end
theorem Mine.set_common:True:=by
 k_with "ar"=>with_reducible first|assumption|((show @Ne Nat _ _);first|exact Te (npo ‹_›)|exact Ne.symm ‹_›|exact cg0 ‹_›|exact dg0 ‹_›|exact cl0 ‹_›|exact dl0 ‹_›|exact cg1 ‹_›|exact dg1 ‹_›|exact cl1 ‹_›|exact dl1 ‹_›|exact cg2 ‹_›|exact dg2 ‹_›|exact cl2 ‹_›|exact dl2 ‹_›|exact cg3 ‹_›|exact dg3 ‹_›|exact cl3 ‹_›|exact dl3 ‹_›|exact cg4 ‹_›|exact dg4 ‹_›|exact cl4 ‹_›|exact dl4 ‹_›|exact cg5 ‹_›|exact dg5 ‹_›|exact cl5 ‹_›|exact dl5 ‹_›|exact cg6 ‹_›|exact dg6 ‹_›|exact cl6 ‹_›|exact dl6 ‹_›|exact cg7 ‹_›|exact dg7 ‹_›|exact cl7 ‹_›|exact dl7 ‹_›|exact cg8 ‹_›|exact dg8 ‹_›|exact cl8 ‹_›|exact dl8 ‹_›|exact nn1 _|exact nm1 _|exact nn2 _|exact nm2 _|exact nn3 _|exact nm3 _|exact nn4 _|exact nm4 _|exact nn5 _|exact nm5 _|exact nn6 _|exact nm6 _|exact nn7 _|exact nm7 _|exact nn8 _|exact nm8 _|exact nn9 _|exact nm9 _|exact PD _|exact nm10 _|exact PC _|exact nm11 _|exact Nat.succ_ne_zero _)|((show @LT.lt Nat _ _ _);first|exact Nat.lt_of_sub_eq_succ ‹_›|exact npo ‹_›|exact tq0 ‹_›|exact tq1 ‹_›|exact tq2 ‹_›|exact tq3 ‹_›|exact asz ‹_› ‹_›|exact aks ‹_›|exact akt ‹_›|exact Qd (Nat.succ_pos _)|exact Int.natAbs_pos.mpr ‹_›|exact un3 ‹_› (by decide)|exact ro2 ‹_› (by decide)|exact ro1 ‹_› (by decide)|exact ro0 ‹_›|exact ltT ‹_› (by decide)|exact leT ‹_› (by decide)|exact eqT ‹_› (by decide)|exact RC _|exact Nat.succ_pos _|exact Tf ‹_› ‹_›|exact QR ‹_› ‹_›|exact QS ‹_› ‹_›|exact QS (TC _) ‹_›|exact Nat.pos_of_ne_zero ‹_›|exact sn1 ‹_› ‹_›|exact sn2 ‹_› ‹_› (by decide)|exact sb1 ‹_›|exact sb2 ‹_›|exact tl0 ‹_›|exact tl1 ‹_›|decide)|((show @LE.le Nat _ _ _);first|exact Nat.le_of_sub_eq_zero ‹_›|exact bd1 ‹_› (by decide)|exact bd2 ‹_› (by decide)|exact bd3 ‹_› (by decide)|exact bd4 ‹_› ‹_› (by decide)|exact RD _ _|exact TC _|exact Nat.succ_le_of_lt ‹_›|exact sle ‹_› ‹_›|decide|exact ltL ‹_› (by decide)|exact leL ‹_› (by decide)|exact sn3 ‹_› ‹_› (by decide)|exact sn4 ‹_› ‹_›|exact tml ‹_› (by decide)|exact eqL ‹_› (by decide)|exact TA _|exact TG _|exact Tr ‹_›|exact Td ‹_› ‹_›)|((show @LT.lt Int _ _ _);first|exact ltI ‹_› (by decide)|exact leI ‹_› (by decide)|exact eqI ‹_› (by decide)|exact eqJ ‹_› (by decide)|exact i0p ‹_›|exact i0q ‹_›|exact ilt ‹_›|exact OS ‹_›|exact ilu ‹_› (by decide)|exact ilx ‹_› ‹_› (by decide)|exact ilv ‹_› ‹_› (by decide)|exact ilw ‹_› ‹_› (by decide)|exact nq1 ‹_› (by decide)|exact nq2 ‹_› (by decide)|exact OM ‹_› (by decide)|exact PE ‹_› (by decide)|decide)|((show @LE.le Int _ _ _);first|exact Int.ofNat_le.2 ‹_›|exact i00 _|exact i01 _|exact i02 _|exact ile _|exact ngL _ (by decide)|decide)|((show @Eq Nat _ _);first|exact(Nat.sub_add_cancel ‹_›).symm|exact(QL ‹_›).symm|exact(QL (Tr ‹_›)).symm|exact pp1 (QS (TC _) ‹_›)|exact(SP _ _ _).symm|exact ad1 _ _|exact QL ‹_›|exact sb3 ‹_›|exact tn0 _|exact pp1 ‹_›|exact Eq.symm ‹_›|rfl)|((show And _ _);exact nabA ‹_› (by decide))|((show @Ne Int _ _);first|exact Int.ne_of_gt ‹_›|exact Int.ne_of_lt ‹_›)|((show @Eq Int _ _);first|exact iz0 ‹_› ‹_›|exact Int.natAbs_eq_zero.mp ‹_›|exact Int.natAbs_of_nonneg (Int.le_of_lt ‹_›)|exact Int.ofNat_natAbs_of_nonpos (Int.not_lt.mp ‹_›))|((show Not (@LT.lt Int _ _ _));exact Int.lt_asymm ‹_›)|((show Not (@GE.ge Int _ _ _));exact nge ‹_› (by decide))|fail
 k_with "ne"=>(haveI:=neCx;haveI:=neW;haveI:=neA;haveI:=neSh;haveI:=neM;set_option synthInstance.maxSize 100000 in set_option synthInstance.maxHeartbeats 1000000 in infer_instance)
 k_with "eval IfExp"=>k_fold
 k_with "eval Call"=>k_fold
 k_with "eval List"=>k_fold
 k_with "eval Subscript"=>k_fold
 k_with "eval Call Attribute"=>k_fold
 k_with "eval BinOp"=>k_fold
 k_with "eval Name"=>(k_here;k_inBlock;k_dflt (first|(refine' LJ ?k1 ?k2 ?k3 ?k4 ?_ ?k5 ?k6 ?k7 ?k8;(case k5=>exact rfl);(case k6=>exact rfl);(case k7=>with_unfolding_all rfl);(case k8=>decide);(case k1=>k_asm);(case k3=>assumption);(case k2=>k_mem);(case k4=>first|assumption|exact rfl);k_whole)|(refine' JW ?k1 ?k2 ?k3 ?k4 ?_ ?k6 ?k7 ?k8;(case k6=>exact rfl);(case k7=>with_unfolding_all rfl);(case k8=>decide);(case k1=>k_asm);(case k2=>exact rfl);(case k3=>k_mem);(case k4=>assumption);k_whole)|(refine' JV ?k1 ?k2 ?k3 ?k4 ?_ ?k6 ?k7 ?k8 ?k9;(case k6=>exact rfl);(case k7=>with_unfolding_all rfl);(case k8=>decide);(case k9=>decide);(case k1=>k_asm);(case k2=>exact rfl);(case k3=>k_mem);(case k4=>assumption);k_whole)|(refine' JU ?k1 ?k2 ?k3 ?k4 ?_ ?k5 ?k6 ?k7 ?k8;(case k5=>exact rfl);(case k6=>exact rfl);(case k7=>with_unfolding_all rfl);(case k8=>decide);(case k1=>k_asm);(case k2=>k_asm);(case k3=>k_asm);(case k4=>k_is);k_whole)|(refine' Iw ?k1 ?k2 ?k3 ?k4 ?k5 ?k6 ?_ ?k7 ?k8 ?k9 ?k10 ?k11;(case k7=>exact rfl);(case k8=>exact rfl);(case k9=>exact rfl);(case k10=>with_unfolding_all rfl);(case k11=>decide);(case k1=>k_asm);(case k2=>k_asm);(case k3=>k_asm);(case k4=>k_is);(case k5=>boot_by_name);(case k6=>decide);k_whole)))
 k_with "mem"=>first|(with_reducible assumption)|exact SI _|(refine List.mem_cons_of_mem _ ?_;k_extra "mem")|(refine RS.mpr (.inl ?_);k_extra "mem")|(refine RS.mpr (.inr ?_);k_extra "mem")
 k_with "FnAt"=>(k_dflt (exact KV (by assumption) (Fr.keep (by k_asm))))
 k_with "sm"=>first|exact O4.refl|(refine O4.put (by with_reducible first|exact lm0|exact lm1|exact lm2|exact lm3|exact lm4|exact lm5) ?_;k_extra "sm")
 k_with "u"=>((case u1=>k_asm);(case u2=>k_asm);(case u3=>k_asm);(case u4=>k_asm);(case u5=>k_asm);(case u6=>k_asm);(case u7=>first|exact rfl|assumption);(case u8=>first|decide|ktr_room);(case u9=>first|decide|ktr_units))
 k_with "ur"=>with_unfolding_all rfl
 trivial
section
open PySem PySem.W PySem.Calls PyProof.Rows
namespace Mine
noncomputable def Sh.h0.tw4197214743866051151:UF:=PySem.Challenge.pw_wy0012_01
theorem Sh.h0.te4197214743866051151:PySem.Challenge.pw_wy0012_01=Sh.h0.tw4197214743866051151:=rfl
set_option Elab.async true in
theorem Sh.h0:PySem.Challenge.rw_wy0012_01.prog.parses.isEmpty=true:=by k_qdec
theorem Sh.h0_done:True:=by have:= @Sh.h0.te8560591636118847321;trivial
noncomputable def dec:Vj->Bool
 | .builtin i _=>PP.contains i
 |_=>false
noncomputable def DS(Γ:Us):Prop:=dec Γ.code=false/\∀x∈Γ.below,dec x.1=false
noncomputable def ClK(k:Bool)(Γ:Us):Prop:=k=true->DS Γ
noncomputable def wpK(k:Bool){α:Type}(M:Vc)(A:UP)(t:Sem α)(Q:α->UO->Prop)(E:UX->UO->Prop)(s:UO):Prop:=
 ∀Γ p,Γ.In A->ClK k Γ->t.wp M Γ (fun a _ s'=>Q a s') (fun e _ s'=>E e s') p s
noncomputable abbrev wpP{α:Type}(M:Vc)(A:UP)(t:Sem α)(Q:α->UO->Prop)(E:UX->UO->Prop)(s:UO):Prop:=wpK true M A t Q E s
theorem EN:DS (⟨.builtin "claim.caller" {},none,none,[],none⟩:Us):=⟨by show PP.contains "claim.caller"=false;decide+kernel,fun x hx=>nomatch hx⟩
section
variable{kb:Bool}{α β:Type}{M:Vc}{A:UP}{E:UX->UO->Prop}{s:UO}
theorem wpP.of{t:Sem α}{Q:α->UO->Prop}(h:UY M A t Q E s):wpK kb M A t Q E s:=fun Γ p hΓ Z=>h Γ p hΓ
theorem wpK.any{t:Sem α}{Q:α->UO->Prop}(h:wpK false M A t Q E s):UY M A t Q E s:=fun Γ p hΓ=>h Γ p hΓ fun e=>nomatch e
theorem wpP.mono{t:Sem α}{Q Q':α->UO->Prop}{E':UX->UO->Prop}(h:wpK kb M A t Q E s)(hQ:∀a s,Q a s->Q' a s)(hE:∀e s,E e s->E' e s):wpK kb M A t Q' E' s:=
 fun Γ p hΓ hc=>Sem.wp_mono M Γ t (fun a Z s=>hQ a s) (fun e Z s=>hE e s) p s (h Γ p hΓ hc)
theorem wpP.bind{m:Sem α}{f:α->Sem β}{Q:β->UO->Prop}(h:wpK kb M A m (fun a s'=>wpK kb M A (f a) Q E s') E s):wpK kb M A (m>>=f) Q E s:=fun Γ p hΓ hc=>by
 rw[Sem.wp_bind']
 exact Sem.wp_mono M Γ m (fun a p' s' h'=>h' Γ p' hΓ hc) (fun Z Z Z h'=>h') p s (h Γ p hΓ hc)
theorem wpP.bindA{m:Sem α}{f:α->Sem β}{Q:β->UO->Prop}(h:UY M A m (fun a s'=>wpK kb M A (f a) Q E s') E s):wpK kb M A (m>>=f) Q E s:=wpP.bind (wpP.of h)
end
theorem EM{prog:UF}{w:Va}{n:Vk}{vs:List UX}{s:UO}{mg:Vk->Option UX}{f:UX}{R:UT->UO->Prop}(hreg:s.asleep)(hg:s.heap.Ns TM mg)(hf:mg n=some f)
  (h:wpP (UZ prog w) callerA (PySem.call f vs) (fun v s'=>R (.ok (.ret v)) s'/\AllBare s'.gens) (fun e s'=>R (.error e) s'/\AllBare s'.gens) s):
  ∃k r s' s'',runN (denote table) prog w k s (callStub n vs)= .halted (outcomeOf r) s'/\
   schedN (denote table) prog w k (.single s (callStub n vs))= .halted (outcomeOf r) s'/\s'.forget=s''.forget/\R r s'':=by
 have ht:wpP (UZ prog w) callerA (do match←nsGet mainNs n with
   |some f=>do ret (←PySem.call f vs)
   |none=>unsupported "claim.caller:no-such-global") (fun fin s'=>∃fl,fin= .done fl/\(R (.ok fl) s'/\leftWithCleanup s'.gens=false)) (fun e s'=>R (.error e) s'/\leftWithCleanup s'.gens=false) s:=
  wpP.bindA (wpAny_nsGet hg (by
   rw[hf]
   exact wpP.bind (wpP.mono h (fun v s' x=>wpP.of (TR (V8 _ rfl x.1 (leftWithCleanup_false_of_bare x.2)))) fun e s' x=>⟨x.1,leftWithCleanup_false_of_bare x.2⟩)))
 have hw:Sem.wp (UZ prog w) ⟨.builtin "claim.caller" {},none,none,[],none⟩ (callStub n vs).cur (Sem.finPost (UZ prog w) ⟨.builtin "claim.caller" {},none,none,[],none⟩ fun r s'=>R r s'/\leftWithCleanup s'.gens=false)
   (fun e Z s'=>R (.error e) s'/\leftWithCleanup s'.gens=false) default s:=by
  refine Sem.wp_mono (UZ prog w) _ _ (fun fin p' s' h'=>?_) (fun Z Z Z h'=>h') default s (ht _ default caller_in fun _=>EN)
  (refine oEA h' fun fl o0_ hl=>?_;clear h';obtain rfl:=o0_)
  exact hl
 refine C6 (wp_halts_full (M:=UZ prog w) (R:=R) hreg hw) fun k r s₁ s₂ hs hn hfo hR=>?_
 exact⟨k,r,s₂,s₁,hn,hs,hfo,hR⟩
noncomputable abbrev Pi(q:UF)(loose:List Vk)(XP:(Vk->Option UX)->Vg->Prop)(YP:Va->Vg->Prop)(r:RowW)(d:DefRec)(kwd:List (Vk×Vh)):Prop:=
 ∀(w:Va)(s₀ s₁:UO)(mg mb:Vk->Option UX),Ground q loose r.records XP w s₀ mg mb s₁.heap->YP w s₁.heap->∀(a:Vf)(o:Vl)(pm cd doc dV kV:UX),s₁.heap.get? a=some o->
  o.data= .func {docDef d.name d.params d.body d.scope pm cd doc with defaults:=dV,kwdefaults:=kV}->s₁.heap.CodeRec cd d.name->Dflts mg s₁.heap d.params kwd dV kV->mg d.name=some (.ref a)->s₁.gens= #[]->
  ∀(args:List WData)(vals:List UX)(as:List Vf),r.claim.pre args=true->WData.layableAll args=true->ReadsAllW r.records (classAt s₀.heap) s₁.heap vals args as->WellAll w.params s₁.heap vals args->(∀a∈as,(a == sysModules)=false)->
   wpP (UZ r.prog w) callerA (PySem.call (.ref a) vals) (fun v s'=>GoodWG r.claim (classAt s₀.heap) (UH.means s₀.heap) args s₁ (.ok (.ret v)) s')
    (fun e s'=>GoodWG r.claim (classAt s₀.heap) (UH.means s₀.heap) args s₁ (.error e) s') s₁
theorem EB{α β γ δ ε:Sort _}{P0:α->β->Prop}{P1 P2 P3 P4 P5 P6:α->β->γ->δ->ε->Prop}(a:α)(b:β)(h0:P0 a b)(c:γ)(d:δ)(e:ε)(h1:P1 a b c d e)(h2:P2 a b c d e)(h3:P3 a b c d e)(h4:P4 a b c d e)(h5:P5 a b c d e)(h6:P6 a b c d e):∃a b,P0 a b/\∃c d e,P1 a b c d e/\P2 a b c d e/\P3 a b c d e/\P4 a b c d e/\P5 a b c d e/\P6 a b c d e:=⟨a,b,h0,c,d,e,h1,h2,h3,h4,h5,h6⟩
theorem IS{α β:Sort _}{P0 P1:α->Prop}{P2 P3 P4 P5 P6:α->β->Prop}(a:α)(h0:P0 a)(h1:P1 a)(b:β)(h2:P2 a b)(h3:P3 a b)(h4:P4 a b)(h5:P5 a b)(h6:P6 a b):∃a,P0 a/\P1 a/\∃b,P2 a b/\P3 a b/\P4 a b/\P5 a b/\P6 a b:=⟨a,h0,h1,b,h2,h3,h4,h5,h6⟩
namespace Sh
theorem PySem.W.holds_open{r:OpenRow}{q:UF}{loose:List Vk}{Xt:UO->Bool}{XP:(Vk->Option UX)->Vg->Prop}{α:Type}{Yf:UO->α}{Ya:Va->α}{YP:Va->Vg->Prop}{d:DefRec}{kwd:List (Vk×Vh)}{N:Nat}
  (left:LeftO r.prog q loose Xt Yf Ya N)(hY:∀w s,Yf s=Ya w->YP w s.heap)(hYk:∀w h h',YP w h->(∀b o,h.get? b=some o->h'.get? b=some o)->YP w h')
  (hX:∀s,Xt s=true->XP (s.heap.nsMap TM) s.heap)(hXk:∀mg h h',XP mg h->(∀b o,h.get? b=some o->h'.get? b=some o)->XP mg h')
  (hdef:defOf q r.name=some (d,kwd))(hp:r.prog.theDef r.name=some (d.params,d.body,d.scope))(hk:kwWritten? d.params.kwonlyargs d.params.kw_defaults=some kwd)(hRf:∀s,Xt s=true->RecFacts r.records s.heap)(hwr:(!r.writes || r.records.isEmpty)=true)
  (k1:r.wellSaid=true)(ok:(chainsOk q && opensWell r.prog && (frees r.toRowW && r.within.isEmpty))=true)(hb:r.prog.bare)(hw:r.toRowW.promised)
  (call:Pi q loose XP YP r.toRowW d kwd):r.Holds:=by
 refine(iAA k1 hw ?_)
 refine oA (QB.mp ok) fun ok k5=>?_
 refine oA (QB.mp ok) fun hch o1=>?_
 refine oA (QB.mp k5) fun k5 k6=>?_
 refine X4 (frees_parts k5) fun hsame hu ha hap hm=>?_
 have hi:=ident_freeW hu ha hap
 have hwi:r.toRowW.claim.within=[]:=List.isEmpty_iff.mp k6
 refine(iAA (iAA hb o1 (by show r.makers.map _=[];rw[hm];rfl)) hw.witness (fun w=>⟨(left.behind hX hch w).1,fun s' hs'=>?_⟩))
 refine Ha ((left.behind (XP:=fun mg h=>XP mg h/\RecFacts r.records h) (fun s hs=>⟨hX s hs,hRf s hs⟩) hch w).2 s' hs') fun s₀ hf hg0 s hT hz hgens hg G0 y=>?_
 have RF:=G0.X.2
 have G1:Ground q loose [] XP w s (s.heap.nsMap TM) (s.heap.nsMap builtinsNs) s.heap:=⟨G0.T,G0.B,G0.D,G0.TE,G0.TD,G0.W,G0.X.1,G0.cls,G0.has,G0.apart,G0.once,G0.K⟩
 have hgens:s.gens= #[]:=Array.eq_empty_of_size_eq_zero (beq_iff_eq.mp hgens)
 have G:Ground q loose r.records XP w s _ _ s.heap:=RF.ground G1
 refine IS s₀ hf hg0 s hT (fun n hn=>?_) RF.1 RF.2.1 fun args hpre hlay ord hord=>?_
 ·obtain rfl:n=r.name:=by split at hn <;> simp_all
  exact pinned_of_view hg G1 hdef hp hk
 ·refine PX fun hG=>?_
  (refine oE (Option.isSome_iff_exists.mp (layAllW_isSome (P:=w.params) (ord:=ord) G.has args r.args s (pre_splitW hpre).1)) fun o0_ hlaid=>?_;obtain⟨vs,s₁⟩:=o0_)
  have keeps:=layAllW_keeps _ _ _ hlaid
  have hal:=layAllW_rest _ _ _ hlaid
  refine L1 (reads_layAllW hord _ _ _ hlaid hlay s₁.heap (fun Z Z e=>e)) fun as hrd hin hold=>?_
  have L:Laid r.records w s s₁ args vs as:=⟨(iEA ord hord hlaid),hrd,hin,hold,keeps,hal.1.trans hgens,hal.2.2.1⟩
  have G₁:=G.keeps hXk keeps
  refine Em (G₁.fn hdef) fun a o pm cd doc dV kV h1 h2 h3 h4 h5=>?_
  have hc:=call w s s₁ _ _ G₁ (hYk _ _ _ (hY w s y) keeps) a o pm cd doc dV kV h2 h3 h4 h5 (defOf_name hdef ▸ h1) L.gens args vs as hpre hlay L.reads L.well (L.low G.low)
  have V7:∀t:UO,OldK s₁.heap t.heap->(r.writes=true->namesKept r.prog r.keeps s.heap t.heap/\∀x∈r.records,∀a,classAt s.heap x.1=some a->recordClass t.heap a x.1 (x.2.map (·.1))=true):=
   fun t ok' q=>⟨namesKept_of hT hg r.keeps keeps ok'.old,noTable hwr q⟩
  refine GZ (EM (prog:=r.prog) (w:=w) (n:=r.name) (vs:=vs) (s:=s₁)
   (R:=fun res s'=>r.toRowW.claim.Ends s args vs s₁ res s'/\s'.os=s.os/\(r.writes=true->namesKept r.prog r.keeps s.heap s'.heap/\∀x∈r.records,∀a,classAt s.heap x.1=some a->recordClass s'.heap a x.1 (x.2.map (·.1))=true))
   (UO.asleep_of_life hal.2.2.2 hz) G₁.T.g h1
   (wpP.mono hc (fun v s' g=>have z:=g.laid (c:=r.toRowW.claim) hsame hwi hi L;⟨(iAA z.1 z.2.1 (V7 _ g.2.1)),z.2.2⟩) fun e s' g=>have z:=g.laid (c:=r.toRowW.claim) hsame hwi hi L;⟨(iAA z.1 z.2.1 (V7 _ g.2.1)),z.2.2⟩)) fun k res s2 s3 hrun hsched hfo hcase hos hkp=>?_
  refine X4 (UO.forget_eq hfo) fun eh Z Z eo Z=>?_
  have hcase:=hcase.congr eh
  rw[←eh] at hkp
  rw[←eo] at hos
  have hlife:s2.heap.life=s.heap.life:=(runN_life _ _ _ hrun).trans hal.2.2.2
  refine hG ?_
  refine EB vs s₁ hlaid k _ s2 hsched ?_ (fun Z i x hx=>by rw[hgens] at hx;simp at hx) hkp (by rw[hlife]) (UO.rest_eq hos)
  exact Or.imp (TZ fun v h=>⟨congrArg outcomeOf h.1,h.2.1,h.2.2.1,h.2.2.2.1,fun b o y Z=>h.2.2.2.2.1 b o y,h.2.2.2.2.2⟩)
   (TZ fun e=>TZ fun ob=>TZ fun cls h=>⟨congrArg outcomeOf h.1,h.2.1,h.2.2.1,h.2.2.2.1,h.2.2.2.2.1,fun b o y Z=>h.2.2.2.2.2 b o y⟩) hcase
open_top hd for _root_.PySem.Challenge.rw_wy0012_01
end Sh
end Mine
end
section
open PySem PySem.W PySem.Calls PyProof.Rows
set_option genSizeOf false
set_option genInjectivity false
namespace Mine
theorem zg1{h:Vg}{b c:Vf}{o:Vl}{P:Prop}(e:b=c)(h1:h.get? b=none)(h2:h.get? c=some o):P:=by subst e;exact zs1 h1 h2
theorem zh1{h:Vg}{b c:Vf}{o:Vl}{P:Prop}(e:b=c)(h1:h.get? b=some o)(h2:h.get? c=none):P:=by subst e;exact zs1 h2 h1
noncomputable abbrev PR:UF:=PySem.Challenge.rw_wy0012_01.row.prog
noncomputable def DW(h h':Vg):Prop:=∀b o,h.get? b=some o->h'.get? b=some o
theorem DW.rfl{h:Vg}:DW h h:=fun Z Z e=>e
theorem DW.trans{h h' h'':Vg}(a:DW h h')(b:DW h' h''):DW h h'':=fun x o e=>b x o (a x o e)
noncomputable abbrev Ct(w:Va)(loose:List Vk)(mean:UH->Option UX)(mg mb:Vk->Option UX)(n:Nat)(f:Vf)(vals:List UX)
  (Pre:Vg->Prop)(Post:Vg->Vg->UX->Prop):Prop:=
 ∀(dp un:Nat)(gd:Option (List Vj))(cn:Vk)(cs:Vb)(a:Vf)(ccd:UX)(cl:List (Vk×Vf))(outer:List Vn)(A₀:UP)(base h₀:Vg)(L:Vf)(m:Vk->Option UX)(s:UO)(Q E:UX->UO->Prop),
  Vd A₀ base outer h₀->Fr h₀ L s.heap m->(_root_.Mine.Sh.hd.heap_39 w.params).In h₀->Top UN loose mean mg mb h₀->h₀.NoSeer->cs.kind= .function->
  dp+n<Su->un+8*n<cLine->Pre s.heap->
  (∀r h' tk',DW s.heap h'->Post s.heap h' r->Q r {s with heap:=h',toks:=tk'})->
  UY (UZ PR w) (ktrTop dp un gd cn cs L a ccd cl outer) (call (.ref f) vals) Q E s
noncomputable def Lv(h:Vg)(R:UT->UO->Prop)(v:UX)(s':UO):Prop:=∃L' m',Fr h L' s'.heap m'/\(DW h s'.heap->R (.ok (.ret v)) s')
theorem Lv.intro{h:Vg}{R:UT->UO->Prop}{v:UX}{s':UO}{L':Vf}{m':Vk->Option UX}(F:Fr h L' s'.heap m')(k:DW h s'.heap->R (.ok (.ret v)) s'):Lv h R v s':=(Bm L' m' F k)
theorem enter{prog:UF}{w:Va}{A A₀:UP}{s:UO}{base h₀:Vg}{outer:List Vn}{env:Vn}{L:Vf}{m:Vk->Option UX}{K:Frag}{p:UF}{loose:List Vk}{mean:UH->Option UX}{mg mb:Vk->Option UX}
  {R:UT->UO->Prop}{name qual:Vk}{params:Up}{body:List Stmt}{scope:Vb}{dV kV doc pm cdv ct oc:UX}{an od:Option Vf}{osl:Array (Option UX)}{f:Vf}{args:Args}{binds:List (Vk×UX)}
  (B:Vd A₀ base outer h₀)(F:Fr h₀ L s.heap m)(X₀:K.In h₀)(T:Top p loose mean mg mb h₀)(hA:A.frames=some (env::outer))(hf:env.frame=some L)(hke:env.scope.kind= .function)
  (ho:K.lookup f=some ⟨oc,od, .func (fnOf name qual params body scope dV kV doc pm an cdv ct),osl⟩)(hcd:codeIn K cdv qual=true)(hroom:A.depth<Su)
  (hbind:BindsTo s (fnOf name qual params body scope dV kV doc pm an cdv ct) args binds)(hloc:∀y∈binds,scope.names.lookup y.1=some .local)
  (h:∀L' h₁,Fr s.heap L' h₁ (fun y=>binds.reverse.lookup y)->News s.heap L' h₁ []->Vd A base (env::outer) s.heap->K.In s.heap->Top p loose mean mg mb s.heap->
   UY (UZ prog w) (A.deeper (envOf qual scope L' f cdv)) (Ve body (envOf qual scope L' f cdv))
    (fun fl s'=>Lv s.heap R (match fl with| .ret v=>v|_=> .none) s')
    (fun e s'=>UY (UZ prog w) (A.deeper (envOf qual scope L' f cdv)) (leaving (envOf qual scope L' f cdv) e) (fun Z s''=>R (.error e) s'') (fun e' s''=>R (.error e') s'') s')
    {s with heap:=h₁,toks:=s.toks+binds.length})
  (hco:scope.isCoroutine=false)(hgen:scope.isGenerator=false)(hk:scope.kind= .function)
  (hcell:∀x∈scope.names,x.2≠ .cell):UI (UZ prog w) A (.call (.ref f) args) R s:=by
 have X:=X₀.keeps F.keep
 have T':=T.keeps F.keep
 have B₁:=pushX B F hf hke
 have B₂:Vd A base (env::outer) s.heap:=⟨hA,B₁.stays,B₁.frames⟩
 refine codeAny_call_def (fd:=fnOf name qual params body scope dV kV doc pm an cdv ct) (body:=body) (binds:=binds) hroom (X _ _ ho) rfl T'.nolimit (codeRec_of X hcd) rfl hbind hcell hloc (fun h₁ hns hk₁=>?_) hco hgen hk
 refine TT (h s.heap.objs.size h₁ ⟨hns,hk₁,TA _⟩ News.nil B₂ X T') (fun fl s' hl=>?_) fun Z Z y=>y
 refine y8 hl fun L' m' F' k=>?_;clear hl
 exact k F'.keep
theorem Fr.up{h₀ h h':Vg}{L:Vf}{m:Vk->Option UX}(F:Fr h₀ L h m)(k:DW h h'):Fr h₀ L h' m:=by
 refine R7 F.ns fun oL es ep hL r=>?_
 exact⟨(Hh oL es ep (k _ _ hL) r),fun b o e=>k b o (F.keep b o e),F.above⟩
theorem News.up{h₀ h h':Vg}{L:Vf}{news:List (Vf×Vl)}(N:News h₀ L h news)(k:DW h h'):News h₀ L h' news:=
 fun p hp=>⟨k _ _ (N p hp).1,(N p hp).2⟩
theorem use{w:Va}{loose:List Vk}{mean:UH->Option UX}{mg mb:Vk->Option UX}{n:Nat}{f:Vf}{vals:List UX}{Pre:Vg->Prop}{Post:Vg->Vg->UX->Prop}
  {dp un:Nat}{gd:Option (List Vj)}{cn:Vk}{cs:Vb}{a:Vf}{ccd:UX}{cl:List (Vk×Vf)}{outer:List Vn}{A₀:UP}{base h₀:Vg}{L:Vf}{m:Vk->Option UX}{news:List (Vf×Vl)}{s:UO}{Q E:UX->UO->Prop}
  (C:Ct w loose mean mg mb n f vals Pre Post)(B:Vd A₀ base outer h₀)(F:Fr h₀ L s.heap m)(X:(_root_.Mine.Sh.hd.heap_39 w.params).In h₀)(T:Top UN loose mean mg mb h₀)(N:News h₀ L s.heap news)(Se:h₀.NoSeer)(hk:cs.kind= .function)
  (hd:dp+n<Su)(hu:un+8*n<cLine)(pre:Pre s.heap)
  (ret:∀r h' tk',Fr h₀ L h' m->News h₀ L h' news->DW s.heap h'->Post s.heap h' r->Q r {s with heap:=h',toks:=tk'}):
  UY (UZ PR w) (ktrTop dp un gd cn cs L a ccd cl outer) (call (.ref f) vals) Q E s:=
 C dp un gd cn cs a ccd cl outer A₀ base h₀ L m s Q E B F X T Se hk hd hu pre fun r h' tk' k po=>ret r h' tk' (Fr.up F k) (News.up N k) k po
theorem Aw{ι:Type}{val:ι->UX}{w:Va}{loose:List Vk}{mean:UH->Option UX}{mg mb:Vk->Option UX}{n:Nat}{f:Vf}{vals:List UX}{Pre:Vg->Prop}
  {dp un:Nat}{gd:Option (List Vj)}{cn:Vk}{cs:Vb}{a:Vf}{ccd:UX}{cl:List (Vk×Vf)}{outer:List Vn}{A₀:UP}{base h₀:Vg}{L:Vf}{m:Vk->Option UX}{news:List (Vf×Vl)}{s:UO}{Q E:UX->UO->Prop}
  (C:Ct w loose mean mg mb n f vals Pre (fun Z Z r=>∃t,r=val t))(B:Vd A₀ base outer h₀)(F:Fr h₀ L s.heap m)(X:(_root_.Mine.Sh.hd.heap_39 w.params).In h₀)(T:Top UN loose mean mg mb h₀)(N:News h₀ L s.heap news)(Se:h₀.NoSeer)(hk:cs.kind= .function)
  (hd:dp+n<Su)(hu:un+8*n<cLine)(pre:Pre s.heap)
  (ret:∀h' tk',Fr h₀ L h' m->News h₀ L h' news->DW s.heap h'->∀t,Q (val t) {s with heap:=h',toks:=tk'}):
  UY (UZ PR w) (ktrTop dp un gd cn cs L a ccd cl outer) (call (.ref f) vals) Q E s:=
 use C B F X T N Se hk hd hu pre fun Z h' tk' F' N' K' ⟨t,e⟩=>e ▸ ret h' tk' F' N' K' t
theorem NS{v:UX}{w:Va}{loose:List Vk}{mean:UH->Option UX}{mg mb:Vk->Option UX}{n:Nat}{f:Vf}{vals:List UX}{Pre:Vg->Prop}
  {dp un:Nat}{gd:Option (List Vj)}{cn:Vk}{cs:Vb}{a:Vf}{ccd:UX}{cl:List (Vk×Vf)}{outer:List Vn}{A₀:UP}{base h₀:Vg}{L:Vf}{m:Vk->Option UX}{news:List (Vf×Vl)}{s:UO}{Q E:UX->UO->Prop}
  (C:Ct w loose mean mg mb n f vals Pre (fun Z Z r=>r=v))(B:Vd A₀ base outer h₀)(F:Fr h₀ L s.heap m)(X:(_root_.Mine.Sh.hd.heap_39 w.params).In h₀)(T:Top UN loose mean mg mb h₀)(N:News h₀ L s.heap news)(Se:h₀.NoSeer)(hk:cs.kind= .function)
  (hd:dp+n<Su)(hu:un+8*n<cLine)(pre:Pre s.heap)
  (ret:∀h' tk',Fr h₀ L h' m->News h₀ L h' news->DW s.heap h'->Q v {s with heap:=h',toks:=tk'}):
  UY (UZ PR w) (ktrTop dp un gd cn cs L a ccd cl outer) (call (.ref f) vals) Q E s:=
 use C B F X T N Se hk hd hu pre fun Z h' tk' F' N' K' e=>e ▸ ret h' tk' F' N' K'
theorem useR{w:Va}{loose:List Vk}{mean:UH->Option UX}{mg mb:Vk->Option UX}{n:Nat}{f:Vf}{vals:List UX}{Pre:Vg->Prop}{Ψ:List UX->Prop}
  {dp un:Nat}{gd:Option (List Vj)}{cn:Vk}{cs:Vb}{a:Vf}{ccd:UX}{cl:List (Vk×Vf)}{outer:List Vn}{A₀:UP}{base h₀:Vg}{L:Vf}{m:Vk->Option UX}{news:List (Vf×Vl)}{s:UO}{Q E:UX->UO->Prop}
  (C:Ct w loose mean mg mb n f vals Pre (fun Z h' r=>∃D vs,r= .ref D/\h'.IsList D vs.toArray/\Ψ vs))(B:Vd A₀ base outer h₀)(F:Fr h₀ L s.heap m)(X:(_root_.Mine.Sh.hd.heap_39 w.params).In h₀)(T:Top UN loose mean mg mb h₀)(N:News h₀ L s.heap news)(Se:h₀.NoSeer)(hk:cs.kind= .function)
  (hd:dp+n<Su)(hu:un+8*n<cLine)(pre:Pre s.heap)
  (ret:∀h' tk',Fr h₀ L h' m->News h₀ L h' news->DW s.heap h'->∀D(vs:List UX),h'.IsList D vs.toArray->Ψ vs->Q (.ref D) {s with heap:=h',toks:=tk'}):
  UY (UZ PR w) (ktrTop dp un gd cn cs L a ccd cl outer) (call (.ref f) vals) Q E s:=
 use C B F X T N Se hk hd hu pre fun Z h' tk' F' N' K' ⟨D,vs,e,l,y⟩=>e ▸ ret h' tk' F' N' K' D vs l y
noncomputable def U1(h h':Vg)(r:UX)(vs:List UX):Prop:=∃a n,r= .ref a/\h'.get? a=some {cls:= .type "list",data:= .seq vs.toArray n}/\h.get? a=none
theorem KC{w:Va}{loose:List Vk}{mean:UH->Option UX}{mg mb:Vk->Option UX}{n:Nat}{f:Vf}{vals:List UX}{Pre:Vg->Prop}{Ψ:List UX->Prop}
  {dp un:Nat}{gd:Option (List Vj)}{cn:Vk}{cs:Vb}{a:Vf}{ccd:UX}{cl:List (Vk×Vf)}{outer:List Vn}{A₀:UP}{base h₀:Vg}{L:Vf}{m:Vk->Option UX}{news:List (Vf×Vl)}{s:UO}{Q E:UX->UO->Prop}
  (C:Ct w loose mean mg mb n f vals Pre (fun h h' r=>∃vs,U1 h h' r vs/\Ψ vs))(B:Vd A₀ base outer h₀)(F:Fr h₀ L s.heap m)(X:(_root_.Mine.Sh.hd.heap_39 w.params).In h₀)(T:Top UN loose mean mg mb h₀)(N:News h₀ L s.heap news)(Se:h₀.NoSeer)(hk:cs.kind= .function)
  (hd:dp+n<Su)(hu:un+8*n<cLine)(pre:Pre s.heap)
  (ret:∀D vs k h' tk',Fr h₀ L h' m->News h₀ L h' ((D,listOf vs.toArray k)::news)->(∀p∈news,p.1≠D)->Ψ vs->Q (.ref D) {s with heap:=h',toks:=tk'}):
  UY (UZ PR w) (ktrTop dp un gd cn cs L a ccd cl outer) (call (.ref f) vals) Q E s:=by
 refine use C B F X T N Se hk hd hu pre fun r h' tk' F' N' K' po=>?_
 (refine oEA po fun vs o0_ hv=>?_;clear po;(refine M3 o0_ fun D k o0_ ho hn=>?_;obtain rfl:=o0_))
 refine ret D vs k h' tk' F' (fun p hp=>?_) (fun p hp e=>?_) hv
 ·rcases SH.mp hp with rfl|hp
  ·refine(iAA ho (fun e=>?_) ?_)
   ·refine R7 F.ns fun oL es ep hL Z=>?_
    have e':D=L:=e
    exact zg1 e' hn hL
   ·cases q:h₀.get? D with
    |none=>rfl
    |some o=>exact zs1 hn (F.keep _ _ q)
  ·exact N' p hp
 ·exact zg1 e.symm hn ((N p hp).1)
noncomputable abbrev Cx:Type:=Va×(List Vk)×(UH->Option UX)×(Vk->Option UX)×(Vk->Option UX)×Nat×Nat×(Option (List Vj))×Vk×Vb×Vf×UX×(List (Vk×Vf))×(List Vn)×UP×Vg×Vg×Vf×(Vk->Option UX)×UO×(UX->UO->Prop)×(UX->UO->Prop)
noncomputable def Cx.w(x:Cx):Va:=x.1
noncomputable def Cx.loose(x:Cx):List Vk:=x.2.1
noncomputable def Cx.mean(x:Cx):UH->Option UX:=x.2.2.1
noncomputable def Cx.mg(x:Cx):Vk->Option UX:=x.2.2.2.1
noncomputable def Cx.mb(x:Cx):Vk->Option UX:=x.2.2.2.2.1
noncomputable def Cx.dp(x:Cx):Nat:=x.2.2.2.2.2.1
noncomputable def Cx.un(x:Cx):Nat:=x.2.2.2.2.2.2.1
noncomputable def Cx.gd(x:Cx):Option (List Vj):=x.2.2.2.2.2.2.2.1
noncomputable def Cx.cn(x:Cx):Vk:=x.2.2.2.2.2.2.2.2.1
noncomputable def Cx.cs(x:Cx):Vb:=x.2.2.2.2.2.2.2.2.2.1
noncomputable def Cx.a(x:Cx):Vf:=x.2.2.2.2.2.2.2.2.2.2.1
noncomputable def Cx.ccd(x:Cx):UX:=x.2.2.2.2.2.2.2.2.2.2.2.1
noncomputable def Cx.cl(x:Cx):List (Vk×Vf):=x.2.2.2.2.2.2.2.2.2.2.2.2.1
noncomputable def Cx.outer(x:Cx):List Vn:=x.2.2.2.2.2.2.2.2.2.2.2.2.2.1
noncomputable def Cx.A₀(x:Cx):UP:=x.2.2.2.2.2.2.2.2.2.2.2.2.2.2.1
noncomputable def Cx.base(x:Cx):Vg:=x.2.2.2.2.2.2.2.2.2.2.2.2.2.2.2.1
noncomputable def Cx.h₀(x:Cx):Vg:=x.2.2.2.2.2.2.2.2.2.2.2.2.2.2.2.2.1
noncomputable def Cx.L(x:Cx):Vf:=x.2.2.2.2.2.2.2.2.2.2.2.2.2.2.2.2.2.1
noncomputable def Cx.m(x:Cx):Vk->Option UX:=x.2.2.2.2.2.2.2.2.2.2.2.2.2.2.2.2.2.2.1
noncomputable def Cx.s(x:Cx):UO:=x.2.2.2.2.2.2.2.2.2.2.2.2.2.2.2.2.2.2.2.1
noncomputable def Cx.Q(x:Cx):UX->UO->Prop:=x.2.2.2.2.2.2.2.2.2.2.2.2.2.2.2.2.2.2.2.2.1
noncomputable def Cx.E(x:Cx):UX->UO->Prop:=x.2.2.2.2.2.2.2.2.2.2.2.2.2.2.2.2.2.2.2.2.2
theorem neW:Nonempty Va:=⟨⟨fun Z Z=>0,{strHash:=fun Z=>0,shareClass:=fun Z=>0,mergeTok:=id,idOf:=fun Z=>0,idOfShared:=fun Z Z=>0,followText:=fun Z=>true,idOfImm:=fun Z=>0}⟩⟩
theorem neCx:Nonempty Cx:=neW.elim fun w=>⟨⟨w,[],fun Z=>none,fun Z=>none,fun Z=>none,0,0,none,Ta "",{kind:= .function,names:=[],isGenerator:=false,isCoroutine:=false},0, .none,[],[],callerA,default,default,0,fun Z=>none,⟨default, #[],{},0,{}⟩,fun Z Z=>True,fun Z Z=>True⟩⟩
structure HyX(x:Cx)(n:Nat)(Pre:Vg->Prop)(Post:Vg->Vg->UX->Prop):Prop where
 B:Vd x.A₀ x.base x.outer x.h₀
 F:Fr x.h₀ x.L x.s.heap x.m
 X:(_root_.Mine.Sh.hd.heap_39 x.w.params).In x.h₀
 T:Top UN x.loose x.mean x.mg x.mb x.h₀
 Se:x.h₀.NoSeer
 hk:x.cs.kind= .function
 hd:x.dp+n<Su
 hu:x.un+8*n<cLine
 pre:Pre x.s.heap
 ret:∀r h' tk',DW x.s.heap h'->Post x.s.heap h' r->x.Q r {x.s with heap:=h',toks:=tk'}
structure CtX(x:Cx)(n:Nat)(f:Vf)(vals:List UX)(Pre:Vg->Prop)(Post:Vg->Vg->UX->Prop):Prop where
 of:HyX x n Pre Post->UY (UZ PR x.w) (ktrTop x.dp x.un x.gd x.cn x.cs x.L x.a x.ccd x.cl x.outer) (call (.ref f) vals) x.Q x.E x.s
theorem CtX.ct{n:Nat}{f:Vf}{vals:List UX}{Pre:Va->Vg->Prop}{Post:Va->Vg->Vg->UX->Prop}(k:∀x:Cx,CtX x n f vals (Pre x.w) (Post x.w)){w:Va}{loose:List Vk}{mean:UH->Option UX}{mg mb:Vk->Option UX}:Ct w loose mean mg mb n f vals (Pre w) (Post w):=
 fun dp un gd cn cs a ccd cl outer A₀ base h₀ L m s Q E B F X T Se hk hd hu pre ret=>(k ⟨w,loose,mean,mg,mb,dp,un,gd,cn,cs,a,ccd,cl,outer,A₀,base,h₀,L,m,s,Q,E⟩).of ⟨B,F,X,T,Se,hk,hd,hu,pre,ret⟩
structure Hid(P:Prop):Prop where
 get:P
structure Red(x:Cx)(n:Nat)(f:Vf)(vals:List UX)(Pre:Vg->Prop)(Post:Vg->Vg->UX->Prop) where
 P:Prop
 of:(HyX x n Pre Post->Hid P)->CtX x n f vals Pre Post
noncomputable def y6{α:Type}(ne:Nonempty α)(P:α->Prop):α:= @Classical.epsilon α ne fun p=>¬P p
theorem f7{α:Type}{ne:Nonempty α}{P:α->Prop}{c:α}(e:c=y6 ne P)(h:P c)(a:α):P a:=PX fun n=>
 @Classical.epsilon_spec α (fun p=>¬P p) ⟨a,n⟩ (by subst e;exact h)
noncomputable def U2{α β:Type}(f:α->β->Prop)(p:α×β):Prop:=f p.1 p.2
noncomputable def U3{α β γ:Type}(f:α->β->γ->Prop)(p:α×β×γ):Prop:=f p.1 p.2.1 p.2.2
noncomputable def U4{α β γ δ:Type}(f:α->β->γ->δ->Prop)(p:α×β×γ×δ):Prop:=f p.1 p.2.1 p.2.2.1 p.2.2.2
noncomputable def V4{α β γ δ ε:Type}(f:α->β->γ->δ->ε->Prop)(p:(α×β×γ×δ)×ε):Prop:=f p.1.1 p.1.2.1 p.1.2.2.1 p.1.2.2.2 p.2
theorem neA:Nonempty UP:=⟨callerA⟩
theorem neSh:Nonempty UO:=⟨⟨default, #[],{},0,{}⟩⟩
theorem neM:Nonempty Vc:=neW.elim fun w=>⟨UZ PR w⟩
theorem neF:Nonempty (Vf×Vg):=⟨(0,default)⟩
noncomputable def Dl(T:Prop){P:Vf->Vg->Prop}(_:T= ∀a b,P a b):Vf×Vg:=y6 neF fun p=>P p.1 p.2
theorem J2{T:Prop}{P:Vf->Vg->Prop}(e:T= ∀a b,P a b){a:Vf}{b:Vg}(h1:a=(Dl T e).1)(h2:b=(Dl T e).2)(h:P a b):T:=by
 subst h1 h2;rw[e];exact fun a b=>f7 (P:=fun p:Vf×Vg=>P p.1 p.2) rfl h (a,b)
theorem neC:Nonempty (Vf×Vg×Nat×List (Vf×Vl)):=⟨(0,default,0,[])⟩
noncomputable def GW(T:Prop){P:Vf->Vg->Nat->List (Vf×Vl)->Prop}(_:T= ∀a b c d,P a b c d):Vf×Vg×Nat×List (Vf×Vl):=y6 neC fun p=>P p.1 p.2.1 p.2.2.1 p.2.2.2
theorem Eh{T:Prop}{P:Vf->Vg->Nat->List (Vf×Vl)->Prop}(e:T= ∀a b c d,P a b c d){a:Vf}{b:Vg}{c:Nat}{d:List (Vf×Vl)}(h1:a=(GW T e).1)(h2:b=(GW T e).2.1)(h3:c=(GW T e).2.2.1)(h4:d=(GW T e).2.2.2)(h:P a b c d):T:=by
 subst h1 h2 h3 h4;rw[e];exact fun a b c d=>f7 (P:=fun p:Vf×Vg×Nat×List (Vf×Vl)=>P p.1 p.2.1 p.2.2.1 p.2.2.2) rfl h (a,b,c,d)
end Mine
end
section
open PySem PySem.W PySem.Calls PyProof.Rows
namespace Mine
theorem S.gOp:True:=trivial
open S (gOp)
theorem Pq:True:=by
 k_with "binaryOp LShift int int"=>(guard_expr gOp=ₛ gOp;with_unfolding_all refine lshift_int (by with_reducible assumption) (by with_reducible assumption) ?_)
 trivial
section
variable{w:Va}{loose:List Vk}{mean:UH->Option UX}{mg mb:Vk->Option UX}
theorem Er(x:Int)(t:Vm):Ct w loose mean mg mb 1 129 [.int x t] (fun h=>True) (fun h h' r=>∃t,r= .int (-x) t):=by
 unfold Ct PR
 k_fill
 intro dp un gd cn cs a ccd cl outer A₀ base h₀ L m s Q E B F X T Se hk hd hu hpre hret
 refine TV ?_
 k_dflt (refine' enter (binds:=[(Ta "a", .int x t)]) ?k1 ?k2 ?k3 ?k5 ?kA ?kF ?kK ?k6 ?k7 ?k8 ?k9 ?kB ?_ ?c2 ?c3 ?c4 ?c5;(case kA=>exact rfl);(case kF=>exact rfl);(case kK=>assumption);(case k1=>k_asm);(case k2=>k_asm);(case k3=>k_asm);(case k5=>k_asm);(case k6=>k_is);(case k7=>k_is);(case k8=>ktr_room);(case k9=>exact SL rfl);(case c5=>decide);(case kB=>exact locs rfl);(case c2=>exact rfl);(case c3=>exact rfl);(case c4=>exact rfl);k_whole;intro L' h' F' N' B' X' T';have Se':=Qc Se (Fr.keep F);(try dsimp only);(try k_lift B');(try k_fold))
 k_steps
 all_goals(refine Lv.intro F' ?_;intro kp;exact hret _ _ _ kp ⟨_,rfl⟩)
theorem Jm(x y:Int)(t u:Vm):Ct w loose mean mg mb 1 94 [.int x t, .int y u] (fun h=>True) (fun h h' r=>∃t,r= .int (x+y) t):=by
 unfold Ct PR
 k_fill
 intro dp un gd cn cs a ccd cl outer A₀ base h₀ L m s Q E B F X T Se hk hd hu hpre hret
 refine TV ?_
 k_dflt (refine' enter (binds:=[(Ta "a", .int x t),(Ta "b", .int y u)]) ?k1 ?k2 ?k3 ?k5 ?kA ?kF ?kK ?k6 ?k7 ?k8 ?k9 ?kB ?_ ?c2 ?c3 ?c4 ?c5;(case kA=>exact rfl);(case kF=>exact rfl);(case kK=>assumption);(case k1=>k_asm);(case k2=>k_asm);(case k3=>k_asm);(case k5=>k_asm);(case k6=>k_is);(case k7=>k_is);(case k8=>ktr_room);(case k9=>exact SL rfl);(case c5=>decide);(case kB=>exact locs rfl);(case c2=>exact rfl);(case c3=>exact rfl);(case c4=>exact rfl);k_whole;intro L' h' F' N' B' X' T';have Se':=Qc Se (Fr.keep F);(try dsimp only);(try k_lift B');(try k_fold))
 k_steps
 all_goals(refine Lv.intro F' ?_;intro kp;exact hret _ _ _ kp ⟨_,rfl⟩)
theorem HO(x y:Int)(t u:Vm):Ct w loose mean mg mb 1 136 [.int x t, .int y u] (fun h=>True) (fun h h' r=>∃t,r= .int (x-y) t):=by
 unfold Ct PR
 k_fill
 intro dp un gd cn cs a ccd cl outer A₀ base h₀ L m s Q E B F X T Se hk hd hu hpre hret
 refine TV ?_
 k_dflt (refine' enter (binds:=[(Ta "a", .int x t),(Ta "b", .int y u)]) ?k1 ?k2 ?k3 ?k5 ?kA ?kF ?kK ?k6 ?k7 ?k8 ?k9 ?kB ?_ ?c2 ?c3 ?c4 ?c5;(case kA=>exact rfl);(case kF=>exact rfl);(case kK=>assumption);(case k1=>k_asm);(case k2=>k_asm);(case k3=>k_asm);(case k5=>k_asm);(case k6=>k_is);(case k7=>k_is);(case k8=>ktr_room);(case k9=>exact SL rfl);(case c5=>decide);(case kB=>exact locs rfl);(case c2=>exact rfl);(case c3=>exact rfl);(case c4=>exact rfl);k_whole;intro L' h' F' N' B' X' T';have Se':=Qc Se (Fr.keep F);(try dsimp only);(try k_lift B');(try k_fold))
 k_steps
 all_goals(refine Lv.intro F' ?_;intro kp;exact hret _ _ _ kp ⟨_,rfl⟩)
theorem Kf(x y:Int)(t u:Vm):Ct w loose mean mg mb 1 87 [.int x t, .int y u] (fun h=>True) (fun h h' r=>r= .bool (decide (y<x))):=by
 unfold Ct PR
 k_fill
 intro dp un gd cn cs a ccd cl outer A₀ base h₀ L m s Q E B F X T Se hk hd hu hpre hret
 refine TV ?_
 k_dflt (refine' enter (binds:=[(Ta "a", .int x t),(Ta "b", .int y u)]) ?k1 ?k2 ?k3 ?k5 ?kA ?kF ?kK ?k6 ?k7 ?k8 ?k9 ?kB ?_ ?c2 ?c3 ?c4 ?c5;(case kA=>exact rfl);(case kF=>exact rfl);(case kK=>assumption);(case k1=>k_asm);(case k2=>k_asm);(case k3=>k_asm);(case k5=>k_asm);(case k6=>k_is);(case k7=>k_is);(case k8=>ktr_room);(case k9=>exact SL rfl);(case c5=>decide);(case kB=>exact locs rfl);(case c2=>exact rfl);(case c3=>exact rfl);(case c4=>exact rfl);k_whole;intro L' h' F' N' B' X' T';have Se':=Qc Se (Fr.keep F);(try dsimp only);(try k_lift B');(try k_fold))
 k_steps
 all_goals(refine Lv.intro F' ?_;intro kp;exact hret _ _ _ kp rfl)
theorem Et(x y:Int)(t u:Vm):Ct w loose mean mg mb 1 122 [.int x t, .int y u] (fun h=>Uz x y) (fun h h' r=>∃t,r= .int (x*y) t):=by
 unfold Ct PR
 k_fill
 intro dp un gd cn cs a ccd cl outer A₀ base h₀ L m s Q E B F X T Se hk hd hu hpre hret
 refine TV ?_
 k_dflt (refine' enter (binds:=[(Ta "a", .int x t),(Ta "b", .int y u)]) ?k1 ?k2 ?k3 ?k5 ?kA ?kF ?kK ?k6 ?k7 ?k8 ?k9 ?kB ?_ ?c2 ?c3 ?c4 ?c5;(case kA=>exact rfl);(case kF=>exact rfl);(case kK=>assumption);(case k1=>k_asm);(case k2=>k_asm);(case k3=>k_asm);(case k5=>k_asm);(case k6=>k_is);(case k7=>k_is);(case k8=>ktr_room);(case k9=>exact SL rfl);(case c5=>decide);(case kB=>exact locs rfl);(case c2=>exact rfl);(case c3=>exact rfl);(case c4=>exact rfl);k_whole;intro L' h' F' N' B' X' T';have Se':=Qc Se (Fr.keep F);(try dsimp only);(try k_lift B');(try k_fold))
 k_steps
 all_goals(refine Lv.intro F' ?_;intro kp;exact hret _ _ _ kp ⟨_,rfl⟩)
theorem MU(x y:Int)(t u:Vm):Ct w loose mean mg mb 1 115 [.int x t, .int y u] (fun h=>y≠0) (fun h h' r=>∃t,r= .int (UA x y) t):=by
 unfold Ct PR
 k_fill
 intro dp un gd cn cs a ccd cl outer A₀ base h₀ L m s Q E B F X T Se hk hd hu hpre hret
 have hy0:=hpre
 refine TV ?_
 k_dflt (refine' enter (binds:=[(Ta "a", .int x t),(Ta "b", .int y u)]) ?k1 ?k2 ?k3 ?k5 ?kA ?kF ?kK ?k6 ?k7 ?k8 ?k9 ?kB ?_ ?c2 ?c3 ?c4 ?c5;(case kA=>exact rfl);(case kF=>exact rfl);(case kK=>assumption);(case k1=>k_asm);(case k2=>k_asm);(case k3=>k_asm);(case k5=>k_asm);(case k6=>k_is);(case k7=>k_is);(case k8=>ktr_room);(case k9=>exact SL rfl);(case c5=>decide);(case kB=>exact locs rfl);(case c2=>exact rfl);(case c3=>exact rfl);(case c4=>exact rfl);k_whole;intro L' h' F' N' B' X' T';have Se':=Qc Se (Fr.keep F);(try dsimp only);(try k_lift B');(try k_fold))
 k_steps
 all_goals(refine Lv.intro F' ?_;intro kp;exact hret _ _ _ kp ⟨_,rfl⟩)
theorem Fw(x y:Int)(t u:Vm):Ct w loose mean mg mb 102 101 [.int x t, .int y u] (fun h=>y≠0) (fun h h' r=>∃t,r= .int (Int.fdiv x y) t):=by
 unfold Ct PR
 k_fill
 intro dp un gd cn cs a ccd cl outer A₀ base h₀ L m s Q E B F X T Se hk hd hu hpre hret
 refine TV ?_
 k_dflt (refine' enter (binds:=[(Ta "a", .int x t),(Ta "b", .int y u)]) ?k1 ?k2 ?k3 ?k5 ?kA ?kF ?kK ?k6 ?k7 ?k8 ?k9 ?kB ?_ ?c2 ?c3 ?c4 ?c5;(case kA=>exact rfl);(case kF=>exact rfl);(case kK=>assumption);(case k1=>k_asm);(case k2=>k_asm);(case k3=>k_asm);(case k5=>k_asm);(case k6=>k_is);(case k7=>k_is);(case k8=>ktr_room);(case k9=>exact SL rfl);(case c5=>decide);(case kB=>exact locs rfl);(case c2=>exact rfl);(case c3=>exact rfl);(case c4=>exact rfl);k_whole;intro L' h' F' N' B' X' T';have Se':=Qc Se (Fr.keep F);(try dsimp only);(try k_lift B');(try k_fold))
 k_steps
 with_unfolding_all refine floordiv_int hpre ?_ (.inr (PySem.PylongRoom.of (PySem.Heap.NoLimit.keeps (PyProof.Rows.Top.nolimit T') (PyProof.Rows.Fr.keep F')) (by(try simp only[depth_under_make,depth_under_kw,depth_in1,depth_deeper,depth_caller] at*);(try dsimp only[ktrTop] at*);(simp only[Su,UE.pylongFrames] at*);omega) (PySem.SeerAt.of (Qc Se' (PyProof.Rows.Fr.keep F')) (by rfl) (PySem.Around.frames_deeper (PyProof.Rows.Below.stack B')) (by rfl) (by rfl) (by rfl) (by rfl))))
 all_goals(refine Lv.intro F' ?_;intro kp;exact hret _ _ _ kp ⟨_,rfl⟩)
theorem IE(x y:Int)(t u:Vm):Ct w loose mean mg mb 1 108 [.int x t, .int y u] (fun h=>0<=y/\(QE x:Int)+y<=2 ^ 27) (fun h h' r=>∃t,r= .int (x*2 ^ y.toNat) t):=by
 unfold Ct PR
 k_fill
 intro dp un gd cn cs a ccd cl outer A₀ base h₀ L m s Q E B F X T Se hk hd hu hpre hret
 refine oA hpre fun hy0 hsz=>?_;clear hpre
 refine TV ?_
 k_dflt (refine' enter (binds:=[(Ta "a", .int x t),(Ta "b", .int y u)]) ?k1 ?k2 ?k3 ?k5 ?kA ?kF ?kK ?k6 ?k7 ?k8 ?k9 ?kB ?_ ?c2 ?c3 ?c4 ?c5;(case kA=>exact rfl);(case kF=>exact rfl);(case kK=>assumption);(case k1=>k_asm);(case k2=>k_asm);(case k3=>k_asm);(case k5=>k_asm);(case k6=>k_is);(case k7=>k_is);(case k8=>ktr_room);(case k9=>exact SL rfl);(case c5=>decide);(case kB=>exact locs rfl);(case c2=>exact rfl);(case c3=>exact rfl);(case c4=>exact rfl);k_whole;intro L' h' F' N' B' X' T';have Se':=Qc Se (Fr.keep F);(try dsimp only);(try k_lift B');(try k_fold))
 k_steps
 all_goals(refine Lv.intro F' ?_;intro kp;exact hret _ _ _ kp ⟨_,rfl⟩)
end
end Mine
end
section
open PySem PySem.W PySem.Calls PyProof.Rows PySem.Spec
namespace Mine
theorem E5{α:Type}{l:List α}{n:Nat}(h:l.length=n+1):∃a t,l=a::t/\t.length=n:=by
 cases l with
 |nil=>cases h
 |cons a t=>exact(Bm a t rfl (Nat.succ.inj h))
theorem MX{α:Type}{l:List α}(h:l.length=2):∃a b,l=[a,b]:=by
 (refine y8 (E5 h) fun a t o0_ h1=>?_;obtain rfl:=o0_)
 (refine y8 (E5 h1) fun b t o0_ h2=>?_;obtain rfl:=o0_)
 exact(iEE a b (by rw[PQ h2]))
theorem get4{α:Type}{P:Nat->α->Prop}{a b c d v:α}{j:Nat}(h:[a,b,c,d][j]? =some v)(h0:P 0 a)(h1:P 1 b)(h2:P 2 c)(h3:P 3 d):P j v:=by
 rcases j with _|_|_|_|j <;> cases h
 ·exact h0
 ·exact h1
 ·exact h2
 ·exact h3
theorem IF{α:Type}{l:List α}(h:l.length=4):∃a b c d,l=[a,b,c,d]:=by
 (refine y8 (E5 h) fun a t o0_ h1=>?_;obtain rfl:=o0_)
 (refine y8 (E5 h1) fun b t o0_ h2=>?_;obtain rfl:=o0_)
 (refine y8 (E5 h2) fun c t o0_ h3=>?_;obtain rfl:=o0_)
 (refine y8 (E5 h3) fun d t o0_ h4=>?_;obtain rfl:=o0_)
 exact(Ke a b c d (by rw[PQ h4]))
theorem LU{α:Type}{l:List α}(h:l.length=5):∃a b c d e,l=[a,b,c,d,e]:=by
 (refine y8 (E5 h) fun a t o0_ h1=>?_;obtain rfl:=o0_)
 (refine Eo (IF h1) fun b c d e o0_=>?_;obtain rfl:=o0_)
 exact⟨a,b,c,d,e,rfl⟩
theorem OR{α:Type}{l:List α}(h:l.length=6):∃a b c d e f,l=[a,b,c,d,e,f]:=by
 (refine y8 (E5 h) fun a t o0_ h1=>?_;obtain rfl:=o0_)
 (refine En (LU h1) fun b c d e f o0_=>?_;obtain rfl:=o0_)
 exact⟨a,b,c,d,e,f,rfl⟩
theorem lt11{P:Nat->Prop}(h0:P 0)(h1:P 1)(h2:P 2)(h3:P 3)(h4:P 4)(h5:P 5)(h6:P 6)(h7:P 7)(h8:P 8)(h9:P 9)(h10:P 10)(k:Nat)(hk:k<11):P k:=by
 rcases k with _|_|_|_|_|_|_|_|_|_|_|k
 all_goals first|assumption|exact absurd hk (by lia)
theorem zI0(i:Nat):((0:Int)+(i:Int)).toNat=i:=by rw[Th];rfl
theorem zI1(i:Nat):((0:Int)+(i:Int)+1).toNat=i+1:=by rw[Th];rfl
theorem zIa(i:Nat):((1:Int)+(i:Int)).toNat=i+1:=by rw[Int.add_comm];rfl
theorem zI2(i j:Nat):((0:Int)+(i:Int)+(0+(j:Int))).toNat=i+j:=by rw[Th,Th];rfl
theorem zIm(n:Nat):((n:Int)-1).toNat=n-1:=by
 cases n with
 |zero=>rfl
 |succ k=>rw[Int.natCast_succ,Int.add_sub_cancel];rfl
theorem zIs(n m:Nat):((n:Int)+(m:Int)-1).toNat=n+m-1:=zIm (n+m)
noncomputable def g9(P:Prop):Prop:=P
theorem g9.mk{P:Prop}(h:g9 P):P:=h
theorem isL{h₀ h:Vg}{L a:Vf}{news:List (Vf×Vl)}{vs:List UX}{n:Nat}(N:News h₀ L h news)(hm:(a,listOf vs.toArray n)∈news):h.IsList a vs.toArray:=(Fq _ ((N _ hm).1) rfl n rfl)
theorem V6{h₀ h:Vg}{L a:Vf}{own:List (Vf×Vl)}(hn:h.get? a=none)(N:News h₀ L h own):∀q∈own,q.1≠a:=fun q hq e=>by exact zg1 e.symm hn ((N q hq).1)
noncomputable def O4(xs:List Vk)(m m':Vk->Option UX):Prop:=∀y,y∉xs->m y=m' y
noncomputable def pick:List Vk->(Vk->Option UX)->(Vk->Option UX)->Vk->Option UX
 |[],_,m=>m
 |x::xs,u,m=>fun y=>if y=x then u x else pick xs u m y
theorem Gh{xs:List Vk}{u m:Vk->Option UX}{y:Vk}(h:y∉xs):pick xs u m y=m y:=by
 induction xs with
 |nil=>rfl
 |cons x xs ih=>
  simp only[SH,not_or] at h
  simp only[pick,if_neg h.1];exact ih h.2
theorem LF{xs:List Vk}{u m:Vk->Option UX}{y:Vk}(h:y∈xs):pick xs u m y=u y:=by
 induction xs with
 |nil=>cases h
 |cons x xs ih=>
  simp only[pick]
  by_cases e:y=x
  ·rw[if_pos e,e]
  ·rw[if_neg e];exact ih ((SH.mp h).resolve_left e)
theorem Y6{xs:List Vk}{m m₀:Vk->Option UX}(h:O4 xs m m₀):m=pick xs m m₀:=by
 funext y
 by_cases e:y∈xs
 ·exact(LF e).symm
 ·exact(h y e).trans (Gh e).symm
theorem O4.refl{xs:List Vk}{m:Vk->Option UX}:O4 xs m m:=fun Z Z=>rfl
theorem O4.pick{xs ys:List Vk}{u m m₀:Vk->Option UX}(h:O4 ys m m₀)(hs:∀x∈xs,x∈ys):O4 ys (pick xs u m) m₀:=fun y hy=>(Gh fun e=>hy (hs y e)).trans (h y hy)
theorem O4.put{ys:List Vk}{m m₀:Vk->Option UX}{x:Vk}{v:Option UX}(hx:x∈ys)(h:O4 ys m m₀):O4 ys (fun y=>if y=x then v else m y) m₀:=fun y hy=>by
 have e:¬y=x:=fun e=>hy (by rw[e];exact hx)
 exact(if_neg e).trans (h y hy)
theorem O4.eq{ys:List Vk}{m m₀:Vk->Option UX}{y:Vk}(h:O4 ys m m₀)(hy:y∉ys):m y=m₀ y:=h y hy
section
variable{prog:UF}{w:Va}{A:UP}{E:UX->UO->Prop}{s:UO}{env:Vn}{h₀:Vg}{x:Vk}{body:List Stmt}{Q:Flow->UO->Prop}
theorem OQ{I:Vf}{fp wr:List Vf}{n:Nat}{P:Nat->UX->Prop}{St:Nat->Vg->Prop}{m₀:Vk->Option UX}{news:List (Vf×Vl)}(xs:List Vk)(R:Nat->List (Vf×Vl)->Prop)(hx:x∈xs)
  (W:Walks prog w A I fp wr n P St)(hLf:env.locals∉fp)(hwr:∀b∈wr,h₀.get? b=none)(hnw:∀p∈news,p.1∉wr)(hfp:∀q∈news,q.1∉fp)(hst:St 0 s.heap)(F:Fr h₀ env.locals s.heap m₀)(N:News h₀ env.locals s.heap news)(hR:R 0 news)
  (turn:∀i v u nx h tk own,i<n->P i v->OwnOff own (news.map (·.1))->nx.map (·.1)=news.map (·.1)->R i nx->Fr h₀ env.locals h (fun y=>if y=x then some v else pick xs u m₀ y)->News h₀ env.locals h (nx++own)->
   UY (UZ prog w) A (Ve body env) (InvPostN h₀ env.locals (fun m nx'=>O4 xs m m₀/\R (i+1) nx') own (news.map (·.1)) {s with heap:=h,toks:=tk} Q) E {s with heap:=h,toks:=tk})
  (done:∀u nx h tk,nx.map (·.1)=news.map (·.1)->R n nx->Fr h₀ env.locals h (pick xs u m₀)->News h₀ env.locals h nx->Q .next {s with heap:=h,toks:=tk}):
  LoopAtV prog w A h₀ env x body Q E (.ref I) s:=by
 refine loop_invN (fun i m nx=>nx.map (·.1)=news.map (·.1)/\O4 xs m m₀/\R i nx) W hLf hwr hnw hfp hst F N (iAA rfl O4.refl hR) ?_ ?_
 ·(intro i v m₁ nx h tk own hi hP ha ho r0_;refine oAA r0_ fun Z hs hr=>?_;clear r0_;intro F₁ N₁)
  rw[Y6 hs] at F₁
  refine TT (turn i v m₁ nx h tk own hi hP ho ha hr F₁ N₁) (fun f s₂ q=>?_) fun Z Z e=>e
  have fin:InvEndN h₀ env.locals (fun m nx'=>O4 xs m m₀/\R (i+1) nx') own (news.map (·.1)) {s with heap:=h,toks:=tk} s₂->
    InvEndN h₀ env.locals (fun m nx'=>nx'.map (·.1)=news.map (·.1)/\O4 xs m m₀/\R (i+1) nx') own (news.map (·.1)) {s with heap:=h,toks:=tk} s₂:=by
   (intro r0_;obtain⟨h',tk',m',news',nx',e,F',N',h1,h2,h3,h4⟩:=r0_)
   exact⟨h',tk',m',news',nx',e,F',N',h1,h2,h3,h3,h4⟩
  cases f with
  |ret v=>exact q
  |brk=>exact q
  |next=>exact fin q
  |cont=>exact fin q
 ·(intro m₁ nx h tk r0_;refine oAA r0_ fun ha hs hr=>?_;clear r0_;intro F₁ N₁)
  rw[Y6 hs] at F₁
  exact done m₁ nx h tk ha hr F₁ N₁
theorem KJ{r:Vf}{C4 Aa:Int}{DV DU DT:Vm}{n:Nat}{m₀:Vk->Option UX}{news:List (Vf×Vl)}
  (xs:List Vk)(R:Nat->List (Vf×Vl)->Prop)(hx:x∈xs)(hh:A.handled=none)(hr:IsRange s.heap r C4 Aa 1 DV DU DT)(hsmall:QH C4 Aa 1=true)(hn:Qe C4 Aa 1=(n:Int))
  (F:Fr h₀ env.locals s.heap m₀)(N:News h₀ env.locals s.heap news)(hR:R 0 news)
  (turn:∀(i:Nat) t u nx h tk own,i<n->OwnOff own (news.map (·.1))->nx.map (·.1)=news.map (·.1)->R i nx->Fr h₀ env.locals h (fun y=>if y=x then some (.int (C4+(i:Int)) t) else pick xs u m₀ y)->News h₀ env.locals h (nx++own)->
   UY (UZ prog w) A (Ve body env) (InvPostN h₀ env.locals (fun m nx'=>O4 xs m m₀/\R (i+1) nx') own (news.map (·.1)) {s with heap:=h,toks:=tk} Q) E {s with heap:=h,toks:=tk})
  (done:∀u nx h tk,nx.map (·.1)=news.map (·.1)->R n nx->Fr h₀ env.locals h (pick xs u m₀)->News h₀ env.locals h nx->Q .next {s with heap:=h,toks:=tk}):
  UY (UZ prog w) A (UU (.ref r)) (fun it s₂=>LoopAtV prog w A h₀ env x body Q E it s₂) E s:=by
 refine Ra hr hsmall ?_
 have W:Walks prog w A s.heap.objs.size [s.heap.objs.size] [s.heap.objs.size] n (fun i v=>i<n/\∃t,v= .int (C4+i*1) t)
   (fun i h=>TK h s.heap.objs.size (C4+(i:Nat)*1) ((n:Int)-(i:Nat)) 1):=(Walks.range hh _ C4 1 n).bound
 refine OQ xs R hx W ?_ ?_ ?_ ?_ (by show TK _ _ _ _ _;rw[hn];simpa using QD _ rfl) (F.push _) (fun p hp=>⟨Qj _ (N p hp).1,(N p hp).2⟩) hR ?_ ?_
 ·intro hm
  exact absurd F.ns.lt ((QQ.mp hm) ▸ SK _)
 ·intro b hb
  rw[QQ.mp hb]
  exact TL F
 ·intro p hp hI
  exact absurd (Tc (N p hp).1) ((QQ.mp hI) ▸ SK _)
 ·intro p hp hI
  exact absurd (Tc (N p hp).1) ((QQ.mp hI) ▸ SK _)
 ·(intro i v u nx h tk own hi r0_;(refine oAE r0_ fun Z t o0_=>?_;clear r0_;obtain rfl:=o0_);intro ho ha hr' F' N')
  simp only[Int.mul_one] at F'
  exact turn i t u nx h tk own hi ho ha hr' F' N'
 ·exact done
end
section
variable{prog:UF}{w:Va}{A:UP}{E:UX->UO->Prop}{s:UO}{env:Vn}{h₀:Vg}{x:Vk}{body:List Stmt}{Q:Flow->UO->Prop}
theorem LQ{I:Vf}{fp:List Vf}{n:Nat}{P:Nat->UX->Prop}{St:Nat->Vg->Prop}{m₀:Vk->Option UX}{news:List (Vf×Vl)}(xs:List Vk)(R:Nat->(Vk->Option UX)->List (Vf×Vl)->Prop)
  (W:Walks prog w A I fp [I] n P St)(hI:I∈fp)(hst':∀i h,St i h->∃o,h.get? I=some o)(hLf:env.locals∉fp)(hwr:h₀.get? I=none)(hnw:∀p∈news,p.1≠I)(hst:St 0 s.heap)(F:Fr h₀ env.locals s.heap m₀)(N:News h₀ env.locals s.heap news)(hR:R 0 m₀ news)
  (hoff:∀b∈fp,b=I\/∃o,h₀.get? b=some o)
  (turn:∀i v u nx h tk own,i<n->P i v->OwnOff own (nx.map (·.1))->R i u nx->Fr h₀ env.locals h (fun y=>if y=x then some v else pick xs u m₀ y)->News h₀ env.locals h (nx++own)->
   UY (UZ prog w) A (Ve body env) (InvPostG h₀ env.locals (fun m nx'=>O4 xs m m₀/\R (i+1) m nx') own {s with heap:=h,toks:=tk} Q) E {s with heap:=h,toks:=tk})
  (done:∀u nx h tk,R n u nx->Fr h₀ env.locals h (pick xs u m₀)->News h₀ env.locals h nx->Q .next {s with heap:=h,toks:=tk}):
  LoopAtV prog w A h₀ env x body Q E (.ref I) s:=by
 refine⟨I,fp,[I],n,P,St,m₀,news,(fun i m nx=>O4 xs m m₀/\R i m nx),rfl,W,hLf,(fun b hb=>by rw[QQ.mp hb];exact hwr),(fun p hp hm=>hnw p hp (QQ.mp hm)),hst,F,N,⟨O4.refl,hR⟩,?_,?_⟩
 ·(intro i v m₁ nx s₁ own r0_;(refine oEE r0_ fun h tk o0_=>?_;clear r0_;obtain rfl:=o0_);intro hi hP r1_;refine oA r1_ fun hs hr=>?_;clear r1_;intro hnx hown hget hall hstn F₁ N₁)
  rw[Y6 hs] at F₁
  have ownI:∀p∈own,p.1=I:=fun p hp=>by
   rcases hoff _ (hown p hp) with e|⟨o,e⟩
   ·exact e
   ·exact zs1 ((N₁ p (RS.mpr (.inl hp))).2.2) e
  have ho:OwnOff own (nx.map (·.1)):=by
   intro p hp b hb e
   (refine oEA (Tg.mp hb) fun q hq o0_=>?_;obtain rfl:=o0_)
   exact hnx q hq (QQ.mpr (e ▸ ownI p hp))
  have N₂:News h₀ env.locals h (nx++own):=fun p hp=>N₁ p ((RS.mp hp).elim (fun h=>RS.mpr (.inr h)) fun h=>RS.mpr (.inl h))
  refine TT (turn i v m₁ nx h tk own hi hP ho hr F₁ N₂) (fun f s₂ q=>?_) fun Z Z e=>e
  have fin:InvEndG h₀ env.locals (fun m nx'=>O4 xs m m₀/\R (i+1) m nx') own {s with heap:=h,toks:=tk} s₂->LoopStepU h₀ env.locals [I] own (fun m nx=>O4 xs m m₀/\R (i+1) m nx) {s with heap:=h,toks:=tk} .next s₂:=by
   (intro r0_;obtain⟨h',tk',m',news',nx',e,F',N',h1,h2,h3,h4⟩:=r0_)
   refine⟨rfl,h',tk',m',nx',e,F',fun p hp=>N' p ((RS.mp hp).elim (h2 p) (h1 p)),fun p hp hm=>?_,h4⟩
   refine oE (hst' _ _ hstn) fun o hoI=>?_
   exact h3 _ (hall I hI hwr o hoI) p.1 (Tg.mpr (iEA p hp rfl)) (QQ.mp hm).symm
  cases f with
  |ret v=>exact .ret q
  |brk=>exact .brk q
  |next=>exact .next (fin q)
  |cont=>exact .cont (fin q)
 ·(intro h tk m₁ nx F₁ N₁ _ r0_;refine oA r0_ fun hs hr=>?_;clear r0_)
  rw[Y6 hs] at F₁
  exact done m₁ nx h tk hr F₁ N₁
theorem KL{r:Vf}{C4 Aa:Int}{DV DU DT:Vm}{n:Nat}{m₀:Vk->Option UX}{news:List (Vf×Vl)}
  (xs:List Vk)(R:Nat->(Vk->Option UX)->List (Vf×Vl)->Prop)(hh:A.handled=none)(hr:IsRange s.heap r C4 Aa 1 DV DU DT)(hsmall:QH C4 Aa 1=true)(hn:Qe C4 Aa 1=(n:Int))
  (F:Fr h₀ env.locals s.heap m₀)(N:News h₀ env.locals s.heap news)(hR:R 0 m₀ news)
  (turn:∀(i:Nat) t u nx h tk own,i<n->OwnOff own (nx.map (·.1))->R i u nx->Fr h₀ env.locals h (fun y=>if y=x then some (.int (C4+(i:Int)) t) else pick xs u m₀ y)->News h₀ env.locals h (nx++own)->
   UY (UZ prog w) A (Ve body env) (InvPostG h₀ env.locals (fun m nx'=>O4 xs m m₀/\R (i+1) m nx') own {s with heap:=h,toks:=tk} Q) E {s with heap:=h,toks:=tk})
  (done:∀u nx h tk,R n u nx->Fr h₀ env.locals h (pick xs u m₀)->News h₀ env.locals h nx->Q .next {s with heap:=h,toks:=tk}):
  UY (UZ prog w) A (UU (.ref r)) (fun it s₂=>LoopAtV prog w A h₀ env x body Q E it s₂) E s:=by
 refine Ra hr hsmall ?_
 have W:Walks prog w A s.heap.objs.size [s.heap.objs.size] [s.heap.objs.size] n (fun i v=>i<n/\∃t,v= .int (C4+i*1) t)
   (fun i h=>TK h s.heap.objs.size (C4+(i:Nat)*1) ((n:Int)-(i:Nat)) 1):=(Walks.range hh _ C4 1 n).bound
 refine LQ xs R W (.head _) (fun i h q=>⟨_,q⟩) ?_ (TL F) (fun p hp=>Tb (Tc (N p hp).1)) (by show TK _ _ _ _ _;rw[hn];simpa using QD _ rfl) (F.push _) (fun p hp=>⟨Qj _ (N p hp).1,(N p hp).2⟩) hR (fun b hb=> .inl (QQ.mp hb)) ?_ done
 ·intro hm
  exact absurd F.ns.lt ((QQ.mp hm) ▸ SK _)
 ·(intro i v u nx h tk own hi r0_;(refine oAE r0_ fun Z t o0_=>?_;clear r0_;obtain rfl:=o0_);intro ho hr' F' N')
  simp only[Int.mul_one] at F'
  exact turn i t u nx h tk own hi ho hr' F' N'
theorem LS{l:Vf}{vs:List UX}{m₀:Vk->Option UX}{news:List (Vf×Vl)}
  (xs:List Vk)(R:Nat->(Vk->Option UX)->List (Vf×Vl)->Prop)(hh:A.handled=none)(hl:h₀.IsList l vs.toArray)
  (F:Fr h₀ env.locals s.heap m₀)(N:News h₀ env.locals s.heap news)(hR:R 0 m₀ news)
  (turn:∀(i:Nat) v u nx h tk own,vs[i]? =some v->OwnOff own (nx.map (·.1))->R i u nx->Fr h₀ env.locals h (fun y=>if y=x then some v else pick xs u m₀ y)->News h₀ env.locals h (nx++own)->
   UY (UZ prog w) A (Ve body env) (InvPostG h₀ env.locals (fun m nx'=>O4 xs m m₀/\R (i+1) m nx') own {s with heap:=h,toks:=tk} Q) E {s with heap:=h,toks:=tk})
  (done:∀u nx h tk,R vs.length u nx->Fr h₀ env.locals h (pick xs u m₀)->News h₀ env.locals h nx->Q .next {s with heap:=h,toks:=tk}):
  UY (UZ prog w) A (UU (.ref l)) (fun it s₂=>LoopAtV prog w A h₀ env x body Q E it s₂) E s:=by
 have hls:s.heap.IsList l vs.toArray:=hl.at fun o e=>F.keep l o e
 refine oEA (id hl) fun ol hol Z=>?_
 have hlt:l<h₀.objs.size:=Tc hol
 have hne:l≠s.heap.objs.size:=Tb (Tf (QR hlt F.above) F.ns.lt)
 refine Ro hls ?_
 have W:=Walks.list (prog:=prog) (w:=w) hh s.heap.objs.size l hne vs.toArray
 refine LQ xs R W (.head _) (fun i h q=>?_) ?_ (TL F) (fun p hp=>Tb (Tc (N p hp).1)) ⟨(V8 _ (QD _ rfl) rfl rfl),hls.at fun o e=>Qj _ e⟩ (F.push _) (fun p hp=>⟨Qj _ (N p hp).1,(N p hp).2⟩) hR ?_ ?_ ?_
 ·(refine oA q fun o0_ Z=>?_;clear q;refine oEA o0_ fun o ho Z=>?_;clear o0_)
  exact⟨o,ho⟩
 ·intro hm
  rcases SH.mp hm with e|hm
  ·exact absurd F.ns.lt (e ▸ SK _)
  ·exact absurd (QR hlt F.above) ((QQ.mp hm) ▸ SK _)
 ·intro b hb
  rcases SH.mp hb with e|hb
  ·exact .inl e
  ·exact .inr ⟨ol,(QQ.mp hb) ▸ hol⟩
 ·rintro i v u nx h tk own hi hP ho hr' F' N'
  exact turn i v u nx h tk own (by simpa using hP) ho hr' F' N'
 ·intro u nx h tk hr' F' N'
  exact done u nx h tk (by simpa using hr') F' N'
theorem FT{L:Vf}{test:Vh}{pos:Pos}{m₀:Vk->Option UX}{news:List (Vf×Vl)}(xs:List Vk)(R:Nat->(Vk->Option UX)->List (Vf×Vl)->Prop){n₀:Nat}(F:Fr h₀ L s.heap m₀)(N:News h₀ L s.heap news)(hR:R n₀ m₀ news)
  (turn:∀n u nx h tk,R n u nx->Fr h₀ L h (pick xs u m₀)->News h₀ L h nx->
   UY (UZ prog w) A (isTrue test env (Vi test env)) (fun b s₂=>
    if b=true then UY (UZ prog w) A (Ve body env) (WhileStep h₀ L s (fun n m nx=>O4 xs m m₀/\R n m nx) n) E s₂ else Q .next s₂) E {s with heap:=h,toks:=tk})
  (hE:PassesOwn (UZ prog w) A env E:=by passes_own):
  UY (UZ prog w) A (exec (.While test body [] pos) env) Q E s:=by
 refine While_inv (fun n m nx=>O4 xs m m₀/\R n m nx) F N ⟨O4.refl,hR⟩ ?_ hE
 (intro n m₁ nx h tk F₁ N₁ r0_;refine oA r0_ fun hs hr=>?_;clear r0_)
 rw[Y6 hs] at F₁
 exact turn n m₁ nx h tk hr F₁ N₁
end
end Mine
end
namespace Mine
theorem S.sK0{P:Prop}(h:g9 P):P:=h
theorem S.sK1{P:Prop}(h:g9 P):P:=h
theorem S.sK2{P:Prop}(h:g9 P):P:=h
theorem S.sK3{P:Prop}(h:g9 P):P:=h
theorem S.sK4{P:Prop}(h:g9 P):P:=h
theorem S.sK5{P:Prop}(h:g9 P):P:=h
theorem S.sK6{P:Prop}(h:g9 P):P:=h
theorem S.sK7{P:Prop}(h:g9 P):P:=h
theorem S.sK8{P:Prop}(h:g9 P):P:=h
theorem S.sK9{P:Prop}(h:g9 P):P:=h
theorem S.sK10{P:Prop}(h:g9 P):P:=h
theorem S.sK11{P:Prop}(h:g9 P):P:=h
theorem S.sK12{P:Prop}(h:g9 P):P:=h
theorem S.sK13{P:Prop}(h:g9 P):P:=h
theorem S.sK14{P:Prop}(h:g9 P):P:=h
theorem S.sK15{P:Prop}(h:g9 P):P:=h
theorem S.sK16{P:Prop}(h:g9 P):P:=h
theorem S.sK17{P:Prop}(h:g9 P):P:=h
theorem S.sK18{P:Prop}(h:g9 P):P:=h
theorem S.sK19{P:Prop}(h:g9 P):P:=h
theorem S.sK20{P:Prop}(h:g9 P):P:=h
theorem S.sK21{P:Prop}(h:g9 P):P:=h
theorem S.sK22{P:Prop}(h:g9 P):P:=h
theorem S.sK23{P:Prop}(h:g9 P):P:=h
theorem S.sK24{P:Prop}(h:g9 P):P:=h
theorem S.sK25{P:Prop}(h:g9 P):P:=h
theorem S.sK26{P:Prop}(h:g9 P):P:=h
theorem S.sK27{P:Prop}(h:g9 P):P:=h
theorem S.sK28{P:Prop}(h:g9 P):P:=h
theorem S.sK29{P:Prop}(h:g9 P):P:=h
theorem S.sK30{P:Prop}(h:g9 P):P:=h
theorem S.sK31{P:Prop}(h:g9 P):P:=h
theorem S.sK32{P:Prop}(h:g9 P):P:=h
theorem S.sK33{P:Prop}(h:g9 P):P:=h
theorem S.sK34{P:Prop}(h:g9 P):P:=h
theorem MI:True:=by
 k_with "pyIter ref"=>refine sK0 ?_
 k_with "exec While Name cons nil"=>refine sK1 ?_
 k_with "eval ListComp"=>refine sK2 ?_
 k_with "exec While Compare cons nil"=>refine sK3 ?_
 k_with "exec While BoolOp cons nil"=>refine sK4 ?_
 k_with "exec Assign cons ListComp"=>refine sK5 ?_
 k_with "pyIter str"=>refine sK6 ?_
 k_with "exec For Name Name cons nil"=>refine sK7 ?_
 k_with "compareOp Is"=>refine sK8 ?_
 k_with "compareOp Is str str"=>refine sK9 ?_
 k_with "call type:int"=>refine sK10 ?_
 k_with "call type:set cons nil"=>refine sK11 ?_
 k_with "call type:set"=>refine sK12 ?_
 k_with "call type:filter"=>refine sK13 ?_
 k_with "call type:list"=>refine sK14 ?_
 k_with "binaryOp Add ref ref"=>refine sK15 ?_
 k_with "getMethod ref"=>refine sK16 ?_
 k_with "call builtin:sum"=>refine sK17 ?_
 k_with "call type:enumerate"=>refine sK18 ?_
 k_with "call type:zip"=>refine sK19 ?_
 k_with "call ref"=>refine sK20 ?_
 k_with "call builtin:str.replace"=>refine sK21 ?_
 k_with "call builtin:str.join"=>refine sK22 ?_
 k_with "binaryOp Add str str"=>refine sK23 ?_
 k_with "binaryOp Mult str int"=>refine sK24 ?_
 k_with "compareOp NotEq ref ref"=>refine sK25 ?_
 k_with "binaryOp Add bytes bytes"=>refine sK26 ?_
 k_with "binaryOp Pow int int"=>refine sK27 ?_
 k_with "binaryOp Mult ref int"=>refine sK28 ?_
 k_with "call builtin:str.split"=>refine sK29 ?_
 k_with "compareOp In bool ref"=>refine sK30 ?_
 k_with "compareOp In"=>refine sK31 ?_
 k_with "compareOp In str ref"=>refine sK32 ?_
 k_with "compareOp NotIn ref ref"=>refine sK33 ?_
 k_with "compareOp NotIn"=>refine sK34 ?_
 trivial
end Mine
section
open PySem PySem.W PySem.Calls PyProof.Rows PySem.Spec
namespace Mine
theorem BD{M:Vc}{Γ:Us}{p:Pos}{t:Sem Fin}{fs:List Frame}{s s':UO}{e:End}(h:Runs M Γ p t fs s e s'):s.toks<=s'.toks:=by
 induction h with
 |fresh _ ih=>exact Td (TG _) ih
 |call _ _ i1 i2=>exact Td i1 i2
 |resumeFresh _ _ _ _ i1 i2=>exact Td i1 i2
 |resumeSuspended _ _ _ _ i1 i2=>exact Td i1 i2
 |segRet _ _ i1 i2=>exact Td i1 i2
 |segGen _ _ i1 i2=>exact Td i1 i2
 |segSuspGen _ _ _ _ i1 i2=>exact Td i1 i2
 |_=>first|exact TA _|assumption
theorem GN{M:Vc}{Γ:Us}{p:Pos}{g:Nat}{r:Resume}{s s':UO}{res:GenResult}(h:Wakes M Γ p g r s res s'):s.toks<=s'.toks:=by
 unfold Wakes at h
 split at h
 ·exact h.elim
 ·split at h
  ·(refine E4 h fun e₁ s₁ hr Z Z o0_=>?_;clear h;obtain rfl:=o0_)
   exact(show s.toks<=s₁.toks from BD (s:=s.setGen _ _) hr)
  ·rw[h.2];exact TA _
  ·rw[h.2];exact TA _
 ·(refine E4 h fun e₁ s₁ hr Z Z o0_=>?_;clear h;obtain rfl:=o0_)
  exact(show s.toks<=s₁.toks from BD (s:=s.setGen _ _) hr)
 ·rw[h.2];exact TA _
 ·rw[h.2];exact TA _
theorem HI{α:Type}{M:Vc}{Γ:Us}(n:Nat)(t:Sem α)(Q:α->Pos->UO->Prop)(E:UX->Pos->UO->Prop):
  ∀(p:Pos)(s:UO),n<=s.toks->t.wp M Γ (fun a p' s'=>n<=s'.toks->Q a p' s') (fun a p' s'=>n<=s'.toks->E a p' s') p s->t.wp M Γ Q E p s:=by
 induction t with
 |pure a=>intro p s hn h;exact h hn
 |raise e=>intro p s hn h;exact h hn
 |unsupported=>intro p s hn h;exact h
 |finish=>intro p s hn h;exact h
 |rule _ k ih=>intro p s hn h;exact ih _ _ _ hn h
 |«at» _ k ih=>intro p s hn h;exact ih _ _ _ hn h
 |load a _ k ih=>intro p s hn h;refine oEA h fun o h1 h2=>?_;clear h;exact(iEA o h1 (ih _ _ _ hn h2))
 |update a _ f k ih=>intro p s hn h;exact⟨h.1,ih _ _ _ hn h.2⟩
 |loadIfAlive a k ih=>intro p s hn h;exact ih _ _ _ hn h
 |point _ k ih=>intro p s hn h;exact ih _ _ _ hn h
 |register=>intro p s hn h;exact h
 |alloc o k ih=>intro p s hn h;exact ih _ _ _ hn h
 |fresh k ih=>intro p s hn h;exact ih _ _ _ (Nat.le_succ_of_le hn) h
 |ask k ih=>intro p s hn h;exact ih _ _ _ hn h
 |choose src m k ih=>intro p s hn h;exact⟨h.1,ih _ _ _ hn h.2⟩
 |os q _ k ih=>intro p s hn h;exact ih _ _ _ hn h
 |call c hd _ _ k ih=>
  intro p s hn h
  refine y8 h fun r s' h1 h2=>?_;clear h
  exact(Bm r s' h1 (ih _ _ _ (Td hn (BD h1)) h2))
 |handled own k ih=>intro p s hn h;exact ih _ _ _ hn h
 |genState g k ih=>intro p s hn h;refine oEA h fun o h1 h2=>?_;clear h;exact(iEA o h1 (ih _ _ _ hn h2))
 |newGen c k ih=>intro p s hn h;exact ih _ _ _ hn h
 |resume g r _ k ih=>
  intro p s hn h
  refine y8 h fun r s' h1 h2=>?_;clear h
  exact(Bm r s' h1 (ih _ _ _ (Td hn (GN h1)) h2))
 |yield=>intro p s hn h;exact h
 |stack k ih=>intro p s hn h;exact ih _ _ _ hn h
 |fork=>intro p s hn h;exact h
 |thread k ih=>intro p s hn h;exact ih _ _ _ hn h
 |await=>intro p s hn h;exact h
theorem w6{α:Type}{M:Vc}{A:UP}{t:Sem α}{Q:α->UO->Prop}{E:UX->UO->Prop}{s:UO}
  (h:UY M A t (fun v s'=>s.toks<=s'.toks->Q v s') (fun e s'=>s.toks<=s'.toks->E e s') s):UY M A t Q E s:=
 fun Γ p hΓ=>HI s.toks t _ _ p s (TA _) (h Γ p hΓ)
end Mine
end
section
open PySem PySem.W PySem.Calls PyProof.Rows PySem.Spec
namespace Mine
theorem DS.enter{Γ:Us}(h:DS Γ){c:Vj}{hd:Option UX}{p:Pos}(hc:dec c=false):DS (Γ.enter c hd p):=
 ⟨hc,fun x hx=>by
  rcases SH.mp hx with rfl|hx
  ·exact h.1
  ·exact h.2 x hx⟩
theorem DS.goto{Γ:Us}(h:DS Γ){c:Vj}(hc:dec c=false):DS (Γ.goto c):=⟨hc,h.2⟩
theorem ClK.enter{kb:Bool}{Γ:Us}(h:ClK kb Γ){c:Vj}{hd:Option UX}{p:Pos}(hc:dec c=false):ClK kb (Γ.enter c hd p):=fun e=>(h e).enter hc
theorem ClK.goto{kb:Bool}{Γ:Us}(h:ClK kb Γ){c:Vj}(hc:dec c=false):ClK kb (Γ.goto c):=fun e=>(h e).goto hc
noncomputable def O0(kb:Bool)(M:Vc)(A:UP)(c:Vj)(R:UT->UO->Prop)(s:UO):Prop:=
 ∀Γ p,Γ.code=c->Γ.Below A->ClK kb Γ->wpCode M Γ R p s
noncomputable abbrev B5(M:Vc)(A:UP)(c:Vj)(R:UT->UO->Prop)(s:UO):Prop:=O0 true M A c R s
section
variable{kb:Bool}{α β:Type}{M:Vc}{A:UP}{E:UX->UO->Prop}{s:UO}
theorem B5.of{c:Vj}{R:UT->UO->Prop}(h:UI M A c R s):O0 kb M A c R s:=fun Γ p hc hΓ Z=>h Γ p hc hΓ
theorem O0.any{c:Vj}{R:UT->UO->Prop}(h:O0 false M A c R s):UI M A c R s:=fun Γ p hc hΓ=>h Γ p hc hΓ fun e=>nomatch e
theorem FS{t:Sem α}{Q:α->UO->Prop}(h:wpK kb M A t (fun a s'=>s.toks<=s'.toks->Q a s') (fun e s'=>s.toks<=s'.toks->E e s') s):wpK kb M A t Q E s:=fun Γ p hΓ hc=>HI s.toks t _ _ p s (TA _) (h Γ p hΓ hc)
theorem wpP.onRaise{m:Sem α}{k:UX->Sem Unit}{Q:α->UO->Prop}(h:wpK kb M A m Q (fun e s'=>wpK kb M A (k e) (fun Z s''=>E e s'') E s') s):wpK kb M A (m.onRaise k) Q E s:=fun Γ p hΓ hc=>by
 rw[Sem.wp_onRaise]
 exact Sem.wp_mono M Γ m (fun Z Z Z h'=>h') (fun e p' s' h'=>h' Γ p' hΓ hc) p s (h Γ p hΓ hc)
theorem wpP.holding{vs:List UX}{m:Sem α}{Q:α->UO->Prop}(h:wpK kb M A m Q E s):wpK kb M A (holding vs m) Q E s:=fun Γ p hΓ hc=>by rw[Sem.wp_holding];exact h Γ p hΓ hc
theorem wpP.pure{a:α}{Q:α->UO->Prop}(h:Q a s):wpK kb M A (pure a) Q E s:=wpP.of (TR h)
theorem wpP.run{c:Vj}{h:Option UX}{Q:Flow->UO->Prop}(hd:dec c=false)
  (hc:O0 kb M (A.mark h) c (fun r s'=>match r with| .ok f=>Q f s'| .error e=>E e s') s)(hnb:h≠some byPass:=by intro x;cases x):wpK kb M A (run c h) Q E s:=
 fun Γ p hΓ hcl=>by rw[Sem.wp_run];exact hc _ p rfl (hΓ.enter c h p hnb) (hcl.enter hd)
theorem wpP.runValue{c:Vj}{Q:UX->UO->Prop}(hd:dec c=false)
  (hc:O0 kb M A c (fun r s'=>match r with| .ok (.ret v)=>Q v s'| .ok _=>False| .error e=>E e s') s):wpK kb M A (runValue c) Q E s:=
 fun Γ p hΓ hcl=>by rw[Sem.wp_runValue];exact hc _ p rfl (hΓ.enter c none p (by intro x;cases x)) (hcl.enter hd)
theorem wpP.call{f:UX}{pos:List UX}{kw:List (Vk×UX)}{Q:UX->UO->Prop}
  (hc:O0 kb M A (.call f ⟨pos,kw⟩) (fun r s'=>match r with| .ok (.ret v)=>Q v s'| .ok _=>False| .error e=>E e s') s):wpK kb M A (call f pos kw) Q E s:=wpP.runValue rfl hc
theorem B5.tree{c:Vj}{R:UT->UO->Prop}
  (h:wpK kb M (A.under c) (M.den c) (fun fin s'=>match fin with| .done f=>R (.ok f) s'| .again c'=>c'.quiet=true/\dec c'=false/\O0 kb M A c' R s') (fun e s'=>R (.error e) s') s):O0 kb M A c R s:=fun Γ p hc hΓ hcl=>by
 rw[wpCode_iff_wp,hc]
 refine Sem.wp_mono M Γ _ (fun fin p' s' h'=>?_) (fun Z Z Z h'=>h') p s (h Γ p (hc ▸ hΓ.in) hcl)
 cases fin with
 |done f=>exact h'
 |again c'=>exact⟨h'.1,h'.2.2 (Γ.goto c') p' rfl (hΓ.goto c') (hcl.goto h'.2.1)⟩
theorem B5.loop{c:Vj}{R:UT->UO->Prop}(hq:c.quiet=true)(hd:dec c=false)(I:Nat->UO->Prop)
  (turn:∀n s,I n s->wpK kb M (A.under c) (M.den c) (fun fin s'=>match fin with| .done f=>R (.ok f) s'| .again c'=>c'=c/\∃m,m<n/\I m s') (fun e s'=>R (.error e) s') s)
  (n:Nat)(h:I n s):O0 kb M A c R s:=by
 induction n using Nat.strongRecOn generalizing s with
 |ind n ih=>
  refine B5.tree (wpP.mono (turn n s h) (fun fin s' hf=>?_) fun Z Z h'=>h')
  cases fin with
  |done f=>exact hf
  |again c'=>(refine NT hf fun o0_ m hm hI=>?_;clear hf;obtain rfl:=o0_);exact(iAA hq hd (ih m hm hI))
theorem B5.mono{c:Vj}{R R':UT->UO->Prop}(h:O0 kb M A c R s)(hR:∀r s,R r s->R' r s):O0 kb M A c R' s:=
 fun Γ p hc hΓ hcl=>wpCode_mono hR (h Γ p hc hΓ hcl)
end
section
variable{kb:Bool}{α:Type}{M:Vc}{A:UP}{E:UX->UO->Prop}{s:UO}{env:Vn}
theorem JQ{m:Sem α}{Q:Except UX α->UO->Prop}(h:wpK kb M A m (fun a=>Q (.ok a)) (fun e=>Q (.error e)) s):wpK kb M A m.attempt Q E s:=
 fun Γ p hΓ hc=>by rw[Sem.wp_attempt];exact h Γ p hΓ hc
theorem MO{m:Sem α}{Q:α->UO->Prop}(h:wpK kb M A m Q (notedBy M A env E) s):wpK kb M A (m.onRaise fun x=>do noteFrame x env;theTreesLotGoes x) Q E s:=
 wpP.onRaise (wpP.mono h (fun Z Z q=>q) fun Z Z hx=>wpP.bindA (TT hx (fun Z Z e=>wpP.of (wpAny_theTreesLotGoes e)) fun Z Z e=>e))
theorem JP{m:Sem α}{pos:Pos}{Q:α->UO->Prop}(h:wpK kb M A m Q (notedBy M A env E) s):wpK kb M A (m.onRaise fun x=>do noteFrame x env;standAt pos) Q E s:=
 wpP.onRaise (wpP.mono h (fun Z Z q=>q) fun Z Z hx=>wpP.bindA (TT hx (fun Z Z e=>wpP.of (SS e)) fun Z Z e=>e))
theorem JO{c:Prop}[Decidable c]{pos:Pos}{k:PUnit->Sem α}{Q:α->UO->Prop}(h:wpK kb M A (k ()) Q E s):wpK kb M A (if c then(standAt pos>>=k) else k ()) Q E s:=by
 split
 ·exact wpP.bindA (SS h)
 ·exact h
end
section
variable{kb:Bool}{prog:UF}{w:Va}{A:UP}{R:UT->UO->Prop}{s:UO}
theorem X8{elt b9 iter ifs rest scope pos it acc env}
  (h0:O0 kb (UZ prog w) A (.compLoop (.ListComp elt (⟨b9,iter,ifs,0⟩::rest) scope pos) 0 it acc env) R s)
  (h:UY (UZ prog w) A (UU it) (fun it' s'=>O0 kb (UZ prog w) A (.compLoop (.ListComp elt (⟨b9,iter,ifs,0⟩::rest) scope pos) 0 it' acc env) R s')
   (notedBy (UZ prog w) A env fun x s'=>R (.error x) s') s):
  O0 kb (UZ prog w) A (.compStart (.ListComp elt (⟨b9,iter,ifs,0⟩::rest) scope pos) 0 it acc env) R s:=by
 refine B5.tree ?_
 show wpK kb _ _ ((compStart (.ListComp elt (⟨b9,iter,ifs,0⟩::rest) scope pos) 0 it acc env).onRaise (fun x=>do noteFrame x env;standAt theWindowsPlace)) _ _ s
 refine JP ?_
 unfold compStart
 show wpK kb _ _ (ask>>=_) _ _ s
 refine wpP.bindA (wpAny_askSetting ?_)
 split
 ·exact wpP.pure (Ut rfl (Ut rfl h0))
 ·refine wpP.bindA (Ud ?_)
  show wpK kb _ _ (standAt iter.pos>>=_) _ _ s
  refine wpP.bindA (SS (wpP.bindA (TT h (fun it' s' h'=>wpP.pure (Ut rfl (Ut rfl h'))) fun Z Z x=>x)))
end
section
variable{M:Vc}{A:UP}{E:UX->UO->Prop}{s:UO}{env:Vn}
end
namespace l5
noncomputable def T(M:Vc)(A:UP)(E:UX->UO->Prop)(s:UO)(env:Vn)(e:Vh)(scope:Vb)(pos:Pos)(Ai:Sem UX)(first:Sem UX)(g:Comprehension)(gs:List Comprehension)(cl:List (Prod Vk Vf))(Q:UX->UO->Prop)(kb:Bool):Prop:=∀{use:Option (UX->PySem.Sem Unit)}(hcl:clausesOf e=g::gs)(hs:∀x,Ry g.iter env x=pure x)(hclos:closureFor scope env=pure cl)(hkind:scope.kind= .function)(hnames:∀x∈scope.names,x.2= .local->scope.names.lookup x.1=some .local)(h:UY M A first (fun x s₁=>UY M A (UU x) (fun it s₂=>UY M A Ai (fun acc s₃=>
   UY M A (SD scope env.globals cl [] env.qual none .none (some env)) (fun cenv s₄=>
    O0 kb M A (.compStart e 0 it acc {cenv with scope:=UJ scope env}) (compPost M A E use Q acc cenv.locals) s₄) E s₃) E s₂) E s₁) E s),wpK kb M A (comprehension e scope env pos Ai false first use) Q E s
noncomputable def P9:=V4 fun M A E s=>V4 fun env e scope pos=>V4 fun Ai first g gs=>U3 fun cl Q kb=>T M A E s env e scope pos Ai first g gs cl Q kb
@[irreducible] noncomputable def c9:=y6 (by k_extra "ne") P9
@[irreducible] noncomputable def M:=c9.1.1
@[irreducible] noncomputable def A:=c9.1.2.1
@[irreducible] noncomputable def E:=c9.1.2.2.1
@[irreducible] noncomputable def s:=c9.1.2.2.2
@[irreducible] noncomputable def env:=c9.2.1.1
@[irreducible] noncomputable def e:=c9.2.1.2.1
@[irreducible] noncomputable def scope:=c9.2.1.2.2.1
@[irreducible] noncomputable def pos:=c9.2.1.2.2.2
@[irreducible] noncomputable def Ai:=c9.2.2.1.1
@[irreducible] noncomputable def first:=c9.2.2.1.2.1
@[irreducible] noncomputable def g:=c9.2.2.1.2.2.1
@[irreducible] noncomputable def gs:=c9.2.2.1.2.2.2
@[irreducible] noncomputable def cl:=c9.2.2.2.1
@[irreducible] noncomputable def Q:=c9.2.2.2.2.1
@[irreducible] noncomputable def kb:=c9.2.2.2.2.2
theorem walk:T M A E s env e scope pos Ai first g gs cl Q kb:=by
 intro use hcl hs hclos hkind hnames h
 unfold comprehension
 rw[hclos,hcl]
 refine wpP.bindA (TT h (fun x s₁ h₁=>wpP.bindA (SS (wpP.bindA (TB (hs x) (wpP.bindA (SM (TT h₁ (fun it s₂ h₂=>
  JO (wpP.bindA (TT h₂ (fun acc s₃ h₃=>wpP.bindA (TR (wpP.bindA (TT h₃ (fun cenv s₄ h₄=>?_) fun Z Z h'=>h')))) fun Z Z h'=>h')))
   fun Z Z h'=>h'))))))) fun Z Z h'=>h')
 dsimp only
 have hv:∀x∈(scope.names.filter fun x=>(x.2 == .local || x.2 == .cell) && x.1 != (".0":Vk)).reverse,x.2= .local->
   Vn.kindOf {cenv with scope:=UJ scope env} x.1=some .local:=fun x hx hl=>Qu (hnames x (Sd.mp (List.mem_reverse.mp hx)).1 hl)
 have hv':∀x∈(scope.names.filter fun x=>(x.2 == .local || x.2 == .cell) && x.1 != (".0":Vk)).reverse.drop 1++(scope.names.filter fun x=>(x.2 == .local || x.2 == .cell) && x.1 != (".0":Vk)).reverse.take 1,
   x.2= .local->Vn.kindOf {cenv with scope:=UJ scope env} x.1=some .local:=fun x hx hl=>by
  rcases RS.mp hx with h1|h1
  ·exact hv x (List.mem_of_mem_drop h1) hl
  ·exact hv x (List.mem_of_mem_take h1) hl
 refine wpP.holding (wpP.bind (JQ (wpP.holding (wpP.run rfl (B5.mono h₄ fun r s' hr=>?_)))))
 cases r with
 |ok f=>
  cases use with
  |none=>
   refine oEA hr fun m hn hr=>?_
   exact wpP.of (TQ (SM (wpAny_comp_letGo (cenv:={cenv with scope:=UJ scope env}) hkind _ s' m hv hn fun h' m' Z hs'=>TR (hr h' hs'))))
  |some u=>
   refine wpP.of (TQ (Ud (TQ (SM (TT hr (fun Z s'' hr'=>?_) fun Z Z h'=>h')))))
   refine oEA hr' fun m hn hr'=>?_
   exact TQ (wpAny_comp_letGo (cenv:={cenv with scope:=UJ scope env}) hkind _ s'' m hv' hn fun h' m' Z hs'=>TR (hr' h' hs'))
 |error x=>
  have hr':∃m,s'.heap.Ns cenv.locals m/\∀h',To cenv.locals s'.heap h'->∀cenv':Vn,cenv'.locals=cenv.locals->UY M A (passOn "comprehension.variables-let-go" x cenv':Sem UX) (fun Z Z=>False) E {s' with heap:=h'}:=by cases use <;> exact hr
  refine oEA hr' fun m hn hr=>?_;clear hr'
  exact wpP.of (TQ (SM (wpAny_comp_letGo (cenv:={cenv with scope:=UJ scope env}) hkind _ s' m hv hn fun h' m' Z hs'=>TT (hr h' hs' _ rfl) (fun Z Z f=>f.elim) fun Z Z y=>y)))
end l5
section
variable{M:Vc}{A:UP}{E:UX->UO->Prop}{s:UO}{env:Vn}
theorem B9{M A E s env e scope pos Ai first g gs cl Q kb}:l5.T M A E s env e scope pos Ai first g gs cl Q kb:=f7 (P:=l5.P9) (c:=l5.c9) (by with_unfolding_all rfl) (by with_unfolding_all exact l5.walk) ((M,A,E,s),(env,e,scope,pos),(Ai,first,g,gs),(cl,Q,kb))
end
end Mine
end
section
open PySem PySem.W PySem.Calls PyProof.Rows PySem.Spec
namespace Mine
structure Ca(prog:UF)(w:Va)(A:UP)(it:UX)(b9:Vh)(cenv:Vn)(fp wr:List Vf)(n:Nat)(Bd:Nat->(Vk->Option UX)->Prop)(St:Nat->Vg->Prop):Prop where
 sub:∀b∈wr,b∈fp
 frame:∀i h h',St i h->(∀b∈fp,∀o,h.get? b=some o->h'.get? b=some o)->St i h'
 item:∀i(s:UO) m(Q:Unit->UO->Prop)(E:UX->UO->Prop),i<n->St i s.heap->s.heap.Ns cenv.locals m->
  (∀h' tk m',Bd i m'->h'.Ns cenv.locals m'->St (i+1) h'->(∀b o,b≠cenv.locals->b∉wr->s.heap.get? b=some o->h'.get? b=some o)->Q () {s with heap:=h',toks:=tk})->
  UY (UZ prog w) A (pyNext it) (fun r s₁=>match r with
   |none=>False
   |some v=>UY (UZ prog w) A (Sm b9 it v) (fun Z s₂=>UY (UZ prog w) A (assign b9 cenv v) Q E s₂) E s₁) E s
 done:∀(s:UO)(Q:Option UX->UO->Prop)(E:UX->UO->Prop),St n s.heap->
  (∀h' tk,(∀b o,b∉wr->s.heap.get? b=some o->h'.get? b=some o)->Q none {s with heap:=h',toks:=tk})->UY (UZ prog w) A (pyNext it) Q E s
 self:∀i(s:UO)(Q:UX->UO->Prop)(E:UX->UO->Prop),St i s.heap->Q it s->UY (UZ prog w) A (UU it) Q E s
 there:∀i h,St i h->∀b∈wr,∃o,h.get? b=some o
theorem Ca.name{prog:UF}{w:Va}{A:UP}{I:Vf}{fp wr:List Vf}{n:Nat}{P:Nat->UX->Prop}{St:Nat->Vg->Prop}{x:Vk}{px:Pos}{cenv:Vn}
  (W:Walks prog w A I fp wr n P St)(hth:∀i h,St i h->∀b∈wr,∃o,h.get? b=some o)(hx:cenv.kindOf x=some .local)(hp:(cenv.scope.kind == .class || (cenv.scope.kind == .module && cenv.locals != cenv.globals))=false)(hCf:cenv.locals∉fp):
  Ca prog w A (.ref I) (.Name x px) cenv fp wr n (fun i m=>∃v,P i v/\m x=some v) St where
 sub:=W.sub
 frame:=W.frame
 item:=fun i s m Q E hi st hn hQ=>by
  have hCw:cenv.locals∉wr:=fun h=>hCf (W.sub _ h)
  refine W.item i s _ _ hi st fun v h₁ tk₁ hP hst₁ hk₁=>?_
  dsimp only
  refine TB (show Sm (.Name x px) (.ref I) v=pure () from rfl) ?_
  refine Rk (Qn hx (hn.at' fun o e=>hk₁ _ o hCw e) (fun h₂ hn₂ hs₂=>?_) hp)
  refine hQ h₂ _ _ (iEA v hP (by simp)) hn₂ (W.frame _ _ _ hst₁ fun b hb o e=>hs₂.extBut b o (fun h=>hCf (h ▸ hb)) e) fun b o hbC hbw e=>hs₂.extBut b o hbC (hk₁ b o hbw e)
 done:=W.done
 self:=W.self
 there:=hth
section
variable{prog:UF}{w:Va}{A:UP}{R:UT->UO->Prop}{s:UO}
end
namespace K4
noncomputable def T(prog:UF)(w:Va)(A:UP)(R:UT->UO->Prop)(s:UO)(elt:Vh)(b9:Vh)(iter:Vh)(ifs:List Vh)(scope:Vb)(pos:Pos)(it:UX)(acc:UX)(env:Vn)(n0:Nat)(I:Nat->UO->Prop)(n:Nat)(kb:Bool):Prop:=∀(turn:∀n s,I n s->n0<=s.toks->UY (UZ prog w) A (pyNext it) (fun r s₁=>match r with
   |none=>R (.ok .next) s₁
   |some v=>UY (UZ prog w) A (Sm b9 it v) (fun Z s₂'=>UY (UZ prog w) A (assign b9 env v) (fun Z s₂=>n0<=s₂.toks->
     UY (UZ prog w) A (forIn ifs true fun c r=>if r=true then do let ok←isTrue c env (Vi c env);pure (RV ok) else pure (RV r)) (fun ok s₃=>
      if ok=true then n0<=s₃.toks->wpK kb (UZ prog w) A (Vi elt env) (fun x s₄=>
       UY (UZ prog w) A (call (.builtin "list.append") [acc,x]) (fun Z s₅=>∃m,m<n/\I m s₅) (notedBy (UZ prog w) A env fun e s'=>R (.error e) s') s₄) (notedBy (UZ prog w) A env fun e s'=>R (.error e) s') s₃
      else∃m,m<n/\I m s₃) (notedBy (UZ prog w) A env fun e s'=>R (.error e) s') s₂) (notedBy (UZ prog w) A env fun e s'=>R (.error e) s') s₂') (notedBy (UZ prog w) A env fun e s'=>R (.error e) s') s₁) (notedBy (UZ prog w) A env fun e s'=>R (.error e) s') s)(h:I n s)(h0:n0<=s.toks),O0 kb (UZ prog w) A (.compLoop (.ListComp elt [⟨b9,iter,ifs,0⟩] scope pos) 0 it acc env) R s
noncomputable def P9:=V4 fun prog w A R=>V4 fun s elt b9 iter=>V4 fun ifs scope pos it=>V4 fun acc env n0 I=>U2 fun n kb=>T prog w A R s elt b9 iter ifs scope pos it acc env n0 I n kb
@[irreducible] noncomputable def c:=y6 (by k_extra "ne") P9
@[irreducible] noncomputable def prog:=c.1.1
@[irreducible] noncomputable def w:=c.1.2.1
@[irreducible] noncomputable def A:=c.1.2.2.1
@[irreducible] noncomputable def R:=c.1.2.2.2
@[irreducible] noncomputable def s:=c.2.1.1
@[irreducible] noncomputable def elt:=c.2.1.2.1
@[irreducible] noncomputable def b9:=c.2.1.2.2.1
@[irreducible] noncomputable def iter:=c.2.1.2.2.2
@[irreducible] noncomputable def ifs:=c.2.2.1.1
@[irreducible] noncomputable def scope:=c.2.2.1.2.1
@[irreducible] noncomputable def pos:=c.2.2.1.2.2.1
@[irreducible] noncomputable def it:=c.2.2.1.2.2.2
@[irreducible] noncomputable def acc:=c.2.2.2.1.1
@[irreducible] noncomputable def env:=c.2.2.2.1.2.1
@[irreducible] noncomputable def n0:=c.2.2.2.1.2.2.1
@[irreducible] noncomputable def I:=c.2.2.2.1.2.2.2
@[irreducible] noncomputable def n:=c.2.2.2.2.1
@[irreducible] noncomputable def kb:=c.2.2.2.2.2
theorem walk:T prog w A R s elt b9 iter ifs scope pos it acc env n0 I n kb:=by
 intro turn h h0
 refine B5.loop rfl rfl (fun n s=>I n s/\n0<=s.toks) (fun n s hI=>?_) n ⟨h,h0⟩
 show wpK kb _ A ((compTurn (.ListComp elt [⟨b9,iter,ifs,0⟩] scope pos) 0 it acc env).onRaise (fun x=>do noteFrame x env;theTreesLotGoes x)) _ _ s
 refine MO ?_
 rw[compTurn_list]
 refine wpP.bindA (SS (wpP.bindA (w6 (TT (turn n s hI.1 hI.2) (fun r s₁ h₁ q₁=>?_) fun Z Z h' Z=>h'))))
 cases r with
 |none=>exact wpP.pure h₁
 |some v=>
  refine wpP.bindA (w6 (TT h₁ (fun Z s₂' h₂' q₂'=>?_) fun Z Z h' Z=>h'))
  refine wpP.bindA (w6 (TT h₂' (fun Z s₂ h₂ q₂=>?_) fun Z Z h' Z=>h'))
  have t₂:n0<=s₂.toks:=Td hI.2 (Td q₁ (Td q₂' q₂))
  refine wpP.bindA (w6 (TT (h₂ t₂) (fun ok s₃ h₃ q₃=>?_) fun Z Z h' Z=>h'))
  have t₃:n0<=s₃.toks:=Td t₂ q₃
  cases ok with
  |false=>exact wpP.pure ⟨rfl,h₃.imp fun m x=>(iAA x.1 x.2 t₃)⟩
  |true=>
   exact wpP.bind (wpP.bind (FS (wpP.mono (h₃ t₃) (fun x s₄ h₄ q₄=>wpP.bindA (w6 (TT h₄ (fun Z s₅ h₅ q₅=>wpP.pure (wpP.pure ⟨rfl,h₅.imp fun m x=>(iAA x.1 x.2 (Td t₃ (Td q₄ q₅)))⟩)) fun Z Z h' Z=>h'))) fun Z Z h' Z=>h')))
end K4
section
variable{prog:UF}{w:Va}{A:UP}{R:UT->UO->Prop}{s:UO}
theorem EK{prog w A R s elt b9 iter ifs scope pos it acc env n0 kb}(I)(n):K4.T prog w A R s elt b9 iter ifs scope pos it acc env n0 I n kb:=f7 (P:=K4.P9) (c:=K4.c) (by with_unfolding_all rfl) (by with_unfolding_all exact K4.walk) ((prog,w,A,R),(s,elt,b9,iter),(ifs,scope,pos,it),(acc,env,n0,I),(n,kb))
theorem Paired.mono{α β:Type}{F G:α->β->Prop}(h:∀a b,F a b->G a b){l₁:List α}{l₂:List β}(x:Paired F l₁ l₂):Paired G l₁ l₂:=by
 induction x with
 |nil=>exact .nil
 |cons a _ ih=>exact .cons (h _ _ a) ih
inductive EV(L:Vf)(m:Vk->Option UX)(s s':UO):Prop
 |mk(h:Vg)(tk:Nat)(a0:s'={s with heap:=h,toks:=tk})(a1:(∀b o,b≠L->s.heap.get? b=some o->h.get? b=some o))(a2:h.Ns L m)
noncomputable def C5(hb ha h:Vg):Prop:=∀b o,hb.get? b=none->ha.get? b=some o->h.get? b=some o
end
namespace K8
noncomputable def T(prog:UF)(w:Va)(A:UP)(R:UT->UO->Prop)(s:UO)(elt:Vh)(b9:Vh)(iter:Vh)(ifs:List Vh)(scope:Vb)(pos:Pos)(it:UX)(D:Vf)(fp:List Vf)(wr:List Vf)(n:Nat)(Bd:Nat->(Vk->Option UX)->Prop)(St:Nat->Vg->Prop)(cenv:Vn)(m:Vk->Option UX)(mL:Vk->Option UX)(L:Vf)(p:Nat->Bool)(G:Nat->Vg->Vg->UX->Prop)(kb:Bool):Prop:=∀(W:Ca prog w A it b9 cenv fp wr n Bd St)(hsz:n<=Ux)(hDC:D≠cenv.locals)(hDf:D∉fp)(hCf:cenv.locals∉fp)(hLf:L∉fp)(hLD:L≠D)(hLC:L≠cenv.locals)(hnL:s.heap.Ns L mL)(hst:St 0 s.heap)(hacc:s.heap.PlainList D #[])(hn:s.heap.Ns cenv.locals m)(htests:∀i H tk m₂ E',s.toks<=tk->i<n->Bd i m₂->H.Ns cenv.locals m₂->H.Ns L mL->(∀b o,b≠cenv.locals->b∉wr->b≠D->b≠L->s.heap.get? b=some o->H.get? b=some o)->
   UY (UZ prog w) A (forIn ifs true fun c r=>if r=true then do let ok←isTrue c cenv (Vi c cenv);pure (RV ok) else pure (RV r))
    (fun ok s₃=>ok=p i/\EV L mL {s with heap:=H,toks:=tk} s₃) E' {s with heap:=H,toks:=tk})(helt:∀i H tk m₂ E',s.toks<=tk->i<n->p i=true->Bd i m₂->H.Ns cenv.locals m₂->H.Ns L mL->(∀b o,b≠cenv.locals->b∉wr->b≠D->b≠L->s.heap.get? b=some o->H.get? b=some o)->
   wpK kb (UZ prog w) A (Vi elt cenv) (fun y s₃=>G i H s₃.heap y/\EV L mL {s with heap:=H,toks:=tk} s₃) E' {s with heap:=H,toks:=tk})(hR:∀h' tk m' ys,h'.Ns cenv.locals m'->h'.PlainList D ys->Paired (fun j y=>∃hb ha,G j hb ha y/\(∃o,hb.get? cenv.locals=some o)/\C5 hb ha h') ((TS n).filter p) ys.toList->
   h'.Ns L mL->(∀b o,b≠cenv.locals->b∉wr->b≠D->b≠L->s.heap.get? b=some o->h'.get? b=some o)->R (.ok .next) {s with heap:=h',toks:=tk}),O0 kb (UZ prog w) A (.compLoop (.ListComp elt [⟨b9,iter,ifs,0⟩] scope pos) 0 it (.ref D) cenv) R s
noncomputable def P9:=V4 fun prog w A R=>V4 fun s elt b9 iter=>V4 fun ifs scope pos it=>V4 fun D fp wr n=>V4 fun Bd St cenv m=>V4 fun mL L p G=>fun kb=>T prog w A R s elt b9 iter ifs scope pos it D fp wr n Bd St cenv m mL L p G kb
@[irreducible] noncomputable def c:=y6 (by k_extra "ne") P9
@[irreducible] noncomputable def prog:=c.1.1
@[irreducible] noncomputable def w:=c.1.2.1
@[irreducible] noncomputable def A:=c.1.2.2.1
@[irreducible] noncomputable def R:=c.1.2.2.2
@[irreducible] noncomputable def s:=c.2.1.1
@[irreducible] noncomputable def elt:=c.2.1.2.1
@[irreducible] noncomputable def b9:=c.2.1.2.2.1
@[irreducible] noncomputable def iter:=c.2.1.2.2.2
@[irreducible] noncomputable def ifs:=c.2.2.1.1
@[irreducible] noncomputable def scope:=c.2.2.1.2.1
@[irreducible] noncomputable def pos:=c.2.2.1.2.2.1
@[irreducible] noncomputable def it:=c.2.2.1.2.2.2
@[irreducible] noncomputable def D:=c.2.2.2.1.1
@[irreducible] noncomputable def fp:=c.2.2.2.1.2.1
@[irreducible] noncomputable def wr:=c.2.2.2.1.2.2.1
@[irreducible] noncomputable def n:=c.2.2.2.1.2.2.2
@[irreducible] noncomputable def Bd:=c.2.2.2.2.1.1
@[irreducible] noncomputable def St:=c.2.2.2.2.1.2.1
@[irreducible] noncomputable def cenv:=c.2.2.2.2.1.2.2.1
@[irreducible] noncomputable def m:=c.2.2.2.2.1.2.2.2
@[irreducible] noncomputable def mL:=c.2.2.2.2.2.1.1
@[irreducible] noncomputable def L:=c.2.2.2.2.2.1.2.1
@[irreducible] noncomputable def p:=c.2.2.2.2.2.1.2.2.1
@[irreducible] noncomputable def G:=c.2.2.2.2.2.1.2.2.2
@[irreducible] noncomputable def kb:=c.2.2.2.2.2.2
inductive El(h:Vg)(j:Nat)(y:UX):Prop
 |mk(hb ha:Vg)(g:G j hb ha y)(d:((∃o,hb.get? cenv.locals=some o)/\(∃o,hb.get? D=some o)/\(∀b∈wr,∃o,hb.get? b=some o)/\∃o,hb.get? L=some o))(st:C5 hb ha h)
inductive I1(k:Nat)(s':UO):Prop
 |mk(h':Vg)(tk:Nat)(m':Vk->Option UX)(ys:Array UX)(i:Nat)(a0:s'={s with heap:=h',toks:=tk})(a1:St i h')(a2:h'.PlainList D ys)(a3:h'.Ns cenv.locals m')(a4:h'.Ns L mL)(a5:i<=n)(a6:k=n+1-i)(a7:Paired (El h') ((TS i).filter p) ys.toList)(a8:(∀b o,b≠cenv.locals->b∉wr->b≠D->b≠L->s.heap.get? b=some o->h'.get? b=some o))
inductive I2(i:Nat)(H:Vg)(s₂:UO):Prop
 |mk(h₁:Vg)(tk₁:Nat)(m₁:Vk->Option UX)(a0:s₂={s with heap:=h₁,toks:=tk₁})(a1:Bd i m₁)(a2:h₁.Ns cenv.locals m₁)(a3:St (i+1) h₁)(a4:(∀b o,b≠cenv.locals->b∉wr->H.get? b=some o->h₁.get? b=some o))
theorem walk:T prog w A R s elt b9 iter ifs scope pos it D fp wr n Bd St cenv m mL L p G kb:=by
 intro W hsz hDC hDf hCf hLf hLD hLC hnL hst hacc hn htests helt hR
 have hCw:cenv.locals∉wr:=fun h=>hCf (W.sub _ h)
 have hDw:D∉wr:=fun h=>hDf (W.sub _ h)
 have hLw:L∉wr:=fun h=>hLf (W.sub _ h)
 have stays_up:∀{h₁ h₂:Vg},(∀b o,b≠cenv.locals->b∉wr->b≠D->b≠L->h₁.get? b=some o->h₂.get? b=some o)->∀j y,
   (El h₁ j y)->
   (El h₂ j y):=by
  (intro h₁ h₂ hk j y r0_;obtain⟨hb,ha,hg,hd,hs⟩:=r0_)
  refine⟨hb,ha,hg,hd,fun b o e1 e2=>hk b o (fun e=>?_) (fun e=>?_) (fun e=>?_) (fun e=>?_) (hs b o e1 e2)⟩
  ·(refine oA hd fun o0_ Z=>?_;clear hd;refine oE o0_ fun o' h'=>?_;clear o0_);exact zg1 e e1 h'
  ·refine AX hd fun Z Z h3 Z=>?_;clear hd;refine oE (h3 b e) fun o' h'=>?_;exact zs1 e1 h'
  ·(refine oAA hd fun Z o0_ Z=>?_;clear hd;refine oE o0_ fun o' h'=>?_;clear o0_);exact zg1 e e1 h'
  ·refine OJ hd fun Z Z Z o' h'=>?_;clear hd;exact zg1 e e1 h'
 refine EK (n0:=s.toks)
  I1 (n+1) ?_
  ⟨s.heap,s.toks,m, #[],0,rfl,hst,hacc,hn,hnL,TC _,rfl, .nil,fun Z Z Z Z Z Z e=>e⟩ (TA _)
 (intro k s' r0_;obtain⟨H,tk,m',ys,i,rfl,hst',hacc',hn',hnL',hi,rfl,hP,hk⟩:=r0_;intro hT)
 by_cases hlt:i<n
 ·refine TT (W.item i _ m' (fun Z s₂=>I2 i H s₂) (notedBy (UZ prog w) A cenv fun e s'=>R (.error e) s') hlt hst' hn' fun h₁ tk₁ m₁ hB hn₁ hst₁ hk₁=>⟨h₁,tk₁,m₁,rfl,hB,hn₁,hst₁,hk₁⟩) (fun r s₁ h₁=>?_) fun Z Z e=>e
  cases r with
  |none=>exact h₁.elim
  |some v=>
   refine TT h₁ (fun Z s₁' h₁'=>?_) fun Z Z e=>e
   refine TT h₁' (fun Z s₂ h₂ hT₂=>?_) fun Z Z e=>e
   obtain⟨h₁,tk₁,m₁,rfl,hB,hn₁,hst₁,hk₁⟩:=h₂
   have hk₁':∀b o,b≠cenv.locals->b∉wr->b≠D->b≠L->s.heap.get? b=some o->h₁.get? b=some o:=fun b o h1 h2 h3 h4 e=>hk₁ b o h1 h2 (hk b o h1 h2 h3 h4 e)
   have hnL₁:h₁.Ns L mL:=hnL'.at' fun o e=>hk₁ _ o hLC hLw e
   have hacc₁:h₁.PlainList D ys:=hacc'.at fun o e=>hk₁ _ o hDC hDw e
   refine TT (htests i h₁ tk₁ m₁ _ hT₂ hlt hB hn₁ hnL₁ hk₁') (fun ok s₃ h₃=>?_) fun Z Z e=>e
   obtain⟨rfl,h₃,tk₃,rfl,hk₃,hnL₃⟩:=h₃
   have hst₃:St (i+1) h₃:=W.frame _ _ _ hst₁ fun b hb o e=>hk₃ b o (fun e'=>hLf (e' ▸ hb)) e
   have hacc₃:h₃.PlainList D ys:=hacc₁.at fun o e=>hk₃ _ o (Ne.symm hLD) e
   have hn₃:=hn₁.at' fun o e=>hk₃ _ o (Ne.symm hLC) e
   have hk₃':∀b o,b≠cenv.locals->b∉wr->b≠D->b≠L->s.heap.get? b=some o->h₃.get? b=some o:=fun b o h1 h2 h3 h4 e=>hk₃ b o h4 (hk₁' b o h1 h2 h3 h4 e)
   cases hp:p i with
   |false=>
    simp only[QX,if_false]
    refine⟨n+1-(i+1),by lia,h₃,tk₃,_,ys,i+1,rfl,hst₃,hacc₃,hn₃,hnL₃,hlt,rfl,?_,hk₃'⟩
    rw[Sa,QW]
    simp only[List.filter_cons,hp,QX,if_false,Sn,Sj]
    exact Paired.mono (stays_up fun b o h1 h2 h3 h4 e=>hk₃ b o h4 (hk₁ b o h1 h2 e)) hP
   |true=>
    simp only[if_true]
    intro hT₃
    refine wpP.mono (helt i h₃ tk₃ m₁ _ hT₃ hlt hp hB hn₃ hnL₃ hk₃') (fun y s₄ h₄=>?_) fun Z Z e=>e
    obtain⟨hG,h₄,tk₄,rfl,hk₄,hnL₄⟩:=h₄
    have hys:ys.size<=Ux:=by
     have e1:=hP.length
     have e2:((TS i).filter p).length<=(TS i).length:=Qp _ _
     rw[Rl] at e2
     have e4:ys.toList.length=ys.size:=by simp
     lia
    refine wpAny_list_append_plain (hsz:=hys) (hacc₃.at fun o e=>hk₄ _ o (Ne.symm hLD) e) fun h₅ hl₅ hs₅=>?_
    refine⟨n+1-(i+1),by lia,h₅,tk₄,_,ys.push y,i+1,rfl,?_,hl₅,(hn₃.at' fun o e=>hk₄ _ o (Ne.symm hLC) e).sameBut hs₅ (Ne.symm hDC),hnL₄.sameBut hs₅ hLD,hlt,rfl,?_,fun b o h1 h2 h3 h4 e=>hs₅.extBut b o h3 (hk₄ b o h4 (hk₃' b o h1 h2 h3 h4 e))⟩
    ·exact W.frame _ _ h₅ hst₃ fun b hb o e=>hs₅.extBut b o (fun h=>hDf (h ▸ hb)) (hk₄ b o (fun e'=>hLf (e' ▸ hb)) e)
    ·rw[Sa,QW,Array.toList_push]
     simp only[List.filter_cons,hp,if_true,Sn]
     have hDo:∃o,h₃.get? D=some o:=⟨_,hacc₃.choose_spec⟩
     refine Paired.snoc (Paired.mono (stays_up fun b o h1 h2 h3 h4 e=>hs₅.extBut b o h3 (hk₄ b o h4 (hk₃ b o h4 (hk₁ b o h1 h2 e)))) hP) ⟨h₃,h₄,hG,(Js ?_ hDo (W.there _ _ hst₃) ?_),fun b o e1 e2=>hs₅.extBut b o (fun e=>?_) e2⟩
     ·refine R7 hn₃ fun o Z Z ho Z=>?_;clear hn₃;exact⟨o,ho⟩
     ·refine R7 hnL₃ fun o Z Z ho Z=>?_;clear hnL₃;exact⟨o,ho⟩
     ·refine oE hDo fun o' h'=>?_;clear hDo
      exact zg1 e e1 h'
 ·have hin:i=n:=by lia
  subst hin
  refine W.done _ _ _ hst' fun h₁ tk₁ hk₁=>?_
  exact hR h₁ tk₁ m' ys (hn'.at' fun o e=>hk₁ _ o hCw e) (hacc'.at fun o e=>hk₁ _ o hDw e) (Paired.mono (fun j y x=>El.casesOn x fun hb ha a b c=>(H5 hb ha a b.1 (fun b' o e1 e2=>hk₁ b' o (fun e=>by refine AX b fun Z Z h3 Z=>?_;clear b;refine oE (h3 b' e) fun o' h'=>?_;exact zs1 e1 h') (c b' o e1 e2)))) hP) (hnL'.at' fun o e=>hk₁ _ o hLw e) fun b o h1 h2 h3 h4 e=>hk₁ b o h2 (hk b o h1 h2 h3 h4 e)
end K8
section
variable{prog:UF}{w:Va}{A:UP}{R:UT->UO->Prop}{s:UO}
theorem IZ{prog w A R s elt b9 iter ifs scope pos it D fp wr n Bd St cenv m mL L kb}(p)(G):K8.T prog w A R s elt b9 iter ifs scope pos it D fp wr n Bd St cenv m mL L p G kb:=f7 (P:=K8.P9) (c:=K8.c) (by with_unfolding_all rfl) (by with_unfolding_all exact K8.walk) ((prog,w,A,R),(s,elt,b9,iter),(ifs,scope,pos,it),(D,fp,wr,n),(Bd,St,cenv,m),(mL,L,p,G),kb)
end
section
variable{prog:UF}{w:Va}{A:UP}{E:UX->UO->Prop}{env:Vn}
structure Blk(kb:Bool)(prog:UF)(w:Va)(A:UP)(env:Vn)(scope:Vb)(cl:List (Vk×Vf))(b9:Vh)(ifs:List Vh)(elt:Vh)(it:UX)(fp wr:List Vf)(n:Nat)
  (Bd:Nat->(Vk->Option UX)->Prop)(St:Nat->Vg->Prop)(p:Nat->Bool)(G:Nat->Vg->Vg->UX->Prop)(L:Vf)(mL:Vk->Option UX)(s₂:UO):Prop where
 names:s₂.heap.Ns L mL
 off:L∉fp
 size:n<=Ux
 st:St 0 s₂.heap
 low:∀b∈fp,b<s₂.heap.objs.size
 pull:∀C,s₂.heap.objs.size<=C->Ca prog w A it b9 (Uw scope cl C env) fp wr n Bd St
 tests:∀C i H tk m₂ E',s₂.toks<=tk->s₂.heap.objs.size<=C->i<n->Bd i m₂->H.Ns C m₂->H.Ns L mL->(∀b o,b∉wr->b≠L->s₂.heap.get? b=some o->H.get? b=some o)->
  UY (UZ prog w) A (forIn ifs true fun c r=>if r=true then do let ok←isTrue c (Uw scope cl C env) (Vi c (Uw scope cl C env));pure (RV ok) else pure (RV r))
   (fun ok s₃=>ok=p i/\EV L mL {s₂ with heap:=H,toks:=tk} s₃) E' {s₂ with heap:=H,toks:=tk}
 elt:∀C i H tk m₂ E',s₂.toks<=tk->s₂.heap.objs.size<=C->i<n->p i=true->Bd i m₂->H.Ns C m₂->H.Ns L mL->(∀b o,b∉wr->b≠L->s₂.heap.get? b=some o->H.get? b=some o)->
  wpK kb (UZ prog w) A (Vi elt (Uw scope cl C env)) (fun y s₃=>G i H s₃.heap y/\EV L mL {s₂ with heap:=H,toks:=tk} s₃) E' {s₂ with heap:=H,toks:=tk}
theorem EL{kb:Bool}{elt b9 iter:Vh}{ifs:List Vh}{scope:Vb}{cl:List (Vk×Vf)}{pos:Pos}{s₂:UO}{it:UX}{fp wr:List Vf}{n:Nat}{Bd:Nat->(Vk->Option UX)->Prop}
  {St:Nat->Vg->Prop}{p:Nat->Bool}{G:Nat->Vg->Vg->UX->Prop}{RR:UX->Vf->UT->UO->Prop}{L:Vf}{mL:Vk->Option UX}
  (K:Blk kb prog w A env scope cl b9 ifs elt it fp wr n Bd St p G L mL s₂)(hcell:∀y∈scope.names,y.2≠ .cell)(hkind:scope.kind= .function)
  (hRR:∀D C h' tk m' ys,s₂.heap.get? D=none->s₂.heap.get? C=none->D≠C->h'.Ns C m'->h'.PlainList D ys->Paired (fun j y=>∃hb ha,G j hb ha y/\(∃o,hb.get? C=some o)/\C5 hb ha h') ((TS n).filter p) ys.toList->
   h'.Ns L mL->(∀b o,b∉wr->b≠L->s₂.heap.get? b=some o->h'.get? b=some o)->RR (.ref D) C (.ok .next) {s₂ with heap:=h',toks:=tk}):
  UY (UZ prog w) A (newList []) (fun acc s₃=>UY (UZ prog w) A (SD scope env.globals cl [] env.qual none .none (some env)) (fun cenv s₄=>
   O0 kb (UZ prog w) A (.compStart (.ListComp elt [⟨b9,iter,ifs,0⟩] scope pos) 0 it acc {cenv with scope:=UJ scope env}) (RR acc cenv.locals) s₄) E s₃) E s₂:=by
 refine Ru (wpAny_newFunctionEnv hcell (by intro y hy;simp at hy) (fun h₁ hns₁ hsb₁=>?_) hkind)
 dsimp only at hns₁ hsb₁ ⊢
 generalize hH2:s₂.heap.push {cls:= .type "list",dict:=none,data:= .seq ([]:List UX).toArray}=H2 at hns₁ hsb₁ ⊢
 have hC:H2.objs.size=s₂.heap.objs.size+1:=by rw[←hH2,Ss]
 have hDC:s₂.heap.objs.size≠H2.objs.size:=by rw[hC];exact Tb (RC _)
 have hCle:s₂.heap.objs.size<=H2.objs.size:=by rw[hC];exact TG _
 have below:∀b,b<s₂.heap.objs.size->b≠H2.objs.size/\b≠s₂.heap.objs.size:=fun b hb=>⟨by rw[hC];exact Tb (Ri hb),Tb hb⟩
 have hDf:s₂.heap.objs.size∉fp:=fun hm=>SK _ (K.low _ hm)
 have hCf:H2.objs.size∉fp:=fun hm=>by have:=K.low _ hm;rw[hC] at this;exact SK _ (Nat.lt_of_succ_lt this)
 have old:∀b o,s₂.heap.get? b=some o->h₁.get? b=some o:=fun b o e=>hsb₁.extBut b o (below b (Tc e)).1 (Qj _ (hH2 ▸ Qj _ e))
 have hacc:h₁.PlainList s₂.heap.objs.size #[]:=⟨_,hsb₁.extBut _ _ hDC (Qj _ (hH2 ▸ QD _ rfl))⟩
 have W:=K.pull H2.objs.size hCle
 have hst₁:St 0 h₁:=W.frame _ _ _ K.st fun b Z o e=>old b o e
 have fresh:∀a,s₂.heap.objs.size<=a->s₂.heap.get? a=none:=fun a ha=>by
  cases e:s₂.heap.get? a with
  |none=>rfl
  |some o'=>exact absurd (Tc e) (TY.mpr ha)
 have hnL₁:h₁.Ns L mL:=K.names.at' fun o e=>old _ o e
 have hLlt:L<s₂.heap.objs.size:=by refine R7 K.names fun o Z Z ho Z=>?_;exact Tc ho
 have up:∀H:Vg,(∀b o,b≠H2.objs.size->b∉wr->b≠s₂.heap.objs.size->b≠L->h₁.get? b=some o->H.get? b=some o)->∀b o,b∉wr->b≠L->s₂.heap.get? b=some o->H.get? b=some o:=
  fun H hk b o hbw hbL e=>hk b o (below b (Tc e)).1 hbw (below b (Tc e)).2 hbL (old b o e)
 have loop:∀s₃:UO,s₃={s₂ with heap:=h₁,toks:=s₂.toks+([]:List (Vk×UX)).length}->
   O0 kb (UZ prog w) A (.compLoop (.ListComp elt [⟨b9,iter,ifs,0⟩] scope pos) 0 it (.ref s₂.heap.objs.size) (Uw scope cl H2.objs.size env))
    (RR (.ref s₂.heap.objs.size) H2.objs.size) s₃:=by
  rintro s₃ rfl
  refine IZ (cenv:=Uw scope cl H2.objs.size env) p G W K.size hDC hDf hCf K.off (Tb hLlt) (below _ hLlt).1 hnL₁ hst₁ hacc hns₁
   (fun i H tk m₂ E' hT hi hb hn hnL hk=>K.tests _ i H tk m₂ E' hT hCle hi hb hn hnL (up H hk))
   (fun i H tk m₂ E' hT hi hp hb hn hnL hk=>K.elt _ i H tk m₂ E' hT hCle hi hp hb hn hnL (up H hk))
   fun h' tk m' ys hn hpl hP hnL hk=>?_
  exact hRR _ _ h' tk m' ys (fresh _ (TA _)) (fresh _ (by rw[hC];exact TG _)) hDC hn hpl hP hnL (up h' hk)
 exact X8 (loop _ rfl) (W.self 0 _ _ _ hst₁ (loop _ rfl))
inductive Y9(kb:Bool)(prog:UF)(w:Va)(A:UP)(env:Vn)(scope:Vb)(cl:List (Vk×Vf))(b9:Vh)(ifs:List Vh)(elt:Vh)(h₀:Vg)(L:Vf)(it:UX)(s₂:UO)
  (fin:(Vk->Option UX)->List (Vf×Vl)->Vf->List UX->Nat->Vg->Nat->Prop):Prop
 |mk(fp:List Vf)(wr:List Vf)(n:Nat)(Bd:Nat->(Vk->Option UX)->Prop)(St:Nat->Vg->Prop)(p:Nat->Bool)(G:Nat->Vg->Vg->UX->Prop)(m:Vk->Option UX)(news:List (Vf×Vl))(a0:Blk kb prog w A env scope cl b9 ifs elt it fp wr n Bd St p G L m s₂)(a1:Fr h₀ L s₂.heap m)(a2:News h₀ L s₂.heap news)(a3:L∉wr)(a4:(∀p∈news,p.1∉wr))(a5:(∀b∈wr,h₀.get? b=none))(a6:∀D ys k h' tk,Fr h₀ L h' m->News h₀ L h' ((D,listOf ys.toArray k)::news)->(∀p∈news,p.1≠D)->Paired (fun j y=>∃hb ha,G j hb ha y/\C5 hb ha h') ((TS n).filter p) ys->fin m news D ys k h' tk)
theorem Gz{h₀ h h':Vg}{L D:Vf}{m:Vk->Option UX}{news:List (Vf×Vl)}{wr:List Vf}{ys:Array UX}(F:Fr h₀ L h m)(N:News h₀ L h news)(hL:L∉wr)(hN:∀p∈news,p.1∉wr)(h0:∀b∈wr,h₀.get? b=none)
  (hnL:h'.Ns L m)(hk:∀b o,b∉wr->b≠L->h.get? b=some o->h'.get? b=some o)(hD:h.get? D=none)(hpl:h'.PlainList D ys):
  Fr h₀ L h' m/\(∃k,News h₀ L h' ((D,listOf ys k)::news))/\(∀p∈news,p.1≠D):=by
 refine R7 F.ns fun oL es ep hoL r=>?_
 have hL0:D≠L:=fun e=>by exact zg1 e hD hoL
 have k0:∀b o,h₀.get? b=some o->h'.get? b=some o:=fun b o e=>hk b o (fun hb=>by exact zs1 (h0 b hb) e) (fun e'=>absurd (Tc e) (TY.mpr (e' ▸ F.above))) (F.keep b o e)
 refine(iAA ⟨hnL,k0,F.above⟩ ?_ (fun p hp e=>?_))
 ·refine oE hpl fun k ho=>?_;clear hpl
  refine⟨k,fun p hp=>?_⟩
  rcases SH.mp hp with rfl|hp
  ·refine(iAA ho hL0 ?_)
   cases q:h₀.get? D with
   |none=>rfl
   |some o=>exact zs1 hD (F.keep _ _ q)
  ·exact⟨hk _ _ (hN p hp) (N p hp).2.1 (N p hp).1,(N p hp).2⟩
 ·exact zg1 e.symm hD ((N p hp).1)
end
namespace K0
noncomputable def T(prog:UF)(w:Va)(A:UP)(E:UX->UO->Prop)(env:Vn)(s:UO)(elt:Vh)(b9:Vh)(iter:Vh)(ifs:List Vh)(scope:Vb)(cl:List (Prod Vk Vf))(pos:Pos)(Q:UX->UO->Prop)(h₀:Vg)(L:Vf):Prop:=∀(hclos:closureFor scope env=pure cl)(hcell:∀y∈scope.names,y.2≠ .cell)(hkind:scope.kind= .function)(hnames:∀y∈scope.names,y.2= .local->scope.names.lookup y.1=some .local)(hs:∀x,Ry iter env x=pure x)(h:UY (UZ prog w) A (Vi iter env) (fun xv s₁=>UY (UZ prog w) A (UU xv) (fun it s₂=>Y9 false prog w A env scope cl b9 ifs elt h₀ L it s₂ fun Z Z D Z Z h' tk=>Q (.ref D) {s₂ with heap:=h',toks:=tk}) E s₁) E s),UY (UZ prog w) A (Vi (.ListComp elt [⟨b9,iter,ifs,0⟩] scope pos) env) Q E s
noncomputable def P9:=V4 fun prog w A E=>V4 fun env s elt b9=>V4 fun iter ifs scope cl=>U4 fun pos Q h₀ L=>T prog w A E env s elt b9 iter ifs scope cl pos Q h₀ L
@[irreducible] noncomputable def c:=y6 (by k_extra "ne") P9
@[irreducible] noncomputable def prog:=c.1.1
@[irreducible] noncomputable def w:=c.1.2.1
@[irreducible] noncomputable def A:=c.1.2.2.1
@[irreducible] noncomputable def E:=c.1.2.2.2
@[irreducible] noncomputable def env:=c.2.1.1
@[irreducible] noncomputable def s:=c.2.1.2.1
@[irreducible] noncomputable def elt:=c.2.1.2.2.1
@[irreducible] noncomputable def b9:=c.2.1.2.2.2
@[irreducible] noncomputable def iter:=c.2.2.1.1
@[irreducible] noncomputable def ifs:=c.2.2.1.2.1
@[irreducible] noncomputable def scope:=c.2.2.1.2.2.1
@[irreducible] noncomputable def cl:=c.2.2.1.2.2.2
@[irreducible] noncomputable def pos:=c.2.2.2.1
@[irreducible] noncomputable def Q:=c.2.2.2.2.1
@[irreducible] noncomputable def h₀:=c.2.2.2.2.2.1
@[irreducible] noncomputable def L:=c.2.2.2.2.2.2
theorem walk:T prog w A E env s elt b9 iter ifs scope cl pos Q h₀ L:=by
 intro hclos hcell hkind hnames hs h
 rw[eval_ListComp]
 refine wpK.any (B9 (use:=none) rfl hs hclos hkind hnames (TT h (fun xv s₁ h₁=>TT h₁ (fun it s₂ h₂=>?_) fun Z Z e=>e) fun Z Z e=>e))
 obtain⟨fp,wr,n,Bd,St,p,G,m,news,K,F,N,hL,hN,h0,hQ⟩:=h₂
 refine EL (RR:=fun acc C=>compPost (UZ prog w) A E none Q acc C) K hcell hkind ?_
 intro D C h' tk m' ys hD hC hDC hn hpl hP hnL hk
 have hLC:L≠C:=by refine R7 F.ns fun oL Z Z hoL Z=>?_;rintro e;exact zg1 e.symm hC hoL
 refine(iEA m' hn (fun h'' hs''=>?_))
 (refine oAA (Gz F N hL hN h0 (hnL.sameBut hs'' hLC) (fun b o hbf hbL e=>hs''.extBut b o (by rintro rfl;exact zs1 hC e) (hk b o hbf hbL e)) hD (hpl.extBut hs''.extBut hDC)) fun F' o0_ hne=>?_;refine oE o0_ fun k N'=>?_;clear o0_)
 refine hQ D ys.toList k h'' tk F' (by rw[Qy];exact N') hne (Paired.mono (fun j y x=>M3 x fun hb ha a b c=>(Bm hb ha a (fun b' o e1 e2=>hs''.extBut b' o (fun e=>?_) (c b' o e1 e2)))) hP)
 refine oE b fun o' h'=>?_;clear b
 exact zg1 e e1 h'
end K0
section
variable{prog:UF}{w:Va}{A:UP}{E:UX->UO->Prop}{env:Vn}
theorem j5{prog w A E env s elt b9 iter ifs scope cl pos Q h₀ L}:K0.T prog w A E env s elt b9 iter ifs scope cl pos Q h₀ L:=f7 (P:=K0.P9) (c:=K0.c) (by with_unfolding_all rfl) (by with_unfolding_all exact K0.walk) ((prog,w,A,E),(env,s,elt,b9),(iter,ifs,scope,cl),(pos,Q,h₀,L))
end
namespace B7
noncomputable def T(prog:UF)(w:Va)(A:UP)(E:UX->UO->Prop)(env:Vn)(s:UO)(elt:Vh)(b9:Vh)(iter:Vh)(ifs:List Vh)(y:Vk)(py:Pos)(scope:Vb)(cl:List (Prod Vk Vf))(pos:Pos)(De:Pos)(Q:Flow->UO->Prop)(h₀:Vg)(kb:Bool):Prop:=∀(hsw:swapsWith (.ListComp elt [⟨b9,iter,ifs,0⟩] scope pos) (some (.Name y py)) De.line env=pure true)(hclos:closureFor scope env=pure cl)(hcell:∀z∈scope.names,z.2≠ .cell)(hkind:scope.kind= .function)(hnames:∀z∈scope.names,z.2= .local->scope.names.lookup z.1=some .local)(hs:∀x,Ry iter env x=pure x)(hy:env.kindOf y=some .local)(hp:(env.scope.kind == .class || (env.scope.kind == .module && env.locals != env.globals))=false)(h:UY (UZ prog w) A (Vi iter env) (fun xv s₁=>UY (UZ prog w) A (UU xv) (fun it s₂=>Y9 kb prog w A env scope cl b9 ifs elt h₀ env.locals it s₂ fun m news D ys k Z Z=>
   ∀h'' tk'',Fr h₀ env.locals h'' (fun z=>if z=y then some (.ref D) else m z)->News h₀ env.locals h'' ((D,listOf ys.toArray k)::news)->Q .next {s₂ with heap:=h'',toks:=tk''}) E s₁) E s),wpK kb (UZ prog w) A (exec (.Assign [.Name y py] (.ListComp elt [⟨b9,iter,ifs,0⟩] scope pos) De) env) Q E s
noncomputable def P9:=V4 fun prog w A E=>V4 fun env s elt b9=>V4 fun iter ifs y py=>V4 fun scope cl pos De=>U3 fun Q h₀ kb=>T prog w A E env s elt b9 iter ifs y py scope cl pos De Q h₀ kb
@[irreducible] noncomputable def c:=y6 (by k_extra "ne") P9
@[irreducible] noncomputable def prog:=c.1.1
@[irreducible] noncomputable def w:=c.1.2.1
@[irreducible] noncomputable def A:=c.1.2.2.1
@[irreducible] noncomputable def E:=c.1.2.2.2
@[irreducible] noncomputable def env:=c.2.1.1
@[irreducible] noncomputable def s:=c.2.1.2.1
@[irreducible] noncomputable def elt:=c.2.1.2.2.1
@[irreducible] noncomputable def b9:=c.2.1.2.2.2
@[irreducible] noncomputable def iter:=c.2.2.1.1
@[irreducible] noncomputable def ifs:=c.2.2.1.2.1
@[irreducible] noncomputable def y:=c.2.2.1.2.2.1
@[irreducible] noncomputable def py:=c.2.2.1.2.2.2
@[irreducible] noncomputable def scope:=c.2.2.2.1.1
@[irreducible] noncomputable def cl:=c.2.2.2.1.2.1
@[irreducible] noncomputable def pos:=c.2.2.2.1.2.2.1
@[irreducible] noncomputable def De:=c.2.2.2.1.2.2.2
@[irreducible] noncomputable def Q:=c.2.2.2.2.1
@[irreducible] noncomputable def h₀:=c.2.2.2.2.2.1
@[irreducible] noncomputable def kb:=c.2.2.2.2.2.2
theorem walk:T prog w A E env s elt b9 iter ifs y py scope cl pos De Q h₀ kb:=by
 intro hsw hclos hcell hkind hnames hs hy hp h
 rw[exec_Assign_Name_used _ _ _ _ hsw]
 refine wpP.bindA (SS (wpP.bind ?_))
 show wpK kb _ A (do let _←comprehension (.ListComp elt [⟨b9,iter,ifs,0⟩] scope pos) scope env _ (newList []) false (Vi iter env) (some (assign (.Name y py) env))) _ _ s
 refine wpP.bind (wpP.mono (B9 (use:=some (assign (.Name y py) env)) (Q:=fun Z s'=>Q .next s') rfl hs hclos hkind hnames
  (TT h (fun xv s₁ h₁=>TT h₁ (fun it s₂ h₂=>?_) fun Z Z e=>e) fun Z Z e=>e)) (fun Z s' hq=>wpP.pure (wpP.pure hq)) fun Z Z e=>e)
 obtain⟨fp,wr,n,Bd,St,p,G,m,news,K,F,N,hL,hN,h0,hQ⟩:=h₂
 refine EL (RR:=fun acc C=>compPost (UZ prog w) A E (some (assign (.Name y py) env)) (fun Z s'=>Q .next s') acc C) K hcell hkind ?_
 intro D C h' tk m' ys hD hC hDC hn hpl hP hnL hk
 refine R7 (id F.ns) fun oL es ep hoL r=>?_
 have hLC:env.locals≠C:=by rintro e;exact zg1 e.symm hC hoL
 have hLD:env.locals≠D:=by rintro e;exact zg1 e.symm hD hoL
 have hn':=hnL
 show UY _ A (assign (.Name y py) env (.ref D)) _ _ _
 refine Rk (Qn hy hn' (fun h₂ hn₂ hs₂=>?_) hp)
 refine(iEA m' (hn.sameBut hs₂ (Ne.symm hLC)) (fun h'' hs''=>?_))
 (refine oAA (Gz F N hL hN h0 hnL hk hD hpl) fun F' o0_ hne=>?_;refine oE o0_ fun k N'=>?_;clear o0_)
 have up:∀b o,b≠env.locals->b≠C->h'.get? b=some o->h''.get? b=some o:=fun b o h1 h2 e=>hs''.extBut b o h2 (hs₂.extBut b o h1 e)
 have hCn:∀q∈(D,listOf ys k)::news,q.1≠C:=by
  intro q hq e
  rcases SH.mp hq with rfl|hq
  ·exact hDC e
  ·exact zg1 e.symm hC ((N q hq).1)
 refine hQ D ys.toList k h' tk F' (by rw[Qy];exact N') hne (Paired.mono (fun j y x=>M3 x fun hb ha a b c=>(Bm hb ha a c)) hP) h'' _ ?_ ?_
 ·refine⟨hn₂.sameBut hs'' hLC,fun b o e=>up b o (fun e'=>?_) (fun e'=>?_) (F'.keep b o e),F'.above⟩
  ·exact absurd (Tc e) (TY.mpr (e' ▸ F.above))
  ·rw[e'] at e;exact zs1 hC (F.keep _ _ e)
 ·rw[Qy]
  intro q hq
  exact⟨up _ _ (N' q hq).2.1 (hCn q hq) (N' q hq).1,(N' q hq).2⟩
end B7
section
variable{prog:UF}{w:Va}{A:UP}{E:UX->UO->Prop}{env:Vn}
theorem v9{prog w A E env s elt b9 iter ifs y py scope cl pos De Q h₀ kb}:B7.T prog w A E env s elt b9 iter ifs y py scope cl pos De Q h₀ kb:=f7 (P:=B7.P9) (c:=B7.c) (by with_unfolding_all rfl) (by with_unfolding_all exact B7.walk) ((prog,w,A,E),(env,s,elt,b9),(iter,ifs,y,py),(scope,cl,pos,De),(Q,h₀,kb))
end
noncomputable def NsO(o:Vl)(m:Vk->Option UX):Prop:=∀h a,h.get? a=some o->Vg.Ns h a m
theorem NsO.of{h:Vg}{a:Vf}{m:Vk->Option UX}(n:h.Ns a m):∃o,h.get? a=some o/\NsO o m:=by
 refine R7 n fun o es ep ho r=>?_;clear n
 exact(iEA o ho (fun h' a' e=>(Hh o es ep e r)))
theorem i4{h₀ H:Vg}{L:Vf}{m:Vk->Option UX}(F:Fr h₀ L H m):∃rest,News h₀ L H rest/\∀b o,H.get? b=some o->b=L\/h₀.get? b=some o\/(b,o)∈rest:=by
 refine(iEA ((TS H.objs.size).filterMap fun b=>if b=L\/(h₀.get? b).isSome then none else(H.get? b).map fun o=>(b,o)) ?_ ?_)
 ·(intro r0_;obtain⟨a,o⟩:=r0_;intro hp)
  refine oEA (List.mem_filterMap.mp hp) fun b hb e=>?_
  by_cases h:b=L\/(h₀.get? b).isSome
  ·exact zs1 (if_pos h) e
  ·rw[if_neg h] at e
   cases q:H.get? b with
   |none=>rw[q] at e;cases e
   |some o'=>
    rw[q] at e;cases e
    refine(iAA q (fun e=>h (.inl e)) ?_)
    cases q':h₀.get? a with
    |none=>rfl
    |some _=>exact absurd (.inr (by rw[q'];rfl)) h
 ·intro b o ho
  by_cases h1:b=L
  ·exact .inl h1
  ·cases q:h₀.get? b with
   |some o'=>
    have e:=F.keep b o' q
    rw[ho] at e
    exact .inr (.inl e.symm)
   |none=>
    refine .inr (.inr (List.mem_filterMap.mpr (iEA b (List.mem_range.mpr (Tc ho)) ?_)))
    rw[if_neg (by simp[h1,q]),ho];rfl
inductive j3(h₀:Vg)(L:Vf)(m:Vk->Option UX)(rest:List (Vf×Vl))(g:Vg->UX->Prop)(s:UO)(y:UX)(s':UO):Prop
 |mk(h':Vg)(tk:Nat)(news':List (Vf×Vl))(a0:s'={s with heap:=h',toks:=tk})(a1:Fr h₀ L h' m)(a2:News h₀ L h' news')(a3:(∀p∈rest,p∈news'))(a4:g h' y)
theorem j3.intro{h₀ h':Vg}{L:Vf}{m:Vk->Option UX}{rest news':List (Vf×Vl)}{g:Vg->UX->Prop}{s:UO}{y:UX}{tk:Nat}(F:Fr h₀ L h' m)(N:News h₀ L h' news')(hs:∀p∈rest,p∈news')(hg:g h' y):
  j3 h₀ L m rest g s y {s with heap:=h',toks:=tk}:=⟨h',tk,news',rfl,F,N,hs,hg⟩
inductive p9(h₀:Vg)(L:Vf)(m:Vk->Option UX)(rest:List (Vf×Vl))(b:Bool)(s:UO)(y:Bool)(s':UO):Prop
 |mk(h':Vg)(tk:Nat)(news':List (Vf×Vl))(a0:s'={s with heap:=h',toks:=tk})(a1:Fr h₀ L h' m)(a2:News h₀ L h' news')(a3:(∀p∈rest,p∈news'))(a4:y=b)
theorem p9.intro{h₀ h':Vg}{L:Vf}{m:Vk->Option UX}{rest news':List (Vf×Vl)}{b y:Bool}{s:UO}{tk:Nat}(F:Fr h₀ L h' m)(N:News h₀ L h' news')(hs:∀p∈rest,p∈news')(hg:y=b):
  p9 h₀ L m rest b s y {s with heap:=h',toks:=tk}:=⟨h',tk,news',rfl,F,N,hs,hg⟩
theorem EA{h₀ H h':Vg}{L:Vf}{m:Vk->Option UX}{rest news':List (Vf×Vl)}{s:UO}{tk tk':Nat}(hall:∀b o,H.get? b=some o->b=L\/h₀.get? b=some o\/(b,o)∈rest)(F:Fr h₀ L h' m)(N:News h₀ L h' news')(hs:∀p∈rest,p∈news'):
  EV L m {s with heap:=H,toks:=tk} {s with heap:=h',toks:=tk'}:=
 ⟨h',tk',rfl,fun b o hb e=>by
  rcases hall b o e with h|h|h
  ·exact absurd h hb
  ·exact F.keep b o h
  ·exact(N _ (hs _ h)).1,F.ns⟩
section
variable{prog:UF}{w:Va}{A:UP}{E:UX->UO->Prop}{env:Vn}{s:UO}{h₀:Vg}{L:Vf}{m:Vk->Option UX}{news:List (Vf×Vl)}
 {scope:Vb} {cl:List (Vk×Vf)} {ifs:List Vh} {elt:Vh} {fin:UO->(Vk->Option UX)->List (Vf×Vl)->Vf->List UX->Nat->Vg->Nat->Prop}
end
namespace As
noncomputable def T(prog:UF)(w:Va)(A:UP)(env:Vn)(s:UO)(h₀:Vg)(L:Vf)(m:Vk->Option UX)(news:List (Prod Vf Vl))(scope:Vb)(cl:List (Prod Vk Vf))(ifs:List Vh)(elt:Vh)(fin:UO->(Vk->Option UX)->List (Prod Vf Vl)->Vf->List UX->Nat->Vg->Nat->Prop)(b9:Vh)(it:UX)(fp:List Vf)(wr:List Vf)(n:Nat)(Bd:Nat->(Vk->Option UX)->Prop)(St:Nat->Vg->Prop)(p:Nat->Bool)(G:Nat->Vg->Vg->UX->Prop)(kb:Bool):Prop:=∀(hsz:n<=Ux)(hst:St 0 s.heap)(hlow:∀b∈fp,b<s.heap.objs.size)(hpull:∀C,s.heap.objs.size<=C->Ca prog w A it b9 (Uw scope cl C env) fp wr n Bd St)(F:Fr h₀ L s.heap m)(N:News h₀ L s.heap news)(hLf:L∉fp)(hwr:∀b∈wr,h₀.get? b=none)(hnw:∀q∈news,q.1∉wr)(hsub:∀b∈wr,b∈fp)(tests:∀i C oC u H tk rest E',s.toks<=tk->i<n->Bd i u->NsO oC u->Fr h₀ L H m->News h₀ L H ((C,oC)::(news++rest))->
   UY (UZ prog w) A (forIn ifs true fun c r=>if r=true then do let ok←isTrue c (Uw scope cl C env) (Vi c (Uw scope cl C env));pure (RV ok) else pure (RV r))
    (p9 h₀ L m rest (p i) {s with heap:=H,toks:=tk}) E' {s with heap:=H,toks:=tk})(elts:∀i C oC u H tk rest E',s.toks<=tk->i<n->p i=true->Bd i u->NsO oC u->Fr h₀ L H m->News h₀ L H ((C,oC)::(news++rest))->
   wpK kb (UZ prog w) A (Vi elt (Uw scope cl C env)) (j3 h₀ L m rest (G i H) {s with heap:=H,toks:=tk}) E' {s with heap:=H,toks:=tk})(hfin:∀D ys k h' tk,Fr h₀ L h' m->News h₀ L h' ((D,listOf ys.toArray k)::news)->(∀q∈news,q.1≠D)->Paired (fun j y=>∃hb ha,G j hb ha y/\C5 hb ha h') ((TS n).filter p) ys->fin s m news D ys k h' tk),Y9 kb prog w A env scope cl b9 ifs elt h₀ L it s (fin s)
noncomputable def P9:=V4 fun prog w A env=>V4 fun s h₀ L m=>V4 fun news scope cl ifs=>V4 fun elt fin b9 it=>V4 fun fp wr n Bd=>U4 fun St p G kb=>T prog w A env s h₀ L m news scope cl ifs elt fin b9 it fp wr n Bd St p G kb
@[irreducible] noncomputable def c:=y6 (by k_extra "ne") P9
@[irreducible] noncomputable def prog:=c.1.1
@[irreducible] noncomputable def w:=c.1.2.1
@[irreducible] noncomputable def A:=c.1.2.2.1
@[irreducible] noncomputable def env:=c.1.2.2.2
@[irreducible] noncomputable def s:=c.2.1.1
@[irreducible] noncomputable def h₀:=c.2.1.2.1
@[irreducible] noncomputable def L:=c.2.1.2.2.1
@[irreducible] noncomputable def m:=c.2.1.2.2.2
@[irreducible] noncomputable def news:=c.2.2.1.1
@[irreducible] noncomputable def scope:=c.2.2.1.2.1
@[irreducible] noncomputable def cl:=c.2.2.1.2.2.1
@[irreducible] noncomputable def ifs:=c.2.2.1.2.2.2
@[irreducible] noncomputable def elt:=c.2.2.2.1.1
@[irreducible] noncomputable def fin:=c.2.2.2.1.2.1
@[irreducible] noncomputable def b9:=c.2.2.2.1.2.2.1
@[irreducible] noncomputable def it:=c.2.2.2.1.2.2.2
@[irreducible] noncomputable def fp:=c.2.2.2.2.1.1
@[irreducible] noncomputable def wr:=c.2.2.2.2.1.2.1
@[irreducible] noncomputable def n:=c.2.2.2.2.1.2.2.1
@[irreducible] noncomputable def Bd:=c.2.2.2.2.1.2.2.2
@[irreducible] noncomputable def St:=c.2.2.2.2.2.1
@[irreducible] noncomputable def p:=c.2.2.2.2.2.2.1
@[irreducible] noncomputable def G:=c.2.2.2.2.2.2.2.1
@[irreducible] noncomputable def kb:=c.2.2.2.2.2.2.2.2
theorem walk:T prog w A env s h₀ L m news scope cl ifs elt fin b9 it fp wr n Bd St p G kb:=by
 intro hsz hst hlow hpull F N hLf hwr hnw hsub tests elts hfin
 have hLlt:=F.ns.lt
 refine⟨fp,wr,n,Bd,St,p,G,m,news,⟨F.ns,hLf,hsz,hst,hlow,hpull,?_,?_⟩,F,N,fun h=>hLf (hsub _ h),hnw,hwr,hfin⟩
 ·intro C i H tk u E' hT hC hi hB hn hnL hk
  have F':Fr h₀ L H m:=⟨hnL,fun b o e=>hk b o (fun hb=>by exact zs1 (hwr b hb) e) (fun e'=>absurd (Tc e) (TY.mpr (e' ▸ F.above))) (F.keep b o e),F.above⟩
  refine oEA (i4 F') fun rest NR hall=>?_
  refine oEA (NsO.of hn) fun oC hoC hO=>?_
  have NC:News h₀ L H ((C,oC)::(news++rest)):=fun q hq=>by
   rcases SH.mp hq with rfl|hq
   ·refine(iAA hoC (Te (QR hLlt hC)) ?_)
    cases q':h₀.get? C with
    |none=>rfl
    |some o=>exact absurd (Tc (F.keep _ _ q')) (TY.mpr hC)
   ·rcases RS.mp hq with hq|hq
    ·exact⟨hk _ _ (hnw q hq) (N q hq).2.1 (N q hq).1,(N q hq).2⟩
    ·exact NR q hq
  refine TT (tests i C oC u H tk rest E' hT hi hB hO F' NC) (fun ok s₃ h₃=>?_) fun Z Z e=>e
  obtain⟨h',tk',news',rfl,F₃,N₃,hs,hg⟩:=h₃
  exact⟨hg,EA hall F₃ N₃ hs⟩
 ·intro C i H tk u E' hT hC hi hp hB hn hnL hk
  have F':Fr h₀ L H m:=⟨hnL,fun b o e=>hk b o (fun hb=>by exact zs1 (hwr b hb) e) (fun e'=>absurd (Tc e) (TY.mpr (e' ▸ F.above))) (F.keep b o e),F.above⟩
  refine oEA (i4 F') fun rest NR hall=>?_
  refine oEA (NsO.of hn) fun oC hoC hO=>?_
  have NC:News h₀ L H ((C,oC)::(news++rest)):=fun q hq=>by
   rcases SH.mp hq with rfl|hq
   ·refine(iAA hoC (Te (QR hLlt hC)) ?_)
    cases q':h₀.get? C with
    |none=>rfl
    |some o=>exact absurd (Tc (F.keep _ _ q')) (TY.mpr hC)
   ·rcases RS.mp hq with hq|hq
    ·exact⟨hk _ _ (hnw q hq) (N q hq).2.1 (N q hq).1,(N q hq).2⟩
    ·exact NR q hq
  refine wpP.mono (elts i C oC u H tk rest E' hT hi hp hB hO F' NC) (fun y s₃ h₃=>?_) fun Z Z e=>e
  obtain⟨h',tk',news',rfl,F₃,N₃,hs,hg⟩:=h₃
  exact⟨hg,EA hall F₃ N₃ hs⟩
end As
section
variable{prog:UF}{w:Va}{A:UP}{E:UX->UO->Prop}{env:Vn}{s:UO}{h₀:Vg}{L:Vf}{m:Vk->Option UX}{news:List (Vf×Vl)}
 {scope:Vb} {cl:List (Vk×Vf)} {ifs:List Vh} {elt:Vh} {fin:UO->(Vk->Option UX)->List (Vf×Vl)->Vf->List UX->Nat->Vg->Nat->Prop}
theorem GB{prog w A env s h₀ L m news scope cl ifs elt fin b9 it fp wr n Bd St kb}(p)(G):As.T prog w A env s h₀ L m news scope cl ifs elt fin b9 it fp wr n Bd St p G kb:=f7 (P:=As.P9) (c:=As.c) (by with_unfolding_all rfl) (by with_unfolding_all exact As.walk) ((prog,w,A,env),(s,h₀,L,m),(news,scope,cl,ifs),(elt,fin,b9,it),(fp,wr,n,Bd),(St,p,G,kb))
theorem Mu{kb:Bool}{b9:Vh}{it:UX}{fp wr:List Vf}{n:Nat}{Bd:Nat->(Vk->Option UX)->Prop}{St:Nat->Vg->Prop}(p:Nat->Bool)(G:Nat->Vg->Vg->UX->Prop)
  (hsz:n<=Ux)(hst:St 0 s.heap)(hlow:∀b∈fp,b<s.heap.objs.size)(hpull:∀C,s.heap.objs.size<=C->Ca prog w A it b9 (Uw scope cl C env) fp wr n Bd St)
  (F:Fr h₀ L s.heap m)(N:News h₀ L s.heap news)(hLf:L∉fp)(hwr:∀b∈wr,h₀.get? b=none)(hnw:∀q∈news,q.1∉wr)(hsub:∀b∈wr,b∈fp)
  (tests:∀i C oC u H tk rest E',i<n->Bd i u->NsO oC u->Fr h₀ L H m->News h₀ L H ((C,oC)::(news++rest))->
   UY (UZ prog w) A (forIn ifs true fun c r=>if r=true then do let ok←isTrue c (Uw scope cl C env) (Vi c (Uw scope cl C env));pure (RV ok) else pure (RV r))
    (p9 h₀ L m rest (p i) {s with heap:=H,toks:=tk}) E' {s with heap:=H,toks:=tk})
  (elts:∀i C oC u H tk rest E',i<n->p i=true->Bd i u->NsO oC u->Fr h₀ L H m->News h₀ L H ((C,oC)::(news++rest))->
   UY (UZ prog w) A (Vi elt (Uw scope cl C env)) (j3 h₀ L m rest (G i H) {s with heap:=H,toks:=tk}) E' {s with heap:=H,toks:=tk})
  (hfin:∀D ys k h' tk,Fr h₀ L h' m->News h₀ L h' ((D,listOf ys.toArray k)::news)->(∀q∈news,q.1≠D)->Paired (fun j y=>∃hb ha,G j hb ha y/\C5 hb ha h') ((TS n).filter p) ys->fin s m news D ys k h' tk):
  Y9 kb prog w A env scope cl b9 ifs elt h₀ L it s (fin s):=
 GB p G hsz hst hlow hpull F N hLf hwr hnw hsub (fun i C oC u H tk rest E' Z=>tests i C oC u H tk rest E') (fun i C oC u H tk rest E' Z h1 h2 h3 h4 h5 h6=>wpP.of (elts i C oC u H tk rest E' h1 h2 h3 h4 h5 h6)) hfin
theorem z8{M:Vc}{A:UP}{E:UX->UO->Prop}{s:UO}{env:Vn}{Q:Bool->UO->Prop}(h:Q true s):
  UY M A (forIn ([]:List Vh) true fun c r=>if r=true then do let ok←isTrue c env (Vi c env);pure (RV ok) else pure (RV r)) Q E s:=by
 simp only[SE];exact TR h
theorem U8{M:Vc}{A:UP}{E:UX->UO->Prop}{s:UO}{env:Vn}{c:Vh}{Q:Bool->UO->Prop}(h:UY M A (isTrue c env (Vi c env)) Q E s):
  UY M A (forIn [c] true fun c r=>if r=true then do let ok←isTrue c env (Vi c env);pure (RV ok) else pure (RV r)) Q E s:=by
 simp only[So,if_true,bind_assoc,pure_bind,SE]
 exact TQ (TT h (fun b s' hb=>TR hb) fun Z Z e=>e)
theorem Bq{kb:Bool}{ax:Vf}{vs:List UX}{x:Vk}{px:Pos}(p:Nat->Bool)(G:Nat->Vg->Vg->UX->Prop)(hh:A.handled=none)(hl:s.heap.IsList ax vs.toArray)(hsz:vs.length<=Ux)
  (hx:scope.names.lookup x=some .local)(hkind:scope.kind= .function)(F:Fr h₀ L s.heap m)(N:News h₀ L s.heap news)(hax:ax≠L)
  (tests:∀i v C oC u H tk rest E',s.toks<=tk->vs[i]? =some v->NsO oC u->u x=some v->Fr h₀ L H m->News h₀ L H ((C,oC)::(news++rest))->
   UY (UZ prog w) A (forIn ifs true fun c r=>if r=true then do let ok←isTrue c (Uw scope cl C env) (Vi c (Uw scope cl C env));pure (RV ok) else pure (RV r))
    (p9 h₀ L m rest (p i) {s with heap:=H,toks:=tk}) E' {s with heap:=H,toks:=tk})
  (elts:∀i v C oC u H tk rest E',s.toks<=tk->vs[i]? =some v->p i=true->NsO oC u->u x=some v->Fr h₀ L H m->News h₀ L H ((C,oC)::(news++rest))->
   wpK kb (UZ prog w) A (Vi elt (Uw scope cl C env)) (j3 h₀ L m rest (G i H) {s with heap:=H,toks:=tk}) E' {s with heap:=H,toks:=tk})
  (hfin:∀(s₂:UO),(∃h tk,s₂={s with heap:=h,toks:=tk})->∀D ys k h' tk,Fr h₀ L h' m->News h₀ L h' ((D,listOf ys.toArray k)::news)->(∀q∈news,q.1≠D)->Paired (fun j y=>∃hb ha,G j hb ha y/\C5 hb ha h') ((TS vs.length).filter p) ys->fin s₂ m news D ys k h' tk):
  UY (UZ prog w) A (UU (.ref ax)) (fun it s₂=>Y9 kb prog w A env scope cl (.Name x px) ifs elt h₀ L it s₂ (fin s₂)) E s:=by
 have hlt:ax<s.heap.objs.size:=by refine oEA hl fun Z e Z=>?_;clear hl;exact Tc e
 refine Ro hl ?_
 have W:=Walks.list (prog:=prog) (w:=w) hh s.heap.objs.size ax (Tb hlt) vs.toArray
 have hsize:vs.toArray.size=vs.length:=by simp
 rw[hsize] at W
 refine GB (n:=vs.length) (Bd:=fun i u=>∃v,vs.toArray[i]? =some v/\u x=some v) p G hsz (St:=fun i h=>h.IsListIter s.heap.objs.size ax i/\h.IsList ax vs.toArray) ⟨(V8 _ (QD _ rfl) rfl rfl),hl.push _⟩ ?_ ?_ (F.push _) (fun q hq=>⟨Qj _ (N q hq).1,(N q hq).2⟩) ?_ ?_ ?_ W.sub ?_ ?_ (hfin _ (iEE _ _ rfl))
 ·intro b hb
  show b<(s.heap.push _).objs.size
  rw[Ss]
  rcases SH.mp hb with rfl|hb
  ·exact RC _
  ·rw[QQ.mp hb];exact Ri hlt
 ·intro C hC
  have hC':s.heap.objs.size+1<=C:=by
   have h9:(s.heap.push _).objs.size<=C:=hC
   rwa[Ss] at h9
  refine Ca.name W ?_ (Qu hx) (by simp[Uw,UJ,hkind]) ?_
  ·(intro i h r0_;(refine oA r0_ fun o0_ Z=>?_;clear r0_;obtain⟨o,ho,_⟩:=o0_);intro b hb)
   rw[QQ.mp hb];exact⟨o,ho⟩
  ·intro hm
   have hm':C∈[s.heap.objs.size,ax]:=hm
   rcases SH.mp hm' with e|e
   ·exact absurd hC' (Ug.mpr (by rw[e];exact RC _))
   ·exact absurd hC' (Ug.mpr (by rw[QQ.mp e];exact Ri hlt))
 ·intro hm
  rcases SH.mp hm with e|hm
  ·exact absurd F.ns.lt (e ▸ SK _)
  ·exact hax (QQ.mp hm).symm
 ·intro b hb
  rw[QQ.mp hb];exact TL F
 ·intro q hq hm
  exact absurd (Tc (N q hq).1) ((QQ.mp hm) ▸ SK _)
 ·(intro i C oC u H tk rest E' hT hi r0_;refine oEA r0_ fun v hv hu=>?_;clear r0_;intro hO F' N')
  exact tests i v C oC u H tk rest E' hT (toA hv) hO hu F' N'
 ·(intro i C oC u H tk rest E' hT hi hp r0_;refine oEA r0_ fun v hv hu=>?_;clear r0_;intro hO F' N')
  exact elts i v C oC u H tk rest E' hT (toA hv) hp hO hu F' N'
theorem DL{kb:Bool}{ax:Vf}{vs:List UX}{x:Vk}{px:Pos}(p:Nat->Bool)(G:Nat->Vg->Vg->UX->Prop)(hh:A.handled=none)(hl:s.heap.IsList ax vs.toArray)(hsz:vs.length<=Ux)
  (hx:scope.names.lookup x=some .local)(hkind:scope.kind= .function)(F:Fr h₀ L s.heap m)(N:News h₀ L s.heap news)(hax:ax≠L)
  (tests:∀i v C oC u H tk rest E',vs[i]? =some v->NsO oC u->u x=some v->Fr h₀ L H m->News h₀ L H ((C,oC)::(news++rest))->
   UY (UZ prog w) A (forIn ifs true fun c r=>if r=true then do let ok←isTrue c (Uw scope cl C env) (Vi c (Uw scope cl C env));pure (RV ok) else pure (RV r))
    (p9 h₀ L m rest (p i) {s with heap:=H,toks:=tk}) E' {s with heap:=H,toks:=tk})
  (elts:∀i v C oC u H tk rest E',vs[i]? =some v->p i=true->NsO oC u->u x=some v->Fr h₀ L H m->News h₀ L H ((C,oC)::(news++rest))->
   UY (UZ prog w) A (Vi elt (Uw scope cl C env)) (j3 h₀ L m rest (G i H) {s with heap:=H,toks:=tk}) E' {s with heap:=H,toks:=tk})
  (hfin:∀(s₂:UO),(∃h tk,s₂={s with heap:=h,toks:=tk})->∀D ys k h' tk,Fr h₀ L h' m->News h₀ L h' ((D,listOf ys.toArray k)::news)->(∀q∈news,q.1≠D)->Paired (fun j y=>∃hb ha,G j hb ha y/\C5 hb ha h') ((TS vs.length).filter p) ys->fin s₂ m news D ys k h' tk):
  UY (UZ prog w) A (UU (.ref ax)) (fun it s₂=>Y9 kb prog w A env scope cl (.Name x px) ifs elt h₀ L it s₂ (fin s₂)) E s:=
 Bq p G hh hl hsz hx hkind F N hax (fun i v C oC u H tk rest E' Z=>tests i v C oC u H tk rest E') (fun i v C oC u H tk rest E' Z h1 h2 h3 h4 h5 h6=>wpP.of (elts i v C oC u H tk rest E' h1 h2 h3 h4 h5 h6)) hfin
theorem GA{kb:Bool}{r:Vf}{C4 Aa:Int}{DV DU DT:Vm}{n:Nat}{x:Vk}{px:Pos}(p:Nat->Bool)(G:Nat->Vg->Vg->UX->Prop)(hh:A.handled=none)(hr:IsRange s.heap r C4 Aa 1 DV DU DT)(hsmall:QH C4 Aa 1=true)(hn:Qe C4 Aa 1=(n:Int))(hsz:n<=Ux)
  (hx:scope.names.lookup x=some .local)(hkind:scope.kind= .function)(F:Fr h₀ L s.heap m)(N:News h₀ L s.heap news)
  (tests:∀(i:Nat) t C oC u H tk rest E',i<n->NsO oC u->u x=some (.int (C4+(i:Int)) t)->Fr h₀ L H m->News h₀ L H ((C,oC)::(news++rest))->
   UY (UZ prog w) A (forIn ifs true fun c r=>if r=true then do let ok←isTrue c (Uw scope cl C env) (Vi c (Uw scope cl C env));pure (RV ok) else pure (RV r))
    (p9 h₀ L m rest (p i) {s with heap:=H,toks:=tk}) E' {s with heap:=H,toks:=tk})
  (elts:∀(i:Nat) t C oC u H tk rest E',i<n->p i=true->NsO oC u->u x=some (.int (C4+(i:Int)) t)->Fr h₀ L H m->News h₀ L H ((C,oC)::(news++rest))->
   UY (UZ prog w) A (Vi elt (Uw scope cl C env)) (j3 h₀ L m rest (G i H) {s with heap:=H,toks:=tk}) E' {s with heap:=H,toks:=tk})
  (hfin:∀(s₂:UO),(∃h tk,s₂={s with heap:=h,toks:=tk})->∀D ys k h' tk,Fr h₀ L h' m->News h₀ L h' ((D,listOf ys.toArray k)::news)->(∀q∈news,q.1≠D)->Paired (fun j y=>∃hb ha,G j hb ha y/\C5 hb ha h') ((TS n).filter p) ys->fin s₂ m news D ys k h' tk):
  UY (UZ prog w) A (UU (.ref r)) (fun it s₂=>Y9 kb prog w A env scope cl (.Name x px) ifs elt h₀ L it s₂ (fin s₂)) E s:=by
 refine Ra hr hsmall ?_
 have W:Walks prog w A s.heap.objs.size [s.heap.objs.size] [s.heap.objs.size] n (fun i v=>i<n/\∃t,v= .int (C4+i*1) t)
   (fun i h=>TK h s.heap.objs.size (C4+(i:Nat)*1) ((n:Int)-(i:Nat)) 1):=(Walks.range hh _ C4 1 n).bound
 refine Mu (n:=n) (Bd:=fun i u=>∃v,(i<n/\∃t,v= .int (C4+(i:Nat)*1) t)/\u x=some v) p G hsz (St:=fun i h=>TK h s.heap.objs.size (C4+(i:Nat)*1) ((n:Int)-(i:Nat)) 1) (by show TK _ _ _ _ _;rw[hn];simpa using QD _ rfl) ?_ ?_ (F.push _) (fun q hq=>⟨Qj _ (N q hq).1,(N q hq).2⟩) ?_ ?_ ?_ W.sub ?_ ?_ (hfin _ (iEE _ _ rfl))
 ·intro b hb
  show b<(s.heap.push _).objs.size
  rw[Ss,QQ.mp hb]
  exact RC _
 ·intro C hC
  have hC':s.heap.objs.size+1<=C:=by
   have h9:(s.heap.push _).objs.size<=C:=hC
   rwa[Ss] at h9
  refine Ca.name W ?_ (Qu hx) (by simp[Uw,UJ,hkind]) ?_
  ·intro i h q b hb
   rw[QQ.mp hb];exact⟨_,q⟩
  ·intro hm
   have hm':C∈[s.heap.objs.size]:=hm
   exact absurd hC' (Ug.mpr (by rw[QQ.mp hm'];exact RC _))
 ·intro hm
  exact absurd F.ns.lt ((QQ.mp hm) ▸ SK _)
 ·intro b hb
  rw[QQ.mp hb];exact TL F
 ·intro q hq hm
  exact absurd (Tc (N q hq).1) ((QQ.mp hm) ▸ SK _)
 ·(intro i C oC u H tk rest E' hi r0_;(refine oEA r0_ fun v o0_ hu=>?_;clear r0_;obtain⟨_,t,rfl⟩:=o0_);intro hO F' N')
  rw[Int.mul_one] at hu
  exact tests i t C oC u H tk rest E' hi hO hu F' N'
 ·(intro i C oC u H tk rest E' hi hp r0_;(refine oEA r0_ fun v o0_ hu=>?_;clear r0_;obtain⟨_,t,rfl⟩:=o0_);intro hO F' N')
  rw[Int.mul_one] at hu
  exact elts i t C oC u H tk rest E' hi hp hO hu F' N'
end
end Mine
end
section
open PySem PySem.W PySem.Calls PyProof.Rows PySem.Spec
namespace Mine
theorem KZ{prog:UF}{w:Va}{A A₀:UP}{s:UO}{base h₀:Vg}{outer:List Vn}{env:Vn}{L:Vf}{m:Vk->Option UX}{K:Frag}{p:UF}{loose:List Vk}{mean:UH->Option UX}{mg mb:Vk->Option UX}
  {R:UT->UO->Prop}{name qual:Vk}{params:Up}{body:List Stmt}{scope:Vb}{dV kV doc pm cdv ct oc:UX}{an od:Option Vf}{osl:Array (Option UX)}{f:Vf}{args:Args}{binds:List (Vk×UX)}
  (B:Vd A₀ base outer h₀)(F:Fr h₀ L s.heap m)(X₀:K.In h₀)(T:Top p loose mean mg mb h₀)(hA:A.frames=some (env::outer))(hf:env.frame=some L)(hke:env.scope.kind= .function)
  (ho:K.lookup f=some ⟨oc,od, .func (fnOf name qual params body scope dV kV doc pm an cdv ct),osl⟩)(hcd:codeIn K cdv qual=true)(hroom:A.depth<Su)
  (hbind:BindsTo s (fnOf name qual params body scope dV kV doc pm an cdv ct) args binds)(hkind:(binds.all fun y=>scope.names.lookup y.1 == some .local || scope.names.lookup y.1 == some .cell)=true)
  (hnd:((Un 0 scope.names []).map (·.1)).Nodup)
  (h:∀L' h₁ tk cells,Fr s.heap L' h₁ (bindL (UV qual scope L' f cdv).kindOf binds fun Z=>none)->News s.heap L' h₁ cells->CellsAre (bindC (UV qual scope L' f cdv).kindOf binds fun Z=>none) (Un (L'+1) scope.names []) cells->
   Vd A base (env::outer) s.heap->K.In s.heap->Top p loose mean mg mb s.heap->
   UY (UZ prog w) (A.deeper (UV qual scope L' f cdv)) (Ve body (UV qual scope L' f cdv))
    (fun fl s'=>Lv s.heap R (match fl with| .ret v=>v|_=> .none) s')
    (fun e s'=>UY (UZ prog w) (A.deeper (UV qual scope L' f cdv)) (leaving (UV qual scope L' f cdv) e) (fun Z s''=>R (.error e) s'') (fun e' s''=>R (.error e') s'') s')
    {s with heap:=h₁,toks:=tk})
  (hco:scope.isCoroutine=false)(hgen:scope.isGenerator=false)(hk:scope.kind= .function):UI (UZ prog w) A (.call (.ref f) args) R s:=by
 have X:=X₀.keeps F.keep
 have T':=T.keeps F.keep
 have B₁:=pushX B F hf hke
 have B₂:Vd A base (env::outer) s.heap:=⟨hA,B₁.stays,B₁.frames⟩
 refine codeAny_call_function hroom (X _ _ ho) rfl hco hgen rfl (codeRec_of X hcd) (hbind _ _ _ _ ?_)
 refine PW hk (kindsX hkind _) fun env' he s' x=>?_
 subst he
 refine⟨T'.nolimit.keeps x.toInCall.keep,codeAny_func ?_⟩
 (refine y8 x.done fun h₁ tk o0_ Z=>?_;obtain rfl:=o0_)
 have hk₁:=x.toInCall.keep
 refine oEA (Cl.news (h₀:=s.heap) (TA _) fun n c hm=>⟨x.cell n c (lookup_of_mem_nodup (cellsFrom_names scope.names 0 (s.heap.objs.size+1) [] [] rfl ▸ hnd) hm),x.above n c hm⟩) fun cells NC Y=>?_
 refine TT (h s.heap.objs.size h₁ tk cells ⟨x.toInCall.ns,hk₁,TA _⟩ NC Y B₂ X T') (fun fl s' hl=>?_) fun Z Z y=>y
 refine y8 hl fun L' m' F' k=>?_;clear hl
 exact k F'.keep
section
variable{M:Vc}{A:UP}{E:UX->UO->Prop}{s:UO}{h₀:Vg}{L C c:Vf}{m u:Vk->Option UX}{env:Vn}{news:List (Vf×Vl)}{oC o:Vl}{x:Vk}{pos:Pos}{v:UX}{Q:UX->UO->Prop}
theorem LJ(N:News h₀ L s.heap news)(hm:(C,oC)∈news)(ho:NsO oC u)(hv:u x=some v)(h:Q v s)(hl:env.locals=C)(hk:env.scope.kind= .function)(hx:env.kindOf x=some .local)(hd:(x == ("__debug__":Vk))=false):
  UY M A (Vi (.Name x pos) env) Q E s:=Uj (QA hk hx (hl ▸ ho _ _ (N _ hm).1) hv h) hd
theorem JW(N:News h₀ L s.heap news)(hc:env.cells.lookup x=some c)(hm:(c,o)∈news)(ho:o.data= .cell (some v))(h:Q v s)(hk:env.scope.kind= .function)(hx:env.kindOf x=some .cell)(hd:(x == ("__debug__":Vk))=false):
  UY M A (Vi (.Name x pos) env) Q E s:=Uj (wpAny_loadName_cell hk hx hc (iEA o ((N _ hm).1) ho) h) hd
theorem JV(N:News h₀ L s.heap news)(hc:env.cells.lookup x=some c)(hm:(c,o)∈news)(ho:o.data= .cell (some v))(h:Q v s)(hk:env.scope.kind= .function)(hx:env.kindOf x=some .free)(hd:(x == ("__debug__":Vk))=false)(hn:(x == ("__classdict__":Vk))=false):
  UY M A (Vi (.Name x pos) env) Q E s:=Uj (wpAny_loadName_free hk hx hc (iEA o ((N _ hm).1) ho) h hn) hd
theorem JU{K:Frag}{mg mb:Vk->Option UX}{p:UF}{loose:List Vk}(F:Fr h₀ L s.heap m)(X:K.In h₀)(T:TopRead p loose mg mb h₀)(e:nsIn K TM x=some (some v))(h:Q v s)(hg:env.globals=TM)(hk:env.scope.kind= .function)(hx:env.kindOf x=some .globalImplicit)(hd:(x == ("__debug__":Vk))=false):
  UY M A (Vi (.Name x pos) env) Q E s:=nameG_K F X T e h hg hk hx hd
theorem Iw{K:Frag}{mg mb:Vk->Option UX}{p:UF}{loose:List Vk}(F:Fr h₀ L s.heap m)(X:K.In h₀)(T:TopRead p loose mg mb h₀)(e:nsIn K TM x=some none)(hv:bootBuiltins x=some v)(hn:x≠"__name__")(h:Q v s)(hg:env.globals=TM)(hb:env.builtins=builtinsNs)(hk:env.scope.kind= .function)(hx:env.kindOf x=some .globalImplicit)(hd:(x == ("__debug__":Vk))=false):
  UY M A (Vi (.Name x pos) env) Q E s:=
 Name_function_global hk hx (loadGlobal_builtin (env:=env) (by rw[hg];exact T.g.keeps F.keep) (mg_none_of X T.g e) (by rw[hb];exact T.b.keeps F.keep) ((T.builtins x hn).trans hv) h) hd
end
theorem Da{α:Type}{p:α}{l:List α}(h:p∈l):∀q∈[p],q∈l:=fun q hq=>by rw[QQ.mp hq];exact h
theorem g8{f:Nat->Int}{h':Vg}{js:List Nat}{ys:List UX}(h:Paired (fun j y=>∃hb ha:Vg,(∃t,y=Ur (f j) t)/\C5 hb ha h') js ys):UG ys (js.map f):=by
 induction h with
 |nil=>exact .nil
 |cons a _ ih=>(refine y8 a fun Z Z o0_ Z=>?_;clear a;refine oE o0_ fun Z e=>?_;clear o0_);cases e;exact .cons _ _ ih
theorem s7(js:List Nat):js.filter (fun Z=>true)=js:=List.filter_eq_self.mpr fun Z Z=>rfl
theorem j6{β:Type}(g:Int->β):∀(l:List Int),(TS l.length).map (fun i=>g (l.getD i 0))=l.map g:=by
 intro l
 apply RN
 ·simp
 ·intro i h1 h2
  have h3:i<l.length:=by simpa using h1
  simp[Qb h3]
theorem IL{h₀ h:Vg}{L l:Vf}{m:Vk->Option UX}{vs:List UX}(F:Fr h₀ L h m)(hl:h₀.IsList l vs.toArray):l≠L:=fun e=>by
 refine oEA hl fun o ho Z=>?_;clear hl
 exact absurd (Tc ho) (TY.mpr (e ▸ F.above))
theorem s9{h₀ h:Vg}{L l:Vf}{o:Vl}{news:List (Vf×Vl)}(N:News h₀ L h news)(hm:(l,o)∈news):l≠L:=(N _ hm).2.1
section
variable{prog:UF}{w:Va}{A:UP}{E:UX->UO->Prop}{env:Vn}{s:UO}{h₀:Vg}{L:Vf}{m:Vk->Option UX}{news:List (Vf×Vl)}
 {scope:Vb} {cl:List (Vk×Vf)} {elt:Vh} {fin:UO->(Vk->Option UX)->List (Vf×Vl)->Vf->List UX->Nat->Vg->Nat->Prop}
theorem y2{kb:Bool}{ax:Vf}{vs:List UX}{x:Vk}{px:Pos}(G:Nat->Vg->Vg->UX->Prop)(hh:A.handled=none)(hl:s.heap.IsList ax vs.toArray)(hsz:vs.length<=Ux)
  (hx:scope.names.lookup x=some .local)(hkind:scope.kind= .function)(F:Fr h₀ L s.heap m)(N:News h₀ L s.heap news)(hax:ax≠L)
  (elts:∀i v C oC u H tk rest E',vs[i]? =some v->NsO oC u->u x=some v->Fr h₀ L H m->News h₀ L H ((C,oC)::(news++rest))->
   UY (UZ prog w) A (Vi elt (Uw scope cl C env)) (j3 h₀ L m rest (G i H) {s with heap:=H,toks:=tk}) E' {s with heap:=H,toks:=tk})
  (hfin:∀(s₂:UO),(∃h tk,s₂={s with heap:=h,toks:=tk})->∀D ys k h' tk,Fr h₀ L h' m->News h₀ L h' ((D,listOf ys.toArray k)::news)->(∀q∈news,q.1≠D)->Paired (fun j y=>∃hb ha,G j hb ha y/\C5 hb ha h') (TS vs.length) ys->fin s₂ m news D ys k h' tk):
  UY (UZ prog w) A (UU (.ref ax)) (fun it s₂=>Y9 kb prog w A env scope cl (.Name x px) [] elt h₀ L it s₂ (fin s₂)) E s:=
 DL (fun Z=>true) G hh hl hsz hx hkind F N hax (fun Z Z Z Z Z Z Z Z Z Z Z Z F N=>z8 (p9.intro F N (fun p hp=> .tail _ (RS.mpr (.inr hp))) rfl))
  (fun i v C oC u H tk rest E' hv Z hO hu F' N'=>elts i v C oC u H tk rest E' hv hO hu F' N') fun s₂ hs D ys k h' tk F' N' O P=>hfin s₂ hs D ys k h' tk F' N' O (by rw[s7] at P;exact P)
theorem BU{kb:Bool}{r:Vf}{C4 Aa:Int}{DV DU DT:Vm}{n:Nat}{x:Vk}{px:Pos}(G:Nat->Vg->Vg->UX->Prop)(hh:A.handled=none)(hr:IsRange s.heap r C4 Aa 1 DV DU DT)(hsmall:QH C4 Aa 1=true)(hn:Qe C4 Aa 1=(n:Int))(hsz:n<=Ux)
  (hx:scope.names.lookup x=some .local)(hkind:scope.kind= .function)(F:Fr h₀ L s.heap m)(N:News h₀ L s.heap news)
  (elts:∀(i:Nat) t C oC u H tk rest E',i<n->NsO oC u->u x=some (.int (C4+(i:Int)) t)->Fr h₀ L H m->News h₀ L H ((C,oC)::(news++rest))->
   UY (UZ prog w) A (Vi elt (Uw scope cl C env)) (j3 h₀ L m rest (G i H) {s with heap:=H,toks:=tk}) E' {s with heap:=H,toks:=tk})
  (hfin:∀(s₂:UO),(∃h tk,s₂={s with heap:=h,toks:=tk})->∀D ys k h' tk,Fr h₀ L h' m->News h₀ L h' ((D,listOf ys.toArray k)::news)->(∀q∈news,q.1≠D)->Paired (fun j y=>∃hb ha,G j hb ha y/\C5 hb ha h') (TS n) ys->fin s₂ m news D ys k h' tk):
  UY (UZ prog w) A (UU (.ref r)) (fun it s₂=>Y9 kb prog w A env scope cl (.Name x px) [] elt h₀ L it s₂ (fin s₂)) E s:=
 GA (fun Z=>true) G hh hr hsmall hn hsz hx hkind F N (fun Z Z Z Z Z Z Z Z Z Z Z Z F N=>z8 (p9.intro F N (fun p hp=> .tail _ (RS.mpr (.inr hp))) rfl))
  (fun i t C oC u H tk rest E' hi Z hO hu F' N'=>elts i t C oC u H tk rest E' hi hO hu F' N') fun s₂ hs D ys k h' tk F' N' O P=>hfin s₂ hs D ys k h' tk F' N' O (by rw[s7] at P;exact P)
end
theorem Dr{h₀ h:Vg}{L a:Vf}{m:Vk->Option UX}{its:Array UX}(F:Fr h₀ L h m)(hl:h.IsList a its):a≠L:=fun e=>by
 refine R3 F.ns fun o es ep ho hd Z=>?_
 refine Fl hl fun o' ho' Z n hd'=>?_;clear hl
 rw[e,ho] at ho'
 cases ho'
 rw[hd] at hd';cases hd'
theorem v4{ns:List Int}{i:Nat}{r:Int}(h:ns[i]? =some r):ns.getD i 0=r:=by rw[PV,h];rfl
theorem off_of{own:List (Vf×Vl)}{adr:List Vf}{b:Vf}(h:OwnOff own adr)(hb:b∈adr):∀p∈own,p.1≠b:=fun p hp=>h p hp b hb
theorem n5{vs:List UX}{ns:List Int}{i:Nat}{v:UX}(h:UG vs ns)(e:vs[i]? =some v):∃n t,ns[i]? =some n/\v= .int n t:=by
 have hl:i<vs.length:=by
  cases q:vs[i]? with
  |none=>exact zs1 q e
  |some _=>exact(PZ.mp q).1
 have hl2:i<ns.length:=h.length ▸ hl
 refine oE (h.get i ns[i] (by simp[hl2])) fun t ht=>?_
 rw[ht] at e
 exact(Bm (ns[i]) t (by simp[hl2]) ((RZ e).symm))
end Mine
end
local macro_rules | `(tactic|k_all)=> `(tactic|exact Mine.off_of (by assumption) (by simp))
local macro_rules | `(tactic|k_all)=> `(tactic|(with_reducible assumption))
section
open PySem PySem.W PySem.Calls PyProof.Rows
namespace Mine
theorem S.gTm:True:=trivial
open S (sK0 gTm)
theorem Pn:True:=by
 k_with "call ref"=>(guard_expr gTm=ₛ gTm;(k_here;k_dflt (first|(refine' Aw (Jm _ _ _ _) ?u1 ?u2 ?u3 ?u4 ?u5 ?u6 ?u7 ?u8 ?u9 ?uA ?_;(case u1=>k_asm);(case u2=>k_asm);(case u3=>k_asm);(case u4=>k_asm);(case u5=>k_asm);(case u6=>k_asm);(case u7=>first|exact rfl|assumption);(case u8=>ktr_room);(case u9=>ktr_units);(case uA=>first|trivial|assumption|k_extra "pre");k_whole;intro _ _ _ _ _ _;(try dsimp only);(try k_fold))|(refine' Aw (Et _ _ _ _) ?u1 ?u2 ?u3 ?u4 ?u5 ?u6 ?u7 ?u8 ?u9 ?uA ?_;(case u1=>k_asm);(case u2=>k_asm);(case u3=>k_asm);(case u4=>k_asm);(case u5=>k_asm);(case u6=>k_asm);(case u7=>first|exact rfl|assumption);(case u8=>ktr_room);(case u9=>ktr_units);(case uA=>first|trivial|assumption|k_extra "pre");k_whole;intro _ _ _ _ _ _;(try dsimp only);(try k_fold)))))
 trivial
theorem LM{h₀ h:Vg}{L:Vf}{a:Vf×Vl}{r:List (Vf×Vl)}(N:News h₀ L h (a::r)):News h₀ L h [a]:=fun p hp=>N p (by rw[QQ.mp hp];exact .head _)
noncomputable def tStep(ns1 ns2:List Int)(k:Nat)(row:List Int)(j:Nat):List Int:=row.set (k+j) (row.getD (k+j) 0+ns1.getD k 0*ns2.getD j 0)
noncomputable def tRow(ns1 ns2:List Int)(row:List Int)(k m:Nat):List Int:=(TS m).foldl (tStep ns1 ns2 k) row
noncomputable def tAll(ns1 ns2:List Int)(m:Nat):List Int:=(TS m).foldl (fun row k=>tRow ns1 ns2 row k ns2.length) (List.replicate (ns1.length+ns2.length-1) 0)
theorem A8{l:List Int}{i:Nat}(h:i<l.length):l.getD i 0∈l:=by
 rw[PV,Qb h];exact RP h
theorem T4(ns1 ns2:List Int)(row:List Int)(k m:Nat):(tRow ns1 ns2 row k m).length=row.length:=by
 induction m with
 |zero=>rfl
 |succ m ih=>simp only[tRow,Sa,List.foldl_append,Sf,List.foldl_nil,tStep,List.length_set];exact ih
theorem Y3(ns1 ns2:List Int)(m:Nat):(tAll ns1 ns2 m).length=ns1.length+ns2.length-1:=by
 induction m with
 |zero=>simp[tAll]
 |succ m ih=>simp only[tAll,Sa,List.foldl_append,Sf,List.foldl_nil,T4];exact ih
theorem Bv(ns1 ns2:List Int)(row:List Int)(k m:Nat):tRow ns1 ns2 row k (m+1)=tStep ns1 ns2 k (tRow ns1 ns2 row k m) m:=by
 simp only[tRow,Sa,List.foldl_append,Sf,List.foldl_nil]
theorem Bw(ns1 ns2:List Int)(m:Nat):tAll ns1 ns2 (m+1)=tRow ns1 ns2 (tAll ns1 ns2 m) m ns2.length:=by
 simp only[tAll,Sa,List.foldl_append,Sf,List.foldl_nil]
noncomputable def b0(ns1 ns2:List Int):List Int:=tAll ns1 ns2 ns1.length
section
variable{w:Va}{loose:List Vk}{mean:UH->Option UX}{mg mb:Vk->Option UX}
namespace Lo
noncomputable def Pre(w:Va)(l1 l2:Vf)(vs1 vs2:List UX)(ns1 ns2:List Int)(h:Vg):Prop:=h.IsList l1 vs1.toArray/\h.IsList l2 vs2.toArray/\UG vs1 ns1/\UG vs2 ns2/\0<ns1.length/\0<ns2.length/\ns1.length<100/\ns2.length<100/\∀x∈ns1,∀y∈ns2,Uz x y
noncomputable def Post(w:Va)(l1 l2:Vf)(vs1 vs2:List UX)(ns1 ns2:List Int)(h h':Vg)(r:UX):Prop:=∃vs,U1 h h' r vs/\UG vs (b0 ns1 ns2)
noncomputable def T(cx:Cx)(l1:Vf)(l2:Vf)(vs1:List UX)(vs2:List UX)(ns1:List Int)(ns2:List Int):Prop:=CtX cx 3 186 [.ref l1, .ref l2] (Pre cx.w l1 l2 vs1 vs2 ns1 ns2) (Post cx.w l1 l2 vs1 vs2 ns1 ns2)
noncomputable def P9:=V4 fun cx l1 l2 vs1=>U3 fun vs2 ns1 ns2=>T cx l1 l2 vs1 vs2 ns1 ns2
@[irreducible] noncomputable def c:=y6 (by k_extra "ne") P9
@[irreducible] noncomputable def cx:=c.1.1
@[irreducible] noncomputable def l1:=c.1.2.1
@[irreducible] noncomputable def l2:=c.1.2.2.1
@[irreducible] noncomputable def vs1:=c.1.2.2.2
@[irreducible] noncomputable def vs2:=c.2.1
@[irreducible] noncomputable def ns1:=c.2.2.1
@[irreducible] noncomputable def ns2:=c.2.2.2
noncomputable def red:Red cx 3 186 [.ref l1, .ref l2] (Pre cx.w l1 l2 vs1 vs2 ns1 ns2) (Post cx.w l1 l2 vs1 vs2 ns1 ns2):=⟨_,fun hP=>⟨fun hy=>by
 have hP':=hP hy
 clear hP
 obtain⟨B,F,X,T,Se,hk,hd,hu,hpre,hret⟩:=hy
 unfold Pre at hpre
 unfold PR
 revert X;k_fill;intro X
 refine J3 hpre fun hl1 hl2 hi1 hi2 hn1 hn2 hz1 hz2 hm=>?_;clear hpre
 refine TV ?_
 k_dflt (refine' enter (binds:=[(Ta "one", .ref l1),(Ta "two", .ref l2)]) ?k1 ?k2 ?k3 ?k5 ?kA ?kF ?kK ?k6 ?k7 ?k8 ?k9 ?kB ?_ ?c2 ?c3 ?c4 ?c5;(case kA=>exact rfl);(case kF=>exact rfl);(case kK=>assumption);(case k1=>k_asm);(case k2=>k_asm);(case k3=>k_asm);(case k5=>k_asm);(case k6=>k_is);(case k7=>k_is);(case k8=>ktr_room);(case k9=>exact SL rfl);(case c5=>decide);(case kB=>exact locs rfl);(case c2=>exact rfl);(case c3=>exact rfl);(case c4=>exact rfl);k_whole)
 exact hP'.get⟩⟩
@[irreducible] noncomputable def cF:Vf×Vg:=Dl red.P rfl
@[irreducible] noncomputable def L':Vf:=cF.1
@[irreducible] noncomputable def h':Vg:=cF.2
theorem walk(hy:HyX cx 3 (Pre cx.w l1 l2 vs1 vs2 ns1 ns2) (Post cx.w l1 l2 vs1 vs2 ns1 ns2)):red.P:=by
 refine J2 (a:=L') (b:=h') rfl (by unfold L' cF;rfl) (by unfold h' cF;rfl) ?_
 obtain⟨B,F,X,T,Se,hk,hd,hu,hpre,hret⟩:=hy
 unfold Pre at hpre
 have q9:PR=PR:=rfl
 unfold PR at q9
 revert X q9;k_fill;intro X q9;clear q9
 refine J3 hpre fun hl1 hl2 hi1 hi2 hn1 hn2 hz1 hz2 hm=>?_;clear hpre
 have g0:=s63 hz1 hz2
 have g4:=s1M hz1 hz2
 have g5:=smin ns1.length ns2.length
 intro F' N' B' X' T'
 k_dflt (have Se':=Qc Se (Fr.keep F);(try dsimp only);(try k_lift B');(try k_fold))
 k_steps
 unfold g9
 rename_i l0 h1 _ _ _ _ _ _ _ D h2 I1 n1 S1 e1 e2 e3 lD h3 F3 N3 _ _ h4 tk4 t1 u1 v1 R9 F9 N9 k9
 refine KJ (n:=ns1.length) [Ta "k",Ta "j"] (fun i nx=>∃vs,nx=[(D,listOf vs.toArray 0)]/\UG vs (tAll ns1 ns2 i)) (by decide) rfl R9 ?small ?size F9 (LM N9) ?start ?turn ?done
 case start=>
  have e9:((ns1.length:Int)+(ns2.length:Int)-1).toNat=ns1.length+ns2.length-1:=zIs _ _
  refine(iEA _ rfl ?_)
  show UG _ (List.replicate _ 0)
  rw[e9] at I1 ⊢
  simpa using I1
 case small=>exact small_one (by lia) (by lia) (by lia) (by lia)
 case size=>exact rangeSize_nat _ _
 case turn=>
  (intro i t9 u9 nx h9 tk9 own hi ho ha r0_;(refine oEA r0_ fun vs o0_ hv=>?_;clear r0_;obtain rfl:=o0_);intro F8 N8)
  have hlen:=Y3 ns1 ns2 i
  k_steps
  unfold g9
  rename_i h5 tk5 t5 u5 v5 R5 F5 N5 k5
  refine KJ (n:=ns2.length) [Ta "j"] (fun j nx=>∃vs,nx=(D,listOf vs.toArray 0)::own/\UG vs (tRow ns1 ns2 (tAll ns1 ns2 i) i j)) (by decide) rfl R5 ?HT ?size2 F5 N5 ?start2 ?turn2 ?done2
  case start2=>exact(iEA _ rfl hv)
  case HT=>exact small_one (by lia) (by lia) (by lia) (by lia)
  case size2=>exact rangeSize_nat _ _
  case turn2=>
   (intro j t8 u8 nx8 h8 tk8 own8 hj ho8 ha8 r0_;(refine oEA r0_ fun vs8 o0_ hv8=>?_;clear r0_;obtain rfl:=o0_);intro F7 N7)
   have hlen8:=T4 ns1 ns2 (tAll ns1 ns2 i) i j
   have g1:=ij0 i j
   have g2:=ijl hi hj (hlen8.trans hlen)
   k_with "pre"=>exact hm _ (A8 (by lia)) _ (A8 (by lia))
   k_steps
   rename_i N6 _ _
   k_dflt (refine' ksa_set ?a1 N6 (Upd.head ?a2) hv8 ?a3 ?a4 ?a5 ?_;(case a1=>k_asm))
   case a2=>exact fun p hp=>(RS.mp hp).elim (fun h=>ho p h D (by simp)) (fun h=>ho8 p h D (by simp))
   case a3=>lia
   case a4=>lia
   case a5=>lia
   have g3:=ij63 hi hz1 hj hz2
   intro h11 F11 N11 I11 _ _
   k_steps
   have e1:((0:Int)+(i:Int)).toNat=i:=zI0 i
   have e2:((0:Int)+(j:Int)).toNat=j:=zI0 j
   have e3:((0:Int)+(i:Int)+(0+(j:Int))).toNat=i+j:=zI2 i j
   obtain⟨vs12,N12,I12⟩:∃vs12,News _ _ h11 ((D,listOf vs12.toArray 0)::(own++own8))/\UG vs12 (tRow ns1 ns2 (tAll ns1 ns2 i) i (j+1)):=by
    refine(iEA _ N11 ?_)
    rw[Bv];simp only[tStep]
    simp only[e1,e2,e3] at I11 ⊢
    exact I11
   exact InvEndN.intro (nx:=(D,listOf vs12.toArray 0)::own) F11 N12 (OT (O4.put (by decide) (O4.pick O4.refl (fun Z h=>h))) _ rfl I12) rfl (fun p hp=>RS.mpr (.inl hp)) (fun p hp=> .tail _ (RS.mpr (.inr hp)))
  case done2=>
   (intro u11 nx11 h11 tk11 ha11 r0_;(refine oEA r0_ fun vs11 o0_ hv11=>?_;clear r0_;obtain rfl:=o0_);intro F11 N11)
   k_steps
   exact InvEndN.intro (nx:=[(D,listOf vs11.toArray 0)]) F11 N11 (OT (O4.pick (O4.put (by decide) (O4.pick O4.refl (fun Z h=>h))) (by decide)) _ rfl (by rw[Bw];exact hv11)) rfl (fun p hp=>by rw[QQ.mp hp];exact .head _) (fun p hp=> .tail _ hp)
 case done=>
  (intro u11 nx11 h11 tk11 ha11 r0_;(refine oEA r0_ fun vs11 o0_ hv11=>?_;clear r0_;obtain rfl:=o0_);intro F11 N11)
  k_steps
  all_goals(refine Lv.intro F11 ?_;intro kp;exact hret _ _ _ kp (iEA vs11 (H5 D 0 rfl ((N11 _ (.head _)).1) ((N11 _ (.head _)).2.2)) hv11))
end Lo
theorem Bi(l1 l2:Vf)(vs1 vs2:List UX)(ns1 ns2:List Int):Ct w loose mean mg mb 3 186 [.ref l1, .ref l2] (fun h=>h.IsList l1 vs1.toArray/\h.IsList l2 vs2.toArray/\UG vs1 ns1/\UG vs2 ns2/\0<ns1.length/\0<ns2.length/\ns1.length<100/\ns2.length<100/\∀x∈ns1,∀y∈ns2,Uz x y) (fun h h' r=>∃vs,U1 h h' r vs/\UG vs (b0 ns1 ns2)):=
 CtX.ct (Pre:=fun w=>Lo.Pre w l1 l2 vs1 vs2 ns1 ns2) (Post:=fun w=>Lo.Post w l1 l2 vs1 vs2 ns1 ns2) fun cx9=>show Lo.T cx9 l1 l2 vs1 vs2 ns1 ns2 from f7 (P:=Lo.P9) (c:=Lo.c) (by with_unfolding_all rfl) (by with_unfolding_all exact Lo.red.of fun y=>⟨Lo.walk y⟩) ((cx9,l1,l2,vs1),(vs2,ns1,ns2))
end
end Mine
end
section
open PySem PySem.W PySem.Calls PyProof.Rows
namespace Mine
theorem S.gPd:True:=trivial
open S (sK0 gPd)
theorem Pp:True:=by
 k_with "call ref"=>(guard_expr gPd=ₛ gPd;(k_here;k_dflt (first|(refine' Aw (Er _ _) ?u1 ?u2 ?u3 ?u4 ?u5 ?u6 ?u7 ?u8 ?u9 ?uA ?_;(case u1=>k_asm);(case u2=>k_asm);(case u3=>k_asm);(case u4=>k_asm);(case u5=>k_asm);(case u6=>k_asm);(case u7=>first|exact rfl|assumption);(case u8=>ktr_room);(case u9=>ktr_units);(case uA=>first|trivial|assumption|k_extra "pre");k_whole;intro _ _ _ _ _ _;(try dsimp only);(try k_fold))|(refine' KC (Bi _ _ _ _ _ _) ?u1 ?u2 ?u3 ?u4 ?u5 ?u6 ?u7 ?u8 ?u9 ?uA ?_;(case u1=>k_asm);(case u2=>k_asm);(case u3=>k_asm);(case u4=>k_asm);(case u5=>k_asm);(case u6=>k_asm);(case u7=>first|exact rfl|assumption);(case u8=>ktr_room);(case u9=>ktr_units);(case uA=>first|trivial|assumption|k_extra "pre");k_whole;intro _ _ _ _ _ _ _ _ _;(try dsimp only);(try k_fold)))))
 trivial
theorem y1(a b:List Int):(b0 a b).length=a.length+b.length-1:=Y3 a b a.length
noncomputable def a9(ns:List Int):List Int:=ns.foldl (fun row r=>b0 row [1, -r]) [1]
theorem Dk(ns:List Int)(r:Int):a9 (ns++[r])=b0 (a9 ns) [1, -r]:=by simp[a9]
theorem i5(ns:List Int):(a9 ns).length=ns.length+1:=by
 suffices h:∀(ns row:List Int),0<row.length->(ns.foldl (fun row r=>b0 row [1, -r]) row).length=ns.length+row.length by
  exact h ns [1] (by simp)
 intro ns
 induction ns with
 |nil=>intro row _;simp
 |cons r ns ih=>
  intro row hr
  rw[Sf,ih _ (by rw[y1];simp only[RB,RX];lia),y1]
  simp only[RB,RX];lia
theorem LD{r:Int}(h: -(2 ^ 60)<r/\r<2 ^ 60){l:List Int}:∀x∈l,∀y∈([1, -r]:List Int),Uz x y:=by
 intro x _ y hy
 have k: -(2 ^ 60)<y/\y<2 ^ 60:=by
  rcases SH.mp hy with rfl|hy
  ·decide
  ·rw[QQ.mp hy];exact⟨Int.neg_lt_neg h.2,Int.neg_lt_of_neg_lt h.1⟩
 exact Rv (SU (Ts (by decide) k.1) (Ts k.2 (by decide)))
section
variable{w:Va}{loose:List Vk}{mean:UH->Option UX}{mg mb:Vk->Option UX}
namespace Ln
noncomputable def Pre(w:Va)(l:Vf)(vs:List UX)(ns:List Int)(h:Vg):Prop:=h.IsList l vs.toArray/\UG vs ns/\ns.length<50/\∀x∈ns, -(2 ^ 60)<x/\x<2 ^ 60
noncomputable def Post(w:Va)(l:Vf)(vs:List UX)(ns:List Int)(h h':Vg)(r:UX):Prop:=∃vs,U1 h h' r vs/\UG vs (a9 ns)
noncomputable def T(cx:Cx)(l:Vf)(vs:List UX)(ns:List Int):Prop:=CtX cx 4 193 [.ref l] (Pre cx.w l vs ns) (Post cx.w l vs ns)
noncomputable def P9:=U4 fun cx l vs ns=>T cx l vs ns
@[irreducible] noncomputable def c:=y6 (by k_extra "ne") P9
@[irreducible] noncomputable def cx:=c.1
@[irreducible] noncomputable def l:=c.2.1
@[irreducible] noncomputable def vs:=c.2.2.1
@[irreducible] noncomputable def ns:=c.2.2.2
noncomputable def red:Red cx 4 193 [.ref l] (Pre cx.w l vs ns) (Post cx.w l vs ns):=⟨_,fun hP=>⟨fun hy=>by
 have hP':=hP hy
 clear hP
 obtain⟨B,F,X,T,Se,hk,hd,hu,hpre,hret⟩:=hy
 unfold Pre at hpre
 unfold PR
 revert X;k_fill;intro X
 refine AX hpre fun hl hi hn hb=>?_;clear hpre
 refine TV ?_
 k_dflt (refine' enter (binds:=[(Ta "roots", .ref l)]) ?k1 ?k2 ?k3 ?k5 ?kA ?kF ?kK ?k6 ?k7 ?k8 ?k9 ?kB ?_ ?c2 ?c3 ?c4 ?c5;(case kA=>exact rfl);(case kF=>exact rfl);(case kK=>assumption);(case k1=>k_asm);(case k2=>k_asm);(case k3=>k_asm);(case k5=>k_asm);(case k6=>k_is);(case k7=>k_is);(case k8=>ktr_room);(case k9=>exact SL rfl);(case c5=>decide);(case kB=>exact locs rfl);(case c2=>exact rfl);(case c3=>exact rfl);(case c4=>exact rfl);k_whole)
 exact hP'.get⟩⟩
@[irreducible] noncomputable def cF:Vf×Vg:=Dl red.P rfl
@[irreducible] noncomputable def L':Vf:=cF.1
@[irreducible] noncomputable def h':Vg:=cF.2
theorem walk(hy:HyX cx 4 (Pre cx.w l vs ns) (Post cx.w l vs ns)):red.P:=by
 refine J2 (a:=L') (b:=h') rfl (by unfold L' cF;rfl) (by unfold h' cF;rfl) ?_
 obtain⟨B,F,X,T,Se,hk,hd,hu,hpre,hret⟩:=hy
 unfold Pre at hpre
 have q9:PR=PR:=rfl
 unfold PR at q9
 revert X q9;k_fill;intro X q9;clear q9
 refine AX hpre fun hl hi hn hb=>?_;clear hpre
 intro F' N' B' X' T'
 k_dflt (have Se':=Qc Se (Fr.keep F);(try dsimp only);(try k_lift B');(try k_fold))
 k_steps
 unfold g9
 rename_i D h1 _ h2 F2 N2
 rename UG _ _=>hi
 refine LS [Ta "row",Ta "root"] (fun i u nx=>∃D vs n,u (Ta "row")=some (.ref D)/\nx=[(D,listOf vs.toArray n)]/\UG vs (a9 (ns.take i))) rfl hl F2 N2 ⟨_,[_],_,rfl,rfl, .cons _ _ .nil⟩ ?turn ?done
 case turn=>
  (intro i v u9 nx h9 tk9 own hi9 ho r0_;(refine R3 r0_ fun D vs9 n9 hrow o0_ hv=>?_;clear r0_;obtain rfl:=o0_);intro F8 N8)
  (refine y8 (n5 hi hi9) fun r t hr o0_=>?_;obtain rfl:=o0_)
  simp only[pick,hrow] at F8
  k_with "pre"=>(
   rename News _ _ _ _=>N5
   refine⟨?q1,?q2,?q3,?q4,?p1,?p2,?p3,?p4,?p5⟩
   case q1=>exact isL N5 (by k_mem)
   case q2=>exact isL N5 (by k_mem)
   case q3=>exact hv
   case q4=>exact .cons _ _ (.cons _ _ .nil)
   case p1=>(rw[i5];lia)
   case p2=>simp
   case p3=>(rw[i5,List.length_take];exact QS (Nat.succ_le_succ (Nat.min_le_right _ _)) (Tf (Nat.succ_lt_succ hn) (by decide)))
   case p4=>simp
   case p5=>exact LD (hb r (Qt hr)))
  k_steps
  rename_i D7 v7 n7 h7 tk7 O7 I7 h7' F7 N7
  have e7:a9 (ns.take (i+1))=b0 (a9 (ns.take i)) [1, -r]:=by rw[Rm,hr];exact Dk _ _
  exact SY (nx:=[(D7,listOf v7.toArray n7)]) F7 N7 ⟨(by intro y hy;simp only[SH,RE,or_false,not_or] at hy;simp only[hy.1,hy.2,if_false]),D7,v7,n7,rfl,rfl,e7 ▸ I7⟩
   (fun p hp b hb=>by
    rw[QQ.mp hb]
    exact O7 p (.tail _ (RS.mpr (.inr hp))))
   (fun p hp=>by rw[QQ.mp hp];exact .head _) (fun p hp=> .tail _ (.tail _ (RS.mpr (.inr hp))))
 case done=>
  (intro u11 nx11 h11 tk11 r0_;(refine R3 r0_ fun D vs9 n9 hrow o0_ hv=>?_;clear r0_;obtain rfl:=o0_);intro F11 N11)
  simp only[pick,hrow] at F11
  rw[hi.length,RK] at hv
  k_steps
  all_goals(refine Lv.intro F11 ?_;intro kp;exact hret _ _ _ kp (iEA vs9 (H5 D n9 rfl ((N11 _ (.head _)).1) ((N11 _ (.head _)).2.2)) hv))
end Ln
theorem AB(l:Vf)(vs:List UX)(ns:List Int):Ct w loose mean mg mb 4 193 [.ref l] (fun h=>h.IsList l vs.toArray/\UG vs ns/\ns.length<50/\∀x∈ns, -(2 ^ 60)<x/\x<2 ^ 60) (fun h h' r=>∃vs,U1 h h' r vs/\UG vs (a9 ns)):=
 CtX.ct (Pre:=fun w=>Ln.Pre w l vs ns) (Post:=fun w=>Ln.Post w l vs ns) fun cx9=>show Ln.T cx9 l vs ns from f7 (P:=Ln.P9) (c:=Ln.c) (by with_unfolding_all rfl) (by with_unfolding_all exact Ln.red.of fun y=>⟨Ln.walk y⟩) (cx9,l,vs,ns)
end
end Mine
end
section
open PySem PySem.W PySem.Calls PyProof.Rows
namespace Mine
theorem S.gBr:True:=trivial
open S (sK0 sK1 sK2 gBr)
theorem Pv:True:=by
 k_with "call ref"=>(guard_expr gBr=ₛ gBr;(k_here;k_dflt (first|(refine' Aw (MU _ _ _ _) ?u1 ?u2 ?u3 ?u4 ?u5 ?u6 ?u7 ?u8 ?u9 ?uA ?_;(case u1=>k_asm);(case u2=>k_asm);(case u3=>k_asm);(case u4=>k_asm);(case u5=>k_asm);(case u6=>k_asm);(case u7=>first|exact rfl|assumption);(case u8=>ktr_room);(case u9=>ktr_units);(case uA=>first|trivial|assumption|k_extra "pre");k_whole;intro _ _ _ _ _ _;(try dsimp only);(try k_fold))|(refine' Aw (Fw _ _ _ _) ?u1 ?u2 ?u3 ?u4 ?u5 ?u6 ?u7 ?u8 ?u9 ?uA ?_;(case u1=>k_asm);(case u2=>k_asm);(case u3=>k_asm);(case u4=>k_asm);(case u5=>k_asm);(case u6=>k_asm);(case u7=>first|exact rfl|assumption);(case u8=>ktr_room);(case u9=>ktr_units);(case uA=>first|trivial|assumption|k_extra "pre");k_whole;intro _ _ _ _ _ _;(try dsimp only);(try k_fold)))))
 trivial
theorem GI(r:Int):(if r<0 then -r else r)=(r.natAbs:Int):=by
 split
 ·exact(Int.ofNat_natAbs_of_nonpos (Int.le_of_lt ‹_›)).symm
 ·exact(Int.natAbs_of_nonneg (Int.not_lt.mp ‹_›)).symm
theorem Kg(g k:Nat):UA (g:Int) (k:Int)=((g % k:Nat):Int):=by
 rw[Int.fmod_eq_emod_of_nonneg _ (QV k),Int.natCast_emod]
noncomputable def y7(ns:List Int):Nat:=ns.foldl (fun g x=>Nat.gcd g x.natAbs) 0
theorem ED{ns:List Int}(hx:∃x∈ns,x≠0):(y7 ns:Int)≠0:=by
 suffices h:∀(ns:List Int)(g:Nat),(g≠0\/∃x∈ns,x≠0)->ns.foldl (fun g x=>Nat.gcd g x.natAbs) g≠0 by
  have:=h ns 0 (.inr hx)
  unfold y7;lia
 intro ns
 induction ns with
 |nil=>rintro g (h|⟨x,h,_⟩);exact h;cases h
 |cons y ns ih=>
  rintro g h
  refine ih _ ?_
  rcases h with h|⟨x,hx,hn⟩
  ·exact .inl fun e=>h (Nat.eq_zero_of_gcd_eq_zero_left e)
  ·rcases SH.mp hx with rfl|hx
   ·exact .inl fun e=>hn (by exact Int.natAbs_eq_zero.mp (Nat.eq_zero_of_gcd_eq_zero_right e))
   ·exact .inr (iEA x hx hn)
noncomputable def s8(ns:List Int):List Int:=ns.map fun x=>Int.fdiv x (y7 ns)
section
variable{w:Va}{loose:List Vk}{mean:UH->Option UX}{mg mb:Vk->Option UX}
namespace Ll
noncomputable def Pre(w:Va)(l:Vf)(vs:List UX)(ns:List Int)(h:Vg):Prop:=h.IsList l vs.toArray/\UG vs ns/\ns.length<100/\∃x∈ns,x≠0
noncomputable def Post(w:Va)(l:Vf)(vs:List UX)(ns:List Int)(h h':Vg)(r:UX):Prop:=∃vs,U1 h h' r vs/\UG vs (s8 ns)
noncomputable def T(cx:Cx)(l:Vf)(vs:List UX)(ns:List Int):Prop:=CtX cx 104 203 [.ref l] (Pre cx.w l vs ns) (Post cx.w l vs ns)
noncomputable def P9:=U4 fun cx l vs ns=>T cx l vs ns
@[irreducible] noncomputable def c:=y6 (by k_extra "ne") P9
@[irreducible] noncomputable def cx:=c.1
@[irreducible] noncomputable def l:=c.2.1
@[irreducible] noncomputable def vs:=c.2.2.1
@[irreducible] noncomputable def ns:=c.2.2.2
noncomputable def red:Red cx 104 203 [.ref l] (Pre cx.w l vs ns) (Post cx.w l vs ns):=⟨_,fun hP=>⟨fun hy=>by
 have hP':=hP hy
 clear hP
 obtain⟨B,F,X,T,Se,hk,hd,hu,hpre,hret⟩:=hy
 unfold Pre at hpre
 unfold PR
 revert X;k_fill;intro X
 refine AX hpre fun hl hi hn hx=>?_;clear hpre
 refine TV ?_
 k_dflt (refine' KZ (binds:=[(Ta "row", .ref l)]) ?k1 ?k2 ?k3 ?k5 ?kA ?kF ?kK ?k6 ?k7 ?k8 ?k9 ?kB ?kD ?_ ?c2 ?c3 ?c4;(case kA=>exact rfl);(case kF=>exact rfl);(case kK=>assumption);(case k1=>k_asm);(case k2=>k_asm);(case k3=>k_asm);(case k5=>k_asm);(case k6=>k_is);(case k7=>k_is);(case k8=>ktr_room);(case k9=>exact SL rfl);(case kB=>exact rfl);(case kD=>decide+kernel);(case c2=>exact rfl);(case c3=>exact rfl);(case c4=>exact rfl);k_whole)
 exact hP'.get⟩⟩
@[irreducible] noncomputable def cF:Vf×Vg×Nat×List (Vf×Vl):=GW red.P rfl
@[irreducible] noncomputable def L':Vf:=cF.1
@[irreducible] noncomputable def h':Vg:=cF.2.1
@[irreducible] noncomputable def tk':Nat:=cF.2.2.1
@[irreducible] noncomputable def W0:List (Vf×Vl):=cF.2.2.2
@[irreducible] noncomputable def oc1:Vl:=(W0.getD 0 (0,default)).2
inductive I1(i:Nat)(r:Int)(own:List (Vf×Vl))(k:Nat)(u:Vk->Option UX)(nx:List (Vf×Vl)):Prop
 |mk(g lw:Nat)(t1 t':Vm)(o:Vl)(hu:u (Ta "low")=some (.int (lw:Nat) t'))(en:nx=(L'+1,o)::own)(ho:o.data= .cell (some (.int (g:Nat) t1)))(hg:Nat.gcd g lw=Nat.gcd (y7 (ns.take i)) r.natAbs)(hk:k=lw)
theorem walk(hy:HyX cx 104 (Pre cx.w l vs ns) (Post cx.w l vs ns)):red.P:=by
 refine Eh (a:=L') (b:=h') (c:=tk') (d:=W0) rfl (by unfold L' cF;rfl) (by unfold h' cF;rfl) (by unfold tk' cF;rfl) (by unfold W0 cF;rfl) ?_
 obtain⟨B,F,X,T,Se,hk,hd,hu,hpre,hret⟩:=hy
 unfold Pre at hpre
 have q9:PR=PR:=rfl
 unfold PR at q9
 revert X q9;k_fill;intro X q9;clear q9
 refine AX hpre fun hl hi hn hx=>?_;clear hpre
 intro F' N' Y' B' X' T'
 k_dflt (have Se':=Qc Se (Fr.keep F);refine oEA (CellsAre.one Y') fun oc19 eC d1=>?_;obtain rfl:oc19=oc1:=(by unfold oc1;rw[eC];first|done|rfl);rw[eC] at N';clear Y' eC;(try dsimp only);(try k_lift B');(try k_fold))
 k_steps
 unfold g9
 rename_i h1 o1 F1 N1 D1
 rename UG _ _=>hi
 refine LS [Ta "number",Ta "low"] (fun i u nx=>∃o t,nx=[(L'+1,o)]/\o.data= .cell (some (.int (y7 (ns.take i)) t))) rfl hl F1 N1 (Bm _ _ rfl D1) ?turn ?done
 case turn=>
  (intro i v u9 nx h9 tk9 own hi9 ho r0_;(refine y8 r0_ fun o9 t9 o0_ hd9=>?_;clear r0_;obtain rfl:=o0_);intro F8 N8)
  (refine y8 (n5 hi hi9) fun r t hr o0_=>?_;obtain rfl:=o0_)
  simp only[RG,Sb] at N8
  k_steps
  unfold g9
  rename Fr _ _ _ _=>F7
  rename News _ _ _ _=>N7
  refine FT [Ta "low"] (fun k u nx=>I1 i r own k u nx) F7 N7 ⟨_,r.natAbs,_,_,_,congrArg (fun z=>some (Ur z _)) (GI r),rfl,hd9,rfl,rfl⟩ ?_
  (intro k u7 nx7 h7 tk7 r0_;obtain⟨g,lw,t7,t7',o7,hlow,rfl,hd7,hg7,rfl⟩:=r0_;intro F8 N8)
  simp only[pick,hlow] at F8
  k_steps
  ·rename_i a6 _ _ _ t6 _ _ _ _ _ o6 d6 _ F6 N6
   have hk0:k≠0:=fun e=>a6 (by rw[e];rfl)
   refine WhileStep.intro F6 (news₂:=(L'+1,o6)::own) (UM N6 (fun p hp=> .tail _ hp)) (Nat.mod_lt g (Nat.pos_of_ne_zero hk0)) ⟨?same,k,g % k,t7',t6,o6,congrArg (fun z=>some (Ur z t6)) (Kg g k),rfl,d6,?gcd,rfl⟩
   case same=>intro y hy;simp only[QQ] at hy;simp only[hy,if_false,pick]
   case gcd=>rw[←hg7,Nat.gcd_comm k, ←Nat.gcd_rec,Nat.gcd_comm]
  ·rename_i a6
   have hk0:k=0:=by lia
   subst hk0
   rw[Nat.gcd_zero_right] at hg7
   refine SY F8 (nx:=[(L'+1,o7)]) N8 ⟨?same2,o7,t7,rfl,?gcd2⟩ (fun p hp b hb=>ho p hp b hb) (fun p hp=>by rw[QQ.mp hp];exact .head _) (fun p hp=> .tail _ hp)
   case same2=>intro y hy;simp only[SH,RE,or_false,not_or] at hy;simp only[hy.1,hy.2,if_false,pick]
   case gcd2=>rw[hd7,hg7,Rm,hr];simp[y7]
 case done=>
  (intro u11 nx11 h11 tk11 r0_;(refine y8 r0_ fun o11 t11 o0_ hd11=>?_;clear r0_;obtain rfl:=o0_);intro F11 N11)
  rw[hi.length,RK] at hd11
  k_steps
  unfold g9
  refine j5 (h₀:=cx.s.heap) (L:=L') (cl:=[(Ta "common",L'+1)]) (by with_unfolding_all rfl) (by decide) (by with_unfolding_all rfl) (by decide) (by intro _;with_unfolding_all rfl) ?_
  k_steps
  unfold g9
  have hg0:(y7 ns:Int)≠0:=ED hx
  refine y2 (fun i Z Z y=>∃t,y= .int (Int.fdiv (ns.getD i 0) (y7 ns)) t) rfl (stays_list F11.keep hl) (by rw[hi.length,Tz];lia) (by with_unfolding_all rfl) (by with_unfolding_all rfl) F11 N11 (IL F11 hl) ?elts ?fin
  case elts=>
   rintro i v C oC u H tk rest E' hv hO hu F8 N8
   (refine y8 (n5 hi hv) fun r t hr o0_=>?_;obtain rfl:=o0_)
   have hr':ns.getD i 0=r:=by rw[PV,hr];rfl
   simp only[RG,Sb] at N8
   k_with "pre"=>exact hg0
   k_steps
   rename News _ _ _ _=>N9
   exact j3.intro (by k_asm) N9 (fun p hp=> .tail _ (.tail _ hp)) ⟨_,by rw[hr']⟩
  case fin=>
   (intro _ r0_;(refine oEE r0_ fun Z Z o0_=>?_;clear r0_;obtain rfl:=o0_);intro D ys k h12 tk12 F12 N12 O12 P12)
   have I12:UG ys (s8 ns):=by
    have:=g8 P12
    rw[hi.length,j6 (fun x=>Int.fdiv x (y7 ns))] at this
    exact this
   k_steps
   all_goals(refine Lv.intro F12 ?_;intro kp;exact hret _ _ _ kp (iEA ys (H5 D k rfl ((N12 _ (.head _)).1) ((N12 _ (.head _)).2.2)) I12))
end Ll
theorem Mv(l:Vf)(vs:List UX)(ns:List Int):Ct w loose mean mg mb 104 203 [.ref l] (fun h=>h.IsList l vs.toArray/\UG vs ns/\ns.length<100/\∃x∈ns,x≠0) (fun h h' r=>∃vs,U1 h h' r vs/\UG vs (s8 ns)):=
 CtX.ct (Pre:=fun w=>Ll.Pre w l vs ns) (Post:=fun w=>Ll.Post w l vs ns) fun cx9=>show Ll.T cx9 l vs ns from f7 (P:=Ll.P9) (c:=Ll.c) (by with_unfolding_all rfl) (by with_unfolding_all exact Ll.red.of fun y=>⟨Ll.walk y⟩) (cx9,l,vs,ns)
end
end Mine
end
section
open PySem PySem.W PySem.Calls PyProof.Rows
namespace Mine
theorem S.gRs:True:=trivial
open S (sK0 sK3 sK4 sK2 gRs)
theorem Po:True:=by
 k_with "exec Assign cons ListComp"=>(guard_expr gRs=ₛ gRs;(with_unfolding_all refine wpAny_Assign_Name ?_))
 k_with "call ref"=>(guard_expr gRs=ₛ gRs;(k_here;k_dflt (first|(refine' Aw (Et _ _ _ _) ?u1 ?u2 ?u3 ?u4 ?u5 ?u6 ?u7 ?u8 ?u9 ?uA ?_;(case u1=>k_asm);(case u2=>k_asm);(case u3=>k_asm);(case u4=>k_asm);(case u5=>k_asm);(case u6=>k_asm);(case u7=>first|exact rfl|assumption);(case u8=>ktr_room);(case u9=>ktr_units);(case uA=>first|trivial|assumption|k_extra "pre");k_whole;intro _ _ _ _ _ _;(try dsimp only);(try k_fold))|(refine' Aw (HO _ _ _ _) ?u1 ?u2 ?u3 ?u4 ?u5 ?u6 ?u7 ?u8 ?u9 ?uA ?_;(case u1=>k_asm);(case u2=>k_asm);(case u3=>k_asm);(case u4=>k_asm);(case u5=>k_asm);(case u6=>k_asm);(case u7=>first|exact rfl|assumption);(case u8=>ktr_room);(case u9=>ktr_units);(case uA=>first|trivial|assumption|k_extra "pre");k_whole;intro _ _ _ _ _ _;(try dsimp only);(try k_fold))|(refine' NS (Kf _ _ _ _) ?u1 ?u2 ?u3 ?u4 ?u5 ?u6 ?u7 ?u8 ?u9 ?uA ?_;(case u1=>k_asm);(case u2=>k_asm);(case u3=>k_asm);(case u4=>k_asm);(case u5=>k_asm);(case u6=>k_asm);(case u7=>first|exact rfl|assumption);(case u8=>ktr_room);(case u9=>ktr_units);(case uA=>first|trivial|assumption|k_extra "pre");k_whole;intro _ _ _ _ _;(try dsimp only);(try k_fold))|(refine' Aw (Er _ _) ?u1 ?u2 ?u3 ?u4 ?u5 ?u6 ?u7 ?u8 ?u9 ?uA ?_;(case u1=>k_asm);(case u2=>k_asm);(case u3=>k_asm);(case u4=>k_asm);(case u5=>k_asm);(case u6=>k_asm);(case u7=>first|exact rfl|assumption);(case u8=>ktr_room);(case u9=>ktr_units);(case uA=>first|trivial|assumption|k_extra "pre");k_whole;intro _ _ _ _ _ _;(try dsimp only);(try k_fold)))))
 k_with "exec Assign"=>(guard_expr gRs=ₛ gRs;((with_reducible show UY _ _ (exec (Stmt.Assign (Vh.Tuple _ _ _::_) _ _) _) _ _ _);(fail_if_success (with_reducible show UY _ _ _ (NQ _ _ _ _ _ _ _ _ _) _ _));refine g9.mk ?_))
 trivial
noncomputable def NX(h₀:Vg)(own:List (Vf×Vl))(D:Vf)(vs:List UX):Prop:=∀h:Vg,(∀p∈own,h.get? p.1=some p.2)->(∀b o,h₀.get? b=some o->h.get? b=some o)->h.IsList D vs.toArray
theorem NX.at{h₀ h:Vg}{L D:Vf}{m:Vk->Option UX}{own news:List (Vf×Vl)}{vs:List UX}(x:NX h₀ own D vs)(F:Fr h₀ L h m)(N:News h₀ L h news)(hs:∀p∈own,p∈news):h.IsList D vs.toArray:=x h (fun p hp=>(N p (hs p hp)).1) F.keep
local macro_rules | `(tactic|is_list)=> `(tactic|exact NX.at (by assumption) (by assumption) (by assumption) (fun p hp=>by walk_at "mem"))
noncomputable def Ey(one two:List Int):Int:=if 0<two.getD 0 0 then one.getD 0 0 else -one.getD 0 0
noncomputable abbrev Ni{h₀:Vg}{L:Vf}{h:Vg}{m:Vk->Option UX}(_:Fr h₀ L h m):Vk->Option UX:=m
noncomputable def NQ(h₀:Vg)(L:Vf)(m:Vk->Option UX)(ns ns2:List Int)(o3 o4:Vl)(own:List (Vf×Vl))(s:UO)(f:Flow)(s':UO):Prop:=
 f= .next/\∃h tk oS oL t1 t2,s'={s with heap:=h,toks:=tk}/\Fr h₀ L h m/\News h₀ L h ((L+1+1+1+1,oL)::(L+1+1+1,oS)::(L+1+1,o3)::(L+1,o4)::own)/\oS.data= .cell (some (.int ((ns2.getD 0 0).natAbs:Int) t1))/\oL.data= .cell (some (.int (Ey ns ns2) t2))
noncomputable def KB(x y:Int):Prop:=QE x+QE y<=2 ^ 27
theorem KB.ok{x y:Int}(h:KB x y):Uz x y:=by
 unfold Uz UE.Int.intTooBig bitsLine
 intro e
 simp only[RO,decide_eq_true_eq] at e
 have:=e.2
 unfold KB at h
 lia
theorem GC(x:Int):QE (-x)=QE x:=by
 unfold QE
 by_cases h:x=0
 ·subst h;rfl
 ·have h': -x≠0:=by lia
  simp only[beq_iff_eq,h,h',if_false,SA]
theorem Ks(x:Int):QE (if x<0 then -x else x)=QE x:=by
 split
 ·exact GC x
 ·rfl
noncomputable def CT(one two:List Int):Prop:=∀x∈one,∀y∈two,KB x y
theorem mulA{one two:List Int}(h:CT one two){j:Nat}(h0:0<two.length)(hj:j<one.length):Uz (if two.getD (Uo 0) 0<0 then -two.getD (Uo 0) 0 else two.getD (Uo 0) 0) (one.getD j 0):=by
 apply KB.ok
 have:=h _ (A8 hj) _ (A8 (i:=0) h0)
 unfold KB at*
 rw[Ks]
 show QE (two.getD 0 0)+_<=_
 lia
theorem mulB{one two:List Int}(h:CT one two){j:Nat}(h0:0<one.length)(hj:j<two.length):Uz (one.getD (Uo 0) 0) (two.getD j 0):=KB.ok (h _ (A8 (i:=0) h0) _ (A8 hj))
theorem OO{one two:List Int}(h:CT one two){j:Nat}(h0:0<one.length)(hj:j<two.length):Uz (-one.getD (Uo 0) 0) (two.getD j 0):=by
 apply KB.ok
 have:=h _ (A8 (i:=0) h0) _ (A8 hj)
 unfold KB at*
 rw[GC];exact this
noncomputable def MM(one two:List Int)(i:Nat):Int:=(two.getD 0 0).natAbs*one.getD (i+1) 0-(if i+1<two.length then(if 0<two.getD 0 0 then one.getD 0 0 else -one.getD 0 0)*two.getD (i+1) 0 else 0)
theorem OP{one two:List Int}(h:CT one two){j:Nat}(h0:0<two.length)(hj:j<one.length):Uz ((two.getD 0 0).natAbs:Int) (one.getD j 0):=by
 have:=mulA h h0 hj
 rwa[GI] at this
theorem ON{one two:List Int}(h:CT one two){j:Nat}(h0:0<one.length)(hj:j<two.length):Uz (Ey one two) (two.getD j 0):=by
 unfold Ey
 split
 ·exact mulB h h0 hj
 ·exact OO h h0 hj
noncomputable def z0(one two:List Int):List Int:=
 (TS (one.length-1)).map (MM one two)
theorem V0(one two:List Int):(z0 one two).length=one.length-1:=by simp[z0]
noncomputable def A6(l:List Int):List Int:=l.dropWhile (· == 0)
noncomputable def V1:Nat->List Int->List Int->List Int
 |0,one,_=>one
 |k+1,one,two=>if one.length<two.length then one else V1 k (A6 (z0 one two)) two
theorem GU{k:Nat}{one two:List Int}(h:one.length<two.length):V1 k one two=one:=by
 cases k with
 |zero=>rfl
 |succ k=>rw[V1,if_pos h]
theorem Fc{xs:List Int}(h:0<xs.length)(e:xs.getD (Uo 0) 0=0):A6 (xs.drop 1)=A6 xs:=by
 cases xs with
 |nil=>cases h
 |cons x xs=>
  have e':x=0:=e
  simp[A6,e',QN]
theorem HP{xs:List Int}(h:0<xs.length)(e:¬xs.getD (Uo 0) 0=0):A6 xs=xs:=by
 cases xs with
 |nil=>cases h
 |cons x xs=>
  have e':¬x=0:=e
  simp[A6,e',QN]
noncomputable def AS:Nat->List Int->List Int->Prop
 |0,_,_=>True
 |k+1,one,two=>two.length<=one.length->CT one two/\AS k (A6 (z0 one two)) two
noncomputable def s6(one two:List Int):List Int:=V1 one.length one two
section
variable{w:Va}{loose:List Vk}{mean:UH->Option UX}{mg mb:Vk->Option UX}
namespace Lm
noncomputable def Pre(w:Va)(l1 l2:Vf)(vs1 vs2:List UX)(ns1 ns2:List Int)(h:Vg):Prop:=h.IsList l1 vs1.toArray/\h.IsList l2 vs2.toArray/\UG vs1 ns1/\UG vs2 ns2/\ns1.length<100/\0<ns2.length/\ns2.length<100/\AS ns1.length ns1 ns2
noncomputable def Post(w:Va)(l1 l2:Vf)(vs1 vs2:List UX)(ns1 ns2:List Int)(h h':Vg)(r:UX):Prop:=∃D vs,r= .ref D/\h'.IsList D vs.toArray/\UG vs (s6 ns1 ns2)
noncomputable def T(cx:Cx)(l1:Vf)(l2:Vf)(vs1:List UX)(vs2:List UX)(ns1:List Int)(ns2:List Int):Prop:=CtX cx 3 198 [.ref l1, .ref l2] (Pre cx.w l1 l2 vs1 vs2 ns1 ns2) (Post cx.w l1 l2 vs1 vs2 ns1 ns2)
noncomputable def P9:=V4 fun cx l1 l2 vs1=>U3 fun vs2 ns1 ns2=>T cx l1 l2 vs1 vs2 ns1 ns2
@[irreducible] noncomputable def c:=y6 (by k_extra "ne") P9
@[irreducible] noncomputable def cx:=c.1.1
@[irreducible] noncomputable def l1:=c.1.2.1
@[irreducible] noncomputable def l2:=c.1.2.2.1
@[irreducible] noncomputable def vs1:=c.1.2.2.2
@[irreducible] noncomputable def vs2:=c.2.1
@[irreducible] noncomputable def ns1:=c.2.2.1
@[irreducible] noncomputable def ns2:=c.2.2.2
noncomputable def red:Red cx 3 198 [.ref l1, .ref l2] (Pre cx.w l1 l2 vs1 vs2 ns1 ns2) (Post cx.w l1 l2 vs1 vs2 ns1 ns2):=⟨_,fun hP=>⟨fun hy=>by
 have hP':=hP hy
 clear hP
 obtain⟨B,F,X,T,Se,hk,hd,hu,hpre,hret⟩:=hy
 unfold Pre at hpre
 unfold PR
 revert X;k_fill;intro X
 refine Dp hpre fun hl1 hl2 hi1 hi2 hn1 hn2 hn3 hok0=>?_;clear hpre
 refine TV ?_
 k_dflt (refine' KZ (binds:=[(Ta "one", .ref l1),(Ta "two", .ref l2)]) ?k1 ?k2 ?k3 ?k5 ?kA ?kF ?kK ?k6 ?k7 ?k8 ?k9 ?kB ?kD ?_ ?c2 ?c3 ?c4;(case kA=>exact rfl);(case kF=>exact rfl);(case kK=>assumption);(case k1=>k_asm);(case k2=>k_asm);(case k3=>k_asm);(case k5=>k_asm);(case k6=>k_is);(case k7=>k_is);(case k8=>ktr_room);(case k9=>exact SL rfl);(case kB=>exact rfl);(case kD=>decide+kernel);(case c2=>exact rfl);(case c3=>exact rfl);(case c4=>exact rfl);k_whole)
 exact hP'.get⟩⟩
@[irreducible] noncomputable def cF:Vf×Vg×Nat×List (Vf×Vl):=GW red.P rfl
@[irreducible] noncomputable def L':Vf:=cF.1
@[irreducible] noncomputable def h':Vg:=cF.2.1
@[irreducible] noncomputable def tk':Nat:=cF.2.2.1
@[irreducible] noncomputable def W0:List (Vf×Vl):=cF.2.2.2
@[irreducible] noncomputable def oc1:Vl:=(W0.getD 0 (0,default)).2
@[irreducible] noncomputable def oc2:Vl:=(W0.getD 1 (0,default)).2
@[irreducible] noncomputable def oc3:Vl:=(W0.getD 2 (0,default)).2
@[irreducible] noncomputable def oc4:Vl:=(W0.getD 3 (0,default)).2
inductive I1(k:Nat)(nx:List (Vf×Vl)):Prop
 |mk(D:Vf)(vs:List UX)(ns:List Int)(o1 o2 o3 o4:Vl)(own:List (Vf×Vl))(hD:NX cx.s.heap own D vs)(hi:UG vs ns)(hn:ns.length<100)(hr:s6 ns1 ns2=V1 k ns ns2)(hk:ns.length<=k)(ok:AS k ns ns2)
  (hs:∀p∈(L'+1+1+1+1,o1)::(L'+1+1+1,o2)::(L'+1+1,o3)::(L'+1,o4)::own,p∈nx) (off:OwnOff own [L'+1,L'+1+1,L'+1+1+1,L'+1+1+1+1]) (e3:o3.data= .cell (some (.ref l2))) (e4:o4.data= .cell (some (.ref D))) (e1:∃c1,o1.data= .cell c1) (e2:∃c2,o2.data= .cell c2)
inductive I2(ns:List Int)(oL oS o3:Vl)(k2:Nat)(nx:List (Vf×Vl)):Prop
 |mk(Dx:Vf)(vx:List UX)(xs:List Int)(n:Nat)(o:Vl)(en:nx=[(Dx,listOf vx.toArray n),(L'+1+1+1+1,oL),(L'+1+1+1,oS),(L'+1+1,o3),(L'+1,o)])(ix:UG vx xs)(hst:A6 xs=A6 (z0 ns ns2))(hl:xs.length=k2)(hle:k2<=ns.length-1)
  (d:o.data= .cell (some (.ref Dx))) (q1: @Ne Nat (L'+1) Dx) (q2: @Ne Nat (L'+1+1) Dx) (q3: @Ne Nat (L'+1+1+1) Dx) (q4: @Ne Nat (L'+1+1+1+1) Dx)
theorem walk(hy:HyX cx 3 (Pre cx.w l1 l2 vs1 vs2 ns1 ns2) (Post cx.w l1 l2 vs1 vs2 ns1 ns2)):red.P:=by
 refine Eh (a:=L') (b:=h') (c:=tk') (d:=W0) rfl (by unfold L' cF;rfl) (by unfold h' cF;rfl) (by unfold tk' cF;rfl) (by unfold W0 cF;rfl) ?_
 obtain⟨B,F,X,T,Se,hk,hd,hu,hpre,hret⟩:=hy
 unfold Pre at hpre
 have q9:PR=PR:=rfl
 unfold PR at q9
 revert X q9;k_fill;intro X q9;clear q9
 refine Dp hpre fun hl1 hl2 hi1 hi2 hn1 hn2 hn3 hok0=>?_;clear hpre
 intro F' N' Y' B' X' T'
 k_dflt (have Se':=Qc Se (Fr.keep F);refine Im (CellsAre.four Y') fun oc19 oc29 oc39 oc49 eC d1 d2 d3 d4=>?_;obtain rfl:oc19=oc1:=(by unfold oc1;rw[eC];first|done|rfl);obtain rfl:oc29=oc2:=(by unfold oc2;rw[eC];first|done|rfl);obtain rfl:oc39=oc3:=(by unfold oc3;rw[eC];first|done|rfl);obtain rfl:oc49=oc4:=(by unfold oc4;rw[eC];first|done|rfl);rw[eC] at N';clear Y' eC;(try dsimp only);(try k_lift B');(try k_fold))
 k_steps
 unfold g9
 refine FT [] (fun k u nx=>I1 k nx) F' N' ⟨_,_,_,_,_,_,_,[],fun h Z k=>stays_list k hl1,hi1,hn1,rfl,TA _,hok0,fun Z h=>h,(fun Z h=>nomatch h),d3,d4,⟨_,d1⟩,⟨_,d2⟩⟩ ?_
 (intro k u nx h9 tk9 r0_;obtain⟨D,vs,ns,o1,o2,o3,o4,own,hD,hi,hn,hr,hk',hok,hsub,off,e3,e4,⟨c1,e1⟩,⟨c2,e2⟩⟩:=r0_;intro F9 N9)
 replace N9:=UM N9 hsub
 simp only[pick] at F9
 k_steps
 ·unfold g9
  refine TT (Q:=NQ cx.s.heap L' (Ni F9) ns ns2 o3 o4 own cx.s) ?walk ?rest (fun Z Z e=>e)
  case walk=>
   k_steps
   ·rename_i hgt t1 D6 h66 l6 h65 h64 oS dS h63 oL F6 N6 dL
    rw[GI] at dS
    exact⟨rfl,_,_,oS,oL,_,_,rfl,F6,UM N6 (fun p hp=>by walk_at "mem"),dS,by unfold Ey;rw[if_pos (by exact hgt)];exact dL⟩
   ·rename_i hgt t1 h66 tk66 k66 t66 D6 h67 l6 h65 h64 oS dS h63 oL F6 N6 dL
    rw[GI] at dS
    exact⟨rfl,_,_,oS,oL,_,_,rfl,F6,UM N6 (fun p hp=>by walk_at "mem"),dS,by unfold Ey;rw[if_neg (by exact hgt)];exact dL⟩
  (intro _ _ r0_;obtain⟨rfl,h6,tk6,oS,oL,t1,t2,rfl,F6,N6,dS,dL⟩:=r0_)
  dsimp only[Ni] at F6
  dsimp only
  rename_i hle9
  obtain⟨k,rfl⟩:∃k',k=k'+1:=⟨k-1,by lia⟩
  refine oA (hok (by lia)) fun hmul hok'=>?_
  have hr':s6 ns1 ns2=V1 k (A6 (z0 ns ns2)) ns2:=by rw[hr,V1,if_neg (by lia)]
  k_steps
  unfold g9
  refine j5 (h₀:=cx.s.heap) (L:=L') (by with_unfolding_all rfl) (by decide) (by with_unfolding_all rfl) (by decide) (by intro _;with_unfolding_all rfl) ?_
  k_steps
  unfold g9
  rename_i h62 tk62 t62 u62 v62 R62 F5 N5 k62
  refine BU (n:=((ns.length:Int)-1).toNat) (fun i Z Z y=>∃t,y= .int (MM ns ns2 i) t) rfl R62 (small_one (by lia) (by lia) (by lia) (by lia)) (rangeSize_nat _ _) (by rw[Tz];lia) (by with_unfolding_all rfl) (by with_unfolding_all rfl) F5 N5 ?elts ?fin
  case elts=>
   rintro i t C oC u H tk rest E' hi9 hO hu F8 N8
   have e1:((1:Int)+(i:Int)).toNat=i+1:=zIa i
   k_with "pre"=>first|exact OP hmul hn2 (by lia)|exact ON hmul (by lia) (by lia)
   k_steps
   all_goals(
    rename News _ _ _ _=>N9
    refine j3.intro (by k_asm) N9 (fun p hp=>by walk_at "mem") ⟨_,congrArg (fun z=>Ur z _) ?_⟩
    unfold MM
    rw[e1]
    first|(rw[if_pos (by lia)];rfl)|(rw[if_neg (by lia)]))
  case fin=>
   (intro _ r0_;(refine oEE r0_ fun Z Z o0_=>?_;clear r0_;obtain rfl:=o0_);intro D7 ys k7 h7 tk7 F7 N7 O7 P7)
   have I7:UG ys (z0 ns ns2):=by
    have e:((ns.length:Int)-1).toNat=ns.length-1:=zIm _
    have:=g8 P7
    rw[e] at this;exact this
   have q1:=neN (O7 (L'+1,o4) (by walk_at "mem"))
   have q2:=neN (O7 (L'+1+1,o3) (by walk_at "mem"))
   have q3:=neN (O7 (L'+1+1+1,oS) (by walk_at "mem"))
   have q4:=neN (O7 (L'+1+1+1+1,oL) (by walk_at "mem"))
   k_steps
   unfold g9
   rename_i h8 o8 F8 N8 d8
   refine FT [] (fun k2 u nx=>I2 ns oL oS o3 k2 nx) F8 (UM N8 ?sub8) ⟨_,_,_,k7,_,rfl,I7,rfl,rfl,Tn (V0 _ _),d8,q1,q2,q3,q4⟩ ?_
   case sub8=>intro p hp;simp only[SH,RE,or_false] at hp;rcases hp with rfl|rfl|rfl|rfl|rfl <;> walk_at "mem"
   (intro k2 u2 nx2 h10 tk10 r0_;obtain⟨Dx,vx,xs,nn,o10,rfl,Ix,hst,rfl,hle,d10,q1,q2,q3,q4⟩:=r0_;intro F10 N10)
   simp only[pick] at F10
   k_steps
   ·rename_i a1 _ _ t1 a2 D11 w11 h11 I11 c11 c12 l11 h12 o12 F12 N12 d12
    refine WhileStep.intro F12 (news₂:=[(D11,listOf w11.toArray 0),(L'+1+1+1+1,oL),(L'+1+1+1,oS),(L'+1+1,o3),(L'+1,o12)]) (UM N12 ?sub9) (n':=(xs.drop 1).length) (by lia) ⟨O4.refl,D11,w11,xs.drop 1,0,o12,rfl,I11,?strip,rfl,by lia,d12,by lia,by lia,by lia,by lia⟩
    case sub9=>intro p hp;simp only[SH,RE,or_false] at hp;rcases hp with rfl|rfl|rfl|rfl|rfl <;> walk_at "mem"
    case strip=>rw[←hst];exact Fc a1 a2
   all_goals(
    have hx:A6 xs=xs:=by first|exact HP (by assumption) (by assumption)|(rw[PQ (show xs.length=0 by lia)];rfl)
    refine WhileStep.intro F10 (news₂:=[(Dx,listOf vx.toArray nn),(L'+1+1+1+1,oL),(L'+1+1+1,oS),(L'+1+1,o3),(L'+1,o10)]) N10 (n':=k) (RC _) ⟨O4.refl,Dx,vx,xs,oL,oS,o3,o10,[(Dx,listOf vx.toArray nn)],fun h k Z=>(Fq _ (k _ (.head _)) rfl nn rfl),Ix,by lia,by rw[hr', ←hst,hx],by lia,by rw[←hst,hx] at hok';exact hok',fun p hp=>?_,fun p hp b hb=>?_,e3,d10,⟨_,dL⟩,⟨_,dS⟩⟩
    ·simp only[SH,RE,or_false] at hp
     rcases hp with rfl|rfl|rfl|rfl|rfl <;> walk_at "mem"
    ·obtain rfl:=QQ.mp hp
     simp only[SH,RE,or_false] at hb
     rcases hb with rfl|rfl|rfl|rfl <;> (refine Ne.symm ?_;assumption))
 ·refine Lv.intro F9 ?_;intro kp;exact hret _ _ _ kp (H5 D vs rfl (hD.at F9 N9 (fun p hp=>by walk_at "mem")) (by rw[hr,GU (by lia)];exact hi))
end Lm
theorem Ie(l1 l2:Vf)(vs1 vs2:List UX)(ns1 ns2:List Int):Ct w loose mean mg mb 3 198 [.ref l1, .ref l2] (fun h=>h.IsList l1 vs1.toArray/\h.IsList l2 vs2.toArray/\UG vs1 ns1/\UG vs2 ns2/\ns1.length<100/\0<ns2.length/\ns2.length<100/\AS ns1.length ns1 ns2) (fun h h' r=>∃D vs,r= .ref D/\h'.IsList D vs.toArray/\UG vs (s6 ns1 ns2)):=
 CtX.ct (Pre:=fun w=>Lm.Pre w l1 l2 vs1 vs2 ns1 ns2) (Post:=fun w=>Lm.Post w l1 l2 vs1 vs2 ns1 ns2) fun cx9=>show Lm.T cx9 l1 l2 vs1 vs2 ns1 ns2 from f7 (P:=Lm.P9) (c:=Lm.c) (by with_unfolding_all rfl) (by with_unfolding_all exact Lm.red.of fun y=>⟨Lm.walk y⟩) ((cx9,l1,l2,vs1),(vs2,ns1,ns2))
end
end Mine
end
section
open PySem PySem.W PySem.Calls PyProof.Rows
namespace Mine
theorem S.gCh:True:=trivial
open S (sK0 sK1 sK5 gCh)
theorem Pr:True:=by
 k_with "call ref"=>(guard_expr gCh=ₛ gCh;(k_here;k_dflt (first|(refine' Aw (Er _ _) ?u1 ?u2 ?u3 ?u4 ?u5 ?u6 ?u7 ?u8 ?u9 ?uA ?_;(case u1=>k_asm);(case u2=>k_asm);(case u3=>k_asm);(case u4=>k_asm);(case u5=>k_asm);(case u6=>k_asm);(case u7=>first|exact rfl|assumption);(case u8=>ktr_room);(case u9=>ktr_units);(case uA=>first|trivial|assumption|k_extra "pre");k_whole;intro _ _ _ _ _ _;(try dsimp only);(try k_fold))|(refine' KC (Mv _ _ _) ?u1 ?u2 ?u3 ?u4 ?u5 ?u6 ?u7 ?u8 ?u9 ?uA ?_;(case u1=>k_asm);(case u2=>k_asm);(case u3=>k_asm);(case u4=>k_asm);(case u5=>k_asm);(case u6=>k_asm);(case u7=>first|exact rfl|assumption);(case u8=>ktr_room);(case u9=>ktr_units);(case uA=>first|trivial|assumption|k_extra "pre");k_whole;intro _ _ _ _ _ _ _ O9 I9;(first|(have q9:=neN (O9 _ (SI _));dsimp only at q9;revert O9 I9 q9;intro _ _ _)|(revert O9 I9;intro _ _));(try dsimp only);(try k_fold))|(refine' useR (Ie _ _ _ _ _ _) ?u1 ?u2 ?u3 ?u4 ?u5 ?u6 ?u7 ?u8 ?u9 ?uA ?_;(case u1=>k_asm);(case u2=>k_asm);(case u3=>k_asm);(case u4=>k_asm);(case u5=>k_asm);(case u6=>k_asm);(case u7=>first|exact rfl|assumption);(case u8=>ktr_room);(case u9=>ktr_units);(case uA=>first|trivial|assumption|k_extra "pre");k_whole;intro _ _ _ _ _ _ _ _ _;(try dsimp only);(try k_fold)))))
 k_with "truthy ref"=>(guard_expr gCh=ₛ gCh;refine wpAny_truthy_list (by assumption) (by k_extra "fit") ?_)
 k_with "call builtin:list.append"=>(guard_expr gCh=ₛ gCh;(k_here;k_dflt (refine' append_K ?k1 ?k2 ?k3 ?_ ?z;(case k1=>k_asm);(case k2=>k_asm);(case k3=>k_upd);(case z=>k_extra "size");k_whole);intro _ _ _))
 k_with "subscriptTail"=>(guard_expr gCh=ₛ gCh;first|(refine Gj (by assumption) ?_ (by with_unfolding_all rfl))|(refine Hf (by assumption) ?_ (by with_unfolding_all rfl)))
 trivial
noncomputable def J6:Nat->List Int->List Int->List (List Int)
 |0,_,_=>[]
 |k+1,prev,cur=>if cur.length=0 then [] else s8 cur::J6 k (s8 cur) ((s6 prev (s8 cur)).map (- ·))
noncomputable def E7(first rest:List Int):List (List Int):=first::J6 rest.length first rest
noncomputable def W8:Nat->List Int->List Int->Prop
 |0,_,_=>True
 |k+1,prev,cur=>0<cur.length->(∃x∈cur,x≠0)/\prev.length<100/\AS prev.length prev (s8 cur)/\(s6 prev (s8 cur)).length<cur.length/\W8 k (s8 cur) ((s6 prev (s8 cur)).map (- ·))
noncomputable def LK(h₀:Vg)(rows:List (Vf×Vl))(r:Vf)(vs:List UX):Prop:=h₀.IsList r vs.toArray\/∃n,(r,listOf vs.toArray n)∈rows
theorem LK.at{h₀ h:Vg}{L r:Vf}{m:Vk->Option UX}{rows:List (Vf×Vl)}{vs:List UX}(x:LK h₀ rows r vs)(F:Fr h₀ L h m)(N:News h₀ L h rows):h.IsList r vs.toArray:=by
 rcases x with x|⟨n,x⟩
 ·exact stays_list F.keep x
 ·exact isL N x
theorem LK.mono{h₀:Vg}{r:Vf}{rows rows':List (Vf×Vl)}{vs:List UX}(x:LK h₀ rows r vs)(hs:∀p∈rows,p∈rows'):LK h₀ rows' r vs:=x.imp id (TZ fun n h=>hs _ h)
noncomputable def Jq(h₀:Vg)(rows:List (Vf×Vl))(v:UX)(ns:List Int):Prop:=∃r vs,v= .ref r/\LK h₀ rows r vs/\UG vs ns
theorem Jq.mono{h₀:Vg}{rows rows':List (Vf×Vl)}(hs:∀p∈rows,p∈rows')(v:UX)(ns:List Int)(x:Jq h₀ rows v ns):Jq h₀ rows' v ns:=by
 refine M3 x fun r vs e l i=>?_;clear x
 exact(H5 r vs e (l.mono hs) i)
section
variable{prog:UF}{w:Va}{A:UP}{E:UX->UO->Prop}{s:UO}
theorem Gj{D:Vf}{pre:List UX}{x:UX}{t:Vm}{value slice:Vh}{Q:UX->UO->Prop}(hl:s.heap.IsList D (pre++[x]).toArray)(h:Q x s)
  (hs:subscripted slice false (.ref D) (.int (-1) t)=operate [.ref D, .int (-1) t] (getItem (.ref D) (.int (-1) t))):UY (UZ prog w) A (subscriptTail value slice (.ref D) (.int (-1) t)) Q E s:=by
 refine tail_any hl.typeIs slot_list_getitem.lookup (wpAny_getItem_list_neg (x:=x) hl (by decide) ?_ (by decide) ?_ h) hs
 ·simp only[Rp,QU,RB,RX];lia
 ·have e:(-1+(((pre++[x]).toArray.size:Nat):Int)).toNat=pre.length:=by simp only[Rp,QU,RB,RX];lia
  rw[e];simp
theorem Hf{D:Vf}{pre:List UX}{x y:UX}{t:Vm}{value slice:Vh}{Q:UX->UO->Prop}(hl:s.heap.IsList D (pre++[x]++[y]).toArray)(h:Q x s)
  (hs:subscripted slice false (.ref D) (.int (-2) t)=operate [.ref D, .int (-2) t] (getItem (.ref D) (.int (-2) t))):UY (UZ prog w) A (subscriptTail value slice (.ref D) (.int (-2) t)) Q E s:=by
 refine tail_any hl.typeIs slot_list_getitem.lookup (wpAny_getItem_list_neg (x:=x) hl (by decide) ?_ (by decide) ?_ h) hs
 ·simp only[Rp,QU,RB,RX];lia
 ·have e:(-2+(((pre++[x]++[y]).toArray.size:Nat):Int)).toNat=pre.length:=by simp only[Rp,QU,RB,RX];lia
  rw[e];simp
end
section
variable{w:Va}{loose:List Vk}{mean:UH->Option UX}{mg mb:Vk->Option UX}
namespace Lk
noncomputable def Pre(w:Va)(l1 l2:Vf)(vs1 vs2:List UX)(ns1 ns2:List Int)(h:Vg):Prop:=h.IsList l1 vs1.toArray/\h.IsList l2 vs2.toArray/\UG vs1 ns1/\UG vs2 ns2/\ns2.length<50/\W8 ns2.length ns1 ns2
noncomputable def Post(w:Va)(l1 l2:Vf)(vs1 vs2:List UX)(ns1 ns2:List Int)(h h':Vg)(r:UX):Prop:=∃rs,U1 h h' r rs/\Paired (fun v ns=>∃r vs,v= .ref r/\h'.IsList r vs.toArray/\UG vs ns) rs (E7 ns1 ns2)
noncomputable def T(cx:Cx)(l1:Vf)(l2:Vf)(vs1:List UX)(vs2:List UX)(ns1:List Int)(ns2:List Int):Prop:=CtX cx 105 208 [.ref l1, .ref l2] (Pre cx.w l1 l2 vs1 vs2 ns1 ns2) (Post cx.w l1 l2 vs1 vs2 ns1 ns2)
noncomputable def P9:=V4 fun cx l1 l2 vs1=>U3 fun vs2 ns1 ns2=>T cx l1 l2 vs1 vs2 ns1 ns2
@[irreducible] noncomputable def c:=y6 (by k_extra "ne") P9
@[irreducible] noncomputable def cx:=c.1.1
@[irreducible] noncomputable def l1:=c.1.2.1
@[irreducible] noncomputable def l2:=c.1.2.2.1
@[irreducible] noncomputable def vs1:=c.1.2.2.2
@[irreducible] noncomputable def vs2:=c.2.1
@[irreducible] noncomputable def ns1:=c.2.2.1
@[irreducible] noncomputable def ns2:=c.2.2.2
noncomputable def red:Red cx 105 208 [.ref l1, .ref l2] (Pre cx.w l1 l2 vs1 vs2 ns1 ns2) (Post cx.w l1 l2 vs1 vs2 ns1 ns2):=⟨_,fun hP=>⟨fun hy=>by
 have hP':=hP hy
 clear hP
 obtain⟨B,F,X,T,Se,hk,hd,hu,hpre,hret⟩:=hy
 unfold Pre at hpre
 unfold PR
 revert X;k_fill;intro X
 refine Ep hpre fun hl1 hl2 hi1 hi2 hn2 hok=>?_;clear hpre
 refine TV ?_
 k_dflt (refine' enter (binds:=[(Ta "first", .ref l1),(Ta "rest", .ref l2)]) ?k1 ?k2 ?k3 ?k5 ?kA ?kF ?kK ?k6 ?k7 ?k8 ?k9 ?kB ?_ ?c2 ?c3 ?c4 ?c5;(case kA=>exact rfl);(case kF=>exact rfl);(case kK=>assumption);(case k1=>k_asm);(case k2=>k_asm);(case k3=>k_asm);(case k5=>k_asm);(case k6=>k_is);(case k7=>k_is);(case k8=>ktr_room);(case k9=>exact SL rfl);(case c5=>decide);(case kB=>exact locs rfl);(case c2=>exact rfl);(case c3=>exact rfl);(case c4=>exact rfl);k_whole)
 exact hP'.get⟩⟩
@[irreducible] noncomputable def cF:Vf×Vg:=Dl red.P rfl
@[irreducible] noncomputable def L':Vf:=cF.1
@[irreducible] noncomputable def h':Vg:=cF.2
inductive I1(D:Vf)(k:Nat)(u:Vk->Option UX)(nx:List (Vf×Vl)):Prop
 |mk(n:Nat)(pre:List UX)(b:Vf)(vb:List UX)(Ls:List (List Int))(prev:List Int)(e9:Vf)(vE:List UX)(cur:List Int)(rows:List (Vf×Vl))(hu:u (Ta "rest")=some (.ref e9))(en:nx=(D,listOf (pre++[Ul b]).toArray n)::rows)(off:∀p∈rows,p.1≠D)(hP:Paired (Jq cx.s.heap rows) (pre++[Ul b]) Ls)
  (hb:LK cx.s.heap rows b vb) (ib:UG vb prev) (hE:LK cx.s.heap rows e9 vE) (iE:UG vE cur) (hc:E7 ns1 ns2=Ls++J6 k prev cur) (ok:W8 k prev cur) (hl:cur.length<=k) (hk:k<50) (hL:Ls.length+k<60)
theorem walk(hy:HyX cx 105 (Pre cx.w l1 l2 vs1 vs2 ns1 ns2) (Post cx.w l1 l2 vs1 vs2 ns1 ns2)):red.P:=by
 refine J2 (a:=L') (b:=h') rfl (by unfold L' cF;rfl) (by unfold h' cF;rfl) ?_
 obtain⟨B,F,X,T,Se,hk,hd,hu,hpre,hret⟩:=hy
 unfold Pre at hpre
 have q9:PR=PR:=rfl
 unfold PR at q9
 revert X q9;k_fill;intro X q9;clear q9
 refine Ep hpre fun hl1 hl2 hi1 hi2 hn2 hok=>?_;clear hpre
 intro F' N' B' X' T'
 k_dflt (have Se':=Qc Se (Fr.keep F);(try dsimp only);(try k_lift B');(try k_fold))
 k_steps
 unfold g9
 rename_i D h1 _ h2 F2 N2
 refine FT [Ta "rest"] (fun k u nx=>I1 D k u nx) F2 N2
  ⟨0,[],l1,vs1,[ns1],ns1,l2,vs2,ns2,[],rfl,rfl,(fun Z h=>nomatch h), .cons (H5 l1 vs1 rfl (.inl hl1) hi1) .nil, .inl hl1,hi1, .inl hl2,hi2,rfl,hok,TA _,hn2,by simp;lia⟩ ?_
 (intro k u nx h9 tk9 r0_;obtain⟨n,pre,b,vb,Ls,prev,e9,vE,cur,rows,hrest,rfl,off,hP,hb,ib,hE,iE,hc,hok9,hlen,hk9,hL9⟩:=r0_;intro F9 N9)
 simp only[pick,hrest] at F9
 have hE9:=hE.at F9 (UM N9 (fun p hp=> .tail _ hp))
 have hPl:=hP.length
 k_with "fit"=>(rw[Rp,iE.length];lia)
 k_with "size"=>(rw[Tz,Rp];lia)
 k_steps
 ·rename_i a1
  have hcl:cur.length=0:=by
   rw[←iE.length]
   cases vE with
   |nil=>rfl
   |cons x l=>simp at a1
  have hcF:J6 k prev cur=[]:=by
   cases k with
   |zero=>rfl
   |succ k=>rw[J6,if_pos hcl]
  rw[hcF,Sj] at hc
  refine Lv.intro F9 ?_;intro kp
  exact hret _ _ _ kp ⟨pre++[Ul b],(H5 D n rfl ((N9 _ (.head _)).1) ((N9 _ (.head _)).2.2)),hc ▸ Paired.mono (fun v ns x=>M3 x fun r vs e l i=>(H5 r vs e (l.at F9 (UM N9 fun p hp=> .tail _ hp)) i)) hP⟩
 ·rename_i a1 _ _
  have hcl:0<cur.length:=by
   cases q:cur.length with
   |zero=>rw[←iE.length] at q;simp[PQ q] at a1
   |succ j=>lia
  obtain⟨k,rfl⟩:∃k',k=k'+1:=⟨k-1,by lia⟩
  refine X4 (hok9 hcl) fun hx hpl hro hlt hok'=>?_
  k_with "pre"=>(refine(Js ?q0 ?q1 ?q2 ?q3);(case q0=>exact hE9);(case q1=>exact iE);(case q2=>lia);(case q3=>exact hx))
  k_steps
  unfold g9
  rename_i D6 v6 n6 _ _ _ _ O6 I6 q6 h6 F6 N6
  simp only[List.push_toArray] at N6
  have hrows:∀p∈rows,p∈(D6,listOf v6.toArray n6)::rows:=fun p hp=> .tail _ hp
  have hsub6:∀p∈(D6,listOf v6.toArray n6)::rows,p∈(D6,listOf v6.toArray n6)::(D,listOf (pre++[Ul b]++[Ul D6]).toArray (n+1))::rows:=fun p hp=>by
   rcases SH.mp hp with rfl|hp
   ·exact .head _
   ·exact .tail _ (.tail _ hp)
  have hb6:h6.IsList b vb.toArray:=hb.at F6 (UM N6 fun p hp=> .tail _ (.tail _ hp))
  have hD6:h6.IsList D6 v6.toArray:=isL N6 (.head _)
  have hDc:h6.IsList D (pre++[Ul b]++[Ul D6]).toArray:=isL N6 (.tail _ (.head _))
  k_with "pre"=>(refine⟨?q0,?q1,?q2,?q3,?q4,?q5,?q6,?q7⟩;(case q0=>exact hb6);(case q1=>exact hD6);(case q2=>exact ib);(case q3=>exact I6);(case q4=>exact hpl);(case q5=>(rw[show(s8 cur).length=cur.length from RT _];lia));(case q6=>(rw[show(s8 cur).length=cur.length from RT _];lia));(case q7=>exact hro))
  refine wpK.any ?_
  refine v9 (h₀:=cx.s.heap) (by with_unfolding_all rfl) (by with_unfolding_all rfl) (by decide) (by with_unfolding_all rfl) (by decide) (by intro _;with_unfolding_all rfl) (by with_unfolding_all rfl) (by with_unfolding_all rfl) ?_
  k_steps
  unfold g9
  rename_i h7 tk7 F7 N7 K7 DR vR hLR hIR
  have hlR:(s6 prev (s8 cur)).length<50:=by lia
  refine y2 (fun i Z Z y=>∃t,y= .int (-(s6 prev (s8 cur)).getD i 0) t) rfl hLR (by rw[hIR.length,Tz];lia) (by with_unfolding_all rfl) (by with_unfolding_all rfl) F7 N7 (Dr F7 hLR) ?elts ?fin
  case elts=>
   rintro i v C oC u H tk rest E' hv hO hu F8 N8
   (refine y8 (n5 hIR hv) fun r t hr o0_=>?_;obtain rfl:=o0_)
   have hr':=v4 hr
   simp only[RG,Sb] at N8
   k_steps
   rename News _ _ _ _=>N9
   exact j3.intro (by k_asm) N9 (fun p hp=>by repeat(first|exact hp|exact RS.mpr (.inr hp)|apply List.Mem.tail)) ⟨_,by rw[hr']⟩
  case fin=>
   (intro _ r0_;(refine oEE r0_ fun Z Z o0_=>?_;clear r0_;obtain rfl:=o0_);intro D8 ys k8 h8 tk8 F8 N8 O8 P8)
   have I8:UG ys ((s6 prev (s8 cur)).map (- ·)):=by
    have:=g8 P8
    rw[hIR.length,j6 (fun x=> -x)] at this
    exact this
   rintro h9 tk9 F9 N9
   k_steps
   refine WhileStep.intro F9 (news₂:=(D,listOf (pre++[Ul b]++[Ul D6]).toArray (n+1))::(D8,listOf ys.toArray k8)::(D6,listOf v6.toArray n6)::rows) (UM N9 ?sub) (RC k)
    ⟨?same,n+1,pre++[Ul b],D6,v6,Ls++[s8 cur],s8 cur,D8,ys,(s6 prev (s8 cur)).map (- ·),(D8,listOf ys.toArray k8)::(D6,listOf v6.toArray n6)::rows,rfl,rfl,?off,?rows, .inr ⟨n6, .tail _ (.head _)⟩,I6, .inr ⟨k8, .head _⟩,I8,?chain,hok',?len,by lia,?len2⟩
   case sub=>
    intro p hp
    rcases SH.mp hp with rfl|hp
    ·exact .tail _ (.tail _ (.head _))
    ·rcases SH.mp hp with rfl|hp
     ·exact .head _
     ·rcases SH.mp hp with rfl|hp
      ·exact .tail _ (.head _)
      ·exact .tail _ (.tail _ (.tail _ hp))
   case same=>intro y hy;simp only[QQ] at hy;simp only[hy,if_false]
   case off=>
    intro p hp
    rcases SH.mp hp with rfl|hp
    ·exact Ne.symm (O8 (D,_) (.tail _ (.head _)))
    ·rcases SH.mp hp with rfl|hp
     ·exact Ne.symm q6
     ·exact off p hp
   case rows=>exact Paired.snoc (Paired.mono (fun v ns=>Jq.mono (fun p hp=> .tail _ (.tail _ hp)) v ns) hP) (H5 D6 v6 rfl (.inr ⟨n6, .tail _ (.head _)⟩) I6)
   case chain=>
    rw[hc,J6,if_neg (by lia)]
    simp
   case len=>rw[RT];lia
   case len2=>simp only[QU,RB,RX];lia
end Lk
theorem Kp(l1 l2:Vf)(vs1 vs2:List UX)(ns1 ns2:List Int):Ct w loose mean mg mb 105 208 [.ref l1, .ref l2] (fun h=>h.IsList l1 vs1.toArray/\h.IsList l2 vs2.toArray/\UG vs1 ns1/\UG vs2 ns2/\ns2.length<50/\W8 ns2.length ns1 ns2) (fun h h' r=>∃rs,U1 h h' r rs/\Paired (fun v ns=>∃r vs,v= .ref r/\h'.IsList r vs.toArray/\UG vs ns) rs (E7 ns1 ns2)):=
 CtX.ct (Pre:=fun w=>Lk.Pre w l1 l2 vs1 vs2 ns1 ns2) (Post:=fun w=>Lk.Post w l1 l2 vs1 vs2 ns1 ns2) fun cx9=>show Lk.T cx9 l1 l2 vs1 vs2 ns1 ns2 from f7 (P:=Lk.P9) (c:=Lk.c) (by with_unfolding_all rfl) (by with_unfolding_all exact Lk.red.of fun y=>⟨Lk.walk y⟩) ((cx9,l1,l2,vs1),(vs2,ns1,ns2))
end
end Mine
end
section
open PySem PySem.W PySem.Calls PyProof.Rows
namespace Mine
theorem S.gVl:True:=trivial
open S (sK0 gVl)
theorem Pm:True:=by
 k_with "call ref"=>(guard_expr gVl=ₛ gVl;(k_here;k_dflt (first|(refine' Aw (Et _ _ _ _) ?u1 ?u2 ?u3 ?u4 ?u5 ?u6 ?u7 ?u8 ?u9 ?uA ?_;(case u1=>k_asm);(case u2=>k_asm);(case u3=>k_asm);(case u4=>k_asm);(case u5=>k_asm);(case u6=>k_asm);(case u7=>first|exact rfl|assumption);(case u8=>ktr_room);(case u9=>ktr_units);(case uA=>first|trivial|assumption|k_extra "pre");k_whole;intro _ _ _ _ _ _;(try dsimp only);(try k_fold))|(refine' Aw (Jm _ _ _ _) ?u1 ?u2 ?u3 ?u4 ?u5 ?u6 ?u7 ?u8 ?u9 ?uA ?_;(case u1=>k_asm);(case u2=>k_asm);(case u3=>k_asm);(case u4=>k_asm);(case u5=>k_asm);(case u6=>k_asm);(case u7=>first|exact rfl|assumption);(case u8=>ktr_room);(case u9=>ktr_units);(case uA=>first|trivial|assumption|k_extra "pre");k_whole;intro _ _ _ _ _ _;(try dsimp only);(try k_fold))|(refine' Aw (IE _ _ _ _) ?u1 ?u2 ?u3 ?u4 ?u5 ?u6 ?u7 ?u8 ?u9 ?uA ?_;(case u1=>k_asm);(case u2=>k_asm);(case u3=>k_asm);(case u4=>k_asm);(case u5=>k_asm);(case u6=>k_asm);(case u7=>first|exact rfl|assumption);(case u8=>ktr_room);(case u9=>ktr_units);(case uA=>first|trivial|assumption|k_extra "pre");k_whole;intro _ _ _ _ _ _;(try dsimp only);(try k_fold)))))
 trivial
noncomputable def EX(row:List Int)(twice:Int)(v:Int)(k:Nat):Int:=v*twice+row.getD k 0*2 ^ k
noncomputable def M0(row:List Int)(twice:Int)(m:Nat):Int:=(TS m).foldl (EX row twice) 0
noncomputable def i0(row:List Int)(twice:Int):Int:=M0 row twice row.length
theorem AM(row:List Int)(twice:Int)(m:Nat):M0 row twice (m+1)=EX row twice (M0 row twice m) m:=by simp[M0,Sa]
section
variable{w:Va}{loose:List Vk}{mean:UH->Option UX}{mg mb:Vk->Option UX}
namespace Lj
noncomputable def Pre(w:Va)(l:Vf)(vs:List UX)(ns:List Int)(x:Int)(t:Vm)(h:Vg):Prop:=h.IsList l vs.toArray/\UG vs ns/\ns.length<100/\(-(2 ^ 60)<x/\x<2 ^ 60)/\∀y∈ns,QE y<=2 ^ 26
noncomputable def Post(w:Va)(l:Vf)(vs:List UX)(ns:List Int)(x:Int)(t:Vm)(h h':Vg)(r:UX):Prop:=∃t,r= .int (i0 ns x) t
noncomputable def T(cx:Cx)(l:Vf)(vs:List UX)(ns:List Int)(x:Int)(t:Vm):Prop:=CtX cx 2 215 [.ref l, .int x t] (Pre cx.w l vs ns x t) (Post cx.w l vs ns x t)
noncomputable def P9:=V4 fun cx l vs ns=>U2 fun x t=>T cx l vs ns x t
@[irreducible] noncomputable def c:=y6 (by k_extra "ne") P9
@[irreducible] noncomputable def cx:=c.1.1
@[irreducible] noncomputable def l:=c.1.2.1
@[irreducible] noncomputable def vs:=c.1.2.2.1
@[irreducible] noncomputable def ns:=c.1.2.2.2
@[irreducible] noncomputable def x:=c.2.1
@[irreducible] noncomputable def t:=c.2.2
noncomputable def red:Red cx 2 215 [.ref l, .int x t] (Pre cx.w l vs ns x t) (Post cx.w l vs ns x t):=⟨_,fun hP=>⟨fun hy=>by
 have hP':=hP hy
 clear hP
 obtain⟨B,F,X,T,Se,hk,hd,hu,hpre,hret⟩:=hy
 unfold Pre at hpre
 unfold PR
 revert X;k_fill;intro X
 refine X4 hpre fun hl hi hn hx hb=>?_;clear hpre
 refine TV ?_
 k_dflt (refine' enter (binds:=[(Ta "row", .ref l),(Ta "twice", .int x t)]) ?k1 ?k2 ?k3 ?k5 ?kA ?kF ?kK ?k6 ?k7 ?k8 ?k9 ?kB ?_ ?c2 ?c3 ?c4 ?c5;(case kA=>exact rfl);(case kF=>exact rfl);(case kK=>assumption);(case k1=>k_asm);(case k2=>k_asm);(case k3=>k_asm);(case k5=>k_asm);(case k6=>k_is);(case k7=>k_is);(case k8=>ktr_room);(case k9=>exact SL rfl);(case c5=>decide);(case kB=>exact locs rfl);(case c2=>exact rfl);(case c3=>exact rfl);(case c4=>exact rfl);k_whole)
 exact hP'.get⟩⟩
@[irreducible] noncomputable def cF:Vf×Vg:=Dl red.P rfl
@[irreducible] noncomputable def L':Vf:=cF.1
@[irreducible] noncomputable def h':Vg:=cF.2
theorem walk(hy:HyX cx 2 (Pre cx.w l vs ns x t) (Post cx.w l vs ns x t)):red.P:=by
 refine J2 (a:=L') (b:=h') rfl (by unfold L' cF;rfl) (by unfold h' cF;rfl) ?_
 obtain⟨B,F,X,T,Se,hk,hd,hu,hpre,hret⟩:=hy
 unfold Pre at hpre
 have q9:PR=PR:=rfl
 unfold PR at q9
 revert X q9;k_fill;intro X q9;clear q9
 refine X4 hpre fun hl hi hn hx hb=>?_;clear hpre
 intro F' N' B' X' T'
 k_dflt (have Se':=Qc Se (Fr.keep F);(try dsimp only);(try k_lift B');(try k_fold))
 k_steps
 unfold g9
 rename_i F1 N1 tk1 _ _ h2 tk2 t2 u2 v2 R2 F2 N2 k2
 refine KL (n:=ns.length) [Ta "value",Ta "k"] (fun i u nx=>∃t,u (Ta "value")=some (.int (M0 ns x i) t)/\nx=[]) rfl R2 (small_one (by omega) (by omega) (by omega) (by omega)) (rangeSize_nat _ _) F2 N2 (iEA _ rfl rfl) ?turn ?done
 case turn=>
  (intro i t9 u9 nx h9 tk9 own hi9 ho r0_;(refine oEA r0_ fun tv hval o0_=>?_;clear r0_;obtain rfl:=o0_);intro F8 N8)
  simp only[pick,hval] at F8
  simp only[Sb] at N8
  have e1:((0:Int)+(i:Int)).toNat=i:=zI0 i
  have hg:=hb _ (A8 (l:=ns) (i:=i) (by omega))
  have hg2:=ib27 hg (i:=i) (n:=ns.length) (by omega) (by omega)
  k_with "pre"=>first|exact Rv (SU (by omega) (by omega))|exact⟨by omega,by rw[e1];omega⟩
  k_steps
  rename News _ _ _ _=>N7
  rename Fr _ _ _ _=>F7
  refine SY (nx:=[]) F7 N7 (OT ?same ?w ?val rfl) (fun p hp b hb=>nomatch hb) (fun p hp=>nomatch hp) (fun p hp=>hp)
  case same=>intro y hy;simp only[SH,RE,or_false,not_or] at hy;simp only[hy.1,hy.2,if_false]
  case val=>
   have e2:M0 ns x (i+1)=M0 ns x i*x+ns.getD (0+(i:Int)).toNat 0*2 ^ (0+(i:Int)).toNat:=by rw[AM,e1];rfl
   exact congrArg (fun z=>some (Ur z _)) e2.symm
 case done=>
  (intro u11 nx11 h11 tk11 r0_;(refine oEA r0_ fun tv hval o0_=>?_;clear r0_;obtain rfl:=o0_);intro F11 N11)
  simp only[pick,hval] at F11
  k_steps
  all_goals(refine Lv.intro F11 ?_;intro kp;exact hret _ _ _ kp ⟨_,rfl⟩)
end Lj
theorem FV(l:Vf)(vs:List UX)(ns:List Int)(x:Int)(t:Vm):Ct w loose mean mg mb 2 215 [.ref l, .int x t] (fun h=>h.IsList l vs.toArray/\UG vs ns/\ns.length<100/\(-(2 ^ 60)<x/\x<2 ^ 60)/\∀y∈ns,QE y<=2 ^ 26) (fun h h' r=>∃t,r= .int (i0 ns x) t):=
 CtX.ct (Pre:=fun w=>Lj.Pre w l vs ns x t) (Post:=fun w=>Lj.Post w l vs ns x t) fun cx9=>show Lj.T cx9 l vs ns x t from f7 (P:=Lj.P9) (c:=Lj.c) (by with_unfolding_all rfl) (by with_unfolding_all exact Lj.red.of fun y=>⟨Lj.walk y⟩) ((cx9,l,vs,ns),(x,t))
end
end Mine
end
section
namespace Mine
inductive Pol:(Rat->Rat)->Prop
 |const (c:Rat):Pol fun Z=>c
 |id:Pol fun x=>x
 |add {f g}:Pol f->Pol g->Pol fun x=>f x+g x
 |mul {f g}:Pol f->Pol g->Pol fun x=>f x*g x
theorem Es{a b c:Rat}(h:a<=b)(hc:0<=c):a*c<=b*c:=by
 have:=Rat.mul_le_mul_of_nonneg_right h hc
 exact this
theorem IA{a b A B:Rat}(h1: -A<=a)(h2:a<=A)(h3: -B<=b)(h4:b<=B): -(A*B)<=a*b/\a*b<=A*B:=by
 have hA:0<=A:=by grind
 have hB:0<=B:=by grind
 have e1:=Sr (show 0<=A-a by grind) (show 0<=B-b by grind)
 have e2:=Sr (show 0<=A+a by grind) (show 0<=B+b by grind)
 have e3:=Sr (show 0<=A-a by grind) (show 0<=B+b by grind)
 have e4:=Sr (show 0<=A+a by grind) (show 0<=B-b by grind)
 constructor <;> grind
theorem Pol.bound{f}(h:Pol f):∃B:Rat,0<=B/\∀x, -5<=x->x<=5-> -B<=f x/\f x<=B:=by
 induction h with
 |const c=>
  by_cases hc:0<=c
  ·exact(iEA c hc (fun x Z Z=>by constructor <;> grind))
  ·exact(iEA (-c) (by grind) (fun x Z Z=>by constructor <;> grind))
 |id=>exact(iEA 5 (by grind) (fun x h1 h2=>⟨h1,h2⟩))
 |add _ _ hf hg=>
  refine oEA hf fun A hA h1=>?_;clear hf;refine oEA hg fun B hB h2=>?_;clear hg
  exact(iEA (A+B) (by grind) (fun x a b=>by have:=h1 x a b;have:=h2 x a b;constructor <;> grind))
 |mul _ _ hf hg=>
  refine oEA hf fun A hA h1=>?_;clear hf;refine oEA hg fun B hB h2=>?_;clear hg
  exact(iEA (A*B) (Sr hA hB) (fun x a b=>by
   have p:=h1 x a b;have q:=h2 x a b;exact IA p.1 p.2 q.1 q.2))
theorem Pol.lip{f}(h:Pol f):∃L:Rat,0<=L/\∀x y, -5<=x->x<=y->y<=5-> -(L*(y-x))<=f y-f x/\f y-f x<=L*(y-x):=by
 induction h with
 |const c=>exact(iEA 0 (by grind) (fun x y Z Z Z=>by constructor <;> grind))
 |id=>exact(iEA 1 (by grind) (fun x y Z Z Z=>by constructor <;> grind))
 |add _ _ hf hg=>
  refine oEA hf fun A hA h1=>?_;clear hf;refine oEA hg fun B hB h2=>?_;clear hg
  exact(iEA (A+B) (by grind) (fun x y a b c=>by have:=h1 x y a b c;have:=h2 x y a b c;constructor <;> grind))
 | @mul f g pf pg hf hg=>
  refine oEA hf fun A hA h1=>?_;clear hf;refine oEA hg fun B hB h2=>?_;clear hg
  refine oEA pf.bound fun F hF h3=>?_;refine oEA pg.bound fun G hG h4=>?_
  refine(iEA (F*B+A*G) (by have:=Sr hF hB;have:=Sr hA hG;grind) (fun x y a b c=>?_))
  have p:=h1 x y a b c;have q:=h2 x y a b c
  have r:=h3 y (by grind) c;have s:=h4 x a (by grind)
  have e1:=IA r.1 r.2 q.1 q.2
  have e2:=IA p.1 p.2 s.1 s.2
  constructor <;> grind
theorem Pol.factor{f}(h:Pol f)(r:Rat):∃g,Pol g/\∀x,f x=f r+(x-r)*g x:=by
 induction h with
 |const c=>exact(iEA _ (.const 0) (fun x=>by grind))
 |id=>exact(iEA _ (.const 1) (fun x=>by grind))
 |add _ _ hf hg=>
  refine oEA hf fun A hA h1=>?_;clear hf;refine oEA hg fun B hB h2=>?_;clear hg
  exact(iEA _ (.add hA hB) (fun x=>by have:=h1 x;have:=h2 x;grind))
 | @mul f g pf pg hf hg=>
  refine oEA hf fun A hA h1=>?_;clear hf;refine oEA hg fun B hB h2=>?_;clear hg
  exact(iEA _ (.add (.mul hA pg) (.mul (.const (f r)) hB)) (fun x=>by have:=h1 x;have:=h2 x;grind))
end Mine
end
section
namespace Mine
noncomputable def same(f:Rat->Rat)(x y:Rat):Prop:=(0<f x/\0<f y)\/(f x<0/\f y<0)
noncomputable def sg:List Rat->List Bool
 |[]=>[]
 |v::vs=>if 0<v then true::sg vs else if v<0 then false::sg vs else sg vs
noncomputable def chg:List Bool->Int
 |a::b::r=>(if a=b then 0 else 1)+chg (b::r)
 |_=>0
noncomputable def chV(fs:List (Rat->Rat))(x:Rat):Int:=chg (sg (fs.map fun f=>f x))
inductive Chn:(Rat->Rat)->List (Rat->Rat)->Prop
 |one {s k}:k≠0->(∀x,s x=k)->Chn s []
 |pair {s t}:Pol s->Chn t []->Chn s [t]
 |cons {s t u l a b q}:0<a->0<b->Pol q->Pol s->(∀x,a*s x=q x*t x-b*u x)->Chn t (u::l)->Chn s (t::u::l)
theorem Pol.congr{f g}(h:Pol f)(e:∀x,g x=f x):Pol g:=by
 have:g=f:=funext e
 rw[this];exact h
theorem Pol.smul{f}(c:Rat)(h:Pol f):Pol fun x=>c*f x:= .mul (.const c) h
theorem Pol.sub{f g}(h:Pol f)(k:Pol g):Pol fun x=>f x-g x:=(Pol.add h (.smul (-1) k)).congr fun x=>by grind
theorem Chn.pol{s l}(h:Chn s l):Pol s:=by
 cases h with
 |one _ e=>exact(Pol.const _).congr e
 |pair p _=>exact p
 |cons _ _ _ p _ _=>exact p
theorem Chn.bez{s t l}(h:Chn s (t::l)):∃u v,Pol u/\Pol v/\∀x,u x*s x+v x*t x=1:=by
 generalize e:t::l=m at h
 induction h generalizing t l with
 |one=>cases e
 | @pair s t p k=>
  cases e
  cases k with
  | @one _ k h0 e=>exact(H5 _ _ (.const 0) (.const k⁻¹) (fun x=>by have:=e x;have:=Rf k h0;rw[e];grind))
 | @cons s t u l a b q ha hb hq hs e k ih=>
  cases e
  refine M3 (ih rfl) fun f g pf pg h=>?_
  refine(H5 _ _ (pg.mul (.const (-a / b))) (pf.add (pg.mul (hq.mul (.const (1 / b))))) (fun x=>?_))
  have h1:=h x;have h2:=e x
  grind
theorem Ce{K:Rat}(h:0<K):∃i:Rat,0<i/\i*K=1:=
 (iEA (K⁻¹) (Rat.inv_pos.2 h) (Rf K (by grind)))
theorem HS(K:Rat)(hK:0<=K):∃H:Rat,0<H/\H<1/\∀h,0<=h->h<=H->K*h<=1 / 4:=by
 refine oEA (Ce (show 0<4*(K+1) by grind)) fun i hi e=>?_
 have p:=Sr (Tq hi) hK
 refine(V8 i hi (by grind) (fun h h0 h1=>?_))
 have e:=Sr hK (show 0<=i-h by grind)
 grind
theorem M9{s:Rat->Rat}{x y m:Rat}(h:¬same s x y)(h1: -m<=s y-s x)(h2:s y-s x<=m): -m<=s x/\s x<=m/\ -m<=s y/\s y<=m:=by
 simp only[same] at h
 by_cases a:0<s x
 ·have:¬0<s y:=fun b=>h (.inl ⟨a,b⟩)
  grind
 ·by_cases b:s x<0
  ·have:¬s y<0:=fun c=>h (.inr ⟨b,c⟩)
   grind
  ·grind
theorem R0{u s U m:Rat}(hu: -U<=u)(hu':u<=U)(h1: -m<=s)(h2:s<=m)(hm:U*m<=1 / 4): -(1/4)<=u*s/\u*s<=1 / 4:=by
 have:=IA hu hu' h1 h2
 grind
theorem Chn.apart{s t l}(h:Chn s (t::l))(pt:Pol t):∃H:Rat,0<H/\H<1/\∀x y, -5<=x->x<=y->y<=5->y-x<=H→¬same s x y->same t x y:=by
 refine M3 h.bez fun u v pu pv e=>?_
 refine oEA h.pol.lip fun L hL l1=>?_
 refine oEA pt.lip fun M hM l2=>?_
 refine oEA pu.bound fun U hU b1=>?_
 refine oEA pv.bound fun W hW b2=>?_
 have g1:=Sr hU hL
 have g2:=Sr hW hM
 refine L1 (HS (U*L+W*M) (by grind)) fun H hH hH1 hs=>?_
 refine(V8 H hH hH1 (fun x y h1 h2 h3 h4 hn=>?_))
 have k:=hs (y-x) (by grind) h4
 have k1:=Sr g1 (show 0<=y-x by grind)
 have k2:=Sr g2 (show 0<=y-x by grind)
 refine AX (M9 hn (l1 x y h1 h2 h3).1 (l1 x y h1 h2 h3).2) fun c1 c2 c3 c4=>?_
 have d1:=R0 (b1 x h1 (by grind)).1 (b1 x h1 (by grind)).2 c1 c2 (by grind)
 have d2:=R0 (b1 y (by grind) h3).1 (b1 y (by grind) h3).2 c3 c4 (by grind)
 have e1:=e x
 have e2:=e y
 apply PX
 intro hn2
 refine AX (M9 hn2 (l2 x y h1 h2 h3).1 (l2 x y h1 h2 h3).2) fun c1 c2 c3 c4=>?_
 have d3:=R0 (b2 x h1 (by grind)).1 (b2 x h1 (by grind)).2 c1 c2 (by grind)
 grind
noncomputable def opp(a b:Rat):Prop:=(0<a/\b<0)\/(a<0/\0<b)
theorem HB{b i W m v t us:Rat}(hi:0<i)(ei:i*b=1)(v1: -W<=v)(v2:v<=W)(km:W*(i*m)<=1 / 4)
  (u2:us<=1 / 4)(e:us+v*t=1):¬(-m<=b*t/\b*t<=m):=by
 intro⟨f1,f2⟩
 have f3:=Sr (show 0<=m-b*t by grind) (Tq hi)
 have f4:=Sr (show 0<=m+b*t by grind) (Tq hi)
 have et:b*t*i=t:=by clear f3 f4 f1 f2 km v1 v2;grind
 have g1: -(i*m)<=t:=by clear km v1 v2 ei f1 f2 e;grind
 have g2:t<=i*m:=by clear km v1 v2 ei f1 f2 e;grind
 have d3:=(R0 (s:=t) (m:=i*m) v1 v2 g1 g2 km).2
 clear v1 v2 f1 f2 f3 f4 km
 grind
theorem HA{a b m t r qs:Rat}(ha:0<a)(hb:0<b)(big:¬(-m<=b*t/\b*t<=m))(d1: -m<=qs)(d2:qs<=m)
  (hm:0<=m)(e:a*r=qs-b*t):opp r t:=by
 have sgn:(0<a*r/\b*t<0)\/(a*r<0/\0<b*t):=by
  generalize a*r=x at*
  generalize b*t=y at*
  grind
 rw[PS ha,PT hb,PS hb,PT ha] at sgn
 exact sgn
theorem Chn.across{r s t:Rat->Rat}{l:List (Rat->Rat)}{a b:Rat}{q:Rat->Rat}(ha:0<a)(hb:0<b)(hq:Pol q)(e3:∀x,a*r x=q x*s x-b*t x)(h:Chn s (t::l)):
  ∃H:Rat,0<H/\H<1/\∀x y, -5<=x->x<=y->y<=5->y-x<=H→¬same s x y->opp (r x) (t x)/\opp (r y) (t y):=by
 refine M3 h.bez fun u v pu pv e=>?_
 refine oEA h.pol.lip fun L hL l1=>?_
 refine oEA pu.bound fun U hU b1=>?_
 refine oEA pv.bound fun W hW b2=>?_
 refine oEA hq.bound fun Q hQ b3=>?_
 have g1:=Sr hU hL
 refine oEA (Ce hb) fun i hi ei=>?_
 have g2:=Sr (Sr (Sr hW hQ) hL) (Tq hi)
 refine L1 (HS (U*L+W*Q*L*i) (by grind)) fun H hH hH1 hs=>?_
 refine(V8 H hH hH1 (fun x y h1 h2 h3 h4 hn=>?_))
 have k:=hs (y-x) (by grind) h4
 have k1:=Sr g1 (show 0<=y-x by grind)
 have k2:=Sr g2 (show 0<=y-x by grind)
 refine AX (M9 hn (l1 x y h1 h2 h3).1 (l1 x y h1 h2 h3).2) fun c1 c2 c3 c4=>?_
 have point:∀z, -5<=z->z<=5-> -(L*(y-x))<=s z->s z<=L*(y-x)->opp (r z) (t z):=by
  intro z z1 z2 z3 z4
  have d1:=R0 (b1 z z1 z2).1 (b1 z z1 z2).2 z3 z4 (by grind)
  have d2:=IA (b3 z z1 z2).1 (b3 z z1 z2).2 z3 z4
  have e1:=e z
  have e4:=e3 z
  have b2:=b2 z z1 z2
  have km:W*(i*(Q*(L*(y-x))))<=1 / 4:=by grind
  have hm:0<=Q*(L*(y-x)):=Sr hQ (Sr hL (by grind))
  exact HA ha hb (HB hi ei b2.1 b2.2 km d1.2 e1) d2.1 d2.2 hm e4
 exact⟨point x h1 (by grind) c1 c2,point y (by grind) h3 c3 c4⟩
theorem w0{v:Rat}{vs}(h:0<v):sg (v::vs)=true::sg vs:=by simp[sg,h]
theorem w7{v:Rat}{vs}(h:v<0):sg (v::vs)=false::sg vs:=by
 have:¬0<v:=by grind
 simp[sg,h,this]
theorem n4(a b:Bool)(l):chg (a::b::l)=(if a=b then 0 else 1)+chg (b::l):=by simp[chg]
theorem Ja{a b c:Rat}(l:List Rat)(h:opp a c):chg (sg (a::b::c::l))=1+chg (sg (c::l)):=by
 rcases h with⟨h1,h2⟩|⟨h1,h2⟩
 ·rw[w0 h1,w7 h2]
  by_cases hb:0<b
  ·rw[w0 hb,w7 h2,n4,n4];simp
  ·by_cases hb2:b<0
   ·rw[w7 hb2,w7 h2,n4,n4];simp
   ·have:sg (b::c::l)=sg (c::l):=by simp only[sg,hb,hb2,if_false]
    rw[this,w7 h2,n4];simp
 ·rw[w7 h1,w0 h2]
  by_cases hb:0<b
  ·rw[w0 hb,w0 h2,n4,n4];simp
  ·by_cases hb2:b<0
   ·rw[w7 hb2,w0 h2,n4,n4];simp
   ·have:sg (b::c::l)=sg (c::l):=by simp only[sg,hb,hb2,if_false]
    rw[this,w0 h2,n4];simp
theorem Gw{s t:Rat->Rat}{l x y}(h1:same s x y)(h2:same t x y)(h:chV (t::l) x=chV (t::l) y):chV (s::t::l) x=chV (s::t::l) y:=by
 simp only[chV,SJ] at*
 rcases h1 with⟨a,b⟩|⟨a,b⟩ <;> rcases h2 with⟨c,d⟩|⟨c,d⟩ <;>
  first
  |simp only[w0 a,w0 b,w0 c,w0 d,n4] at*
  |simp only[w0 a,w0 b,w7 c,w7 d,n4] at*
  |simp only[w7 a,w7 b,w0 c,w0 d,n4] at*
  |simp only[w7 a,w7 b,w7 c,w7 d,n4] at*
 all_goals lia
theorem Ff{r t:Rat->Rat}{x y}(h1:opp (r x) (t x))(h2:opp (r y) (t y))(h:same r x y):same t x y:=by
 simp only[same,opp] at*;grind
noncomputable def Loc(fs:List (Rat->Rat)):Prop:=∃H:Rat,0<H/\∀x y, -5<=x->x<=y->y<=5->y-x<=H->(∀s l,fs=s::l->same s x y)->chV fs x=chV fs y
theorem NU(a b c:Rat)(ha:0<a)(hb:0<b)(hc:0<c):∃m:Rat,0<m/\m<=a/\m<=b/\m<=c:=by
 by_cases h1:a<=b
 ·by_cases h2:a<=c
  ·exact⟨a,by grind⟩
  ·exact⟨c,by grind⟩
 ·by_cases h2:b<=c
  ·exact⟨b,by grind⟩
  ·exact⟨c,by grind⟩
theorem Chn.loc{s l}(h:Chn s l):Loc (s::l)/\Loc l:=by
 induction h with
 |one _ e=>
  refine⟨(iEA 1 (by grind) (fun x y Z Z Z Z Z=>?_)),(iEA 1 (by grind) (fun x y Z Z Z Z Z=>rfl))⟩
  simp only[chV,SJ,Tx,e]
 | @pair s t p k ih=>
  refine⟨(iEA 1 (by grind) (fun x y Z Z Z Z h=>?_)),ih.1⟩
  cases k with
  | @one _ k h0 e=>exact Gw (h _ _ rfl) (by have:=e x;have:=e y;simp only[same];grind) (by simp only[chV,SJ,Tx,e])
 | @cons s t u l a b q ha hb hq hs e k ih=>
  (refine oA ih fun o0_ o1_=>?_;clear ih;refine oEA o0_ fun H1 p1 l1=>?_;clear o0_;refine oEA o1_ fun H2 p2 l2=>?_;clear o1_)
  refine L1 (Chn.across ha hb hq e k) fun H3 p3 Z l3=>?_
  refine V3 (NU H1 H2 H3 p1 p2 p3) fun m hm m1 m2 m3=>?_
  refine⟨(iEA m hm (fun x y h1 h2 h3 h4 hh=>?_)),(iEA H1 p1 l1)⟩
  have hs:=hh _ _ rfl
  by_cases ht:same t x y
  ·exact Gw hs ht (l1 x y h1 h2 h3 (by grind) (fun Z Z e=>by cases e;exact ht))
  ·refine oA (l3 x y h1 h2 h3 (by grind) ht) fun o1 o2=>?_
   have hu:=Ff o1 o2 hs
   have:=l2 x y h1 h2 h3 (by grind) (fun Z Z e=>by cases e;exact hu)
   simp only[chV,SJ] at this ⊢
   rw[Ja _ o1,Ja _ o2,this]
end Mine
end
section
namespace Mine
theorem Pol.keep{T}(h:Pol T)(r:Rat)(r1: -5<=r)(r2:r<=5)(h0:T r≠0):∃H:Rat,0<H/\∀x y, -5<=x->x<=r->r<=y->y<=5->y-x<=H->same T x r/\same T r y:=by
 refine oEA h.lip fun L hL l1=>?_
 refine oEA (Ce (show 0<L+1 by grind)) fun j hj ej=>?_
 have key:∀m,0<m->∀d,0<=d->d<=m*j->L*d<m:=by
  intro m hm d hd hd2
  have p1:=Sr hL (show 0<=m*j-d by grind)
  have p2:=TJ hm hj
  have:L*(m*j)+m*j=m:=by grind
  grind
 rcases(show T r<0\/0<T r by grind) with h1|h1
 ·refine(iEA (-T r*j) (TJ (by grind) hj) (fun x y a b c d e=>⟨.inr ⟨?_,h1⟩, .inr ⟨h1,?_⟩⟩))
  ·have:=l1 x r a b r2;have:=key _ (show 0< -T r by grind) (r-x) (by grind) (by grind);grind
  ·have:=l1 r y r1 c d;have:=key _ (show 0< -T r by grind) (y-r) (by grind) (by grind);grind
 ·refine(iEA (T r*j) (TJ h1 hj) (fun x y a b c d e=>⟨.inl ⟨?_,h1⟩, .inl ⟨h1,?_⟩⟩))
  ·have:=l1 x r a b r2;have:=key _ h1 (r-x) (by grind) (by grind);grind
  ·have:=l1 r y r1 c d;have:=key _ h1 (y-r) (by grind) (by grind);grind
noncomputable def Bs(σ:Int)(T t:Rat):Prop:=(((0<T/\0<t)\/(T<0/\t<0))/\σ=1)\/(opp T t/\σ= -1)
theorem Chn.root{s t:Rat->Rat}{l:List (Rat->Rat)}{T:Rat->Rat}{σ:Int}(h:Chn s (t::l))(pt:Pol t)(r:Rat)(r1: -5<=r)(r2:r<=5)(hT:Pol T)(e:∀x,s x=(x-r)*T x)(hs:Bs σ (T r) (t r)):
  ∃H:Rat,0<H/\∀x y, -5<=x->x<r->r<y->y<=5->y-x<=H->chV (s::t::l) x-chV (s::t::l) y=σ:=by
 have hT0:T r≠0:=by simp only[Bs,opp] at hs;grind
 refine oEA (hT.keep r r1 r2 hT0) fun H1 p1 l1=>?_
 refine L1 (h.apart pt) fun H2 p2 Z l2=>?_
 (refine oA h.loc fun Z o0_=>?_;refine oEA o0_ fun H3 p3 l3=>?_;clear o0_)
 refine V3 (NU H1 H2 H3 p1 p2 p3) fun m hm m1 m2 m3=>?_
 refine(iEA m hm (fun x y a b c d f=>?_))
 refine oA (l1 x y a (by grind) (by grind) d (by grind)) fun k1 k2=>?_
 have er:s r=0:=by rw[e];grind
 have n1:¬same s x r:=by simp only[same];grind
 have n2:¬same s r y:=by simp only[same];grind
 have t1:=l2 x r a (by grind) r2 (by grind) n1
 have t2:=l2 r y r1 (by grind) d (by grind) n2
 have t3:same t x y:=by simp only[same] at*;grind
 have tail:=l3 x y a (by grind) d (by grind) (fun Z Z e=>by cases e;exact t3)
 have ex:=e x
 have ey:=e y
 have sx:∀T:Rat,0<T->(x-r)*T<0:=fun T hT=>by have:=TJ (show 0<r-x by grind) hT;grind
 have sx':∀T:Rat,T<0->0<(x-r)*T:=fun T hT=>by have:=TJ (show 0<r-x by grind) (show 0< -T by grind);grind
 have sy:∀T:Rat,0<T->0<(y-r)*T:=fun T hT=>by have:=TJ (show 0<y-r by grind) hT;grind
 have sy':∀T:Rat,T<0->(y-r)*T<0:=fun T hT=>by have:=TJ (show 0<y-r by grind) (show 0< -T by grind);grind
 simp only[chV,SJ] at tail ⊢
 simp only[same] at k1 k2 t1 t2
 rcases hs with⟨⟨g1,g2⟩|⟨g1,g2⟩,rfl⟩|⟨⟨g1,g2⟩|⟨g1,g2⟩,rfl⟩
 ·have a1:s x<0:=by rw[ex];exact sx _ (by grind)
  have a2:0<s y:=by rw[ey];exact sy _ (by grind)
  have a3:0<t x:=by grind
  have a4:0<t y:=by grind
  rw[w0 a3,w0 a4] at tail
  rw[w7 a1,w0 a3,w0 a2,w0 a4,n4,n4,tail];simp <;> lia
 ·have a1:0<s x:=by rw[ex];exact sx' _ (by grind)
  have a2:s y<0:=by rw[ey];exact sy' _ (by grind)
  have a3:t x<0:=by grind
  have a4:t y<0:=by grind
  rw[w7 a3,w7 a4] at tail
  rw[w0 a1,w7 a3,w7 a2,w7 a4,n4,n4,tail];simp <;> lia
 ·have a1:s x<0:=by rw[ex];exact sx _ (by grind)
  have a2:0<s y:=by rw[ey];exact sy _ (by grind)
  have a3:t x<0:=by grind
  have a4:t y<0:=by grind
  rw[w7 a3,w7 a4] at tail
  rw[w7 a1,w7 a3,w0 a2,w7 a4,n4,n4,tail];simp <;> lia
 ·have a1:0<s x:=by rw[ex];exact sx' _ (by grind)
  have a2:s y<0:=by rw[ey];exact sy' _ (by grind)
  have a3:0<t x:=by grind
  have a4:0<t y:=by grind
  rw[w0 a3,w0 a4] at tail
  rw[w0 a1,w0 a3,w7 a2,w0 a4,n4,n4,tail];simp <;> lia
noncomputable def due(σ:Int->Int)(l:List Int)(x y:Rat):Int:=(l.map fun(r:Int)=>if x<(r:Rat)/\(r:Rat)<y then σ r else 0).sum
theorem rll{a b c:Rat}(h:a<b)(k:b<=c):a<c:=Rat.not_le.1 fun e=>Rat.not_lt.2 (Rat.le_trans k e) h
theorem rlm{a b c:Rat}(h:a<=b)(k:b<c):a<c:=Rat.not_le.1 fun e=>Rat.not_lt.2 (Rat.le_trans e h) k
theorem Mh(σ:Int->Int)(l:List Int)(x y z:Rat)(h1:x<=y)(h2:y<=z)(hy:∀r∈l,y≠(r:Rat)):due σ l x z=due σ l x y+due σ l y z:=by
 induction l with
 |nil=>rfl
 |cons r l ih=>
  have ih:=ih fun r hr=>hy r (.tail _ hr)
  have:=hy r (.head _)
  simp only[due,SJ,SO] at ih ⊢
  rw[ih]
  have:(if x<(r:Rat)/\(r:Rat)<z then σ r else 0)=(if x<(r:Rat)/\(r:Rat)<y then σ r else 0)+(if y<(r:Rat)/\(r:Rat)<z then σ r else 0):=by
   by_cases c:(r:Rat)<y
   ·rw[if_neg (fun h:y<(r:Rat)/\(r:Rat)<z=>Rat.not_lt.2 (Tq c) h.1),Int.add_zero]
    by_cases a:x<(r:Rat)
    ·rw[if_pos (⟨a,rll c h2⟩:x<(r:Rat)/\(r:Rat)<z),if_pos ⟨a,c⟩]
    ·rw[if_neg fun h:x<(r:Rat)/\(r:Rat)<z=>a h.1,if_neg fun h=>a h.1]
   ·have c':y<(r:Rat):=Rat.lt_of_le_of_ne (Rat.not_lt.1 c) this
    have a:x<(r:Rat):=rlm h1 c'
    rw[if_neg fun h:x<(r:Rat)/\(r:Rat)<y=>c h.2,Th]
    by_cases b:(r:Rat)<z
    ·rw[if_pos (⟨a,b⟩:x<(r:Rat)/\(r:Rat)<z),if_pos ⟨c',b⟩]
    ·rw[if_neg fun h:x<(r:Rat)/\(r:Rat)<z=>b h.2,if_neg fun h=>b h.2]
  lia
theorem Bo(σ:Int->Int)(l:List Int)(x y:Rat)(h:∀r∈l,x<(r:Rat)->(r:Rat)<y->σ r=0):due σ l x y=0:=by
 induction l with
 |nil=>rfl
 |cons r l ih=>
  have ih:=ih fun r hr=>h r (.tail _ hr)
  have:=h r (.head _)
  simp only[due,SJ,SO] at ih ⊢
  rw[ih];split <;> rename_i hh
  ·rw[this hh.1 hh.2];rfl
  ·rfl
theorem Mg(σ:Int->Int)(l:List Int)(nd:l.Nodup)(r:Int)(hr:r∈l)(x y:Rat)(h1:x<(r:Rat))(h2:(r:Rat)<y)(h3:y-x<1):due σ l x y=σ r:=by
 have uniq:∀q:Int,x<(q:Rat)->(q:Rat)<y->q=r:=by
  intro q a b
  have c1:(q:Rat)<((r+1:Int):Rat):=by rw[Rat.intCast_add];grind
  have c2:(r:Rat)<((q+1:Int):Rat):=by rw[Rat.intCast_add];grind
  rw[Rat.intCast_lt_intCast] at c1 c2;lia
 induction l with
 |nil=>cases hr
 |cons q l ih=>
  rw[List.nodup_cons] at nd
  by_cases e:q=r
  ·subst e
   have z:due σ l x y=0:=Bo σ l x y fun p hp a b=>absurd (uniq p a b ▸ hp) nd.1
   simp only[due,SJ,SO] at z ⊢
   rw[z,if_pos ⟨h1,h2⟩];lia
  ·have:=ih nd.2 (by rcases SH.1 hr with h|h;exact absurd h.symm e;exact h)
   simp only[due,SJ,SO] at this ⊢
   rw[this,if_neg];lia
   exact fun x=>e (uniq q x.1 x.2)
noncomputable def DQ(s t:Rat->Rat)(σ:Int->Int)(I:List Int):Prop:=
 ∀r∈I,(s r≠0/\σ r=0)\/∃T,Pol T/\(∀x,s x=(x-r)*T x)/\Bs (σ r) (T r) (t r)
noncomputable def Jn(s:Rat->Rat)(I:List Int):Prop:=
 ∀x y:Rat, -5<=x->x<=y->y<=5->(∀r∈I,s ((r:Int):Rat)=0→¬(x<=(r:Rat)/\(r:Rat)<=y))->same s x y
theorem Chn.roots_all{s t:Rat->Rat}{l:List (Rat->Rat)}{σ:Int->Int}(h:Chn s (t::l))(pt:Pol t)(I:List Int)(hI:∀r∈I, -5<=(r:Rat)/\(r:Rat)<=5)(hr:DQ s t σ I):
  ∃H:Rat,0<H/\∀r∈I,s (r:Rat)=0->∀x y:Rat, -5<=x->x<r->r<y->y<=5->y-x<=H->chV (s::t::l) x-chV (s::t::l) y=σ r:=by
 induction I with
 |nil=>exact(iEA 1 (by grind) (fun r hr=>by cases hr))
 |cons q I ih=>
  refine oEA (ih (fun r h=>hI r (.tail _ h)) (fun r h=>hr r (.tail _ h))) fun H1 p1 l1=>?_
  rcases hr q (.head _) with⟨h0,_⟩|⟨T,pT,eT,sT⟩
  ·refine(iEA H1 p1 (fun r hr e=>?_))
   rcases SH.1 hr with rfl|hr
   ·exact absurd e h0
   ·exact l1 r hr e
  ·refine oEA (h.root pt q (hI q (.head _)).1 (hI q (.head _)).2 pT eT sT) fun H2 p2 l2=>?_
   refine V3 (NU H1 H2 H2 p1 p2 p2) fun m hm m1 m2 Z=>?_
   refine(iEA m hm (fun r hr e x y a b c d f=>?_))
   rcases SH.1 hr with rfl|hr
   ·exact l2 x y a b c d (by grind)
   ·exact l1 r hr e x y a b c d (by grind)
theorem Chn.step{s t:Rat->Rat}{l:List (Rat->Rat)}{σ:Int->Int}(h:Chn s (t::l))(pt:Pol t)(I:List Int)(nd:I.Nodup)(hI:∀r∈I, -5<=(r:Rat)/\(r:Rat)<=5)(hr:DQ s t σ I)(so:Jn s I):
  ∃H:Rat,0<H/\∀x y:Rat, -5<=x->x<=y->y<=5->y-x<=H->(∀r∈I,x≠(r:Rat)/\y≠(r:Rat))->chV (s::t::l) x-chV (s::t::l) y=due σ I x y:=by
 refine oEA (h.roots_all pt I hI hr) fun H1 p1 l1=>?_
 (refine oA h.loc fun o0_ Z=>?_;refine oEA o0_ fun H2 p2 l2=>?_;clear o0_)
 refine V3 (NU H1 H2 (1 / 2) p1 p2 (by grind)) fun m hm m1 m2 m3=>?_
 refine(iEA m hm (fun x y a b c d hn=>?_))
 by_cases ex:∃r∈I,s (r:Rat)=0/\x<(r:Rat)/\(r:Rat)<y
 ·refine V3 ex fun r hr e c1 c2=>?_;clear ex
  rw[Mg σ I nd r hr x y c1 c2 (by grind)]
  exact l1 r hr e x y a c1 c2 c (by grind)
 ·have hs:same s x y:=so x y a b c fun r hr e x=>have c1:=x.1;have c2:=x.2;ex (BO r hr e (by have:=hn r hr;grind) (by have:=hn r hr;grind))
  rw[l2 x y a b c (by grind) (fun Z Z e=>by cases e;exact hs),Bo];lia
  intro r hr' c1 c2
  rcases hr r hr' with⟨_,h0⟩|⟨T,_,e,_⟩
  ·exact h0
  ·exact absurd (BO r hr' (by rw[e];grind) c1 c2) ex
theorem arch{H:Rat}(h:0<H):∃n:Nat,1<=((2*n+1:Nat):Rat)*H:=by
 refine oEA (Ce h) fun i hi ei=>?_
 refine⟨i.ceil.toNat,?_⟩
 have e1:i<=((i.ceil.toNat:Nat):Rat):=by
  have:=Rat.le_ceil (x:=i)
  have p:0<=i.ceil:=by
   rw[←Rat.intCast_nonneg];grind
  rw[←Rat.intCast_natCast,Int.toNat_of_nonneg p];exact this
 generalize i.ceil.toNat=n at*
 have e2:((2*n+1:Nat):Rat)=2*(n:Rat)+1:=by push_cast;rfl
 have e3:=Sr (show 0<=(n:Rat)-i by grind) (Tq h)
 rw[e2];grind
theorem JH{n H j:Rat}(hn:1<=n*H)(ej:j*n=1)(hj:0<j):j<=H:=by
 have:=Sr (show 0<=n*H-1 by grind) (Tq hj)
 have e2:n*H*j=H:=by clear this hn;grind
 grind
theorem JR{r P n k:Int}(hP:P % 2=1)(h:(2*r-P)*(2*n+1)=2*k):False:=by
 obtain⟨p,rfl⟩:∃p,P=2*p+1:=⟨P / 2,by lia⟩
 have:(2*r-(2*p+1))*(2*n+1)=2*((r-p)*(2*n+1)-n)-1:=by grind
 lia
theorem Il{x j n k r P:Rat}(ex:2*x=P)(ej:j*(2*n+1)=1)(e:x+k*j=r):(2*r-P)*(2*n+1)=2*k:=by grind
theorem Chn.tarski{s t:Rat->Rat}{l:List (Rat->Rat)}{σ:Int->Int}(h:Chn s (t::l))(pt:Pol t)(I:List Int)(nd:I.Nodup)(hI:∀r∈I, -5<=(r:Rat)/\(r:Rat)<=5)(hr:DQ s t σ I)(so:Jn s I)
  (P:Int)(d:Nat)(hP:P % 2=1)(x y:Rat)(ex:2*x=(P:Rat))(ey:y=x+(d:Rat))(x5: -5<=x)(y5:y<=5):
  chV (s::t::l) x-chV (s::t::l) y=due σ I x y:=by
 refine oEA (h.step pt I nd hI hr so) fun H hH st=>?_
 refine oE (arch hH) fun n hn=>?_
 refine oEA (Ce (show(0:Rat)<((2*n+1:Nat):Rat) by rw[Rat.natCast_pos];lia)) fun j hj ej=>?_
 have en:((2*n+1:Nat):Rat)=2*(n:Rat)+1:=by push_cast;rfl
 rw[en] at hn ej
 have jH:j<=H:=JH hn ej hj
 have notin:∀(k:Nat)(r:Int),x+(k:Rat)*j≠(r:Rat):=by
  intro k r e
  have e1:=Il ex ej e
  have e2:(((2*r-P)*(2*(n:Int)+1):Int):Rat)=((2*(k:Int):Int):Rat):=by
   push_cast;exact e1
  exact JR hP (Si.1 e2)
 have run:∀k:Nat,x+(k:Rat)*j<=5->chV (s::t::l) x-chV (s::t::l) (x+(k:Rat)*j)=due σ I x (x+(k:Rat)*j):=by
  intro k
  induction k with
  |zero=>
   intro _
   have:x+((0:Nat):Rat)*j=x:=by grind
   rw[this,Bo];lia
   intro r _ a b;grind
  |succ k ih=>
   intro h5
   have ec:((k+1:Nat):Rat)=(k:Rat)+1:=by push_cast;rfl
   have k0:(0:Rat)<=(k:Rat):=Rat.natCast_nonneg
   have kj:=Sr k0 (Tq hj)
   rw[ec] at h5 ⊢
   have:=ih (by grind)
   have s1:=st (x+(k:Rat)*j) (x+((k:Rat)+1)*j) (by grind) (by grind) h5 (by grind) fun r Z=>⟨notin k r,by have:=notin (k+1) r;rw[ec] at this;exact this⟩
   rw[Mh σ I x (x+(k:Rat)*j) _ (by grind) (by grind) fun r Z=>notin k r]
   lia
 have ed:x+((d*(2*n+1):Nat):Rat)*j=y:=by
  rw[ey];push_cast;grind
 have:=run (d*(2*n+1)) (by rw[ed];exact y5)
 rw[ed] at this;exact this
end Mine
end
section
namespace Mine
noncomputable def ev:List Int->Rat->Rat
 |[],_=>0
 |c::r,x=>(c:Rat)*x ^ r.length+ev r x
theorem Pol.pow(n:Nat):Pol fun x=>x ^ n:=by
 induction n with
 |zero=>exact(Pol.const 1).congr fun x=>by simp
 |succ n ih=>exact(ih.mul .id).congr fun x=>Tu x n
theorem Pol.ev(row:List Int):Pol (ev row):=by
 induction row with
 |nil=>exact .const 0
 |cons c r ih=>exact((Pol.const _).mul (Pol.pow r.length)).add ih
theorem Dj(x:Rat)(m n:Nat):x ^ (m+n)=x ^ m*x ^ n:=by
 induction n with
 |zero=>simp
 |succ n ih=>rw[←SP,Tu,ih,Tu,Rat.mul_assoc]
theorem IV(row:List Int)(c:Int)(x:Rat):ev (row++[c]) x=ev row x*x+c:=by
 induction row with
 |nil=>simp[ev];grind
 |cons d r ih=>simp only[RG,ev,ih,QU,RB,RX,Tu];grind
theorem CW(row:List Int)(twice:Int)(x:Rat)(hx:2*x=(twice:Rat))(m:Nat)(hm:m<=row.length):2*(M0 row twice m:Rat)=2 ^ m*ev (row.take m) x:=by
 induction m with
 |zero=>simp[M0,ev]
 |succ m ih=>
  have h:=ih (by lia)
  have e:row.take (m+1)=row.take m++[row.getD m 0]:=by
   rw[Rm,PV,Qb (by lia)];rfl
  rw[e,IV,AM,EX]
  push_cast
  rw[Tu]
  generalize(M0 row twice m:Rat)=v at*
  generalize ev (row.take m) x=u at*
  grind
theorem FU(row:List Int)(twice:Int)(x:Rat)(hx:2*x=(twice:Rat)):2*(i0 row twice:Rat)=2 ^ row.length*ev row x:=by
 have:=CW row twice x hx row.length (TA _)
 rw[RK] at this
 exact this
theorem Nl(row:List Int)(i:Nat)(hi:i<row.length)(c:Int)(x:Rat):ev (row.set i (row.getD i 0+c)) x=ev row x+c*x ^ (row.length-1-i):=by
 induction row generalizing i with
 |nil=>cases hi
 |cons d r ih=>
  cases i with
  |zero=>simp only[List.set_cons_zero,ev,QO,RB,QY,Nat.sub_zero];push_cast;grind
  |succ i=>
   have h:=ih i (by simpa using hi)
   simp only[List.set_cons_succ,ev,QM,RB,List.length_set,QY,h]
   have:r.length-(i+1)=r.length-1-i:=by lia
   rw[this];grind
noncomputable def pev(row:List Int)(x:Rat):Nat->Rat
 |0=>0
 |m+1=>pev row x m+row.getD m 0*x ^ (row.length-1-m)
theorem JN(c:Int)(r:List Int)(x:Rat)(m:Nat)(hm:m<=r.length):pev (c::r) x (m+1)=c*x ^ r.length+pev r x m:=by
 induction m with
 |zero=>simp[pev];grind
 |succ m ih=>
  rw[pev,ih (by lia),pev]
  have:(c::r).length-1-(m+1)=r.length-1-m:=by simp;lia
  rw[this];simp only[QM];grind
theorem Ij(row:List Int)(x:Rat):pev row x row.length=ev row x:=by
 induction row with
 |nil=>rfl
 |cons c r ih=>rw[RB,JN _ _ _ _ (TA _),ih,ev]
theorem Pl{r a b k m:Nat}(hk:k<a)(hm:m+1<=b)(hr:r=a+b-1):r-1-(k+m)=(a-1-k)+(b-1-m)/\k+m<r:=by
 obtain⟨p,rfl⟩:=Nat.exists_eq_add_of_lt hk
 obtain⟨q,rfl⟩:=Nat.exists_eq_add_of_le hm
 have e:k+p+1+(m+1+q)=k+m+(p+q)+1+1:=by ac_rfl
 rw[e,QY] at hr
 subst hr
 refine⟨?_,Rw (RD _ _)⟩
 rw[QY,Qi,QY,Qi,Nat.add_right_comm m 1 q,QY,Qi]
theorem Mc(a b row:List Int)(k m:Nat)(hk:k<a.length)(hm:m<=b.length)(hr:row.length=a.length+b.length-1)(x:Rat):
  ev (tRow a b row k m) x=ev row x+(a.getD k 0)*x ^ (a.length-1-k)*pev b x m:=by
 induction m with
 |zero=>simp[tRow,pev];grind
 |succ m ih=>
  rw[Bv,tStep,Nl _ _ (by rw[T4];exact(Pl hk hm hr).2),ih (by lia),T4,pev]
  have:row.length-1-(k+m)=(a.length-1-k)+(b.length-1-m):=(Pl hk hm hr).1
  rw[this,Dj];push_cast;grind
theorem Mb(n:Nat)(x:Rat):ev (List.replicate n 0) x=0:=by
 induction n with
 |zero=>rfl
 |succ n ih=>simp only[List.replicate_succ,ev,ih];grind
theorem Md(a b:List Int)(m:Nat)(hm:m<=a.length)(x:Rat):ev (tAll a b m) x=pev a x m*ev b x:=by
 induction m with
 |zero=>simp[tAll,pev,Mb]
 |succ m ih=>
  rw[Bw,Mc _ _ _ _ _ (by lia) (TA _) (Y3 _ _ _),ih (by lia),Ij,pev];grind
theorem X3(a b:List Int)(x:Rat):ev (b0 a b) x=ev a x*ev b x:=by
 rw[b0,Md _ _ _ (TA _),Ij]
noncomputable def prodR:List Int->Rat->Rat
 |[],_=>1
 |r::l,x=>(x-r)*prodR l x
theorem Ck(l row:List Int)(x:Rat):ev (l.foldl (fun row r=>b0 row [1, -r]) row) x=ev row x*prodR l x:=by
 induction l generalizing row with
 |nil=>simp[prodR]
 |cons r l ih=>rw[Sf,ih,X3,prodR];simp[ev];grind
theorem B3(l:List Int)(x:Rat):ev (a9 l) x=prodR l x:=by
 rw[a9,Ck];simp[ev];grind
theorem Pol.prodR(l:List Int):Pol (prodR l):=by
 induction l with
 |nil=>exact .const 1
 |cons r l ih=>exact(Pol.sub .id (.const _)).mul ih
theorem S2(c:Int)(row:List Int)(x:Rat):ev (row.map (c* ·)) x=c*ev row x:=by
 induction row with
 |nil=>simp[ev]
 |cons d r ih=>simp only[SJ,ev,RT,ih];push_cast;grind
theorem Nm(row:List Int)(x:Rat):ev (row.map (- ·)) x= -ev row x:=by
 induction row with
 |nil=>simp[ev]
 |cons d r ih=>simp only[SJ,ev,RT,ih];push_cast;grind
theorem Kk(row:List Int)(x:Rat):ev (A6 row) x=ev row x:=by
 induction row with
 |nil=>rfl
 |cons d r ih=>
  simp only[A6,QN] at*
  by_cases h:d=0
  ·subst h;simp[ev,ih];grind
  ·simp[h]
end Mine
end
section
namespace Mine
inductive Dg:Nat->Rat->(Rat->Rat)->Prop
 |const (c:Rat):Dg 0 c fun Z=>c
 |step {n c f} (a:Rat):Dg n c f->Dg (n+1) c fun x=>a+x*f x
theorem Dg.congr{n c f g}(h:Dg n c f)(e:∀x,g x=f x):Dg n c g:=by
 have:g=f:=funext e
 rw[this];exact h
theorem Dg.cast{n m c d f}(h:Dg n c f)(e:n=m)(e':c=d):Dg m d f:=by subst e e';exact h
theorem Dg.low{n k c d f g}(h:Dg n c f)(h':Dg k d g)(hk:k<n):Dg n c fun x=>f x+g x:=by
 induction h generalizing k d g with
 |const=>lia
 | @step n c f a p ih=>
  cases h' with
  |const=>exact(Dg.step (a+d) p).congr fun x=>by grind
  | @step k _ g b q=>exact(Dg.step (a+b) (ih q (by lia))).congr fun x=>by grind
theorem Dg.smul{n c f}(b:Rat)(h:Dg n c f):Dg n (b*c) fun x=>b*f x:=by
 induction h with
 |const c=>exact .const _
 |step a p ih=>exact(Dg.step (b*a) ih).congr fun x=>by grind
theorem Dg.mul{n k c d f g}(h:Dg n c f)(h':Dg k d g):Dg (n+k) (c*d) fun x=>f x*g x:=by
 induction h with
 |const c=>exact(Dg.smul c h').cast (by lia) rfl
 | @step n c f a p ih=>
  have:=(Dg.step 0 ih).low (Dg.smul a h') (by lia)
  exact(this.cast (by lia) rfl).congr fun x=>by grind
noncomputable def Nrm(f:Rat->Rat):Prop:=(∀x,f x=0)\/∃n c,c≠0/\Dg n c f
theorem Dg.add{n c d f g}(h:Dg n c f)(h':Dg n d g):Dg n (c+d) fun x=>f x+g x:=by
 induction h generalizing d g with
 |const c=>cases h';exact .const _
 | @step n c f a p ih=>
  cases h' with
  | @step k _ g b q=>exact(Dg.step (a+b) (ih q)).congr fun x=>by grind
theorem Nrm.step{f}(a:Rat)(h:Nrm f):Nrm fun x=>a+x*f x:=by
 rcases h with h|⟨n,c,h0,h⟩
 ·by_cases ha:a=0
  ·exact .inl fun x=>by show a+x*f x=0;rw[h,ha];grind
  ·exact .inr (Bm 0 a ha ((Dg.const a).congr fun x=>by rw[h];grind))
 ·exact .inr (Bm (n+1) c h0 (h.step a))
theorem Dg.nrm{n c f}(h:Dg n c f):Nrm f:=by
 induction h with
 |const c=>
  by_cases hc:c=0
  ·exact .inl fun Z=>hc
  ·exact .inr (Bm 0 c hc (.const c))
 |step a _ ih=>exact ih.step a
theorem Nrm.congr{f g}(h:Nrm f)(e:∀x,g x=f x):Nrm g:=by
 have:g=f:=funext e
 rw[this];exact h
theorem Dg.comm{n:Nat}{c:Rat}{f g:Rat->Rat}(h:Dg n c fun x=>f x+g x):Dg n c fun x=>g x+f x:=h.congr fun x=>by grind
theorem Nrm.add{f g}(h:Nrm f)(h':Nrm g):Nrm fun x=>f x+g x:=by
 rcases h with h|⟨n,c,h0,h⟩
 ·exact h'.congr fun x=>by rw[h];grind
 ·rcases h' with h'|⟨k,d,h0',h'⟩
  ·exact .inr (Bm n c h0 (h.congr fun x=>by rw[h'];grind))
  ·rcases Nat.lt_trichotomy n k with e|e|e
   ·exact .inr (Bm k d h0' ((h'.low h e).comm))
   ·subst e;exact(h.add h').nrm
   ·exact .inr (Bm n c h0 (h.low h' e))
theorem Pol.nrm{f}(h:Pol f):Nrm f:=by
 induction h with
 |const c=>exact(Dg.const c).nrm
 |id=>exact .inr (Bm 1 1 (by grind) ((Dg.step 0 (.const 1)).congr fun x=>by grind))
 |add _ _ h h'=>exact h.add h'
 |mul _ _ h h'=>
  rcases h with h|⟨n,c,h0,h⟩
  ·exact .inl fun x=>by dsimp only;rw[h];grind
  ·rcases h' with h'|⟨k,d,h0',h'⟩
   ·exact .inl fun x=>by dsimp only;rw[h'];grind
   ·exact .inr (Bm (n+k) (c*d) (by simp[RW,h0,h0']) (h.mul h'))
noncomputable def Far(f:Rat->Rat)(d:Rat):Prop:=∃X:Rat,1<=X/\∀x,X<=x->d<=f x\/f x<= -d
theorem Dg.far{n c f}(h:Dg n c f)(h0:c≠0):(∃d,0<d/\Far f d)/\(0<n->∀K,Far f K):=by
 induction h with
 |const c=>
  refine⟨?_,by lia⟩
  by_cases hc:0<c
  ·exact⟨c,hc,1,by grind,fun x Z=> .inl (by grind)⟩
  ·exact⟨-c,by grind,1,by grind,fun x Z=> .inr (by grind)⟩
 | @step n c f a p ih=>
  have key:∀K,Far (fun x=>a+x*f x) K:=by
   intro K
   refine LH ((ih h0).1) fun d hd X hX h=>?_
   refine oEA (Ce hd) fun i hi ei=>?_
   obtain⟨A,hA,A1,A2⟩:∃A:Rat,0<=A/\a<=A/\ -a<=A:=by
    by_cases h:0<=a
    ·exact(V8 a h (by grind) (by grind))
    ·exact(V8 (-a) (by grind) (by grind) (by grind))
   obtain⟨B,hB,B1⟩:∃B:Rat,0<=B/\K<=B:=by
    by_cases h:0<=K
    ·exact(iEA K h (by grind))
    ·exact(iEA 0 (by grind) (by grind))
   have hABi:=Sr (show 0<=A+B by grind) (Tq hi)
   refine(iEA (X+(A+B)*i) (by grind) (fun x hx=>?_))
   have x0:0<=x:=by grind
   have xd:A+B<=x*d:=by
    have:=Sr (show 0<=x-(A+B)*i by grind) (Tq hd)
    have e:(A+B)*i*d=A+B:=by rw[Rat.mul_assoc,ei,Rat.mul_one]
    grind
   rcases h x (by grind) with h1|h1
   ·have:=Sr x0 (show 0<=f x-d by grind)
    left;grind
   ·have:=Sr x0 (show 0<= -d-f x by grind)
    right;grind
  exact⟨(iEA 1 (by grind) (key 1)),fun Z=>key⟩
theorem Dg.not_zero{n c f}(h:Dg n c f)(h0:c≠0)(e:∀x,f x=0):False:=by
 refine LH ((h.far h0).1) fun d hd X hX h=>?_
 have:=h X (by grind);have:=e X;grind
theorem Dg.const_of{n c f k}(h:Dg n c f)(h0:c≠0)(e:∀x,f x=k):n=0:=by
 apply PX
 intro hn
 by_cases hk:0<=k
 ·refine oEA ((h.far h0).2 (by lia) (k+1)) fun X hX h=>?_
  have:=h X (by grind);have:=e X;grind
 ·refine oEA ((h.far h0).2 (by lia) (-k+1)) fun X hX h=>?_
  have:=h X (by grind);have:=e X;grind
theorem Dg.unique{n k c d f}(h:Dg n c f)(h':Dg k d f)(h0:c≠0)(h0':d≠0):n=k/\c=d:=by
 rcases Nat.lt_trichotomy n k with e|e|e
 ·exact((h'.low (Dg.smul (-1) h) e).not_zero h0' fun x=>by grind).elim
 ·subst e
  refine⟨rfl,PX fun hn=>?_⟩
  exact(h.add (Dg.smul (-1) h')).not_zero (by grind) fun x=>by grind
 ·exact((h.low (Dg.smul (-1) h') e).not_zero h0 fun x=>by grind).elim
theorem Pol.cancel{f g}(hf:Pol f)(hg:Pol g)(h0:¬ ∀x,f x=0)(h:∀x,f x*g x=0):∀x,g x=0:=by
 rcases hf.nrm with h1|⟨n,c,c0,h1⟩
 ·exact absurd h1 h0
 ·rcases hg.nrm with h2|⟨k,d,d0,h2⟩
  ·exact h2
  ·exact((h1.mul h2).not_zero (by simp[RW,c0,d0]) h).elim
theorem Dg.ev(c:Int)(r:List Int):Dg r.length c (ev (c::r)):=by
 generalize hn:r.length=n
 induction n generalizing r with
 |zero=>
  have:r=[]:=PQ hn
  subst this
  exact(Dg.const _).congr fun x=>by simp[Mine.ev];grind
 |succ n ih=>
  have hne:r≠[]:=fun e=>by simp[e] at hn
  have e:=List.dropLast_concat_getLast hne
  have:=ih r.dropLast (by simp[hn])
  refine(Dg.step (r.getLast hne) this).congr fun x=>?_
  have e2:c::r=(c::r.dropLast)++[r.getLast hne]:=by rw[RG,e]
  rw[e2,IV];grind
theorem Nn{a b:List Int}(hl:a.length=b.length)(h:∀x,ev a x=ev b x):a=b:=by
 induction a generalizing b with
 |nil=>exact(PQ hl.symm).symm
 |cons c a ih=>
  cases b with
  |nil=>cases hl
  |cons d b=>
   replace hl:a.length=b.length:=by simpa using hl
   by_cases e:c=d
   ·subst e
    rw[ih hl fun x=>by have:=h x;simp only[ev,hl] at this;grind]
   ·have h1:=(Dg.ev c a).add (Dg.smul (-1) ((Dg.ev d b).cast hl.symm rfl))
    refine(h1.not_zero ?_ fun x=>by rw[h];grind).elim
    intro e2
    have:(c:Rat)=(d:Rat):=by grind
    exact e (Si.1 this)
end Mine
end
section
namespace Mine
noncomputable def Dd(A B:Int)(os ts:List Int):List Int:=(TS os.length).map fun i=>A*os.getD i 0-(if i<ts.length then B*ts.getD i 0 else 0)
theorem Kj(A B:Int)(os ts:List Int)(h:ts.length<=os.length)(x:Rat):ev (Dd A B os ts) x=A*ev os x-B*x ^ (os.length-ts.length)*ev ts x:=by
 induction os generalizing ts with
 |nil=>
  have:ts=[]:=PQ (by simpa using h)
  subst this;simp[Dd,ev];grind
 |cons o os ih=>
  have e:Dd A B (o::os) ts=(A*o-(if 0<ts.length then B*ts.getD 0 0 else 0))::Dd A B os (ts.drop 1):=by
   simp only[Dd,RB,List.range_succ_eq_map,SJ,Tj,QO]
   congr 1
   apply QG
   intro i _
   simp only[Function.comp,QM,List.length_drop]
   congr 1
   cases ts with
   |nil=>simp
   |cons t ts=>simp
  rw[e,ev]
  have hl:(Dd A B os (ts.drop 1)).length=os.length:=by simp[Dd]
  rw[hl,ih (ts.drop 1) (by simp at h ⊢;lia)]
  cases ts with
  |nil=>simp[ev];grind
  |cons t ts=>
   have hle:ts.length<=os.length:=by simpa using h
   have e1:x ^ os.length=x ^ (os.length-ts.length)*x ^ ts.length:=by rw[←Dj];congr 1;lia
   simp only[List.drop_succ_cons,List.drop_zero,RB,Nat.zero_lt_succ,if_true,QO,ev]
   have e2:os.length+1-(ts.length+1)=os.length-ts.length:=by lia
   rw[e2];push_cast;rw[e1];grind
theorem Fh(o t:Int)(os ts:List Int):z0 (o::os) (t::ts)=Dd t.natAbs (if 0<t then o else -o) os ts:=by
 simp only[z0,Dd,RB,QY]
 apply QG
 intro i _
 simp only[MM,QO,QM,RB,Nat.add_lt_add_iff_right]
theorem Fy(o t:Int)(os ts:List Int)(h:ts.length<=os.length)(x:Rat):
  ev (z0 (o::os) (t::ts)) x=t.natAbs*ev (o::os) x-(if 0<t then o else -o:Int)*x ^ (os.length-ts.length)*ev (t::ts) x:=by
 rw[Fh,Kj _ _ _ _ h,ev,ev]
 have e1:x ^ os.length=x ^ (os.length-ts.length)*x ^ ts.length:=by rw[←Dj];congr 1;lia
 rw[e1]
 have e2:((t.natAbs:Int):Rat)*(o:Rat)=((if 0<t then o else -o:Int):Rat)*(t:Rat):=by
  rw[←Rat.intCast_mul, ←Rat.intCast_mul];congr 1
  split
  ·have:(t.natAbs:Int)=t:=by lia
   rw[this,Int.mul_comm]
  ·have:(t.natAbs:Int)= -t:=by lia
   rw[this];grind
 rw[Rat.intCast_natCast] at e2
 simp only[Rat.intCast_natCast]
 generalize(t.natAbs:Rat)=A at*
 generalize((if 0<t then o else -o:Int):Rat)=B at*
 generalize x ^ (os.length-ts.length)=X at*
 generalize x ^ ts.length=Y at*
 grind
noncomputable def Hd0:List Int->Prop
 |[]=>True
 |c::_=>c≠0
theorem HR(l:List Int):Hd0 (A6 l):=by
 induction l with
 |nil=>trivial
 |cons c l ih=>
  simp only[A6,QN] at*
  by_cases h:c=0
  ·simp[h,ih]
  ·simp[h,Hd0]
theorem HQ(l:List Int):(A6 l).length<=l.length:=by
 simp only[A6]
 exact(List.dropWhile_sublist _).length_le
theorem Q9(k:Nat)(one:List Int)(t:Int)(ts:List Int)(ht:t≠0)(h1:Hd0 one):
  (∃a q,0<a/\Pol q/\∀x,a*ev one x=q x*ev (t::ts) x+ev (V1 k one (t::ts)) x)/\Hd0 (V1 k one (t::ts))/\(one.length<=k->(V1 k one (t::ts)).length<=ts.length):=by
 induction k generalizing one with
 |zero=>exact(iAA (H5 1 _ (by grind) (.const 0) (fun x=>by simp only[V1];grind)) h1 (fun h=>by simp only[V1];lia))
 |succ k ih=>
  rw[V1]
  by_cases hl:one.length<(t::ts).length
  ·rw[if_pos hl]
   exact(iAA (H5 1 _ (by grind) (.const 0) (fun x=>by grind)) h1 (fun Z=>by simp at hl;lia))
  ·rw[if_neg hl]
   (refine oAA (ih (A6 (z0 one (t::ts))) (HR _)) fun o0_ i2 i3=>?_;refine M3 o0_ fun a q ha hq e=>?_;clear o0_)
   cases one with
   |nil=>simp at hl
   |cons o os=>
    have hle:ts.length<=os.length:=by simp at hl;lia
    have tp:(0:Rat)<(t.natAbs:Rat):=by rw[Rat.natCast_pos];lia
    refine(iAA (H5 (a*t.natAbs) (fun x=>a*((if 0<t then o else -o:Int)*x ^ (os.length-ts.length))+q x) (TJ ha tp) (((Pol.const a).mul ((Pol.const _).mul (Pol.pow _))).add hq) (fun x=>?_)) i2 (fun hk=>i3 ?_))
    ·have:=e x
     rw[Kk,Fy _ _ _ _ hle] at this
     grind
    ·have:=HQ (z0 (o::os) (t::ts))
     rw[V0] at this
     simp at this hk;lia
theorem Dy(ns:List Int)(g:Nat):(ns.foldl (fun g x=>Nat.gcd g x.natAbs) g∣g)/\∀x∈ns,((ns.foldl (fun g x=>Nat.gcd g x.natAbs) g:Nat):Int)∣x:=by
 induction ns generalizing g with
 |nil=>exact⟨Nat.dvd_refl _,fun x h=>by cases h⟩
 |cons y ns ih=>
  refine oA (ih (Nat.gcd g y.natAbs)) fun i1 i2=>?_
  refine⟨Nat.dvd_trans i1 (Nat.gcd_dvd_left _ _),fun x hx=>?_⟩
  rcases SH.1 hx with rfl|hx
  ·exact Int.ofNat_dvd_left.2 (Nat.dvd_trans i1 (Nat.gcd_dvd_right _ _))
  ·exact i2 x hx
theorem Dz(ns:List Int)(g k:Nat)(hg:k∣g)(h:∀x∈ns,(k:Int)∣x):k∣ns.foldl (fun g x=>Nat.gcd g x.natAbs) g:=by
 induction ns generalizing g with
 |nil=>exact hg
 |cons y ns ih=>exact ih _ (Nat.dvd_gcd hg (Int.ofNat_dvd_left.1 (h y (.head _)))) fun x hx=>h x (.tail _ hx)
theorem Hk{ns:List Int}{x:Int}(h:x∈ns):(y7 ns:Int)∣x:=(Dy ns 0).2 x h
theorem Br{ns:List Int}{x:Int}(h:x∈ns):(y7 ns:Int)*Int.fdiv x (y7 ns)=x:=by
 refine oE (Hk h) fun c hc=>?_
 by_cases h0:(y7 ns:Int)=0
 ·rw[h0] at hc ⊢;simp at hc ⊢;exact hc.symm
 ·conv=>lhs;rw[hc]
  rw[Int.mul_fdiv_cancel_left _ h0];exact hc.symm
theorem L8(ns:List Int):(s8 ns).length=ns.length:=by simp[s8]
theorem Kt{ns:List Int}:(s8 ns).map ((y7 ns:Int)* ·)=ns:=by
 rw[s8,Tj]
 conv=>rhs;rw[←List.map_id ns]
 exact QG fun x hx=>Br hx
theorem Me(ns:List Int)(x:Rat):(y7 ns:Rat)*ev (s8 ns) x=ev ns x:=by
 conv=>rhs;rw[←Kt (ns:=ns)]
 rw[S2];rfl
theorem Hd0.neg{l:List Int}(h:Hd0 l):Hd0 (l.map (- ·)):=by
 cases l with
 |nil=>trivial
 |cons c l=>simp only[SJ,Hd0] at*;lia
theorem CE{c:Int}{l:List Int}(h:c≠0):0<y7 (c::l):=by
 have:=ED (iEA c (.head l) h);lia
theorem Hd0.bare{l:List Int}(h:Hd0 l):Hd0 (s8 l):=by
 cases l with
 |nil=>trivial
 |cons c l=>
  have:=Br (SI (a:=c) l)
  simp only[s8,SJ,Hd0] at*
  intro e;rw[e] at this;simp at this;lia
theorem Jg{c:Int}{l:List Int}(h:c≠0){k:Int}(hk:∀x∈s8 (c::l),k∣x):k=1\/k= -1:=by
 have hp:=CE (l:=l) h
 have:k.natAbs*y7 (c::l)∣y7 (c::l):=by
  refine Dz (c::l) 0 _ (Nat.dvd_zero _) fun x hx=>?_
  refine oE (hk _ (Tg.2 (iEA x hx rfl))) fun d hd=>?_
  rw[←Br hx,hd]
  have e:((k.natAbs*y7 (c::l):Nat):Int)=(k.natAbs:Int)*(y7 (c::l):Int):=by push_cast;rfl
  rw[e]
  have:(k.natAbs:Int)∣k:=Int.natAbs_dvd.2 (Int.dvd_refl k)
  refine oE this fun z hz=>?_;clear this
  refine⟨z*d,?_⟩
  conv=>lhs;rw[hz]
  grind
 have h1:k.natAbs=1:=by
  have hle:=Nat.le_of_dvd hp this
  rcases n012 k.natAbs with e|e|e
  ·rw[e,Nat.zero_mul] at this
   have:=Nat.eq_zero_of_zero_dvd this
   lia
  ·exact e
  ·have:=Qx (y7 (c::l)) e;lia
 exact na1 h1
end Mine
end
section
namespace Mine
inductive Rel:(Rat->Rat)->List (Rat->Rat)->Prop
 |one {s}:Pol s->Rel s []
 |pair {s t a q}:0<a->Pol q->Pol s->(∀x,a*s x=q x*t x)->Rel t []->Rel s [t]
 |cons {s t u l a b q}:0<a->0<b->Pol q->Pol s->(∀x,a*s x=q x*t x-b*u x)->Rel t (u::l)->Rel s (t::u::l)
noncomputable def lastOf:(Rat->Rat)->List (Rat->Rat)->(Rat->Rat)
 |s,[]=>s
 |_,t::l=>lastOf t l
theorem Rel.pol_last{s l}(h:Rel s l):Pol (lastOf s l):=by
 induction h with
 |one p=>exact p
 |pair _ _ _ _ _ ih=>exact ih
 |cons _ _ _ _ _ _ ih=>exact ih
theorem Rel.div{s l}(h:Rel s l):(∃u,Pol u/\∀x,s x=lastOf s l x*u x)/\∀t m,l=t::m->∃v,Pol v/\∀x,t x=lastOf s l x*v x:=by
 induction h with
 |one p=>exact⟨(iEA _ (.const 1) (fun x=>by simp only[lastOf];grind)),fun Z Z e=>by cases e⟩
 | @pair s t a q ha hq hs e h ih=>
  refine oEA (Ce ha) fun i hi ei=>?_
  refine⟨(iEA _ ((Pol.const i).mul hq) (fun x=>?_)),fun Z Z e=>?_⟩
  ·have:=e x;simp only[lastOf];grind
  ·cases e;exact(iEA _ (.const 1) (fun x=>by simp only[lastOf];grind))
 | @cons s t u l a b q ha hb hq hs e h ih=>
  (refine oA ih fun o0_ h2=>?_;clear ih;refine oEA o0_ fun f pf ef=>?_;clear o0_)
  refine oEA (h2 _ _ rfl) fun g pg eg=>?_
  refine oEA (Ce ha) fun i hi ei=>?_
  refine⟨(iEA _ ((Pol.const i).mul ((hq.mul pf).sub (Pol.smul b pg))) (fun x=>?_)),fun Z Z e=>?_⟩
  ·have h1:=e x;have h2:=ef x;have h3:=eg x
   simp only[lastOf] at*
   generalize lastOf u l x=D at*
   have:s x=i*(a*s x):=by grind
   rw[this,h1,h2,h3];grind
  ·cases e;exact(iEA f pf ef)
theorem Rel.chn{s l}(h:Rel s l){k:Rat}(hk:k≠0)(e:∀x,lastOf s l x=k):Chn s l:=by
 induction h with
 |one p=>exact .one hk e
 |pair _ _ hs _ _ ih=>exact .pair hs (ih e)
 |cons ha hb hq hs er _ ih=>exact .cons ha hb hq hs er (ih e)
inductive W2(E:Rat->Rat):List (List Int)->List (Rat->Rat)->Prop
 |nil:W2 E [] []
 |cons {r f rs fs}:(∀x,ev r x=E x*f x)->W2 E rs fs->W2 E (r::rs) (f::fs)
theorem Ed{E:Rat->Rat}(hE:Pol E)(E0:¬ ∀x,E x=0)(k:Nat):∀(prev cur:List Int)(s c:Rat->Rat),Hd0 prev->Hd0 cur->cur.length<=k->Pol s->Pol c->(∀x,ev prev x=E x*s x)->(∀x,ev cur x=E x*c x)->
  ∃ss,W2 E (J6 k prev cur) ss/\∀(w:Rat->Rat)(a:Rat)(q:Rat->Rat),0<a->Pol q->Pol w->(∀x,a*w x=q x*s x-c x)->Rel w (s::ss):=by
 induction k with
 |zero=>
  intro prev cur s c h1 h2 hl ps pc es ec
  have:cur=[]:=PQ (by lia)
  subst this
  have c0:∀x,c x=0:=Pol.cancel hE pc E0 fun x=>by rw[←ec];rfl
  exact(iEA ([]) .nil (fun w a q ha hq hw e=> .pair ha hq hw (fun x=>by rw[e,c0];grind) (.one ps)))
 |succ k ih=>
  intro prev cur s c h1 h2 hl ps pc es ec
  rw[J6]
  cases cur with
  |nil=>
   have c0:∀x,c x=0:=Pol.cancel hE pc E0 fun x=>by rw[←ec];rfl
   exact(iEA ([]) .nil (fun w a q ha hq hw e=> .pair ha hq hw (fun x=>by rw[e,c0];grind) (.one ps)))
  |cons c0 cs=>
   rw[if_neg (by simp)]
   have hg:=CE (l:=cs) h2
   have hg':(0:Rat)<(y7 (c0::cs):Rat):=Rat.natCast_pos.2 hg
   refine oEA (Ce hg') fun i hi ei=>?_
   have eb:=Me (c0::cs)
   have hb:=Hd0.bare h2
   obtain⟨t0,ts,et⟩:∃t0 ts,s8 (c0::cs)=t0::ts:=(iEE _ _ rfl)
   have hlen:ts.length=cs.length:=by
    have:=L8 (c0::cs);rw[et] at this;simpa using this
   have hb':Hd0 (t0::ts):=et ▸ hb
   (refine oAA (Q9 prev.length prev t0 ts hb' h1) fun o0_ r2 r3=>?_;refine M3 o0_ fun a q ha hq er=>?_;clear o0_)
   have et':∀x,ev (s8 (c0::cs)) x=E x*(i*c x):=fun x=>by
    have h1:=eb x;have h2:=ec x
    rw[h2] at h1
    generalize ev (s8 (c0::cs)) x=z at*
    have:z=i*((y7 (c0::cs):Rat)*z):=by grind
    rw[this,h1];grind
   have eN:∀x,ev ((s6 prev (s8 (c0::cs))).map (- ·)) x=E x*(q x*(i*c x)-a*s x):=fun x=>by
    have e1:=er x;have e2:=et' x;have e3:=es x
    rw[Nm]
    rw[et] at e2 ⊢
    unfold s6
    generalize ev (V1 prev.length prev (t0::ts)) x=z at*
    rw[e2,e3] at e1;grind
   refine oEA (ih (s8 (c0::cs)) ((s6 prev (s8 (c0::cs))).map (- ·)) (fun x=>i*c x) (fun x=>q x*(i*c x)-a*s x)
    hb (by rw[et];exact r2.neg) (by
     rw[et];have:=r3 (TA _);simp[s6] at*;lia) (pc.smul i) ((hq.mul (pc.smul i)).sub (ps.smul a)) et' eN) fun ss rows rel=>?_
   refine(iEA _ (.cons et' rows) (fun w b p hb hp hw e=>?_))
   refine .cons hb hg' hp hw (fun x=>?_) (rel s a q ha hq ps fun x=>by grind)
   rw[e x];grind
end Mine
end
section
namespace Mine
noncomputable def Der(f f':Rat->Rat):Prop:=∀x,∃g,Pol g/\(∀y,f y=f x+(y-x)*g y)/\g x=f' x
theorem Der.const(c:Rat):Der (fun Z=>c) fun Z=>0:=fun x=>⟨_, .const 0,fun y=>by grind,rfl⟩
theorem Der.id:Der (fun x=>x) fun Z=>1:=fun x=>⟨_, .const 1,fun y=>by grind,rfl⟩
theorem Der.add{f f' g g'}(h:Der f f')(k:Der g g'):Der (fun x=>f x+g x) fun x=>f' x+g' x:=fun x=>by
 refine L1 (h x) fun a pa ea va=>?_;refine L1 (k x) fun b pb eb vb=>?_
 exact⟨_,pa.add pb,fun y=>by have h1:=ea y;have h2:=eb y;grind,by rw[va,vb]⟩
theorem Der.mul{f f' g g'}(pg:Pol g)(h:Der f f')(k:Der g g'):Der (fun x=>f x*g x) fun x=>f' x*g x+f x*g' x:=fun x=>by
 refine L1 (h x) fun a pa ea va=>?_;refine L1 (k x) fun b pb eb vb=>?_
 exact⟨_,(pa.mul pg).add (Pol.smul (f x) pb),fun y=>by have h1:=ea y;have h2:=eb y;grind,by rw[va,vb]⟩
theorem Der.congr{f f' g g'}(h:Der f f')(e:∀x,g x=f x)(e':∀x,g' x=f' x):Der g g':=by
 have:g=f:=funext e
 have h':g'=f':=funext e'
 rw[this,h'];exact h
theorem MY(x:Rat):¬ ∀y:Rat,y-x=0:=fun h=>by have:=h (x+1);grind
theorem Bj{x c:Rat}{g h:Rat->Rat}(pg:Pol g)(ph:Pol h)(e:∀y,(y-x)*g y=c*((y-x)*h y)):∀y,g y=c*h y:=by
 have:=Pol.cancel (Pol.sub .id (.const x)) (pg.sub (ph.smul c)) (MY x) fun y=>by have:=e y;grind
 intro y;have:=this y;grind
theorem Der.unique{f f' f''}(h:Der f f')(k:Der f f'')(x:Rat):f' x=f'' x:=by
 refine L1 (h x) fun a pa ea va=>?_;refine L1 (k x) fun b pb eb vb=>?_
 have:=Bj (x:=x) (c:=1) pa pb fun y=>by have:=ea y;have:=eb y;grind
 rw[←va, ←vb,this];grind
theorem Der.pow(n:Nat):Der (fun x=>x ^ (n+1)) fun x=>((n+1:Nat):Rat)*x ^ n:=by
 induction n with
 |zero=>exact Der.id.congr (fun x=>by simp[Tu]) fun x=>by simp
 |succ n ih=>exact(Der.mul .id ih .id).congr (fun x=>Tu x (n+1)) fun x=>by rw[Tu];push_cast;grind
noncomputable def E6:List Int->List Int
 |[]=>[]
 |[_]=>[]
 |c::d::r=>c*((d::r).length:Int)::E6 (d::r)
theorem BR(row:List Int):(E6 row).length=row.length-1:=by
 induction row with
 |nil=>rfl
 |cons c r ih=>
  cases r with
  |nil=>rfl
  |cons d r=>simp only[E6,RB] at*;lia
theorem Der.ev(row:List Int):Der (ev row) (ev (E6 row)):=by
 induction row with
 |nil=>exact .const 0
 |cons c r ih=>
  cases r with
  |nil=>exact(Der.const (c:Rat)).congr (fun x=>by simp[Mine.ev];grind) fun x=>by simp[E6,Mine.ev]
  |cons d r=>
   refine(((Der.const (c:Rat)).mul (Pol.pow _) (Der.pow r.length)).add ih).congr (fun x=>by simp only[Mine.ev,RB]) fun x=>?_
   simp only[E6,Mine.ev,BR,RB,QY];push_cast;grind
noncomputable def dR:List Int->Rat->Rat
 |[],_=>0
 |r::l,x=>prodR l x+(x-r)*dR l x
theorem Pol.dR(l:List Int):Pol (dR l):=by
 induction l with
 |nil=>exact .const 0
 |cons r l ih=>exact(Pol.prodR l).add ((Pol.sub .id (.const _)).mul ih)
theorem Der.prodR(l:List Int):Der (prodR l) (dR l):=by
 induction l with
 |nil=>exact .const 1
 |cons r l ih=>
  have h1:Der (fun x=>x-(r:Rat)) fun Z=>1:=(Der.id.add (.const (-(r:Rat)))).congr (fun x=>by grind) fun x=>by grind
  exact(Der.mul (Pol.prodR l) h1 ih).congr (fun x=>rfl) fun x=>by simp only[dR];grind
theorem E3{l:List Int}{r:Int}(h:r∈l):prodR l r=0:=by
 induction l with
 |nil=>cases h
 |cons q l ih=>
  rcases SH.1 h with rfl|h
  ·simp only[prodR];grind
  ·simp only[prodR,ih h];grind
theorem Af{l:List Int}{r:Int}(h:r∉l):prodR l r≠0:=by
 induction l with
 |nil=>simp[prodR]
 |cons q l ih=>
  simp only[SH,not_or] at h
  have h1:(r:Rat)-(q:Rat)≠0:=fun e=>h.1 (Si.1 (by grind))
  simp[prodR,RW,h1,ih h.2]
theorem Ml{l:List Int}{r:Rat}{T:Rat->Rat}(pT:Pol T)(e:∀x,prodR l x=(x-r)*T x):dR l r=T r:=by
 refine L1 (Der.prodR l r) fun g pg eg vg=>?_
 have e0:=e r
 have:=Bj (x:=r) (c:=1) pg pT fun y=>by have h1:=eg y;have h2:=e y;grind
 rw[←vg,this];grind
theorem NE(E:List Int)(P:Rat->Rat)(pP:Pol P)(h:∀e∈E,P ((e:Int):Rat)=0):
  ∃w,Pol w/\(∀x,dR E x*P x=prodR E x*w x)/\∀(r:Int)(p:Rat->Rat),Pol p->P r=0->(∀x,P x=(x-r)*p x)->∃n:Nat,w r=n*p r:=by
 induction E with
 |nil=>exact⟨_, .const 0,fun x=>by simp only[dR];grind,fun r p Z Z Z=>⟨0,by simp⟩⟩
 |cons e E ih=>
  refine L1 (ih fun e he=>h e (.tail _ he)) fun w pw ew vw=>?_
  refine oEA (pP.factor e) fun p pp ep=>?_
  have h0:=h e (.head _)
  refine⟨_,pp.add pw,fun x=>?_,fun r p' pp' h0' ep'=>?_⟩
  ·have h1:=ew x;have h2:=ep x
   simp only[dR,prodR]
   have:(prodR E x+(x-(e:Rat))*dR E x)*P x=prodR E x*P x+(x-(e:Rat))*(dR E x*P x):=by grind
   rw[this,h1,h2,h0];grind
  ·refine oE (vw r p' pp' h0' ep') fun n hn=>?_
   by_cases hr:r=e
   ·subst hr
    have:=Bj (x:=(r:Rat)) (c:=1) pp pp' fun y=>by have h1:=ep y;have h2:=ep' y;grind
    exact⟨n+1,by rw[hn,this];push_cast;grind⟩
   ·have hne:(r:Rat)-(e:Rat)≠0:=fun e'=>hr (Si.1 (by grind))
    have h1:=ep r
    rw[h0',h0] at h1
    have:p r=0:=by
     have:((r:Rat)-(e:Rat))*p r=0:=by grind
     rw[RW] at this
     exact this.resolve_left hne
    exact⟨n,by rw[this,hn];grind⟩
theorem Bx(K:List Int)(Q D v:Rat->Rat)(pQ:Pol Q)(pD:Pol D)(pv:Pol v)(e:∀x,prodR K x*Q x=D x*v x)(h:∀r∈K,D ((r:Int):Rat)≠0):∃v',Pol v'/\∀x,Q x=D x*v' x:=by
 induction K generalizing v with
 |nil=>exact⟨v,pv,fun x=>by rw[←e];simp only[prodR];grind⟩
 |cons r K ih=>
  refine oEA (pv.factor r) fun v1 p1 e1=>?_
  have hr:=h r (.head _)
  have h0:=e r
  simp only[prodR] at h0
  have v0:v r=0:=by
   have:D r*v r=0:=by rw[←h0];grind
   rw[RW] at this
   exact this.resolve_left hr
  refine ih v1 p1 (fun x=>?_) fun r hr=>h r (.tail _ hr)
  have:=Bj (x:=(r:Rat)) (c:=1) ((Pol.prodR K).mul pQ) (pD.mul p1) fun y=>by
   have h1:=e y;have h2:=e1 y
   simp only[prodR] at h1
   rw[h2,v0] at h1;grind
  rw[this x];grind
theorem Dg.zero_eq{c f}(h:Dg 0 c f)(x:Rat):f x=c:=by cases h;rfl
theorem Pol.unit{D v:Rat->Rat}{k:Rat}(pD:Pol D)(pv:Pol v)(hk:k≠0)(e:∀x,k=D x*v x):∃d,d≠0/\∀x,D x=d:=by
 rcases pD.nrm with h|⟨n,c,c0,h⟩
 ·exact absurd (by rw[e 0,h];grind) hk
 ·rcases pv.nrm with h'|⟨m,d,d0,h'⟩
  ·exact absurd (by rw[e 0,h'];grind) hk
  ·have:=(h.mul h').const_of (k:=k) (by simp[RW,c0,d0]) fun x=>(e x).symm
   have n0:n=0:=by lia
   subst n0
   exact⟨c,c0,h.zero_eq⟩
theorem JK{Q D v u w X:Rat->Rat}{m e:Int}{L:List Int}{k:Rat}(he:0<e)(hk:k≠0)
  (hQ:∀x:Rat,Q x=(x-m)*(x-m)+e)(pQ:Pol Q)(pD:Pol D)(pv:Pol v)(pu:Pol u)(pX:Pol X)
  (eQ:∀x,Q x=D x*v x)(ew:∀x,w x=D x*u x)(eX:∀x,w x=X x*Q x+k*prodR L x):∃d,d≠0/\∀x,D x=d:=by
 have he':(0:Rat)<(e:Rat):=Rat.intCast_pos.2 he
 have sq:∀y:Rat,0<=y*y:=fun y=>by
  rcases(show 0<=y\/y<=0 by grind) with h|h
  ·exact Sr h h
  ·have:=Sr (show 0<= -y by grind) (show 0<= -y by grind);grind
 have Qpos:∀x,0<Q x:=fun x=>by rw[hQ];have:=sq (x-m);grind
 have dQ:Dg 2 1 Q:=by
  have:=(Dg.ev 1 [-2*m,m*m+e])
  refine(this.cast rfl (by simp)).congr fun x=>?_
  rw[hQ];simp[ev];grind
 rcases pD.nrm with h|⟨n,c,c0,h⟩
 ·have:=Qpos 0;rw[eQ,h] at this;grind
 ·rcases pv.nrm with h'|⟨j,d,d0,h'⟩
  ·have:=Qpos 0;rw[eQ,h'] at this;grind
  ·refine oA ((h.mul h').unique (dQ.congr fun x=>(eQ x).symm) (by simp[RW,c0,d0]) (by grind)) fun u1 u2=>?_
   rcases(show n=0\/n=1\/(n=2/\j=0) by lia) with rfl|rfl|⟨rfl,rfl⟩
   ·exact⟨c,c0,h.zero_eq⟩
   ·exfalso
    obtain⟨a,ea⟩:∃a,∀x,D x=a+x*c:=by
     cases h with
     |step a p=>exact⟨a,fun x=>by have:=p.zero_eq x;dsimp only;rw[this]⟩
    have:=Qpos (-a*c⁻¹)
    have hc:=Rf c c0
    rw[eQ,ea] at this
    have:a+ -a*c⁻¹*c=0:=by rw[Rat.mul_assoc,hc];grind
    grind
   ·exfalso
    have ev:=h'.zero_eq
    have hd:=Rf d d0
    refine oEA (Bx L (fun Z=>k) Q (fun x=>d⁻¹*u x-X x) (.const k) pQ ((pu.smul _).sub pX) (fun x=>by
     have h1:=eX x;have h2:=ew x;have h3:=eQ x
     rw[ev] at h3
     have:D x*u x=Q x*(d⁻¹*u x):=by rw[h3];grind
     grind) fun r Z=>by have:=Qpos r;grind) fun z pz ez=>?_
    refine oEA (Pol.unit (k:=k) pQ pz hk ez) fun d' Z hd'=>?_
    have:=dQ.const_of (by grind) hd'
    lia
end Mine
end
section
namespace Mine
theorem Dg.same{n c d f}(h:Dg n c f)(k:Dg n d f):c=d:=PX fun hn=>
 (h.add (Dg.smul (-1) k)).not_zero (by grind) fun x=>by grind
theorem IT{row:List Int}{n:Nat}{c:Int}(hl:row.length=n+1)(h:Dg n c (ev row)):∃r,row=c::r/\r.length=n:=by
 cases row with
 |nil=>cases hl
 |cons d r=>
  have hr:r.length=n:=by simpa using hl
  have:=((Dg.ev d r).cast hr rfl).same h
  exact(iEA r (by rw[Si.1 this]) hr)
theorem Dg.prodR(l:List Int):Dg l.length 1 (prodR l):=by
 induction l with
 |nil=>exact .const 1
 |cons r l ih=>
  have h1:Dg 1 1 (fun x=>x-(r:Rat)):=(Dg.step (-(r:Rat)) (.const 1)).congr fun x=>by grind
  exact((h1.mul ih).cast (by simp[Tt]) (by grind)).congr fun x=>rfl
theorem Dg.product(l:List Int):Dg l.length 1 (Mine.ev (a9 l)):=(Dg.prodR l).congr (B3 l)
theorem B0(l:List Int):∃r,a9 l=1::r/\r.length=l.length:=IT (i5 l) ((Dg.product l).cast rfl (by simp))
theorem J0{a b:Int}{as bs:List Int}:∃r,b0 (a::as) (b::bs)=(a*b)::r/\r.length=as.length+bs.length:=
 IT (by rw[y1];simp;lia) ((((Dg.ev a as).mul (Dg.ev b bs)).cast rfl (by push_cast;rfl)).congr (X3 _ _))
theorem Eg(a b:List Int)(x:Rat):prodR (a++b) x=prodR a x*prodR b x:=by
 induction a with
 |nil=>simp only[Sb,prodR];grind
 |cons r a ih=>simp only[RG,prodR,ih];grind
theorem BH{l:List Int}{r:Int}(h:r∈l)(x:Rat):prodR l x=(x-r)*prodR (l.erase r) x:=by
 induction l with
 |nil=>cases h
 |cons q l ih=>
  by_cases e:q=r
  ·subst e;simp[prodR]
  ·rw[List.erase_cons_tail (by simpa using e)]
   simp only[prodR,ih ((SH.1 h).resolve_left fun h=>e h.symm)];grind
noncomputable def PJ(row:List Int):Prop:=Hd0 row/\row≠[]/\∀k:Int,(∀x∈row,k∣x)->k=1\/k= -1
theorem FH(k:Nat):∀prev cur,Hd0 prev->Hd0 cur->∀row∈J6 k prev cur,PJ row:=by
 induction k with
 |zero=>intro prev cur _ _ row h;cases h
 |succ k ih=>
  intro prev cur hp hc row h
  rw[J6] at h
  cases cur with
  |nil=>cases h
  |cons c0 cs=>
   rw[if_neg (by simp)] at h
   have hb:=Hd0.bare hc
   rcases SH.1 h with rfl|h
   ·exact(iAA hb (by simp[s8]) (fun k hk=>Jg hc hk))
   ·refine ih _ _ hb ?_ row h
    obtain⟨t0,ts,et⟩:∃t0 ts,s8 (c0::cs)=t0::ts:=(iEE _ _ rfl)
    rw[et] at hb ⊢
    exact(Q9 prev.length prev t0 ts hb hp).2.1.neg
theorem W2.last{E:Rat->Rat}{r:List Int}{rs:List (List Int)}{s:Rat->Rat}{ss:List (Rat->Rat)}(h:W2 E (r::rs) (s::ss)):
  ∀x,ev ((r::rs).getLast (by simp)) x=E x*lastOf s ss x:=by
 induction ss generalizing r rs s with
 |nil=>
  cases h with
  |cons e h=>cases h;exact e
 |cons t ss ih=>
  cases h with
  |cons e h=>
   cases h with
   |cons e2 h=>
    have:=ih (.cons e2 h)
    intro x
    rw[List.getLast_cons (by simp)];exact this x
noncomputable def W3(q:List Int):Prop:=q=[1]\/∃m e:Int,0<e/\q=[1, -2*m,m*m+e]
theorem W3.ev{q}(h:W3 q):(∀x,ev q x=1)\/∃m e:Int,0<e/\(∀x:Rat,ev q x=(x-m)*(x-m)+e)/\∀x:Rat,ev (E6 q) x=2*(x-m):=by
 rcases h with rfl|⟨m,e,he,rfl⟩
 ·exact .inl fun x=>by simp[Mine.ev];grind
 ·exact .inr (H5 m e he (fun x=>by simp[Mine.ev];grind) (fun x=>by simp[Mine.ev,E6];grind))
theorem W3.head{q}(h:W3 q):∃r,q=1::r:=by
 rcases h with rfl|⟨m,e,he,rfl⟩
 ·exact⟨_,rfl⟩
 ·exact⟨_,rfl⟩
theorem sqn(y:Rat):0<=y*y:=by
 rcases(show 0<=y\/y<=0 by grind) with h|h
 ·exact Sr h h
 ·have:=Sr (show 0<= -y by grind) (show 0<= -y by grind);grind
theorem W3.pos{q}(h:W3 q)(x:Rat):0<Mine.ev q x:=by
 rcases h.ev with e|⟨m,e,he,h1,_⟩
 ·rw[e];grind
 ·have:=Rat.intCast_pos.2 he;rw[h1];have:=sqn (x-m);grind
section
variable{f6 K E others:List Int}{lead:Int}{q:List Int}
theorem HU(hq:W3 q)(hr:∀x,prodR f6 x=prodR E x*prodR K x)(nd:K.Nodup)(hE:∀e∈E,e∈K\/e∈others):
  ∃w w1:Rat->Rat,Pol w/\Pol w1/\(∀x,ev (b0 (E6 (b0 (a9 f6) q)) ((a9 others).map (lead* ·))) x=prodR E x*w x)/\
   (∀x,w x=(w1 x+dR K x*(lead*prodR others x))*ev q x+prodR K x*ev (E6 q) x*(lead*prodR others x))/\
   ∀r∈K,∃n:Nat,w ((r:Int):Rat)=(n+1)*(prodR (K.erase r) r*ev q r*(lead*prodR others r)):=by
 have pg:Pol fun x=>(lead:Rat)*prodR others x:=(Pol.prodR others).smul _
 have pP:Pol fun x=>prodR K x*(lead*prodR others x):=(Pol.prodR K).mul pg
 refine L1 (NE E _ pP fun e he=>by
  rcases hE e he with h|h
  ·rw[E3 h];grind
  ·rw[E3 h];grind) fun w1 p1 e1 v1=>?_
 refine(Fp (fun x=>(w1 x+dR K x*(lead*prodR others x))*ev q x+prodR K x*ev (E6 q) x*(lead*prodR others x)) w1 ?_ p1 ?_ (fun x=>rfl) ?_)
 ·exact((p1.add ((Pol.dR K).mul pg)).mul (Pol.ev q)).add (((Pol.prodR K).mul (Pol.ev _)).mul pg)
 ·intro x
  have d1:=Der.ev (b0 (a9 f6) q)
  have d2:Der (ev (b0 (a9 f6) q)) _:=
   (Der.mul (Pol.ev q) (Der.mul (Pol.prodR K) (Der.prodR E) (Der.prodR K)) (Der.ev q)).congr (fun x=>by rw[X3,B3,hr]) fun x=>rfl
  rw[X3,d1.unique d2 x,S2,B3]
  have:=e1 x
  dsimp only at this ⊢
  generalize prodR others x=G at*
  generalize dR E x=A at*
  generalize prodR K x=B at*
  generalize prodR E x=C at*
  generalize w1 x=W at*
  generalize(lead:Rat)=M at*
  have e:(A*B+C*dR K x)*ev q x*(M*G)=A*(B*(M*G))*ev q x+C*(dR K x*(M*G))*ev q x:=by grind
  grind
 ·intro r hr'
  have eT:=BH hr'
  have h1:=Ml (Pol.prodR _) eT
  have h0:=E3 hr'
  refine oE (v1 r (fun x=>prodR (K.erase r) x*(lead*prodR others x)) ((Pol.prodR _).mul pg) (by rw[h0];grind) fun x=>by rw[eT];grind) fun n hn=>?_
  exact⟨n,by dsimp only;rw[hn,h1,h0];grind⟩
end
namespace G9
noncomputable def T(f6:List Int)(K:List Int)(E:List Int)(others:List Int)(lead:Int)(q:List Int):Prop:=∀(hq:W3 q)(hr:∀x,prodR f6 x=prodR E x*prodR K x)(nd:K.Nodup)(hE:∀e∈E,e∈K\/e∈others)(hK:∀r∈K,r∉others)(hl:lead≠0)(hn:f6≠[]),∃ss,W2 (prodR E) (E7 (b0 (a9 f6) q) (s6 (b0 (E6 (b0 (a9 f6) q)) ((a9 others).map (lead* ·))) (b0 (a9 f6) q))) ((fun x=>prodR K x*ev q x)::ss)/\
   Chn (fun x=>prodR K x*ev q x) ss/\(∃d,d≠0/\∀x,lastOf (fun x=>prodR K x*ev q x) ss x=d)/\
   (ss=[]->K=[])/\
   ∀t l,ss=t::l->∀r∈K,∃c:Rat,0<c/\t ((r:Int):Rat)=c*(prodR (K.erase r) r*ev q r*(lead*prodR others r))
noncomputable def P9:=V4 fun f6 K E others=>U2 fun lead q=>T f6 K E others lead q
@[irreducible] noncomputable def c:=y6 (by k_extra "ne") P9
@[irreducible] noncomputable def f6:=c.1.1
@[irreducible] noncomputable def K:=c.1.2.1
@[irreducible] noncomputable def E:=c.1.2.2.1
@[irreducible] noncomputable def others:=c.1.2.2.2
@[irreducible] noncomputable def lead:=c.2.1
@[irreducible] noncomputable def q:=c.2.2
theorem walk:T f6 K E others lead q:=by
 intro hq hr nd hE hK hl hn
 refine Ir (HU (lead:=lead) hq hr nd hE) fun w w1 pw pw1 ew fw vw=>?_
 refine oE hq.head fun qr eq=>?_
 refine oEA (B0 f6) fun pr ep lp=>?_
 obtain⟨fr,ef,lf⟩:∃r,b0 (a9 f6) q=1::r/\r.length=pr.length+qr.length:=by
  rw[ep,eq];exact J0
 have hn':0<f6.length:=List.length_pos_iff.2 hn
 obtain⟨f0,fr',e0⟩:∃a l,fr=a::l:=by
  cases fr with
  |nil=>simp at lf;lia
  |cons a l=>exact(iEE a l rfl)
 refine oEA (B0 others) fun gr eg lg=>?_
 have hslope:Hd0 (b0 (E6 (b0 (a9 f6) q)) ((a9 others).map (lead* ·))):=by
  refine oEA (J0 (a:=1*((f0::fr').length:Int)) (b:=lead*1) (as:=E6 (f0::fr')) (bs:=gr.map (lead* ·))) fun r hr Z=>?_
  rw[ef,e0,eg,E6,SJ,hr]
  simp only[Hd0,RB]
  refine Int.mul_ne_zero (by lia) (by lia)
 have efx:∀x,ev (b0 (a9 f6) q) x=prodR E x*(prodR K x*ev q x):=fun x=>by
  rw[X3,B3,hr];grind
 (refine oAA (Q9 (b0 (E6 (b0 (a9 f6) q)) ((a9 others).map (lead* ·))).length _ 1 fr (by decide) hslope) fun o0_ r2 Z=>?_;refine M3 o0_ fun a p ha hp er=>?_;clear o0_)
 rw[←ef] at er r2
 have pS:Pol fun x=>prodR K x*ev q x:=(Pol.prodR K).mul (Pol.ev q)
 have E0:¬ ∀x,prodR E x=0:=fun h=>(Dg.prodR E).not_zero (by grind) h
 refine oEA (Ed (Pol.prodR E) E0 _ (b0 (a9 f6) q) (s6 (b0 (E6 (b0 (a9 f6) q)) ((a9 others).map (lead* ·))) (b0 (a9 f6) q))
  (fun x=>prodR K x*ev q x) (fun x=>a*w x-p x*(prodR K x*ev q x)) (by rw[ef];simp[Hd0]) r2 (TA _) pS ((pw.smul a).sub (hp.mul pS)) efx (fun x=>by
   have h1:=er x;have h2:=ew x;have h3:=efx x
   unfold s6
   rw[h2,h3] at h1;grind)) fun ss rows rel=>?_
 have rel':=rel (fun x=> -1*w x) a (fun x=> -1*p x) ha (hp.smul (-1)) (pw.smul (-1)) fun x=>by grind
 (refine oA rel'.div fun o0_ h2=>?_;refine oEA o0_ fun u pu eu=>?_;clear o0_)
 refine oEA (h2 _ _ rfl) fun v pv ev'=>?_
 simp only[lastOf] at eu ev'
 have relS:Rel (fun x=>prodR K x*ev q x) ss:=by
  cases rel' with
  |pair _ _ _ _ h=>exact h
  |cons _ _ _ _ _ h=>exact h
 have pD:=relS.pol_last
 have ne:∀r∈K,prodR (K.erase r) ((r:Int):Rat)*ev q r*(lead*prodR others r)≠0:=fun r hr=>by
  have:=hq.pos (r:Rat)
  have h1:=Af (List.Nodup.not_mem_erase (a:=r) nd)
  have h2:=Af (hK r hr)
  have h3:(lead:Rat)≠0:=fun e=>hl (by simpa using e)
  have h4:ev q (r:Rat)≠0:=by grind
  simp[RW,h1,h2,h3,h4]
 have wne:∀r∈K,w ((r:Int):Rat)≠0:=fun r hr=>by
  refine oE (vw r hr) fun n hn=>?_
  have h1:(0:Rat)<=(n:Rat):=Rat.natCast_nonneg
  have h2:(n:Rat)+1≠0:=by grind
  rw[hn,ne_eq,RW]
  exact fun h=>h.elim h2 (ne r hr)
 have Dne:∀r∈K,lastOf (fun x=>prodR K x*ev q x) ss ((r:Int):Rat)≠0:=fun r hr h=>wne r hr (by have:=eu r;rw[h] at this;grind)
 refine oEA (Bx K (ev q) _ v (Pol.ev q) pD pv (fun x=>ev' x) Dne) fun v1 pv1 ev1=>?_
 have unit:∃d,d≠0/\∀x,lastOf (fun x=>prodR K x*ev q x) ss x=d:=by
  rcases hq.ev with h1|⟨m,e,he,h1,h2⟩
  ·exact Pol.unit (k:=1) pD pv1 (by grind) fun x=>by rw[←h1 x];exact ev1 x
  ·refine JK (w:=w) (X:=fun x=>w1 x+dR K x*(lead*prodR others x)) (L:=K++m::others) (k:=2*(lead:Rat)) he ?_ h1 (Pol.ev q) pD pv1 (pu.smul (-1)) (pw1.add ((Pol.dR K).mul ((Pol.prodR others).smul _))) ev1 (fun x=>by have:=eu x;grind) fun x=>?_
   ·have h3:(lead:Rat)≠0:=fun e=>hl (by simpa using e)
    simp[RW,h3]
   ·rw[fw x,h2,Eg,prodR];grind
 refine oEA unit fun d hd ed=>?_;clear unit
 refine⟨ss, .cons efx rows,relS.chn hd ed,(iEA d hd ed),fun e=>?_,fun t l e r hr=>?_⟩
 ·subst e
  cases rel' with
  |pair ha' hq' _ e _=>
   apply PX
   intro hK0
   refine oE (List.exists_mem_of_ne_nil _ hK0) fun r hr=>?_
   have:=e r
   dsimp only at this
   rw[E3 hr] at this
   have h2:_*(-1*w (r:Rat))=0:=this.trans (by grind)
   rw[RW] at h2
   exact wne r hr (by grind)
 ·subst e
  cases rel' with
  | @cons _ _ _ _ a b q' ha hb hq' _ e _=>
   have h1:=e r
   dsimp only at h1
   rw[E3 hr] at h1
   refine oE (vw r hr) fun n hn=>?_
   refine oEA (Ce hb) fun i hi ei=>?_
   have hn0:(0:Rat)<=(n:Rat):=Rat.natCast_nonneg
   refine(iEA (i*(a*(n+1))) (TJ hi (TJ ha (by grind))) ?_)
   have:t (r:Rat)=i*(b*t r):=by grind
   rw[this]
   have:b*t (r:Rat)=a*w r:=by grind
   rw[this,hn];grind
end G9
section
variable{f6 K E others:List Int}{lead:Int}{q:List Int}
theorem CN{f6 K E others lead q}:G9.T f6 K E others lead q:=f7 (P:=G9.P9) (c:=G9.c) (by with_unfolding_all rfl) (by with_unfolding_all exact G9.walk) ((f6,K,E,others),(lead,q))
end
end Mine
end
section
namespace Mine
noncomputable def sgI:List Int->List Bool
 |[]=>[]
 |v::vs=>if v=0 then sgI vs else decide (0<v)::sgI vs
theorem Mn(l:List Bool):chg (l.map (!·))=chg l:=by
 induction l with
 |nil=>rfl
 |cons a l ih=>
  cases l with
  |nil=>rfl
  |cons b l=>
   simp only[SJ,n4] at ih ⊢
   rw[ih];cases a <;> cases b <;> rfl
theorem Gg(n:Nat):(0:Rat)<2 ^ n:=Rat.pow_pos (by grind)
theorem W9(row:List Int)(twice:Int)(x:Rat)(hx:2*x=(twice:Rat)):(0<i0 row twice↔0<ev row x)/\(i0 row twice<0↔ev row x<0)/\(i0 row twice=0↔ev row x=0):=by
 have e:=FU row twice x hx
 have h1:=PS (b:=ev row x) (Gg row.length)
 have h2:=PT (b:=ev row x) (Gg row.length)
 rw[←e] at h1 h2
 have h3:0<i0 row twice↔0<ev row x:=by rw[←h1, ←Rat.intCast_pos];constructor <;> intro <;> grind
 have h4:i0 row twice<0↔ev row x<0:=by rw[←h2, ←Rat.intCast_neg_iff];constructor <;> intro <;> grind
 refine(iAA h3 h4 ?_)
 constructor
 ·intro h;have a:¬0<ev row x:=fun k=>by have:=h3.2 k;omega
  have b:¬ev row x<0:=fun k=>by have:=h4.2 k;omega
  grind
 ·intro h;have a:¬0<i0 row twice:=fun k=>by have:=h3.1 k;grind
  have b:¬i0 row twice<0:=fun k=>by have:=h4.1 k;grind
  omega
theorem Ib{E:Rat->Rat}{rows:List (List Int)}{fs:List (Rat->Rat)}(h:W2 E rows fs)(twice:Int)(x:Rat)(hx:2*x=(twice:Rat))(h0:E x≠0):
  chg (sgI (rows.map (i0 · twice)))=chV fs x:=by
 have pos:0<E x->sgI (rows.map (i0 · twice))=sg (fs.map fun f=>f x):=by
  intro hp
  induction h with
  |nil=>rfl
  | @cons r f rs fs e h ih=>
   refine oAA (W9 r twice x hx) fun v1 v2 v3=>?_
   rw[e x,PS hp] at v1
   rw[e x,PT hp] at v2
   simp only[SJ,sgI,sg,ih]
   by_cases a:0<f x
   ·have:=v1.2 a;have n0:i0 r twice≠0:=by omega
    simp[a,this,n0]
   ·by_cases b:f x<0
    ·have:=v2.2 b;have n0:i0 r twice≠0:=by omega
     have n1:¬0<i0 r twice:=by omega
     simp[a,b,n0,n1]
    ·have n1:¬0<i0 r twice:=fun h=>a (v1.1 h)
     have n2:¬i0 r twice<0:=fun h=>b (v2.1 h)
     have n0:i0 r twice=0:=by omega
     simp[a,b,n0]
 have neg:E x<0->sgI (rows.map (i0 · twice))=(sg (fs.map fun f=>f x)).map (!·):=by
  clear pos
  intro hp
  induction h with
  |nil=>rfl
  | @cons r f rs fs e h ih=>
   refine oAA (W9 r twice x hx) fun v1 v2 v3=>?_
   have m1:=PS (a:= -E x) (b:=f x) (by grind)
   have m2:=PT (a:= -E x) (b:=f x) (by grind)
   rw[e x] at v1 v2
   simp only[SJ,sgI,sg,ih]
   by_cases a:0<f x
   ·have:=m1.2 a;have:=v2.2 (by grind);have n0:i0 r twice≠0:=by omega
    have n1:¬0<i0 r twice:=by omega
    simp[a,n0,n1]
   ·by_cases b:f x<0
    ·have:=m2.2 b;have p:=v1.2 (by grind);have n0:i0 r twice≠0:=by omega
     simp[a,b,n0,p]
    ·have f0:f x=0:=by grind
     have n1:¬0<i0 r twice:=fun h=>by have:=v1.1 h;rw[f0] at this;grind
     have n2:¬i0 r twice<0:=fun h=>by have:=v2.1 h;rw[f0] at this;grind
     have n0:i0 r twice=0:=by omega
     simp[a,b,n0]
 unfold chV
 rcases(show 0<E x\/E x<0 by grind) with h|h
 ·rw[pos h]
 ·rw[neg h,Mn]
theorem GV(K:List Int)(x y:Rat)(hxy:x<=y)(h:∀r∈K,¬(x<=((r:Int):Rat)/\(r:Rat)<=y)):same (prodR K) x y:=by
 induction K with
 |nil=>exact .inl ⟨by simp only[prodR];grind,by simp only[prodR];grind⟩
 |cons r K ih=>
  have ih:=ih fun r hr=>h r (.tail _ hr)
  have hr:=h r (.head _)
  simp only[same,prodR] at*
  generalize prodR K x=a at*
  generalize prodR K y=b at*
  have mp:∀p q:Rat,0<p->0<q->0<p*q:=fun p q=>TJ
  rcases(show y<r\/r<x by grind) with c|c
  ·have c1:0<r-x:=by grind
   have c2:0<r-y:=by grind
   rcases ih with⟨i1,i2⟩|⟨i1,i2⟩
   ·right;have:=mp _ _ c1 i1;have:=mp _ _ c2 i2;grind
   ·left;have:=mp (r-x) (-a) c1 (by grind);have:=mp (r-y) (-b) c2 (by grind);grind
  ·have c1:0<x-r:=by grind
   have c2:0<y-r:=by grind
   rcases ih with⟨i1,i2⟩|⟨i1,i2⟩
   ·left;exact⟨mp _ _ c1 i1,mp _ _ c2 i2⟩
   ·right;have:=mp (x-r) (-a) c1 (by grind);have:=mp (y-r) (-b) c2 (by grind);grind
theorem Ef(E:List Int)(P:Int)(hP:P % 2=1)(x:Rat)(hx:2*x=(P:Rat)):prodR E x≠0:=by
 induction E with
 |nil=>simp[prodR]
 |cons r E ih=>
  have h1:x-(r:Rat)≠0:=fun e=>by
   have:((P:Int):Rat)=((2*r:Int):Rat):=by push_cast;grind
   have:=Si.1 this;omega
  simp[prodR,RW,h1,ih]
noncomputable def BB(v:Int):Int:=if 0<v then 1 else if v<0 then -1 else 0
noncomputable def span:List Int:=[-4, -3, -2, -1,0,1,2,3,4]
theorem GQ:span.Nodup:=by decide
theorem Lw:∀r∈span, -5<=(r:Rat)/\(r:Rat)<=5:=by
 intro r hr
 have: -5<=r/\r<=5:=by revert r;decide
 have h1:((-5:Int):Rat)<=(r:Rat):=Ql.2 this.1
 have h2:(r:Rat)<=((5:Int):Rat):=Ql.2 this.2
 simp at h1 h2;exact⟨h1,h2⟩
section
variable{f6 K E others:List Int}{lead:Int}{q:List Int}
theorem FF(hq:W3 q)(hr:∀x,prodR f6 x=prodR E x*prodR K x)(nd:K.Nodup)(hE:∀e∈E,e∈K\/e∈others)(hK:∀r∈K,r∉others)(hl:lead≠0)(hn:f6≠[])
  (hKr:∀r∈K,r∈f6)(hrK:∀r∈f6,r∈K\/r∈others)(hs:∀r∈f6,r∈span)(P P':Int)(hP:P % 2=1)(hP':P' % 2=1)(h1: -9<=P)(h2:P<=P')(h3:P'<=9)
  (chain:List (List Int))(ec:chain=E7 (b0 (a9 f6) q) (s6 (b0 (E6 (b0 (a9 f6) q)) ((a9 others).map (lead* ·))) (b0 (a9 f6) q))):
  chg (sgI (chain.map (i0 · P)))-chg (sgI (chain.map (i0 · P')))=
   (span.map fun r=>if P<2*r/\2*r<P' then(if r∈f6 then BB (i0 ((a9 others).map (lead* ·)) (2*r)) else 0) else 0).sum:=by
 refine KP (CN (lead:=lead) hq hr nd hE hK hl hn) fun ss rows ch Z c3 c4=>?_
 obtain⟨x,hx⟩:∃x:Rat,2*x=(P:Rat):=⟨(P:Rat)*(2⁻¹),by grind⟩
 obtain⟨y,hy⟩:∃y:Rat,2*y=(P':Rat):=⟨(P':Rat)*(2⁻¹),by grind⟩
 rw[ec,Ib rows P x hx (Ef E P hP x hx),Ib rows P' y hy (Ef E P' hP' y hy)]
 have q1:((-9:Int):Rat)<=(P:Rat):=Ql.2 h1
 have q2:(P':Rat)<=((9:Int):Rat):=Ql.2 h3
 have q3:(P:Rat)<=(P':Rat):=Ql.2 h2
 simp at q1 q2
 have ed:(span.map fun r=>if P<2*r/\2*r<P' then(if r∈f6 then BB (i0 ((a9 others).map (lead* ·)) (2*r)) else 0) else 0).sum=due (fun r=>if r∈f6 then BB (i0 ((a9 others).map (lead* ·)) (2*r)) else 0) span x y:=by
  unfold due
  congr 1
  apply QG
  intro r _
  have a1:P<2*r↔x<(r:Rat):=by
   rw[←Rat.intCast_lt_intCast];push_cast;constructor <;> intro <;> grind
  have a2:2*r<P'↔(r:Rat)<y:=by
   rw[←Rat.intCast_lt_intCast];push_cast;constructor <;> intro <;> grind
  simp only[a1,a2]
 rw[ed]
 have val:∀r:Int,(0<i0 ((a9 others).map (lead* ·)) (2*r)↔0<lead*prodR others r)/\(i0 ((a9 others).map (lead* ·)) (2*r)<0↔lead*prodR others r<0)/\(i0 ((a9 others).map (lead* ·)) (2*r)=0↔lead*prodR others r=0):=fun r=>by
  have:=W9 ((a9 others).map (lead* ·)) (2*r) r (by push_cast;rfl)
  rw[S2,B3] at this;exact this
 cases ss with
 |nil=>
  have k0:=c3 rfl
  subst k0
  have z:∀z:Rat,chV [fun x=>prodR [] x*ev q x] z=0:=fun z=>by
   have:=hq.pos z
   simp only[chV,SJ,Tx,prodR]
   rw[w0 (by grind)];rfl
  rw[z,z,Bo];rfl
  intro r _ _ _
  split
  ·rename_i hr'
   have ho:=(hrK r hr').resolve_left (by simp)
   have:=(val r).2.2.2 (by rw[E3 ho];grind)
   rw[this];rfl
  ·rfl
 |cons t l=>
  have pt:Pol t:=by
   cases ch with
   |pair _ h=>exact h.pol
   |cons _ _ _ _ _ h=>exact h.pol
  obtain⟨d,hd⟩:∃d:Nat,P'=P+2*d:=⟨((P'-P) / 2).toNat,by rw[Int.toNat_of_nonneg (Int.ediv_nonneg (Int.sub_nonneg_of_le h2) (by decide)),Int.mul_ediv_cancel' (Int.dvd_of_emod_eq_zero (by rw[Int.sub_emod,hP',hP];rfl)),Int.add_comm,Int.sub_add_cancel]⟩
  refine ch.tarski pt span GQ Lw ?_ ?_ P d hP x y hx ?_ (by grind) (by grind)
  ·intro r hr'
   by_cases hk:r∈K
   ·right
    refine(V8 (fun x=>prodR (K.erase r) x*ev q x) ((Pol.prodR _).mul (Pol.ev q)) (fun x=>by dsimp only;rw[BH hk];grind) ?_)
    refine oEA (c4 t l rfl r hk) fun c hc et=>?_
    simp only[hKr r hk,if_true]
    have w1:=Af (List.Nodup.not_mem_erase (a:=r) nd)
    have w2:=Af (hK r hk)
    have w3:=hq.pos (r:Rat)
    have w4:(lead:Rat)≠0:=fun e=>hl (by simpa using e)
    refine oAA (val r) fun v1 v2 v3=>?_
    have g0:(lead:Rat)*prodR others r≠0:=by simp[RW,w2,w4]
    have T0:prodR (K.erase r) r*ev q r≠0:=by
     have:ev q (r:Rat)≠0:=by grind
     simp[RW,w1,this]
    rw[et]
    generalize(lead:Rat)*prodR others r=g at*
    generalize prodR (K.erase r) (r:Rat)*ev q r=T at*
    have mp:∀p q:Rat,0<p->0<q->0<p*q:=fun p q=>TJ
    unfold Bs opp BB
    rcases(show 0<T\/T<0 by grind) with t1|t1 <;> rcases(show 0<g\/g<0 by grind) with t2|t2
    ·left;have:=mp c _ hc (mp T g t1 t2);have:=v1.2 t2;simp[this,t1];grind
    ·right;have:=mp c _ hc (mp T (-g) t1 (by grind));have n:=v2.2 t2;have n1:¬0<i0 ((a9 others).map (lead* ·)) (2*r):=by omega
     simp[n,n1,t1];grind
    ·left;have:=mp c _ hc (mp (-T) g (by grind) t2);have:=v1.2 t2;simp[this,t1];grind
    ·right;have:=mp c _ hc (mp (-T) (-g) (by grind) (by grind));have n:=v2.2 t2;have n1:¬0<i0 ((a9 others).map (lead* ·)) (2*r):=by omega
     simp[n,n1,t1];grind
   ·left
    have w1:=Af hk
    have w3:=hq.pos (r:Rat)
    refine⟨?_,?_⟩
    ·have:ev q (r:Rat)≠0:=by grind
     simp[RW,w1,this]
    ·dsimp only;split
     ·rename_i hr2
      have ho:=(hrK r hr2).resolve_left hk
      have:=(val r).2.2.2 (by rw[E3 ho];grind)
      rw[this];rfl
     ·rfl
  ·intro u v _ huv _ hh
   have:=GV K u v huv fun r hr'=>hh r (hs r (hKr r hr')) (by dsimp only;rw[E3 hr'];grind)
   have pu:=hq.pos u
   have pv:=hq.pos v
   have mp:∀p q:Rat,0<p->0<q->0<p*q:=fun p q=>TJ
   simp only[same] at*
   rcases this with⟨i1,i2⟩|⟨i1,i2⟩
   ·exact .inl ⟨mp _ _ i1 pu,mp _ _ i2 pv⟩
   ·right;have:=mp (-prodR K u) _ (by grind) pu;have:=mp (-prodR K v) _ (by grind) pv;grind
  ·have:((P':Int):Rat)=((P+2*d:Int):Rat):=by rw[hd]
   push_cast at this;grind
end
end Mine
end
section
namespace Mine
section
variable{f6 K E others:List Int}{lead:Int}{q:List Int}
theorem Hq(hq:W3 q)(hr:∀x,prodR f6 x=prodR E x*prodR K x)(nd:K.Nodup)(hE:∀e∈E,e∈K\/e∈others)(hK:∀r∈K,r∉others)(hl:lead≠0)(hn:f6≠[])
  (chain:List (List Int))(ec:chain=E7 (b0 (a9 f6) q) (s6 (b0 (E6 (b0 (a9 f6) q)) ((a9 others).map (lead* ·))) (b0 (a9 f6) q)))(hne:chain≠[]):
  chain.getLast hne=a9 E\/chain.getLast hne=(a9 E).map (- ·):=by
 (refine KP (CN (lead:=lead) hq hr nd hE hK hl hn) fun ss rows ch o0_ c3 c4=>?_;refine oEA o0_ fun d hd ed=>?_;clear o0_)
 refine oE hq.head fun qr eq=>?_
 refine oEA (B0 f6) fun pr ep lp=>?_
 obtain⟨fr,ef,lf⟩:∃r,b0 (a9 f6) q=1::r/\r.length=pr.length+qr.length:=by
  rw[ep,eq];exact J0
 have hn':0<f6.length:=List.length_pos_iff.2 hn
 obtain⟨f0,fr',e0⟩:∃a l,fr=a::l:=by
  cases fr with
  |nil=>simp at lf;lia
  |cons a l=>exact(iEE a l rfl)
 refine oEA (B0 others) fun gr eg lg=>?_
 have hslope:Hd0 (b0 (E6 (b0 (a9 f6) q)) ((a9 others).map (lead* ·))):=by
  refine oEA (J0 (a:=1*((f0::fr').length:Int)) (b:=lead*1) (as:=E6 (f0::fr')) (bs:=gr.map (lead* ·))) fun r hr Z=>?_
  rw[ef,e0,eg,E6,SJ,hr]
  simp only[Hd0,RB]
  refine Int.mul_ne_zero (by lia) (by lia)
 have hrest:Hd0 (s6 (b0 (E6 (b0 (a9 f6) q)) ((a9 others).map (lead* ·))) (b0 (a9 f6) q)):=by
  have:=(Q9 (b0 (E6 (b0 (a9 f6) q)) ((a9 others).map (lead* ·))).length _ 1 fr (by decide) hslope).2.1
  rw[←ef] at this;exact this
 have prim:∀row∈chain,PJ row:=by
  intro row h
  rw[ec,E7] at h
  rcases SH.1 h with rfl|h
  ·rw[ef]
   refine(iAA (by simp[Hd0]) (by simp) (fun k hk=>?_))
   have:=Int.natAbs_dvd_natAbs.2 (hk 1 (.head _))
   have:=Nat.le_of_dvd (by decide) this
   have h0:k.natAbs≠0:=fun e=>by
    have:k=0:=by lia
    subst this
    have:=hk 1 (.head _)
    simp at this
   have:k.natAbs=1:=by simp at this;lia
   exact na1 this
  ·exact FH _ _ _ (by rw[ef];simp[Hd0]) hrest row h
 have hlast:∀x,ev (chain.getLast hne) x=prodR E x*d:=fun x=>by
  have h1:chain.getLast hne=(E7 (b0 (a9 f6) q) (s6 (b0 (E6 (b0 (a9 f6) q)) ((a9 others).map (lead* ·))) (b0 (a9 f6) q))).getLast (by simp[E7]):=by
   congr 1
  rw[h1, ←ed x]
  exact rows.last x
 refine oAA (prim _ (List.getLast_mem hne)) fun p1 p2 p3=>?_
 generalize chain.getLast hne=row at*
 cases row with
 |nil=>exact absurd rfl p2
 |cons c l=>
  have dd:Dg E.length d (ev (c::l)):=((Dg.smul d (Dg.prodR E)).cast rfl (by grind)).congr fun x=>by rw[hlast];grind
  refine oA ((Dg.ev c l).unique dd (fun e=>p1 (Rat.intCast_eq_zero_iff.1 e)) hd) fun u1 u2=>?_
  have e:c::l=(a9 E).map (c* ·):=by
   apply Nn
   ·rw[RT,i5];simp;lia
   ·intro x;rw[S2,B3,hlast,u2];grind
  have:=p3 c fun x hx=>by
   rw[e] at hx
   (refine oEA (Tg.1 hx) fun y Z o0_=>?_;obtain rfl:=o0_)
   exact Int.dvd_mul_right c y
  rcases this with rfl|rfl
  ·left;rw[e];simp
  ·right;rw[e];congr 1;funext y;lia
end
noncomputable def Big(M:Nat)(row:List Int):Prop:=∀x∈row,x.natAbs<=M
theorem Big.getD{M row}(h:Big M row)(i:Nat):(row.getD i 0).natAbs<=M:=by
 by_cases hi:i<row.length
 ·exact h _ (A8 hi)
 ·rw[PV,Qq (by lia)];simp
theorem Big.tStep{A B M a b k row j}(ha:Big A a)(hb:Big B b)(h:Big M row):Big (M+A*B) (tStep a b k row j):=by
 intro x hx
 rcases List.mem_or_eq_of_mem_set hx with hx|rfl
 ·have:=h x hx;lia
 ·have h1:=h.getD (k+j)
  have h2:=SF (ha.getD k) (hb.getD j)
  have h3:=Int.natAbs_add_le (row.getD (k+j) 0) (a.getD k 0*b.getD j 0)
  rw[Sy] at h3
  exact Td h3 (Sx h1 h2)
theorem Big.tRow{A B M a b k row}(ha:Big A a)(hb:Big B b)(h:Big M row)(m:Nat):Big (M+m*(A*B)) (tRow a b row k m):=by
 induction m with
 |zero=>simpa[Mine.tRow] using h
 |succ m ih=>rw[Bv];have:=Big.tStep ha hb ih (k:=k) (j:=m);rw[Tw, ←SP];exact this
theorem Big.tAll{A B a b}(ha:Big A a)(hb:Big B b)(m:Nat):Big (m*(b.length*(A*B))) (tAll a b m):=by
 induction m with
 |zero=>intro x hx;simp[Mine.tAll] at hx;simp[hx.2]
 |succ m ih=>rw[Bw,Tw];exact Big.tRow ha hb ih _
theorem Big.times{A B a b}(ha:Big A a)(hb:Big B b):Big (a.length*(b.length*(A*B))) (b0 a b):=Big.tAll ha hb _
theorem Big.mono{M N row}(h:Big M row)(e:M<=N):Big N row:=fun x hx=>Td (h x hx) e
theorem Big.mapmul{M row}(h:Big M row)(c:Int):Big (c.natAbs*M) (row.map (c* ·)):=by
 intro x hx
 (refine oEA (Tg.1 hx) fun y hy o0_=>?_;obtain rfl:=o0_)
 rw[Sy];exact QF _ (h y hy)
theorem Big.neg{M row}(h:Big M row):Big M (row.map (- ·)):=by
 intro x hx
 (refine oEA (Tg.1 hx) fun y hy o0_=>?_;obtain rfl:=o0_)
 rw[SA];exact h y hy
theorem Big.strip{M row}(h:Big M row):Big M (A6 row):=fun x hx=>h x ((List.dropWhile_sublist _).mem hx)
theorem Big.bare{M row}(h:Big M row):Big M (s8 row):=by
 intro x hx
 (refine oEA (Tg.1 hx) fun y hy o0_=>?_;obtain rfl:=o0_)
 have e:=congrArg Int.natAbs (Br hy)
 rw[Sy] at e
 have:=h y hy
 by_cases g:y7 row=0
 ·rw[g];simp
 ·have:(y.fdiv (y7 row)).natAbs<=y.natAbs:=by
   rw[←e];exact Nat.le_mul_of_pos_left _ (by simp;lia)
  lia
theorem Big.der{M row}(h:Big M row):Big (M*row.length) (E6 row):=by
 induction row with
 |nil=>intro x hx;cases hx
 |cons c r ih=>
  have ih:=ih fun x hx=>h x (.tail _ hx)
  cases r with
  |nil=>intro x hx;cases hx
  |cons d r=>
   intro x hx
   rcases SH.1 hx with rfl|hx
   ·rw[Sy];exact SF (h c (.head _)) (by rw[Int.natAbs_natCast];simp)
   ·exact Td (ih x hx) (QF _ (by simp))
theorem DM{x:Int}{b:Nat}(h:x.natAbs<2 ^ b):PySem.Builtin.Int.intBits x<=b:=by
 unfold PySem.Builtin.Int.intBits
 split
 ·exact TC _
 ·rename_i h0
  have h0:x.natAbs≠0:=by simpa using h0
  have:=(Nat.log2_lt h0).2 h
  lia
noncomputable def Bt(b:Nat)(row:List Int):Prop:=∀x∈row,x.natAbs<2 ^ b
theorem Bt.mono{b c row}(h:Bt b row)(e:b<=c):Bt c row:=fun x hx=>QR (h x hx) (QC (by decide) e)
theorem Bt.getD{b row}(h:Bt b row)(i:Nat):(row.getD i 0).natAbs<2 ^ b:=by
 by_cases hi:i<row.length
 ·exact h _ (A8 hi)
 ·rw[PV,Qq (by lia)];simp;exact Nat.pow_pos (by decide)
theorem Bt.step{b c one two}(h:Bt b one)(k:Bt c two):Bt (b+c+1) (z0 one two):=by
 intro x hx
 (refine oEA (Tg.1 hx) fun i Z o0_=>?_;obtain rfl:=o0_)
 have a1:=k.getD 0
 have a2:=h.getD (i+1)
 have a3:=h.getD 0
 have a4:=k.getD (i+1)
 have m1:=Nat.mul_lt_mul'' a1 a2
 have m2:=Nat.mul_lt_mul'' a3 a4
 have e1:2 ^ c*2 ^ b=2 ^ (b+c):=by rw[←Nat.pow_add,Tt]
 have e2:2 ^ b*2 ^ c=2 ^ (b+c):=by rw[←Nat.pow_add]
 rw[e1] at m1;rw[e2] at m2
 have e3:2 ^ (b+c+1)=2 ^ (b+c)+2 ^ (b+c):=by rw[Nat.pow_succ,Nat.mul_two]
 unfold MM
 have n1:(((two.getD 0 0).natAbs:Int)*one.getD (i+1) 0).natAbs<2 ^ (b+c):=by rw[Sy,Int.natAbs_natCast];exact m1
 have n2:(if i+1<two.length then(if 0<two.getD 0 0 then one.getD 0 0 else -one.getD 0 0)*two.getD (i+1) 0 else 0:Int).natAbs<2 ^ (b+c):=by
  split
  ·rw[Sy]
   have:(if 0<two.getD 0 0 then one.getD 0 0 else -one.getD 0 0).natAbs=(one.getD 0 0).natAbs:=by split <;> simp
   rw[this];exact m2
  ·simp;exact Nat.pow_pos (by decide)
 generalize(((two.getD 0 0).natAbs:Int)*one.getD (i+1) 0)=u at*
 generalize(if i+1<two.length then(if 0<two.getD 0 0 then one.getD 0 0 else -one.getD 0 0)*two.getD (i+1) 0 else 0:Int)=v at*
 rw[e3]
 exact QS (Int.natAbs_sub_le u v) (Nat.add_lt_add n1 n2)
theorem Bt.strip{b row}(h:Bt b row):Bt b (A6 row):=fun x hx=>h x ((List.dropWhile_sublist _).mem hx)
theorem Bt.neg{b row}(h:Bt b row):Bt b (row.map (- ·)):=by
 intro x hx
 (refine oEA (Tg.1 hx) fun y hy o0_=>?_;obtain rfl:=o0_)
 rw[SA];exact h y hy
theorem Bt.bare{b row}(h:Bt b row):Bt b (s8 row):=by
 have hb:Big (2 ^ b-1) row:=fun x hx=>Nat.le_sub_one_of_lt (h x hx)
 exact fun x hx=>QS (hb.bare x hx) (Nat.sub_lt (Nat.pow_pos (by decide)) (by decide))
theorem Cr(k:Nat):∀(one two:List Int)(b c:Nat),Bt b one->Bt c two->b+k*(c+1)+c<=2 ^ 27->AS k one two/\Bt (b+k*(c+1)) (V1 k one two):=by
 induction k with
 |zero=>intro one two b c h1 h2 _;exact⟨trivial,by simpa[V1] using h1⟩
 |succ k ih=>
  intro one two b c h1 h2 h3
  rw[Tw] at h3 ⊢
  refine oA (ih (A6 (z0 one two)) two (b+c+1) c (h1.step h2).strip h2 (pl5 h3)) fun i1 i2=>?_
  refine⟨fun Z=>⟨fun x hx y hy=>?_,i1⟩,?_⟩
  ·exact pl4 (DM (h1 x hx)) (DM (h2 y hy)) h3
  ·rw[V1];split
   ·exact h1.mono (by lia)
   ·exact i2.mono (by lia)
theorem FI(k:Nat):∀(prev cur:List Int)(b c:Nat),Hd0 prev->Hd0 cur->prev.length<=6->cur.length<=6->Bt b prev->Bt c cur->b<=c->(c+1)*8 ^ k<=2 ^ 26->
  W8 k prev cur/\∀row∈J6 k prev cur,row.length<=6/\Bt ((c+1)*8 ^ k) row:=by
 induction k with
 |zero=>intro prev cur b c _ _ _ _ _ _ _ _;exact⟨trivial,fun row h=>by cases h⟩
 |succ k ih=>
  intro prev cur b c hp hc lp lc h1 h2 h3 h4
  have hb:=Hd0.bare hc
  have p8:0<8 ^ k:=Nat.pow_pos (by decide)
  have e8:(c+1)*8 ^ (k+1)=((c+1)*8)*8 ^ k:=by rw[Nat.pow_succ];grind
  have l8:(c+1)*8<=(c+1)*8 ^ (k+1):=QF _ (by rw[Nat.pow_succ];lia)
  refine oA (Cr prev.length prev (s8 cur) b c h1 h2.bare (by
   exact pl1 h3 l8 h4 (Qx (c+1) lp))) fun r1 r2=>?_
  have key:∀c0 cs,cur=c0::cs->Hd0 (s6 prev (s8 cur))/\(s6 prev (s8 cur)).length<cur.length:=by
   intro c0 cs e
   obtain⟨t0,ts,et⟩:∃t0 ts,s8 cur=t0::ts:=by rw[e];exact(iEE _ _ rfl)
   have hlen:ts.length=cs.length:=by
    have:=L8 cur;rw[et,e] at this;simpa using this
   have hb':Hd0 (t0::ts):=et ▸ hb
   refine oAA (Q9 prev.length prev t0 ts hb' hp) fun Z q2 q3=>?_
   rw[et];refine⟨q2,?_⟩
   have:=q3 (TA _)
   rw[e];simp[s6] at*;lia
  have nxt:∀c0 cs,cur=c0::cs->W8 k (s8 cur) ((s6 prev (s8 cur)).map (- ·))/\∀row∈J6 k (s8 cur) ((s6 prev (s8 cur)).map (- ·)),row.length<=6/\Bt ((c+1)*8 ^ (k+1)) row:=by
   intro c0 cs e
   refine oA (key c0 cs e) fun k1 k2=>?_
   have bd:Bt (b+6*(c+1)) (s6 prev (s8 cur)):=r2.mono (QJ (Qx (c+1) lp) b)
   refine oA (ih (s8 cur) ((s6 prev (s8 cur)).map (- ·)) c (b+6*(c+1)) hb k1.neg (by rw[L8];exact lc) (by rw[RT];lia) h2.bare bd.neg (by lia) (by
    rw[e8] at h4
    exact Td (Qx _ (pl3 h3)) h4)) fun i1 i2=>?_
   refine⟨i1,fun row hr=>⟨(i2 row hr).1,(i2 row hr).2.mono ?_⟩⟩
   rw[e8];exact Qx _ (pl3 h3)
  refine⟨fun hpos=>?_,fun row hr=>?_⟩
  ·cases cur with
   |nil=>simp at hpos
   |cons c0 cs=>
    exact(Ft (iEA c0 (.head _) hc) (by lia) r1 ((key c0 cs rfl).2) ((nxt c0 cs rfl).1))
  ·rw[J6] at hr
   cases cur with
   |nil=>cases hr
   |cons c0 cs=>
    rw[if_neg (by simp)] at hr
    rcases SH.1 hr with rfl|hr
    ·exact⟨by rw[L8];exact lc,h2.bare.mono (pl2 l8)⟩
    ·exact(nxt c0 cs rfl).2 row hr
end Mine
end
section
namespace Mine
theorem AW(l:List Int)(h:∀r∈l,r.natAbs<=4):∀(row:List Int)(A:Nat),row.length+l.length<=6->Big A row->Big (A*40 ^ l.length) (l.foldl (fun row r=>b0 row [1, -r]) row):=by
 induction l with
 |nil=>intro row A _ hA;simpa using hA
 |cons r l ih=>
  intro row A hl hA
  have hr:=h r (.head _)
  have i2:Big 4 [1, -r]:=by intro x hx;simp at hx;rcases hx with rfl|rfl;decide;rw[SA];exact hr
  have h1:=hA.times i2
  have e0:row.length*([1, -r].length*(A*4))=A*(8*row.length):=by simp;grind
  rw[e0] at h1
  have hl':row.length<=5:=by simp at hl;lia
  have h2:=ih (fun r hr=>h r (.tail _ hr)) (b0 row [1, -r]) (A*40) (by rw[y1];simp at hl ⊢;lia) (h1.mono (QF _ (by lia)))
  rw[Sf,RB,Nat.pow_succ,Nat.mul_comm (40 ^ l.length), ←Nat.mul_assoc]
  exact h2
theorem AO(l:List Int)(h:∀r∈l,r.natAbs<=4)(hn:l.length<=4):Big (40 ^ l.length) (a9 l):=by
 have:=AW l h [1] 1 (by simp;lia) (by intro x hx;simp at hx;subst hx;decide)
 rw[Nat.one_mul] at this;exact this
theorem Big.bt{M b row}(h:Big M row)(e:M<2 ^ b):Bt b row:=fun x hx=>QS (h x hx) e
theorem OH{n:Nat}(h:n<=4):40 ^ n<=2560000:=Td (QC (by decide) h) (by decide)
structure Dom(f6 others:List Int)(lead:Int)(q:List Int):Prop where
 rs:∀r∈f6,r.natAbs<=4
 os:∀r∈others,r.natAbs<=4
 rl:f6.length+q.length=5
 r2:2<=f6.length
 ol:others.length=2
 ld:lead.natAbs=1
 qb:Big 40 q
 q1:W3 q
section
variable{f6 others:List Int}{lead:Int}{q:List Int}
theorem Dom.ql(d:Dom f6 others lead q):1<=q.length/\q.length<=3:=by
 have:=d.r2;have:=d.rl
 (refine oE d.q1.head fun r o0_=>?_;obtain rfl:=o0_)
 simp at*;lia
theorem Dom.first_len(d:Dom f6 others lead q):(b0 (a9 f6) q).length=5:=by
 have:=d.rl;rw[y1,i5];lia
theorem Dom.first_big(d:Dom f6 others lead q):Big (2 ^ 32) (b0 (a9 f6) q):=by
 have h1:=AO f6 d.rs (by have:=d.ql;have:=d.rl;lia)
 have h2:=(h1.mono (OH (by have:=d.ql;have:=d.rl;lia))).times d.qb
 refine h2.mono ?_
 rw[i5]
 have e1:f6.length+1<=5:=by have:=d.ql;have:=d.rl;lia
 have e2:q.length<=3:=d.ql.2
 exact Td (SF e1 (Qx _ e2)) (by decide)
theorem Dom.slope_big(d:Dom f6 others lead q):Big (2 ^ 35) (E6 (b0 (a9 f6) q)):=by
 have:=d.first_big.der
 rw[d.first_len] at this
 exact this.mono (by decide)
theorem Dom.slope_len(d:Dom f6 others lead q):(E6 (b0 (a9 f6) q)).length=4:=by rw[BR,d.first_len]
theorem Dom.second_big(d:Dom f6 others lead q):Big 1600 ((a9 others).map (lead* ·)):=by
 have h1:=AO others d.os (by have:=d.ol;lia)
 have:=h1.mapmul lead
 rw[d.ol,d.ld] at this
 exact this.mono (by decide)
theorem Dom.second_len(d:Dom f6 others lead q):((a9 others).map (lead* ·)).length=3:=by rw[RT,i5,d.ol]
theorem Dom.top_len(d:Dom f6 others lead q):(b0 (E6 (b0 (a9 f6) q)) ((a9 others).map (lead* ·))).length=6:=by rw[y1,d.slope_len,d.second_len]
theorem Dom.top_bt(d:Dom f6 others lead q):Bt 60 (b0 (E6 (b0 (a9 f6) q)) ((a9 others).map (lead* ·))):=by
 have:=d.slope_big.times d.second_big
 rw[d.slope_len,d.second_len] at this
 exact this.bt (by decide)
theorem Dom.sizes(d:Dom f6 others lead q):
  AS (b0 (E6 (b0 (a9 f6) q)) ((a9 others).map (lead* ·))).length (b0 (E6 (b0 (a9 f6) q)) ((a9 others).map (lead* ·))) (b0 (a9 f6) q)/\
  (s6 (b0 (E6 (b0 (a9 f6) q)) ((a9 others).map (lead* ·))) (b0 (a9 f6) q)).length<=4/\
  W8 (s6 (b0 (E6 (b0 (a9 f6) q)) ((a9 others).map (lead* ·))) (b0 (a9 f6) q)).length (b0 (a9 f6) q) (s6 (b0 (E6 (b0 (a9 f6) q)) ((a9 others).map (lead* ·))) (b0 (a9 f6) q))/\
  ∀row∈E7 (b0 (a9 f6) q) (s6 (b0 (E6 (b0 (a9 f6) q)) ((a9 others).map (lead* ·))) (b0 (a9 f6) q)),row.length<=6/\Bt (2 ^ 26) row:=by
 have fb:Bt 40 (b0 (a9 f6) q):=d.first_big.bt (by decide)
 refine oA (Cr (b0 (E6 (b0 (a9 f6) q)) ((a9 others).map (lead* ·))).length _ _ 60 40 d.top_bt fb (by rw[d.top_len];decide)) fun k1 k2=>?_
 refine oE d.q1.head fun qr eq=>?_
 refine oEA (B0 f6) fun pr ep lp=>?_
 obtain⟨fr,ef,lf⟩:∃r,b0 (a9 f6) q=1::r/\r.length=pr.length+qr.length:=by
  rw[ep,eq];exact J0
 obtain⟨f0,fr',e0⟩:∃a l,fr=a::l:=by
  cases fr with
  |nil=>have:=d.r2;simp at lf;lia
  |cons a l=>exact(iEE a l rfl)
 refine oEA (B0 others) fun gr eg lg=>?_
 have hslope:Hd0 (b0 (E6 (b0 (a9 f6) q)) ((a9 others).map (lead* ·))):=by
  refine oEA (J0 (a:=1*((f0::fr').length:Int)) (b:=lead*1) (as:=E6 (f0::fr')) (bs:=gr.map (lead* ·))) fun r hr Z=>?_
  rw[ef,e0,eg,E6,SJ,hr]
  have:=d.ld
  simp only[Hd0,RB]
  refine Int.mul_ne_zero (by lia) (by lia)
 refine oAA (Q9 (b0 (E6 (b0 (a9 f6) q)) ((a9 others).map (lead* ·))).length _ 1 fr (by decide) hslope) fun Z r2 r3=>?_
 rw[←ef] at r2 r3
 have r3:=r3 (TA _)
 have lfr:fr.length=4:=by have:=d.first_len;rw[ef] at this;simpa using this
 rw[lfr] at r3
 rw[d.top_len] at k2
 refine oA (FI (s6 (b0 (E6 (b0 (a9 f6) q)) ((a9 others).map (lead* ·))) (b0 (a9 f6) q)).length (b0 (a9 f6) q) (s6 (b0 (E6 (b0 (a9 f6) q)) ((a9 others).map (lead* ·))) (b0 (a9 f6) q)) 40 (60+6*(40+1)) (by rw[ef];simp[Hd0]) r2 (by rw[d.first_len];lia) (Td r3 (by lia)) fb (by unfold s6;rw[d.top_len] at*;exact k2) (by lia) (by
   exact Td (QF _ (QC (by decide) r3)) (by decide))) fun c1 c2=>?_
 refine(Js k1 r3 c1 (fun row hr=>?_))
 rcases SH.1 hr with rfl|hr
 ·exact⟨by rw[d.first_len];lia,fb.mono (by decide)⟩
 ·refine⟨(c2 row hr).1,(c2 row hr).2.mono ?_⟩
  exact Td (QF _ (QC (by decide) r3)) (by decide)
end
end Mine
end
section
open PySem PySem.W PySem.Calls PyProof.Rows PySem.Spec
namespace Mine
section
variable{prog:UF}{w:Va}{A:UP}{E:UX->UO->Prop}{env:Vn}{s:UO}{h₀:Vg}{L:Vf}{m:Vk->Option UX}{news:List (Vf×Vl)}
 {scope:Vb} {cl:List (Vk×Vf)} {elt:Vh} {ifs:List Vh} {fin:UO->(Vk->Option UX)->List (Vf×Vl)->Vf->List UX->Nat->Vg->Nat->Prop}
theorem Mt{kb:Bool}{t:Vk}{tt:Vm}{x:Vk}{px:Pos}(G:Nat->Vg->Vg->UX->Prop)(hh:A.handled=none)(hsz:t.cps.size<=Ux)
  (hx:scope.names.lookup x=some .local)(hkind:scope.kind= .function)(F:Fr h₀ L s.heap m)(N:News h₀ L s.heap news)
  (elts:∀i c u C oC m' H tk rest E',t.cps[i]? =some c->NsO oC m'->m' x=some (.str ⟨#[c]⟩ u)->Fr h₀ L H m->News h₀ L H ((C,oC)::(news++rest))->
   UY (UZ prog w) A (Vi elt (Uw scope cl C env)) (j3 h₀ L m rest (G i H) {s with heap:=H,toks:=tk}) E' {s with heap:=H,toks:=tk})
  (hfin:∀(s₂:UO),(∃h tk,s₂={s with heap:=h,toks:=tk})->∀D ys k h' tk,Fr h₀ L h' m->News h₀ L h' ((D,listOf ys.toArray k)::news)->(∀q∈news,q.1≠D)->Paired (fun j y=>∃hb ha,G j hb ha y/\C5 hb ha h') (TS t.cps.size) ys->fin s₂ m news D ys k h' tk):
  UY (UZ prog w) A (UU (.str t tt)) (fun it s₂=>Y9 kb prog w A env scope cl (.Name x px) [] elt h₀ L it s₂ (fin s₂)) E s:=by
 have main:∀(ty:String)(o:Vl),(∀(i:Nat)(h:Vg),h.IsStrIter s.heap.objs.size ty t tt i->∃o,h.get? s.heap.objs.size=some o)->Walks prog w A s.heap.objs.size [s.heap.objs.size] [s.heap.objs.size] t.cps.size (SignAt t) (fun i h=>h.IsStrIter s.heap.objs.size ty t tt i)->
   (s.heap.push o).IsStrIter s.heap.objs.size ty t tt 0->Y9 kb prog w A env scope cl (.Name x px) [] elt h₀ L (.ref s.heap.objs.size) {s with heap:=s.heap.push o} (fin {s with heap:=s.heap.push o}):=by
  intro ty o hth W hst
  refine Mu (n:=t.cps.size) (Bd:=fun i u=>∃v,SignAt t i v/\u x=some v) (fun Z=>true) G hsz (St:=fun i h=>h.IsStrIter s.heap.objs.size ty t tt i) hst ?_ ?_ (F.push _) (fun q hq=>⟨Qj _ (N q hq).1,(N q hq).2⟩) ?_ ?_ ?_ W.sub ?_ ?_ fun D ys k h' tk F' N' O P=>hfin _ (iEE _ _ rfl) D ys k h' tk F' N' O (by rw[s7] at P;exact P)
  ·intro b hb
   show b<(s.heap.push _).objs.size
   rw[Ss,QQ.mp hb]
   exact RC _
  ·intro C hC
   have hC':s.heap.objs.size+1<=C:=by
    have h9:(s.heap.push _).objs.size<=C:=hC
    rwa[Ss] at h9
   refine Ca.name W ?_ (Qu hx) (by simp[Uw,UJ,hkind]) ?_
   ·intro i h q b hb
    rw[QQ.mp hb];exact hth i h q
   ·intro hm
    have hm':C∈[s.heap.objs.size]:=hm
    exact absurd hC' (Ug.mpr (by rw[QQ.mp hm'];exact RC _))
  ·intro hm
   exact absurd F.ns.lt ((QQ.mp hm) ▸ SK _)
  ·intro b hb
   rw[QQ.mp hb];exact TL F
  ·intro q hq hm
   exact absurd (Tc (N q hq).1) ((QQ.mp hm) ▸ SK _)
  ·rintro i C oC u H tk rest E' hi _ hO F' N'
   exact z8 (p9.intro F' N' (fun p hp=> .tail _ (RS.mpr (.inr hp))) rfl)
  ·(intro i C oC u H tk rest E' hi hp r0_;(refine oEA r0_ fun v o0_ hu=>?_;clear r0_;obtain⟨c,uu,hc,rfl⟩:=o0_);intro hO F' N')
   exact elts i c uu C oC u H tk rest E' hc hO hu F' N'
 cases ha:t.cps.all (· <128)
 ·exact wpAny_pyIter_wide ha (main _ _ (fun i h x=>x.elim fun o e=>⟨o,e.1⟩) (Walks.strWide hh _ t tt) (V8 _ (QD _ rfl) rfl rfl))
 ·exact wpAny_pyIter_ascii ha (main _ _ (fun i h x=>x.elim fun o e=>⟨o,e.1⟩) (Walks.strAscii hh _ t tt) (V8 _ (QD _ rfl) rfl rfl))
end
end Mine
end
section
open PySem PySem.W PySem.Calls PyProof.Rows
namespace Mine
open S (sK0 sK6 sK2)
noncomputable def Jr(x:Vk):List Int:=x.cps.toList.map fun(c:Nat)=>(c:Int)
noncomputable def Y2(x:Vk):Array UInt8:=byteArr (Jr x)
section
variable{w:Va}{loose:List Vk}{mean:UH->Option UX}{mg mb:Vk->Option UX}
theorem BJ(x:Vk)(t:Vm):Ct w loose mean mg mb 2 220 [.str x t] (fun h=>x.cps.size<1000/\∀c∈x.cps.toList,c<256) (fun h h' r=>∃t,r= .bytes (Y2 x) t):=by
 unfold Ct PR
 k_fill
 intro dp un gd cn cs a ccd cl outer A₀ base h₀ L m s Q E B F X T Se hk hd hu hpre hret
 refine oA hpre fun hn hc=>?_;clear hpre
 refine TV ?_
 k_dflt (refine' enter (binds:=[(Ta "text", .str x t)]) ?k1 ?k2 ?k3 ?k5 ?kA ?kF ?kK ?k6 ?k7 ?k8 ?k9 ?kB ?_ ?c2 ?c3 ?c4 ?c5;(case kA=>exact rfl);(case kF=>exact rfl);(case kK=>assumption);(case k1=>k_asm);(case k2=>k_asm);(case k3=>k_asm);(case k5=>k_asm);(case k6=>k_is);(case k7=>k_is);(case k8=>ktr_room);(case k9=>exact SL rfl);(case c5=>decide);(case kB=>exact locs rfl);(case c2=>exact rfl);(case c3=>exact rfl);(case c4=>exact rfl);k_whole;intro L' h' F' N' B' X' T';have Se':=Qc Se (Fr.keep F);(try dsimp only);(try k_lift B');(try k_fold))
 k_steps
 unfold g9
 refine j5 (h₀:=s.heap) (L:=L') (by with_unfolding_all rfl) (by decide) (by with_unfolding_all rfl) (by decide) (by intro _;with_unfolding_all rfl) ?_
 k_steps
 unfold g9
 refine Mt (fun i Z Z y=>∃t,y= .int ((Jr x).getD i 0) t) rfl (by rw[Tz];omega) (by with_unfolding_all rfl) (by with_unfolding_all rfl) F' N' ?elts ?fin
 case elts=>
  rintro i c u C oC m' H tk rest E' hv hO hu F8 N8
  have hr':(Jr x).getD i 0=(c:Int):=by
   have:(Jr x)[i]? =some (c:Int):=by simp[Jr,hv]
   exact v4 this
  simp only[Sb] at N8
  k_steps
  rename News _ _ _ _=>N9
  exact j3.intro (by k_asm) N9 (fun p hp=>by repeat(first|exact hp|exact RS.mpr (.inr hp)|apply List.Mem.tail)) ⟨_,by rw[hr']⟩
 case fin=>
  (intro _ r0_;(refine oEE r0_ fun Z Z o0_=>?_;clear r0_;obtain rfl:=o0_);intro D8 ys k8 h8 tk8 F8 N8 O8 P8)
  have I8:UG ys (Jr x):=by
   have:=g8 P8
   have e:=j6 id (Jr x)
   rw[show(Jr x).length=x.cps.size by simp[Jr]] at e
   simp only[id,List.map_id_fun'] at e
   rw[e] at this
   simpa using this
  k_steps
  k_dflt (refine call_bytes_ints (isL N8 (.head _)) I8 ?r ?z rfl ?_)
  case r=>intro n hn';(refine oEA (Tg.mp hn') fun c hc' o0_=>?_;obtain rfl:=o0_);exact⟨QV _,ltI (hc c hc') (by decide)⟩
  case z=>rw[I8.length,Tz];simp only[Jr,RT,Array.length_toList];omega
  intro h9 t9 k9 hk9
  have F9:=Fr.up F8 hk9
  k_steps
  all_goals(refine Lv.intro F9 ?_;intro kp;exact hret _ _ _ kp ⟨_,rfl⟩)
end
end Mine
end
section
open PySem PySem.W PySem.Calls PyProof.Rows PySem.Spec
namespace Mine
theorem Hc{K:Frag}{h:Vg}{a:Vf}{mg:Vk->Option UX}{n:Vk}(X:K.In h)(G:h.Ns a mg)(e:nsIn K a n=some none):mg n=none:=by
 refine BK G fun o es ep ho hd Z hf=>?_;clear G
 unfold nsIn at e
 split at e
 ·rename_i c d es' n' sl q
  have:=X _ _ q
  rw[ho] at this
  cases this
  cases hd
  split at e
  ·cases e
  ·rename_i he
   rw[←hf]
   unfold nsFind findBy
   rw[←Array.find?_toList,he]
   rfl
 ·cases e
theorem Ld{w:Va}{h:Vg}{p:UF}{loose:List Vk}{mean:UH->Option UX}{mg mb:Vk->Option UX}(X:(_root_.Mine.Sh.hd.heap_39 w.params).In h)(T:Top p loose mean mg mb h):NoneBooked h:=by
 refine oEA T.nodigits fun mc hn Z=>?_
 refine(iEA mc hn (Hc X hn ?_))
 rfl
end Mine
end
section
open PySem PySem.W PySem.Calls PyProof.Rows PySem.Spec
namespace Mine
section
variable{prog:UF}{w:Va}{A:UP}{E:UX->UO->Prop}{s:UO}{env:Vn}{h₀:Vg}{x:Vk}{body:List Stmt}{Q:Flow->UO->Prop}
end
namespace T1
noncomputable def T(prog:UF)(w:Va)(A:UP)(E:UX->UO->Prop)(s:UO)(env:Vn)(h₀:Vg)(x:Vk)(body:List Stmt)(Q:Flow->UO->Prop)(px:Pos)(tx:Vk)(t:Vm)(n0:Nat)(m₀:Vk->Option UX)(news:List (Prod Vf Vl))(J:Nat->(Vk->Option UX)->Prop):Prop:=∀(hh:A.handled=none)(hx:env.kindOf x=some .local)(hp:(env.scope.kind == .class || (env.scope.kind == .module && env.locals != env.globals))=false)(hE:PassesOwn (UZ prog w) A env E)(F:Fr h₀ env.locals s.heap m₀)(N:News h₀ env.locals s.heap news)(hn0:n0<=s.toks)(h0:J 0 m₀)(step:∀i c u m₁ h tk own,tx.cps[i]? =some c->n0<=u->J i m₁->Fr h₀ env.locals h (fun y=>if y=x then some (.str ⟨#[c]⟩ u) else m₁ y)->News h₀ env.locals h (news++own)->
   UY (UZ prog w) A (Ve body env) (InvPostN h₀ env.locals (fun m nx=>nx=news/\J (i+1) m) own (news.map (·.1)) {s with heap:=h,toks:=tk} Q) E {s with heap:=h,toks:=tk})(done:∀h' tk m',Fr h₀ env.locals h' m'->News h₀ env.locals h' news->J tx.cps.size m'->Q .next {s with heap:=h',toks:=tk}),UY (UZ prog w) A (UU (.str tx t)) (fun it s₂=>UI (UZ prog w) A (.forLoop (.Name x px) it body [] env) (fun r s'=>match r with| .ok f=>Q f s'| .error e=>cameBackBy (UZ prog w) A env E e s') s₂) E s
noncomputable def P9:=V4 fun prog w A E=>V4 fun s env h₀ x=>V4 fun body Q px tx=>V4 fun t n0 m₀ news=>fun J=>T prog w A E s env h₀ x body Q px tx t n0 m₀ news J
@[irreducible] noncomputable def c:=y6 (by k_extra "ne") P9
@[irreducible] noncomputable def prog:=c.1.1
@[irreducible] noncomputable def w:=c.1.2.1
@[irreducible] noncomputable def A:=c.1.2.2.1
@[irreducible] noncomputable def E:=c.1.2.2.2
@[irreducible] noncomputable def s:=c.2.1.1
@[irreducible] noncomputable def env:=c.2.1.2.1
@[irreducible] noncomputable def h₀:=c.2.1.2.2.1
@[irreducible] noncomputable def x:=c.2.1.2.2.2
@[irreducible] noncomputable def body:=c.2.2.1.1
@[irreducible] noncomputable def Q:=c.2.2.1.2.1
@[irreducible] noncomputable def px:=c.2.2.1.2.2.1
@[irreducible] noncomputable def tx:=c.2.2.1.2.2.2
@[irreducible] noncomputable def t:=c.2.2.2.1.1
@[irreducible] noncomputable def n0:=c.2.2.2.1.2.1
@[irreducible] noncomputable def m₀:=c.2.2.2.1.2.2.1
@[irreducible] noncomputable def news:=c.2.2.2.1.2.2.2
@[irreducible] noncomputable def J:=c.2.2.2.2
theorem walk:T prog w A E s env h₀ x body Q px tx t n0 m₀ news J:=by
 intro hh hx hp hE F N hn0 h0 step done
 have main:∀(ty:String)(o:Vl),(s.heap.push o).IsStrIter s.heap.objs.size ty tx t 0->
   (∀(i c:Nat)(s:UO)(I:Vf)(Q:Option UX->UO->Prop)(E:UX->UO->Prop),s.heap.IsStrIter I ty tx t i->tx.cps[i]? =some c->
    (∀h',h'.IsStrIter I ty tx t (i+1)->To I s.heap h'->Q (some (.str ⟨#[c]⟩ s.toks)) {s with heap:=h',toks:=s.toks+1})->UY (UZ prog w) A (pyNext (.ref I)) Q E s)->
   (∀(i:Nat)(s:UO)(I:Vf)(Q:Option UX->UO->Prop)(E:UX->UO->Prop),s.heap.IsStrIter I ty tx t i->tx.cps[i]? =none->
    (∀h',Vg.ExtBut I s.heap h'->Q none {s with heap:=h'})->UY (UZ prog w) A (pyNext (.ref I)) Q E s)->
   UI (UZ prog w) A (.forLoop (.Name x px) (.ref s.heap.objs.size) body [] env) (fun r s'=>match r with| .ok f=>Q f s'| .error e=>cameBackBy (UZ prog w) A env E e s') {s with heap:=s.heap.push o}:=by
  intro ty o hst item fin
  have hI:h₀.get? s.heap.objs.size=none:=TL F
  have hIL:env.locals≠s.heap.objs.size:=Tb F.ns.lt
  have hNI:∀p∈news,p.1≠s.heap.objs.size:=fun p hp=>Tb (Tc (N p hp).1)
  refine codeAny_forLoop
   (fun k s'=>∃h' tk m' i,s'={s with heap:=h',toks:=tk}/\n0<=tk/\h'.IsStrIter s.heap.objs.size ty tx t i/\Fr h₀ env.locals h' m'/\News h₀ env.locals h' news/\J i m'/\i<=tx.cps.size/\k=tx.cps.size+1-i) ?_ (tx.cps.size+1)
   ⟨s.heap.push o,s.toks,m₀,0,rfl,hn0,hst,F.push _,fun q hq=>⟨Qj _ (N q hq).1,(N q hq).2⟩,h0,TC _,rfl⟩
  (intro k s' r0_;refine gl2 (N:=fun k s'=>_) (a:=k) (b:=s') fun P up=>?_;obtain⟨h',tk,m',i,rfl,htk,hst',F',N',hJ,hi,rfl⟩:=r0_;refine up _ _ ?_)
  cases hc:tx.cps[i]? with
  |none=>
   have hsz:i=tx.cps.size:=Nat.le_antisymm hi (by simpa using hc)
   refine fin i _ _ _ _ hst' hc fun h₁ he₁=>wpAny_execs_nil ?_
   refine done h₁ tk m' ⟨F'.ns.at' fun o e=>he₁ _ o hIL e,fun b o e=>he₁ b o (fun q=>by exact zh1 q e hI) (F'.keep b o e),F'.above⟩ (fun p hp=>⟨he₁ _ _ (hNI p hp) (N' p hp).1,(N' p hp).2⟩) (hsz ▸ hJ)
  |some c=>
   have hlt:i<tx.cps.size:=(Array.getElem?_eq_some_iff.mp hc).1
   refine item i c _ _ _ _ hst' hc fun h₁ hit₁ hs₁=>?_
   have F₁:Fr h₀ env.locals h₁ m':=⟨F'.ns.at' fun o e=>(hs₁.2 _ hIL).trans e,fun b o e=>(hs₁.2 b (fun q=>by exact zh1 q e hI)).trans (F'.keep b o e),F'.above⟩
   have N₁:News h₀ env.locals h₁ news:=fun p hp=>⟨(hs₁.2 _ (hNI p hp)).trans (N' p hp).1,(N' p hp).2⟩
   refine Rk (Qn hx F₁.ns (fun h₂ hn₂ hs₂=>?_) hp)
   have F₂:=F₁.set hn₂ hs₂
   have hit₂:h₂.IsStrIter s.heap.objs.size ty tx t (i+1):=by
    refine oEA hit₁ fun o ho r=>?_;clear hit₁
    exact(iEA o ((hs₂.2 _ (Ne.symm hIL)).trans ho) r)
   refine oEA (id hit₂) fun oI hoI r2=>?_
   refine wpAny_passesOwn hE (w6 ?_)
   refine TT (step i c tk m' h₂ (tk+1+1) [(s.heap.objs.size,oI)] hc htk hJ F₂ (fun p hp=>?_)) (fun f s₃ h₃=>?_) fun Z Z e Z=>e
   ·rcases RS.mp hp with hp|hp
    ·exact N₁.set hs₂ p hp
    ·rw[QQ.mp hp]
     exact(iAA hoI (Ne.symm hIL) hI)
   ·intro hle
    have fin:InvEndN h₀ env.locals (fun m nx=>nx=news/\J (i+1) m) [(s.heap.objs.size,oI)] (news.map (·.1)) {s with heap:=h₂,toks:=tk+1+1} s₃->
      ∃m,m<tx.cps.size+1-i/\∃h' tk m' i,s₃={s with heap:=h',toks:=tk}/\n0<=tk/\h'.IsStrIter s.heap.objs.size ty tx t i/\Fr h₀ env.locals h' m'/\News h₀ env.locals h' news/\J i m'/\i<=tx.cps.size/\m=tx.cps.size+1-i:=by
     (intro r0_;refine gl (N:=fun s₃=>_) (a:=s₃) fun P up=>?_;obtain⟨h₃',tk₃,m₂,nw,nx,rfl,F₃,N₃,hn,ho,ha,rfl,hJ₃⟩:=r0_;refine up _ ?_)
     refine⟨tx.cps.size+1-(i+1),by lia,h₃',tk₃,m₂,i+1,rfl,?_,?_,F₃,(fun p hp=>N₃ p (hn p hp)),hJ₃,hlt,rfl⟩
     ·have h9:tk+1+1<=tk₃:=hle
      lia
     ·exact(iEA oI ((N₃ _ (ho _ (.head _))).1) r2)
    cases f with
    |ret v=>exact h₃
    |brk=>exact h₃
    |next=>exact fin h₃
    |cont=>exact fin h₃
 cases ha:tx.cps.all (· <128)
 ·exact wpAny_pyIter_wide ha (main _ _ (V8 _ (QD _ rfl) rfl rfl) (fun i c s I Q E h1 h2 h3=>wpAny_pyNext_wide_item h1 h2 h3) (fun i s I Q E h1 h2 h3=>wpAny_pyNext_wide_end hh h1 h2 h3))
 ·exact wpAny_pyIter_ascii ha (main _ _ (V8 _ (QD _ rfl) rfl rfl) (fun i c s I Q E h1 h2 h3=>wpAny_pyNext_ascii_item h1 h2 h3) (fun i s I Q E h1 h2 h3=>wpAny_pyNext_ascii_end hh h1 h2 h3))
end T1
section
variable{prog:UF}{w:Va}{A:UP}{E:UX->UO->Prop}{s:UO}{env:Vn}{h₀:Vg}{x:Vk}{body:List Stmt}{Q:Flow->UO->Prop}
theorem JD{prog w A E s env h₀ x body Q px tx t n0 m₀ news}(J):T1.T prog w A E s env h₀ x body Q px tx t n0 m₀ news J:=f7 (P:=T1.P9) (c:=T1.c) (by with_unfolding_all rfl) (by with_unfolding_all exact T1.walk) ((prog,w,A,E),(s,env,h₀,x),(body,Q,px,tx),(t,n0,m₀,news),J)
theorem Nd{M:Vc}{y z:Vk}{u v:Vm}{Q:UX->UO->Prop}(hu:u≠0)(hv:v≠0)(huv:u≠v)(hb:NoneBooked s.heap)(hq:∀b:Bool,(b=true->y=z)->Q (.bool b) s):
  UY M A (compareOp .Is (.str y u) (.str z v)) Q E s:=by
 have h0:(u == 0 || v == 0)=false:=by simp[hu,hv]
 show UY M A (do return .bool (←isSame (.str y u) (.str z v))) Q E s
 refine TQ ?_
 cases hyz:(y == z)
 ·rw[isSame_str_other y z u v h0 (by simp[huv]) hyz]
  exact TR (TR (hq false fun h=>absurd h QT))
 ·exact wpAny_isSame_str h0 hb fun b=>TR (hq b fun Z=>eq_of_beq hyz)
end
end Mine
end
section
open PySem PySem.W PySem.Calls PyProof.Rows
namespace Mine
open S (sK0 sK6 sK7 sK8 sK9)
noncomputable def Ko(c:Nat)(x:Vk):Nat:=(x.cps.toList.filter (· == c)).length
theorem KQ{h h':Vg}(b:NoneBooked h)(k:∀b o,h.get? b=some o->h'.get? b=some o):NoneBooked h':=by
 refine oEA b fun mc hn e=>?_;clear b
 exact(iEA mc (hn.keeps k) e)
section
variable{w:Va}{loose:List Vk}{mean:UH->Option UX}{mg mb:Vk->Option UX}
end
namespace G8
noncomputable def T(w:Va)(loose:List Vk)(mean:UH->Option UX)(mg:Vk->Option UX)(mb:Vk->Option UX)(x:Vk)(t:Vm)(u:Vm)(c:Nat)(dp:Nat)(un:Nat)(gd:Option (List Vj))(cn:Vk)(cs:Vb)(a:Vf)(ccd:UX)(cl:List (Prod Vk Vf))(outer:List Vn)(A₀:UP)(base:Vg)(h₀:Vg)(L:Vf)(m:Vk->Option UX)(s:UO)(Q:UX->UO->Prop)(E:UX->UO->Prop):Prop:=Vd A₀ base outer h₀->Fr h₀ L s.heap m->(_root_.Mine.Sh.hd.heap_39 w.params).In h₀->Top UN loose mean mg mb h₀->h₀.NoSeer->cs.kind= .function->
  dp+3<Su->un+8*3<cLine->(0<u/\u<s.toks)->
  (∀r h' tk',DW s.heap h'->(∃t,r= .int (Ko c x:Nat) t)->Q r {s with heap:=h',toks:=tk'})->
  UY (UZ PR w) (ktrTop dp un gd cn cs L a ccd cl outer) (call (.ref 143) [.str x t, .str ⟨#[c]⟩ u]) Q E s
noncomputable def P9:=V4 fun w loose mean mg=>V4 fun mb x t u=>V4 fun c dp un gd=>V4 fun cn cs a ccd=>V4 fun cl outer A₀ base=>V4 fun h₀ L m s=>U2 fun Q E=>T w loose mean mg mb x t u c dp un gd cn cs a ccd cl outer A₀ base h₀ L m s Q E
@[irreducible] noncomputable def c9:=y6 (by k_extra "ne") P9
@[irreducible] noncomputable def w:=c9.1.1
@[irreducible] noncomputable def loose:=c9.1.2.1
@[irreducible] noncomputable def mean:=c9.1.2.2.1
@[irreducible] noncomputable def mg:=c9.1.2.2.2
@[irreducible] noncomputable def mb:=c9.2.1.1
@[irreducible] noncomputable def x:=c9.2.1.2.1
@[irreducible] noncomputable def t:=c9.2.1.2.2.1
@[irreducible] noncomputable def u:=c9.2.1.2.2.2
@[irreducible] noncomputable def c:=c9.2.2.1.1
@[irreducible] noncomputable def dp:=c9.2.2.1.2.1
@[irreducible] noncomputable def un:=c9.2.2.1.2.2.1
@[irreducible] noncomputable def gd:=c9.2.2.1.2.2.2
@[irreducible] noncomputable def cn:=c9.2.2.2.1.1
@[irreducible] noncomputable def cs:=c9.2.2.2.1.2.1
@[irreducible] noncomputable def a:=c9.2.2.2.1.2.2.1
@[irreducible] noncomputable def ccd:=c9.2.2.2.1.2.2.2
@[irreducible] noncomputable def cl:=c9.2.2.2.2.1.1
@[irreducible] noncomputable def outer:=c9.2.2.2.2.1.2.1
@[irreducible] noncomputable def A₀:=c9.2.2.2.2.1.2.2.1
@[irreducible] noncomputable def base:=c9.2.2.2.2.1.2.2.2
@[irreducible] noncomputable def h₀:=c9.2.2.2.2.2.1.1
@[irreducible] noncomputable def L:=c9.2.2.2.2.2.1.2.1
@[irreducible] noncomputable def m:=c9.2.2.2.2.2.1.2.2.1
@[irreducible] noncomputable def s:=c9.2.2.2.2.2.1.2.2.2
@[irreducible] noncomputable def Q:=c9.2.2.2.2.2.2.1
@[irreducible] noncomputable def E:=c9.2.2.2.2.2.2.2
theorem walk:T w loose mean mg mb x t u c dp un gd cn cs a ccd cl outer A₀ base h₀ L m s Q E:=by
 unfold T
 unfold PR
 k_fill
 intro B F X T Se hk hd hu hpre hret
 refine oA hpre fun hu0 hut=>?_;clear hpre
 refine TV ?_
 k_dflt (refine' enter (binds:=[(Ta "a", .str x t),(Ta "b", .str ⟨#[c]⟩ u)]) ?k1 ?k2 ?k3 ?k5 ?kA ?kF ?kK ?k6 ?k7 ?k8 ?k9 ?kB ?_ ?c2 ?c3 ?c4 ?c5;(case kA=>exact rfl);(case kF=>exact rfl);(case kK=>assumption);(case k1=>k_asm);(case k2=>k_asm);(case k3=>k_asm);(case k5=>k_asm);(case k6=>k_is);(case k7=>k_is);(case k8=>ktr_room);(case k9=>exact SL rfl);(case c5=>decide);(case kB=>exact locs rfl);(case c2=>exact rfl);(case c3=>exact rfl);(case c4=>exact rfl);k_whole;intro L' h' F' N' B' X' T';have Se':=Qc Se (Fr.keep F);(try dsimp only);(try k_lift B');(try k_fold))
 k_steps
 unfold g9
 refine wpAny_For ?_
 k_steps
 unfold g9
 have hnb:=Ld X' T'
 rename Fr _ _ _ _=>F7
 refine JD (n0:=u+1) (px:=_) (m₀:=_) (news:=[]) (J:=fun i m=>O4 [Ta "count",Ta "i"] m _/\∃t,m (Ta "count")=some (.int ((((x.cps.toList.take i).filter (· == c)).length:Nat):Int) t)) rfl (by with_unfolding_all rfl) rfl (by passes_own) F7 (by assumption) ?tok ⟨O4.refl,_,rfl⟩ ?step ?done
 case tok=>exact Td (Nat.succ_le_of_lt hut) (Td (RD _ 4) (TA _))
 case step=>
  (intro i c9 u9 m9 h9 tk9 own9 hc9 hu9 r0_;refine oAE r0_ fun hs9 t9 hc=>?_;clear r0_;intro F9 N9)
  rw[Y6 hs9] at F9
  simp only[pick,hc] at F9
  have hu9':u<u9:=hu9
  have et:((x.cps.toList.take (i+1)).filter (· == c)).length=((x.cps.toList.take i).filter (· == c)).length+(if c9=c then 1 else 0):=by
   rw[Rm,show x.cps.toList[i]? =some c9 by simpa using hc9,QW,QU]
   by_cases e:c9=c <;> simp[e]
  have ee:(⟨#[c9]⟩:Vk)=⟨#[c]⟩↔c9=c:=by simp
  k_steps
  unfold g9
  refine Nd (Te (QS (TC _) hu9')) (Te hu0) (Te hu9') (KQ hnb (Fr.keep F9)) (fun b hb=>?_)
  cases b
  ·k_steps
   ·rename(_ == _)=true=>e1
    have e2:=ee.mp (eq_of_beq e1)
    (rename Fr _ _ _ _=>F5;rename News _ _ _ _=>N5;exact InvEndN.intro (nx:=[]) F5 N5 (OU rfl (by intro y hy;simp only[SH,RE,or_false,not_or] at hy;simp only[hy.1,hy.2,if_false]) _ (by rw[et,if_pos e2];exact rfl)) rfl (fun p hp=>nomatch hp) (fun p hp=>hp))
   ·rename(_ == _)=false=>e1
    have e2:¬c9=c:=fun e=>by rw[ee.mpr e] at e1;simp at e1
    (rename Fr _ _ _ _=>F5;rename News _ _ _ _=>N5;exact InvEndN.intro (nx:=[]) F5 N5 (OU rfl (by intro y hy;simp only[SH,RE,or_false,not_or] at hy;simp only[hy.1,hy.2,if_false]) _ (by rw[et,if_neg e2];exact rfl)) rfl (fun p hp=>nomatch hp) (fun p hp=>hp))
  ·k_steps
   ·have e2:=ee.mp (hb rfl)
    (rename Fr _ _ _ _=>F5;rename News _ _ _ _=>N5;exact InvEndN.intro (nx:=[]) F5 N5 (OU rfl (by intro y hy;simp only[SH,RE,or_false,not_or] at hy;simp only[hy.1,hy.2,if_false]) _ (by rw[et,if_pos e2];exact rfl)) rfl (fun p hp=>nomatch hp) (fun p hp=>hp))
 case done=>
  (intro h9 tk9 m9 F9 N9 r0_;refine oAE r0_ fun hs9 t9 hc=>?_;clear r0_)
  rw[Y6 hs9] at F9
  simp only[pick,hc] at F9
  rw[show x.cps.toList.take x.cps.size=x.cps.toList by rw[←Array.length_toList,RK]] at F9
  k_steps
  all_goals(refine Lv.intro F9 ?_;intro kp;exact hret _ _ _ kp ⟨_,rfl⟩)
end G8
section
variable{w:Va}{loose:List Vk}{mean:UH->Option UX}{mg mb:Vk->Option UX}
theorem CJ{w loose mean mg mb}(x)(t)(u)(c):∀dp un gd cn cs a ccd cl outer A₀ base h₀ L m s Q E,G8.T w loose mean mg mb x t u c dp un gd cn cs a ccd cl outer A₀ base h₀ L m s Q E:=fun dp un gd cn cs a ccd cl outer A₀ base h₀ L m s Q E=>f7 (P:=G8.P9) (c:=G8.c9) (by with_unfolding_all rfl) (by with_unfolding_all exact G8.walk) ((w,loose,mean,mg),(mb,x,t,u),(c,dp,un,gd),(cn,cs,a,ccd),(cl,outer,A₀,base),(h₀,L,m,s),(Q,E))
end
end Mine
end
section
open PySem PySem.W PySem.Calls PyProof.Rows PySem.Spec Builtin Builtin.ObjectAttr
namespace Mine
theorem U9:Slot "function" "__setattr__" "object.__setattr__":=
 .of (owner:="object") (n:="__setattr__") (by rw[RU,Qm];kernel_rfl) (by decide+kernel) (by decide+kernel) (by decide+kernel)
  (by first|exact .inl (by decide+kernel)|exact .inr (by decide+kernel)) (by rw[Sv];kernel_rfl)
theorem w5:Slot "function" "__getattribute__" "object.__getattribute__":=
 .of (owner:="object") (n:="__getattribute__") (by rw[RU,Qm];kernel_rfl) (by decide+kernel) (by decide+kernel) (by decide+kernel)
  (by first|exact .inl (by decide+kernel)|exact .inr (by decide+kernel)) (by rw[Sv];kernel_rfl)
theorem Ak:TX (.type "function") (Ta "applies_to")=pure none:=by rw[RU,Qm];kernel_rfl
theorem V9:TX (.type "function") (Ta "allowance")=pure none:=by rw[RU,Qm];kernel_rfl
theorem DA:TX (.type "function") (Ta "__getattr__")=pure none:=by rw[RU,Qm];kernel_rfl
theorem Hl:(Manifest.find? "function").elim false (·.hasDict)=true:=by decide+kernel
theorem Nj:(Manifest.canonical "object.__getattribute__" != "object.__getattribute__")=false:=by decide+kernel
theorem Fz(a d:Vf):dictMade (.type "function") a d=pure (some d):=by
 show(if finalisedInACycleAlone "function"=true then(register a>>=fun Z=>pure (some d)) else pure (some d))=_
 rw[if_neg (by decide+kernel)]
noncomputable def FnAt(h:Vg)(a:Vf)(fd:FuncData)(mA:Vk->Option UX):Prop:=
 ∃o,h.get? a=some o/\o.cls= .type "function"/\o.data= .func fd/\((o.dict=none/\∀n,mA n=none)\/∃d,o.dict=some d/\d≠a/\h.Ns1 d mA)
section
variable{prog:UF}{w:Va}{A:UP}{E:UX->UO->Prop}{s:UO}{a:Vf}{fd:FuncData}{mA:Vk->Option UX}{name:Vk}{v:UX}
end
namespace G7
noncomputable def T(prog:UF)(w:Va)(A:UP)(E:UX->UO->Prop)(s:UO)(a:Vf)(fd:FuncData)(mA:Vk->Option UX)(name:Vk)(v:UX)(Q:Unit->UO->Prop)(ns:List Vk):Prop:=∀(hmiss:TX (.type "function") name=pure none)(I:FnAt s.heap a fd mA)(hw:Within mA ns)(hsz:ns.length<=100)(hq:∀h' tk',FnAt h' a fd (fun y=>if y=name then some v else mA y)->(∀b o,b≠a->(∀Cv dx,s.heap.get? a=some Cv->Cv.dict=some dx->b≠dx)->s.heap.get? b=some o->h'.get? b=some o)->
   (∀o₁ dx,h'.get? a=some o₁->o₁.dict=some dx->(s.heap.get? dx=none/\dx≠a)\/∃Cv,s.heap.get? a=some Cv/\Cv.dict=some dx)->Q () {s with heap:=h',toks:=tk'}),UY (UZ prog w) A (setAttr (.ref a) name v) Q E s
noncomputable def P9:=V4 fun prog w A E=>V4 fun s a fd mA=>U4 fun name v Q ns=>T prog w A E s a fd mA name v Q ns
@[irreducible] noncomputable def c9:=y6 (by k_extra "ne") P9
@[irreducible] noncomputable def prog:=c9.1.1
@[irreducible] noncomputable def w:=c9.1.2.1
@[irreducible] noncomputable def A:=c9.1.2.2.1
@[irreducible] noncomputable def E:=c9.1.2.2.2
@[irreducible] noncomputable def s:=c9.2.1.1
@[irreducible] noncomputable def a:=c9.2.1.2.1
@[irreducible] noncomputable def fd:=c9.2.1.2.2.1
@[irreducible] noncomputable def mA:=c9.2.1.2.2.2
@[irreducible] noncomputable def name:=c9.2.2.1
@[irreducible] noncomputable def v:=c9.2.2.2.1
@[irreducible] noncomputable def Q:=c9.2.2.2.2.1
@[irreducible] noncomputable def ns:=c9.2.2.2.2.2
theorem walk:T prog w A E s a fd mA name v Q ns:=by
 intro hmiss I hw hsz hq
 (refine V3 I fun o0_ ho hc hd hdict=>?_;clear I;obtain⟨oc,od,odt,osl⟩:=o0_)
 simp only at hc hd hdict
 subst hc hd
 have hT:∀tk',UO.TypeIs {s with toks:=tk'} (.ref a) "function":=fun Z=>(iEA _ ho rfl)
 unfold setAttr
 refine TQ (wpAny_mkText (TQ (Qf (hT _) U9 (RH U9 (hT _) F.entry_object_setattr ?_ (F.args_object_setattr_3 _ _ _)))))
 unfold UE.«object.__setattr__»
 repeat(any_goals(first|assumption|exact hT _|wp_step))
 rcases hdict with⟨hdn,hmA⟩|⟨dx,hdx,hne,hns⟩
 ·subst hdn
  dsimp only
  rw[if_neg (by simp[typeHasDict,Hl])]
  have hx₁:(s.heap.push {cls:= .type "dict",data:= .dict #[]}).get? a=some ⟨.type "function",none, .func fd,osl⟩:=Qj _ ho
  have hxs:a≠s.heap.objs.size:=Tb (Tc ho)
  refine TQ (wpAny_alloc ?_)
  refine TQ (wpAny_update hx₁ ?_)
  have hgd:((s.heap.push {cls:= .type "dict",data:= .dict #[]}).update a fun o=>{cls:=o.cls,dict:=some s.heap.objs.size,data:=o.data,slots:=o.slots}).get? s.heap.objs.size
    =some {cls:= .type "dict",data:= .dict #[]}:=
   (Vg.get?_update_ne _ _ _ _ hxs.symm).trans (Vg.get?_push_at rfl rfl)
  have hnd:((s.heap.push {cls:= .type "dict",data:= .dict #[]}).update a fun o=>{cls:=o.cls,dict:=some s.heap.objs.size,data:=o.data,slots:=o.slots}).Ns s.heap.objs.size (fun Z=>none):=
   (Fo _ (#[]) _ hgd rfl (fun e he=>absurd he (by simp)) (fun Z=>rfl))
  refine TB (Fz _ _) ?_
  show UY _ _ (storeInDict s.heap.objs.size (.str name _) name v) _ _ _
  unfold storeInDict newKeyGuard
  refine TQ (TR (TQ (wpAny_nsSet1 (Vg.Ns1.of_empty hnd) fun h' hn' hs=>?_)))
  refine R3 (hn'.count (Within.cons name v Within.nil)) fun oD esD epD hoD hdD hcD=>?_
  refine TQ (wpAny_lookBehind hoD (by rw[hdD];exact pastItsLine_dict (Td hcD (by rw[RB,RX,Tz];omega))) ?_)
  refine TR (iEA _ rfl (TR (hq h' _ (BO ({cls:= .type "function",dict:=some s.heap.objs.size,data:= .func fd,slots:=osl}) ?_ rfl rfl (.inr (V8 s.heap.objs.size rfl hxs.symm ?_))) (fun b ob hbx Z hb=>?_) ?_)))
  ·refine(hs.2 a hxs).trans (Qo _ hx₁ rfl)
  ·refine Do hn' fun o' es ep e1 e2 e3 eu e4=>?_;clear hn'
   exact⟨o',es,ep,e1,e2,e3,eu,fun y=>by rw[e4 y];by_cases hy:y=name <;> simp[hy,hmA]⟩
  ·exact(hs.2 b (Tb (Tc hb))).trans ((Vg.get?_update_ne _ _ _ _ hbx).trans (Qj _ hb))
  ·intro o₁ dx e1 e2
   have e3:=(hs.2 a hxs).trans (Qo _ hx₁ rfl)
   rw[e3] at e1
   cases e1
   cases e2
   exact .inl ⟨Qv (TA _),hxs.symm⟩
 ·subst hdx
  refine TR ?_
  show UY _ _ (storeInDict dx (.str name _) name v) _ _ _
  unfold storeInDict newKeyGuard
  refine TQ (TR (TQ (wpAny_nsSet1 hns fun h' hn' hs=>?_)))
  refine R3 (hn'.count (Within.cons name v hw)) fun oD esD epD hoD hdD hcD=>?_
  refine TQ (wpAny_lookBehind hoD (by rw[hdD];exact pastItsLine_dict (Td hcD (by rw[RB,Tz];omega))) ?_)
  refine TR (iEA _ rfl (TR (hq h' _ (BO _ ((hs.2 a hne.symm).trans ho) rfl rfl (.inr (V8 dx rfl hne hn'))) (fun b ob Z hbd hb=>?_) ?_)))
  ·exact(hs.2 b (hbd _ dx ho rfl)).trans hb
  ·intro o₁ d₁ e1 e2
   rw[(hs.2 a hne.symm).trans ho] at e1
   cases e1
   exact .inr (iEA _ ho e2)
end G7
section
variable{prog:UF}{w:Va}{A:UP}{E:UX->UO->Prop}{s:UO}{a:Vf}{fd:FuncData}{mA:Vk->Option UX}{name:Vk}{v:UX}
theorem Cq{prog w A E s a fd mA name v Q ns}:G7.T prog w A E s a fd mA name v Q ns:=f7 (P:=G7.P9) (c:=G7.c9) (by with_unfolding_all rfl) (by with_unfolding_all exact G7.walk) ((prog,w,A,E),(s,a,fd,mA),(name,v,Q,ns))
theorem CD{Q:UX->UO->Prop}{e:Bool}(hmiss:TX (.type "function") name=pure none)(I:FnAt s.heap a fd mA)(hv:mA name=some v)(hb:∀id,v≠ .builtin id)
  (hq:∀tk',Q v {s with toks:=tk'}):UY (UZ prog w) A (getAttr (.ref a) name e) Q E s:=by
 (refine V3 I fun o0_ ho hc hd hdict=>?_;clear I;obtain⟨oc,od,odt,osl⟩:=o0_)
 simp only at hc hd hdict
 subst hc hd
 rcases hdict with⟨hdn,hmA⟩|⟨dx,hdx,hne,hns⟩
 ·rw[hmA] at hv;cases hv
 subst hdx
 have hT:∀tk',UO.TypeIs {s with toks:=tk'} (.ref a) "function":=fun Z=>(iEA _ ho rfl)
 have f3:=w5.lookup
 unfold getAttr getAttrBy
 repeat(any_goals(first|assumption|exact hT _|wp_step))
 rw[if_neg (by rw[show onTheHeap (UX.builtin "object.__getattribute__")=false from rfl,Bool.and_false];exact QT)]
 unfold boundAndCalled
 refine TQ (TB (w5.bind (.ref a)) ?_)
 refine RH w5 (hT _) F.entry_object_getattribute ?_ (F.args_object_getattribute_2 _ _)
 have hN:s.heap.Ns dx mA:=hns.ns
 have hho:handedOut v=pure v:=by cases v <;> first|rfl|exact absurd rfl (hb _)
 unfold UE.«object.__getattribute__»
 repeat(any_goals(first|assumption|exact hT _|((with_reducible show UY _ _ (nsGet dx name) _ _ _);refine wpAny_nsGet hN ?_;rw[hv])|((with_reducible show UY _ _ (handedOut v) _ _ _);refine TB hho ?_)|wp_step))
 exact(iEA _ rfl (TB hho (hq _)))
theorem EC{Q:UX×List UX->UO->Prop}{pl:Sem Bool}(hmiss:TX (.type "function") name=pure none)(I:FnAt s.heap a fd mA)(hv:mA name=some v)(hb:∀id,v≠ .builtin id)
  (hq:∀tk',Q (v,[]) {s with toks:=tk'}):UY (UZ prog w) A (getMethod (.ref a) name pl) Q E s:=by
 have I':=I
 (refine V3 I fun o0_ ho hc hd hdict=>?_;clear I;obtain⟨oc,od,odt,osl⟩:=o0_)
 simp only at hc hd hdict
 subst hc hd
 have hT:∀tk',UO.TypeIs {s with toks:=tk'} (.ref a) "function":=fun Z=>(iEA _ ho rfl)
 have f3:=w5.lookup
 have f5:=DA
 unfold getMethod specialOf
 repeat(any_goals(first|assumption|exact hT _|(rw[Nj,if_neg QT])|((with_reducible show UY _ _ (getAttr (.ref a) name) _ _ _);refine CD hmiss I' hv hb fun tk'=>?_)|wp_step))
 exact hq _
end
end Mine
end
section
open PySem PySem.W PySem.Calls PyProof.Rows PySem.Spec
namespace Mine
noncomputable def A5(h:Vg)(P:Vf)(qual:Vk)(ps:Array UX):Prop:=
 TriplesOk ps.toList/\∀pos cv,codeAmong pos ps.toList=some cv->∃c',cv= .ref c'/\c'≠P/\h.CodeRec (.ref c') qual
theorem CM{h h':Vg}{c' P:Vf}{q:Vk}(x:h.CodeRec (.ref c') q)(hne:c'≠P)(hk:∀b o,b≠P->h.get? b=some o->h'.get? b=some o):h'.CodeRec (.ref c') q:=by
 refine Io x fun c o vs t e g r=>?_;clear x
 cases e
 exact(IQ c' o vs t rfl (hk _ _ hne g) r)
theorem A5.keeps{h h':Vg}{P:Vf}{q:Vk}{ps:Array UX}(x:A5 h P q ps)(hk:∀b o,b≠P->h.get? b=some o->h'.get? b=some o):A5 h' P q ps:=
 ⟨x.1,fun pos cv e=>let⟨c',e1,hne,r⟩:=x.2 pos cv e;(V8 c' e1 hne (CM r hne hk))⟩
theorem Hz{l:List UX}{a b:Int}{c cv:UX}{pos:Pos}(ht:TriplesOk l)(h:codeAmong pos (l++[US a,US b,c])=some cv):codeAmong pos l=some cv\/cv=c:=by
 fun_induction TriplesOk l with
 |case1=>
  right
  simp only[Sb,codeAmong,US] at h
  split at h
  ·exact(RZ h).symm
  ·cases h
 |case2 n1 t1 n2 t2 c2 rest ih=>
  simp only[RG,codeAmong] at h ⊢
  split at h
  ·left;rename_i h9;simp only[h9,if_true];exact h
  ·rename_i h9
   rcases ih ht h with e|e
   ·left;simp only[h9];exact e
   ·exact .inr e
 |case3=>exact ht.elim
section
variable{M:Vc}{A:UP}{E:UX->UO->Prop}{s:UO}{h₀:Vg}{L c P:Vf}{m mg mb:Vk->Option UX}{p:UF}{loose:List Vk}{mean:UH->Option UX}{qual:Vk}{params:Up}{body:Vh}{scope:Vb}{ps:Array UX}{pos:Pos}{clos:List (Vk×Vf)}{env:Vn}{Q:UX->UO->Prop}
theorem KS(F:Fr h₀ L s.heap m)(hP:s.heap.get? P=some (UQ ps))(hPn:h₀.get? P=none)(hPL:P≠L)(T:Top p loose mean mg mb h₀)(C:CodeHd h₀ c P)(hcode:env.code= .ref c)(ok:A5 s.heap P qual ps)
  (hq:env.qual++"<lambda>"=qual)(hdef:defaultsOf params env=([],[]))(hcl:closureFor scope env=pure clos)(hge0:env.globals=TM)
  (h:∀f c' ctv h' tk ps',Fr h₀ L h' m->(∀b o,b≠P->s.heap.get? b=some o->h'.get? b=some o)->h'.get? P=some (UQ ps')->A5 h' P qual ps'->s.heap.get? f=none->L<f->f≠P->
   h'.get? f=some (kla_obj "<lambda>" qual params body scope clos ((mg "__name__").getD .none) c' ctv)->h'.CodeRec (.ref c') qual->c'≠P->Q (.ref f) {s with heap:=h',toks:=tk}):
  UY M A (Vi (.Lambda params body scope pos) env) Q E s:=by
 refine kla_eval hdef ?_
 rw[hq]
 have hgs:=T.g.keeps F.keep
 refine Gi T.bmain fun bm ob b1 b2 b3 b4 b5 b6=>?_
 have hgP:TM≠P:=fun q=>by
  refine R3 hgs fun o es ep e hd Z=>?_;clear hgs
  rw[q,hP] at e;cases e;cases hd
 have hbP:bm≠P:=fun q=>by
  have e:=F.keep _ _ b3
  rw[q,hP] at e;cases e;cases b4
 have hbG:bm≠TM:=fun q=>by
  refine R3 T.g fun o es ep e hd Z=>?_
  rw[q,e] at b3;cases b3;rw[hd] at b6;cases b6
 have old:∀b o,h₀.get? b=some o->b≠P:=fun b o e q=>by exact zh1 q e hPn
 have hLs:L<s.heap.objs.size:=F.ns.lt
 have hPs:P<s.heap.objs.size:=Tc hP
 cases hf:codeAmong pos ps.toList with
 |none=>
  refine kla_makeFunction (mg:=mg) hcl hge0 hgs hcode (C.keeps F.keep) hP ok.1 hf hgP ⟨bm,ob,b1,b2,hbG,hbP,F.keep _ _ b3,b4,b5,b6⟩ fun c' ctv h' tk hx hge hlt hrec htb=>?_
  have hcP:c'≠P:=Te (QR hPs hge)
  have hk:∀b o,b≠P->s.heap.get? b=some o->(h'.push (kla_obj "<lambda>" qual params body scope clos ((mg "__name__").getD .none) c' ctv)).get? b=some o:=fun b o hb e=>Qj _ (hx b o hb e)
  have hfs:s.heap.objs.size<=h'.objs.size:=Tr (QS hge hlt)
  refine h h'.objs.size c' ctv _ tk _ ⟨F.ns.at' fun o e=>hk _ o (Ne.symm hPL) e,fun b o e=>hk b o (old b o e) (F.keep b o e),F.above⟩ hk (Qj _ htb) ⟨?_,fun pos' cv e=>?_⟩ (Qv hfs) (QR hLs hfs) (Te (QR hPs hfs)) (QD _ rfl) (hrec.push _) hcP
  ·rw[QI];exact TriplesOk_snoc _ _ _ _ ok.1
  ·rw[QI] at e
   rcases Hz ok.1 e with e|rfl
   ·refine L1 (ok.2 pos' cv e) fun c2 e1 hne r=>?_
    exact(V8 c2 e1 hne (CM r hne hk))
   ·exact(V8 c' rfl hcP (hrec.push _))
 |some cv=>
  (refine L1 (ok.2 pos cv hf) fun c' o0_ hcP hrec=>?_;obtain rfl:=o0_)
  refine kla_makeFunctionHit (mg:=mg) hcl hge0 hgs hcode (C.keeps F.keep) hP ok.1 hf ⟨bm,ob,b1,b2,hbG,hbP,F.keep _ _ b3,b4,b5,b6⟩ fun ctv h' tk hx hfs=>?_
  have hk:∀b o,s.heap.get? b=some o->(h'.push {cls:= .type "function",data:= .func (kla_fn "<lambda>" qual params body scope clos ((mg "__name__").getD .none) (.ref c') ctv)}).get? b=some o:=fun b o e=>Qj _ (hx b o e)
  exact h h'.objs.size c' ctv _ tk ps ⟨F.ns.at' fun o e=>hk _ o e,fun b o e=>hk b o (F.keep b o e),F.above⟩ (fun b o Z e=>hk b o e) (hk _ _ hP) (ok.keeps fun b o Z e=>hk b o e) (Qv hfs) (QR hLs hfs) (Te (QR hPs hfs)) (QD _ rfl) (hrec.keeps hk) hcP
end
theorem Np{prog:UF}{w:Va}{A A₀:UP}{s:UO}{base h₀:Vg}{outer:List Vn}{env:Vn}{L P:Vf}{m:Vk->Option UX}{K:Frag}{p:UF}{loose:List Vk}{mean:UH->Option UX}{mg mb:Vk->Option UX}
  {R:UT->UO->Prop}{name qual:Vk}{params:Up}{body:List Stmt}{scope:Vb}{dV kV doc pm cdv ct oc:UX}{an od:Option Vf}{osl:Array (Option UX)}{f:Vf}{args:Args}{binds:List (Vk×UX)}{oP:Vl}
  (B:Vd A₀ base outer h₀)(F:Fr h₀ L s.heap m)(N:News h₀ L s.heap [(P,oP)])(X₀:K.In h₀)(T:Top p loose mean mg mb h₀)(hA:A.frames=some (env::outer))(hf:env.frame=some L)(hke:env.scope.kind= .function)
  (ho:K.lookup f=some ⟨oc,od, .func (fnOf name qual params body scope dV kV doc pm an cdv ct),osl⟩)(hcd:codeIn K cdv qual=true)(hroom:A.depth<Su)
  (hbind:BindsTo s (fnOf name qual params body scope dV kV doc pm an cdv ct) args binds)(hkind:(binds.all fun y=>scope.names.lookup y.1 == some .local || scope.names.lookup y.1 == some .cell)=true)
  (hnd:((Un 0 scope.names []).map (·.1)).Nodup)
  (h:∀L' h₁ tk cells,Fr (UK s.heap [P]) L' h₁ (bindL (UV qual scope L' f cdv).kindOf binds fun Z=>none)->News (UK s.heap [P]) L' h₁ (cells++[(P,oP)])->CellsAre (bindC (UV qual scope L' f cdv).kindOf binds fun Z=>none) (Un (L'+1) scope.names []) cells->
   Vd A base (env::outer) (UK s.heap [P])->K.In (UK s.heap [P])->Top p loose mean mg mb (UK s.heap [P])->h₀.StaysIn (UK s.heap [P])->(∀b o,s.heap.get? b=some o->h₁.get? b=some o)->
   UY (UZ prog w) (A.deeper (UV qual scope L' f cdv)) (Ve body (UV qual scope L' f cdv))
    (fun fl s'=>Lv (UK s.heap [P]) R (match fl with| .ret v=>v|_=> .none) s')
    (fun e s'=>UY (UZ prog w) (A.deeper (UV qual scope L' f cdv)) (leaving (UV qual scope L' f cdv) e) (fun Z s''=>R (.error e) s'') (fun e' s''=>R (.error e') s'') s')
    {s with heap:=h₁,toks:=tk})
  (hco:scope.isCoroutine=false)(hgen:scope.isGenerator=false)(hk:scope.kind= .function):UI (UZ prog w) A (.call (.ref f) args) R s:=by
 refine AX (groundX (R:=R) B F N hA hf hke) fun FG BG st Z=>?_
 have X:=X₀.keeps F.keep
 have T':=T.keeps F.keep
 refine codeAny_call_function hroom (X _ _ ho) rfl hco hgen rfl (codeRec_of X hcd) (hbind _ _ _ _ ?_)
 refine PW hk (kindsX hkind _) fun env' he s' x=>?_
 subst he
 refine⟨T'.nolimit.keeps x.toInCall.keep,codeAny_func ?_⟩
 (refine y8 x.done fun h₁ tk o0_ Z=>?_;obtain rfl:=o0_)
 have hk₁:=x.toInCall.keep
 refine oEA (Cl.news (h₀:=s.heap) (TA _) fun n c hm=>⟨x.cell n c (lookup_of_mem_nodup (cellsFrom_names scope.names 0 (s.heap.objs.size+1) [] [] rfl ▸ hnd) hm),x.above n c hm⟩) fun cells NC Y=>?_
 refine TT (h s.heap.objs.size h₁ tk cells ⟨x.toInCall.ns,fun b o e=>hk₁ b o (of_hideAll _ e),Tn (hideAll_size _ _)⟩ (fun q hq=>?_) Y BG (X₀.keeps st) (T.keeps st) st hk₁) (fun fl s' hl=>?_) fun Z Z y=>y
 ·rcases RS.mp hq with hq|hq
  ·refine(iAA ((NC q hq).1) ((NC q hq).2.1) ?_)
   cases q9:(UK s.heap [P]).get? q.1 with
   |none=>rfl
   |some o=>have:=of_hideAll _ q9;exact zs1 ((NC q hq).2.2) this
  ·rw[QQ.mp hq]
   exact(iAA (hk₁ _ _ (N _ (.head _)).1) (Tb (Tc (N _ (.head _)).1)) (hideAll_none _ (.head _)))
 ·refine y8 hl fun L' m' F' k=>?_;clear hl
  exact k F'.keep
end Mine
end
section
open PySem PySem.W PySem.Calls PyProof.Rows
namespace Mine
open S (sK0)
noncomputable abbrev qualR:Vk:=Ta "_law_rule.<locals>.<lambda>"
noncomputable def NO(K:Frag)(p:Up)(e:Vh)(s:Vb):Prop:=∃o fd t u q i r,K.lookup 227=some o/\o.data= .func fd/\fd.body= .stmts (t:: .Assign u (.Lambda p e s q) i::r)
theorem Nc{K:Frag}{p p':Up}{e e':Vh}{s s':Vb}{o:Vl}{fd:FuncData}{t u q i r}(x:NO K p e s)(h1:K.lookup 227=some o)(h2:o.data= .func fd)(h3:fd.body= .stmts (t:: .Assign u (.Lambda p' e' s' q) i::r)):p'=p/\e'=e/\s'=s:=by
 obtain⟨o',fd',t',u',q',i',r',z1,z2,z3⟩:=x
 have e1:=RZ (h1.symm.trans z1)
 subst e1
 cases h2.symm.trans z2
 cases h3.symm.trans z3
 exact⟨rfl,rfl,rfl⟩
inductive H4(K:Frag)(h:Vg)(f:Vf)(reach low high:Int):Prop
 |mk(params:Up)(body:Vh)(scope:Vb)(pm:UX)(c':Vf)(ctv:UX)(cR:Vf)(cL:Vf)(cH:Vf)(oR:Vl)(oL:Vl)(oH:Vl)(tR:Vm)(tL:Vm)(tH:Vm)(a0:NO K params body scope)(a1:h.get? f=some (kla_obj "<lambda>" qualR params body scope [(Ta "reach",cR),(Ta "low",cL),(Ta "high",cH)] pm c' ctv))(a2:h.CodeRec (.ref c') qualR)(a3:c'≠222)(a4:(h.get? cR=some oR/\oR.data= .cell (some (.int reach tR))))(a5:(h.get? cL=some oL/\oL.data= .cell (some (.int low tL))))(a6:(h.get? cH=some oH/\oH.data= .cell (some (.int high tH))))
inductive S7(K:Frag)(h:Vg)(r:Vf)(reach low high verdict:Int):Prop
 |mk(fd:FuncData)(f:Vf)(t:Vm)(a0:FnAt h r fd (fun y=>if y=Ta "allowance" then some (.int verdict t) else if y=Ta "applies_to" then some (.ref f) else none))(a1:H4 K h f reach low high)
theorem FnAt.keepsN{h h':Vg}{a:Vf}{fd:FuncData}{mA:Vk->Option UX}(I:FnAt h a fd mA)(ka:∀o,h.get? a=some o->h'.get? a=some o)(kd:∀o d,h.get? a=some o->o.dict=some d->d≠a->∀o',h.get? d=some o'->h'.get? d=some o'):FnAt h' a fd mA:=by
 refine V3 I fun o e hc hd hdict=>?_;clear I
 refine(BO o (ka _ e) hc hd (hdict.imp id ?_))
 (intro r0_;refine L1 r0_ fun d e1 e2 e3=>?_;clear r0_)
 exact(V8 d e1 e2 (e3.at fun o' e'=>kd o d e e1 e2 o' e'))
theorem KU{h₀ h h':Vg}{L:Vf}{m:Vk->Option UX}(F:Fr h₀ L h m)(S:List Vf)(hk:∀b o,b∉S->h.get? b=some o->h'.get? b=some o)(hL:L∉S)(hS:∀b∈S,h₀.get? b=none):Fr h₀ L h' m:=
 ⟨F.ns.at' fun o e=>hk _ o hL e,fun b o e=>hk b o (fun q=>by exact zs1 (hS b q) e) (F.keep b o e),F.above⟩
section
variable{w:Va}{loose:List Vk}{mean:UH->Option UX}{mg mb:Vk->Option UX}
end
namespace W5
noncomputable def T(w:Va)(loose:List Vk)(mean:UH->Option UX)(mg:Vk->Option UX)(mb:Vk->Option UX)(reach:Int)(low:Int)(high:Int)(verdict:Int)(t1:Vm)(t2:Vm)(t3:Vm)(t4:Vm)(dp:Nat)(un:Nat)(gd:Option (List Vj))(cn:Vk)(cs:Vb)(a:Vf)(ccd:UX)(cl:List (Prod Vk Vf))(outer:List Vn)(A₀:UP)(base:Vg)(h₀:Vg)(L:Vf)(m:Vk->Option UX)(s:UO)(Q:UX->UO->Prop)(E:UX->UO->Prop)(ps:Array UX):Prop:=Vd A₀ base outer h₀->Fr h₀ L s.heap m->(_root_.Mine.Sh.hd.heap_39 w.params).In h₀->Top UN loose mean mg mb h₀->h₀.NoSeer->CodeHd h₀ 226 222->cs.kind= .function->
  dp+3<Su->un+8*3<cLine->News h₀ L s.heap [(222,UQ ps)]->A5 s.heap 222 qualR ps->
  (∀r h' tk' ps',(∀b o,b≠222->s.heap.get? b=some o->h'.get? b=some o)->h'.get? 222=some (UQ ps')->A5 h' 222 qualR ps'->S7 (_root_.Mine.Sh.hd.heap_39 w.params) h' r reach low high verdict->s.heap.get? r=none->(∀h'',(∀b o,s.heap.get? b=none->h'.get? b=some o->h''.get? b=some o)->(∀c q,c≠222->h'.CodeRec (.ref c) q->h''.CodeRec (.ref c) q)->S7 (_root_.Mine.Sh.hd.heap_39 w.params) h'' r reach low high verdict)->Q (.ref r) {s with heap:=h',toks:=tk'})->
  UY (UZ PR w) (ktrTop dp un gd cn cs L a ccd cl outer) (call (.ref 227) [.int reach t1, .int low t2, .int high t3, .int verdict t4]) Q E s
noncomputable def P9:=V4 fun w loose mean mg=>V4 fun mb reach low high=>V4 fun verdict t1 t2 t3=>V4 fun t4 dp un gd=>V4 fun cn cs a ccd=>V4 fun cl outer A₀ base=>V4 fun h₀ L m s=>U3 fun Q E ps=>T w loose mean mg mb reach low high verdict t1 t2 t3 t4 dp un gd cn cs a ccd cl outer A₀ base h₀ L m s Q E ps
@[irreducible] noncomputable def c9:=y6 (by k_extra "ne") P9
@[irreducible] noncomputable def w:=c9.1.1
@[irreducible] noncomputable def loose:=c9.1.2.1
@[irreducible] noncomputable def mean:=c9.1.2.2.1
@[irreducible] noncomputable def mg:=c9.1.2.2.2
@[irreducible] noncomputable def mb:=c9.2.1.1
@[irreducible] noncomputable def reach:=c9.2.1.2.1
@[irreducible] noncomputable def low:=c9.2.1.2.2.1
@[irreducible] noncomputable def high:=c9.2.1.2.2.2
@[irreducible] noncomputable def verdict:=c9.2.2.1.1
@[irreducible] noncomputable def t1:=c9.2.2.1.2.1
@[irreducible] noncomputable def t2:=c9.2.2.1.2.2.1
@[irreducible] noncomputable def t3:=c9.2.2.1.2.2.2
@[irreducible] noncomputable def t4:=c9.2.2.2.1.1
@[irreducible] noncomputable def dp:=c9.2.2.2.1.2.1
@[irreducible] noncomputable def un:=c9.2.2.2.1.2.2.1
@[irreducible] noncomputable def gd:=c9.2.2.2.1.2.2.2
@[irreducible] noncomputable def cn:=c9.2.2.2.2.1.1
@[irreducible] noncomputable def cs:=c9.2.2.2.2.1.2.1
@[irreducible] noncomputable def a:=c9.2.2.2.2.1.2.2.1
@[irreducible] noncomputable def ccd:=c9.2.2.2.2.1.2.2.2
@[irreducible] noncomputable def cl:=c9.2.2.2.2.2.1.1
@[irreducible] noncomputable def outer:=c9.2.2.2.2.2.1.2.1
@[irreducible] noncomputable def A₀:=c9.2.2.2.2.2.1.2.2.1
@[irreducible] noncomputable def base:=c9.2.2.2.2.2.1.2.2.2
@[irreducible] noncomputable def h₀:=c9.2.2.2.2.2.2.1.1
@[irreducible] noncomputable def L:=c9.2.2.2.2.2.2.1.2.1
@[irreducible] noncomputable def m:=c9.2.2.2.2.2.2.1.2.2.1
@[irreducible] noncomputable def s:=c9.2.2.2.2.2.2.1.2.2.2
@[irreducible] noncomputable def Q:=c9.2.2.2.2.2.2.2.1
@[irreducible] noncomputable def E:=c9.2.2.2.2.2.2.2.2.1
@[irreducible] noncomputable def ps:=c9.2.2.2.2.2.2.2.2.2
theorem walk:T w loose mean mg mb reach low high verdict t1 t2 t3 t4 dp un gd cn cs a ccd cl outer A₀ base h₀ L m s Q E ps:=by
 unfold T
 unfold PR
 k_fill
 intro B F X T Se C hk hd hu N ok hret
 refine TV ?_
 k_dflt (refine' Np (binds:=[(Ta "reach", .int reach t1),(Ta "low", .int low t2),(Ta "high", .int high t3),(Ta "verdict", .int verdict t4)]) ?k1 ?k2 ?kN ?k3 ?k5 ?kA ?kF ?kK ?k6 ?k7 ?k8 ?k9 ?kB ?kD ?_ ?c2 ?c3 ?c4;(case kA=>exact rfl);(case kF=>exact rfl);(case kK=>assumption);(case k1=>k_asm);(case k2=>k_asm);(case kN=>exact N);(case k3=>k_asm);(case k5=>k_asm);(case k6=>k_is);(case k7=>k_is);(case k8=>ktr_room);(case k9=>exact SL rfl);(case kB=>exact rfl);(case kD=>decide+kernel);(case c2=>exact rfl);(case c3=>exact rfl);(case c4=>exact rfl);k_whole;intro L' h' tk' W0 F' N' Y' B' X' T' st' keep';have Se':=Qc Se st';refine BK (CellsAre.three Y') fun oc1 oc2 oc3 eC d1 d2 d3=>?_;subst eC;clear Y';(try dsimp only);(try k_lift B');(try k_fold))
 have hPs:222<s.heap.objs.size:=Tc (N _ (.head _)).1
 have hLs:s.heap.objs.size<=L':=Td (Tn (hideAll_size _ _).symm) F'.above
 have hPL:(222:Vf)≠L':=Tb (QR hPs hLs)
 have hP':h'.get? 222=some (UQ ps):=(N' _ (RS.mpr (.inr (.head _)))).1
 have hPn:(UK s.heap [222]).get? 222=none:=hideAll_none _ (.head _)
 have C':CodeHd (UK s.heap [222]) 226 222:=C.keeps st'
 have ok':A5 h' 222 qualR ps:=ok.keeps fun b o Z e=>keep' b o e
 have none':∀b,h'.get? b=none->s.heap.get? b=none:=fun b e=>by
  cases q:s.heap.get? b with
  |none=>rfl
  |some o=>exact zs1 e (keep' _ _ q)
 have cell1:=N' _ (RS.mpr (.inl (.head _)))
 have cell2:=N' _ (RS.mpr (.inl (.tail _ (.head _))))
 have cell3:=N' _ (RS.mpr (.inl (.tail _ (.tail _ (.head _)))))
 have hcP:∀k,L'+k≠222:=fun k=>Te (QR (QR hPs hLs) (RD _ _))
 refine wpAny_execs_cons (wpAny_Assign_Name (KS (P:=222) (c:=226) F' hP' hPn hPL T' C' rfl ok' rfl rfl rfl rfl fun f1 c1 ctv1 h1 tk1 ps1 F1 k1 hP1 ok1 new1 lt1 ne1 o1 r1 cn1=>?_))
 refine Qn rfl F1.ns (fun h2 ns2 sb2=>?_)
 have F2:=F1.set ns2 sb2
 have hf1L:f1≠L':=Te lt1
 have o2:=(sb2.2 f1 hf1L).trans o1
 have hP2:=(sb2.2 222 hPL).trans hP1
 have k2:∀b o,b≠L'->h1.get? b=some o->h2.get? b=some o:=fun b o hb e=>(sb2.2 b hb).trans e
 have ok2:A5 h2 222 qualR ps1:=⟨ok1.1,fun pos cv e=>by
  refine L1 (ok1.2 pos cv e) fun c' e1 e2 r=>?_
  refine C6 r fun c oc vs tt e3 g3 d3 v3=>?_;clear r
  cases e3
  refine⟨c',e1,e2,c',oc,vs,tt,rfl,k2 _ _ (fun q=>?_) g3,d3,v3⟩
  refine R3 F1.ns fun oL es ep e5 e6 Z=>?_
  have e7:h1.get? c'=some oL:=by rw[q];exact e5
  rw[g3] at e7;cases e7;rw[d3] at e6;cases e6⟩
 refine wpAny_execs_cons (plainObj_wpAny_Assign_Attribute (KS (P:=222) (c:=226) F2 hP2 hPn hPL T' C' rfl ok2 rfl rfl rfl rfl fun f2 c2 ctv2 h3 tk3 ps3 F3 k3 hP3 ok3 new3 lt3 ne3 o3 r3 cn3=>?_))
 refine Uj (QA rfl rfl F3.ns (v:= .ref f1) rfl ?_)
 have o1':=k3 _ _ ne1 o2
 have I3:FnAt h3 f1 _ (fun Z=>none):=(BO _ o1' rfl rfl (.inl ⟨rfl,fun Z=>rfl⟩))
 refine Cq (ns:=[]) Ak I3 Within.nil (TC _) fun h4 tk4 I4 k4 d4=>?_
 have k4':∀b o,b≠f1->h3.get? b=some o->h4.get? b=some o:=fun b o hb e=>k4 b o hb (fun Cv dx e1 e2=>by rw[o1'] at e1;cases e1;cases e2) e
 have nf1:∀b,b=f1->(UK s.heap [222]).get? b=none:=fun b q=>by
  cases q9:(UK s.heap [222]).get? b with
  |none=>rfl
  |some o=>have:=of_hideAll _ q9;exact zh1 q this (none' _ new1)
 have F4:Fr (UK s.heap [222]) L' h4 _:=KU F3 [f1] (fun b o hb e=>k4' b o (fun q=>hb (QQ.mpr q)) e) (fun q=>hf1L (QQ.mp q).symm) (fun b hb=>nf1 b (QQ.mp hb))
 refine wpAny_execs_cons (plainObj_wpAny_Assign_Attribute (Uj (QA rfl rfl F4.ns (v:= .int verdict t4) rfl ?_)))
 refine Uj (QA rfl rfl F4.ns (v:= .ref f1) rfl ?_)
 refine Cq (ns:=[Ta "applies_to"]) V9 I4 (Within.cons _ _ Within.nil) (by decide) fun h5 tk5 I5 k5 d5=>?_
 have k5':∀b o,b≠f1->h3.get? b=some o->h5.get? b=some o:=fun b o hb e=>k5 b o hb (fun Cv dx e1 e2 q=>by
  rcases d4 _ _ e1 e2 with⟨e3,_⟩|⟨o₁,e3,e4⟩
  ·rw[←q] at e3
   have e3':h3.get? b=none:=e3
   exact zs1 e3' e
  ·rw[show h3.get? f1=_ from o1'] at e3;cases e3;cases e4) (k4' b o hb e)
 have F5:Fr (UK s.heap [222]) L' h5 _:=KU F3 [f1] (fun b o hb e=>k5' b o (fun q=>hb (QQ.mpr q)) e) (fun q=>hf1L (QQ.mp q).symm) (fun b hb=>nf1 b (QQ.mp hb))
 refine wpAny_execs_cons (wpAny_Return_some (Uj (QA rfl rfl F5.ns (v:= .ref f1) rfl ?_)))
 have k02:∀b o,b≠222->b≠L'->h'.get? b=some o->h3.get? b=some o:=fun b o h1' h2' e=>k3 b o h1' (k2 b o h2' (k1 b o h1' e))
 have k05:∀b o,b≠222->b≠L'->h'.get? b=some o->h5.get? b=some o:=fun b o h1' h2' e=>k5' b o (fun q=>by
  have e9:h'.get? f1=none:=new1
  exact zh1 q e e9) (k02 b o h1' h2' e)
 have hf1P:(222:Vf)≠f1:=Ne.symm ne1
 refine Lv.intro F5 ?_
 intro kp
 have up3:∀b o,b≠222->s.heap.get? b=some o->h3.get? b=some o:=fun b o hb e=>k02 b o hb (fun q=>by
  have:=Tc e
  rw[q] at this
  exact absurd hLs (Ug.mpr this)) (keep' b o e)
 have hc2:h5.CodeRec (.ref c2) qualR:=by
  refine C6 r3 fun c oc vs tt e3 g3 dd3 v3=>?_;clear r3
  cases e3
  exact⟨c2,oc,vs,tt,rfl,k5' _ _ (fun q=>by rw[q,o1'] at g3;cases g3;cases dd3) g3,dd3,v3⟩
 have hf2:f2≠f1:=fun q=>by
  have e9:h2.get? f2=none:=new3
  exact zg1 q e9 o2
 have gf2:=k5' _ _ hf2 o3
 have g1:=k05 _ _ (hcP 1) (Te (RC _)) cell3.1
 have g2:=k05 _ _ (hcP 2) (Te (Tf (RC _) (RC _))) cell2.1
 have g3:=k05 _ _ (hcP 3) (Te (Tf (RC _) (Tf (RC _) (RC _)))) cell1.1
 have fresh:∀k,s.heap.get? (L'+k)=none:=fun k=>Qv (Td hLs (RD _ _))
 have nf2:s.heap.get? f2=none:=by
  cases q:s.heap.get? f2 with
  |none=>rfl
  |some o=>
   have e9:h2.get? f2=none:=new3
   exact zs1 e9 (k2 _ _ (Te lt3) (k1 _ _ ne3 (keep' _ _ q)))
 have rule:∀h'',(∀b o,s.heap.get? b=none->h5.get? b=some o->h''.get? b=some o)->(∀c q,c≠222->h5.CodeRec (.ref c) q->h''.CodeRec (.ref c) q)->S7 (_root_.Mine.Sh.hd.heap_39 w.params) h'' f1 reach low high verdict:=by
  intro h'' kn kc
  refine⟨_,f2,t4,FnAt.keepsN I5 (fun o e=>kn _ _ (none' _ new1) e) fun o d e1 b1 b2 o' e'=>kn _ _ ?_ e',?_⟩
  ·have nd3:h3.get? d=none:=by
    rcases d5 _ _ e1 b1 with⟨q1,_⟩|⟨Cv,q1,q2⟩
    ·cases q:h3.get? d with
     |none=>rfl
     |some o9=>
      have q3:_=none:=q1
      exact zs1 q3 (k4' d o9 b2 q)
    ·rcases d4 _ _ q1 q2 with⟨q3,_⟩|⟨o₁,q3,q4⟩
     ·exact q3
     ·rw[show h3.get? f1=_ from o1'] at q3;cases q3;cases q4
   cases q:s.heap.get? d with
   |none=>rfl
   |some o9=>
    by_cases hd9:d=222
    ·rw[hd9] at nd3
     have nd4:h3.get? 222=none:=nd3
     exact zs1 nd4 hP3
    ·exact zs1 nd3 (up3 _ _ hd9 q)
  ·exact⟨_,_,_,_,c2,ctv2,L'+1,L'+1+1,L'+1+1+1,oc3,oc2,oc1,t1,t2,t3,⟨_,_,_,_,_,_,_,rfl,rfl,rfl⟩,kn _ _ nf2 gf2,kc _ _ cn3 hc2,cn3,⟨kn _ _ (fresh 1) g1,d3⟩,⟨kn _ _ (fresh 2) g2,d2⟩,⟨kn _ _ (fresh 3) g3,d1⟩⟩
 refine hret f1 h5 tk5 ps3 (fun b o hb e=>k05 b o hb (fun q=>?_) (keep' b o e)) (k5' _ _ hf1P hP3) ⟨ok3.1,fun pos cv e=>?_⟩ (rule h5 (fun Z Z Z e=>e) fun Z Z Z r=>r) (none' _ new1) rule
 ·have:=Tc e
  rw[q] at this
  exact absurd hLs (Ug.mpr this)
 ·refine L1 (ok3.2 pos cv e) fun c' e1 e2 r=>?_
  refine C6 r fun c oc vs tt e3 g3 dd3 v3=>?_;clear r
  cases e3
  refine⟨c',e1,e2,c',oc,vs,tt,rfl,k5' _ _ (fun q=>?_) g3,dd3,v3⟩
  rw[q,o1'] at g3;cases g3;cases dd3
end W5
section
variable{w:Va}{loose:List Vk}{mean:UH->Option UX}{mg mb:Vk->Option UX}
theorem Di{w loose mean mg mb}(reach)(low)(high)(verdict)(t1)(t2)(t3)(t4):∀dp un gd cn cs a ccd cl outer A₀ base h₀ L m s Q E ps,W5.T w loose mean mg mb reach low high verdict t1 t2 t3 t4 dp un gd cn cs a ccd cl outer A₀ base h₀ L m s Q E ps:=fun dp un gd cn cs a ccd cl outer A₀ base h₀ L m s Q E ps=>f7 (P:=W5.P9) (c:=W5.c9) (by with_unfolding_all rfl) (by with_unfolding_all exact W5.walk) ((w,loose,mean,mg),(mb,reach,low,high),(verdict,t1,t2,t3),(t4,dp,un,gd),(cn,cs,a,ccd),(cl,outer,A₀,base),(h₀,L,m,s),(Q,E,ps))
end
end Mine
end
section
open PySem PySem.W PySem.Calls PyProof.Rows
namespace Mine
theorem S.gAp:True:=trivial
open S (sK0 sK10 gAp)
theorem Pw:True:=by
 k_with "eval Name"=>(guard_expr gAp=ₛ gAp;(k_here;k_dflt (refine' JT ?k1 ?k2 ?k3 ?k4 ?_ ?k6 ?k7 ?k8 ?k9;(case k6=>exact rfl);(case k7=>with_unfolding_all rfl);(case k8=>decide);(case k9=>decide);(case k1=>k_asm);(case k2=>exact rfl);(case k3=>assumption);(case k4=>assumption);k_whole)))
 trivial
theorem Nr{prog:UF}{w:Va}{A A₀:UP}{s:UO}{base h₀:Vg}{outer:List Vn}{env:Vn}{L:Vf}{m:Vk->Option UX}{K:Frag}{p:UF}{loose:List Vk}{mean:UH->Option UX}{mg mb:Vk->Option UX}
  {R:UT->UO->Prop}{name qual:Vk}{params:Up}{body:Vh}{scope:Vb}{cl:List (Vk×Vf)}{pm ctv:UX}{c':Vf}{f:Vf}{args:Args}{binds:List (Vk×UX)}
  (B:Vd A₀ base outer h₀)(F:Fr h₀ L s.heap m)(X₀:K.In h₀)(T:Top p loose mean mg mb h₀)(hA:A.frames=some (env::outer))(hf:env.frame=some L)(hke:env.scope.kind= .function)
  (ho:s.heap.get? f=some (kla_obj name qual params body scope cl pm c' ctv))(hcd:s.heap.CodeRec (.ref c') qual)(hroom:A.depth<Su)
  (hbind:bindArgs (kla_fn name qual params body scope cl pm (.ref c') ctv) args=pure binds)(hloc:∀y∈binds,scope.names.lookup y.1=some .local)
  (h:∀L' h₁,Fr s.heap L' h₁ (fun y=>binds.reverse.lookup y)->News s.heap L' h₁ []->Vd A base (env::outer) s.heap->K.In s.heap->Top p loose mean mg mb s.heap->
   UY (UZ prog w) (A.deeper (envX qual scope L' f (.ref c') cl)) (Vi body (envX qual scope L' f (.ref c') cl))
    (fun v s'=>Lv s.heap R v s')
    (fun e s'=>UY (UZ prog w) (A.deeper (envX qual scope L' f (.ref c') cl)) (leaving (envX qual scope L' f (.ref c') cl) e) (fun Z s''=>R (.error e) s'') (fun e' s''=>R (.error e') s'') s')
    {s with heap:=h₁,toks:=s.toks+binds.length})
  (hco:scope.isCoroutine=false)(hgen:scope.isGenerator=false)(hk:scope.kind= .function)
  (hcell:∀x∈scope.names,x.2≠ .cell):UI (UZ prog w) A (.call (.ref f) args) R s:=by
 have X:=X₀.keeps F.keep
 have T':=T.keeps F.keep
 have B₁:=pushX B F hf hke
 have B₂:Vd A base (env::outer) s.heap:=⟨hA,B₁.stays,B₁.frames⟩
 refine kla_callFunE hroom ho rfl hco hgen rfl hcd ?_
 rw[hbind]
 refine TR (wpAny_newFunctionEnv hcell hloc (fun h₁ hns hsb=>⟨T'.nolimit.fresh _ hsb,?_⟩) hk)
 show UI _ _ (.expr body (envX qual scope s.heap.objs.size f (.ref c') cl)) _ _
 have hk₁:∀b o,s.heap.get? b=some o->h₁.get? b=some o:=fun b o e=>hsb.extBut b o (Tb (Tc e)) (Qj _ e)
 refine kla_codeExpr (TT (h s.heap.objs.size h₁ ⟨hns,hk₁,TA _⟩ News.nil B₂ X T') (fun v s' hl=>?_) fun Z Z y=>y)
 refine y8 hl fun L' m' F' k=>?_;clear hl
 exact k F'.keep
theorem JT{M:Vc}{A:UP}{E:UX->UO->Prop}{s:UO}{h₀:Vg}{L c:Vf}{m:Vk->Option UX}{env:Vn}{o:Vl}{x:Vk}{pos:Pos}{v:UX}{Q:UX->UO->Prop}
  (F:Fr h₀ L s.heap m)(hc:env.cells.lookup x=some c)(ho:h₀.get? c=some o)(hd':o.data= .cell (some v))(h:Q v s)(hk:env.scope.kind= .function)(hx:env.kindOf x=some .free)(hd:(x == ("__debug__":Vk))=false)(hn:(x == ("__classdict__":Vk))=false):
  UY M A (Vi (.Name x pos) env) Q E s:=Uj (wpAny_loadName_free hk hx hc (iEA _ (F.keep _ _ ho) hd') h hn) hd
section
variable{w:Va}{loose:List Vk}{mean:UH->Option UX}{mg mb:Vk->Option UX}
theorem Hy(f:Vf)(reach low high:Int)(y:Vk)(u:Vm)(n:Int):Ct w loose mean mg mb 3 f [.str y u] (fun h=>H4 (_root_.Mine.Sh.hd.heap_39 w.params) h f reach low high/\SG (Uq y (some 1) none)=some n/\(Uq y (some 1) none).length<=640/\y.length<=600) (fun h h' r=>∃t,r= .int (if low<n/\n<=high then reach else 0) t):=by
 unfold Ct PR
 k_fill
 intro dp un gd cn cs a ccd cl outer A₀ base h₀ L m s Q E B F X T Se hk hd hu hpre hret
 refine AX hpre fun hap hn hlen hlen2=>?_;clear hpre
 obtain⟨params,body,scope,pm,c',ctv,cR,cL,cH,oR,oL,oH,tR,tL,tH,e1,o2,r2,nc,⟨gR,dR⟩,⟨gL,dL⟩,⟨gH,dH⟩⟩:=hap
 with_unfolding_all obtain⟨rfl,rfl,rfl⟩:=Nc e1 rfl rfl rfl
 refine TV ?_
 k_dflt (refine' Nr (binds:=[(Ta "asked", .str y u)]) ?k1 ?k2 ?k3 ?k5 ?kA ?kF ?kK ?k6 ?k7 ?k8 ?k9 ?kB ?_ ?c2 ?c3 ?c4 ?c5;(case kA=>exact rfl);(case kF=>exact rfl);(case kK=>assumption);(case k1=>k_asm);(case k2=>k_asm);(case k3=>k_asm);(case k5=>k_asm);(case k6=>exact o2);(case k7=>exact r2);(case k8=>ktr_room);(case k9=>exact rfl);(case c5=>decide);(case kB=>exact locs rfl);(case c2=>exact rfl);(case c3=>exact rfl);(case c4=>exact rfl);k_whole;intro L' h' F' N' B' X' T';have Se':=Qc Se (Fr.keep F);(try dsimp only);(try k_lift B');(try k_fold))
 k_steps
 unfold g9
 refine KIN.call_text hn hlen ?_
 k_steps
 all_goals(rename Fr _ _ _ _=>F9;refine Lv.intro F9 ?_;intro kp;refine hret _ _ _ kp ?_)
 ·rw[if_pos ⟨by assumption,by assumption⟩];exact⟨_,rfl⟩
 ·rw[if_neg (fun q=>absurd q.2 (by assumption))];exact⟨_,rfl⟩
 ·rw[if_neg (fun q=>absurd q.1 (by assumption))];exact⟨_,rfl⟩
end
end Mine
end
section
open PySem PySem.W PySem.Calls PyProof.Rows
namespace Mine
open S (sK0)
local macro_rules | `(tactic|k_room)=> `(tactic|ktr_room)
noncomputable abbrev z9(P:Params)(t1 t2 t3 t4:Vm)(ua rl dv rv:UX):Vl:=
 dictOf [⟨UR.keyHash P (Ta "useragents"), .str (Ta "useragents") t1,ua⟩,⟨UR.keyHash P (Ta "rulelines"), .str (Ta "rulelines") t2,rl⟩,
  ⟨UR.keyHash P (Ta "delay"), .str (Ta "delay") t3,dv⟩,⟨UR.keyHash P (Ta "req_rate"), .str (Ta "req_rate") t4,rv⟩] 4
section
variable{w:Va}{loose:List Vk}{mean:UH->Option UX}{mg mb:Vk->Option UX}
namespace Li
noncomputable def Pre(w:Va)(ua rl:Vf)(dv rv:UX)(h:Vg):Prop:=True
noncomputable def Post(w:Va)(ua rl:Vf)(dv rv:UX)(h h':Vg)(r:UX):Prop:=∃x dx t1 t2 t3 t4,r= .ref x/\h'.get? x=some (UL 69 dx)/\h'.get? dx=some (z9 w.params t1 t2 t3 t4 (.ref ua) (.ref rl) dv rv)/\h.get? x=none/\h.get? dx=none/\x≠dx
noncomputable def T(cx:Cx)(ua:Vf)(rl:Vf)(dv:UX)(rv:UX):Prop:=CtX cx 3 234 [.ref ua, .ref rl,dv,rv] (Pre cx.w ua rl dv rv) (Post cx.w ua rl dv rv)
noncomputable def P9:=V4 fun cx ua rl dv=>fun rv=>T cx ua rl dv rv
@[irreducible] noncomputable def c:=y6 (by k_extra "ne") P9
@[irreducible] noncomputable def cx:=c.1.1
@[irreducible] noncomputable def ua:=c.1.2.1
@[irreducible] noncomputable def rl:=c.1.2.2.1
@[irreducible] noncomputable def dv:=c.1.2.2.2
@[irreducible] noncomputable def rv:=c.2
noncomputable def red:Red cx 3 234 [.ref ua, .ref rl,dv,rv] (Pre cx.w ua rl dv rv) (Post cx.w ua rl dv rv):=⟨_,fun hP=>⟨fun hy=>by
 have hP':=hP hy
 clear hP
 obtain⟨B,F,X,T,Se,hk,hd,hu,hpre,hret⟩:=hy
 unfold Pre at hpre
 unfold PR
 revert X;k_fill;intro X
 refine TV ?_
 k_dflt (refine' enter (binds:=[(Ta "agents", .ref ua),(Ta "rules", .ref rl),(Ta "delay",dv),(Ta "rate",rv)]) ?k1 ?k2 ?k3 ?k5 ?kA ?kF ?kK ?k6 ?k7 ?k8 ?k9 ?kB ?_ ?c2 ?c3 ?c4 ?c5;(case kA=>exact rfl);(case kF=>exact rfl);(case kK=>assumption);(case k1=>k_asm);(case k2=>k_asm);(case k3=>k_asm);(case k5=>k_asm);(case k6=>k_is);(case k7=>k_is);(case k8=>ktr_room);(case k9=>exact SL rfl);(case c5=>decide);(case kB=>exact locs rfl);(case c2=>exact rfl);(case c3=>exact rfl);(case c4=>exact rfl);k_whole)
 exact hP'.get⟩⟩
@[irreducible] noncomputable def cF:Vf×Vg:=Dl red.P rfl
@[irreducible] noncomputable def L':Vf:=cF.1
@[irreducible] noncomputable def h':Vg:=cF.2
theorem walk(hy:HyX cx 3 (Pre cx.w ua rl dv rv) (Post cx.w ua rl dv rv)):red.P:=by
 refine J2 (a:=L') (b:=h') rfl (by unfold L' cF;rfl) (by unfold h' cF;rfl) ?_
 obtain⟨B,F,X,T,Se,hk,hd,hu,hpre,hret⟩:=hy
 unfold Pre at hpre
 have q9:PR=PR:=rfl
 unfold PR at q9
 revert X q9;k_fill;intro X q9;clear q9
 intro F' N' B' X' T'
 k_dflt (have Se':=Qc Se (Fr.keep F);(try dsimp only);(try k_lift B');(try k_fold))
 k_steps
 all_goals(rename Fr _ _ _ _=>F9;rename News _ _ _ _=>N9;refine Lv.intro F9 ?_;intro kp;refine hret _ _ _ kp ?_)
 have hx:=N9 _ (.tail _ (.tail _ (.head _)))
 have hdx:=N9 _ (.tail _ (.tail _ (.tail _ (.head _))))
 exact⟨_,_,_,_,_,_,rfl,hx.1,hdx.1,hx.2.2,hdx.2.2,fun q=>by
  have e1:=hx.1
  have e2:=hdx.1
  dsimp only at e1 e2 q
  rw[q,e2] at e1
  cases e1⟩
end Li
theorem Ee(ua rl:Vf)(dv rv:UX):Ct w loose mean mg mb 3 234 [.ref ua, .ref rl,dv,rv] (fun h=>True) (fun h h' r=>∃x dx t1 t2 t3 t4,r= .ref x/\h'.get? x=some (UL 69 dx)/\h'.get? dx=some (z9 w.params t1 t2 t3 t4 (.ref ua) (.ref rl) dv rv)/\h.get? x=none/\h.get? dx=none/\x≠dx):=
 CtX.ct (Pre:=fun w=>Li.Pre w ua rl dv rv) (Post:=fun w=>Li.Post w ua rl dv rv) fun cx9=>show Li.T cx9 ua rl dv rv from f7 (P:=Li.P9) (c:=Li.c) (by with_unfolding_all rfl) (by with_unfolding_all exact Li.red.of fun y=>⟨Li.walk y⟩) ((cx9,ua,rl,dv),rv)
end
end Mine
end
section
open PySem PySem.W PySem.Calls PyProof.Rows
namespace Mine
theorem S.gAl:True:=trivial
open S (sK0 gAl)
theorem Px:True:=by
 k_with "getMethod ref"=>(guard_expr gAl=ₛ gAl;(k_here;k_dflt (refine' EC Ak ?g1 ?g2 ?g3 ?_;(case g1=>exact FnAt.keeps (by assumption) (Fr.keep (by k_asm)));(case g2=>rfl);(case g3=>intro i9 q9;cases q9);k_whole;intro _;(try dsimp only))))
 k_with "getAttr ref"=>(guard_expr gAl=ₛ gAl;(k_here;k_dflt (refine' CD V9 ?g1 ?g2 ?g3 ?_;(case g1=>exact FnAt.keeps (by assumption) (Fr.keep (by k_asm)));(case g2=>rfl);(case g3=>intro i9 q9;cases q9);k_whole;intro _)))
 k_with "call ref"=>(guard_expr gAl=ₛ gAl;(k_here;k_dflt ((refine' Aw (Hy _ _ _ _ _ _ _) ?u1 ?u2 ?u3 ?u4 ?u5 ?u6 ?u7 ?u8 ?u9 ?uA ?_;(case u1=>k_asm);(case u2=>k_asm);(case u3=>k_asm);(case u4=>k_asm);(case u5=>k_asm);(case u6=>k_asm);(case u7=>first|exact rfl|assumption);(case u8=>ktr_room);(case u9=>ktr_units);(case uA=>k_extra "app");k_whole;intro _ _ _ _ _ _;(try dsimp only);(try k_fold)))))
 k_with "callWith ref"=>(guard_expr gAl=ₛ gAl;(k_here;k_dflt (refine' callWith_F ?k1 ?_;(case k1=>exact KV (by assumption) (Fr.keep (by k_asm)));k_whole;(try dsimp only[Sb,RG]))))
 trivial
local macro_rules | `(tactic|k_room)=> `(tactic|ktr_room)
theorem IP{h h':Vg}{x C:Vf}{ox:Vl}{od:Option Vl}(I:InstAt h x ox C od)(k:∀b o,h.get? b=some o->h'.get? b=some o):InstAt h' x ox C od:=by
 obtain⟨a,b,c,d⟩:=I
 refine⟨k _ _ a,b,c,?_⟩
 obtain⟨cl,di,da,sl⟩:=ox
 cases di <;> cases od <;> first|exact d|exact k _ _ d
theorem FnAt.keeps{h h':Vg}{a:Vf}{fd:FuncData}{mA:Vk->Option UX}(I:FnAt h a fd mA)(k:∀b o,h.get? b=some o->h'.get? b=some o):FnAt h' a fd mA:=by
 refine V3 I fun o e hc hd hdict=>?_;clear I
 refine(BO o (k _ _ e) hc hd (hdict.imp id ?_))
 (intro r0_;refine L1 r0_ fun d e1 e2 e3=>?_;clear r0_)
 exact(V8 d e1 e2 (e3.at fun o e=>k _ _ e))
theorem H4.keeps{K:Frag}{h h':Vg}{f:Vf}{a b c:Int}(I:H4 K h f a b c)(k:∀b o,h.get? b=some o->h'.get? b=some o):H4 K h' f a b c:=by
 obtain⟨params,body,scope,pm,c',ctv,cR,cL,cH,oR,oL,oH,tR,tL,tH,e1,o2,r2,nc,⟨gR,dR⟩,⟨gL,dL⟩,⟨gH,dH⟩⟩:=I
 exact⟨params,body,scope,pm,c',ctv,cR,cL,cH,oR,oL,oH,tR,tL,tH,e1,k _ _ o2,r2.keeps k,nc,⟨k _ _ gR,dR⟩,⟨k _ _ gL,dL⟩,⟨k _ _ gH,dH⟩⟩
theorem S7.keeps{K:Frag}{h h':Vg}{r:Vf}{a b c d:Int}(I:S7 K h r a b c d)(k:∀b o,h.get? b=some o->h'.get? b=some o):S7 K h' r a b c d:=by
 obtain⟨fd,f,t,x,y⟩:=I
 exact⟨fd,f,t,x.keeps k,y.keeps k⟩
local macro_rules | `(tactic|k_inst)=> `(tactic|(refine' IP ?iA ?iB;(case iA=>assumption);(case iB=>exact Fr.keep (by k_asm))))
theorem KV{h h':Vg}{q:Vf}(I:PySem.W.FnAt q h)(k:∀b o,h.get? b=some o->h'.get? b=some o):PySem.W.FnAt q h':=by
 refine Eo I fun oc od fd sl e=>?_;clear I
 exact(Ke oc od fd sl (k _ _ e))
theorem H4.fn{K:Frag}{h:Vg}{f:Vf}{a b c:Int}(I:H4 K h f a b c):PySem.W.FnAt f h:=by
 obtain⟨params,body,scope,pm,c',ctv,cR,cL,cH,oR,oL,oH,tR,tL,tH,e1,o2,_⟩:=I
 exact(Ke _ _ _ _ o2)
structure RuleD where
 (reach low high verdict:Int)
noncomputable def RuleD.m(r:RuleD)(n:Int):Int:=if r.low<n/\n<=r.high then r.reach else 0
noncomputable def G2(n:Int)(p:Int×Option Int)(r:RuleD):Int×Option Int:=
 if r.m n=0 then p else if r.m n>p.1 then(r.m n,some r.verdict) else if r.m n=p.1/\p.2=some 0 then(p.1,some r.verdict) else p
noncomputable def G3(n:Int)(rs:List RuleD):Int×Option Int:=rs.foldl (G2 n) (-1,none)
noncomputable abbrev RM(r:RuleD)(n:Int):Int:=if r.low<n/\n<=r.high then r.reach else 0
theorem al0{n best:Int}{o:Option Int}{r:RuleD}(h:RM r n=0):G2 n (best,o) r=(best,o):=if_pos h
theorem al1{n best:Int}{o:Option Int}{r:RuleD}(h:RM r n≠0)(h2:best<RM r n):G2 n (best,o) r=(RM r n,some r.verdict):=(if_neg h).trans (if_pos h2)
theorem al2{n best:Int}{o:Option Int}{r:RuleD}(h:RM r n≠0)(h2:¬best<RM r n)(h3:¬(RM r n=best/\o=some 0)):G2 n (best,o) r=(best,o):=(if_neg h).trans ((if_neg h2).trans (if_neg h3))
theorem al3{n best z:Int}{r:RuleD}(h:RM r n≠0)(h2:¬best<RM r n)(h3:RM r n=best)(h4:z=0):G2 n (best,some z) r=(best,some r.verdict):=(if_neg h).trans ((if_neg h2).trans (if_pos ⟨h3,congrArg some h4⟩))
noncomputable def EU(v:UX):Option Int->Prop
 |none=>v= .bool true
 |some z=>∃t,v= .int z t
theorem Ao{h₀:Vg}{L:Vf}{m' m0:Vk->Option UX}{own news':List (Vf×Vl)}{s₁:UO}{h':Vg}{tk:Nat}{n:Int}{rs:List RuleD}{k:Nat}{r:RuleD}{st st':Int×Option Int}{t:Vm}{v:UX}
 (F:Fr h₀ L h' m')(N:News h₀ L h' news')(ho:∀p∈own,p∈news')(stp:G3 n (rs.take k)=G2 n st r)(hs:G2 n st r=st')(hm:O4 [Ta "best_match",Ta "allowance",Ta "line",Ta "m"] m' m0)
 (hb:m' (Ta "best_match")=some (.int st'.1 t))(ha:m' (Ta "allowance")=some v)(hv:EU v st'.2):
 InvEndG h₀ L (fun m nx=>O4 [Ta "best_match",Ta "allowance",Ta "line",Ta "m"] m m0/\nx=[]/\(∃t,m (Ta "best_match")=some (.int (G3 n (rs.take k)).1 t))/\∃v,m (Ta "allowance")=some v/\EU v (G3 n (rs.take k)).2) own s₁ {s₁ with heap:=h',toks:=tk}:=by
 rw[stp,hs]
 exact SY (nx:=[]) F N (Nh hm rfl ⟨t,hb⟩ v ha hv) (fun p hp b hb=>nomatch hb) (fun p hp=>nomatch hp) ho
theorem Ag{α β:Type}{R:α->β->Prop}{l₁:List α}{l₂:List β}(h:Paired R l₁ l₂):∀{i:Nat}{v:α},l₁[i]? =some v->∃r,l₂[i]? =some r/\R v r:=by
 induction h with
 |nil=>intro i v e;cases e
 |cons h t ih=>
  intro i v e
  cases i with
  |zero=>cases e;exact(iEA _ rfl h)
  |succ i=>exact ih e
theorem AC{α β:Type}{R:α->β->Prop}{l₁:List α}{l₂:List β}(h:Paired R l₁ l₂):l₁.length=l₂.length:=by
 induction h with
 |nil=>rfl
 |cons _ t ih=>exact congrArg Nat.succ ih
section
variable{w:Va}{loose:List Vk}{mean:UH->Option UX}{mg mb:Vk->Option UX}
namespace C66
noncomputable def Pre(w:Va)(x dx rl:Vf)(t1 t2 t3 t4:Vm)(uv dv rv:UX)(vs:List UX)(rs:List RuleD)(y:Vk)(u:Vm)(n:Int)(h:Vg):Prop:=h.get? x=some (UL 69 dx)/\h.get? dx=some (z9 w.params t1 t2 t3 t4 uv (.ref rl) dv rv)/\h.IsList rl vs.toArray/\Paired (fun v r=>∃a,v= .ref a/\S7 (_root_.Mine.Sh.hd.heap_39 w.params) h a r.reach r.low r.high r.verdict) vs rs/\SG (Uq y (some 1) none)=some n/\(Uq y (some 1) none).length<=640/\y.length<=600
noncomputable def Post(w:Va)(x dx rl:Vf)(t1 t2 t3 t4:Vm)(uv dv rv:UX)(vs:List UX)(rs:List RuleD)(y:Vk)(u:Vm)(n:Int)(h h':Vg)(r:UX):Prop:=EU r (G3 n rs).2
noncomputable def T(cx:Cx)(x:Vf)(dx:Vf)(rl:Vf)(t1:Vm)(t2:Vm)(t3:Vm)(t4:Vm)(uv:UX)(dv:UX)(rv:UX)(vs:List UX)(rs:List RuleD)(y:Vk)(u:Vm)(n:Int):Prop:=CtX cx 5 66 [.ref x, .str y u] (Pre cx.w x dx rl t1 t2 t3 t4 uv dv rv vs rs y u n) (Post cx.w x dx rl t1 t2 t3 t4 uv dv rv vs rs y u n)
noncomputable def P9:=V4 fun cx x dx rl=>V4 fun t1 t2 t3 t4=>V4 fun uv dv rv vs=>U4 fun rs y u n=>T cx x dx rl t1 t2 t3 t4 uv dv rv vs rs y u n
@[irreducible] noncomputable def c:=y6 (by k_extra "ne") P9
@[irreducible] noncomputable def cx:=c.1.1
@[irreducible] noncomputable def x:=c.1.2.1
@[irreducible] noncomputable def dx:=c.1.2.2.1
@[irreducible] noncomputable def rl:=c.1.2.2.2
@[irreducible] noncomputable def t1:=c.2.1.1
@[irreducible] noncomputable def t2:=c.2.1.2.1
@[irreducible] noncomputable def t3:=c.2.1.2.2.1
@[irreducible] noncomputable def t4:=c.2.1.2.2.2
@[irreducible] noncomputable def uv:=c.2.2.1.1
@[irreducible] noncomputable def dv:=c.2.2.1.2.1
@[irreducible] noncomputable def rv:=c.2.2.1.2.2.1
@[irreducible] noncomputable def vs:=c.2.2.1.2.2.2
@[irreducible] noncomputable def rs:=c.2.2.2.1
@[irreducible] noncomputable def y:=c.2.2.2.2.1
@[irreducible] noncomputable def u:=c.2.2.2.2.2.1
@[irreducible] noncomputable def n:=c.2.2.2.2.2.2
noncomputable def red:Red cx 5 66 [.ref x, .str y u] (Pre cx.w x dx rl t1 t2 t3 t4 uv dv rv vs rs y u n) (Post cx.w x dx rl t1 t2 t3 t4 uv dv rv vs rs y u n):=⟨_,fun hP=>⟨fun hy=>by
 have hP':=hP hy
 clear hP
 obtain⟨B,F,X,T,Se,hk,hd,hu,hpre,hret⟩:=hy
 unfold Pre at hpre
 unfold PR
 revert X;k_fill;intro X
 refine AD hpre fun hx hdx hl hr hn hlen hlen2=>?_;clear hpre
 refine TV ?_
 k_dflt (refine' enter (binds:=[(Ta "self", .ref x),(Ta "filename", .str y u)]) ?k1 ?k2 ?k3 ?k5 ?kA ?kF ?kK ?k6 ?k7 ?k8 ?k9 ?kB ?_ ?c2 ?c3 ?c4 ?c5;(case kA=>exact rfl);(case kF=>exact rfl);(case kK=>assumption);(case k1=>k_asm);(case k2=>k_asm);(case k3=>k_asm);(case k5=>k_asm);(case k6=>k_is);(case k7=>k_is);(case k8=>ktr_room);(case k9=>exact SL rfl);(case c5=>decide);(case kB=>exact locs rfl);(case c2=>exact rfl);(case c3=>exact rfl);(case c4=>exact rfl);k_whole)
 exact hP'.get⟩⟩
@[irreducible] noncomputable def cF:Vf×Vg:=Dl red.P rfl
@[irreducible] noncomputable def L':Vf:=cF.1
@[irreducible] noncomputable def h':Vg:=cF.2
theorem walk(hy:HyX cx 5 (Pre cx.w x dx rl t1 t2 t3 t4 uv dv rv vs rs y u n) (Post cx.w x dx rl t1 t2 t3 t4 uv dv rv vs rs y u n)):red.P:=by
 refine J2 (a:=L') (b:=h') rfl (by unfold L' cF;rfl) (by unfold h' cF;rfl) ?_
 obtain⟨B,F,X,T,Se,hk,hd,hu,hpre,hret⟩:=hy
 unfold Pre at hpre
 have q9:PR=PR:=rfl
 unfold PR at q9
 revert X q9;k_fill;intro X q9;clear q9
 refine AD hpre fun hx hdx hl hr hn hlen hlen2=>?_;clear hpre
 intro F' N' B' X' T'
 k_dflt (have Se':=Qc Se (Fr.keep F);(try dsimp only);(try k_lift B');(try k_fold))
 have I0:InstAt cx.s.heap x (UL 69 dx) 69 (some (z9 cx.w.params t1 t2 t3 t4 uv (.ref rl) dv rv)):=⟨hx,rfl,rfl,hdx⟩
 k_steps
 unfold g9
 rename Fr _ _ _ _=>F2
 rename News _ _ _ _=>N2
 refine LS [Ta "best_match",Ta "allowance",Ta "line",Ta "m"] (fun i u nx=>nx=[]/\(∃t,u (Ta "best_match")=some (.int (G3 n (rs.take i)).1 t))/\∃v,u (Ta "allowance")=some v/\EU v (G3 n (rs.take i)).2) rfl hl F2 N2 ⟨rfl,⟨_,rfl⟩,_,rfl,rfl⟩ ?turn ?done
 case turn=>
  (intro i v u9 nx h9 tk9 own hi9 ho r0_;(refine MR r0_ fun o0_ o1_ va hva hal=>?_;clear r0_;obtain rfl:=o0_;obtain⟨tb,hb⟩:=o1_);intro F8 N8)
  (refine LH (Ag hr hi9) fun r hri ar o0_ hra=>?_;obtain rfl:=o0_)
  obtain⟨fd,f,tv,hfn,hap⟩:=hra
  have hfw:=hap.fn
  simp only[pick,hb,hva] at F8
  have stp:G3 n (rs.take (i+1))=G2 n (G3 n (rs.take i)) r:=by
   rw[Rm,hri]
   simp[G3]
  generalize G3 n (rs.take i)=st at*
  obtain⟨best,al⟩:=st
  dsimp only at F8 hal
  have hap9:=H4.keeps hap (Fr.keep F8)
  k_with "app"=>(
   refine(Js ?q1 ?q2 ?q3 ?q4)
   case q1=>exact hap9
   case q2=>exact hn
   case q3=>exact hlen
   case q4=>exact hlen2)
  cases al with
  |none=>
   cases hal
   k_steps
   ·exact Ao (by assumption) (by assumption) (fun p hp=>hp) stp (al1 (by assumption) (by assumption)) (by k_extra "sm") rfl rfl ⟨_,rfl⟩
   ·exact Ao (by assumption) (by assumption) (fun p hp=>hp) stp (al2 (by assumption) (by assumption) (fun x=>nomatch x.2)) (by k_extra "sm") rfl rfl rfl
   ·exact Ao (by assumption) (by assumption) (fun p hp=>hp) stp (al2 (by assumption) (by assumption) (fun x=>nomatch x.2)) (by k_extra "sm") rfl rfl rfl
   ·exact Ao (by assumption) (by assumption) (fun p hp=>hp) stp (al0 (by assumption)) (by k_extra "sm") rfl rfl rfl
  |some z=>
   (refine oE hal fun tz o0_=>?_;clear hal;obtain rfl:=o0_)
   k_steps
   ·exact Ao (by assumption) (by assumption) (fun p hp=>hp) stp (al1 (by assumption) (by assumption)) (by k_extra "sm") rfl rfl ⟨_,rfl⟩
   ·exact Ao (by assumption) (by assumption) (fun p hp=>hp) stp (al2 (by assumption) (by assumption) (fun x=>absurd (RZ x.2) (by assumption))) (by k_extra "sm") rfl rfl ⟨_,rfl⟩
   ·exact Ao (by assumption) (by assumption) (fun p hp=>hp) stp (al3 (by assumption) (by assumption) (by assumption) (by assumption)) (by k_extra "sm") rfl rfl ⟨_,rfl⟩
   ·exact Ao (by assumption) (by assumption) (fun p hp=>hp) stp (al2 (by assumption) (by assumption) (fun x=>absurd x.1 (by assumption))) (by k_extra "sm") rfl rfl ⟨_,rfl⟩
   ·exact Ao (by assumption) (by assumption) (fun p hp=>hp) stp (al0 (by assumption)) (by k_extra "sm") rfl rfl ⟨_,rfl⟩
 case done=>
  (intro u11 nx11 h11 tk11 r0_;(refine MR r0_ fun o0_ o1_ va hva hal=>?_;clear r0_;obtain rfl:=o0_;obtain⟨tb,hb⟩:=o1_);intro F11 N11)
  have hlen9:vs.length=rs.length:=AC hr
  rw[hlen9,RK] at hal hb
  simp only[pick,hb,hva] at F11
  k_steps
  all_goals(refine Lv.intro F11 ?_;intro kp;exact hret _ _ _ kp hal)
end C66
theorem GH(x dx rl:Vf)(t1 t2 t3 t4:Vm)(uv dv rv:UX)(vs:List UX)(rs:List RuleD)(y:Vk)(u:Vm)(n:Int):Ct w loose mean mg mb 5 66 [.ref x, .str y u] (fun h=>h.get? x=some (UL 69 dx)/\h.get? dx=some (z9 w.params t1 t2 t3 t4 uv (.ref rl) dv rv)/\h.IsList rl vs.toArray/\Paired (fun v r=>∃a,v= .ref a/\S7 (_root_.Mine.Sh.hd.heap_39 w.params) h a r.reach r.low r.high r.verdict) vs rs/\SG (Uq y (some 1) none)=some n/\(Uq y (some 1) none).length<=640/\y.length<=600) (fun h h' r=>EU r (G3 n rs).2):=
 CtX.ct (Pre:=fun w=>C66.Pre w x dx rl t1 t2 t3 t4 uv dv rv vs rs y u n) (Post:=fun w=>C66.Post w x dx rl t1 t2 t3 t4 uv dv rv vs rs y u n) fun cx9=>show C66.T cx9 x dx rl t1 t2 t3 t4 uv dv rv vs rs y u n from f7 (P:=C66.P9) (c:=C66.c) (by with_unfolding_all rfl) (by with_unfolding_all exact C66.red.of fun y=>⟨C66.walk y⟩) ((cx9,x,dx,rl),(t1,t2,t3,t4),(uv,dv,rv,vs),(rs,y,u,n))
end
end Mine
end
section
open PySem PySem.W PySem.Calls PyProof.Rows PySem.Spec Builtin
set_option maxHeartbeats 3200000
namespace Mine
noncomputable def HC(ss:List Vk)(i:Nat)(v:UX):Prop:=∃x t,ss[i]? =some x/\v= .str x t
theorem Kx{ss:List Vk}{i:Nat}{x k:Vk}(h:ss[i]? =some x):(ss.take (i+1)).any (· == k)=((ss.take i).any (· == k) || decide (k=x)):=by
 rw[Rm,h,List.any_append]
 congr 1
 by_cases e:k=x
 ·subst e;simp
 ·simp[e,Ne.symm e]
section
variable{prog:UF}{w:Va}{A:UP}{R:UT->UO->Prop}{I:Vf}{fp wr:List Vf}{G:Array GenState->Array GenState->Prop}{n:Nat}{P:Nat->UX->Prop}{St:Nat->UO->Prop}
theorem BC(W:WalksS prog w A.in1 I fp wr G n P St)(S:Vf)(hSf:S∉fp)(ss:List Vk)(hlen:ss.length=n)(hval:∀i v,P i v->HC ss i v)(hb:n+1<scanBound):
  ∀(k i c:Nat)(s:UO),n-i=k->i<=n->c<=i->St i s->s.heap.SetOf (strKind prog w) S (fun k'=>(ss.take i).any (· == k')) c->
   (∀s' c',Moved (S::wr) G s s'->c'<=n->s'.heap.SetOf (strKind prog w) S (fun k'=>ss.any (· == k')) c'->R (.ok (.ret .none)) s')->
   UI (UZ prog w) A (.builtin "set.update.loop" ⟨[.ref S, .ref I],[]⟩) R s:=by
 have hSw:S∉wr:=fun h=>hSf (W.sub _ h)
 have hsub:∀b∈wr,b∈S::wr:=fun b hb=>List.mem_cons_of_mem _ hb
 intro k
 induction k with
 |zero=>
  intro i c s hk hi hc hst hS hR
  obtain rfl:i=n:=by lia
  refine Sg PM ?_
  rw[Qw PL _]
  show UY _ A.in1 (pyNext (.ref I)>>=_) _ _ s
  refine TQ (W.done s _ _ hst fun s' hm=>?_)
  show UY _ A.in1 (ret Uc) _ _ s'
  refine TR (hR s' c (hm.mono hsub) hc ?_)
  refine KO hS fun o es ep t ho rest=>?_;clear hS
  rw[←hlen,RK] at rest
  exact(Gp o es ep t (hm.heap S _ hSw ho) rest)
 |succ k ih=>
  intro i c s hk hi hc hst hS hR
  have hlt:i<n:=by lia
  refine Sg PM ?_
  rw[Qw PL _]
  show UY _ A.in1 (pyNext (.ref I)>>=_) _ _ s
  refine TQ (W.item i s _ _ hlt hst fun v s' hP hst' hm=>?_)
  (refine y8 (hval i v hP) fun x t hx o0_=>?_;obtain rfl:=o0_)
  have hS':s'.heap.SetOf (strKind prog w) S (fun k'=>(ss.take i).any (· == k')) c:=by
   refine KO hS fun o es ep tb ho rest=>?_;clear hS
   exact(Gp o es ep tb (hm.heap S _ hSw ho) rest)
  have his:(strKind prog w).is x (.str x t)=true:=by show(x == x)=true;simp
  show UY _ A.in1 (holding [Um x t] (setAdd S (.str x t))>>=_) _ _ s'
  refine TQ (SM ?_)
  unfold setAdd
  refine SM ?_
  refine TQ ((strKind prog w).pyHash (k:=x) his ?_)
  refine wpAny_setAddHashed_of (knd:=strKind prog w) (s:={s' with toks:=s'.toks+1}) his rfl hS' (by lia) fun h' hsb hS2=>?_
  have hSi:h'.SetOf (strKind prog w) S (fun k'=>(ss.take (i+1)).any (· == k')) (if(ss.take i).any (· == x)=true then c else c+1):=
   SetOf_congr hS2 (fun k'=>(Kx hx).symm) rfl
  refine TR ⟨SQ PL _,ih (i+1) _ _ (by lia) hlt (by split <;> lia) (W.frame _ s' _ _ hst' (TG _) fun b hb o e=>?_) hSi fun s'' c'' hm'' hc'' hS''=>?_⟩
  ·rw[hsb.2 b (fun h:b=S=>hSf (by rw[←h];exact hb))];exact e
  ·refine hR s'' c'' (Moved.trans W.gtrans ((hm.mono hsub).then_heap (TG _) fun b o hb e=>?_) hm'') hc'' hS''
   rw[hsb.2 b (fun h:b=S=>hb (by rw[h];exact List.mem_cons_self))];exact e
end
section
variable{prog:UF}{w:Va}{A:UP}{E:UX->UO->Prop}{s:UO}
end
namespace A4
noncomputable def T(prog:UF)(w:Va)(A:UP)(E:UX->UO->Prop)(s:UO)(l:Vf)(items:Array UX)(ss:List Vk)(Q:UX->UO->Prop):Prop:=∀(hh:A.handled=none)(hl:s.heap.IsList l items)(hlen:ss.length=items.size)(hi:∀i v,items[i]? =some v->HC ss i v)(hb:items.size+1<scanBound)(h:∀(h':Vg)(tk c:Nat),c<=items.size->h'.SetOf (strKind prog w) s.heap.objs.size (fun k'=>ss.any (· == k')) c->
   (∀b o,b<s.heap.objs.size->s.heap.get? b=some o->h'.get? b=some o)->Q (.ref s.heap.objs.size) {s with heap:=h',toks:=tk}),UY (UZ prog w) A (call (.type "set") [.ref l]) Q E s
noncomputable def P9:=V4 fun prog w A E=>V4 fun s l items ss=>fun Q=>T prog w A E s l items ss Q
@[irreducible] noncomputable def c:=y6 (by k_extra "ne") P9
@[irreducible] noncomputable def prog:=c.1.1
@[irreducible] noncomputable def w:=c.1.2.1
@[irreducible] noncomputable def A:=c.1.2.2.1
@[irreducible] noncomputable def E:=c.1.2.2.2
@[irreducible] noncomputable def s:=c.2.1.1
@[irreducible] noncomputable def l:=c.2.1.2.1
@[irreducible] noncomputable def items:=c.2.1.2.2.1
@[irreducible] noncomputable def ss:=c.2.1.2.2.2
@[irreducible] noncomputable def Q:=c.2.2
theorem walk:T prog w A E s l items ss Q:=by
 intro hh hl hlen hi hb h
 refine oEE F.called_set.mro fun c tl hmro=>?_
 have hmade:=F.called_set.made
 have hsub:=F.called_set.sub
 refine TV (Sk ?_)
 show UY _ _ (callAny (.type "set") _) _ _ _
 refine TR ⟨Rg _ (by decide+kernel),Sg F.entry_type_call ?_⟩
 rw[UP.under_plain (weight_type_call_type "set" [.ref l] []) rfl]
 have h1:=F.called_set.notType
 have h2:=F.called_set.canCreate
 have hct:=F.typeCall_set_1 (.ref l)
 repeat(any_goals(first|assumption|wp_step))
 refine codeAny_mono (code_set_new_1 (.ref l) (E:=E) (Q₁:=fun obj s₁=>∃led:Bool,obj= .ref s.heap.objs.size/\s₁={s with heap:=s.heap.push {cls:= .type "set",dict:=none,data:= .set #[] 0 (.fresh 0 0 led)}}) fun led=>(iEA led rfl rfl)) fun r s₁ hr=>?_
 rcases r with e|(_|_|_|obj)
 ·exact hr
 ·exact hr.elim
 ·exact hr.elim
 ·exact hr.elim
 ·(refine oEA hr fun led o0_ o1_=>?_;clear hr;obtain rfl:=o0_;obtain rfl:=o1_)
  have hS:(s.heap.push {cls:= .type "set",dict:=none,data:= .set #[] 0 (.fresh 0 0 led)}).get? s.heap.objs.size=some {cls:= .type "set",dict:=none,data:= .set #[] 0 (.fresh 0 0 led)}:=QD _ rfl
  have hT:UO.TypeIs {s with heap:=s.heap.push {cls:= .type "set",dict:=none,data:= .set #[] 0 (.fresh 0 0 led)}} (.ref s.heap.objs.size) "set":=(iEA _ hS rfl)
  have hli:=F.called_set.init.lookup
  have hbi:=F.called_set.init.bind (.ref s.heap.objs.size)
  repeat(any_goals(first|assumption|wp_step))
  refine codeAny_mono (codeAny_call_builtin (R:=wants (fun r s₂=>r= .none/\∃h' tk c,s₂={s with heap:=h',toks:=tk}/\c<=items.size/\
    h'.SetOf (strKind prog w) s.heap.objs.size (fun k'=>ss.any (· == k')) c/\
    (∀b o,b<s.heap.objs.size->s.heap.get? b=some o->h'.get? b=some o)) E) F.called_set.init.plain F.entry_set_init (check_set_init_1 hT ?_)) fun r₂ s₂ hr₂=>?_
  ·refine Fl hl fun ol hol hcl nl hdl=>?_;clear hl
   obtain⟨ocls,odict,odata,oslots⟩:=ol
   simp only at hcl hdl
   subst hcl;subst hdl
   have hol':(s.heap.push {cls:= .type "set",dict:=none,data:= .set #[] 0 (.fresh 0 0 led)}).get? l=some {cls:= .type "list",dict:=odict,data:= .seq items nl,slots:=oslots}:=Qj _ hol
   have hsls:=F.sub_list_set
   have hslf:=F.sub_list_frozenset
   have hne:(Ua "list" == Ua "dict")=false:=by decide
   have hl1:(s.heap.push {cls:= .type "set",dict:=none,data:= .set #[] 0 (.fresh 0 0 led)}).IsList l items:=(Fq _ hol' rfl nl rfl)
   clear h1 h2 hct hmade hsub hli hbi hmro
   unfold UE.«set.__init__» noKeywords UE.Frozenset.updateFrom
   generalize hPI:UU=PI
   wp_walk
   subst hPI
   refine Ro hl1 ?_
   refine TQ (wpAny_runValue ?_)
   have hlS:l<s.heap.objs.size:=Tc hol
   have hh3:A.in1.in1.in1.handled=none:=by simp[hh]
   have hneI:l≠(s.heap.push {cls:= .type "set",dict:=none,data:= .set #[] 0 (.fresh 0 0 led)}).objs.size:=by
    rw[Ss];exact Tb (Ri hlS)
   have hSf:s.heap.objs.size∉[(s.heap.push {cls:= .type "set",dict:=none,data:= .set #[] 0 (.fresh 0 0 led)}).objs.size,l]:=by
    rw[Ss];simp only[SH,RE,or_false,not_or]
    exact⟨Tb (RC _),Te hlS⟩
   refine BC ((Walks.list hh3 _ l hneI items).toS) s.heap.objs.size hSf ss hlen hi hb (items.size-0) 0 0 _ (by lia) (TC _) (TA _)
    ⟨(V8 _ (QD _ rfl) rfl rfl),(hl1.push _)⟩ ?hS0 ?hR
   case hS0=>
    have hget:((s.heap.push {cls:= .type "set",dict:=none,data:= .set #[] 0 (.fresh 0 0 led)}).push {cls:= .type "list_iterator",data:= .fields #[.ref l, .int 0 0]}).get? s.heap.objs.size
      =some {cls:= .type "set",dict:=none,data:= .set #[] 0 (.fresh 0 0 led)}:=Qj _ hS
    exact SetOf_congr ((PyProof.Rows.setObjOf_fresh (knd:=strKind prog w) led).setOf hget (by unfold scanBound;lia)) (fun Z=>rfl) rfl
   case hR=>
    intro s' c hm hcn hS'
    obtain⟨h',g',d',tk',os'⟩:=s'
    have eg:g'=s.gens:=hm.gens
    have ed:d'=s.drawn:=hm.drawn
    have eo:os'=s.os:=hm.os
    subst eg;subst ed;subst eo
    show UY _ _ _ _ _ _
    refine TR ?_
    show UY _ _ (ret Uc) _ _ _
    refine TR ⟨rfl,h',tk',c,rfl,hcn,hS',fun b o hb e=>?_⟩
    have hb1:b≠s.heap.objs.size:=Tb hb
    have hb2:b≠(s.heap.push {cls:= .type "set",dict:=none,data:= .set #[] 0 (.fresh 0 0 led)}).objs.size:=by
     rw[Ss];exact Tb (Ri hb)
    exact hm.heap b o (by simp only[SH,RE,or_false,not_or];exact⟨hb1,hb2⟩) (Qj _ (Qj _ e))
  ·rcases r₂ with e|(_|_|_|r)
   ·exact hr₂
   ·exact hr₂.elim
   ·exact hr₂.elim
   ·exact hr₂.elim
   ·(refine JS hr₂ fun o0_ h' tk c o1_ hcn hS' hk'=>?_;clear hr₂;obtain rfl:=o0_;obtain rfl:=o1_)
    repeat(any_goals(first|assumption|wp_step))
    exact h _ _ _ hcn hS' hk'
end A4
section
variable{prog:UF}{w:Va}{A:UP}{E:UX->UO->Prop}{s:UO}
theorem DH{prog w A E s l items ss Q}:A4.T prog w A E s l items ss Q:=f7 (P:=A4.P9) (c:=A4.c) (by with_unfolding_all rfl) (by with_unfolding_all exact A4.walk) ((prog,w,A,E),(s,l,items,ss),Q)
end
end Mine
end
section
open PySem PySem.W PySem.Calls PyProof.Rows PySem.Spec Builtin Builtin.ObjectAttr
namespace Mine
theorem FR:TX (.type "set") "__getattr__"=pure none:=by rw[RU,Qm];kernel_rfl
theorem O3:UC table "set.__getattribute__"=some UE.«object.__getattribute__»:=
 entryFor_alias (id':="object.__getattribute__") (by kernel_rfl) (by decide+kernel) (by decide+kernel) (by kernel_rfl)
theorem Y4:TX (.type "set") (Ta "__contains__")=pure (some (.builtin "set.__contains__")):=by rw[RU,Qm];kernel_rfl
theorem Dv:builtinKind "set.__contains__"=some .method:=by decide+kernel
theorem MW:TX (.type "method_descriptor") (Ta "__get__")=pure (some (.builtin "method_descriptor.__get__")):=by rw[RU,Qm];kernel_rfl
theorem MV:TX (.type "method_descriptor") (Ta "__set__")=pure none:=by rw[RU,Qm];kernel_rfl
theorem IC:TX (.type "method_descriptor") (Ta "__delete__")=pure none:=by rw[RU,Qm];kernel_rfl
theorem Bz:Slot "method_descriptor" "__get__" "method_descriptor.__get__":=
 .of (owner:="method_descriptor") (n:="__get__") (by rw[RU,Qm];kernel_rfl) (by decide+kernel) (by decide+kernel) (by decide+kernel)
  (by first|exact .inl (by decide+kernel)|exact .inr (by decide+kernel)) (by rw[Sv];kernel_rfl)
theorem EE:UC table "method_descriptor.__get__"=some UE.«method_descriptor.__get__»:=RL (by kernel_rfl)
theorem FQ(a b c:UX):UW "method_descriptor.__get__" ⟨[a,b,c],[]⟩:=by unfold UW;kernel_rfl
theorem Ab:typeOf (.builtin "set.__contains__")=pure (.type "method_descriptor"):=by show builtinType _=_;rw[builtinType_eq_fast];kernel_rfl
section
variable{prog:UF}{w:Va}{A:UP}{E:UX->UO->Prop}{s:UO}{a:Vf}
noncomputable abbrev BS(a:Vf):Vl:={cls:= .type "builtin_function_or_method",data:= .fields #[.builtin "set.__contains__", .ref a]}
theorem EZ:isSubtype (.type "set") (.type "set")=pure true:=by rw[Sv];kernel_rfl
theorem Jv:Manifest.toldItsClass.contains "set.__contains__"=false:=by decide+kernel
theorem MJ{M:Vc}{P:Fin->UO->Prop}(hT:s.TypeIs (.ref a) "set")(h:P (.done (.ret (.ref s.heap.objs.size))) {s with heap:=s.heap.push (BS a)}):
  UY M A (UE.«method_descriptor.__get__» ⟨[.builtin "set.__contains__", .ref a, .type "set"],[]⟩) P E s:=by
 unfold UE.«method_descriptor.__get__»
 refine TQ (TB (a:=(.builtin "set.__contains__",some (.ref a),some (.type "set"))) (by first|rfl|kernel_rfl) ?_)
 dsimp only
 rw[Jv,if_neg QT]
 k_delta "bindBuiltin"
 dsimp only
 refine TQ ?_
 k_delta "checkInstance"
 refine TQ (TB (a:=(Ta "__contains__",Ua "set")) (by first|rfl|kernel_rfl) ?_)
 dsimp only
 refine TQ (RI hT EZ ?_)
 simp only[Bool.not_true,QX,if_false]
 refine TR ?_
 exact TQ (Ru (TR h))
theorem Bb{Q:UX->UO->Prop}{ex:Bool}{o:Vl}(ho:s.heap.get? a=some o)(hc:o.cls= .type "set")(hdn:o.dict=none){es:Array (Int×UX)}{ep:Nat}{tb:SetTable}(hdat:o.data= .set es ep tb)
  (hq:∀tk,Q (.ref s.heap.objs.size) {s with heap:=s.heap.push {cls:= .type "builtin_function_or_method",data:= .fields #[.builtin "set.__contains__", .ref a]},toks:=tk}):
  UY (UZ prog w) A (getAttr (.ref a) (Ta "__contains__") ex) Q E s:=by
 obtain⟨oc,od,odt,osl⟩:=o
 simp only at hc hdn hdat
 subst hc hdn hdat
 have hT:∀tk',UO.TypeIs {s with toks:=tk'} (.ref a) "set":=fun Z=>(iEA _ ho rfl)
 have f3:=F.slot_set_getattribute.lookup
 have f9:=Y4
 unfold getAttr getAttrBy
 repeat(any_goals(first|assumption|exact hT _|wp_step))
 rw[if_neg (by rw[show onTheHeap (UX.builtin "set.__getattribute__")=false from rfl,Bool.and_false];exact QT)]
 unfold boundAndCalled
 refine TQ (TB (F.slot_set_getattribute.bind (.ref a)) ?_)
 refine RH F.slot_set_getattribute (hT _) O3 ?_ (F.args_set_getattribute_2 _ _)
 have g1:=MW
 have g2:=MV
 have g3:=IC
 have g4:=Ab
 have hdd:∀M A E s Q,Q none s->UY M A (dataDescriptor? (some (.builtin "set.__contains__")) (some (.builtin "method_descriptor.__get__"))) Q E s:=by
  intro M A E s Q hq
  unfold dataDescriptor? takesStores specialOf
  dsimp only
  repeat(any_goals(first|assumption|(with_reducible refine TB g4 ?_)|(with_reducible refine TB g2 ?_)|(with_reducible refine TB g3 ?_)|wp_step))
 unfold UE.«object.__getattribute__» find getOf
 repeat(any_goals(first|assumption|exact hT _|((with_reducible show UY _ _ (specialOf (.builtin "set.__contains__") _) _ _ _);unfold specialOf;refine TQ (TB g4 (TB g1 ?_)))|((with_reducible show UY _ _ (dataDescriptor? _ _) _ _ _);refine hdd _ _ _ _ _ ?_)|wp_step))
 refine codeAny_call_builtin Bz.plain EE (Bz.check _ _ _ _ _ _ _ _ Ab (FQ _ _ _) ?_)
 refine MJ (hT _) ?_
 repeat(any_goals(first|assumption|wp_step))
 exact(iEA _ rfl (TR (hq _)))
end
end Mine
end
section
open PySem PySem.W PySem.Calls PyProof.Rows PySem.Spec Builtin Builtin.ObjectAttr
namespace Mine
theorem DZ:Manifest.signature? "set.__contains__"=some ⟨.oneArg,"set.__contains__","__contains__", .self,[⟨"object", .posOnly,true⟩]⟩:=by
 rw[signature?_of (id:="set.__contains__") (n:=['_', '_', 's', 'n', 'i', 'a', 't', 'n', 'o', 'c', '_', '_']) (o:=['t', 'e', 's']) (by kernel_rfl) F.owner_set];kernel_rfl
section
variable{prog:UF}{w:Va}{A:UP}{E:UX->UO->Prop}{s:UO}{a u:Vf}
theorem FE{M:Vc}{v:UX}{Q:Unit->UO->Prop}{o:Vl}{es:Array (Int×UX)}{ep:Nat}{tb:SetTable}(ho:s.heap.get? a=some o)(hc:o.cls= .type "set")(hdat:o.data= .set es ep tb)(hQ:Q () s):
  UY M A (checkBoundCall "set.__contains__" ⟨[.ref a,v],[]⟩) Q E s:=by
 have hm:(Manifest.AttrKind.method != .method && Manifest.AttrKind.method != .classMethod)=false:=by decide
 have hv:Manifest.varargsMethods.contains "set.__contains__"=false:=by decide+kernel
 have hsm:isSubtype (.type "set") (.type "module")=pure false:=by rw[Sv];kernel_rfl
 have hst:isSubtype (.type "set") (.type "type")=pure false:=by rw[Sv];kernel_rfl
 have hT:s.TypeIs (.ref a) "set":=(iEA o ho hc)
 unfold checkBoundCall
 simp only[DZ,Dv,hm,QX,if_false]
 refine TQ (RI hT hsm ?_)
 rw[hv]
 simp only[Bool.or_false,QX,if_false]
 obtain⟨oc,od,odt,osl⟩:=o
 simp only at hc hdat
 subst hc hdat
 have hck:∀Q':Unit->UO->Prop,Q' () s->UY M A (Bind.checkArgs "set.__contains__" ⟨.oneArg,toString (Bind.lastOf "set")++toString "."++toString (Bind.lastOf "set.__contains__"),"__contains__", .self,[⟨"object", .posOnly,true⟩]⟩ ⟨[.ref a,v],[]⟩) Q' E s:=by
  intro Q' hq
  unfold Bind.checkArgs
  dsimp only
  refine TQ (m:=Bind.printed _ true _ _) (PyProof.Rows.printed_name (by decide+kernel) ?_)
  refine TQ (m:=Bind.printed _ false _ _) (PyProof.Rows.printed_name (by decide+kernel) ?_)
  exact wpAny_onRaise (TB (a:=()) (by first|rfl|kernel_rfl) hq)
 unfold isType
 repeat(any_goals(first|assumption|wp_step))
theorem Cm:UC table "set.__contains__"=some UE.«frozenset.__contains__»:=PySem.entry_set_contains
theorem Hs{S:Vk->Bool}{n:Nat}{x:Vk}{t:Vm}{Q:UX->UO->Prop}(hu:s.heap.get? u=some (BS a))(hS:s.heap.SetOf (strKind prog w) a S n)(h:Q (.bool (S x)) {s with toks:=s.toks+1}):
  UY (UZ prog w) A (call (.ref u) [.str x t]) Q E s:=by
 have his:(strKind prog w).is x (.str x t)=true:=by show(x == x)=true;simp
 refine C6 (id hS) fun o es ep tb ho hex hd rest=>?_
 refine TV (Sk ?_)
 show UY _ A.in1 (callAny (.ref u) ⟨[.str x t],[]⟩) _ _ s
 simp only[callAny]
 refine TQ (Uk hu ?_)
 simp only[BS,show(Ua "builtin_function_or_method" == Ua "method" || Ua "builtin_function_or_method" == Ua "builtin_function_or_method" || Ua "builtin_function_or_method" == Ua "method-wrapper")=true by decide,if_true]
 refine KFB.if_so (by decide) ?_
 refine TQ (FE ho hex.1 hd ?_)
 refine TQ (TR (TR ?_))
 refine⟨Rg _ (by decide+kernel),Sg Cm ?_⟩
 unfold UE.«frozenset.__contains__» UE.Frozenset.oneOther
 simp only[List.isEmpty_nil,bind_assoc]
 unfold UE.Frozenset.addrOf UE.Frozenset.withSetAsKey setContains
 refine TQ (TR ?_)
 try dsimp only
 refine TQ (TR ?_)
 try dsimp only
 refine TQ (wpAny_tryCatch ?_)
 refine SM ?_
 refine TQ ((strKind prog w).pyHash his ?_)
 refine TQ (wpAny_setFind_of (s:={s with toks:=s.toks+1}) his rfl hS fun r hr=>?_)
 refine TR ?_
 show UY _ _ (ret (Ub r.isSome)) _ _ _
 rw[hr]
 exact TR h
end
end Mine
end
section
open PySem PySem.W PySem.Calls PyProof.Rows PySem.Spec Builtin
namespace Mine
theorem Cz:mroOf (.type "filter")=pure [.type "filter", .type "object"]:=by rw[mroOf_type];kernel_rfl
theorem AE:TX (.type "filter") "__new__"=pure (some (.builtin "filter.__new__")):=by rw[RU,Qm];kernel_rfl
theorem AV:Slot "filter" "__init__" "object.__init__":=
 .of (owner:="object") (n:="__init__") (by rw[RU,Qm];kernel_rfl) (by decide+kernel) (by decide+kernel) (by decide+kernel)
  (by first|exact .inl (by decide+kernel)|exact .inr (by decide+kernel)) (by rw[Sv];kernel_rfl)
theorem U5:Slot "filter" "__iter__" "filter.__iter__":=
 .of (owner:="filter") (n:="__iter__") (by rw[RU,Qm];kernel_rfl) (by decide+kernel) (by decide+kernel) (by decide+kernel)
  (by first|exact .inl (by decide+kernel)|exact .inr (by decide+kernel)) (by rw[Sv];kernel_rfl)
theorem y4:Slot "filter" "__next__" "filter.__next__":=
 .of (owner:="filter") (n:="__next__") (by rw[RU,Qm];kernel_rfl) (by decide+kernel) (by decide+kernel) (by decide+kernel)
  (by first|exact .inl (by decide+kernel)|exact .inr (by decide+kernel)) (by rw[Sv];kernel_rfl)
theorem AI:UC table "filter.__iter__"=some UE.«dict_keyiterator.__iter__»:=
 entryFor_alias (id':="dict_keyiterator.__iter__") (by kernel_rfl) (by first|rfl|decide+kernel|(unfold String.splitOn;simp+decide [String.splitOnAux])) (by decide+kernel) (by kernel_rfl)
theorem S4:UC table "filter.__next__"=some UE.«filter.__next__»:=RL (by kernel_rfl)
theorem Bc:UC table "filter.__new__"=some UE.«filter.__new__»:=RL (by kernel_rfl)
theorem w8:plainId "filter.__next__"=true:=by decide+kernel
theorem GP:isSubtype (.type "filter") (.type "filter")=pure true:=by rw[Sv];kernel_rfl
theorem DG:TypeCalled "filter" "filter.__new__" "object.__init__":=
 ⟨by decide+kernel,by decide+kernel,(iEE _ _ Cz),madeBy_type Cz AE (by decide+kernel),by decide+kernel,by rw[Sv];kernel_rfl,AV⟩
theorem Ay(a b:UX):checkTypeCall "filter" ⟨[a,b],[]⟩=pure ():=by kernel_rfl
theorem AY(a b:UX):RJ "filter.__new__" ⟨[.type "filter",a,b],[]⟩=pure ():=by kernel_rfl
theorem DB:TX (.type "filter") (Ta "__len__")=pure none:=by rw[RU,Qm];kernel_rfl
theorem Cj:TX (.type "filter") (Ta "__length_hint__")=pure none:=by rw[RU,Qm];kernel_rfl
noncomputable abbrev R8(u I:Vf):Vl:={cls:= .type "filter",data:= .fields #[.ref u, .ref I]}
theorem AZ(u l:Vf)(xs:Array UX):
  Meets (UE.«filter.__new__» ⟨[.type "filter", .ref u, .ref l],[]⟩) (fun Z R s=>s.heap.IsList l xs/\
   R (.ok (.ret (.ref (s.heap.push {cls:= .type "list_iterator",data:= .fields #[.ref l, .int 0 0]}).objs.size))) {s with heap:=(s.heap.push {cls:= .type "list_iterator",data:= .fields #[.ref l, .int 0 0]}).push (R8 u s.heap.objs.size)}):=
 .of_wp fun prog w A R s h=>by
  obtain⟨hp,g,d,tk,os⟩:=s;refine oA h fun hl1 h=>?_
  have hsub:=GP
  have hL1:TN (UO.heap ⟨hp,g,d,tk,os⟩) l xs:=hl1
  wp_walk using Ro hL1
  exact(iEA _ rfl h)
section
variable{prog:UF}{w:Va}{A:UP}{E:UX->UO->Prop}{s:UO}
theorem FJ{u l:Vf}{xs:Array UX}{Q:UX->UO->Prop}(hl:s.heap.IsList l xs)
  (h:∀h',h'.get? (s.heap.objs.size+1)=some (R8 u s.heap.objs.size)->h'.IsListIter s.heap.objs.size l 0->h'.objs.size=s.heap.objs.size+2->(∀c o,s.heap.get? c=some o->h'.get? c=some o)->Q (.ref (s.heap.objs.size+1)) {s with heap:=h'}):
  UY (UZ prog w) A (call (.type "filter") [.ref u, .ref l]) Q E s:=by
 refine callType_new DG (by decide) (Ay _ _) (AY _ _) (fun obj=>F.args_object_init_3 obj _ _) Bc (AZ u l xs) ⟨hl,?_⟩
 have hz:(s.heap.push {cls:= .type "list_iterator",data:= .fields #[.ref l, .int 0 0]}).objs.size=s.heap.objs.size+1:=Ss ..
 have he:=QD (s.heap.push {cls:= .type "list_iterator",data:= .fields #[.ref l, .int 0 0]}) (o:=R8 u s.heap.objs.size) rfl
 show _/\_
 rw[hz] at he ⊢
 exact⟨(iEA _ he rfl),h _ he (V8 _ (Qj _ (QD _ rfl)) rfl rfl) (by rw[Ss,hz]) fun b o x=>Qj _ (Qj _ x)⟩
theorem Ds{it l:Vf}{i:Nat}{items:Array UX}{x:UX}{Q:Option UX->UO->Prop}(hit:s.heap.IsListIter it l i)(hl:s.heap.IsList l items)(hx:items[i]? =some x)
  (hQ:∀h',h'.IsListIter it l (i+1)->To it s.heap h'->Q (some x) {s with heap:=h'}):UY (UZ prog w) A (callSpecial? (.ref it) (Ta "__next__")) Q E s:=by
 refine L1 (id hit) fun o ho hc hd=>?_
 refine Fl hl fun ol hol Z nl hdl=>?_;clear hl
 refine Qf (name:=Ta "__next__") hit.typeIs Rh
  (RH Rh hit.typeIs entry_listiter_next ?_ (args_listiter_next _))
 show UY _ _ (field (.ref it) 0>>=_) _ _ s
 refine TQ (TF ho hd (x:= .ref l) rfl ?_)
 show UY _ _ (if(Ul l == Uc)=true then _ else _) _ _ s
 rw[if_neg (show¬((Ul l == Uc)=true) from QT)]
 show UY _ _ (field (.ref it) 1>>=_) _ _ s
 refine TQ (TF ho hd (x:= .int i 0) rfl ?_)
 show UY _ _ (seqItems? (.ref l)>>=_) _ _ s
 refine TQ (Sw hol hdl ?_)
 simp only[Rz,hx]
 refine TQ (wpAny_setField ho hd (by simp) (TR (iEA x rfl (hQ _ ?_ (QP ..)))))
 exact(V8 _ (Qo _ ho (Vl.isFreed_of_fields (Vl.data_mapFields hd _))) ((Vl.cls_mapFields ..).trans hc) (by
  rw[Vl.data_mapFields hd];simp[US]))
theorem Ew{it l:Vf}{i:Nat}{items:Array UX}{Q:Option UX->UO->Prop}(hh:A.handled=none)(hit:s.heap.IsListIter it l i)(hl:s.heap.IsList l items)(hx:items[i]? =none)
  (hE:∀h' e,Vg.ExtBut it s.heap h'->(∃o,h'.get? e=some o/\o.cls= .type "StopIteration")->E (.ref e) {s with heap:=h'}):UY (UZ prog w) A (callSpecial? (.ref it) (Ta "__next__")) Q E s:=by
 refine L1 (id hit) fun o ho hc hd=>?_
 refine Fl hl fun ol hol Z nl hdl=>?_;clear hl
 refine Qf (name:=Ta "__next__") hit.typeIs Rh
  (RH Rh hit.typeIs entry_listiter_next ?_ (args_listiter_next _))
 show UY _ _ (field (.ref it) 0>>=_) _ _ s
 refine TQ (TF ho hd (x:= .ref l) rfl ?_)
 show UY _ _ (if(Ul l == Uc)=true then _ else _) _ _ s
 rw[if_neg (show¬((Ul l == Uc)=true) from QT)]
 show UY _ _ (field (.ref it) 1>>=_) _ _ s
 refine TQ (TF ho hd (x:= .int i 0) rfl ?_)
 show UY _ _ (seqItems? (.ref l)>>=_) _ _ s
 refine TQ (Sw hol hdl ?_)
 simp only[Rz,hx]
 refine TQ (Ud (TQ (wpAny_setField ho hd (by simp) ?_)))
 show UY _ _ (newExc (.type "StopIteration") []>>=_) _ _ _
 refine TQ ?_
 simp only[newExc,newTuple]
 refine TQ (Ru ?_ (by size_fits))
 refine TQ (m:=firstArgMember _ _) (TB (a:=Uc) (by first|rfl|(simp only[firstArgMember];rfl)) ?_)
 refine Ru ?_ (by size_fits)
 simp only[raiseNew]
 refine TQ (wpAny_handled ?_)
 first|rw[show A.in1.handled=none from hh]|rw[hh]
 refine TQ (TR (wpAny_throw ?_))
 exact hE _ _ (((QP ..).extBut.push _).push _) (iEA _ (QD _ rfl) rfl)
structure HD(prog:UF)(w:Va)(h:Vg)(z u a I l:Vf)(xs:Array UX)(S:Vk->Bool)(n k:Nat):Prop where
 fil:h.get? z=some (R8 u I)
 it:h.IsListIter I l k
 li:h.IsList l xs
 bd:h.get? u=some (BS a)
 st:h.SetOf (strKind prog w) a S n
theorem HD.next{h h':Vg}{z u a I l:Vf}{xs:Array UX}{S:Vk->Bool}{n k:Nat}(x:HD prog w h z u a I l xs S n k)(it':h'.IsListIter I l (k+1))(hk:∀b o,b≠I->h.get? b=some o->h'.get? b=some o)
  (hz:z≠I)(hl:l≠I)(hu:u≠I)(ha:a≠I):HD prog w h' z u a I l xs S n (k+1):=by
 obtain⟨fil,it,⟨o,ho,r⟩,bd,⟨o2,es,ep,t,ho2,r2⟩⟩:=x
 exact⟨hk _ _ hz fil,it',(iEA o (hk _ _ hl ho) r),hk _ _ hu bd,(Gp o2 es ep t (hk _ _ ha ho2) r2)⟩
noncomputable def X5(S:Vk->Bool):UX->Bool
 | .str x _=>S x
 |_=>false
theorem BQ{R:UT->UO->Prop}{z u a I l:Vf}{xs:Array UX}{S:Vk->Bool}{n:Nat}(hh:A.handled=none)(hz:z≠I)(hl:l≠I)(hu:u≠I)(ha:a≠I)(hxs:∀(i:Nat)(v:UX),xs[i]? =some v->∃x t,v=Um x t):
  ∀(d k:Nat)(s:UO),xs.size-k=d->HD prog w s.heap z u a I l xs S n k->
   (∀(j:Nat)(h':Vg)(tk:Nat)(v:UX),k<=j->xs[j]? =some v->X5 S v=true->(∀(i:Nat)(v':UX),k<=i->i<j->xs[i]? =some v'->X5 S v'=false)->HD prog w h' z u a I l xs S n (j+1)->(∀b o,b≠I->s.heap.get? b=some o->h'.get? b=some o)->R (.ok (.ret v)) {s with heap:=h',toks:=tk})->
   ((∀(i:Nat)(v':UX),k<=i->xs[i]? =some v'->X5 S v'=false)->∀h' tk e,(∀b o,b≠I->s.heap.get? b=some o->h'.get? b=some o)->(∃o,h'.get? e=some o/\o.cls= .type "StopIteration")->R (.error (.ref e)) {s with heap:=h',toks:=tk})->
   UI (UZ prog w) A (.builtin "filter.__next__" ⟨[.ref z],[]⟩) R s:=by
 intro d
 induction d with
 |zero=>
  intro k s hd V _ hend
  refine Sg S4 ?_
  rw[Qw w8 _]
  show UY _ A.in1 (field (.ref z) 0>>=_) _ _ _
  refine TQ (TF V.fil rfl (x:= .ref u) rfl ?_)
  show UY _ A.in1 (field (.ref z) 1>>=_) _ _ _
  refine TQ (TF V.fil rfl (x:= .ref I) rfl ?_)
  have hx:xs[k]? =none:=by rw[Array.getElem?_eq_none_iff];omega
  refine TQ (Ew hh V.it V.li hx fun h' e hk he=>hend (fun i v' hi e'=>?_) h' s.toks e hk he)
  have:=(Array.getElem?_eq_some_iff.mp e').1
  omega
 |succ d ih=>
  intro k s hd V hit hend
  have hlt:k<xs.size:=by omega
  refine oEE (hxs k _ (PY hlt)) fun x t hx=>?_
  have hxk:xs[k]? =some (.str x t):=by rw[PY hlt,hx]
  refine Sg S4 ?_
  rw[Qw w8 _]
  show UY _ A.in1 (field (.ref z) 0>>=_) _ _ _
  refine TQ (TF V.fil rfl (x:= .ref u) rfl ?_)
  show UY _ A.in1 (field (.ref z) 1>>=_) _ _ _
  refine TQ (TF V.fil rfl (x:= .ref I) rfl ?_)
  refine TQ (Ds V.it V.li hxk fun h' it' hs'=>?_)
  have V':=V.next it' (fun b o hb e=>(hs'.2 b hb).trans e) hz hl hu ha
  dsimp only
  refine TQ (SM ?_)
  rw[if_neg (show¬((Ul u == Uc || Ul u == Ua "bool")=true) from QT)]
  refine TQ (Hs V'.bd V'.st ?_)
  refine SM (wpAny_truthy_bool ?_)
  cases hS:S x with
  |true=>
   rw[if_pos rfl]
   exact TR (hit k h' _ _ (TA _) hxk hS (fun i v' h1 h2=>absurd h1 (Ug.mpr h2)) V' fun b o hb e=>(hs'.2 b hb).trans e)
  |false=>
   rw[if_neg QT]
   refine TR ⟨SQ w8 _,ih (k+1) _ (by omega) V' (fun j h'' tk v hj hv hk hno V'' hkeep=>?_) fun hno h'' tk e hkeep he=>?_⟩
   ·refine hit j h'' tk v (by omega) hv hk (fun i v' h1 h2 e'=>?_) V'' fun b o hb e=>hkeep b o hb ((hs'.2 b hb).trans e)
    rcases Nat.lt_or_ge k i with h3|h3
    ·exact hno i v' h3 h2 e'
    ·obtain rfl:i=k:=Nat.le_antisymm h3 h1
     rw[hxk] at e';cases e';exact hS
   ·refine hend (fun i v' h1 e'=>?_) h'' tk e (fun b o hb e=>hkeep b o hb ((hs'.2 b hb).trans e)) he
    rcases Nat.lt_or_ge k i with h3|h3
    ·exact hno i v' h3 e'
    ·obtain rfl:i=k:=Nat.le_antisymm h3 h1
     rw[hxk] at e';cases e';exact hS
end
end Mine
end
section
open PySem PySem.W PySem.Calls PyProof.Rows PySem.Spec Builtin
namespace Mine
theorem U7(a:UX):UW "filter.__next__" ⟨[a],[]⟩:=by unfold UW;kernel_rfl
theorem Bh(a:UX):UW "filter.__iter__" ⟨[a],[]⟩:=by unfold UW;kernel_rfl
theorem II{xs:List UX}{p:UX->Bool}{k j:Nat}{v:UX}(hkj:k<=j)(hv:xs[j]? =some v)(hp:p v=true)(hno:∀(i:Nat)(v':UX),k<=i->i<j->xs[i]? =some v'->p v'=false):
  (xs.filter p)[((xs.take k).filter p).length]? =some v/\((xs.take (j+1)).filter p).length=((xs.take k).filter p).length+1:=by
 have e1:(xs.take j).filter p=(xs.take k).filter p:=by
  (refine oE (Nat.le.dest hkj) fun d o0_=>?_;obtain rfl:=o0_)
  clear hv hkj
  induction d with
  |zero=>rfl
  |succ d ih=>
   have ih':=ih fun i v' h1 h2=>hno i v' h1 (by omega)
   rw[show k+(d+1)=(k+d)+1 by omega,Rm,QW,ih']
   cases hx:xs[k+d]? with
   |none=>simp
   |some y=>simp[hno (k+d) y (by omega) (by omega) hx]
 have e2:(xs.take (j+1)).filter p=(xs.take k).filter p++[v]:=by
  rw[Rm,hv,QW,e1];simp[hp]
 refine⟨?_,by rw[e2];simp⟩
 have e3:xs.filter p=(xs.take (j+1)).filter p++(xs.drop (j+1)).filter p:=by rw[←QW,List.take_append_drop]
 rw[e3,e2,Rx,List.getElem?_append_right (TA _)]
 simp
theorem Iu{xs:List UX}{p:UX->Bool}{k:Nat}(hno:∀(i:Nat)(v':UX),k<=i->xs[i]? =some v'->p v'=false):((xs.take k).filter p).length=(xs.filter p).length:=by
 have e:(xs.drop k).filter p=[]:=by
  rw[List.filter_eq_nil_iff]
  intro v hv
  refine oE (List.getElem?_of_mem hv) fun i hi=>?_
  rw[List.getElem?_drop] at hi
  rw[hno _ v (RD k i) hi];simp
 have e3:xs.filter p=(xs.take k).filter p++(xs.drop k).filter p:=by rw[←QW,List.take_append_drop]
 rw[e3,e,Sj]
section
variable{prog:UF}{w:Va}{A:UP}{E:UX->UO->Prop}{s:UO}
theorem Walks.filter{z u a I l:Vf}{vs:List UX}{S:Vk->Bool}{n:Nat}(hh:A.handled=none)(hz:z≠I)(hl:l≠I)(hu:u≠I)(ha:a≠I)(hxs:∀(i:Nat)(v:UX),vs.toArray[i]? =some v->∃x t,v=Um x t):
  Walks prog w A z [z,u,a,l,I] [I] (vs.filter (X5 S)).length (fun i v=>(vs.filter (X5 S))[i]? =some v)
   (fun i h=>∃k,((vs.take k).filter (X5 S)).length=i/\HD prog w h z u a I l vs.toArray S n k) where
 sub:=fun b hb=>by rw[QQ.mp hb];simp
 frame:=fun i h h' ⟨k,e,V⟩ hk=>by
  obtain⟨fil,⟨o3,ho3,r3⟩,⟨o,ho,r⟩,bd,⟨o2,es,ep,t,ho2,r2⟩⟩:=V
  exact⟨k,e,hk _ (by simp) _ fil,(iEA o3 (hk _ (by simp) _ ho3) r3),(iEA o (hk _ (by simp) _ ho) r),hk _ (by simp) _ bd,(Gp o2 es ep t (hk _ (by simp) _ ho2) r2)⟩
 item:=fun i s Q E hi ⟨k,e,V⟩ hQ=>by
  have hT:s.TypeIs (.ref z) "filter":=(iEA _ V.fil rfl)
  unfold pyNext
  refine TQ (SX (Qf (name:=Ta "__next__") hT y4 (TV (Sk ?_))))
  show UY _ _ (RJ "filter.__next__" ⟨[.ref z],[]⟩>>=fun Z=>again (.builtin "filter.__next__" ⟨[.ref z],[]⟩)) _ _ s
  refine TQ (y4.check _ _ _ _ _ _ _ _ hT (U7 _) (TR ⟨SQ w8 _,BQ hh hz hl hu ha hxs _ k s rfl V (fun j h' tk v hj hv hk hno V' hkeep=>?_) fun hno h' tk e' hkeep he=>?_⟩))
  ·refine oA (II (p:=X5 S) hj (by simpa using hv) hk (fun i' v' h1 h2 h3=>hno i' v' h1 h2 (by simpa using h3))) fun e1 e2=>?_
   rw[e] at e1 e2
   exact TR (hQ v h' tk e1 (iEA (j+1) e2 V') fun b o hb=>hkeep b o (fun q=>hb (QQ.mpr q)))
  ·have:=Iu (p:=X5 S) (xs:=vs) (k:=k) (fun i' v' h1 h3=>hno i' v' h1 (by simpa using h3))
   omega
 done:=fun s Q E ⟨k,e,V⟩ hQ=>by
  have hT:s.TypeIs (.ref z) "filter":=(iEA _ V.fil rfl)
  unfold pyNext
  refine TQ (SX (Qf (name:=Ta "__next__") hT y4 (TV (Sk ?_))))
  show UY _ _ (RJ "filter.__next__" ⟨[.ref z],[]⟩>>=fun Z=>again (.builtin "filter.__next__" ⟨[.ref z],[]⟩)) _ _ s
  refine TQ (y4.check _ _ _ _ _ _ _ _ hT (U7 _) (TR ⟨SQ w8 _,BQ hh hz hl hu ha hxs _ k s rfl V (fun j h' tk v hj hv hk hno V' hkeep=>?_) fun hno h' tk e' hkeep he=>?_⟩))
  ·refine oA (II (p:=X5 S) hj (by simpa using hv) hk (fun i' v' h1 h2 h3=>hno i' v' h1 h2 (by simpa using h3))) fun e1 e2=>?_
   rw[e] at e1
   exact zs1 (Qq (TA _)) e1
  ·refine oEA he fun o ho hc=>?_;clear he
   refine TQ (RI (T:="StopIteration") (b:=true) (iEA o ho hc) isSubtype_stop ?_)
   exact TR (hQ h' tk fun b o hb=>hkeep b o (fun q=>hb (QQ.mpr q)))
 self:=fun i s Q E ⟨k,e,V⟩ hQ=>by
  have hT:s.TypeIs (.ref z) "filter":=(iEA _ V.fil rfl)
  refine wpAny_pyIter_slot hT U5 (RH U5 hT AI ?_ (Bh _))
  show UY _ _ (ret (.ref z)) _ _ s
  exact TR ⟨_,rfl,"filter",_,hT,y4.lookup,hQ⟩
end
end Mine
end
section
open PySem PySem.W PySem.Calls PyProof.Rows PySem.Spec Builtin
namespace Mine
section
variable{prog:UF}{w:Va}{A:UP}{s:UO}{R:UT->UO->Prop}{E:UX->UO->Prop}
variable{I:Vf}{fp wr:List Vf}{G:Array GenState->Array GenState->Prop}{n:Nat}{P:Nat->UX->Prop}{St:Nat->UO->Prop}
theorem Bg{Q:UX->UO->Prop}(W:WalksS prog w A.in1.in1 I fp wr G n P St)(hT:∀i s,St i s->s.TypeIs (.ref I) "filter")(hst:St 0 s)(hfp:∀b∈fp,b<s.heap.objs.size)(hI:I∈fp)
  (hQ:∀s' acc' c',Moved (s.heap.objs.size::wr) G {s with heap:=s.heap.push {cls:= .type "list",data:= .seq #[]}} s'->
   s'.heap.get? s.heap.objs.size=some {cls:= .type "list",dict:=none,data:= .seq acc' c',slots:= #[]}->ItemsOf P acc' n->Q (.ref s.heap.objs.size) s')(hn:n<=Ux):
  UY (UZ prog w) A (call (.type "list") [.ref I]) Q E s:=by
 have hSf:s.heap.objs.size∉fp:=fun hm=>SK _ (hfp _ hm)
 have hSI:s.heap.objs.size≠I:=fun e=>hSf (e ▸ hI)
 refine callType_codes (Q₁:=fun obj s₁=>obj= .ref s.heap.objs.size/\s₁={s with heap:=s.heap.push {cls:= .type "list",data:= .seq #[]}}) F.called_list (F.typeCall_list_1 _) F.entry_list_init
  (code_list_new _ ⟨rfl,rfl⟩) fun obj s₁ h₁=>?_
 (refine oA h₁ fun o0_ o1_=>?_;clear h₁;obtain rfl:=o0_;obtain rfl:=o1_)
 have hS:(s.heap.push {cls:= .type "list",data:= .seq #[]}).get? s.heap.objs.size=some {cls:= .type "list",data:= .seq #[]}:=QD _ rfl
 have hst1:=W.frame 0 s (s.heap.push {cls:= .type "list",data:= .seq #[]}) s.toks hst (TA _) fun b Z o e=>Qj _ e
 refine(iAA (iEA _ hS rfl) (F.args_list_init_2 _ _) ?_)
 generalize hs1:({s with heap:=s.heap.push {cls:= .type "list",data:= .seq #[]}}:UO)=s1 at*
 have hS1:s1.heap.get? s.heap.objs.size=some {cls:= .type "list",data:= .seq #[]}:=by rw[←hs1];exact hS
 show UY _ A.in1.in1 (do let old←UE.List.listItems (.ref s.heap.objs.size);UE.List.listUpdate (.ref s.heap.objs.size) (fun Z=> #[]);letGo old.toList.reverse;PU (.ref s.heap.objs.size) (.ref I) .none) _ _ s1
 refine TQ ?_
 unfold UE.List.listItems
 refine TQ (Sw hS1 rfl (TR ?_))
 show UY _ _ (updateSeq s.heap.objs.size (fun Z=> #[])>>=fun Z=>letGo (#[]:Array UX).toList.reverse>>=fun Z=>PU (.ref s.heap.objs.size) (.ref I) .none) _ _ s1
 refine TQ (Sp hS1 rfl ?_)
 have hS₂:=Qo (Ue (fun Z=>(#[]:Array UX))) hS1 rfl
 have oth:∀b o,b≠s.heap.objs.size->s1.heap.get? b=some o->(s1.heap.update s.heap.objs.size (Ue (fun Z=>(#[]:Array UX)))).get? b=some o:=
  fun b o hb e=>(Vg.get?_update_other _ _ (Ne.symm hb)).trans e
 refine TQ (wpAny_letGo ?_)
 have hst2:=W.frame 0 s1 (s1.heap.update s.heap.objs.size (Ue (fun Z=>(#[]:Array UX)))) s1.toks hst1 (TA _) fun b hb o e=>oth b o (fun h=>hSf (h ▸ hb)) e
 generalize hs2:({s1 with heap:=s1.heap.update s.heap.objs.size (Ue (fun Z=>(#[]:Array UX)))}:UO)=s2 at*
 have hS2:s2.heap.get? s.heap.objs.size=some (Ue (fun Z=>(#[]:Array UX)) {cls:= .type "list",data:= .seq #[]}):=by rw[←hs2];exact hS₂
 have mv12:Moved (s.heap.objs.size::wr) G s1 s2:=by
  rw[←hs2]
  exact(Moved.refl W.grefl).then_heap (TA _) fun b o hb e=>oth b o (fun h=>hb (h ▸ List.mem_cons_self)) e
 unfold PU
 refine TQ (wpAny_typeOf (hT 0 _ hst2) ?_)
 have h1:UE.List.listSameRef (.ref s.heap.objs.size) (.ref I)=false:=by simp[UE.List.listSameRef,hSI]
 have h2:(Ua "filter" == Ua "list")=false:=by decide
 have h3:(Ua "filter" == Ua "tuple")=false:=by decide
 simp only[h1,h2,h3,Bool.or_false,QX,if_false]
 refine TQ (W.self 0 _ _ _ hst2 ?_)
 refine TQ (SM ?_)
 unfold UE.List.listLengthHint
 refine TQ (RY (hT 0 _ hst2) DB ?_)
 show UY _ _ (specialOf (Ul I) (Ta "__length_hint__")>>=_) _ _ _
 refine TQ (RY (hT 0 _ hst2) Cj ?_)
 refine TR ?_
 show UY _ _ (rule "list.extend.makes-room">>=fun Z=>UE.List.listTouch (.ref s.heap.objs.size)>>=fun Z=>
  again (.builtin "list.extend.loop" ⟨[.ref s.heap.objs.size, .ref I, .none],[]⟩)) _ _ _
 refine TQ (Ud ?_)
 refine TQ ?_
 show UY _ _ (updateSeq s.heap.objs.size (·.push .none)>>=fun Z=>updateSeq s.heap.objs.size (·.pop)) _ _ _
 refine TQ (Sp hS2 rfl ?_)
 have hS₄:=Qo (Ue (·.push Uc)) hS2 rfl
 refine Sp (hz:=by seq_fits) hS₄ rfl ?_
 have hS₅:=Qo (Ue (·.pop)) hS₄ rfl
 have oth2:∀b o,b≠s.heap.objs.size->s2.heap.get? b=some o->((s2.heap.update s.heap.objs.size (Ue (·.push Uc))).update s.heap.objs.size (Ue (·.pop))).get? b=some o:=
  fun b o hb e=>(Vg.get?_update_other _ _ (Ne.symm hb)).trans ((Vg.get?_update_other _ _ (Ne.symm hb)).trans e)
 refine TR ⟨SQ F.plain_extend_loop _,codeAny_extend_loopS W hn _ hSf _ n 0 _ _ _ rfl (TC _)
  (W.frame 0 s2 _ s2.toks hst2 (TA _) fun b hb o e=>oth2 b o (fun h=>hSf (h ▸ hb)) e) hS₅ (ItemsOf.nil P) fun s' acc' c' hm hS' hacc=>?_⟩
 have mv:=Moved.trans W.gtrans mv12 (Moved.trans W.gtrans ((Moved.refl W.grefl).then_heap (TA _) fun b o hb e=>oth2 b o (fun h=>hb (h ▸ List.mem_cons_self)) e) hm)
 exact⟨rfl,hQ s' acc' c' mv hS' hacc⟩
end
end Mine
end
section
open PySem PySem.W PySem.Calls PyProof.Rows PySem.Spec Builtin
namespace Mine
section
variable{prog:UF}{w:Va}{A:UP}{E:UX->UO->Prop}{s:UO}{h₀:Vg}{L:Vf}{m:Vk->Option UX}{news:List (Vf×Vl)}{Q:UX->UO->Prop}
theorem X2{h':Vg}(F:Fr h₀ L s.heap m)(hk:∀b o,s.heap.get? b=some o->h'.get? b=some o):Fr h₀ L h' m:=
 ⟨F.ns.at' fun o e=>hk _ o e,fun b o e=>hk b o (F.keep b o e),F.above⟩
theorem Cy(F:Fr h₀ L s.heap m){h':Vg}{a:Vf}{o:Vl}(ha:s.heap.objs.size<=a)(ho:h'.get? a=some o):h'.get? a=some o/\a≠L/\h₀.get? a=none:=
 (iAA ho (Te (QR F.ns.lt ha)) (Qv (Td F.above (Tr (QR F.ns.lt ha)))))
theorem Oe{l:Vf}{vs:List UX}{ss:List Vk}(F:Fr h₀ L s.heap m)(N:News h₀ L s.heap news)(hh:A.handled=none)(hl:h₀.IsList l vs.toArray)(hlen:ss.length=vs.length)(hi:∀(i:Nat)(v:UX),vs[i]? =some v->HC ss i v)(hb:vs.length+1<scanBound)
  (h:∀a o n h' tk,n<scanBound->o.SetObjOf (strKind prog w) (fun k'=>ss.any (· == k')) n->Fr h₀ L h' m->News h₀ L h' ((a,o)::news)->(∀p∈news,p.1<a)->Q (.ref a) {s with heap:=h',toks:=tk}):
  UY (UZ prog w) A (call (.type "set") [.ref l]) Q E s:=by
 refine DH (items:=vs.toArray) hh (hl.at fun o e=>F.keep l o e) (by simpa using hlen) (fun i v e=>hi i v (by simpa using e)) (by simpa using hb) fun h' tk c hc hS hk=>?_
 refine oEA hS.objOf fun o ho hso=>?_
 have hk':∀b o,s.heap.get? b=some o->h'.get? b=some o:=fun b o e=>hk b o (Tc e) e
 refine h s.heap.objs.size o c h' tk (QS hc (by simp at hb ⊢;omega)) hso (X2 F hk') (fun p hp=>?_) fun p hp=>Tc (N p hp).1
 rcases SH.mp hp with rfl|hp
 ·exact Cy F (TA _) ho
 ·exact⟨hk' _ _ (N p hp).1,(N p hp).2⟩
theorem Mr{a:Vf}{o:Vl}{S:Vk->Bool}{n:Nat}{ex:Bool}(F:Fr h₀ L s.heap m)(N:News h₀ L s.heap news)(hm:(a,o)∈news)(hso:o.SetObjOf (strKind prog w) S n)(hn:n<scanBound)
  (h:∀u h' tk,Fr h₀ L h' m->News h₀ L h' ((u,BS a)::news)->(∀p∈news,p.1<u)->Q (.ref u) {s with heap:=h',toks:=tk}):
  UY (UZ prog w) A (getAttr (.ref a) (Ta "__contains__") ex) Q E s:=by
 have ho:=(N _ hm).1
 refine C6 (hso.setOf ho hn) fun o' es ep t ho' hex hd Z=>?_
 obtain rfl:o=o':=by have h9:=ho.symm.trans ho';exact RZ h9
 refine Bb ho hex.1 hex.2.1 hd fun tk=>?_
 refine h s.heap.objs.size _ tk (F.push _) (fun p hp=>?_) fun p hp=>Tc (N p hp).1
 rcases SH.mp hp with rfl|hp
 ·exact Cy F (TA _) (QD _ rfl)
 ·exact⟨Qj _ (N p hp).1,(N p hp).2⟩
theorem Ki{u l:Vf}{vs:List UX}(F:Fr h₀ L s.heap m)(N:News h₀ L s.heap news)(hl:h₀.IsList l vs.toArray)
  (h:∀z I o h',o.cls= .type "list_iterator"->o.data= .fields #[.ref l, .int 0 0]->Fr h₀ L h' m->News h₀ L h' ((z,R8 u I)::(I,o)::news)->(∀p∈news,p.1<I)->I<z->Q (.ref z) {s with heap:=h'}):
  UY (UZ prog w) A (call (.type "filter") [.ref u, .ref l]) Q E s:=by
 refine FJ (xs:=vs.toArray) (hl.at fun o e=>F.keep l o e) fun h' hz ⟨o,ho,hc,hd⟩ Z hk=>?_
 refine h _ _ o h' hc hd (X2 F hk) (fun p hp=>?_) (fun p hp=>Tc (N p hp).1) (RC _)
 rcases SH.mp hp with rfl|hp
 ·exact Cy F (TG _) hz
 ·rcases SH.mp hp with rfl|hp
  ·exact Cy F (TA _) ho
  ·exact⟨hk _ _ (N p hp).1,(N p hp).2⟩
theorem Ka{z u a I l:Vf}{o oI:Vl}{vs:List UX}{S:Vk->Bool}{n:Nat}(F:Fr h₀ L s.heap m)(N:News h₀ L s.heap ((z,R8 u I)::(I,oI)::(u,BS a)::(a,o)::news))(hh:A.handled=none)
  (hI:oI.cls= .type "list_iterator"/\oI.data= .fields #[.ref l, .int 0 0])(hl:h₀.IsList l vs.toArray)(hso:o.SetObjOf (strKind prog w) S n)(hn:n<scanBound)(hxs:∀(i:Nat)(v:UX),vs.toArray[i]? =some v->∃x t,v=Um x t)
  (h1:I<z)(h2:∀p∈(u,BS a)::(a,o)::news,p.1<I)(hsz:vs.length<=Ux)
  (h:∀D k h' tk,Fr h₀ L h' m->News h₀ L h' ((D,W.listOf (vs.filter (X5 S)).toArray k)::news)->(∀p∈news,p.1<D)->Q (.ref D) {s with heap:=h',toks:=tk}):
  UY (UZ prog w) A (call (.type "list") [.ref z]) Q E s:=by
 have Nz:=N _ (.head _)
 have NI:=N _ (.tail _ (.head _))
 have Nu:=N _ (.tail _ (.tail _ (.head _)))
 have Na:=N _ (.tail _ (.tail _ (.tail _ (.head _))))
 have hls:s.heap.IsList l vs.toArray:=hl.at fun o e=>F.keep l o e
 refine oEA (id hls) fun ol hol Z=>?_
 refine oEA (id hl) fun ol0 hol0 Z=>?_
 have hlI:l≠I:=fun q=>by
  have e9:=NI.2.2
  dsimp only at e9
  exact zg1 q.symm e9 hol0
 have huI:u≠I:=Tb (h2 _ (.head _))
 have haI:a≠I:=Tb (h2 _ (.tail _ (.head _)))
 have W:=Walks.filter (prog:=prog) (w:=w) (A:=A.in1.in1) (z:=z) (u:=u) (a:=a) (I:=I) (l:=l) (vs:=vs) (S:=S) (n:=n) (by simp[hh]) (Te h1) hlI huI haI hxs
 refine Bg W.toS (fun i s' ⟨k,_,V⟩=>(iEA _ V.fil rfl)) ⟨0,rfl,Nz.1,(V8 oI NI.1 hI.1 hI.2),hls,Nu.1,hso.setOf Na.1 hn⟩ (fun b hb=>?_) (.head _) (fun s' acc c' hm hD hacc=>?_) (Td (Qp _ _) hsz)
 ·simp only[SH,RE,or_false] at hb
  rcases hb with rfl|rfl|rfl|rfl|rfl
  ·exact Tc Nz.1
  ·exact Tc Nu.1
  ·exact Tc Na.1
  ·exact Tc hol
  ·exact Tc NI.1
 ·obtain⟨h',g',d',tk',os'⟩:=s'
  have eg:g'=s.gens:=hm.gens
  have ed:d'=s.drawn:=hm.drawn
  have eo:os'=s.os:=hm.os
  subst eg;subst ed;subst eo
  have hk:∀b o,b≠I->s.heap.get? b=some o->h'.get? b=some o:=fun b o hb e=>hm.heap b o (by simp only[SH,RE,or_false,not_or];exact⟨Tb (Tc e),hb⟩) (Qj _ e)
  have ea:acc.toList=vs.filter (X5 S):=by
   refine List.ext_getElem? fun i=>?_
   have hsz:=hacc.1
   cases hv:acc[i]? with
   |some v=>
    have h9:(vs.filter (X5 S))[i]? =some v:=hacc.2 i v hv
    rw[Array.getElem?_toList,hv];exact h9.symm
   |none=>
    have h8:acc.size<=i:=by simpa using hv
    have h9:(vs.filter (X5 S))[i]? =none:=Qq (by rw[←hsz];exact h8)
    rw[Array.getElem?_toList,hv];exact h9.symm
  refine h s.heap.objs.size c' h' tk' ⟨F.ns.at' fun o e=>hk _ o (fun q=>(NI.2.1 q.symm)) e,fun b o e=>hk b o (fun q=>by rw[q] at e;have e9:=NI.2.2;dsimp only at e9;exact zs1 e9 e) (F.keep b o e),F.above⟩ (fun p hp=>?_) fun p hp=>Tc (N p (.tail _ (.tail _ (.tail _ (.tail _ hp))))).1
  rcases SH.mp hp with rfl|hp
  ·refine Cy F (TA _) ?_
   rw[←ea]
   simpa using hD
  ·have np:=N p (.tail _ (.tail _ (.tail _ (.tail _ hp))))
   exact⟨hk _ _ (Tb (h2 p (.tail _ (.tail _ hp)))) np.1,np.2⟩
end
end Mine
end
section
open PySem PySem.W PySem.Calls PyProof.Rows
namespace Mine
open S (sK0 sK11 sK12 sK13 sK14 sK15)
local macro_rules | `(tactic|k_room)=> `(tactic|ktr_room)
local macro_rules | `(tactic|k_inst)=> `(tactic|(refine' IP ?iA ?iB;(case iA=>assumption);(case iB=>exact Fr.keep (by k_asm))))
section
variable{w:Va}{loose:List Vk}{mean:UH->Option UX}{mg mb:Vk->Option UX}
namespace C80
noncomputable def Pre(w:Va)(x1 d1 u1 l1 x2 d2 u2 l2:Vf)(t1 t2 t3 t4 s1 s2 s3 s4:Vm)(p1 q1 p2:Int)(tp tq ts:Vm)(us2:List Vk)(vu1 vu2 vr1 vr2:List UX)(h:Vg):Prop:=(h.get? x1=some (UL 69 d1)/\h.get? d1=some (z9 w.params t1 t2 t3 t4 (.ref u1) (.ref l1) (.int p1 tp) (.int q1 tq)))/\(h.get? x2=some (UL 69 d2)/\h.get? d2=some (z9 w.params s1 s2 s3 s4 (.ref u2) (.ref l2) (.int p2 ts) .none))/\h.IsList u1 vu1.toArray/\h.IsList u2 vu2.toArray/\h.IsList l1 vr1.toArray/\h.IsList l2 vr2.toArray/\us2.length=vu2.length/\(∀(i:Nat)(v:UX),vu2[i]? =some v->HC us2 i v)/\(∀(i:Nat)(v:UX),vu1[i]? =some v->∃x t,v=Um x t)/\vu1.length<100/\vu2.length<100/\vr1.length<100/\vr2.length<100
noncomputable def Post(w:Va)(x1 d1 u1 l1 x2 d2 u2 l2:Vf)(t1 t2 t3 t4 s1 s2 s3 s4:Vm)(p1 q1 p2:Int)(tp tq ts:Vm)(us2:List Vk)(vu1 vu2 vr1 vr2:List UX)(h h':Vg)(r:UX):Prop:=∃x dx D D2 k k2 e1 e2 e3 e4,r= .ref x/\h'.get? x=some (UL 69 dx)/\h'.get? dx=some (z9 w.params e1 e2 e3 e4 (.ref D) (.ref D2) (.int p2 ts) (.int q1 tq))/\h'.get? D=some (W.listOf (vu1.filter (X5 fun k'=>us2.any (· == k'))).toArray k)/\h'.get? D2=some (W.listOf (vr1++vr2).toArray k2)/\h.get? x=none/\h.get? dx=none/\h.get? D=none/\h.get? D2=none
noncomputable def T(cx:Cx)(x1:Vf)(d1:Vf)(u1:Vf)(l1:Vf)(x2:Vf)(d2:Vf)(u2:Vf)(l2:Vf)(t1:Vm)(t2:Vm)(t3:Vm)(t4:Vm)(s1:Vm)(s2:Vm)(s3:Vm)(s4:Vm)(p1:Int)(q1:Int)(p2:Int)(tp:Vm)(tq:Vm)(ts:Vm)(us2:List Vk)(vu1:List UX)(vu2:List UX)(vr1:List UX)(vr2:List UX):Prop:=CtX cx 5 80 [.ref x1, .ref x2] (Pre cx.w x1 d1 u1 l1 x2 d2 u2 l2 t1 t2 t3 t4 s1 s2 s3 s4 p1 q1 p2 tp tq ts us2 vu1 vu2 vr1 vr2) (Post cx.w x1 d1 u1 l1 x2 d2 u2 l2 t1 t2 t3 t4 s1 s2 s3 s4 p1 q1 p2 tp tq ts us2 vu1 vu2 vr1 vr2)
noncomputable def P9:=V4 fun cx x1 d1 u1=>V4 fun l1 x2 d2 u2=>V4 fun l2 t1 t2 t3=>V4 fun t4 s1 s2 s3=>V4 fun s4 p1 q1 p2=>V4 fun tp tq ts us2=>U4 fun vu1 vu2 vr1 vr2=>T cx x1 d1 u1 l1 x2 d2 u2 l2 t1 t2 t3 t4 s1 s2 s3 s4 p1 q1 p2 tp tq ts us2 vu1 vu2 vr1 vr2
@[irreducible] noncomputable def c:=y6 (by k_extra "ne") P9
@[irreducible] noncomputable def cx:=c.1.1
@[irreducible] noncomputable def x1:=c.1.2.1
@[irreducible] noncomputable def d1:=c.1.2.2.1
@[irreducible] noncomputable def u1:=c.1.2.2.2
@[irreducible] noncomputable def l1:=c.2.1.1
@[irreducible] noncomputable def x2:=c.2.1.2.1
@[irreducible] noncomputable def d2:=c.2.1.2.2.1
@[irreducible] noncomputable def u2:=c.2.1.2.2.2
@[irreducible] noncomputable def l2:=c.2.2.1.1
@[irreducible] noncomputable def t1:=c.2.2.1.2.1
@[irreducible] noncomputable def t2:=c.2.2.1.2.2.1
@[irreducible] noncomputable def t3:=c.2.2.1.2.2.2
@[irreducible] noncomputable def t4:=c.2.2.2.1.1
@[irreducible] noncomputable def s1:=c.2.2.2.1.2.1
@[irreducible] noncomputable def s2:=c.2.2.2.1.2.2.1
@[irreducible] noncomputable def s3:=c.2.2.2.1.2.2.2
@[irreducible] noncomputable def s4:=c.2.2.2.2.1.1
@[irreducible] noncomputable def p1:=c.2.2.2.2.1.2.1
@[irreducible] noncomputable def q1:=c.2.2.2.2.1.2.2.1
@[irreducible] noncomputable def p2:=c.2.2.2.2.1.2.2.2
@[irreducible] noncomputable def tp:=c.2.2.2.2.2.1.1
@[irreducible] noncomputable def tq:=c.2.2.2.2.2.1.2.1
@[irreducible] noncomputable def ts:=c.2.2.2.2.2.1.2.2.1
@[irreducible] noncomputable def us2:=c.2.2.2.2.2.1.2.2.2
@[irreducible] noncomputable def vu1:=c.2.2.2.2.2.2.1
@[irreducible] noncomputable def vu2:=c.2.2.2.2.2.2.2.1
@[irreducible] noncomputable def vr1:=c.2.2.2.2.2.2.2.2.1
@[irreducible] noncomputable def vr2:=c.2.2.2.2.2.2.2.2.2
noncomputable def red:Red cx 5 80 [.ref x1, .ref x2] (Pre cx.w x1 d1 u1 l1 x2 d2 u2 l2 t1 t2 t3 t4 s1 s2 s3 s4 p1 q1 p2 tp tq ts us2 vu1 vu2 vr1 vr2) (Post cx.w x1 d1 u1 l1 x2 d2 u2 l2 t1 t2 t3 t4 s1 s2 s3 s4 p1 q1 p2 tp tq ts us2 vu1 vu2 vr1 vr2):=⟨_,fun hP=>⟨fun hy=>by
 have hP':=hP hy
 clear hP
 obtain⟨B,F,X,T,Se,hk,hd,hu,hpre,hret⟩:=hy
 unfold Pre at hpre
 unfold PR
 revert X;k_fill;intro X
 (refine Ah hpre fun o0_ o1_ hu1 hu2 hl1 hl2 hlen hus2 hus1 z1 z2 z3 z4=>?_;clear hpre;refine oA o0_ fun hx1 hd1=>?_;clear o0_;refine oA o1_ fun hx2 hd2=>?_;clear o1_)
 refine TV ?_
 k_dflt (refine' enter (binds:=[(Ta "e1", .ref x1),(Ta "e2", .ref x2)]) ?k1 ?k2 ?k3 ?k5 ?kA ?kF ?kK ?k6 ?k7 ?k8 ?k9 ?kB ?_ ?c2 ?c3 ?c4 ?c5;(case kA=>exact rfl);(case kF=>exact rfl);(case kK=>assumption);(case k1=>k_asm);(case k2=>k_asm);(case k3=>k_asm);(case k5=>k_asm);(case k6=>k_is);(case k7=>k_is);(case k8=>ktr_room);(case k9=>exact SL rfl);(case c5=>decide);(case kB=>exact locs rfl);(case c2=>exact rfl);(case c3=>exact rfl);(case c4=>exact rfl);k_whole)
 exact hP'.get⟩⟩
@[irreducible] noncomputable def cF:Vf×Vg:=Dl red.P rfl
@[irreducible] noncomputable def L':Vf:=cF.1
@[irreducible] noncomputable def h':Vg:=cF.2
theorem walk(hy:HyX cx 5 (Pre cx.w x1 d1 u1 l1 x2 d2 u2 l2 t1 t2 t3 t4 s1 s2 s3 s4 p1 q1 p2 tp tq ts us2 vu1 vu2 vr1 vr2) (Post cx.w x1 d1 u1 l1 x2 d2 u2 l2 t1 t2 t3 t4 s1 s2 s3 s4 p1 q1 p2 tp tq ts us2 vu1 vu2 vr1 vr2)):red.P:=by
 refine J2 (a:=L') (b:=h') rfl (by unfold L' cF;rfl) (by unfold h' cF;rfl) ?_
 obtain⟨B,F,X,T,Se,hk,hd,hu,hpre,hret⟩:=hy
 unfold Pre at hpre
 have q9:PR=PR:=rfl
 unfold PR at q9
 revert X q9;k_fill;intro X q9;clear q9
 (refine Ah hpre fun o0_ o1_ hu1 hu2 hl1 hl2 hlen hus2 hus1 z1 z2 z3 z4=>?_;clear hpre;refine oA o0_ fun hx1 hd1=>?_;clear o0_;refine oA o1_ fun hx2 hd2=>?_;clear o1_)
 intro F' N' B' X' T'
 k_dflt (have Se':=Qc Se (Fr.keep F);(try dsimp only);(try k_lift B');(try k_fold))
 have I1:InstAt cx.s.heap x1 (UL 69 d1) 69 (some (z9 cx.w.params t1 t2 t3 t4 (.ref u1) (.ref l1) (.int p1 tp) (.int q1 tq))):=⟨hx1,rfl,rfl,hd1⟩
 have I2:InstAt cx.s.heap x2 (UL 69 d2) 69 (some (z9 cx.w.params s1 s2 s3 s4 (.ref u2) (.ref l2) (.int p2 ts) .none)):=⟨hx2,rfl,rfl,hd2⟩
 k_steps
 unfold g9
 rename Fr _ _ _ _=>F2
 rename News _ _ _ _=>N2
 refine Oe F2 N2 rfl hu2 hlen hus2 (by unfold scanBound;lia) fun aS oS nS h3 tk3 hn hso F3 N3 lt3=>?_
 k_steps
 refine Mr F3 N3 (.head _) hso hn fun u h4 tk4 F4 N4 lt4=>?_
 k_steps
 unfold g9
 refine Ki F4 N4 hu1 fun z I oI h5 hI1 hI2 F5 N5 lt5 ltz=>?_
 k_steps
 unfold g9
 refine Ka F5 N5 rfl ⟨hI1,hI2⟩ hu1 hso hn (fun i v e=>hus1 i v (by simpa using e)) ltz lt5 (by rw[Tz];lia) fun D k h6 tk6 F6 N6 lt6=>?_
 clear F3 F4 F5 N3 N4 N5 lt3 lt4 lt5
 k_lt lt6
 k_steps
 unfold g9
 rename Fr _ _ _ _=>F7
 rename News _ _ _ _=>N7
 refine kmk_add_lit F7 N7 (its:=vr1.toArray) (its2:=vr2.toArray) (hl1.at fun o e=>F7.keep _ o e) (hl2.at fun o e=>F7.keep _ o e) rfl (fun D2 h8 F8 N8 lt8=>?_) (by simp only[Tz];lia)
 k_lt lt8
 k_steps
 all_goals(rename Fr _ _ _ _=>F9;rename News _ _ _ _=>N9;refine Lv.intro F9 ?_;intro kp;refine hret _ _ _ kp ?_)
 have e1:=N9 _ (.head _)
 have e2:=N9 _ (.tail _ (.head _))
 have e3:=N9 _ (.tail _ (.tail _ (.tail _ (.tail _ (.head _)))))
 have e4:=N9 _ (.tail _ (.tail _ (.tail _ (.tail _ (.tail _ (.head _))))))
 exact⟨_,_,_,_,_,_,_,_,_,_,rfl,e3.1,e4.1,e2.1,e1.1,e3.2.2,e4.2.2,e2.2.2,e1.2.2⟩
end C80
theorem JY(x1 d1 u1 l1 x2 d2 u2 l2:Vf)(t1 t2 t3 t4 s1 s2 s3 s4:Vm)(p1 q1 p2:Int)(tp tq ts:Vm)(us2:List Vk)(vu1 vu2 vr1 vr2:List UX):Ct w loose mean mg mb 5 80 [.ref x1, .ref x2] (fun h=>(h.get? x1=some (UL 69 d1)/\h.get? d1=some (z9 w.params t1 t2 t3 t4 (.ref u1) (.ref l1) (.int p1 tp) (.int q1 tq)))/\(h.get? x2=some (UL 69 d2)/\h.get? d2=some (z9 w.params s1 s2 s3 s4 (.ref u2) (.ref l2) (.int p2 ts) .none))/\h.IsList u1 vu1.toArray/\h.IsList u2 vu2.toArray/\h.IsList l1 vr1.toArray/\h.IsList l2 vr2.toArray/\us2.length=vu2.length/\(∀(i:Nat)(v:UX),vu2[i]? =some v->HC us2 i v)/\(∀(i:Nat)(v:UX),vu1[i]? =some v->∃x t,v=Um x t)/\vu1.length<100/\vu2.length<100/\vr1.length<100/\vr2.length<100) (fun h h' r=>∃x dx D D2 k k2 e1 e2 e3 e4,r= .ref x/\h'.get? x=some (UL 69 dx)/\h'.get? dx=some (z9 w.params e1 e2 e3 e4 (.ref D) (.ref D2) (.int p2 ts) (.int q1 tq))/\h'.get? D=some (W.listOf (vu1.filter (X5 fun k'=>us2.any (· == k'))).toArray k)/\h'.get? D2=some (W.listOf (vr1++vr2).toArray k2)/\h.get? x=none/\h.get? dx=none/\h.get? D=none/\h.get? D2=none):=
 CtX.ct (Pre:=fun w=>C80.Pre w x1 d1 u1 l1 x2 d2 u2 l2 t1 t2 t3 t4 s1 s2 s3 s4 p1 q1 p2 tp tq ts us2 vu1 vu2 vr1 vr2) (Post:=fun w=>C80.Post w x1 d1 u1 l1 x2 d2 u2 l2 t1 t2 t3 t4 s1 s2 s3 s4 p1 q1 p2 tp tq ts us2 vu1 vu2 vr1 vr2) fun cx9=>show C80.T cx9 x1 d1 u1 l1 x2 d2 u2 l2 t1 t2 t3 t4 s1 s2 s3 s4 p1 q1 p2 tp tq ts us2 vu1 vu2 vr1 vr2 from f7 (P:=C80.P9) (c:=C80.c) (by with_unfolding_all rfl) (by with_unfolding_all exact C80.red.of fun y=>⟨C80.walk y⟩) ((cx9,x1,d1,u1),(l1,x2,d2,u2),(l2,t1,t2,t3),(t4,s1,s2,s3),(s4,p1,q1,p2),(tp,tq,ts,us2),(vu1,vu2,vr1,vr2))
end
end Mine
end
section
namespace Mine
noncomputable def Cs(lead:Int):List RuleD:=[⟨1, -99,99,0⟩,⟨1, -99,99,lead⟩]
noncomputable def Ma(others:List Int)(r:Int):Nat:=(others.filter fun far=>decide (r<far)).length
noncomputable def Ec(others:List Int)(lead:Int):List RuleD:=
 (others.map fun r=>⟨99,r-1,r,0⟩)++[⟨1, -99,99, -lead⟩]++others.map fun r=>⟨r+9,r,99,lead*(-1) ^ Ma others r⟩
noncomputable def span5:List Int:=[-5, -4, -3, -2, -1,0,1,2,3,4,5]
theorem Jx:∀lead∈[(1:Int), -1],∀s1∈span,∀s2∈span,∀n∈span5,(G3 n (Cs lead++Ec [s1,s2] lead)).2=some (BB (lead*((n-s1)*(n-s2)))):=by decide+kernel
theorem Jw:∀lead∈[(1:Int), -1],∀s1∈span,∀s2∈span,(G3 100 (Cs lead++Ec [s1,s2] lead)).2=none:=by decide+kernel
theorem DX(lead s1 s2 n:Int):i0 ((a9 [s1,s2]).map (lead* ·)) (2*n)=4*(lead*((n-s1)*(n-s2))):=by
 have h:=FU ((a9 [s1,s2]).map (lead* ·)) (2*n) n (by push_cast;rfl)
 rw[S2,B3,RT,i5] at h
 simp only[prodR,RB,RX] at h
 rw[←Si]
 push_cast
 generalize(i0 ((a9 [s1,s2]).map (lead* ·)) (2*n):Rat)=v at*
 grind
theorem Ia(x:Int):BB (4*x)=BB x:=by unfold BB;split <;> split <;> (try split) <;> lia
theorem Lq{others:List Int}{lead n:Int}(hl:lead=1\/lead= -1)(ho:others.length=2)(h:∀r∈others,r∈span)(hn:n∈span5):
  (G3 n (Cs lead++Ec others lead)).2=some (BB (i0 ((a9 others).map (lead* ·)) (2*n))):=by
 obtain⟨s1,s2,rfl⟩:=MX ho
 rw[DX,Ia]
 exact Jx lead (by rcases hl with rfl|rfl <;> simp) s1 (h _ (by simp)) s2 (h _ (by simp)) n hn
theorem HJ{others:List Int}{lead:Int}(hl:lead=1\/lead= -1)(ho:others.length=2)(h:∀r∈others,r∈span):
  (G3 100 (Cs lead++Ec others lead)).2=none:=by
 obtain⟨s1,s2,rfl⟩:=MX ho
 exact Jw lead (by rcases hl with rfl|rfl <;> simp) s1 (h _ (by simp)) s2 (h _ (by simp))
noncomputable def L2(others:List Int)(seen:List Int):List Int->List Int
 |[]=>[]
 |r::l=>if r∈seen\/r∈others then r::L2 others (r::seen) l else L2 others (r::seen) l
noncomputable def Aj(others:List Int)(seen:List Int):List Int->List Int
 |[]=>[]
 |r::l=>if r∈seen\/r∈others then Aj others (r::seen) l else r::Aj others (r::seen) l
theorem Co(others:List Int)(l:List Int):∀seen x,prodR l x=prodR (L2 others seen l) x*prodR (Aj others seen l) x:=by
 induction l with
 |nil=>intro seen x;simp[prodR,L2,Aj]
 |cons r l ih=>
  intro seen x
  have:=ih (r::seen) x
  simp only[L2,Aj]
  split <;> simp only[prodR,this] <;> grind
theorem Gl(others:List Int)(l:List Int):∀seen,(∀r∈Aj others seen l,r∉seen/\r∉others/\r∈l)/\(Aj others seen l).Nodup:=by
 induction l with
 |nil=>intro seen;simp[Aj]
 |cons q l ih=>
  intro seen
  refine oA (ih (q::seen)) fun i1 i2=>?_
  simp only[Aj]
  split
  ·refine⟨fun r hr=>?_,i2⟩
   refine oAA (i1 r hr) fun a b c=>?_
   exact(iAA (fun h=>a (.tail _ h)) b (.tail _ c))
  ·rename_i hq
   refine⟨fun r hr=>?_,?_⟩
   ·rcases SH.1 hr with rfl|hr
    ·exact(iAA (fun h=>hq (.inl h)) (fun h=>hq (.inr h)) (.head _))
    ·refine oAA (i1 r hr) fun a b c=>?_
     exact(iAA (fun h=>a (.tail _ h)) b (.tail _ c))
   ·rw[List.nodup_cons]
    exact⟨fun h=>(i1 q h).1 (.head _),i2⟩
theorem IH(others:List Int)(l:List Int):∀seen,(∀r∈l,r∈Aj others seen l\/r∈seen\/r∈others)/\∀r∈L2 others seen l,r∈Aj others seen l\/r∈seen\/r∈others:=by
 induction l with
 |nil=>intro seen;simp[L2]
 |cons q l ih=>
  intro seen
  refine oA (ih (q::seen)) fun i1 i2=>?_
  simp only[Aj,L2]
  split
  ·rename_i hq
   refine⟨fun r hr=>?_,fun r hr=>?_⟩
   ·rcases SH.1 hr with rfl|hr
    ·exact .inr hq
    ·rcases i1 r hr with h|h|h
     ·exact .inl h
     ·rcases SH.1 h with rfl|h
      ·exact .inr hq
      ·exact .inr (.inl h)
     ·exact .inr (.inr h)
   ·rcases SH.1 hr with rfl|hr
    ·exact .inr hq
    ·rcases i2 r hr with h|h|h
     ·exact .inl h
     ·rcases SH.1 h with rfl|h
      ·exact .inr hq
      ·exact .inr (.inl h)
     ·exact .inr (.inr h)
  ·refine⟨fun r hr=>?_,fun r hr=>?_⟩
   ·rcases SH.1 hr with rfl|hr
    ·exact .inl (.head _)
    ·rcases i1 r hr with h|h|h
     ·exact .inl (.tail _ h)
     ·rcases SH.1 h with rfl|h
      ·exact .inl (.head _)
      ·exact .inr (.inl h)
     ·exact .inr (.inr h)
   ·rcases i2 r hr with h|h|h
    ·exact .inl (.tail _ h)
    ·rcases SH.1 h with rfl|h
     ·exact .inl (.head _)
     ·exact .inr (.inl h)
    ·exact .inr (.inr h)
section
variable{f6 others:List Int}{lead:Int}{q:List Int}
theorem IG(d:Dom f6 others lead q)(P P':Int)(hP:P % 2=1)(hP':P' % 2=1)(h1: -9<=P)(h2:P<=P')(h3:P'<=9)
  (chain:List (List Int))(ec:chain=E7 (b0 (a9 f6) q) (s6 (b0 (E6 (b0 (a9 f6) q)) ((a9 others).map (lead* ·))) (b0 (a9 f6) q))):
  chg (sgI (chain.map (i0 · P)))-chg (sgI (chain.map (i0 · P')))=
   (span.map fun r=>if P<2*r/\2*r<P' then(if r∈f6 then BB (i0 ((a9 others).map (lead* ·)) (2*r)) else 0) else 0).sum:=by
 have k1:=Gl others f6 []
 have k2:=IH others f6 []
 refine FF (K:=Aj others [] f6) (E:=L2 others [] f6) d.q1 (Co others f6 []) k1.2 ?_ (fun r hr=>(k1.1 r hr).2.1) ?_ ?_ (fun r hr=>(k1.1 r hr).2.2) ?_ ?_ P P' hP hP' h1 h2 h3 chain ec
 ·intro e he;rcases k2.2 e he with h|h|h
  ·exact .inl h
  ·cases h
  ·exact .inr h
 ·have:=d.ld;lia
 ·intro e;have:=d.r2;rw[e] at this;simp at this
 ·intro r hr;rcases k2.1 r hr with h|h|h
  ·exact .inl h
  ·cases h
  ·exact .inr h
 ·intro r hr
  have:=d.rs r hr
  have:r= -4\/r= -3\/r= -2\/r= -1\/r=0\/r=1\/r=2\/r=3\/r=4:=iaB (P:=fun r=>r= -4\/r= -3\/r= -2\/r= -1\/r=0\/r=1\/r=2\/r=3\/r=4) (k:=4) (by assumption) (by decide)
  simpa[span] using this
theorem Kd(d:Dom f6 others lead q)
  (chain:List (List Int))(ec:chain=E7 (b0 (a9 f6) q) (s6 (b0 (E6 (b0 (a9 f6) q)) ((a9 others).map (lead* ·))) (b0 (a9 f6) q)))(hne:chain≠[]):
  chain.getLast hne=a9 (L2 others [] f6)\/chain.getLast hne=(a9 (L2 others [] f6)).map (- ·):=by
 have k1:=Gl others f6 []
 have k2:=IH others f6 []
 refine Hq (K:=Aj others [] f6) (E:=L2 others [] f6) d.q1 (Co others f6 []) k1.2 ?_ (fun r hr=>(k1.1 r hr).2.1) ?_ ?_ chain ec hne
 ·intro e he;rcases k2.2 e he with h|h|h
  ·exact .inl h
  ·cases h
  ·exact .inr h
 ·have:=d.ld;lia
 ·intro e;have:=d.r2;rw[e] at this;simp at this
end
end Mine
end
section
open PySem PySem.W PySem.Calls PyProof.Rows PySem.Spec Builtin
set_option maxRecDepth 1000000
set_option maxHeartbeats 4000000
namespace Mine
theorem Jh:mroOf (.type "bytearray")=pure [.type "bytearray", .type "object"]:=by rw[mroOf_type];kernel_rfl
theorem DN:TX (.type "bytearray") "__new__"=pure (some (.builtin "bytearray.__new__")):=by rw[RU,Qm];kernel_rfl
theorem L9:Slot "bytearray" "__init__" "bytearray.__init__":=
 .of (owner:="bytearray") (n:="__init__") (by rw[RU,Qm];kernel_rfl) (by decide+kernel) (by decide+kernel) (by decide+kernel)
  (by first|exact .inl (by decide+kernel)|exact .inr (by decide+kernel)) (by rw[Sv];kernel_rfl)
theorem Am:TypeCalled "bytearray" "bytearray.__new__" "bytearray.__init__":=
 ⟨by decide+kernel,by decide+kernel,(iEE _ _ Jh),madeBy_type Jh DN (by decide+kernel),by decide+kernel,by rw[Sv];kernel_rfl,L9⟩
theorem FL(a:UX):checkTypeCall "bytearray" ⟨[a],[]⟩=pure ():=by kernel_rfl
theorem Hx(a:UX):RJ "bytearray.__new__" ⟨[.type "bytearray",a],[]⟩=pure ():=by kernel_rfl
theorem GF:plainId "bytearray.__new__"=true:=by decide+kernel
theorem ER:UC table "bytearray.__new__"=some UE.«list.__new__»:=
 entryFor_alias (id':="list.__new__") (by kernel_rfl) (by first|rfl|decide+kernel) (by decide+kernel) (by kernel_rfl)
theorem DO:UC table "bytearray.__init__"=some UE.«bytearray.__init__»:=by first|exact RQ (by kernel_rfl)|exact RL (by kernel_rfl)
theorem My(a b:UX):UW "bytearray.__init__" ⟨[a,b],[]⟩:=by
 unfold UW;first|kernel_rfl|rfl
theorem Kv:("bytearray.__new__".splitOn ".__new__").headD ""="bytearray":=by simp+decide [String.splitOn,String.splitOnAux]
theorem GD:isSubtype (.type "bytearray") (.type "bytearray")=pure true:=by rw[Sv];kernel_rfl
theorem Hw:TX (.type "bytearray") (Ta "__release_buffer__")=pure (some (.builtin "bytearray.__release_buffer__")):=by rw[RU,Qm];kernel_rfl
theorem Mx(v:UX):UE.Bytes.bindOptional "bytearray.__init__" "bytearray" ["source","encoding","errors"] [v] []=pure [some v,none,none]:=by kernel_rfl
noncomputable abbrev C3(b:Array UInt8):Vl:={cls:= .type "bytearray",data:= .bytearray b}
section
variable{prog:UF}{w:Va}{A:UP}{E:UX->UO->Prop}{s:UO}
theorem FA(a:UX){Q₁:UX->UO->Prop}
  (h:Q₁ (.ref s.heap.objs.size) {s with heap:=s.heap.push (C3 #[])}):
  UI (UZ prog w) A (.call (.builtin "bytearray.__new__") ⟨[.type "bytearray",a],[]⟩) (wants Q₁ E) s:=by
 refine Sk ?_
 show UY _ A.in1 (do RJ "bytearray.__new__" ⟨[.type "bytearray",a],[]⟩;again (.builtin "bytearray.__new__" ⟨[.type "bytearray",a],[]⟩)) _ _ s
 refine TQ (TB (Hx a) (TR ⟨SQ GF _,codeAny_builtin_stack ER rfl fun p st=>?_⟩))
 rw[Qw GF _]
 have hsub:=GD
 have hown:=Kv
 obtain⟨hp,g,d,tk,os⟩:=s
 simp only[hown]
 wp_walk
 exact h
end
end Mine
end
section
open PySem PySem.W PySem.Calls PyProof.Rows PySem.Spec Builtin
namespace Mine
section
variable{prog:UF}{w:Va}{A:UP}{R:UT->UO->Prop}{s:UO}
theorem B5.builtin{id:String}{args:Args}{b:UE}(hb:UC table id=some b)
  (h:wpP (UZ prog w) (A.under (.builtin id args)) (b args)
   (fun fin s'=>match fin with| .done f=>R (.ok f) s'| .again c'=>c'.quiet=true/\dec c'=false/\B5 (UZ prog w) A c' R s') (fun e s'=>R (.error e) s') s):
  B5 (UZ prog w) A (.builtin id args) R s:=by
 refine B5.tree ?_
 show wpP _ _ (match UC table id with|some b=>b args|none=>unsupported ((withoutEnding? id "#data").getD id)) _ _ s
 rw[hb];exact h
theorem wpP.exported{M:Vc}{E:UX->UO->Prop}{S:UX}{Q:Bool->UO->Prop}(hg:A.guards=some [])(h:Q false s):wpP M A (UE.Bytes.exported S) Q E s:=fun Γ p hΓ hc=>by
 have hcl:DS Γ:=hc rfl
 have hgu:guardsOf ((Γ.code,p)::Γ.below)=[]:=by rw[guardsOf_cons];exact hΓ.2.2.2.1 _ hg
 have no:∀x∈((Γ.code,p)::Γ.below),x.1.isGuard=false/\dec x.1=false:=fun x hx=>by
  constructor
  ·cases q:x.1.isGuard with
   |false=>rfl
   |true=>
    have:x.1∈guardsOf ((Γ.code,p)::Γ.below):=Sd.mpr ⟨Tg.mpr (iEA x hx rfl),q⟩
    rw[hgu] at this;cases this
  ·rcases SH.mp hx with rfl|hx
   ·exact hcl.1
   ·exact hcl.2 x hx
 show Q _ s
 generalize(Γ.code,p)::Γ.below=st at no
 refine Eq.mpr (congrArg (Q · s) (List.any_eq_false.mpr fun x hx=>?_)) h
 refine oA (no x hx) fun h1 h2=>?_
 clear hx no
 obtain⟨c,q⟩:=x
 cases c with
 |builtin nm args=>
  obtain⟨pos,kw⟩:=args
  by_cases e1:nm="bytearray.__contains__"
  ·subst e1;exact absurd (show guardIds.contains "bytearray.__contains__"=false from h1) (by decide+kernel)
  by_cases e2:nm="bytearray.__mod__"
  ·subst e2;exact absurd (show guardIds.contains "bytearray.__mod__"=false from h1) (by decide+kernel)
  by_cases e3:nm="bytearray.__rmod__"
  ·subst e3;exact absurd (show guardIds.contains "bytearray.__rmod__"=false from h1) (by decide+kernel)
  by_cases e4:nm="_struct.pack_into.held"
  ·subst e4;exact absurd (show guardIds.contains "_struct.pack_into.held"=false from h1) (by decide+kernel)
  by_cases e5:nm="bytearray.find.held"
  ·subst e5;exact absurd (show guardIds.contains "bytearray.find.held"=false from h1) (by decide+kernel)
  delta UE.Bytes.exported.match_1
  dsimp only
  simp only[dif_neg e1,dif_neg e2,dif_neg e3,dif_neg e4,dif_neg e5]
  cases pos with
  |nil=>exact QT
  |cons v t=>
   intro h3
   have h4:=(QB.mp h3).2
   dsimp only[dec] at h2
   rw[h2] at h4
   cases h4
 |_=>exact QT
end
end Mine
end
section
open PySem PySem.W PySem.Calls PyProof.Rows PySem.Spec Builtin
namespace Mine
section
variable{prog:UF}{w:Va}{A:UP}{E:UX->UO->Prop}{s:UO}{S:Vf}{n:Nat}{t:Vm}
theorem Lg{Q:Bool->UO->Prop}{M:Vc}{b:Array UInt8}(hS:s.heap.get? S=some (C3 b))(h:Q false s):UY M A (UE.Bytes.ownRelease (.ref S)) Q E s:=by
 have hT:s.TypeIs (.ref S) "bytearray":=(iEA _ hS rfl)
 unfold UE.Bytes.ownRelease UE.Bytes.slotIsOwn
 refine TQ (TQ (RY hT Hw ?_))
 dsimp only
 refine Rj (by decide+kernel) ?_
 refine RI (T:="bytearray") (b:=true) hT ?_ (TR h)
 rw[show("bytearray.__release_buffer__".dropRight ("__release_buffer__".length+1))="bytearray" by decide+kernel]
 exact GD
theorem Lp{M:Vc}{b:Array UInt8}{f:Array UInt8->Array UInt8}{Q:Unit->UO->Prop}(hS:s.heap.get? S=some (C3 b))(h:∀h',h'.get? S=some (C3 (f b))->To S s.heap h'->Q () {s with heap:=h'})(hz:(f b).size<=Ux:=by first|(show(0:Nat)<=Ux;decide)|size_fits):
  UY M A (Bytes.write (.ref S) f) Q E s:=by
 show UY M A (updateBytearray S f) Q E s
 unfold updateBytearray
 refine TQ (Uk hS ?_)
 dsimp only
 have h2:=Qo (Vl.mapBytearray f) hS rfl
 refine TQ (wpAny_update hS ?_)
 refine wpAny_lookBehind h2 ?_ (h _ ?_ (QP ..))
 ·show(if(f b).size>Ux then some "bytearray:memory" else none)=none
  rw[if_neg (TY.mpr hz)]
 ·exact h2
theorem ifF{α:Type}{M:Vc}{c:Bool}{a b:Sem α}{Q:α->UO->Prop}(hc:c=false)(h:wpP M A b Q E s):wpP M A (if c=true then a else b) Q E s:=by
 subst hc;exact h
end
namespace W7
noncomputable def T(prog:UF)(w:Va)(A:UP)(E:UX->UO->Prop)(s:UO)(S:Vf)(n:Nat)(t:Vm)(P:Fin->UO->Prop):Prop:=∀(hg:A.guards=some [])(hS:s.heap.get? S=some (C3 #[]))(h0:0<n)(hn:n<=1000)(h:∀h',h'.get? S=some (C3 (Array.replicate n 0))->To S s.heap h'->P (.done (.ret .none)) {s with heap:=h'}),wpP (UZ prog w) A (UE.«bytearray.__init__» ⟨[.ref S, .int n t],[]⟩) P E s
noncomputable def P9:=V4 fun prog w A E=>V4 fun s S n t=>fun P=>T prog w A E s S n t P
@[irreducible] noncomputable def c:=y6 (by k_extra "ne") P9
@[irreducible] noncomputable def prog:=c.1.1
@[irreducible] noncomputable def w:=c.1.2.1
@[irreducible] noncomputable def A:=c.1.2.2.1
@[irreducible] noncomputable def E:=c.1.2.2.2
@[irreducible] noncomputable def s:=c.2.1.1
@[irreducible] noncomputable def S:=c.2.1.2.1
@[irreducible] noncomputable def n:=c.2.1.2.2.1
@[irreducible] noncomputable def t:=c.2.1.2.2.2
@[irreducible] noncomputable def P:=c.2.2
theorem walk:T prog w A E s S n t P:=by
 intro hg hS h0 hn h
 unfold UE.«bytearray.__init__»
 refine wpP.bindA (Lg hS ?_)
 rw[if_neg QT]
 refine wpP.bindA (TB (Mx _) ?_)
 refine wpP.bindA (TB (a:=()) rfl ?_)
 refine wpP.bindA (TB (a:=()) rfl ?_)
 refine wpP.bind (wpP.bind (wpP.exported hg ?_))
 show wpP _ _ (Bytes.exportsOf (.ref S)>>=fun d=>pure (decide (d>0))) _ _ _
 refine wpP.bindA ?_
 unfold Bytes.exportsOf
 refine TQ (Uk hS (TR ?_))
 refine wpP.pure ?_
 refine ifF rfl ?_
 refine wpP.of ?_
 dsimp only
 refine TQ (Lp hS fun h1 hS1 hs1=>?_)
 replace hS1:h1.get? S=some (C3 #[]):=hS1
 have hI:({s with heap:=h1}:UO).TypeIs (.int n t) "int":=rfl
 show UY _ _ (asStr? (.int n t)>>=_) _ _ _
 refine TQ ?_
 have e1:asStr? (.int n t)=pure none:=by unfold asStr?;dsimp only;rfl
 rw[e1]
 refine TR ?_
 simp only[Option.isSome_none,QX,if_false]
 refine TQ ?_
 refine TR ?_
 refine TQ ?_
 have e3:specialOf (.int n t) (Ta "__index__")=pure (some (.builtin "int.__index__")):=F.slot_int_index.lookup
 rw[e3]
 refine TR ?_
 have e5:(some (UX.builtin "int.__index__")).isSome=true:=rfl
 rw[if_pos e5]
 have e2:asIndex (.int n t)=pure (n:Int):=rfl
 rw[e2]
 refine TQ ?_
 refine SX ?_
 refine TR ?_
 dsimp only
 have c1:(!Bytes.fitsIndex (n:Int))=false:=by
  unfold Bytes.fitsIndex
  simp only[Bool.not_eq_false',RO,decide_eq_true_eq]
  omega
 have c2:¬((n:Int)<0):=by omega
 have c3:((n:Int) == 2 ^ 63-1)=false:=by
  rw[beq_eq_false_iff_ne];omega
 have c4:Bytes.tooLong (n:Int).toNat=false:=by
  unfold Bytes.tooLong
  rw[Tz]
  simp only[decide_eq_false_iff_not];omega
 have c5:(n:Int)>0:=by omega
 rw[c1,if_neg QT,if_neg c2,c3,if_neg QT,c4,if_neg QT]
 refine TQ ?_
 refine Ud ?_
 rw[if_pos c5]
 refine TQ ?_
 refine Lp hS1 (fun h2 hS2 hs2=>?_) (by rw[Array.size_replicate,Tz];omega)
 refine TR ?_
 exact h h2 (by simpa using hS2) (hs1.trans hs2)
end W7
section
variable{prog:UF}{w:Va}{A:UP}{E:UX->UO->Prop}{s:UO}{S:Vf}{n:Nat}{t:Vm}
theorem Mw{prog w A E s S n t P}:W7.T prog w A E s S n t P:=f7 (P:=W7.P9) (c:=W7.c) (by with_unfolding_all rfl) (by with_unfolding_all exact W7.walk) ((prog,w,A,E),(s,S,n,t),P)
end
end Mine
end
section
open PySem PySem.W PySem.Calls PyProof.Rows PySem.Spec Builtin
namespace Mine
section
variable{prog:UF}{w:Va}{A:UP}{E:UX->UO->Prop}{s:UO}{S:Vf}{n:Nat}{t:Vm}
theorem Mp{Q:UX->UO->Prop}(hg:A.guards=some [])(h0:0<n)(hn:n<=1000)
  (h:∀h',h'.get? s.heap.objs.size=some (C3 (Array.replicate n 0))->(∀b o,s.heap.get? b=some o->h'.get? b=some o)->Q (.ref s.heap.objs.size) {s with heap:=h'}):
  wpP (UZ prog w) A (call (.type "bytearray") [.int n t]) Q E s:=by
 have hmade:=Am.made
 have hsub:=Am.sub
 have h1:=Am.notType
 have h2:=Am.canCreate
 have hct:=FL (.int n t)
 have hmro:=Jh
 refine wpP.call (B5.tree ?_)
 show wpP _ _ (callAny (.type "bytearray") ⟨[.int n t],[]⟩) _ _ _
 refine wpP.pure (iAA (Rg _ (by decide+kernel)) (by show PP.contains "type.__call__"=false;decide+kernel) (B5.builtin F.entry_type_call ?_))
 rw[UP.under_plain (weight_type_call_type "bytearray" [.int n t] []) rfl]
 unfold UE.«type.__call__»
 dsimp only
 rw[h1,if_neg QT,h2,if_neg QT,hct]
 refine wpP.bindA ?_
 refine TR ?_
 rw[hmro]
 refine wpP.bindA ?_
 refine TR ?_
 rw[if_neg (by decide),hmade]
 refine wpP.bindA ?_
 refine TR ?_
 dsimp only
 refine wpP.bindA ?_
 refine TR ?_
 refine wpP.bindA ?_
 refine SM ?_
 refine TV ?_
 refine codeAny_mono (FA (E:=E) (.int n t) (Q₁:=fun v s₁=>v= .ref s.heap.objs.size/\s₁={s with heap:=s.heap.push (C3 #[])}) ⟨rfl,rfl⟩) fun r s₁ hr=>?_
 rcases r with e|(_|_|_|obj)
 ·exact hr
 ·exact hr.elim
 ·exact hr.elim
 ·exact hr.elim
 (refine oA hr fun o0_ o1_=>?_;clear hr;obtain rfl:=o0_;obtain rfl:=o1_)
 have hS:(s.heap.push (C3 #[])).get? s.heap.objs.size=some (C3 #[]):=QD _ rfl
 have hT:({s with heap:=s.heap.push (C3 #[])}:UO).TypeIs (.ref s.heap.objs.size) "bytearray":=(iEA _ hS rfl)
 dsimp only
 refine wpP.bindA (RI hT GD ?_)
 refine ifF rfl ?_
 refine wpP.bind (wpP.holding ?_)
 unfold callSpecial?
 refine wpP.bindA (RY hT L9.lookup ?_)
 dsimp only
 refine wpP.holding ?_
 refine wpP.bindA (TB (L9.bind _) ?_)
 dsimp only
 refine wpP.bind ?_
 refine wpP.call (B5.tree ?_)
 show wpP _ _ (RJ "bytearray.__init__" ⟨[.ref s.heap.objs.size, .int n t],[]⟩>>=fun Z=>again (.builtin "bytearray.__init__" ⟨[.ref s.heap.objs.size, .int n t],[]⟩)) _ _ _
 refine wpP.bindA (L9.check _ _ _ _ _ _ _ _ hT (My _ _) ?_)
 refine wpP.pure (iAA (Rg _ (by decide+kernel)) (by show PP.contains "bytearray.__init__"=false;decide+kernel) (B5.builtin DO ?_))
 rw[Qw (by decide+kernel) _]
 refine Mw hg hS h0 hn fun h2 hS2 hs2=>?_
 have he:(Uc != Uc)=false:=by decide
 refine wpP.pure ?_
 dsimp only
 rw[he,if_neg QT]
 exact wpP.pure (h h2 hS2 fun b o e=>(hs2.2 b (Tb (Tc e))).trans (Qj _ e))
end
end Mine
end
section
open PySem PySem.W PySem.Calls PyProof.Rows PySem.Spec Builtin
namespace Mine
section
variable{prog:UF}{w:Va}{A:UP}{R:UT->UO->Prop}{s:UO}{E:UX->UO->Prop}
theorem B5.func{body:List Stmt}{env:Vn}
  (h:wpP (UZ prog w) (A.deeper env) (Ve body env) (fun f s'=>R (.ok (.ret (match f with| .ret v=>v|_=> .none))) s')
   (fun e s'=>wpP (UZ prog w) (A.deeper env) (leaving env e) (fun Z s''=>R (.error e) s'') (fun e' s''=>R (.error e') s'') s') s):
  B5 (UZ prog w) A (.func body env) R s:=by
 refine B5.tree ?_
 show wpP _ (A.deeper env) (do point;match←(Ve body env).onRaise (leaving env) with| .ret v=>ret v|_=>ret .none) _ _ s
 refine wpP.bindA (wpAny_point (wpP.bind (wpP.onRaise (wpP.mono h (fun f s' h'=>?_) fun Z Z h'=>h'))))
 cases f <;> exact wpP.pure h'
theorem B5.call_function{a:Vf}{args:Args}{o:Vl}{fd:FuncData}{body:List Stmt}(hroom:A.depth<Su)
  (ho:s.heap.get? a=some o)
  (hd':o.data= .func fd)(hco:fd.scope.isCoroutine=false)(hgen:fd.scope.isGenerator=false)(hbody:fd.body= .stmts body)(hcd:s.heap.CodeRec fd.code fd.qualname)
  (h:UY (UZ prog w) A.in1 (bindArgs fd args) (fun binds s₁=>
   UY (UZ prog w) A.in1 (SD fd.scope fd.globals fd.closure binds (fd.qualname++".<locals>.") (some a) fd.code none fd.builtins)
    (fun env s₂=>s₂.heap.NoLimit/\B5 (UZ prog w) A (.func body env) R s₂) (fun e s'=>R (.error e) s') s₁) (fun e s'=>R (.error e) s') s):
  B5 (UZ prog w) A (.call (.ref a) args) R s:=by
 refine B5.tree ?_
 show wpP _ A.in1 (callAny (.ref a) args) _ _ s
 simp only[callAny]
 refine wpP.bindA (Uk ho ?_)
 refine C6 hcd fun c oc vs tq hc hoc hdc hq=>?_;clear hcd
 simp only[hd',callFunction,hco,hgen,hbody,hc]
 rw[hc] at h
 refine wpP.bindA (m:=field (.ref c) 1) (TF hoc hdc hq (wpP.bindA (TR ?_)))
 exact wpP.bindA (TT h (fun binds s₁ h₁=>wpP.bindA (TT h₁ (fun env s₂ h₂=>wpP.bindA (wpAny_enterFrame h₂.1 hroom
  (wpP.pure (Ut rfl (Ut rfl h₂.2))))) fun Z Z h'=>h')) fun Z Z h'=>h')
end
section
variable{M:Vc}{A:UP}{E:UX->UO->Prop}{s:UO}{env:Vn}
theorem Cu{st:Stmt}{rest:List Stmt}{Q:Flow->UO->Prop}
  (h:wpP M A (exec st env) (fun f s'=>match f with| .next=>wpP M A (Ve rest env) Q E s'|f=>Q f s') E s):
  wpP M A (Ve (st::rest) env) Q E s:=by
 rw[PySem.execs_cons]
 refine wpP.bind (wpP.mono h (fun f s' h'=>?_) fun Z Z h'=>h')
 cases f <;> first|exact h'|exact wpP.pure h'
theorem Fj{x:Vk}{pos' pos:Pos}{value:Vh}{Q:Flow->UO->Prop}
  (h:wpP M A (Vi value env) (fun v s₁=>wpP M A (storeName env x v) (fun Z=>Q .next) E s₁) E s)
  (hs:swapsWith value (some (.Name x pos')) pos.line env=pure false:=by rfl):
  wpP M A (exec (.Assign [.Name x pos'] value pos) env) Q E s:=fun Γ p hΓ hc=>by
 simp only[exec_Assign_Name env x pos' value pos hs,Sem.wp_bind',Sem.wp_cmd_standAt,Sem.wp_bindName,Sem.wp_pure']
 exact Sem.wp_mono M Γ _ (fun v Z s₁ h₁=>h₁ Γ _ hΓ hc) (fun Z Z Z h'=>h') _ _ (h Γ _ hΓ hc)
theorem Dm{pos:Pos}{T:String}{first:List UX}{args:List (Bool×Sem UX)}{Q:UX->UO->Prop}
  (hplain:args.any (·.1)=false)
  (h:UY M A (evalArgs (.type T) true args []) (fun a s₁=>wpP M A (call (.type T) (first++a.pos) a.kw) Q E s₁) E s):
  wpP M A (callWith pos (.type T) first args []) Q E s:=by
 unfold callWith
 refine wpP.bind (wpP.holding (wpP.of (TT h (fun a s₁ h₁=>wpP.bindA (SS ?_)) fun Z Z x=>x)))
 simp only[hplain,List.any_nil,Bool.or_false]
 refine wpP.bindA (TR ?_)
 exact wpP.bind (wpP.mono h₁ (fun r s₂ hr=>wpP.bindA (SM (wpAny_point (wpP.pure hr)))) fun Z Z x=>x)
end
end Mine
end
section
open PySem PySem.W PySem.Calls PyProof.Rows PySem.Spec Builtin
namespace Mine
section
variable{M:Vc}{A:UP}{E:UX->UO->Prop}{s:UO}{env:Vn}
theorem MP{func:Vh}{args:List Vh}{pos:Pos}{Q:UX->UO->Prop}
  (h:UY M A (Vi func env) (fun f s₁=>wpP M A (callWith pos f [] (backTo pos (UD args env)) []) Q E s₁) E s)
  (he:Vi (.Call func args [] pos) env=(do callWith pos (←Vi func env) [] (backTo pos (UD args env)) (backToKw pos (keywordEach [] env))):=by rfl):
  wpP M A (Vi (.Call func args [] pos) env) Q E s:=by
 rw[he];exact wpP.bindA h
theorem GX{pos:Pos}{T:String}{first:List UX}{e:Vh}{rest:List Vh}{Q:UX->UO->Prop}
  (h:UY M A (spliced (backTo pos (UD (e::rest) env))) (fun vs s₁=>wpP M A (call (.type T) (first++vs)) Q E s₁) E s)
  (he:UD (e::rest) env=(false,Vi e env)::UD rest env:=by rfl)(hplain:(backTo pos (UD rest env)).any (·.1)=false:=by rfl):
  wpP M A (callWith pos (.type T) first (backTo pos (UD (e::rest) env)) []) Q E s:=by
 rw[he] at h ⊢
 exact Dm (by show(false || (backTo pos (UD rest env)).any (·.1))=false;rw[hplain];rfl) (evalArgs_plain h)
theorem OI{α:Type}{vs:List UX}{m:Sem α}{Q:α->UO->Prop}(h:wpP M A m Q E s):wpP M A (m.keep vs) Q E s:=
 fun Γ p hΓ hc=>by rw[Sem.wp_keep];exact h Γ p hΓ hc
theorem Ei{pos:Pos}{f:Vf}{args:List (Bool×Sem UX)}{Q:UX->UO->Prop}(hplain:args.any (·.1)=false)
  (h:UY M A (evalArgs (.ref f) true args []) (fun a s₁=>PySem.W.FnAt f s₁.heap/\wpP M A (call (.ref f) ([]++a.pos) a.kw) Q E s₁) E s):
  wpP M A (callWith pos (.ref f) [] args []) Q E s:=by
 unfold callWith
 refine wpP.bind (wpP.holding (wpP.of (TT h (fun a s₁ h₁=>wpP.bindA (SS ?_)) fun Z Z x=>x)))
 (refine oA h₁ fun o0_ h₁=>?_;refine Eo o0_ fun oc od fd sl ho=>?_;clear o0_)
 simp only[hplain,List.any_nil,Bool.or_false]
 have hk:∀Q':Keeper->UO->Prop,Q' Keeper.frame s₁->UY M A (keeperOf (.ref f)) Q' E s₁:=fun Q' hq=>by
  unfold keeperOf
  exact TQ (Uk ho (TR hq))
 refine wpP.bindA (hk _ ?_)
 have tail:∀{t:Sem UX},wpP M A t Q E s₁->wpP M A (t>>=fun r=>holding [r] point>>=fun Z=>Pure.pure r) Q E s₁:=
  fun ht=>wpP.bind (wpP.mono ht (fun r s₂ hr=>wpP.bindA (SM (wpAny_point (wpP.pure hr)))) fun Z Z x=>x)
 dsimp only
 split
 ·exact tail h₁
 ·exact tail (OI h₁)
end
section
variable{prog:UF}{w:Va}{A A₀:UP}{s:UO}
theorem Nq{base h₀:Vg}{outer:List Vn}{env:Vn}{L:Vf}{m:Vk->Option UX}{K:Frag}{p:UF}{loose:List Vk}{mean:UH->Option UX}{mg mb:Vk->Option UX}
  {R:UT->UO->Prop}{name qual:Vk}{params:Up}{body:List Stmt}{scope:Vb}{dV kV doc pm cdv ct oc:UX}{an od:Option Vf}{osl:Array (Option UX)}{f:Vf}{args:Args}{binds:List (Vk×UX)}
  (B:Vd A₀ base outer h₀)(F:Fr h₀ L s.heap m)(X₀:K.In h₀)(T:Top p loose mean mg mb h₀)(hA:A.frames=some (env::outer))(hf:env.frame=some L)(hke:env.scope.kind= .function)
  (ho:K.lookup f=some ⟨oc,od, .func (fnOf name qual params body scope dV kV doc pm an cdv ct),osl⟩)(hcd:codeIn K cdv qual=true)(hroom:A.depth<Su)
  (hbind:BindsTo s (fnOf name qual params body scope dV kV doc pm an cdv ct) args binds)(hloc:∀y∈binds,scope.names.lookup y.1=some .local)
  (h:∀L' h₁,Fr s.heap L' h₁ (fun y=>binds.reverse.lookup y)->News s.heap L' h₁ []->Vd A base (env::outer) s.heap->K.In s.heap->Top p loose mean mg mb s.heap->
   wpP (UZ prog w) (A.deeper (envOf qual scope L' f cdv)) (Ve body (envOf qual scope L' f cdv))
    (fun fl s'=>Lv s.heap R (match fl with| .ret v=>v|_=> .none) s')
    (fun e s'=>wpP (UZ prog w) (A.deeper (envOf qual scope L' f cdv)) (leaving (envOf qual scope L' f cdv) e) (fun Z s''=>R (.error e) s'') (fun e' s''=>R (.error e') s'') s')
    {s with heap:=h₁,toks:=s.toks+binds.length})
  (hco:scope.isCoroutine=false)(hgen:scope.isGenerator=false)(hk:scope.kind= .function)
  (hcell:∀x∈scope.names,x.2≠ .cell):B5 (UZ prog w) A (.call (.ref f) args) R s:=by
 have X:=X₀.keeps F.keep
 have T':=T.keeps F.keep
 have B₁:=pushX B F hf hke
 have B₂:Vd A base (env::outer) s.heap:=⟨hA,B₁.stays,B₁.frames⟩
 refine B5.call_function hroom (X _ _ ho) rfl hco hgen rfl (codeRec_of X hcd) (hbind _ _ _ _ ?_)
 refine wpAny_newFunctionEnv hcell hloc (fun h₁ hns hsb=>⟨T'.nolimit.fresh _ hsb,B5.func ?_⟩) hk
 have hk₁:∀b o,s.heap.get? b=some o->h₁.get? b=some o:=fun b o e=>hsb.extBut b o (Tb (Tc e)) (Qj _ e)
 refine wpP.mono (h s.heap.objs.size h₁ ⟨hns,hk₁,TA _⟩ News.nil B₂ X T') (fun fl s' hl=>?_) fun Z Z y=>y
 refine y8 hl fun L' m' F' k=>?_;clear hl
 exact k F'.keep
end
end Mine
end
section
open PySem PySem.W PySem.Calls PyProof.Rows PySem.Spec
namespace Mine
section
variable{prog:UF}{w:Va}{A:UP}{E:UX->UO->Prop}{s:UO}{env:Vn}{h₀:Vg}{x:Vk}{body:List Stmt}{Q:Flow->UO->Prop}
theorem LC{r:Vf}{C4 Aa st:Int}{DV DU DT:Vm}{n:Nat}{m₀:Vk->Option UX}{news:List (Vf×Vl)}
  (xs:List Vk)(R:Nat->(Vk->Option UX)->List (Vf×Vl)->Prop)(hh:A.handled=none)(hr:IsRange s.heap r C4 Aa st DV DU DT)(hsmall:QH C4 Aa st=true)(hn:Qe C4 Aa st=(n:Int))
  (F:Fr h₀ env.locals s.heap m₀)(N:News h₀ env.locals s.heap news)(hR:R 0 m₀ news)
  (turn:∀(i:Nat) t u nx h tk own,i<n->OwnOff own (nx.map (·.1))->R i u nx->Fr h₀ env.locals h (fun y=>if y=x then some (.int (C4+(i:Int)*st) t) else pick xs u m₀ y)->News h₀ env.locals h (nx++own)->
   UY (UZ prog w) A (Ve body env) (InvPostG h₀ env.locals (fun m nx'=>O4 xs m m₀/\R (i+1) m nx') own {s with heap:=h,toks:=tk} Q) E {s with heap:=h,toks:=tk})
  (done:∀u nx h tk,R n u nx->Fr h₀ env.locals h (pick xs u m₀)->News h₀ env.locals h nx->Q .next {s with heap:=h,toks:=tk}):
  UY (UZ prog w) A (UU (.ref r)) (fun it s₂=>LoopAtV prog w A h₀ env x body Q E it s₂) E s:=by
 refine Ra hr hsmall ?_
 have W:Walks prog w A s.heap.objs.size [s.heap.objs.size] [s.heap.objs.size] n (fun i v=>i<n/\∃t,v= .int (C4+i*st) t)
   (fun i h=>TK h s.heap.objs.size (C4+(i:Nat)*st) ((n:Int)-(i:Nat)) st):=(Walks.range hh _ C4 st n).bound
 refine LQ xs R W (.head _) (fun i h q=>⟨_,q⟩) ?_ (TL F) (fun p hp=>Tb (Tc (N p hp).1)) (by show TK _ _ _ _ _;rw[hn];simpa using QD _ rfl) (F.push _) (fun p hp=>⟨Qj _ (N p hp).1,(N p hp).2⟩) hR (fun b hb=> .inl (QQ.mp hb)) ?_ done
 ·intro hm
  exact absurd F.ns.lt ((QQ.mp hm) ▸ SK _)
 ·(intro i v u nx h tk own hi r0_;(refine oAE r0_ fun Z t o0_=>?_;clear r0_;obtain rfl:=o0_);intro ho hr' F' N')
  exact turn i t u nx h tk own hi ho hr' F' N'
end
end Mine
end
section
open PySem PySem.W PySem.Calls PyProof.Rows PySem.Spec Builtin
namespace Mine
theorem BV:Slot "bytearray" "__setitem__" "bytearray.__setitem__":=
 .of (owner:="bytearray") (n:="__setitem__") (by rw[RU,Qm];kernel_rfl) (by decide+kernel) (by decide+kernel) (by decide+kernel)
  (by first|exact .inl (by decide+kernel)|exact .inr (by decide+kernel)) (by rw[Sv];kernel_rfl)
theorem EQ:UC table "bytearray.__setitem__"=some UE.«bytearray.__setitem__»:=by first|exact RQ (by kernel_rfl)|exact RL (by kernel_rfl)
theorem FO(a b c:UX):UW "bytearray.__setitem__" ⟨[a,b,c],[]⟩:=by
 unfold UW;first|kernel_rfl|rfl
section
variable{prog:UF}{w:Va}{A:UP}{E:UX->UO->Prop}{s:UO}{S:Vf}{b:Array UInt8}
end
namespace Au
noncomputable def T(prog:UF)(w:Va)(A:UP)(E:UX->UO->Prop)(s:UO)(S:Vf)(b:Array UInt8)(k:Int)(x:Int)(t:Vm)(u:Vm)(Q:UX->UO->Prop):Prop:=∀(hS:s.heap.get? S=some (C3 b))(h0:0<=k)(h1:k<b.size)(hx:0<=x/\x<256)(hz:b.size<=Ux)(h:∀h',h'.get? S=some (C3 (b.setIfInBounds k.toNat x.toNat.toUInt8))->To S s.heap h'->Q .none {s with heap:=h'}),UY (UZ prog w) A (UE.«bytearray.__setitem__» ⟨[.ref S, .int k t, .int x u],[]⟩) (fun fin s'=>∃v,fin= .done (.ret v)/\Q v s') E s
noncomputable def P9:=V4 fun prog w A E=>V4 fun s S b k=>U4 fun x t u Q=>T prog w A E s S b k x t u Q
@[irreducible] noncomputable def c9:=y6 (by k_extra "ne") P9
@[irreducible] noncomputable def prog:=c9.1.1
@[irreducible] noncomputable def w:=c9.1.2.1
@[irreducible] noncomputable def A:=c9.1.2.2.1
@[irreducible] noncomputable def E:=c9.1.2.2.2
@[irreducible] noncomputable def s:=c9.2.1.1
@[irreducible] noncomputable def S:=c9.2.1.2.1
@[irreducible] noncomputable def b:=c9.2.1.2.2.1
@[irreducible] noncomputable def k:=c9.2.1.2.2.2
@[irreducible] noncomputable def x:=c9.2.2.1
@[irreducible] noncomputable def t:=c9.2.2.2.1
@[irreducible] noncomputable def u:=c9.2.2.2.2.1
@[irreducible] noncomputable def Q:=c9.2.2.2.2.2
theorem walk:T prog w A E s S b k x t u Q:=by
 intro hS h0 h1 hx hz h
 have hI:s.TypeIs (.int k t) "int":=rfl
 unfold UE.«bytearray.__setitem__»
 dsimp only
 refine TQ ?_
 unfold Bytes.subscript?
 refine TQ ?_
 have e3:specialOf (.int k t) (Ta "__index__")=pure (some (.builtin "int.__index__")):=F.slot_int_index.lookup
 rw[e3]
 refine TR ?_
 have e4:¬((some (UX.builtin "int.__index__")).isNone=true):=by decide
 rw[if_neg e4]
 have e2:asIndex (.int k t)=pure k:=rfl
 rw[e2]
 refine TQ ?_
 refine TR ?_
 rw[Tz] at hz
 have c1:(!Bytes.fitsIndex k)=false:=by
  unfold Bytes.fitsIndex
  simp only[Bool.not_eq_false',RO,decide_eq_true_eq]
  omega
 rw[c1,if_neg QT]
 refine TR ?_
 dsimp only
 refine TQ ?_
 unfold Bytes.byteValue
 have e5:asIndex (.int x u)=pure x:=rfl
 rw[e5]
 refine TQ ?_
 refine TR ?_
 have c2:(decide (x<0) || decide (x>=256))=false:=by
  simp only[Bool.or_eq_false_iff,decide_eq_false_iff_not];omega
 rw[c2,if_neg QT]
 refine TR ?_
 refine TQ ?_
 unfold Bytes.payload Bytes.payload?
 refine TQ ?_
 refine TQ ?_
 refine Uk hS ?_
 refine TR ?_
 refine TR ?_
 have c3:seqIndex? k b.size=some k.toNat:=by
  unfold seqIndex?
  have c4:¬k<0:=by omega
  simp only[c4,if_false]
  rw[if_pos]
  simp only[RO,decide_eq_true_eq];omega
 rw[c3]
 dsimp only
 refine TQ ?_
 refine Lp hS (fun h2 hS2 hs2=>?_) (by rw[Array.size_setIfInBounds,Tz];exact hz)
 exact TR (iEA _ rfl (h h2 hS2 hs2))
end Au
section
variable{prog:UF}{w:Va}{A:UP}{E:UX->UO->Prop}{s:UO}{S:Vf}{b:Array UInt8}
theorem NH{prog w A E s S b k x t u Q}:Au.T prog w A E s S b k x t u Q:=f7 (P:=Au.P9) (c:=Au.c9) (by with_unfolding_all rfl) (by with_unfolding_all exact Au.walk) ((prog,w,A,E),(s,S,b,k),(x,t,u,Q))
theorem GS{k x:Int}{t u:Vm}{Q:Unit->UO->Prop}(hS:s.heap.get? S=some (C3 b))(h0:0<=k)(h1:k<b.size)(hx:0<=x/\x<256)(hz:b.size<=Ux)
  (h:∀h',h'.get? S=some (C3 (b.setIfInBounds k.toNat x.toNat.toUInt8))->To S s.heap h'->Q () {s with heap:=h'}):
  UY (UZ prog w) A (setItem (.ref S) (.int k t) (.int x u)) Q E s:=by
 have hT:s.TypeIs (.ref S) "bytearray":=(iEA _ hS rfl)
 unfold setItem
 refine SM ?_
 refine TQ (wpAny_sequenceKey hT (by decide) ?_)
 refine TQ (Qf (name:=Ta "__setitem__") hT BV
  (RH BV hT EQ (NH hS h0 h1 hx hz fun h2 hS2 hs2=>?_) (FO _ _ _)))
 exact TR (h h2 hS2 hs2)
end
end Mine
end
section
open PySem PySem.W PySem.Calls PyProof.Rows PySem.Spec Builtin
namespace Mine
theorem FN:TX (.type "bytearray") "__bytes__"=pure none:=by rw[RU,Qm];kernel_rfl
theorem FM:TX (.type "bytearray") "__index__"=pure none:=by rw[RU,Qm];kernel_rfl
theorem BW:TX (.type "bytearray") (Ta "__buffer__")=pure (some (.builtin "bytearray.__buffer__")):=by rw[RU,Qm];kernel_rfl
section
variable{prog:UF}{w:Va}{A:UP}{E:UX->UO->Prop}{s:UO}{S:Vf}{b:Array UInt8}
theorem ES{Q:UX->UO->Prop}(hS:s.heap.get? S=some (C3 b))(hz:b.size<=Ux)
  (hQ:∀t k,Q (.bytes b t) {s with toks:=k}):
  UI (UZ prog w) A (.call (.builtin "bytes.__new__") ⟨[.type "bytes", .ref S],[]⟩) (wants Q E) s:=by
 refine Sk ?_
 show UY _ A.in1 (do RJ "bytes.__new__" ⟨[.type "bytes", .ref S],[]⟩;again (.builtin "bytes.__new__" ⟨[.type "bytes", .ref S],[]⟩)) _ _ s
 refine TQ (TB (F.bm_newCall _) (TR ⟨SQ F.bm_plain _,Sg F.bm_entry ?_⟩))
 rw[Qw F.bm_plain _]
 have hT:s.TypeIs (.ref S) "bytearray":=(iEA _ hS rfl)
 unfold UE.«bytes.__new__»
 refine TQ (TB (a:=true) rfl ?_)
 refine Rj rfl ?_
 refine TQ (TB F.bm_sub ?_)
 refine Rj rfl ?_
 refine TQ (TB (F.bm_bind _) ?_)
 refine TQ (TB (a:=()) rfl ?_)
 refine TQ (TB (a:=()) rfl ?_)
 refine Rj rfl ?_
 refine TQ (RY hT FN ?_)
 refine TQ (TQ ?_)
 show UY _ _ (load S>>=_) _ _ _
 refine TQ (Uk hS ?_)
 dsimp only
 refine TR (TR ?_)
 refine Rj rfl ?_
 refine TQ (RY hT FM ?_)
 refine PySem.bm_if_true rfl ?_
 k_delta "fromObject"
 refine TQ ?_
 unfold Bytes.buffer?
 refine TQ (RY hT BW ?_)
 dsimp only
 have hown:∀(A:UP)(E':UX->UO->Prop)(Q':Bool->UO->Prop),Q' true s->UY (UZ prog w) A (Bytes.slotIsOwn (.ref S) "__buffer__") Q' E' s:=by
  intro A E' Q' hq
  unfold Bytes.slotIsOwn
  refine TQ (RY hT BW ?_)
  dsimp only
  refine Rj (by decide+kernel) ?_
  refine RI (T:="bytearray") (b:=true) hT ?_ hq
  rw[show("bytearray.__buffer__".dropRight ("__buffer__".length+1))="bytearray" by decide+kernel]
  exact GD
 refine TQ ?_
 refine hown _ _ _ ?_
 rw[if_neg (by decide)]
 refine TQ (RY hT BW ?_)
 refine TQ ?_
 refine Lg hS ?_
 rw[if_neg QT]
 refine TQ ?_
 unfold Bytes.payload Bytes.payload?
 refine TQ ?_
 refine TQ ?_
 refine Uk hS ?_
 refine TR ?_
 refine TR ?_
 refine TR ?_
 refine TQ ?_
 refine Ud ?_
 refine TQ ?_
 refine wpAny_mkBytes ?_ hz
 k_delta "made"
 show UY _ _ (if(Ua "bytes" == Ua "bytes")=true then _ else _) _ _ _
 refine PySem.bm_if_true (by decide) ?_
 exact TR (hQ _ _)
theorem DI{Q:UX->UO->Prop}(hS:s.heap.get? S=some (C3 b))(hz:b.size<=Ux)
  (hQ:∀t k,Q (.bytes b t) {s with toks:=k}):UY (UZ prog w) A (call (.type "bytes") [.ref S]) Q E s:=by
 refine callType_codes (Q₁:=fun obj s₁=>s₁.TypeIs obj "bytes"/\Q obj s₁) F.bm_called (F.bm_typeCall _) F.entry_object_init
  (ES hS hz fun t k=>⟨PySem.W.typeIs_bytes _ _ _,hQ t k⟩) fun obj s₁ h₁=>?_
 exact(iAA h₁.1 (F.args_object_init_2 obj _) (object_init_meets F.bm_called.init.lookup F.bm_called.made (by decide) prog w A.in1 _ s₁ (iAA h₁.1 rfl h₁.2)))
end
end Mine
end
section
open PySem PySem.W PySem.Calls PyProof.Rows PySem.Spec Builtin
namespace Mine
section
variable{prog:UF}{w:Va}{A:UP}{E:UX->UO->Prop}{s:UO}{S L:Vf}{b:Array UInt8}{h₀:Vg}{m:Vk->Option UX}{rest:List (Vf×Vl)}
theorem Fe{k x:Int}{t u:Vm}{Q:Unit->UO->Prop}(F:Fr h₀ L s.heap m)(N:News h₀ L s.heap ((S,C3 b)::rest))(hr:∀p∈rest,p.1≠S)(h0:0<=k)(h1:k<b.size)(hx:0<=x/\x<256)(hz:b.size<=Ux)
  (h:∀h',Fr h₀ L h' m->News h₀ L h' ((S,C3 (b.setIfInBounds k.toNat x.toNat.toUInt8))::rest)->Q () {s with heap:=h'}):
  UY (UZ prog w) A (setItem (.ref S) (.int k t) (.int x u)) Q E s:=by
 have nS:=N _ (.head _)
 refine GS nS.1 h0 h1 hx hz fun h' hS hs=>h h' ?_ (N.setHead hr hs hS)
 exact⟨F.ns.at' fun o e=>(hs.2 L (Ne.symm nS.2.1)).trans e,fun c o e=>(hs.2 c (fun q=>by have e9:=nS.2.2;dsimp only at e9;exact zg1 q.symm e9 e)).trans (F.keep c o e),F.above⟩
end
end Mine
end
section
open PySem PySem.W PySem.Calls PyProof.Rows
namespace Mine
theorem S.gBs:True:=trivial
open S (sK0 gBs)
theorem Pu:True:=by
 k_with "subscriptTail"=>(guard_expr gBs=ₛ gBs;refine subscriptTail_builtin (Tp _ _ _) FB.slot_bytes_getitem.lookup (getItem_bytes (by k_extra "len") (by k_extra "lo") (by k_extra "hi") ?_))
 trivial
theorem MS{h₀ h:Vg}{L S:Vf}{o:Vl}{r:List (Vf×Vl)}(N:News h₀ L h ((S,o)::r)):h.get? S=some o:=(N _ (.head _)).1
noncomputable def swJ(l:List UInt8)(wd i m:Nat)(b:Array UInt8):Array UInt8:=(TS m).foldl (fun b j=>b.setIfInBounds (i+wd-1-j) (l.getD (i+j) 0)) b
noncomputable def swA(l:List UInt8)(wd n:Nat):Array UInt8:=(TS n).foldl (fun b k=>swJ l wd (k*wd) wd b) (Array.replicate l.length 0)
noncomputable def CS(l:List UInt8)(wd:Nat):Array UInt8:=swA l wd 2
theorem Gc(l:List UInt8)(wd i m:Nat)(b:Array UInt8):swJ l wd i (m+1) b=(swJ l wd i m b).setIfInBounds (i+wd-1-m) (l.getD (i+m) 0):=by simp[swJ,Sa]
theorem Gd(l:List UInt8)(wd n:Nat):swA l wd (n+1)=swJ l wd (n*wd) wd (swA l wd n):=by simp[swA,Sa]
theorem CY(l:List UInt8)(wd i m:Nat)(b:Array UInt8):(swJ l wd i m b).size=b.size:=by
 induction m with
 |zero=>rfl
 |succ m ih=>rw[Gc,Array.size_setIfInBounds,ih]
theorem CZ(l:List UInt8)(wd n:Nat):(swA l wd n).size=l.length:=by
 induction n with
 |zero=>simp[swA]
 |succ n ih=>rw[Gd,CY,ih]
theorem ML(wd:Nat)(h:0<wd):Qe 0 ((2*wd:Nat):Int) (wd:Int)=((2:Nat):Int):=by
 unfold Qe
 rw[if_pos (by lia),if_pos (by lia)]
 have:(((2*wd:Nat):Int)-0-1) / (wd:Int)=1:=by
  have e:(((2*wd:Nat):Int)-0-1)=((wd:Int)-1)+1*(wd:Int):=by lia
  rw[e,Int.add_mul_ediv_right _ _ (by lia),Int.ediv_eq_zero_of_lt (by lia) (by lia)];rfl
 rw[this];rfl
theorem e8l{x w j:Nat}(hj:j<w):((0:Int)+(x:Int)+(w:Int)-1-(0+(j:Int))).toNat=x+w-1-j:=by
 have h1:1<=x+w:=Td (Nat.succ_le_of_lt (QS (TC j) hj)) (Nat.le_add_left w x)
 have h2:j<=x+w-1:=Nat.le_sub_one_of_lt (QR hj (Nat.le_add_left w x))
 rw[Th,Th, ←Int.natCast_add]
 show(((x+w:Nat):Int)-((1:Nat):Int)-(j:Int)).toNat=_
 rw[←Int.natCast_sub h1, ←Int.natCast_sub h2];rfl
theorem HT(wd:Nat)(h:0<wd)(h1:wd<=100):QH 0 ((2*wd:Nat):Int) (wd:Int)=true:=by
 exact(by decide+kernel:∀wd:Nat,wd<101->0<wd->QH 0 ((2*wd:Nat):Int) (wd:Int)=true) wd (Rw h1) h
theorem Kq{prog:UF}{w:Va}{A:UP}{E:UX->UO->Prop}{s:UO}{n:Nat}{t:Vm}{Q:UX->UO->Prop}{S:Vf}(hS:s.heap.objs.size=S)(hg:A.guards=some [])(h0:0<n)(hn:n<=1000)
  (h:∀h',h'.get? S=some (C3 (Array.replicate n 0))->(∀b o,s.heap.get? b=some o->h'.get? b=some o)->Q (.ref S) {s with heap:=h'}):
  wpP (UZ prog w) A (call (.type "bytearray") [.int n t]) Q E s:=by
 subst hS;exact Mp hg h0 hn h
section
variable{w:Va}{loose:List Vk}{mean:UH->Option UX}{mg mb:Vk->Option UX}
end
namespace T2
noncomputable def T(w:Va)(loose:List Vk)(mean:UH->Option UX)(mg:Vk->Option UX)(mb:Vk->Option UX)(l:List UInt8)(wd:Nat)(t:Vm)(t2:Vm)(dp:Nat)(un:Nat)(cn:Vk)(cs:Vb)(a:Vf)(ccd:UX)(cl:List (Prod Vk Vf))(outer:List Vn)(A₀:UP)(base:Vg)(h₀:Vg)(L:Vf)(m:Vk->Option UX)(s:UO)(Q:UX->UO->Prop)(E:UX->UO->Prop):Prop:=Vd A₀ base outer h₀->Fr h₀ L s.heap m->(_root_.Mine.Sh.hd.heap_39 w.params).In h₀->Top UN loose mean mg mb h₀->h₀.NoSeer->cs.kind= .function->
  dp+3<Su->un+8*3<cLine->(0<wd/\wd<=100/\l.length=2*wd)->
  (∀h' tk' k,DW s.heap h'->Q (.bytes (CS l wd) k) {s with heap:=h',toks:=tk'})->
  wpP (UZ PR w) (ktrTop dp un (some []) cn cs L a ccd cl outer) (call (.ref 179) [.bytes l.toArray t, .int wd t2]) Q E s
noncomputable def P9:=V4 fun w loose mean mg=>V4 fun mb l wd t=>V4 fun t2 dp un cn=>V4 fun cs a ccd cl=>V4 fun outer A₀ base h₀=>V4 fun L m s Q=>fun E=>T w loose mean mg mb l wd t t2 dp un cn cs a ccd cl outer A₀ base h₀ L m s Q E
@[irreducible] noncomputable def c9:=y6 (by k_extra "ne") P9
@[irreducible] noncomputable def w:=c9.1.1
@[irreducible] noncomputable def loose:=c9.1.2.1
@[irreducible] noncomputable def mean:=c9.1.2.2.1
@[irreducible] noncomputable def mg:=c9.1.2.2.2
@[irreducible] noncomputable def mb:=c9.2.1.1
@[irreducible] noncomputable def l:=c9.2.1.2.1
@[irreducible] noncomputable def wd:=c9.2.1.2.2.1
@[irreducible] noncomputable def t:=c9.2.1.2.2.2
@[irreducible] noncomputable def t2:=c9.2.2.1.1
@[irreducible] noncomputable def dp:=c9.2.2.1.2.1
@[irreducible] noncomputable def un:=c9.2.2.1.2.2.1
@[irreducible] noncomputable def cn:=c9.2.2.1.2.2.2
@[irreducible] noncomputable def cs:=c9.2.2.2.1.1
@[irreducible] noncomputable def a:=c9.2.2.2.1.2.1
@[irreducible] noncomputable def ccd:=c9.2.2.2.1.2.2.1
@[irreducible] noncomputable def cl:=c9.2.2.2.1.2.2.2
@[irreducible] noncomputable def outer:=c9.2.2.2.2.1.1
@[irreducible] noncomputable def A₀:=c9.2.2.2.2.1.2.1
@[irreducible] noncomputable def base:=c9.2.2.2.2.1.2.2.1
@[irreducible] noncomputable def h₀:=c9.2.2.2.2.1.2.2.2
@[irreducible] noncomputable def L:=c9.2.2.2.2.2.1.1
@[irreducible] noncomputable def m:=c9.2.2.2.2.2.1.2.1
@[irreducible] noncomputable def s:=c9.2.2.2.2.2.1.2.2.1
@[irreducible] noncomputable def Q:=c9.2.2.2.2.2.1.2.2.2
@[irreducible] noncomputable def E:=c9.2.2.2.2.2.2
theorem walk:T w loose mean mg mb l wd t t2 dp un cn cs a ccd cl outer A₀ base h₀ L m s Q E:=by
 unfold T
 unfold PR
 k_fill
 intro B F X T Se hk hd hu hpre hret
 refine oAA hpre fun hw0 hw1 hsz=>?_;clear hpre
 refine wpP.call ?_
 k_dflt (refine' Nq (binds:=[(Ta "data", .bytes l.toArray t),(Ta "width", .int wd t2)]) ?k1 ?k2 ?k3 ?k5 ?kA ?kF ?kK ?k6 ?k7 ?k8 ?k9 ?kB ?_ ?c2 ?c3 ?c4 ?c5;(case kA=>exact rfl);(case kF=>exact rfl);(case kK=>assumption);(case k1=>k_asm);(case k2=>k_asm);(case k3=>k_asm);(case k5=>k_asm);(case k6=>k_is);(case k7=>k_is);(case k8=>ktr_room);(case k9=>exact SL rfl);(case c5=>decide);(case kB=>exact locs rfl);(case c2=>exact rfl);(case c3=>exact rfl);(case c4=>exact rfl);k_whole;intro L' h' F' N' B' X' T';have Se':=Qc Se (Fr.keep F);(try dsimp only);(try k_lift B');(try k_fold))
 refine Cu (Fj (MP ?_))
 k_steps
 refine GX ?_
 k_steps
 rename Fr _ _ _ _=>F2
 rename News _ _ _ _=>N2
 obtain⟨S,hS⟩:∃S,h'.objs.size=S:=⟨_,rfl⟩
 refine Kq hS rfl (by simp;lia) (by simp;lia) fun h3 hb3 hk3=>?_
 have F3:=X2 F2 hk3
 have hb3':h3.get? S=some (C3 (swA l wd 0)):=by rw[hb3];simp[swA]
 have hle:({s with heap:=h',toks:=0}:UO).heap.objs.size<=S:=Tn hS
 have N3:News s.heap L' h3 [(S,C3 (swA l wd 0))]:=fun p hp=>by rw[QQ.mp hp];exact Cy F2 hle hb3'
 refine wpP.of ?_
 k_steps
 refine wpP.of (wpAny_noRaise ?_)
 k_steps
 unfold g9
 rename IsRange _ _ _ _ _ _ _ _=>R4
 rename News _ _ _ _=>N4
 rename Fr _ _ _ _=>F4
 refine LC (n:=2) [Ta "i",Ta "j"] (fun i u nx=>nx=[(S,C3 (swA l wd i))]) rfl R4 ?small ?size F4 N4 rfl ?turn ?done
 case small=>rw[Rp,hsz];exact HT wd hw0 hw1
 case size=>rw[Rp,hsz];exact ML wd hw0
 case turn=>
  rintro i t9 u9 nx h9 tk9 own hi9 ho rfl F8 N8
  simp only[pick,RG,Sb] at F8 N8
  k_steps
  unfold g9
  rename IsRange _ _ _ _ _ _ _ _=>R5
  rename News _ _ _ _=>N5
  rename Fr _ _ _ _=>F5
  refine KL (n:=wd) [Ta "j"] (fun j u nx=>nx=(S,C3 (swJ l wd (i*wd) j (swA l wd i)))::own) rfl R5 (small_one (by lia) (by lia) (by lia) (by lia)) (rangeSize_nat _ _) F5 N5 rfl ?turn2 ?done2
  case turn2=>
   rintro j t7 u7 nx7 h7 tk7 own7 hj7 ho7 rfl F7 N7
   simp only[pick,RG,Sb] at F7 N7
   have hw2:(0:Int)<=(i:Int)*(wd:Int)/\(i:Int)*(wd:Int)+wd<=2*wd:=by
    rcases(show i=0\/i=1 by lia) with rfl|rfl <;> constructor <;> simp <;> lia
   k_with "len"=>lia
   k_with "lo"=>lia
   k_with "hi"=>lia
   k_steps
   rename Fr _ _ _ _=>F6
   rename News _ _ _ _=>N6
   refine Fe F6 N6 ?apart ?lo ?hi ?byte ?size fun h6 G6 M6=>?_
   case lo=>lia
   case hi=>simp only[CY,CZ];lia
   case byte=>exact⟨QV _,by have:=UInt8.toNat_lt (l.getD (0+(i:Int)*(wd:Int)+(0+(j:Int))).toNat 0);lia⟩
   case size=>simp only[CY,CZ,Tz];lia
   case apart=>
    intro p hp
    rcases RS.1 hp with hp|hp
    ·exact ho p hp S (.head _)
    ·exact ho7 p hp S (.head _)
   k_steps
   have e8:(0+(i:Int)*(wd:Int)+wd-1-(0+(j:Int))).toNat=i*wd+wd-1-j:=by rw[←Int.natCast_mul];exact e8l ‹_›
   have e9:(0+(i:Int)*(wd:Int)+(0+(j:Int))).toNat=i*wd+j:=by rw[Th,Th, ←Int.natCast_mul, ←Int.natCast_add];rfl
   rw[e8,e9] at M6
   have eb:(swJ l wd (i*wd) j (swA l wd i)).setIfInBounds (i*wd+wd-1-j) ((((l.getD (i*wd+j) 0).toNat:Nat):Int).toNat.toUInt8)=swJ l wd (i*wd) (j+1) (swA l wd i):=by
    rw[Gc];congr 1;rw[Rz];exact UInt8.ofNat_toNat
   rw[eb] at M6
   refine SY (nx:=(S,C3 (swJ l wd (i*wd) (j+1) (swA l wd i)))::own) G6 M6 ⟨?same7,rfl⟩ ho7 (fun p hp=>by rcases SH.1 hp with h|h;exact h ▸ .head _;exact .tail _ (List.mem_append_left _ h)) (fun p hp=> .tail _ (List.mem_append_right _ hp))
   case same7=>intro y hy;simp only[SH,RE,or_false] at hy;simp only[hy,if_false]
  case done2=>
   rintro u7 nx7 h7 tk7 rfl F7 N7
   simp only[pick] at F7
   k_steps
   rw[←Gd] at N7
   refine SY (nx:=[(S,C3 (swA l wd (i+1)))]) F7 N7 ⟨?same8,rfl⟩ ho (fun p hp=>by rw[QQ.1 hp];exact .head _) (fun p hp=> .tail _ hp)
   case same8=>intro y hy;simp only[SH,RE,or_false,not_or] at hy;simp only[hy.1,hy.2,if_false]
 case done=>
  rintro u11 nx11 h11 tk11 rfl F11 N11
  simp only[pick] at F11
  k_steps
  rename News _ _ _ _=>N6
  refine DI (MS N6) (by rw[CZ,Tz];lia) fun k7 tk7=>?_
  k_steps
  refine Lv.intro F11 ?_;intro kp;exact hret _ _ _ kp
end T2
section
variable{w:Va}{loose:List Vk}{mean:UH->Option UX}{mg mb:Vk->Option UX}
theorem Kr{w loose mean mg mb}(l)(wd)(t)(t2):∀dp un cn cs a ccd cl outer A₀ base h₀ L m s Q E,T2.T w loose mean mg mb l wd t t2 dp un cn cs a ccd cl outer A₀ base h₀ L m s Q E:=fun dp un cn cs a ccd cl outer A₀ base h₀ L m s Q E=>f7 (P:=T2.P9) (c:=T2.c9) (by with_unfolding_all rfl) (by with_unfolding_all exact T2.walk) ((w,loose,mean,mg),(mb,l,wd,t),(t2,dp,un,cn),(cs,a,ccd,cl),(outer,A₀,base,h₀),(L,m,s,Q),E)
end
end Mine
end
section
open PySem PySem.W PySem.Calls PyProof.Rows PySem.Spec
namespace Mine
section
variable{prog:UF}{w:Va}{A:UP}{E:UX->UO->Prop}{env:Vn}{s:UO}{h₀:Vg}{L:Vf}{m:Vk->Option UX}{news:List (Vf×Vl)}
 {scope:Vb} {cl:List (Vk×Vf)} {ifs:List Vh} {elt:Vh} {fin:UO->(Vk->Option UX)->List (Vf×Vl)->Vf->List UX->Nat->Vg->Nat->Prop}
theorem Jf{ax:Vf}{vs:List UX}{x:Vk}{px:Pos}(G:Nat->Vg->Vg->UX->Prop)(hh:A.handled=none)(hl:s.heap.IsList ax vs.toArray)(hsz:vs.length<=Ux)
  (hx:scope.names.lookup x=some .local)(hkind:scope.kind= .function)(F:Fr h₀ L s.heap m)(N:News h₀ L s.heap news)(hax:ax≠L)
  (elts:∀i v C oC u H tk rest E',vs[i]? =some v->NsO oC u->u x=some v->Fr h₀ L H m->News h₀ L H ((C,oC)::(news++rest))->
   wpP (UZ prog w) A (Vi elt (Uw scope cl C env)) (j3 h₀ L m rest (G i H) {s with heap:=H,toks:=tk}) E' {s with heap:=H,toks:=tk})
  (hfin:∀(s₂:UO),(∃h tk,s₂={s with heap:=h,toks:=tk})->∀D ys k h' tk,Fr h₀ L h' m->News h₀ L h' ((D,listOf ys.toArray k)::news)->(∀q∈news,q.1≠D)->Paired (fun j y=>∃hb ha,G j hb ha y/\C5 hb ha h') (TS vs.length) ys->fin s₂ m news D ys k h' tk):
  UY (UZ prog w) A (UU (.ref ax)) (fun it s₂=>Y9 true prog w A env scope cl (.Name x px) [] elt h₀ L it s₂ (fin s₂)) E s:=
 Bq (fun Z=>true) G hh hl hsz hx hkind F N hax (fun Z Z Z Z Z Z Z Z Z Z Z Z Z F N=>z8 (p9.intro F N (fun p hp=> .tail _ (RS.mpr (.inr hp))) rfl))
  (fun i v C oC u H tk rest E' Z hv Z hO hu F' N'=>elts i v C oC u H tk rest E' hv hO hu F' N') fun s₂ hs D ys k h' tk F' N' O P=>hfin s₂ hs D ys k h' tk F' N' O (by rw[s7] at P;exact P)
end
end Mine
end
section
open PySem PySem.W PySem.Calls PyProof.Rows PySem.Spec
namespace Mine
open PySem.Sre (M Outcome)
noncomputable def cA:Array Nat:= #[14,4,0,1,1,6,1,16,46,1]
noncomputable def atA(t:Array Nat)(n s:Nat)(first:Bool)(pc pos handed:Nat)(seen:UB):M:=
 {code:=cA,text:=t,lim:=n,start:=s,lastStart:=n,pc:=pc,pos:=pos,handed:=handed,outermost:=first,marks:= #[],
  frames:=[{wait:= .nextStart,pc:=5,pos:=s,outermost:=first}],weight:=1,seen:=seen}
theorem B4{m:M}(h:m.outcome.isSome=true)(n:Nat):m.runFor n=m:=by
 cases n with
 |zero=>rfl
 |succ n=>simp only[M.runFor,h,if_true]
theorem Fd{m:M}(h:m.outcome.isSome=true):m.step=m:=by simp only[M.step,h,if_true]
theorem Y5(m:M)(n:Nat):m.runFor (n+1)=m.step.runFor n:=by
 by_cases h:m.outcome.isSome=true
 ·rw[B4 h,Fd h,B4 h]
 ·simp only[M.runFor,h];rfl
theorem X1(m:M)(a b:Nat):m.runFor (a+b)=(m.runFor a).runFor b:=by
 induction a generalizing m with
 |zero=>rw[Nat.zero_add];rfl
 |succ a ih=>rw[Nat.succ_add,Y5,Y5,ih]
noncomputable def j9(t:Array Nat)(s:Nat):Bool:=s == 0 || t.getD (s-1) 0 == 10
theorem KG(t:Array Nat)(n s:Nat)(first:Bool)(handed:Nat)(seen:UB):
  (atA t n s first 5 s handed seen).step=if j9 t s then atA t n s first 7 s handed ((seen.add 6).add 44) else{atA t n s first 5 s handed ((seen.add 6).add 44) with answer:=some false}:=rfl
theorem opsAt(k:Nat)(o:Sre.Op)(h:Sre.ops.toList[k]? =some o):Sre.ops[k]? =some o:=by simpa using h
theorem KF(t:Array Nat)(n s:Nat)(first:Bool)(handed:Nat)(seen:UB):
  (atA t n s first 7 s handed seen).step=if s>=n then{atA t n s first 7 s handed (seen.add 16) with answer:=some false} else
   if t.getD s 0 == 46 then atA t n s first 9 (s+1) handed (seen.add 16) else{atA t n s first 7 s handed (seen.add 16) with answer:=some false}:=by
 show(if s>=n then _ else _)=_
 split
 ·rfl
 ·cases h:t.getD s 0 == 46 with
  |true=>
   have e:Sre.accepts cA 7 (t.getD s 0) (seen.add 16)= .ok (true,seen.add 16):=by rw[←h];rfl
   show(match Sre.accepts cA 7 (t.getD s 0) (seen.add 16) with| .error _=>_| .ok (false,_)=>_| .ok (true,_)=>_)=_
   rw[e];rfl
  |false=>
   have e:Sre.accepts cA 7 (t.getD s 0) (seen.add 16)= .ok (false,seen.add 16):=by rw[←h];rfl
   show(match Sre.accepts cA 7 (t.getD s 0) (seen.add 16) with| .error _=>_| .ok (false,_)=>_| .ok (true,_)=>_)=_
   rw[e];rfl
theorem MH(t:Array Nat)(n s:Nat)(first:Bool)(handed:Nat)(seen:UB):
  (atA t n s first 9 (s+1) handed seen).step={atA t n s first 9 (s+1) (s+1) (seen.add 1) with answer:=some true}:=by cases first <;> rfl
noncomputable def j4(m:M)(N:Nat)(r:Option (Nat×Nat)):Prop:=
 ∃k,k<=N/\match r with
  |none=>(m.runFor k).outcome=some .failed
  |some (a,b)=>(m.runFor k).outcome=some .matched/\(m.runFor k).start=a/\(m.runFor k).handed=b
theorem j4.step{m:M}{N:Nat}{r:Option (Nat×Nat)}(h:j4 m.step N r):j4 m (N+1) r:=by
 refine oEA h fun k hk h=>?_
 refine(iEA (k+1) (by lia) ?_)
 rw[Y5];exact h
theorem j4.mono{m:M}{N N':Nat}{r:Option (Nat×Nat)}(h:j4 m N r)(e:N<=N'):j4 m N' r:=by
 refine oEA h fun k hk h=>?_
 exact(iEA k (by lia) h)
theorem IW(t:Array Nat)(n s:Nat)(first:Bool)(pc pos handed:Nat)(seen:UB):
  j4 {atA t n s first pc pos handed seen with answer:=some true} 2 (some (s,handed)):=(BO 2 (by lia) rfl rfl rfl)
theorem Ku(t:Array Nat)(n s:Nat)(first:Bool)(pc pos handed:Nat)(seen:UB):
  M.step {atA t n s first pc pos handed seen with answer:=some false}=
   if s<n then atA t n (s+1) false 5 (s+1) (s+1) seen else{atA t n s first 5 s handed seen with answer:=some false,frames:=[],weight:=0}:=rfl
theorem CI(t:Array Nat)(n s:Nat)(first:Bool)(pc pos handed:Nat)(seen:UB):
  j4 {atA t n s first pc pos handed seen with answer:=some false,frames:=[],weight:=0} 1 none:=(iEA 1 (by lia) rfl)
noncomputable def BP(t:Array Nat):(k s:Nat)->Option Nat
 |0,_=>none
 |k+1,s=>if j9 t s && t.getD s 0 == 46 then some s else BP t k (s+1)
theorem runA(t:Array Nat)(n:Nat)(k:Nat):∀(s:Nat)(first:Bool)(seen:UB),s+k=n->j4 (atA t n s first 5 s s seen) (3*k+6) ((BP t k s).map fun a=>(a,a+1)):=by
 induction k with
 |zero=>
  intro s first seen hs
  have hlt:¬s<n:=by lia
  refine j4.step ?_
  rw[KG]
  split
  ·refine j4.step ?_
   rw[KF,if_pos (by lia)]
   refine j4.step ?_
   rw[Ku,if_neg hlt]
   exact(CI ..).mono (by lia)
  ·refine j4.step ?_
   rw[Ku,if_neg hlt]
   exact(CI ..).mono (by lia)
 |succ k ih=>
  intro s first seen hs
  have hlt:s<n:=by lia
  rw[BP]
  rw[show 3*(k+1)+6=(3*k+6)+3 by lia]
  refine j4.step ?_
  rw[KG]
  by_cases h1:j9 t s=true
  ·rw[if_pos h1]
   refine j4.step ?_
   rw[KF,if_neg (by lia)]
   by_cases h2:(t.getD s 0 == 46)=true
   ·rw[if_pos h2,h1,h2]
    refine j4.step ?_
    rw[MH]
    exact(IW ..).mono (by lia)
   ·rw[if_neg h2]
    have h3:(j9 t s && t.getD s 0 == 46)=false:=by rw[h1];simpa using h2
    rw[h3]
    refine j4.step ?_
    rw[Ku,if_pos hlt]
    exact ih _ _ _ (by lia)
  ·have h3:(j9 t s && t.getD s 0 == 46)=false:=by simp at h1;rw[h1];rfl
   rw[if_neg h1,h3]
   refine j4.step ?_
   rw[Ku,if_pos hlt]
   exact(ih _ _ _ (by lia)).mono (by lia)
theorem Lz(t:Array Nat)(pos:Nat)(h:pos<=t.size):j4 (SZ cA t 0 pos t.size false) (3*t.size+6) ((BP t (t.size-pos) pos).map fun a=>(a,a+1)):=by
 unfold SZ
 have e1:(Sre.header cA).1=1:=rfl
 by_cases hp:pos=t.size
 ·simp only[e1]
  rw[if_pos (by simp;exact se0 hp)]
  have:t.size-pos=0:=se2 hp
  rw[this]
  exact(iEA 1 (by lia) rfl)
 ·simp only[e1]
  rw[if_neg (by simp;exact se1 h hp)]
  have:=runA t t.size (t.size-pos) pos true (({}:UB).add 14) (by lia)
  exact this.mono (se4 pos t.size)
noncomputable def cB:Array Nat:= #[14,9,4,1,2,16,10,16,13,0,7,7,16,13,16,10,15,18,5,16,10,15,13,11,16,13,5,5,0,16,10,1,15,2,0,1]
noncomputable def F0(s:Nat)(first:Bool):Uu:={wait:= .nextStart,pc:=10,pos:=s,outermost:=first}
noncomputable def F1(s alt:Nat)(first:Bool):Uu:={wait:= .nextBranch,pc:=alt,pos:=s,outermost:=first}
noncomputable def F2(s:Nat)(first:Bool):Uu:={wait:= .lookNot,pc:=26,pos:=s+1,outermost:=first}
noncomputable def atB(t:Array Nat)(n s:Nat)(out:Bool)(pc pos handed:Nat)(fs:List Uu)(weight:Nat)(seen:UB):M:=
 {code:=cB,text:=t,lim:=n,start:=s,lastStart:=n,pc:=pc,pos:=pos,handed:=handed,outermost:=out,marks:= #[],frames:=fs,weight:=weight,seen:=seen}
section
variable(t:Array Nat)(n s:Nat)(first:Bool)(handed:Nat)(seen:UB)
theorem b1:(atB t n s first 10 s handed [F0 s first] 1 seen).step=atB t n s first 12 s s [F1 s 11 first,F0 s first] 2 (seen.add 7):=rfl
theorem MD(out:Bool)(pc pos:Nat)(c:Nat)(fs:List Uu)(weight:Nat)(hpc:pc=12/\c=13\/pc=14/\c=10\/pc=19/\c=10\/pc=24/\c=13\/pc=29/\c=10):
  (atB t n s out pc pos handed fs weight seen).step=if pos<n/\t.getD pos 0=c then atB t n s out (pc+2) (pos+1) handed fs weight (seen.add 16) else{atB t n s out pc pos handed fs weight (seen.add 16) with answer:=some false}:=by
 have key:∀pc c,(pc=12/\c=13\/pc=14/\c=10\/pc=19/\c=10\/pc=24/\c=13\/pc=29/\c=10)->∀b,(t.getD pos 0 == c)=b->Sre.accepts cB pc (t.getD pos 0) (seen.add 16)= .ok (b,seen.add 16):=by
  rintro pc c (⟨rfl,rfl⟩|⟨rfl,rfl⟩|⟨rfl,rfl⟩|⟨rfl,rfl⟩|⟨rfl,rfl⟩) b rfl <;> rfl
 have key:=key pc c hpc
 have go:(atB t n s out pc pos handed fs weight seen).step=if pos>=n then{atB t n s out pc pos handed fs weight (seen.add 16) with answer:=some false} else
   match Sre.accepts cB pc (t.getD pos 0) (seen.add 16) with
   | .error why=>(atB t n s out pc pos handed fs weight (seen.add 16)).stick why
   | .ok (false,seen)=>{atB t n s out pc pos handed fs weight seen with answer:=some false}
   | .ok (true,seen)=>atB t n s out (pc+2) (pos+1) handed fs weight seen:=by
  rcases hpc with⟨rfl,rfl⟩|⟨rfl,rfl⟩|⟨rfl,rfl⟩|⟨rfl,rfl⟩|⟨rfl,rfl⟩ <;> rfl
 rw[go]
 by_cases h:pos>=n
 ·rw[if_pos h,if_neg (by lia)]
 ·rw[if_neg h]
  cases hb:t.getD pos 0 == c with
  |true=>rw[key _ hb,if_pos ⟨by lia,by simpa using hb⟩]
  |false=>rw[key _ hb,if_neg (fun h=>by rw[h.2] at hb;simp at hb)]
theorem NM(out:Bool)(pos:Nat)(fs:List Uu)(weight:Nat):(atB t n s out 16 pos handed fs weight seen).step=atB t n s out 35 pos handed fs weight (seen.add 15):=rfl
theorem NL(out:Bool)(pos:Nat)(fs:List Uu)(weight:Nat):(atB t n s out 21 pos handed fs weight seen).step=atB t n s out 35 pos handed fs weight (seen.add 15):=rfl
theorem NK(out:Bool)(pos:Nat)(fs:List Uu)(weight:Nat):(atB t n s out 32 pos handed fs weight seen).step=atB t n s out 35 pos handed fs weight (seen.add 15):=rfl
theorem MA(out:Bool)(pos:Nat)(fs:List Uu)(weight:Nat):(atB t n s out 35 pos handed fs weight seen).step={atB t n s out 35 pos pos fs weight (seen.add 1) with answer:=some true}:=by cases out <;> rfl
theorem Pf(out:Bool)(pos:Nat)(alt:Nat):j4 {atB t n s out 35 pos handed [F1 s alt first,F0 s first] 2 seen with answer:=some true} 3 (some (s,handed)):=(BO 3 (by lia) rfl rfl rfl)
theorem Lh(out:Bool)(pc pos:Nat):M.step {atB t n s out pc pos handed [F1 s 11 first,F0 s first] 2 seen with answer:=some false}=atB t n s first 19 s s [F1 s 18 first,F0 s first] 2 seen:=rfl
theorem NJ(out:Bool)(pc pos:Nat):M.step {atB t n s out pc pos handed [F1 s 18 first,F0 s first] 2 seen with answer:=some false}=atB t n s first 24 s s [F1 s 23 first,F0 s first] 2 seen:=rfl
theorem Pe:(atB t n s first 26 (s+1) handed [F1 s 23 first,F0 s first] 2 seen).step=atB t n s false 29 (s+1) (s+1) [F2 s first,F1 s 23 first,F0 s first] 3 (seen.add 5):=rfl
theorem Mz(out:Bool)(pc pos:Nat):M.step {atB t n s out pc pos handed [F2 s first,F1 s 23 first,F0 s first] 3 seen with answer:=some false}=atB t n s first 32 (s+1) handed [F1 s 23 first,F0 s first] 2 seen:=rfl
theorem runB(hs:s<n)(hc:t.getD s 0=10\/t.getD s 0=13):
  j4 (atB t n s first 10 s handed [F0 s first] 1 seen) 20 (some (s,if t.getD s 0=13/\s+1<n/\t.getD (s+1) 0=10 then s+2 else s+1)):=by
 refine j4.step (N:=19) ?_
 rw[b1]
 refine j4.step (N:=18) ?_
 rw[MD (hpc:= .inl ⟨rfl,rfl⟩)]
 by_cases h13:t.getD s 0=13
 ·rw[if_pos ⟨hs,h13⟩]
  refine j4.step (N:=17) ?_
  rw[MD (hpc:= .inr (.inl ⟨rfl,rfl⟩))]
  by_cases h10:s+1<n/\t.getD (s+1) 0=10
  ·rw[if_pos h10,if_pos ⟨h13,h10⟩]
   refine j4.step (N:=16) ?_
   rw[NM]
   refine j4.step (N:=15) ?_
   rw[MA]
   exact(Pf ..).mono (by lia)
  ·rw[if_neg h10,if_neg (fun h=>h10 h.2)]
   refine j4.step (N:=16) ?_
   rw[Lh]
   refine j4.step (N:=15) ?_
   rw[MD (hpc:= .inr (.inr (.inl ⟨rfl,rfl⟩))),if_neg (fun h=>by rw[h13] at h;exact absurd h.2 (by decide))]
   refine j4.step (N:=14) ?_
   rw[NJ]
   refine j4.step (N:=13) ?_
   rw[MD (hpc:= .inr (.inr (.inr (.inl ⟨rfl,rfl⟩)))),if_pos ⟨hs,h13⟩]
   refine j4.step (N:=12) ?_
   rw[Pe]
   refine j4.step (N:=11) ?_
   rw[MD (hpc:= .inr (.inr (.inr (.inr ⟨rfl,rfl⟩)))),if_neg h10]
   refine j4.step (N:=10) ?_
   rw[Mz]
   refine j4.step (N:=9) ?_
   rw[NK]
   refine j4.step (N:=8) ?_
   rw[MA]
   exact(Pf ..).mono (by lia)
 ·rw[if_neg (fun h=>h13 h.2),if_neg (fun h=>h13 h.1)]
  refine j4.step (N:=17) ?_
  rw[Lh]
  refine j4.step (N:=16) ?_
  rw[MD (hpc:= .inr (.inr (.inl ⟨rfl,rfl⟩))),if_pos ⟨hs,hc.resolve_right h13⟩]
  refine j4.step (N:=15) ?_
  rw[NL]
  refine j4.step (N:=14) ?_
  rw[MA]
  exact(Pf ..).mono (by lia)
end
theorem Nf(c:Nat)(seen:UB):∃seen',Sre.inSet cB c cB.size 5 true seen= .ok ((c == 10 || c == 13),seen'):=by
 have h:Sre.inSet cB c cB.size 5 true seen=if(c == 10)=true then .ok (true,seen.add 16) else if(c == 13)=true then .ok (true,(seen.add 16).add 16) else .ok (false,((seen.add 16).add 16).add 0):=rfl
 rw[h]
 cases c == 10 <;> cases c == 13 <;> exact⟨_,rfl⟩
noncomputable def X7(t:Array Nat):(k s:Nat)->Option Nat
 |0,_=>none
 |k+1,s=>if t.getD s 0 == 10 || t.getD s 0 == 13 then some s else X7 t k (s+1)
theorem AH{t:Array Nat}:∀{k s a:Nat},X7 t k s=some a->s<=a/\a<s+k/\(t.getD a 0=10\/t.getD a 0=13):=by
 intro k
 induction k with
 |zero=>intro s a h;cases h
 |succ k ih=>
  intro s a h
  rw[X7] at h
  split at h
  ·rename_i hc;cases h
   exact(iAA (by lia) (by lia) (by simpa using hc))
  ·refine oAA (ih h) fun h1 h2 h3=>?_;exact(iAA (by lia) (by lia) h3)
theorem Jl(m:M)(hc:m.code=cB)(k:Nat):∀(fuel s:Nat)(seen:UB),s+k=m.lim->k<fuel->∃seen',Sre.M.admitted m fuel s seen= .ok (X7 m.text k s,seen'):=by
 induction k with
 |zero=>
  intro fuel s seen hs hf
  obtain⟨f,rfl⟩:∃f,fuel=f+1:=⟨fuel-1,by lia⟩
  rw[Sre.M.admitted,if_pos (by lia),X7]
  exact⟨_,rfl⟩
 |succ k ih=>
  intro fuel s seen hs hf
  obtain⟨f,rfl⟩:∃f,fuel=f+1:=⟨fuel-1,by lia⟩
  rw[Sre.M.admitted,if_neg (by lia),hc,X7]
  refine oE (Nf (m.text.getD s 0) seen) fun seen' e=>?_
  rw[e]
  cases h:(m.text.getD s 0 == 10 || m.text.getD s 0 == 13) with
  |true=>exact⟨_,rfl⟩
  |false=>
   have:=ih f (s+1) seen' (by lia) (by lia)
   exact this
noncomputable def AG(t:Array Nat)(s:Nat):Nat:=if t.getD s 0=13/\s+1<t.size/\t.getD (s+1) 0=10 then s+2 else s+1
noncomputable def mB(t:Array Nat)(pos:Nat):M:={code:=cB,text:=t,lim:=t.size,start:=pos,lastStart:=t.size,pc:=10,pos:=pos,handed:=pos,marks:= #[],seen:=({}:UB).add 14}
theorem Ly(t:Array Nat)(pos:Nat)(h:pos<=t.size):j4 (SZ cB t 0 pos t.size false) 20 ((X7 t (t.size-pos) pos).map fun a=>(a,AG t a)):=by
 unfold SZ
 have e1:(Sre.header cB).1=1:=rfl
 by_cases hp:pos=t.size
 ·simp only[e1]
  rw[if_pos (by simp;exact se0 hp)]
  have:t.size-pos=0:=se2 hp
  rw[this]
  exact(iEA 1 (by lia) rfl)
 ·simp only[e1]
  rw[if_neg (by simp;exact se1 h hp)]
  show j4 ((mB t pos).attemptFrom pos true) 20 _
  refine oE (Jl (mB t pos) rfl (t.size-pos) (t.size+1-pos) pos (({}:UB).add 14) (by show _=t.size;lia) (se3 h)) fun seen' e=>?_
  have go:(mB t pos).attemptFrom pos true=match Sre.M.admitted (mB t pos) (t.size+1-pos) pos (({}:UB).add 14) with
   | .ok (some s,seen)=>atB t t.size s true 10 s s [F0 s true] 1 seen
   | .ok (none,seen)=>{mB t pos with seen,answer:=some false}
   | .error why=>(mB t pos).stick why:=by
   rw[e]
   show(match Sre.M.admitted (mB t pos) (t.size+1-pos) pos (({}:UB).add 14) with| .ok (some _,_)=>_| .ok (none,_)=>_| .error _=>_)=_
   rw[e]
   cases X7 (mB t pos).text (t.size-pos) pos <;> rfl
  rw[go,e]
  have et:(mB t pos).text=t:=rfl
  rw[et]
  cases hf:X7 t (t.size-pos) pos with
  |none=>exact(iEA 1 (by lia) rfl)
  |some a=>
   refine oAA (AH hf) fun h1 h2 h3=>?_
   exact runB t t.size a true a seen' (by lia) h3
end Mine
end
section
open PySem PySem.W PySem.Calls PyProof.Rows PySem.Spec Builtin Builtin.Re
namespace Mine
open PySem.Sre (M Outcome)
section
variable{Mo:Vc}{A:UP}{E:UX->UO->Prop}{s:UO}
theorem CV(turns:Nat):∀(m:M)(k:Nat)(Q:M->UO->Prop),(m.runFor k).outcome.isSome=true->k<=4*turns->1<=turns->Q (m.runFor k) s->UY Mo A (reDrive turns m) Q E s:=by
 induction turns with
 |zero=>intro m k Q _ _ h;omega
 |succ n ih=>
  intro m k Q hk hle _ hq
  rw[reDrive]
  by_cases h4:(m.runFor 4).outcome.isSome=true
  ·have e:m.runFor 4=m.runFor k:=by
    rcases Nat.le_total 4 k with h|h
    ·obtain⟨d,rfl⟩:∃d,k=4+d:=⟨k-4,by omega⟩
     rw[X1,B4 h4]
    ·obtain⟨d,e⟩:∃d,4=k+d:=⟨4-k,by omega⟩
     rw[e,X1,B4 hk]
   show UY Mo A (if(m.runFor 4).outcome.isSome=true then pure (m.runFor 4) else _) Q E s
   rw[if_pos h4]
   exact TR (e ▸ hq)
  ·show UY Mo A (if(m.runFor 4).outcome.isSome=true then pure (m.runFor 4) else(rule "sre.turn">>=fun Z=>reDrive n (m.runFor 4))) Q E s
   rw[if_neg h4]
   have h5:4<k:=by
    apply PX
    intro h
    obtain⟨d,e⟩:∃d,4=k+d:=⟨4-k,by omega⟩
    rw[e,X1,B4 hk] at h4
    exact h4 hk
   obtain⟨d,rfl⟩:∃d,k=4+d:=⟨k-4,by omega⟩
   rw[X1] at hk hq
   exact TQ (Ud (ih _ d Q hk (by omega) (by omega) hq))
theorem CU{l:List Nat}{c:Nat->Bool}{f:Nat->String}{Q:PUnit->UO->Prop}(h:Q PUnit.unit s):
  UY Mo A (forIn l PUnit.unit fun i Z=>if c i=true then(rule (f i)>>=fun Z=>pure (RV PUnit.unit)) else pure (RV PUnit.unit)) Q E s:=by
 induction l with
 |nil=>rw[SE];exact TR h
 |cons i l ih=>
  rw[So]
  cases c i
  ·refine TQ ?_
   rw[if_neg (by decide)]
   exact TR ih
  ·refine TQ ?_
   rw[if_pos rfl]
   exact TQ (Ud (TR ih))
theorem AU{m:M}{N:Nat}{r:Option (Nat×Nat)}{Q:Option M->UO->Prop}(h:j4 m N r)(hN:N<=2 ^ 64)
  (hq:∀r',(match r with|none=>r'=none|some (a,b)=>∃m',r'=some m'/\m'.start=a/\m'.handed=b)->Q r' s):UY Mo A (reRunToEnd m) Q E s:=by
 refine oEA h fun k hk h=>?_
 unfold reRunToEnd
 refine TQ (CV (2 ^ 64) m k _ ?_ (by omega) (by omega) ?_)
 ·cases r with
  |none=>dsimp only at h;rw[h];rfl
  |some p=>dsimp only at h;rw[h.1];rfl
 ·refine TQ (CU ?_)
  cases r with
  |none=>dsimp only at h;rw[h];exact TR (hq _ rfl)
  |some p=>
   obtain⟨a,b⟩:=p
   dsimp only at h
   rw[h.1];exact TR (hq _ (V8 _ rfl h.2.1 h.2.2))
end
end Mine
end
section
open PySem PySem.W PySem.Calls PyProof.Rows PySem.Spec Builtin Builtin.Re
namespace Mine
open PySem.Sre (M Outcome)
noncomputable abbrev BI(pv:UX)(fl:Int)(ft:Vm)(kind:Int)(c:Vf):Vl:={cls:= .type "re.Pattern",data:= .fields #[pv, .int fl ft, .int 0 0, .none, .none, .ref c, .int kind 0]}
noncomputable abbrev N0(ws:Array Nat):Vl:={cls:= .type "tuple",data:= .seq (ws.map fun(w:Nat)=>Ur (w:Int) 0)}
theorem Hp(ws:Array Nat):((ws.map fun(w:Nat)=>Ur (w:Int) 0).map reRawOf).map (·.toNat)=ws:=by
 apply Array.ext
 ·simp
 ·intro i h1 h2;simp[reRawOf]
section
variable{Mo:Vc}{A:UP}{E:UX->UO->Prop}{s:UO}
theorem GO{x:Vk}{t:Vm}{Q:Array Nat×Nat->UO->Prop}(h:Q (x.cps,0) s):UY Mo A (reTextOf (.str x t)) Q E s:=by
 unfold reTextOf
 refine TQ ?_
 refine TR ?_
 exact TR h
theorem Hd{v:UX}{Q:Unit->UO->Prop}(h:Q () s):UY Mo A (reNoCollectionInside v 0) Q E s:=by
 unfold reNoCollectionInside
 exact TR h
structure Ap(string:UX)(text:Array Nat)(kind:Nat):Prop where
 text:∀(M:Vc)(A:UP)(E:UX->UO->Prop)(Q:Array Nat×Nat->UO->Prop)(s:UO),Q (text,kind) s->UY M A (reTextOf string) Q E s
 still:∀(M:Vc)(A:UP)(E:UX->UO->Prop)(Q:Unit->UO->Prop)(s:UO),Q () s->UY M A (reNoCollectionInside string kind) Q E s
theorem AN(x:Vk)(t:Vm):Ap (.str x t) x.cps 0:=⟨fun Z Z Z Z Z h=>GO h,fun Z Z Z Z Z h=>Hd h⟩
theorem Bu{P c:Vf}{pv string:UX}{fl:Int}{ft:Vm}{kind:Nat}{text ws:Array Nat}{Q:ReTarget->UO->Prop}(R:Ap string text kind)(hk:kind=0\/kind=1)
  (hP:s.heap.get? P=some (BI pv fl ft kind c))(hc:s.heap.get? c=some (N0 ws))
  (h:Q {pattern:= .ref P,string:=string,code:=ws,text:=text,kind:=kind,groups:=0,pos:=0,lim:=text.size} s):UY Mo A (reWholeTarget (.ref P) string) Q E s:=by
 unfold reWholeTarget
 refine TQ (wpAny_fieldsOf hP rfl ?_)
 refine TQ (R.text _ _ _ _ _ ?_)
 dsimp only
 have e6:reRawNat ((#[pv, .int fl ft, .int 0 0, .none, .none, .ref c, .int (kind:Int) 0]:Array UX).getD 6 .none)=kind:=by simp[reRawNat]
 have e2:reRawNat ((#[pv, .int fl ft, .int 0 0, .none, .none, .ref c, .int (kind:Int) 0]:Array UX).getD 2 .none)=0:=by simp[reRawNat]
 have e5:(#[pv, .int fl ft, .int 0 0, .none, .none, .ref c, .int (kind:Int) 0]:Array UX).getD 5 .none= .ref c:=by simp
 rw[e6,e2,e5]
 have b1:(kind == 0 && kind == 1)=false:=by rcases hk with rfl|rfl <;> rfl
 have b2:(kind == 1 && kind == 0)=false:=by rcases hk with rfl|rfl <;> rfl
 rw[b1,b2]
 refine Rj rfl ?_
 refine Rj rfl ?_
 refine TQ (R.still _ _ _ _ _ ?_)
 unfold reRawItems
 refine TQ (TQ (Sw hc rfl (TR ?_)))
 refine TR ?_
 have:(Array.map (fun x=>x.toNat) (Array.map reRawOf ((some (ws.map fun(w:Nat)=>Ur (w:Int) 0)).getD #[])))=ws:=Hp ws
 rw[this]
 exact h
end
theorem Ba{M:Vc}{α:Type}{A:UP}{E:UX->UO->Prop}{s:UO}{c:Prop}[Decidable c]{a b:Sem α}{Q:α->UO->Prop}(hc:c)(h:UY M A a Q E s):UY M A (if c then a else b) Q E s:=by rw[if_pos hc];exact h
theorem X6{M:Vc}{α:Type}{A:UP}{E:UX->UO->Prop}{s:UO}{c:Prop}[Decidable c]{a b:Sem α}{Q:α->UO->Prop}(hc:¬c)(h:UY M A b Q E s):UY M A (if c then a else b) Q E s:=by rw[if_neg hc];exact h
noncomputable def B8(ys:List (Array Nat)):Array Nat:=(ys.map Array.toList).flatten.toArray
noncomputable def Fb(text Z0:Array Nat)(find:Nat->Option (Nat×Nat)):(k p:Nat)->List (Array Nat)
 |0,_=>[]
 |k+1,p=>match find p with
  |none=>if p<text.size then [text.extract p text.size] else []
  |some (a,b)=>(if p<a then [text.extract p a] else [])++Z0::Fb text Z0 find k b
structure DP(prog:UF)(w:Va)(kind:Nat)(Pc:UX->Array Nat->Prop):Prop where
 cases:kind=0\/kind=1
 real:∀v y,Pc v y->(v != .none)=true
 slice:∀(A:UP)(E:UX->UO->Prop)(Q:UX->UO->Prop)(s:UO)(text:Array Nat)(a b:Nat),text.size<=10000->(∀v tk,Pc v (text.extract a b)->Q v {s with toks:=tk})->UY (UZ prog w) A (reSlice text kind a b) Q E s
 join:∀(A:UP)(E:UX->UO->Prop)(Q:UX->UO->Prop)(s:UO)(D:Vf)(items:List UX)(z:Nat)(ys:List (Array Nat))(joiner:UX),s.heap.get? D=some (W.listOf items.toArray z)->Paired Pc items ys->Pc joiner #[]->items≠[]->
  (ys.map (·.size)).sum<=1000000->ys.length<=10000->(∀v tk,Pc v (B8 ys)->Q v {s with toks:=tk})->UY (UZ prog w) A (call (.builtin (if kind == 0 then "str.join" else "bytes.join")) [joiner, .ref D]) Q E s
theorem Cd:UC table "re.Pattern.sub.loop"=some UE.«re.Pattern.sub.loop»:=by first|exact RQ (by kernel_rfl)|exact RL (by kernel_rfl)
theorem M1:plainId "re.Pattern.sub.loop"=true:=by decide+kernel
theorem T6{α β:Type}{R:α->β->Prop}{a₁ a₂:List α}{b₁ b₂:List β}(k:Paired R a₁ b₁)(h:Paired R a₂ b₂):Paired R (a₁++a₂) (b₁++b₂):=by
 induction k with
 |nil=>exact h
 |cons a _ ih=>exact .cons a ih
section
variable{prog:UF}{w:Va}{A:UP}{E:UX->UO->Prop}{s:UO}
theorem BF{D:Vf}{items:List UX}{z:Nat}{v:UX}{Q:Unit->UO->Prop}(hD:s.heap.get? D=some (W.listOf items.toArray z))(hz:items.length<=100000)
  (h:∀h' z',(∀b,b≠D->h'.get? b=s.heap.get? b)->h'.get? D=some (W.listOf (items++[v]).toArray z')->Q () {s with heap:=h'}):UY (UZ prog w) A (updateSeq D (·.push v)) Q E s:=by
 refine Sp hD rfl ?_ (by rw[Tz];simp;lia) (by rw[Tz];simp;lia)
 refine h _ (z+1) (fun b hb=>Vg.get?_update_ne _ _ _ _ hb) ?_
 rw[Qo _ hD rfl]
 simp[W.listOf,Ue]
end
namespace S8
noncomputable def T(prog:UF)(w:Va)(A:UP)(P:Vf)(c:Vf)(D:Vf)(pv:UX)(string:UX)(Z0:UX)(fl:Int)(ft:Vm)(kind:Nat)(text:Array Nat)(ws:Array Nat)(rc:Array Nat)(Pc:UX->Array Nat->Prop)(find:Nat->Option (Prod Nat Nat))(k:Nat):Prop:=∀(S:DP prog w kind Pc)(R:Ap string text kind)(hlit:∀(A:UP)(E:UX->UO->Prop)(Q:Unit->UO->Prop)(s:UO),Q () s->UY (UZ prog w) A (reLiteralCannotBeTurned Z0) Q E s)(hrc:Pc Z0 rc)(hsz:text.size<=3000)(hrs:rc.size<=10)(hends:∀p,p<=text.size->∃N,N<=2 ^ 64/\j4 (SZ ws text 0 p text.size false) N (find p))(hfind:∀p a b,find p=some (a,b)->p<=text.size->p<=a/\a<b/\b<=text.size)(hDP:D≠P)(hDc:D≠c),∀(s:UO)(p m z:Nat)(items:List UX)(ys:List (Array Nat))(Rr:UT->UO->Prop),p<=text.size->text.size-p<k->s.heap.get? P=some (BI pv fl ft kind c)->s.heap.get? c=some (N0 ws)->s.heap.get? D=some (W.listOf items.toArray z)->
   Paired Pc items ys->items.length<=2*p->(ys.map (·.size)).sum<=20*p->
   (∀h' tk v,(∀b,b≠D->h'.get? b=s.heap.get? b)->Pc v (B8 (ys++Fb text rc find k p))->Rr (.ok (.ret v)) {s with heap:=h',toks:=tk})->
   UI (UZ prog w) A (.builtin "re.Pattern.sub.loop" ⟨[.ref P,string,Z0, .int 0 0, .int 0 0, .int m 0, .int p 0, .int p 0, .bool false, .ref D, .bool false],[]⟩) Rr s
noncomputable def P9:=V4 fun prog w A P=>V4 fun c D pv string=>V4 fun Z0 fl ft kind=>V4 fun text ws rc Pc=>U2 fun find k=>T prog w A P c D pv string Z0 fl ft kind text ws rc Pc find k
@[irreducible] noncomputable def c9:=y6 (by k_extra "ne") P9
@[irreducible] noncomputable def prog:=c9.1.1
@[irreducible] noncomputable def w:=c9.1.2.1
@[irreducible] noncomputable def A:=c9.1.2.2.1
@[irreducible] noncomputable def P:=c9.1.2.2.2
@[irreducible] noncomputable def c:=c9.2.1.1
@[irreducible] noncomputable def D:=c9.2.1.2.1
@[irreducible] noncomputable def pv:=c9.2.1.2.2.1
@[irreducible] noncomputable def string:=c9.2.1.2.2.2
@[irreducible] noncomputable def Z0:=c9.2.2.1.1
@[irreducible] noncomputable def fl:=c9.2.2.1.2.1
@[irreducible] noncomputable def ft:=c9.2.2.1.2.2.1
@[irreducible] noncomputable def kind:=c9.2.2.1.2.2.2
@[irreducible] noncomputable def text:=c9.2.2.2.1.1
@[irreducible] noncomputable def ws:=c9.2.2.2.1.2.1
@[irreducible] noncomputable def rc:=c9.2.2.2.1.2.2.1
@[irreducible] noncomputable def Pc:=c9.2.2.2.1.2.2.2
@[irreducible] noncomputable def find:=c9.2.2.2.2.1
@[irreducible] noncomputable def k:=c9.2.2.2.2.2
theorem walk:T prog w A P c D pv string Z0 fl ft kind text ws rc Pc find k:=by
 intro S R hlit hrc hsz hrs hends hfind hDP hDc
 induction k with
 |zero=>intro s p m z items ys Rr _ h;lia
 |succ k ih=>
  intro s p m z items ys Rr hp hk hP hc hD hI hlen hsum hR
  refine Sg Cd ?_
  rw[Qw M1 _]
  unfold UE.«re.Pattern.sub.loop»
  dsimp only
  refine TQ (Bu R S.cases hP hc ?_)
  refine PySem.bm_if_true rfl ?_
  refine TQ (hlit _ _ _ _ ?_)
  refine TQ ?_
  refine Rj rfl ?_
  simp only[Rz]
  unfold reNextFound
  refine oEA (hends p hp) fun N hN hE=>?_
  refine AU hE hN fun r' hr'=>?_
  have tail:∀(s':UO)(items':List UX)(ys':List (Array Nat))(z':Nat),(∀b,b≠D->s'.heap.get? b=s.heap.get? b)->(∃h tk,s'={s with heap:=h,toks:=tk})->s'.heap.get? D=some (W.listOf items'.toArray z')->Paired Pc items' ys'->ys'=ys++Fb text rc find (k+1) p->
    items'.length<=2*p+1->(ys'.map (·.size)).sum<=100000->
    UY (UZ prog w) A.in1 (reSlice text kind 0 0>>=fun joiner=>seqItems? (.ref D)>>=fun q=>
     if(q.getD #[]).isEmpty=true then(pure joiner>>=fun tx=>if false=true then(do ret (←holding [tx] do newTuple [tx, ←mkInt m])) else ret tx)
     else(call (.builtin (if kind == 0 then "str.join" else "bytes.join")) [joiner, .ref D]>>=fun tx=>if false=true then(do ret (←holding [tx] do newTuple [tx, ←mkInt m])) else ret tx))
     (fun fin s'=>match fin with| .done f=>Rr (.ok f) s'| .again c'=>c'.quiet=true/\UI (UZ prog w) A c' Rr s') (fun e s'=>Rr (.error e) s') s':=by
   (intro s' items' ys' z' hk' r0_;(refine oEE r0_ fun h tk o0_=>?_;clear r0_;obtain rfl:=o0_);intro hD' hI' r1_;obtain rfl:=r1_;intro hl' hs')
   refine TQ (S.slice _ _ _ _ _ _ _ (by lia) fun joiner tk1 hj=>?_)
   have hj:Pc joiner #[]:=by simpa using hj
   refine TQ (Sw hD' rfl ?_)
   by_cases he:items'=[]
   ·subst he
    refine PySem.bm_if_true rfl (TQ (TR ?_))
    refine Rj (by decide) ?_
    refine TR (hR h tk1 joiner hk' ?_)
    have e:ys++Fb text rc find (k+1) p=[]:=by
     generalize ys++Fb text rc find (k+1) p=q at hI'
     cases hI';rfl
    rw[e];exact hj
   ·refine Rj (by cases items' with|nil=>exact absurd rfl he|cons a l=>simp) ?_
    have hl2:=AC hI'
    refine TQ (S.join _ _ _ _ D items' z' _ joiner hD' hI' hj he (by lia) (by lia) fun v tk2 hv=>?_)
    refine Rj (by decide) ?_
    exact TR (hR h tk2 v hk' hv)
  cases hf:find p with
  |none=>
   rw[hf] at hr'
   dsimp only at hr'
   subst hr'
   dsimp only
   by_cases hlt:p<text.size
   ·refine Ba hlt ?_
    refine TQ (S.slice _ _ _ _ _ _ _ (by lia) fun v tk1 hv=>?_)
    refine TQ (BF hD (by lia) fun h' z' hk' hD'=>?_)
    have e1:(text.extract p text.size).size=text.size-p:=by simp
    refine tail _ (items++[v]) (ys++[text.extract p text.size]) z' (fun b hb=>hk' b hb) (iEE h' tk1 rfl) hD' (T6 hI (.cons hv .nil)) ?_ (by rw[QU,List.length_singleton];lia) (by rw[List.map_append,List.sum_append];show _+((text.extract p text.size).size+0)<=_;rw[e1];exact sl4 (by assumption) (by assumption) hlt)
    rw[Fb,hf];dsimp only;rw[if_pos hlt]
   ·refine X6 hlt ?_
    refine tail s items ys z (fun Z Z=>rfl) (iEE _ _ rfl) hD hI ?_ (by lia) (by lia)
    rw[Fb,hf];dsimp only;rw[if_neg hlt,Sj]
  |some ab=>
   obtain⟨a,b⟩:=ab
   rw[hf] at hr'
   (refine L1 hr' fun mm o0_ h1 h2=>?_;clear hr';obtain rfl:=o0_)
   refine oAA (hfind p a b hf hp) fun q1 q2 q3=>?_
   dsimp only
   rw[h1,h2]
   have go:∀(s':UO)(items':List UX)(ys':List (Array Nat))(z':Nat),(∀b,b≠D->s'.heap.get? b=s.heap.get? b)->(∃h tk,s'={s with heap:=h,toks:=tk})->s'.heap.get? D=some (W.listOf items'.toArray z')->Paired Pc items' ys'->ys'=ys++(if p<a then [text.extract p a] else [])->
     items'.length<=2*p+1->(p=a->items'.length<=2*p)->(ys'.map (·.size)).sum<=20*a->
     UY (UZ prog w) A.in1 (pure Z0>>=fun item=>if(item != Uc)=true then(do
       updateSeq D fun x=>x.push item
       again (Tv "re.Pattern.sub.loop" ⟨[.ref P,string,Z0,US 0,US 0,US ((m:Int)+1),US b,US b, .bool (b == a), .ref D, .bool false],[]⟩))
      else again (Tv "re.Pattern.sub.loop" ⟨[.ref P,string,Z0,US 0,US 0,US ((m:Int)+1),US b,US b, .bool (b == a), .ref D, .bool false],[]⟩))
      (fun fin s'=>match fin with| .done f=>Rr (.ok f) s'| .again c'=>c'.quiet=true/\UI (UZ prog w) A c' Rr s') (fun e s'=>Rr (.error e) s') s':=by
    (intro s' items' ys' z' hk' r0_;(refine oEE r0_ fun h tk o0_=>?_;clear r0_;obtain rfl:=o0_);intro hD' hI' r1_;obtain rfl:=r1_;intro hl' hl2' hs')
    refine TQ (TR ?_)
    refine Ba (S.real _ _ hrc) ?_
    refine TQ (BF hD' (by lia) fun h' z2 hk2 hD2=>?_)
    have eb:(b == a)=false:=by simp;lia
    rw[eb]
    refine TR ⟨SQ M1 _,?_⟩
    refine ih {s with heap:=h',toks:=tk} b (m+1) z2 (items'++[Z0]) _ Rr q3 (by first|exact sl1 (by assumption) (by assumption) ‹a<b› (by assumption)|lia) ?_ ?_ hD2 (T6 hI' (.cons hrc .nil)) ?_ ?_ ?_
    ·exact((hk2 P (Ne.symm hDP)).trans (hk' P (Ne.symm hDP))).trans hP
    ·exact((hk2 c (Ne.symm hDc)).trans (hk' c (Ne.symm hDc))).trans hc
    ·rw[QU,List.length_singleton]
     by_cases e:p=a
     ·have:=hl2' e;lia
     ·lia
    ·rw[List.map_append,List.sum_append];simp;simp at hs';lia
    ·intro h'' tk'' v hk3 hv
     refine hR h'' tk'' v (fun b hb=>(hk3 b hb).trans ((hk2 b hb).trans (hk' b hb))) ?_
     rw[Fb,hf]
     dsimp only
     simpa[Rx] using hv
   by_cases hpa:p<a
   ·refine Ba hpa ?_
    refine TQ (S.slice _ _ _ _ _ _ _ (by lia) fun v tk1 hv=>?_)
    refine TQ (BF hD (by lia) fun h' z' hk' hD'=>?_)
    refine Ba rfl ?_
    have e1:(text.extract p a).size=a-p:=by rw[Array.size_extract,Nat.min_eq_left (by lia)]
    refine go _ (items++[v]) (ys++[text.extract p a]) z' (fun b hb=>hk' b hb) (iEE h' tk1 rfl) hD' (T6 hI (.cons hv .nil)) (by rw[if_pos hpa]) (by rw[QU,List.length_singleton];lia) (by lia) (by rw[List.map_append,List.sum_append];show _+((text.extract p a).size+0)<=_;rw[e1];exact sl3 (by assumption) hpa)
   ·refine X6 hpa ?_
    refine Ba rfl ?_
    exact go s items ys z (fun Z Z=>rfl) (iEE _ _ rfl) hD hI (by rw[if_neg hpa,Sj]) (by lia) (fun Z=>hlen) (by lia)
end S8
section
variable{prog:UF}{w:Va}{A:UP}{E:UX->UO->Prop}{s:UO}
theorem JA{prog w A P c D pv string Z0 fl ft kind text ws rc Pc find}(k):S8.T prog w A P c D pv string Z0 fl ft kind text ws rc Pc find k:=f7 (P:=S8.P9) (c:=S8.c9) (by with_unfolding_all rfl) (by with_unfolding_all exact S8.walk) ((prog,w,A,P),(c,D,pv,string),(Z0,fl,ft,kind),(text,ws,rc,Pc),(find,k))
end
end Mine
end
section
open PySem PySem.W PySem.Calls PyProof.Rows PySem.Spec Builtin Builtin.Re
namespace Mine
open PySem.Sre (M Outcome)
noncomputable def GJ(v:UX)(y:Array Nat):Prop:=∃t,v= .str ⟨y⟩ t
theorem IK(ys:List (Array Nat)):Txt.join ⟨#[]⟩ (ys.map fun y=>(⟨y⟩:Vk))=⟨B8 ys⟩:=by
 show UE.Str.glued _ _=_
 rw[StrLaws.glued_eq_join]
 induction ys with
 |nil=>rfl
 |cons y ys ih=>
  cases ys with
  |nil=>simp[Vk.join,B8]
  |cons z ys=>
   rw[SJ,SJ,Vk.join]
   rw[SJ] at ih
   rw[ih]
   ·show(⟨y++ #[]++B8 (z::ys)⟩:Vk)=⟨B8 (y::z::ys)⟩
    congr 1
    apply Array.ext'
    simp[B8]
   ·intro h;cases h
theorem Lu{items:List UX}{ys:List (Array Nat)}(h:Paired GJ items ys):StrsAre items (ys.map fun y=>(⟨y⟩:Vk)):=by
 induction h with
 |nil=>exact .nil
 |cons a _ ih=>refine oE a fun t e=>?_;clear a;cases e;exact .cons _ _ ih
theorem KE(prog:UF)(w:Va):DP prog w 0 GJ where
 cases:= .inl rfl
 real:=fun v y x=>x.elim fun t e=>by subst e;rfl
 slice:=fun A E Q s text a b hz h=>by
  unfold reSlice
  refine Ba rfl ?_
  refine wpAny_mkStr (h _ _ ⟨_,rfl⟩) ?_
  rw[Tz]
  show(text.extract a b).size<=_
  simp;omega
 join:=fun A E Q s D items z ys joiner hD hI hj he hs hl h=>by
  (refine oE hj fun t o0_=>?_;clear hj;obtain rfl:=o0_)
  refine join_list (items:=items.toArray) (Fq _ hD rfl z rfl) (Lu hI) ?_ fun t' k=>?_
  ·rw[Tj,RT]
   have e:(ys.map ((fun x:Vk=>x.length) ∘ fun y=>(⟨y⟩:Vk)))=ys.map (·.size):=rfl
   rw[e]
   show _+_*0<=_
   omega
  ·refine h _ k ⟨t',?_⟩
   rw[IK]
theorem HM(a b:UX):reNamed "re.Pattern.sub" "sub" ["repl","string","count"] 2 [a,b] []=pure [some a,some b,none]:=by rfl
theorem HN:UC table "re.Pattern.sub"=some UE.«re.Pattern.sub»:=by first|exact RQ (by kernel_rfl)|exact RL (by kernel_rfl)
theorem DY:plainId "re.Pattern.sub"=true:=by decide+kernel
theorem By:TX (.type "str") (Ta "__call__")=pure none:=by rw[RU,Qm];kernel_rfl
theorem DJ:TX (.type "bytes") (Ta "__call__")=pure none:=by rw[RU,Qm];kernel_rfl
theorem Gf:Slot "re.Pattern" "sub" "re.Pattern.sub":=
 .of (owner:="re.Pattern") (n:="sub") (by rw[RU,Qm];kernel_rfl) (by decide+kernel) (by decide+kernel) (by decide+kernel)
  (by first|exact .inl (by decide+kernel)|exact .inr (by decide+kernel)) (by rw[Sv];kernel_rfl)
theorem JB(a b c:UX):UW "re.Pattern.sub" ⟨[a,b,c],[]⟩:=by
 unfold UW;first|kernel_rfl|rfl
section
variable{prog:UF}{w:Va}{A:UP}{E:UX->UO->Prop}{s:UO}
end
namespace S9
noncomputable def T9(prog:UF)(w:Va)(A:UP)(E:UX->UO->Prop)(s:UO)(P:Vf)(c:Vf)(pv:UX)(string:UX)(fl:Int)(ft:Vm)(kind:Nat)(text:Array Nat)(ws:Array Nat)(rc:Array Nat)(Pc:UX->Array Nat->Prop)(find:Nat->Option (Prod Nat Nat))(Q:UX->UO->Prop)(T:String):Prop:=∀{Z0:UX}(S:DP prog w kind Pc)(R:Ap string text kind)(hlit:∀(A:UP)(E:UX->UO->Prop)(Q:Unit->UO->Prop)(s:UO),Q () s->UY (UZ prog w) A (reLiteralCannotBeTurned Z0) Q E s)(hrep:(∃x t,Z0= .str x t/\x.cps.contains 92=false)\/∃b t,Z0= .bytes b t/\b.contains 92=false/\∀(A:UP)(E:UX->UO->Prop)(Q:Option (Array UInt8)->UO->Prop)(s:UO),Q (some b) s->UY (UZ prog w) A (Bytes.bufferQuiet? "re.Pattern.sub" Z0) Q E s)(hT:∀s:UO,s.TypeIs Z0 T)(hno:TX (.type T) (Ta "__call__")=pure none)(hrc:Pc Z0 rc)(hsz:text.size<=3000)(hrs:rc.size<=10)(hends:∀p,p<=text.size->∃N,N<=2 ^ 64/\j4 (SZ ws text 0 p text.size false) N (find p))(hfind:∀p a b,find p=some (a,b)->p<=text.size->p<=a/\a<b/\b<=text.size)(hP:s.heap.get? P=some (BI pv fl ft kind c))(hc:s.heap.get? c=some (N0 ws))(hQ:∀h' tk v,(∀b o,s.heap.get? b=some o->h'.get? b=some o)->Pc v (B8 (Fb text rc find (text.size+1) 0))->Q v {s with heap:=h',toks:=tk}),UY (UZ prog w) A (call (.builtin "re.Pattern.sub") [.ref P,Z0,string]) Q E s
noncomputable def P9:=V4 fun prog w A E=>V4 fun s P c pv=>V4 fun string fl ft kind=>V4 fun text ws rc Pc=>U3 fun find Q T=>T9 prog w A E s P c pv string fl ft kind text ws rc Pc find Q T
@[irreducible] noncomputable def c9:=y6 (by k_extra "ne") P9
@[irreducible] noncomputable def prog:=c9.1.1
@[irreducible] noncomputable def w:=c9.1.2.1
@[irreducible] noncomputable def A:=c9.1.2.2.1
@[irreducible] noncomputable def E:=c9.1.2.2.2
@[irreducible] noncomputable def s:=c9.2.1.1
@[irreducible] noncomputable def P:=c9.2.1.2.1
@[irreducible] noncomputable def c:=c9.2.1.2.2.1
@[irreducible] noncomputable def pv:=c9.2.1.2.2.2
@[irreducible] noncomputable def string:=c9.2.2.1.1
@[irreducible] noncomputable def fl:=c9.2.2.1.2.1
@[irreducible] noncomputable def ft:=c9.2.2.1.2.2.1
@[irreducible] noncomputable def kind:=c9.2.2.1.2.2.2
@[irreducible] noncomputable def text:=c9.2.2.2.1.1
@[irreducible] noncomputable def ws:=c9.2.2.2.1.2.1
@[irreducible] noncomputable def rc:=c9.2.2.2.1.2.2.1
@[irreducible] noncomputable def Pc:=c9.2.2.2.1.2.2.2
@[irreducible] noncomputable def find:=c9.2.2.2.2.1
@[irreducible] noncomputable def Q:=c9.2.2.2.2.2.1
@[irreducible] noncomputable def T:=c9.2.2.2.2.2.2
theorem walk:T9 prog w A E s P c pv string fl ft kind text ws rc Pc find Q T:=by
 intro Z0 S R hlit hrep hT hno hrc hsz hrs hends hfind hP hc hQ
 refine TV (Sk ?_)
 show UY _ A.in1 (do RJ "re.Pattern.sub" ⟨[.ref P,Z0,string],[]⟩;again (.builtin "re.Pattern.sub" ⟨[.ref P,Z0,string],[]⟩)) _ _ s
 refine TQ (Gf.check _ _ _ _ _ _ _ _ (iEA _ hP rfl) (JB _ _ _) ?_)
 refine TR ⟨SQ DY _,Sg HN ?_⟩
 rw[Qw DY _]
 unfold UE.«re.Pattern.sub» reSubstitute
 dsimp only
 refine TQ (TB (HM _ _) ?_)
 dsimp only
 refine TQ (TR ?_)
 refine TQ (RY (hT _) hno ?_)
 refine X6 (by decide) ?_
 have fin:∀lit:Bool,lit=true->UY (UZ prog w) A.in1 (if lit=true then do
     let __x←pure (Z0,(0:Int))
     let _←holding [__x.fst] (reWholeTarget (Ul P) string)
     if(__x.snd == 1)=true then do
       reNotHeld "re.Pattern.sub" string
       let __do_lift←newList []
       again (Tv "re.Pattern.sub.loop" ⟨[Ul P,string,__x.fst,US __x.snd,US 0,US 0,US 0,US 0,Ub false,__do_lift,Ub false],[]⟩)
      else do
       let __do_lift←newList []
       again (Tv "re.Pattern.sub.loop" ⟨[Ul P,string,__x.fst,US __x.snd,US 0,US 0,US 0,US 0,Ub false,__do_lift,Ub false],[]⟩)
    else do
     let t←reCompileTemplate (Ul P) Z0
     let __do_lift←reOnlyLiteral t
     if __do_lift=true then do
       let __do_lift←field t 0
       let __x←pure (__do_lift,(0:Int))
       let _←holding [__x.fst] (reWholeTarget (Ul P) string)
       if(__x.snd == 1)=true then do
         reNotHeld "re.Pattern.sub" string
         let __do_lift←newList []
         again (Tv "re.Pattern.sub.loop" ⟨[Ul P,string,__x.fst,US __x.snd,US 0,US 0,US 0,US 0,Ub false,__do_lift,Ub false],[]⟩)
        else do
         let __do_lift←newList []
         again (Tv "re.Pattern.sub.loop" ⟨[Ul P,string,__x.fst,US __x.snd,US 0,US 0,US 0,US 0,Ub false,__do_lift,Ub false],[]⟩)
      else do
       let __x←pure (t,(2:Int))
       let _←holding [__x.fst] (reWholeTarget (Ul P) string)
       if(__x.snd == 1)=true then do
         reNotHeld "re.Pattern.sub" string
         let __do_lift←newList []
         again (Tv "re.Pattern.sub.loop" ⟨[Ul P,string,__x.fst,US __x.snd,US 0,US 0,US 0,US 0,Ub false,__do_lift,Ub false],[]⟩)
        else do
         let __do_lift←newList []
         again (Tv "re.Pattern.sub.loop" ⟨[Ul P,string,__x.fst,US __x.snd,US 0,US 0,US 0,US 0,Ub false,__do_lift,Ub false],[]⟩))
   (fun fin s'=>match fin with
    | .done f=>(match(Except.ok f:UT) with| .ok (.ret v)=>Q v s'| .ok _=>False| .error e=>E e s')
    | .again c'=>c'.quiet=true/\UI (UZ prog w) A c' (fun r s'=>match r with| .ok (.ret v)=>Q v s'| .ok _=>False| .error e=>E e s') s') (fun e s'=>E e s') s:=by
  intro lit hl
  refine Ba hl ?_
  refine TQ (TR ?_)
  refine TQ (SM (Bu R S.cases hP hc ?_))
  refine X6 (show¬((0:Int) == 1)=true by decide) ?_
  refine TQ (Ru ?_)
  refine TR ⟨SQ M1 _,?_⟩
  have lP:=Tc hP
  have lc:=Tc hc
  refine JA (text.size+1) S R hlit hrc hsz hrs hends hfind (Te lP) (Te lc) _ 0 0 0 [] [] _ (by omega) (by omega) (Qj _ hP) (Qj _ hc) (QD _ rfl) .nil (by simp) (by simp) ?_
  intro h' tk v hk hv
  exact hQ h' tk v (fun b o e=>(hk b (Tb (Tc e))).trans (Qj _ e)) hv
 rcases hrep with⟨x,t,rfl,hx⟩|⟨b,t,rfl,hb,hbuf⟩
 ·refine TQ (TR ?_)
  refine TQ (TR ?_)
  refine X6 (by decide) ?_
  exact fin _ (by rw[hx];rfl)
 ·refine TQ (TR ?_)
  refine TQ (hbuf _ _ _ _ ?_)
  refine TQ (TR ?_)
  refine X6 (by decide) ?_
  exact fin _ (by rw[hb];rfl)
end S9
section
variable{prog:UF}{w:Va}{A:UP}{E:UX->UO->Prop}{s:UO}
theorem Dc{prog w A E s P c pv string fl ft kind text ws rc Pc find Q T}:S9.T9 prog w A E s P c pv string fl ft kind text ws rc Pc find Q T:=f7 (P:=S9.P9) (c:=S9.c9) (by with_unfolding_all rfl) (by with_unfolding_all exact S9.walk) ((prog,w,A,E),(s,P,c,pv),(string,fl,ft,kind),(text,ws,rc,Pc),(find,Q,T))
end
end Mine
end
section
namespace Mine
noncomputable def fnA(t:Array Nat)(p:Nat):Option (Nat×Nat):=(BP t (t.size-p) p).map fun a=>(a,a+1)
noncomputable def fnB(t:Array Nat)(p:Nat):Option (Nat×Nat):=(X7 t (t.size-p) p).map fun a=>(a,AG t a)
theorem CG{t:Array Nat}:∀{k s a:Nat},BP t k s=some a->s<=a/\a<s+k/\j9 t a=true/\t.getD a 0=46/\∀i,s<=i->i<a->(j9 t i && t.getD i 0 == 46)=false:=by
 intro k
 induction k with
 |zero=>intro s a h;cases h
 |succ k ih=>
  intro s a h
  rw[BP] at h
  split at h
  ·rename_i hc;cases h
   simp only[RO,beq_iff_eq] at hc
   exact(Ft (TA _) (by lia) hc.1 hc.2 (fun i h1 h2=>absurd h2 (TY.mpr h1)))
  ·rename_i hc
   refine X4 (ih h) fun h1 h2 h3 h4 h5=>?_
   refine(Ft (Rt h1) (akt h2) h3 h4 (fun i i1 i2=>?_))
   by_cases e:i=s
   ·subst e;simpa using hc
   ·exact h5 i (sle i1 e) i2
theorem Hn{t:Array Nat}:∀{k s:Nat},BP t k s=none->∀i,s<=i->i<s+k->(j9 t i && t.getD i 0 == 46)=false:=by
 intro k
 induction k with
 |zero=>intro s _ i h1 h2;exact absurd h2 (TY.mpr h1)
 |succ k ih=>
  intro s h i h1 h2
  rw[BP] at h
  split at h
  ·cases h
  ·rename_i hc
   by_cases e:i=s
   ·subst e;simpa using hc
   ·exact ih h i (sle h1 e) (aks h2)
theorem Fx{t:Array Nat}:∀{k s a:Nat},X7 t k s=some a->∀i,s<=i->i<a->t.getD i 0≠10/\t.getD i 0≠13:=by
 intro k
 induction k with
 |zero=>intro s a h;cases h
 |succ k ih=>
  intro s a h i i1 i2
  rw[X7] at h
  split at h
  ·cases h;exact absurd i2 (TY.mpr i1)
  ·rename_i hc
   by_cases e:i=s
   ·subst e;simpa using hc
   ·exact ih h i (sle i1 e) i2
theorem Hm{t:Array Nat}:∀{k s:Nat},X7 t k s=none->∀i,s<=i->i<s+k->t.getD i 0≠10/\t.getD i 0≠13:=by
 intro k
 induction k with
 |zero=>intro s _ i h1 h2;exact absurd h2 (TY.mpr h1)
 |succ k ih=>
  intro s h i h1 h2
  rw[X7] at h
  split at h
  ·cases h
  ·rename_i hc
   by_cases e:i=s
   ·subst e;simpa using hc
   ·exact ih h i (sle h1 e) (aks h2)
theorem Nt(t:Array Nat)(hn:t.size<=3000)(p:Nat)(hp:p<=t.size):∃N,N<=2 ^ 64/\j4 (PySem.Sre.forSearch cA t 0 p t.size false) N (fnA t p):=(iEA _ (Td (Qz (QF 3 hn) 6) (by decide)) (Lz t p hp))
theorem OW(t:Array Nat)(p:Nat)(hp:p<=t.size):∃N,N<=2 ^ 64/\j4 (PySem.Sre.forSearch cB t 0 p t.size false) N (fnB t p):=(iEA 20 (by decide) (Ly t p hp))
theorem KY(t:Array Nat)(p a b:Nat)(h:fnA t p=some (a,b))(hp:p<=t.size):p<=a/\a<b/\b<=t.size:=by
 unfold fnA at h
 cases hf:BP t (t.size-p) p with
 |none=>rw[hf] at h;cases h
 |some q=>
  rw[hf] at h;cases h
  refine oAA (CG hf) fun h1 h2 Z=>?_
  exact(iAA h1 (RC _) (asz h2 hp))
theorem Gq(t:Array Nat)(a:Nat)(h:a<t.size):a<AG t a/\AG t a<=t.size:=by
 unfold AG
 by_cases hc:t.getD a 0=13/\a+1<t.size/\t.getD (a+1) 0=10
 ·rw[if_pos hc];exact⟨Qd (by decide),hc.2.1⟩
 ·rw[if_neg hc];exact⟨RC _,h⟩
theorem Nk(t:Array Nat)(p a b:Nat)(h:fnB t p=some (a,b))(hp:p<=t.size):p<=a/\a<b/\b<=t.size:=by
 unfold fnB at h
 cases hf:X7 t (t.size-p) p with
 |none=>rw[hf] at h;cases h
 |some q=>
  rw[hf] at h;cases h
  refine oAA (AH hf) fun h1 h2 Z=>?_
  have:=Gq t a (asz h2 hp)
  exact(iAA h1 this.1 this.2)
theorem L7{t:Array Nat}{i:Nat}(h:i<t.size):t.toList.drop i=t.getD i 0::t.toList.drop (i+1):=by
 rw[List.drop_eq_getElem_cons (by simpa using h)]
 congr 1
 simp[h]
theorem L6(t:Array Nat)(p a:Nat)(hp:p<=a):t.toList.drop p=(t.extract p a).toList++t.toList.drop a:=by
 rw[Array.toList_extract,List.extract_eq_take_drop]
 conv=>lhs;rw[←List.take_append_drop (a-p) (t.toList.drop p)]
 rw[List.drop_drop];congr 2;lia
noncomputable def L3:Bool->List Nat->List Nat
 |_,[]=>[]
 |b,c::r=>if c=13 then 13::10::L3 true r else if c=10 then(if b then L3 false r else 13::10::L3 false r) else c::L3 false r
noncomputable def EJ(l:List Nat):List Nat:=L3 false l
noncomputable def S6:Bool->List Nat->List Nat
 |_,[]=>[]
 |b,c::r=>if b && c == 46 then 46::46::S6 false r else c::S6 (c == 10) r
theorem EG(t:Array Nat)(p:Nat)(d:Nat)(hd:p+d<=t.size)(h:∀i,p<=i->i<p+d->(j9 t i && t.getD i 0 == 46)=false):
  S6 (j9 t p) (t.toList.drop p)=(t.extract p (p+d)).toList++S6 (j9 t (p+d)) (t.toList.drop (p+d)):=by
 induction d generalizing p with
 |zero=>simp
 |succ d ih=>
  have h0:=h p (by lia) (by lia)
  have e:j9 t (p+1)=(t.getD p 0 == 10):=by simp[j9]
  have:=ih (p+1) (by lia) fun i h1 h2=>h i (by lia) (by lia)
  rw[L7 (by lia),S6,h0,if_neg (by decide), ←e,this]
  have e2:p+1+d=p+(d+1):=by lia
  rw[e2]
  have e3:(t.extract p (p+(d+1))).toList=t.getD p 0::(t.extract (p+1) (p+(d+1))).toList:=by
   have h1:=L6 t p (p+(d+1)) (by lia)
   have h2:=L6 t (p+1) (p+(d+1)) (by lia)
   rw[L7 (by lia),h2, ←RG] at h1
   exact(List.append_cancel_right h1).symm
  rw[e3];rfl
theorem EI(t:Array Nat)(p:Nat)(d:Nat)(hd:p+d<=t.size)(h:∀i,p<=i->i<p+d->t.getD i 0≠10/\t.getD i 0≠13):
  EJ (t.toList.drop p)=(t.extract p (p+d)).toList++EJ (t.toList.drop (p+d)):=by
 induction d generalizing p with
 |zero=>simp
 |succ d ih=>
  have h0:=h p (by lia) (by lia)
  have:=ih (p+1) (by lia) fun i h1 h2=>h i (by lia) (by lia)
  unfold EJ at this ⊢
  rw[L7 (by lia),L3,if_neg h0.2,if_neg h0.1,this]
  have e2:p+1+d=p+(d+1):=by lia
  rw[e2]
  have e3:(t.extract p (p+(d+1))).toList=t.getD p 0::(t.extract (p+1) (p+(d+1))).toList:=by
   have h1:=L6 t p (p+(d+1)) (by lia)
   have h2:=L6 t (p+1) (p+(d+1)) (by lia)
   rw[L7 (by lia),h2, ←RG] at h1
   exact(List.append_cancel_right h1).symm
  rw[e3];rfl
theorem AR(a b:List (Array Nat)):(B8 (a++b)).toList=(B8 a).toList++(B8 b).toList:=by simp[B8]
theorem CF(a:Array Nat)(b:List (Array Nat)):(B8 (a::b)).toList=a.toList++(B8 b).toList:=by simp[B8]
theorem Bn(t:Array Nat)(p a:Nat)(h:p<=a)(ha:a<=t.size):(B8 (if p<a then [t.extract p a] else [])).toList=(t.extract p a).toList:=by
 split
 ·simp[B8]
 ·have:p=a:=by lia
  subst this;simp[B8]
theorem Mk(t:Array Nat)(k:Nat):∀p,p<=t.size->t.size-p<k->(B8 (Fb t #[46,46] (fnA t) k p)).toList=S6 (j9 t p) (t.toList.drop p):=by
 induction k with
 |zero=>intro p _ h;lia
 |succ k ih=>
  intro p hp hk
  rw[Fb]
  cases hf:BP t (t.size-p) p with
  |none=>
   have ef:fnA t p=none:=by unfold fnA;rw[hf];rfl
   rw[ef]
   have hn:=Hn hf
   have:=EG t p (t.size-p) (by lia) hn
   have e:p+(t.size-p)=t.size:=by lia
   rw[e] at this
   rw[this]
   have e2:t.toList.drop t.size=[]:=by simp
   rw[e2]
   dsimp only
   rw[Bn t p t.size hp (TA _)]
   simp[S6]
  |some a=>
   have ef:fnA t p=some (a,a+1):=by unfold fnA;rw[hf];rfl
   rw[ef]
   refine X4 (CG hf) fun h1 h2 h3 h4 h5=>?_
   have:=EG t p (a-p) (by lia) fun i i1 i2=>h5 i i1 (by lia)
   have e:p+(a-p)=a:=by lia
   rw[e] at this
   rw[this]
   dsimp only
   rw[AR,Bn t p a h1 (by lia),CF]
   have ha:a<t.size:=by lia
   have:=ih (a+1) ha (PF ‹_› (RC a) h1 ha)
   rw[this,L7 (by lia:a<t.size),S6,h3,h4]
   have e4:j9 t (a+1)=false:=by simp[j9,h4]
   rw[e4];simp
theorem Mm(t:Array Nat)(k:Nat):∀p,p<=t.size->t.size-p<k->(B8 (Fb t #[13,10] (fnB t) k p)).toList=EJ (t.toList.drop p):=by
 induction k with
 |zero=>intro p _ h;lia
 |succ k ih=>
  intro p hp hk
  rw[Fb]
  cases hf:X7 t (t.size-p) p with
  |none=>
   have ef:fnB t p=none:=by unfold fnB;rw[hf];rfl
   rw[ef]
   have hn:=Hm hf
   have:=EI t p (t.size-p) (by lia) hn
   have e:p+(t.size-p)=t.size:=by lia
   rw[e] at this
   rw[this]
   have e2:t.toList.drop t.size=[]:=by simp
   rw[e2]
   dsimp only
   rw[Bn t p t.size hp (TA _)]
   simp[EJ,L3]
  |some a=>
   have ef:fnB t p=some (a,AG t a):=by unfold fnB;rw[hf];rfl
   rw[ef]
   refine oAA (AH hf) fun h1 h2 h3=>?_
   have:=EI t p (a-p) (by lia) fun i i1 i2=>Fx hf i i1 (by lia)
   have e:p+(a-p)=a:=by lia
   rw[e] at this
   rw[this]
   dsimp only
   rw[AR,Bn t p a h1 (by lia),CF]
   have hb:=Gq t a (by lia)
   have:=ih (AG t a) hb.2 (PF ‹_› hb.1 h1 hb.2)
   rw[this]
   unfold EJ
   rw[L7 (by lia:a<t.size),L3]
   congr 1
   rcases h3 with h3|h3
   ·rw[h3,if_neg (by decide),if_pos rfl,if_neg (by decide)]
    have:AG t a=a+1:=by unfold AG;rw[if_neg (by rw[h3];lia)]
    rw[this];rfl
   ·rw[h3,if_pos rfl]
    by_cases h10:a+1<t.size/\t.getD (a+1) 0=10
    ·have:AG t a=a+2:=by unfold AG;rw[if_pos ⟨h3,h10⟩]
     rw[this,L7 h10.1,h10.2,L3,if_neg (by decide),if_pos rfl,if_pos rfl];rfl
    ·have e1:AG t a=a+1:=by unfold AG;rw[if_neg fun h=>h10 h.2]
     rw[e1]
     by_cases hlt:a+1<t.size
     ·have h10:t.getD (a+1) 0≠10:=fun h=>h10 ⟨hlt,h⟩
      rw[L7 hlt,L3,L3,if_neg h10,if_neg h10];rfl
     ·have:t.toList.drop (a+1)=[]:=by simp;lia
      rw[this];rfl
noncomputable def Bf(t:Array Nat):Array Nat:=B8 (Fb t #[13,10] (fnB t) (t.size+1) 0)
noncomputable def DF(t:Array Nat):Array Nat:=B8 (Fb t #[46,46] (fnA t) (t.size+1) 0)
theorem Gv(t:Array Nat):Bf t=(EJ t.toList).toArray:=by
 apply Array.ext';simp only[Bf];rw[Mm t (t.size+1) 0 (by lia) (by lia)];simp
theorem Gs(t:Array Nat):DF t=(S6 true t.toList).toArray:=by
 apply Array.ext';simp only[DF];rw[Mk t (t.size+1) 0 (by lia) (by lia)];simp[j9]
theorem IX(l:List Nat):∀b,(L3 b l).length<=2*l.length:=by
 induction l with
 |nil=>intro b;simp[L3]
 |cons c r ih=>
  intro b
  have h1:=ih true;have h2:=ih false
  rw[L3]
  split
  ·simp;lia
  ·split
   ·split <;> simp <;> lia
   ·simp;lia
theorem Ho(t:Array Nat):(Bf t).size<=2*t.size:=by
 rw[Gv];have:=IX t.toList false;simpa[EJ] using this
end Mine
end
section
open PySem PySem.W PySem.Calls PyProof.Rows PySem.Spec Builtin Builtin.Re
namespace Mine
open S (sK16)
theorem MN:PlainAttrs "re.Pattern":=⟨(iEA ("object.__getattribute__") (by rw[RU,Qm];kernel_rfl) (by decide+kernel)),by rw[RU,Qm];kernel_rfl⟩
theorem Ju:typeOf (.builtin "re.Pattern.sub")=pure (.type "method_descriptor"):=by show builtinType _=_;rw[builtinType_eq_fast];kernel_rfl
theorem NF:N0 cA={cls:= .type "tuple",data:= .seq #[.int 14 0, .int 4 0, .int 0 0, .int 1 0, .int 1 0, .int 6 0, .int 1 0, .int 16 0, .int 46 0, .int 1 0]}:=by simp[N0,cA]
theorem OZ:N0 cB={cls:= .type "tuple",data:= .seq #[.int 14 0, .int 9 0, .int 4 0, .int 1 0, .int 2 0, .int 16 0, .int 10 0, .int 16 0, .int 13 0, .int 0 0, .int 7 0, .int 7 0, .int 16 0, .int 13 0, .int 16 0, .int 10 0, .int 15 0, .int 18 0, .int 5 0, .int 16 0, .int 10 0, .int 15 0, .int 13 0, .int 11 0, .int 16 0, .int 13 0, .int 5 0, .int 5 0, .int 0 0, .int 16 0, .int 10 0, .int 1 0, .int 15 0, .int 2 0, .int 0 0, .int 1 0]}:=by simp[N0,cB]
theorem OY:Ta "\r\n"=⟨#[13,10]⟩:=by decide+kernel
theorem OX:Ta ".."=⟨#[46,46]⟩:=by decide+kernel
theorem PA(w:Va):(_root_.Mine.Sh.hd.heap_39 w.params).lookup 148=some (BI (.str (Ta "(?m)^\\.") 433) 40 446 0 147):=rfl
theorem Pd(w:Va):(_root_.Mine.Sh.hd.heap_39 w.params).lookup 147=some (N0 cA):=by rw[NF];rfl
theorem Pz(w:Va):(_root_.Mine.Sh.hd.heap_39 w.params).lookup 153=some (BI (.bytes #[40,63,109,41,94,92,46] 449) 8 462 1 152):=rfl
theorem Pb(w:Va):(_root_.Mine.Sh.hd.heap_39 w.params).lookup 152=some (N0 cA):=by rw[NF];rfl
theorem Py(w:Va):(_root_.Mine.Sh.hd.heap_39 w.params).lookup 158=some (BI (.str (Ta "(?:\\r\\n|\\n|\\r(?!\\n))") 465) 32 504 0 157):=rfl
theorem Pa(w:Va):(_root_.Mine.Sh.hd.heap_39 w.params).lookup 157=some (N0 cB):=by rw[OZ];rfl
theorem KR{M:Vc}{A:UP}{E:UX->UO->Prop}{x:Vk}{t:Vm}{s:UO}{Q:Unit->UO->Prop}(h:Q () s):UY M A (reLiteralCannotBeTurned (.str x t)) Q E s:=by
 unfold reLiteralCannotBeTurned
 refine TQ (TR ?_)
 exact X6 (fun h=>by cases h) (TR h)
theorem U0{M:Vc}{A:UP}{E:UX->UO->Prop}{s:UO}{P c:Vf}{pv:UX}{fl:Int}{ft:Vm}{kind:Nat}{pl:Sem Bool}{Q:UX×List UX->UO->Prop}(hP:s.heap.get? P=some (BI pv fl ft kind c))
  (h:Q (.builtin "re.Pattern.sub",[.ref P]) s):UY M A (getMethod (.ref P) "sub" pl) Q E s:=
 getMethod_builtin (T:="re.Pattern") (iEA _ hP rfl) MN Gf Ju (fun a e=>by cases e;exact(iEA _ hP rfl)) h
section
variable{w:Va}{loose:List Vk}{mean:UH->Option UX}{mg mb:Vk->Option UX}
theorem JI(x:Vk)(t:Vm):Ct w loose mean mg mb 3 165 [.str x t] (fun h=>x.length<=600) (fun h h' r=>∃t,r= .str ⟨DF (Bf x.cps)⟩ t):=by
 unfold Ct PR
 k_fill
 intro dp un gd cn cs a ccd cl outer A₀ base h₀ L m s Q E B F X T Se hk hd hu hpre hret
 have hsz:x.cps.size<=3000:=by have:x.cps.size=x.length:=rfl;omega
 have hsz2:(Bf x.cps).size<=3000:=by have:=Ho x.cps;have:x.cps.size=x.length:=rfl;omega
 refine TV ?_
 k_dflt (refine' enter (binds:=[(Ta "data", .str x t)]) ?k1 ?k2 ?k3 ?k5 ?kA ?kF ?kK ?k6 ?k7 ?k8 ?k9 ?kB ?_ ?c2 ?c3 ?c4 ?c5;(case kA=>exact rfl);(case kF=>exact rfl);(case kK=>assumption);(case k1=>k_asm);(case k2=>k_asm);(case k3=>k_asm);(case k5=>k_asm);(case k6=>k_is);(case k7=>k_is);(case k8=>ktr_room);(case k9=>exact SL rfl);(case c5=>decide);(case kB=>exact locs rfl);(case c2=>exact rfl);(case c3=>exact rfl);(case c4=>exact rfl);k_whole;intro L' h' F' N' B' X' T';have Se':=Qc Se (Fr.keep F);(try dsimp only);(try k_lift B');(try k_fold))
 k_steps
 unfold g9
 refine U0 ((Fr.keep F') _ _ (X' _ _ (PA w))) ?_
 k_steps
 rename Fr _ _ _ _=>F1
 unfold g9
 refine U0 ((Fr.keep F1) _ _ (X' _ _ (Py w))) ?_
 k_steps
 rename Fr _ _ _ _=>F2
 refine Dc (KE _ w) (AN x t) (fun Z Z Z Z h=>KR h) (.inl (Bm _ _ rfl (by decide+kernel))) (T:="str") (fun Z=>typeIs_str _ _ _) By (rc:= #[13,10]) (find:=fnB x.cps) ⟨506,by rw[OY]⟩ hsz (by decide)
  (OW x.cps) (Nk x.cps) ((Fr.keep F2) _ _ (X' _ _ (Py w))) ((Fr.keep F2) _ _ (X' _ _ (Pa w))) ?_
 (intro h3 tk3 v hk3 r0_;(refine oE r0_ fun t3 o0_=>?_;clear r0_;obtain rfl:=o0_))
 have F3:=X2 F2 hk3
 k_steps
 rename Fr _ _ _ _=>F4
 refine Dc (KE _ w) (AN ⟨Bf x.cps⟩ t3) (fun Z Z Z Z h=>KR h) (.inl (Bm _ _ rfl (by decide+kernel))) (T:="str") (fun Z=>typeIs_str _ _ _) By (rc:= #[46,46]) (find:=fnA (Bf x.cps)) ⟨_,by rw[OX]⟩ hsz2 (by decide)
  (Nt (Bf x.cps) hsz2) (KY (Bf x.cps)) ((Fr.keep F4) _ _ (X' _ _ (PA w))) ((Fr.keep F4) _ _ (X' _ _ (Pd w))) ?_
 (intro h5 tk5 v5 hk5 r0_;(refine oE r0_ fun t5 o0_=>?_;clear r0_;obtain rfl:=o0_))
 have F5:=X2 F4 hk5
 k_steps
 all_goals(refine Lv.intro F5 ?_;intro kp;exact hret _ _ _ kp ⟨_,rfl⟩)
end
end Mine
end
section
open PySem PySem.W PySem.Calls PyProof.Rows PySem.Spec Builtin Builtin.Re
namespace Mine
theorem W1:TX (.type "bytes") (Ta "__buffer__")=pure (some (.builtin "bytes.__buffer__")):=by rw[RU,Qm];kernel_rfl
theorem Hv:TX (.type "bytes") (Ta "__release_buffer__")=pure none:=by rw[RU,Qm];kernel_rfl
theorem Lb:isSubtype (.type "bytes") (.type "bytes")=pure true:=by rw[Sv];kernel_rfl
section
variable{M:Vc}{A:UP}{E:UX->UO->Prop}{s:UO}{b:Array UInt8}{t:Vm}
theorem CR{Q:Bool->UO->Prop}(h:Q true s):UY M A (isInstance (.bytes b t) (.type "bytes")) Q E s:=RI (T:="bytes") (b:=true) (Tp _ _ _) Lb h
theorem CP{Q:Bool->UO->Prop}(h:Q true s):UY M A (Bytes.slotIsOwn (.bytes b t) "__buffer__") Q E s:=by
 unfold Bytes.slotIsOwn
 refine TQ (RY (Tp _ _ _) W1 ?_)
 dsimp only
 refine Rj (by decide+kernel) ?_
 refine RI (T:="bytes") (b:=true) (Tp _ _ _) ?_ h
 rw[show("bytes.__buffer__".dropRight ("__buffer__".length+1))="bytes" by decide+kernel]
 exact Lb
theorem DK{Q:Bool->UO->Prop}(h:Q false s):UY M A (Bytes.ownRelease (.bytes b t)) Q E s:=by
 unfold Bytes.ownRelease Bytes.slotIsOwn
 refine TQ (TQ (RY (Tp _ _ _) Hv ?_))
 exact TR (TR h)
theorem CQ{Q:Array UInt8->UO->Prop}(h:Q b s):UY M A (Bytes.payload (.bytes b t)) Q E s:=by
 unfold Bytes.payload
 refine TQ (TR ?_)
 exact TR h
theorem Lc{id:String}{full:Bool}{Q:Option (Array UInt8)->UO->Prop}(h:Q (some b) s):UY M A (Bytes.buffer? id (.bytes b t) full) Q E s:=by
 unfold Bytes.buffer?
 refine TQ (RY (Tp _ _ _) W1 ?_)
 refine TQ (CP ?_)
 refine X6 (by decide) ?_
 refine TQ (RY (Tp _ _ _) W1 ?_)
 dsimp only
 refine TQ (DK ?_)
 refine X6 (by decide) ?_
 exact TQ (CQ (TR h))
theorem Gy{id:String}{Q:Option (Array UInt8)->UO->Prop}(h:Q (some b) s):UY M A (Bytes.bufferQuiet? id (.bytes b t)) Q E s:=by
 unfold Bytes.bufferQuiet?
 refine TQ (SX (Lc ?_))
 exact TR h
theorem Cf(b:Array UInt8)(t:Vm):Ap (.bytes b t) (b.map (·.toNat)) 1 where
 text:=fun M A E Q s h=>by
  unfold reTextOf
  refine TQ ?_
  refine TQ ?_
  refine TR ?_
  refine TR ?_
  refine TQ (Gy ?_)
  exact TR h
 still:=fun M A E Q s h=>by
  unfold reNoCollectionInside
  refine Ba rfl ?_
  refine TQ (CR ?_)
  exact X6 (by decide) (TR h)
theorem JZ{Q:Unit->UO->Prop}(h:Q () s):UY M A (reLiteralCannotBeTurned (.bytes b t)) Q E s:=by
 unfold reLiteralCannotBeTurned
 refine TQ (TQ (TR (TR ?_)))
 refine Ba rfl ?_
 refine TQ (CR ?_)
 exact X6 (by decide) (TR h)
theorem Mq{id:String}{Q:Option (Array UInt8×Option UX)->UO->Prop}(h:Q (some (b,none)) s):UY M A (Bytes.takeBuffer? id (.bytes b t) 0) Q E s:=by
 unfold Bytes.takeBuffer?
 refine TQ (RY (Tp _ _ _) W1 ?_)
 refine TQ (CP ?_)
 refine X6 (by decide) ?_
 refine TQ (RY (Tp _ _ _) W1 ?_)
 refine TQ (Lc ?_)
 exact TR h
theorem EO{id:String}{Q:Option (Array UInt8×Option UX)->UO->Prop}(h:Q (some (b,none)) s):UY M A (Bytes.takeBufferQuiet? id (.bytes b t) 0) Q E s:=by
 unfold Bytes.takeBufferQuiet?
 refine TQ (SX (Mq ?_))
 exact TR h
end
theorem Fu{α:Type}{M:Vc}{A:UP}{E:UX->UO->Prop}{s:UO}{f:Nat->α->Sem (ForInStep α)}{Q:α->UO->Prop}(st:Nat->α)(n:Nat)
  (hf:∀i,i<n->∀Q':ForInStep α->UO->Prop,Q' (.yield (st (i+1))) s->UY M A (f i (st i)) Q' E s)(h:Q (st n) s):UY M A (forIn [:n] (st 0) f) Q E s:=by
 rw[Std.Legacy.Range.forIn_eq_forIn_range']
 have go:∀m i,i+m=n->UY M A (forIn (List.range' i m) (st i) f) Q E s:=by
  intro m
  induction m with
  |zero=>
   intro i e
   have:i=n:=by lia
   subst this;simp only[List.range'_zero,SE];exact TR h
  |succ m ih=>
   intro i e
   rw[List.range'_succ,So]
   refine TQ (hf i (by lia) _ ?_)
   exact ih (i+1) (by lia)
 have e:([:n]:Std.Legacy.Range).size=n:=by simp[Std.Legacy.Range.size]
 rw[e]
 exact go n 0 (by lia)
theorem BA:Slot "bytes" "join" "bytes.join":=
 .of (owner:="bytes") (n:="join") (by rw[RU,Qm];kernel_rfl) (by decide+kernel) (by decide+kernel) (by decide+kernel)
  (by first|exact .inl (by decide+kernel)|exact .inr (by decide+kernel)) (by rw[Sv];kernel_rfl)
theorem Be:UC table "bytes.join"=some UE.«bytes.join»:=by first|exact RQ (by kernel_rfl)|exact RL (by kernel_rfl)
theorem BY(a b:UX):UW "bytes.join" ⟨[a,b],[]⟩:=by
 unfold UW;first|kernel_rfl|rfl
noncomputable def J1(v:UX)(y:Array Nat):Prop:=∃t,v= .bytes (y.map (·.toUInt8)) t
section
variable{prog:UF}{w:Va}{A:UP}{E:UX->UO->Prop}{s:UO}
theorem Fv(l:List (Array UInt8)):∀a:Nat,l.foldl (fun x1 x2=>x1+x2.size) a=a+(l.map (·.size)).sum:=by
 induction l with
 |nil=>intro a;simp
 |cons y l ih=>intro a;simp only[Sf,SJ,SO,ih];lia
theorem Fn(l:List (Array UInt8)):(Bytes.joined #[] l).toList=(l.map Array.toList).flatten:=by
 unfold Bytes.joined
 have go:∀(l:List (Array UInt8))(k:Nat)(out:Array UInt8),((l.zipIdx k).foldl (fun out (x:Array UInt8×Nat)=>(if x.2>0 then out++ #[] else out)++x.1) out).toList=out.toList++(l.map Array.toList).flatten:=by
  intro l
  induction l with
  |nil=>intro k out;simp
  |cons y l ih=>
   intro k out
   rw[List.zipIdx_cons,Sf,ih]
   have:(if k>0 then out++ #[] else out)=out:=by split <;> simp
   simp[this]
 exact(go l 0 #[]).trans (by simp)
theorem ID(ys:List (Array Nat)):((ys.map fun y=>y.map (·.toUInt8)).map (·.size)).sum=(ys.map (·.size)).sum:=by
 rw[Tj];congr 1;apply QG;intro y _;simp
theorem AQ(ys:List (Array Nat)):Bytes.joined #[] (ys.map fun y=>y.map (·.toUInt8))=(B8 ys).map (·.toUInt8):=by
 apply Array.ext'
 rw[Fn]
 simp[B8,List.map_flatten]
 congr 1;apply QG;intro y _;simp
theorem Ej{items:List UX}{ys:List (Array Nat)}(k:Paired J1 items ys):∀v∈items,v.onHeap=false:=by
 induction k with
 |nil=>intro v h;cases h
 |cons a r ih=>
  intro v h
  refine oE a fun Z e=>?_;clear a
  rcases SH.1 h with rfl|h
  ·subst e;rfl
  ·exact ih v h
theorem Ci{Q:Unit->UO->Prop}(l:List UX):∀(keep:List UX),Q () s->UY (UZ prog w) A (Bytes.joinLetGo (l.map fun v=>(v,(none:Option UX))) keep) Q E s:=by
 induction l with
 |nil=>intro keep h;exact TR h
 |cons v l ih=>
  intro keep h
  rw[SJ,Bytes.joinLetGo]
  ·refine TQ ?_
   refine TQ (SM (wpAny_point ?_))
   refine TR ?_
   exact ih _ h
  ·intro _ e;cases e
end
namespace H0
noncomputable def T(prog:UF)(w:Va)(A:UP)(E:UX->UO->Prop)(s:UO)(D:Vf)(z:Nat)(t:Vm)(Q:UX->UO->Prop):Prop:=∀{items:List UX}{ys:List (Array Nat)}(hD:s.heap.get? D=some (W.listOf items.toArray z))(hI:Paired J1 items ys)(he:items≠[])(hs:(ys.map (·.size)).sum<=1000000)(hl:ys.length<=10000)(h:∀v tk,J1 v (B8 ys)->Q v {s with toks:=tk}),UY (UZ prog w) A (call (.builtin "bytes.join") [.bytes #[] t, .ref D]) Q E s
noncomputable def P9:=V4 fun prog w A E=>V4 fun s D z t=>fun Q=>T prog w A E s D z t Q
@[irreducible] noncomputable def c9:=y6 (by k_extra "ne") P9
@[irreducible] noncomputable def prog:=c9.1.1
@[irreducible] noncomputable def w:=c9.1.2.1
@[irreducible] noncomputable def A:=c9.1.2.2.1
@[irreducible] noncomputable def E:=c9.1.2.2.2
@[irreducible] noncomputable def s:=c9.2.1.1
@[irreducible] noncomputable def D:=c9.2.1.2.1
@[irreducible] noncomputable def z:=c9.2.1.2.2.1
@[irreducible] noncomputable def t:=c9.2.1.2.2.2
@[irreducible] noncomputable def Q:=c9.2.2
theorem walk:T prog w A E s D z t Q:=by
 intro items ys hD hI he hs hl h
 refine RH BA (Tp _ _ _) Be ?_ (BY _ _)
 unfold UE.«bytes.join» Bytes.joinM
 dsimp only
 refine TQ (TR ?_)
 dsimp only
 refine TQ ?_
 have hT:s.TypeIs (.ref D) "list":=(iEA _ hD rfl)
 refine TQ (wpAny_typeOf hT ?_)
 refine Ba rfl (TR ?_)
 refine TQ (Sw hD rfl ?_)
 refine Ba rfl ?_
 refine gl (N:=fun items=>_) (a:=items) fun P up=>?_
 cases items with
 |nil=>exact absurd rfl he
 |cons x rest=>
  cases rest with
  |nil=>
   obtain⟨y0,rfl⟩:∃y0,ys=[y0]:=by cases hI with|cons a r=>cases r;exact⟨_,rfl⟩
   obtain⟨t0,rfl⟩:J1 x y0:=by cases hI with|cons a r=>exact a
   refine up _ ?_
   show UY _ _ (PySem.typeOf (.bytes _ t0)>>=_) _ _ _
   refine TQ (wpAny_typeOf (Tp _ _ _) ?_)
   refine Ba rfl ?_
   refine TQ (Ud ?_)
   exact TR (iEA _ rfl (h _ s.toks ⟨t0,by show UX.bytes (y0.map (·.toUInt8)) t0=_;simp[B8]⟩))
  |cons y rest=>
   refine up _ ?_
   show UY _ _ (forIn [:(x::y::rest).toArray.size] _ _>>=_) _ _ _
   have hlen:=AC hI
   have hpc:∀i v,(x::y::rest)[i]? =some v->∃yy,ys[i]? =some yy/\J1 v yy:=fun i v e=>Ag hI e
   ·generalize hit:(x::y::rest)=items at*
    refine TQ ?_
    have hsz:items.toArray.size=items.length:=by simp
    rw[hsz]
    refine Fu (fun i=>(((ys.take i).map fun y=>y.map (·.toUInt8)).toArray,(items.take i).map fun v=>(v,(none:Option UX)))) items.length ?_ ?_
    ·intro i hi Q' hQ'
     obtain⟨v,hv⟩:∃v,items[i]? =some v:=⟨items[i],by simp[hi]⟩
     (refine PB (hpc i v hv) fun yy hy t1 o0_=>?_;obtain rfl:=o0_)
     have hnow:items.toArray.getD i Uc= .bytes (yy.map (·.toUInt8)) t1:=by
      simp[Array.getD,hi];have:=hv;rw[Qb hi] at this;exact RZ this
     refine TQ (Sw hD rfl ?_)
     dsimp only
     rw[hnow]
     refine X6 ?_ ?_
     ·have:((items.take i).map fun v=>(v,(none:Option UX))).any (fun x=>x.1.onHeap)=false:=by
       rw[List.any_map,List.any_eq_false]
       intro v hv'
       have:=Ej hI v (List.mem_of_mem_take hv')
       simp[this]
      rw[this];decide
     ·refine TQ (SM (EO ?_))
      refine TQ (Sw hD rfl ?_)
      refine X6 (by rw[hsz];simp) ?_
      refine TR ?_
      have e1:(items.take (i+1))=items.take i++[.bytes (yy.map (·.toUInt8)) t1]:=by rw[Rm,hv];rfl
      have e2:(ys.take (i+1))=ys.take i++[yy]:=by rw[Rm,hy];rfl
      rw[e1,e2] at hQ'
      simpa using hQ'
    ·dsimp only
     rw[hlen,RK, ←hlen,RK]
     refine TQ (CQ ?_)
     refine X6 ?_ ?_
     ·rw[←Array.foldl_toList,Fv,ID]
      show¬decide (0*_+_>Ux)=true
      rw[Tz];simp;lia
     ·refine TQ ?_
      show UY _ _ (mkBytes _) _ _ _
      refine wpAny_mkBytes ?_ ?_
      ·refine TQ (SM (wpAny_point ?_))
       refine TQ (Ci _ _ ?_)
       refine TR (iEA _ rfl (h _ (s.toks+1) ⟨s.toks,?_⟩))
       rw[AQ]
      ·rw[AQ,Array.size_map]
       have:(B8 ys).size=(ys.map (·.size)).sum:=by
        simp[B8,List.length_flatten,Tj];rfl
       rw[this,Tz];lia
end H0
section
variable{prog:UF}{w:Va}{A:UP}{E:UX->UO->Prop}{s:UO}
theorem Hu{prog w A E s D z t Q}:H0.T prog w A E s D z t Q:=f7 (P:=H0.P9) (c:=H0.c9) (by with_unfolding_all rfl) (by with_unfolding_all exact H0.walk) ((prog,w,A,E),(s,D,z,t),Q)
end
end Mine
end
section
open PySem PySem.W PySem.Calls PyProof.Rows PySem.Spec Builtin Builtin.Re
namespace Mine
open S (sK16)
theorem JC(prog:UF)(w:Va):DP prog w 1 J1 where
 cases:= .inr rfl
 real:=fun v y x=>x.elim fun t e=>by subst e;rfl
 slice:=fun A E Q s text a b hz h=>by
  unfold reSlice
  refine X6 (by decide) ?_
  refine wpAny_mkBytes (h _ _ ⟨_,rfl⟩) ?_
  rw[Tz];simp;omega
 join:=fun A E Q s D items z ys joiner hD hI hj he hs hl h=>by
  (refine oE hj fun t o0_=>?_;clear hj;obtain rfl:=o0_)
  have:=Hu (prog:=prog) (w:=w) (A:=A) (E:=E) (t:=t) hD hI he hs hl h
  simpa using this
theorem Ek(b:Array UInt8):(b.map (·.toNat)).size=b.size:=by simp
section
variable{w:Va}{loose:List Vk}{mean:UH->Option UX}{mg mb:Vk->Option UX}
theorem Ih(b:Array UInt8)(t:Vm):Ct w loose mean mg mb 3 172 [.bytes b t] (fun h=>b.size<=3000) (fun h h' r=>∃t,r= .bytes ((DF (b.map (·.toNat))).map (·.toUInt8)) t):=by
 unfold Ct PR
 k_fill
 intro dp un gd cn cs a ccd cl outer A₀ base h₀ L m s Q E B F X T Se hk hd hu hpre hret
 refine TV ?_
 k_dflt (refine' enter (binds:=[(Ta "bindata", .bytes b t)]) ?k1 ?k2 ?k3 ?k5 ?kA ?kF ?kK ?k6 ?k7 ?k8 ?k9 ?kB ?_ ?c2 ?c3 ?c4 ?c5;(case kA=>exact rfl);(case kF=>exact rfl);(case kK=>assumption);(case k1=>k_asm);(case k2=>k_asm);(case k3=>k_asm);(case k5=>k_asm);(case k6=>k_is);(case k7=>k_is);(case k8=>ktr_room);(case k9=>exact SL rfl);(case c5=>decide);(case kB=>exact locs rfl);(case c2=>exact rfl);(case c3=>exact rfl);(case c4=>exact rfl);k_whole;intro L' h' F' N' B' X' T';have Se':=Qc Se (Fr.keep F);(try dsimp only);(try k_lift B');(try k_fold))
 k_steps
 unfold g9
 refine U0 ((Fr.keep F') _ _ (X' _ _ (Pz w))) ?_
 k_steps
 rename Fr _ _ _ _=>F2
 refine Dc (JC _ w) (Cf b t) (fun Z Z Z Z h=>JZ h) (.inr (H5 (#[46,46]) _ rfl (by decide+kernel) (fun Z Z Z Z h=>Gy h))) (T:="bytes") (fun Z=>Tp _ _ _) DJ (rc:= #[46,46]) (find:=fnA (b.map (·.toNat))) ⟨_,by simp;rfl⟩ (by rw[Ek];exact hpre) (by decide)
  (Nt _ (by rw[Ek];exact hpre)) (KY _) ((Fr.keep F2) _ _ (X' _ _ (Pz w))) ((Fr.keep F2) _ _ (X' _ _ (Pb w))) ?_
 (intro h5 tk5 v5 hk5 r0_;(refine oE r0_ fun t5 o0_=>?_;clear r0_;obtain rfl:=o0_))
 have F5:=X2 F2 hk5
 k_steps
 all_goals(refine Lv.intro F5 ?_;intro kp;exact hret _ _ _ kp ⟨_,rfl⟩)
end
end Mine
end
section
open PySem PySem.W PySem.Calls PyProof.Rows PySem.Spec
namespace Mine
theorem Mf{prog:UF}{w:Va}{A:UP}{s:UO}{P:Vf}{K:Frag}{p:UF}{loose:List Vk}{mean:UH->Option UX}{mg mb:Vk->Option UX}
  {R:UT->UO->Prop}{name qual:Vk}{params:Up}{body:List Stmt}{scope:Vb}{dV kV doc pm cdv ct oc:UX}{an od:Option Vf}{osl:Array (Option UX)}{f:Vf}{args:Args}{binds:List (Vk×UX)}{oP:Vl}
  (hP:s.heap.get? P=some oP)(X:K.In s.heap)(T:Top p loose mean mg mb s.heap)
  (ho:K.lookup f=some ⟨oc,od, .func (fnOf name qual params body scope dV kV doc pm an cdv ct),osl⟩)(hcd:codeIn K cdv qual=true)(hroom:A.depth<Su)
  (hbind:BindsTo s (fnOf name qual params body scope dV kV doc pm an cdv ct) args binds)(hkind:(binds.all fun y=>scope.names.lookup y.1 == some .local || scope.names.lookup y.1 == some .cell)=true)
  (hnd:((Un 0 scope.names []).map (·.1)).Nodup)
  (h:∀L' h₁ tk cells,Fr (UK s.heap [P]) L' h₁ (bindL (UV qual scope L' f cdv).kindOf binds fun Z=>none)->News (UK s.heap [P]) L' h₁ (cells++[(P,oP)])->CellsAre (bindC (UV qual scope L' f cdv).kindOf binds fun Z=>none) (Un (L'+1) scope.names []) cells->
   (∀b o,s.heap.get? b=some o->h₁.get? b=some o)->
   wpP (UZ prog w) (A.deeper (UV qual scope L' f cdv)) (Ve body (UV qual scope L' f cdv))
    (fun fl s'=>R (.ok (.ret (match fl with| .ret v=>v|_=> .none))) s') (fun Z Z=>False)
    {s with heap:=h₁,toks:=tk})
  (hco:scope.isCoroutine=false)(hgen:scope.isGenerator=false)(hk:scope.kind= .function):B5 (UZ prog w) A (.call (.ref f) args) R s:=by
 refine B5.call_function hroom (X _ _ ho) rfl hco hgen rfl (codeRec_of X hcd) (hbind _ _ _ _ ?_)
 refine PW hk (kindsX hkind _) fun env' he s' x=>?_
 subst he
 refine⟨T.nolimit.keeps x.toInCall.keep,B5.func ?_⟩
 (refine y8 x.done fun h₁ tk o0_ Z=>?_;obtain rfl:=o0_)
 have hk₁:=x.toInCall.keep
 refine oEA (Cl.news (h₀:=s.heap) (TA _) fun n c hm=>⟨x.cell n c (lookup_of_mem_nodup (cellsFrom_names scope.names 0 (s.heap.objs.size+1) [] [] rfl ▸ hnd) hm),x.above n c hm⟩) fun cells NC Y=>?_
 refine wpP.mono (h s.heap.objs.size h₁ tk cells ⟨x.toInCall.ns,fun b o e=>hk₁ b o (of_hideAll _ e),Tn (hideAll_size _ _)⟩ (fun q hq=>?_) Y hk₁) (fun fl s' hl=>hl) fun Z Z y=>y.elim
 rcases RS.mp hq with hq|hq
 ·refine(iAA ((NC q hq).1) ((NC q hq).2.1) ?_)
  cases q9:(UK s.heap [P]).get? q.1 with
  |none=>rfl
  |some o=>have:=of_hideAll _ q9;exact zs1 ((NC q hq).2.2) this
 ·rw[QQ.mp hq]
  exact(iAA (hk₁ _ _ hP) (Tb (Tc hP)) (hideAll_none _ (.head _)))
end Mine
end
section
open PySem PySem.W PySem.Calls PyProof.Rows PySem.Spec
namespace Mine
inductive GL(S:List Vf)(J:Vg->Prop)(s s':UO):Prop
 |mk(h:Vg)(tk:Nat)(a0:s'={s with heap:=h,toks:=tk})(a1:(∀b o,b∉S->s.heap.get? b=some o->h.get? b=some o))(a2:J h)
noncomputable def GK(X:List Vf)(hb ha h:Vg):Prop:=C5 hb ha h/\∀b o,b∉X->ha.get? b=some o->h.get? b=some o
section
variable{prog:UF}{w:Va}{A:UP}{R:UT->UO->Prop}{s:UO}
end
namespace K1
noncomputable def T(prog:UF)(w:Va)(A:UP)(R:UT->UO->Prop)(s:UO)(elt:Vh)(b9:Vh)(iter:Vh)(ifs:List Vh)(scope:Vb)(pos:Pos)(it:UX)(D:Vf)(fp:List Vf)(wr:List Vf)(n:Nat)(Bd:Nat->(Vk->Option UX)->Prop)(St:Nat->Vg->Prop)(cenv:Vn)(m:Vk->Option UX)(S:List Vf)(J:Vg->Prop)(p:Nat->Bool)(G:Nat->Vg->Vg->UX->Prop):Prop:=∀(W:Ca prog w A it b9 cenv fp wr n Bd St)(hsz:n<=Ux)(hDC:D≠cenv.locals)(hDf:D∉fp)(hCf:cenv.locals∉fp)(hSf:∀a∈S,a∉fp)(hSD:D∉S)(hSC:cenv.locals∉S)(hJ0:J s.heap)(hJS:∀h,J h->∀a∈S,∃o,h.get? a=some o)(hJk:∀h h',J h->(∀b o,b≠cenv.locals->b∉wr->b≠D->h.get? b=some o->h'.get? b=some o)->J h')(hst:St 0 s.heap)(hacc:s.heap.PlainList D #[])(hn:s.heap.Ns cenv.locals m)(htests:∀i H tk m₂ E',i<n->Bd i m₂->St (i+1) H->H.Ns cenv.locals m₂->(∃ys,H.PlainList D ys)->J H->(∀b o,b≠cenv.locals->b∉wr->b≠D->b∉S->s.heap.get? b=some o->H.get? b=some o)->
   UY (UZ prog w) A (forIn ifs true fun c r=>if r=true then do let ok←isTrue c cenv (Vi c cenv);pure (RV ok) else pure (RV r))
    (fun ok s₃=>ok=p i/\GL S J {s with heap:=H,toks:=tk} s₃) E' {s with heap:=H,toks:=tk})(helt:∀i H tk m₂ E',i<n->p i=true->Bd i m₂->St (i+1) H->H.Ns cenv.locals m₂->(∃ys,H.PlainList D ys)->J H->(∀b o,b≠cenv.locals->b∉wr->b≠D->b∉S->s.heap.get? b=some o->H.get? b=some o)->
   UY (UZ prog w) A (Vi elt cenv) (fun y s₃=>G i H s₃.heap y/\GL S J {s with heap:=H,toks:=tk} s₃) E' {s with heap:=H,toks:=tk})(hR:∀h' tk m' ys,h'.Ns cenv.locals m'->h'.PlainList D ys->Paired (fun j y=>∃hb ha,G j hb ha y/\(∃o,hb.get? cenv.locals=some o)/\(∀b∈wr,∃o,hb.get? b=some o)/\GK (cenv.locals::D::(wr++S)) hb ha h') ((TS n).filter p) ys.toList->
   J h'->(∀b o,b≠cenv.locals->b∉wr->b≠D->b∉S->s.heap.get? b=some o->h'.get? b=some o)->R (.ok .next) {s with heap:=h',toks:=tk}),UI (UZ prog w) A (.compLoop (.ListComp elt [⟨b9,iter,ifs,0⟩] scope pos) 0 it (.ref D) cenv) R s
noncomputable def P9:=V4 fun prog w A R=>V4 fun s elt b9 iter=>V4 fun ifs scope pos it=>V4 fun D fp wr n=>V4 fun Bd St cenv m=>U4 fun S J p G=>T prog w A R s elt b9 iter ifs scope pos it D fp wr n Bd St cenv m S J p G
@[irreducible] noncomputable def c:=y6 (by k_extra "ne") P9
@[irreducible] noncomputable def prog:=c.1.1
@[irreducible] noncomputable def w:=c.1.2.1
@[irreducible] noncomputable def A:=c.1.2.2.1
@[irreducible] noncomputable def R:=c.1.2.2.2
@[irreducible] noncomputable def s:=c.2.1.1
@[irreducible] noncomputable def elt:=c.2.1.2.1
@[irreducible] noncomputable def b9:=c.2.1.2.2.1
@[irreducible] noncomputable def iter:=c.2.1.2.2.2
@[irreducible] noncomputable def ifs:=c.2.2.1.1
@[irreducible] noncomputable def scope:=c.2.2.1.2.1
@[irreducible] noncomputable def pos:=c.2.2.1.2.2.1
@[irreducible] noncomputable def it:=c.2.2.1.2.2.2
@[irreducible] noncomputable def D:=c.2.2.2.1.1
@[irreducible] noncomputable def fp:=c.2.2.2.1.2.1
@[irreducible] noncomputable def wr:=c.2.2.2.1.2.2.1
@[irreducible] noncomputable def n:=c.2.2.2.1.2.2.2
@[irreducible] noncomputable def Bd:=c.2.2.2.2.1.1
@[irreducible] noncomputable def St:=c.2.2.2.2.1.2.1
@[irreducible] noncomputable def cenv:=c.2.2.2.2.1.2.2.1
@[irreducible] noncomputable def m:=c.2.2.2.2.1.2.2.2
@[irreducible] noncomputable def S:=c.2.2.2.2.2.1
@[irreducible] noncomputable def J:=c.2.2.2.2.2.2.1
@[irreducible] noncomputable def p:=c.2.2.2.2.2.2.2.1
@[irreducible] noncomputable def G:=c.2.2.2.2.2.2.2.2
inductive El(h:Vg)(j:Nat)(y:UX):Prop
 |mk(hb ha:Vg)(g:G j hb ha y)(d:((∃o,hb.get? cenv.locals=some o)/\(∃o,hb.get? D=some o)/\(∀b∈wr,∃o,hb.get? b=some o)/\∀a∈S,∃o,hb.get? a=some o))(st:GK (cenv.locals::D::(wr++S)) hb ha h)
inductive I1(k:Nat)(s':UO):Prop
 |mk(h':Vg)(tk:Nat)(m':Vk->Option UX)(ys:Array UX)(i:Nat)(a0:s'={s with heap:=h',toks:=tk})(a1:St i h')(a2:h'.PlainList D ys)(a3:h'.Ns cenv.locals m')(a4:J h')(a5:i<=n)(a6:k=n+1-i)(a7:Paired (El h') ((TS i).filter p) ys.toList)(a8:(∀b o,b≠cenv.locals->b∉wr->b≠D->b∉S->s.heap.get? b=some o->h'.get? b=some o))
inductive I2(i:Nat)(H:Vg)(s₂:UO):Prop
 |mk(h₁:Vg)(tk₁:Nat)(m₁:Vk->Option UX)(a0:s₂={s with heap:=h₁,toks:=tk₁})(a1:Bd i m₁)(a2:h₁.Ns cenv.locals m₁)(a3:St (i+1) h₁)(a4:(∀b o,b≠cenv.locals->b∉wr->H.get? b=some o->h₁.get? b=some o))
theorem walk:T prog w A R s elt b9 iter ifs scope pos it D fp wr n Bd St cenv m S J p G:=by
 intro W hsz hDC hDf hCf hSf hSD hSC hJ0 hJS hJk hst hacc hn htests helt hR
 have hCw:cenv.locals∉wr:=fun h=>hCf (W.sub _ h)
 have hDw:D∉wr:=fun h=>hDf (W.sub _ h)
 have hSw:∀a∈S,a∉wr:=fun a ha h=>hSf a ha (W.sub _ h)
 have stays_up:∀{h₁ h₂:Vg},(∀b o,b≠cenv.locals->b∉wr->b≠D->b∉S->h₁.get? b=some o->h₂.get? b=some o)->∀j y,
   (El h₁ j y)->
   (El h₂ j y):=by
  (intro h₁ h₂ hk j y r0_;obtain⟨hb,ha,hg,hd,hs⟩:=r0_)
  refine⟨hb,ha,hg,hd,fun b o e1 e2=>hk b o (fun e=>?_) (fun e=>?_) (fun e=>?_) (fun e=>?_) (hs.1 b o e1 e2),fun b o hX e=>hk b o (fun q=>hX (q ▸ .head _)) (fun q=>hX (.tail _ (.tail _ (RS.mpr (.inl q))))) (fun q=>hX (q ▸ .tail _ (.head _))) (fun q=>hX (.tail _ (.tail _ (RS.mpr (.inr q))))) (hs.2 b o hX e)⟩
  ·(refine oA hd fun o0_ Z=>?_;clear hd;refine oE o0_ fun o' h'=>?_;clear o0_);exact zg1 e e1 h'
  ·refine AX hd fun Z Z h3 Z=>?_;clear hd;refine oE (h3 b e) fun o' h'=>?_;exact zs1 e1 h'
  ·(refine oAA hd fun Z o0_ Z=>?_;clear hd;refine oE o0_ fun o' h'=>?_;clear o0_);exact zg1 e e1 h'
  ·refine AX hd fun Z Z Z h4=>?_;clear hd;refine oE (h4 b e) fun o' h'=>?_;exact zs1 e1 h'
 refine O0.any (EK (n0:=0) I1 (n+1) ?_ ⟨s.heap,s.toks,m, #[],0,rfl,hst,hacc,hn,hJ0,TC _,rfl, .nil,fun Z Z Z Z Z Z e=>e⟩ (TC _))
 (intro k s' r0_;obtain⟨H,tk,m',ys,i,rfl,hst',hacc',hn',hJ',hi,rfl,hP,hk⟩:=r0_;intro _)
 by_cases hlt:i<n
 ·refine TT (W.item i _ m' (fun Z s₂=>I2 i H s₂) (notedBy (UZ prog w) A cenv fun e s'=>R (.error e) s') hlt hst' hn' fun h₁ tk₁ m₁ hB hn₁ hst₁ hk₁=>⟨h₁,tk₁,m₁,rfl,hB,hn₁,hst₁,hk₁⟩) (fun r s₁ h₁=>?_) fun Z Z e=>e
  cases r with
  |none=>exact h₁.elim
  |some v=>
   refine TT h₁ (fun Z s₁' h₁'=>?_) fun Z Z e=>e
   refine TT h₁' (fun Z s₂ h₂ Z=>?_) fun Z Z e=>e
   obtain⟨h₁,tk₁,m₁,rfl,hB,hn₁,hst₁,hk₁⟩:=h₂
   have hk₁':∀b o,b≠cenv.locals->b∉wr->b≠D->b∉S->s.heap.get? b=some o->h₁.get? b=some o:=fun b o h1 h2 h3 h4 e=>hk₁ b o h1 h2 (hk b o h1 h2 h3 h4 e)
   have hJ₁:J h₁:=hJk H h₁ hJ' fun b o h1 h2 Z e=>hk₁ b o h1 h2 e
   have hacc₁:h₁.PlainList D ys:=hacc'.at fun o e=>hk₁ _ o hDC hDw e
   refine TT (htests i h₁ tk₁ m₁ _ hlt hB hst₁ hn₁ ⟨_,hacc₁⟩ hJ₁ hk₁') (fun ok s₃ h₃=>?_) fun Z Z e=>e
   obtain⟨rfl,h₃,tk₃,rfl,hk₃,hJ₃⟩:=h₃
   have hst₃:St (i+1) h₃:=W.frame _ _ _ hst₁ fun b hb o e=>hk₃ b o (fun e'=>hSf b e' hb) e
   have hacc₃:h₃.PlainList D ys:=hacc₁.at fun o e=>hk₃ _ o hSD e
   have hn₃:=hn₁.at' fun o e=>hk₃ _ o hSC e
   have hk₃':∀b o,b≠cenv.locals->b∉wr->b≠D->b∉S->s.heap.get? b=some o->h₃.get? b=some o:=fun b o h1 h2 h3 h4 e=>hk₃ b o h4 (hk₁' b o h1 h2 h3 h4 e)
   cases hp:p i with
   |false=>
    simp only[QX,if_false]
    refine⟨n+1-(i+1),by lia,h₃,tk₃,_,ys,i+1,rfl,hst₃,hacc₃,hn₃,hJ₃,hlt,rfl,?_,hk₃'⟩
    rw[Sa,QW]
    simp only[List.filter_cons,hp,QX,if_false,Sn,Sj]
    exact Paired.mono (stays_up fun b o h1 h2 h3 h4 e=>hk₃ b o h4 (hk₁ b o h1 h2 e)) hP
   |true=>
    simp only[if_true]
    intro _
    refine wpP.of (TT (helt i h₃ tk₃ m₁ _ hlt hp hB hst₃ hn₃ ⟨_,hacc₃⟩ hJ₃ hk₃') (fun y s₄ h₄=>?_) fun Z Z e=>e)
    obtain⟨hG,h₄,tk₄,rfl,hk₄,hJ₄⟩:=h₄
    have hys:ys.size<=Ux:=by
     have e1:=hP.length
     have e2:((TS i).filter p).length<=(TS i).length:=Qp _ _
     rw[Rl] at e2
     have e4:ys.toList.length=ys.size:=by simp
     lia
    refine wpAny_list_append_plain (hsz:=hys) (hacc₃.at fun o e=>hk₄ _ o hSD e) fun h₅ hl₅ hs₅=>?_
    refine⟨n+1-(i+1),by lia,h₅,tk₄,_,ys.push y,i+1,rfl,?_,hl₅,(hn₃.at' fun o e=>hk₄ _ o hSC e).sameBut hs₅ (Ne.symm hDC),hJk h₄ h₅ hJ₄ fun b o Z Z h3 e=>hs₅.extBut b o h3 e,hlt,rfl,?_,fun b o h1 h2 h3 h4 e=>hs₅.extBut b o h3 (hk₄ b o h4 (hk₃' b o h1 h2 h3 h4 e))⟩
    ·exact W.frame _ _ h₅ hst₃ fun b hb o e=>hs₅.extBut b o (fun h=>hDf (h ▸ hb)) (hk₄ b o (fun e'=>hSf b e' hb) e)
    ·rw[Sa,QW,Array.toList_push]
     simp only[List.filter_cons,hp,if_true,Sn]
     have hDo:∃o,h₃.get? D=some o:=⟨_,hacc₃.choose_spec⟩
     refine Paired.snoc (Paired.mono (stays_up fun b o h1 h2 h3 h4 e=>hs₅.extBut b o h3 (hk₄ b o h4 (hk₃ b o h4 (hk₁ b o h1 h2 e)))) hP) ⟨h₃,h₄,hG,(Js ?_ hDo (W.there _ _ hst₃) (hJS _ hJ₃)),fun b o e1 e2=>hs₅.extBut b o (fun e=>?_) e2,fun b o hX e=>hs₅.extBut b o (fun q=>hX (q ▸ .tail _ (.head _))) e⟩
     ·refine R7 hn₃ fun o Z Z ho Z=>?_;clear hn₃;exact⟨o,ho⟩
     ·refine oE hDo fun o' h'=>?_;clear hDo
      exact zg1 e e1 h'
 ·have hin:i=n:=by lia
  subst hin
  refine W.done _ _ _ hst' fun h₁ tk₁ hk₁=>?_
  exact hR h₁ tk₁ m' ys (hn'.at' fun o e=>hk₁ _ o hCw e) (hacc'.at fun o e=>hk₁ _ o hDw e) (Paired.mono (fun j y x=>El.casesOn x fun hb ha a b c=>(Fp hb ha a b.1 b.2.2.1 (fun b' o e1 e2=>hk₁ b' o (fun e=>by refine AX b fun Z Z h3 Z=>?_;clear b;refine oE (h3 b' e) fun o' h'=>?_;exact zs1 e1 h') (c.1 b' o e1 e2)) (fun b' o hX e=>hk₁ b' o (fun q=>hX (.tail _ (.tail _ (RS.mpr (.inl q))))) (c.2 b' o hX e)))) hP) (hJk _ _ hJ' fun b o Z h2 Z e=>hk₁ b o h2 e) fun b o h1 h2 h3 h4 e=>hk₁ b o h2 (hk b o h1 h2 h3 h4 e)
end K1
section
variable{prog:UF}{w:Va}{A:UP}{R:UT->UO->Prop}{s:UO}
theorem IY{prog w A R s elt b9 iter ifs scope pos it D fp wr n Bd St cenv m S J}(p)(G):K1.T prog w A R s elt b9 iter ifs scope pos it D fp wr n Bd St cenv m S J p G:=f7 (P:=K1.P9) (c:=K1.c) (by with_unfolding_all rfl) (by with_unfolding_all exact K1.walk) ((prog,w,A,R),(s,elt,b9,iter),(ifs,scope,pos,it),(D,fp,wr,n),(Bd,St,cenv,m),(S,J,p,G))
end
section
variable{prog:UF}{w:Va}{A:UP}{E:UX->UO->Prop}{env:Vn}{s:UO}
theorem LN{scope:Vb}{globals:Vf}{cl:List (Vk×Vf)}{qual:Vk}{M:Vc}{Q:Vn->UO->Prop}
  (h:Q {scope:=scope,locals:=s.heap.objs.size,globals:=globals,cells:=Un (s.heap.objs.size+1) scope.names cl,qual:=qual,func:=none,code:=env.code,frame:=env.frame,builtins:=env.builtins} {s with heap:=pushCells (s.heap.push {cls:= .type "dict",data:= .dict #[]}) scope.names}):
  UY M A (SD scope globals cl [] qual none .none (some env)) Q E s:=by
 simp only[SD,Option.isSome_some,if_true]
 refine TQ (wpAny_alloc ?_)
 refine TQ (wpAny_layCells _ (fun name kind cells=>by cases hkc:kind == NameKind.cell <;> simp[hkc]) _ _ _ _ ?_)
 rw[show({s with heap:=s.heap.push {cls:= .type "dict",data:= .dict #[]}}:UO).heap.objs.size=s.heap.objs.size+1 from Ss ..]
 exact TR h
noncomputable def i7(C:Vf)(scope:Vb):List Vf:=(Un (C+1) scope.names []).map (·.2)
structure PK(prog:UF)(w:Va)(A:UP)(env:Vn)(scope:Vb)(cl:List (Vk×Vf))(b9:Vh)(ifs:List Vh)(elt:Vh)(it:UX)(fp wr:List Vf)(n:Nat)
  (Bd:Nat->(Vk->Option UX)->Prop)(St:Nat->Vg->Prop)(p:Nat->Bool)(G:Nat->Vg->Vg->UX->Prop)(S:List Vf)(J:Vg->Prop)(D C:Vf)(s₂:UO):Prop where
 hD:D=s₂.heap.objs.size
 hC:C=s₂.heap.objs.size+1
 size:n<=Ux
 low:∀b∈fp,b<s₂.heap.objs.size
 off:∀a∈S,a∉fp
 slow:∀a∈S,a<s₂.heap.objs.size
 j0:∀h,(∀b o,s₂.heap.get? b=some o->h.get? b=some o)->J h
 js:∀h,J h->∀a∈S,∃o,h.get? a=some o
 jk:∀h h',J h->(∀b o,b≠C->b∉i7 C scope++wr->b≠D->h.get? b=some o->h'.get? b=some o)->J h'
 st:∀h,(∀b o,s₂.heap.get? b=some o->h.get? b=some o)->(∀x c,(x,c)∈Un (C+1) scope.names []->h.IsCell c none)->St 0 h
 pull:Ca prog w A it b9 (Uw scope (Un (C+1) scope.names cl) C env) (i7 C scope++fp) (i7 C scope++wr) n Bd St
 tests:∀i H tk m₂ E',i<n->Bd i m₂->St (i+1) H->H.Ns C m₂->(∃ys,H.PlainList D ys)->J H->(∀b o,b∉wr->b∉S->s₂.heap.get? b=some o->H.get? b=some o)->
  UY (UZ prog w) A (forIn ifs true fun c r=>if r=true then do let ok←isTrue c (Uw scope (Un (C+1) scope.names cl) C env) (Vi c (Uw scope (Un (C+1) scope.names cl) C env));pure (RV ok) else pure (RV r))
   (fun ok s₃=>ok=p i/\GL S J {s₂ with heap:=H,toks:=tk} s₃) E' {s₂ with heap:=H,toks:=tk}
 elt:∀i H tk m₂ E',i<n->p i=true->Bd i m₂->St (i+1) H->H.Ns C m₂->(∃ys,H.PlainList D ys)->J H->(∀b o,b∉wr->b∉S->s₂.heap.get? b=some o->H.get? b=some o)->
  UY (UZ prog w) A (Vi elt (Uw scope (Un (C+1) scope.names cl) C env)) (fun y s₃=>G i H s₃.heap y/\GL S J {s₂ with heap:=H,toks:=tk} s₃) E' {s₂ with heap:=H,toks:=tk}
theorem MQ{C:Vf}{scope:Vb}{c:Vf}(h:c∈i7 C scope):∃x,(x,c)∈Un (C+1) scope.names []:=by
 (refine oEA (Tg.mp h) fun q hq o0_=>?_;obtain rfl:=o0_)
 exact⟨q.1,hq⟩
theorem CK{elt b9 iter:Vh}{ifs:List Vh}{scope:Vb}{cl:List (Vk×Vf)}{pos:Pos}{s₂:UO}{it:UX}{fp wr:List Vf}{n:Nat}{Bd:Nat->(Vk->Option UX)->Prop}
  {St:Nat->Vg->Prop}{p:Nat->Bool}{G:Nat->Vg->Vg->UX->Prop}{RR:UX->Vf->UT->UO->Prop}{S:List Vf}{J:Vg->Prop}{D C:Vf}
  (K:PK prog w A env scope cl b9 ifs elt it fp wr n Bd St p G S J D C s₂)
  (hRR:∀h' tk m' ys,h'.Ns C m'->h'.PlainList D ys->Paired (fun j y=>∃hb ha,G j hb ha y/\(∃o,hb.get? C=some o)/\(∀b∈i7 C scope++wr,∃o,hb.get? b=some o)/\GK (C::D::((i7 C scope++wr)++S)) hb ha h') ((TS n).filter p) ys.toList->
   J h'->(∀b o,b∉wr->b∉S->s₂.heap.get? b=some o->h'.get? b=some o)->RR (.ref D) C (.ok .next) {s₂ with heap:=h',toks:=tk}):
  UY (UZ prog w) A (newList []) (fun acc s₃=>UY (UZ prog w) A (SD scope env.globals cl [] env.qual none .none (some env)) (fun cenv s₄=>
   UI (UZ prog w) A (.compStart (.ListComp elt [⟨b9,iter,ifs,0⟩] scope pos) 0 it acc {cenv with scope:=UJ scope env}) (RR acc cenv.locals) s₄) E s₃) E s₂:=by
 refine Ru (LN ?_)
 dsimp only
 have hDe:=K.hD
 have hCe:=K.hC
 generalize hH2:s₂.heap.push {cls:= .type "list",dict:=none,data:= .seq ([]:List UX).toArray}=H2
 have hC:H2.objs.size=C:=by rw[←hH2,Ss,hCe]
 rw[hC, ←hDe]
 have ok:=cellsFrom_ok scope.names (H2.push {cls:= .type "dict",data:= .dict #[]}) (C+1) [] ⟨fun Z Z hm=>(nomatch hm),List.Pairwise.nil⟩ (by rw[Ss,hC];exact TA _)
 rw[Ss,hC] at ok
 generalize hH1:pushCells (H2.push {cls:= .type "dict",data:= .dict #[]}) scope.names=h₁ at ok
 have k21:∀b o,H2.get? b=some o->h₁.get? b=some o:=fun b o e=>hH1 ▸ pushCells_keeps _ _ b o (Qj _ e)
 have hns:h₁.Ns C (fun Z=>none):=by
  have:=(Vg.Ns.new H2 (.type "dict")).keeps (pushCells_keeps scope.names _)
  rw[hC,hH1] at this;exact this
 have hDC:D≠C:=by rw[hDe,hCe];exact Tb (RC _)
 have hDlt:D<C:=by rw[hDe,hCe];exact RC _
 have old:∀b o,s₂.heap.get? b=some o->h₁.get? b=some o:=fun b o e=>k21 b o (hH2 ▸ Qj _ e)
 have hacc:h₁.PlainList D #[]:=⟨_,k21 _ _ (by rw[hDe];exact hH2 ▸ QD _ rfl)⟩
 have below:∀b,b<s₂.heap.objs.size->b≠C/\b≠D:=fun b hb=>⟨by rw[hCe];exact Tb (Ri hb),by rw[hDe];exact Tb hb⟩
 have ownLt:∀c∈i7 C scope,C<c:=fun c hc=>by
  refine oE (MQ hc) fun x hx=>?_
  exact(ok.empty x c hx).2
 have fpLow:∀b∈fp,b≠C/\b≠D:=fun b hb=>below b (K.low b hb)
 have hDf:D∉i7 C scope++fp:=fun hm=>by
  rcases RS.mp hm with hm|hm
  ·exact absurd (Tf (ownLt _ hm) hDlt) (SK _)
  ·exact(fpLow _ hm).2 rfl
 have hCf:C∉i7 C scope++fp:=fun hm=>by
  rcases RS.mp hm with hm|hm
  ·exact absurd (ownLt _ hm) (SK _)
  ·exact(fpLow _ hm).1 rfl
 have sizeC:s₂.heap.objs.size<C:=by rw[hCe];exact RC _
 have hSf:∀a∈S,a∉i7 C scope++fp:=fun a ha hm=>by
  rcases RS.mp hm with hm|hm
  ·exact absurd (Tf (Tf (K.slow a ha) sizeC) (ownLt _ hm)) (SK _)
  ·exact K.off a ha hm
 have up:∀H:Vg,(∀b o,b≠C->b∉i7 C scope++wr->b≠D->b∉S->h₁.get? b=some o->H.get? b=some o)->∀b o,b∉wr->b∉S->s₂.heap.get? b=some o->H.get? b=some o:=
  fun H hk b o hbw hbS e=>hk b o (below b (Tc e)).1 (fun hm=>by
   rcases RS.mp hm with hm|hm
   ·exact absurd (Tf (Tf (Tc e) sizeC) (ownLt _ hm)) (SK _)
   ·exact hbw hm) (below b (Tc e)).2 hbS (old b o e)
 have hst₁:St 0 h₁:=K.st h₁ old fun x c hm=>(ok.empty x c hm).1
 have loop:∀s₃:UO,s₃={s₂ with heap:=h₁,toks:=s₂.toks}->
   UI (UZ prog w) A (.compLoop (.ListComp elt [⟨b9,iter,ifs,0⟩] scope pos) 0 it (.ref D) (Uw scope (Un (C+1) scope.names cl) C env)) (RR (.ref D) C) s₃:=by
  rintro s₃ rfl
  refine IY (cenv:=Uw scope (Un (C+1) scope.names cl) C env) p G K.pull K.size hDC hDf hCf hSf (fun h=>(below _ (K.slow _ h)).2 rfl) (fun h=>(below _ (K.slow _ h)).1 rfl) (K.j0 h₁ old) K.js K.jk hst₁ hacc hns
   (fun i H tk m₂ E' hi hb hs hn hd hj hk=>K.tests i H tk m₂ E' hi hb hs hn hd hj (up H hk))
   (fun i H tk m₂ E' hi hp hb hs hn hd hj hk=>K.elt i H tk m₂ E' hi hp hb hs hn hd hj (up H hk))
   fun h' tk m' ys hn hpl hP hj hk=>?_
  exact hRR h' tk m' ys hn hpl hP hj (up h' hk)
 exact codeAny_compStart_list (loop _ rfl) (K.pull.self 0 _ _ _ hst₁ (loop _ rfl))
inductive EW(prog:UF)(w:Va)(A:UP)(env:Vn)(scope:Vb)(cl:List (Vk×Vf))(b9:Vh)(ifs:List Vh)(elt:Vh)(h₀:Vg)(L:Vf)(it:UX)(s₂:UO)
  (fin:(Vk->Option UX)->List (Vf×Vl)->Vf->List UX->Nat->Vg->Nat->Prop):Prop
 |mk(fp:List Vf)(wr:List Vf)(n:Nat)(Bd:Nat->(Vk->Option UX)->Prop)(St:Nat->Vg->Prop)(p:Nat->Bool)(G:Nat->Vg->Vg->UX->Prop)(S:List Vf)(J:Vg->Prop)(D:Vf)(C:Vf)(m:Vk->Option UX)(news:List (Vf×Vl))(a0:PK prog w A env scope cl b9 ifs elt it fp wr n Bd St p G S J D C s₂)(a1:Fr h₀ L s₂.heap m)(a2:News h₀ L s₂.heap news)(a3:(∀h,J h->h.Ns L m))(a4:(∀q∈news,q.1∉wr/\q.1∉S))(a5:(∀b∈wr,h₀.get? b=none))(a6:(∀b∈S,h₀.get? b=none))(a7:∀D9 ys k h' tk,Fr h₀ L h' m->News h₀ L h' ((D9,W.listOf ys.toArray k)::news)->(∀q∈news,q.1≠D9)->Paired (fun j y=>∃hb ha,G j hb ha y/\(∃o,hb.get? C=some o)/\GK (C::D::((i7 C scope++wr)++S)) hb ha h') ((TS n).filter p) ys->J h'->fin m news D9 ys k h' tk)
theorem EP{h₀ h h':Vg}{L D:Vf}{m:Vk->Option UX}{news:List (Vf×Vl)}{wr S:List Vf}{ys:Array UX}(F:Fr h₀ L h m)(N:News h₀ L h news)(hN:∀q∈news,q.1∉wr/\q.1∉S)(h0:∀b∈wr,h₀.get? b=none)(hS:∀b∈S,h₀.get? b=none)
  (hnL:h'.Ns L m)(hk:∀b o,b∉wr->b∉S->h.get? b=some o->h'.get? b=some o)(hD:h.get? D=none)(hpl:h'.PlainList D ys):
  Fr h₀ L h' m/\(∃k,News h₀ L h' ((D,W.listOf ys k)::news))/\(∀q∈news,q.1≠D):=by
 refine R7 F.ns fun oL es ep hoL r=>?_
 have hL0:D≠L:=fun e=>by exact zg1 e hD hoL
 have k0:∀b o,h₀.get? b=some o->h'.get? b=some o:=fun b o e=>hk b o (fun hb=>by exact zs1 (h0 b hb) e) (fun hb=>by exact zs1 (hS b hb) e) (F.keep b o e)
 refine(iAA ⟨hnL,k0,F.above⟩ ?_ (fun q hq e=>?_))
 ·refine oE hpl fun k ho=>?_;clear hpl
  refine⟨k,fun q hq=>?_⟩
  rcases SH.mp hq with rfl|hq
  ·refine(iAA ho hL0 ?_)
   cases q:h₀.get? D with
   |none=>rfl
   |some o=>exact zs1 hD (F.keep _ _ q)
  ·exact⟨hk _ _ (hN q hq).1 (hN q hq).2 (N q hq).1,(N q hq).2⟩
 ·exact zg1 e.symm hD ((N q hq).1)
end
namespace J9
noncomputable def T(prog:UF)(w:Va)(A:UP)(E:UX->UO->Prop)(env:Vn)(s:UO)(elt:Vh)(b9:Vh)(iter:Vh)(ifs:List Vh)(scope:Vb)(cl:List (Prod Vk Vf))(pos:Pos)(Q:UX->UO->Prop)(h₀:Vg)(L:Vf):Prop:=∀(hclos:closureFor scope env=pure cl)(hkind:scope.kind= .function)(hnames:∀y∈scope.names,y.2= .local->scope.names.lookup y.1=some .local)(hs:∀x,Ry iter env x=pure x)(h:UY (UZ prog w) A (Vi iter env) (fun xv s₁=>UY (UZ prog w) A (UU xv) (fun it s₂=>EW prog w A env scope cl b9 ifs elt h₀ L it s₂ fun Z Z D Z Z h' tk=>Q (.ref D) {s₂ with heap:=h',toks:=tk}) E s₁) E s),UY (UZ prog w) A (Vi (.ListComp elt [⟨b9,iter,ifs,0⟩] scope pos) env) Q E s
noncomputable def P9:=V4 fun prog w A E=>V4 fun env s elt b9=>V4 fun iter ifs scope cl=>U4 fun pos Q h₀ L=>T prog w A E env s elt b9 iter ifs scope cl pos Q h₀ L
@[irreducible] noncomputable def c:=y6 (by k_extra "ne") P9
@[irreducible] noncomputable def prog:=c.1.1
@[irreducible] noncomputable def w:=c.1.2.1
@[irreducible] noncomputable def A:=c.1.2.2.1
@[irreducible] noncomputable def E:=c.1.2.2.2
@[irreducible] noncomputable def env:=c.2.1.1
@[irreducible] noncomputable def s:=c.2.1.2.1
@[irreducible] noncomputable def elt:=c.2.1.2.2.1
@[irreducible] noncomputable def b9:=c.2.1.2.2.2
@[irreducible] noncomputable def iter:=c.2.2.1.1
@[irreducible] noncomputable def ifs:=c.2.2.1.2.1
@[irreducible] noncomputable def scope:=c.2.2.1.2.2.1
@[irreducible] noncomputable def cl:=c.2.2.1.2.2.2
@[irreducible] noncomputable def pos:=c.2.2.2.1
@[irreducible] noncomputable def Q:=c.2.2.2.2.1
@[irreducible] noncomputable def h₀:=c.2.2.2.2.2.1
@[irreducible] noncomputable def L:=c.2.2.2.2.2.2
theorem walk:T prog w A E env s elt b9 iter ifs scope cl pos Q h₀ L:=by
 intro hclos hkind hnames hs h
 rw[eval_ListComp]
 refine wpAny_comprehension_free (use:=none) rfl hs hclos hkind hnames (TT h (fun xv s₁ h₁=>TT h₁ (fun it s₂ h₂=>?_) fun Z Z e=>e) fun Z Z e=>e)
 obtain⟨fp,wr,n,Bd,St,p,G,S,J,D,C,m,news,K,F,N,hJn,hN,h0,hS,hQ⟩:=h₂
 refine CK (RR:=fun acc C=>compPost (UZ prog w) A E none Q acc C) K ?_
 intro h' tk m' ys hn hpl hP hj hk
 have hDC:D≠C:=by rw[K.hD,K.hC];exact Tb (RC _)
 have hD:s₂.heap.get? D=none:=Qv (Tn K.hD.symm)
 have hC:s₂.heap.get? C=none:=Qv (by rw[K.hC];exact TG _)
 refine(iEA m' hn (fun h'' hs''=>?_))
 have hj'':J h'':=K.jk h' h'' hj fun b o hb Z Z e=>hs''.extBut b o hb e
 (refine oAA (EP F N hN h0 hS (hJn _ hj'') (fun b o hbf hbL e=>hs''.extBut b o (by rintro rfl;exact zs1 hC e) (hk b o hbf hbL e)) hD (hpl.extBut hs''.extBut hDC)) fun F' o0_ hne=>?_;refine oE o0_ fun k N'=>?_;clear o0_)
 refine hQ D ys.toList k h'' tk F' (by rw[Qy];exact N') hne (Paired.mono (fun j y x=>E4 x fun hb ha a b Z c=>(IR hb ha a b (fun b' o e1 e2=>hs''.extBut b' o (fun e=>?_) (c.1 b' o e1 e2)) (fun b' o hX e=>hs''.extBut b' o (fun q=>hX (q ▸ .head _)) (c.2 b' o hX e)))) hP) hj''
 refine oE b fun o' h'=>?_;clear b
 exact zg1 e e1 h'
end J9
section
variable{prog:UF}{w:Va}{A:UP}{E:UX->UO->Prop}{env:Vn}{s:UO}
theorem Ex{prog w A E env s elt b9 iter ifs scope cl pos Q h₀ L}:J9.T prog w A E env s elt b9 iter ifs scope cl pos Q h₀ L:=f7 (P:=J9.P9) (c:=J9.c) (by with_unfolding_all rfl) (by with_unfolding_all exact J9.walk) ((prog,w,A,E),(env,s,elt,b9),(iter,ifs,scope,cl),(pos,Q,h₀,L))
end
namespace B6
noncomputable def T(prog:UF)(w:Va)(A:UP)(E:UX->UO->Prop)(env:Vn)(s:UO)(elt:Vh)(b9:Vh)(iter:Vh)(ifs:List Vh)(y:Vk)(py:Pos)(scope:Vb)(cl:List (Prod Vk Vf))(pos:Pos)(De:Pos)(Q:Flow->UO->Prop)(h₀:Vg):Prop:=∀(hsw:swapsWith (.ListComp elt [⟨b9,iter,ifs,0⟩] scope pos) (some (.Name y py)) De.line env=pure true)(hclos:closureFor scope env=pure cl)(hkind:scope.kind= .function)(hnames:∀z∈scope.names,z.2= .local->scope.names.lookup z.1=some .local)(hs:∀x,Ry iter env x=pure x)(hy:env.kindOf y=some .local)(hp:(env.scope.kind == .class || (env.scope.kind == .module && env.locals != env.globals))=false)(h:UY (UZ prog w) A (Vi iter env) (fun xv s₁=>UY (UZ prog w) A (UU xv) (fun it s₂=>EW prog w A env scope cl b9 ifs elt h₀ env.locals it s₂ fun m news D ys k h' Z=>
   ∀h'' tk'',Fr h₀ env.locals h'' (fun z=>if z=y then some (.ref D) else m z)->News h₀ env.locals h'' ((D,W.listOf ys.toArray k)::news)->(∀b o,b≠env.locals->s₂.heap.objs.size+1≠b->h'.get? b=some o->h''.get? b=some o)->Q .next {s₂ with heap:=h'',toks:=tk''}) E s₁) E s),UY (UZ prog w) A (exec (.Assign [.Name y py] (.ListComp elt [⟨b9,iter,ifs,0⟩] scope pos) De) env) Q E s
noncomputable def P9:=V4 fun prog w A E=>V4 fun env s elt b9=>V4 fun iter ifs y py=>V4 fun scope cl pos De=>U2 fun Q h₀=>T prog w A E env s elt b9 iter ifs y py scope cl pos De Q h₀
@[irreducible] noncomputable def c:=y6 (by k_extra "ne") P9
@[irreducible] noncomputable def prog:=c.1.1
@[irreducible] noncomputable def w:=c.1.2.1
@[irreducible] noncomputable def A:=c.1.2.2.1
@[irreducible] noncomputable def E:=c.1.2.2.2
@[irreducible] noncomputable def env:=c.2.1.1
@[irreducible] noncomputable def s:=c.2.1.2.1
@[irreducible] noncomputable def elt:=c.2.1.2.2.1
@[irreducible] noncomputable def b9:=c.2.1.2.2.2
@[irreducible] noncomputable def iter:=c.2.2.1.1
@[irreducible] noncomputable def ifs:=c.2.2.1.2.1
@[irreducible] noncomputable def y:=c.2.2.1.2.2.1
@[irreducible] noncomputable def py:=c.2.2.1.2.2.2
@[irreducible] noncomputable def scope:=c.2.2.2.1.1
@[irreducible] noncomputable def cl:=c.2.2.2.1.2.1
@[irreducible] noncomputable def pos:=c.2.2.2.1.2.2.1
@[irreducible] noncomputable def De:=c.2.2.2.1.2.2.2
@[irreducible] noncomputable def Q:=c.2.2.2.2.1
@[irreducible] noncomputable def h₀:=c.2.2.2.2.2
theorem walk:T prog w A E env s elt b9 iter ifs y py scope cl pos De Q h₀:=by
 intro hsw hclos hkind hnames hs hy hp h
 rw[exec_Assign_Name_used _ _ _ _ hsw]
 refine TQ (SS (TQ ?_))
 show UY _ A (do let _←comprehension (.ListComp elt [⟨b9,iter,ifs,0⟩] scope pos) scope env _ (newList []) false (Vi iter env) (some (assign (.Name y py) env))) _ _ s
 refine TQ (TT (wpAny_comprehension_free (use:=some (assign (.Name y py) env)) (Q:=fun Z s'=>Q .next s') rfl hs hclos hkind hnames
  (TT h (fun xv s₁ h₁=>TT h₁ (fun it s₂ h₂=>?_) fun Z Z e=>e) fun Z Z e=>e)) (fun Z s' hq=>TR (TR hq)) fun Z Z e=>e)
 obtain⟨fp,wr,n,Bd,St,p,G,S,J,D,C,m,news,K,F,N,hJn,hN,h0,hS,hQ⟩:=h₂
 refine CK (RR:=fun acc C=>compPost (UZ prog w) A E (some (assign (.Name y py) env)) (fun Z s'=>Q .next s') acc C) K ?_
 intro h' tk m' ys hn hpl hP hj hk
 have hDC:D≠C:=by rw[K.hD,K.hC];exact Tb (RC _)
 have hD:s₂.heap.get? D=none:=Qv (Tn K.hD.symm)
 have hC:s₂.heap.get? C=none:=Qv (by rw[K.hC];exact TG _)
 refine R7 (id F.ns) fun oL es ep hoL r=>?_
 have hLC:env.locals≠C:=by rintro e;exact zg1 e.symm hC hoL
 have hLD:env.locals≠D:=by rintro e;exact zg1 e.symm hD hoL
 have hn':=hJn _ hj
 show UY _ A (assign (.Name y py) env (.ref D)) _ _ _
 refine Rk (Qn hy hn' (fun h₂ hn₂ hs₂=>?_) hp)
 refine(iEA m' (hn.sameBut hs₂ (Ne.symm hLC)) (fun h'' hs''=>?_))
 (refine oAA (EP F N hN h0 hS hn' hk hD hpl) fun F' o0_ hne=>?_;refine oE o0_ fun k N'=>?_;clear o0_)
 have up:∀b o,b≠env.locals->b≠C->h'.get? b=some o->h''.get? b=some o:=fun b o h1 h2 e=>hs''.extBut b o h2 (hs₂.extBut b o h1 e)
 have hCn:∀q∈(D,W.listOf ys k)::news,q.1≠C:=by
  intro q hq e
  rcases SH.mp hq with rfl|hq
  ·exact hDC e
  ·exact zg1 e.symm hC ((N q hq).1)
 refine hQ D ys.toList k h' tk F' (by rw[Qy];exact N') hne (Paired.mono (fun j y x=>E4 x fun hb ha a b Z c=>(H5 hb ha a b c)) hP) hj h'' _ ?_ ?_ ?_
 ·refine⟨hn₂.sameBut hs'' hLC,fun b o e=>up b o (fun e'=>?_) (fun e'=>?_) (F'.keep b o e),F'.above⟩
  ·exact absurd (Tc e) (TY.mpr (e' ▸ F.above))
  ·rw[e'] at e;exact zs1 hC (F.keep _ _ e)
 ·rw[Qy]
  intro q hq
  exact⟨up _ _ (N' q hq).2.1 (hCn q hq) (N' q hq).1,(N' q hq).2⟩
 ·exact fun b o h1 h2 e=>up b o h1 (fun q=>h2 (by rw[q,K.hC])) e
end B6
section
variable{prog:UF}{w:Va}{A:UP}{E:UX->UO->Prop}{env:Vn}{s:UO}
theorem BX{prog w A E env s elt b9 iter ifs y py scope cl pos De Q h₀}:B6.T prog w A E env s elt b9 iter ifs y py scope cl pos De Q h₀:=f7 (P:=B6.P9) (c:=B6.c) (by with_unfolding_all rfl) (by with_unfolding_all exact B6.walk) ((prog,w,A,E),(env,s,elt,b9),(iter,ifs,y,py),(scope,cl,pos,De),(Q,h₀))
end
end Mine
end
section
open PySem PySem.W PySem.Calls PyProof.Rows PySem.Spec
namespace Mine
theorem AF{h₀ H:Vg}{L:Vf}{m:Vk->Option UX}(F:Fr h₀ L H m)(S:List Vf):∃rest,News h₀ L H rest/\(∀q∈rest,q.1∉S)/\∀b o,H.get? b=some o->b=L\/b∈S\/h₀.get? b=some o\/(b,o)∈rest:=by
 refine oEA (i4 F) fun rest N hall=>?_
 refine(V8 (rest.filter fun q=>decide (q.1∉S)) (fun q hq=>N q (Sd.mp hq).1) (fun q hq=>by simpa using(Sd.mp hq).2) (fun b o e=>?_))
 rcases hall b o e with h|h|h
 ·exact .inl h
 ·exact .inr (.inr (.inl h))
 ·by_cases hb:b∈S
  ·exact .inr (.inl hb)
  ·exact .inr (.inr (.inr (Sd.mpr ⟨h,by simpa using hb⟩)))
noncomputable def KA(h:Vg)(X:List Vf)(ps:Array UX):Prop:=
 h.get? 222=some (UQ ps)/\A5 h 222 qualR ps/\∀pos cv,codeAmong pos ps.toList=some cv->∃c',cv= .ref c'/\c'∉X
theorem KA.keeps{h h':Vg}{X:List Vf}{ps:Array UX}(x:KA h X ps)(hX:222∉X)(hk:∀b o,b∉X->h.get? b=some o->h'.get? b=some o):KA h' X ps:=by
 refine oAA x fun e ok ap=>?_;clear x
 refine(iAA (hk _ _ hX e) ⟨ok.1,fun pos cv q=>?_⟩ ap)
 refine L1 (ok.2 pos cv q) fun c' e1 hne r=>?_
 refine oEA (ap pos cv q) fun c2 e2 hc2=>?_
 rw[e1] at e2;cases e2
 refine Io r fun c o vs t e3 g rr=>?_;clear r
 cases e3
 exact⟨c',e1,hne,c',o,vs,t,rfl,hk _ _ hc2 g,rr⟩
noncomputable def A9(o:Vl):Prop:=∃vs q t,o.data= .fields vs/\vs[1]? =some (.str q t)
theorem KA.of{h:Vg}{X:List Vf}{ps:Array UX}(e:h.get? 222=some (UQ ps))(ok:A5 h 222 qualR ps)(hX:∀b∈X,∀o,h.get? b=some o→¬A9 o):KA h X ps:=by
 refine(iAA e ok (fun pos cv q=>?_))
 refine Fk (ok.2 pos cv q) fun c' e1 hne c o vs t e3 g d v=>?_
 cases e1
 cases e3
 exact(iEA c' rfl (fun hm=>hX _ hm o g (Hh vs qualR t d v)))
noncomputable def AL(ha h:Vg):Prop:=∀b o,b≠222->A9 o->ha.get? b=some o->h.get? b=some o
noncomputable def Av(L C:Vf)(ha h:Vg):Prop:=∀b o,b≠222->A9 o->ha.get? b=some o->b≠L/\b≠C/\h.get? b=some o
theorem AL.rec{ha h:Vg}(k:AL ha h)(c:Vf)(q:Vk)(hc:c≠222)(x:ha.CodeRec (.ref c) q):h.CodeRec (.ref c) q:=by
 refine C6 x fun c' o vs t e g d v=>?_;clear x
 cases e
 exact⟨c,o,vs,t,rfl,k c o hc (Hh vs q t d v) g,d,v⟩
theorem A5.up{h h':Vg}{ps:Array UX}(ok:A5 h 222 qualR ps)(k:AL h h'):A5 h' 222 qualR ps:=by
 refine⟨ok.1,fun pos cv e=>?_⟩
 refine L1 (ok.2 pos cv e) fun c' e1 hne r=>?_
 exact(V8 c' e1 hne (k.rec c' _ hne r))
noncomputable def NW(C:Vf)(h:Vg)(ps:Array UX):Prop:=A5 h 222 qualR ps/\∀pos cv,codeAmong pos ps.toList=some cv->cv≠ .ref C
theorem HL{h₀ h h':Vg}{L C:Vf}{m:Vk->Option UX}{ps:Array UX}(x:NW C h ps)(F:Fr h₀ L h m)(k:∀b o,b≠L->C≠b->h.get? b=some o->h'.get? b=some o):A5 h' 222 qualR ps:=by
 refine⟨x.1.1,fun pos cv e=>?_⟩
 refine L1 (x.1.2 pos cv e) fun c' e1 hne r=>?_
 refine(V8 c' e1 hne ?_)
 refine C6 r fun c o vs t e2 g d v=>?_;clear r
 have e3:c=c':=by cases e2;rfl
 subst e3
 refine⟨c,o,vs,t,rfl,k c o (fun q=>?_) (fun q=>x.2 pos cv e (by rw[e1,q])) g,d,v⟩
 refine R3 F.ns fun o' es ep g' d' Z=>?_
 rw[q,g'] at g
 cases g
 rw[d'] at d;cases d
inductive W4(h₀:Vg)(L:Vf)(m:Vk->Option UX)(V7:List (Vf×Vl))(g:Vg->UX->Prop)(s:UO)(y:UX)(s':UO):Prop
 |mk(h':Vg)(tk:Nat)(ps':Array UX)(a0:s'={s with heap:=h',toks:=tk})(a1:Fr h₀ L h' m)(a2:News h₀ L h' ((222,UQ ps')::V7))(a3:A5 h' 222 qualR ps')(a4:g h' y)
theorem W4.intro{h₀ h':Vg}{L:Vf}{m:Vk->Option UX}{V7:List (Vf×Vl)}{g:Vg->UX->Prop}{s:UO}{y:UX}{tk:Nat}{ps':Array UX}(F:Fr h₀ L h' m)(N:News h₀ L h' ((222,UQ ps')::V7))(ok:A5 h' 222 qualR ps')(hg:g h' y):
  W4 h₀ L m V7 g s y {s with heap:=h',toks:=tk}:=⟨h',tk,ps',rfl,F,N,ok,hg⟩
section
variable{prog:UF}{w:Va}{A:UP}{E:UX->UO->Prop}{env:Vn}{s:UO}{h₀:Vg}{L:Vf}{m:Vk->Option UX}{news:List (Vf×Vl)}{ps:Array UX}
 {scope:Vb} {cl:List (Vk×Vf)} {elt:Vh} {fin:UO->(Vk->Option UX)->List (Vf×Vl)->Vf->List UX->Nat->Vg->Nat->Prop}
end
namespace Ar
noncomputable def T(prog:UF)(w:Va)(A:UP)(env:Vn)(s:UO)(h₀:Vg)(L:Vf)(m:Vk->Option UX)(news:List (Prod Vf Vl))(ps:Array UX)(scope:Vb)(cl:List (Prod Vk Vf))(elt:Vh)(fin:UO->(Vk->Option UX)->List (Prod Vf Vl)->Vf->List UX->Nat->Vg->Nat->Prop)(b9:Vh)(it:UX)(fp:List Vf)(wr:List Vf)(n:Nat)(Bd:Nat->(Vk->Option UX)->Prop)(St:Nat->Vg->Prop)(D:Vf)(C:Vf)(G:Nat->Vg->Vg->UX->Prop):Prop:=∀(hD:D=s.heap.objs.size)(hC:C=s.heap.objs.size+1)(hsz:n<=Ux)(hlow:∀b∈fp,b<s.heap.objs.size)(hst:∀h,(∀b o,s.heap.get? b=some o->h.get? b=some o)->(∀x c,(x,c)∈Un (C+1) scope.names []->h.IsCell c none)->St 0 h)(hpull:Ca prog w A it b9 (Uw scope (Un (C+1) scope.names cl) C env) (i7 C scope++fp) (i7 C scope++wr) n Bd St)(hown:∀c∈i7 C scope,C<c)(F:Fr h₀ L s.heap m)(N:News h₀ L s.heap ((222,UQ ps)::news))(hn22:∀q∈news,q.1≠222)(ok:A5 s.heap 222 qualR ps)(hLf:L∉fp)(h2f:222∉fp)(hwr:∀b∈wr,h₀.get? b=none)(hnw:∀q∈news,q.1∉wr)(hsub:∀b∈wr,b∈fp)(hwcode:∀b∈wr,∀o,s.heap.get? b=some o→¬A9 o)(hStown:∀i H,St i H->∀b∈i7 C scope++wr,∀o,H.get? b=some o→¬A9 o)(elts:∀i oC u H tk rest ps E',i<n->Bd i u->St (i+1) H->NsO oC u->Fr h₀ L H m->News h₀ L H ((222,UQ ps)::(C,oC)::(news++rest))->(∀q∈(C,oC)::(news++rest),q.1≠222)->A5 H 222 qualR ps->(∀b∈i7 C scope,∀o,H.get? b=some o->(b,o)∈rest)->
   UY (UZ prog w) A (Vi elt (Uw scope (Un (C+1) scope.names cl) C env)) (W4 h₀ L m ((C,oC)::(news++rest)) (G i H) {s with heap:=H,toks:=tk}) E' {s with heap:=H,toks:=tk})(hfin:∀D ys k h' tk ps',Fr h₀ L h' m->News h₀ L h' ((D,W.listOf ys.toArray k)::(222,UQ ps')::news)->(∀q∈(222,UQ ps')::news,q.1≠D)->NW (s.heap.objs.size+1) h' ps'->Paired (fun j y=>∃hb ha,G j hb ha y/\(∃o,hb.get? (s.heap.objs.size+1)=some o)/\C5 hb ha h'/\Av L (s.heap.objs.size+1) ha h') (TS n) ys->fin s m news D ys k h' tk),EW prog w A env scope cl b9 [] elt h₀ L it s (fin s)
noncomputable def P9:=V4 fun prog w A env=>V4 fun s h₀ L m=>V4 fun news ps scope cl=>V4 fun elt fin b9 it=>V4 fun fp wr n Bd=>U4 fun St D C G=>T prog w A env s h₀ L m news ps scope cl elt fin b9 it fp wr n Bd St D C G
@[irreducible] noncomputable def c:=y6 (by k_extra "ne") P9
@[irreducible] noncomputable def prog:=c.1.1
@[irreducible] noncomputable def w:=c.1.2.1
@[irreducible] noncomputable def A:=c.1.2.2.1
@[irreducible] noncomputable def env:=c.1.2.2.2
@[irreducible] noncomputable def s:=c.2.1.1
@[irreducible] noncomputable def h₀:=c.2.1.2.1
@[irreducible] noncomputable def L:=c.2.1.2.2.1
@[irreducible] noncomputable def m:=c.2.1.2.2.2
@[irreducible] noncomputable def news:=c.2.2.1.1
@[irreducible] noncomputable def ps:=c.2.2.1.2.1
@[irreducible] noncomputable def scope:=c.2.2.1.2.2.1
@[irreducible] noncomputable def cl:=c.2.2.1.2.2.2
@[irreducible] noncomputable def elt:=c.2.2.2.1.1
@[irreducible] noncomputable def fin:=c.2.2.2.1.2.1
@[irreducible] noncomputable def b9:=c.2.2.2.1.2.2.1
@[irreducible] noncomputable def it:=c.2.2.2.1.2.2.2
@[irreducible] noncomputable def fp:=c.2.2.2.2.1.1
@[irreducible] noncomputable def wr:=c.2.2.2.2.1.2.1
@[irreducible] noncomputable def n:=c.2.2.2.2.1.2.2.1
@[irreducible] noncomputable def Bd:=c.2.2.2.2.1.2.2.2
@[irreducible] noncomputable def St:=c.2.2.2.2.2.1
@[irreducible] noncomputable def D:=c.2.2.2.2.2.2.1
@[irreducible] noncomputable def C:=c.2.2.2.2.2.2.2.1
@[irreducible] noncomputable def G:=c.2.2.2.2.2.2.2.2
theorem walk:T prog w A env s h₀ L m news ps scope cl elt fin b9 it fp wr n Bd St D C G:=by
 intro hD hC hsz hlow hst hpull hown F N hn22 ok hLf h2f hwr hnw hsub hwcode hStown elts hfin
 have hLlt:=F.ns.lt
 have h22:s.heap.get? 222=some (UQ ps):=(N _ (.head _)).1
 have h2lt:222<s.heap.objs.size:=Tc h22
 have h2L:(222:Vf)≠L:=(N _ (.head _)).2.1
 have h20:h₀.get? 222=none:=(N _ (.head _)).2.2
 have hCs:s.heap.objs.size<C:=by rw[hC];exact RC _
 have h2X:222∉C::D::(i7 C scope++wr):=fun hm=>by
  rcases SH.mp hm with e|hm
  ·exact absurd (Tf h2lt hCs) (e ▸ SK _)
  ·rcases SH.mp hm with e|hm
   ·rw[hD] at e;exact absurd h2lt (e ▸ SK _)
   ·rcases RS.mp hm with hm|hm
    ·exact absurd (Tf (Tf h2lt hCs) (hown _ hm)) (SK _)
    ·exact h2f (hsub _ hm)
 have lowX:∀b∈C::D::(i7 C scope++wr),∀o,s.heap.get? b=some o->b∈wr:=fun b hm o e=>by
  rcases SH.mp hm with q|hm
  ·exact absurd (Tf (Tc e) hCs) (q ▸ SK _)
  ·rcases SH.mp hm with q|hm
   ·rw[hD] at q;exact absurd (Tc e) (q ▸ SK _)
   ·rcases RS.mp hm with hm|hm
    ·exact absurd (Tf (Tf (Tc e) hCs) (hown _ hm)) (SK _)
    ·exact hm
 have T0:KA s.heap (C::D::(i7 C scope++wr)) ps:=KA.of h22 ok fun b hm o e=>hwcode b (lowX b hm o e) o e
 refine⟨fp,wr,n,Bd,St,(fun Z=>true),(fun i hb ha y=>G i hb ha y/\∀b∈L::C::D::(i7 C scope++wr),∀o,ha.get? b=some o→¬A9 o),[L,222],(fun h=>h.Ns L m/\(∃ps',KA h (C::D::(i7 C scope++wr)) ps')),D,C,m,news,⟨hD,hC,hsz,hlow,?off,?slow,?j0,?js,?jk,hst,hpull,?tests,?elt⟩,F,(fun q hq=>N q (.tail _ hq)),(fun h x=>x.1),(fun q hq=>⟨hnw q hq,?nS⟩),hwr,?S0,?fin⟩
 case off=>
  intro a ha
  rcases SH.mp ha with rfl|ha
  ·exact hLf
  ·rw[QQ.mp ha];exact h2f
 case slow=>
  intro a ha
  rcases SH.mp ha with rfl|ha
  ·exact hLlt
  ·rw[QQ.mp ha];exact h2lt
 case j0=>
  intro h k
  refine⟨F.ns.at' fun o e=>k _ o e,ps,k _ _ h22,ok.keeps fun b o Z e=>k b o e,T0.2.2⟩
 case js=>
  (intro h r0_;(refine oAE r0_ fun o0_ ps' x=>?_;clear r0_;obtain⟨o,es,ep,ho,r⟩:=o0_);intro a ha)
  rcases SH.mp ha with rfl|ha
  ·exact⟨o,ho⟩
  ·rw[QQ.mp ha];exact⟨_,x.1⟩
 case jk=>
  (intro h h' r0_;refine oAE r0_ fun hn ps' x=>?_;clear r0_;intro k)
  have hLX:L≠C/\L∉i7 C scope++wr/\L≠D:=(iAA (Tb (Tf hLlt hCs)) (fun hm=>by
   rcases RS.mp hm with hm|hm
   ·exact absurd (Tf (Tf hLlt hCs) (hown _ hm)) (SK _)
   ·exact hLf (hsub _ hm)) (by rw[hD];exact Tb hLlt))
  refine⟨hn.at' fun o e=>k _ o hLX.1 hLX.2.1 hLX.2.2 e,ps',x.keeps h2X fun b o hb e=>k b o ?_ ?_ ?_ e⟩
  ·exact fun q=>hb (by rw[q];exact .head _)
  ·exact fun q=>hb (.tail _ (.tail _ q))
  ·exact fun q=>hb (by rw[q];exact .tail _ (.head _))
 case tests=>
  intro i H tk m₂ E' _ _ _ _ _ hj _
  exact z8 ⟨rfl,H,tk,rfl,fun Z Z Z e=>e,hj⟩
 case elt=>
  (intro i H tk u E' hi _ hB hs hn r0_;refine oE r0_ fun ysD hDl=>?_;clear r0_;intro r1_;refine oAE r1_ fun hnL ps' x=>?_;clear r1_;intro hk)
  have F':Fr h₀ L H m:=⟨hnL,fun b o e=>hk b o (fun hb=>by exact zs1 (hwr b hb) e) (fun hb=>by
   rcases SH.mp hb with q|hb
   ·exact absurd (Tc e) (TY.mpr (q ▸ F.above))
   ·rw[QQ.mp hb] at e;exact zs1 h20 e) (F.keep b o e),F.above⟩
  refine L1 (AF F' [222]) fun rest NR hR2 hall=>?_
  refine oEA (NsO.of hn) fun oC hoC hO=>?_
  have C0:h₀.get? C=none:=by
   cases q':h₀.get? C with
   |none=>rfl
   |some o=>exact absurd (Tc (F.keep _ _ q')) (TY.mpr (by rw[hC];exact TG _))
  have NC:News h₀ L H ((222,UQ ps')::(C,oC)::(news++rest)):=fun q hq=>by
   rcases SH.mp hq with rfl|hq
   ·exact(iAA x.1 h2L h20)
   ·rcases SH.mp hq with rfl|hq
    ·exact(iAA hoC (Te (Tf hLlt hCs)) C0)
    ·rcases RS.mp hq with hq|hq
     ·refine⟨hk _ _ (hnw q hq) (fun hb=>?_) (N q (.tail _ hq)).1,(N q (.tail _ hq)).2⟩
      rcases SH.mp hb with e|hb
      ·exact(N q (.tail _ hq)).2.1 e
      ·exact hn22 q hq (QQ.mp hb)
     ·exact NR q hq
  have ne22:∀q∈(C,oC)::(news++rest),q.1≠222:=fun q hq=>by
   rcases SH.mp hq with rfl|hq
   ·exact Te (Tf h2lt hCs)
   ·rcases RS.mp hq with hq|hq
    ·exact hn22 q hq
    ·exact fun e=>hR2 q hq (QQ.mpr e)
  have hownr:∀b∈i7 C scope,∀o,H.get? b=some o->(b,o)∈rest:=fun b hb o e=>by
   have hlt:s.heap.objs.size<b:=Tf hCs (hown _ hb)
   rcases hall b o e with q|q|q|q
   ·exact absurd (Tf hLlt hlt) (q ▸ SK _)
   ·rw[QQ.mp q] at hlt;exact absurd (Tf h2lt hlt) (SK _)
   ·exact absurd (Tf (Tc (F.keep _ _ q)) hlt) (SK _)
   ·exact q
  refine TT (elts i oC u H tk rest ps' E' hi hB hs hO F' NC ne22 x.2.1 hownr) (fun y s₃ h₃=>?_) fun Z Z e=>e
  obtain⟨h',tk',ps3,rfl,F₃,N₃,ok3,hg⟩:=h₃
  have keep:∀b o,b∉[L,222]->H.get? b=some o->h'.get? b=some o:=fun b o hb e=>by
   rcases hall b o e with q|q|q|q
   ·exact absurd (by rw[q];exact .head _) hb
   ·exact absurd (.tail _ q) hb
   ·exact F₃.keep b o q
   ·exact(N₃ _ (.tail _ (.tail _ (RS.mpr (.inr q))))).1
  have hXc:∀b∈C::D::(i7 C scope++wr),∀o,h'.get? b=some o→¬A9 o:=by
   intro b hm o e
   have hX:∃o',H.get? b=some o'∧¬A9 o':=by
    rcases SH.mp hm with q|hm
    ·refine R3 hn fun o' es ep e1 e2 Z=>?_;clear hn
     exact(iEA o' (by rw[q];exact e1) (fun x=>by obtain⟨vs,_,_,e3,_⟩:=x;rw[e2] at e3;cases e3))
    ·rcases SH.mp hm with q|hm
     ·refine oE hDl fun k9 e1=>?_;clear hDl
      exact(iEA (W.listOf ysD k9) (by rw[q];exact e1) (fun x=>by obtain⟨vs,_,_,e3,_⟩:=x;cases e3))
     ·refine oE (hpull.there _ _ hs b hm) fun o' e1=>?_
      exact(iEA o' e1 (hStown _ _ hs b hm o' e1))
   refine oEA hX fun o' e1 e2=>?_;clear hX
   have hb:b∉[L,222]:=fun hb=>by
    rcases SH.mp hb with q|hb
    ·have hLX:L∈C::D::(i7 C scope++wr):=q ▸ hm
     refine R7 F.ns fun oL Z Z eL Z=>?_
     exact hLf (hsub _ (lowX L hLX oL eL))
    ·exact h2X ((QQ.mp hb) ▸ hm)
   rw[keep b o' hb e1] at e
   cases e
   exact e2
  refine⟨⟨hg,fun b hm=>?_⟩,h',tk',rfl,keep,F₃.ns,ps3,KA.of (N₃ _ (.head _)).1 ok3 hXc⟩
  rcases SH.mp hm with rfl|hm
  ·intro o e
   refine R3 F₃.ns fun o' es ep e1 e2 Z=>?_
   rw[e] at e1;cases e1
   (intro r0_;refine R7 r0_ fun vs Z Z e3 Z=>?_;clear r0_)
   rw[e2] at e3;cases e3
  ·exact hXc b hm
 case nS=>
  intro hb
  rcases SH.mp hb with e|hb
  ·exact(N q (.tail _ hq)).2.1 e
  ·exact hn22 q hq (QQ.mp hb)
 case S0=>
  intro b hb
  rcases SH.mp hb with rfl|hb
  ·exact Qv F.above
  ·rw[QQ.mp hb];exact h20
 case fin=>
  (intro D' ys k h' tk F' N' hne P r0_;refine oAE r0_ fun Z ps' x=>?_;clear r0_)
  rw[s7] at P
  have N2:News h₀ L h' ((D',W.listOf ys.toArray k)::(222,UQ ps')::news):=fun q hq=>by
   rcases SH.mp hq with rfl|hq
   ·exact N' _ (.head _)
   ·rcases SH.mp hq with rfl|hq
    ·exact(iAA x.1 h2L h20)
    ·exact N' q (.tail _ hq)
  refine hfin D' ys k h' tk ps' F' N2 (fun q hq=>?_) ⟨x.2.1,fun pos cv e q=>by refine oEA (x.2.2 pos cv e) fun c' e1 hX=>?_;rw[e1, ←hC] at q;cases q;exact hX (.head _)⟩ (Paired.mono (fun j y ⟨hb,ha,⟨g,nc⟩,hC9,st⟩=>(IR hb ha g (hC ▸ hC9) st.1 (fun b o hb2 hc e=>(iAA (fun q=>nc b (q ▸ .head _) o e hc) (fun q=>nc b (by rw[q, ←hC];exact .tail _ (.head _)) o e hc) (st.2 b o (fun hm=>?_) e))))) P)
  rotate_left
  ·have hne2:b∈L::C::D::(i7 C scope++wr):=by
    rcases SH.mp hm with e1|hm
    ·exact .tail _ (e1 ▸ .head _)
    ·rcases SH.mp hm with e1|hm
     ·exact .tail _ (.tail _ (e1 ▸ .head _))
     ·rcases RS.mp hm with hm|hm
      ·exact .tail _ (.tail _ (.tail _ hm))
      ·rcases SH.mp hm with e1|hm
       ·exact e1 ▸ .head _
       ·exact absurd (QQ.mp hm) hb2
   exact nc b hne2 o e hc
  rcases SH.mp hq with rfl|hq
  ·intro e
   have e1:=(N' _ (.head _)).1
   have e2:=x.1
   dsimp only at e e1
   rw[←e,e2] at e1
   cases e1
  ·exact hne q hq
end Ar
section
variable{prog:UF}{w:Va}{A:UP}{E:UX->UO->Prop}{env:Vn}{s:UO}{h₀:Vg}{L:Vf}{m:Vk->Option UX}{news:List (Vf×Vl)}{ps:Array UX}
 {scope:Vb} {cl:List (Vk×Vf)} {elt:Vh} {fin:UO->(Vk->Option UX)->List (Vf×Vl)->Vf->List UX->Nat->Vg->Nat->Prop}
theorem Lf{prog w A env s h₀ L m news ps scope cl elt fin b9 it fp wr n Bd St D C}(G):Ar.T prog w A env s h₀ L m news ps scope cl elt fin b9 it fp wr n Bd St D C G:=f7 (P:=Ar.P9) (c:=Ar.c) (by with_unfolding_all rfl) (by with_unfolding_all exact Ar.walk) ((prog,w,A,env),(s,h₀,L,m),(news,ps,scope,cl),(elt,fin,b9,it),(fp,wr,n,Bd),(St,D,C,G))
end
end Mine
end
section
open PySem PySem.W PySem.Calls PyProof.Rows PySem.Spec
namespace Mine
theorem Ca.cell{prog:UF}{w:Va}{A:UP}{I:Vf}{fp wr:List Vf}{n:Nat}{P:Nat->UX->Prop}{St:Nat->Vg->Prop}{x:Vk}{px:Pos}{cenv:Vn}{cc:Vf}
  (W:Walks prog w A I fp wr n P St)(hth:∀i h,St i h->∀b∈wr,∃o,h.get? b=some o)(hk:cenv.scope.kind= .function)(hx:cenv.kindOf x=some .cell)(hc:cenv.cells.lookup x=some cc)(hcf:cc∉fp)(hCc:cenv.locals≠cc)(hCf:cenv.locals∉fp):
  Ca prog w A (.ref I) (.Name x px) cenv (cc::fp) (cc::wr) n (fun Z Z=>True) (fun i h=>St i h/\∃cv,h.IsCell cc cv/\∀k,i=k+1->∃v,P k v/\cv=some v) where
 sub:=fun b hb=>by
  rcases SH.mp hb with rfl|hb
  ·exact .head _
  ·exact .tail _ (W.sub b hb)
 frame:=fun i h h' ⟨st,cv,⟨o,ho,hd⟩,q⟩ k=>⟨W.frame i h h' st fun b hb o e=>k b (.tail _ hb) o e,cv,⟨o,k cc (.head _) o ho,hd⟩,q⟩
 item:=fun i s m Q E hi st hn hQ=>by
  refine NT st fun st cv hcell Z=>?_
  have hcw:cc∉wr:=fun h=>hcf (W.sub _ h)
  have hCw:cenv.locals∉wr:=fun h=>hCf (W.sub _ h)
  refine W.item i s _ _ hi st fun v h₁ tk₁ hP hst₁ hk₁=>?_
  dsimp only
  refine TB (show Sm (.Name x px) (.ref I) v=pure () from rfl) ?_
  have hcell₁:h₁.IsCell cc cv:=by
   refine oEA hcell fun o ho hd=>?_;clear hcell
   exact⟨o,hk₁ _ o hcw ho,hd⟩
  refine Rk (wpAny_storeName_cell hk hx hc hcell₁ fun h₂ hc₂ hs₂=>?_)
  refine hQ h₂ _ m trivial ((hn.at' fun o e=>hk₁ _ o hCw e).sameBut hs₂ hCc) ⟨W.frame _ _ _ hst₁ fun b hb o e=>hs₂.extBut b o (fun h=>hcf (h ▸ hb)) e,some v,hc₂,fun k q=>by cases q;exact⟨v,hP,rfl⟩⟩ fun b o hbC hbw e=>hs₂.extBut b o (fun q=>hbw (by rw[q];exact .head _)) (hk₁ b o (fun q=>hbw (.tail _ q)) e)
 done:=fun s Q E st hQ=>W.done s Q E st.1 fun h' tk k=>hQ h' tk fun b o hb e=>k b o (fun q=>hb (.tail _ q)) e
 self:=fun i s Q E st hQ=>W.self i s Q E st.1 hQ
 there:=fun i h st b hb=>by
  rcases SH.mp hb with rfl|hb
  ·(refine oEA st.2 fun cv o0_ Z=>?_;refine oEA o0_ fun o ho Z=>?_;clear o0_);exact⟨o,ho⟩
  ·exact hth i h st.1 b hb
theorem L5{h:Vg}{a l:Vf}{i:Nat}(x:h.IsListIter a l i)(o:Vl)(e:h.get? a=some o):¬A9 o:=by
 (intro r0_;refine R7 r0_ fun vs q t d v=>?_;clear r0_)
 refine L1 x fun o' e' Z d'=>?_;clear x
 rw[e] at e';cases e'
 rw[d'] at d;cases d
 simp at v
section
variable{prog:UF}{w:Va}{A:UP}{E:UX->UO->Prop}{env:Vn}{s:UO}{h₀:Vg}{L:Vf}{m:Vk->Option UX}{news:List (Vf×Vl)}{ps:Array UX}
 {scope:Vb} {cl:List (Vk×Vf)} {elt:Vh} {fin:UO->(Vk->Option UX)->List (Vf×Vl)->Vf->List UX->Nat->Vg->Nat->Prop}
theorem Jd{ax:Vf}{vs:List UX}{x:Vk}{px:Pos}(G:Nat->Vg->Vg->UX->Prop)(hh:A.handled=none)(hl:s.heap.IsList ax vs.toArray)(hsz:vs.length<=Ux)
  (hnc:∀k acc,Un k scope.names acc=acc)(hx:scope.names.lookup x=some .local)(hkind:scope.kind= .function)
  (F:Fr h₀ L s.heap m)(N:News h₀ L s.heap ((222,UQ ps)::news))(hn22:∀q∈news,q.1≠222)(ok:A5 s.heap 222 qualR ps)(hax:ax≠L)(hax2:ax≠222)
  (elts:∀i v C oC u H tk rest ps E',vs[i]? =some v->NsO oC u->u x=some v->Fr h₀ L H m->News h₀ L H ((222,UQ ps)::(C,oC)::(news++rest))->(∀q∈(C,oC)::(news++rest),q.1≠222)->A5 H 222 qualR ps->
   UY (UZ prog w) A (Vi elt (Uw scope cl C env)) (W4 h₀ L m ((C,oC)::(news++rest)) (G i H) {s with heap:=H,toks:=tk}) E' {s with heap:=H,toks:=tk})
  (hfin:∀(s₂:UO),(∃h tk,s₂={s with heap:=h,toks:=tk}/\s.heap.objs.size<=h.objs.size)->∀D ys k h' tk ps',Fr h₀ L h' m->News h₀ L h' ((D,W.listOf ys.toArray k)::(222,UQ ps')::news)->(∀q∈(222,UQ ps')::news,q.1≠D)->NW (s₂.heap.objs.size+1) h' ps'->Paired (fun j y=>∃hb ha,G j hb ha y/\(∃o,hb.get? (s₂.heap.objs.size+1)=some o)/\C5 hb ha h'/\Av L (s₂.heap.objs.size+1) ha h') (TS vs.length) ys->fin s₂ m news D ys k h' tk):
  UY (UZ prog w) A (UU (.ref ax)) (fun it s₂=>EW prog w A env scope cl (.Name x px) [] elt h₀ L it s₂ (fin s₂)) E s:=by
 have hlt:ax<s.heap.objs.size:=by refine oEA hl fun Z e Z=>?_;clear hl;exact Tc e
 refine Ro hl ?_
 have W:=Walks.list (prog:=prog) (w:=w) hh s.heap.objs.size ax (Tb hlt) vs.toArray
 have hsize:vs.toArray.size=vs.length:=by simp
 rw[hsize] at W
 have hown:∀C,i7 C scope=[]:=fun C=>by unfold i7;rw[hnc];rfl
 have hps:(s.heap.push {cls:= .type "list_iterator",data:= .fields #[.ref ax, .int 0 0]}).objs.size=s.heap.objs.size+1:=Ss _ _
 have hit:({s with heap:=s.heap.push {cls:= .type "list_iterator",data:= .fields #[.ref ax, .int 0 0]}}:UO).heap.IsListIter s.heap.objs.size ax 0:=⟨_,QD _ rfl,rfl,rfl⟩
 refine Lf (n:=vs.length) (fp:=[s.heap.objs.size,ax]) (wr:=[s.heap.objs.size]) (Bd:=fun i u=>∃v,vs.toArray[i]? =some v/\u x=some v) (St:=fun i h=>h.IsListIter s.heap.objs.size ax i/\h.IsList ax vs.toArray) G rfl rfl hsz ?low ?st ?pull (fun c hc=>by rw[hown] at hc;cases hc) (F.push _) (fun q hq=>⟨Qj _ (N q hq).1,(N q hq).2⟩) hn22 (ok.keeps fun b o Z e=>Qj _ e) ?hLf ?h2f ?wr0 ?nw ?sub ?wcode ?stown ?elts (hfin _ ⟨_,_,rfl,by rw[Ss];exact TG _⟩)
 case low=>
  intro b hb
  show b<(s.heap.push _).objs.size
  rw[Ss]
  rcases SH.mp hb with rfl|hb
  ·exact RC _
  ·rw[QQ.mp hb];exact Ri hlt
 case st=>
  intro h k _
  exact⟨hit.imp fun o p=>⟨k _ _ p.1,p.2⟩,(hl.push _).at fun o e=>k _ _ e⟩
 case pull=>
  rw[hown,hnc]
  refine Ca.name W ?_ (Qu hx) (by simp[Uw,UJ,hkind]) ?_
  ·(intro i h r0_;(refine oA r0_ fun o0_ Z=>?_;clear r0_;obtain⟨o,ho,_⟩:=o0_);intro b hb)
   rw[QQ.mp hb];exact⟨o,ho⟩
  ·intro hm
   have hm':(s.heap.push {cls:= .type "list_iterator",data:= .fields #[.ref ax, .int 0 0]}).objs.size+1∈[s.heap.objs.size,ax]:=hm
   rw[hps] at hm'
   rcases SH.mp hm' with e|e
   ·exact absurd e (Te (Ri (RC _)))
   ·exact absurd (QQ.mp e) (Te (Ri (Ri hlt)))
 case hLf=>
  intro hm
  rcases SH.mp hm with e|hm
  ·exact absurd F.ns.lt (e ▸ SK _)
  ·exact hax (QQ.mp hm).symm
 case h2f=>
  intro hm
  rcases SH.mp hm with e|hm
  ·exact absurd (Tc (N _ (.head _)).1) (e ▸ SK _)
  ·exact hax2 (QQ.mp hm).symm
 case wr0=>
  intro b hb
  rw[QQ.mp hb];exact TL F
 case nw=>
  intro q hq hm
  exact absurd (Tc (N q (.tail _ hq)).1) ((QQ.mp hm) ▸ SK _)
 case sub=>exact W.sub
 case wcode=>
  intro b hb o e
  rw[QQ.mp hb] at e
  exact L5 hit o e
 case stown=>
  (intro i H r0_;refine oA r0_ fun x Z=>?_;clear r0_;intro b hb o e)
  rw[hown,Sb] at hb
  rw[QQ.mp hb] at e
  exact L5 x o e
 case elts=>
  (intro i oC u H tk rest ps E' hi r0_;refine oEA r0_ fun v hv hu=>?_;clear r0_;intro _ hO F' N' hne ok' _)
  rw[hnc]
  exact elts i v _ oC u H tk rest ps E' (by simpa using hv) hO hu F' N' hne ok'
theorem Je{ax:Vf}{vs:List UX}{x:Vk}{px:Pos}(G:Nat->Vg->Vg->UX->Prop)(hh:A.handled=none)(hl:s.heap.IsList ax vs.toArray)(hsz:vs.length<=Ux)
  (hnc:∀k acc,Un k scope.names acc=(x,k)::acc)(hx:∀env:Vn,(UJ scope env).names.lookup x=some .cell)(hkind:scope.kind= .function)
  (F:Fr h₀ L s.heap m)(N:News h₀ L s.heap ((222,UQ ps)::news))(hn22:∀q∈news,q.1≠222)(ok:A5 s.heap 222 qualR ps)(hax:ax≠L)(hax2:ax≠222)
  (elts:∀i v C oC oc u H tk rest ps E',vs[i]? =some v->NsO oC u->oc.data= .cell (some v)->(C+1,oc)∈rest->Fr h₀ L H m->News h₀ L H ((222,UQ ps)::(C,oC)::(news++rest))->(∀q∈(C,oC)::(news++rest),q.1≠222)->A5 H 222 qualR ps->
   UY (UZ prog w) A (Vi elt (Uw scope ((x,C+1)::cl) C env)) (W4 h₀ L m ((C,oC)::(news++rest)) (G i H) {s with heap:=H,toks:=tk}) E' {s with heap:=H,toks:=tk})
  (hfin:∀(s₂:UO),(∃h tk,s₂={s with heap:=h,toks:=tk}/\s.heap.objs.size<=h.objs.size)->∀D ys k h' tk ps',Fr h₀ L h' m->News h₀ L h' ((D,W.listOf ys.toArray k)::(222,UQ ps')::news)->(∀q∈(222,UQ ps')::news,q.1≠D)->NW (s₂.heap.objs.size+1) h' ps'->Paired (fun j y=>∃hb ha,G j hb ha y/\(∃o,hb.get? (s₂.heap.objs.size+1)=some o)/\C5 hb ha h'/\Av L (s₂.heap.objs.size+1) ha h') (TS vs.length) ys->fin s₂ m news D ys k h' tk):
  UY (UZ prog w) A (UU (.ref ax)) (fun it s₂=>EW prog w A env scope cl (.Name x px) [] elt h₀ L it s₂ (fin s₂)) E s:=by
 have hlt:ax<s.heap.objs.size:=by refine oEA hl fun Z e Z=>?_;clear hl;exact Tc e
 refine Ro hl ?_
 have W:=Walks.list (prog:=prog) (w:=w) hh s.heap.objs.size ax (Tb hlt) vs.toArray
 have hsize:vs.toArray.size=vs.length:=by simp
 rw[hsize] at W
 have hown:∀C,i7 C scope=[C+1]:=fun C=>by unfold i7;rw[hnc];rfl
 have hps:(s.heap.push {cls:= .type "list_iterator",data:= .fields #[.ref ax, .int 0 0]}).objs.size=s.heap.objs.size+1:=Ss _ _
 have hit:({s with heap:=s.heap.push {cls:= .type "list_iterator",data:= .fields #[.ref ax, .int 0 0]}}:UO).heap.IsListIter s.heap.objs.size ax 0:=⟨_,QD _ rfl,rfl,rfl⟩
 refine Lf (n:=vs.length) (fp:=[s.heap.objs.size,ax]) (wr:=[s.heap.objs.size]) (Bd:=fun Z Z=>True)
  (St:=fun i h=>(h.IsListIter s.heap.objs.size ax i/\h.IsList ax vs.toArray)/\∃cv,h.IsCell ((s.heap.push {cls:= .type "list_iterator",data:= .fields #[.ref ax, .int 0 0]}).objs.size+1+1) cv/\∀k,i=k+1->∃v,vs.toArray[k]? =some v/\cv=some v) G rfl rfl hsz ?low ?st ?pull (fun c hc=>by rw[hown] at hc;rw[QQ.mp hc];exact RC _) (F.push _) (fun q hq=>⟨Qj _ (N q hq).1,(N q hq).2⟩) hn22 (ok.keeps fun b o Z e=>Qj _ e) ?hLf ?h2f ?wr0 ?nw ?sub ?wcode ?stown ?elts (hfin _ ⟨_,_,rfl,by rw[Ss];exact TG _⟩)
 case low=>
  intro b hb
  show b<(s.heap.push _).objs.size
  rw[Ss]
  rcases SH.mp hb with rfl|hb
  ·exact RC _
  ·rw[QQ.mp hb];exact Ri hlt
 case st=>
  intro h k kc
  refine⟨⟨hit.imp fun o p=>⟨k _ _ p.1,p.2⟩,(hl.push _).at fun o e=>k _ _ e⟩,none,kc x _ (by rw[hnc];exact .head _),fun k q=>by omega⟩
 case pull=>
  rw[hown,hnc]
  refine Ca.cell (cc:=_+1+1) W ?_ (by simp[Uw,UJ,hkind]) (hx env) (by simp[Uw]) ?_ (Tb (RC _)) ?_
  ·(intro i h r0_;(refine oA r0_ fun o0_ Z=>?_;clear r0_;obtain⟨o,ho,_⟩:=o0_);intro b hb)
   rw[QQ.mp hb];exact⟨o,ho⟩
  ·intro hm
   rw[hps] at hm
   rcases SH.mp hm with e|e
   ·exact absurd e (Te (Ri (Ri (RC _))))
   ·exact absurd (QQ.mp e) (Te (Ri (Ri (Ri hlt))))
  ·intro hm
   have hm':(s.heap.push {cls:= .type "list_iterator",data:= .fields #[.ref ax, .int 0 0]}).objs.size+1∈[s.heap.objs.size,ax]:=hm
   rw[hps] at hm'
   rcases SH.mp hm' with e|e
   ·exact absurd e (Te (Ri (RC _)))
   ·exact absurd (QQ.mp e) (Te (Ri (Ri hlt)))
 case hLf=>
  intro hm
  rcases SH.mp hm with e|hm
  ·exact absurd F.ns.lt (e ▸ SK _)
  ·exact hax (QQ.mp hm).symm
 case h2f=>
  intro hm
  rcases SH.mp hm with e|hm
  ·exact absurd (Tc (N _ (.head _)).1) (e ▸ SK _)
  ·exact hax2 (QQ.mp hm).symm
 case wr0=>
  intro b hb
  rw[QQ.mp hb];exact TL F
 case nw=>
  intro q hq hm
  exact absurd (Tc (N q (.tail _ hq)).1) ((QQ.mp hm) ▸ SK _)
 case sub=>exact W.sub
 case wcode=>
  intro b hb o e
  rw[QQ.mp hb] at e
  exact L5 hit o e
 case stown=>
  (intro i H r0_;(refine NT r0_ fun o0_ cv o1_ Z=>?_;clear r0_;obtain⟨x,_⟩:=o0_;obtain⟨o',e',d'⟩:=o1_);intro b hb o e)
  rw[hown] at hb
  rcases SH.mp hb with rfl|hb
  ·(intro r0_;refine R7 r0_ fun vs' q t d v=>?_;clear r0_)
   have e2:o=o':=by
    have e3:some o=some o':=e.symm.trans e'
    exact RZ e3
   rw[e2,d'] at d;cases d
  ·have hb:b∈[s.heap.objs.size]:=hb
   rw[QQ.mp hb] at e
   exact L5 x o e
 case elts=>
  (intro i oC u H tk rest ps E' hi _ r0_;(refine NT r0_ fun Z cv o0_ hcv=>?_;clear r0_;obtain⟨oc,e1,d1⟩:=o0_);intro hO F' N' hne ok' hr)
  (refine oEA (hcv i rfl) fun v hv o0_=>?_;obtain rfl:=o0_)
  rw[hnc]
  exact elts i v _ oC oc u H tk rest ps E' (by simpa using hv) hO d1 (hr _ (by rw[hown];exact .head _) _ e1) F' N' hne ok'
end
end Mine
end
section
open PySem PySem.W PySem.Calls PyProof.Rows PySem.Spec
namespace Mine
noncomputable abbrev KW(w:Va):Frag:=_root_.Mine.Sh.hd.heap_39 w.params
noncomputable abbrev Ii{K:Frag}{a:Vf}{name qual:Vk}{params:Up}{body:List Stmt}{scope:Vb}{dV kV doc pm cdv ct oc:UX}{an od:Option Vf}{osl:Array (Option UX)}
  (_:K.lookup a=some ⟨oc,od, .func (fnOf name qual params body scope dV kV doc pm an cdv ct),osl⟩):Vb:=scope
noncomputable abbrev JM{K:Frag}{a:Vf}{name qual:Vk}{params:Up}{body:List Stmt}{scope:Vb}{dV kV doc pm cdv ct oc:UX}{an od:Option Vf}{osl:Array (Option UX)}
  (_:K.lookup a=some ⟨oc,od, .func (fnOf name qual params body scope dV kV doc pm an cdv ct),osl⟩):List Stmt:=body
noncomputable def Ez(w:Va):Vb:=Ii (K:=KW w) (a:=239) rfl
noncomputable def Y8(w:Va):List Stmt:=JM (K:=KW w) (a:=239) rfl
noncomputable abbrev CB(sc:Vb)(L:Vf):Vn:=UV (Ta "law") sc L 239 (.ref 238)
noncomputable abbrev Nb(sc:Vb)(L:Vf):UP:=callerA.deeper (CB sc L)
noncomputable def n8(L:Vf):Nat->Vf
 |0=>L+1
 |k+1=>n8 L k+1
structure LawG where
 w:Va
 loose:List Vk
 mean:UH->Option UX
 mg:Vk->Option UX
 mb:Vk->Option UX
 h₀:Vg
 L:Vf
 gens:Array GenState
 drawn:Drawn
 os:OsState
 Q:Flow->UO->Prop
structure HypG(g:LawG):Prop where
 B:Vd callerA g.h₀ [] g.h₀
 X:(_root_.Mine.Sh.hd.heap_39 g.w.params).In g.h₀
 T:Top UN g.loose g.mean g.mg g.mb g.h₀
 Se:g.h₀.NoSeer
 C:CodeHd g.h₀ 226 222
 lt:222<g.L
 no:g.h₀.get? 222=none
structure NN(g:LawG)(h:Vg)(m:Vk->Option UX)(cm:Nat->Option UX)(ps:Array UX):Prop where
 fr:Fr g.h₀ g.L h m
 cells:∀k,k<11->∃o,h.get? (n8 g.L k)=some o/\o.data= .cell (cm k)
 tab:h.get? 222=some (UQ ps)
 ok:A5 h 222 qualR ps
structure PG(g:LawG)(i:Nat)(h:Vg)(tk:Nat):Prop where
 of:wpP (UZ PR g.w) (Nb (Ez g.w) g.L) (Ve ((Y8 g.w).drop i) (CB (Ez g.w) g.L)) g.Q (fun Z Z=>False) ⟨h,g.gens,g.drawn,tk,g.os⟩
noncomputable def Cb(g:LawG):Prop:=HypG g->∀sc(vsc:List UX) nsc h tk m cm ps,NN g h m cm ps->cm 0=some (.ref sc)->g.h₀.IsList sc vsc.toArray->UG vsc nsc->nsc.length<=63->
 (∀h' tk' m',Fr g.h₀ g.L h' m'->(∃ps',h'.get? 222=some (UQ ps'))->g.Q (.ret (.bool true)) ⟨h',g.gens,g.drawn,tk',g.os⟩)->PG g 0 h tk
theorem LZ:Nonempty LawG:=⟨⟨⟨fun Z Z=>0,{strHash:=fun Z=>0,shareClass:=fun Z=>0,mergeTok:=id,idOf:=fun Z=>0,idOfShared:=fun Z Z=>0,followText:=fun Z=>true,idOfImm:=fun Z=>0}⟩,[],fun Z=>none,fun Z=>none,fun Z=>none,default,0, #[],{},{},fun Z Z=>True⟩⟩
@[irreducible] noncomputable def gK:LawG:= @Classical.epsilon LawG LZ fun g=>¬Cb g
theorem LX(h:Cb gK)(g:LawG):Cb g:=PX fun n=>by
 have k:=Classical.epsilon_spec (p:=fun g=>¬Cb g) ⟨g,n⟩
 unfold gK at h
 exact k h
@[irreducible] noncomputable def cW:Va:=gK.w
@[irreducible] noncomputable def cLo:List Vk:=gK.loose
@[irreducible] noncomputable def cMe:UH->Option UX:=gK.mean
@[irreducible] noncomputable def cMg:Vk->Option UX:=gK.mg
@[irreducible] noncomputable def cMb:Vk->Option UX:=gK.mb
@[irreducible] noncomputable def cH:Vg:=gK.h₀
@[irreducible] noncomputable def cL:Vf:=gK.L
@[irreducible] noncomputable def cG:Array GenState:=gK.gens
@[irreducible] noncomputable def cD:Drawn:=gK.drawn
@[irreducible] noncomputable def cO:OsState:=gK.os
@[irreducible] noncomputable def cQ:Flow->UO->Prop:=gK.Q
structure Hyp:Prop where
 B:Vd callerA cH [] cH
 X:(_root_.Mine.Sh.hd.heap_39 cW.params).In cH
 T:Top UN cLo cMe cMg cMb cH
 Se:cH.NoSeer
 C:CodeHd cH 226 222
 lt:222<cL
 no:cH.get? 222=none
structure Seg(i:Nat)(h:Vg)(tk:Nat):Prop where
 of:wpP (UZ PR cW) (Nb (Ez cW) cL) (Ve ((Y8 cW).drop i) (CB (Ez cW) cL)) cQ (fun Z Z=>False) ⟨h,cG,cD,tk,cO⟩
noncomputable def T3(i:Nat)(tk:Nat)(f:Flow)(s:UO):Prop:=match f with
 | .next=>∃h' tk',s=⟨h',cG,cD,tk',cO⟩/\(tk<=tk'->Seg (i+1) h' tk')
 |f=>cQ f s
theorem T3.mk{i tk:Nat}{h':Vg}{tk':Nat}(h:tk<=tk'->Seg (i+1) h' tk'):T3 i tk .next ⟨h',cG,cD,tk',cO⟩:=(Bm h' tk' rfl h)
theorem Eb{i:Nat}{h:Vg}{tk:Nat}{st:Stmt}{kd:ScopeKind}{nm:List (Vk×NameKind)}{ge co:Bool}{mo:List (Vk×Const)}
  (h1:Ez cW={kind:=kd,names:=nm,isGenerator:=ge,isCoroutine:=co,more:=mo})(h2:(Y8 cW).drop i=st::(Y8 cW).drop (i+1))
  (k:wpP (UZ PR cW) (Nb {kind:=kd,names:=nm,isGenerator:=ge,isCoroutine:=co,more:=mo} cL) (exec st (CB {kind:=kd,names:=nm,isGenerator:=ge,isCoroutine:=co,more:=mo} cL)) (T3 i tk) (fun Z Z=>False) ⟨h,cG,cD,tk,cO⟩):Seg i h tk:=by
 constructor
 rw[←h1] at k
 rw[h2]
 refine Cu (FS (wpP.mono k (fun f s' hq hT=>?_) fun Z Z x Z=>x))
 cases f with
 |next=>
  (refine y8 hq fun h' tk' o0_ q=>?_;clear hq;obtain rfl:=o0_)
  exact(q hT).of
 |_=>exact hq
theorem i6{i:Nat}{h:Vg}{tk:Nat}{st:Stmt}{kd:ScopeKind}{nm:List (Vk×NameKind)}{ge co:Bool}{mo:List (Vk×Const)}
  (h1:Ez cW={kind:=kd,names:=nm,isGenerator:=ge,isCoroutine:=co,more:=mo})(h2:(Y8 cW).drop i=st::(Y8 cW).drop (i+1))
  (k:UY (UZ PR cW) (Nb {kind:=kd,names:=nm,isGenerator:=ge,isCoroutine:=co,more:=mo} cL) (exec st (CB {kind:=kd,names:=nm,isGenerator:=ge,isCoroutine:=co,more:=mo} cL)) (T3 i tk) (fun Z Z=>False) ⟨h,cG,cD,tk,cO⟩):Seg i h tk:=
 Eb h1 h2 (wpP.of k)
noncomputable def HF(b:Vf):Prop:=b=222\/∃k,k<11/\b=n8 cL k
structure j7(h:Vg)(m:Vk->Option UX)(cm:Nat->Option UX)(ps:Array UX):Prop where
 fr:Fr cH cL h m
 cells:∀k,k<11->∃o,h.get? (n8 cL k)=some o/\o.data= .cell (cm k)
 tab:h.get? 222=some (UQ ps)
 ok:A5 h 222 qualR ps
noncomputable def z7(h h':Vg):Prop:=∀b o,b≠cL→¬HF b->h.get? b=some o->h'.get? b=some o
theorem z7.rfl{h:Vg}:z7 h h:=fun Z Z Z Z e=>e
theorem z7.trans{h h' h'':Vg}(x:z7 h h')(y:z7 h' h''):z7 h h'':=fun b o p q e=>y b o p q (x b o p q e)
structure r0(h:Vg)(a:Vf)(o:Vl):Prop where
 get:h.get? a=some o
 nL:a≠cL
 nO:¬HF a
 new:cH.get? a=none
theorem r0.up{h h':Vg}{a:Vf}{o:Vl}(x:r0 h a o)(k:z7 h h'):r0 h' a o:=⟨k a o x.nL x.nO x.get,x.nL,x.nO,x.new⟩
noncomputable abbrev L4(h:Vg)(news:List (Vf×Vl)):Prop:=∀b o,h.get? b=some o->b=cL\/cH.get? b=some o\/(b,o)∈news
theorem r0.mem{h:Vg}{a:Vf}{o:Vl}{news:List (Vf×Vl)}(x:r0 h a o)(hall:L4 h news):(a,o)∈news:=by
 rcases hall a o x.get with e|e|e
 ·exact absurd e x.nL
 ·exact zs1 x.new e
 ·exact e
theorem Bp:∀k:Nat, @LT.lt Nat _ cL (n8 cL k)
 |0=>RC _
 |k+1=>Ri (Bp k)
theorem Al{h:Vg}{m:Vk->Option UX}(F:Fr cH cL h m)(k:Nat):cH.get? (n8 cL k)=none/\n8 cL k≠cL:=by
 refine⟨?_,Te (Bp k)⟩
 cases q:cH.get? (n8 cL k) with
 |none=>rfl
 |some o=>exact absurd (Tc q) (TY.mpr (Tr (QS F.above (Bp k))))
theorem j7.cell{h:Vg}{m:Vk->Option UX}{cm:Nat->Option UX}{ps:Array UX}{news:List (Vf×Vl)}(H:j7 h m cm ps)(hall:L4 h news)(k:Nat)(hk:k<11){v:Option UX}(e:cm k=v):∃o,(n8 cL k,o)∈news/\o.data= .cell v:=by
 refine oEA (H.cells k hk) fun o g d=>?_
 refine oA (Al H.fr k) fun n1 n2=>?_
 rcases hall _ o g with q|q|q
 ·exact absurd q n2
 ·exact zs1 n1 q
 ·exact(iEA o q (e ▸ d))
theorem Ad{h h':Vg}{m':Vk->Option UX}{news news':List (Vf×Vl)}(hall:L4 h news)(F:Fr cH cL h' m')(N:News cH cL h' news')(hs:∀p∈news,p∈news'):z7 h h':=fun b o hL Z e=>by
 rcases hall b o e with q|q|q
 ·exact absurd q hL
 ·exact F.keep _ _ q
 ·exact(N _ (hs _ q)).1
theorem Iv{h:Vg}{m:Vk->Option UX}(F:Fr cH cL h m){o:Vl}(g:h.get? cL=some o):¬A9 o:=by
 (intro r0_;refine R7 r0_ fun vs Z Z e3 Z=>?_;clear r0_)
 refine R3 F.ns fun o' es ep e1 e2 Z=>?_
 rw[e1] at g;cases g
 rw[e2] at e3;cases e3
theorem Jc{o:Vl}{v:Option UX}(d:o.data= .cell v):¬A9 o:=by
 (intro r0_;refine R7 r0_ fun vs Z Z e3 Z=>?_;clear r0_)
 rw[d] at e3;cases e3
theorem AJ{h h':Vg}{m m':Vk->Option UX}{news news':List (Vf×Vl)}(F0:Fr cH cL h m)(hall:L4 h news)(F:Fr cH cL h' m')(N:News cH cL h' news')(hs:∀p∈news,A9 p.2->p∈news'):AL h h':=by
 rintro b o _ hc e
 rcases hall b o e with q|q|q
 ·exact(Iv F0 (q ▸ e) hc).elim
 ·exact F.keep _ _ q
 ·exact(N _ (hs _ q hc)).1
structure Q8(xs:List Vk)(ks:List Nat)(h:Vg)(tk:Nat)(m:Vk->Option UX)(cm:Nat->Option UX)(h':Vg)(tk':Nat)(m':Vk->Option UX)(cm':Nat->Option UX)(ps':Array UX):Prop where
 toks:tk<=tk'
 law:j7 h' m' cm' ps'
 st:z7 h h'
 nm:∀y,y∉xs->m' y=m y
 cl:∀k,k∉ks->cm' k=cm k
theorem i8{h h':Vg}{tk tk':Nat}{m m':Vk->Option UX}{cm:Nat->Option UX}{ps:Array UX}{news news':List (Vf×Vl)}(xs:List Vk)(H:j7 h m cm ps)(hall:L4 h news)(hT:tk<=tk')(no:cH.get? 222=none)(lt:222<cL)
  (F:Fr cH cL h' m')(N:News cH cL h' news')(hs:∀p∈news,p∈news')(nm:∀y,y∉xs->m' y=m y):Q8 xs [] h tk m cm h' tk' m' cm ps:=by
 refine⟨hT,⟨F,fun k hk=>?_,?_,H.ok.up (AJ H.fr hall F N fun p hp Z=>hs p hp)⟩,Ad hall F N hs,nm,fun Z Z=>rfl⟩
 ·refine oEA (H.cell hall k hk rfl) fun o mo d=>?_
  exact(iEA o ((N _ (hs _ mo)).1) d)
 ·rcases hall _ _ H.tab with q|q|q
  ·exact absurd lt (q ▸ SK _)
  ·exact zs1 no q
  ·exact(N _ (hs _ q)).1
theorem p6{h h':Vg}{m:Vk->Option UX}{cm:Nat->Option UX}{ps:Array UX}{news news':List (Vf×Vl)}{D:Vf}{o:Vl}(H:j7 h m cm ps)(hall:L4 h news)(no:cH.get? 222=none)(lt:222<cL)
  (N:News cH cL h' news')(hm:(D,o)∈news')(O:∀q∈news,q.1≠D):r0 h' D o:=by
 refine⟨(N _ hm).1,(N _ hm).2.1,?_,(N _ hm).2.2⟩
 rintro(e|⟨k,hk,e⟩)
 ·rcases hall _ _ H.tab with q|q|q
  ·exact absurd lt (q ▸ SK _)
  ·exact zs1 no q
  ·exact O _ q e.symm
 ·refine oEA (H.cell hall k hk rfl) fun o' mo Z=>?_
  exact O _ mo e.symm
inductive LI(h:Vg)(a:Vf)(ns:List Int):Prop
 |mk(vs:List UX)(n:Nat)(a0:r0 h a (W.listOf vs.toArray n))(a1:UG vs ns)
theorem LI.up{h h':Vg}{a:Vf}{ns:List Int}(x:LI h a ns)(k:z7 h h'):LI h' a ns:=by
 obtain⟨vs,n,e,i⟩:=x
 exact⟨vs,n,e.up k,i⟩
noncomputable def y3(vs:List UX)(xs:List Vk):Prop:=Paired (fun v x=>∃t,v=Um x t) vs xs
inductive LT(h:Vg)(a:Vf)(xs:List Vk):Prop
 |mk(vs:List UX)(n:Nat)(a0:r0 h a (W.listOf vs.toArray n))(a1:y3 vs xs)
theorem LT.up{h h':Vg}{a:Vf}{ns:List Vk}(x:LT h a ns)(k:z7 h h'):LT h' a ns:=by
 obtain⟨vs,n,e,i⟩:=x
 exact⟨vs,n,e.up k,i⟩
noncomputable def L0(vs:List UX)(bs:List (Array UInt8)):Prop:=Paired (fun v b=>∃t,v=UX.bytes b t) vs bs
inductive LB(h:Vg)(a:Vf)(bs:List (Array UInt8)):Prop
 |mk(vs:List UX)(n:Nat)(a0:r0 h a (W.listOf vs.toArray n))(a1:L0 vs bs)
theorem LB.up{h h':Vg}{a:Vf}{bs:List (Array UInt8)}(x:LB h a bs)(k:z7 h h'):LB h' a bs:=by
 obtain⟨vs,n,e,i⟩:=x
 exact⟨vs,n,e.up k,i⟩
noncomputable def HE(h:Vg)(r:Vf)(vs:List UX):Prop:=∀h',z7 h h'->h'.IsList r vs.toArray
theorem HE.up{h h':Vg}{r:Vf}{vs:List UX}(x:HE h r vs)(k:z7 h h'):HE h' r vs:=fun h9 k9=>x h9 (k.trans k9)
theorem KI{h:Vg}{m:Vk->Option UX}{cm:Nat->Option UX}{ps:Array UX}(H:j7 h m cm ps){r:Vf}{vs:List UX}(x:h.IsList r vs.toArray):HE h r vs:=by
 refine Fl x fun o e hc n hd=>?_;clear x
 refine fun h' k=>(Fq o (k r o ?_ ?_ e) hc n hd)
 ·rintro rfl
  refine R3 H.fr.ns fun o' es ep e1 e2 Z=>?_
  rw[e1] at e;cases e
  rw[e2] at hd;cases hd
 ·rintro(rfl|⟨j,hj,rfl⟩)
  ·rw[H.tab] at e;cases e;cases hd
  ·refine oEA (H.cells j hj) fun o' g d=>?_
   rw[g] at e;cases e
   rw[d] at hd;cases hd
inductive LL(h:Vg)(a:Vf)(xs:List (List Int)):Prop
 |mk(vs:List UX)(n:Nat)(a0:r0 h a (W.listOf vs.toArray n))(a1:Paired (fun v ns=>∃r us,v=Ul r/\HE h r us/\UG us ns) vs xs)
theorem LL.up{h h':Vg}{a:Vf}{ns:List (List Int)}(x:LL h a ns)(k:z7 h h'):LL h' a ns:=by
 obtain⟨vs,n,e,i⟩:=x
 exact⟨vs,n,e.up k,Paired.mono (fun v ns x=>M3 x fun r us e l i=>(H5 r us e (l.up k) i)) i⟩
noncomputable def Jo(h:Vg)(r:Vf)(a b c d:Int):Prop:=∀h',z7 h h'->S7 (KW cW) h' r a b c d
theorem Jo.up{h h':Vg}{r:Vf}{a b c d:Int}(x:Jo h r a b c d)(k:z7 h h'):Jo h' r a b c d:=fun h9 k9=>x h9 (k.trans k9)
noncomputable def BZ(h:Vg)(vs:List UX)(rs:List RuleD):Prop:=Paired (fun v r=>∃x,v=Ul x/\Jo h x r.reach r.low r.high r.verdict) vs rs
inductive LR(h:Vg)(a:Vf)(rs:List RuleD):Prop
 |mk(vs:List UX)(n:Nat)(a0:r0 h a (W.listOf vs.toArray n))(a1:BZ h vs rs)
theorem BZ.up{h h':Vg}{vs:List UX}{rs:List RuleD}(x:BZ h vs rs)(k:z7 h h'):BZ h' vs rs:=Paired.mono (fun v r x=>oEA x fun a e l=>(iEA a e (l.up k))) x
theorem LR.up{h h':Vg}{a:Vf}{rs:List RuleD}(x:LR h a rs)(k:z7 h h'):LR h' a rs:=by
 obtain⟨vs,n,e,i⟩:=x
 exact⟨vs,n,e.up k,i.up k⟩
inductive Cn(h:Vg)(x ua rl:Vf)(dv rv:UX):Prop
 |mk(dx:Vf)(t1:Vm)(t2:Vm)(t3:Vm)(t4:Vm)(a0:r0 h x (UL 69 dx))(a1:r0 h dx (z9 cW.params t1 t2 t3 t4 (.ref ua) (.ref rl) dv rv))
theorem Cn.up{h h':Vg}{x ua rl:Vf}{dv rv:UX}(r:Cn h x ua rl dv rv)(k:z7 h h'):Cn h' x ua rl dv rv:=by
 obtain⟨dx,t1,t2,t3,t4,a,b⟩:=r
 exact⟨dx,t1,t2,t3,t4,a.up k,b.up k⟩
end Mine
end
section
open PySem PySem.W PySem.Calls PyProof.Rows PySem.Spec
namespace Mine
theorem Ca.pair{prog:UF}{w:Va}{A:UP}{I:Vf}{fp wr:List Vf}{n:Nat}{Pt:Nat->Array UX->Prop}{St:Nat->Vg->Prop}{Mid:Nat->Vf->Vg->Prop}{x y:Vk}{px py pt:Pos}{kt:Nat}{cenv:Vn}
  (hh:A.handled=none)(W:WalksT prog w A I fp wr n Pt St Mid)(hP:∀i vals,Pt i vals->∃a b,vals= #[a,b])(hth:∀i h,St i h->∀b∈fp,∃o,h.get? b=some o)
  (hx:cenv.kindOf x=some .local)(hy:cenv.kindOf y=some .local)(hxy:x≠y)(hp:(cenv.scope.kind == .class || (cenv.scope.kind == .module && cenv.locals != cenv.globals))=false)(hCf:cenv.locals∉fp):
  Ca prog w A (.ref I) (.Tuple [.Name x px, .Name y py] kt pt) cenv fp wr n (fun i m=>∃a b,Pt i #[a,b]/\m x=some a/\m y=some b) St where
 sub:=W.sub
 frame:=W.frame
 item:=fun i s m Q E hi st hn hQ=>by
  have hCw:cenv.locals∉wr:=fun h=>hCf (W.sub _ h)
  refine W.item i s _ _ hi st fun T vals h₁ tk₁ hPt hsz hT hm₁ hk₁=>?_
  (refine oEE (hP i vals hPt) fun a b o0_=>?_;obtain rfl:=o0_)
  dsimp only
  refine W.go _ _ _ i T _ _ _ hm₁ fun h₂ hst₂ hk₂=>?_
  have hTw:=W.apart i T _ hm₁
  have hT₂:h₂.IsTuple T #[a,b]:=hT.imp fun o z=>⟨hk₂ _ o hTw z.1,z.2⟩
  have hn₂:h₂.Ns cenv.locals m:=(hn.at' fun o e=>hk₁ _ o hCw e).at' fun o e=>hk₂ _ o hCw e
  refine wpAny_assign_Tuple hh hT₂ rfl (by with_unfolding_all rfl) fun h₃ hs₃=>?_
  have hlt:cenv.locals<h₂.objs.size:=hn₂.lt
  have fpLt:∀b∈fp,b<h₂.objs.size:=fun b hb=>by refine oE (hth _ _ hst₂ b hb) fun o e=>?_;exact Tc e
  have st₃:St (i+1) h₃:=W.frame _ _ _ hst₂ fun b hb o e=>hs₃ b o (Tb (fpLt b hb)) e
  have hn₃:h₃.Ns cenv.locals m:=hn₂.at' fun o e=>hs₃ _ o (Tb hlt) e
  show UY _ A (SV [assign (.Name x px) cenv,assign (.Name y py) cenv] [a,b]) Q E _
  unfold SV
  refine TQ (SM (Rk (Qn hx hn₃ (fun h₄ hn₄ hs₄=>?_) hp)))
  unfold SV
  refine TQ (SM (Rk (Qn hy hn₄ (fun h₅ hn₅ hs₅=>?_) hp)))
  unfold SV
  refine TR (hQ h₅ _ (fun z=>if z=y then some b else if z=x then some a else m z) (H5 a b hPt ((if_neg hxy).trans (if_pos rfl)) (if_pos rfl)) hn₅ (W.frame _ _ _ st₃ fun b hb o e=>?_) fun b o hbC hbw e=>?_)
  ·have hbC:b≠cenv.locals:=fun h=>hCf (h ▸ hb)
   exact hs₅.extBut b o hbC (hs₄.extBut b o hbC e)
  ·have e2:=hk₂ b o hbw (hk₁ b o hbw e)
   exact hs₅.extBut b o hbC (hs₄.extBut b o hbC (hs₃ b o (Tb (Tc e2)) e2))
 done:=W.done
 self:=W.self
 there:=fun i h st b hb=>hth i h st b (W.sub b hb)
section
variable{prog:UF}{w:Va}{A:UP}{E:UX->UO->Prop}{env:Vn}{s:UO}{h₀:Vg}{L:Vf}{m:Vk->Option UX}{news:List (Vf×Vl)}
 {scope:Vb} {cl:List (Vk×Vf)} {elt:Vh} {fin:UO->(Vk->Option UX)->List (Vf×Vl)->Vf->List UX->Nat->Vg->Nat->Prop}
theorem FK{kb:Bool}{ax:Vf}{vs:List UX}{x y:Vk}{px py pt:Pos}{kt:Nat}{ifs:List Vh}(p:Nat->Bool)(G:Nat->Vg->Vg->UX->Prop)(hh:A.handled=none)(hl:s.heap.IsList ax vs.toArray)(hsz:vs.length<=Ux)
  (hx:scope.names.lookup x=some .local)(hy:scope.names.lookup y=some .local)(hxy:x≠y)(hkind:scope.kind= .function)(F:Fr h₀ L s.heap m)(N:News h₀ L s.heap news)(hax:ax≠L)
  (tests:∀i v t C oC u H tk rest E',vs[i]? =some v->NsO oC u->u x=some (.int (i:Nat) t)->u y=some v->Fr h₀ L H m->News h₀ L H ((C,oC)::(news++rest))->
   UY (UZ prog w) A (forIn ifs true fun c r=>if r=true then do let ok←isTrue c (Uw scope cl C env) (Vi c (Uw scope cl C env));pure (RV ok) else pure (RV r))
    (p9 h₀ L m rest (p i) {s with heap:=H,toks:=tk}) E' {s with heap:=H,toks:=tk})
  (elts:∀i v t C oC u H tk rest E',vs[i]? =some v->p i=true->NsO oC u->u x=some (.int (i:Nat) t)->u y=some v->Fr h₀ L H m->News h₀ L H ((C,oC)::(news++rest))->
   UY (UZ prog w) A (Vi elt (Uw scope cl C env)) (j3 h₀ L m rest (G i H) {s with heap:=H,toks:=tk}) E' {s with heap:=H,toks:=tk})
  (hfin:∀(s₂:UO),(∃h tk,s₂={s with heap:=h,toks:=tk})->∀D ys k h' tk,Fr h₀ L h' m->News h₀ L h' ((D,listOf ys.toArray k)::news)->(∀q∈news,q.1≠D)->Paired (fun j y=>∃hb ha,G j hb ha y/\C5 hb ha h') ((TS vs.length).filter p) ys->fin s₂ m news D ys k h' tk):
  UY (UZ prog w) A (call (.type "enumerate") [.ref ax]) (fun xv s₁=>UY (UZ prog w) A (UU xv) (fun it s₂=>Y9 kb prog w A env scope cl (.Tuple [.Name x px, .Name y py] kt pt) ifs elt h₀ L it s₂ (fin s₂)) E s₁) E s:=by
 have hlt:ax<s.heap.objs.size:=by refine oEA hl fun Z e Z=>?_;clear hl;exact Tc e
 refine call_enumerate_list hl fun h' hE hI hsz' hk=>?_
 refine wpAny_pyIter_enum hE ?_
 have hlow:∀b∈[s.heap.objs.size+1,s.heap.objs.size,ax],b<s.heap.objs.size+2:=fa3 (RC _) (Ri (RC _)) (Ri (Ri hlt))
 have hei:s.heap.objs.size+1≠s.heap.objs.size:=Nat.succ_ne_self _
 have hle:ax≠s.heap.objs.size+1:=Tb (Ri hlt)
 have hli:ax≠s.heap.objs.size:=Tb hlt
 have W:=WalksT.enumerate (prog:=prog) (w:=w) hh (s.heap.objs.size+1) s.heap.objs.size ax hei hle hli vs.toArray
 have hsize:vs.toArray.size=vs.length:=by simp
 rw[hsize] at W
 refine Mu (s:={s with heap:=h'}) (n:=vs.length) (fp:=[s.heap.objs.size+1,s.heap.objs.size,ax]) (wr:=[s.heap.objs.size+1,s.heap.objs.size]) (Bd:=fun i u=>∃a b,(∃t z,vs.toArray[i]? =some z/\(#[a,b]:Array UX)= #[.int i t,z])/\u x=some a/\u y=some b) p G hsz
  (St:=fun i h=>(∃old,IsEnum h (s.heap.objs.size+1) s.heap.objs.size i old)/\h.IsListIter s.heap.objs.size ax i/\h.IsList ax vs.toArray) (iAA ⟨_,by simpa using hE⟩ hI (hl.at fun o e=>hk _ o e)) ?_ ?_ (F.keeps hk) (fun q hq=>⟨hk _ _ (N q hq).1,(N q hq).2⟩) ?_ ?_ ?_ W.sub ?_ ?_ (hfin _ (iEE _ _ rfl))
 ·show∀b∈_,b<h'.objs.size
  rw[hsz'];exact hlow
 ·intro C hC
  have hC':s.heap.objs.size+2<=C:=hsz' ▸ hC
  refine Ca.pair hh W ?_ ?_ (Qu hx) (Qu hy) hxy (by simp[Uw,UJ,hkind]) (fun hm=>absurd hC' (Ug.mpr (hlow _ hm)))
  ·exact fun i vals r0_=>y8 r0_ fun t z Z e=>iEE _ _ e
  ·exact fun i h r0_=>oAA r0_ fun a b c=>fa3 (a.elim fun Z he=>⟨_,he⟩) (TZ (fun Z h=>h.1) b) (TZ (fun Z h=>h.1) c)
 ·exact nmA (fa3 (Tb (Ri F.ns.lt)) (Tb F.ns.lt) hax.symm)
 ·have hn:∀b,s.heap.objs.size<=b->h₀.get? b=none:=fun b hb=>by
   cases q:h₀.get? b with
   |none=>rfl
   |some o=>exact absurd (Tc (F.keep _ _ q)) (TY.mpr hb)
  exact fa2 (hn _ (TG _)) (hn _ (TA _))
 ·exact fun q hq=>nmA (fa2 (Tb (Ri (Tc (N q hq).1))) (Tb (Tc (N q hq).1)))
 ·(intro i C oC u H tk rest E' hi r0_;(refine M3 r0_ fun a b o0_ hu hv=>?_;clear r0_;obtain⟨t,z,hz,e⟩:=o0_);intro hO F' N')
  obtain⟨rfl,rfl⟩:=Pg e
  exact tests i b t C oC u H tk rest E' (toA hz) hO hu hv F' N'
 ·(intro i C oC u H tk rest E' hi hp r0_;(refine M3 r0_ fun a b o0_ hu hv=>?_;clear r0_;obtain⟨t,z,hz,e⟩:=o0_);intro hO F' N')
  obtain⟨rfl,rfl⟩:=Pg e
  exact elts i b t C oC u H tk rest E' (toA hz) hp hO hu hv F' N'
end
namespace Aq
noncomputable def T(prog:UF)(w:Va)(A:UP)(E:UX->UO->Prop)(env:Vn)(s:UO)(h₀:Vg)(L:Vf)(m:Vk->Option UX)(news:List (Prod Vf Vl))(scope:Vb)(cl:List (Prod Vk Vf))(elt:Vh)(fin:UO->(Vk->Option UX)->List (Prod Vf Vl)->Vf->List UX->Nat->Vg->Nat->Prop)(a1:Vf)(a2:Vf)(vs1:List UX)(vs2:List UX)(n:Nat)(x:Vk)(y:Vk)(px:Pos)(py:Pos)(pt:Pos)(kt:Nat)(G:Nat->Vg->Vg->UX->Prop):Prop:=∀(hh:A.handled=none)(hl1:s.heap.IsList a1 vs1.toArray)(hl2:s.heap.IsList a2 vs2.toArray)(hn1:vs1.length=n)(hn2:vs2.length=n)(hsz:n<=Ux)(hx:scope.names.lookup x=some .local)(hy:scope.names.lookup y=some .local)(hxy:x≠y)(hkind:scope.kind= .function)(F:Fr h₀ L s.heap m)(N:News h₀ L s.heap news)(hax1:a1≠L)(hax2:a2≠L)(elts:∀i v1 v2 C oC u H tk rest E',s.toks<=tk->vs1[i]? =some v1->vs2[i]? =some v2->NsO oC u->u x=some v1->u y=some v2->Fr h₀ L H m->News h₀ L H ((C,oC)::(news++rest))->
   UY (UZ prog w) A (Vi elt (Uw scope cl C env)) (j3 h₀ L m rest (G i H) {s with heap:=H,toks:=tk}) E' {s with heap:=H,toks:=tk})(hfin:∀(s₂:UO),(∃h tk,s₂={s with heap:=h,toks:=tk})->∀D ys k h' tk,Fr h₀ L h' m->News h₀ L h' ((D,listOf ys.toArray k)::news)->(∀q∈news,q.1≠D)->Paired (fun j y=>∃hb ha,G j hb ha y/\C5 hb ha h') (TS n) ys->fin s₂ m news D ys k h' tk),UY (UZ prog w) A (call (.type "zip") [.ref a1, .ref a2]) (fun xv s₁=>UY (UZ prog w) A (UU xv) (fun it s₂=>Y9 false prog w A env scope cl (.Tuple [.Name x px, .Name y py] kt pt) [] elt h₀ L it s₂ (fin s₂)) E s₁) E s
noncomputable def P9:=V4 fun prog w A E=>V4 fun env s h₀ L=>V4 fun m news scope cl=>V4 fun elt fin a1 a2=>V4 fun vs1 vs2 n x=>V4 fun y px py pt=>U2 fun kt G=>T prog w A E env s h₀ L m news scope cl elt fin a1 a2 vs1 vs2 n x y px py pt kt G
@[irreducible] noncomputable def c:=y6 (by k_extra "ne") P9
@[irreducible] noncomputable def prog:=c.1.1
@[irreducible] noncomputable def w:=c.1.2.1
@[irreducible] noncomputable def A:=c.1.2.2.1
@[irreducible] noncomputable def E:=c.1.2.2.2
@[irreducible] noncomputable def env:=c.2.1.1
@[irreducible] noncomputable def s:=c.2.1.2.1
@[irreducible] noncomputable def h₀:=c.2.1.2.2.1
@[irreducible] noncomputable def L:=c.2.1.2.2.2
@[irreducible] noncomputable def m:=c.2.2.1.1
@[irreducible] noncomputable def news:=c.2.2.1.2.1
@[irreducible] noncomputable def scope:=c.2.2.1.2.2.1
@[irreducible] noncomputable def cl:=c.2.2.1.2.2.2
@[irreducible] noncomputable def elt:=c.2.2.2.1.1
@[irreducible] noncomputable def fin:=c.2.2.2.1.2.1
@[irreducible] noncomputable def a1:=c.2.2.2.1.2.2.1
@[irreducible] noncomputable def a2:=c.2.2.2.1.2.2.2
@[irreducible] noncomputable def vs1:=c.2.2.2.2.1.1
@[irreducible] noncomputable def vs2:=c.2.2.2.2.1.2.1
@[irreducible] noncomputable def n:=c.2.2.2.2.1.2.2.1
@[irreducible] noncomputable def x:=c.2.2.2.2.1.2.2.2
@[irreducible] noncomputable def y:=c.2.2.2.2.2.1.1
@[irreducible] noncomputable def px:=c.2.2.2.2.2.1.2.1
@[irreducible] noncomputable def py:=c.2.2.2.2.2.1.2.2.1
@[irreducible] noncomputable def pt:=c.2.2.2.2.2.1.2.2.2
@[irreducible] noncomputable def kt:=c.2.2.2.2.2.2.1
@[irreducible] noncomputable def G:=c.2.2.2.2.2.2.2
theorem walk:T prog w A E env s h₀ L m news scope cl elt fin a1 a2 vs1 vs2 n x y px py pt kt G:=by
 intro hh hl1 hl2 hn1 hn2 hsz hx hy hxy hkind F N hax1 hax2 elts hfin
 have hlt1:a1<s.heap.objs.size:=by refine oEA hl1 fun Z e Z=>?_;clear hl1;exact Tc e
 have hlt2:a2<s.heap.objs.size:=by refine oEA hl2 fun Z e Z=>?_;clear hl2;exact Tc e
 have D:=zipApart_new hlt1 hlt2
 refine call_zip_2 hl1 hl2 fun h' hz hTI hTO hi1 hi2 hsz' hk=>?_
 refine wpAny_pyIter_zip hz ?_
 have W:=WalksT.zip2 (prog:=prog) (w:=w) hh _ _ _ _ _ _ _ D vs1.toArray vs2.toArray
 have hsize:min vs1.toArray.size vs2.toArray.size=n:=by simp[hn1,hn2]
 rw[hsize] at W
 have hge:∀b∈[s.heap.objs.size+4,s.heap.objs.size+3,s.heap.objs.size,s.heap.objs.size+1],s.heap.objs.size<=b:=fa4 (RD _ _) (RD _ _) (TA _) (RD _ _)
 have g:∀k,k<5->s.heap.objs.size+k<s.heap.objs.size+5:=fun k hk=>Nat.add_lt_add_left hk _
 have hlow:∀b∈[s.heap.objs.size+4,s.heap.objs.size+2,s.heap.objs.size+3,s.heap.objs.size,s.heap.objs.size+1,a1,a2],b<s.heap.objs.size+5:=
  fa7 (g 4 (by decide)) (g 2 (by decide)) (g 3 (by decide)) (g 0 (by decide)) (g 1 (by decide)) (QR hlt1 (RD _ _)) (QR hlt2 (RD _ _))
 refine GB (s:={s with heap:=h'}) (n:=n) (Bd:=fun i u=>∃a b,(∃z z',vs1.toArray[i]? =some z/\vs2.toArray[i]? =some z'/\(#[a,b]:Array UX)= #[z,z'])/\u x=some a/\u y=some b) (fun Z=>true) G hsz
  (St:=_) (Fs hz hTI (iEE _ _ hTO) hi1 hi2 (hl1.at fun o e=>hk _ o e) (hl2.at fun o e=>hk _ o e)) ?_ (fun C hC=>Ca.pair hh W ?_ ?_ (Qu hx) (Qu hy) hxy (by simp[Uw,UJ,hkind]) ?_) (F.keeps hk) (fun q hq=>⟨hk _ _ (N q hq).1,(N q hq).2⟩) ?_ ?_ ?_ W.sub
  (fun Z Z Z Z Z Z Z Z Z Z Z Z F N=>z8 (p9.intro F N (fun p hp=> .tail _ (RS.mpr (.inr hp))) rfl)) ?_ (fun D ys k h' tk F' N' O P=>hfin _ (iEE _ _ rfl) D ys k h' tk F' N' O (by rw[s7] at P;exact P))
 ·show∀b∈_,b<h'.objs.size
  rw[hsz'];exact hlow
 ·exact fun i vals r0_=>M3 r0_ fun z z' Z Z e=>iEE _ _ e
 ·exact fun i h r0_=>AD r0_ fun hz hTI c d1 d2 d3 d4=>fa7 ⟨_,hz⟩ ⟨_,hTI⟩ (oEE c fun Z Z hTO=>⟨_,hTO⟩) (TZ (fun Z h=>h.1) d1) (TZ (fun Z h=>h.1) d2) (TZ (fun Z h=>h.1) d3) (TZ (fun Z h=>h.1) d4)
 ·exact fun hm=>absurd (show s.heap.objs.size+5<=C from hsz' ▸ hC) (Ug.mpr (hlow _ hm))
 ·have g:∀k,L≠s.heap.objs.size+k:=fun k=>Tb (QR F.ns.lt (RD _ _))
  exact nmA (fa7 (g 4) (g 2) (g 3) (g 0) (g 1) hax1.symm hax2.symm)
 ·intro b hb
  cases q:h₀.get? b with
  |none=>rfl
  |some o=>exact absurd (Tc (F.keep _ _ q)) (TY.mpr (hge b hb))
 ·intro q hq hm
  exact absurd (Tc (N q hq).1) (TY.mpr (hge _ hm))
 ·(intro i C oC u H tk rest E' hT hi _ r0_;(refine M3 r0_ fun a b o0_ hu hv=>?_;clear r0_;obtain⟨z,z',hz,hz',e⟩:=o0_);intro hO F' N')
  obtain⟨rfl,rfl⟩:=Pg e
  exact wpP.of (elts i a b C oC u H tk rest E' hT (toA hz) (toA hz') hO hu hv F' N')
end Aq
section
variable{prog:UF}{w:Va}{A:UP}{E:UX->UO->Prop}{env:Vn}{s:UO}{h₀:Vg}{L:Vf}{m:Vk->Option UX}{news:List (Vf×Vl)}
 {scope:Vb} {cl:List (Vk×Vf)} {elt:Vh} {fin:UO->(Vk->Option UX)->List (Vf×Vl)->Vf->List UX->Nat->Vg->Nat->Prop}
theorem Le{prog w A E env s h₀ L m news scope cl elt fin a1 a2 vs1 vs2 n x y px py pt kt}(G):Aq.T prog w A E env s h₀ L m news scope cl elt fin a1 a2 vs1 vs2 n x y px py pt kt G:=f7 (P:=Aq.P9) (c:=Aq.c) (by with_unfolding_all rfl) (by with_unfolding_all exact Aq.walk) ((prog,w,A,E),(env,s,h₀,L),(m,news,scope,cl),(elt,fin,a1,a2),(vs1,vs2,n,x),(y,px,py,pt),(kt,G))
end
theorem FX{h₀ H h':Vg}{L:Vf}{m:Vk->Option UX}{news:List (Vf×Vl)}{ps ps':Array UX}(F:Fr h₀ L H m)(N:News h₀ L H ((222,UQ ps)::news))(hne:∀q∈news,q.1≠222)
  (k:∀b o,b≠222->H.get? b=some o->h'.get? b=some o)(g:h'.get? 222=some (UQ ps')):Fr h₀ L h' m/\News h₀ L h' ((222,UQ ps')::news):=by
 have hL2:L≠222:=Ne.symm (N _ (.head _)).2.1
 have h20:=(N _ (.head _)).2.2
 refine⟨⟨F.ns.at' fun o e=>k L o hL2 e,fun b o e=>k b o (fun q=>by exact zh1 q e h20) (F.keep b o e),F.above⟩,fun q hq=>?_⟩
 rcases SH.mp hq with rfl|hq
 ·exact⟨g,(N _ (.head _)).2⟩
 ·exact⟨k _ _ (hne q hq) (N q (.tail _ hq)).1,(N q (.tail _ hq)).2⟩
theorem Paired.app{α β:Type}{F:α->β->Prop}{as as':List α}{bs bs':List β}(k:Paired F as bs)(q:Paired F as' bs'):Paired F (as++as') (bs++bs'):=by
 induction k with
 |nil=>exact q
 |cons a _ ih=>exact .cons a ih
theorem Y0(g:Int->RuleD):∀(l:List Int),(TS l.length).map (fun i=>g (l.getD i 0))=l.map g:=by
 intro l
 apply RN
 ·simp
 ·intro i h1 h2
  have h3:i<l.length:=by simpa using h1
  simp[Qb h3]
theorem IU(p:Int->Bool):∀(l:List Int),((TS l.length).filter fun j=>p (l.getD j 0)).length=(l.filter p).length:=by
 intro l
 have h:((TS l.length).filter fun j=>p (l.getD j 0)).map (fun j=>l.getD j 0)=l.filter p:=by
  have e:l=(TS l.length).map fun j=>l.getD j 0:=by
   apply RN
   ·simp
   ·intro i h1 h2
    simp[Qb h1]
  conv=>rhs;rw[e,Sq]
  rfl
 rw[←h,RT]
theorem News.app{h₀ h:Vg}{L:Vf}{a b:List (Vf×Vl)}(A:News h₀ L h a)(B:News h₀ L h b):News h₀ L h (a++b):=fun q hq=>by
 rcases RS.mp hq with hq|hq
 ·exact A q hq
 ·exact B q hq
theorem OV{h₀ H h2:Vg}{L:Vf}{m2:Vk->Option UX}{rA news:List (Vf×Vl)}(hA:∀b o,H.get? b=some o->b=L\/h₀.get? b=some o\/(b,o)∈rA)(F:Fr h₀ L h2 m2)(N:News h₀ L h2 news)(hs:∀p∈rA,p∈news):∀b,h2.get? b=none->H.get? b=none:=by
 intro b e
 cases q:H.get? b with
 |none=>rfl
 |some o=>
  rcases hA b o q with r|r|r
  ·refine R7 F.ns fun o' Z Z e' Z=>?_;exact zg1 r e e'
  ·exact zs1 e (F.keep _ _ r)
  ·exact zs1 e ((N _ (hs _ r)).1)
theorem News.put2{h₀ h:Vg}{L:Vf}{a b:Vf×Vl}{l n:List (Vf×Vl)}(M:News h₀ L h (a::l))(N:News h₀ L h n)(hb:b∈n):News h₀ L h (a::b::l):=fun q hq=>by
 rcases SH.mp hq with rfl|hq
 ·exact M _ (.head _)
 ·rcases SH.mp hq with rfl|hq
  ·exact N _ hb
  ·exact M _ (.tail _ hq)
end Mine
end
section
open PySem PySem.W PySem.Calls PyProof.Rows PySem.Spec Builtin
namespace Mine
theorem Cc(a b c:UX):checkTypeCall "zip" ⟨[a,b,c],[]⟩=pure ():=by kernel_rfl
theorem Dq(a b c:UX):RJ "zip.__new__" ⟨[.type "zip",a,b,c],[]⟩=pure ():=by kernel_rfl
theorem An(a b c d:UX):UW "object.__init__" ⟨[a,b,c,d],[]⟩:=by
 unfold UW;rw[signature?_of (id:="object.__init__") (n:=['_', '_', 't', 'i', 'n', 'i', '_', '_']) (o:=['t', 'c', 'e', 'j', 'b', 'o']) (by kernel_rfl) F.owner_object];kernel_rfl
noncomputable abbrev w9(h:Vg)(T:Vf)(a b c:UX):Prop:=h.get? T=some {cls:= .type "tuple",data:= .seq #[a,b,c]}
structure ME(z TI TO i1 i2 i3 l1 l2 l3:Vf):Prop where
 TI_z:TI≠z
 TO_z:TO≠z
 i1_z:i1≠z
 i2_z:i2≠z
 i3_z:i3≠z
 TI_TO:TI≠TO
 TI_i1:TI≠i1
 TI_i2:TI≠i2
 TI_i3:TI≠i3
 TO_i1:TO≠i1
 TO_i2:TO≠i2
 TO_i3:TO≠i3
 i1_i2:i1≠i2
 i1_i3:i1≠i3
 i2_i3:i2≠i3
 l1_z:l1≠z
 l1_TO:l1≠TO
 l1_i1:l1≠i1
 l1_i2:l1≠i2
 l1_i3:l1≠i3
 l2_z:l2≠z
 l2_TO:l2≠TO
 l2_i1:l2≠i1
 l2_i2:l2≠i2
 l2_i3:l2≠i3
 l3_z:l3≠z
 l3_TO:l3≠TO
 l3_i1:l3≠i1
 l3_i2:l3≠i2
 l3_i3:l3≠i3
section
variable{prog:UF}{w:Va}{A:UP}{E:UX->UO->Prop}{s:UO}{z TI TO i1 i2 i3 l1 l2 l3:Vf}{xs ys zs:Array UX}{a b c:UX}
theorem Ax{T:Vf}{a b c x:UX}{k:Nat}{Q:Unit->UO->Prop}(hT:w9 s.heap T a b c)
  (h:∀h',h'.get? T=some {cls:= .type "tuple",data:= .seq ((#[a,b,c]:Array UX).setIfInBounds k x)}->To T s.heap h'->Q () {s with heap:=h'}):
  UY (UZ prog w) A (updateSeq T (·.setIfInBounds k x)) Q E s:=by
 refine Sp hT rfl (h _ ?_ (QP ..))
 rw[Qo _ hT rfl]
 simp[Ue]
end
namespace J7
noncomputable def T(prog:UF)(w:Va)(A:UP)(E:UX->UO->Prop)(s:UO)(z:Vf)(TI:Vf)(TO:Vf)(i1:Vf)(i2:Vf)(i3:Vf)(l1:Vf)(l2:Vf)(l3:Vf)(xs:Array UX)(ys:Array UX)(zs:Array UX)(a:UX)(b:UX)(c:UX)(k:Nat)(x:UX)(y:UX)(v:UX)(Q:UX->UO->Prop):Prop:=∀(D:ME z TI TO i1 i2 i3 l1 l2 l3)(hz:IsZip s.heap z TI TO .none)(hTI:w9 s.heap TI (.ref i1) (.ref i2) (.ref i3))(hTO:w9 s.heap TO a b c)(h1:s.heap.IsListIter i1 l1 k)(h2:s.heap.IsListIter i2 l2 k)(h3:s.heap.IsListIter i3 l3 k)(hl1:s.heap.IsList l1 xs)(hl2:s.heap.IsList l2 ys)(hl3:s.heap.IsList l3 zs)(hx:xs[k]? =some x)(hy:ys[k]? =some y)(hv:zs[k]? =some v)(hQ:∀h',IsZip h' z TI TO (US s.heap.objs.size)->w9 h' TO x y v->h'.IsListIter i1 l1 (k+1)->h'.IsListIter i2 l2 (k+1)->h'.IsListIter i3 l3 (k+1)->w9 h' s.heap.objs.size x y v->h'.objs.size=s.heap.objs.size+1->
   (∀c o,c≠z->c≠TO->c≠i1->c≠i2->c≠i3->s.heap.get? c=some o->h'.get? c=some o)->Q (.ref s.heap.objs.size) {s with heap:=h'}),UY (UZ prog w) A (UE.«zip.__next__» ⟨[.ref z],[]⟩) (fun fin s'=>∃v,fin= .done (.ret v)/\Q v s') E s
noncomputable def P9:=V4 fun prog w A E=>V4 fun s z TI TO=>V4 fun i1 i2 i3 l1=>V4 fun l2 l3 xs ys=>V4 fun zs a b c=>V4 fun k x y v=>fun Q=>T prog w A E s z TI TO i1 i2 i3 l1 l2 l3 xs ys zs a b c k x y v Q
@[irreducible] noncomputable def c9:=y6 (by k_extra "ne") P9
@[irreducible] noncomputable def prog:=c9.1.1
@[irreducible] noncomputable def w:=c9.1.2.1
@[irreducible] noncomputable def A:=c9.1.2.2.1
@[irreducible] noncomputable def E:=c9.1.2.2.2
@[irreducible] noncomputable def s:=c9.2.1.1
@[irreducible] noncomputable def z:=c9.2.1.2.1
@[irreducible] noncomputable def TI:=c9.2.1.2.2.1
@[irreducible] noncomputable def TO:=c9.2.1.2.2.2
@[irreducible] noncomputable def i1:=c9.2.2.1.1
@[irreducible] noncomputable def i2:=c9.2.2.1.2.1
@[irreducible] noncomputable def i3:=c9.2.2.1.2.2.1
@[irreducible] noncomputable def l1:=c9.2.2.1.2.2.2
@[irreducible] noncomputable def l2:=c9.2.2.2.1.1
@[irreducible] noncomputable def l3:=c9.2.2.2.1.2.1
@[irreducible] noncomputable def xs:=c9.2.2.2.1.2.2.1
@[irreducible] noncomputable def ys:=c9.2.2.2.1.2.2.2
@[irreducible] noncomputable def zs:=c9.2.2.2.2.1.1
@[irreducible] noncomputable def a:=c9.2.2.2.2.1.2.1
@[irreducible] noncomputable def b:=c9.2.2.2.2.1.2.2.1
@[irreducible] noncomputable def c:=c9.2.2.2.2.1.2.2.2
@[irreducible] noncomputable def k:=c9.2.2.2.2.2.1.1
@[irreducible] noncomputable def x:=c9.2.2.2.2.2.1.2.1
@[irreducible] noncomputable def y:=c9.2.2.2.2.2.1.2.2.1
@[irreducible] noncomputable def v:=c9.2.2.2.2.2.1.2.2.2
@[irreducible] noncomputable def Q:=c9.2.2.2.2.2.2
theorem walk:T prog w A E s z TI TO i1 i2 i3 l1 l2 l3 xs ys zs a b c k x y v Q:=by
 intro D hz hTI hTO h1 h2 h3 hl1 hl2 hl3 hx hy hv hQ
 show UY _ _ (field (.ref z) 2>>=_) _ _ _
 refine TQ (TF hz rfl (x:= .bool false) rfl ?_)
 show UY _ _ (field (.ref z) 3>>=_) _ _ _
 refine TQ (TF hz rfl (x:= .ref TI) rfl ?_)
 refine TQ (Sw hTI rfl ?_)
 show UY _ _ (PO (.ref z)>>=_) _ _ _
 refine TQ ?_
 unfold PO
 refine TQ (TF hz rfl (x:= .none) rfl (TR ?_))
 simp only[if_true]
 refine TQ (Ud ?_)
 refine TQ (TF hz rfl (x:= .ref TO) rfl ?_)
 refine TQ (Rb hz (by simp) fun g1 hz₁ hs1=>?_)
 replace hz₁:IsZip g1 z TI TO .ellipsis:=hz₁
 refine TQ ?_
 simp only[List.zipIdx_cons,List.zipIdx_nil,So,SE]
 refine TQ (TQ (wpAny_onRaise ?_))
 show UY _ _ (Qa (.ref i1)>>=_) _ _ _
 refine TQ (wpAny_nextOf_list_item (h1.extBut hs1.extBut D.i1_z) (hl1.extBut hs1.extBut D.l1_z) hx fun g2 e1 hs2=>TR ?_)
 have hU2:w9 g2 TO a b c:=(hs2.extBut _ _ D.TO_i1 (hs1.extBut _ _ D.TO_z hTO))
 refine TQ (Sw hU2 rfl ?_)
 refine TQ (Ax hU2 fun g3 hT3 hs3=>?_)
 replace hT3:w9 g3 TO x b c:=hT3
 refine TQ (wpAny_letGo (TR ?_))
 refine TQ (TQ (wpAny_onRaise ?_))
 show UY _ _ (Qa (.ref i2)>>=_) _ _ _
 refine TQ (wpAny_nextOf_list_item (((h2.extBut hs1.extBut D.i2_z).extBut hs2.extBut D.i1_i2.symm).extBut hs3.extBut D.TO_i2.symm) (((hl2.extBut hs1.extBut D.l2_z).extBut hs2.extBut D.l2_i1).extBut hs3.extBut D.l2_TO) hy fun g4 e2 hs4=>TR ?_)
 have hU4:w9 g4 TO x b c:=(hs4.extBut _ _ D.TO_i2 hT3)
 refine TQ (Sw hU4 rfl ?_)
 refine TQ (Ax hU4 fun g5 hT5 hs5=>?_)
 replace hT5:w9 g5 TO x y c:=hT5
 refine TQ (wpAny_letGo (TR ?_))
 refine TQ (TQ (wpAny_onRaise ?_))
 show UY _ _ (Qa (.ref i3)>>=_) _ _ _
 refine TQ (wpAny_nextOf_list_item (((((h3.extBut hs1.extBut D.i3_z).extBut hs2.extBut D.i1_i3.symm).extBut hs3.extBut D.TO_i3.symm).extBut hs4.extBut D.i2_i3.symm).extBut hs5.extBut D.TO_i3.symm) (((((hl3.extBut hs1.extBut D.l3_z).extBut hs2.extBut D.l3_i1).extBut hs3.extBut D.l3_TO).extBut hs4.extBut D.l3_i2).extBut hs5.extBut D.l3_TO) hv fun g6 e3 hs6=>TR ?_)
 have hU6:w9 g6 TO x y c:=(hs6.extBut _ _ D.TO_i3 hT5)
 refine TQ (Sw hU6 rfl ?_)
 refine TQ (Ax hU6 fun g7 hT7 hs7=>?_)
 replace hT7:w9 g7 TO x y v:=hT7
 refine TQ (wpAny_letGo (TR (TR ?_)))
 refine TQ (Sw hT7 rfl ?_)
 refine TQ (wpAny_newTuple ?_)
 have hsz:g7.objs.size=s.heap.objs.size:=by rw[hs7.1,hs6.1,hs5.1,hs4.1,hs3.1,hs2.1,hs1.1]
 have hz5:IsZip g7 z TI TO .ellipsis:=(hs7.extBut _ _ D.TO_z.symm (hs6.extBut _ _ D.i3_z.symm (hs5.extBut _ _ D.TO_z.symm (hs4.extBut _ _ D.i2_z.symm (hs3.extBut _ _ D.TO_z.symm (hs2.extBut _ _ D.i1_z.symm hz₁))))))
 have hk5:∀c o,c≠z->c≠TO->c≠i1->c≠i2->c≠i3->s.heap.get? c=some o->g7.get? c=some o:=fun c o cz cT c1 c2 c3 e=>
  (hs7.extBut _ _ cT (hs6.extBut _ _ c3 (hs5.extBut _ _ cT (hs4.extBut _ _ c2 (hs3.extBut _ _ cT (hs2.extBut _ _ c1 (hs1.extBut _ _ cz e)))))))
 have f1:g7.IsListIter i1 l1 (k+1):=(((((e1.extBut hs3.extBut D.TO_i1.symm).extBut hs4.extBut D.i1_i2).extBut hs5.extBut D.TO_i1.symm).extBut hs6.extBut D.i1_i3).extBut hs7.extBut D.TO_i1.symm)
 have f2:g7.IsListIter i2 l2 (k+1):=(((e2.extBut hs5.extBut D.TO_i2.symm).extBut hs6.extBut D.i2_i3).extBut hs7.extBut D.TO_i2.symm)
 have f3:g7.IsListIter i3 l3 (k+1):=(e3.extBut hs7.extBut D.TO_i3.symm)
 have hzlt:z<g7.objs.size:=Tc hz5
 show UY _ _ (PN (.ref z) (.ref g7.objs.size)>>=_) _ _ _
 refine TQ ?_
 unfold PN
 have hz6:IsZip (g7.push {cls:= .type "tuple",data:= .seq #[x,y,v]}) z TI TO .ellipsis:=Qj _ hz5
 refine TQ (Rb hz6 (by simp) fun p7 hz7 hp7=>?_)
 replace hz7:IsZip p7 z TI TO (US g7.objs.size):=hz7
 refine Rb hz7 (by simp) fun p8 hz8 hp8=>?_
 replace hz8:IsZip p8 z TI TO (US g7.objs.size):=hz8
 have up:∀c o,c≠z->g7.get? c=some o->p8.get? c=some o:=fun c o c1 e=>hp8.extBut _ _ c1 (hp7.extBut _ _ c1 (Qj _ e))
 have hT8:w9 p8 g7.objs.size x y v:=hp8.extBut _ _ (Te hzlt) (hp7.extBut _ _ (Te hzlt) (QD _ rfl))
 have hs8:p8.objs.size=g7.objs.size+1:=by rw[hp8.1,hp7.1,Ss]
 rw[hsz] at hz8 hT8 hs8
 refine TR (iEA _ rfl ?_)
 show Q (.ref g7.objs.size) _
 rw[hsz]
 exact hQ p8 hz8 (up _ _ D.TO_z hT7) (f1.at fun o e=>up _ o D.i1_z e) (f2.at fun o e=>up _ o D.i2_z e) (f3.at fun o e=>up _ o D.i3_z e) hT8 hs8 fun c o cz cT c1 c2 c3 e=>up c o cz (hk5 c o cz cT c1 c2 c3 e)
end J7
section
variable{prog:UF}{w:Va}{A:UP}{E:UX->UO->Prop}{s:UO}{z TI TO i1 i2 i3 l1 l2 l3:Vf}{xs ys zs:Array UX}{a b c:UX}
theorem HH{prog w A E s z TI TO i1 i2 i3 l1 l2 l3 xs ys zs a b c k x y v Q}:J7.T prog w A E s z TI TO i1 i2 i3 l1 l2 l3 xs ys zs a b c k x y v Q:=f7 (P:=J7.P9) (c:=J7.c9) (by with_unfolding_all rfl) (by with_unfolding_all exact J7.walk) ((prog,w,A,E),(s,z,TI,TO),(i1,i2,i3,l1),(l2,l3,xs,ys),(zs,a,b,c),(k,x,y,v),Q)
theorem Jt{k:Nat}{Q:Fin->UO->Prop}(hh:A.handled=none)(D:ME z TI TO i1 i2 i3 l1 l2 l3)
  (hz:IsZip s.heap z TI TO .none)(hTI:w9 s.heap TI (.ref i1) (.ref i2) (.ref i3))(hTO:w9 s.heap TO a b c)
  (h1:s.heap.IsListIter i1 l1 k)(h2:s.heap.IsListIter i2 l2 k)(h3:s.heap.IsListIter i3 l3 k)(hl1:s.heap.IsList l1 xs)(hl2:s.heap.IsList l2 ys)(hl3:s.heap.IsList l3 zs)(hend:xs[k]? =none)
  (hE:∀h' e,(∀c o,c≠z->c≠TO->c≠i1->c≠i2->c≠i3->s.heap.get? c=some o->h'.get? c=some o)->(∃o,h'.get? e=some o/\o.cls= .type "StopIteration")->E (.ref e) {s with heap:=h'}):
  UY (UZ prog w) A (UE.«zip.__next__» ⟨[.ref z],[]⟩) Q E s:=by
 show UY _ _ (field (.ref z) 2>>=_) _ _ _
 refine TQ (TF hz rfl (x:= .bool false) rfl ?_)
 show UY _ _ (field (.ref z) 3>>=_) _ _ _
 refine TQ (TF hz rfl (x:= .ref TI) rfl ?_)
 refine TQ (Sw hTI rfl ?_)
 show UY _ _ (PO (.ref z)>>=_) _ _ _
 refine TQ ?_
 unfold PO
 refine TQ (TF hz rfl (x:= .none) rfl (TR ?_))
 simp only[if_true]
 refine TQ (Ud ?_)
 refine TQ (TF hz rfl (x:= .ref TO) rfl ?_)
 refine TQ (Rb hz (by simp) fun g1 hz₁ hs1=>?_)
 replace hz₁:IsZip g1 z TI TO .ellipsis:=hz₁
 refine TQ ?_
 simp only[List.zipIdx_cons,List.zipIdx_nil,So,SE]
 refine TQ (TQ (wpAny_onRaise ?_))
 show UY _ _ (Qa (.ref i1)>>=_) _ _ _
 refine TQ (wpAny_nextOf_list_end hh (h1.extBut hs1.extBut D.i1_z) (hl1.extBut hs1.extBut D.l1_z) hend fun g2 e hs2 he=>?_)
 refine oEA he fun oe hoe hce=>?_;clear he
 have hz2:IsZip g2 z TI TO .ellipsis:=hs2 _ _ D.i1_z.symm hz₁
 have hez:e≠z:=fun x=>by subst x;rw[hz2] at hoe;cases hoe;simp at hce
 exact Rb hz2 (by simp) fun g3 Z hs3=>hE g3 e (fun c o c1 Z c3 Z Z x=>hs3.extBut _ _ c1 (hs2 _ _ c3 (hs1.extBut _ _ c1 x))) (iEA oe (hs3.extBut _ _ hez hoe) hce)
theorem He{k:Nat}{x y v:UX}{Q:Option UX->UO->Prop}(D:ME z TI TO i1 i2 i3 l1 l2 l3)
  (hz:IsZip s.heap z TI TO .none)(hTI:w9 s.heap TI (.ref i1) (.ref i2) (.ref i3))(hTO:w9 s.heap TO a b c)
  (h1:s.heap.IsListIter i1 l1 k)(h2:s.heap.IsListIter i2 l2 k)(h3:s.heap.IsListIter i3 l3 k)(hl1:s.heap.IsList l1 xs)(hl2:s.heap.IsList l2 ys)(hl3:s.heap.IsList l3 zs)(hx:xs[k]? =some x)(hy:ys[k]? =some y)(hv:zs[k]? =some v)
  (hQ:∀h',IsZip h' z TI TO (US s.heap.objs.size)->w9 h' TO x y v->h'.IsListIter i1 l1 (k+1)->h'.IsListIter i2 l2 (k+1)->h'.IsListIter i3 l3 (k+1)->w9 h' s.heap.objs.size x y v->h'.objs.size=s.heap.objs.size+1->
   (∀c o,c≠z->c≠TO->c≠i1->c≠i2->c≠i3->s.heap.get? c=some o->h'.get? c=some o)->Q (some (.ref s.heap.objs.size)) {s with heap:=h'}):
  UY (UZ prog w) A (pyNext (.ref z)) Q E s:=by
 have hT:s.TypeIs (.ref z) "zip":=(iEA _ hz rfl)
 unfold pyNext
 exact TQ (SX (Qf (name:=Ta "__next__") hT F.slot_zip_next
  (RH F.slot_zip_next hT F.entry_zip_next
   (HH D hz hTI hTO h1 h2 h3 hl1 hl2 hl3 hx hy hv fun h' a1 a2 a3 a4 a5 a6 a7 a8=>TR (hQ h' a1 a2 a3 a4 a5 a6 a7 a8)) (F.args_zip_next_1 _))))
theorem Iy{k:Nat}{Q:Option UX->UO->Prop}(hh:A.handled=none)(D:ME z TI TO i1 i2 i3 l1 l2 l3)
  (hz:IsZip s.heap z TI TO .none)(hTI:w9 s.heap TI (.ref i1) (.ref i2) (.ref i3))(hTO:w9 s.heap TO a b c)
  (h1:s.heap.IsListIter i1 l1 k)(h2:s.heap.IsListIter i2 l2 k)(h3:s.heap.IsListIter i3 l3 k)(hl1:s.heap.IsList l1 xs)(hl2:s.heap.IsList l2 ys)(hl3:s.heap.IsList l3 zs)(hend:xs[k]? =none)
  (hQ:∀h',(∀c o,c≠z->c≠TO->c≠i1->c≠i2->c≠i3->s.heap.get? c=some o->h'.get? c=some o)->Q none {s with heap:=h'}):UY (UZ prog w) A (pyNext (.ref z)) Q E s:=by
 have hT:s.TypeIs (.ref z) "zip":=(iEA _ hz rfl)
 unfold pyNext
 refine TQ (SX (Qf (name:=Ta "__next__") hT F.slot_zip_next
  (RH F.slot_zip_next hT F.entry_zip_next (Jt hh D hz hTI hTO h1 h2 h3 hl1 hl2 hl3 hend fun h' e hk he=>?_) (F.args_zip_next_1 _))))
 refine oEA he fun o ho hc=>?_;clear he
 refine TQ (RI (T:="StopIteration") (b:=true) (iEA o ho hc) isSubtype_stop ?_)
 exact TR (hQ _ hk)
end
noncomputable abbrev zA(h:Vg)(l1:Vf):Vg:=h.push {cls:= .type "list_iterator",data:= .fields #[.ref l1, .int 0 0]}
noncomputable abbrev zB(h:Vg)(l1 l2:Vf):Vg:=(zA h l1).push {cls:= .type "list_iterator",data:= .fields #[.ref l2, .int 0 0]}
noncomputable abbrev zC(h:Vg)(l1 l2 l3:Vf):Vg:=(zB h l1 l2).push {cls:= .type "list_iterator",data:= .fields #[.ref l3, .int 0 0]}
noncomputable abbrev zD(h:Vg)(l1 l2 l3:Vf):Vg:=(zC h l1 l2 l3).push {cls:= .type "tuple",data:= .seq #[.ref h.objs.size, .ref (zA h l1).objs.size, .ref (zB h l1 l2).objs.size]}
noncomputable abbrev zE(h:Vg)(l1 l2 l3:Vf):Vg:=(zD h l1 l2 l3).push {cls:= .type "tuple",data:= .seq #[.none, .none, .none]}
noncomputable abbrev zF(h:Vg)(l1 l2 l3:Vf):Vg:=(zE h l1 l2 l3).push {cls:= .type "zip",data:= .fields #[.none, .bool false, .bool false, .ref (zC h l1 l2 l3).objs.size, .ref (zD h l1 l2 l3).objs.size]}
theorem Hg(l1 l2 l3:Vf)(xs ys zs:Array UX):
  Meets (UE.«zip.__new__» ⟨[.type "zip", .ref l1, .ref l2, .ref l3],[]⟩) (fun Z R s=>s.heap.IsList l1 xs/\s.heap.IsList l2 ys/\s.heap.IsList l3 zs/\
   R (.ok (.ret (.ref (zE s.heap l1 l2 l3).objs.size))) {s with heap:=zF s.heap l1 l2 l3}):=
 .of_wp fun prog w A R s h=>by
  obtain⟨hp,g,d,tk,os⟩:=s;refine AX h fun hl1 hl2 hl3 h=>?_
  have hsub:=sub_zip
  have hL1:TN (UO.heap ⟨hp,g,d,tk,os⟩) l1 xs:=hl1
  have hL2:TN (UO.heap ⟨hp.push {cls:= .type "list_iterator",data:= .fields #[.ref l1, .int 0 0]},g,d,tk,os⟩) l2 ys:=TN.push hl2 _
  have hL3:TN (UO.heap ⟨(hp.push {cls:= .type "list_iterator",data:= .fields #[.ref l1, .int 0 0]}).push {cls:= .type "list_iterator",data:= .fields #[.ref l2, .int 0 0]},g,d,tk,os⟩) l3 zs:=TN.push (TN.push hl3 _) _
  wp_walk using Ro hL1,Ro hL2,Ro hL3
  exact(iEA _ rfl h)
section
variable{prog:UF}{w:Va}{A:UP}{E:UX->UO->Prop}{s:UO}
theorem Hr{l1 l2 l3:Vf}{xs ys zs:Array UX}{Q:UX->UO->Prop}(hl1:s.heap.IsList l1 xs)(hl2:s.heap.IsList l2 ys)(hl3:s.heap.IsList l3 zs)
  (h:∀h',IsZip h' (s.heap.objs.size+5) (s.heap.objs.size+3) (s.heap.objs.size+4) .none->w9 h' (s.heap.objs.size+3) (.ref s.heap.objs.size) (.ref (s.heap.objs.size+1)) (.ref (s.heap.objs.size+2))->
   w9 h' (s.heap.objs.size+4) .none .none .none->h'.IsListIter s.heap.objs.size l1 0->h'.IsListIter (s.heap.objs.size+1) l2 0->h'.IsListIter (s.heap.objs.size+2) l3 0->h'.objs.size=s.heap.objs.size+6->
   (∀c o,s.heap.get? c=some o->h'.get? c=some o)->Q (.ref (s.heap.objs.size+5)) {s with heap:=h'}):
  UY (UZ prog w) A (call (.type "zip") [.ref l1, .ref l2, .ref l3]) Q E s:=by
 refine callType_new F.called_zip (by decide) (Cc _ _ _) (Dq _ _ _) (fun obj=>An obj _ _ _) F.entry_zip_new
  (Hg l1 l2 l3 xs ys zs) (Js hl1 hl2 hl3 ?_)
 have z1:(zA s.heap l1).objs.size=s.heap.objs.size+1:=Ss ..
 have z2:(zB s.heap l1 l2).objs.size=s.heap.objs.size+2:=by rw[Ss,z1]
 have z3:(zC s.heap l1 l2 l3).objs.size=s.heap.objs.size+3:=by rw[Ss,z2]
 have z4:(zD s.heap l1 l2 l3).objs.size=s.heap.objs.size+4:=by rw[Ss,z3]
 have z5:(zE s.heap l1 l2 l3).objs.size=s.heap.objs.size+5:=by rw[Ss,z4]
 have z6:(zF s.heap l1 l2 l3).objs.size=s.heap.objs.size+6:=by rw[Ss,z5]
 have u:∀{h:Vg}{a:Vf}{o o':Vl},h.get? a=some o->(h.push o').get? a=some o:=fun e=>Qj _ e
 have g6:(zF s.heap l1 l2 l3).get? (zE s.heap l1 l2 l3).objs.size=some _:=QD _ rfl
 have g5:(zF s.heap l1 l2 l3).get? (zD s.heap l1 l2 l3).objs.size=some _:=u (QD _ rfl)
 have g4:(zF s.heap l1 l2 l3).get? (zC s.heap l1 l2 l3).objs.size=some _:=u (u (QD _ rfl))
 have g3:(zF s.heap l1 l2 l3).get? (zB s.heap l1 l2).objs.size=some _:=u (u (u (QD _ rfl)))
 have g2:(zF s.heap l1 l2 l3).get? (zA s.heap l1).objs.size=some _:=u (u (u (u (QD _ rfl))))
 have g1:(zF s.heap l1 l2 l3).get? s.heap.objs.size=some _:=u (u (u (u (u (QD _ rfl)))))
 show _/\_
 rw[z3,z4,z5] at g6
 rw[z4] at g5
 rw[z1,z2,z3] at g4
 rw[z2] at g3
 rw[z1] at g2
 rw[z5]
 exact⟨(iEA _ g6 rfl),h _ g6 g4 g5 (V8 _ g1 rfl rfl) (V8 _ g2 rfl rfl) (V8 _ g3 rfl rfl) z6 fun c o x=>u (u (u (u (u (u x)))))⟩
theorem GM(hh:A.handled=none)(z TI TO i1 i2 i3 l1 l2 l3:Vf)(D:ME z TI TO i1 i2 i3 l1 l2 l3)(xs ys zs:Array UX){n:Nat}(n1:xs.size=n)(n2:ys.size=n)(n3:zs.size=n):
  WalksT prog w A z [z,TI,TO,i1,i2,i3,l1,l2,l3] [z,TO,i1,i2,i3] n
   (fun i vals=>∃x y v,xs[i]? =some x/\ys[i]? =some y/\zs[i]? =some v/\vals= #[x,y,v])
   (fun i h=>IsZip h z TI TO .none/\w9 h TI (.ref i1) (.ref i2) (.ref i3)/\(∃a b c,w9 h TO a b c)/\h.IsListIter i1 l1 i/\h.IsListIter i2 l2 i/\h.IsListIter i3 l3 i/\h.IsList l1 xs/\h.IsList l2 ys/\h.IsList l3 zs)
   (fun i T h=>IsZip h z TI TO (US T)/\w9 h TI (.ref i1) (.ref i2) (.ref i3)/\(∃a b c,w9 h TO a b c)/\h.IsListIter i1 l1 (i+1)/\h.IsListIter i2 l2 (i+1)/\h.IsListIter i3 l3 (i+1)/\h.IsList l1 xs/\h.IsList l2 ys/\h.IsList l3 zs/\
    T≠z/\T≠TO/\T≠i1/\T≠i2/\T≠i3) where
 sub:=fa5 lm0 lm2 lm3 lm4 lm5
 frame:=fun i h h' hst hk=>by
  (refine J3 hst fun hz hTI o0_ h1 h2 h3 hl1 hl2 hl3=>?_;clear hst;refine Ip o0_ fun a b c hTO=>?_;clear o0_)
  exact⟨hk z lm0 _ hz,hk TI lm1 _ hTI,(Ng a b c (hk TO lm2 _ hTO)),h1.at (hk i1 lm3),h2.at (hk i2 lm4),h3.at (hk i3 lm5),hl1.at (hk l1 lm6),hl2.at (hk l2 lm7),hl3.at (hk l3 lm8)⟩
 item:=fun i s Q E hi hst hQ=>by
  (refine J3 hst fun hz hTI o0_ h1 h2 h3 hl1 hl2 hl3=>?_;clear hst;refine Ip o0_ fun a b c hTO=>?_;clear o0_)
  refine He D hz hTI hTO h1 h2 h3 hl1 hl2 hl3 (PY (n1.symm ▸ hi)) (PY (n2.symm ▸ hi)) (PY (n3.symm ▸ hi)) fun h' a1 a2 a3 a4 b4 a5 a6 hk=>?_
  have lt:∀{c o},s.heap.get? c=some o->s.heap.objs.size≠c:=fun e=>Te (Tc e)
  have li:∀{c l j},s.heap.IsListIter c l j->s.heap.objs.size≠c:=fun x=>x.elim fun Z h=>lt h.1
  exact hQ s.heap.objs.size _ h' s.toks (Fo _ _ _ (PY (n1.symm ▸ hi)) (PY (n2.symm ▸ hi)) (PY (n3.symm ▸ hi)) rfl) (TA _) (Fq _ a5 rfl _ rfl)
   ⟨a1,hk _ _ D.TI_z D.TI_TO D.TI_i1 D.TI_i2 D.TI_i3 hTI,(Ng _ _ _ a2),a3,a4,b4,hl1.at fun o e=>hk _ o D.l1_z D.l1_TO D.l1_i1 D.l1_i2 D.l1_i3 e,hl2.at fun o e=>hk _ o D.l2_z D.l2_TO D.l2_i1 D.l2_i2 D.l2_i3 e,hl3.at fun o e=>hk _ o D.l3_z D.l3_TO D.l3_i1 D.l3_i2 D.l3_i3 e,
    lt hz,lt hTO,li h1,li h2,li h3⟩
   fun c o hc e=>hk c o (BL hc lm0) (BL hc lm1) (BL hc lm2) (BL hc lm3) (BL hc lm4) e
 go:=fun elts k pos i T s Q E hm hQ=>by
  (refine Hb hm fun hz hTI o0_ h1 h2 h3 hl1 hl2 hl3 Z=>?_;clear hm;refine Ip o0_ fun a b c hTO=>?_;clear o0_)
  refine wpAny_letOwnedTupleGo_zip hz fun h' hz' hs'=>hQ h' ⟨hz',hs'.extBut _ _ D.TI_z hTI,(Ng a b c (hs'.extBut _ _ D.TO_z hTO)),h1.extBut hs'.extBut D.i1_z,h2.extBut hs'.extBut D.i2_z,h3.extBut hs'.extBut D.i3_z,
   hl1.extBut hs'.extBut D.l1_z,hl2.extBut hs'.extBut D.l2_z,hl3.extBut hs'.extBut D.l3_z⟩ fun c o hc e=>hs'.extBut _ _ (BL hc lm0) e
 apart:=fun i T h hm hT=>by
  refine Cg hm fun Z Z Z Z Z Z Z Z Z t1 t2 t3 t4 t5=>?_;clear hm
  exact fa5 (P:=fun x=>T=x->False) t1 t2 t3 t4 t5 T hT rfl
 done:=fun s Q E hst hQ=>by
  (refine J3 hst fun hz hTI o0_ h1 h2 h3 hl1 hl2 hl3=>?_;clear hst;refine Ip o0_ fun a b c hTO=>?_;clear o0_)
  exact Iy hh D hz hTI hTO h1 h2 h3 hl1 hl2 hl3 (Array.getElem?_eq_none (Tn n1)) fun h' hk=>hQ h' s.toks fun c o hc e=>
   hk c o (BL hc lm0) (BL hc lm1) (BL hc lm2) (BL hc lm3) (BL hc lm4) e
 self:=fun i s Q E hst hQ=>wpAny_pyIter_zip hst.1 hQ
end
end Mine
end
section
open PySem PySem.W PySem.Calls PyProof.Rows PySem.Spec
namespace Mine
theorem Ca.trip{prog:UF}{w:Va}{A:UP}{I:Vf}{fp wr:List Vf}{n:Nat}{Pt:Nat->Array UX->Prop}{St:Nat->Vg->Prop}{Mid:Nat->Vf->Vg->Prop}{x y v:Vk}{px py pv pt:Pos}{kt:Nat}{cenv:Vn}
  (hh:A.handled=none)(W:WalksT prog w A I fp wr n Pt St Mid)(hP:∀i vals,Pt i vals->∃a b c,vals= #[a,b,c])(hth:∀i h,St i h->∀b∈fp,∃o,h.get? b=some o)
  (hx:cenv.kindOf x=some .local)(hy:cenv.kindOf y=some .local)(hv:cenv.kindOf v=some .local)(hxy:x≠y)(hxv:x≠v)(hyv:y≠v)(hp:(cenv.scope.kind == .class || (cenv.scope.kind == .module && cenv.locals != cenv.globals))=false)(hCf:cenv.locals∉fp):
  Ca prog w A (.ref I) (.Tuple [.Name x px, .Name y py, .Name v pv] kt pt) cenv fp wr n (fun i m=>∃a b c,Pt i #[a,b,c]/\m x=some a/\m y=some b/\m v=some c) St where
 sub:=W.sub
 frame:=W.frame
 item:=fun i s m Q E hi st hn hQ=>by
  have hCw:cenv.locals∉wr:=fun h=>hCf (W.sub _ h)
  refine W.item i s _ _ hi st fun T vals h₁ tk₁ hPt hsz hT hm₁ hk₁=>?_
  (refine Ip (hP i vals hPt) fun a b c o0_=>?_;obtain rfl:=o0_)
  dsimp only
  refine W.go _ _ _ i T _ _ _ hm₁ fun h₂ hst₂ hk₂=>?_
  have hTw:=W.apart i T _ hm₁
  have hT₂:h₂.IsTuple T #[a,b,c]:=hT.imp fun o z=>⟨hk₂ _ o hTw z.1,z.2⟩
  have hn₂:h₂.Ns cenv.locals m:=(hn.at' fun o e=>hk₁ _ o hCw e).at' fun o e=>hk₂ _ o hCw e
  refine wpAny_assign_Tuple hh hT₂ rfl (by with_unfolding_all rfl) fun h₃ hs₃=>?_
  have hlt:cenv.locals<h₂.objs.size:=hn₂.lt
  have fpLt:∀b∈fp,b<h₂.objs.size:=fun b hb=>by refine oE (hth _ _ hst₂ b hb) fun o e=>?_;exact Tc e
  have st₃:St (i+1) h₃:=W.frame _ _ _ hst₂ fun b hb o e=>hs₃ b o (Tb (fpLt b hb)) e
  have hn₃:h₃.Ns cenv.locals m:=hn₂.at' fun o e=>hs₃ _ o (Tb hlt) e
  show UY _ A (SV [assign (.Name x px) cenv,assign (.Name y py) cenv,assign (.Name v pv) cenv] [a,b,c]) Q E _
  unfold SV
  refine TQ (SM (Rk (Qn hx hn₃ (fun h₄ hn₄ hs₄=>?_) hp)))
  unfold SV
  refine TQ (SM (Rk (Qn hy hn₄ (fun h₅ hn₅ hs₅=>?_) hp)))
  unfold SV
  refine TQ (SM (Rk (Qn hv hn₅ (fun h₆ hn₆ hs₆=>?_) hp)))
  unfold SV
  refine TR (hQ h₆ _ (fun z=>if z=v then some c else if z=y then some b else if z=x then some a else m z) (Fo a b c hPt ((if_neg hxv).trans ((if_neg hxy).trans (if_pos rfl))) ((if_neg hyv).trans (if_pos rfl)) (if_pos rfl)) hn₆ (W.frame _ _ _ st₃ fun b hb o e=>?_) fun b o hbC hbw e=>?_)
  ·have hbC:b≠cenv.locals:=fun h=>hCf (h ▸ hb)
   exact hs₆.extBut b o hbC (hs₅.extBut b o hbC (hs₄.extBut b o hbC e))
  ·have e2:=hk₂ b o hbw (hk₁ b o hbw e)
   exact hs₆.extBut b o hbC (hs₅.extBut b o hbC (hs₄.extBut b o hbC (hs₃ b o (Tb (Tc e2)) e2)))
 done:=W.done
 self:=W.self
 there:=fun i h st b hb=>hth i h st b (W.sub b hb)
section
variable{prog:UF}{w:Va}{A:UP}{E:UX->UO->Prop}{env:Vn}{s:UO}{h₀:Vg}{L:Vf}{m:Vk->Option UX}{news:List (Vf×Vl)}
 {scope:Vb} {cl:List (Vk×Vf)} {elt:Vh} {fin:UO->(Vk->Option UX)->List (Vf×Vl)->Vf->List UX->Nat->Vg->Nat->Prop}
end
namespace W6
noncomputable def T(prog:UF)(w:Va)(A:UP)(E:UX->UO->Prop)(env:Vn)(s:UO)(h₀:Vg)(L:Vf)(m:Vk->Option UX)(news:List (Prod Vf Vl))(scope:Vb)(cl:List (Prod Vk Vf))(elt:Vh)(fin:UO->(Vk->Option UX)->List (Prod Vf Vl)->Vf->List UX->Nat->Vg->Nat->Prop)(a1:Vf)(a2:Vf)(a3:Vf)(vs1:List UX)(vs2:List UX)(vs3:List UX)(n:Nat)(x:Vk)(y:Vk)(v:Vk)(px:Pos)(py:Pos)(pv:Pos)(pt:Pos)(kt:Nat)(G:Nat->Vg->Vg->UX->Prop):Prop:=∀(hh:A.handled=none)(hl1:s.heap.IsList a1 vs1.toArray)(hl2:s.heap.IsList a2 vs2.toArray)(hl3:s.heap.IsList a3 vs3.toArray)(hn1:vs1.length=n)(hn2:vs2.length=n)(hn3:vs3.length=n)(hsz:n<=Ux)(hx:scope.names.lookup x=some .local)(hy:scope.names.lookup y=some .local)(hv:scope.names.lookup v=some .local)(hxy:x≠y)(hxv:x≠v)(hyv:y≠v)(hkind:scope.kind= .function)(F:Fr h₀ L s.heap m)(N:News h₀ L s.heap news)(hax1:a1≠L)(hax2:a2≠L)(hax3:a3≠L)(elts:∀i v1 v2 v3 C oC u H tk rest E',s.toks<=tk->vs1[i]? =some v1->vs2[i]? =some v2->vs3[i]? =some v3->NsO oC u->u x=some v1->u y=some v2->u v=some v3->Fr h₀ L H m->News h₀ L H ((C,oC)::(news++rest))->
   UY (UZ prog w) A (Vi elt (Uw scope cl C env)) (j3 h₀ L m rest (G i H) {s with heap:=H,toks:=tk}) E' {s with heap:=H,toks:=tk})(hfin:∀(s₂:UO),(∃h tk,s₂={s with heap:=h,toks:=tk})->∀D ys k h' tk,Fr h₀ L h' m->News h₀ L h' ((D,listOf ys.toArray k)::news)->(∀q∈news,q.1≠D)->Paired (fun j y=>∃hb ha,G j hb ha y/\C5 hb ha h') (TS n) ys->fin s₂ m news D ys k h' tk),UY (UZ prog w) A (call (.type "zip") [.ref a1, .ref a2, .ref a3]) (fun xv s₁=>UY (UZ prog w) A (UU xv) (fun it s₂=>Y9 false prog w A env scope cl (.Tuple [.Name x px, .Name y py, .Name v pv] kt pt) [] elt h₀ L it s₂ (fin s₂)) E s₁) E s
noncomputable def P9:=V4 fun prog w A E=>V4 fun env s h₀ L=>V4 fun m news scope cl=>V4 fun elt fin a1 a2=>V4 fun a3 vs1 vs2 vs3=>V4 fun n x y v=>V4 fun px py pv pt=>U2 fun kt G=>T prog w A E env s h₀ L m news scope cl elt fin a1 a2 a3 vs1 vs2 vs3 n x y v px py pv pt kt G
@[irreducible] noncomputable def c:=y6 (by k_extra "ne") P9
@[irreducible] noncomputable def prog:=c.1.1
@[irreducible] noncomputable def w:=c.1.2.1
@[irreducible] noncomputable def A:=c.1.2.2.1
@[irreducible] noncomputable def E:=c.1.2.2.2
@[irreducible] noncomputable def env:=c.2.1.1
@[irreducible] noncomputable def s:=c.2.1.2.1
@[irreducible] noncomputable def h₀:=c.2.1.2.2.1
@[irreducible] noncomputable def L:=c.2.1.2.2.2
@[irreducible] noncomputable def m:=c.2.2.1.1
@[irreducible] noncomputable def news:=c.2.2.1.2.1
@[irreducible] noncomputable def scope:=c.2.2.1.2.2.1
@[irreducible] noncomputable def cl:=c.2.2.1.2.2.2
@[irreducible] noncomputable def elt:=c.2.2.2.1.1
@[irreducible] noncomputable def fin:=c.2.2.2.1.2.1
@[irreducible] noncomputable def a1:=c.2.2.2.1.2.2.1
@[irreducible] noncomputable def a2:=c.2.2.2.1.2.2.2
@[irreducible] noncomputable def a3:=c.2.2.2.2.1.1
@[irreducible] noncomputable def vs1:=c.2.2.2.2.1.2.1
@[irreducible] noncomputable def vs2:=c.2.2.2.2.1.2.2.1
@[irreducible] noncomputable def vs3:=c.2.2.2.2.1.2.2.2
@[irreducible] noncomputable def n:=c.2.2.2.2.2.1.1
@[irreducible] noncomputable def x:=c.2.2.2.2.2.1.2.1
@[irreducible] noncomputable def y:=c.2.2.2.2.2.1.2.2.1
@[irreducible] noncomputable def v:=c.2.2.2.2.2.1.2.2.2
@[irreducible] noncomputable def px:=c.2.2.2.2.2.2.1.1
@[irreducible] noncomputable def py:=c.2.2.2.2.2.2.1.2.1
@[irreducible] noncomputable def pv:=c.2.2.2.2.2.2.1.2.2.1
@[irreducible] noncomputable def pt:=c.2.2.2.2.2.2.1.2.2.2
@[irreducible] noncomputable def kt:=c.2.2.2.2.2.2.2.1
@[irreducible] noncomputable def G:=c.2.2.2.2.2.2.2.2
theorem walk:T prog w A E env s h₀ L m news scope cl elt fin a1 a2 a3 vs1 vs2 vs3 n x y v px py pv pt kt G:=by
 intro hh hl1 hl2 hl3 hn1 hn2 hn3 hsz hx hy hv hxy hxv hyv hkind F N hax1 hax2 hax3 elts hfin
 have hlt1:a1<s.heap.objs.size:=by refine oEA hl1 fun Z e Z=>?_;clear hl1;exact Tc e
 have hlt2:a2<s.heap.objs.size:=by refine oEA hl2 fun Z e Z=>?_;clear hl2;exact Tc e
 have hlt3:a3<s.heap.objs.size:=by refine oEA hl3 fun Z e Z=>?_;clear hl3;exact Tc e
 have D:ME (s.heap.objs.size+5) (s.heap.objs.size+3) (s.heap.objs.size+4) s.heap.objs.size (s.heap.objs.size+1) (s.heap.objs.size+2) a1 a2 a3:=by
  generalize s.heap.objs.size=N at*
  have hlt1: @LT.lt Nat _ a1 N:=hlt1
  have hlt2: @LT.lt Nat _ a2 N:=hlt2
  have hlt3: @LT.lt Nat _ a3 N:=hlt3
  constructor <;> (show @Ne Nat _ _;first|exact Tb ‹_›|exact Tb (QR ‹_› (RD _ _))|exact Te (Qd (by decide))|exact Tb (Qd (by decide))|exact fun e=>absurd (Nat.add_left_cancel e) (by decide)|omega)
 refine Hr hl1 hl2 hl3 fun h' hz hTI hTO hi1 hi2 hi3 hsz' hk=>?_
 refine wpAny_pyIter_zip hz ?_
 have W:=GM (prog:=prog) (w:=w) hh _ _ _ _ _ _ _ _ _ D vs1.toArray vs2.toArray vs3.toArray (n:=n) (by simp[hn1]) (by simp[hn2]) (by simp[hn3])
 have hge:∀b∈[s.heap.objs.size+5,s.heap.objs.size+4,s.heap.objs.size,s.heap.objs.size+1,s.heap.objs.size+2],s.heap.objs.size<=b:=fa5 (RD _ _) (RD _ _) (TA _) (RD _ _) (RD _ _)
 have g:∀k,k<6->s.heap.objs.size+k<s.heap.objs.size+6:=fun k hk=>Nat.add_lt_add_left hk _
 have hlow:∀b∈[s.heap.objs.size+5,s.heap.objs.size+3,s.heap.objs.size+4,s.heap.objs.size,s.heap.objs.size+1,s.heap.objs.size+2,a1,a2,a3],b<s.heap.objs.size+6:=
  fa9 (g 5 (by decide)) (g 3 (by decide)) (g 4 (by decide)) (g 0 (by decide)) (g 1 (by decide)) (g 2 (by decide)) (QR hlt1 (RD _ _)) (QR hlt2 (RD _ _)) (QR hlt3 (RD _ _))
 refine GB (s:={s with heap:=h'}) (n:=n) (Bd:=fun i u=>∃a b c,(∃z z' z'',vs1.toArray[i]? =some z/\vs2.toArray[i]? =some z'/\vs3.toArray[i]? =some z''/\(#[a,b,c]:Array UX)= #[z,z',z''])/\u x=some a/\u y=some b/\u v=some c) (fun Z=>true) G hsz
  (St:=_) ⟨hz,hTI,(Ng _ _ _ hTO),hi1,hi2,hi3,hl1.at fun o e=>hk _ o e,hl2.at fun o e=>hk _ o e,hl3.at fun o e=>hk _ o e⟩ ?_ (fun C hC=>Ca.trip hh W ?_ ?_ (Qu hx) (Qu hy) (Qu hv) hxy hxv hyv (by simp[Uw,UJ,hkind]) ?_) (F.keeps hk) (fun q hq=>⟨hk _ _ (N q hq).1,(N q hq).2⟩) ?_ ?_ ?_ W.sub
  (fun Z Z Z Z Z Z Z Z Z Z Z Z F N=>z8 (p9.intro F N (fun p hp=> .tail _ (RS.mpr (.inr hp))) rfl)) ?_ (fun D ys k h' tk F' N' O P=>hfin _ (iEE _ _ rfl) D ys k h' tk F' N' O (by rw[s7] at P;exact P))
 ·show∀b∈_,b<h'.objs.size
  rw[hsz'];exact hlow
 ·exact fun i vals r0_=>BK r0_ fun z z' z'' Z Z Z e=>Ng _ _ _ e
 ·exact fun i h r0_=>J3 r0_ fun hz hTI c d1 d2 d3 d4 d5 d6=>fa9 ⟨_,hz⟩ ⟨_,hTI⟩ (Ip c fun Z Z Z hTO=>⟨_,hTO⟩) (TZ (fun Z h=>h.1) d1) (TZ (fun Z h=>h.1) d2) (TZ (fun Z h=>h.1) d3) (TZ (fun Z h=>h.1) d4) (TZ (fun Z h=>h.1) d5) (TZ (fun Z h=>h.1) d6)
 ·exact fun hm=>absurd (show s.heap.objs.size+6<=C from hsz' ▸ hC) (Ug.mpr (hlow _ hm))
 ·have g:∀k,L≠s.heap.objs.size+k:=fun k=>Tb (QR F.ns.lt (RD _ _))
  exact nmA (fa9 (g 5) (g 3) (g 4) (g 0) (g 1) (g 2) hax1.symm hax2.symm hax3.symm)
 ·intro b hb
  cases q:h₀.get? b with
  |none=>rfl
  |some o=>exact absurd (Tc (F.keep _ _ q)) (TY.mpr (hge b hb))
 ·intro q hq hm
  exact absurd (Tc (N q hq).1) (TY.mpr (hge _ hm))
 ·(intro i C oC u H tk rest E' hT hi _ r0_;(refine BK r0_ fun a b c o0_ hu hv hw=>?_;clear r0_;obtain⟨z,z',z'',hz,hz',hz'',e⟩:=o0_);intro hO F' N')
  obtain⟨rfl,rfl,rfl⟩:=arr3 e
  exact wpP.of (elts i a b c C oC u H tk rest E' hT (toA hz) (toA hz') (toA hz'') hO hu hv hw F' N')
end W6
section
variable{prog:UF}{w:Va}{A:UP}{E:UX->UO->Prop}{env:Vn}{s:UO}{h₀:Vg}{L:Vf}{m:Vk->Option UX}{news:List (Vf×Vl)}
 {scope:Vb} {cl:List (Vk×Vf)} {elt:Vh} {fin:UO->(Vk->Option UX)->List (Vf×Vl)->Vf->List UX->Nat->Vg->Nat->Prop}
theorem Ms{prog w A E env s h₀ L m news scope cl elt fin a1 a2 a3 vs1 vs2 vs3 n x y v px py pv pt kt}(G):W6.T prog w A E env s h₀ L m news scope cl elt fin a1 a2 a3 vs1 vs2 vs3 n x y v px py pv pt kt G:=f7 (P:=W6.P9) (c:=W6.c) (by with_unfolding_all rfl) (by with_unfolding_all exact W6.walk) ((prog,w,A,E),(env,s,h₀,L),(m,news,scope,cl),(elt,fin,a1,a2),(a3,vs1,vs2,vs3),(n,x,y,v),(px,py,pv,pt),(kt,G))
end
end Mine
end
section
open PySem PySem.W PySem.Calls PyProof.Rows PySem.Spec
namespace Mine
theorem News.more{h₀ h:Vg}{L:Vf}{news:List (Vf×Vl)}{p:Vf×Vl}(N:News h₀ L h news)(hp:p∈news):News h₀ L h (p::news):=fun q hq=>by
 rcases SH.mp hq with rfl|hq
 ·exact N _ hp
 ·exact N q hq
theorem H6{h₀ h h':Vg}{L D:Vf}{m:Vk->Option UX}{news:List (Vf×Vl)}{o:Vl}(F:Fr h₀ L h m)(q:h.get? D=none)(g:h'.get? D=some o)(N:News h₀ L h' news):News h₀ L h' ((D,o)::news):=fun p hp=>by
 rcases SH.mp hp with rfl|hp
 ·refine(iAA g (fun e=>?_) ?_)
  ·refine R7 F.ns fun o' es ep e1 Z=>?_
   dsimp only at e
   exact zg1 e q e1
  ·cases q':h₀.get? D with
   |none=>rfl
   |some o=>exact zs1 q (F.keep _ _ q')
 ·exact N p hp
noncomputable abbrev showI(n:Int):Vk:=Ta (toString n)
theorem u0{f:Nat->Vk}{h':Vg}{js:List Nat}{ys:List UX}(h:Paired (fun j y=>∃hb ha:Vg,(∃t,y=Um (f j) t)/\C5 hb ha h') js ys):y3 ys (js.map f):=by
 induction h with
 |nil=>exact .nil
 |cons a _ ih=>refine y8 a fun Z Z e Z=>?_;clear a;exact .cons e ih
theorem JL{m:Vk->Option UX}{x:Vk}{v:UX}(e:m x=some v)(y:Vk):(if y=x then some v else m y)=m y:=by
 by_cases q:y=x
 ·rw[if_pos q,q,e]
 ·rw[if_neg q]
theorem Fr.put{h₀ h:Vg}{L:Vf}{m:Vk->Option UX}{x:Vk}{v:UX}(F:Fr h₀ L h m)(e:m x=some v):Fr h₀ L h (fun y=>if y=x then some v else m y):=by
 have:m=fun y=>if y=x then some v else m y:=by
  funext y
  by_cases q:y=x
  ·rw[if_pos q,q,e]
  ·rw[if_neg q]
 exact this ▸ F
theorem y3.at{vs:List UX}{xs:List Vk}(h:y3 vs xs):∀(i:Nat)(v:UX),vs[i]? =some v->HC xs i v:=by
 induction h with
 |nil=>intro i v e;cases i <;> cases e
 |cons h r ih=>
  intro i v e
  cases i with
  |zero=>
   refine oE h fun t q=>?_;clear h
   rw[←RZ e]
   exact(Bm _ t rfl q)
  |succ i=>
   refine y8 (ih i v e) fun x t e1 e2=>?_
   exact(Bm x t e1 e2)
theorem y3.strs{vs:List UX}{xs:List Vk}(h:y3 vs xs):∀(i:Nat)(v:UX),vs[i]? =some v->∃x t,v=Um x t:=fun i v e=>by
 refine y8 (h.at i v e) fun x t Z q=>?_
 exact(iEE x t q)
theorem y3.sift{vs:List UX}{xs:List Vk}(S:Vk->Bool)(h:y3 vs xs):y3 (vs.filter (X5 S)) (xs.filter S):=by
 induction h with
 |nil=>exact .nil
 |cons h r ih=>
  (refine oE h fun t o0_=>?_;clear h;obtain rfl:=o0_)
  rename_i x _ _
  cases q:S x with
  |true=>
   rw[Qh (by exact q),Qh (by exact q)]
   exact .cons ⟨t,rfl⟩ ih
  |false=>
   rw[Qg (by show¬S _=true;rw[q];decide),Qg (by rw[q];decide)]
   exact ih
section
variable{prog:UF}{w:Va}{A:UP}{E:UX->UO->Prop}{s:UO}{a b:UX}{d:UR}{as bs:List Vf}{Q:UX->UO->Prop}
theorem Fm(ra:Reads s.heap a d as)(rb:Reads s.heap b d bs)(hd:SeqAt.shaped d=true)(hu:A.units+64<cLine)(h:Q (.bool false) s):UY (UZ prog w) A (compareOp .NotEq a b) Q E s:=by
 refine ne_dataH ra rb hd hd hu ?_
 have:UR.eqv d d=true:=SeqAt.eqv_refl d (by unfold SeqAt.shaped at hd;rw[RO] at hd;exact hd.1)
 rw[this];exact h
end
theorem AA{h:Vg}{vs:List UX}{xs:List Vk}(k:y3 vs xs):Uy h vs (xs.map UR.str) []:=by
 induction k with
 |nil=>exact .nil
 |cons a _ ih=>refine oE a fun t e=>?_;clear a;cases e;exact SN (Reads.str (h:=h) _ t) ih
theorem HZ:∀a∈span,∀b∈span,(showI a == showI b)=decide (a=b):=by decide+kernel
theorem KH:∀a∈span,(showI a == Ta "P")=false/\(Ta "p" == showI a)=false:=by decide+kernel
theorem HY:∀a∈span,UR.canLay0 (.str (showI a))=true:=by decide+kernel
theorem T8{r:Int}(h:r.natAbs<=4):r∈span:=by
 have k:∀n:Nat,n<5->(n:Int)∈span/\ -(n:Int)∈span:=by decide
 rcases Int.natAbs_eq r with e|e
 ·rw[e];exact(k _ (Rw h)).1
 ·rw[e];exact(k _ (Rw h)).2
theorem Ky{on:List Int}(ho:∀x∈on,x.natAbs<=4){r:Int}(hr:r.natAbs<=4):(Ta "p"::on.map showI).any (· == showI r)=decide (r∈on):=by
 rw[SR,(KH r (T8 hr)).2,Bool.false_or]
 induction on with
 |nil=>rfl
 |cons o on ih=>
  rw[SJ,SR,ih fun x hx=>ho x (.tail _ hx),HZ o (T8 (ho o (.head _))) r (T8 hr)]
  by_cases e:o=r
  ·subst e;simp
  ·have:¬r=o:=fun q=>e q.symm
   simp[e,this]
theorem Ph{on:List Int}(ho:∀x∈on,x.natAbs<=4):(Ta "p"::on.map showI).any (· == Ta "P")=false:=by
 rw[SR,show(Ta "p" == Ta "P")=false by decide+kernel,Bool.false_or]
 induction on with
 |nil=>rfl
 |cons o on ih=>rw[SJ,SR,ih fun x hx=>ho x (.tail _ hx),(KH o (T8 (ho o (.head _)))).1];rfl
theorem Jk{rn on:List Int}(hr:∀x∈rn,x.natAbs<=4)(ho:∀x∈on,x.natAbs<=4):
  (rn.map showI++[Ta "P"]).filter (fun x=>(Ta "p"::on.map showI).any (· == x))=(rn.filter fun r=>decide (r∈on)).map showI:=by
 rw[QW,Qg (by rw[Ph ho];decide),Sn,Sj,Sq]
 congr 1
 refine List.filter_congr fun r hm=>?_
 exact Ky ho (hr r hm)
theorem Bl:∀{rn:List Int},(∀x∈rn,x.natAbs<=4)->Rq ((rn.map showI).map UR.str)=true/\Sl ((rn.map showI).map UR.str)=0
 |[],_=>⟨rfl,rfl⟩
 |r::rn,h=>by
  have:=Bl (rn:=rn) fun x hx=>h x (.tail _ hx)
  simp only[SJ,Rq,Sl,this.1,this.2,HY r (T8 (h r (.head _))),UR.depth]
  exact⟨rfl,rfl⟩
theorem U6{β:Type}(p:Int->Bool)(g:Int->β)(l:List Int):((TS l.length).filter fun j=>p (l.getD j 0)).map (fun j=>g (l.getD j 0))=(l.filter p).map g:=by
 have e:l=(TS l.length).map fun j=>l.getD j 0:=by
  apply RN
  ·simp
  ·intro i h1 h2
   simp[Qb h1]
 conv=>rhs;rw[e,Sq,Tj]
 rfl
theorem GG(on:List Int)(r:Int):(on.any fun x=>x == r)=decide (r∈on):=by
 induction on with
 |nil=>rfl
 |cons o on ih=>
  rw[SR,ih]
  by_cases e:o=r
  ·subst e;simp
  ·have:¬r=o:=fun q=>e q.symm
   simp[e,this]
theorem GR{T:List Vk}{a b:Int}(h:Rq (T.map UR.str)=true/\Sl (T.map UR.str)=0):SeqAt.shaped (.list [.list (T.map UR.str), .int a, .int b])=true:=by
 simp[SeqAt.shaped,UR.canLay0,Rq,UR.depth,Sl,h.1,h.2]
theorem Jj:∀n∈100::span5,SG (Uq (Ta "/"++Ta (toString n)) (some 1) none)=some n/\(Uq (Ta "/"++Ta (toString n)) (some 1) none).length<=640/\(Ta "/"++Ta (toString n)).length<=600:=by decide+kernel
theorem Gn{r:Int}(h:r.natAbs<=5):r∈span5:=by
 have k:∀n:Nat,n<6->(n:Int)∈span5/\ -(n:Int)∈span5:=by decide
 rcases Int.natAbs_eq r with e|e
 ·rw[e];exact(k _ (Rw h)).1
 ·rw[e];exact(k _ (Rw h)).2
theorem Kw{n:Int}(h:n.natAbs<=5):SG (Uq (Ta "/"++Ta (toString n)) (some 1) none)=some n/\(Uq (Ta "/"++Ta (toString n)) (some 1) none).length<=640/\(Ta "/"++Ta (toString n)).length<=600:=Jj n (.tail _ (Gn h))
theorem BE{b:Bool}{h' h:Vg}{js:List Nat}{ys:List UX}(k:Paired (fun(Z:Nat) y=>∃hb ha:Vg,y=Ub b/\C5 hb ha h') js ys):Uy h ys (js.map fun Z=>UR.bool b) []:=by
 induction k with
 |nil=>exact .nil
 |cons a _ ih=>refine y8 a fun Z Z e Z=>?_;clear a;cases e;exact SN (Uh (h:=h) b) ih
theorem BM(b:Bool):∀js:List Nat,Rq (js.map fun Z=>UR.bool b)=true/\Sl (js.map fun Z=>UR.bool b)=0
 |[]=>⟨rfl,rfl⟩
 |_::js=>by
  have:=BM b js
  simp only[SJ,Rq,Sl,this.1,this.2,UR.canLay0,UR.depth]
  exact⟨rfl,rfl⟩
theorem ET:∀js:List Nat,((js.map fun Z=>UR.bool false).any fun y=>UR.eqv y (.bool true))=false
 |[]=>rfl
 |_::js=>by rw[SJ,SR,ET js];simp[UR.eqv]
theorem Ji:SG (Uq (Ta "/100") (some 1) none)=some 100/\(Uq (Ta "/100") (some 1) none).length<=640/\(Ta "/100").length<=600:=by decide+kernel
theorem CH(on:List Int):∀(l pre seen:List Int),(∀x,x∈seen↔x∈pre)->
  (((TS l.length).filter fun j=>decide (l.getD j 0∈pre++l.take j\/l.getD j 0∈on)).map fun j=>l.getD j 0)=L2 on seen l
 |[],_,_,_=>rfl
 |r::l,pre,seen,h=>by
  have ih:=CH on l (pre++[r]) (r::seen) fun x=>by simp[h x,or_comm]
  have e:((TS l.length).filter ((fun j=>decide ((r::l).getD j 0∈pre++(r::l).take j\/(r::l).getD j 0∈on)) ∘ Nat.succ)).map ((fun j=>(r::l).getD j 0) ∘ Nat.succ)=L2 on (r::seen) l:=by
   rw[←ih]
   simp[Function.comp_def]
  rw[RB,List.range_succ_eq_map,L2]
  by_cases c:r∈seen\/r∈on
  ·rw[if_pos c,Qh (by
    rw[decide_eq_true_eq]
    rcases c with c|c
    ·exact .inl (by simpa using(h r).1 c)
    ·exact .inr (by simpa using c)),SJ,Sq,Tj,e]
   rfl
  ·rw[if_neg c,Qg (by
    rw[decide_eq_true_eq]
    rintro(q|q)
    ·exact c (.inl ((h r).2 (by simpa using q)))
    ·exact c (.inr (by simpa using q))),Sq,Tj,e]
theorem MB{T:List Int}(hT:∀x∈T,x.natAbs<=4){r:Int}(hr:r.natAbs<=4):(((T.map showI).map UR.str).any fun y=>UR.eqv y (.str (showI r)))=decide (r∈T):=by
 induction T with
 |nil=>rfl
 |cons o T ih=>
  rw[SJ,SJ,SR,ih fun x hx=>hT x (.tail _ hx)]
  have e:UR.eqv (.str (showI o)) (.str (showI r))=decide (o=r):=by
   rw[←HZ o (T8 (hT o (.head _))) r (T8 hr)]
   simp[UR.eqv]
  rw[e]
  by_cases e:o=r
  ·subst e;simp
  ·have:¬r=o:=fun q=>e q.symm
   simp[e,this]
theorem DD(on:List Int):∀(l seen:List Int),(L2 on seen l).length<=l.length
 |[],_=>TA _
 |r::l,seen=>by
  have:=DD on l (r::seen)
  rw[L2]
  split
  ·simp only[RB];omega
  ·simp only[RB];omega
theorem DC(on:List Int):∀(l seen:List Int),∀x∈L2 on seen l,x∈l
 |[],_,_,h=>h
 |r::l,seen,x,h=>by
  rw[L2] at h
  split at h
  ·rcases SH.mp h with rfl|h
   ·exact .head _
   ·exact .tail _ (DC on l (r::seen) x h)
  ·exact .tail _ (DC on l (r::seen) x h)
theorem Paired.last_of{α β:Type}{F:α->β->Prop}{xs:List β}{x:β}:∀{vs:List α},Paired F vs (xs++[x])->∃pre v,vs=pre++[v]/\Paired F pre xs/\F v x:=by
 induction xs with
 |nil=>intro vs k;cases k with|cons h r=>cases r;exact(H5 ([]) _ rfl .nil h)
 |cons y xs ih=>
  intro vs k
  cases k with
  |cons h r=>
   refine M3 (ih r) fun pre v e p q=>?_
   exact(H5 (_::pre) v (by rw[e];rfl) (.cons h p) q)
theorem Du(a b:List Int):Rq [.list (a.map Ui), .list (b.map Ui)]=true/\(UR.list (a.map Ui)).canLay0=true:=by
 simp[Rq,UR.canLay0,canLayAll0_ints]
theorem Kz{a b c:List Int}(h:c=a\/c=b):([UR.list (a.map Ui),UR.list (b.map Ui)].any fun y=>UR.eqv y (.list (c.map Ui)))=true:=by
 have k:=SeqAt.eqv_refl (.list (c.map Ui)) (Du c c).2
 rcases h with rfl|rfl
 ·rw[SR,k];rfl
 ·rw[SR,SR,k,Bool.true_or,Bool.or_true]
theorem MT{h₀ H h2:Vg}{L D:Vf}{rA n:List (Vf×Vl)}{o:Vl}(hA:∀b o,H.get? b=some o->b=L\/h₀.get? b=some o\/(b,o)∈rA)(N:News h₀ L h2 ((D,o)::n))(O:∀q∈n,q.1≠D)(hs:∀p∈rA,p∈n):H.get? D=none:=by
 cases q:H.get? D with
 |none=>rfl
 |some o'=>
  rcases hA D o' q with r|r|r
  ·exact((N _ (.head _)).2.1 r).elim
  ·have:=(N _ (.head _)).2.2;dsimp only at this;exact zs1 this r
  ·exact(O _ (hs _ r) rfl).elim
theorem Y1{β:Type}(g:List Int->β)(l:List (List Int)):(TS l.length).map (fun i=>g (l.getD i []))=l.map g:=by
 apply RN
 ·simp
 ·intro i h1 h2
  have h3:i<l.length:=by simpa using h1
  simp[Qb h3]
noncomputable def Df(x:Int):Vk:=if 0<x then Ta "." else Ta "\n"
noncomputable def Ae(row:List Int):List Nat:=(row.filter fun x=>decide (x≠0)).map fun x=>if 0<x then 46 else 10
noncomputable def JF(row:List Int):Vk:=⟨(Ae row).toArray⟩
theorem y3.strs_are{vs:List UX}{xs:List Vk}(h:y3 vs xs):StrsAre vs xs:=by
 induction h with
 |nil=>exact .nil
 |cons a _ ih=>refine oE a fun t e=>?_;clear a;cases e;exact .cons _ t ih
noncomputable def A0(s:List Nat):List (List Nat)->List Nat
 |[]=>[]
 |[x]=>x
 |x::y::r=>x++s++A0 s (y::r)
theorem Ac(sep:Vk)(l:List Vk):Txt.join sep l=Vk.join sep l:=by
 have:=join_plain_closes sep l
 exact eq_of_beq this
theorem H7(sep:Vk):∀xs:List Vk,(Vk.join sep xs).cps.toList=A0 sep.cps.toList (xs.map (·.cps.toList))
 |[]=>rfl
 |[x]=>rfl
 |x::y::r=>by
  have ih:=H7 sep (y::r)
  show((x++sep++Vk.join sep (y::r)).cps).toList=_
  rw[Vk.cps_append,Vk.cps_append,QI,QI,ih]
  rfl
theorem Az{a b:Vk}(h:a.cps.toList=b.cps.toList):a=b:=Vk.ext' (Array.toList_inj.mp h)
theorem Gm:∀xs:List (List Nat),A0 [] xs=xs.flatten
 |[]=>rfl
 |[x]=>by simp[A0]
 |x::y::r=>by rw[A0,Gm (y::r)];simp
theorem HV(l:List Int):Txt.join (Ta "") (l.map Df)=⟨(l.map fun x=>if 0<x then 46 else 10).toArray⟩:=by
 rw[Ac]
 refine Az ?_
 rw[H7,show(Ta "").cps.toList=[] by decide+kernel,Gm]
 show _=l.map _
 induction l with
 |nil=>rfl
 |cons x l ih=>
  rw[SJ,SJ,List.flatten_cons,ih,SJ]
  unfold Df
  by_cases h:0<x
  ·rw[if_pos h,if_pos h,show(Ta ".").cps.toList=[46] by decide+kernel];rfl
  ·rw[if_neg h,if_neg h,show(Ta "\n").cps.toList=[10] by decide+kernel];rfl
theorem JE(x:Int):(Df x).length=1:=by
 unfold Df;split <;> decide+kernel
theorem Lr(l:List Int):((l.map Df).map (·.length)).sum=l.length:=by
 induction l with
 |nil=>rfl
 |cons x l ih=>rw[SJ,SJ,SO,ih,JE,RB];omega
noncomputable def HG:List Vk:=[Ta "\n",Ta "\r",Ta "\r\n",Ta "\r"]
theorem L0.at{vs:List UX}{bs:List (Array UInt8)}(h:L0 vs bs):∀(i:Nat)(v:UX),vs[i]? =some v->∃b t,bs[i]? =some b/\v= .bytes b t:=by
 induction h with
 |nil=>intro i v e;cases i <;> cases e
 |cons h r ih=>
  intro i v e
  cases i with
  |zero=>
   refine oE h fun t q=>?_;clear h
   rw[←RZ e]
   exact(Bm _ t rfl q)
  |succ i=>exact ih i v e
theorem D0{f:Nat->Array UInt8}{h':Vg}{js:List Nat}{ys:List UX}(h:Paired (fun j y=>∃hb ha:Vg,(∃t,y=UX.bytes (f j) t)/\C5 hb ha h') js ys):L0 ys (js.map f):=by
 induction h with
 |nil=>exact .nil
 |cons a _ ih=>refine y8 a fun Z Z e Z=>?_;clear a;exact .cons e ih
theorem D4{α β:Type}(d:α)(g:α->β)(l:List α):(TS l.length).map (fun i=>g (l.getD i d))=l.map g:=by
 apply RN
 ·simp
 ·intro i h1 h2
  have h3:i<l.length:=by simpa using h1
  simp[Qb h3]
theorem J4{α:Type}{l:List α}{i:Nat}{d x:α}(h:l[i]? =some x):l.getD i d=x:=by rw[PV,h];rfl
theorem Bk{w:Va}{h:Vg}{p:UF}{loose:List Vk}{mean:UH->Option UX}{mg mb:Vk->Option UX}{h₀:Vg}{L:Vf}{m:Vk->Option UX}(X:(_root_.Mine.Sh.hd.heap_39 w.params).In h₀)(T:Top p loose mean mg mb h₀)(F:Fr h₀ L h m):NoneBooked h:=KQ (Ld X T) F.keep
theorem CC(s:List Nat):∀xs:List (List Nat),(A0 s xs).length<=(xs.map List.length).sum+xs.length*s.length
 |[]=>TC _
 |[x]=>by simp[A0]
 |x::y::r=>by
  have ih:=CC s (y::r)
  simp only[A0,QU,SJ,SO,RB,Nat.add_mul,Nat.one_mul] at ih ⊢
  omega
theorem Dw(sep:Vk)(xs:List Vk):(Txt.join sep xs).length<=(xs.map (·.length)).sum+xs.length*sep.length:=by
 have h:=CC sep.cps.toList (xs.map (·.cps.toList))
 rw[←H7, ←Ac,Tj,RT] at h
 simpa[Vk.length,Function.comp_def] using h
noncomputable def Fi(b:Array UInt8):Array UInt8:=(DF (((#[46,45]:Array UInt8)++b).map (·.toNat))).map (·.toUInt8)
noncomputable def outT(x:Vk):Vk:=TH (TH x (Ta "\n.") (Ta "\n..")) (Ta "\n") (Ta "\r\n")
noncomputable def J5(x:Vk):Vk:=x++Txt.mul (Ta "-") (x.length:Int)
theorem Ic(x:Vk)(u:Vm):TP x none none (-1,u)=TP x none none (-1,0):=Az (by rw[step_rev_list,step_rev_list])
noncomputable def MC(x:Vk):Vk:=TP x none none (-1,0)
noncomputable def X9(x:Vk):Vk:=MC x++Txt.mul (Ta "-") (x.length:Int)
noncomputable def V2(x:Vk):Vk:=Ta "..-"++TH (MC x) (Ta "\n.") (Ta "\n..")++Txt.mul (Ta "-") (x.length:Int)
theorem Ht{A:UP}{s:UO}(b:Array UInt8)(t u:Vm):SeqAt.EqAt A s (.bytes b t) (.bytes b u) true:=fun prog w E Q hq=>by
 unfold eqBool
 refine SM ?_
 refine wpAny_ite_split (fun Z=>TQ (Ud (TR hq))) (fun Z=>?_)
 exact TQ (eq_bytes (by rw[beq_self_eq_true];exact wpAny_truthy_bool hq))
theorem L0.get{vs:List UX}{bs:List (Array UInt8)}(h:L0 vs bs)(i:Nat)(hi:i<vs.length)(hb:i<bs.length):∃t,vs[i]= .bytes bs[i] t:=by
 refine y8 (h.at i _ (Qb hi)) fun b t e1 e2=>?_
 rw[Qb hb] at e1
 cases e1
 exact⟨t,e2⟩
section
variable{prog:UF}{w:Va}{A:UP}{E:UX->UO->Prop}{s:UO}
theorem Iz{a b:Vf}{vs us:List UX}{bs:List (Array UInt8)}{Q:UX->UO->Prop}(hl:s.heap.IsList a vs.toArray)(hb:s.heap.IsList b us.toArray)(pv:L0 vs bs)(pu:L0 us bs)(hu:A.units<cLine)(h:Q (.bool false) s):
  UY (UZ prog w) A (compareOp .NotEq (.ref a) (.ref b)) Q E s:=by
 have e1:=pv.length
 have e2:=pu.length
 refine SeqAt.RcNeAt.lists (e:=fun Z=>true) hl hb (by simp[e1,e2]) hu (fun j h1 h2=>?_) prog w E Q ?_
 ·have h1':j<vs.length:=by simpa using h1
  have h2':j<us.length:=by simpa using h2
  refine oE (pv.get j h1' (e1 ▸ h1')) fun t q1=>?_
  refine oE (pu.get j h2' (e1 ▸ h1')) fun u q2=>?_
  rw[show vs.toArray[j]=vs[j] from rfl,show us.toArray[j]=us[j] from rfl,q1,q2]
  exact Ht _ _ _
 ·have:(TS vs.toArray.size).all (fun Z=>true)=true:=by simp
  rw[this];exact h
end
noncomputable def Kl(rn pn:List Int)(k j:Nat):Bool:=decide ((-4+(j:Int))∈rn) && (decide (pn.getD k 0<2*(-4+(j:Int))) && decide (2*(-4+(j:Int))<pn.getD (k+1) 0))
noncomputable def Ny(rn pn tn:List Int)(k:Nat):Int:=(((TS 9).filter (Kl rn pn k)).map fun j=>tn.getD (j+1) 0).sum
theorem DE(rn pn:List Int)(i j:Nat):Kl rn pn i j=((rn.any fun x=>x == -4+(j:Int)) && (decide (pn.getD (0+(i:Int)).toNat 0<2*(-4+(j:Int))) && decide (2*(-4+(j:Int))<pn.getD (0+(i:Int)+1).toNat 0))):=by
 have e1:(0+(i:Int)).toNat=i:=zI0 i
 have e2:(0+(i:Int)+1).toNat=i+1:=zI1 i
 rw[GG,e1,e2];rfl
section
variable{rn pn:List Int}{i j:Nat}
theorem Mi(a:(rn.any fun x=>x == -4+(j:Int))=true)(b:pn.getD (0+(i:Int)).toNat 0<2*(-4+(j:Int)))(c:2*(-4+(j:Int))<pn.getD (0+(i:Int)+1).toNat 0):true=Kl rn pn i j:=by rw[DE,a,decide_eq_true b,decide_eq_true c];rfl
theorem Mj(a:(rn.any fun x=>x == -4+(j:Int))=true)(b:pn.getD (0+(i:Int)).toNat 0<2*(-4+(j:Int)))(c:¬2*(-4+(j:Int))<pn.getD (0+(i:Int)+1).toNat 0):false=Kl rn pn i j:=by rw[DE,a,decide_eq_true b,decide_eq_false c];rfl
theorem Nx(a:(rn.any fun x=>x == -4+(j:Int))=true)(b:¬pn.getD (0+(i:Int)).toNat 0<2*(-4+(j:Int))):false=Kl rn pn i j:=by rw[DE,a,decide_eq_false b];rfl
theorem Nw(a:(rn.any fun x=>x == -4+(j:Int))=false):false=Kl rn pn i j:=by rw[DE,a];rfl
end
inductive TurnEnd(h₀:Vg)(L:Vf)(c:Vf)(o:Vl)(V7:List (Vf×Vl))(J:(Vk->Option UX)->Prop)(s:UO)(s':UO):Prop
 |mk(h:Vg)(tk:Nat)(m:Vk->Option UX)(news:List (Vf×Vl))(a0:s'={s with heap:=h,toks:=tk})(a1:Fr h₀ L h m)(a2:News h₀ L h news)(a3:(c,o)∈news)(a4:(∀q∈V7,q∈news))(a5:J m)
theorem TurnEnd.intro{h₀ h:Vg}{L:Vf}{c:Vf}{o:Vl}{V7 news:List (Vf×Vl)}{m:Vk->Option UX}{J:(Vk->Option UX)->Prop}{s:UO}{tk:Nat}(F:Fr h₀ L h m)(N:News h₀ L h news)(hc:(c,o)∈news)(hk:∀q∈V7,q∈news)(hj:J m):
  TurnEnd h₀ L c o V7 J s {s with heap:=h,toks:=tk}:=⟨h,tk,m,news,rfl,F,N,hc,hk,hj⟩
section
variable{prog:UF}{w:Va}{A:UP}{E:UX->UO->Prop}{s:UO}{env:Vn}{h₀:Vg}{x:Vk}{px:Pos}{body:List Stmt}{Q:Flow->UO->Prop}
end
namespace J8
noncomputable def T(prog:UF)(w:Va)(A:UP)(E:UX->UO->Prop)(s:UO)(env:Vn)(h₀:Vg)(x:Vk)(px:Pos)(body:List Stmt)(Q:Flow->UO->Prop)(r:Vf)(c:Vf)(C4:Int)(Aa:Int)(DV:Vm)(DU:Vm)(DT:Vm)(n:Nat)(m₀:Vk->Option UX)(V7:List (Prod Vf Vl))(Cv:Vl)(Km:Option UX)(J:Nat->(Vk->Option UX)->Prop):Prop:=∀(hh:A.handled=none)(hr:IsRange s.heap r C4 Aa 1 DV DU DT)(hsmall:QH C4 Aa 1=true)(hn:Qe C4 Aa 1=(n:Int))(hk:env.scope.kind= .function)(hx:env.kindOf x=some .cell)(hc:env.cells.lookup x=some c)(hd:Cv.data= .cell Km)(F:Fr h₀ env.locals s.heap m₀)(N:News h₀ env.locals s.heap ((c,Cv)::V7))(hkc:∀q∈V7,q.1≠c)(hJ:J 0 m₀)(turn:∀(i:Nat) t m o own h tk E',i<n->J i m->o.data= .cell (some (.int (C4+(i:Int)) t))->Fr h₀ env.locals h m->News h₀ env.locals h ((c,o)::own::V7)->
   UY (UZ prog w) A (Ve body env) (fun f s'=>match f with
    | .next| .cont=>TurnEnd h₀ env.locals c o (own::V7) (J (i+1)) {s with heap:=h,toks:=tk} s'
    | .brk=>False
    | .ret v=>Q (.ret v) s') E' {s with heap:=h,toks:=tk})(done:∀h tk m o,J n m->Fr h₀ env.locals h m->News h₀ env.locals h ((c,o)::V7)->Q .next {s with heap:=h,toks:=tk}),UY (UZ prog w) A (UU (.ref r)) (fun it s₂=>UI (UZ prog w) A (.forLoop (.Name x px) it body [] env) (fun r s'=>match r with| .ok f=>Q f s'| .error e=>cameBackBy (UZ prog w) A env E e s') s₂) E s
noncomputable def P9:=V4 fun prog w A E=>V4 fun s env h₀ x=>V4 fun px body Q r=>V4 fun c C4 Aa DV=>V4 fun DU DT n m₀=>U4 fun V7 Cv Km J=>T prog w A E s env h₀ x px body Q r c C4 Aa DV DU DT n m₀ V7 Cv Km J
@[irreducible] noncomputable def c9:=y6 (by k_extra "ne") P9
@[irreducible] noncomputable def prog:=c9.1.1
@[irreducible] noncomputable def w:=c9.1.2.1
@[irreducible] noncomputable def A:=c9.1.2.2.1
@[irreducible] noncomputable def E:=c9.1.2.2.2
@[irreducible] noncomputable def s:=c9.2.1.1
@[irreducible] noncomputable def env:=c9.2.1.2.1
@[irreducible] noncomputable def h₀:=c9.2.1.2.2.1
@[irreducible] noncomputable def x:=c9.2.1.2.2.2
@[irreducible] noncomputable def px:=c9.2.2.1.1
@[irreducible] noncomputable def body:=c9.2.2.1.2.1
@[irreducible] noncomputable def Q:=c9.2.2.1.2.2.1
@[irreducible] noncomputable def r:=c9.2.2.1.2.2.2
@[irreducible] noncomputable def c:=c9.2.2.2.1.1
@[irreducible] noncomputable def C4:=c9.2.2.2.1.2.1
@[irreducible] noncomputable def Aa:=c9.2.2.2.1.2.2.1
@[irreducible] noncomputable def DV:=c9.2.2.2.1.2.2.2
@[irreducible] noncomputable def DU:=c9.2.2.2.2.1.1
@[irreducible] noncomputable def DT:=c9.2.2.2.2.1.2.1
@[irreducible] noncomputable def n:=c9.2.2.2.2.1.2.2.1
@[irreducible] noncomputable def m₀:=c9.2.2.2.2.1.2.2.2
@[irreducible] noncomputable def V7:=c9.2.2.2.2.2.1
@[irreducible] noncomputable def Cv:=c9.2.2.2.2.2.2.1
@[irreducible] noncomputable def Km:=c9.2.2.2.2.2.2.2.1
@[irreducible] noncomputable def J:=c9.2.2.2.2.2.2.2.2
inductive I1(k:Nat)(s':UO):Prop
 |mk(h:Vg)(tk:Nat)(m:Vk->Option UX)(o:Vl)(v:Option UX)(i:Nat)(a0:s'={s with heap:=h,toks:=tk})(a1:TK h s.heap.objs.size (C4+(i:Nat)*1) ((n:Int)-(i:Nat)) 1)(a2:Fr h₀ env.locals h m)(a3:News h₀ env.locals h ((c,o)::V7))(a4:o.data= .cell v)(a5:J i m)(a6:i<=n)(a7:k=n+1-i)
theorem walk:T prog w A E s env h₀ x px body Q r c C4 Aa DV DU DT n m₀ V7 Cv Km J:=by
 intro hh hr hsmall hn hk hx hc hd F N hkc hJ turn done
 refine Ra hr hsmall ?_
 have W:Walks prog w A s.heap.objs.size [s.heap.objs.size] [s.heap.objs.size] n (fun i v=>i<n/\∃t,v= .int (C4+i*1) t)
   (fun i h=>TK h s.heap.objs.size (C4+(i:Nat)*1) ((n:Int)-(i:Nat)) 1):=(Walks.range hh _ C4 1 n).bound
 have hI0:h₀.get? s.heap.objs.size=none:=TL F
 have hIL:env.locals≠s.heap.objs.size:=Tb F.ns.lt
 have big:∀q∈(c,Cv)::V7,q.1≠s.heap.objs.size:=fun q hq=>Tb (Tc (N q hq).1)
 have hcI:c≠s.heap.objs.size:=big _ (.head _)
 have bigk:∀q∈V7,q.1≠s.heap.objs.size:=fun q hq=>big q (.tail _ hq)
 refine codeAny_forLoop_any I1 ?_ (n+1)
  ⟨_,s.toks,m₀,Cv,Km,0,rfl,by show TK _ _ _ _ _;rw[hn];simpa using QD _ rfl,F.push _,fun p hp=>⟨Qj _ (N p hp).1,(N p hp).2⟩,hd,hJ,TC _,rfl⟩
 (intro k s' r0_;obtain⟨h,tk,m,o,v,i,rfl,hst,F',N',hd',hj,hi,rfl⟩:=r0_)
 by_cases hlt:i<n
 ·refine W.item i _ _ _ hlt hst fun v h₁ tk₁ hP hst₁ hk₁=>?_
  (refine oAE hP fun Z t o0_=>?_;clear hP;obtain rfl:=o0_)
  dsimp only
  have up:∀b ob,b≠s.heap.objs.size->h.get? b=some ob->h₁.get? b=some ob:=fun b ob e1 e2=>hk₁ b ob (fun hm=>e1 (QQ.mp hm)) e2
  have F₁:Fr h₀ env.locals h₁ m:=⟨F'.ns.at' fun ob e=>up _ ob hIL e,fun b ob e=>up b ob (fun q=>by exact zh1 q e hI0) (F'.keep b ob e),F'.above⟩
  have N₁:News h₀ env.locals h₁ ((c,o)::V7):=fun q hq=>⟨up _ _ (by rcases SH.mp hq with rfl|hq <;> first|exact hcI|exact bigk q hq) (N' q hq).1,(N' q hq).2⟩
  refine TB (show Sm (.Name x px) (.ref s.heap.objs.size) _=pure () from rfl) ?_
  refine Rk (wpAny_storeName_cell hk hx hc (iEA o ((N₁ _ (.head _)).1) hd') fun h₂ hv₂ hs₂=>?_)
  refine oEA hv₂ fun o' ho' hd2=>?_;clear hv₂
  have hcL:env.locals≠c:=Ne.symm (N₁ _ (.head _)).2.1
  have hc0:h₀.get? c=none:=(N₁ _ (.head _)).2.2
  have F₂:Fr h₀ env.locals h₂ m:=⟨F₁.ns.sameBut hs₂ hcL,fun b ob e=>hs₂.extBut b ob (fun q=>by exact zh1 q e hc0) (F₁.keep b ob e),F₁.above⟩
  obtain⟨oI,hoI⟩:∃oI,h₁.get? s.heap.objs.size=some oI:=⟨_,hst₁⟩
  have N₂:News h₀ env.locals h₂ ((c,o')::(s.heap.objs.size,oI)::V7):=fun q hq=>by
   rcases SH.mp hq with rfl|hq
   ·exact(iAA ho' (Ne.symm hcL) hc0)
   ·rcases SH.mp hq with rfl|hq
    ·exact(iAA (hs₂.extBut _ _ (Ne.symm hcI) hoI) (Ne.symm hIL) hI0)
    ·exact⟨hs₂.extBut _ _ (hkc q hq) (N₁ q (.tail _ hq)).1,(N₁ q (.tail _ hq)).2⟩
  rw[Int.mul_one] at hd2
  refine TT (turn i t m o' (s.heap.objs.size,oI) h₂ _ _ hlt hj hd2 F₂ N₂) (fun f s₃ q=>?_) fun Z Z e=>e
  have fin:TurnEnd h₀ env.locals c o' ((s.heap.objs.size,oI)::V7) (J (i+1)) {s with heap:=h₂,toks:=tk₁} s₃->∃m',m'<n+1-i/\I1 m' s₃:=by
   (intro r0_;obtain⟨h₃,tk₃,m₃,news,rfl,F₃,N₃,e1,e2,hj₃⟩:=r0_)
   refine⟨n+1-(i+1),by omega,h₃,tk₃,m₃,o',_,i+1,rfl,?_,F₃,?_,hd2,hj₃,hlt,rfl⟩
   ·have g:=(N₃ _ (e2 _ (.head _))).1
    dsimp only at g
    have:oI=_:=RZ (hoI.symm.trans hst₁)
    rw[this] at g;exact g
   ·intro q hq
    rcases SH.mp hq with rfl|hq
    ·exact N₃ _ e1
    ·exact N₃ _ (e2 _ (.tail _ hq))
  cases f with
  |ret v=>exact q
  |brk=>exact q.elim
  |next=>exact fin q
  |cont=>exact fin q
 ·have hin:i=n:=by omega
  subst hin
  refine W.done _ _ _ hst fun h₁ tk₁ hk₁=>wpAny_execs_nil ?_
  have up:∀b ob,b≠s.heap.objs.size->h.get? b=some ob->h₁.get? b=some ob:=fun b ob e1 e2=>hk₁ b ob (fun hm=>e1 (QQ.mp hm)) e2
  exact done h₁ tk₁ m o hj ⟨F'.ns.at' fun ob e=>up _ ob hIL e,fun b ob e=>up b ob (fun q=>by exact zh1 q e hI0) (F'.keep b ob e),F'.above⟩ fun q hq=>⟨up _ _ (by rcases SH.mp hq with rfl|hq <;> first|exact hcI|exact bigk q hq) (N' q hq).1,(N' q hq).2⟩
end J8
section
variable{prog:UF}{w:Va}{A:UP}{E:UX->UO->Prop}{s:UO}{env:Vn}{h₀:Vg}{x:Vk}{px:Pos}{body:List Stmt}{Q:Flow->UO->Prop}
theorem Ig{prog w A E s env h₀ x px body Q r c C4 Aa DV DU DT n m₀ V7 Cv Km}(J):J8.T prog w A E s env h₀ x px body Q r c C4 Aa DV DU DT n m₀ V7 Cv Km J:=f7 (P:=J8.P9) (c:=J8.c9) (by with_unfolding_all rfl) (by with_unfolding_all exact J8.walk) ((prog,w,A,E),(s,env,h₀,x),(px,body,Q,r),(c,C4,Aa,DV),(DU,DT,n,m₀),(V7,Cv,Km,J))
end
section
variable{M:Vc}{A:UP}{E:UX->UO->Prop}{s:UO}{env:Vn}
theorem Ik{pos:Pos}{f:Vf}{e:Vh}{rest:List Vh}{Q:UX->UO->Prop}
  (h:UY M A (spliced (backTo pos (UD (e::rest) env))) (fun vs s₁=>PySem.W.FnAt f s₁.heap/\wpP M A (call (.ref f) ([]++vs)) Q E s₁) E s)
  (he:UD (e::rest) env=(false,Vi e env)::UD rest env:=by rfl)(hplain:(backTo pos (UD rest env)).any (·.1)=false:=by rfl):
  wpP M A (callWith pos (.ref f) [] (backTo pos (UD (e::rest) env)) []) Q E s:=by
 rw[he] at h ⊢
 exact Ei (by show(false || (backTo pos (UD rest env)).any (·.1))=false;rw[hplain];rfl) (evalArgs_plain h)
end
theorem Fr.putS{h:Vg}{m:Vk->Option UX}{x:Vk}{v:UX}(F:Fr cH cL h m)(e:m x=some v):Fr cH cL h (fun y=>if y=x then some v else m y)/\∀y,(if y=x then some v else m y)=m y:=⟨Mine.Fr.put F e,JL e⟩
theorem V5{a y:Vk}(h:y∉[a]):y≠a:=fun e=>h (e ▸ .head _)
theorem OL{a b y:Vk}(h:y∉[a,b]):y≠a:=fun e=>h (e ▸ .head _)
theorem OK{a b y:Vk}(h:y∉[a,b]):y≠b:=fun e=>h (e ▸ .tail _ (.head _))
theorem Gx{j k:Nat}(e:n8 cL j=n8 cL k):j=k:=by
 have f:∀k:Nat,n8 cL k= @HAdd.hAdd Nat Nat Nat _ cL (k+1):=fun k=>by
  induction k with
  |zero=>rfl
  |succ k ih=>show @HAdd.hAdd Nat Nat Nat _ (n8 cL k) 1=_;rw[ih];rfl
 rw[f,f] at e
 exact Nat.succ.inj (Nat.add_left_cancel e)
theorem A3(lt:222<cL)(k:Nat):n8 cL k≠222:=Te (Tf lt (Bp k))
theorem X0{h h':Vg}{m':Vk->Option UX}{own rest news':List (Vf×Vl)}(hown:∀p∈own,HF p.1)(hall:L4 h (own++rest))(F:Fr cH cL h' m')(N:News cH cL h' news')(hs:∀p∈rest,p∈news'):z7 h h':=fun b o hL hO e=>by
 rcases hall b o e with q|q|q
 ·exact absurd q hL
 ·exact F.keep _ _ q
 ·rcases RS.mp q with q|q
  ·exact absurd (hown _ q) hO
  ·exact(N _ (hs _ q)).1
theorem AK{h h':Vg}{m:Vk->Option UX}{cm:Nat->Option UX}{ps:Array UX}(H:j7 h m cm ps)(k:z7 h h'):AL h h':=by
 rintro b o h2 hc e
 refine k b o (fun q=>Iv H.fr (q ▸ e) hc) ?_ e
 rintro(q|⟨j,hj,q⟩)
 ·exact h2 q
 ·refine oEA (H.cells j hj) fun o2 g2 d2=>?_
  rw[q,g2] at e;cases e
  exact Jc d2 hc
theorem r0.memC{h:Vg}{a:Vf}{o:Vl}{p:Vf×Vl}{news:List (Vf×Vl)}(x:r0 h a o)(hall:L4 h ([p]++news))(hp:HF p.1):(a,o)∈news:=by
 rcases SH.mp (x.mem hall) with e|e
 ·subst e;exact absurd hp x.nO
 ·exact e
theorem r0.memC2{h:Vg}{a:Vf}{o:Vl}{p q:Vf×Vl}{news:List (Vf×Vl)}(x:r0 h a o)(hall:L4 h ([p,q]++news))(hp:HF p.1)(hq:HF q.1):(a,o)∈news:=by
 rcases SH.mp (x.mem hall) with e|e
 ·subst e;exact absurd hp x.nO
 ·rcases SH.mp e with e|e
  ·subst e;exact absurd hq x.nO
  ·exact e
theorem Eu{d:Vf}:∀{l:List (Vf×Vl)},AllLt d l->∀p∈l,p.1<d:=fun{l}=>by
 induction l with
 |nil=>intro _ p h;cases h
 |cons q r ih=>
  intro h p hp
  rcases SH.mp hp with rfl|hp
  ·exact h.1
  ·exact ih h.2 p hp
theorem l9(k:Nat)(hk:k<11):HF (n8 cL k):= .inr (iEA k hk rfl)
theorem LG{k:Nat}{o:Vl}(hk:k<11):∀p∈[(n8 cL k,o)],HF p.1:=fun p hp=>by rw[QQ.mp hp];exact l9 k hk
theorem M2:HF 222:= .inl rfl
theorem j7.cellC{h:Vg}{m:Vk->Option UX}{cm:Nat->Option UX}{ps:Array UX}{p:Vf×Vl}{news:List (Vf×Vl)}(H:j7 h m cm ps)(hall:L4 h ([p]++news))(k:Nat)(hk:k<11){v:Option UX}(e:cm k=v)(hp:n8 cL k≠p.1):∃o,(n8 cL k,o)∈news/\o.data= .cell v:=by
 refine oEA (H.cell hall k hk e) fun o m d=>?_
 rcases SH.mp m with q|q
 ·exact absurd (congrArg Prod.fst q) hp
 ·exact(iEA o q d)
theorem C7{j k:Nat}(h:j≠k):n8 cL j≠n8 cL k:=fun e=>h (Gx e)
theorem Cw{h:Vg}{m:Vk->Option UX}{cm:Nat->Option UX}{ps:Array UX}(H:j7 h m cm ps)(S:List Vf)(hS:∀a∈S,∃k,k<11/\a=n8 cL k):∃rest,News cH cL h rest/\OwnOff rest S/\(∀b o,h.get? b=some o->b=cL\/b∈S\/cH.get? b=some o\/(b,o)∈rest)/\
  ∀k,k<11->∃o,h.get? (n8 cL k)=some o/\n8 cL k≠cL/\cH.get? (n8 cL k)=none/\o.data= .cell (cm k):=by
 refine L1 (AF H.fr S) fun rest N hn hall=>?_
 refine(BO rest N (fun p hp b hb e=>hn p hp (e ▸ hb)) hall (fun k hk=>?_))
 refine oEA (H.cells k hk) fun o g d=>?_
 refine oA (Al H.fr k) fun n1 n2=>?_
 exact(BO o g n2 n1 d)
theorem A7{h:Vg}{m:Vk->Option UX}{cm:Nat->Option UX}{ps:Array UX}(H:j7 h m cm ps)(k:Nat)(hk:k<11){a:Vf}(ha:a=n8 cL k):∃o rest,News cH cL h ((a,o)::rest)/\o.data= .cell (cm k)/\OwnOff rest [a]/\L4 h ([(a,o)]++rest):=by
 subst ha
 refine V3 (Cw H [n8 cL k] fun a ha=>(iEA k hk (QQ.mp ha))) fun rest N off hall cs=>?_
 refine V3 (cs k hk) fun o g n2 n1 d=>?_
 refine(IR o rest (fun q hq=>?_) d off (fun b ob e=>?_))
 ·rcases SH.mp hq with rfl|hq
  ·exact(iAA g n2 n1)
  ·exact N q hq
 ·rcases hall b ob e with q|q|q|q
  ·exact .inl q
  ·rw[QQ.mp q,g] at e;cases e
   rw[QQ.mp q]
   exact .inr (.inr (.head _))
  ·exact .inr (.inl q)
  ·exact .inr (.inr (.tail _ q))
theorem GY{h:Vg}{m:Vk->Option UX}{cm:Nat->Option UX}{ps:Array UX}(H:j7 h m cm ps)(k j:Nat)(hk:k<11)(hj:j<11){a b:Vf}(ha:a=n8 cL k)(hb:b=n8 cL j):∃o o2 rest,News cH cL h ((a,o)::(b,o2)::rest)/\o.data= .cell (cm k)/\o2.data= .cell (cm j)/\OwnOff rest [a,b]/\L4 h ([(a,o),(b,o2)]++rest):=by
 subst ha hb
 refine V3 (Cw H [n8 cL k,n8 cL j] fun a ha=>by
  rcases SH.mp ha with e|e
  ·exact(iEA k hk e)
  ·exact(iEA j hj (QQ.mp e))) fun rest N off hall cs=>?_
 refine V3 (cs k hk) fun o g n2 n1 d=>?_
 refine V3 (cs j hj) fun p gp p2 p1 dp=>?_
 refine⟨o,p,rest,fun q hq=>?_,d,dp,off,fun b ob e=>?_⟩
 ·rcases SH.mp hq with rfl|hq
  ·exact(iAA g n2 n1)
  ·rcases SH.mp hq with rfl|hq
   ·exact(iAA gp p2 p1)
   ·exact N q hq
 ·rcases hall b ob e with q|q|q|q
  ·exact .inl q
  ·rcases SH.mp q with q|q
   ·rw[q,g] at e;cases e
    rw[q];exact .inr (.inr (.head _))
   ·rw[QQ.mp q,gp] at e;cases e
    rw[QQ.mp q]
    exact .inr (.inr (.tail _ (.head _)))
  ·exact .inr (.inl q)
  ·exact .inr (.inr (.tail _ (.tail _ q)))
theorem CA{h h':Vg}{tk tk':Nat}{m m':Vk->Option UX}{cm cm':Nat->Option UX}{ps:Array UX}{own rest news':List (Vf×Vl)}(xs:List Vk)(ks:List Nat)(H:j7 h m cm ps)(hall:L4 h (own++rest))(hown:∀p∈own,∃k,k∈ks/\p.1=n8 cL k)(hlt:∀k∈ks,k<11)(hT:tk<=tk')(no:cH.get? 222=none)(lt:222<cL)
  (F:Fr cH cL h' m')(N:News cH cL h' news')(hnew:∀k∈ks,∃o,(n8 cL k,o)∈news'/\o.data= .cell (cm' k))(hcm:∀j,j∉ks->cm' j=cm j)(hs:∀p∈rest,p∈news')(nm:∀y,y∉xs->m' y=m y):Q8 xs ks h tk m cm h' tk' m' cm' ps:=by
 have st:z7 h h':=X0 (fun p hp=>by
  refine oEA (hown p hp) fun k hk e=>?_
  exact .inr (iEA k (hlt k hk) e)) hall F N hs
 have get:∀b o,h.get? b=some o->b≠cL->cH.get? b=none->(∀k∈ks,b≠n8 cL k)->h'.get? b=some o:=fun b o e n1 n2 n3=>by
  rcases hall b o e with q|q|q
  ·exact absurd q n1
  ·exact zs1 n2 q
  ·rcases RS.mp q with q|q
   ·refine oEA (hown _ q) fun k hk e=>?_
    exact absurd e (n3 k hk)
   ·exact(N _ (hs _ q)).1
 refine⟨hT,⟨F,fun j hj=>?_,get 222 _ H.tab (Tb lt) no fun k Z e=>A3 lt k e.symm,H.ok.up (AK H st)⟩,st,nm,hcm⟩
 by_cases e:j∈ks
 ·refine oEA (hnew j e) fun o mo d=>?_
  exact(iEA o ((N _ mo).1) d)
 ·refine oEA (H.cells j hj) fun o2 g2 d2=>?_
  refine oA (Al H.fr j) fun n1 n2=>?_
  refine(iEA o2 (get _ _ g2 n2 n1 fun k hk q=>?_) (by rw[hcm j e];exact d2))
  rw[Gx q] at e
  exact e hk
theorem B2{h h':Vg}{tk tk':Nat}{m m':Vk->Option UX}{cm:Nat->Option UX}{ps:Array UX}{rest news':List (Vf×Vl)}{o o':Vl}{v:Option UX}{a:Vf}(xs:List Vk)(k:Nat)(ha:a=n8 cL k)(H:j7 h m cm ps)(hall:L4 h ([(a,o)]++rest))(hT:tk<=tk')(no:cH.get? 222=none)(lt:222<cL)
  (F:Fr cH cL h' m')(N:News cH cL h' news')(hc:(a,o')∈news')(hd:o'.data= .cell v)(hs:∀p∈rest,p∈news')(hk:k<11)(nm:∀y,y∉xs->m' y=m y):Q8 xs [k] h tk m cm h' tk' m' (fun j=>if j=k then v else cm j) ps:=by
 subst ha
 refine CA xs [k] H hall (fun p hp=>(iEA k (.head _) (by rw[QQ.mp hp]))) (fun j hj=>QQ.mp hj ▸ hk) hT no lt F N (fun j hj=>?_) (fun j hj=>if_neg fun e=>hj (by rw[e];exact .head _)) hs nm
 rw[QQ.mp hj,if_pos rfl]
 exact(iEA o' hc hd)
theorem BN{h h':Vg}{tk tk':Nat}{m m':Vk->Option UX}{cm:Nat->Option UX}{ps:Array UX}{rest news':List (Vf×Vl)}{o o' p p':Vl}{v u:Option UX}{a b:Vf}(xs:List Vk)(k j:Nat)(ha:a=n8 cL k)(hb:b=n8 cL j)(hkj:j≠k)(H:j7 h m cm ps)(hall:L4 h ([(a,o),(b,p)]++rest))(hT:tk<=tk')(no:cH.get? 222=none)(lt:222<cL)
  (F:Fr cH cL h' m')(N:News cH cL h' news')(hc:(a,o')∈news')(hd:o'.data= .cell v)(hc2:(b,p')∈news')(hd2:p'.data= .cell u)(hs:∀p∈rest,p∈news')(hk:k<11)(hj:j<11)(nm:∀y,y∉xs->m' y=m y):Q8 xs [k,j] h tk m cm h' tk' m' (fun i=>if i=k then v else if i=j then u else cm i) ps:=by
 subst ha hb
 refine CA xs [k,j] H hall (fun p hp=>?_) (fun i hi=>?_) hT no lt F N (fun i hi=>?_) (fun i hi=>(if_neg fun e=>hi (by rw[e];exact .head _)).trans (if_neg fun e=>hi (by rw[e];exact .tail _ (.head _)))) hs nm
 ·rcases SH.mp hp with e|e
  ·exact(iEA k (.head _) (by rw[e]))
  ·exact(iEA j (.tail _ (.head _)) (by rw[QQ.mp e]))
 ·rcases SH.mp hi with e|e
  ·exact e ▸ hk
  ·exact QQ.mp e ▸ hj
 ·rcases SH.mp hi with e|e
  ·rw[e,if_pos rfl];exact(iEA o' hc hd)
  ·rw[QQ.mp e,if_neg hkj,if_pos rfl];exact(iEA p' hc2 hd2)
theorem T7{h:Vg}{m:Vk->Option UX}{cm:Nat->Option UX}{ps:Array UX}(H:j7 h m cm ps)(no:cH.get? 222=none)(lt:222<cL):∃rest,News cH cL h ((222,UQ ps)::rest)/\(∀q∈rest,q.1≠222)/\L4 h ([(222,UQ ps)]++rest):=by
 refine L1 (AF H.fr [222]) fun rest N hn hall=>?_
 refine(V8 rest (fun q hq=>?_) (fun p hp e=>hn p hp (by rw[e];exact .head _)) (fun b ob e=>?_))
 ·rcases SH.mp hq with rfl|hq
  ·exact(iAA H.tab (Tb lt) no)
  ·exact N q hq
 ·rcases hall b ob e with q|q|q|q
  ·exact .inl q
  ·have g:=H.tab
   rw[QQ.mp q,g] at e;cases e
   rw[QQ.mp q]
   exact .inr (.inr (.head _))
  ·exact .inr (.inl q)
  ·exact .inr (.inr (.tail _ q))
theorem C1{h h':Vg}{tk tk':Nat}{m m':Vk->Option UX}{cm:Nat->Option UX}{ps ps':Array UX}{rest news':List (Vf×Vl)}(xs:List Vk)(H:j7 h m cm ps)(hall:L4 h ([(222,UQ ps)]++rest))(hT:tk<=tk')(lt:222<cL)
  (F:Fr cH cL h' m')(N:News cH cL h' news')(g:h'.get? 222=some (UQ ps'))(ok:A5 h' 222 qualR ps')(hs:∀p∈rest,p∈news')(nm:∀y,y∉xs->m' y=m y):Q8 xs [] h tk m cm h' tk' m' cm ps':=by
 refine⟨hT,⟨F,fun j hj=>?_,g,ok⟩,X0 (own:=[(222,UQ ps)]) (fun p hp=> .inl (by rw[QQ.mp hp])) hall F N hs,nm,fun Z Z=>rfl⟩
 refine oEA (H.cells j hj) fun o2 g2 d2=>?_
 refine oA (Al H.fr j) fun n1 n2=>?_
 refine(iEA o2 ?_ d2)
 rcases hall _ o2 g2 with q|q|q
 ·exact absurd q n2
 ·exact zs1 n1 q
 ·rcases SH.mp q with q|q
  ·exact absurd (congrArg Prod.fst q) (A3 lt j)
  ·exact(N _ (hs _ q)).1
theorem l4{h h':Vg}{m:Vk->Option UX}{cm:Nat->Option UX}{ps:Array UX}{rest news':List (Vf×Vl)}{a D:Vf}{o ob:Vl}(H:j7 h m cm ps)(hall:L4 h ([(a,o)]++rest))(no:cH.get? 222=none)(lt:222<cL)
  (N:News cH cL h' news')(hm:(D,ob)∈news')(ha: @Ne Nat a D)(O:∀q∈rest,q.1≠D):r0 h' D ob:=p6 H hall no lt N hm fun q hq=>by
 rcases SH.mp hq with rfl|hq
 ·exact ha
 ·exact O q hq
theorem T5{h h':Vg}{m:Vk->Option UX}{cm:Nat->Option UX}{ps:Array UX}{rest news':List (Vf×Vl)}{a b D:Vf}{o p ob:Vl}(H:j7 h m cm ps)(hall:L4 h ([(a,o),(b,p)]++rest))(no:cH.get? 222=none)(lt:222<cL)
  (N:News cH cL h' news')(hm:(D,ob)∈news')(ha: @Ne Nat a D)(hb: @Ne Nat b D)(O:∀q∈rest,q.1≠D):r0 h' D ob:=p6 H hall no lt N hm fun q hq=>by
 rcases SH.mp hq with rfl|hq
 ·exact ha
 ·rcases SH.mp hq with rfl|hq
  ·exact hb
  ·exact O q hq
theorem Q8.trans{xs:List Vk}{ks:List Nat}{h h1 h2:Vg}{tk tk2:Nat}{m m1 m2:Vk->Option UX}{cm cm1 cm2:Nat->Option UX}{ps1 ps2:Array UX}(x:Q8 [] [] h tk m cm h1 tk m1 cm1 ps1)(y:Q8 xs ks h1 tk m1 cm1 h2 tk2 m2 cm2 ps2):Q8 xs ks h tk m cm h2 tk2 m2 cm2 ps2:=
 ⟨y.toks,y.law,x.st.trans y.st,fun z hz=>(y.nm z hz).trans (x.nm z (RE)),fun k hk=>(y.cl k hk).trans (x.cl k (RE))⟩
theorem j7.tabC{h:Vg}{m:Vk->Option UX}{cm:Nat->Option UX}{ps:Array UX}{p:Vf×Vl}{news:List (Vf×Vl)}(H:j7 h m cm ps)(hall:L4 h ([p]++news))(no:cH.get? 222=none)(lt:222<cL)(hp:p.1≠222):(222,UQ ps)∈news:=by
 rcases hall _ _ H.tab with q|q|q
 ·exact absurd lt (q ▸ SK _)
 ·exact zs1 no q
 ·rcases SH.mp q with q|q
  ·exact absurd (congrArg Prod.fst q).symm hp
  ·exact q
noncomputable def Jp(L:Vf)(r:RuleD)(H ha:Vg)(y:UX):Prop:=∃x,y= .ref x/\(∃o,H.get? L=some o)/\(∀c,HF c->∃o,H.get? c=some o)/\
 ∀h'':Vg,(∀b o,H.get? b=none->ha.get? b=some o->h''.get? b=some o)->(∀c q,c≠222->ha.CodeRec (.ref c) q->h''.CodeRec (.ref c) q)->S7 (KW cW) h'' x r.reach r.low r.high r.verdict
theorem Dn{h h':Vg}{m m':Vk->Option UX}{cm:Nat->Option UX}{ps:Array UX}(H:j7 h m cm ps){rest news':List (Vf×Vl)}{o':Vl}(hall:L4 h ([(222,UQ ps)]++rest))(F:Fr cH cL h' m')(N:News cH cL h' news')(g:h'.get? 222=some o')(hs:∀p∈rest,p∈news'):∀c,HF c->∃o,h'.get? c=some o:=by
 rintro c (rfl|⟨k,hk,rfl⟩)
 ·exact⟨_,g⟩
 ·refine oEA (H.cells k hk) fun o2 g2 d2=>?_
  refine oA (Al H.fr k) fun n1 n2=>?_
  rcases hall _ o2 g2 with q|q|q
  ·exact absurd q n2
  ·exact zs1 n1 q
  ·rcases SH.mp q with q|q
   ·have q1:n8 cL k=222:=congrArg Prod.fst q
    rw[q1];exact⟨_,g⟩
   ·exact⟨_,(N _ (hs _ q)).1⟩
theorem LA{hb h':Vg}{x:Vf}{m:Vk->Option UX}{cm:Nat->Option UX}{ps:Array UX}{d1 d2 d3 d4:Int}
  (H:j7 h' m cm ps)(hL:∃o,hb.get? cL=some o)(hS:∀c,HF c->∃o,hb.get? c=some o)
  (cl:∀h'':Vg,(∀b o,hb.get? b=none->h'.get? b=some o->h''.get? b=some o)->(∀c q,c≠222->h'.CodeRec (.ref c) q->h''.CodeRec (.ref c) q)->S7 (KW cW) h'' x d1 d2 d3 d4):Jo h' x d1 d2 d3 d4:=fun h'' k=>by
 refine cl h'' (fun b o e1 g=>k b o ?_ ?_ g) fun c q hc y=>(AK H k).rec c q hc y
 ·rintro rfl;refine oE hL fun o' e'=>?_;clear hL;exact zs1 e1 e'
 ·intro hO;refine oE (hS b hO) fun o' e'=>?_;exact zs1 e1 e'
theorem Fg{h' h9:Vg}{C:Vf}{m:Vk->Option UX}{cm:Nat->Option UX}{ps:Array UX}{α:Type}{f:α->RuleD}
  (H:j7 h9 m cm ps)(k9:∀b o,b≠cL->C≠b->h'.get? b=some o->h9.get? b=some o)
  {js:List α}{ys:List UX}(y:Paired (fun j y=>∃hb ha,Jp cL (f j) hb ha y/\(∃o,hb.get? C=some o)/\C5 hb ha h'/\Av cL C ha h') js ys):BZ h9 ys (js.map f):=by
 induction y with
 |nil=>exact .nil
 |cons a r ih=>
  (refine E4 a fun hb ha o0_ o1_ st cu=>?_;clear a;(refine V3 o0_ fun x e o0_ hS cl=>?_;obtain⟨oL,eL⟩:=o0_);refine oE o1_ fun oC eC=>?_;clear o1_)
  refine .cons (iEA x e (fun h'' k=>cl h'' (fun b o e1 e2=>?_) fun c q hc x=>?_)) ih
  ·have g:h9.get? b=some o:=k9 b o (fun q=>by exact zg1 q e1 eL) (fun q=>by exact zg1 q.symm e1 eC) (st b o e1 e2)
   refine k b o (fun q=>by exact zg1 q e1 eL) (fun q=>?_) g
   refine oE (hS b q) fun o' e'=>?_;exact zs1 e1 e'
  ·refine C6 x fun c' o vs t e g d v=>?_;clear x
   cases e
   refine oAA (cu c o hc (Hh vs q t d v) g) fun n1 n2 g2=>?_
   exact⟨c,o,vs,t,rfl,AK H k c o hc (Hh vs q t d v) (k9 c o n1 (Ne.symm n2) g2),d,v⟩
theorem Dh{H h2 h':Vg}{r:Vf}{m:Vk->Option UX}{V7:List (Vf×Vl)}{ps ps':Array UX}{s:UO}{tk:Nat}{d:RuleD}(F:Fr cH cL h2 m)(N:News cH cL h2 ((222,UQ ps)::V7))(hne:∀q∈V7,q.1≠222)
  (hL:∃o,H.get? cL=some o)(hS:∀c,HF c->∃o,H.get? c=some o)(ex:∀b,h2.get? b=none->H.get? b=none)(k:∀b o,b≠222->h2.get? b=some o->h'.get? b=some o)(g:h'.get? 222=some (UQ ps'))(ok:A5 h' 222 qualR ps')
  (cl:∀h'':Vg,(∀b o,h2.get? b=none->h'.get? b=some o->h''.get? b=some o)->(∀c q,c≠222->h'.CodeRec (.ref c) q->h''.CodeRec (.ref c) q)->S7 (KW cW) h'' r d.reach d.low d.high d.verdict):
  W4 cH cL m V7 (Jp cL d H) s (.ref r) {s with heap:=h',toks:=tk}:=by
 refine oA (FX F N hne k g) fun F' N'=>?_
 exact W4.intro F' N' ok ⟨r,rfl,hL,hS,fun h'' n c=>cl h'' (fun b o e1 e2=>n b o (ex b e1) e2) c⟩
theorem BZ.at{h:Vg}{vs:List UX}{rs:List RuleD}(x:BZ h vs rs){h':Vg}(k:z7 h h'):
  Paired (fun v r=>∃a,v= .ref a/\S7 (KW cW) h' a r.reach r.low r.high r.verdict) vs rs:=
 Paired.mono (fun v r x=>oEA x fun a e l=>(iEA a e (l h' k))) x
inductive PH(ns:List Int)(H ha:Vg)(y:UX):Prop
 |mk(r:Vf)(us:List UX)(n:Nat)(a0:y= .ref r)(a1:ha.get? r=some (W.listOf us.toArray n))(a2:H.get? r=none)(a3:(∃o,H.get? cL=some o))(a4:UG us ns)
theorem MK{h' h9:Vg}{C:Vf}{m:Vk->Option UX}{cm:Nat->Option UX}{ps:Array UX}{α:Type}{f:α->List Int}
  (H:j7 h9 m cm ps)(k9:∀b o,b≠cL->C≠b->h'.get? b=some o->h9.get? b=some o)
  {js:List α}{ys:List UX}(y:Paired (fun j y=>∃hb ha,PH (f j) hb ha y/\(∃o,hb.get? C=some o)/\C5 hb ha h'/\Av cL C ha h') js ys):Paired (fun v ns=>∃r us,v=Ul r/\HE h9 r us/\UG us ns) ys (js.map f):=by
 induction y with
 |nil=>exact .nil
 |cons a rr ih=>
  (refine E4 a fun hb ha o0_ o1_ st Z=>?_;clear a;obtain⟨r,us,n,e,g,q,⟨oL,eL⟩,i⟩:=o0_;refine oE o1_ fun oC eC=>?_;clear o1_)
  refine .cons (H5 r us e (KI H (Fq _ (k9 r _ (fun e1=>?_) (fun e1=>?_) (st r _ q g)) rfl n rfl)) i) ih
  ·exact zg1 e1 q eL
  ·exact zg1 e1.symm q eC
theorem CL{H h2:Vg}{m m2:Vk->Option UX}{rA news:List (Vf×Vl)}(hA:L4 H rA)(F0:Fr cH cL H m)(F:Fr cH cL h2 m2)(N:News cH cL h2 news)(hs:∀p∈rA,p∈news):AL H h2:=AJ F0 hA F N fun p hp Z=>hs p hp
end Mine
end
section
open PySem
namespace Mine
theorem Gu(l r:List Nat):∀b,L3 b (l++12::r)=L3 b l++12::L3 false r:=by
 induction l with
 |nil=>intro b;cases b <;> rfl
 |cons c l ih=>
  intro b
  simp only[RG,L3,ih]
  split
  ·rfl
  ·split
   ·split <;> rfl
   ·rfl
theorem Gr(l r:List Nat):∀b,S6 b (l++12::r)=S6 b l++12::S6 false r:=by
 induction l with
 |nil=>intro b;cases b <;> rfl
 |cons c l ih=>
  intro b
  simp only[RG,S6,ih]
  split <;> rfl
theorem EH:∀ps:List (List Nat),L3 false (A0 [12] ps)=A0 [12] (ps.map (L3 false))
 |[]=>rfl
 |[x]=>rfl
 |x::y::r=>by
  have ih:=EH (y::r)
  rw[A0,Rx,List.singleton_append,Gu,ih]
  simp[A0]
theorem EF:∀ps:List (List Nat),S6 false (A0 [12] ps)=A0 [12] (ps.map (S6 false))
 |[]=>rfl
 |[x]=>rfl
 |x::y::r=>by
  have ih:=EF (y::r)
  rw[A0,Rx,List.singleton_append,Gr,ih]
  simp[A0]
theorem Kn{c:Nat}{x y p q:List Nat}(hx:c∉x)(hy:c∉y)(h:x++c::p=y++c::q):x=y/\p=q:=by
 induction x generalizing y with
 |nil=>
  cases y with
  |nil=>exact⟨rfl,(Uv.inj h).2⟩
  |cons b y=>exact absurd ((Uv.inj h).1 ▸ SI _) hy
 |cons a x ih=>
  cases y with
  |nil=>exact absurd ((Uv.inj h).1 ▸ SI _) hx
  |cons b y=>
   have e:=Uv.inj h
   exact oA (ih (fun m=>hx (.tail _ m)) (fun m=>hy (.tail _ m)) e.2) fun e1 e2=>⟨by rw[e.1,e1],e2⟩
theorem IJ{c:Nat}{ps qs:List (List Nat)}(hp:∀p∈ps,c∉p)(hq:∀q∈qs,c∉q)(h1:ps≠[])(h2:qs≠[])(h:A0 [c] ps=A0 [c] qs):ps=qs:=by
 have off {x y z:List Nat} (e:x=y++[c]++z):c∈x:=by rw[e];exact List.mem_append_left _ (List.mem_append_right _ (.head _))
 induction ps generalizing qs with
 |nil=>exact absurd rfl h1
 |cons x r ih=>
  cases qs with
  |nil=>exact absurd rfl h2
  |cons x' r'=>
   cases r with
   |nil=>
    cases r' with
    |nil=>exact congrArg (fun x=>[x]) h
    |cons z r'=>exact absurd (off h) (hp x (.head _))
   |cons y r=>
    cases r' with
    |nil=>exact absurd (off h.symm) (hq x' (.head _))
    |cons y' r'=>
     have h:x++[c]++A0 [c] (y::r)=x'++[c]++A0 [c] (y'::r'):=h
     rw[Rx,Rx] at h
     exact oA (Kn (hp x (.head _)) (hq x' (.head _)) h) fun e1 e2=>congr (congrArg Uv e1) (ih (fun p m=>hp p (.tail _ m)) (fun q m=>hq q (.tail _ m)) (fun x=>nomatch x) (fun x=>nomatch x) e2)
noncomputable def NG:Nat->List (List Nat)
 |0=>[[]]
 |n+1=>(NG n).flatMap fun l=>[46::l,10::l]
noncomputable def texts5:List (List Nat):=[1,2,3,4,5].flatMap NG
theorem Gk:∀l:List Nat,(∀c∈l,c=46\/c=10)->l∈NG l.length
 |[],_=>by simp[NG]
 |c::l,h=>by
  have ih:=Gk l fun c m=>h c (.tail _ m)
  have hc:=h c (.head _)
  simp only[RB,NG,List.mem_flatMap]
  exact(iEA l ih (by rcases hc with rfl|rfl <;> simp))
theorem IB{l:List Nat}(h:∀c∈l,c=46\/c=10)(h0:l≠[])(h5:l.length<=5):l∈texts5:=by
 have hl:l.length∈[1,2,3,4,5]:=by
  have:l.length≠0:=fun e=>h0 (List.length_eq_zero_iff.mp e)
  have:l.length=1\/l.length=2\/l.length=3\/l.length=4\/l.length=5:=by lia
  simpa using this
 exact List.mem_flatMap.mpr (iEA _ hl (Gk l h))
noncomputable def tx(l:List Nat):Vk:=⟨l.toArray⟩
noncomputable def rp(z:List Nat):List Nat->List Nat
 |[]=>[]
 |c::r=>if c=10 then z++rp z r else c::rp z r
theorem FY:∀l∈texts5,∀e∈HG,(TH (tx l) (Ta "\n") e).cps.toList=rp e.cps.toList l:=by decide+kernel
theorem Gb:∀l∈texts5,∀e∈HG,L3 false (rp e.cps.toList l)=rp [13,10] l:=by decide+kernel
theorem Ga:∀l∈texts5,S6 false (rp [13,10] l)=(outT (tx l)).cps.toList:=by decide+kernel
theorem FZ:∀l∈texts5,12∉(outT (tx l)).cps.toList:=by decide+kernel
theorem CX:∀l∈texts5,(0<(tx l).length/\(tx l).length<=7)/\(TH (tx l) (Ta "\n.") (Ta "\n..")).length<=50/\(outT (tx l)).length<=50:=by decide+kernel
theorem NY:∀l∈texts5,(J5 (tx l)).cps.size=2*(tx l).length/\(∀c∈(J5 (tx l)).cps.toList,c<256)/\(Y2 (J5 (tx l))).size=2*(tx l).length:=by decide+kernel
theorem EY:∀l∈texts5,(X9 (tx l)).length<=100/\(∀c∈(X9 (tx l)).cps.toList,c<256)/\(Y2 (X9 (tx l))).size<=100:=by decide+kernel
theorem KD:∀l∈texts5,(MC (tx l)).length<=7/\(TH (MC (tx l)) (Ta "\n.") (Ta "\n..")).length<=50/\(V2 (tx l)).length<=100/\(∀c∈(V2 (tx l)).cps.toList,c<256)/\(Y2 (V2 (tx l))).size<=100:=by decide+kernel
theorem MF:∀l∈texts5,CS (Y2 (J5 (tx l))).toList (tx l).length=Y2 (X9 (tx l)):=by decide+kernel
theorem MG:∀l∈texts5,((S6 true (46::45::(Y2 (X9 (tx l))).toList.map (·.toNat))).map (·.toUInt8)).toArray=Y2 (V2 (tx l)):=by decide+kernel
theorem Oa:∀l∈texts5,((Ko 46 (outT (tx l)):Int)-(Ko 46 (tx l):Int))+(((Y2 (V2 (tx l))).size:Int)-3-2*((tx l).length:Int))=chg (l.map (· == 46)):=by decide+kernel
theorem NZ:∀l∈texts5,∀e∈HG,(TH (tx l) (Ta "\n") e).length<=50:=by decide+kernel
theorem JJ(b:Array UInt8):Fi b=((S6 true (46::45::b.toList.map (·.toNat))).map (·.toUInt8)).toArray:=by
 unfold Fi
 rw[Gs]
 simp
noncomputable def Ea(xs:List Vk):Vk:=Ta "..\x0c"++Txt.join (Ta "\x0c") (xs.map outT)
noncomputable def KM(xs:List Vk):List Vk:=(TS 4).map fun j=>TH (xs.getD j (Ta "")) (Ta "\n") (HG.getD j (Ta ""))
theorem Lx{ls:List (List Nat)}(h4:ls.length=4)(h:∀l∈ls,l∈texts5):
  (⟨DF (Bf (Ta ".\x0c"++Txt.join (Ta "\x0c") (KM (ls.map tx))).cps)⟩:Vk)=Ea (ls.map tx):=by
 obtain⟨l0,l1,l2,l3,rfl⟩:=IF h4
 have m0:=h l0 (by simp);have m1:=h l1 (by simp);have m2:=h l2 (by simp);have m3:=h l3 (by simp)
 have ep:(KM ([l0,l1,l2,l3].map tx)).map (·.cps.toList)=[rp [10] l0,rp [13] l1,rp [13,10] l2,rp [13] l3]:=by
  show [_,_,_,_]=_
  have e0:=FY l0 m0 (Ta "\n") (by decide+kernel)
  have e1:=FY l1 m1 (Ta "\r") (by decide+kernel)
  have e2:=FY l2 m2 (Ta "\r\n") (by decide+kernel)
  have e3:=FY l3 m3 (Ta "\r") (by decide+kernel)
  rw[show(Ta "\n").cps.toList=[10] by decide+kernel] at e0
  rw[show(Ta "\r").cps.toList=[13] by decide+kernel] at e1 e3
  rw[show(Ta "\r\n").cps.toList=[13,10] by decide+kernel] at e2
  exact(congr (congrArg Uv e0) (congr (congrArg Uv e1) (congr (congrArg Uv e2) (congrArg (Uv · []) e3))))
 have c0:=Gb l0 m0 (Ta "\n") (by decide+kernel)
 have c1:=Gb l1 m1 (Ta "\r") (by decide+kernel)
 have c2:=Gb l2 m2 (Ta "\r\n") (by decide+kernel)
 have c3:=Gb l3 m3 (Ta "\r") (by decide+kernel)
 rw[show(Ta "\n").cps.toList=[10] by decide+kernel] at c0
 rw[show(Ta "\r").cps.toList=[13] by decide+kernel] at c1 c3
 rw[show(Ta "\r\n").cps.toList=[13,10] by decide+kernel] at c2
 have d0:=Ga l0 m0;have d1:=Ga l1 m1;have d2:=Ga l2 m2;have d3:=Ga l3 m3
 refine Az ?_
 show(DF _).toList=_
 rw[Gv,Gs,Vk.cps_append,QI,Ac,H7,ep,Ea,Vk.cps_append,QI,Ac,H7,
  show(Ta ".\x0c").cps.toList=[46]++[12] by decide+kernel,show(Ta "\x0c").cps.toList=[12] by decide+kernel,show(Ta "..\x0c").cps.toList=[46,46,12] by decide+kernel]
 show S6 true (L3 false ([46]++12::A0 [12] [rp [10] l0,rp [13] l1,rp [13,10] l2,rp [13] l3]))=_
 rw[Gu,EH]
 simp only[SJ,Tx,c0,c1,c2,c3]
 show S6 true ([46]++12::A0 [12] [rp [13,10] l0,rp [13,10] l1,rp [13,10] l2,rp [13,10] l3])=_
 rw[Gr,EF]
 simp only[SJ,Tx,d0,d1,d2,d3]
 rfl
theorem GT{ls:List (List Nat)}(h4:ls.length=4)(h:∀l∈ls,l∈texts5):Txt.split (Ea (ls.map tx)) (Ta "\x0c")=Ta ".."::(ls.map tx).map outT:=by
 obtain⟨l0,l1,l2,l3,rfl⟩:=IF h4
 have e12:Ta "\x0c"=⟨#[12]⟩:=by decide+kernel
 have hj:Vk.join ⟨#[12]⟩ (Ta ".."::([l0,l1,l2,l3].map tx).map outT)=Ea ([l0,l1,l2,l3].map tx):=by
  rw[Ea,Ac,e12]
  refine Az ?_
  rw[H7,Vk.cps_append,QI,H7,show(Ta "..\x0c").cps.toList=[46,46,12] by decide+kernel]
  rw[SJ,show(Ta "..").cps.toList=[46,46] by decide+kernel]
  rfl
 rw[←hj,e12]
 have hs:=StrLaws.join_split (Vk.join ⟨#[12]⟩ (Ta ".."::([l0,l1,l2,l3].map tx).map outT)) ⟨#[12]⟩
 have hf:=StrLaws.split_free (Vk.join ⟨#[12]⟩ (Ta ".."::([l0,l1,l2,l3].map tx).map outT)) 12
 generalize Txt.split (Vk.join ⟨#[12]⟩ (Ta ".."::([l0,l1,l2,l3].map tx).map outT)) ⟨#[12]⟩=ps at hs hf
 have hs2:(Vk.join ⟨#[12]⟩ ps).cps.toList=_:=congrArg (fun x:Vk=>x.cps.toList) hs
 rw[H7,H7] at hs2
 have hq:∀q∈(Ta ".."::([l0,l1,l2,l3].map tx).map outT).map (·.cps.toList),12∉q:=by
  intro q hq
  simp only[SJ,Tx,SH,RE,or_false] at hq
  rcases hq with rfl|rfl|rfl|rfl|rfl
  ·decide+kernel
  ·exact FZ l0 (h l0 (by simp))
  ·exact FZ l1 (h l1 (by simp))
  ·exact FZ l2 (h l2 (by simp))
  ·exact FZ l3 (h l3 (by simp))
 have hp:∀q∈ps.map (·.cps.toList),12∉q:=fun q hq=>by
  (refine oEA (Tg.mp hq) fun p hp o0_=>?_;obtain rfl:=o0_)
  exact hf p hp
 have hne:ps.map (·.cps.toList)≠[]:=fun e=>by
  rw[e] at hs2
  have:=congrArg List.length hs2
  simp only[SJ,A0,QU,RB,RX] at this
  lia
 have:=IJ hp hq hne (by simp) hs2
 have inj:Function.Injective (fun x:Vk=>x.cps.toList):=fun a b e=>Az e
 exact List.map_inj_right (fun a b e=>Az e) |>.mp this
end Mine
end
section
open PySem
namespace Mine
theorem Cp:∀row:List Int,(Ae row).map (· == 46)=sgI row
 |[]=>rfl
 |v::row=>by
  have ih:=Cp row
  unfold Ae at ih ⊢
  rw[sgI]
  by_cases h:v=0
  ·rw[if_pos h,Qg (by simp[h])];exact ih
  ·rw[if_neg h,Qh (by simp[h]),SJ,SJ,ih]
   congr 1
   by_cases h2:0<v
   ·rw[if_pos h2,decide_eq_true h2];rfl
   ·rw[if_neg h2,decide_eq_false h2];rfl
theorem HW(row:List Int):∀c∈Ae row,c=46\/c=10:=by
 intro c hc
 (refine oEA (Tg.mp hc) fun x Z o0_=>?_;obtain rfl:=o0_)
 split
 ·exact .inl rfl
 ·exact .inr rfl
theorem HX(row:List Int):(Ae row).length<=row.length:=by
 unfold Ae;rw[RT];exact Qp _ _
theorem JG{row:List Int}{v:Int}(hm:v∈row)(hv:v≠0):Ae row≠[]:=by
 intro e
 have:v∈row.filter fun x=>decide (x≠0):=Sd.mpr ⟨hm,by simpa using hv⟩
 unfold Ae at e
 rw[List.map_eq_nil_iff] at e
 rw[e] at this;cases this
theorem Ge(p:Nat->Bool)(f:Nat->Int):∀l:List Nat,((l.filter p).map f).sum=(l.map fun j=>if p j=true then f j else 0).sum
 |[]=>rfl
 |j::l=>by
  have ih:=Ge p f l
  by_cases h:p j=true
  ·rw[Qh h,SJ,SJ,SO,SO,ih,if_pos h]
  ·rw[Qg h,SJ,SO,ih,if_neg h,Th]
theorem Nv(rn pn:List Int)(g:Int->Int)(k:Nat):Ny rn pn ((TS 11).map fun(j:Nat)=>g (-5+(j:Int))) k=
  (span.map fun r=>if pn.getD k 0<2*r/\2*r<pn.getD (k+1) 0 then(if r∈rn then g r else 0) else 0).sum:=by
 unfold Ny
 rw[Ge]
 have:span=(TS 9).map fun(j:Nat)=> -4+(j:Int):=by decide
 rw[this,Tj]
 congr 1
 refine QG fun j hj=>?_
 have hj9:j<9:=List.mem_range.mp hj
 have e:(((TS 11).map fun(j:Nat)=>g (-5+(j:Int))).getD (j+1) 0)=g (-4+(j:Int)):=by
  rw[PV,Rn,List.getElem?_range (by lia)]
  show g (-5+((j+1:Nat):Int))=_
  congr 1;lia
 rw[e]
 show _=if pn.getD k 0<2*(-4+(j:Int))/\2*(-4+(j:Int))<pn.getD (k+1) 0 then(if(-4+(j:Int))∈rn then g (-4+(j:Int)) else 0) else 0
 unfold Kl
 by_cases h1:(-4+(j:Int))∈rn <;> by_cases h2:pn.getD k 0<2*(-4+(j:Int)) <;> by_cases h3:2*(-4+(j:Int))<pn.getD (k+1) 0 <;> simp[h1,h2,h3]
theorem CO:∀(k:Nat)(p c:List Int),(J6 k p c).length<=k
 |0,_,_=>TA _
 |k+1,p,c=>by
  rw[J6]
  split
  ·exact TC _
  ·rw[RB];exact Nat.succ_le_succ (CO k _ _)
section
variable{f6 others:List Int}{lead:Int}{q:List Int}
theorem Kh(d:Dom f6 others lead q){p:Int}(hp:p % 2=1):i0 (b0 (a9 f6) q) p≠0:=by
 intro e
 have hx:2*((p:Rat) / 2)=((p:Int):Rat):=by grind
 have h:=(W9 (b0 (a9 f6) q) p ((p:Rat) / 2) hx).2.2.mp e
 rw[X3,B3,RW] at h
 rcases h with h|h
 ·have key:∀l:List Int,prodR l ((p:Rat) / 2)≠0:=by
   intro l
   induction l with
   |nil=>simp[prodR]
   |cons r l ih=>
    simp only[prodR]
    intro h0
    rcases RW.mp h0 with h1|h1
    ·have:(p:Rat)=((2*r:Int):Rat):=by push_cast;grind
     rw[Si] at this
     lia
    ·exact ih h1
  exact key f6 h
 ·have:=d.q1.pos ((p:Rat) / 2)
  rw[h] at this
  exact absurd this (by grind)
end
end Mine
end
section
open PySem PySem.W PySem.Calls PyProof.Rows
namespace Mine
open S (sK0 sK2 sK17 sK18 sK19 sK20 sK5 sK21)
theorem Ot{tx:Vf}{xs:List Vk}{h:Vg}{tk:Nat}{m:Vk->Option UX}{cm:Nat->Option UX}{ps:Array UX}(G:Hyp)(H:j7 h m cm ps)(ht:LT h tx xs)(hxl:xs.length=4)(hxb:∀x∈xs,x.length<=7)(h0:0<tk)(hb:m (Ta "texts")=some (.ref tx))
  (next:∀(pt:Vf) h' tk' m',Q8 [(Ta "parts")] [] h tk m cm h' tk' m' cm ps->m' (Ta "parts")=some (.ref pt)->LT h' pt ((TS 4).map fun j=>TH (xs.getD j (Ta "")) (Ta "\n") (HG.getD j (Ta "")))->Seg 24 h' tk'):Seg 23 h tk:=by
 obtain⟨B,X,T,Se,C,l22,n22⟩:=G
 have q9:PR=PR:=rfl;unfold PR at q9;revert X q9;k_fill;intro X q9;clear q9
 have F:=H.fr
 refine oEA (i4 F) fun news N hall=>?_
 obtain⟨vx,nx,mx,px⟩:=ht
 replace mx:=mx.mem hall
 have hvl:vx.length=4:=px.length.trans hxl
 refine oA (Fr.putS F (hb)) fun F e09=>?_
 refine i6 rfl rfl ?_
 unfold PR
 k_steps
 unfold g9
 refine wpK.any ?_
 refine v9 (h₀:=cH) (by walk_at "ur") (by walk_at "ur") (by decide) (by walk_at "ur") (by decide) (by intro _;walk_at "ur") (by walk_at "ur") (by walk_at "ur") ?_
 k_steps
 unfold g9
 rename_i l1 h1 F1 N1 q1
 have hne:=s9 (o:=W.listOf vx.toArray nx) N1 (by walk_at "mem")
 refine Le (vs2:=_) (fun j Z Z y=>∃t,y= .str (TH (xs.getD j (Ta "")) (Ta "\n") (HG.getD j (Ta ""))) t) rfl (isL (a:=tx) (vs:=vx) (n:=nx) N1 (by walk_at "mem")) (isL N1 (SI _)) hvl (n:=4) rfl (by rw[Tz];decide) (by walk_at "ur") (by walk_at "ur") (by decide) (by walk_at "ur") F1 N1 hne (s9 N1 (SI _)) ?elts ?fin
 case elts=>
  rintro j v1 v2 C8 oC u H9 tk9 rest2 E' hT hv1 hv2 hO hu1 hu2 F8 N8
  (refine y8 (px.at j v1 hv1) fun x t hx o0_=>?_;obtain rfl:=o0_)
  have hxb2:=hxb x (Qt hx)
  k_steps
  unfold g9
  have hT9:tk+1+1+1+1<=tk9:=hT
  obtain⟨e,t2,rfl,he,h2,h3,h4⟩:∃e t2,v2=Um e t2/\HG.getD j (Ta "")=e/\t2≠0/\t2<tk9/\e.length<=2:=by
   refine get4 (P:=fun j v2=>∃e t2,v2=Um e t2/\HG.getD j (Ta "")=e/\t2≠0/\t2<tk9/\e.length<=2) hv2 ?_ ?_ ?_ ?_ <;>
    exact(Fp _ _ rfl rfl (by show @Ne Nat _ _;(try dsimp only);omega) (by show @LT.lt Nat _ _ _;(try dsimp only);omega) (by decide+kernel))
  rename Fr _ _ _ _=>F7
  rename News _ _ _ _=>N7
  refine SC.replaceA (by show @Ne Nat _ _;(try dsimp only);omega) h2 (Te h3) (by have:(x.length+1)*e.length<=8*2:=SF (by omega) h4;exact Td (Sx hxb2 this) (by decide)) (fun t9 k9=>?_) (Bk X T F7)
  rename News _ _ _ _=>M8
  exact j3.intro F7 M8 (fun p hp=>by walk_at "mem") ⟨_,by rw[J4 hx,he]⟩
 case fin=>
  (intro _ r0_;(refine oEE r0_ fun Z Z o0_=>?_;clear r0_;obtain rfl:=o0_);intro D5 ys k5 h5 tk5 F5 N5 O5 P5)
  rintro h9 tk9 F9 N9
  k_steps
  refine T3.mk fun hT9=>?_
  rename Fr _ _ _ _=>F9
  rename News _ _ _ _=>N9
  refine next D5 _ _ _ (i8 [(Ta "parts")] H hall hT9 n22 l22 F9 N9 (fun p hp=>by walk_at "mem") (fun y hy=>(if_neg (V5 hy)).trans (e09 y))) (by first|exact rfl|exact if_pos rfl|with_unfolding_all exact rfl) ⟨ys,k5,p6 H hall n22 l22 N9 (by walk_at "mem") (fun q hq=>O5 q (by walk_at "mem")),u0 P5⟩
end Mine
end
section
open PySem PySem.W PySem.Calls PyProof.Rows
namespace Mine
open S (sK0 sK2 sK17 sK18 sK19 sK20 sK5 sK22 sK23)
theorem Os{pt:Vf}{qs:List Vk}{h:Vg}{tk:Nat}{m:Vk->Option UX}{cm:Nat->Option UX}{ps:Array UX}(G:Hyp)(H:j7 h m cm ps)(ht:LT h pt qs)(hql:qs.length=4)(hqb:∀x∈qs,x.length<=50)(hb:m (Ta "parts")=some (.ref pt))
  (next:∀(ts:Vm) h' tk' m',Q8 [(Ta "sent")] [] h tk m cm h' tk' m' cm ps->m' (Ta "sent")=some (.str ⟨DF (Bf (Ta ".\x0c"++Txt.join (Ta "\x0c") qs).cps)⟩ ts)->Seg 25 h' tk'):Seg 24 h tk:=by
 obtain⟨B,X,T,Se,C,l22,n22⟩:=G
 have q9:PR=PR:=rfl;unfold PR at q9;revert X q9;k_fill;intro X q9;clear q9
 have F:=H.fr
 refine oEA (i4 F) fun news N hall=>?_
 obtain⟨vx,nx,mx,px⟩:=ht
 replace mx:=mx.mem hall
 have hvl:vx.length=4:=px.length.trans hql
 refine oA (Fr.putS F (hb)) fun F e09=>?_
 have hsum:(qs.map (·.length)).sum<=200:=by
  refine Eo (IF hql) fun a b c d q=>?_
  have h:=hqb
  rw[q] at h ⊢
  (
   have h1:=h a (by simp);have h2:=h b (by simp);have h3:=h c (by simp);have h4:=h d (by simp)
   exact Pk h1 h2 h3 h4 (by decide))
 refine i6 rfl rfl ?_
 unfold PR
 k_steps
 unfold g9
 refine join_list (isL (a:=pt) (vs:=vx) (n:=nx) N (by walk_at "mem")) px.strs_are (by rw[hql,show(Ta "\x0c").length=1 by decide+kernel];omega) (fun t9 k9=>?_)
 k_steps
 unfold g9
 have hjl:=Dw (Ta "\x0c") qs
 rw[hql,show(Ta "\x0c").length=1 by decide+kernel] at hjl
 refine SB.add (fun t8 k8=>?_) (by rw[Tz,show(Ta ".\x0c").length=2 by decide+kernel];omega)
 k_steps
 unfold g9
 k_dflt (refine' Aw (JI _ _) ?u1 ?u2 ?u3 ?u4 ?u5 ?u6 ?u7 ?u8 ?u9 ?uA ?_;walk_at "u")
 case uA=>(show(Ta ".\x0c"++Txt.join (Ta "\x0c") qs).length<=600;rw[RA,show(Ta ".\x0c").length=2 by decide+kernel];omega)
 k_whole
 intro h3 tk3 F3 N3 K3 t3
 (try dsimp only)
 (try k_fold)
 k_steps
 refine T3.mk fun hT9=>?_
 rename Fr _ _ _ _=>F9
 rename News _ _ _ _=>N9
 refine next _ _ _ _ (i8 [(Ta "sent")] H hall hT9 n22 l22 F9 N9 (fun p hp=>by walk_at "mem") (fun y hy=>(if_neg (V5 hy)).trans (e09 y))) (by first|exact rfl|exact if_pos rfl|with_unfolding_all exact rfl)
end Mine
end
section
open PySem PySem.W PySem.Calls PyProof.Rows
namespace Mine
open S (sK0 sK2 sK17 sK18 sK19 sK20 sK5 sK21 sK22 sK23)
theorem Oq{tx:Vf}{xs:List Vk}{x9:Vk}{ts:Vm}{h:Vg}{tk:Nat}{m:Vk->Option UX}{cm:Nat->Option UX}{ps:Array UX}(G:Hyp)(H:j7 h m cm ps)(ht:LT h tx xs)(hxl:xs.length=4)(hxb:∀x∈xs,x.length<=7/\(TH x (Ta "\n.") (Ta "\n..")).length<=50/\(outT x).length<=50)(h0:0<tk)(hb:m (Ta "sent")=some (.str x9 ts))(hb2:m (Ta "texts")=some (.ref tx))(he:x9=Ta "..\x0c"++Txt.join (Ta "\x0c") (xs.map outT))
  (next:∀h' tk' m',Q8 [] [] h tk m cm h' tk' m' cm ps->Seg 26 h' tk'):Seg 25 h tk:=by
 obtain⟨B,X,T,Se,C,l22,n22⟩:=G
 have q9:PR=PR:=rfl;unfold PR at q9;revert X q9;k_fill;intro X q9;clear q9
 have F:=H.fr
 refine oEA (i4 F) fun news N hall=>?_
 obtain⟨vx,nx,mx,px⟩:=ht
 replace mx:=mx.mem hall
 have hvl:vx.length=4:=px.length.trans hxl
 refine oA (Fr.putS F (hb)) fun F e09=>?_
 refine oA (Fr.putS F ((if_neg (by decide)).trans (hb2))) fun F e19=>?_
 have hsum:((xs.map outT).map (·.length)).sum<=200:=by
  refine Eo (IF hxl) fun a b c d q=>?_
  have h:=hxb
  rw[q] at h ⊢
  (
   have h1:=(h a (by simp)).2.2;have h2:=(h b (by simp)).2.2;have h3:=(h c (by simp)).2.2;have h4:=(h d (by simp)).2.2
   exact Pk h1 h2 h3 h4 (by decide))
 refine i6 rfl rfl ?_
 unfold PR
 k_steps
 unfold g9
 refine j5 (h₀:=cH) (L:=cL) (by walk_at "ur") (by decide) (by walk_at "ur") (by decide) (by intro _;walk_at "ur") ?_
 k_steps
 unfold g9
 rename Fr _ _ _ _=>F1
 rename News _ _ _ _=>N1
 refine Bq (fun Z=>true) (fun j Z Z y=>∃t,y= .str (outT (xs.getD j (Ta ""))) t) rfl (isL (a:=tx) (vs:=vx) (n:=nx) N1 (by walk_at "mem")) (by rw[hvl,Tz];decide) (by walk_at "ur") (by walk_at "ur") F1 N1 (s9 (o:=W.listOf vx.toArray nx) N1 (by walk_at "mem")) (fun Z Z Z Z Z Z Z Z Z Z Z Z Z F N=>z8 (p9.intro F N (fun p hp=> .tail _ (RS.mpr (.inr hp))) rfl)) ?elts ?fin
 case elts=>
  rintro j v1 C8 oC u H9 tk9 rest2 E' hT hv1 _ hO hu1 F8 N8
  refine wpP.of ?_
  (refine y8 (px.at j v1 hv1) fun x t hx o0_=>?_;obtain rfl:=o0_)
  refine oAA (hxb x (Qt hx)) fun hb1 hb2 hb3=>?_
  have hT9:tk<=tk9:=by first|exact hT|exact Rt hT|exact Rt (Rt hT)
  k_steps
  unfold g9
  rename Fr _ _ _ _=>F7
  refine w6 (SC.replaceA (by show @Ne Nat _ _;(try dsimp only);omega) (by show @Ne Nat _ _;(try dsimp only);omega) (by show @Ne Nat _ _;(try dsimp only);omega) (by rw[show(Ta "\n..").length=3 by decide+kernel];omega) (fun t9 k9 hk9=>?_) (Bk X T F7))
  have hk9:tk9+1+1<=k9:=hk9
  k_steps
  unfold g9
  rename Fr _ _ _ _=>F6
  rename News _ _ _ _=>M8
  refine SC.replaceA (by show @Ne Nat _ _;(try dsimp only);omega) (by show @Ne Nat _ _;(try dsimp only);omega) (by show @Ne Nat _ _;(try dsimp only);omega) (by rw[show(Ta "\r\n").length=2 by decide+kernel];omega) (fun t8 k8=>?_) (Bk X T F6)
  exact j3.intro F6 M8 (fun p hp=>by walk_at "mem") ⟨_,by rw[J4 hx];rfl⟩
 case fin=>
  (intro _ r0_;(refine oEE r0_ fun Z Z o0_=>?_;clear r0_;obtain rfl:=o0_);intro D5 ys k5 h5 tk5 F5 N5 O5 P5)
  have R:y3 ys (xs.map outT):=by
   have R:=u0 P5
   rw[s7,hvl, ←hxl,D4 (Ta "") outT] at R
   exact R
  k_steps
  unfold g9
  refine join_list (isL (a:=D5) (vs:=ys) (n:=k5) N5 (by walk_at "mem")) R.strs_are (by rw[RT,hxl,show(Ta "\x0c").length=1 by decide+kernel];omega) (fun t9 k9=>?_)
  k_steps
  unfold g9
  have hjl:=Dw (Ta "\x0c") (xs.map outT)
  rw[RT,hxl,show(Ta "\x0c").length=1 by decide+kernel] at hjl
  refine SB.add (fun t8 k8=>?_) (by rw[Tz,show(Ta "..\x0c").length=3 by decide+kernel];omega)
  rw[←he]
  k_steps
  ·rename(x9 != x9)=true=>e9
   rw[bne_self_eq_false] at e9
   cases e9
  refine T3.mk fun hT9=>?_
  rename Fr _ _ _ _=>F9
  rename News _ _ _ _=>N9
  refine next _ _ _ (i8 [] H hall hT9 n22 l22 F9 N9 (fun p hp=>by walk_at "mem") (fun y hy=>(e19 y).trans (e09 y)))
end Mine
end
section
open PySem PySem.W PySem.Calls PyProof.Rows
namespace Mine
open S (sK0 sK2 sK17 sK18 sK19 sK20 sK5 sK23 sK24)
theorem Oo{tx:Vf}{xs:List Vk}{h:Vg}{tk:Nat}{m:Vk->Option UX}{cm:Nat->Option UX}{ps:Array UX}(G:Hyp)(H:j7 h m cm ps)(ht:LT h tx xs)(hxl:xs.length=4)(hxb:∀x∈xs,0<x.length/\x.length<=7/\(J5 x).cps.size=2*x.length/\(∀c∈(J5 x).cps.toList,c<256)/\(Y2 (J5 x)).size=2*x.length)(hb:m (Ta "texts")=some (.ref tx))
  (next:∀(tu:Vf) h' tk' m',Q8 [(Ta "turned")] [] h tk m cm h' tk' m' cm ps->m' (Ta "turned")=some (.ref tu)->LB h' tu (xs.map fun x=>CS (Y2 (J5 x)).toList x.length)->Seg 27 h' tk'):Seg 26 h tk:=by
 obtain⟨B,X,T,Se,C,l22,n22⟩:=G
 have q9:PR=PR:=rfl;unfold PR at q9;revert X q9;k_fill;intro X q9;clear q9
 have F:=H.fr
 refine oEA (i4 F) fun news N hall=>?_
 obtain⟨vx,nx,mx,px⟩:=ht
 replace mx:=mx.mem hall
 have hvl:vx.length=4:=px.length.trans hxl
 refine oA (Fr.putS F (hb)) fun F e09=>?_
 refine Eb rfl rfl ?_
 unfold PR
 refine v9 (h₀:=cH) (by walk_at "ur") (by walk_at "ur") (by decide) (by walk_at "ur") (by decide) (by intro _;walk_at "ur") (by walk_at "ur") (by walk_at "ur") ?_
 k_steps
 unfold g9
 rename Fr _ _ _ _=>F1
 rename News _ _ _ _=>N1
 refine Jf (fun j Z Z y=>∃t,y= .bytes (CS (Y2 (J5 (xs.getD j (Ta "")))).toList (xs.getD j (Ta "")).length) t) rfl (isL (a:=tx) (vs:=vx) (n:=nx) N1 (by walk_at "mem")) (by rw[hvl,Tz];decide) (by walk_at "ur") (by walk_at "ur") F1 N1 (s9 (o:=W.listOf vx.toArray nx) N1 (by walk_at "mem")) ?elts ?fin
 case elts=>
  rintro j v1 C8 oC u H9 tk9 rest2 E' hv1 hO hu1 F8 N8
  (refine y8 (px.at j v1 hv1) fun x t hx o0_=>?_;obtain rfl:=o0_)
  refine X4 (hxb x (Qt hx)) fun hb1 hb2 hb3 hb4 hb5=>?_
  refine MP ?_
  k_steps
  refine Ik ?_
  k_steps
  unfold g9
  refine SB.mul (mulOk_of 1 7 (by decide+kernel) (by omega) (by omega) (by decide) (by decide)) (fun t6 k6=>?_)
  k_steps
  unfold g9
  refine SB.add (fun t7 k7=>?_) (by have:(x++Txt.mul (Ta "-") (x.length:Int)).length=2*x.length:=hb3;rw[RA] at this;rw[Tz];omega)
  k_steps
  unfold g9
  k_dflt (refine' Aw (BJ _ _) ?u1 ?u2 ?u3 ?u4 ?u5 ?u6 ?u7 ?u8 ?u9 ?uA ?_;walk_at "u")
  case uA=>(refine⟨?q0,?q1⟩;(case q0=>(show(J5 x).cps.size<1000;omega));(case q1=>exact hb4))
  k_whole
  intro h3 tk3 F3 N3 K3 t3
  (try dsimp only)
  (try k_fold)
  k_steps
  ·rename Fr _ _ _ _=>F4
   exact(Ke _ _ _ _ (F4.keep _ _ (X 179 _ rfl)))
  rename Fr _ _ _ _=>F4
  rename News _ _ _ _=>N4
  have e5:Y2 (J5 x)=(Y2 (J5 x)).toList.toArray:=by simp
  change wpP _ _ (call (Ul 179) [UX.bytes (Y2 (J5 x)) t3,_]) _ _ _
  rw[e5]
  k_dflt (refine Kr _ x.length _ _ _ _ _ _ _ _ _ _ _ _ _ _ _ _ _ _ B F4 X T Se rfl ?room ?units (iAA hb1 (by omega) (by simpa using hb5)) (fun h9 tk9 k9 kp9=>?_))
  case room=>ktr_room
  case units=>ktr_units
  exact j3.intro (F4.keeps kp9) (news':=_) (fun q hq=>⟨kp9 _ _ (N4 q hq).1,(N4 q hq).2⟩) (fun p hp=>by walk_at "mem") ⟨_,by rw[J4 hx]⟩
 case fin=>
  (intro _ r0_;(refine oEE r0_ fun Z Z o0_=>?_;clear r0_;obtain rfl:=o0_);intro D5 ys k5 h5 tk5 F5 N5 O5 P5)
  rintro h9 tk9 F9 N9
  refine T3.mk fun hT9=>?_
  rename Fr _ _ _ _=>F9
  rename News _ _ _ _=>N9
  refine next D5 _ _ _ (i8 [(Ta "turned")] H hall hT9 n22 l22 F9 N9 (fun p hp=>by walk_at "mem") (fun y hy=>(if_neg (V5 hy)).trans (e09 y))) (by first|exact rfl|exact if_pos rfl|with_unfolding_all exact rfl) ⟨ys,k5,p6 H hall n22 l22 N9 (by walk_at "mem") (fun q hq=>O5 q (by walk_at "mem")),?ll⟩
  case ll=>
   have R:=D0 P5
   rw[hvl, ←hxl,D4 (Ta "") (fun x=>CS (Y2 (J5 x)).toList x.length)] at R
   exact R
end Mine
end
section
open PySem PySem.W PySem.Calls PyProof.Rows
namespace Mine
open S (sK0 sK2 sK17 sK18 sK19 sK20 sK5 sK23 sK24 sK25)
theorem On{tx tu:Vf}{xs:List Vk}{bs:List (Array UInt8)}{h:Vg}{tk:Nat}{m:Vk->Option UX}{cm:Nat->Option UX}{ps:Array UX}(G:Hyp)(H:j7 h m cm ps)(ht:LT h tx xs)(hxl:xs.length=4)(hxb:∀x∈xs,x.length<=7/\(X9 x).length<=100/\∀c∈(X9 x).cps.toList,c<256)(hu:LB h tu bs)(hb:m (Ta "texts")=some (.ref tx))(hb2:m (Ta "turned")=some (.ref tu))(he:bs=xs.map fun x=>Y2 (X9 x))
  (next:∀h' tk' m',Q8 [] [] h tk m cm h' tk' m' cm ps->Seg 28 h' tk'):Seg 27 h tk:=by
 obtain⟨B,X,T,Se,C,l22,n22⟩:=G
 have q9:PR=PR:=rfl;unfold PR at q9;revert X q9;k_fill;intro X q9;clear q9
 have F:=H.fr
 refine oEA (i4 F) fun news N hall=>?_
 obtain⟨vx,nx,mx,px⟩:=ht
 replace mx:=mx.mem hall
 have hvl:vx.length=4:=px.length.trans hxl
 obtain⟨vu,nu,mu,pu⟩:=hu
 replace mu:=mu.mem hall
 refine oA (Fr.putS F (hb)) fun F e09=>?_
 refine oA (Fr.putS F ((if_neg (by decide)).trans (hb2))) fun F e19=>?_
 refine i6 rfl rfl ?_
 unfold PR
 k_steps
 unfold g9
 refine j5 (h₀:=cH) (L:=cL) (by walk_at "ur") (by decide) (by walk_at "ur") (by decide) (by intro _;walk_at "ur") ?_
 k_steps
 unfold g9
 rename Fr _ _ _ _=>F1
 rename News _ _ _ _=>N1
 refine y2 (fun j Z Z y=>∃t,y= .bytes (Y2 (X9 (xs.getD j (Ta "")))) t) rfl (isL (a:=tx) (vs:=vx) (n:=nx) N1 (by walk_at "mem")) (by rw[hvl,Tz];decide) (by walk_at "ur") (by walk_at "ur") F1 N1 (s9 (o:=W.listOf vx.toArray nx) N1 (by walk_at "mem")) ?elts ?fin
 case elts=>
  rintro j v1 C8 oC u H9 tk9 rest2 E' hv1 hO hu1 F8 N8
  (refine y8 (px.at j v1 hv1) fun x t hx o0_=>?_;obtain rfl:=o0_)
  refine oAA (hxb x (Qt hx)) fun hb1 hb2 hb3=>?_
  k_steps
  unfold g9
  refine SB.mul (mulOk_of 1 7 (by decide+kernel) (by omega) (by omega) (by decide) (by decide)) (fun t6 k6=>?_)
  k_steps
  unfold g9
  rw[Ic]
  refine SB.add (fun t7 k7=>?_) (by have:(TP x none none (-1,0)++Txt.mul (Ta "-") (x.length:Int)).length<=100:=hb2;rw[RA] at this;rw[Tz];omega)
  k_steps
  unfold g9
  k_dflt (refine' Aw (BJ _ _) ?u1 ?u2 ?u3 ?u4 ?u5 ?u6 ?u7 ?u8 ?u9 ?uA ?_;walk_at "u")
  case uA=>(refine⟨?q0,?q1⟩;(case q0=>(show(X9 x).cps.size<1000;have:(X9 x).cps.size<=100:=hb2;omega));(case q1=>exact hb3))
  k_whole
  intro h3 tk3 F3 N3 K3 t3
  (try dsimp only)
  (try k_fold)
  k_steps
  rename News _ _ _ _=>M8
  exact j3.intro (by assumption) M8 (fun p hp=>by walk_at "mem") ⟨_,by rw[J4 hx];rfl⟩
 case fin=>
  (intro _ r0_;(refine oEE r0_ fun Z Z o0_=>?_;clear r0_;obtain rfl:=o0_);intro D5 ys k5 h5 tk5 F5 N5 O5 P5)
  have R:L0 ys bs:=by
   have R:=D0 P5
   rw[hvl, ←hxl,D4 (Ta "") (fun x=>Y2 (X9 x)), ←he] at R
   exact R
  k_steps
  unfold g9
  refine Iz (isL (a:=tu) (vs:=vu) (n:=nu) N5 (by walk_at "mem")) (isL (a:=D5) (vs:=ys) (n:=k5) N5 (by walk_at "mem")) pu R (by ke_room) ?_
  k_steps
  refine T3.mk fun hT9=>?_
  rename Fr _ _ _ _=>F9
  rename News _ _ _ _=>N9
  refine next _ _ _ (i8 [] H hall hT9 n22 l22 F9 N9 (fun p hp=>by walk_at "mem") (fun y hy=>(e19 y).trans (e09 y)))
end Mine
end
section
open PySem PySem.W PySem.Calls PyProof.Rows
namespace Mine
open S (sK0 sK2 sK17 sK18 sK19 sK20 sK5 sK26)
theorem Om{tu:Vf}{bs:List (Array UInt8)}{h:Vg}{tk:Nat}{m:Vk->Option UX}{cm:Nat->Option UX}{ps:Array UX}(G:Hyp)(H:j7 h m cm ps)(hu:LB h tu bs)(hbl:bs.length=4)(hbb:∀b∈bs,b.size<=100)(hb2:m (Ta "turned")=some (.ref tu))
  (next:∀(qu:Vf) h' tk' m',Q8 [(Ta "quoted")] [] h tk m cm h' tk' m' cm ps->m' (Ta "quoted")=some (.ref qu)->LB h' qu (bs.map Fi)->Seg 29 h' tk'):Seg 28 h tk:=by
 obtain⟨B,X,T,Se,C,l22,n22⟩:=G
 have q9:PR=PR:=rfl;unfold PR at q9;revert X q9;k_fill;intro X q9;clear q9
 have F:=H.fr
 refine oEA (i4 F) fun news N hall=>?_
 obtain⟨vu,nu,mu,pu⟩:=hu
 replace mu:=mu.mem hall
 have hvl:vu.length=4:=pu.length.trans hbl
 refine oA (Fr.putS F (hb2)) fun F e09=>?_
 refine i6 rfl rfl ?_
 unfold PR
 k_steps
 unfold g9
 refine wpK.any ?_
 refine v9 (h₀:=cH) (by walk_at "ur") (by walk_at "ur") (by decide) (by walk_at "ur") (by decide) (by intro _;walk_at "ur") (by walk_at "ur") (by walk_at "ur") ?_
 k_steps
 unfold g9
 rename Fr _ _ _ _=>F1
 rename News _ _ _ _=>N1
 refine y2 (fun j Z Z y=>∃t,y= .bytes (Fi (bs.getD j #[])) t) rfl (isL (a:=tu) (vs:=vu) (n:=nu) N1 (by walk_at "mem")) (by rw[hvl,Tz];decide) (by walk_at "ur") (by walk_at "ur") F1 N1 (s9 (o:=W.listOf vu.toArray nu) N1 (by walk_at "mem")) ?elts ?fin
 case elts=>
  rintro j v1 C8 oC u H9 tk9 rest2 E' hv1 hO hu1 F8 N8
  (refine y8 (pu.at j v1 hv1) fun b t hx o0_=>?_;obtain rfl:=o0_)
  have hb1:=hbb b (Qt hx)
  k_steps
  unfold g9
  refine KBy.add_bytes (by have:(#[46,45]:Array UInt8).size=2:=rfl;omega) (fun t7 k7=>?_)
  k_steps
  unfold g9
  k_dflt (refine' Aw (Ih _ _) ?u1 ?u2 ?u3 ?u4 ?u5 ?u6 ?u7 ?u8 ?u9 ?uA ?_;walk_at "u")
  case uA=>(show((#[46,45]:Array UInt8)++b).size<=3000;rw[Array.size_append];have:(#[46,45]:Array UInt8).size=2:=rfl;omega)
  k_whole
  intro h3 tk3 F3 N3 K3 t3
  (try dsimp only)
  (try k_fold)
  k_steps
  rename News _ _ _ _=>M8
  exact j3.intro (by assumption) M8 (fun p hp=>by walk_at "mem") ⟨_,by rw[J4 hx];rfl⟩
 case fin=>
  (intro _ r0_;(refine oEE r0_ fun Z Z o0_=>?_;clear r0_;obtain rfl:=o0_);intro D5 ys k5 h5 tk5 F5 N5 O5 P5)
  rintro h9 tk9 F9 N9
  k_steps
  refine T3.mk fun hT9=>?_
  rename Fr _ _ _ _=>F9
  rename News _ _ _ _=>N9
  refine next D5 _ _ _ (i8 [(Ta "quoted")] H hall hT9 n22 l22 F9 N9 (fun p hp=>by walk_at "mem") (fun y hy=>(if_neg (V5 hy)).trans (e09 y))) (by first|exact rfl|exact if_pos rfl|with_unfolding_all exact rfl) ⟨ys,k5,p6 H hall n22 l22 N9 (by walk_at "mem") (fun q hq=>O5 q (by walk_at "mem")),?ll⟩
  case ll=>
   have R:=D0 P5
   rw[hvl, ←hbl,D4 #[] Fi] at R
   exact R
end Mine
end
section
open PySem PySem.W PySem.Calls PyProof.Rows
namespace Mine
theorem S.gN29:True:=trivial
open S (sK0 sK2 sK17 sK18 sK19 sK20 sK5 sK23 sK24 sK21 sK25 gN29)
theorem Oc:True:=by
 k_with "subscriptTail Name Slice str ref"=>(guard_expr gN29=ₛ gN29;((with_reducible rename Fr _ _ _ _=>F');(with_reducible rename News _ _ _ _=>N');(refine w6 ?_);(refine slice_strK_nn (hsz:=?hsz) (s:=⟨_,_,_,_,_⟩) F' N' (by decide) ?_);(case hsz=>rw[Tz];omega);intro _ _ _ _ _ _))
 trivial
theorem Ol{tx qu:Vf}{xs:List Vk}{bs:List (Array UInt8)}{h:Vg}{tk:Nat}{m:Vk->Option UX}{cm:Nat->Option UX}{ps:Array UX}(G:Hyp)(H:j7 h m cm ps)(ht:LT h tx xs)(hxl:xs.length=4)(hxb:∀x∈xs,x.length<=7/\(MC x).length<=7/\(TH (MC x) (Ta "\n.") (Ta "\n..")).length<=50/\(V2 x).length<=100/\∀c∈(V2 x).cps.toList,c<256)(h0:0<tk)(hu:LB h qu bs)(hb:m (Ta "texts")=some (.ref tx))(hb2:m (Ta "quoted")=some (.ref qu))(he:bs=xs.map fun x=>Y2 (V2 x))
  (next:∀h' tk' m',Q8 [] [] h tk m cm h' tk' m' cm ps->Seg 30 h' tk'):Seg 29 h tk:=by
 obtain⟨B,X,T,Se,C,l22,n22⟩:=G
 have q9:PR=PR:=rfl;unfold PR at q9;revert X q9;k_fill;intro X q9;clear q9
 have F:=H.fr
 refine oEA (i4 F) fun news N hall=>?_
 obtain⟨vx,nx,mx,px⟩:=ht
 replace mx:=mx.mem hall
 have hvl:vx.length=4:=px.length.trans hxl
 obtain⟨vu,nu,mu,pu⟩:=hu
 replace mu:=mu.mem hall
 refine oA (Fr.putS F (hb)) fun F e09=>?_
 refine oA (Fr.putS F ((if_neg (by decide)).trans (hb2))) fun F e19=>?_
 refine i6 rfl rfl ?_
 unfold PR
 k_steps
 unfold g9
 refine j5 (h₀:=cH) (L:=cL) (by walk_at "ur") (by decide) (by walk_at "ur") (by decide) (by intro _;walk_at "ur") ?_
 k_steps
 unfold g9
 rename Fr _ _ _ _=>F1
 rename News _ _ _ _=>N1
 refine Bq (fun Z=>true) (fun j Z Z y=>∃t,y= .bytes (Y2 (V2 (xs.getD j (Ta "")))) t) rfl (isL (a:=tx) (vs:=vx) (n:=nx) N1 (by walk_at "mem")) (by rw[hvl,Tz];decide) (by walk_at "ur") (by walk_at "ur") F1 N1 (s9 (o:=W.listOf vx.toArray nx) N1 (by walk_at "mem")) (fun Z Z Z Z Z Z Z Z Z Z Z Z Z F N=>z8 (p9.intro F N (fun p hp=> .tail _ (RS.mpr (.inr hp))) rfl)) ?elts ?fin
 case elts=>
  rintro j v1 C8 oC u H9 tk9 rest2 E' hT hv1 _ hO hu1 F8 N8
  refine wpP.of ?_
  (refine y8 (px.at j v1 hv1) fun x t hx o0_=>?_;obtain rfl:=o0_)
  refine X4 (hxb x (Qt hx)) fun hb1 hb4 hb2 hb3 hb5=>?_
  have hT9:tk<=tk9:=by first|exact hT|exact Rt hT|exact Rt (Rt hT)
  k_steps
  unfold g9
  rename Fr _ _ _ _=>F7
  rename LE.le (UO.toks _) (UO.toks _)=>hq
  dsimp only at hq
  rw[Ic]
  refine SC.replaceA (by show @Ne Nat _ _;(try dsimp only);omega) (by show @Ne Nat _ _;(try dsimp only);omega) (by show @Ne Nat _ _;(try dsimp only);omega) (by rw[show(Ta "\n..").length=3 by decide+kernel,show(TP x none none (-1,0)).length=x.length from step_rev_len x 0];omega) (fun t9 k9=>?_) (Bk X T F7)
  k_steps
  unfold g9
  have hl2:(TH (TP x none none (-1,0)) (Ta "\n.") (Ta "\n..")).length<=50:=hb2
  refine SB.add (fun t7 k7=>?_) (by rw[Tz,show(Ta "..-").length=3 by decide+kernel];omega)
  k_steps
  unfold g9
  refine SB.mul (mulOk_of 1 7 (by decide+kernel) (by omega) (by omega) (by decide) (by decide)) (fun t6 k6=>?_)
  k_steps
  unfold g9
  refine SB.add (fun t7 k7=>?_) (by have:(Ta "..-"++TH (TP x none none (-1,0)) (Ta "\n.") (Ta "\n..")++Txt.mul (Ta "-") (x.length:Int)).length<=100:=hb3;rw[RA] at this;rw[Tz];omega)
  k_steps
  unfold g9
  k_dflt (refine' Aw (BJ _ _) ?u1 ?u2 ?u3 ?u4 ?u5 ?u6 ?u7 ?u8 ?u9 ?uA ?_;walk_at "u")
  case uA=>(refine⟨?q0,?q1⟩;(case q0=>(show(V2 x).cps.size<1000;have:(V2 x).cps.size<=100:=hb3;omega));(case q1=>exact hb5))
  k_whole
  intro h3 tk3 F3 N3 K3 t3
  (try dsimp only)
  (try k_fold)
  k_steps
  rename News _ _ _ _=>M8
  exact j3.intro (by assumption) M8 (fun p hp=>by walk_at "mem") ⟨_,by rw[J4 hx];rfl⟩
 case fin=>
  (intro _ r0_;(refine oEE r0_ fun Z Z o0_=>?_;clear r0_;obtain rfl:=o0_);intro D5 ys k5 h5 tk5 F5 N5 O5 P5)
  have R:L0 ys bs:=by
   have R:=D0 P5
   rw[s7,hvl, ←hxl,D4 (Ta "") (fun x=>Y2 (V2 x)), ←he] at R
   exact R
  k_steps
  unfold g9
  refine Iz (isL (a:=qu) (vs:=vu) (n:=nu) N5 (by walk_at "mem")) (isL (a:=D5) (vs:=ys) (n:=k5) N5 (by walk_at "mem")) pu R (by ke_room) ?_
  k_steps
  refine T3.mk fun hT9=>?_
  rename Fr _ _ _ _=>F9
  rename News _ _ _ _=>N9
  refine next _ _ _ (i8 [] H hall hT9 n22 l22 F9 N9 (fun p hp=>by walk_at "mem") (fun y hy=>(e19 y).trans (e09 y)))
end Mine
end
section
open PySem PySem.W PySem.Calls PyProof.Rows
namespace Mine
open S (sK0 sK2 sK17 sK18 sK19 sK20 sK5 sK15 sK27 sK25 sK28)
theorem Oj{tu qu:Vf}{bs cs:List (Array UInt8)}{h:Vg}{tk:Nat}{m:Vk->Option UX}{cm:Nat->Option UX}{ps:Array UX}(G:Hyp)(H:j7 h m cm ps)(hu:LB h tu bs)(hbl:bs.length=4)(hq:LB h qu cs)(hcl:cs.length=4)(hb:m (Ta "turned")=some (.ref tu))(hb2:m (Ta "quoted")=some (.ref qu))
  (next:∀h' tk' m',Q8 [] [] h tk m cm h' tk' m' cm ps->Seg 31 h' tk'):Seg 30 h tk:=by
 obtain⟨B,X,T,Se,C,l22,n22⟩:=G
 have q9:PR=PR:=rfl;unfold PR at q9;revert X q9;k_fill;intro X q9;clear q9
 have F:=H.fr
 refine oEA (i4 F) fun news N hall=>?_
 obtain⟨vx,nx,mx,px⟩:=hq
 replace mx:=mx.mem hall
 have hvl:vx.length=4:=px.length.trans hcl
 obtain⟨vu,nu,mu,pu⟩:=hu
 replace mu:=mu.mem hall
 have hul:vu.length=4:=pu.length.trans hbl
 refine oA (Fr.putS F (hb)) fun F e09=>?_
 refine oA (Fr.putS F ((if_neg (by decide)).trans (hb2))) fun F e19=>?_
 refine i6 rfl rfl ?_
 unfold PR
 k_steps
 unfold g9
 refine j5 (h₀:=cH) (L:=cL) (by walk_at "ur") (by decide) (by walk_at "ur") (by decide) (by intro _;walk_at "ur") ?_
 k_steps
 unfold g9
 rename Fr _ _ _ _=>F1
 rename News _ _ _ _=>N1
 have hA:=isL (a:=tu) (vs:=vu) (n:=nu) N1 (by walk_at "mem")
 have hB:=isL (a:=qu) (vs:=vx) (n:=nx) N1 (by walk_at "mem")
 refine kmk_add_lit F1 N1 (its:=vu.toArray) (its2:=vx.toArray) hA hB rfl (fun D8 h8 F8 N8 lt8=>?_) (by show vu.length+vx.length<=_;rw[hul,hvl,Tz];decide)
 k_steps
 unfold g9
 rename Fr _ _ _ _=>F2
 rename News _ _ _ _=>N2
 have pa:L0 (vu++vx) (bs++cs):=Paired.app pu px
 have hal:(vu++vx).length=8:=by rw[QU,hul,hvl]
 refine y2 (vs:=vu++vx) (fun j Z Z y=>y= .bool true) rfl (isL (a:=D8) (vs:=vu++vx) (n:=0) N2 (by walk_at "mem")) (by rw[hal,Tz];decide) (by walk_at "ur") (by walk_at "ur") F2 N2 (s9 (o:=W.listOf (vu++vx).toArray 0) N2 (by walk_at "mem")) ?elts ?fin
 case elts=>
  rintro j v1 C8 oC u H9 tk9 rest2 E' hv1 hO hu1 F8 N8
  (refine y8 (pa.at j v1 hv1) fun b t hx o0_=>?_;obtain rfl:=o0_)
  k_steps
  rename News _ _ _ _=>M8
  exact j3.intro (by assumption) M8 (fun p hp=>by walk_at "mem") rfl
 case fin=>
  (intro _ r0_;(refine oEE r0_ fun Z Z o0_=>?_;clear r0_;obtain rfl:=o0_);intro D5 ys k5 h5 tk5 F5 N5 O5 P5)
  k_steps
  unfold g9
  rename Fr _ _ _ _=>F6
  rename News _ _ _ _=>N6
  refine KMa.mul (vs:=[.bool true]) (ws:=List.replicate 8 (.bool true)) F6 N6 (isL N6 (SI _)) (by decide) (by decide) (by decide) rfl (fun D9 h9 F9 N9 lt9=>?_)
  k_steps
  unfold g9
  rename News _ _ _ _=>N7
  have ra:=SW (N7.get (a:=D5) (by walk_at "mem")) rfl rfl (BE P5)
  rw[hal] at ra
  have rb:=SW (N7.get (a:=D9) (by walk_at "mem")) rfl rfl (SN (Uh true) (SN (Uh true) (SN (Uh true) (SN (Uh true) (SN (Uh true) (SN (Uh true) (SN (Uh true) (SN (Uh true) Uy.nil))))))))
  refine Fm ra rb (by decide+kernel) (by ke_room) ?_
  k_steps
  refine T3.mk fun hT9=>?_
  rename Fr _ _ _ _=>F9
  rename News _ _ _ _=>N9
  refine next _ _ _ (i8 [] H hall hT9 n22 l22 F9 N9 (fun p hp=>by walk_at "mem") (fun y hy=>(e19 y).trans (e09 y)))
end Mine
end
section
open PySem PySem.W PySem.Calls PyProof.Rows
namespace Mine
open S (sK0 sK2 sK17 sK18 sK19 sK20 sK5 sK29)
theorem Oi{tx:Vf}{xs:List Vk}{x9:Vk}{ts:Vm}{h:Vg}{tk:Nat}{m:Vk->Option UX}{cm:Nat->Option UX}{ps:Array UX}(G:Hyp)(H:j7 h m cm ps)(ht:LT h tx xs)(hxl:xs.length=4)(h0:0<tk)(hb:m (Ta "sent")=some (.str x9 ts))(hb2:m (Ta "texts")=some (.ref tx))(hx9:x9.length<=600)(hp:(Txt.split x9 (Ta "\x0c")).length=5)
  (next:∀(fr:Vf) h' tk' m',Q8 [(Ta "fronts")] [] h tk m cm h' tk' m' cm ps->m' (Ta "fronts")=some (.ref fr)->LI h' fr ((TS 4).map fun j=>(Ko 46 ((Txt.split x9 (Ta "\x0c")).getD (j+1) (Ta "")):Int)-(Ko 46 (xs.getD j (Ta "")):Int))->Seg 32 h' tk'):Seg 31 h tk:=by
 obtain⟨B,X,T,Se,C,l22,n22⟩:=G
 have q9:PR=PR:=rfl;unfold PR at q9;revert X q9;k_fill;intro X q9;clear q9
 have F:=H.fr
 refine oEA (i4 F) fun news N hall=>?_
 obtain⟨vx,nx,mx,px⟩:=ht
 replace mx:=mx.mem hall
 have hvl:vx.length=4:=px.length.trans hxl
 refine oA (Fr.putS F (hb)) fun F e09=>?_
 refine oA (Fr.putS F ((if_neg (by decide)).trans (hb2))) fun F e19=>?_
 refine i6 rfl rfl ?_
 unfold PR
 k_steps
 unfold g9
 refine wpK.any ?_
 refine v9 (h₀:=cH) (by walk_at "ur") (by walk_at "ur") (by decide) (by walk_at "ur") (by decide) (by intro _;walk_at "ur") (by walk_at "ur") (by walk_at "ur") ?_
 k_steps
 unfold g9
 rename Fr _ _ _ _=>F1
 rename News _ _ _ _=>N1
 refine w6 (KSpl.split1 F1 N1 (by decide+kernel) (fun D1 l1 h1 k1 e1 as1 F2 N2 lt2 hk1=>?_) (by rw[Tz];omega))
 replace hk1:tk+1<=k1:=hk1
 obtain⟨⟨a0,t0⟩,⟨a1,t1⟩,⟨a2,t2⟩,⟨a3,t3⟩,⟨a4,t4⟩,rfl⟩:∃p0 p1 p2 p3 p4,l1=[p0,p1,p2,p3,p4]:=by
  have h9:l1.length=5:=by rw[←hp, ←e1,RT]
  exact LU h9
 simp only[strValues,SJ,Tx] at N2 e1
 k_steps
 unfold g9
 rename_i D3 h3 F3 N3 lt3
 have pp:y3 [Um a1 t1,Um a2 t2,Um a3 t3,Um a4 t4] [a1,a2,a3,a4]:= .cons ⟨_,rfl⟩ (.cons ⟨_,rfl⟩ (.cons ⟨_,rfl⟩ (.cons ⟨_,rfl⟩ .nil)))
 refine Le (vs1:=[Um a1 t1,Um a2 t2,Um a3 t3,Um a4 t4]) (fun j Z Z y=>∃t,y= .int ((Ko 46 ([a1,a2,a3,a4].getD j (Ta "")):Int)-(Ko 46 (xs.getD j (Ta "")):Int)) t) rfl (isL N3 (SI _)) (isL (a:=tx) (vs:=vx) (n:=nx) N3 (by walk_at "mem")) (n:=4) rfl hvl (by rw[Tz];decide) (by walk_at "ur") (by walk_at "ur") (by decide) (by walk_at "ur") F3 N3 (s9 N3 (SI _)) (s9 (o:=W.listOf vx.toArray nx) N3 (by walk_at "mem")) ?elts ?fin
 case elts=>
  rintro j v1 v2 C8 oC u H9 tk9 rest2 E' hT hv1 hv2 hO hu1 hu2 F8 N8
  (refine y8 (pp.at j v1 hv1) fun p t hx o0_=>?_;obtain rfl:=o0_)
  (refine y8 (px.at j v2 hv2) fun x t5 hy o0_=>?_;obtain rfl:=o0_)
  have hT9:k1+1<=tk9:=hT
  k_steps
  unfold g9
  try rw[show Ta "."=(⟨#[46]⟩:Vk) by decide+kernel]
  rename Fr _ _ _ _=>F4
  rename News _ _ _ _=>N4
  refine w6 ?_
  k_dflt (refine CJ _ _ _ _ _ _ _ _ _ _ _ _ _ _ _ _ _ _ _ _ _ B F4 X T Se rfl ?room4 ?units4 ⟨by show @LT.lt Nat _ _ _;(try dsimp only);omega,by exact RC _⟩ (fun r4 h4 tk4 kp4 q4 hk4=>?_))
  case room4=>ktr_room
  case units4=>ktr_units
  refine oE q4 fun t4 e4=>?_;clear q4;subst e4
  have G4:=F4.keeps kp4
  have M4:News cH cL h4 _:=fun q hq=>⟨kp4 _ _ (N4 q hq).1,(N4 q hq).2⟩
  clear F4 N4
  (try dsimp only)
  (try k_fold)
  have hk4:tk9+1<=tk4:=hk4
  k_steps
  unfold g9
  try rw[show Ta "."=(⟨#[46]⟩:Vk) by decide+kernel]
  rename Fr _ _ _ _=>F5
  rename News _ _ _ _=>N5
  refine w6 ?_
  k_dflt (refine CJ _ _ _ _ _ _ _ _ _ _ _ _ _ _ _ _ _ _ _ _ _ B F5 X T Se rfl ?room5 ?units5 ⟨by show @LT.lt Nat _ _ _;(try dsimp only);omega,by exact RC _⟩ (fun r5 h5 tk5 kp5 q5 hk5=>?_))
  case room5=>ktr_room
  case units5=>ktr_units
  refine oE q5 fun t5 e5=>?_;clear q5;subst e5
  have G5:=F5.keeps kp5
  have M5:News cH cL h5 _:=fun q hq=>⟨kp5 _ _ (N5 q hq).1,(N5 q hq).2⟩
  clear F5 N5
  (try dsimp only)
  (try k_fold)
  k_steps
  unfold g9
  k_dflt (refine' Aw (HO _ _ _ _) ?u1 ?u2 ?u3 ?u4 ?u5 ?u6 ?u7 ?u8 ?u9 ?uA ?_;walk_at "u")
  case uA=>trivial
  k_whole
  intro h6 tk6 F6 N6 K6 t6
  (try dsimp only)
  (try k_fold)
  k_steps
  rename News _ _ _ _=>M8
  exact j3.intro (by assumption) M8 (fun p hp=>by walk_at "mem") ⟨_,by rw[J4 hx,J4 hy]⟩
 case fin=>
  (intro _ r0_;(refine oEE r0_ fun Z Z o0_=>?_;clear r0_;obtain rfl:=o0_);intro D5 ys k5 h5 tk5 F5 N5 O5 P5)
  rintro h9 tk9 F9 N9
  k_steps
  refine T3.mk fun hT9=>?_
  rename Fr _ _ _ _=>F9
  rename News _ _ _ _=>N9
  refine next D5 _ _ _ (i8 [(Ta "fronts")] H hall hT9 n22 l22 F9 N9 (fun p hp=>by walk_at "mem") (fun y hy=>(if_neg (V5 hy)).trans ((e19 y).trans (e09 y)))) (by first|exact rfl|exact if_pos rfl|with_unfolding_all exact rfl) ⟨ys,k5,p6 H hall n22 l22 N9 (by walk_at "mem") (fun q hq=>O5 q (by walk_at "mem")),?ll⟩
  case ll=>
   have R:=g8 P5
   rw[←e1]
   exact R
end Mine
end
section
open PySem PySem.W PySem.Calls PyProof.Rows
namespace Mine
theorem S.gN32:True:=trivial
open S (sK0 sK2 sK17 sK18 sK19 sK20 sK5 gN32)
theorem Ob:True:=by
 k_with "call builtin:len"=>(guard_expr gN32=ₛ gN32;((with_reducible show UY _ _ (call _ [UX.bytes _ _]) _ _ _);refine g9.mk ?_))
 trivial
theorem Oh{tx fr qu:Vf}{xs:List Vk}{fn:List Int}{bs:List (Array UInt8)}{h:Vg}{tk:Nat}{m:Vk->Option UX}{cm:Nat->Option UX}{ps:Array UX}(G:Hyp)(H:j7 h m cm ps)(ht:LT h tx xs)(hxl:xs.length=4)(hxb:∀x∈xs,x.length<=7)(hf:LI h fr fn)(hfl:fn.length=4)(hq:LB h qu bs)(hbl:bs.length=4)(hbb:∀b∈bs,b.size<=100)(hb:m (Ta "texts")=some (.ref tx))(hb2:m (Ta "fronts")=some (.ref fr))(hb3:m (Ta "quoted")=some (.ref qu))
  (next:∀(cg:Vf) h' tk' m',Q8 [(Ta "changes")] [] h tk m cm h' tk' m' cm ps->m' (Ta "changes")=some (.ref cg)->LI h' cg ((TS 4).map fun j=>fn.getD j 0+(((bs.getD j #[]).size:Int)-3-2*((xs.getD j (Ta "")).length:Int)))->Seg 33 h' tk'):Seg 32 h tk:=by
 obtain⟨B,X,T,Se,C,l22,n22⟩:=G
 have q9:PR=PR:=rfl;unfold PR at q9;revert X q9;k_fill;intro X q9;clear q9
 have F:=H.fr
 refine oEA (i4 F) fun news N hall=>?_
 obtain⟨vx,nx,mx,px⟩:=ht
 replace mx:=mx.mem hall
 have hvl:vx.length=4:=px.length.trans hxl
 obtain⟨vu,nu,mu,pu⟩:=hq
 replace mu:=mu.mem hall
 have hul:vu.length=4:=pu.length.trans hbl
 obtain⟨vf,nf,mf,pf⟩:=hf
 replace mf:=mf.mem hall
 have hfl2:vf.length=4:=pf.length.trans hfl
 refine oA (Fr.putS F (hb)) fun F e09=>?_
 refine oA (Fr.putS F ((if_neg (by decide)).trans (hb2))) fun F e19=>?_
 refine oA (Fr.putS F ((if_neg (by decide)).trans ((if_neg (by decide)).trans (hb3)))) fun F e29=>?_
 refine i6 rfl rfl ?_
 unfold PR
 k_steps
 unfold g9
 refine wpK.any ?_
 refine v9 (h₀:=cH) (by walk_at "ur") (by walk_at "ur") (by decide) (by walk_at "ur") (by decide) (by intro _;walk_at "ur") (by walk_at "ur") (by walk_at "ur") ?_
 k_steps
 unfold g9
 refine Ms (fun j Z Z y=>∃t,y= .int (fn.getD j 0+(((bs.getD j #[]).size:Int)-3-2*((xs.getD j (Ta "")).length:Int))) t) rfl (isL (a:=fr) (vs:=vf) (n:=nf) N (by walk_at "mem")) (isL (a:=qu) (vs:=vu) (n:=nu) N (by walk_at "mem")) (isL (a:=tx) (vs:=vx) (n:=nx) N (by walk_at "mem")) (n:=4) hfl2 hul hvl (by rw[Tz];decide) (by walk_at "ur") (by walk_at "ur") (by walk_at "ur") (by decide) (by decide) (by decide) (by walk_at "ur") F N (s9 (o:=W.listOf vf.toArray nf) N (by walk_at "mem")) (s9 (o:=W.listOf vu.toArray nu) N (by walk_at "mem")) (s9 (o:=W.listOf vx.toArray nx) N (by walk_at "mem")) ?elts ?fin
 case elts=>
  rintro j v1 v2 v3 C8 oC u H9 tk9 rest2 E' hT hv1 hv2 hv3 hO hu1 hu2 hu3 F8 N8
  (refine y8 (n5 pf hv1) fun f t hf o0_=>?_;obtain rfl:=o0_)
  (refine y8 (pu.at j v2 hv2) fun b t2 hbe o0_=>?_;obtain rfl:=o0_)
  have hbs:=hbb b (Qt hbe)
  (refine y8 (px.at j v3 hv3) fun x t3 hx o0_=>?_;obtain rfl:=o0_)
  have hx1:=hxb x (Qt hx)
  k_steps
  unfold g9
  refine len_bytes (by omega) ?_
  k_steps
  unfold g9
  k_dflt (refine' Aw (Jm _ _ _ _) ?u1 ?u2 ?u3 ?u4 ?u5 ?u6 ?u7 ?u8 ?u9 ?uA ?_;walk_at "u")
  case uA=>trivial
  k_whole
  intro h6 tk6 F6 N6 K6 t6
  (try dsimp only)
  (try k_fold)
  k_steps
  rename News _ _ _ _=>M8
  exact j3.intro (by assumption) M8 (fun p hp=>by walk_at "mem") ⟨_,by rw[J4 hf,J4 hbe,J4 hx]⟩
 case fin=>
  (intro _ r0_;(refine oEE r0_ fun Z Z o0_=>?_;clear r0_;obtain rfl:=o0_);intro D5 ys k5 h5 tk5 F5 N5 O5 P5)
  rintro h9 tk9 F9 N9
  k_steps
  refine T3.mk fun hT9=>?_
  rename Fr _ _ _ _=>F9
  rename News _ _ _ _=>N9
  refine next D5 _ _ _ (i8 [(Ta "changes")] H hall hT9 n22 l22 F9 N9 (fun p hp=>by walk_at "mem") (fun y hy=>(if_neg (V5 hy)).trans ((e29 y).trans ((e19 y).trans (e09 y))))) (by first|exact rfl|exact if_pos rfl|with_unfolding_all exact rfl) ⟨ys,k5,p6 H hall n22 l22 N9 (by walk_at "mem") (fun q hq=>O5 q (by walk_at "mem")),g8 P5⟩
end Mine
end
section
open PySem PySem.W PySem.Calls PyProof.Rows
namespace Mine
open S (sK0 sK2 sK17 sK18 sK19 sK20 sK5)
theorem Og{ro pt tl cg:Vf}{rn pn tn cn:List Int}{h:Vg}{tk:Nat}{m:Vk->Option UX}{cm:Nat->Option UX}{ps:Array UX}(G:Hyp)(H:j7 h m cm ps)(k3:cm 3=some (.ref ro))(k5:cm 5=some (.ref pt))(k10:cm 10=some (.ref tl))(hr:LI h ro rn)(hrl:rn.length<=4)(hp:LI h pt pn)(hpl:pn.length=4)(ht:LI h tl tn)(htl:tn.length=11)(hg:LI h cg cn)(hgl:cn.length=4)(hb:m (Ta "changes")=some (.ref cg))(hd:∀k,k<3->cn.getD k 0-cn.getD (k+1) 0=Ny rn pn tn k)
  (next:∀h' tk' m',tk<=tk'->Fr cH cL h' m'->(∃ps',h'.get? 222=some (UQ ps'))->Seg 34 h' tk'):Seg 33 h tk:=by
 obtain⟨B,X,T,Se,C,l22,n22⟩:=G
 have q9:PR=PR:=rfl;unfold PR at q9;revert X q9;k_fill;intro X q9;clear q9
 have F:=H.fr
 refine E4 (A7 H 1 (by decide) (a:=(cL+1+1:Vf)) rfl) fun o1 news N d1 off hall=>?_
 refine oEA (H.cellC hall 3 (by decide) k3 (C7 (j:=3) (k:=1) (by decide))) fun o3 c3 d3=>?_
 replace c3:((cL+1+1+1+1:Vf),o3)∈news:=c3
 refine oEA (H.cellC hall 5 (by decide) k5 (C7 (j:=5) (k:=1) (by decide))) fun o5 c5 d5=>?_
 replace c5:((cL+1+1+1+1+1+1:Vf),o5)∈news:=c5
 refine oEA (H.cellC hall 10 (by decide) k10 (C7 (j:=10) (k:=1) (by decide))) fun o10 c10 d10=>?_
 replace c10:((cL+1+1+1+1+1+1+1+1+1+1+1:Vf),o10)∈news:=c10
 obtain⟨vr,nr,mr,ir⟩:=hr
 replace mr:=mr.memC hall (l9 1 (by decide))
 obtain⟨vp,np,mp,ip⟩:=hp
 replace mp:=mp.memC hall (l9 1 (by decide))
 obtain⟨vt,nt,mt,it⟩:=ht
 replace mt:=mt.memC hall (l9 1 (by decide))
 obtain⟨vg,ng,mg9,ig⟩:=hg
 replace mg9:=mg9.memC hall (l9 1 (by decide))
 refine oA (Fr.putS F (hb)) fun F e09=>?_
 have mtab:=H.tabC hall n22 l22 (A3 l22 1)
 refine i6 rfl rfl ?_
 unfold PR
 refine wpAny_For ?_
 k_steps
 rename Fr _ _ _ _=>F1
 rename News _ _ _ _=>N1
 rename IsRange _ _ _ _ _ _ _ _=>R1
 unfold g9
 have N2:News cH cL _ (((cL+1+1:Vf),o1)::news):=fun q hq=>N1 q (by walk_at "mem")
 refine Ig (n:=3) (fun Z m1=>∀y,y≠Ta "due"->m1 y=(if y=Ta "changes" then some (Ul cg) else m y)) rfl R1 (by decide) (by decide) rfl (by walk_at "ur") (by walk_at "ur") d1 F1 N2 (fun q hq=>off q hq _ (SI _)) (fun Z Z=>rfl) ?turn ?done
 case turn=>
  rintro i t1 m1 ok9 own h1 tk1 E1 hi hJ hok F3 N3
  have hb3:=(hJ (Ta "changes") (by decide)).trans (if_pos rfl)
  have F3:=Fr.put F3 hb3
  have hi3:i<3:=hi
  k_steps
  unfold g9
  refine j5 (h₀:=cH) (L:=cL) (by walk_at "ur") (by decide) (by walk_at "ur") (by decide) (by intro _;walk_at "ur") ?_
  k_steps
  unfold g9
  rename Fr _ _ _ _=>F4
  rename News _ _ _ _=>N4
  rename IsRange _ _ _ _ _ _ _ _=>R4
  have F4:Fr cH cL _ _:=F4
  have N4:News cH cL _ _:=N4
  refine GA (n:=9) (Kl rn pn i) (fun j Z Z y=>∃t,y= .int (tn.getD (j+1) 0) t) rfl R4 (by decide) (by decide) (by rw[Tz];decide) (by walk_at "ur") (by walk_at "ur") F4 N4 ?tests ?elts ?fin
  case tests=>
   rintro j t8 C8 oC u H9 tk9 rest2 E' hj hO hu F8 N8
   have hj9:j<9:=hj
   have hlR8:=isL (a:=ro) (vs:=vr) (n:=nr) N8 (by walk_at "mem")
   have hlP8:=isL (a:=pt) (vs:=vp) (n:=np) N8 (by walk_at "mem")
   refine U8 ?_
   k_steps
   all_goals(rename News _ _ _ _=>M8;refine p9.intro (by assumption) M8 (fun p hp=>by walk_at "mem") ?_;first|exact Mi (by assumption) (by assumption) (by assumption)|exact Mj (by assumption) (by assumption) (by assumption)|exact Nx (by assumption) (by assumption)|exact Nw (by assumption))
  case elts=>
   rintro j t8 C8 oC u H9 tk9 rest2 E' hj hp8 hO hu F8 N8
   have hj9:j<9:=hj
   have hlT8:=isL (a:=tl) (vs:=vt) (n:=nt) N8 (by walk_at "mem")
   have g1:=(by decide+kernel:∀j:Nat,j<9->(0:Int)<= -4+(j:Int)+5/\ -4+(j:Int)+5<2 ^ 63/\(-4+(j:Int)+5).toNat=j+1) j hj9
   have g2:=g1.1;have g3:=g1.2.1
   k_steps
   rename News _ _ _ _=>M8
   exact j3.intro (by assumption) M8 (fun p hp=>by walk_at "mem") ⟨_,by rw[g1.2.2]⟩
  case fin=>
   (intro _ r0_;(refine oEE r0_ fun Z Z o0_=>?_;clear r0_;obtain rfl:=o0_);intro D2 ys2 k2 h5 tk5 F5 N5 O5 P5)
   have I5:UG ys2 (((TS 9).filter (Kl rn pn i)).map fun j=>tn.getD (j+1) 0):=g8 P5
   k_steps
   unfold g9
   refine sumK rfl F5 N5 (isL N5 (SI _)) I5 ?_
   intro h4 tk4 t4 F4 N4
   k_steps
   unfold g9
   k_dflt (refine' Aw (HO _ _ _ _) ?u1 ?u2 ?u3 ?u4 ?u5 ?u6 ?u7 ?u8 ?u9 ?uA ?_;walk_at "u")
   case uA=>trivial
   k_whole
   intro h6 tk6 F6 N6 K6 t6
   (try dsimp only)
   (try k_fold)
   have e9:=hd i hi
   have e1:(0+(i:Int)).toNat=i:=zI0 i
   have e2:(0+(i:Int)+1).toNat=i+1:=zI1 i
   k_steps
   ·rename _≠_=>e3
    rw[e1,e2] at e3
    exact absurd e9 e3
   ·rename Fr _ _ _ _=>F9
    rename News _ _ _ _=>N9
    have F9:Fr cH cL _ _:=F9
    refine TurnEnd.intro F9 N9 (by walk_at "mem") (fun q hq=>by walk_at "mem") (fun y hy=>?_)
    simp only[if_neg hy,hJ y hy];split <;> rfl
 case done=>
  rintro h9 tk9 m9 o9 hJ9 F9 N9
  exact T3.mk fun hT9=>next _ _ _ hT9 F9 ⟨_,(N9 _ (.tail _ mtab)).1⟩
end Mine
end
section
open PySem PySem.W PySem.Calls PyProof.Rows
namespace Mine
theorem Of{h:Vg}{tk:Nat}{m:Vk->Option UX}(G:Hyp)(F:Fr cH cL h m)(k:cQ (.ret (.bool true)) ⟨h,cG,cD,tk,cO⟩):Seg 34 h tk:=by
 obtain⟨B,X,T,Se,C,l22,n22⟩:=G
 have q9:PR=PR:=rfl;unfold PR at q9;revert X q9;k_fill;intro X q9;clear q9
 refine i6 rfl rfl ?_
 unfold PR
 k_steps
 exact k
end Mine
end
section
open PySem PySem.W PySem.Calls PyProof.Rows
namespace Mine
theorem Pj(l:List Nat):(tx l).length=l.length:=by simp[tx,Vk.length]
theorem Jy{ls:List (List Nat)}(h4:ls.length=4)(hl:∀l∈ls,l∈texts5){x:Vk}(hx:x∈(TS 4).map fun j=>TH ((ls.map tx).getD j (Ta "")) (Ta "\n") (HG.getD j (Ta ""))):x.length<=50:=by
 (refine oEA (Tg.mp hx) fun j hj o0_=>?_;obtain rfl:=o0_)
 have hj4:j<4:=List.mem_range.mp hj
 have e1:(ls.map tx).getD j (Ta "")=tx (ls[j]'(by lia)):=by
  rw[PV,Rn,Qb (by lia)];rfl
 rw[e1]
 refine NZ _ (hl _ (RP _)) _ ?_
 have:HG.getD j (Ta "")=HG[j]'hj4:=by rw[PV,Qb hj4];rfl
 rw[this];exact RP _
theorem Jz{f:List Nat->Nat}{b:Nat}(hf:∀l∈texts5,f l<=b):∀{ls:List (List Nat)},(∀l∈ls,l∈texts5)->(ls.map f).sum<=ls.length*b:=fun{ls}=>by
 induction ls with
 |nil=>intro _;exact TC _
 |cons l ls ih=>
  intro h
  have h1:=hf l (h l (.head _))
  have h2:=ih fun x hx=>h x (.tail _ hx)
  rw[SJ,SO,RB,Tw]
  lia
theorem HK{ls:List (List Nat)}(h4:ls.length=4)(hl:∀l∈ls,l∈texts5):(Ea (ls.map tx)).length<=600:=by
 have hj:=Dw (Ta "\x0c") ((ls.map tx).map outT)
 rw[RT,RT,h4,show(Ta "\x0c").length=1 by decide+kernel] at hj
 have hs:=Jz (f:=fun l=>(outT (tx l)).length) (b:=50) (fun l h=>(CX l h).2.2) hl
 rw[h4] at hs
 have e:(((ls.map tx).map outT).map (·.length))=ls.map fun l=>(outT (tx l)).length:=by rw[Tj,Tj];rfl
 rw[e] at hj
 unfold Ea
 rw[RA,show(Ta "..\x0c").length=3 by decide+kernel]
 lia
theorem FW{ls:List (List Nat)}(h4:ls.length=4)(hl:∀l∈ls,l∈texts5):∀j,j<4->(((TS 4).map fun j=>((TS 4).map fun j=>(Ko 46 ((Ta ".."::(ls.map tx).map outT).getD (j+1) (Ta "")):Int)-(Ko 46 ((ls.map tx).getD j (Ta "")):Int)).getD j 0+(((((ls.map tx).map fun x=>Y2 (V2 x)).getD j #[]).size:Int)-3-2*(((ls.map tx).getD j (Ta "")).length:Int)))).getD j 0=chg ((ls.getD j []).map (· == 46)):=by
 intro j hj
 have a1:∀(f:Nat->Int),((TS 4).map f).getD j 0=f j:=fun f=>by
  rw[PV,Rn,List.getElem?_range hj];rfl
 have hj2:j<ls.length:=by lia
 have a2:(ls.map tx).getD j (Ta "")=tx ls[j]:=by rw[PV,Rn,Qb hj2];rfl
 have a3:(Ta ".."::(ls.map tx).map outT).getD (j+1) (Ta "")=outT (tx ls[j]):=by
  rw[QM,PV,Rn,Rn,Qb hj2];rfl
 have a4:(((ls.map tx).map fun x=>Y2 (V2 x)).getD j #[])=Y2 (V2 (tx ls[j])):=by
  rw[PV,Rn,Rn,Qb hj2];rfl
 have a5:ls.getD j []=ls[j]:=by rw[PV,Qb hj2];rfl
 rw[a1,a1,a2,a3,a4,a5]
 exact Oa _ (hl _ (RP _))
theorem Kb{ro pt tl txa:Vf}{rn pn tn:List Int}{ls:List (List Nat)}{h:Vg}{tk:Nat}{m:Vk->Option UX}{cm:Nat->Option UX}{ps:Array UX}
  (G:Hyp)(H:j7 h m cm ps)(k3:cm 3=some (.ref ro))(k5:cm 5=some (.ref pt))(k10:cm 10=some (.ref tl))(h0:0<tk)
  (ht:LT h txa (ls.map tx))(h4:ls.length=4)(hl:∀l∈ls,l∈texts5)(hb:m (Ta "texts")=some (.ref txa))
  (hr:LI h ro rn)(hrl:rn.length<=4)(hp:LI h pt pn)(hpl:pn.length=4)(hto:LI h tl tn)(htl:tn.length=11)
  (hd:∀k,k<3->chg ((ls.getD k []).map (· == 46))-chg ((ls.getD (k+1) []).map (· == 46))=Ny rn pn tn k)
  (fin:∀h' tk' m',Fr cH cL h' m'->(∃ps',h'.get? 222=some (UQ ps'))->cQ (.ret (.bool true)) ⟨h',cG,cD,tk',cO⟩):Seg 23 h tk:=by
 have xl:(ls.map tx).length=4:=by rw[RT,h4]
 have mf:∀x∈ls.map tx,∃l,l∈texts5/\x=tx l:=fun x hx=>by
  (refine oEA (Tg.mp hx) fun l h1 o0_=>?_;obtain rfl:=o0_)
  exact(iEA l (hl l h1) rfl)
 have bl:((ls.map tx).map fun x=>Y2 (X9 x)).length=4:=by rw[RT,xl]
 have ql:((ls.map tx).map fun x=>Y2 (V2 x)).length=4:=by rw[RT,xl]
 have sp:=GT h4 hl
 have e5:((ls.map tx).map fun x=>CS (Y2 (J5 x)).toList x.length)=(ls.map tx).map fun x=>Y2 (X9 x):=
  QG fun x hx=>by(refine oEA (mf x hx) fun l h1 o0_=>?_;obtain rfl:=o0_);exact MF l h1
 have e7:(((ls.map tx).map fun x=>Y2 (X9 x)).map Fi)=(ls.map tx).map fun x=>Y2 (V2 x):=by
  rw[Tj]
  refine QG fun x hx=>?_
  (refine oEA (mf x hx) fun l h1 o0_=>?_;obtain rfl:=o0_)
  show Fi (Y2 (X9 (tx l)))=_
  rw[JJ];exact MG l h1
 refine Ot G H ht xl (fun x hx=>by(refine oEA (mf x hx) fun l h1 o0_=>?_;obtain rfl:=o0_);exact(CX l h1).1.2) h0 hb ?_
 intro pa h24 tk24 m24 Z24 b1 lt1
 refine Os G Z24.law lt1 (by rw[RT,Rl]) (fun x hx=>Jy h4 hl hx) b1 ?_
 intro ts h25 tk25 m25 Z25 b2
 rw[show(⟨DF (Bf (Ta ".\x0c"++Txt.join (Ta "\x0c") ((TS 4).map fun j=>TH ((ls.map tx).getD j (Ta "")) (Ta "\n") (HG.getD j (Ta "")))).cps)⟩:Vk)=Ea (ls.map tx) from Lx h4 hl] at b2
 replace ht:=((ht.up Z24.st).up Z25.st)
 replace h0:=(QR (QR h0 Z24.toks) Z25.toks)
 replace hb:=((Z25.nm _ (by decide)).trans ((Z24.nm _ (by decide)).trans hb))
 refine Oq G Z25.law ht xl (fun x hx=>by(refine oEA (mf x hx) fun l h1 o0_=>?_;obtain rfl:=o0_);exact⟨(CX l h1).1.2,(CX l h1).2⟩) h0 b2 hb rfl ?_
 intro h26 tk26 m26 Z26
 replace ht:=(ht.up Z26.st)
 replace hb:=((Z26.nm _ (by decide)).trans hb)
 refine Oo G Z26.law ht xl (fun x hx=>by(refine oEA (mf x hx) fun l h1 o0_=>?_;obtain rfl:=o0_);exact(iAA ((CX l h1).1.1) ((CX l h1).1.2) (NY l h1))) hb ?_
 intro tu h27 tk27 m27 Z27 b5 lb
 rw[e5] at lb
 replace ht:=(ht.up Z27.st)
 replace hb:=((Z27.nm _ (by decide)).trans hb)
 refine On G Z27.law ht xl (fun x hx=>by(refine oEA (mf x hx) fun l h1 o0_=>?_;obtain rfl:=o0_);exact(iAA ((CX l h1).1.2) ((EY l h1).1) ((EY l h1).2.1))) lb hb b5 rfl ?_
 intro h28 tk28 m28 Z28
 replace lb:=(lb.up Z28.st)
 replace b5:=((Z28.nm _ (by decide)).trans b5)
 refine Om G Z28.law lb bl (fun b hb=>by(refine oEA (Tg.mp hb) fun x hx o0_=>?_;obtain rfl:=o0_);(refine oEA (mf x hx) fun l h1 o0_=>?_;obtain rfl:=o0_);exact(EY l h1).2.2) b5 ?_
 intro qu h29 tk29 m29 Z29 b7 lq
 rw[e7] at lq
 replace ht:=((ht.up Z28.st).up Z29.st)
 replace h0:=(QR (QR (QR (QR h0 Z26.toks) Z27.toks) Z28.toks) Z29.toks)
 replace hb:=((Z29.nm _ (by decide)).trans ((Z28.nm _ (by decide)).trans hb))
 refine Ol G Z29.law ht xl (fun x hx=>by(refine oEA (mf x hx) fun l h1 o0_=>?_;obtain rfl:=o0_);have f:=KD l h1;exact(Ft ((CX l h1).1.2) f.1 f.2.1 f.2.2.1 f.2.2.2.1)) h0 lq hb b7 rfl ?_
 intro h30 tk30 m30 Z30
 replace lb:=((lb.up Z29.st).up Z30.st)
 replace lq:=(lq.up Z30.st)
 replace b5:=((Z30.nm _ (by decide)).trans ((Z29.nm _ (by decide)).trans b5))
 replace b7:=((Z30.nm _ (by decide)).trans b7)
 refine Oj G Z30.law lb bl lq ql b5 b7 ?_
 intro h31 tk31 m31 Z31
 replace ht:=((ht.up Z30.st).up Z31.st)
 replace h0:=(QR (QR h0 Z30.toks) Z31.toks)
 replace b2:=((Z31.nm _ (by decide)).trans ((Z30.nm _ (by decide)).trans ((Z29.nm _ (by decide)).trans ((Z28.nm _ (by decide)).trans ((Z27.nm _ (by decide)).trans ((Z26.nm _ (by decide)).trans b2))))))
 replace hb:=((Z31.nm _ (by decide)).trans ((Z30.nm _ (by decide)).trans hb))
 refine Oi G Z31.law ht xl h0 b2 hb (HK h4 hl) (by rw[sp,RB,RT,xl]) ?_
 intro fr h32 tk32 m32 Z32 bA lA
 rw[sp] at lA
 replace ht:=(ht.up Z32.st)
 replace lq:=((lq.up Z31.st).up Z32.st)
 replace hb:=((Z32.nm _ (by decide)).trans hb)
 replace b7:=((Z32.nm _ (by decide)).trans ((Z31.nm _ (by decide)).trans b7))
 refine Oh G Z32.law ht xl (fun x hx=>by(refine oEA (mf x hx) fun l h1 o0_=>?_;obtain rfl:=o0_);exact(CX l h1).1.2) lA (by rw[RT,Rl]) lq ql (fun b hb=>by(refine oEA (Tg.mp hb) fun x hx o0_=>?_;obtain rfl:=o0_);(refine oEA (mf x hx) fun l h1 o0_=>?_;obtain rfl:=o0_);exact(KD l h1).2.2.2.2) hb bA b7 ?_
 intro cg h33 tk33 m33 Z33 bB lB
 replace k3:=((Z33.cl 3 (by decide)).trans ((Z32.cl 3 (by decide)).trans ((Z31.cl 3 (by decide)).trans ((Z30.cl 3 (by decide)).trans ((Z29.cl 3 (by decide)).trans ((Z28.cl 3 (by decide)).trans ((Z27.cl 3 (by decide)).trans ((Z26.cl 3 (by decide)).trans ((Z25.cl 3 (by decide)).trans ((Z24.cl 3 (by decide)).trans k3))))))))))
 replace k5:=((Z33.cl 5 (by decide)).trans ((Z32.cl 5 (by decide)).trans ((Z31.cl 5 (by decide)).trans ((Z30.cl 5 (by decide)).trans ((Z29.cl 5 (by decide)).trans ((Z28.cl 5 (by decide)).trans ((Z27.cl 5 (by decide)).trans ((Z26.cl 5 (by decide)).trans ((Z25.cl 5 (by decide)).trans ((Z24.cl 5 (by decide)).trans k5))))))))))
 replace k10:=((Z33.cl 10 (by decide)).trans ((Z32.cl 10 (by decide)).trans ((Z31.cl 10 (by decide)).trans ((Z30.cl 10 (by decide)).trans ((Z29.cl 10 (by decide)).trans ((Z28.cl 10 (by decide)).trans ((Z27.cl 10 (by decide)).trans ((Z26.cl 10 (by decide)).trans ((Z25.cl 10 (by decide)).trans ((Z24.cl 10 (by decide)).trans k10))))))))))
 replace hr:=((((((((((hr.up Z24.st).up Z25.st).up Z26.st).up Z27.st).up Z28.st).up Z29.st).up Z30.st).up Z31.st).up Z32.st).up Z33.st)
 replace hp:=((((((((((hp.up Z24.st).up Z25.st).up Z26.st).up Z27.st).up Z28.st).up Z29.st).up Z30.st).up Z31.st).up Z32.st).up Z33.st)
 replace hto:=((((((((((hto.up Z24.st).up Z25.st).up Z26.st).up Z27.st).up Z28.st).up Z29.st).up Z30.st).up Z31.st).up Z32.st).up Z33.st)
 refine Og G Z33.law k3 k5 k10 hr hrl hp hpl hto htl lB (by rw[RT,Rl]) bB (fun k hk=>by rw[FW h4 hl k (by lia),FW h4 hl (k+1) (by lia)];exact hd k hk) ?_
 intro hC tkC mC qC FC gC
 exact Of G FC (fin _ _ _ FC gC)
end Mine
end
section
open PySem PySem.W PySem.Calls PyProof.Rows
namespace Mine
open S (sK0 sK2 sK17 sK18 sK19 sK20 sK5)
theorem seg9{ld:Int}{tl:Vm}{h:Vg}{tk:Nat}{m:Vk->Option UX}{cm:Nat->Option UX}{ps:Array UX}(G:Hyp)(H:j7 h m cm ps)(k2:cm 2=some (.int ld tl))(hld:ld=1\/ld= -1)
  (next:∀(pl:Vf) h' tk' m' ps',Q8 [(Ta "plain")] [] h tk m cm h' tk' m' cm ps'->m' (Ta "plain")=some (.ref pl)->LR h' pl (Cs ld)->Seg 10 h' tk'):Seg 9 h tk:=by
 obtain⟨B,X,T,Se,C,l22,n22⟩:=G
 have q9:PR=PR:=rfl;unfold PR at q9;revert X q9;k_fill;intro X q9;clear q9
 have F:=H.fr
 refine L1 (T7 H n22 l22) fun news N off hall=>?_
 refine oEA (H.cellC hall 2 (by decide) k2 (A3 l22 2)) fun o2 c2 d2=>?_
 replace c2:((cL+1+1+1:Vf),o2)∈news:=c2
 refine i6 rfl rfl ?_
 unfold PR
 k_steps
 unfold g9
 refine BX (h₀:=cH) (by walk_at "ur") (by walk_at "ur") (by walk_at "ur") (by decide) (by intro _;walk_at "ur") (by walk_at "ur") (by walk_at "ur") ?_
 k_steps
 unfold g9
 rename_i D1 h1 F1 N1 l1
 have hl1:=isL N1 (SI _)
 have N22:News cH cL h1 ((222,UQ ps)::news):=fun q hq=>N1 q (.tail _ hq)
 refine Jd (fun j H ha y=>Jp cL (⟨1, -99,99,[0,ld].getD j 0⟩:RuleD) H ha y) rfl hl1 (by rw[Tz];exact Qr rfl) (by with_unfolding_all(intro _ _;rfl)) (by walk_at "ur") (by walk_at "ur") F1 N22 off (H.ok.up (AJ H.fr hall F1 N1 fun p hp Z=> .tail _ hp)) (s9 N1 (SI _)) (fun e=>Tb l1.1 e.symm) ?elts ?fin
 case elts=>
  rintro i v C9 oC u H9 tk9 rest2 ps2 E' hv hO hu F8 N8 hne ok8
  (refine y8 (n5 (.cons _ _ (.cons _ _ .nil):UG _ [0,ld]) hv) fun r t hr o0_=>?_;obtain rfl:=o0_)
  replace hr:=v4 hr
  subst hr
  have F8:Fr cH cL H9 _:=F8
  have N8:News cH cL H9 _:=N8
  have hS8:=Dn H hall F8 N8 (N8 _ (SI _)).1 (fun p hp=>by walk_at "mem")
  k_steps
  unfold g9
  k_dflt (refine Di 1 (-99) 99 _ _ _ _ _ _ _ _ _ _ _ _ _ _ _ _ _ _ _ _ _ _ ps2 B F8 X T Se C rfl ?room7 ?units7 (UM N8 (Da (SI _))) ok8 ?ret7)
  case room7=>ktr_room
  case units7=>ktr_units
  case ret7=>
   intro r7 g7 tk7' ps7' k7' e7' ok7' ra7 rn7 cl7
   exact Dh F8 N8 hne ⟨_,F8.ns.choose_spec.choose_spec.choose_spec.1⟩ hS8 (fun Z e=>e) k7' e7' ok7' cl7
 case fin=>
  (intro s₂ r0_;(refine y8 r0_ fun Z Z o0_ hsz=>?_;clear r0_;obtain rfl:=o0_);intro D5 ys k5 h5 tk5 ps5 F5 N5 O5 ok5 P5)
  rintro h9 tk9 F9 N9 k9
  k_steps
  have h22:h9.get? 222=some (UQ ps5):=k9 222 _ (N5 _ (.tail _ (.head _))).2.1 (Te (Ri (QR (Tc (N22 _ (.head _)).1) hsz))) (N5 _ (.tail _ (.head _))).1
  have N9:News cH cL h9 _:=N9
  have F9:Fr cH cL h9 _:=F9
  have ok9:A5 h9 222 qualR ps5:=HL ok5 F5 k9
  refine T3.mk fun hT9=>?_
  have Z9:=C1 [Ta "plain"] H hall hT9 l22 F9 N9 h22 ok9 (fun p hp=>by walk_at "mem") (fun y hy=>if_neg (V5 hy))
  exact next D5 _ _ _ _ Z9 (if_pos rfl) ⟨ys,k5,l4 H hall n22 l22 N9 (by walk_at "mem") (O5 (222,UQ ps5) (SI _)) (fun q hq=>O5 q (by walk_at "mem")),Fg Z9.law k9 P5⟩
end Mine
end
section
open PySem PySem.W PySem.Calls PyProof.Rows
namespace Mine
open S (sK0 sK2 sK17 sK18 sK19 sK20 sK15 sK27)
theorem OG{ld:Int}{tl:Vm}{ot:Vf}{on:List Int}{h:Vg}{tk:Nat}{m:Vk->Option UX}{cm:Nat->Option UX}{ps:Array UX}(G:Hyp)(H:j7 h m cm ps)(k2:cm 2=some (.int ld tl))(k4:cm 4=some (.ref ot))(hld:ld=1\/ld= -1)(ho:LI h ot on)(hol:on.length=2)
  (next:∀(ru:Vf) h' tk' m' ps',Q8 [(Ta "rules")] [] h tk m cm h' tk' m' cm ps'->m' (Ta "rules")=some (.ref ru)->LR h' ru (on.map (fun r=>(⟨99,r-1,r,0⟩:RuleD))++[⟨1, -99,99, -ld⟩])->Seg 11 h' tk'):Seg 10 h tk:=by
 obtain⟨B,X,T,Se,C,l22,n22⟩:=G
 have q9:PR=PR:=rfl;unfold PR at q9;revert X q9;k_fill;intro X q9;clear q9
 have F:=H.fr
 refine L1 (T7 H n22 l22) fun news N off hall=>?_
 refine oEA (H.cellC hall 2 (by decide) k2 (A3 l22 2)) fun o2 c2 d2=>?_
 replace c2:((cL+1+1+1:Vf),o2)∈news:=c2
 refine oEA (H.cellC hall 4 (by decide) k4 (A3 l22 4)) fun o4 c4 d4=>?_
 replace c4:((cL+1+1+1+1+1:Vf),o4)∈news:=c4
 obtain⟨vr,nr,mr,ir⟩:=ho
 replace mr:=mr.memC hall M2
 have hlR:=isL (a:=ot) (vs:=vr) (n:=nr) N (by walk_at "mem")
 refine i6 rfl rfl ?_
 unfold PR
 k_steps
 unfold g9
 refine Ex (h₀:=cH) (L:=cL) (by walk_at "ur") (by walk_at "ur") (by decide) (by intro _;walk_at "ur") ?_
 k_steps
 unfold g9
 refine Jd (fun j H ha y=>Jp cL (⟨99,on.getD j 0-1,on.getD j 0,0⟩:RuleD) H ha y) rfl hlR (by rw[ir.length,hol,Tz];decide) (by with_unfolding_all(intro _ _;rfl)) (by walk_at "ur") (by walk_at "ur") F N off H.ok (s9 (o:=W.listOf vr.toArray nr) N (by walk_at "mem")) (off _ mr) ?elts ?fin
 case elts=>
  rintro i v C9 oC u H9 tk9 rest2 ps2 E' hv hO hu F8 N8 hne ok8
  (refine y8 (n5 ir hv) fun r t hr o0_=>?_;obtain rfl:=o0_)
  replace hr:=v4 hr
  subst hr
  have F8:Fr cH cL H9 _:=F8
  have N8:News cH cL H9 _:=N8
  have hS8:=Dn H hall F8 N8 (N8 _ (SI _)).1 (fun p hp=>by walk_at "mem")
  k_steps
  unfold g9
  k_dflt (refine Di 99 _ _ 0 _ _ _ _ _ _ _ _ _ _ _ _ _ _ _ _ _ _ _ _ _ ps2 B F8 X T Se C rfl ?room7 ?units7 (UM N8 (Da (SI _))) ok8 ?ret7)
  case room7=>ktr_room
  case units7=>ktr_units
  case ret7=>
   intro r7 g7 tk7' ps7' k7' e7' ok7' ra7 rn7 cl7
   exact Dh F8 N8 hne ⟨_,F8.ns.choose_spec.choose_spec.choose_spec.1⟩ hS8 (fun Z e=>e) k7' e7' ok7' cl7
 case fin=>
  (intro s₂ r0_;(refine y8 r0_ fun Z Z o0_ hsz=>?_;clear r0_;obtain rfl:=o0_);intro D5 ys k5 h5 tk5 ps5 F5 N5 O5 ok5 P5)
  have S5:=l4 H hall n22 l22 N5 (SI _) (O5 (222,UQ ps5) (SI _)) (fun q hq=>O5 q (by walk_at "mem"))
  have Z5:=C1 [] H hall (TA tk) l22 F5 N5 (N5 _ (.tail _ (.head _))).1 ok5.1 (fun p hp=>by walk_at "mem") (fun y hy=>rfl)
  have K5:=Z5.law
  have F:=K5.fr
  refine L1 (T7 K5 n22 l22) fun news5 N off5 hall5=>?_
  have R5:=Fg K5 (fun Z Z Z Z e=>e) P5
  refine oEA (K5.cellC hall5 2 (by decide) k2 (A3 l22 2)) fun o2 c2 d2=>?_
  replace c2:((cL+1+1+1:Vf),o2)∈news5:=c2
  have m5:=S5.memC hall5 M2
  clear F5 N5
  k_steps
  unfold g9
  k_dflt (refine' Aw (Er _ _) ?u1 ?u2 ?u3 ?u4 ?u5 ?u6 ?u7 ?u8 ?u9 ?uA ?_;walk_at "u")
  case uA=>trivial
  k_whole
  intro h3 tk3 F3 N3 K3 t3
  (try dsimp only)
  (try k_fold)
  k_steps
  have N3:News cH cL _ ((222,UQ ps5)::news5):=fun q hq=>N3 q (by walk_at "mem")
  have hS3:=Dn K5 hall5 F3 N3 (N3 _ (SI _)).1 (fun p hp=>by walk_at "mem")
  have ok3:=K5.ok.up (AJ K5.fr hall5 F3 N3 fun p hp Z=>hp)
  unfold g9
  k_dflt (refine Di 1 (-99) 99 _ _ _ _ _ _ _ _ _ _ _ _ _ _ _ _ _ _ _ _ _ _ ps5 B F3 X T Se C rfl ?room6 ?units6 (UM N3 (Da (SI _))) ok3 ?ret6)
  case room6=>ktr_room
  case units6=>ktr_units
  case ret6=>
   intro r6 g6 tk6' ps6' k6' e6' ok6' ra6 rn6 cl6
   refine oA (FX F3 N3 off5 k6' e6') fun F6 N6=>?_
   have Z6:=C1 [] K5 hall5 (TA tk) l22 F6 N6 e6' ok6' (fun p hp=>by walk_at "mem") (fun Z Z=>rfl)
   have K6:=Z6.law
   have R6:=LA K6 ⟨_,F3.ns.choose_spec.choose_spec.choose_spec.1⟩ hS3 cl6
   have F:=K6.fr
   refine L1 (T7 K6 n22 l22) fun news6 N off6 hall6=>?_
   have m6:=(S5.up Z6.st).memC hall6 M2
   clear F3 N3 F6 N6
   k_steps
   unfold g9
   rename_i lD hD FD ND lt
   have hA:=isL (a:=D5) (vs:=ys) (n:=k5) ND (by walk_at "mem")
   have hB:=isL ND (SI _)
   refine kmk_add_lit FD ND (its:=ys.toArray) hA hB rfl (fun D8 h8 F8 N8 lt8=>?_) ?room8
   case room8=>
    have h9:=P5.length
    rw[Rl,ir.length,hol] at h9
    simp only[Tz,RB,RX, ←h9]
    decide
   k_steps
   refine T3.mk fun hT9=>?_
   rename Fr _ _ _ _=>F9
   rename News _ _ _ _=>N9
   have ok9:=K6.ok.up (AJ K6.fr hall6 F9 N9 fun p hp Z=>by have hp:p∈(222,UQ ps6')::news6:=hp;walk_at "mem")
   have Z9:=C1 [Ta "rules"] K6 hall6 hT9 l22 F9 N9 (N9 (222,UQ ps6') (by walk_at "mem")).1 ok9 (fun p hp=>by walk_at "mem") (fun y hy=>if_neg (V5 hy))
   refine next D8 _ _ _ _ ((Z5.trans Z6).trans Z9) (if_pos rfl) ⟨_,0,l4 K6 hall6 n22 l22 N9 (by walk_at "mem") (Tb (lt8 (222,UQ ps6') (by walk_at "mem"))) (fun q hq=>Tb (lt8 q (by walk_at "mem"))),?rl⟩
   case rl=>
    rw[ir.length,Y0 (fun r=>(⟨99,r-1,r,0⟩:RuleD)) on] at R5
    exact Paired.app (R5.up (Z6.st.trans Z9.st)) (.cons (iEA _ rfl (R6.up Z9.st)) .nil)
end Mine
end
section
open PySem PySem.W PySem.Calls PyProof.Rows
namespace Mine
open S (sK0 sK2 sK17 sK18 sK19 sK20 sK15 sK27)
theorem OF{ld:Int}{tl:Vm}{ot ru:Vf}{on:List Int}{rs:List RuleD}{h:Vg}{tk:Nat}{m:Vk->Option UX}{cm:Nat->Option UX}{ps:Array UX}(G:Hyp)(H:j7 h m cm ps)(k2:cm 2=some (.int ld tl))(k4:cm 4=some (.ref ot))(hld:ld=1\/ld= -1)(ho:LI h ot on)(hol:on.length=2)(hob:∀x∈on,x.natAbs<=4)(hb:m (Ta "rules")=some (.ref ru))(hr:LR h ru rs)(hrs:rs.length=3)
  (next:∀(ru2:Vf) h' tk' m' ps',Q8 [(Ta "rules")] [] h tk m cm h' tk' m' cm ps'->m' (Ta "rules")=some (.ref ru2)->LR h' ru2 (rs++on.map fun r=>(⟨r+9,r,99,ld*(-1) ^ Ma on r⟩:RuleD))->Seg 12 h' tk'):Seg 11 h tk:=by
 obtain⟨B,X,T,Se,C,l22,n22⟩:=G
 have q9:PR=PR:=rfl;unfold PR at q9;revert X q9;k_fill;intro X q9;clear q9
 have F:=H.fr
 refine L1 (T7 H n22 l22) fun news N off hall=>?_
 refine oEA (H.cellC hall 2 (by decide) k2 (A3 l22 2)) fun o2 c2 d2=>?_
 replace c2:((cL+1+1+1:Vf),o2)∈news:=c2
 refine oEA (H.cellC hall 4 (by decide) k4 (A3 l22 4)) fun o4 c4 d4=>?_
 replace c4:((cL+1+1+1+1+1:Vf),o4)∈news:=c4
 obtain⟨vr,nr,mr,ir⟩:=ho
 replace mr:=mr.memC hall M2
 obtain⟨vu,nu,su,iu⟩:=hr
 have mu:=su.memC hall M2
 refine oA (Fr.putS F (hb)) fun F e09=>?_
 have hlR:=isL (a:=ot) (vs:=vr) (n:=nr) N (by walk_at "mem")
 refine i6 rfl rfl ?_
 unfold PR
 k_steps
 unfold g9
 refine Ex (h₀:=cH) (L:=cL) (by walk_at "ur") (by walk_at "ur") (by decide) (by intro _;walk_at "ur") ?_
 k_steps
 unfold g9
 refine Je (fun j H ha y=>Jp cL (⟨on.getD j 0+9,on.getD j 0,99,ld*(-1) ^ Ma on (on.getD j 0)⟩:RuleD) H ha y) rfl hlR (by rw[ir.length,hol,Tz];decide) (by with_unfolding_all(intro _ _;rfl)) (by intro _;with_unfolding_all rfl) (by walk_at "ur") F N off H.ok (s9 (o:=W.listOf vr.toArray nr) N (by walk_at "mem")) (off _ mr) ?elts ?fin
 case elts=>
  rintro i v C9 oC oc u H9 tk9 rest2 ps2 E' hv hO hoc hmc F8 N8 hne ok8
  (refine y8 (n5 ir hv) fun r t hr o0_=>?_;obtain rfl:=o0_)
  have hm8:=Qt hr
  have hb8:=hob r hm8
  replace hr:=v4 hr
  rw[hr]
  have F8:Fr cH cL H9 _:=F8
  have N8:News cH cL H9 _:=N8
  have hS8:=Dn H hall F8 N8 (N8 _ (SI _)).1 (fun p hp=>by walk_at "mem")
  have hlO:=isL (a:=ot) (vs:=vr) (n:=nr) N8 (by walk_at "mem")
  refine oEA (i4 F8) fun rA NA hA=>?_
  have N9:=News.app N8 NA
  k_steps
  unfold g9
  refine j5 (h₀:=cH) (L:=cL) (by walk_at "ur") (by decide) (by walk_at "ur") (by decide) (by intro _;walk_at "ur") ?_
  k_steps
  unfold g9
  refine DL (fun j=>decide (r<on.getD j 0)) (fun Z Z Z y=>∃t,y= .int ((fun Z=>(1:Int)) ()) t) rfl hlO (by rw[ir.length,hol,Tz];decide) (by walk_at "ur") (by walk_at "ur") F8 N9 (Dr F8 hlO) ?tests2 ?elts2 ?fin2
  case tests2=>
   rintro j v2 C2 oC2 u2 H2 tk2 rest3 E2 hv2 hO2 hu2 F7 N7
   (refine y8 (n5 ir hv2) fun r2 t2 hr2 o0_=>?_;obtain rfl:=o0_)
   replace hr2:=v4 hr2
   refine U8 ?_
   k_steps
   all_goals(rename News _ _ _ _=>M7;refine p9.intro (by assumption) M7 (fun p hp=>by walk_at "mem") ?_;first|(rw[hr2];done)|(rw[hr2];symm;first|exact decide_eq_true (by omega)|exact decide_eq_false (by omega)))
  case elts2=>
   rintro j v2 C2 oC2 u2 H2 tk2 rest3 E2 hv2 _ hO2 hu2 F7 N7
   k_steps
   rename News _ _ _ _=>M7
   exact j3.intro (by assumption) M7 (fun p hp=>by walk_at "mem") ⟨_,rfl⟩
  case fin2=>
   (intro _ r0_;(refine oEE r0_ fun Z Z o0_=>?_;clear r0_;obtain rfl:=o0_);intro D2 ys2 k2 h2 tk2 F2 N2 O2 P2)
   have N2K:News cH cL h2 ((222,UQ ps2)::(C9,oC)::(news++rest2)):=fun q hq=>N2 q (by walk_at "mem")
   have ok2:A5 h2 222 qualR ps2:=ok8.up (CL hA F8 F2 N2 (fun p hp=>by walk_at "mem"))
   have I2:=g8 (f:=fun Z=>1) P2
   have hlen:(((TS vr.length).filter fun j=>decide (r<on.getD j 0)).map fun Z=>(1:Int)).length=Ma on r:=by rw[RT,ir.length];exact IU (fun x=>decide (r<x)) on
   have hfar:Ma on r<=2:=hol ▸ Qp _ _
   generalize(((TS vr.length).filter fun j=>decide (r<on.getD j 0)).map fun Z=>(1:Int))=ones at I2 hlen
   have hlD2:=isL N2 (SI _)
   k_steps
   unfold g9
   refine pow_int_small (by omega) (by omega) (by decide) ?_
   rw[Rz,hlen]
   have hmu:Uz ld ((-1) ^ Ma on r):=Uz.of_left (SU (by omega) (by omega))
   k_steps
   unfold g9
   k_dflt (refine Di _ _ 99 _ _ _ _ _ _ _ _ _ _ _ _ _ _ _ _ _ _ _ _ _ _ ps2 B F2 X T Se C rfl ?room7 ?units7 (UM N2K (Da (SI _))) ok2 ?ret7)
   case room7=>ktr_room
   case units7=>ktr_units
   case ret7=>
    intro r7 g7 tk7' ps7' k7' e7' ok7' ra7 rn7 cl7
    exact Dh F2 N2K hne ⟨_,F8.ns.choose_spec.choose_spec.choose_spec.1⟩ hS8 (OV hA F2 N2 (fun p hp=>by walk_at "mem")) k7' e7' ok7' cl7
 case fin=>
  (intro s₂ r0_;(refine y8 r0_ fun Z Z o0_ hsz=>?_;clear r0_;obtain rfl:=o0_);intro D5 ys k5 h5 tk5 ps5 F5 N5 O5 ok5 P5)
  have S5:=l4 H hall n22 l22 N5 (SI _) (O5 (222,UQ ps5) (SI _)) (fun q hq=>O5 q (by walk_at "mem"))
  have Z5:=C1 [] H hall (TA tk) l22 F5 N5 (N5 _ (.tail _ (.head _))).1 ok5.1 (fun p hp=>by walk_at "mem") (fun y hy=>e09 y)
  have K5:=Z5.law
  have F:=K5.fr
  refine L1 (T7 K5 n22 l22) fun news5 N off5 hall5=>?_
  have R5:=Fg K5 (fun Z Z Z Z e=>e) P5
  have m5:=S5.memC hall5 M2
  have mu5:=(su.up Z5.st).memC hall5 M2
  clear F5 N5
  k_steps
  unfold g9
  have hA:=isL (a:=ru) (vs:=vu) (n:=nu) N (by walk_at "mem")
  have hB:=isL (a:=D5) (vs:=ys) (n:=k5) N (by walk_at "mem")
  refine kmk_add_lit F N (its:=vu.toArray) (its2:=ys.toArray) hA hB rfl (fun D8 h8 F8 N8 lt8=>?_) ?room8
  case room8=>
   have h9:=P5.length
   rw[Rl,ir.length,hol] at h9
   have h10:=iu.length
   rw[hrs] at h10
   show vu.length+ys.length<=_
   rw[h10, ←h9,Tz];decide
  k_steps
  refine T3.mk fun hT9=>?_
  rename Fr _ _ _ _=>F9
  rename News _ _ _ _=>N9
  have ok9:=K5.ok.up (AJ K5.fr hall5 F9 N9 fun p hp Z=>by have hp:p∈(222,UQ ps5)::news5:=hp;walk_at "mem")
  have Z9:=C1 [Ta "rules"] K5 hall5 hT9 l22 F9 N9 (N9 (222,UQ ps5) (by walk_at "mem")).1 ok9 (fun p hp=>by walk_at "mem") (fun y hy=>if_neg (V5 hy))
  refine next D8 _ _ _ _ (Z5.trans Z9) (if_pos rfl) ⟨_,0,l4 K5 hall5 n22 l22 N9 (by walk_at "mem") (Tb (lt8 (222,UQ ps5) (by walk_at "mem"))) (fun q hq=>Tb (lt8 q (by walk_at "mem"))),?rl⟩
  case rl=>
   rw[ir.length,Y0 (fun r=>(⟨r+9,r,99,ld*(-1) ^ Ma on r⟩:RuleD)) on] at R5
   exact Paired.app (iu.up (Z5.st.trans Z9.st)) (R5.up Z9.st)
end Mine
end
section
open PySem PySem.W PySem.Calls PyProof.Rows
namespace Mine
open S (sK0 sK2 sK17 sK18 sK19 sK20 sK5 sK15 sK27)
theorem OE{ro pl:Vf}{rn:List Int}{h:Vg}{tk:Nat}{m:Vk->Option UX}{cm:Nat->Option UX}{ps:Array UX}(G:Hyp)(H:j7 h m cm ps)(k3:cm 3=some (.ref ro))(ho:LI h ro rn)(hol:rn.length<=4)(hob:∀x∈rn,x.natAbs<=4)(hb:m (Ta "plain")=some (.ref pl))
  (next:∀(x:Vf)(ta tb:Vm) h' tk' m',Q8 [(Ta "one")] [] h tk m cm h' tk' m' cm ps->m' (Ta "one")=some (.ref x)->(∃ua,Cn h' x ua pl (.int 3 ta) (.int 5 tb)/\LT h' ua (rn.map showI++[Ta "P"]))->Seg 13 h' tk'):Seg 12 h tk:=by
 obtain⟨B,X,T,Se,C,l22,n22⟩:=G
 have q9:PR=PR:=rfl;unfold PR at q9;revert X q9;k_fill;intro X q9;clear q9
 have F:=H.fr
 refine oEA (i4 F) fun news N hall=>?_
 refine oEA (H.cell hall 3 (by decide) k3) fun o3 c3 d3=>?_
 replace c3:((cL+1+1+1+1:Vf),o3)∈news:=c3
 obtain⟨vr,nr,mr,ir⟩:=ho
 replace mr:=mr.mem hall
 refine oA (Fr.putS F (hb)) fun F e09=>?_
 have hlR:=isL N (by walk_at "mem")
 refine i6 rfl rfl ?_
 unfold PR
 k_steps
 unfold g9
 refine j5 (h₀:=cH) (L:=cL) (by walk_at "ur") (by decide) (by walk_at "ur") (by decide) (by intro _;walk_at "ur") ?_
 k_steps
 unfold g9
 refine y2 (fun j Z Z y=>∃t,y= .str (showI (rn.getD j 0)) t) rfl hlR (by rw[ir.length,Tz];omega) (by walk_at "ur") (by walk_at "ur") F N (s9 N (by walk_at "mem")) ?elts ?fin
 case elts=>
  rintro j v C8 oC u H9 tk9 rest2 E' hv hO hu F8 N8
  (refine y8 (n5 ir hv) fun r t hr o0_=>?_;obtain rfl:=o0_)
  have hm:=hob r (Qt hr)
  replace hr:=v4 hr
  k_steps
  rename News _ _ _ _=>M8
  exact j3.intro (by assumption) M8 (fun p hp=>by walk_at "mem") ⟨_,by rw[hr]⟩
 case fin=>
  (intro _ r0_;(refine oEE r0_ fun Z Z o0_=>?_;clear r0_;obtain rfl:=o0_);intro D5 ys5 k5 h5 tk5 F5 N5 O5 P5)
  have I5:y3 ys5 (rn.map showI):=by
   have h9:=u0 P5
   rw[ir.length,j6 showI] at h9
   exact h9
  k_steps
  unfold g9
  rename_i lP hP FP NP ltP
  have hA:=isL (a:=D5) (vs:=ys5) (n:=k5) NP (by walk_at "mem")
  have hB:=isL NP (SI _)
  refine kmk_add_lit FP NP (its:=ys5.toArray) hA hB rfl (fun D6 h6 F6 N6 lt6=>?_) ?room6
  case room6=>
   have h9:=P5.length
   rw[Rl,ir.length] at h9
   simp only[RB,RX, ←h9,Tz]
   omega
  k_steps
  unfold g9
  k_dflt (refine' use (Ee _ _ _ _) ?u1 ?u2 ?u3 ?u4 ?u5 ?u6 ?u7 ?u8 ?u9 ?uA ?_;walk_at "u")
  case uA=>trivial
  k_whole
  intro r7 h7 tk7 F7 N7 K7 P7
  refine AP P7 fun x7 dx7 t1 t2 t3 t4 e7 g1 g2 q1 q2 q3=>?_;clear P7
  subst e7
  have z1:=V6 q1 N6
  have z2:=V6 q2 N6
  have N8:=H6 F6 q1 g1 N7
  have N8:=News.put2 N8 (H6 F6 q2 g2 N7) (SI _)
  clear N7
  (try dsimp only)
  (try k_fold)
  k_steps
  refine T3.mk fun hT9=>?_
  rename Fr _ _ _ _=>F9
  rename News _ _ _ _=>N9
  refine next x7 _ _ _ _ _ (i8 [(Ta "one")] H hall hT9 n22 l22 F9 N9 (fun p hp=>by walk_at "mem") (fun y hy=>(if_neg (V5 hy)).trans (e09 y))) (by first|exact rfl|exact if_pos rfl|with_unfolding_all exact rfl) (iEA D6 ⟨dx7,t1,t2,t3,t4,p6 H hall n22 l22 N9 (by walk_at "mem") (fun q hq=>z1 q (by walk_at "mem")),p6 H hall n22 l22 N9 (by walk_at "mem") (fun q hq=>z2 q (by walk_at "mem"))⟩ ⟨_,0,p6 H hall n22 l22 N9 (by walk_at "mem") (fun q hq=>Tb (lt6 q (by walk_at "mem"))),Paired.app I5 (.cons ⟨_,rfl⟩ .nil)⟩)
end Mine
end
section
open PySem PySem.W PySem.Calls PyProof.Rows
namespace Mine
open S (sK0 sK2 sK17 sK18 sK19 sK20 sK15 sK27)
theorem OD{ot ru x ua pl:Vf}{on:List Int}{rs1 rs2:List RuleD}{us:List Vk}{ta tb:Vm}{h:Vg}{tk:Nat}{m:Vk->Option UX}{cm:Nat->Option UX}{ps:Array UX}(G:Hyp)(H:j7 h m cm ps)(k4:cm 4=some (.ref ot))(ho:LI h ot on)(hol:on.length=2)(hob:∀x∈on,x.natAbs<=4)(hb:m (Ta "one")=some (.ref x))(hb2:m (Ta "rules")=some (.ref ru))(hr:Cn h x ua pl (.int 3 ta) (.int 5 tb))(hu:LT h ua us)(hul:us.length<100)(hp:LR h pl rs1)(hpl:rs1.length<100)(hq:LR h ru rs2)(hql:rs2.length<100)
  (next:∀(y:Vf) h' tk' m' cm',Q8 [] [9] h tk m cm h' tk' m' cm' ps->cm' 9=some (.ref y)->(∃uD rD tz ty,Cn h' y uD rD (.int 0 tz) (.int 5 ty)/\LT h' uD (us.filter fun x=>(Ta "p"::on.map showI).any (· == x))/\LR h' rD (rs1++rs2))->Seg 14 h' tk'):Seg 13 h tk:=by
 obtain⟨B,X,T,Se,C,l22,n22⟩:=G
 have q9:PR=PR:=rfl;unfold PR at q9;revert X q9;k_fill;intro X q9;clear q9
 have F:=H.fr
 refine E4 (A7 H 9 (by decide) (a:=(cL+1+1+1+1+1+1+1+1+1+1:Vf)) rfl) fun o9 news N d9 off hall=>?_
 refine oEA (H.cellC hall 4 (by decide) k4 (C7 (j:=4) (k:=9) (by decide))) fun o4 c4 d4=>?_
 replace c4:((cL+1+1+1+1+1:Vf),o4)∈news:=c4
 obtain⟨vr,nr,mr,ir⟩:=ho
 replace mr:=mr.memC hall (l9 9 (by decide))
 obtain⟨vu,nu,mu,iu⟩:=hu
 replace mu:=mu.memC hall (l9 9 (by decide))
 obtain⟨vp,np,mp,ip⟩:=hp
 replace mp:=mp.memC hall (l9 9 (by decide))
 obtain⟨vq,nq,mq,iq⟩:=hq
 replace mq:=mq.memC hall (l9 9 (by decide))
 obtain⟨dx,z1,z2,z3,z4,mx,md⟩:=hr
 replace mx:=mx.memC hall (l9 9 (by decide))
 replace md:=md.memC hall (l9 9 (by decide))
 refine oA (Fr.putS F (hb)) fun F e09=>?_
 refine oA (Fr.putS F ((if_neg (by decide)).trans (hb2))) fun F e19=>?_
 refine i6 rfl rfl ?_
 unfold PR
 k_steps
 unfold g9
 refine j5 (h₀:=cH) (L:=cL) (by walk_at "ur") (by decide) (by walk_at "ur") (by decide) (by intro _;walk_at "ur") ?_
 k_steps
 unfold g9
 rename_i lP hP FP NP ltP
 refine y2 (fun j Z Z y=>∃t,y= .str (showI (on.getD j 0)) t) rfl (isL (a:=ot) (vs:=vr) (n:=nr) NP (by walk_at "mem")) (by rw[ir.length,hol,Tz];decide) (by walk_at "ur") (by walk_at "ur") FP NP (s9 (o:=W.listOf vr.toArray nr) NP (by walk_at "mem")) ?elts ?fin
 case elts=>
  rintro j v C8 oC u H9 tk9 rest2 E' hv hO hu F8 N8
  (refine y8 (n5 ir hv) fun r t hr o0_=>?_;obtain rfl:=o0_)
  have hm:=hob r (Qt hr)
  replace hr:=v4 hr
  k_steps
  rename News _ _ _ _=>M8
  exact j3.intro (by assumption) M8 (fun p hp=>by walk_at "mem") ⟨_,by rw[hr]⟩
 case fin=>
  (intro _ r0_;(refine oEE r0_ fun Z Z o0_=>?_;clear r0_;obtain rfl:=o0_);intro D5 ys5 k5 h5 tk5 F5 N5 O5 P5)
  have I5:y3 ys5 (on.map showI):=by
   have h9:=u0 P5
   rw[ir.length,j6 showI] at h9
   exact h9
  have hy5:ys5.length=2:=by rw[I5.length,RT,hol]
  k_steps
  unfold g9
  have hA:=isL (a:=D5) (vs:=ys5) (n:=k5) N5 (by walk_at "mem")
  have hB:=isL (a:=lP) (n:=0) (vs:=[_]) N5 (.tail _ (SI _))
  refine kmk_add_lit F5 N5 (its2:=ys5.toArray) hB hA rfl (fun D6 h6 F6 N6 lt6=>?_) ?room6
  case room6=>
   simp only[RB,RX,hy5,Tz]
   decide
  have I6:y3 (#[Um (Ta "p") tk].toList++ys5.toArray.toList) (Ta "p"::on.map showI):= .cons ⟨_,rfl⟩ I5
  generalize(#[Um (Ta "p") tk].toList++ys5.toArray.toList)=v6 at I6 N6
  k_steps
  unfold g9
  k_dflt (refine' use (Ee _ _ _ _) ?u1 ?u2 ?u3 ?u4 ?u5 ?u6 ?u7 ?u8 ?u9 ?uA ?_;walk_at "u")
  case uA=>trivial
  k_whole
  intro r7 h7 tk7 F7 N7 K7 P7
  refine AP P7 fun x7 dx7 s1 s2 s3 s4 e7 g1 g2 q1 q2 q3=>?_;clear P7
  subst e7
  have N8:=H6 F6 q1 g1 N7
  have N8:=News.put2 N8 (H6 F6 q2 g2 N7) (SI _)
  clear N7
  (try dsimp only)
  (try k_fold)
  k_steps
  have hA8:=isL (a:=ua) (vs:=vu) (n:=nu) N8 (by walk_at "mem")
  have hB8:=isL (a:=D6) (vs:=v6) (n:=0) N8 (by walk_at "mem")
  have hC8:=isL (a:=pl) (vs:=vp) (n:=np) N8 (by walk_at "mem")
  have hD8:=isL (a:=ru) (vs:=vq) (n:=nq) N8 (by walk_at "mem")
  have hX8:=Ut (N8 _ (by walk_at "mem":(x,UL 69 dx)∈_)).1 (N8 _ (by walk_at "mem":(dx,z9 cW.params z1 z2 z3 z4 (.ref ua) (.ref pl) (.int 3 ta) (.int 5 tb))∈_)).1
  have hY8:=Ut g1 g2
  have hl6:v6.length=3:=by rw[I6.length,RB,RT,hol]
  unfold g9
  k_dflt (refine' use (JY _ _ _ _ _ _ _ _ _ _ _ _ _ _ _ _ _ _ _ _ _ _ (Ta "p"::on.map showI) vu v6 vp vq) ?u1 ?u2 ?u3 ?u4 ?u5 ?u6 ?u7 ?u8 ?u9 ?uA ?_;walk_at "u")
  case uA=>(refine⟨?q0,?q1,?q2,?q3,?q4,?q5,?q6,?q7,?q8,?q9,?q10,?q11,?q12⟩;(case q0=>exact hX8);(case q1=>exact hY8);(case q2=>exact hA8);(case q3=>exact hB8);(case q4=>exact hC8);(case q5=>exact hD8);(case q6=>(rw[hl6,RB,RT,hol]));(case q7=>exact I6.at);(case q8=>exact iu.strs);(case q9=>(rw[iu.length];exact hul));(case q10=>(rw[hl6];decide));(case q11=>(rw[ip.length];exact hpl));(case q12=>(rw[iq.length];exact hql)))
  k_whole
  intro r9 h9 tk9 F9 N9 K9 P9
  refine Y7 P9 fun y9 dy9 D9 E9 k9 n9 e1 e2 e3 e4 e9 a1 a2 a3 a4 b1 b2 b3 b4=>?_;clear P9
  subst e9
  have N10:=H6 F7 b1 a1 N9
  have N10:=News.put2 N10 (H6 F7 b2 a2 N9) (SI _)
  have N10:=News.put2 N10 (H6 F7 b3 a3 N9) (SI _)
  have N10:=News.put2 N10 (H6 F7 b4 a4 N9) (SI _)
  clear N9
  (try dsimp only)
  (try k_fold)
  rename Fr _ _ _ _=>F10
  have s1:=l4 H hall n22 l22 N10 (by walk_at "mem") (V6 b1 N8 ((cL+1+1+1+1+1+1+1+1+1+1:Vf),o9) (by walk_at "mem")) (fun q hq=>V6 b1 N8 q (by walk_at "mem"))
  have s2:=l4 H hall n22 l22 N10 (by walk_at "mem") (V6 b2 N8 ((cL+1+1+1+1+1+1+1+1+1+1:Vf),o9) (by walk_at "mem")) (fun q hq=>V6 b2 N8 q (by walk_at "mem"))
  have s3:=l4 H hall n22 l22 N10 (by walk_at "mem") (V6 b3 N8 ((cL+1+1+1+1+1+1+1+1+1+1:Vf),o9) (by walk_at "mem")) (fun q hq=>V6 b3 N8 q (by walk_at "mem"))
  have s4:=l4 H hall n22 l22 N10 (by walk_at "mem") (V6 b4 N8 ((cL+1+1+1+1+1+1+1+1+1+1:Vf),o9) (by walk_at "mem")) (fun q hq=>V6 b4 N8 q (by walk_at "mem"))
  have Z10:=i8 [] H hall (TA tk) n22 l22 F10 N10 (fun p hp=>(RS.mp hp).elim (fun hp=>by obtain rfl:=QQ.mp hp;walk_at "mem") fun hp=>by walk_at "mem") (fun y hy=>(e19 y).trans (e09 y))
  have K10:=Z10.law
  have F:=K10.fr
  refine E4 (A7 K10 9 (by decide) (a:=(cL+1+1+1+1+1+1+1+1+1+1:Vf)) rfl) fun o9 news10 N d9 off10 hall10=>?_
  clear F10 N10
  k_steps
  rename_i dA
  refine T3.mk fun hT9=>?_
  rename Fr _ _ _ _=>F9
  rename News _ _ _ _=>N9
  have Z9:=B2 [] 9 rfl K10 hall10 hT9 n22 l22 F9 N9 (by walk_at "mem") dA (fun p hp=>by walk_at "mem") (by decide) (fun Z Z=>rfl)
  have st:=Z10.st.trans Z9.st
  exact next y9 _ _ _ _ (Z10.trans Z9) (if_pos rfl) (IQ D9 E9 _ _ ⟨dy9,e1,e2,e3,e4,s1.up Z9.st,s2.up Z9.st⟩ ⟨_,k9,s3.up Z9.st,iu.sift _⟩ ⟨_,n9,s4.up Z9.st,Paired.app (ip.up st) (iq.up st)⟩)
end Mine
end
section
open PySem PySem.W PySem.Calls PyProof.Rows
namespace Mine
open S (sK0 sK2 sK17 sK18 sK19 sK20 sK15 sK27 sK25)
theorem OC{ro ot y uD rD:Vf}{rn on:List Int}{tz ty:Vm}{h:Vg}{tk:Nat}{m:Vk->Option UX}{cm:Nat->Option UX}{ps:Array UX}(G:Hyp)(H:j7 h m cm ps)(k3:cm 3=some (.ref ro))(k4:cm 4=some (.ref ot))(k9:cm 9=some (.ref y))(hr:LI h ro rn)(hrl:rn.length<=4)(hrb:∀x∈rn,x.natAbs<=4)(ho:LI h ot on)(hol:on.length=2)(hob:∀x∈on,x.natAbs<=4)(hy:Cn h y uD rD (.int 0 tz) (.int 5 ty))(hu:LT h uD ((rn.filter fun r=>decide (r∈on)).map showI))
  (next:∀h' tk' m',Q8 [] [] h tk m cm h' tk' m' cm ps->Seg 15 h' tk'):Seg 14 h tk:=by
 obtain⟨B,X,T,Se,C,l22,n22⟩:=G
 have q9:PR=PR:=rfl;unfold PR at q9;revert X q9;k_fill;intro X q9;clear q9
 have F:=H.fr
 refine oEA (i4 F) fun news N hall=>?_
 refine oEA (H.cell hall 3 (by decide) k3) fun o3 c3 d3=>?_
 replace c3:((cL+1+1+1+1:Vf),o3)∈news:=c3
 refine oEA (H.cell hall 4 (by decide) k4) fun o4 c4 d4=>?_
 replace c4:((cL+1+1+1+1+1:Vf),o4)∈news:=c4
 refine oEA (H.cell hall 9 (by decide) k9) fun o9 c9 d9=>?_
 replace c9:((cL+1+1+1+1+1+1+1+1+1+1:Vf),o9)∈news:=c9
 obtain⟨vr,nr,mr,ir⟩:=hr
 replace mr:=mr.mem hall
 obtain⟨vo,no,mo,io⟩:=ho
 replace mo:=mo.mem hall
 obtain⟨vu,nu,mu,iu⟩:=hu
 replace mu:=mu.mem hall
 obtain⟨dx,q1,q2,q3,q4,mx,md⟩:=hy
 replace mx:=mx.mem hall
 replace md:=md.mem hall
 refine i6 rfl rfl ?_
 unfold PR
 k_steps
 unfold g9
 refine j5 (h₀:=cH) (L:=cL) (by walk_at "ur") (by decide) (by walk_at "ur") (by decide) (by intro _;walk_at "ur") ?_
 k_steps
 unfold g9
 rename_i l1 h1 F1 N1 q1
 have hlR:=isL (a:=ro) (vs:=vr) (n:=nr) N1 (by walk_at "mem")
 refine DL (fun j=>decide (rn.getD j 0∈on)) (fun j Z Z y=>∃t,y= .str (showI (rn.getD j 0)) t) rfl hlR (by rw[ir.length,Tz];omega) (by walk_at "ur") (by walk_at "ur") F1 N1 (s9 (o:=W.listOf vr.toArray nr) N1 (by walk_at "mem")) ?tests ?elts ?fin
 case tests=>
  rintro j v C8 oC u H9 tk9 rest2 E' hv hO hu F8 N8
  (refine y8 (n5 ir hv) fun r t hr o0_=>?_;obtain rfl:=o0_)
  replace hr:=v4 hr
  refine U8 ?_
  have hlO:=isL (a:=ot) (vs:=vo) (n:=no) N8 (by walk_at "mem")
  k_steps
  rename News _ _ _ _=>M8
  exact p9.intro (by assumption) M8 (fun p hp=>by walk_at "mem") (by rw[hr,GG])
 case elts=>
  rintro j v C8 oC u H9 tk9 rest2 E' hv hp hO hu F8 N8
  (refine y8 (n5 ir hv) fun r t hr o0_=>?_;obtain rfl:=o0_)
  have hm:=hrb r (Qt hr)
  replace hr:=v4 hr
  k_steps
  rename News _ _ _ _=>M8
  exact j3.intro (by assumption) M8 (fun p hp=>by walk_at "mem") ⟨_,by rw[hr]⟩
 case fin=>
  (intro _ r0_;(refine oEE r0_ fun Z Z o0_=>?_;clear r0_;obtain rfl:=o0_);intro D5 ys5 k5 h5 tk5 F5 N5 O5 P5)
  have I5:y3 ys5 ((rn.filter fun r=>decide (r∈on)).map showI):=by
   have h9:=u0 P5
   rw[ir.length,U6 (fun r=>decide (r∈on)) showI] at h9
   exact h9
  k_steps
  unfold g9
  rename_i l2 h2 F2 N2 q2
  have ra:=SW (N2.get (a:=l1) (by walk_at "mem")) rfl rfl (SN (SW (N2.get (a:=uD) (by walk_at "mem")) rfl rfl (AA iu)) (SN (Reads.int 0 tz) (SN (Reads.int 5 ty) Uy.nil)))
  have rb:=SW (N2.get (a:=l2) (by walk_at "mem")) rfl rfl (SN (SW (N2.get (a:=D5) (by walk_at "mem")) rfl rfl (AA I5)) (SN (Reads.int 0 _) (SN (Reads.int 5 _) Uy.nil)))
  refine Fm ra rb (GR (Bl fun x hx=>hrb x (Sd.mp hx).1)) (by ke_room) ?_
  k_steps
  refine T3.mk fun hT9=>?_
  rename Fr _ _ _ _=>F9
  rename News _ _ _ _=>N9
  refine next _ _ _ (i8 [] H hall hT9 n22 l22 F9 N9 (fun p hp=>by walk_at "mem") (fun y hy=>rfl))
end Mine
end
section
open PySem PySem.W PySem.Calls PyProof.Rows
namespace Mine
open S (sK0 sK2 sK17 sK18 sK19 sK20 sK15 sK27 sK25)
theorem OB{y uD rD:Vf}{rs:List RuleD}{tz ty:Vm}{g:Int->Int}{h:Vg}{tk:Nat}{m:Vk->Option UX}{cm:Nat->Option UX}{ps:Array UX}(G:Hyp)(H:j7 h m cm ps)(k9:cm 9=some (.ref y))(hy:Cn h y uD rD (.int 0 tz) (.int 5 ty))(hq:LR h rD rs)(hg:∀n:Int,n.natAbs<=5->(G3 n rs).2=some (g n))
  (next:∀(tl:Vf) h' tk' m' cm',Q8 [] [10] h tk m cm h' tk' m' cm' ps->cm' 10=some (.ref tl)->LI h' tl ((TS 11).map fun(j:Nat)=>g (-5+(j:Int)))->Seg 16 h' tk'):Seg 15 h tk:=by
 obtain⟨B,X,T,Se,C,l22,n22⟩:=G
 have q9:PR=PR:=rfl;unfold PR at q9;revert X q9;k_fill;intro X q9;clear q9
 have F:=H.fr
 refine E4 (A7 H 10 (by decide) (a:=(cL+1+1+1+1+1+1+1+1+1+1+1:Vf)) rfl) fun o10 news N d10 off hall=>?_
 refine oEA (H.cellC hall 9 (by decide) k9 (C7 (j:=9) (k:=10) (by decide))) fun o9 c9 d9=>?_
 replace c9:((cL+1+1+1+1+1+1+1+1+1+1:Vf),o9)∈news:=c9
 obtain⟨vu,nu,mu,iu⟩:=hq
 replace mu:=mu.memC hall (l9 10 (by decide))
 obtain⟨dx,q1,q2,q3,q4,mx,md⟩:=hy
 replace mx:=mx.memC hall (l9 10 (by decide))
 replace md:=md.memC hall (l9 10 (by decide))
 refine i6 rfl rfl ?_
 unfold PR
 k_steps
 unfold g9
 refine j5 (h₀:=cH) (L:=cL) (by walk_at "ur") (by decide) (by walk_at "ur") (by decide) (by intro _;walk_at "ur") ?_
 k_steps
 unfold g9
 rename_i h1 tk1 t1 u1 v1 hR F1 N1 kk1
 refine BU (n:=11) (fun j Z Z y=>∃t,y= .int (g (-5+(j:Int))) t) rfl hR (by decide) (by decide) (by rw[Tz];decide) (by walk_at "ur") (by walk_at "ur") F1 N1 ?elts ?fin
 case elts=>
  rintro i t C8 oC u H9 tk9 rest2 E' hi hO hu F8 N8
  have hm:(-5+(i:Int)).natAbs<=5:=(by decide+kernel:∀i:Nat,i<11->(-5+(i:Int)).natAbs<=5) i hi
  generalize -5+(i:Int)=n9 at hu hm
  have hX8:=(N8 _ (by walk_at "mem":(y,UL 69 dx)∈_)).1
  have hY8:=(N8 _ (by walk_at "mem":(dx,z9 cW.params q1 q2 q3 q4 (.ref uD) (.ref rD) (.int 0 tz) (.int 5 ty))∈_)).1
  have hZ8:=isL (a:=rD) (vs:=vu) (n:=nu) N8 (by walk_at "mem")
  have hP8:=iu.at (X0 (LG (k:=10) (by decide)) hall F8 N8 (fun p hp=>by walk_at "mem"))
  have hA8:=Kw hm
  k_steps
  unfold g9
  k_dflt (refine' use (GH _ _ _ _ _ _ _ _ _ _ vu rs _ _ n9) ?u1 ?u2 ?u3 ?u4 ?u5 ?u6 ?u7 ?u8 ?u9 ?uA ?_;walk_at "u")
  case uA=>(refine(Fs ?q0 ?q1 ?q2 ?q3 ?q4 ?q5 ?q6);(case q0=>exact hX8);(case q1=>exact hY8);(case q2=>exact hZ8);(case q3=>exact hP8);(case q4=>exact hA8.1);(case q5=>exact hA8.2.1);(case q6=>exact hA8.2.2))
  k_whole
  intro r3 h3 tk3 F3 N3 K3 P3
  rw[hg n9 hm] at P3
  refine oE P3 fun t3 e3=>?_;clear P3
  subst e3
  (try dsimp only)
  (try k_fold)
  k_steps
  all_goals(rename News _ _ _ _=>M8;exact j3.intro (by assumption) M8 (fun p hp=>by walk_at "mem") ⟨_,rfl⟩)
 case fin=>
  (intro _ r0_;(refine oEE r0_ fun Z Z o0_=>?_;clear r0_;obtain rfl:=o0_);intro D8 ys8 k8 h8 tk8 F8 N8 O8 P8)
  have I8:=g8 P8
  have zD8: @Ne Nat D8 (cL+1+1+1+1+1+1+1+1+1+1+1:Vf):=Ne.symm (O8 ((cL+1+1+1+1+1+1+1+1+1+1+1:Vf),o10) (by walk_at "mem"))
  k_steps
  rename_i dA
  refine T3.mk fun hT9=>?_
  rename Fr _ _ _ _=>F9
  rename News _ _ _ _=>N9
  refine next D8 _ _ _ _ (B2 [] 10 rfl H hall hT9 n22 l22 F9 N9 (by walk_at "mem") dA (fun p hp=>by walk_at "mem") (by decide) (fun y hy=>rfl)) (if_pos rfl) ⟨ys8,k8,l4 H hall n22 l22 N9 (by walk_at "mem") (Ne.symm zD8) (fun q hq=>O8 q (by walk_at "mem")),I8⟩
end Mine
end
section
open PySem PySem.W PySem.Calls PyProof.Rows
namespace Mine
open S (sK0 sK2 sK17 sK18 sK19 sK20 sK5 sK15 sK27 sK25)
theorem OA{se:Vf}{sen:List Int}{h:Vg}{tk:Nat}{m:Vk->Option UX}{cm:Nat->Option UX}{ps:Array UX}(G:Hyp)(H:j7 h m cm ps)(k7:cm 7=some (.ref se))(he:LI h se sen)(hel:sen.length<100)(heb:∀y∈sen,QE y<=2 ^ 26)
  (next:∀(sg:Vf) h' tk' m',Q8 [(Ta "signs")] [] h tk m cm h' tk' m' cm ps->m' (Ta "signs")=some (.ref sg)->LI h' sg ((TS 11).map fun(j:Nat)=>i0 sen (2*(-5+(j:Int))))->Seg 17 h' tk'):Seg 16 h tk:=by
 obtain⟨B,X,T,Se,C,l22,n22⟩:=G
 have q9:PR=PR:=rfl;unfold PR at q9;revert X q9;k_fill;intro X q9;clear q9
 have F:=H.fr
 refine oEA (i4 F) fun news N hall=>?_
 refine oEA (H.cell hall 7 (by decide) k7) fun o7 c7 d7=>?_
 replace c7:((cL+1+1+1+1+1+1+1+1:Vf),o7)∈news:=c7
 obtain⟨vu,nu,mu,iu⟩:=he
 replace mu:=mu.mem hall
 refine i6 rfl rfl ?_
 unfold PR
 k_steps
 unfold g9
 refine wpK.any ?_
 refine v9 (h₀:=cH) (by walk_at "ur") (by walk_at "ur") (by decide) (by walk_at "ur") (by decide) (by intro _;walk_at "ur") (by walk_at "ur") (by walk_at "ur") ?_
 k_steps
 unfold g9
 rename_i h1 tk1 t1 u1 v1 hR F1 N1 kk1
 refine BU (n:=11) (fun j Z Z y=>∃t,y= .int (i0 sen (2*(-5+(j:Int)))) t) rfl hR (by decide) (by decide) (by rw[Tz];decide) (by walk_at "ur") (by walk_at "ur") F1 N1 ?elts ?fin
 case elts=>
  rintro i t C8 oC u H9 tk9 rest2 E' hi hO hu F8 N8
  have hm:(-5+(i:Int)).natAbs<=5:=(by decide+kernel:∀i:Nat,i<11->(-5+(i:Int)).natAbs<=5) i hi
  generalize -5+(i:Int)=n9 at hu hm
  have hl8:=isL (a:=se) (vs:=vu) (n:=nu) N8 (by walk_at "mem")
  k_steps
  unfold g9
  k_dflt (refine' Aw (FV _ _ _ _ _) ?u1 ?u2 ?u3 ?u4 ?u5 ?u6 ?u7 ?u8 ?u9 ?uA ?_;walk_at "u")
  case uA=>(refine(Ft ?q0 ?q1 ?q2 ?q3 ?q4);(case q0=>exact hl8);(case q1=>assumption);(case q2=>exact hel);(case q3=>exact iaB (P:=fun z=> -2 ^ 60<2*z/\2*z<2 ^ 60) hm (by decide+kernel));(case q4=>exact heb))
  k_whole
  intro h3 tk3 F3 N3 K3 t3
  (try dsimp only)
  (try k_fold)
  k_steps
  all_goals(rename News _ _ _ _=>M8;exact j3.intro (by assumption) M8 (fun p hp=>by walk_at "mem") ⟨_,rfl⟩)
 case fin=>
  (intro _ r0_;(refine oEE r0_ fun Z Z o0_=>?_;clear r0_;obtain rfl:=o0_);intro D8 ys8 k8 h8 tk8 F8 N8 O8 P8)
  have I8:=g8 P8
  rintro h9 tk9 F9 N9
  k_steps
  refine T3.mk fun hT9=>?_
  rename Fr _ _ _ _=>F9
  rename News _ _ _ _=>N9
  refine next D8 _ _ _ (i8 [(Ta "signs")] H hall hT9 n22 l22 F9 N9 (fun p hp=>by walk_at "mem") (fun y hy=>if_neg (V5 hy))) (by first|exact rfl|exact if_pos rfl|with_unfolding_all exact rfl) ⟨ys8,k8,p6 H hall n22 l22 N9 (by walk_at "mem") (fun q hq=>O8 q (by walk_at "mem")),I8⟩
end Mine
end
section
open PySem PySem.W PySem.Calls PyProof.Rows
namespace Mine
open S (sK0 sK2 sK17 sK18 sK19 sK20 sK15 sK27 sK25)
theorem Oz{tl sg:Vf}{sgn:List Int}{h:Vg}{tk:Nat}{m:Vk->Option UX}{cm:Nat->Option UX}{ps:Array UX}(G:Hyp)(H:j7 h m cm ps)(k10:cm 10=some (.ref tl))(ht:LI h tl (sgn.map BB))(hs:LI h sg sgn)(hsl:sgn.length<100)(hb:m (Ta "signs")=some (.ref sg))
  (next:∀h' tk' m',Q8 [] [] h tk m cm h' tk' m' cm ps->Seg 18 h' tk'):Seg 17 h tk:=by
 obtain⟨B,X,T,Se,C,l22,n22⟩:=G
 have q9:PR=PR:=rfl;unfold PR at q9;revert X q9;k_fill;intro X q9;clear q9
 have F:=H.fr
 refine oEA (i4 F) fun news N hall=>?_
 refine oEA (H.cell hall 10 (by decide) k10) fun o10 c10 d10=>?_
 replace c10:((cL+1+1+1+1+1+1+1+1+1+1+1:Vf),o10)∈news:=c10
 obtain⟨vu,nu,mu,iu⟩:=ht
 replace mu:=mu.mem hall
 obtain⟨vs,ns,ms,js⟩:=hs
 replace ms:=ms.mem hall
 refine oA (Fr.putS F (hb)) fun F e09=>?_
 refine i6 rfl rfl ?_
 unfold PR
 k_steps
 unfold g9
 refine j5 (h₀:=cH) (L:=cL) (by walk_at "ur") (by decide) (by walk_at "ur") (by decide) (by intro _;walk_at "ur") ?_
 k_steps
 unfold g9
 have hlS:=isL (a:=sg) (vs:=vs) (n:=ns) N (by walk_at "mem")
 refine y2 (fun j Z Z y=>∃t,y= .int ((fun x=>BB x) (sgn.getD j 0)) t) rfl hlS (by rw[js.length,Tz];omega) (by walk_at "ur") (by walk_at "ur") F N (s9 (o:=W.listOf vs.toArray ns) N (by walk_at "mem")) ?elts8 ?fin8
 case elts8=>
  rintro j8 v8 C8 oC8 u8 H8 tk8 rest8 E8 hv8 hO8 hu8 F8 N8
  (refine y8 (n5 js hv8) fun r8 t8 hr8 o0_=>?_;obtain rfl:=o0_)
  have hm8:=Qt hr8
  replace hr8:=v4 hr8
  k_steps
  unfold g9
  k_dflt (refine' NS (Kf _ _ _ _) ?u1 ?u2 ?u3 ?u4 ?u5 ?u6 ?u7 ?u8 ?u9 ?uA ?_;walk_at "u")
  case uA=>trivial
  k_whole
  intro h5 tk5 F5 N5 K5
  (try dsimp only)
  (try k_fold)
  k_steps
  ·(rename News _ _ _ _=>M8;refine j3.intro (by assumption) M8 (fun p hp=>by walk_at "mem") ⟨_,congrArg (fun z=>Ur z _) ?_⟩;show _=BB _;rw[hr8];unfold BB;split <;> (try split) <;> omega)
  unfold g9
  k_dflt (refine' NS (Kf _ _ _ _) ?u1 ?u2 ?u3 ?u4 ?u5 ?u6 ?u7 ?u8 ?u9 ?uA ?_;walk_at "u")
  case uA=>trivial
  k_whole
  intro h6 tk6 F6 N6 K6
  (try dsimp only)
  (try k_fold)
  k_steps
  all_goals(rename News _ _ _ _=>M8;refine j3.intro (by assumption) M8 (fun p hp=>by walk_at "mem") ⟨_,congrArg (fun z=>Ur z _) ?_⟩;show _=BB _;rw[hr8];unfold BB;split <;> (try split) <;> omega)
 case fin8=>
  (intro _ r0_;(refine oEE r0_ fun Z Z o0_=>?_;clear r0_;obtain rfl:=o0_);intro D8 ys8 k8 h8 tk8 F8 N8 O8 P8)
  have I8:UG ys8 (sgn.map (fun x=>BB x)):=by
   have:=g8 P8
   rw[js.length,j6 (fun x=>BB x)] at this
   exact this
  k_steps
  unfold g9
  rename Fr _ _ _ _=>F7
  rename News _ _ _ _=>N7
  refine Fm (reads_of_ints (isL (a:=tl) (vs:=vu) (n:=nu) N7 (by walk_at "mem")) iu) (reads_of_ints (isL (a:=D8) (vs:=ys8) (n:=k8) N7 (by walk_at "mem")) I8) (shaped_ints _) (by ke_room) ?_
  k_steps
  refine T3.mk fun hT9=>?_
  rename Fr _ _ _ _=>F9
  rename News _ _ _ _=>N9
  refine next _ _ _ (i8 [] H hall hT9 n22 l22 F9 N9 (fun p hp=>by walk_at "mem") (fun y hy=>e09 y))
end Mine
end
section
open PySem PySem.W PySem.Calls PyProof.Rows
namespace Mine
open S (sK0 sK2 sK17 sK18 sK19 sK20 sK15 sK27 sK30 sK31)
theorem Oy{tl y uD rD:Vf}{tn:List Int}{rs:List RuleD}{tz ty:Vm}{h:Vg}{tk:Nat}{m:Vk->Option UX}{cm:Nat->Option UX}{ps:Array UX}(G:Hyp)(H:j7 h m cm ps)(k10:cm 10=some (.ref tl))(k9:cm 9=some (.ref y))(ht:LI h tl tn)(htl:tn.length<100)(hy:Cn h y uD rD (.int 0 tz) (.int 5 ty))(hq:LR h rD rs)(hg:(G3 100 rs).2=none)
  (next:∀h' tk' m',Q8 [] [] h tk m cm h' tk' m' cm ps->Seg 19 h' tk'):Seg 18 h tk:=by
 obtain⟨B,X,T,Se,C,l22,n22⟩:=G
 have q9:PR=PR:=rfl;unfold PR at q9;revert X q9;k_fill;intro X q9;clear q9
 have F:=H.fr
 refine oEA (i4 F) fun news N hall=>?_
 refine oEA (H.cell hall 10 (by decide) k10) fun o10 c10 d10=>?_
 replace c10:((cL+1+1+1+1+1+1+1+1+1+1+1:Vf),o10)∈news:=c10
 refine oEA (H.cell hall 9 (by decide) k9) fun o9 c9 d9=>?_
 replace c9:((cL+1+1+1+1+1+1+1+1+1+1:Vf),o9)∈news:=c9
 obtain⟨vt,nt,mt,it⟩:=ht
 replace mt:=mt.mem hall
 obtain⟨vu,nu,mu,iu⟩:=hq
 replace mu:=mu.mem hall
 obtain⟨dx,q1,q2,q3,q4,mx,md⟩:=hy
 replace mx:=mx.mem hall
 replace md:=md.mem hall
 refine i6 rfl rfl ?_
 unfold PR
 k_steps
 unfold g9
 refine j5 (h₀:=cH) (L:=cL) (by walk_at "ur") (by decide) (by walk_at "ur") (by decide) (by intro _;walk_at "ur") ?_
 k_steps
 unfold g9
 have hlT:=isL (a:=tl) (vs:=vt) (n:=nt) N (by walk_at "mem")
 refine y2 (fun j Z Z y=>y= .bool false) rfl hlT (by rw[it.length,Tz];omega) (by walk_at "ur") (by walk_at "ur") F N (s9 (o:=W.listOf vt.toArray nt) N (by walk_at "mem")) ?elts ?fin
 case elts=>
  rintro j v C8 oC u H9 tk9 rest2 E' hv hO hu F8 N8
  (refine y8 (n5 it hv) fun r t hr o0_=>?_;obtain rfl:=o0_)
  k_steps
  rename News _ _ _ _=>M8
  exact j3.intro (by assumption) M8 (fun p hp=>by walk_at "mem") rfl
 case fin=>
  (intro _ r0_;(refine oEE r0_ fun Z Z o0_=>?_;clear r0_;obtain rfl:=o0_);intro D5 ys5 k5 h5 tk5 F5 N5 O5 P5)
  k_steps
  unfold g9
  refine SeqAt.in_list_reads (SW (N5.get (a:=D5) (by walk_at "mem")) rfl rfl (BE P5)) (Uh true) (BM _ _).1 rfl ?room ?_
  case room=>
   rw[(BM _ _).2,Nat.zero_min]
   exact Qr rfl
  rw[ET]
  have hX8:=(N5 _ (by walk_at "mem":(y,UL 69 dx)∈_)).1
  have hY8:=(N5 _ (by walk_at "mem":(dx,z9 cW.params q1 q2 q3 q4 (.ref uD) (.ref rD) (.int 0 tz) (.int 5 ty))∈_)).1
  have hZ8:=isL (a:=rD) (vs:=vu) (n:=nu) N5 (by walk_at "mem")
  have hP8:=iu.at (Ad hall F5 N5 (fun p hp=>by walk_at "mem"))
  have hA8:=Ji
  k_steps
  unfold g9
  k_dflt (refine' use (GH _ _ _ _ _ _ _ _ _ _ vu rs _ _ 100) ?u1 ?u2 ?u3 ?u4 ?u5 ?u6 ?u7 ?u8 ?u9 ?uA ?_;walk_at "u")
  case uA=>(refine(Fs ?q0 ?q1 ?q2 ?q3 ?q4 ?q5 ?q6);(case q0=>exact hX8);(case q1=>exact hY8);(case q2=>exact hZ8);(case q3=>exact hP8);(case q4=>exact hA8.1);(case q5=>exact hA8.2.1);(case q6=>exact hA8.2.2))
  k_whole
  intro r3 h3 tk3 F3 N3 K3 P3
  rw[hg] at P3
  replace P3:r3=Ub true:=P3
  subst P3
  (try dsimp only)
  (try k_fold)
  k_steps
  refine T3.mk fun hT9=>?_
  rename Fr _ _ _ _=>F9
  rename News _ _ _ _=>N9
  refine next _ _ _ (i8 [] H hall hT9 n22 l22 F9 N9 (fun p hp=>by walk_at "mem") (fun y hy=>rfl))
end Mine
end
section
open PySem PySem.W PySem.Calls PyProof.Rows
namespace Mine
open S (sK0 sK2 sK17 sK18 sK19 sK20 sK15 sK27 sK32)
theorem Ox{ro y uD rD:Vf}{rn on:List Int}{tz ty:Vm}{h:Vg}{tk:Nat}{m:Vk->Option UX}{cm:Nat->Option UX}{ps:Array UX}(G:Hyp)(H:j7 h m cm ps)(k3:cm 3=some (.ref ro))(k9:cm 9=some (.ref y))(hr:LI h ro rn)(hrl:rn.length<=4)(hrb:∀x∈rn,x.natAbs<=4)(hy:Cn h y uD rD (.int 0 tz) (.int 5 ty))(hu:LT h uD ((rn.filter fun r=>decide (r∈on)).map showI))
  (next:∀(en:Vf) h' tk' m',Q8 [(Ta "ends")] [] h tk m cm h' tk' m' cm ps->m' (Ta "ends")=some (.ref en)->LI h' en (a9 (L2 on [] rn))->Seg 20 h' tk'):Seg 19 h tk:=by
 obtain⟨B,X,T,Se,C,l22,n22⟩:=G
 have q9:PR=PR:=rfl;unfold PR at q9;revert X q9;k_fill;intro X q9;clear q9
 have F:=H.fr
 refine oEA (i4 F) fun news N hall=>?_
 refine oEA (H.cell hall 3 (by decide) k3) fun o3 c3 d3=>?_
 replace c3:((cL+1+1+1+1:Vf),o3)∈news:=c3
 refine oEA (H.cell hall 9 (by decide) k9) fun o9 c9 d9=>?_
 replace c9:((cL+1+1+1+1+1+1+1+1+1+1:Vf),o9)∈news:=c9
 obtain⟨vr,nr,mr,ir⟩:=hr
 replace mr:=mr.mem hall
 obtain⟨vu,nu,mu,iu⟩:=hu
 replace mu:=mu.mem hall
 obtain⟨dx,q1,q2,q3,q4,mx,md⟩:=hy
 replace mx:=mx.mem hall
 replace md:=md.mem hall
 refine i6 rfl rfl ?_
 unfold PR
 k_steps
 unfold g9
 refine j5 (h₀:=cH) (L:=cL) (by walk_at "ur") (by decide) (by walk_at "ur") (by decide) (by intro _;walk_at "ur") ?_
 k_steps
 unfold g9
 have hlR:=isL (a:=ro) (vs:=vr) (n:=nr) N (by walk_at "mem")
 refine FK (fun j=>decide (rn.getD j 0∈[]++rn.take j\/rn.getD j 0∈on)) (fun j Z Z y=>∃t,y= .int ((fun Z x=>x) j (rn.getD j 0)) t) rfl hlR (by rw[ir.length,Tz];omega) (by walk_at "ur") (by walk_at "ur") (by decide) (by walk_at "ur") F N (s9 (o:=W.listOf vr.toArray nr) N (by walk_at "mem")) ?tests ?elts8 ?fin8
 case elts8=>
  rintro j8 v8 tj8 C8 oC8 u8 H8 tk8 rest8 E8 hv8 hp8 hO8 hj8 hu8 F8 N8
  (refine y8 (n5 ir hv8) fun r8 t8 hr8 o0_=>?_;obtain rfl:=o0_)
  have hm8:=Qt hr8
  have hlt8:=(PZ.mp hr8).1
  replace hr8:=v4 hr8
  k_steps
  rename News _ _ _ _=>M8
  exact j3.intro (by assumption) M8 (fun p hp=>by walk_at "mem") ⟨_,by rw[hr8]⟩
 case fin8=>
  (intro _ r0_;(refine oEE r0_ fun Z Z o0_=>?_;clear r0_;obtain rfl:=o0_);intro D8 ys8 k8 h8 tk8 F8 N8 O8 P8)
  have I8:=g8 P8
  rw[ir.length,show(fun j=>(fun(Z:Nat) (x:Int)=>x) j (rn.getD j 0))=fun j=>rn.getD j 0 from rfl,CH on rn [] [] fun x=>Iff.rfl] at I8
  have hle:(L2 on [] rn).length<=rn.length:=DD on rn []
  have hlb:∀x∈L2 on [] rn,x.natAbs<=4:=fun x hx=>hrb x (DC on rn [] x hx)
  have hl8:=isL (a:=D8) (vs:=ys8) (n:=k8) N8 (SI _)
  k_steps
  unfold g9
  k_dflt (refine' KC (AB _ _ _) ?u1 ?u2 ?u3 ?u4 ?u5 ?u6 ?u7 ?u8 ?u9 ?uA ?_;walk_at "u")
  case uA=>(refine(Js ?q0 ?q1 ?q2 ?q3);(case q0=>exact hl8);(case q1=>exact I8);(case q2=>omega);(case q3=>(intro x hx;have:=hlb x hx;omega)))
  k_whole
  intro D1 v1 n1 h1 tk1 F1 N1 O1 I1
  (try dsimp only)
  (try k_fold)
  k_steps
  refine T3.mk fun hT9=>?_
  rename Fr _ _ _ _=>F9
  rename News _ _ _ _=>N9
  refine next D1 _ _ _ (i8 [(Ta "ends")] H hall hT9 n22 l22 F9 N9 (fun p hp=>by walk_at "mem") (fun y hy=>if_neg (V5 hy))) (by first|exact rfl|exact if_pos rfl|with_unfolding_all exact rfl) ⟨v1,n1,p6 H hall n22 l22 N9 (by walk_at "mem") (fun q hq=>O1 q (by walk_at "mem")),I1⟩
 case tests=>
  rintro j v tj C8 oC u H9 tk9 rest2 E' hv hO hj hu8 F8 N8
  (refine y8 (n5 ir hv) fun r t hr o0_=>?_;obtain rfl:=o0_)
  have hm:=hrb r (Qt hr)
  have hm2:=Qt hr
  replace hr:=v4 hr
  have hlR8:=isL (a:=ro) (vs:=vr) (n:=nr) N8 (by walk_at "mem")
  refine U8 ?_
  k_steps
  ·rename_i hin
   rename News _ _ _ _=>M8
   refine p9.intro (by assumption) M8 (fun p hp=>by walk_at "mem") ?_
   rw[hr]
   refine(decide_eq_true (.inl ?_)).symm
   rw[GG] at hin
   simpa using hin
  ·rename_i hin
   unfold g9
   rename News _ _ _ _=>M8
   have hT:∀x∈rn.filter fun r=>decide (r∈on),x.natAbs<=4:=fun x hx=>hrb x (Sd.mp hx).1
   refine SeqAt.in_list_reads (SW (M8.get (a:=uD) (by walk_at "mem")) rfl rfl (AA iu)) (Reads.str _ _) (Bl hT).1 (HY r (T8 hm)) ?room ?_
   case room=>
    rw[(Bl hT).2,Nat.zero_min]
    exact Qr rfl
   rw[MB hT hm]
   k_steps
   all_goals(refine p9.intro (by assumption) M8 (fun p hp=>by walk_at "mem") ?_;rw[hr];rw[GG] at hin;simp only[Sb,Sd,hm2,true_and,decide_eq_true_eq] at*;simp_all)
end Mine
end
section
open PySem PySem.W PySem.Calls PyProof.Rows
namespace Mine
theorem S.gN20:True:=trivial
open S (sK0 sK2 sK17 sK18 sK19 sK20 sK15 sK27 sK33 sK34 gN20)
theorem Od:True:=by
 k_with "subscriptTail"=>(guard_expr gN20=ₛ gN20;(refine Gj (by assumption) ?_ (by walk_at "ur")))
 trivial
theorem Ow{ch en:Vf}{init:List (List Int)}{la enn:List Int}{h:Vg}{tk:Nat}{m:Vk->Option UX}{cm:Nat->Option UX}{ps:Array UX}(G:Hyp)(H:j7 h m cm ps)(k8:cm 8=some (.ref ch))(hc:LL h ch (init++[la]))(hcl:init.length<100)(hla:la=enn\/la=enn.map (- ·))(he:LI h en enn)(hel:enn.length<100)(hb:m (Ta "ends")=some (.ref en))
  (next:∀h' tk' m',Q8 [] [] h tk m cm h' tk' m' cm ps->Seg 21 h' tk'):Seg 20 h tk:=by
 obtain⟨B,X,T,Se,C,l22,n22⟩:=G
 have q9:PR=PR:=rfl;unfold PR at q9;revert X q9;k_fill;intro X q9;clear q9
 have F:=H.fr
 refine oEA (i4 F) fun news N hall=>?_
 refine oEA (H.cell hall 8 (by decide) k8) fun o8 c8 d8=>?_
 replace c8:((cL+1+1+1+1+1+1+1+1+1:Vf),o8)∈news:=c8
 obtain⟨vr,nr,mr,ir⟩:=he
 replace mr:=mr.mem hall
 obtain⟨vc,nc,mc,pc⟩:=hc
 replace mc:=mc.mem hall
 (refine Iq (Paired.last_of pc) fun pre v o0_ Z r us o1_ hrow ius=>?_;obtain rfl:=o0_;obtain rfl:=o1_)
 have hlC:=isL (a:=ch) (vs:=pre++[Ul r]) (n:=nc) N (by walk_at "mem")
 refine oA (Fr.putS F (hb)) fun F e09=>?_
 have hlE:=isL (a:=en) (vs:=vr) (n:=nr) N (by walk_at "mem")
 refine i6 rfl rfl ?_
 unfold PR
 k_steps
 unfold g9
 refine j5 (h₀:=cH) (L:=cL) (by walk_at "ur") (by decide) (by walk_at "ur") (by decide) (by intro _;walk_at "ur") ?_
 k_steps
 unfold g9
 refine y2 (fun j Z Z y=>∃t,y= .int ((fun x=> -x) (enn.getD j 0)) t) rfl hlE (by rw[ir.length,Tz];omega) (by walk_at "ur") (by walk_at "ur") F N (s9 (o:=W.listOf vr.toArray nr) N (by walk_at "mem")) ?elts8 ?fin8
 case elts8=>
  rintro j8 v8 C8 oC8 u8 H8 tk8 rest8 E8 hv8 hO8 hu8 F8 N8
  (refine y8 (n5 ir hv8) fun r8 t8 hr8 o0_=>?_;obtain rfl:=o0_)
  have hm8:=Qt hr8
  replace hr8:=v4 hr8
  k_steps
  unfold g9
  k_dflt (refine' Aw (Er _ _) ?u1 ?u2 ?u3 ?u4 ?u5 ?u6 ?u7 ?u8 ?u9 ?uA ?_;walk_at "u")
  case uA=>trivial
  k_whole
  intro h5 tk5 F5 N5 K5 t5
  (try dsimp only)
  (try k_fold)
  k_steps
  rename News _ _ _ _=>M8
  exact j3.intro (by assumption) M8 (fun p hp=>by walk_at "mem") ⟨_,by rw[hr8]⟩
 case fin8=>
  (intro _ r0_;(refine oEE r0_ fun Z Z o0_=>?_;clear r0_;obtain rfl:=o0_);intro D8 ys8 k8 h8 tk8 F8 N8 O8 P8)
  have I8:UG ys8 (enn.map (fun x=> -x)):=by
   have:=g8 P8
   rw[ir.length,j6 (fun x=> -x)] at this
   exact this
  k_steps
  unfold g9
  rename_i l2 h2 F2 N2 q2
  refine SeqAt.notIn_list_reads (xs:=[.list (enn.map Ui), .list ((enn.map (- ·)).map Ui)]) (SW (N2.get (a:=l2) (by walk_at "mem")) rfl rfl (SN (reads_of_ints (isL (a:=en) (vs:=vr) (n:=nr) N2 (by walk_at "mem")) ir) (SN (reads_of_ints (isL (a:=D8) (vs:=ys8) (n:=k8) N2 (by walk_at "mem")) I8) Uy.nil))) (reads_of_ints (hrow _ (Ad hall F2 N2 (fun p hp=>by walk_at "mem"))) ius) (Du _ _).1 (Du la la).2 ?room ?_
  case room=>
   have h1:=W.depthAll_ints la
   have h2:(UR.list (la.map Ui)).depth<=2:=by simp only[UR.depth];omega
   refine QS (QJ (Td (Nat.min_le_right _ _) h2) _) ?_
   exact Qr rfl
  rw[Kz hla]
  k_steps
  refine T3.mk fun hT9=>?_
  rename Fr _ _ _ _=>F9
  rename News _ _ _ _=>N9
  refine next _ _ _ (i8 [] H hall hT9 n22 l22 F9 N9 (fun p hp=>by walk_at "mem") (fun y hy=>e09 y))
end Mine
end
section
open PySem PySem.W PySem.Calls PyProof.Rows
namespace Mine
open S (sK0 sK2 sK17 sK18 sK19 sK20 sK5)
theorem Ov{ch pt:Vf}{chn:List (List Int)}{pn:List Int}{h:Vg}{tk:Nat}{m:Vk->Option UX}{cm:Nat->Option UX}{ps:Array UX}(G:Hyp)(H:j7 h m cm ps)(k8:cm 8=some (.ref ch))(k5:cm 5=some (.ref pt))(hc:LL h ch chn)(hcl:chn.length<100)(hcr:∀row∈chn,row.length<100/\∀y∈row,QE y<=2 ^ 26)(hp:LI h pt pn)(hpl:pn.length=4)(hpb:∀p∈pn, -9<=p/\p<=9)
  (next:∀(rw:Vf) h' tk' m' ps',Q8 [(Ta "rows")] [] h tk m cm h' tk' m' cm ps'->m' (Ta "rows")=some (.ref rw)->LL h' rw (pn.map fun p=>chn.map fun row=>i0 row p)->Seg 22 h' tk'):Seg 21 h tk:=by
 obtain⟨B,X,T,Se,C,l22,n22⟩:=G
 have q9:PR=PR:=rfl;unfold PR at q9;revert X q9;k_fill;intro X q9;clear q9
 have F:=H.fr
 refine L1 (T7 H n22 l22) fun news N off hall=>?_
 refine oEA (H.cellC hall 8 (by decide) k8 (A3 l22 8)) fun o8 c8 d8=>?_
 replace c8:((cL+1+1+1+1+1+1+1+1+1:Vf),o8)∈news:=c8
 refine oEA (H.cellC hall 5 (by decide) k5 (A3 l22 5)) fun o5 c5 d5=>?_
 replace c5:((cL+1+1+1+1+1+1:Vf),o5)∈news:=c5
 obtain⟨vr,nr,mr,ir⟩:=hp
 replace mr:=mr.memC hall M2
 obtain⟨vc,nc,mc,pc⟩:=hc
 replace mc:=mc.memC hall M2
 have hvl:vc.length=chn.length:=pc.length
 have hlR:=isL (a:=pt) (vs:=vr) (n:=nr) N (by walk_at "mem")
 refine i6 rfl rfl ?_
 unfold PR
 k_steps
 unfold g9
 refine BX (h₀:=cH) (by walk_at "ur") (by walk_at "ur") (by walk_at "ur") (by decide) (by intro _;walk_at "ur") (by walk_at "ur") (by walk_at "ur") ?_
 k_steps
 unfold g9
 refine Je (fun j H ha y=>PH (chn.map fun row=>i0 row (pn.getD j 0)) H ha y) rfl hlR (by rw[ir.length,hpl,Tz];decide) (by with_unfolding_all(intro _ _;rfl)) (by intro _;with_unfolding_all rfl) (by walk_at "ur") F N off H.ok (s9 (o:=W.listOf vr.toArray nr) N (by walk_at "mem")) (off _ mr) ?elts ?fin
 case elts=>
  rintro i v C9 oC oc u H9 tk9 rest2 ps2 E' hv hO hoc hmc F8 N8 hne ok8
  (refine y8 (n5 ir hv) fun r t hr o0_=>?_;obtain rfl:=o0_)
  have hb8:=hpb r (Qt hr)
  replace hr:=v4 hr
  rw[hr]
  have F8:Fr cH cL H9 _:=F8
  have N8:News cH cL H9 _:=N8
  have hlC:=isL (a:=ch) (vs:=vc) (n:=nc) N8 (by walk_at "mem")
  refine oEA (i4 F8) fun rA NA hA=>?_
  have N9:=News.app N8 NA
  k_steps
  unfold g9
  refine j5 (h₀:=cH) (L:=cL) (by walk_at "ur") (by decide) (by walk_at "ur") (by decide) (by intro _;walk_at "ur") ?_
  k_steps
  unfold g9
  refine y2 (fun j Z Z y=>∃t,y= .int (i0 (chn.getD j []) r) t) rfl hlC (by rw[hvl,Tz];omega) (by walk_at "ur") (by walk_at "ur") F8 N9 (Dr F8 hlC) ?elts2 ?fin2
  case elts2=>
   rintro j v2 C2 oC2 u2 H2 tk2 rest3 E2 hv2 hO2 hu2 F7 N7
   (refine It (Ag pc hv2) fun row hrow r2 us2 o0_ hat ius=>?_;obtain rfl:=o0_)
   have hrw:=hcr row (Qt hrow)
   have hrw2:chn.getD j []=row:=by rw[PV,hrow];rfl
   have hl2:=hat _ (X0 (own:=[(222,UQ ps)]) (fun p hp=>by rw[QQ.mp hp];exact M2) hall F7 N7 (fun p hp=>by walk_at "mem"))
   k_steps
   unfold g9
   k_dflt (refine' Aw (FV _ _ _ _ _) ?u1 ?u2 ?u3 ?u4 ?u5 ?u6 ?u7 ?u8 ?u9 ?uA ?_;walk_at "u")
   case uA=>(refine(Ft ?q0 ?q1 ?q2 ?q3 ?q4);(case q0=>exact hl2);(case q1=>exact ius);(case q2=>exact hrw.1);(case q3=>omega);(case q4=>exact hrw.2))
   k_whole
   intro h3 tk3 F3 N3 K3 t3
   (try dsimp only)
   (try k_fold)
   k_steps
   all_goals(rename News _ _ _ _=>M8;exact j3.intro (by assumption) M8 (fun p hp=>by walk_at "mem") ⟨_,by rw[hrw2]⟩)
  case fin2=>
   (intro _ r0_;(refine oEE r0_ fun Z Z o0_=>?_;clear r0_;obtain rfl:=o0_);intro D2 ys2 k2 h2 tk2 F2 N2 O2 P2)
   have I2:UG ys2 (chn.map fun row=>i0 row r):=by
    have h9:=g8 P2
    rw[hvl,Y1 (fun row=>i0 row r)] at h9
    exact h9
   have N2K:News cH cL h2 ((222,UQ ps2)::(C9,oC)::(news++rest2)):=fun q hq=>N2 q (by walk_at "mem")
   have ok2:A5 h2 222 qualR ps2:=ok8.up (CL hA F8 F2 N2 (fun p hp=>by walk_at "mem"))
   have q2:=MT hA N2 O2 (fun p hp=>by walk_at "mem")
   k_steps
   exact W4.intro F2 N2K ok2 ⟨D2,ys2,k2,rfl,(N2 _ (SI _)).1,q2,⟨_,F8.ns.choose_spec.choose_spec.choose_spec.1⟩,I2⟩
 case fin=>
  (intro s₂ r0_;(refine y8 r0_ fun Z Z o0_ hsz=>?_;clear r0_;obtain rfl:=o0_);intro D5 ys k5 h5 tk5 ps5 F5 N5 O5 ok5 P5)
  rintro h9 tk9 F9 N9 k9
  k_steps
  have h22:h9.get? 222=some (UQ ps5):=k9 222 _ (N5 _ (.tail _ (.head _))).2.1 (Te (Ri (QR (Tc (N _ (.head _)).1) hsz))) (N5 _ (.tail _ (.head _))).1
  have N9:News cH cL h9 _:=N9
  have F9:Fr cH cL h9 _:=F9
  have ok9:A5 h9 222 qualR ps5:=HL ok5 F5 k9
  refine T3.mk fun hT9=>?_
  have Z9:=C1 [Ta "rows"] H hall hT9 l22 F9 N9 h22 ok9 (fun p hp=>by walk_at "mem") (fun y hy=>if_neg (V5 hy))
  refine next D5 _ _ _ _ Z9 (if_pos rfl) ⟨ys,k5,l4 H hall n22 l22 N9 (by walk_at "mem") (O5 (222,UQ ps5) (SI _)) (fun q hq=>O5 q (by walk_at "mem")),?ll⟩
  case ll=>
   have R:=MK Z9.law k9 P5
   rw[ir.length,j6 (fun p=>chn.map fun row=>i0 row p)] at R
   exact R
end Mine
end
section
open PySem PySem.W PySem.Calls PyProof.Rows
namespace Mine
open S (sK0 sK2 sK17 sK18 sK19 sK20 sK5)
theorem Ou{rw:Vf}{rwn:List (List Int)}{h:Vg}{tk:Nat}{m:Vk->Option UX}{cm:Nat->Option UX}{ps:Array UX}(G:Hyp)(H:j7 h m cm ps)(hr:LL h rw rwn)(hrl:rwn.length=4)(hrr:∀row∈rwn,row.length<=7)(hb:m (Ta "rows")=some (.ref rw))
  (next:∀(tx:Vf) h' tk' m',Q8 [(Ta "texts")] [] h tk m cm h' tk' m' cm ps->m' (Ta "texts")=some (.ref tx)->LT h' tx (rwn.map JF)->Seg 23 h' tk'):Seg 22 h tk:=by
 obtain⟨B,X,T,Se,C,l22,n22⟩:=G
 have q9:PR=PR:=rfl;unfold PR at q9;revert X q9;k_fill;intro X q9;clear q9
 have F:=H.fr
 refine oEA (i4 F) fun news N hall=>?_
 obtain⟨vr,nr,mr,pr⟩:=hr
 replace mr:=mr.mem hall
 have hvl:vr.length=4:=pr.length.trans hrl
 refine oA (Fr.putS F (hb)) fun F e09=>?_
 have hlR:=isL (a:=rw) (vs:=vr) (n:=nr) N (by walk_at "mem")
 refine i6 rfl rfl ?_
 unfold PR
 k_steps
 unfold g9
 refine wpK.any ?_
 refine v9 (h₀:=cH) (by walk_at "ur") (by walk_at "ur") (by decide) (by walk_at "ur") (by decide) (by intro _;walk_at "ur") (by walk_at "ur") (by walk_at "ur") ?_
 k_steps
 unfold g9
 refine y2 (fun j Z Z y=>∃t,y= .str (JF (rwn.getD j [])) t) rfl hlR (by rw[hvl,Tz];decide) (by walk_at "ur") (by walk_at "ur") F N (s9 N mr) ?elts ?fin
 case elts=>
  rintro j v C8 oC u H9 tk9 rest2 E' hv hO hu F8 N8
  (refine It (Ag pr hv) fun row hrow r2 us2 o0_ hat ius=>?_;obtain rfl:=o0_)
  have hrw:=hrr row (Qt hrow)
  have hrw2:rwn.getD j []=row:=by rw[PV,hrow];rfl
  k_steps
  unfold g9
  refine j5 (h₀:=cH) (L:=cL) (by walk_at "ur") (by decide) (by walk_at "ur") (by decide) (by intro _;walk_at "ur") ?_
  k_steps
  unfold g9
  have hl2:=hat _ (Ad hall F8 N8 (fun p hp=>by walk_at "mem"))
  refine DL (fun j=>decide (row.getD j 0≠0)) (fun j Z Z y=>∃t,y= .str (Df (row.getD j 0)) t) rfl hl2 (by rw[ius.length,Tz];omega) (by walk_at "ur") (by walk_at "ur") F8 N8 (Dr F8 hl2) ?tests2 ?elts2 ?fin2
  case tests2=>
   rintro j v2 C2 oC2 u2 H2 tk2 rest3 E2 hv2 hO2 hu2 F7 N7
   (refine y8 (n5 ius hv2) fun r t hr o0_=>?_;obtain rfl:=o0_)
   replace hr:=v4 hr
   refine U8 ?_
   k_steps
   rename News _ _ _ _=>M8
   exact p9.intro (by assumption) M8 (fun p hp=>by walk_at "mem") (by rw[hr];simp[bne,Bool.beq_eq_decide_eq])
  case elts2=>
   rintro j v2 C2 oC2 u2 H2 tk2 rest3 E2 hv2 hp2 hO2 hu2 F7 N7
   (refine y8 (n5 ius hv2) fun r t hr o0_=>?_;obtain rfl:=o0_)
   replace hr:=v4 hr
   k_steps
   unfold g9
   k_dflt (refine' NS (Kf _ _ _ _) ?u1 ?u2 ?u3 ?u4 ?u5 ?u6 ?u7 ?u8 ?u9 ?uA ?_;walk_at "u")
   case uA=>trivial
   k_whole
   intro h3 tk3 F3 N3 K3
   (try dsimp only)
   (try k_fold)
   k_steps
   all_goals(rename News _ _ _ _=>M8;refine j3.intro (by assumption) M8 (fun p hp=>by walk_at "mem") ⟨_,congrArg (fun z=>Um z _) ?_⟩;rw[hr];unfold Df;first|(rw[if_pos (by omega)];done)|(rw[if_neg (by omega)];done))
  case fin2=>
   (intro _ r0_;(refine oEE r0_ fun Z Z o0_=>?_;clear r0_;obtain rfl:=o0_);intro D2 ys2 k2 h2 tk2 F2 N2 O2 P2)
   have I2:y3 ys2 ((row.filter fun x=>decide (x≠0)).map Df):=by
    have h9:=u0 P2
    rw[ius.length,U6 (fun x=>decide (x≠0)) Df] at h9
    exact h9
   k_steps
   have hfl:(row.filter fun x=>decide (x≠0)).length<=7:=Td (Qp _ _) hrw
   refine join_list (isL (a:=D2) (vs:=ys2) (n:=k2) N2 (SI _)) I2.strs_are (by rw[Lr,RT,show(Ta "").length=0 by decide+kernel];omega) (fun t9 k9=>?_)
   rw[HV]
   k_steps
   rename News _ _ _ _=>M8
   exact j3.intro (by assumption) M8 (fun p hp=>by walk_at "mem") ⟨_,by rw[hrw2];rfl⟩
 case fin=>
  (intro _ r0_;(refine oEE r0_ fun Z Z o0_=>?_;clear r0_;obtain rfl:=o0_);intro D5 ys k5 h5 tk5 F5 N5 O5 P5)
  have R:=u0 P5
  rw[hvl, ←hrl,Y1 JF] at R
  rintro h9 tk9 F9 N9
  k_steps
  refine T3.mk fun hT9=>?_
  rename Fr _ _ _ _=>F9
  rename News _ _ _ _=>N9
  refine next D5 _ _ _ (i8 [(Ta "texts")] H hall hT9 n22 l22 F9 N9 (fun p hp=>by walk_at "mem") (fun y hy=>(if_neg (V5 hy)).trans (e09 y))) (by first|exact rfl|exact if_pos rfl|with_unfolding_all exact rfl) ⟨ys,k5,p6 H hall n22 l22 N9 (by walk_at "mem") (fun q hq=>O5 q (by walk_at "mem")),R⟩
end Mine
end
section
open PySem PySem.W PySem.Calls PyProof.Rows
namespace Mine
section
variable{rn on pn q:List Int}{ld:Int}{chn:List (List Int)}
theorem LO(d:Dom rn on ld q)(ec:chn=E7 (b0 (a9 rn) q) (s6 (b0 (E6 (b0 (a9 rn) q)) ((a9 on).map (ld* ·))) (b0 (a9 rn) q)))(hpb:∀p∈pn,p % 2=1)(cl5:chn.length<=5){l:List Nat}(hl:l∈(pn.map fun p=>chn.map fun row=>i0 row p).map Ae):l∈texts5:=by
 have hfm:b0 (a9 rn) q∈chn:=by rw[ec];exact SI _
 (refine oEA (Tg.mp hl) fun row hrow o0_=>?_;obtain rfl:=o0_)
 (refine oEA (Tg.mp hrow) fun p hpm o0_=>?_;obtain rfl:=o0_)
 refine IB (HW _) (JG (Tg.mpr (iEA _ hfm rfl)) (Kh d (hpb p hpm))) (Td (HX _) ?_)
 rw[RT];exact cl5
theorem LP(d:Dom rn on ld q)(ec:chn=E7 (b0 (a9 rn) q) (s6 (b0 (E6 (b0 (a9 rn) q)) ((a9 on).map (ld* ·))) (b0 (a9 rn) q)))(hpl:pn.length=4)(hps:pn.Pairwise (· <= ·))(hpb:∀p∈pn,p % 2=1/\ -9<=p/\p<=9)(k:Nat)(hk:k<3):
  chg ((((pn.map fun p=>chn.map fun row=>i0 row p).map Ae).getD k []).map (· == 46))-chg ((((pn.map fun p=>chn.map fun row=>i0 row p).map Ae).getD (k+1) []).map (· == 46))=Ny rn pn ((TS 11).map fun(j:Nat)=>(fun n=>BB (i0 ((a9 on).map (ld* ·)) (2*n))) (-5+(j:Int))) k:=by
 have hg:∀j,j<4->∃x,pn[j]? =some x/\pn.getD j 0=x/\x∈pn:=fun j hj=>by
  have hj2:j<pn.length:=by lia
  exact(V8 (pn[j]) (Qb hj2) (by rw[PV,Qb hj2];rfl) (RP hj2))
 have at':∀j,j<4->(((pn.map fun p=>chn.map fun row=>i0 row p).map Ae).getD j []).map (· == 46)=sgI (chn.map (i0 · (pn.getD j 0))):=fun j hj=>by
  refine L1 (hg j hj) fun x e1 e2 Z=>?_
  rw[PV,Rn,Rn,e1,e2]
  exact Cp _
 rw[at' k (by lia),at' (k+1) (by lia)]
 refine L1 (hg k (by lia)) fun x e1 e2 mx=>?_
 refine L1 (hg (k+1) (by lia)) fun y f1 f2 my=>?_
 have c1:=hpb _ mx
 have c2:=hpb _ my
 have c3:x<=y:=by
  refine oE (PZ.mp e1) fun i1 j1=>?_
  refine oE (PZ.mp f1) fun i2 j2=>?_
  rw[←j1, ←j2]
  exact List.pairwise_iff_getElem.mp hps k (k+1) i1 i2 (RC _)
 rw[e2,f2,IG d x y c1.1 c2.1 c1.2.1 c3 c2.2.2 chn ec, ←e2, ←f2]
 exact(Nv rn pn (fun n=>BB (i0 ((a9 on).map (ld* ·)) (2*n))) k).symm
end
theorem LW{ro ot pt fi se ch:Vf}{rn on pn q:List Int}{ld:Int}{tl:Vm}{chn:List (List Int)}{h:Vg}{tk:Nat}{m:Vk->Option UX}{cm:Nat->Option UX}{ps:Array UX}
  (G:Hyp)(H:j7 h m cm ps)(k2:cm 2=some (.int ld tl))(k3:cm 3=some (.ref ro))(k4:cm 4=some (.ref ot))(k5:cm 5=some (.ref pt))(k6:cm 6=some (.ref fi))(k7:cm 7=some (.ref se))(k8:cm 8=some (.ref ch))(h0:0<tk)
  (hr:LI h ro rn)(ho:LI h ot on)(hp:LI h pt pn)(hs:LI h se ((a9 on).map fun x=>ld*x))(hc:LL h ch chn)
  (hld:ld=1\/ld= -1)(d:Dom rn on ld q)(ec:chn=E7 (b0 (a9 rn) q) (s6 (b0 (E6 (b0 (a9 rn) q)) ((a9 on).map (ld* ·))) (b0 (a9 rn) q)))
  (hpl:pn.length=4)(hps:pn.Pairwise (· <= ·))(hpb:∀p∈pn,p % 2=1/\ -9<=p/\p<=9)
  (fin:∀h' tk' m',Fr cH cL h' m'->(∃ps',h'.get? 222=some (UQ ps'))->cQ (.ret (.bool true)) ⟨h',cG,cD,tk',cO⟩):Seg 9 h tk:=by
 have hrl:rn.length<=4:=by have:=d.ql;have:=d.rl;lia
 have hol:=d.ol
 have hsp:∀r∈on,r∈span:=fun r h=>T8 (d.os r h)
 refine AX d.sizes fun Z rl4 Z rows_ok=>?_
 have cl5:chn.length<=5:=by
  rw[ec,E7,RB]
  have:=CO (s6 (b0 (E6 (b0 (a9 rn) q)) ((a9 on).map (ld* ·))) (b0 (a9 rn) q)).length (b0 (a9 rn) q) (s6 (b0 (E6 (b0 (a9 rn) q)) ((a9 on).map (ld* ·))) (b0 (a9 rn) q))
  lia
 have hne:chn≠[]:=by rw[ec];exact List.cons_ne_nil _ _
 refine seg9 G H k2 hld ?_
 intro pl h10 tk10 m10 ps10 Z10 b1 l1
 replace k2:=((Z10.cl 2 (by decide)).trans k2)
 replace k4:=((Z10.cl 4 (by decide)).trans k4)
 replace ho:=(ho.up Z10.st)
 refine OG G Z10.law k2 k4 hld ho hol ?_
 intro ru h11 tk11 m11 ps11 Z11 b2 l2
 replace k2:=((Z11.cl 2 (by decide)).trans k2)
 replace k4:=((Z11.cl 4 (by decide)).trans k4)
 replace ho:=(ho.up Z11.st)
 refine OF G Z11.law k2 k4 hld ho hol d.os b2 l2 (by rw[QU,RT,hol];rfl) ?_
 intro ru2 h12 tk12 m12 ps12 Z12 b3 l3
 replace k3:=((Z12.cl 3 (by decide)).trans ((Z11.cl 3 (by decide)).trans ((Z10.cl 3 (by decide)).trans k3)))
 replace hr:=(((hr.up Z10.st).up Z11.st).up Z12.st)
 replace b1:=((Z12.nm _ (by decide)).trans ((Z11.nm _ (by decide)).trans b1))
 refine OE G Z12.law k3 hr hrl d.rs b1 ?_
 intro x ta tb h13 tk13 m13 Z13 b4 ⟨ua,rc4,lu4⟩
 replace k4:=((Z13.cl 4 (by decide)).trans ((Z12.cl 4 (by decide)).trans k4))
 replace ho:=((ho.up Z12.st).up Z13.st)
 replace b3:=((Z13.nm _ (by decide)).trans b3)
 replace l1:=(((l1.up Z11.st).up Z12.st).up Z13.st)
 replace l3:=(l3.up Z13.st)
 refine OD G Z13.law k4 ho hol d.os b4 b3 rc4 lu4 (by rw[QU,RT];show rn.length+1<100;lia) l1 (by show(2:Nat)<100;decide) l3 (by rw[QU,QU,RT,RT,hol];show 2+1+2<100;decide) ?_
 intro y h14 tk14 m14 cm14 Z14 k9 ⟨uD,rD,tz,ty,rc,lu,lr⟩
 rw[Jk d.rs d.os] at lu
 replace k3:=((Z14.cl 3 (by decide)).trans ((Z13.cl 3 (by decide)).trans k3))
 replace k4:=((Z14.cl 4 (by decide)).trans k4)
 replace hr:=((hr.up Z13.st).up Z14.st)
 replace ho:=(ho.up Z14.st)
 refine OC G Z14.law k3 k4 k9 hr hrl d.rs ho hol d.os rc lu ?_
 intro h15 tk15 m15 Z15
 replace lr:=(lr.up Z15.st)
 replace rc:=(rc.up Z15.st)
 replace k9:=((Z15.cl 9 (by decide)).trans k9)
 replace lr:LR h15 rD (Cs ld++Ec on ld):=lr
 refine OB G Z15.law k9 rc lr (g:=fun n=>BB (i0 ((a9 on).map (ld* ·)) (2*n))) (fun n hn=>Lq hld hol hsp (Gn hn)) ?_
 intro tlA h16 tk16 m16 cm16 Z16 k10 l7
 replace k7:=((Z16.cl 7 (by decide)).trans ((Z15.cl 7 (by decide)).trans ((Z14.cl 7 (by decide)).trans ((Z13.cl 7 (by decide)).trans ((Z12.cl 7 (by decide)).trans ((Z11.cl 7 (by decide)).trans ((Z10.cl 7 (by decide)).trans k7)))))))
 replace hs:=(((((((hs.up Z10.st).up Z11.st).up Z12.st).up Z13.st).up Z14.st).up Z15.st).up Z16.st)
 refine OA G Z16.law k7 hs (by rw[d.second_len];decide) (fun y hy=>Td (DM (b:=11) (QS (d.second_big y hy) (by decide))) (by decide)) ?_
 intro sg h17 tk17 m17 Z17 b8 l8
 replace l7:=(l7.up Z17.st)
 replace k10:=((Z17.cl 10 (by decide)).trans k10)
 have l79:=l7
 replace l79:LI h17 tlA (((TS 11).map fun(j:Nat)=>i0 ((a9 on).map (ld* ·)) (2*(-5+(j:Int)))).map BB):=by rw[Tj];exact l79
 refine Oz G Z17.law k10 l79 l8 (by rw[RT,Rl];decide) b8 ?_
 intro h18 tk18 m18 Z18
 replace k10:=((Z18.cl 10 (by decide)).trans k10)
 replace k9:=((Z18.cl 9 (by decide)).trans ((Z17.cl 9 (by decide)).trans ((Z16.cl 9 (by decide)).trans k9)))
 replace l7:=(l7.up Z18.st)
 replace rc:=(((rc.up Z16.st).up Z17.st).up Z18.st)
 replace lr:=(((lr.up Z16.st).up Z17.st).up Z18.st)
 refine Oy G Z18.law k10 k9 l7 (by rw[RT,Rl];decide) rc lr (HJ hld hol hsp) ?_
 intro h19 tk19 m19 Z19
 replace k3:=((Z19.cl 3 (by decide)).trans ((Z18.cl 3 (by decide)).trans ((Z17.cl 3 (by decide)).trans ((Z16.cl 3 (by decide)).trans ((Z15.cl 3 (by decide)).trans k3)))))
 replace k9:=((Z19.cl 9 (by decide)).trans k9)
 replace hr:=(((((hr.up Z15.st).up Z16.st).up Z17.st).up Z18.st).up Z19.st)
 replace rc:=(rc.up Z19.st)
 replace lu:=(((((lu.up Z15.st).up Z16.st).up Z17.st).up Z18.st).up Z19.st)
 refine Ox G Z19.law k3 k9 hr hrl d.rs rc lu ?_
 intro en h20 tk20 m20 Z20 bB lB
 replace hc:=(((((((((((hc.up Z10.st).up Z11.st).up Z12.st).up Z13.st).up Z14.st).up Z15.st).up Z16.st).up Z17.st).up Z18.st).up Z19.st).up Z20.st)
 replace k8:=((Z20.cl 8 (by decide)).trans ((Z19.cl 8 (by decide)).trans ((Z18.cl 8 (by decide)).trans ((Z17.cl 8 (by decide)).trans ((Z16.cl 8 (by decide)).trans ((Z15.cl 8 (by decide)).trans ((Z14.cl 8 (by decide)).trans ((Z13.cl 8 (by decide)).trans ((Z12.cl 8 (by decide)).trans ((Z11.cl 8 (by decide)).trans ((Z10.cl 8 (by decide)).trans k8)))))))))))
 have esp:chn=chn.dropLast++[chn.getLast hne]:=(List.dropLast_concat_getLast hne).symm
 refine Ow (init:=chn.dropLast) (la:=chn.getLast hne) G Z20.law k8 (esp ▸ hc) (by rw[List.length_dropLast];lia) (Kd d chn ec hne) lB (by rw[i5];have:=DD on rn [];lia) bB ?_
 intro h21 tk21 m21 Z21
 replace k8:=((Z21.cl 8 (by decide)).trans k8)
 replace k5:=((Z21.cl 5 (by decide)).trans ((Z20.cl 5 (by decide)).trans ((Z19.cl 5 (by decide)).trans ((Z18.cl 5 (by decide)).trans ((Z17.cl 5 (by decide)).trans ((Z16.cl 5 (by decide)).trans ((Z15.cl 5 (by decide)).trans ((Z14.cl 5 (by decide)).trans ((Z13.cl 5 (by decide)).trans ((Z12.cl 5 (by decide)).trans ((Z11.cl 5 (by decide)).trans ((Z10.cl 5 (by decide)).trans k5))))))))))))
 replace hc:=(hc.up Z21.st)
 replace hp:=((((((((((((hp.up Z10.st).up Z11.st).up Z12.st).up Z13.st).up Z14.st).up Z15.st).up Z16.st).up Z17.st).up Z18.st).up Z19.st).up Z20.st).up Z21.st)
 refine Ov G Z21.law k8 k5 hc (by lia) (fun row hrow=>by refine oA (rows_ok row (ec ▸ hrow)) fun k1 k2=>?_;exact⟨by lia,fun y hy=>DM (k2 y hy)⟩) hp hpl (fun p h=>(hpb p h).2) ?_
 intro rw9 h22 tk22 m22 ps22 Z22 bD lD
 refine Ou G Z22.law lD (by rw[RT,hpl]) (fun row hrow=>by(refine oEA (Tg.mp hrow) fun p Z o0_=>?_;obtain rfl:=o0_);rw[RT];lia) bD ?_
 intro txa h23 tk23 m23 Z23 bE lE
 replace h0:=(QR (QR (QR (QR (QR (QR (QR (QR (QR (QR (QR (QR (QR (QR h0 Z10.toks) Z11.toks) Z12.toks) Z13.toks) Z14.toks) Z15.toks) Z16.toks) Z17.toks) Z18.toks) Z19.toks) Z20.toks) Z21.toks) Z22.toks) Z23.toks)
 replace k3:=((Z23.cl 3 (by decide)).trans ((Z22.cl 3 (by decide)).trans ((Z21.cl 3 (by decide)).trans ((Z20.cl 3 (by decide)).trans k3))))
 replace k5:=((Z23.cl 5 (by decide)).trans ((Z22.cl 5 (by decide)).trans k5))
 replace k10:=((Z23.cl 10 (by decide)).trans ((Z22.cl 10 (by decide)).trans ((Z21.cl 10 (by decide)).trans ((Z20.cl 10 (by decide)).trans ((Z19.cl 10 (by decide)).trans k10)))))
 replace hr:=((((hr.up Z20.st).up Z21.st).up Z22.st).up Z23.st)
 replace hp:=((hp.up Z22.st).up Z23.st)
 replace l7:=(((((l7.up Z19.st).up Z20.st).up Z21.st).up Z22.st).up Z23.st)
 have esig:((pn.map fun p=>chn.map fun row=>i0 row p).map JF)=(((pn.map fun p=>chn.map fun row=>i0 row p).map Ae).map tx):=by rw[Tj (f:=Ae)];rfl
 rw[esig] at lE
 refine Kb (tn:=(TS 11).map fun(j:Nat)=>(fun n=>BB (i0 ((a9 on).map (ld* ·)) (2*n))) (-5+(j:Int))) G Z23.law k3 k5 k10 h0 lE (by rw[RT,RT,hpl]) (fun l hl=>LO d ec (fun p h=>(hpb p h).1) cl5 hl) bE hr hrl hp hpl l7 (by rw[RT,Rl]) (fun k hk=>LP d ec hpl hps hpb k hk) fin
end Mine
end
section
open PySem PySem.W PySem.Calls PyProof.Rows
namespace Mine
open S (sK0 sK2 sK17 sK18 sK19 sK20 sK5)
theorem seg0{h:Vg}{tk:Nat}{m:Vk->Option UX}{cm:Nat->Option UX}{ps:Array UX}(G:Hyp)(H:j7 h m cm ps)
  (next:∀(D:Vf) h' tk' m',Q8 [(Ta "bases")] [] h tk m cm h' tk' m' cm ps->m' (Ta "bases")=some (.ref D)->LI h' D [6,3,3,7,7,13,4,6]->0<tk'->Seg 1 h' tk'):Seg 0 h tk:=by
 obtain⟨B,X,T,Se,C,l22,n22⟩:=G
 have q9:PR=PR:=rfl;unfold PR at q9;revert X q9;k_fill;intro X q9;clear q9
 have F:=H.fr
 refine oEA (i4 F) fun news N hall=>?_
 refine i6 rfl rfl ?_
 unfold PR
 k_steps
 rename_i D h2 l1 h1 F1 N1
 refine T3.mk fun hT9=>?_
 rename Fr _ _ _ _=>F9
 rename News _ _ _ _=>N9
 refine next D _ _ _ (i8 [(Ta "bases")] H hall hT9 n22 l22 F9 N9 (fun p hp=>by walk_at "mem") (fun y hy=>if_neg (V5 hy))) (by first|exact rfl|exact if_pos rfl|with_unfolding_all exact rfl) ⟨_,_,p6 H hall n22 l22 N9 (by walk_at "mem") (fun q hq=>Tb (l1 q (by walk_at "mem"))), .cons _ _ (.cons _ _ (.cons _ _ (.cons _ _ (.cons _ _ (.cons _ _ (.cons _ _ (.cons _ _ .nil)))))))⟩ (Nat.succ_pos _)
end Mine
end
section
open PySem PySem.W PySem.Calls PyProof.Rows
namespace Mine
open S (sK0 sK2 sK17 sK18 sK19 sK20 sK5)
theorem JX(l:List Int):0<=(l.map fun x=>UA x (10 ^ 6)).sum/\(l.map fun x=>UA x (10 ^ 6)).sum<=l.length*1000000:=by
 induction l with
 |nil=>exact⟨Int.le_refl _,Int.le_refl _⟩
 |cons x l ih=>
  have h1:0<=UA x (10 ^ 6):=Qk x (by decide)
  have h2:UA x (10 ^ 6)<10 ^ 6:=QZ x (by decide)
  simp only[SJ,SO,RB]
  exact⟨Sz h1 ih.1,Int.le_trans (Int.add_le_add (Int.le_of_lt h2) ih.2) (Int.le_of_eq (by rw[Int.natCast_succ,Int.add_mul,Int.one_mul,Int.add_comm];rfl))⟩
theorem IM{b:Int}{h':Vg}{js:List Nat}{ys:List UX}(k:Paired (fun(Z:Nat) y=>∃hb ha:Vg,(∃n t,y=Ur n t/\0<=n/\n<b)/\C5 hb ha h') js ys):∃cs:List Int,cs.length=js.length/\(∀x∈cs,0<=x/\x<b)/\UG ys cs:=by
 induction k with
 |nil=>exact(V8 ([]) rfl (fun Z h=>nomatch h) .nil)
 |cons a r ih=>
  (refine y8 a fun Z Z o0_ Z=>?_;clear a;refine y8 o0_ fun n t e hn=>?_;clear o0_)
  refine L1 ih fun cs h1 h2 h3=>?_;clear ih
  refine(V8 (n::cs) (by simp[h1]) (fun x hx=>?_) (e ▸ .cons _ _ h3))
  rcases SH.mp hx with rfl|hx
  ·exact hn
  ·exact h2 x hx
theorem seg1{D sc:Vf}{vsc:List UX}{nsc:List Int}{h:Vg}{tk:Nat}{m:Vk->Option UX}{cm:Nat->Option UX}{ps:Array UX}(G:Hyp)(H:j7 h m cm ps)(k0:cm 0=some (.ref sc))(hb:m (Ta "bases")=some (.ref D))(hD:LI h D [6,3,3,7,7,13,4,6])(hsc:cH.IsList sc vsc.toArray)(hsi:UG vsc nsc)(hsn:nsc.length<=63)
  (next:∀(cc:Vf)(cs:List Int) h' tk' m',Q8 [(Ta "cells")] [] h tk m cm h' tk' m' cm ps->m' (Ta "cells")=some (.ref cc)->LI h' cc cs->cs.length=8->(∀x∈cs,0<=x/\x<2 ^ 30)->Seg 2 h' tk'):Seg 1 h tk:=by
 obtain⟨B,X,T,Se,C,l22,n22⟩:=G
 have q9:PR=PR:=rfl;unfold PR at q9;revert X q9;k_fill;intro X q9;clear q9
 have F:=H.fr
 refine oEA (i4 F) fun news N hall=>?_
 refine oEA (H.cell hall 0 (by decide) k0) fun o0 c0 d0=>?_
 replace c0:((cL+1:Vf),o0)∈news:=c0
 obtain⟨vD,nD,mD,iD⟩:=hD
 replace mD:=mD.mem hall
 refine oA (Fr.putS F hb) fun F e09=>?_
 refine i6 rfl rfl ?_
 unfold PR
 k_steps
 unfold g9
 refine wpK.any ?_
 refine v9 (h₀:=cH) (by walk_at "ur") (by walk_at "ur") (by decide) (by walk_at "ur") (by decide) (by intro _;walk_at "ur") (by walk_at "ur") (by walk_at "ur") ?_
 k_steps
 unfold g9
 have hlD:=isL N (a:=D) (vs:=vD) (n:=nD) (by walk_at "mem")
 refine FK (fun Z=>true) (fun i Z Z y=>∃n t,y= .int n t/\0<=n/\n<2 ^ 30) rfl hlD (by rw[iD.length,Tz];decide) (by walk_at "ur") (by walk_at "ur") (by decide) (by walk_at "ur") F N (s9 N (by walk_at "mem")) (fun Z Z Z Z Z Z Z Z Z Z Z Z Z Z F N=>z8 (p9.intro F N (fun p hp=> .tail _ (RS.mpr (.inr hp))) rfl)) ?elts ?fin
 case elts=>
  rintro i v t C oC u H9 tk9 rest2 E' hv _ hO hu1 hu2 F8 N8
  (refine y8 (n5 iD hv) fun r t2 hr o0_=>?_;obtain rfl:=o0_)
  k_steps
  unfold g9
  refine j5 (h₀:=cH) (L:=cL) (by walk_at "ur") (by decide) (by walk_at "ur") (by decide) (by intro _;walk_at "ur") ?_
  k_steps
  unfold g9
  have hsi2:=hsi.pick (some ((i:Nat):Int)) (some 60) (some 8)
  have hpl:=length_pickNums_le hsi (some ((i:Nat):Int)) (some 60) (some 8)
  generalize pickNums nsc (some ((i:Nat):Int)) (some 60) (some 8)=zn at hsi2 hpl
  rename Fr _ _ _ _=>F7
  rename News _ _ _ _=>N7
  have hlZ:TN _ _ _:=isL (vs:=(slicePick vsc.toArray (some ((i:Nat):Int)) (some 60) (some 8)).toList) (n:=0) N7 (SI _)
  generalize(slicePick vsc.toArray (some ((i:Nat):Int)) (some 60) (some 8)).toList=zv at hsi2 hlZ
  have hzl:=hsi2.length
  refine y2 (fun j Z Z y=>∃t,y= .int (UA (zn.getD j 0) (10 ^ 6)) t) rfl hlZ (by rw[hzl,Tz];omega) (by walk_at "ur") (by walk_at "ur") F7 N7 (s9 N7 (SI _)) ?elts2 ?fin2
  case elts2=>
   rintro j v2 C2 oC2 u2 H2 tk2 rest3 E2 hv2 hO2 hu3 F6 N6
   (refine y8 (n5 hsi2 hv2) fun r2 t3 hr2 o0_=>?_;obtain rfl:=o0_)
   have hr2':=v4 hr2
   k_steps
   exact j3.intro (by assumption) N6 (fun p hp=>by repeat(first|exact hp|exact RS.mpr (.inr hp)|refine List.Mem.tail _ ?_)) ⟨_,by rw[hr2'];rfl⟩
  case fin2=>
   (intro _ r0_;(refine oEE r0_ fun Z Z o0_=>?_;clear r0_;obtain rfl:=o0_);intro D2 ys2 k2 h5 tk5 F5 N5 O5 P5)
   have I5:UG ys2 (zn.map fun x=>UA x (10 ^ 6)):=by
    have:=g8 P5
    rw[hzl,j6 (fun x=>UA x (10 ^ 6))] at this
    exact this
   k_steps
   unfold g9
   refine sumK rfl F5 N5 (isL N5 (SI _)) I5 ?_
   intro h4 tk4 t4 F4 N4
   k_steps
   rename News _ _ _ _=>N3
   refine j3.intro (by assumption) N3 (fun p hp=>by repeat(first|exact hp|exact RS.mpr (.inr hp)|refine List.Mem.tail _ ?_)) (Bm _ _ rfl ?_)
   have h13:∀x∈[6,3,3,7,7,13,4,6],(0:Int)<=x/\x<=13:=by decide
   have hr13:=h13 r (Qt hr)
   have hb:=JX zn
   have hzn:zn.length<=63:=Td hpl hsn
   refine⟨Sz hr13.1 hb.1,?_⟩
   omega
 case fin=>
  (intro _ r0_;(refine oEE r0_ fun Z Z o0_=>?_;clear r0_;obtain rfl:=o0_);intro D2 ys k5 h5 tk5 F5 N5 O5 P5)
  rw[s7,iD.length] at P5
  refine L1 (IM P5) fun cs hcl hcs ics=>?_
  rintro h9 tk9 F9' N9'
  k_steps
  refine T3.mk fun hT9=>?_
  rename Fr _ _ _ _=>F9
  rename News _ _ _ _=>N9
  refine next D2 cs _ _ _ (i8 [(Ta "cells")] H hall hT9 n22 l22 F9 N9 (fun p hp=>by walk_at "mem") (fun y hy=>(if_neg (V5 hy)).trans (e09 y))) (by first|exact rfl|exact if_pos rfl|with_unfolding_all exact rfl) ⟨ys,k5,p6 H hall n22 l22 N9 (by walk_at "mem") (fun q hq=>O5 q (by walk_at "mem")),ics⟩ (by rw[hcl];rfl) hcs
end Mine
end
section
open PySem PySem.W PySem.Calls PyProof.Rows
namespace Mine
open S (sK0 sK2 sK17 sK18 sK19 sK20 sK5)
theorem seg2{cc:Vf}{cs:List Int}{h:Vg}{tk:Nat}{m:Vk->Option UX}{cm:Nat->Option UX}{ps:Array UX}(G:Hyp)(H:j7 h m cm ps)(hb:m (Ta "cells")=some (.ref cc))(hc:LI h cc cs)(hcl:cs.length=8)(hcb:∀x∈cs,0<=x/\x<2 ^ 30)
  (next:∀(sp:Vf)(spn:List Int)(lf ld:Int)(t1 t2:Vm) h' tk' m' cm',Q8 [(Ta "spots"),(Ta "lift")] [2] h tk m cm h' tk' m' cm' ps->m' (Ta "spots")=some (.ref sp)->m' (Ta "lift")=some (.int lf t1)->cm' 2=some (.int ld t2)->LI h' sp spn->spn.length=6->(∀x∈spn,x.natAbs<=4)->(0<=lf/\lf<=4)->(ld=1\/ld= -1)->Seg 3 h' tk'):Seg 2 h tk:=by
 obtain⟨B,X,T,Se,C,l22,n22⟩:=G
 have q9:PR=PR:=rfl;unfold PR at q9;revert X q9;k_fill;intro X q9;clear q9
 have F:=H.fr
 refine E4 (A7 H 2 (by decide) (a:=(cL+1+1+1:Vf)) rfl) fun o2 news N d2 off hall=>?_
 obtain⟨vc,nc,mc,ic⟩:=hc
 replace mc:=mc.memC hall (l9 2 (by decide))
 refine oA (Fr.putS F (hb)) fun F e09=>?_
 have hlC:=isL N (by walk_at "mem")
 refine i6 rfl rfl ?_
 unfold PR
 k_steps
 unfold g9
 refine j5 (h₀:=cH) (L:=cL) (by walk_at "ur") (by decide) (by walk_at "ur") (by decide) (by intro _;walk_at "ur") ?_
 k_steps
 unfold g9
 rename_i D1 w1 h1 F1 N1 I1 _ _ l1
 refine y2 (fun j Z Z y=>∃t,y= .int ((fun x=>UA x 9-4) ((cs.take 6).getD j 0)) t) rfl (isL N1 (SI _)) (by rw[I1.length,List.length_take,Tz];omega) (by walk_at "ur") (by walk_at "ur") F1 N1 (s9 N1 (SI _)) ?elts8 ?fin8
 case elts8=>
  rintro j8 v8 C8 oC8 u8 H8 tk8 rest8 E8 hv8 hO8 hu8 F8 N8
  (refine y8 (n5 I1 hv8) fun r8 t8 hr8 o0_=>?_;obtain rfl:=o0_)
  have hm8:=Qt hr8
  replace hr8:=v4 hr8
  k_steps
  rename News _ _ _ _=>M8
  exact j3.intro (by assumption) M8 (fun p hp=>by walk_at "mem") ⟨_,by rw[hr8]⟩
 case fin8=>
  (intro _ r0_;(refine oEE r0_ fun Z Z o0_=>?_;clear r0_;obtain rfl:=o0_);intro D8 ys8 k8 h8 tk8 F8 N8 O8 P8)
  have I8:UG ys8 ((cs.take 6).map (fun x=>UA x 9-4)):=by
   have:=g8 P8
   rw[I1.length,j6 (fun x=>UA x 9-4)] at this
   exact this
  have zD8: @Ne Nat D8 (cL+1+1+1:Vf):=Ne.symm (O8 ((cL+1+1+1:Vf),o2) (by walk_at "mem"))
  k_steps
  rename_i dx3
  refine T3.mk fun hT9=>?_
  rename Fr _ _ _ _=>F9
  rename News _ _ _ _=>N9
  refine next D8 _ (UA (Int.fdiv (cs.getD (Uo 2) 0) 9) 5) _ _ _ _ _ _ _ (B2 [(Ta "spots"),(Ta "lift")] 2 rfl H hall hT9 n22 l22 F9 N9 (by walk_at "mem") dx3 (fun p hp=>by walk_at "mem") (by decide) (fun y hy=>(if_neg (OK hy)).trans ((if_neg (OL hy)).trans (e09 y)))) (by first|exact rfl|exact if_pos rfl|with_unfolding_all exact rfl) (by first|exact rfl|exact if_pos rfl|with_unfolding_all exact rfl) (if_pos rfl) ⟨ys8,k8,l4 H hall n22 l22 N9 (by walk_at "mem") (Ne.symm zD8) (fun q hq=>O8 q (by walk_at "mem")),I8⟩ (by simp[hcl]) ?sz ⟨?b1,?b2⟩ ?ld
  case sz=>
   intro x hx
   (refine oEA (Tg.mp hx) fun y Z o0_=>?_;obtain rfl:=o0_)
   have h1:0<=UA y 9:=Qk y (by decide)
   have h2:UA y 9<9:=QZ y (by decide)
   exact izB (P:=fun z=>(z-4).natAbs<=4) (k:=9) h1 h2 (by decide+kernel)
  case b1=>exact Qk _ (by decide)
  case b2=>exact Int.le_of_lt_add_one (QZ _ (by decide))
  case ld=>
   have h1:0<=UA (Int.fdiv (cs.getD (Uo 5) 0) 9) 2:=Qk _ (by decide)
   have h2:UA (Int.fdiv (cs.getD (Uo 5) 0) 9) 2<2:=QZ _ (by decide)
   exact izB (P:=fun z=>1-2*z=1\/1-2*z= -1) (k:=2) h1 h2 (by decide+kernel)
end Mine
end
section
open PySem PySem.W PySem.Calls PyProof.Rows
namespace Mine
open S (sK0 sK2 sK17 sK18 sK19 sK20 sK5)
theorem seg3{sp:Vf}{spn:List Int}{lf:Int}{t1:Vm}{h:Vg}{tk:Nat}{m:Vk->Option UX}{cm:Nat->Option UX}{ps:Array UX}(G:Hyp)(H:j7 h m cm ps)(hb:m (Ta "spots")=some (.ref sp))(hb2:m (Ta "lift")=some (.int lf t1))(hc:LI h sp spn)(hcl:spn.length=6)
  (next:∀(ro ot:Vf)(rn:List Int) h' tk' m' cm',Q8 [] [3,4] h tk m cm h' tk' m' cm' ps->cm' 3=some (.ref ro)->cm' 4=some (.ref ot)->LI h' ro rn->LI h' ot (spn.drop 4)->(rn=if lf=0 then spn.take 4 else spn.take 2)->Seg 4 h' tk'):Seg 3 h tk:=by
 obtain⟨B,X,T,Se,C,l22,n22⟩:=G
 have q9:PR=PR:=rfl;unfold PR at q9;revert X q9;k_fill;intro X q9;clear q9
 have F:=H.fr
 refine Do (GY H 3 4 (by decide) (by decide) (a:=(cL+1+1+1+1:Vf)) (b:=(cL+1+1+1+1+1:Vf)) rfl rfl) fun o3 o4 news N d3 d4 off hall=>?_
 obtain⟨vc,nc,mc,ic⟩:=hc
 replace mc:=mc.memC2 hall (l9 3 (by decide)) (l9 4 (by decide))
 refine oA (Fr.putS F (hb)) fun F e09=>?_
 refine oA (Fr.putS F ((if_neg (by decide)).trans (hb2))) fun F e19=>?_
 have hlC:=isL N (by walk_at "mem")
 refine i6 rfl rfl ?_
 unfold PR
 k_steps
 ·rename_i cnd D2 w2 hA i2 c2 e2 l2 D1 w1 hB i1 c1 e1 l1 Dt hC l3 hD hE oA dA hF oB F6 N6 dB
  refine T3.mk fun hT9=>?_
  rename Fr _ _ _ _=>F9
  rename News _ _ _ _=>N9
  refine next D2 D1 _ _ _ _ _ (BN [] 3 4 rfl rfl (by decide) H hall hT9 n22 l22 F9 N9 (by walk_at "mem") dA (by walk_at "mem") dB (fun p hp=>by walk_at "mem") (by decide) (by decide) (fun y hy=>(e19 y).trans (e09 y))) (if_pos rfl) ((if_neg (by decide)).trans (if_pos rfl)) ⟨w2,0,T5 H hall n22 l22 N9 (by walk_at "mem") (Tb l2.1) (Tb l2.2.1) (fun q hq=>Tb (Eu l2.2.2 q hq)),i2⟩ ⟨w1,0,T5 H hall n22 l22 N9 (by walk_at "mem") (Tb l1.2.1) (Tb l1.2.2.1) (fun q hq=>Tb (Eu l1.2.2.2 q hq)),i1⟩ (by first|exact(if_neg cnd).symm|exact(if_pos cnd).symm)
 ·rename_i cnd D2 w2 hA i2 c2 e2 l2 D1 w1 hB i1 c1 e1 l1 Dt hC l3 hD hE oA dA hF oB F6 N6 dB
  refine T3.mk fun hT9=>?_
  rename Fr _ _ _ _=>F9
  rename News _ _ _ _=>N9
  refine next D2 D1 _ _ _ _ _ (BN [] 3 4 rfl rfl (by decide) H hall hT9 n22 l22 F9 N9 (by walk_at "mem") dA (by walk_at "mem") dB (fun p hp=>by walk_at "mem") (by decide) (by decide) (fun y hy=>(e19 y).trans (e09 y))) (if_pos rfl) ((if_neg (by decide)).trans (if_pos rfl)) ⟨w2,0,T5 H hall n22 l22 N9 (by walk_at "mem") (Tb l2.1) (Tb l2.2.1) (fun q hq=>Tb (Eu l2.2.2 q hq)),i2⟩ ⟨w1,0,T5 H hall n22 l22 N9 (by walk_at "mem") (Tb l1.2.1) (Tb l1.2.2.1) (fun q hq=>Tb (Eu l1.2.2.2 q hq)),i1⟩ (by first|exact(if_neg cnd).symm|exact(if_pos cnd).symm)
end Mine
end
section
open PySem PySem.W PySem.Calls PyProof.Rows
namespace Mine
open S (sK0 sK2 sK17 sK18 sK19 sK20 sK5)
theorem KN{c:Int}(h:0<=c/\c<8):(2*c-7) % 2=1/\ -9<=2*c-7/\2*c-7<=9:=izB (P:=fun c=>(2*c-7) % 2=1/\ -9<=2*c-7/\2*c-7<=9) (k:=8) h.1 h.2 (by decide+kernel)
theorem seg4{cc:Vf}{cs:List Int}{h:Vg}{tk:Nat}{m:Vk->Option UX}{cm:Nat->Option UX}{ps:Array UX}(G:Hyp)(H:j7 h m cm ps)(hb:m (Ta "cells")=some (.ref cc))(hc:LI h cc cs)(hcl:cs.length=8)
  (next:∀(pt:Vf)(pn:List Int) h' tk' m' cm',Q8 [] [5] h tk m cm h' tk' m' cm' ps->cm' 5=some (.ref pt)->LI h' pt pn->pn.length=4->pn.Pairwise (· <= ·)->(∀p∈pn,p % 2=1/\ -9<=p/\p<=9)->Seg 5 h' tk'):Seg 4 h tk:=by
 obtain⟨B,X,T,Se,C,l22,n22⟩:=G
 have q9:PR=PR:=rfl;unfold PR at q9;revert X q9;k_fill;intro X q9;clear q9
 have F:=H.fr
 refine E4 (A7 H 5 (by decide) (a:=(cL+1+1+1+1+1+1:Vf)) rfl) fun o5 news N d5 off hall=>?_
 obtain⟨vc,nc,mc,ic⟩:=hc
 replace mc:=mc.memC hall (l9 5 (by decide))
 refine oA (Fr.putS F (hb)) fun F e09=>?_
 have hlC:=isL N (by walk_at "mem")
 refine i6 rfl rfl ?_
 unfold PR
 k_steps
 rename_i D2 v2 n2 c2 hA i2 e2 p2 w2 q2 l2 b2 s1 s2 s3 t3 hB oA F6 N6 dA
 refine T3.mk fun hT9=>?_
 rename Fr _ _ _ _=>F9
 rename News _ _ _ _=>N9
 refine next D2 n2 _ _ _ _ (B2 [] 5 rfl H hall hT9 n22 l22 F9 N9 (by walk_at "mem") dA (fun p hp=>by walk_at "mem") (by decide) (fun y hy=>e09 y)) (if_pos rfl) ⟨v2,c2,l4 H hall n22 l22 N9 (by walk_at "mem") (Tb l2.2.1) (fun q hq=>Tb (Eu l2.2.2 q hq)),i2⟩ e2 w2 ?odd
 case odd=>
  intro p hp
  have h6:=Ut (Qk (cs.getD (Uo 6) 0) (b:=8) (by decide)) (QZ (cs.getD (Uo 6) 0) (b:=8) (by decide))
  have h7:=Ut (Qk (cs.getD (Uo 7) 0) (b:=8) (by decide)) (QZ (cs.getD (Uo 7) 0) (b:=8) (by decide))
  have hp':=p2.mem_iff.mp hp
  simp only[SH,RE,or_false] at hp'
  rcases hp' with rfl|rfl|rfl|rfl
  ·decide
  ·exact KN h6
  ·exact KN h7
  ·decide
end Mine
end
section
open PySem PySem.W PySem.Calls PyProof.Rows
namespace Mine
open S (sK0 sK2 sK17 sK18 sK19 sK20 sK5)
theorem n5y{s lf y:Int}(h:0<=lf/\lf<=4)(h2:(s*s).natAbs<=16)(h4:s.natAbs<=4)(hy:y=1\/y= -2*s\/y=s*s+lf): -2 ^ 64<y/\y<2 ^ 64:=by
 rcases hy with rfl|rfl|rfl
 ·decide
 ·exact iaB (P:=fun s=> -2 ^ 64< -2*s/\ -2*s<2 ^ 64) h4 (by decide+kernel)
 ·exact izB (P:=fun lf=> -2 ^ 64<s*s+lf/\s*s+lf<2 ^ 64) (k:=5) h.1 (Rd h.2 (by decide)) fun n hn=>iaB (P:=fun q=> -2 ^ 64<q+n/\q+n<2 ^ 64) h2 ((by decide+kernel:∀n:Nat,n<5->∀m:Nat,m<=16->(-2 ^ 64<(m:Int)+n/\(m:Int)+n<2 ^ 64)/\(-2 ^ 64< -(m:Int)+n/\ -(m:Int)+n<2 ^ 64)) n hn)
theorem seg5{sp ro:Vf}{spn rn:List Int}{lf:Int}{t1:Vm}{h:Vg}{tk:Nat}{m:Vk->Option UX}{cm:Nat->Option UX}{ps:Array UX}(G:Hyp)(H:j7 h m cm ps)(k3:cm 3=some (.ref ro))(hb:m (Ta "spots")=some (.ref sp))(hb2:m (Ta "lift")=some (.int lf t1))(hc:LI h sp spn)(hcl:spn.length=6)(hcb:∀x∈spn,x.natAbs<=4)(hf:0<=lf/\lf<=4)(hr:LI h ro rn)(hrl:rn.length<=4)(hrb:∀x∈rn,x.natAbs<=4)
  (next:∀(fi:Vf) h' tk' m' cm',Q8 [] [6] h tk m cm h' tk' m' cm' ps->cm' 6=some (.ref fi)->LI h' fi (b0 (a9 rn) (if lf=0 then [1] else [1, -2*spn.getD 2 0,spn.getD 2 0*spn.getD 2 0+lf]))->Seg 6 h' tk'):Seg 5 h tk:=by
 obtain⟨B,X,T,Se,C,l22,n22⟩:=G
 have q9:PR=PR:=rfl;unfold PR at q9;revert X q9;k_fill;intro X q9;clear q9
 have F:=H.fr
 refine E4 (A7 H 6 (by decide) (a:=(cL+1+1+1+1+1+1+1:Vf)) rfl) fun o6 news N d6 off hall=>?_
 refine oEA (H.cellC hall 3 (by decide) k3 (C7 (j:=3) (k:=6) (by decide))) fun o3 c3 d3=>?_
 replace c3:((cL+1+1+1+1:Vf),o3)∈news:=c3
 obtain⟨vc,nc,mc,ic⟩:=hc
 replace mc:=mc.memC hall (l9 6 (by decide))
 obtain⟨vr,nr,mr,ir⟩:=hr
 replace mr:=mr.memC hall (l9 6 (by decide))
 refine oA (Fr.putS F (hb)) fun F e09=>?_
 refine oA (Fr.putS F ((if_neg (by decide)).trans (hb2))) fun F e19=>?_
 have hlC:=isL N (by walk_at "mem")
 have hlR:=isL N (by walk_at "mem")
 have hm2:(spn.getD (Uo 2) 0).natAbs<=4:=hcb _ (A8 (by rw[hcl];decide))
 have hmu:Uz (spn.getD (Uo 2) 0) (spn.getD (Uo 2) 0):=Rv (SU (by omega) (by omega))
 have hsq:(spn.getD 2 0*spn.getD 2 0).natAbs<=16:=by rw[Sy];exact SF hm2 hm2
 have hm3:(spn.getD 2 0).natAbs<=4:=hm2
 refine i6 rfl rfl ?_
 unfold PR
 k_steps
 unfold g9
 k_dflt (refine' KC (AB _ _ _) ?u1 ?u2 ?u3 ?u4 ?u5 ?u6 ?u7 ?u8 ?u9 ?uA ?_;walk_at "u")
 case uA=>(refine(Js ?q0 ?q1 ?q2 ?q3);(case q0=>exact hlR);(case q1=>exact ir);(case q2=>omega);(case q3=>(intro x hx;have:=hrb x hx;omega)))
 k_whole
 intro D1 v1 n1 h1 tk1 F1 N1 O1 I1
 (try dsimp only)
 (try k_fold)
 k_steps
 ·rename_i cnd _ _ _ _ ta _ _ _ _ _ _ tb tc a6 h6 F6 N6 l6
  have hA6:=isL (a:=D1) (vs:=v1) (n:=n1) N6 (.tail _ (.head _))
  have hB6:=isL N6 (SI _)
  unfold g9
  k_dflt (refine' KC (Bi _ _ _ _ _ _) ?u1 ?u2 ?u3 ?u4 ?u5 ?u6 ?u7 ?u8 ?u9 ?uA ?_;walk_at "u")
  case uA=>(refine⟨?q0,?q1,?q2,?q3,?q4,?q5,?q6,?q7,?q8⟩;(case q0=>exact hA6);(case q1=>exact hB6);(case q2=>exact I1);(case q3=>exact(.cons _ _ (.cons _ _ (.cons _ _ .nil)):UG _ [1, -2*spn.getD 2 0,spn.getD 2 0*spn.getD 2 0+lf]));(case q4=>(rw[i5];omega));(case q5=>exact Nat.succ_pos _);(case q6=>(rw[i5];omega));(case q7=>(simp only[RB,RX];omega));(case q8=>(intro x hx y hy;refine Rv (SU ?_ ?_) <;> simp only[SH,RE,or_false] at hy <;> (have z:=n5y ‹_› ‹_› ‹_› hy;first|exact z.1|exact z.2))))
  k_whole
  intro D2 v2 n2 h2 tk2 F2 N2 O2 I2
  (try dsimp only)
  (try k_fold)
  have zD1: @Ne Nat D1 (cL+1+1+1+1+1+1+1:Vf):=Ne.symm (O1 ((cL+1+1+1+1+1+1+1:Vf),o6) (by walk_at "mem"))
  have zD2: @Ne Nat D2 (cL+1+1+1+1+1+1+1:Vf):=Ne.symm (O2 ((cL+1+1+1+1+1+1+1:Vf),o6) (by walk_at "mem"))
  have zl7:=l6
  k_steps
  rename_i dA
  refine T3.mk fun hT9=>?_
  rename Fr _ _ _ _=>F9
  rename News _ _ _ _=>N9
  refine next D2 _ _ _ _ (B2 [] 6 rfl H hall hT9 n22 l22 F9 N9 (by walk_at "mem") dA (fun p hp=>by walk_at "mem") (by decide) (fun y hy=>(e19 y).trans (e09 y))) (if_pos rfl) ⟨v2,n2,l4 H hall n22 l22 N9 (by walk_at "mem") (Ne.symm zD2) (fun q hq=>O2 q (by walk_at "mem")),by rw[if_neg cnd];exact I2⟩
 ·rename_i cnd a6 h6 F6 N6 l6
  have hA6:=isL (a:=D1) (vs:=v1) (n:=n1) N6 (.tail _ (.head _))
  have hB6:=isL N6 (SI _)
  unfold g9
  k_dflt (refine' KC (Bi _ _ _ _ _ _) ?u1 ?u2 ?u3 ?u4 ?u5 ?u6 ?u7 ?u8 ?u9 ?uA ?_;walk_at "u")
  case uA=>(refine⟨?q0,?q1,?q2,?q3,?q4,?q5,?q6,?q7,?q8⟩;(case q0=>exact hA6);(case q1=>exact hB6);(case q2=>exact I1);(case q3=>exact(.cons _ _ .nil:UG _ [1]));(case q4=>(rw[i5];omega));(case q5=>exact Nat.succ_pos _);(case q6=>(rw[i5];omega));(case q7=>(simp only[RB,RX];omega));(case q8=>(intro x hx y hy;refine Rv (SU ?_ ?_) <;> simp only[SH,RE,or_false] at hy <;> omega)))
  k_whole
  intro D2 v2 n2 h2 tk2 F2 N2 O2 I2
  (try dsimp only)
  (try k_fold)
  have zD1: @Ne Nat D1 (cL+1+1+1+1+1+1+1:Vf):=Ne.symm (O1 ((cL+1+1+1+1+1+1+1:Vf),o6) (by walk_at "mem"))
  have zD2: @Ne Nat D2 (cL+1+1+1+1+1+1+1:Vf):=Ne.symm (O2 ((cL+1+1+1+1+1+1+1:Vf),o6) (by walk_at "mem"))
  have zl7:=l6
  k_steps
  rename_i dA
  refine T3.mk fun hT9=>?_
  rename Fr _ _ _ _=>F9
  rename News _ _ _ _=>N9
  refine next D2 _ _ _ _ (B2 [] 6 rfl H hall hT9 n22 l22 F9 N9 (by walk_at "mem") dA (fun p hp=>by walk_at "mem") (by decide) (fun y hy=>(e19 y).trans (e09 y))) (if_pos rfl) ⟨v2,n2,l4 H hall n22 l22 N9 (by walk_at "mem") (Ne.symm zD2) (fun q hq=>O2 q (by walk_at "mem")),by rw[if_pos cnd];exact I2⟩
end Mine
end
section
open PySem PySem.W PySem.Calls PyProof.Rows
namespace Mine
open S (sK0 sK2 sK17 sK18 sK19 sK20)
theorem seg6{ot:Vf}{on:List Int}{ld:Int}{tl:Vm}{h:Vg}{tk:Nat}{m:Vk->Option UX}{cm:Nat->Option UX}{ps:Array UX}(G:Hyp)(H:j7 h m cm ps)(k4:cm 4=some (.ref ot))(k2:cm 2=some (.int ld tl))(ho:LI h ot on)(hol:on.length=2)(hob:∀x∈on,x.natAbs<=4)(hld:ld=1\/ld= -1)
  (next:∀(se:Vf) h' tk' m' cm',Q8 [] [7] h tk m cm h' tk' m' cm' ps->cm' 7=some (.ref se)->LI h' se ((a9 on).map fun x=>ld*x)->Seg 7 h' tk'):Seg 6 h tk:=by
 obtain⟨B,X,T,Se,C,l22,n22⟩:=G
 have q9:PR=PR:=rfl;unfold PR at q9;revert X q9;k_fill;intro X q9;clear q9
 have F:=H.fr
 refine E4 (A7 H 7 (by decide) (a:=(cL+1+1+1+1+1+1+1+1:Vf)) rfl) fun o7 news N d7 off hall=>?_
 refine oEA (H.cellC hall 4 (by decide) k4 (C7 (j:=4) (k:=7) (by decide))) fun o4 c4 d4=>?_
 replace c4:((cL+1+1+1+1+1:Vf),o4)∈news:=c4
 refine oEA (H.cellC hall 2 (by decide) k2 (C7 (j:=2) (k:=7) (by decide))) fun o2 c2 d2=>?_
 replace c2:((cL+1+1+1:Vf),o2)∈news:=c2
 obtain⟨vr,nr,mr,ir⟩:=ho
 replace mr:=mr.memC hall (l9 7 (by decide))
 have hlR:=isL N (by walk_at "mem")
 refine i6 rfl rfl ?_
 unfold PR
 k_steps
 unfold g9
 refine j5 (h₀:=cH) (L:=cL) (by walk_at "ur") (by decide) (by walk_at "ur") (by decide) (by intro _;walk_at "ur") ?_
 k_steps
 unfold g9
 k_dflt (refine' KC (AB _ _ _) ?u1 ?u2 ?u3 ?u4 ?u5 ?u6 ?u7 ?u8 ?u9 ?uA ?_;walk_at "u")
 case uA=>(refine(Js ?q0 ?q1 ?q2 ?q3);(case q0=>exact hlR);(case q1=>exact ir);(case q2=>omega);(case q3=>(intro x hx;have:=hob x hx;omega)))
 k_whole
 intro D1 v1 n1 h1 tk1 F1 N1 O1 I1
 (try dsimp only)
 (try k_fold)
 have zD1: @Ne Nat D1 (cL+1+1+1+1+1+1+1+1:Vf):=Ne.symm (O1 ((cL+1+1+1+1+1+1+1+1:Vf),o7) (by walk_at "mem"))
 k_steps
 unfold g9
 refine y2 (fun j Z Z y=>∃t,y= .int ((fun x=>ld*x) ((a9 on).getD j 0)) t) rfl (isL N1 (SI _)) (by rw[I1.length,i5,hol,Tz];decide) (by walk_at "ur") (by walk_at "ur") F1 N1 (s9 N1 (SI _)) ?elts8 ?fin8
 case elts8=>
  rintro j8 v8 C8 oC8 u8 H8 tk8 rest8 E8 hv8 hO8 hu8 F8 N8
  (refine y8 (n5 I1 hv8) fun r8 t8 hr8 o0_=>?_;obtain rfl:=o0_)
  have hm8:=Qt hr8
  replace hr8:=v4 hr8
  k_steps
  unfold g9
  k_dflt (refine' Aw (Et _ _ _ _) ?u1 ?u2 ?u3 ?u4 ?u5 ?u6 ?u7 ?u8 ?u9 ?uA ?_;walk_at "u")
  case uA=>exact Uz.of_left (SU (by omega) (by omega))
  k_whole
  intro h5 tk5 F5 N5 K5 t5
  (try dsimp only)
  (try k_fold)
  k_steps
  rename News _ _ _ _=>M8
  exact j3.intro (by assumption) M8 (fun p hp=>by walk_at "mem") ⟨_,by rw[hr8]⟩
 case fin8=>
  (intro _ r0_;(refine oEE r0_ fun Z Z o0_=>?_;clear r0_;obtain rfl:=o0_);intro D8 ys8 k8 h8 tk8 F8 N8 O8 P8)
  have I8:UG ys8 ((a9 on).map (fun x=>ld*x)):=by
   have:=g8 P8
   rw[I1.length,j6 (fun x=>ld*x)] at this
   exact this
  have zD8: @Ne Nat D8 (cL+1+1+1+1+1+1+1+1:Vf):=Ne.symm (O8 ((cL+1+1+1+1+1+1+1+1:Vf),o7) (by walk_at "mem"))
  k_steps
  rename_i dA
  refine T3.mk fun hT9=>?_
  rename Fr _ _ _ _=>F9
  rename News _ _ _ _=>N9
  refine next D8 _ _ _ _ (B2 [] 7 rfl H hall hT9 n22 l22 F9 N9 (by walk_at "mem") dA (fun p hp=>by walk_at "mem") (by decide) (fun y hy=>rfl)) (if_pos rfl) ⟨ys8,k8,l4 H hall n22 l22 N9 (by walk_at "mem") (Ne.symm zD8) (fun q hq=>O8 q (by walk_at "mem")),I8⟩
end Mine
end
section
open PySem PySem.W PySem.Calls PyProof.Rows
namespace Mine
open S (sK0 sK2 sK17 sK18 sK19 sK20 sK5)
theorem seg7{fi:Vf}{fn:List Int}{h:Vg}{tk:Nat}{m:Vk->Option UX}{cm:Nat->Option UX}{ps:Array UX}(G:Hyp)(H:j7 h m cm ps)(k6:cm 6=some (.ref fi))(hf:LI h fi fn)(hfl:fn.length=5)
  (next:∀(sl:Vf) h' tk' m',Q8 [(Ta "slope")] [] h tk m cm h' tk' m' cm ps->m' (Ta "slope")=some (.ref sl)->LI h' sl (E6 fn)->Seg 8 h' tk'):Seg 7 h tk:=by
 obtain⟨B,X,T,Se,C,l22,n22⟩:=G
 have q9:PR=PR:=rfl;unfold PR at q9;revert X q9;k_fill;intro X q9;clear q9
 have F:=H.fr
 refine oEA (i4 F) fun news N hall=>?_
 refine oEA (H.cell hall 6 (by decide) k6) fun o6 c6 d6=>?_
 replace c6:((cL+1+1+1+1+1+1+1:Vf),o6)∈news:=c6
 obtain⟨vr,nr,mr,ir⟩:=hf
 replace mr:=mr.mem hall
 have hlR:=isL N (by walk_at "mem")
 have hv5:vr.length=5:=ir.length.trans hfl
 refine i6 rfl rfl ?_
 unfold PR
 k_steps
 unfold g9
 refine wpK.any ?_
 refine v9 (h₀:=cH) (by walk_at "ur") (by walk_at "ur") (by decide) (by walk_at "ur") (by decide) (by intro _;walk_at "ur") (by walk_at "ur") (by walk_at "ur") ?_
 k_steps
 unfold g9
 rename_i D1 w1 h1 F1 N1 l1 I1 _ _
 rw[hfl] at I1
 refine FK (fun Z=>true) (fun j Z Z y=>∃t,y= .int ((fun j x=>x*(5-1-(j:Int))) j ((fn.take (5-1)).getD j 0)) t) rfl (isL N1 (SI _)) (by rw[I1.length,List.length_take,hfl,Tz];decide) (by walk_at "ur") (by walk_at "ur") (by decide) (by walk_at "ur") F1 N1 (s9 N1 (SI _)) (fun Z Z Z Z Z Z Z Z Z Z Z Z Z Z F N=>z8 (p9.intro F N (fun p hp=>by walk_at "mem") rfl)) ?elts8 ?fin8
 case elts8=>
  rintro j8 v8 tj8 C8 oC8 u8 H8 tk8 rest8 E8 hv8 hp8 hO8 hj8 hu8 F8 N8
  (refine y8 (n5 I1 hv8) fun r8 t8 hr8 o0_=>?_;obtain rfl:=o0_)
  have hm8:=Qt hr8
  have hlt8:=(PZ.mp hr8).1
  replace hr8:=v4 hr8
  have hlR8:=isL (a:=fi) (vs:=vr) (n:=nr) N8 (by walk_at "mem")
  have hjb:((j8:Nat):Int)<5:=by have:=hlt8;rw[List.length_take,hfl] at this;omega
  k_steps
  unfold g9
  k_dflt (refine' Aw (Et _ _ _ _) ?u1 ?u2 ?u3 ?u4 ?u5 ?u6 ?u7 ?u8 ?u9 ?uA ?_;walk_at "u")
  case uA=>exact Rv (SU (by omega) (by omega))
  k_whole
  intro h5 tk5 F5 N5 K5 t5
  (try dsimp only)
  (try k_fold)
  k_steps
  rename News _ _ _ _=>M8
  exact j3.intro (by assumption) M8 (fun p hp=>by walk_at "mem") ⟨_,by rw[hr8,hfl];rfl⟩
 case fin8=>
  (intro _ r0_;(refine oEE r0_ fun Z Z o0_=>?_;clear r0_;obtain rfl:=o0_);intro D8 ys8 k8 h8 tk8 F8 N8 O8 P8)
  have I8:UG ys8 (E6 fn):=by
   rw[s7,I1.length] at P8
   have h9:=g8 P8
   refine En (LU hfl) fun a b c d e q=>?_
   rw[q] at h9 ⊢
   simpa[E6,Sa] using h9
  rintro h9 tk9 F9 N9
  k_steps
  refine T3.mk fun hT9=>?_
  rename Fr _ _ _ _=>F9
  rename News _ _ _ _=>N9
  refine next D8 _ _ _ (i8 [(Ta "slope")] H hall hT9 n22 l22 F9 N9 (fun p hp=>by walk_at "mem") (fun y hy=>if_neg (V5 hy))) (by first|exact rfl|exact if_pos rfl|with_unfolding_all exact rfl) ⟨ys8,k8,p6 H hall n22 l22 N9 (by walk_at "mem") (fun q hq=>O8 q (by walk_at "mem")),I8⟩
end Mine
end
section
open PySem PySem.W PySem.Calls PyProof.Rows
namespace Mine
open S (sK0 sK2 sK17 sK18 sK19 sK20 sK5)
theorem seg8{fi sl se:Vf}{fn sln sen:List Int}{h:Vg}{tk:Nat}{m:Vk->Option UX}{cm:Nat->Option UX}{ps:Array UX}(G:Hyp)(H:j7 h m cm ps)(k6:cm 6=some (.ref fi))(k7:cm 7=some (.ref se))(hf:LI h fi fn)(hs:LI h sl sln)(he:LI h se sen)(hb:m (Ta "slope")=some (.ref sl))(hfl:fn.length=5)(hsl:sln.length=4)(hel:sen.length=3)(hmu:∀x∈sln,∀y∈sen,Uz x y)(hro:AS (b0 sln sen).length (b0 sln sen) fn)(hrl:(s6 (b0 sln sen) fn).length<=4)(hco:W8 (s6 (b0 sln sen) fn).length fn (s6 (b0 sln sen) fn))
  (next:∀(ch:Vf) h' tk' m' cm',Q8 [] [8] h tk m cm h' tk' m' cm' ps->cm' 8=some (.ref ch)->LL h' ch (E7 fn (s6 (b0 sln sen) fn))->Seg 9 h' tk'):Seg 8 h tk:=by
 obtain⟨B,X,T,Se,C,l22,n22⟩:=G
 have q9:PR=PR:=rfl;unfold PR at q9;revert X q9;k_fill;intro X q9;clear q9
 have F:=H.fr
 refine E4 (A7 H 8 (by decide) (a:=(cL+1+1+1+1+1+1+1+1+1:Vf)) rfl) fun o8 news N d8 off hall=>?_
 refine oEA (H.cellC hall 6 (by decide) k6 (C7 (j:=6) (k:=8) (by decide))) fun o6 c6 d6=>?_
 replace c6:((cL+1+1+1+1+1+1+1:Vf),o6)∈news:=c6
 refine oEA (H.cellC hall 7 (by decide) k7 (C7 (j:=7) (k:=8) (by decide))) fun o7 c7 d7=>?_
 replace c7:((cL+1+1+1+1+1+1+1+1:Vf),o7)∈news:=c7
 obtain⟨vf,nf,mf,jf⟩:=hf
 replace mf:=mf.memC hall (l9 8 (by decide))
 obtain⟨vs,ns,ms,js⟩:=hs
 replace ms:=ms.memC hall (l9 8 (by decide))
 obtain⟨ve,ne,me,je⟩:=he
 replace me:=me.memC hall (l9 8 (by decide))
 refine oA (Fr.putS F (hb)) fun F e09=>?_
 have hlE:=isL (a:=se) (vs:=ve) (n:=ne) N (by walk_at "mem")
 have hlS:=isL (a:=sl) (vs:=vs) (n:=ns) N (by walk_at "mem")
 refine i6 rfl rfl ?_
 unfold PR
 k_steps
 unfold g9
 k_dflt (refine' KC (Bi _ _ _ _ _ _) ?u1 ?u2 ?u3 ?u4 ?u5 ?u6 ?u7 ?u8 ?u9 ?uA ?_;walk_at "u")
 case uA=>(refine⟨?q0,?q1,?q2,?q3,?q4,?q5,?q6,?q7,?q8⟩;(case q0=>exact hlS);(case q1=>exact hlE);(case q2=>exact js);(case q3=>exact je);(case q4=>(rw[hsl];decide));(case q5=>(rw[hel];decide));(case q6=>(rw[hsl];decide));(case q7=>(rw[hel];decide));(case q8=>exact hmu))
 k_whole
 intro D1 v1 n1 h1 tk1 F1 N1 O1 I1
 (try dsimp only)
 (try k_fold)
 k_steps
 have hA1:=isL (a:=fi) (vs:=vf) (n:=nf) N1 (by walk_at "mem")
 have hB1:=isL N1 (SI _)
 have htl:(b0 sln sen).length=6:=by rw[y1,hsl,hel]
 unfold g9
 k_dflt (refine' use (Ie _ _ _ _ _ _) ?u1 ?u2 ?u3 ?u4 ?u5 ?u6 ?u7 ?u8 ?u9 ?uA ?_;walk_at "u")
 case uA=>(refine⟨?q0,?q1,?q2,?q3,?q4,?q5,?q6,?q7⟩;(case q0=>exact hB1);(case q1=>exact hA1);(case q2=>exact I1);(case q3=>exact jf);(case q4=>(rw[htl];decide));(case q5=>(rw[hfl];decide));(case q6=>(rw[hfl];decide));(case q7=>exact hro))
 k_whole
 intro r2 h2 tk2 F2 N2 K2 P2
 refine M3 P2 fun D2 v2 e2 hl2 I2=>?_;clear P2
 subst e2
 (try dsimp only)
 (try k_fold)
 k_steps
 have hA2:=isL (a:=fi) (vs:=vf) (n:=nf) N2 (by walk_at "mem")
 unfold g9
 k_dflt (refine' use (Kp _ _ _ _ _ _) ?u1 ?u2 ?u3 ?u4 ?u5 ?u6 ?u7 ?u8 ?u9 ?uA ?_;walk_at "u")
 case uA=>(refine⟨?q0,?q1,?q2,?q3,?q4,?q5⟩;(case q0=>exact hA2);(case q1=>exact hl2);(case q2=>exact jf);(case q3=>exact I2);(case q4=>omega);(case q5=>exact hco))
 k_whole
 intro r3 h3 tk3 F3 N3 K3 P3
 (refine oEA P3 fun rs o0_ P4=>?_;clear P3;obtain⟨D3,n3,e3,g3,q3⟩:=o0_)
 subst e3
 have z3:=V6 q3 N2
 have N3:=H6 F2 q3 g3 N3
 have S3:=l4 H hall n22 l22 N3 (by walk_at "mem") (Ne.symm (Ne.symm (z3 ((cL+1+1+1+1+1+1+1+1+1:Vf),o8) (by walk_at "mem")))) (fun q hq=>z3 q (by walk_at "mem"))
 (try dsimp only)
 (try k_fold)
 have Z3:=i8 [] H hall (TA tk) n22 l22 F3 N3 (fun p hp=>(RS.mp hp).elim (fun hp=>by obtain rfl:=QQ.mp hp;walk_at "mem") fun hp=>by walk_at "mem") (fun y hy=>e09 y)
 have K3:=Z3.law
 have F:=K3.fr
 refine E4 (A7 K3 8 (by decide) (a:=(cL+1+1+1+1+1+1+1+1+1:Vf)) rfl) fun o8 news3 N d8 off3 hall3=>?_
 clear F3 N3
 k_steps
 rename_i dA
 refine T3.mk fun hT9=>?_
 rename Fr _ _ _ _=>F9
 rename News _ _ _ _=>N9
 have Z9:=B2 [] 8 rfl K3 hall3 hT9 n22 l22 F9 N9 (by walk_at "mem") dA (fun p hp=>by walk_at "mem") (by decide) (fun Z Z=>rfl)
 exact next D3 _ _ _ _ (Z3.trans Z9) (if_pos rfl) ⟨rs,n3,S3.up Z9.st,Paired.mono (fun v ns x=>M3 x fun r us e l i=>(H5 r us e ((KI K3 l).up Z9.st) i)) P4⟩
end Mine
end
section
open PySem PySem.W PySem.Calls PyProof.Rows
namespace Mine
theorem NB{spn rn:List Int}{lf ld:Int}(hl:spn.length=6)(hb:∀x∈spn,x.natAbs<=4)(hf:0<=lf/\lf<=4)(hd:ld=1\/ld= -1)(hr:rn=if lf=0 then spn.take 4 else spn.take 2):
  Dom rn (spn.drop 4) ld (if lf=0 then [1] else [1, -2*spn.getD 2 0,spn.getD 2 0*spn.getD 2 0+lf]):=by
 obtain⟨a,b,c,d,e,f,rfl⟩:∃a b c d e f,spn=[a,b,c,d,e,f]:=by
  exact OR hl
 have ha:=hb a (by simp);have hb':=hb b (by simp);have hc:=hb c (by simp);have hd':=hb d (by simp);have he:=hb e (by simp);have hf':=hb f (by simp)
 have hcc:0<=c*c/\c*c<=16:=by
  have e:c*c=((c.natAbs*c.natAbs:Nat):Int):=Int.natAbs_mul_self.symm
  have k:=SF hc hc
  clear hf hb hd ha hb' hd' he hf'
  omega
 subst hr
 by_cases h:lf=0
 ·rw[if_pos h,if_pos h]
  refine⟨?_,?_,rfl,(by decide:2<=4),rfl,by rcases hd with rfl|rfl <;> rfl,?_, .inl rfl⟩
  ·intro r hr;simp at hr;rcases hr with rfl|rfl|rfl|rfl <;> assumption
  ·intro r hr;simp at hr;rcases hr with rfl|rfl <;> assumption
  ·intro x hx;simp at hx;subst hx;decide
 ·rw[if_neg h,if_neg h]
  refine⟨?_,?_,rfl,(by decide:2<=2),rfl,by rcases hd with rfl|rfl <;> rfl,?_, .inr (Bm c lf (by omega) rfl)⟩
  ·intro r hr;simp at hr;rcases hr with rfl|rfl <;> assumption
  ·intro r hr;simp at hr;rcases hr with rfl|rfl <;> assumption
  ·intro x hx
   simp at hx
   rcases hx with rfl|rfl|rfl
   ·decide
   ·rw[Sy];exact Td (QF _ ‹c.natAbs<=4›) (by decide)
   ·omega
theorem Kc{sc:Vf}{vsc:List UX}{nsc:List Int}{h:Vg}{tk:Nat}{m:Vk->Option UX}{cm:Nat->Option UX}{ps:Array UX}
  (G:Hyp)(H:j7 h m cm ps)(hK0:cm 0=some (.ref sc))(hsc:cH.IsList sc vsc.toArray)(hsi:UG vsc nsc)(hsn:nsc.length<=63)
  (fin:∀h' tk' m',Fr cH cL h' m'->(∃ps',h'.get? 222=some (UQ ps'))->cQ (.ret (.bool true)) ⟨h',cG,cD,tk',cO⟩):Seg 0 h tk:=by
 refine seg0 G H ?_
 intro D h1 tk1 m1 Z1 b1 l1 p1
 replace hK0:=((Z1.cl 0 (by decide)).trans hK0)
 refine seg1 G Z1.law hK0 b1 l1 hsc hsi hsn ?_
 intro cc cs h2 tk2 m2 Z2 b2 l2 cl cb
 refine seg2 G Z2.law b2 l2 cl cb ?_
 intro sp spn lf ld t1 t2 h3 tk3 m3 cm3 Z3 b3 b3l k2 l3 spl spb lfb ldb
 refine seg3 G Z3.law b3 b3l l3 spl ?_
 intro ro ot rn h4 tk4 m4 cm4 Z4 k3 k4 lr lo er
 have d:=NB spl spb lfb ldb er
 generalize eq9:(if lf=0 then [1] else [1, -2*spn.getD 2 0,spn.getD 2 0*spn.getD 2 0+lf])=q at d
 replace b2:=((Z4.nm _ (by decide)).trans ((Z3.nm _ (by decide)).trans b2))
 replace l2:=((l2.up Z3.st).up Z4.st)
 refine seg4 G Z4.law b2 l2 cl ?_
 intro pt pn h5 tk5 m5 cm5 Z5 k5 lp pnl pnp pnb
 have hrl:rn.length<=4:=by have:=d.ql;have:=d.rl;omega
 replace k3:=((Z5.cl 3 (by decide)).trans k3)
 replace b3:=((Z5.nm _ (by decide)).trans ((Z4.nm _ (by decide)).trans b3))
 replace b3l:=((Z5.nm _ (by decide)).trans ((Z4.nm _ (by decide)).trans b3l))
 replace l3:=((l3.up Z4.st).up Z5.st)
 replace lr:=(lr.up Z5.st)
 refine seg5 G Z5.law k3 b3 b3l l3 spl spb lfb lr hrl d.rs ?_
 intro fi h6 tk6 m6 cm6 Z6 k6 lf6
 rw[eq9] at lf6
 replace k4:=((Z6.cl 4 (by decide)).trans ((Z5.cl 4 (by decide)).trans k4))
 replace k2:=((Z6.cl 2 (by decide)).trans ((Z5.cl 2 (by decide)).trans ((Z4.cl 2 (by decide)).trans k2)))
 replace lo:=((lo.up Z5.st).up Z6.st)
 refine seg6 G Z6.law k4 k2 lo d.ol d.os ldb ?_
 intro se h7 tk7 m7 cm7 Z7 k7 ls
 replace k6:=((Z7.cl 6 (by decide)).trans k6)
 replace lf6:=(lf6.up Z7.st)
 refine seg7 G Z7.law k6 lf6 d.first_len ?_
 intro sl h8 tk8 m8 Z8 b8 lsl
 replace k6:=((Z8.cl 6 (by decide)).trans k6)
 replace k7:=((Z8.cl 7 (by decide)).trans k7)
 replace lf6:=(lf6.up Z8.st)
 replace ls:=(ls.up Z8.st)
 refine AX d.sizes fun ok1 rl4 ok2 Z=>?_
 refine seg8 G Z8.law k6 k7 lf6 lsl ls b8 d.first_len d.slope_len d.second_len (fun x hx y hy=>Uz.of_left (SU (by have:=QS (d.slope_big x hx) (by decide:_<2 ^ 62);omega) (by have:=QS (d.slope_big x hx) (by decide:_<2 ^ 62);omega))) ok1 rl4 ok2 ?_
 intro ch h9 tk9 m9 cm9 Z9 k8 lc
 replace p1:=(QR (QR (QR (QR (QR (QR (QR (QR p1 Z2.toks) Z3.toks) Z4.toks) Z5.toks) Z6.toks) Z7.toks) Z8.toks) Z9.toks)
 replace k2:=((Z9.cl 2 (by decide)).trans ((Z8.cl 2 (by decide)).trans ((Z7.cl 2 (by decide)).trans k2)))
 replace k3:=((Z9.cl 3 (by decide)).trans ((Z8.cl 3 (by decide)).trans ((Z7.cl 3 (by decide)).trans ((Z6.cl 3 (by decide)).trans k3))))
 replace k4:=((Z9.cl 4 (by decide)).trans ((Z8.cl 4 (by decide)).trans ((Z7.cl 4 (by decide)).trans k4)))
 replace k5:=((Z9.cl 5 (by decide)).trans ((Z8.cl 5 (by decide)).trans ((Z7.cl 5 (by decide)).trans ((Z6.cl 5 (by decide)).trans k5))))
 replace k6:=((Z9.cl 6 (by decide)).trans k6)
 replace k7:=((Z9.cl 7 (by decide)).trans k7)
 replace lr:=((((lr.up Z6.st).up Z7.st).up Z8.st).up Z9.st)
 replace lo:=(((lo.up Z7.st).up Z8.st).up Z9.st)
 replace lp:=((((lp.up Z6.st).up Z7.st).up Z8.st).up Z9.st)
 replace ls:=(ls.up Z9.st)
 exact LW G Z9.law k2 k3 k4 k5 k6 k7 k8 p1 lr lo lp ls lc ldb d rfl pnl pnp pnb fin
theorem LY(g:LawG):Cb g:=by
 refine LX (fun G sc vsc nsc h tk m cm ps H k hl hi hn fin=>?_) g
 have G':Hyp:=by
  obtain⟨B,X,T,Se,C,lt,no⟩:=G
  constructor <;> (first|unfold cH cW|unfold cW cH|unfold cH|unfold cL|skip) <;> (try unfold cW) <;> (try unfold cLo cMe cMg cMb) <;> assumption
 have H':j7 h m cm ps:=by
  obtain⟨fr,cells,tab,ok⟩:=H
  refine⟨?_,?_,tab,ok⟩
  ·unfold cH cL;exact fr
  ·unfold cL;exact cells
 have R:Seg 0 h tk:=Kc G' H' k (by unfold cH;exact hl) hi hn (by unfold cH cL cQ cG cD cO;exact fin)
 obtain⟨R2⟩:=R
 unfold cW cL cQ cG cD cO at R2
 constructor
 assumption
theorem LV{w:Va}{loose:List Vk}{mean:UH->Option UX}{mg mb:Vk->Option UX}{h₀:Vg}{L:Vf}{s:UO}{Q:Flow->UO->Prop}{sc:Vf}{vsc:List UX}{nsc:List Int}{m:Vk->Option UX}{cm:Nat->Option UX}{ps:Array UX}
  (B:Vd callerA h₀ [] h₀)(X:(_root_.Mine.Sh.hd.heap_39 w.params).In h₀)(T:Top UN loose mean mg mb h₀)(Se:h₀.NoSeer)(C:CodeHd h₀ 226 222)(lt:222<L)(no:h₀.get? 222=none)
  (F:Fr h₀ L s.heap m)(cells:∀k,k<11->∃o,s.heap.get? (n8 L k)=some o/\o.data= .cell (cm k))(tab:s.heap.get? 222=some (UQ ps))(ok:A5 s.heap 222 qualR ps)(k0:cm 0=some (.ref sc))(hl:h₀.IsList sc vsc.toArray)(hi:UG vsc nsc)(hn:nsc.length<=63)
  (hG:¬wpP (UZ PR w) (Nb (Ez w) L) (Ve ((Y8 w).drop 0) (CB (Ez w) L)) Q (fun Z Z=>False) s)
  (fin:∀h' tk' m',Fr h₀ L h' m'->(∃ps',h'.get? 222=some (UQ ps'))->Q (.ret (.bool true)) {s with heap:=h',toks:=tk'}):False:=by
 have k:PG ⟨w,loose,mean,mg,mb,h₀,L,s.gens,s.drawn,s.os,Q⟩ 0 s.heap s.toks:=LY _ ⟨B,X,T,Se,C,lt,no⟩ sc vsc nsc s.heap s.toks m cm ps ⟨F,cells,tab,ok⟩ k0 hl hi hn fin
 refine hG ?_
 obtain⟨k⟩:=k
 assumption
end Mine
end
section
open PySem PySem.W PySem.Calls PyProof.Rows
namespace Mine
theorem Hj{cw:ClaimW}{cl:Vk->Option Vf}{mean:UH->Option UX}{args:List WData}{tabs:List (Vf×Vf)}{s₁ s':UO}{v:UX}(p:UF)(w:Va)(hT:TabsAt tabs s₁.heap)(hr:∀a x,cw.raises a x=false)
  (h:GoodW cw cl mean args {s₁ with heap:=ghostOf s₁.heap tabs} (.ok (.ret v)) s'/\GrownAll tabs s'.heap):GoodWG cw cl mean args s₁ (.ok (.ret v)) s':=by
 have k:=kn_post (M:=⟨fun Z=>pure (.done (.ret v)),p,w⟩) (A:=callerA) (cd:= .builtin "claim.caller" {}) (s:=s') hT hr (fun Γ p hc Z=>(wpCode_iff_wp ..).mpr h)
 exact(wpCode_iff_wp ..).mp (k ⟨.builtin "claim.caller" {},none,none,[],none⟩ default rfl (Ft rfl (by decide) (fun Z e=>by cases e;rfl) (fun Z e=>by cases e;rfl) (by decide)))
theorem NV{cm:Vk->Option UX}{n:Vk}{c:Vf}{cs:List (Vk×Vf)}{cells:List (Vf×Vl)}(x:CellsAre cm ((n,c)::cs) cells):∃o r,cells=(c,o)::r/\o.data= .cell (cm n)/\CellsAre cm cs r:=
 by cases x with|cons d r=>exact H5 _ _ rfl d r
theorem cell_end{cm:Vk->Option UX}{cells:List (Vf×Vl)}(x:CellsAre cm [] cells):cells=[]:=by cases x;rfl
theorem Hi{h₁:Vg}{tabs:List (Vf×Vf)}(hT:TabsAt tabs h₁)(x:h₁.NoSeer):(ghostOf h₁ tabs).NoSeer where
 statics:=oEA x.statics fun mc a b=>iEA mc (ghost_ns hT a) b
 mods:=oEA x.mods fun mc a b=>iEA mc (ghost_ns hT a) b
 imp:=oEA x.imp fun mc a b=>iEA mc (ghost_ns hT a) b
 main:=Do x.main fun mg bm ob a b c d e=>⟨mg,bm,ob,ghost_ns hT a,b,ghost_get hT c (fun q=>by rw[q] at d;cases d),d,e⟩
theorem MZ{w:Va}{h:Vg}{mg mb:Vk->Option UX}{p:UF}{loose:List Vk}{mean:UH->Option UX}{a:Vf}(X:(_root_.Mine.Sh.hd.heap_39 w.params).In h)(T:Top p loose mean mg mb h)(hm:mg (Ta "law")=some (.ref a)):a=239:=by
 have e:mg (Ta "law")=some (.ref 239):=mg_of X T.g (by rfl)
 rw[hm] at e
 cases e;rfl
theorem Jb{cm:Vk->Option UX}{h:Vg}:∀{ns:List (Vk×Vf)}{cells:List (Vf×Vl)},CellsAre cm ns cells->(∀q∈cells,h.get? q.1=some q.2)->∀p∈ns,∃o,h.get? p.2=some o/\o.data= .cell (cm p.1):=fun{ns cells} x=>by
 induction x with
 |nil=>intro _ p hp;cases hp
 |cons d r ih=>
  intro hg p hp
  rcases SH.mp hp with rfl|hp
  ·exact(iEA _ (hg _ (.head _)) d)
  ·exact ih (fun q hq=>hg q (.tail _ hq)) p hp
noncomputable def La(k:Nat)(v:UX):Option UX:=match k with|0=>some v|_=>none
theorem final:_root_.PySem.Challenge.rw_wy0012_01.Holds:=by
 refine Mine.Sh.hd ?_
 k_fill
 intro w s₀ s₁ mg mb G hY a o pm cd doc dV kV ho hd hcd hD hmg hgens args vals as hpre hlay hrd hwl hlo
 refine PX fun hG=>?_
 have KX:=km_in_of hY
 km_tabs hY
 refine Ground.open G ?_
 intro T B D E TW
 km_lay T hmg ho hd cd
 have ea:=MZ KX T hmg
 wrow_args hpre hlay hrd hwl hlo
 subst ea
 rename TN _ _ _=>hL
 rename UG _ _=>hI
 rename¬_<_=>hlen
 have B':=ghost_below hT9
 have X':=ghost_K hT9 KX (by kernel_rfl)
 have T':=ghost_top hT9 T
 have C':=(ghost_code hT9).1
 have S':=Hi hT9 (T.seer (by decide+kernel))
 have hL':=ghost_list hT9 hL
 refine hG ?_
 refine wpP.call ?_
 refine Mf (P:=222) (K:=KW w) (binds:=[(Ta "script",_)]) (hT8 222 (.head _)) KX T rfl rfl (by decide) (SL rfl) rfl (by decide+kernel) (fun L h₁ tk cells F N Y Z=>?_) rfl rfl rfl
 have lt:222<L:=QR (Tc (hT8 222 (.head _))) (Td (Tn (hideAll_size _ _).symm) F.above)
 have g22:=N (222,UQ #[]) (RS.mpr (.inr (.head _)))
 have cs:=Jb (ns:=[(Ta "told",(n8 L 10:Vf)),(Ta "both",(n8 L 9:Vf)),(Ta "chain",(n8 L 8:Vf)),(Ta "second",(n8 L 7:Vf)),(Ta "first",(n8 L 6:Vf)),(Ta "points",(n8 L 5:Vf)),(Ta "others",(n8 L 4:Vf)),(Ta "roots",(n8 L 3:Vf)),(Ta "lead",(n8 L 2:Vf)),(Ta "k",(n8 L 1:Vf)),(Ta "script",(n8 L 0:Vf))]) Y (fun q hq=>(N q (RS.mpr (.inl hq))).1)
 have hc:∀k,k<11->∃o,h₁.get? (n8 L k)=some o/\o.data= .cell ((fun k=>La k _) k):=lt11 (P:=fun k=>∃o,h₁.get? (n8 L k)=some o/\o.data= .cell ((fun k=>La k _) k)) (cs _ (.tail _ (.tail _ (.tail _ (.tail _ (.tail _ (.tail _ (.tail _ (.tail _ (.tail _ (.tail _ (.head _)))))))))))) (cs _ (.tail _ (.tail _ (.tail _ (.tail _ (.tail _ (.tail _ (.tail _ (.tail _ (.tail _ (.head _))))))))))) (cs _ (.tail _ (.tail _ (.tail _ (.tail _ (.tail _ (.tail _ (.tail _ (.tail _ (.head _)))))))))) (cs _ (.tail _ (.tail _ (.tail _ (.tail _ (.tail _ (.tail _ (.tail _ (.head _))))))))) (cs _ (.tail _ (.tail _ (.tail _ (.tail _ (.tail _ (.tail _ (.head _)))))))) (cs _ (.tail _ (.tail _ (.tail _ (.tail _ (.tail _ (.head _))))))) (cs _ (.tail _ (.tail _ (.tail _ (.tail _ (.head _)))))) (cs _ (.tail _ (.tail _ (.tail _ (.head _))))) (cs _ (.tail _ (.tail _ (.head _)))) (cs _ (.tail _ (.head _))) (cs _ (.head _))
 apply PX
 intro hG
 refine LV (s:={s₁ with heap:=h₁,toks:=tk}) B' X' T' S' C' lt g22.2.2 F hc g22.1 ⟨trivial,fun Z Z e=>nomatch e⟩ rfl hL' hI (by omega) hG (fun h' tk' m' F' g=>?_)
 exact Hj Challenge.rw_wy0012_01.row.prog w hT9 (fun Z Z=>rfl) ⟨(Js (.inl ⟨_, .bool true,[],rfl,fun Z=>rfl, .bool true,by wrow_post,fun Z=>⟨List.nodup_nil,fun Z h=>nomatch h⟩⟩) F'.keep rfl hgens),⟨g,trivial⟩⟩
end Mine
end
end
theorem PySem.Challenge.cw_wy0012_01_holds : PySem.Challenge.rw_wy0012_01.Holds := by
 exact Mine.final
