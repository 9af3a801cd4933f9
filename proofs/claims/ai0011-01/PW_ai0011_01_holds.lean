import PyProof.Rows.All
import PySem.Builtin.Bytes.Common
import OpenK.Peek
import Open.Pieces
import KE.KPar
import Wide.FinOn
import OpenK.AllK
import Lean
import PySem.Challenge.RW_ai0011_01
set_option maxRecDepth 100000
set_option linter.all false
set_option Elab.async false
set_option genInjectivity false
set_option genSizeOf false
set_option bootstrap.genMatcherCode false
set_option backward.eqns.nonrecursive false
set_option backward.eqns.deepRecursiveSplit false
/-
A program has printed this text out of some 130 texts of mine, with short names and without blanks, for the sake of its size. What stands here, in this order:
- eliminators, and linear arithmetic by reflection (Tm);
- erased syntax trees (E, S), values (V), the erased bodies of the program's functions, and a small evaluator for them (Ev);
- the state behind the module's top (H), and the top's run up to there, piece by piece;
- soundness: what the small evaluator answers, the model answers;
- what each function gives on the small evaluator, and then the law itself, in plain lists: it gives True for each script;
- both put together.
The library's names are shortened by open .. renaming alone.
-/
noncomputable section
open And renaming intro->Ug,imp_right->U7
open Array renaming toList_append->So,toList_inj->SM,empty_append->Tq,mem_of_getElem?->Ud,any_toList->UF,size_push->UJ,toList->U1
open Array.mk renaming injEq->Uv
open Bool renaming and_eq_true->P9,eq_iff_iff->Rn,true_and->RW,not_eq_true'->R5,false_eq_true->Sw,or_false->SK,or_true->S8,beq_comm->Tr,and_false->TX,or_eq_true->UR,not_false->UU,false_and->UY,and_self->U3,and_true->U4,false_or->U5,true_or->U9
open Classical renaming em->Vs
open Eq renaming trans->S7
open Exists renaming imp->Ul
open ForInStep renaming yield->Q1
open Int renaming natAbs_natCast->Tu,fdiv_eq_ediv_of_nonneg->T6,fmod_eq_emod_of_nonneg->T7,natCast_nonneg->UH,toNat_natCast->UK,min_self->Vc,le_of_lt->Ve
open Int.ofNat renaming inj->Uz
open List renaming length_map->KE,mem_cons->P6,size_toArray->P7,length_append->Qa,range->Qb,append_assoc->Qc,not_mem_nil->Qd,getElem?_eq_some_iff->Qe,map_cons->Qf,mem_append->Qh,map_append->Qi,append_nil->Qj,map_map->Qk,length_take->Ql,forall_mem_cons->Qm,take_of_length_le->Qn,reverse_append->Qp,getElem?_eq_getElem->Qs,mem_filter->Qu,getElem?_eq_none_iff->Qv,drop_eq_nil_of_le->Qw,getElem?_toArray->QA,getElem?_append_right->QB,flatMap_cons->QC,mem_range->QE,take_length->QG,length_reverse->QH,length_cons->QK,mem_reverse->QL,drop_eq_getElem_cons->QO,getElem?_append_left->QP,eq_nil_or_concat->QR,concat_eq_append->QS,reverse_reverse->QV,lookup_cons->QW,any_eq_true->QX,mem_of_mem_take->QY,getLast?_append->QZ,foldl_cons->Q5,contains_iff_mem->Q6,toArray->Q8,length->Rc,forIn_cons->Re,findSome?_cons->Rh,length_drop->Rj,take_zero->Rk,drop_eq_nil_iff->Rp,mem_of_mem_drop->Rq,all_cons->Rs,length_pos_iff->Rt,take_append_of_le_length->Ru,mem_singleton->Rv,mem_filterMap->Rw,any_cons->RA,length_filter_le->RD,length_singleton->RF,getElem?_eq_none->RG,drop_left->RJ,mapM_cons->RK,mem_append_left->RL,range'_succ->RQ,append_toArray->RR,mem_map_of_mem->RU,map_nil->R6,drop_zero->R7,getElem?_map->R8,nodup_nil->Sa,singleton_append->Sc,take_append_drop->Sd,drop_length->Se,foldlM_cons->Sf,extract_toArray->Si,drop_append_of_le_length->Sk,dropLast_concat->Sl,range_succ->Sn,nil_append->Sp,dropLast_cons_of_ne_nil->Sq,map_congr_left->Sr,dropWhile_cons->Ss,mem_map->Su,any_map->Sv,extract_eq_take_drop->Sy,mem_of_find?_eq_some->Sz,length_range->SD,range'->SF,take_add_one->SG,getLast?_map->SH,filterMap_cons_some->SI,map_take->SJ,all_eq_true->SN,getElem_mem->SO,filter_cons->SP,mem_flatMap->SQ,reverse_singleton->S4,dropWhile_sublist->S5,find?_cons->S9,mem_append_right->Tb,set_append_right->Tc,dropLast_eq_take->Td,mem_cons_of_mem->Tf,foldlM->Ti,drop_drop->Tj,mem_of_getLast?->Tk,foldl_toArray->Ts,map_singleton->Tt,push_toArray->Tv,take_succ_eq_append_getElem->Tw,getElem?_set->Tx,nodup_append->Tz,exists_of_findSome?_eq_some->TC,takeWhile_append_dropWhile->TE,cons_append->TF,isEmpty_iff->TH,map_reverse->TJ,any_append->TK,length_zip->TL,nodup_cons->TM,all_append->TN,filter_map->TP,forIn_nil->TU,isSuffixOf_iff_suffix->TV,drop_take->TW,contains_eq_any_beq->T8,map_drop->T9,prefix_iff_eq_take->Ua,suffix_iff_eq_drop->Ub,take->Uc,takeWhile_sublist->Ue,range_succ_eq_map->Uf,mem_of_getElem?->Un,getElem?_set_ne->Uo,dropLast_subset->Up,takeWhile_cons->Us,zip_eq_zipWith->Uu,getElem?_drop->Ux,lookup_append->Uy,contains_cons->UA,getLast?_cons->UB,reverse_cons->UD,ext_getElem?->UG,mem_toArray->UL,flatMap_nil->UN,length_nil->UP,length_set->UQ,of_mem_zip->US,takeWhile->UV,map->UW,tail_drop->UX,findSome?->UZ,take_take->U0,mapM_nil->U2,all_map->U8,map_id->Vd,foldl->Vj,find?->Vm,tail->Vq
open List.Pairwise renaming nil->Vf
open List.cons renaming inj->QD,injEq->Vv
open Nat renaming le_antisymm->Qg,le_succ_of_le->Qo,le_of_lt->Qx,casesOn->Qy,add_le_add->QF,mod_lt->QJ,min_le_right->QM,lt_of_not_le->QN,not_lt->QQ,min_eq_left->QT,succ_pos->Ra,sub_self->Rb,lt_succ_of_le->Rf,zero_add->Rx,lt_of_le_of_lt->Ry,le_add_left->Rz,zero_le->RN,lt_succ_iff_lt_or_eq->RZ,lt_irrefl->R0,min_le_left->R2,lt_of_lt_of_le->R3,le_succ->R4,ne_of_lt->Sb,sub_le->Sh,le_of_lt_succ->SL,lt_succ_self->SU,le_of_not_lt->SV,le_add_right->SW,min_eq_right->SX,add_sub_cancel_left->S3,le_of_ble_eq_true->Te,beq->Tp,zero_mul->TD,ble->Uh,lt_or_ge->Ui,lt_of_succ_lt_succ->Uj,eq_of_beq_eq_true->Uk,add_mul->Uq,mul_add->Ur,add_sub_cancel->UC,lt_succ_of_lt->UI,le_of_succ_le->UM,succ_le_succ->UO,not_lt_zero->UT,add_assoc->U6,beq_refl->Va,add_zero->Vb,ne_of_gt->Vg,lt_trans->Vh,le_refl->Vi,not_le->Vo
open Nat.succ renaming inj->R1
open Option renaming bind_some->P8,isSome_iff_exists->Qz,map_some->QI,bind_eq_some_iff->QU,map_eq_some_iff->Q0,bind->Q2,map->RH,or->RM,none->Sx,elim_some->Uw
open Option.some renaming inj->Vn,injEq->Vp
open PUnit renaming unit->Q7
open Prod renaming fst->Rg,snd->Sj,mk->TS
open PyProof.Rows renaming stripBy_eq->Vk
open PySem.Heap renaming get?_push_size->Qr,lt_size->Q9,get?_push_of_some->Ri,SameBut->S6,size_push->Th,ExtBut->Um
open PySem.Heap.SameBut renaming update->Vl
open PySem.PyData renaming keyHash->Qq
open PySem.Value renaming bytes->Q4,ref->Tg,str->UE
open PySem.Value.bool renaming elim->Vr
open PySem.Value.int renaming elim->Vu
open PySem.Value.ref renaming inj->Ta
open PySem.Value.str renaming elim->Vt
open UInt8 renaming ofNat->Q3,toNat->Rm,toNat_inj->RY,toNat_ofNat'->Ut
namespace Internal
variable {a b:Nat}
abbrev Aa:=PySem.Value→PySem.Shared→Prop
abbrev Ab:=List UInt8
abbrev Ac:=PySem.Expr
theorem bC{motive:Bool→Prop}(t:Bool)(false:motive .false)(true:motive .true):motive t:=t.casesOn false true
theorem oA{α:Type _}{motive:Option α→Prop}(t:Option α)(none:motive .none)(some:∀val,motive (.some val)):motive t:=t.casesOn none some
theorem lC{α:Type _}{motive:List α→Prop}(t:List α)(nil:motive [])(cons:∀head tail,motive (head::tail)):motive t:=t.casesOn nil cons
theorem sJ{α:Type _}{a b:α}(h:some a=some b):a=b:=Vn h
theorem fF:¬false=true:=Bool.false_ne_true
theorem mM{α:Type _}{y a:α}{l:List α}(h:a∈l):a∈y::l:=Tf y h
theorem mS{α:Type _}{a:α}{l:List α}:a∈a::l:=List.mem_cons_self
theorem nR{n:Nat}:n≤n:=Vi n
theorem dS{n k:Nat}:n / k≤n:=Nat.div_le_self n k
theorem aA{a b:Bool}(h:(a&&b)=true):a=true∧b=true:=(P9 a b).mp h
theorem nE(h:a=b):a≤b:=Nat.le_of_eq h
theorem sC(h:b≤a):a -b+b=a:=Nat.sub_add_cancel h
theorem nT{c:Nat}(h:a≤b)(k:b≤c):a≤c:=Nat.le_trans h k
theorem bA{α:Type _}[BEq α][LawfulBEq α]{a b:α}(h:(a==b)=true):a=b:=eq_of_beq h
theorem lA{α:Type _}{p:α→Bool}{l:List α}(h:l.all p=true):∀x,x∈l→p x=true:=SN.mp h
theorem mA{α:Type _}{a b:α}(h:a∈[b]):a=b:=Rv.mp h
theorem pJ{α β:Type _}{a c:α}{b d:β}(h:(a,b)=(c,d)):a=c∧b=d:=Prod.mk.inj h
abbrev iP:= @if_pos
abbrev iN:= @if_neg
abbrev cG:= @congrArg
abbrev wB:= @PySem.wpAny_bind
abbrev wP:= @PySem.wpAny_pure
section
variable {α β γ δ ε ζ η θ:Sort _} {X:Prop}
section
variable {P Q R S T U V W:Prop}
theorem d7(h:P∧Q)(F:P→Q→X):X:=F h.1 h.2
theorem dR(h:P∧Q∧R)(F:P→Q→R→X):X:=F h.1 h.2.1 h.2.2
theorem ou(h0:P)(h1:Q)(h2:R):P∧Q∧R:=⟨h0,h1,h2⟩
theorem ty(h:P∧Q∧R∧S)(F:P→Q→R→S→X):X:=F h.1 h.2.1 h.2.2.1 h.2.2.2
theorem LM(h0:P)(h1:Q)(h2:R)(h3:S):P∧Q∧R∧S:=⟨h0,h1,h2,h3⟩
theorem Lx(h:P∧Q∧R∧S∧T∧U)(F:P→Q→R→S→T→U→X):X:=F h.1 h.2.1 h.2.2.1 h.2.2.2.1 h.2.2.2.2.1 h.2.2.2.2.2
theorem MD(h0:P)(h1:Q)(h2:R)(h3:S)(h4:T)(h5:U):P∧Q∧R∧S∧T∧U:=⟨h0,h1,h2,h3,h4,h5⟩
end
section
variable {P Q R S T U V W:α→Prop}
theorem ek(h:∃a,P a)(F:∀a,P a→X):X:=h.elim λa h=>F a h
theorem I8(a:α)(h0:P a):∃a,P a:=⟨a,h0⟩
theorem aQ(h:∃a,P a∧Q a)(F:∀a,P a→Q a→X):X:=h.elim λa h=>F a h.1 h.2
theorem a7(a:α)(h0:P a)(h1:Q a):∃a,P a∧Q a:=⟨a,h0,h1⟩
theorem gv(h:∃a,P a∧Q a∧R a)(F:∀a,P a→Q a→R a→X):X:=h.elim λa h=>F a h.1 h.2.1 h.2.2
theorem sx(a:α)(h0:P a)(h1:Q a)(h2:R a):∃a,P a∧Q a∧R a:=⟨a,h0,h1,h2⟩
theorem DH(h:∃a,P a∧Q a∧R a∧S a)(F:∀a,P a→Q a→R a→S a→X):X:=h.elim λa h=>F a h.1 h.2.1 h.2.2.1 h.2.2.2
theorem GX(a:α)(h0:P a)(h1:Q a)(h2:R a)(h3:S a):∃a,P a∧Q a∧R a∧S a:=⟨a,h0,h1,h2,h3⟩
end
section
variable {P Q R S T U V W:α→β→Prop}
theorem ql(h:∃a b,P a b)(F:∀a b,P a b→X):X:=h.elim λa h=>h.elim λb h=>F a b h
theorem G4(a:α)(b:β)(h0:P a b):∃a b,P a b:=⟨a,b,h0⟩
theorem ie(h:∃a b,P a b∧Q a b)(F:∀a b,P a b→Q a b→X):X:=h.elim λa h=>h.elim λb h=>F a b h.1 h.2
theorem oD(a:α)(b:β)(h0:P a b)(h1:Q a b):∃a b,P a b∧Q a b:=⟨a,b,h0,h1⟩
theorem fk(h:∃a b,P a b∧Q a b∧R a b)(F:∀a b,P a b→Q a b→R a b→X):X:=h.elim λa h=>h.elim λb h=>F a b h.1 h.2.1 h.2.2
theorem i6(a:α)(b:β)(h0:P a b)(h1:Q a b)(h2:R a b):∃a b,P a b∧Q a b∧R a b:=⟨a,b,h0,h1,h2⟩
theorem IJ(h:∃a b,P a b∧Q a b∧R a b∧S a b)(F:∀a b,P a b→Q a b→R a b→S a b→X):X:=h.elim λa h=>h.elim λb h=>F a b h.1 h.2.1 h.2.2.1 h.2.2.2
theorem Ln(a:α)(b:β)(h0:P a b)(h1:Q a b)(h2:R a b)(h3:S a b):∃a b,P a b∧Q a b∧R a b∧S a b:=⟨a,b,h0,h1,h2,h3⟩
theorem LS(h:∃a b,P a b∧Q a b∧R a b∧S a b∧T a b)(F:∀a b,P a b→Q a b→R a b→S a b→T a b→X):X:=h.elim λa h=>h.elim λb h=>F a b h.1 h.2.1 h.2.2.1 h.2.2.2.1 h.2.2.2.2
theorem LQ(h:∃a b,P a b∧Q a b∧R a b∧S a b∧T a b∧U a b)(F:∀a b,P a b→Q a b→R a b→S a b→T a b→U a b→X):X:=h.elim λa h=>h.elim λb h=>F a b h.1 h.2.1 h.2.2.1 h.2.2.2.1 h.2.2.2.2.1 h.2.2.2.2.2
end
section
variable {P Q R S T U V W:α→β→γ→Prop}
theorem LN(h:∃a b c,P a b c)(F:∀a b c,P a b c→X):X:=h.elim λa h=>h.elim λb h=>h.elim λc h=>F a b c h
theorem Mp(a:α)(b:β)(c:γ)(h0:P a b c):∃a b c,P a b c:=⟨a,b,c,h0⟩
theorem JZ(h:∃a b c,P a b c∧Q a b c)(F:∀a b c,P a b c→Q a b c→X):X:=h.elim λa h=>h.elim λb h=>h.elim λc h=>F a b c h.1 h.2
theorem L5(a:α)(b:β)(c:γ)(h0:P a b c)(h1:Q a b c):∃a b c,P a b c∧Q a b c:=⟨a,b,c,h0,h1⟩
theorem Jb(h:∃a b c,P a b c∧Q a b c∧R a b c)(F:∀a b c,P a b c→Q a b c→R a b c→X):X:=h.elim λa h=>h.elim λb h=>h.elim λc h=>F a b c h.1 h.2.1 h.2.2
theorem Mo(a:α)(b:β)(c:γ)(h0:P a b c)(h1:Q a b c)(h2:R a b c):∃a b c,P a b c∧Q a b c∧R a b c:=⟨a,b,c,h0,h1,h2⟩
theorem sz(h:∃a b c,P a b c∧Q a b c∧R a b c∧S a b c)(F:∀a b c,P a b c→Q a b c→R a b c→S a b c→X):X:=h.elim λa h=>h.elim λb h=>h.elim λc h=>F a b c h.1 h.2.1 h.2.2.1 h.2.2.2
theorem Ih(a:α)(b:β)(c:γ)(h0:P a b c)(h1:Q a b c)(h2:R a b c)(h3:S a b c):∃a b c,P a b c∧Q a b c∧R a b c∧S a b c:=⟨a,b,c,h0,h1,h2,h3⟩
theorem Jj(h:∃a b c,P a b c∧Q a b c∧R a b c∧S a b c∧T a b c)(F:∀a b c,P a b c→Q a b c→R a b c→S a b c→T a b c→X):X:=h.elim λa h=>h.elim λb h=>h.elim λc h=>F a b c h.1 h.2.1 h.2.2.1 h.2.2.2.1 h.2.2.2.2
theorem JB(a:α)(b:β)(c:γ)(h0:P a b c)(h1:Q a b c)(h2:R a b c)(h3:S a b c)(h4:T a b c):∃a b c,P a b c∧Q a b c∧R a b c∧S a b c∧T a b c:=⟨a,b,c,h0,h1,h2,h3,h4⟩
end
section
variable {P Q R S T U V W:α→β→γ→δ→Prop}
theorem K7(h:∃a b c d,P a b c d)(F:∀a b c d,P a b c d→X):X:=h.elim λa h=>h.elim λb h=>h.elim λc h=>h.elim λd h=>F a b c d h
theorem KH(h:∃a b c d,P a b c d∧Q a b c d)(F:∀a b c d,P a b c d→Q a b c d→X):X:=h.elim λa h=>h.elim λb h=>h.elim λc h=>h.elim λd h=>F a b c d h.1 h.2
theorem Ml(a:α)(b:β)(c:γ)(d:δ)(h0:P a b c d)(h1:Q a b c d):∃a b c d,P a b c d∧Q a b c d:=⟨a,b,c,d,h0,h1⟩
theorem JH(h:∃a b c d,P a b c d∧Q a b c d∧R a b c d)(F:∀a b c d,P a b c d→Q a b c d→R a b c d→X):X:=h.elim λa h=>h.elim λb h=>h.elim λc h=>h.elim λd h=>F a b c d h.1 h.2.1 h.2.2
theorem IA(h:∃a b c d,P a b c d∧Q a b c d∧R a b c d∧S a b c d)(F:∀a b c d,P a b c d→Q a b c d→R a b c d→S a b c d→X):X:=h.elim λa h=>h.elim λb h=>h.elim λc h=>h.elim λd h=>F a b c d h.1 h.2.1 h.2.2.1 h.2.2.2
theorem Lv(a:α)(b:β)(c:γ)(d:δ)(h0:P a b c d)(h1:Q a b c d)(h2:R a b c d)(h3:S a b c d):∃a b c d,P a b c d∧Q a b c d∧R a b c d∧S a b c d:=⟨a,b,c,d,h0,h1,h2,h3⟩
theorem L2(h:∃a b c d,P a b c d∧Q a b c d∧R a b c d∧S a b c d∧T a b c d)(F:∀a b c d,P a b c d→Q a b c d→R a b c d→S a b c d→T a b c d→X):X:=h.elim λa h=>h.elim λb h=>h.elim λc h=>h.elim λd h=>F a b c d h.1 h.2.1 h.2.2.1 h.2.2.2.1 h.2.2.2.2
theorem My(a:α)(b:β)(c:γ)(d:δ)(h0:P a b c d)(h1:Q a b c d)(h2:R a b c d)(h3:S a b c d)(h4:T a b c d):∃a b c d,P a b c d∧Q a b c d∧R a b c d∧S a b c d∧T a b c d:=⟨a,b,c,d,h0,h1,h2,h3,h4⟩
end
section
variable {P Q R S T U V W:α→β→γ→δ→ε→Prop}
theorem MC(h:∃a b c d e,P a b c d e)(F:∀a b c d e,P a b c d e→X):X:=h.elim λa h=>h.elim λb h=>h.elim λc h=>h.elim λd h=>h.elim λe h=>F a b c d e h
theorem Mj(h:∃a b c d e,P a b c d e∧Q a b c d e)(F:∀a b c d e,P a b c d e→Q a b c d e→X):X:=h.elim λa h=>h.elim λb h=>h.elim λc h=>h.elim λd h=>h.elim λe h=>F a b c d e h.1 h.2
theorem Mr(a:α)(b:β)(c:γ)(d:δ)(e:ε)(h0:P a b c d e)(h1:Q a b c d e):∃a b c d e,P a b c d e∧Q a b c d e:=⟨a,b,c,d,e,h0,h1⟩
theorem LF(h:∃a b c d e,P a b c d e∧Q a b c d e∧R a b c d e∧S a b c d e∧T a b c d e)(F:∀a b c d e,P a b c d e→Q a b c d e→R a b c d e→S a b c d e→T a b c d e→X):X:=h.elim λa h=>h.elim λb h=>h.elim λc h=>h.elim λd h=>h.elim λe h=>F a b c d e h.1 h.2.1 h.2.2.1 h.2.2.2.1 h.2.2.2.2
theorem Lr(a:α)(b:β)(c:γ)(d:δ)(e:ε)(h0:P a b c d e)(h1:Q a b c d e)(h2:R a b c d e)(h3:S a b c d e)(h4:T a b c d e):∃a b c d e,P a b c d e∧Q a b c d e∧R a b c d e∧S a b c d e∧T a b c d e:=⟨a,b,c,d,e,h0,h1,h2,h3,h4⟩
theorem KT(h:∃a b c d e,P a b c d e∧Q a b c d e∧R a b c d e∧S a b c d e∧T a b c d e∧U a b c d e∧V a b c d e)(F:∀a b c d e,P a b c d e→Q a b c d e→R a b c d e→S a b c d e→T a b c d e→U a b c d e→V a b c d e→X):X:=h.elim λa h=>h.elim λb h=>h.elim λc h=>h.elim λd h=>h.elim λe h=>F a b c d e h.1 h.2.1 h.2.2.1 h.2.2.2.1 h.2.2.2.2.1 h.2.2.2.2.2.1 h.2.2.2.2.2.2
theorem Mu(a:α)(b:β)(c:γ)(d:δ)(e:ε)(h0:P a b c d e)(h1:Q a b c d e)(h2:R a b c d e)(h3:S a b c d e)(h4:T a b c d e)(h5:U a b c d e)(h6:V a b c d e):∃a b c d e,P a b c d e∧Q a b c d e∧R a b c d e∧S a b c d e∧T a b c d e∧U a b c d e∧V a b c d e:=⟨a,b,c,d,e,h0,h1,h2,h3,h4,h5,h6⟩
end
section
variable {P Q R S T U V W:α→β→γ→δ→ε→ζ→Prop}
theorem MA(h:∃a b c d e f,P a b c d e f∧Q a b c d e f∧R a b c d e f∧S a b c d e f∧T a b c d e f∧U a b c d e f∧V a b c d e f)(F:∀a b c d e f,P a b c d e f→Q a b c d e f→R a b c d e f→S a b c d e f→T a b c d e f→U a b c d e f→V a b c d e f→X):X:=h.elim λa h=>h.elim λb h=>h.elim λc h=>h.elim λd h=>h.elim λe h=>h.elim λf h=>F a b c d e f h.1 h.2.1 h.2.2.1 h.2.2.2.1 h.2.2.2.2.1 h.2.2.2.2.2.1 h.2.2.2.2.2.2
theorem Jv(a:α)(b:β)(c:γ)(d:δ)(e:ε)(f:ζ)(h0:P a b c d e f)(h1:Q a b c d e f)(h2:R a b c d e f)(h3:S a b c d e f)(h4:T a b c d e f)(h5:U a b c d e f)(h6:V a b c d e f):∃a b c d e f,P a b c d e f∧Q a b c d e f∧R a b c d e f∧S a b c d e f∧T a b c d e f∧U a b c d e f∧V a b c d e f:=⟨a,b,c,d,e,f,h0,h1,h2,h3,h4,h5,h6⟩
end
section
variable {P Q R S T U V W:α→β→γ→δ→ε→ζ→η→Prop}
end
section
variable {P Q R S T U V W:α→β→γ→δ→ε→ζ→η→θ→Prop}
end
end
theorem bu{α β:Type}{f:α→Option β}{o:Option α}{b:β}{X:Prop}(e:o.bind f=some b)(F:∀a,o=some a→f a=some b→X):X:=(QU.mp e).elim λa h=>F a h.1 h.2
theorem kF{α β γ:Type}{f:α×γ→Option β}{o:Option (α×γ)}{b:β}{X:Prop}(e:o.bind f=some b)(F:∀a c,o=some (a,c)→f (a,c)=some b→X):X:=bu e λa h=>F a.1 a.2 h
theorem eN{α β:Type}{f:α→β}{o:Option α}{b:β}{X:Prop}(e:o.map f=some b)(F:∀a,o=some a→f a=b→X):X:=(Q0.mp e).elim λa h=>F a h.1 h.2
theorem Mx{α β γ:Type}{f:α×γ→β}{o:Option (α×γ)}{b:β}{X:Prop}(e:o.map f=some b)(F:∀a c,o=some (a,c)→f (a,c)=b→X):X:=eN e λa h=>F a.1 a.2 h
theorem km{α:Type}{c:Prop}[d:Decidable c]{a b:α}{X:Prop}(e:(if c then some a else none)=some b)(F:c→a=b→X):X:=match d,e with|.isTrue h,e=>F h (sJ e)|.isFalse _,e=>nomatch e
theorem vO{α:Type}{c:Bool}{x:Option α}{v:α}{X:Prop}(e:(if c=true then x else none)=some v)(F:c=true→x=some v→X):X:=match c,e with|true,e=>F rfl e|false,e=>nomatch e
theorem bO{a b:Bool}{X:Prop}(h:(a&&b)=true)(F:a=true→b=true→X):X:=F (aA h).1 (aA h).2
theorem jz{α β:Type}{f:α→β}{l:List α}{b:β}{X:Prop}(e:b∈l.map f)(F:∀a,a∈l→f a=b→X):X:=(Su.mp e).elim λa h=>F a h.1 h.2
theorem cps{G:Prop}(h:∀X:Prop,(G→X)→X):G:=h G id
theorem nn{X:Prop}(h:a=b)(e:Tp a b=false):X:=by subst h;exact absurd (e.symm.trans (Va a)) fF
theorem cj{c:Nat}(h:a≤b)(e:Uh b c=true):a≤c:=nT h (Te e)
theorem GT{c:Nat}(h:a<b)(e:Uh b c.succ=true):a≤c:=Nat.le_of_succ_le_succ (cj h e)
theorem kJ{c:Nat}(h:a≤b)(e:Uh b.succ c=true):a<c:=cj (UO h) e
theorem LV{X:Prop}(h:a≤b)(k:b<a):X:=absurd h (Vo.mpr k)
theorem iW(a b:Nat):a≤a -b+b:=by omega
inductive Tm where
 |c (n:Nat)|v (i:Nat)|a (x y:Tm)|m (k:Nat) (x:Tm)|r (x:Tm) (k:Nat)
abbrev ab:Tm:=.v 0
abbrev ae:Tm:=.v 1
abbrev af:Tm:=.v 2
abbrev ag:Tm:=.v 3
abbrev ah:Tm:=.v 4
abbrev ai:Tm:=.c 1
abbrev aj:Tm:=.c 0
abbrev al:Tm:=.c 2
noncomputable def Jn:List Nat→Nat→Nat
 |[],_=>0|x::_,0=>x|_::l,i+1=>Jn l i
noncomputable def Tm.den(ρ:List Nat):Tm→Nat
 |.c n=>n|.v i=>Jn ρ i|.a x y=>x.den ρ+y.den ρ|.m k x=>k*x.den ρ|.r x k=>x.den ρ*k
noncomputable def Tm.k0:Tm→Nat
 |.c n=>n|.v _=>0|.a x y=>x.k0+y.k0|.m k x=>k*x.k0|.r x k=>x.k0*k
noncomputable def Tm.co(i:Nat):Tm→Nat
 |.c _=>0|.v j=>bif Tp j i then 1 else 0|.a x y=>x.co i+y.co i|.m k x=>k*x.co i|.r x k=>x.co i*k
noncomputable def Tm.va(t:Tm):Nat→List Nat→Nat
 |_,[]=>0|i,x::l=>t.co i*x+t.va (i+1) l
inductive Pb where
 |g (x y:Tm)|h (k:Nat) (l r:Tm) (p:Pb)
noncomputable def Pb.F(ρ:List Nat):Pb→Prop
 |.g x y=>x.den ρ≤y.den ρ|.h _ l r p=>l.den ρ≤r.den ρ→p.F ρ
noncomputable def Pb.ok(n:Nat)(s t:Tm):Pb→Bool
 |.g x y=>Uh (x.a t).k0 (y.a s).k0&&ok' n (x.a t) (y.a s)|.h k l r p=>p.ok n (s.a (.m k l)) (t.a (.m k r))
where ok':Nat→Tm→Tm→Bool
 |0,_,_=>true|i+1,x,y=>Uh (x.co i) (y.co i)&&ok' i x y
theorem JO(n:Nat):∀ (l:List Nat) (i:Nat),(Tm.c n).va i l=0:=by
 intro l;induction l with
 |nil=>exact λi=>rfl|cons x l ih=>exact λi=>(cG (0*x+ ·) (ih _)).trans (TD x)
theorem K9(x y:Tm):∀ (l:List Nat) (i:Nat),(Tm.a x y).va i l=x.va i l+y.va i l:=by
 intro l;induction l with
 |nil=>exact λi=>rfl|cons z l ih=>intro i;show(x.co i+y.co i)*z+(Tm.a x y).va (i+1) l=x.co i*z+x.va (i+1) l+(y.co i*z+y.va (i+1) l);rw[ih,Uq];omega
theorem KQ(k:Nat)(x:Tm):∀ (l:List Nat) (i:Nat),(Tm.m k x).va i l=k*x.va i l:=by
 intro l;induction l with
 |nil=>exact λi=>rfl|cons z l ih=>intro i;show k*x.co i*z+(Tm.m k x).va (i+1) l=k*(x.co i*z+x.va (i+1) l);rw[ih,Ur,Nat.mul_assoc]
theorem KY(k:Nat)(x:Tm):∀ (l:List Nat) (i:Nat),(Tm.r x k).va i l=x.va i l*k:=by
 intro l;induction l with
 |nil=>exact λi=>(TD k).symm|cons z l ih=>intro i;show x.co i*k*z+(Tm.r x k).va (i+1) l=(x.co i*z+x.va (i+1) l)*k;rw[ih,Uq,Nat.mul_right_comm]
theorem J2(j:Nat):∀ (l:List Nat) (i:Nat),(j<i→(Tm.v j).va i l=0)∧(Tm.v (i+j)).va i l=Jn l j:=by
 intro l;induction l generalizing j with
 |nil=>exact λi=>⟨λ_=>rfl,rfl⟩
 |cons z l ih=>
  intro i;refine⟨λh=>?_,?_⟩
  ·show(bif Tp j i then 1 else 0)*z+(Tm.v j).va (i+1) l=0;rw[(ih j _).1 (UI h)];have:Tp j i=false:=by cases e:Tp j i with|false=>rfl|true=>exact absurd (Uk e) (Sb h)
   rw[this];exact TD z
  ·show(bif Tp (i+j) i then 1 else 0)*z+(Tm.v (i+j)).va (i+1) l=_;cases j with|zero=>rw[Vb,(ih i (i+1)).1 (SU i),Va i];exact Nat.one_mul z|succ j=>
    have h:=(ih j (i+1)).2;rw[show i+1+j=i+(j+1) by omega] at h;rw[h];have:Tp (i+(j+1)) i=false:=by cases e:Tp (i+(j+1)) i with|false=>rfl|true=>exact absurd (Uk e) (by omega)
    rw[this];exact(cG (· +Jn l j) (TD z)).trans (Rx _)
theorem yX(ρ:List Nat)(t:Tm):t.den ρ=t.k0+t.va 0 ρ:=by
 induction t with
 |c n=>rw[JO];rfl|v i=>have:=(J2 i ρ 0).2;rw[Rx] at this;rw[this];exact(Rx _).symm|a x y i1 i2=>rw[K9];show x.den ρ+y.den ρ=x.k0+y.k0+_;rw[i1,i2];omega|m k x ih=>rw[KQ];show k*x.den ρ=k*x.k0+_;rw[ih,Ur]|r x k ih=>rw[KY];show x.den ρ*k=x.k0*k+_;rw[ih,Uq]
theorem Hs{x y:Tm}:∀ (l:List Nat) (i:Nat),(∀j,j<i+l.length→x.co j≤y.co j)→x.va i l≤y.va i l:=by
 intro l;induction l with
 |nil=>exact λi _=>nR|cons z l ih=>exact λi h=>QF (Nat.mul_le_mul_right _ (h i (by simp))) (ih _ λj hj=>h j (by simp at hj⊢;omega))
theorem HO{x y:Tm}:∀ (n:Nat),Pb.ok.ok' n x y=true→∀j,j<n→x.co j≤y.co j:=by
 intro n;induction n with
 |zero=>exact λ_ j h=>absurd h (UT j)
 |succ n ih=>
  intro h j hj;have h:=aA h;rcases RZ.mp hj with q|rfl
  ·exact ih h.2 j q
  ·exact Te h.1
theorem FT(ρ:List Nat):∀ (p:Pb) (s t:Tm),p.ok ρ.length s t=true→s.den ρ≤t.den ρ→p.F ρ:=by
 intro p;induction p with
 |g x y=>
  intro s t e h;have e:=aA e
  have k:(x.a t).den ρ≤(y.a s).den ρ:=by rw[yX,yX];exact QF (Te e.1) (Hs ρ 0 λj hj=>HO _ e.2 j (by simpa using hj))
  exact Nat.le_of_add_le_add_right (nT k (Nat.add_le_add_left h _))
 |h k l r p ih=>exact λs t e h q=>ih _ _ e (QF h (Nat.mul_le_mul_left k q))
theorem aZ(ρ:List Nat)(p:Pb)(e:p.ok ρ.length aj aj=true):p.F ρ:=FT ρ p _ _ e nR
theorem Ls{k:Nat}(h:k<2):k=0∨k=1:=(RZ.mp h).imp_left Nat.lt_one_iff.mp
theorem JA{k:Nat}(h:k<3):k=0∨k=1∨k=2:=(RZ.mp h).elim (λh=>(Ls h).imp_right .inl) λh=>.inr (.inr h)
theorem I5{k:Nat}(h:k<4):k=0∨k=1∨k=2∨k=3:=(RZ.mp h).elim (λh=>(JA h).imp_right λh=>h.imp_right .inl) λh=>.inr (.inr (.inr h))
theorem Ik{α:Type}{l:List α}(h:l.length≤3)(hne:l≠[]):(∃a,l=[a])∨(∃a b,l=[a,b])∨∃a b c,l=[a,b,c]:=by
 rcases l with _|⟨a,_|⟨b,_|⟨c,_|⟨d,l⟩⟩⟩⟩
 ·exact absurd rfl hne
 ·exact .inl ⟨a,rfl⟩
 ·exact .inr (.inl ⟨a,b,rfl⟩)
 ·exact .inr (.inr ⟨a,b,c,rfl⟩)
 ·exact absurd h (Vo.mpr (Rz 4 l.length))
end Internal
namespace Internal
open PySem (Str Scope NameKind)
inductive K where
 |none|bool (b:Bool)|int (i:Int)|str (s:List Nat)|bytes (b:List UInt8)
 deriving DecidableEq
inductive Op where|add|sub|fdiv|mod
 deriving DecidableEq
inductive Cm where|eq|ne|lt|le|gt|ge|is|isNot|in|notIn
 deriving DecidableEq
inductive T where
 |v (x:Nat)|t (ts:List T)|attr (x:Nat) (a:Nat)|bad
mutual
inductive E where
 |k (k:K)|v (x:Nat)|g (x:Nat)|b (Nq:Bool) (es:List E)|bin (op:Op) (a b:E)|not (e:E)|neg (e:E)|p (l:E) (MW:List Cm) (rs:List E)|ite (c a b:E)|attr (e:E) (a:Nat)|sub (e i:E)|l (e:E) (lo hi:Option E)|list (es:List E)|t (es:List E)|call (f:E) (args:List E)|m (o:E) (a:Nat) (args:List E)|comp (elt:E) (gens:List G) (frees:List Nat)|gen (elt:E) (gens:List G) (frees:List Nat)|lam (ps:List Nat) (frees:List Nat) (body:E)|bad
inductive G where
 |mk (t:T) (it:E) (M5:List E)
end
inductive S where
 |expr (e:E)|a (ts:List T) (e:E)|d (xs:List Nat) (es:List E)|n (t:T)|u (x:Nat) (op:Op) (e:E)|ret (e:E)|ite (c:E) (a b:List S)|while (c:E) (b:List S)|for (t:T) (it:E) (b:List S)|brk|cont|pass|try (b:List S)
 |bad
inductive V where
 |none|bool (b:Bool)|int (i:Int)|str (s:List Nat)|bytes (b:List UInt8)|t (xs:List V)|list (xs:List V)|inst (C:Nat) (fs:List (Nat×V))|o (n:Nat)|fn (f:Nat)|cls (c:Nat)|blt (b:Nat)|clo (ps:List Nat) (body:E) (MX:List (Nat×V))
inductive Cell where
 |list (xs:List V)|obj (C:Nat) (fs:List (Nat×V))
noncomputable abbrev aF:=List (Nat×V)
noncomputable abbrev aq:=List Cell
noncomputable def gK:List (List Nat):=[
 [95,119,97,108,108],
 [107],
 [95,95,110,97,109,101,95,95],
 [95,79,115],
 [108,105,110,101,115,101,112],
 [102,115,101,110,99,111,100,101],
 [115,101,108,102],
 [116,101,120,116],
 [111,115],
 [95,76,111,103,103,101,114],
 [119,97,114,110,105,110,103],
 [118,97,108,117,101,115],
 [108,111,103,103,101,114],
 [95,101,115,99,97,112,101],
 [111,99,116,101,116,115],
 [111,117,116],
 [111,99,116,101,116],
 [98,121,116,101,115],
 [95,114,101,97,100,95,111,99,116,101,116],
 [105],
 [105,110,116],
 [95,114,101,97,100,95,99,108,97,115,115],
 [110,101,103,97,116,101,100],
 [114,97,110,103,101,115],
 [108,111,119],
 [104,105,103,104],
 [95,114,101,97,100,95,112,97,114,116,115],
 [112,97,114,116,115],
 [107,105,110,100],
 [119,104,97,116],
 [108,101,97,115,116],
 [109,111,115,116],
 [108,101,110],
 [69,120,112,114,101,115,115,105,111,110],
 [95,95,105,110,105,116,95,95],
 [105,103,110,111,114,101,99,97,115,101],
 [95],
 [104,111,108,100,115],
 [111,110,101],
 [111,110,99,101],
 [110,97,109,101],
 [112,108,97,99,101,115],
 [46,48],
 [112,108,97,99,101],
 [101,110,100,115],
 [100,111,110,101],
 [110,111,119],
 [109,97,110,121],
 [102,114,101,115,104],
 [108,105,115,116],
 [109,97,116,99,104],
 [95,82,101],
 [73,71,78,79,82,69,67,65,83,69],
 [101,115,99,97,112,101],
 [99,111,109,112,105,108,101],
 [102,108,97,103,115],
 [114,101],
 [95,83,76,65,83,72],
 [95,80,79,83,73,88,95,67,76,65,83,83,69,83],
 [77,97,108,102,111,114,109,101,100,80,97,116,116,101,114,110],
 [69,120,99,101,112,116,105,111,110],
 [95,114,101,110,100,101,114],
 [109,101,109,98,101,114,115],
 [97],
 [98],
 [112,105,101,99,101],
 [109,105,110],
 [109,97,120],
 [95,112,111,115,105,120,95,99,108,97,115,115],
 [112,97,116,116,101,114,110],
 [99,108,97,115,115,101,115],
 [115,116,97,114,116],
 [106],
 [116,114,97,110,115,108,97,116,101,95,98,114,97,99,107,101,116,95,101,120,112,114,101,115,115,105,111,110],
 [110],
 [112,114,101,118],
 [102,105,114,115,116],
 [99],
 [98,111,100,121],
 [95,116,114,97,110,115,108,97,116,101,95,115,101,103,109,101,110,116],
 [115,101,103,109,101,110,116],
 [114,101,115],
 [98,114,97,99,107,101,116],
 [95,115,112,108,105,116,95,115,101,103,109,101,110,116,115],
 [112,97,116],
 [115,101,103,109,101,110,116,115],
 [95,98,114,97,99,107,101,116],
 [95,116,114,97,110,115,108,97,116,101,95,100,111,117,98,108,101,95,97,115,116,101,114,105,115,107],
 [114,101,109,97,105,110,105,110,103],
 [97,108,108],
 [115],
 [95,99,111,108,108,97,112,115,101,95,100,111,117,98,108,101,95,97,115,116,101,114,105,115,107,115],
 [99,111,108,108,97,112,115,101,100],
 [95,116,114,97,110,115,108,97,116,101],
 [114,101,103,101,120,95,112,97,114,116],
 [116,114,97,110,115,108,97,116,101],
 [116,114,97,110,115,108,97,116,101,95,119,105,108,100,109,97,116,99,104],
 [95,104,97,110,100,108,101,95,108,101,97,100,105,110,103,95,112,97,116,116,101,114,110,115],
 [112,114,101,102,105,120,95,97,100,100,101,100],
 [116,114,97,110,115,108,97,116,101,95,105,103,110,111,114,101],
 [80,97,116,116,101,114,110],
 [105,115,95,101,120,99,108,117,100,101],
 [105,115,95,100,105,114,101,99,116,111,114,121,95,111,110,108,121],
 [105,115,95,101,109,112,116,121],
 [95,114,101],
 [95,110,97,109,101,95,114,101],
 [95,100,101,115,99,114,105,98,101,115,95,99,111,110,116,101,110,116,115],
 [95,95,101,113,95,95],
 [111,116,104,101,114],
 [105,115,105,110,115,116,97,110,99,101],
 [109,97,116,99,104,101,115],
 [105,115,95,100,105,114],
 [98,111,111,108],
 [114,101,97,99,104,101,115,95,105,110,115,105,100,101],
 [112,114,101,102,105,120],
 [112,97,116,104],
 [95,114,101,108,97,116,105,118,101,95,116,111],
 [100,101,112,116,104],
 [95,108,97,115,116,95,109,97,116,99,104,105,110,103,95,112,97,116,116,101,114,110],
 [102,105,108,116,101,114,115],
 [102],
 [114,101,108,110,97,109,101],
 [114,101,118,101,114,115,101,100],
 [95,100,101,99,105,100,101],
 [102,105,108,116,101,114,115,95,102,111,114],
 [114,97,110,103,101],
 [112,97,114,101,110,116],
 [95,101,120,99,108,117,100,101,100,95,105,110,115,105,100,101],
 [95,109,97,121,95,112,114,117,110,101],
 [73,103,110,111,114,101,70,105,108,116,101,114],
 [112,97,116,116,101,114,110,115],
 [95,112,97,116,116,101,114,110,115],
 [95,105,103,110,111,114,101,99,97,115,101],
 [95,112,97,116,104],
 [97,112,112,101,110,100,95,112,97,116,116,101,114,110],
 [99,111,109,112,105,108,101,100],
 [102,105,110,100,95,109,97,116,99,104,105,110,103],
 [112,114,111,112,101,114,116,121],
 [105,115,95,105,103,110,111,114,101,100],
 [109,97,121,95,112,114,117,110,101,95,100,105,114,101,99,116,111,114,121],
 [73,103,110,111,114,101,70,105,108,116,101,114,83,116,97,99,107],
 [95,102,105,108,116,101,114,115],
 [102,105,108,116,101,114],
 [115,116,97,116,117,115],
 [95,108,97,119,95,112,97,114,116,115],
 [95,108,97,119,95,114,117,108,101],
 [110,117,109,98,101,114],
 [100,105,118,109,111,100],
 [104,111,109,101],
 [112,105,99,107],
 [109,111,114,101],
 [99,111,109,112,115],
 [116,117,114,110],
 [111,110,108,121],
 [108,101,97,100],
 [108,105,110,101],
 [100,101,101,112],
 [119,105,108,100],
 [114,117,108,101],
 [95,108,97,119,95,112,97,114,116],
 [95,108,97,119,95,102,105,116,115],
 [95,108,97,119,95,108,97,115,116],
 [114,117,108,101,115],
 [102,111,108,100,101,114],
 [102,105,116],
 [95,108,97,119,95,119,111,114,100,115],
 [95,108,97,119,95,100,117,101],
 [119,111,114,100,115],
 [115,108,97,115,104],
 [95,108,97,119,95,115,97,109,101],
 [116,111,108,100],
 [100,117,101],
 [95,108,97,119,95,97,98,111,118,101],
 [104,111,109,101,115],
 [122,105,112],
 [97,98,111,118,101],
 [105,103,110,111,114,101,100],
 [95,108,97,119,95,115,116,97,99,107,101,100],
 [115,116,97,99,107],
 [115,111,109,101],
 [108,97,119],
 [115,99,114,105,112,116],
 [110,117,109,98,101,114,115],
 [97,115,107],
 [108,101,97,102],
 [116,119,111],
 [114,111,119,115],
 [102,111,108,100,101,114,115],
 [97,115,107,101,100],
 [108,105,110,101,115],
 [104,97,122,121],
 [119,104,111,108,101],
 [108,111,111,107],
 [112,114,117,110,101,100],
 [111,114,100,101,114],
 [97,112,112,101,110,100],
 [115,116,97,114,116,115,119,105,116,104],
 [101,110,100,115,119,105,116,104],
 [114,115,116,114,105,112],
 [115,112,108,105,116],
 [114,115,112,108,105,116],
 [106,111,105,110],
 [100,101,99,111,100,101],
 [101,110,99,111,100,101]]
noncomputable def oM:List (List Nat)→Nat→List Nat→Option Nat
 |[],_,_=>none|l::r,n,x=>if l==x then some n else oM r (n+1) x
noncomputable def idOf(x:Str):Option Nat:=oM gK 0 x.cps.toList
noncomputable abbrev NT:Nat:=204
noncomputable def B1:PySem.Const→Option K
 |.none=>some .none|.bool b=>some (.bool b)|.int i=>some (.int i)|.str s=>some (.str s.cps.toList)|.bytes b=>some (.bytes b)|_=>none
noncomputable def qd:PySem.Operator→Option Op
 |.Add=>some .add|.Sub=>some .sub|.FloorDiv=>some .fdiv|.Mod=>some .mod|_=>none
noncomputable def pR:PySem.CmpOp→Cm
 |.Eq=>.eq|.NotEq=>.ne|.Lt=>.lt|.LtE=>.le|.Gt=>.gt|.GtE=>.ge|.Is=>.is|.IsNot=>.isNot|.In=>.in|.NotIn=>.notIn
noncomputable def cu(sc:Scope)(x:Str):E:=match sc.names.lookup x,idOf x with|some .local,some k|some .cell,some k|some .free,some k=>.v k|some .globalImplicit,some k=>.g k|_,_=>.bad
noncomputable def dO(sc:Scope):List Nat:=sc.names.filterMap λy=>if y.2== .free then idOf y.1 else none
noncomputable def kK(sc:Scope)(x:Str):Bool:=match sc.names.lookup x with|some .local|some .cell=>true|_=>false
noncomputable def J8(sc:Scope)(x:Str):Bool:=match sc.names.lookup x with|some .cell|some .free=>true|_=>false
noncomputable def xZ(sc:Scope):PySem.Expr→Bool
 |.Name x _=>kK sc x|.Attribute (.Name _ _) _ _=>true|_=>false
noncomputable def mZ(sc:Scope):PySem.Expr→Bool
 |.Tuple es _ _=>es.all (xZ sc)|t=>xZ sc t
noncomputable def hY(sc:Scope):Bool:=sc.kind== .function&& !sc.isCoroutine&&sc.names.all λy=>sc.names.lookup y.1==some y.2
noncomputable def lM(sc csc:Scope):Bool:=csc.names.all λy=>y.2 != .free||J8 sc y.1
noncomputable def zb(sc Nb:Scope)(ps:List PySem.Arg):Bool:=
 hY Nb&&lM sc Nb&& !Nb.isGenerator&&Nb.names.all (λy=>y.2 != .cell&&(y.2 != .free||(idOf y.1).isSome))&&ps.all λa=>(idOf a.arg).isSome&&Nb.names.lookup a.arg==some .local
noncomputable def sP(csc:Scope)(gens:List PySem.Comprehension):Bool:=gens.all λg=>g.is_async==0&&mZ csc g.target
noncomputable def e9(sc csc:Scope)(gens:List PySem.Comprehension):Bool:=hY csc&&lM sc csc&&sP csc gens
noncomputable def Ex(sc csc:Scope)(gens:List PySem.Comprehension):Bool:=e9 sc csc gens&&csc.isGenerator&&csc.names.all (λy=>y.2 != .cell)&&csc.names.lookup (".0":Str)==some NameKind.local
noncomputable def dT(e:PySem.Expr):Bool:=e.ctorIdx !=7
noncomputable def eI(e:PySem.Expr):Bool:= !(e.ctorIdx==8||e.ctorIdx==9||e.ctorIdx==10)
noncomputable def jS(sc:Scope)(ts vs:List PySem.Expr):Option (Option (List Str)):=
 if !(ts.length==2||ts.length==3)||vs.length !=ts.length then some none
 else if(vs.any λ|.Starred .. =>true|_=>false) then some none
 else
  let line:=(ts.head?.map (·.pos.line)).getD 0
  let names:=ts.filterMap λ
   |.Name id pos=>if sc.names.lookup id==some NameKind.local&&pos.line==line then some id else none|_=>none
  if names.length !=ts.length||names.eraseDups.length !=names.length then some none
  else if vs.all (PySem.foldedForSure 8) then some none
  else if vs.all (PySem.constantsAlone 8) then none
  else some (some names)
noncomputable def dM:PySem.Expr→Bool
 |.Call (.Name id _) [] [] _=>id !=("super":Str)|_=>true
mutual
noncomputable def nA (sc:Scope):PySem.Expr→T
 |.Name x _=>(match cu sc x with|.v k=>.v k|_=>.bad)|.Tuple es _ _=>.t (yd sc es)|.Attribute (.Name x _) a _=>(match cu sc x,idOf a with|.v k,some a=>.attr k a|_,_=>.bad)|_=>.bad
noncomputable def yd (sc:Scope):List PySem.Expr→List T
 |[]=>[]|e::r=>nA sc e::yd sc r
end
noncomputable def cL(sc csc:Scope):Scope:={csc with names:=csc.names.map λ(n,k)=>if(k== .free&&sc.kind== .function&&sc.names.lookup n==some .cell) then(n,.cell) else(n,k)}
mutual
noncomputable def bn (sc:Scope):PySem.Expr→E
 |.Constant c _ _=>(match B1 c with|some k=>.k k|none=>.bad)|.Name x _=>cu sc x|.BoolOp op es _=>.b (op== .And) (bP sc es)|.BinOp a op b _=>(match qd op with|some o=>.bin o (bn sc a) (bn sc b)|none=>.bad)|.UnaryOp .Not e _=>.not (bn sc e)|.UnaryOp .USub e _=>.neg (bn sc e)|.Compare l MW rs _=>if rs.all dT&&MW.length==rs.length then .p (bn sc l) (MW.map pR) (bP sc rs) else .bad|.IfExp c a b _=>.ite (bn sc c) (bn sc a) (bn sc b)|.Attribute e a _=>(match idOf a with|some a=>if dM e then .attr (bn sc e) a else .bad|none=>.bad)|.Subscript e (.Slice lo hi none _) _=>.l (bn sc e) (IS sc lo) (IS sc hi)|.Subscript e i _=>.sub (bn sc e) (bn sc i)|.List es _=>.list (bP sc es)|.Tuple es _ _=>.t (bP sc es)|.Call (.Attribute o a apos) args [] pos=>(match idOf a with|some a=>if dM o&&apos.endLine==pos.line&&decide (args.length≤20) then .m (bn sc o) a (bP sc args) else .bad|none=>.bad)|.Call f args [] _=>.call (bn sc f) (bP sc args)|.ListComp elt gens csc _=>if e9 sc csc gens then .comp (bn (cL sc csc) elt) (oV sc csc (cL sc csc) gens) (dO csc) else .bad|.GeneratorExp elt gens csc _=>if Ex sc csc gens then .gen (bn csc elt) (oV sc csc csc gens) (dO csc) else .bad|.Lambda ⟨[],ps,none,[],[],none,[]⟩ body Nb _=>if zb sc Nb ps then .lam (ps.filterMap λa=>idOf a.arg) (dO Nb) (bn Nb body) else .bad|_=>.bad
noncomputable def bP (sc:Scope):List PySem.Expr→List E
 |[]=>[]|e::r=>bn sc e::bP sc r
noncomputable def IS (sc:Scope):Option PySem.Expr→Option E
 |none=>none|some e=>some (bn sc e)
noncomputable def oV (sc csc O3:Scope):List PySem.Comprehension→List G
 |[]=>[]|⟨t,it,M5,_⟩::r=>.mk (nA O3 t) (bn sc it) (bP O3 M5)::oV O3 csc O3 r
end
noncomputable def Gx:PySem.Expr→Option (List PySem.Expr)
 |.Tuple ts _ _=>some ts|_=>none
noncomputable def n9(t e:PySem.Expr):Option (List PySem.Expr×List PySem.Expr):=(Gx t).bind λa=>(Gx e).map λb=>(a,b)
noncomputable def E9:PySem.Expr→Bool
 |.List [] _=>true|_=>false
noncomputable def IQ(sc:Scope)(t e:PySem.Expr):S:=match n9 t e with|some (ts,vs)=>(match jS sc ts vs with|some none=>if mZ sc t then .a [nA sc t] (bn sc e) else .bad|some (some names)=>if names.all λn=>(idOf n).isSome then .d (names.filterMap idOf) (bP sc vs) else .bad|none=>.bad)|none=>if E9 e then(if mZ sc t then .n (nA sc t) else .bad) else if mZ sc t then .a [nA sc t] (bn sc e) else .bad
mutual
noncomputable def Kr (sc:Scope):PySem.Stmt→S
 |.Expr e _=>if eI e then .expr (bn sc e) else .bad|.Assign [t] e _=>IQ sc t e|.AugAssign (.Name x _) op e _=>(match cu sc x,qd op with|.v k,some o=>if kK sc x then .u k o (bn sc e) else .bad|_,_=>.bad)|.Return (some e) _=>.ret (bn sc e)|.If c a b _=>.ite (bn sc c) (fW sc a) (fW sc b)|.While c b [] _=>.while (bn sc c) (fW sc b)|.For t it b [] _=>if mZ sc t then .for (nA sc t) (bn sc it) (fW sc b) else .bad|.Break _=>.brk|.Continue _=>.cont|.Pass _=>.pass|.Try b (_::_) [] [] _=>.try (fW sc b)
 |_=>.bad
noncomputable def fW (sc:Scope):List PySem.Stmt→List S
 |[]=>[]|s::r=>Kr sc s::fW sc r
end
end Internal
namespace Internal
open PySem (Str Scope NameKind)
variable {f:Nat→Option V}{m:Nat}
noncomputable def Gz:List S:=[
 .ret (.m (.v 7) 203 [])]
noncomputable def MJ:List S:=[
 .a [(.v 15)] (.k (.bytes [])),
 .for (.v 16) (.v 14) [
  .ite (.p (.v 16) [.in] [(.k (.bytes [40,41,91,93,123,125,63,42,43,45,124,94,36,92,46,38,126,35,32,9,10,13,11,12]))]) [
   .u 15 .add (.k (.bytes [92]))] [],
  .u 15 .add (.call (.g 17) [(.list [(.v 16)])])],
 .ret (.v 15)]
noncomputable def MM:List S:=[
 .ite (.p (.sub (.v 7) (.v 19)) [.ne] [(.k (.int 92))]) [
  .ret (.t [(.sub (.v 7) (.v 19)),(.bin .add (.v 19) (.k (.int 1)))])] [],
 .ite (.p (.sub (.v 7) (.bin .add (.v 19) (.k (.int 1)))) [.eq] [(.k (.int 120))]) [
  .ret (.t [(.call (.g 20) [(.m (.l (.v 7) (some (.bin .add (.v 19) (.k (.int 2)))) (some (.bin .add (.v 19) (.k (.int 4))))) 202 []),(.k (.int 16))]),(.bin .add (.v 19) (.k (.int 4)))])] [],
 .ite (.p (.sub (.v 7) (.bin .add (.v 19) (.k (.int 1)))) [.eq] [(.k (.int 116))]) [
  .ret (.t [(.k (.int 9)),(.bin .add (.v 19) (.k (.int 2)))])] [],
 .ite (.p (.sub (.v 7) (.bin .add (.v 19) (.k (.int 1)))) [.eq] [(.k (.int 110))]) [
  .ret (.t [(.k (.int 10)),(.bin .add (.v 19) (.k (.int 2)))])] [],
 .ite (.p (.sub (.v 7) (.bin .add (.v 19) (.k (.int 1)))) [.eq] [(.k (.int 114))]) [
  .ret (.t [(.k (.int 13)),(.bin .add (.v 19) (.k (.int 2)))])] [],
 .ret (.t [(.sub (.v 7) (.bin .add (.v 19) (.k (.int 1)))),(.bin .add (.v 19) (.k (.int 2)))])]
noncomputable def Mv:List S:=[
 .a [(.v 22)] (.p (.sub (.v 7) (.v 19)) [.eq] [(.k (.int 94))]),
 .ite (.v 22) [
  .u 19 .add (.k (.int 1))] [],
 .n (.v 23),
 .while (.p (.sub (.v 7) (.v 19)) [.ne] [(.k (.int 93))]) [
  .a [(.t [(.v 24),(.v 19)])] (.call (.g 18) [(.v 7),(.v 19)]),
  .a [(.v 25)] (.v 24),
  .ite (.p (.sub (.v 7) (.v 19)) [.eq] [(.k (.int 45))]) [
   .a [(.t [(.v 25),(.v 19)])] (.call (.g 18) [(.v 7),(.bin .add (.v 19) (.k (.int 1)))])] [],
  .expr (.m (.v 23) 195 [(.t [(.v 24),(.v 25)])])],
 .ret (.t [(.t [(.v 22),(.v 23)]),(.bin .add (.v 19) (.k (.int 1)))])]
noncomputable def KO:List S:=[
 .n (.v 27),
 .while (.b true [(.p (.v 19) [.lt] [(.call (.g 32) [(.v 7)])]),(.p (.sub (.v 7) (.v 19)) [.ne] [(.k (.int 41))])]) [
  .a [(.v 28)] (.k (.str [111,99,116,101,116])),
  .a [(.v 29)] (.t [(.k (.bool true)),(.list [])]),
  .ite (.p (.l (.v 7) (some (.v 19)) (some (.bin .add (.v 19) (.k (.int 4))))) [.eq] [(.k (.bytes [40,63,33,41]))]) [
   .a [(.v 28)] (.k (.str [110,101,118,101,114])),
   .u 19 .add (.k (.int 4))] [
   .ite (.p (.sub (.v 7) (.v 19)) [.eq] [(.k (.int 40))]) [
    .a [(.v 28)] (.k (.str [103,114,111,117,112])),
    .a [(.t [(.v 29),(.v 19)])] (.call (.g 26) [(.v 7),(.ite (.p (.sub (.v 7) (.bin .add (.v 19) (.k (.int 1)))) [.eq] [(.k (.int 63))]) (.bin .add (.v 19) (.k (.int 3))) (.bin .add (.v 19) (.k (.int 1))))]),
    .u 19 .add (.k (.int 1))] [
    .ite (.p (.sub (.v 7) (.v 19)) [.eq] [(.k (.int 91))]) [
     .a [(.t [(.v 29),(.v 19)])] (.call (.g 21) [(.v 7),(.bin .add (.v 19) (.k (.int 1)))])] [
     .ite (.p (.l (.v 7) (some (.v 19)) (some (.bin .add (.v 19) (.k (.int 2))))) [.eq] [(.k (.bytes [92,90]))]) [
      .a [(.v 28)] (.k (.str [101,110,100])),
      .u 19 .add (.k (.int 2))] [
      .ite (.p (.sub (.v 7) (.v 19)) [.eq] [(.k (.int 46))]) [
       .u 19 .add (.k (.int 1))] [
       .ite (.p (.sub (.v 7) (.v 19)) [.eq] [(.k (.int 92))]) [
        .u 19 .add (.k (.int 1))] [],
       .a [(.v 29)] (.t [(.k (.bool false)),(.list [(.t [(.sub (.v 7) (.v 19)),(.sub (.v 7) (.v 19))])])]),
       .u 19 .add (.k (.int 1))]]]]],
  .a [(.t [(.v 30),(.v 31)])] (.t [(.k (.int 1)),(.k (.int 1))]),
  .ite (.b true [(.p (.v 19) [.lt] [(.call (.g 32) [(.v 7)])]),(.p (.sub (.v 7) (.v 19)) [.in] [(.k (.bytes [42,43,63]))])]) [
   .a [(.v 30)] (.ite (.p (.sub (.v 7) (.v 19)) [.eq] [(.k (.int 43))]) (.k (.int 1)) (.k (.int 0))),
   .a [(.v 31)] (.ite (.p (.sub (.v 7) (.v 19)) [.eq] [(.k (.int 63))]) (.k (.int 1)) (.k .none)),
   .u 19 .add (.k (.int 1)),
   .ite (.b true [(.p (.v 19) [.lt] [(.call (.g 32) [(.v 7)])]),(.p (.sub (.v 7) (.v 19)) [.eq] [(.k (.int 63))])]) [
    .u 19 .add (.k (.int 1))] []] [],
  .expr (.m (.v 27) 195 [(.t [(.v 28),(.v 29),(.v 30),(.v 31)])])],
 .ret (.t [(.v 27),(.v 19)])]
noncomputable def C1:List S:=[
 .a [(.attr 6 35)] (.v 35),
 .a [(.t [(.attr 6 27),(.v 36)])] (.call (.g 26) [(.v 7),(.ite (.p (.l (.v 7) none (some (.k (.int 5)))) [.eq] [(.k (.bytes [40,63,109,115,41]))]) (.k (.int 5)) (.k (.int 0)))])]
noncomputable def pX:List S:=[
 .a [(.t [(.v 22),(.v 23)])] (.v 29),
 .a [(.v 14)] (.list [(.v 16)]),
 .ite (.b true [(.attr (.v 6) 35),(.p (.k (.int 65)) [.le,.le] [(.v 16),(.k (.int 90))])]) [
  .expr (.m (.v 14) 195 [(.bin .add (.v 16) (.k (.int 32)))])] [],
 .ite (.b true [(.attr (.v 6) 35),(.p (.k (.int 97)) [.le,.le] [(.v 16),(.k (.int 122))])]) [
  .expr (.m (.v 14) 195 [(.bin .sub (.v 16) (.k (.int 32)))])] [],
 .for (.t [(.v 24),(.v 25)]) (.v 23) [
  .for (.v 38) (.v 14) [
   .ite (.p (.v 24) [.le,.le] [(.v 38),(.v 25)]) [
    .ret (.not (.v 22))] []]],
 .ret (.v 22)]
noncomputable def CA:List S:=[
 .ite (.p (.v 28) [.eq] [(.k (.str [103,114,111,117,112]))]) [
  .ret (.m (.v 6) 44 [(.v 29),(.v 40),(.v 41)])] [],
 .ite (.p (.v 28) [.eq] [(.k (.str [101,110,100]))]) [
  .ret (.comp (.v 43) [(.mk (.v 43) (.v 41) [(.p (.v 43) [.eq] [(.call (.g 32) [(.v 40)])])])] [40])] [],
 .ite (.p (.v 28) [.eq] [(.k (.str [110,101,118,101,114]))]) [
  .ret (.list [])] [],
 .ret (.comp (.bin .add (.v 43) (.k (.int 1))) [(.mk (.v 43) (.v 41) [(.b true [(.p (.v 43) [.lt] [(.call (.g 32) [(.v 40)])]),(.m (.v 6) 37 [(.v 29),(.sub (.v 40) (.v 43))])])])] [40,6,29])]
noncomputable def vV:List S:=[
 .for (.t [(.v 28),(.v 29),(.v 30),(.v 31)]) (.v 27) [
  .a [(.v 45)] (.ite (.p (.v 30) [.eq] [(.k (.int 0))]) (.call (.g 49) [(.v 41)]) (.list [])),
  .a [(.v 46)] (.call (.g 49) [(.v 41)]),
  .a [(.v 47)] (.k (.int 0)),
  .while (.b true [(.v 46),(.b false [(.p (.v 31) [.is] [(.k .none)]),(.p (.v 47) [.lt] [(.v 31)])])]) [
   .u 47 .add (.k (.int 1)),
   .n (.v 48),
   .for (.v 43) (.m (.v 6) 39 [(.v 28),(.v 29),(.v 40),(.v 46)]) [
    .ite (.b true [(.p (.v 43) [.notIn] [(.v 45)]),(.p (.v 43) [.notIn] [(.v 48)])]) [
     .expr (.m (.v 48) 195 [(.v 43)])] []],
   .a [(.v 45)] (.bin .add (.v 45) (.v 48)),
   .a [(.v 46)] (.v 48)],
  .a [(.v 41)] (.v 45)],
 .ret (.v 41)]
noncomputable def Cq:List S:=[
 .ret (.p (.call (.g 32) [(.m (.v 6) 44 [(.attr (.v 6) 27),(.v 40),(.list [(.k (.int 0))])])]) [.gt] [(.k (.int 0))])]
noncomputable def C3:List S:=[
 .ret (.call (.g 13) [(.v 14)])]
noncomputable def DB:List S:=[
 .ret (.call (.g 33) [(.v 7),(.p (.v 55) [.eq] [(.k (.int 2))])])]
noncomputable def JK:List S:=[
 .ite (.p (.v 80) [.eq] [(.k (.bytes [42]))]) [
  .ret (.k (.bytes [91,94,47,93,43]))] [],
 .a [(.v 81)] (.k (.bytes [])),
 .d [19,74] [(.k (.int 0)),(.call (.g 32) [(.v 80)])],
 .while (.p (.v 19) [.lt] [(.v 74)]) [
  .a [(.v 77)] (.l (.v 80) (some (.v 19)) (some (.bin .add (.v 19) (.k (.int 1))))),
  .u 19 .add (.k (.int 1)),
  .ite (.p (.v 77) [.eq] [(.k (.bytes [42]))]) [
   .while (.b true [(.p (.v 19) [.lt] [(.v 74)]),(.p (.l (.v 80) (some (.v 19)) (some (.bin .add (.v 19) (.k (.int 1))))) [.eq] [(.k (.bytes [42]))])]) [
    .u 19 .add (.k (.int 1))],
   .u 81 .add (.k (.bytes [91,94,47,93,42]))] [
   .ite (.p (.v 77) [.eq] [(.k (.bytes [63]))]) [
    .u 81 .add (.k (.bytes [91,94,47,93]))] [
    .ite (.p (.v 77) [.eq] [(.k (.bytes [92]))]) [
     .ite (.p (.v 19) [.lt] [(.v 74)]) [
      .u 81 .add (.m (.g 56) 53 [(.l (.v 80) (some (.v 19)) (some (.bin .add (.v 19) (.k (.int 1)))))]),
      .u 19 .add (.k (.int 1))] [
      .u 81 .add (.m (.g 56) 53 [(.v 77)])]] [
     .ite (.p (.v 77) [.eq] [(.k (.bytes [91]))]) [
      .a [(.t [(.v 19),(.v 82)])] (.call (.g 73) [(.v 80),(.v 19)]),
      .u 81 .add (.v 82)] [
      .u 81 .add (.m (.g 56) 53 [(.v 77)])]]]]],
 .ret (.v 81)]
noncomputable def KZ:List S:=[
 .ite (.p (.k (.bytes [91])) [.notIn] [(.v 84)]) [
  .ret (.m (.v 84) 199 [(.k (.bytes [47]))])] [],
 .n (.v 85),
 .bad,
 .while (.p (.v 19) [.lt] [(.call (.g 32) [(.v 84)])]) [
  .a [(.v 77)] (.l (.v 84) (some (.v 19)) (some (.bin .add (.v 19) (.k (.int 1))))),
  .ite (.b true [(.p (.v 77) [.eq] [(.k (.bytes [92]))]),(.p (.bin .add (.v 19) (.k (.int 1))) [.lt] [(.call (.g 32) [(.v 84)])])]) [
   .u 19 .add (.k (.int 2))] [
   .ite (.p (.v 77) [.eq] [(.k (.bytes [91]))]) [
    .a [(.t [(.v 19),(.v 86)])] (.call (.g 73) [(.v 84),(.bin .add (.v 19) (.k (.int 1)))])] [
    .ite (.p (.v 77) [.eq] [(.k (.bytes [47]))]) [
     .expr (.m (.v 85) 195 [(.l (.v 84) (some (.v 71)) (some (.v 19)))]),
     .a [(.v 71)] (.bin .add (.v 19) (.k (.int 1)))] [],
    .u 19 .add (.k (.int 1))]]],
 .expr (.m (.v 85) 195 [(.l (.v 84) (some (.v 71)) none)]),
 .ret (.v 85)]
noncomputable def J6:List S:=[
 .a [(.v 88)] (.l (.v 85) (some (.bin .add (.v 19) (.k (.int 1)))) none),
 .ite (.call (.g 89) [(.gen (.p (.v 90) [.eq] [(.k (.bytes []))]) [(.mk (.v 90) (.v 88) [])] [])]) [
  .ite (.v 88) [
   .ret (.k (.bytes [46,42,47]))] [],
  .ret (.k (.bytes [46,42]))] [],
 .ite (.p (.v 19) [.eq] [(.k (.int 0))]) [
  .ret (.k (.bytes [40,63,58,46,42,47,41,63,63]))] [],
 .ret (.k (.bytes [40,63,58,91,94,47,93,43,47,41,42]))]
noncomputable def HT:List S:=[
 .n (.v 92),
 .for (.v 80) (.v 85) [
  .ite (.b true [(.p (.v 80) [.eq] [(.k (.bytes [42,42]))]),(.v 92),(.p (.sub (.v 92) (.neg (.k (.int 1)))) [.eq] [(.k (.bytes [42,42]))])]) [
   .cont] [],
  .expr (.m (.v 92) 195 [(.v 80)])],
 .ret (.v 92)]
noncomputable def H5:List S:=[
 .ite (.p (.v 84) [.eq] [(.k (.bytes [42,42]))]) [
  .ret (.k (.bytes [46,42]))] [],
 .a [(.v 81)] (.k (.bytes [])),
 .a [(.v 85)] (.call (.g 91) [(.call (.g 83) [(.v 84)])]),
 .a [(.v 19)] (.k (.int 0)),
 .while (.p (.v 19) [.lt] [(.call (.g 32) [(.v 85)])]) [
  .a [(.v 80)] (.sub (.v 85) (.v 19)),
  .ite (.b true [(.p (.v 19) [.gt] [(.k (.int 0))]),(.p (.sub (.v 85) (.bin .sub (.v 19) (.k (.int 1)))) [.ne] [(.k (.bytes [42,42]))])]) [
   .u 81 .add (.m (.g 56) 53 [(.k (.bytes [47]))])] [],
  .ite (.p (.v 80) [.eq] [(.k (.bytes [42,42]))]) [
   .a [(.v 94)] (.call (.g 87) [(.v 85),(.v 19)]),
   .u 81 .add (.v 94),
   .ite (.p (.v 94) [.eq] [(.k (.bytes [46,42]))]) [
    .brk] []] [
   .u 81 .add (.call (.g 79) [(.v 80)])],
  .u 19 .add (.k (.int 1))],
 .ret (.v 81)]
noncomputable def KP:List S:=[
 .ret (.call (.g 93) [(.v 69)])]
noncomputable def JP:List S:=[
 .ite (.m (.v 84) 196 [(.k (.bytes [47,42,42,47]))]) [
  .ret (.t [(.l (.v 84) (some (.k (.int 4))) none),(.k (.bytes [40,46,42,47,41,63]))])] [
  .ite (.m (.v 84) 196 [(.k (.bytes [42,42,47]))]) [
   .ret (.t [(.l (.v 84) (some (.k (.int 3))) none),(.k (.bytes [40,46,42,47,41,63]))])] [
   .ite (.m (.v 84) 196 [(.k (.bytes [47]))]) [
    .ret (.t [(.l (.v 84) (some (.k (.int 1))) none),(.k (.bytes []))])] [
    .ret (.t [(.v 84),(.k (.bytes []))])]]]]
noncomputable def JS:List S:=[
 .a [(.v 81)] (.k (.bytes [40,63,109,115,41])),
 .ite (.p (.k (.bytes [47])) [.notIn] [(.l (.v 84) none (some (.neg (.k (.int 1)))))]) [
  .u 81 .add (.k (.bytes [40,46,42,47,41,63]))] [],
 .a [(.t [(.v 84),(.v 98)])] (.call (.g 97) [(.v 84),(.v 81)]),
 .ite (.v 98) [
  .u 81 .add (.v 98)] [],
 .u 81 .add (.call (.g 96) [(.v 84)]),
 .ite (.not (.m (.v 84) 197 [(.k (.bytes [47]))])) [
  .u 81 .add (.k (.bytes [47,63]))] [],
 .ret (.bin .add (.v 81) (.k (.bytes [92,90])))]
noncomputable def BU:List S:=[
 .a [(.attr 6 69)] (.v 69),
 .a [(.attr 6 35)] (.v 35),
 .ite (.m (.v 69) 196 [(.k (.bytes [33]))]) [
  .a [(.attr 6 101)] (.k (.bool false)),
  .a [(.v 69)] (.l (.v 69) (some (.k (.int 1))) none)] [
  .ite (.b true [(.m (.v 69) 196 [(.k (.bytes [92]))]),(.p (.call (.g 32) [(.v 69)]) [.gt] [(.k (.int 1))]),(.p (.l (.v 69) (some (.k (.int 1))) (some (.k (.int 2)))) [.in] [(.t [(.k (.bytes [33])),(.k (.bytes [35]))])])]) [
   .a [(.v 69)] (.l (.v 69) (some (.k (.int 1))) none)] [],
  .a [(.attr 6 101)] (.k (.bool true))],
 .a [(.attr 6 102)] (.m (.v 69) 197 [(.k (.bytes [47]))]),
 .a [(.attr 6 103)] (.not (.m (.v 69) 198 [(.k (.bytes [47]))])),
 .a [(.v 55)] (.k (.int 0)),
 .ite (.attr (.v 6) 35) [
  .a [(.v 55)] (.attr (.g 56) 52)] [],
 .a [(.attr 6 104)] (.m (.g 56) 54 [(.call (.g 99) [(.v 69)]),(.v 55)]),
 .a [(.attr 6 105)] (.m (.g 56) 54 [(.call (.g 99) [(.m (.v 69) 198 [(.k (.bytes [47]))])]),(.v 55)]),
 .a [(.attr 6 106)] (.b false [(.m (.m (.v 69) 198 [(.k (.bytes [47]))]) 197 [(.k (.bytes [47,42]))]),(.m (.m (.v 69) 198 [(.k (.bytes [47]))]) 197 [(.k (.bytes [47,42,42]))])])]
noncomputable def CE:List S:=[
 .ite (.attr (.v 6) 103) [
  .ret (.k (.bool false))] [],
 .ite (.b true [(.attr (.v 6) 102),(.not (.v 111))]) [
  .ret (.k (.bool false))] [],
 .ret (.call (.g 112) [(.m (.attr (.v 6) 105) 50 [(.v 40)])])]
noncomputable def BW:List S:=[
 .ite (.not (.attr (.v 6) 106)) [
  .ret (.k (.bool false))] [],
 .a [(.v 114)] (.bin .add (.v 40) (.k (.bytes [47]))),
 .ret (.call (.g 112) [(.b false [(.m (.v 6) 50 [(.bin .add (.v 114) (.k (.bytes [120])))]),(.m (.v 6) 50 [(.bin .add (.v 114) (.k (.bytes [120,47])))])])])]
noncomputable def C9:List S:=[
 .ite (.attr (.v 6) 103) [
  .ret (.k (.bool false))] [],
 .ite (.b true [(.attr (.v 6) 102),(.not (.attr (.v 6) 101)),(.not (.m (.v 115) 197 [(.k (.bytes [47]))]))]) [
  .ret (.k (.bool false))] [],
 .ite (.m (.attr (.v 6) 104) 50 [(.v 115)]) [
  .ret (.k (.bool true))] [],
 .ite (.b true [(.attr (.v 6) 102),(.attr (.v 6) 101),(.not (.m (.v 115) 197 [(.k (.bytes [47]))])),(.p (.k (.bytes [47])) [.in] [(.v 115)])]) [
  .ret (.call (.g 112) [(.m (.attr (.v 6) 104) 50 [(.bin .add (.sub (.m (.v 115) 200 [(.k (.bytes [47])),(.k (.int 1))]) (.k (.int 0))) (.k (.bytes [47])))])])] [],
 .ret (.k (.bool false))]
noncomputable def Ka:List S:=[
 .ret (.m (.k (.str [47])) 201 [(.l (.m (.v 115) 199 [(.k (.str [47]))]) (some (.v 117)) none)])]
noncomputable def Iu:List S:=[
 .for (.t [(.v 117),(.v 120)]) (.call (.g 122) [(.v 119)]) [
  .a [(.v 121)] (.m (.g 8) 5 [(.call (.g 116) [(.v 40),(.v 117)])]),
  .for (.v 69) (.call (.g 122) [(.attr (.v 120) 130)]) [
   .ite (.m (.v 69) 110 [(.v 121),(.v 111)]) [
    .ret (.v 69)] []]],
 .ret (.k .none)]
noncomputable def F0:List S:=[
 .a [(.v 40)] (.m (.v 115) 198 [(.k (.str [47]))]),
 .a [(.v 27)] (.m (.v 40) 199 [(.k (.str [47]))]),
 .for (.v 19) (.call (.g 125) [(.k (.int 1)),(.call (.g 32) [(.v 27)])]) [
  .a [(.v 126)] (.m (.k (.str [47])) 201 [(.l (.v 27) none (some (.v 19)))]),
  .a [(.v 69)] (.call (.g 118) [(.call (.v 124) [(.bin .add (.v 126) (.k (.str [47])))]),(.v 126),(.k (.bool true))]),
  .ite (.b true [(.p (.v 69) [.isNot] [(.k .none)]),(.attr (.v 69) 101)]) [
   .ret (.k (.bool true))] []],
 .a [(.v 119)] (.call (.v 124) [(.v 115)]),
 .a [(.v 69)] (.call (.g 118) [(.v 119),(.v 40),(.v 111)]),
 .ite (.b true [(.p (.v 69) [.isNot] [(.k .none)]),(.attr (.v 69) 101)]) [
  .ret (.k (.bool true))] [],
 .ite (.b true [(.m (.v 115) 197 [(.k (.str [47]))]),(.call (.g 127) [(.v 119),(.v 40)])]) [
  .ret (.k (.bool true))] [],
 .ret (.ite (.p (.v 69) [.is] [(.k .none)]) (.k .none) (.k (.bool false)))]
noncomputable def HI:List S:=[
 .for (.t [(.v 117),(.v 120)]) (.call (.g 122) [(.v 119)]) [
  .a [(.v 121)] (.m (.g 8) 5 [(.call (.g 116) [(.v 40),(.v 117)])]),
  .for (.v 69) (.call (.g 122) [(.attr (.v 120) 130)]) [
   .ite (.m (.v 69) 113 [(.v 121)]) [
    .ret (.attr (.v 69) 101)] []]],
 .ret (.k (.bool false))]
noncomputable def IU:List S:=[
 .a [(.v 40)] (.m (.v 115) 198 [(.k (.str [47]))]),
 .a [(.v 27)] (.m (.v 40) 199 [(.k (.str [47]))]),
 .for (.v 19) (.call (.g 125) [(.k (.int 1)),(.bin .add (.call (.g 32) [(.v 27)]) (.k (.int 1)))]) [
  .a [(.v 114)] (.m (.k (.str [47])) 201 [(.l (.v 27) none (some (.v 19)))]),
  .a [(.v 69)] (.call (.g 118) [(.call (.v 124) [(.bin .add (.v 114) (.k (.str [47])))]),(.v 114),(.k (.bool true))]),
  .ite (.b true [(.p (.v 69) [.isNot] [(.k .none)]),(.attr (.v 69) 101)]) [
   .ret (.k (.bool true))] []],
 .ret (.k (.bool false))]
noncomputable def kN:List S:=[
 .n (.attr 6 131),
 .a [(.attr 6 132)] (.v 35),
 .a [(.attr 6 133)] (.v 115),
 .for (.v 69) (.v 130) [
  .expr (.m (.v 6) 134 [(.v 69)])]]
noncomputable def u0:List S:=[
 .try [
  .a [(.v 135)] (.call (.g 100) [(.v 69),(.attr (.v 6) 132)])],
 .expr (.m (.attr (.v 6) 131) 195 [(.v 135)])]
noncomputable def CO:List S:=[
 .ret (.attr (.v 6) 131)]
noncomputable def BN:List S:=[
 .ite (.call (.g 109) [(.v 115),(.g 17)]) [
  .a [(.v 115)] (.m (.v 115) 202 [])] [],
 .ret (.call (.g 123) [(.lam [133] [6] (.list [(.t [(.k (.int 0)),(.v 6)])])),(.v 115),(.m (.v 115) 197 [(.k (.str [47]))])])]
noncomputable def C5:List S:=[
 .ite (.call (.g 109) [(.v 115),(.g 17)]) [
  .a [(.v 115)] (.m (.v 115) 202 [])] [],
 .ret (.call (.g 128) [(.lam [133] [6] (.list [(.t [(.k (.int 0)),(.v 6)])])),(.v 115)])]
noncomputable def Dc:List S:=[
 .a [(.attr 6 141)] (.v 119)]
noncomputable def vP:List S:=[
 .for (.v 142) (.attr (.v 6) 141) [
  .a [(.v 143)] (.m (.v 142) 138 [(.v 115)]),
  .ite (.p (.v 143) [.isNot] [(.k .none)]) [
   .ret (.v 143)] []],
 .ret (.k .none)]
noncomputable def KG:List S:=[
 .ret (.list [(.k (.bytes [97])),(.k (.bytes [98])),(.k (.bytes [97,98])),(.k (.bytes [42])),(.k (.bytes [42,42])),(.k (.bytes [63])),(.k (.bytes [97,42])),(.k (.bytes [42,98]))])]
noncomputable def za:List S:=[
 .a [(.t [(.v 146),(.v 22)])] (.call (.g 147) [(.v 146),(.k (.int 2))]),
 .a [(.t [(.v 146),(.v 148)])] (.call (.g 147) [(.v 146),(.k (.int 4))]),
 .a [(.t [(.v 146),(.v 149)])] (.call (.g 147) [(.v 146),(.k (.int 8))]),
 .a [(.t [(.v 146),(.v 150)])] (.call (.g 147) [(.v 146),(.k (.int 3))]),
 .a [(.v 151)] (.list [(.sub (.call (.g 144) []) (.v 149))]),
 .for (.v 152) (.call (.g 125) [(.v 150)]) [
  .a [(.t [(.v 146),(.v 149)])] (.call (.g 147) [(.v 146),(.k (.int 8))]),
  .a [(.v 151)] (.bin .add (.v 151) (.list [(.sub (.call (.g 144) []) (.v 149))]))],
 .a [(.t [(.v 146),(.v 153)])] (.call (.g 147) [(.v 146),(.k (.int 2))]),
 .a [(.v 154)] (.bin .mod (.v 146) (.k (.int 2))),
 .a [(.v 155)] (.bin .add (.bin .add (.bin .add (.l (.k (.bytes [33])) none (some (.v 22))) (.l (.k (.bytes [47])) none (some (.v 154)))) (.m (.k (.bytes [47])) 201 [(.v 151)])) (.l (.k (.bytes [47])) none (some (.v 153)))),
 .a [(.v 156)] (.b false [(.p (.v 154) [.eq] [(.k (.int 1))]),(.p (.v 150) [.gt] [(.k (.int 0))])]),
 .a [(.v 37)] (.b true [(.v 156),(.p (.sub (.v 151) (.neg (.k (.int 1)))) [.in] [(.t [(.k (.bytes [42])),(.k (.bytes [42,42]))])])]),
 .a [(.v 157)] (.b true [(.p (.v 150) [.eq] [(.k (.int 2))]),(.p (.sub (.v 151) (.k (.int 2))) [.eq] [(.k (.bytes [42,42]))]),(.p (.sub (.v 151) (.k (.int 1))) [.in] [(.t [(.k (.bytes [42])),(.k (.bytes [63]))])])]),
 .a [(.v 158)] (.t [(.p (.v 22) [.eq] [(.k (.int 1))]),(.p (.v 153) [.eq] [(.k (.int 1))]),(.v 37),(.ite (.v 156) (.v 151) (.bin .add (.list [(.k (.bytes [42,42]))]) (.v 151)))]),
 .ret (.t [(.v 148),(.v 155),(.b true [(.v 37),(.b false [(.p (.v 153) [.eq] [(.k (.int 1))]),(.v 157)])]),(.v 158)])]
noncomputable def Kz:List S:=[
 .ite (.p (.v 7) [.eq] [(.k (.bytes []))]) [
  .ret (.p (.v 40) [.eq] [(.k (.bytes []))])] [],
 .ite (.p (.l (.v 7) none (some (.k (.int 1)))) [.eq] [(.k (.bytes [42]))]) [
  .ret (.p (.k (.bool true)) [.in] [(.comp (.call (.g 159) [(.l (.v 7) (some (.k (.int 1))) none),(.l (.v 40) (some (.v 1)) none)]) [(.mk (.v 1) (.call (.g 125) [(.bin .add (.call (.g 32) [(.v 40)]) (.k (.int 1)))]) [])] [40,7])])] [],
 .ret (.b true [(.p (.v 40) [.ne] [(.k (.bytes []))]),(.p (.l (.v 7) none (some (.k (.int 1)))) [.in] [(.t [(.k (.bytes [63])),(.l (.v 40) none (some (.k (.int 1))))])]),(.call (.g 159) [(.l (.v 7) (some (.k (.int 1))) none),(.l (.v 40) (some (.k (.int 1))) none)])])]
noncomputable def Fx:List S:=[
 .ite (.p (.v 151) [.eq] [(.list [])]) [
  .ret (.p (.v 27) [.eq] [(.list [])])] [],
 .ite (.p (.v 151) [.eq] [(.list [(.k (.bytes [42,42]))])]) [
  .ret (.p (.v 27) [.ne] [(.list [])])] [],
 .ite (.p (.sub (.v 151) (.k (.int 0))) [.eq] [(.k (.bytes [42,42]))]) [
  .ret (.p (.k (.bool true)) [.in] [(.comp (.call (.g 160) [(.l (.v 151) (some (.k (.int 1))) none),(.l (.v 27) (some (.v 1)) none)]) [(.mk (.v 1) (.call (.g 125) [(.bin .add (.call (.g 32) [(.v 27)]) (.k (.int 1)))]) [])] [151,27])])] [],
 .ret (.b true [(.p (.v 27) [.ne] [(.list [])]),(.call (.g 159) [(.sub (.v 151) (.k (.int 0))),(.sub (.v 27) (.k (.int 0)))]),(.call (.g 160) [(.l (.v 151) (some (.k (.int 1))) none),(.l (.v 27) (some (.k (.int 1))) none)])])]
noncomputable def JU:List S:=[
 .a [(.v 164)] (.comp (.v 22) [(.mk (.t [(.v 22),(.v 153),(.v 37),(.v 151)]) (.v 162) [(.b true [(.b false [(.v 163),(.not (.v 153))]),(.call (.g 160) [(.v 151),(.v 27)])])])] [163,27]),
 .ite (.p (.v 164) [.eq] [(.list [])]) [
  .ret (.k (.str []))] [],
 .ret (.ite (.sub (.v 164) (.neg (.k (.int 1)))) (.k (.str [105,110])) (.k (.str [111,117,116])))]
noncomputable def Ke:List S:=[
 .ret (.comp (.call (.g 161) [(.v 162),(.l (.v 27) none (some (.bin .add (.v 1) (.k (.int 1))))),(.b false [(.v 163),(.p (.bin .add (.v 1) (.k (.int 1))) [.lt] [(.call (.g 32) [(.v 27)])])])]) [(.mk (.v 1) (.call (.g 125) [(.call (.g 32) [(.v 27)])]) [])] [163,27,162])]
noncomputable def KC:List S:=[
 .ite (.p (.k (.str [111,117,116])) [.in] [(.v 167)]) [
  .ret (.k (.bool true))] [],
 .ite (.b true [(.v 168),(.p (.call (.g 161) [(.comp (.v 158) [(.mk (.v 158) (.v 162) [(.sub (.v 158) (.k (.int 2)))])] []),(.bin .add (.v 27) (.list [(.k (.bytes [120]))])),(.k (.bool true))]) [.eq] [(.k (.str [111,117,116]))])]) [
  .ret (.k (.bool true))] [],
 .ret (.ite (.p (.sub (.v 167) (.neg (.k (.int 1)))) [.eq] [(.k (.str []))]) (.k .none) (.k (.bool false)))]
noncomputable def KV:List S:=[
 .ret (.b true [(.p (.v 170) [.eq] [(.v 171)]),(.p (.call (.g 109) [(.v 170),(.g 112)]) [.eq] [(.call (.g 109) [(.v 171),(.g 112)])])])]
noncomputable def JJ:List S:=[
 .a [(.v 175)] (.l (.m (.m (.m (.v 115) 198 [(.k (.str [47]))]) 203 []) 199 [(.k (.bytes [47]))]) none (some (.neg (.k (.int 1))))),
 .ret (.comp (.t [(.call (.g 32) [(.v 148)]),(.v 176)]) [(.mk (.t [(.v 148),(.v 176)]) (.call (.g 174) [(.v 173),(.v 119)]) [(.p (.l (.v 175) none (some (.call (.g 32) [(.v 148)]))) [.eq] [(.v 148)])])] [175])]
noncomputable def Gq:List S:=[
 .a [(.v 178)] (.call (.g 140) [(.v 119)]),
 .a [(.v 171)] (.k .none),
 .for (.v 179) (.v 162) [
  .ite (.p (.v 171) [.is] [(.k .none)]) [
   .a [(.v 171)] (.call (.g 166) [(.v 179),(.call (.g 165) [(.v 179),(.v 27),(.v 168)]),(.v 27),(.v 168)])] []],
 .ite (.not (.call (.g 169) [(.m (.v 178) 138 [(.bin .add (.v 7) (.ite (.v 168) (.k (.str [47])) (.k (.str []))))]),(.v 171)])) [
  .ret (.k (.bool false))] [],
 .a [(.v 76)] (.p (.call (.g 161) [(.sub (.v 162) (.k (.int 0))),(.l (.v 27) none (some (.k (.int 1)))),(.k (.bool true))]) [.eq] [(.k (.str [111,117,116]))]),
 .ite (.not (.call (.g 169) [(.m (.sub (.v 119) (.k (.int 0))) 139 [(.bin .add (.sub (.v 27) (.k (.int 0))) (.k (.bytes [47])))]),(.v 76)])) [
  .ret (.k (.bool false))] [],
 .ret (.b false [(.not (.v 76)),(.call (.g 169) [(.m (.v 178) 138 [(.bin .add (.v 7) (.k (.str [47,98])))]),(.k (.bool true))])])]
noncomputable def rz:List S:=[
 .a [(.v 182)] (.ite (.v 181) (.comp (.bin .mod (.v 146) (.k (.int 1000000000))) [(.mk (.v 146) (.l (.v 181) none (some (.k (.int 5)))) [])] []) (.list [(.k (.int 0))])),
 .a [(.t [(.v 183),(.v 47)])] (.call (.g 147) [(.bin .add (.bin .fdiv (.sub (.v 182) (.neg (.k (.int 1)))) (.k (.int 5))) (.call (.g 32) [(.v 182)])),(.k (.int 2))]),
 .a [(.t [(.v 183),(.v 184)])] (.call (.g 147) [(.v 183),(.k (.int 3))]),
 .a [(.t [(.v 183),(.v 28)])] (.call (.g 147) [(.v 183),(.k (.int 4))]),
 .a [(.t [(.v 183),(.v 38)])] (.call (.g 147) [(.v 183),(.k (.int 3))]),
 .a [(.t [(.v 183),(.v 185)])] (.call (.g 147) [(.v 183),(.k (.int 3))]),
 .a [(.t [(.v 183),(.v 152)])] (.call (.g 147) [(.v 183),(.k (.int 2))]),
 .a [(.v 186)] (.comp (.call (.g 145) [(.v 146)]) [(.mk (.v 146) (.l (.v 182) none (some (.bin .add (.k (.int 3)) (.v 47)))) [])] []),
 .a [(.v 187)] (.l (.list [(.sub (.call (.g 144) []) (.v 38)),(.sub (.call (.g 144) []) (.v 185))]) none (some (.bin .add (.v 47) (.k (.int 1))))),
 .a [(.v 27)] (.bin .add (.v 187) (.list [(.sub (.call (.g 144) []) (.v 184))])),
 .d [188,7] [(.m (.m (.k (.bytes [47])) 201 [(.v 187)]) 202 []),(.m (.m (.k (.bytes [47])) 201 [(.v 27)]) 202 [])],
 .a [(.v 173)] (.list [(.list []),(.list []),(.l (.v 187) none (some (.k (.int 1)))),(.v 187)]),
 .a [(.v 189)] (.comp (.comp (.v 155) [(.mk (.t [(.v 148),(.v 155),(.v 190),(.v 158)]) (.v 186) [(.p (.v 148) [.eq] [(.v 1)])])] [1]) [(.mk (.v 1) (.call (.g 125) [(.k (.int 4))]) [])] [186]),
 .a [(.v 162)] (.comp (.comp (.v 158) [(.mk (.t [(.v 148),(.v 155),(.v 190),(.v 158)]) (.v 186) [(.p (.v 148) [.eq] [(.v 1)])])] [1]) [(.mk (.v 1) (.call (.g 125) [(.k (.int 4))]) [])] [186]),
 .a [(.v 191)] (.comp (.t [(.v 22),(.v 153),(.v 37),(.bin .add (.sub (.v 173) (.v 1)) (.v 151))]) [(.mk (.v 1) (.call (.g 125) [(.k (.int 4))]) []),(.mk (.t [(.v 22),(.v 153),(.v 37),(.v 151)]) (.sub (.v 162) (.v 1)) [])] [173,162]),
 .a [(.v 119)] (.comp (.call (.g 129) [(.v 179)]) [(.mk (.v 179) (.v 189) [])] []),
 .a [(.v 192)] (.lam [115] [119,173] (.call (.g 172) [(.v 173),(.v 119),(.v 115)])),
 .a [(.v 163)] (.b false [(.p (.v 28) [.eq] [(.k (.int 1))]),(.p (.v 28) [.eq] [(.k (.int 2))])]),
 .a [(.v 168)] (.b true [(.p (.v 28) [.eq] [(.k (.int 2))]),(.p (.k (.bool true)) [.notIn] [(.comp (.v 190) [(.mk (.t [(.v 148),(.v 155),(.v 190),(.v 158)]) (.v 186) [])] [])])]),
 .a [(.v 167)] (.call (.g 165) [(.v 191),(.v 27),(.v 163)]),
 .a [(.v 193)] (.p (.k (.str [111,117,116])) [.in] [(.l (.v 167) none (some (.neg (.k (.int 1)))))]),
 .ite (.not (.call (.g 169) [(.call (.g 128) [(.v 192),(.bin .add (.v 188) (.l (.k (.str [47])) none (some (.v 152))))]),(.v 193)])) [
  .ret (.k (.bool false))] [],
 .ite (.b true [(.v 193),(.not (.call (.g 169) [(.call (.g 123) [(.v 192),(.bin .add (.v 7) (.k (.str [47,98]))),(.v 163)]),(.k (.bool true))]))]) [
  .ret (.k (.bool false))] [],
 .ite (.p (.v 47) [.eq] [(.k (.int 0))]) [
  .a [(.v 194)] (.ite (.p (.bin .mod (.v 183) (.k (.int 2))) [.eq] [(.k (.int 0))]) (.list [(.k (.int 0)),(.k (.int 1)),(.k (.int 2)),(.k (.int 3))]) (.list [(.k (.int 3)),(.k (.int 2)),(.k (.int 1)),(.k (.int 0))])),
  .ite (.not (.call (.g 177) [(.comp (.sub (.v 119) (.v 1)) [(.mk (.v 1) (.v 194) [])] [119]),(.comp (.sub (.v 162) (.v 1)) [(.mk (.v 1) (.v 194) [])] [162]),(.v 27),(.v 7),(.v 168)])) [
   .ret (.k (.bool false))] []] [],
 .a [(.v 171)] (.call (.g 166) [(.v 191),(.v 167),(.v 27),(.v 168)]),
 .ite (.p (.v 28) [.eq] [(.k (.int 3))]) [
  .expr (.m (.sub (.v 119) (.k (.int 3))) 134 [(.k (.bytes [33,42]))]),
  .expr (.m (.sub (.v 189) (.k (.int 3))) 195 [(.k (.bytes [33,42]))]),
  .a [(.v 171)] (.v 193)] [],
 .ite (.not (.call (.g 169) [(.call (.g 123) [(.v 192),(.bin .add (.v 7) (.ite (.v 168) (.k (.str [47])) (.k (.str [])))),(.v 163)]),(.v 171)])) [
  .ret (.k (.bool false))] [],
 .ret (.p (.comp (.comp (.attr (.v 69) 69) [(.mk (.v 69) (.attr (.v 176) 130) [])] []) [(.mk (.v 176) (.v 119) [])] []) [.eq] [(.v 189)])]
structure Fn where
 ps:List Nat
 dfl:List V
 body:List S
 fz:List Nat
noncomputable def vD:List (Nat×Fn):=[
 (2001,⟨[6,7],[],Gz,[]⟩),
 (6,⟨[14],[],MJ,[]⟩),
 (7,⟨[7,19],[],MM,[]⟩),
 (8,⟨[7,19],[],Mv,[]⟩),
 (9,⟨[7,19],[],KO,[]⟩),
 (10000,⟨[6,7,35],[],C1,[]⟩),
 (10001,⟨[6,29,16],[],pX,[]⟩),
 (10002,⟨[6,28,29,40,41],[],CA,[]⟩),
 (10003,⟨[6,27,40,41],[],vV,[]⟩),
 (10004,⟨[6,40],[],Cq,[]⟩),
 (11001,⟨[6,14],[],C3,[]⟩),
 (11002,⟨[6,7,55],[.int 0],DB,[]⟩),
 (20,⟨[80],[],JK,[]⟩),
 (21,⟨[84],[],KZ,[]⟩),
 (22,⟨[85,19],[],J6,[1]⟩),
 (23,⟨[85],[],HT,[]⟩),
 (24,⟨[84],[],H5,[]⟩),
 (25,⟨[69],[],KP,[]⟩),
 (28,⟨[84,81],[],JP,[]⟩),
 (29,⟨[84],[],JS,[]⟩),
 (31000,⟨[6,69,35],[.bool false],BU,[]⟩),
 (31002,⟨[6,40,111],[],CE,[]⟩),
 (31003,⟨[6,40],[],BW,[]⟩),
 (31004,⟨[6,115],[],C9,[]⟩),
 (32,⟨[115,117],[],Ka,[]⟩),
 (33,⟨[119,40,111],[],Iu,[]⟩),
 (34,⟨[124,115,111],[],F0,[]⟩),
 (35,⟨[119,40],[],HI,[]⟩),
 (36,⟨[124,115],[],IU,[]⟩),
 (37000,⟨[6,130,35,115],[.bool false,.none],kN,[]⟩),
 (37001,⟨[6,69],[],u0,[]⟩),
 (37003,⟨[6],[],CO,[]⟩),
 (37004,⟨[6,115],[],BN,[6]⟩),
 (37005,⟨[6,115],[],C5,[6]⟩),
 (38000,⟨[6,119],[],Dc,[]⟩),
 (38001,⟨[6,115],[],vP,[]⟩),
 (40,⟨[],[],KG,[]⟩),
 (41,⟨[146],[],za,[]⟩),
 (42,⟨[7,40],[],Kz,[]⟩),
 (43,⟨[151,27],[],Fx,[]⟩),
 (44,⟨[162,27,163],[],JU,[]⟩),
 (45,⟨[162,27,163],[],Ke,[]⟩),
 (46,⟨[162,167,27,168],[],KC,[]⟩),
 (47,⟨[170,171],[],KV,[]⟩),
 (48,⟨[173,119,115],[],JJ,[]⟩),
 (49,⟨[119,162,27,7,168],[],Gq,[]⟩),
 (50,⟨[181],[],rz,[119,173]⟩)]
noncomputable def fnOf(k:Nat):Option Fn:=vD.lookup k
noncomputable def D3:List (Nat×Nat):=[(13,6),(18,7),(21,8),(26,9),(79,20),(83,21),(87,22),
 (91,23),(93,24),(96,25),(97,28),(99,29),(116,32),(118,33),(123,34),
 (127,35),(128,36),(144,40),(145,41),(159,42),(160,43),(161,44),(165,45),(166,46),(169,47),(172,48),(177,49)]
noncomputable def y5:List Nat:=[33,100,129,140]
noncomputable def jL:List Nat:=[32,147,49,17,112,109]
noncomputable def yh(x:Nat):Option V:=match D3.lookup x with
 |some n=>some (.fn n)
 |none=>if y5.contains x then some (.cls x) else if x==56 then some (.inst 51 []) else if x==8 then some (.inst 3 [])
  else if jL.contains x then some (.blt x) else none
noncomputable def vA:List ((Nat×Nat)×Nat):=[((3,5),2001),((51,53),11001),((51,54),11002),((33,37),10001),((33,39),10002),((33,44),10003),
 ((33,50),10004),((100,110),31002),((100,113),31003),((100,50),31004),((129,134),37001),((129,138),37004),
 ((129,139),37005),((140,138),38001)]
noncomputable def tc(C a:Nat):Option Nat:=vA.lookup (C,a)
noncomputable def pH:List (Nat×Nat):=[(33,10000),(100,31000),(129,37000),(140,38000)]
noncomputable def pE(C:Nat):Option Nat:=pH.lookup C
noncomputable def dP:List (Nat×Nat):=[(33,35),(33,27),(100,69),(100,35),(100,101),(100,102),(100,103),
 (100,104),(100,105),(100,106),(129,131),(129,132),(129,133),(140,141)]
noncomputable def jM(C a:Nat):Option Nat:=if C==129&&a==130 then some 37003 else none
noncomputable def kV:K→V
 |.none=>.none|.bool b=>.bool b|.int i=>.int i|.str s=>.str s|.bytes b=>.bytes b
noncomputable def aE(ρ:aF)(x:Nat):Option V:=ρ.lookup x
noncomputable def bT:aF→Nat→V→aF
 |[],x,v=>[(x,v)]|(y,w)::r,x,v=>if y==x then(y,v)::r else(y,w)::bT r x v
theorem Fo{x:Nat}{v:V}:bT [] x v=[(x,v)]:=rfl
theorem tL{x y:Nat}{v w:V}{r:aF}:bT ((y,w)::r) x v=if y==x then(y,v)::r else(y,w)::bT r x v:=rfl
noncomputable def EW:V→Option Int
 |.int i=>some i|_=>none
noncomputable def mT:V→Option (List UInt8)
 |.bytes b=>some b|_=>none
noncomputable def Bm:V→Option (List Nat)
 |.str b=>some b|_=>none
noncomputable def FL:V→Option Bool
 |.bool b=>some b|_=>none
noncomputable def I9:V→Option (Option Bool)
 |.none=>some none|.bool b=>some (some b)|_=>none
noncomputable def Mt:V→Option (List V)
 |.t xs=>some xs|_=>none
noncomputable def bc(σ:aq):V→Option (List V)
 |.list xs=>some xs|.o n=>match σ[n]? with|some (.list xs)=>some xs|_=>none
 |_=>none
noncomputable def jX(σ:aq):V→Option (Nat×List (Nat×V))
 |.inst C fs=>some (C,fs)|.o n=>match σ[n]? with|some (.obj C fs)=>some (C,fs)|_=>none
 |_=>none
noncomputable def rA(σ:aq)(v:V):Option (List V):=(bc σ v).or (Mt v)
noncomputable def aN(σ:aq)(v:V):Option Bool:=(FL v).or (((mT v).map λb=> !b.isEmpty).or ((bc σ v).map λxs=> !xs.isEmpty))
section
variable {α:Type}
noncomputable def i2(f:Int→Int→Option α)(a b:V):Option α:=(EW a).bind λi=>(EW b).bind (f i)
noncomputable def y2(f:List UInt8→List UInt8→Option α)(a b:V):Option α:=(mT a).bind λi=>(mT b).bind (f i)
noncomputable def s2(f:List Nat→List Nat→Option α)(a b:V):Option α:=(Bm a).bind λi=>(Bm b).bind (f i)
end
noncomputable def Bl(f:V→V→Option Bool):List V→List V→Option Bool
 |[],[]=>some true|x::xs,y::ys=>(f x y).bind λa=>(Bl f xs ys).map λb=>a&&b|_,_=>some false
theorem Hr{f:V→V→Option Bool}:Bl f [] []=some true:=rfl
theorem II{f:V→V→Option Bool}{x y:V}{xs ys:List V}:Bl f (x::xs) (y::ys)=(f x y).bind λa=>(Bl f xs ys).map λb=>a&&b:=rfl
noncomputable def Jw(a b:V):Option Bool:=(i2 (λi j=>some (i==j)) a b).or ((y2 (λi j=>some (i==j)) a b).or ((s2 (λi j=>some (i==j)) a b).or ((I9 a).bind λi=>(I9 b).map λj=>i==j)))
noncomputable def G3(σ:aq):Nat→V→V→Option Bool
 |0,_,_=>none|n+1,a,b=>match Jw a b with|some t=>some t|none=>(match bc σ a,bc σ b with|some xs,some ys=>if xs.length==ys.length then Bl (G3 σ n) xs ys else some false|_,_=>none)
noncomputable def lZ:V→V→Bool
 |.int _,.int _|.bool _,.bool _|.str _,.str _|.bytes _,.bytes _=>true|_,_=>false
noncomputable def Hb:V→V→Bool
 |.int a,.int b=>a==b|.bool a,.bool b=>a==b|.str a,.str b=>a==b|.bytes a,.bytes b=>a==b|_,_=>false
noncomputable def Dl{α:Type}:List α→Option α
 |[c]=>some c|_=>none
noncomputable def wv(σ:aq)(x s:V):Option Bool:=(((EW x).bind λi=>(mT s).bind λb=>if 0≤i∧i<256 then some (b.any λc=>(c.toNat:Int)==i) else none).or
 (y2 (λp b=>(Dl p).map λc=>b.contains c) x s)).or ((rA σ s).bind λys=>if ys.all (lZ x) then some (ys.any λy=>Hb y x) else none)
noncomputable def Ha:V→Bool
 |.none=>true|_=>false
noncomputable def iI(σ:aq)(op:Cm)(x y:V):Option Bool:=match op with|.eq=>G3 σ 4 x y|.ne=>(G3 σ 4 x y).map not|.in=>wv σ x y|.notIn=>(wv σ x y).map not|.is=>if Ha y then some (Ha x) else none|.isNot=>if Ha y then some (!Ha x) else none|.lt=>i2 (λa b=>some (decide (a<b))) x y|.le=>i2 (λa b=>some (decide (a≤b))) x y|.gt=>i2 (λa b=>some (decide (b<a))) x y|.ge=>none
noncomputable def BM(b:List UInt8):Option V:=if b.length≤65536 then some (.bytes b) else none
noncomputable def Il(b:List Nat):Option V:=if b.length≤65536 then some (.str b) else none
noncomputable def ii(σ:aq)(op:Op)(x y:V):Option V:=match op with
 |.add=>(i2 (λa b=>some (.int (a+b))) x y).or ((y2 (λa b=>BM (a++b)) x y).or ((s2 (λa b=>Il (a++b)) x y).or
  ((bc σ x).bind λxs=>(bc σ y).bind λys=>if(xs++ys).length≤65536 then some (.list (xs++ys)) else none)))
 |.sub=>i2 (λa b=>some (.int (a -b))) x y|.fdiv=>i2 (λa b=>if b>0&&a.natAbs<2 ^ 60&&b.natAbs<2 ^ 60 then some (.int (a / b)) else none) x y|.mod=>i2 (λa b=>if b>0 then some (.int (a % b)) else none) x y
noncomputable def tA(op:Op)(x y:V):Option V:=match op with|.add=>(i2 (λa b=>some (.int (a+b))) x y).or (y2 (λa b=>BM (a++b)) x y)|_=>none
noncomputable def rZ(n:Nat)(i:Int):Nat:=(max 0 (min (if i<0 then i+n else i) n)).toNat
noncomputable def cut{α:Type}(l:List α)(lo hi:Option Int):List α:=
 (l.take (match hi with|some h=>rZ l.length h|none=>l.length)).drop (match lo with|some a=>rZ l.length a|none=>0)
noncomputable def itemAt{α:Type}(l:List α)(i:Int):Option α:=if i<0 then(if 0≤i+l.length then l[(i+l.length).toNat]? else none) else l[i.toNat]?
noncomputable def fJ(σ:aq)(o i:V):Option V:=(EW i).bind λi=>((mT o).bind λb=>(itemAt b i).map λc=>.int c.toNat).or ((rA σ o).bind λxs=>itemAt xs i)
noncomputable def yo:Option V→Option (Option Int)
 |none=>some none|some v=>(EW v).map some
noncomputable def du(σ:aq)(o:V)(lo hi:Option V):Option V:=(yo lo).bind λlo=>(yo hi).bind λhi=>((mT o).map λb=>.bytes (cut b lo hi)).or
 (((Bm o).bind λs=>match lo,hi with|none,some i=>if 0≤i∧i≤s.length then some (.str (s.take i.toNat)) else none|_,_=>none).or ((bc σ o).map λxs=>.list (cut xs lo hi)))
noncomputable def aL{α:Type}[BEq α](c:α):List α→List (List α)
 |[]=>[[]]|x::r=>if x==c then[]::aL c r else match aL c r with|h::t=>(x::h)::t|[]=>[[x]]
theorem fH{α:Type}[BEq α]{c:α}:aL c []=[[]]:=rfl
theorem dW{α:Type}[BEq α]{c x:α}{r:List α}:aL c (x::r)=if x==c then[]::aL c r else match aL c r with|h::t=>(x::h)::t|[]=>[[x]]:=rfl
noncomputable def aB{α:Type}(c:List α):List (List α)→List α
 |[]=>[]|[x]=>x|x::r=>x++c++aB c r
theorem vr{α:Type}{c:List α}:aB c []=[]:=rfl
theorem gX{α:Type}{c x:List α}:aB c [x]=x:=rfl
theorem f7{α:Type}{c x y:List α}{r:List (List α)}:aB c (x::y::r)=x++c++aB c (y::r):=rfl
noncomputable def a8{α:Type}[BEq α](cs:List α)(l:List α):List α:=(l.reverse.dropWhile λx=>cs.contains x).reverse
noncomputable def dL{α:Type}[BEq α](c:α)(l:List α):Option (List α×List α):=
 if l.contains c then
  let tl:=(l.reverse.takeWhile λx=> !(x==c)).reverse
  some (l.take (l.length -tl.length -1),tl)
 else none
noncomputable def lO{α:Type}(f:V→Option α):List V→Option (List α)
 |[]=>some []|v::r=>(f v).bind λb=>(lO f r).map (b:: ·)
noncomputable def Ht(o:V)(a:Nat):Option V:=
 if a==202 then(mT o).bind λb=>if b.all (· <128)&& !b.isEmpty then some (.str (b.map Rm)) else none
 else if a==203 then(Bm o).bind λs=>if s.all (· <128) then some (.bytes (s.map Q3)) else none
 else none
noncomputable def y3{α:Type}[BEq α](mk:List α→V)(b p:List α):Option V:=(Dl p).bind λc=>if b.length<65536 then some (.list ((aL c b).map mk)) else none
noncomputable def H9(σ:aq)(o:V)(a:Nat)(p:V):Option V:=
 if a==196 then y2 (λb p=>some (.bool (p.isPrefixOf b))) o p
 else if a==197 then(y2 (λb p=>some (.bool (p.isSuffixOf b))) o p).or (s2 (λb p=>some (.bool (p.isSuffixOf b))) o p)
 else if a==198 then(y2 (λb p=>some (.bytes (a8 p b))) o p).or (s2 (λb p=>some (.str (a8 p b))) o p)
 else if a==199 then(y2 (y3 .bytes) o p).or (s2 (y3 .str) o p)
 else if a==201 then(bc σ p).bind λxs=>((mT o).bind λb=>(lO mT xs).bind λys=>BM (aB b ys)).or ((Bm o).bind λb=>(lO Bm xs).bind λys=>Il (aB b ys))
 else none
noncomputable def I2(o:V)(a:Nat)(p q:V):Option V:=
 if a==200 then y2 (λb p=>(Dl p).bind λc=>(EW q).bind λi=>if i==1 then some (.list (match dL c b with|some (x,y)=>[.bytes x,.bytes y]|none=>[.bytes b])) else none) o p else none
noncomputable def fC(σ:aq)(o:V)(a:Nat):List V→Option V
 |[]=>Ht o a|[p]=>H9 σ o a p|[p,q]=>I2 o a p q|_=>none
noncomputable def Mk:V→Option Nat
 |.blt k=>some k|_=>none
noncomputable def vK(x c:V):Option Bool:=(Mk c).bind λk=>if k==17 then((mT x).map λo_=>true).or ((Bm x).map λo_=>false) else if k==112 then(I9 x).map Option.isSome else none
noncomputable def J1(σ:aq)(k:Nat)(v:V):Option V:=
 if k==32 then((mT v).map λb=>.int b.length).or ((bc σ v).map λxs=>.int xs.length)
 else if k==49 then(bc σ v).map .list
 else if k==17 then(match v with|.list [.int i]=>if 0≤i∧i<256 then some (.bytes [Q3 i.toNat]) else none|_=>none)
 else if k==112 then(FL v).map .bool
 else none
noncomputable def KB(k:Nat)(x y:V):Option V:=
 if k==147 then i2 (λa b=>if b>0&&a.natAbs<2 ^ 60&&b.natAbs<2 ^ 60 then some (.t [.int (a / b),.int (a % b)]) else none) x y
 else if k==109 then(vK x y).map .bool
 else none
noncomputable def mB(σ:aq)(k:Nat):List V→Option V
 |[v]=>J1 σ k v|[x,y]=>KB k x y|_=>none
mutual
noncomputable def aY (f:Nat→Option V):V→Option V
 |.o n=>f n|.t xs=>(aP f xs).map .t|.list xs=>(aP f xs).map .list|.inst C fs=>(cy f fs).map (.inst C)|.clo .. =>none|.none=>some .none|.bool b=>some (.bool b)|.int i=>some (.int i)|.str s=>some (.str s)|.bytes b=>some (.bytes b)|.fn k=>some (.fn k)|.cls k=>some (.cls k)|.blt k=>some (.blt k)
noncomputable def aP (f:Nat→Option V):List V→Option (List V)
 |[]=>some []|v::r=>(aY f v).bind λx=>(aP f r).map (x:: ·)
noncomputable def cy (f:Nat→Option V):List (Nat×V)→Option (List (Nat×V))
 |[]=>some []|(k,v)::r=>(aY f v).bind λx=>(cy f r).map ((k,x):: ·)
end
theorem tJ{n:Nat}:aY f (.o n)=f n:=rfl
theorem oN{xs:List V}:aY f (.t xs)=(aP f xs).map .t:=rfl
theorem i5{xs:List V}:aY f (.list xs)=(aP f xs).map .list:=rfl
theorem Jm{C:Nat}{fs:List (Nat×V)}:aY f (.inst C fs)=(cy f fs).map (.inst C):=rfl
theorem vC:aY f .none=some .none:=rfl
theorem vu{b:Bool}:aY f (.bool b)=some (.bool b):=rfl
theorem yk{i:Int}:aY f (.int i)=some (.int i):=rfl
theorem A1{s:List Nat}:aY f (.str s)=some (.str s):=rfl
theorem HX{b:Ab}:aY f (.bytes b)=some (.bytes b):=rfl
theorem vG:aP f []=some []:=rfl
theorem kj{v:V}{r:List V}:aP f (v::r)=(aY f v).bind λv=>(aP f r).map (v:: ·):=rfl
theorem Er:cy f []=some []:=rfl
theorem yq{k:Nat}{v:V}{r:List (Nat×V)}:cy f ((k,v)::r)=(aY f v).bind λv=>(cy f r).map ((k,v):: ·):=rfl
noncomputable def aV(σ:aq)(M4:Nat):Nat→V→Option V
 |0=>aY λn=>if n<M4 then some (.o n) else none|d+1=>aY λn=>if n<M4 then some (.o n) else match σ[n]? with|some (.list xs)=>(xs.mapM (aV σ M4 d)).map .list|some (.obj C fs)=>(fs.mapM λy=>(aV σ M4 d y.2).map (TS y.1)).map (.inst C)|none=>none
mutual
noncomputable def below (M4:Nat):V→Bool
 |.o n=>n<M4|.t xs=>cr M4 xs|.list xs=>cr M4 xs|.inst _ fs=>dF M4 fs|.clo _ _ fs=>dF M4 fs|_=>true
noncomputable def cr (M4:Nat):List V→Bool
 |[]=>true|v::r=>below M4 v&&cr M4 r
noncomputable def dF (M4:Nat):List (Nat×V)→Bool
 |[]=>true|(_,v)::r=>below M4 v&&dF M4 r
end
theorem K0{n:Nat}:below m (.o n)=decide (n<m):=rfl
theorem JQ{xs:List V}:below m (.t xs)=cr m xs:=rfl
theorem Jl{xs:List V}:below m (.list xs)=cr m xs:=rfl
theorem Jh{C:Nat}{fs:List (Nat×V)}:below m (.inst C fs)=dF m fs:=rfl
theorem Jc:below m .none=true:=rfl
theorem Ji{b:Bool}:below m (.bool b)=true:=rfl
theorem Kd{i:Int}:below m (.int i)=true:=rfl
theorem Iw{b:Ab}:below m (.bytes b)=true:=rfl
theorem Lz:cr m []=true:=rfl
theorem Hp{v:V}{r:List V}:cr m (v::r)=(below m v&&cr m r):=rfl
end Internal
namespace Internal
variable {ρ:aF}{σ:aq}
inductive Fl where
 |next|brk|cont|ret (v:V)
structure Cx where
 b:Nat
 fz:List Nat
noncomputable abbrev Call:=aq→V→List V→Option (V×aq)
structure Ev where
 e:Cx→aF→aq→E→Option (V×aq)
 ss:Cx→aF→aq→List S→Option (Fl×aF×aq)
 call:Call
section
variable (r:Ev) (c:Cx)
noncomputable def JR(v:V):List V×aq→Option (List V×aq):=λ(vs,σ)=>some (v::vs,σ)
noncomputable def bg(ρ:aF):aq→List E→Option (List V×aq)
 |σ,[]=>some ([],σ)|σ,e::es=>(r.e c ρ σ e).bind λ(v,σ)=>(bg ρ σ es).bind (JR v)
noncomputable def dh(ρ:aF)(Nq:Bool):aq→List E→Option (V×aq)
 |_,[]=>none|σ,e::es=>(r.e c ρ σ e).bind λ(v,σ)=>match es with|[]=>some (v,σ)|es=>(aN σ v).bind λt=>if t==Nq then dh ρ Nq σ es else some (v,σ)
noncomputable def ni(ρ:aF):aq→V→List Cm→List E→Option (V×aq)
 |σ,x,op::MW,e::es=>(r.e c ρ σ e).bind λ(y,σ)=>(iI σ op x y).bind λb=>match MW with|[]=>some (.bool b,σ)|MW=>if b then ni ρ σ y MW es else some (.bool false,σ)
 |_,_,_,_=>none
noncomputable def kO:V×aq→Option (Option V×aq):=λ(v,σ)=>some (some v,σ)
noncomputable def gf(ρ:aF)(σ:aq):Option E→Option (Option V×aq)
 |none=>some (none,σ)|some e=>(r.e c ρ σ e).bind kO
noncomputable def cZ(c:Cx)(ρ:aF)(x:Nat)(v:V):Option aF:=if c.fz.contains x&&(aE ρ x).isSome then none else some (bT ρ x v)
noncomputable def bindAll(c:Cx):aF→List (Nat×V)→Option aF
 |ρ,[]=>some ρ|ρ,(x,v)::r=>(cZ c ρ x v).bind λρ=>bindAll c ρ r
noncomputable def fy(c:Cx)(σ:aq)(n:Nat)(a:Nat)(v:V):Option aq:=match σ[n]? with|some (.obj C fs)=>if fs.length<100&&dP.contains (C,a)&&(c.b≤n||below n v)&&below σ.length v then some (σ.set n (.obj C (bT fs a v))) else none|_=>none
mutual
noncomputable def bJ (c:Cx) (ρ:aF) (σ:aq):T→V→Option (aF×aq)
 |.v x,v=>(cZ c ρ x v).map λρ=>(ρ,σ)|.attr x a,v=>match aE ρ x with|some (.o n)=>(fy c σ n a v).map λσ=>(ρ,σ)|_=>none
 |.t ts,.t vs=>fh c ρ σ ts vs|_,_=>none
noncomputable def fh (c:Cx) (ρ:aF) (σ:aq):List T→List V→Option (aF×aq)
 |[],[]=>some (ρ,σ)|t::ts,v::vs=>(bJ c ρ σ t v).bind λ(ρ,σ)=>fh c ρ σ ts vs|_,_=>none
end
inductive It where
 |items (xs:List V)|o (n:Nat)|revLoc (n:Nat) (k:Nat)
noncomputable def tv(a b:Int):List V:=(Qb (b -a).toNat).map λ(k:Nat)=>V.int (a+(k:Int))
inductive Src where
 |rev (x:E)|rng1 (x:E)|rng2 (x y:E)|zip (x y:E)|val (e:E)
noncomputable def dB:E→Src
 |.call (.g f) [x]=>if f==122 then .rev x else if f==125 then .rng1 x else .val (.call (.g f) [x])|.call (.g f) [x,y]=>if f==125 then .rng2 x y else if f==174 then .zip x y else .val (.call (.g f) [x,y])|e=>.val e
noncomputable def Hd:V→Option It
 |.list xs=>some (.items xs)|.bytes b=>some (.items (b.map λx=>.int x.toNat))|.o n=>some (.o n)|_=>none
noncomputable def DG(σ:aq):V→Option It
 |.list xs=>some (.items xs.reverse)|.o n=>(match σ[n]? with|some (.list xs)=>some (.revLoc n xs.length)|_=>none)|_=>none
noncomputable def nj(a b:Int):Option It:=if decide (-1000000<a)&&decide (a<1000000)&&decide (-1000000<b)&&decide (b<1000000) then some (.items (tv a b)) else none
section
variable (ρ:aF)
noncomputable def HE:V×aq→Option (It×aq):=λ(v,σ)=>(Hd v).map λi=>(i,σ)
noncomputable def Fj:V×aq→Option (It×aq):=λ(v,σ)=>(DG σ v).map λi=>(i,σ)
noncomputable def vt:V×aq→Option (It×aq):=λ(v,σ)=>(match v with|.int b=>(nj 0 b).map λi=>(i,σ)|_=>none)
noncomputable def Bn(u:V):V×aq→Option (It×aq):=λ(v,σ)=>(match u,v with|.int a,.int b=>(nj a b).map λi=>(i,σ)|_,_=>none)
noncomputable def FG(y:E):V×aq→Option (It×aq):=λ(u,σ)=>(r.e c ρ σ y).bind (Bn u)
end
noncomputable def eQ(ρ:aF)(σ:aq)(e:E):Option (It×aq):=match dB e with|.rev x=>(r.e c ρ σ x).bind Fj|.rng1 x=>(r.e c ρ σ x).bind vt|.rng2 x y=>(r.e c ρ σ x).bind (FG r c ρ y)|.zip .. =>none|.val e=>(r.e c ρ σ e).bind HE
noncomputable def ms(ρ:aF)(σ:aq)(e:E)(tup:Bool):Option (It×aq):=match dB e with|.zip x y=>if tup then(r.e c ρ σ x).bind λ(u,σ)=>(r.e c ρ σ y).bind λ(v,σ)=>(match u,v with|.list xs,.list ys=>if xs.length==ys.length then some (.items ((xs.zip ys).map λy=>.t [y.1,y.2]),σ) else none|_,_=>none) else none|_=>eQ r c ρ σ e
noncomputable def gq:T→Bool
 |.t _=>true|_=>false
noncomputable def eu(body:aF→aq→V→Option (Fl×aF×aq)):aF→aq→List V→Option (Fl×aF×aq)
 |ρ,σ,[]=>some (.next,ρ,σ)|ρ,σ,x::xs=>(body ρ σ x).bind λ(fl,ρ,σ)=>match fl with|.next|.cont=>eu body ρ σ xs|.brk=>none|.ret v=>some (.ret v,ρ,σ)
theorem Kt{body:aF→aq→V→Option (Fl×aF×aq)}:eu body ρ σ []=some (.next,ρ,σ):=rfl
theorem uc{body:aF→aq→V→Option (Fl×aF×aq)}{x:V}{xs:List V}:eu body ρ σ (x::xs)=(body ρ σ x).bind λ(fl,ρ,σ)=>match fl with|.next|.cont=>eu body ρ σ xs|.brk=>none|.ret v=>some (.ret v,ρ,σ):=rfl
noncomputable def cT(body:aF→aq→V→Option (Fl×aF×aq))(n:Nat)(at_:Nat→List V→Option (Option V)):Nat→Nat→aF→aq→Option (Fl×aF×aq)
 |0,_,_,_=>none|m+1,k,ρ,σ=>match σ[n]? with|some (.list xs)=>(match at_ k xs with|none=>none|some none=>some (.next,ρ,σ)|some (some x)=>(body ρ σ x).bind λ(fl,ρ,σ)=>match fl with|.next|.cont=>cT body n at_ m (k+1) ρ σ|.brk=>none|.ret v=>some (.ret v,ρ,σ))|_=>none
theorem lV{body:aF→aq→V→Option (Fl×aF×aq)}{n:Nat}{at_:Nat→List V→Option (Option V)}{m k:Nat}:cT body n at_ (m+1) k ρ σ=match σ[n]? with|some (.list xs)=>(match at_ k xs with|none=>none|some none=>some (.next,ρ,σ)|some (some x)=>(body ρ σ x).bind λ(fl,ρ,σ)=>match fl with|.next|.cont=>cT body n at_ m (k+1) ρ σ|.brk=>none|.ret v=>some (.ret v,ρ,σ))|_=>none:=rfl
noncomputable def lP(body:aF→aq→V→Option (Fl×aF×aq))(ρ:aF)(σ:aq):It→Option (Fl×aF×aq)
 |.items xs=>eu body ρ σ xs|.o n=>(match σ[n]? with|some (.list xs)=>cT body n (λk xs=>some xs[k]?) (xs.length+1) 0 ρ σ|_=>none)|.revLoc n Nk=>cT body n (λk xs=>if k<Nk then(xs[Nk -1 -k]?).map some else some none) (Nk+1) 0 ρ σ
noncomputable def pC(ρ:aF):aq→List E→Option (Bool×aq)
 |σ,[]=>some (true,σ)|σ,e::es=>(r.e c ρ σ e).bind λ(v,σ)=>(aN σ v).bind λt=>if t then pC ρ σ es else some (false,σ)
theorem mR:pC r c ρ σ []=some (true,σ):=rfl
theorem Fm{e:E}{es:List E}:pC r c ρ σ (e::es)=(r.e c ρ σ e).bind λx=>match x with|(v,σ)=>(aN σ v).bind λt=>if t=true then pC r c ρ σ es else some (false,σ):=rfl
noncomputable def on(elt:E):List G→aF→aq→List V→Option (List V×aF×aq)
 |[],ρ,σ,MQ=>if MQ.length<65536 then(r.e c ρ σ elt).map λ(v,σ)=>(MQ++[v],ρ,σ) else none|.mk t it M5::gs,ρ,σ,MQ=>(eQ r c ρ σ it).bind λ(i,σ)=>match i with|.items xs=>xs.foldlM (λ(a:List V×aF×aq) x=>(bJ c a.2.1 a.2.2 t x).bind λ(ρ,σ)=>(pC r c ρ σ M5).bind λ(b,σ)=>if b then on elt gs ρ σ a.1 else some (a.1,ρ,σ)) (MQ,ρ,σ)|_=>none
theorem kY{elt:E}{MQ:List V}:on r c elt [] ρ σ MQ=if MQ.length<65536 then(r.e c ρ σ elt).map λx=>match x with|(v,σ)=>(MQ++[v],ρ,σ) else none:=rfl
theorem CN{elt:E}{MQ:List V}{t:T}{it:E}{M5:List E}{gs:List G}:on r c elt (.mk t it M5::gs) ρ σ MQ=(eQ r c ρ σ it).bind λ(i,σ)=>match i with|.items xs=>xs.foldlM (λ(a:List V×aF×aq) x=>(bJ c a.2.1 a.2.2 t x).bind λ(ρ,σ)=>(pC r c ρ σ M5).bind λ(b,σ)=>if b then on r c elt gs ρ σ a.1 else some (a.1,ρ,σ)) (MQ,ρ,σ)|_=>none:=rfl
noncomputable def bG(elt:E)(t:T)(M5:List E)(gs:List G)(a:List V×aF×aq)(x:V):Option (List V×aF×aq):=
 (bJ c a.2.1 a.2.2 t x).bind λ(ρ,σ)=>(pC r c ρ σ M5).bind λ(b,σ)=>if b then on r c elt gs ρ σ a.1 else some (a.1,ρ,σ)
noncomputable def dN(turn:List V×aF×aq→V→Option (List V×aF×aq))(n:Nat):Nat→Nat→List V×aF×aq→Option (List V×aF×aq)
 |0,_,_=>none|m+1,k,a=>match a.2.2[n]? with|some (.list xs)=>(match xs[k]? with|none=>some a|some x=>(turn a x).bind λa=>dN turn n m (k+1) a)|_=>none
theorem wq{turn:List V×aF×aq→V→Option (List V×aF×aq)}{n m k:Nat}{a:List V×aF×aq}:dN turn n (m+1) k a=match a.2.2[n]? with|some (.list xs)=>(match xs[k]? with|none=>some a|some x=>(turn a x).bind λa=>dN turn n m (k+1) a)|_=>none:=rfl
noncomputable def bB(ρ:aF)(frees:List Nat):aF:=frees.filterMap λx=>(aE ρ x).map λv=>(x,v)
noncomputable def ga:E→Bool
 |.v x=>x==155|_=>false
noncomputable def iF(turn:List V×aF×aq→V→Option (List V×aF×aq))(i:It)(a:List V×aF×aq):Option (List V×aF×aq):=match i with|.items xs=>xs.foldlM turn a|.o n=>(match a.2.2[n]? with|some (.list xs)=>dN turn n (xs.length+1) 0 a|_=>none)|.revLoc .. =>none
section
variable (ρ:aF)
noncomputable def Br(elt:E)(t:T)(M5:List E)(gs:List G)(frees:List Nat):It×aq→Option (List V×aF×aq):=λ(i,σ)=>iF (bG r {c with fz:=[]} elt t M5 gs) i ([],bB ρ frees,σ)
noncomputable def Bq(elt:E):List V×aF×aq→Option (V×aq):=λa=>if ga elt then some (.o a.2.2.length,a.2.2++[Cell.list a.1]) else some (.list a.1,a.2.2)
end
noncomputable def yJ(ρ:aF)(σ:aq)(elt:E)(gens:List G)(frees:List Nat):Option (V×aq):=match gens with|.mk t it M5::gs=>((ms r c ρ σ it (gq t)).bind (Br r c ρ elt t M5 gs frees)).bind (Bq elt)|[]=>none
inductive MK where
 |fnm (k:Nat)|app (n:Nat)|val (i:Nat)
noncomputable def CY:List (Nat×Nat):=[(202,0),(196,1),(197,2),(198,3),(199,4),(200,5),(201,6)]
noncomputable def BV:List (Nat×Nat):=[(203,7),(197,8),(198,9),(199,10),(201,11)]
noncomputable def vb:Option Cell→Bool
 |some (.list _)=>true|_=>false
noncomputable def da(σ:aq)(o:V)(a:Nat):Option MK:=match jX σ o with|some (C,fs)=>if(aE fs a).isNone then(tc C a).map .fnm else none|none=>(match o with|.o n=>if vb σ[n]?&&a==195 then some (.app n) else none|.bytes _=>(CY.lookup a).map .val|.str _=>(BV.lookup a).map .val|_=>none)
noncomputable def so(σ:aq)(o:V)(a:Nat)(mk:MK)(args:List V):Option (V×aq):=match mk with|.fnm k=>r.call σ (.fn k) (o::args)|.app n=>(match σ[n]?,args with|some (.list xs),[v]=>if(decide (c.b≤n)||below n v)&&below σ.length v&&xs.length<65536 then some (.none,σ.set n (.list (xs++[v]))) else none|_,_=>none)|.val _=>(fC σ o a args).map λv=>(v,σ)
noncomputable def jq(σ:aq)(o:V)(a:Nat):Option (V×aq):=(jX σ o).bind λ(C,fs)=>match jM C a with|some k=>r.call σ (.fn k) [o]|none=>if dP.contains (C,a) then(aE fs a).map λv=>(v,σ) else none
noncomputable def ju:List E→Bool
 |[.gen ..]=>true|_=>false
noncomputable def G9:V→Bool
 |.bytes _=>true|_=>false
noncomputable def wp:V→Bool
 |.bytes b=>b.isEmpty|_=>false
noncomputable def H1:E→Option (E×List G)
 |.gen e gs _=>some (e,gs)|_=>none
noncomputable def EK:List E→Option (E×List G)
 |[e]=>H1 e|_=>none
noncomputable def vW:E→Option (E×List Cm×List E)
 |.p a o b=>some (a,o,b)|_=>none
noncomputable def vE:E→Option Nat
 |.v x=>some x|_=>none
noncomputable def EZ:List G→Option (T×E)
 |[.mk t i []]=>some (t,i)|_=>none
noncomputable def tV:T→Option Nat
 |.v x=>some x|_=>none
noncomputable def vp:List Cm→Bool
 |[.eq]=>true|_=>false
noncomputable def Lf:K→Bool
 |.bytes []=>true|_=>false
noncomputable def Hx:E→Bool
 |.k k=>Lf k|_=>false
noncomputable def Gg:List E→Bool
 |[e]=>Hx e|_=>false
noncomputable def Kf:V→Option (List V)
 |.list xs=>some xs|_=>none
noncomputable def Ky:V×aq→Option (V×aq):=λp=>(Kf p.1).bind λxs=>if xs.all G9 then some (.bool (xs.all wp),p.2) else none
noncomputable def Gj(ρ:aF)(σ:aq)(args:List E):Option (V×aq):=
 (EK args).bind λp=>(vW p.1).bind λq=>(vE q.1).bind λx=>(EZ p.2).bind λg=>(tV g.1).bind λy=>(vE g.2).bind λz=>
 if x==y&&(vp q.2.1&&(Gg q.2.2&&c.fz==[1])) then(r.e c ρ σ (.v z)).bind Ky else none
noncomputable def IV:K→Bool
 |.str s=>decide (s.length≤65536)|.bytes b=>decide (b.length≤65536)|_=>true
section
variable (ρ:aF)
noncomputable def yu(op:Op)(x:V):V×aq→Option (V×aq):=λ(y,σ)=>(ii σ op x y).map λv=>(v,σ)
noncomputable def EG(op:Op)(b:E):V×aq→Option (V×aq):=λ(x,σ)=>(r.e c ρ σ b).bind (yu op x)
noncomputable def Ey:V×aq→Option (V×aq):=λ(v,σ)=>(aN σ v).map λt=>(.bool (!t),σ)
noncomputable def Gb:V×aq→Option (V×aq):=λ(v,σ)=>match v with|.int i=>some (.int (-i),σ)|_=>none
noncomputable def GV(MW:List Cm)(rs:List E):V×aq→Option (V×aq):=λ(x,σ)=>ni r c ρ σ x MW rs
noncomputable def wa(σ:aq)(a b:E):Bool→Option (V×aq)
 |true=>r.e c ρ σ a|false=>r.e c ρ σ b
noncomputable def zV(a b:E):V×aq→Option (V×aq):=λ(v,σ)=>(aN σ v).bind (wa r c ρ σ a b)
noncomputable def Bu(a:Nat):V×aq→Option (V×aq):=λ(o,σ)=>jq r σ o a
noncomputable def Au(o:V):V×aq→Option (V×aq):=λ(i,σ)=>(fJ σ o i).map λv=>(v,σ)
noncomputable def ET(i:E):V×aq→Option (V×aq):=λ(o,σ)=>(r.e c ρ σ i).bind (Au o)
noncomputable def GP(o:V)(lo:Option V):Option V×aq→Option (V×aq):=λ(hi,σ)=>(du σ o lo hi).map λv=>(v,σ)
noncomputable def FF(o:V)(hi:Option E):Option V×aq→Option (V×aq):=λ(lo,σ)=>(gf r c ρ σ hi).bind (GP o lo)
noncomputable def JT(lo hi:Option E):V×aq→Option (V×aq):=λ(o,σ)=>(gf r c ρ σ lo).bind (FF r c ρ o hi)
noncomputable def uG:List V×aq→Option (V×aq):=λ(vs,σ)=>some (.list vs,σ)
noncomputable def yZ:List V×aq→Option (V×aq):=λ(vs,σ)=>some (.t vs,σ)
noncomputable def sF(f:V):List V×aq→Option (V×aq):=λ(vs,σ)=>r.call σ f vs
noncomputable def zd(args:List E):V×aq→Option (V×aq):=λ(f,σ)=>(bg r c ρ σ args).bind (sF r f)
noncomputable def f8(o:V)(a:Nat)(mk:MK):List V×aq→Option (V×aq):=λ(vs,σ)=>so r c σ o a mk vs
noncomputable def tC(σ:aq)(o:V)(a:Nat)(args:List E):MK→Option (V×aq):=λmk=>(bg r c ρ σ args).bind (f8 r c o a mk)
noncomputable def AL(a:Nat)(args:List E):V×aq→Option (V×aq):=λ(o,σ)=>(da σ o a).bind (tC r c ρ σ o a args)
noncomputable def ca(σ:aq):E→Option (V×aq)
 |.k k=>if IV k then some (kV k,σ) else none|.v x=>(aE ρ x).map λv=>(v,σ)|.g x=>(yh x).map λv=>(v,σ)|.b Nq es=>dh r c ρ Nq σ es|.bin op a b=>(r.e c ρ σ a).bind (EG r c ρ op b)|.not e=>(r.e c ρ σ e).bind Ey|.neg e=>(r.e c ρ σ e).bind Gb|.p l MW rs=>(r.e c ρ σ l).bind (GV r c ρ MW rs)|.ite q a b=>(r.e c ρ σ q).bind (zV r c ρ a b)|.attr e a=>(r.e c ρ σ e).bind (Bu r a)|.sub e i=>(r.e c ρ σ e).bind (ET r c ρ i)|.l e lo hi=>(r.e c ρ σ e).bind (JT r c ρ lo hi)|.list es=>if es.length<100 then(bg r c ρ σ es).bind uG else none|.t es=>if es.length<100 then(bg r c ρ σ es).bind yZ else none
 |.call f args=>if ju args then(match f with
  |.g x=>if x==89 then Gj r c ρ σ args else none
  |_=>none)
   else(r.e c ρ σ f).bind (zd r c ρ args)
 |.m o a args=>(r.e c ρ σ o).bind (AL r c ρ a args)|.comp elt gens frees=>yJ r c ρ σ elt gens frees|.gen .. =>none|.lam ps frees body=>if frees.all c.fz.contains&&frees.all (λx=>(aE ρ x).isSome)&& !frees.isEmpty&& !(c.fz==[1]) then some (.clo ps body (bB ρ frees),σ) else none|.bad=>none
noncomputable def ke:aF×aq→Option (Fl×aF×aq):=λ(ρ,σ)=>some (.next,ρ,σ)
noncomputable def Bh:V×aq→Option (Fl×aF×aq):=λ(v,σ)=>match v with|.none=>some (.next,ρ,σ)|_=>none
noncomputable def ER(t:T):V×aq→Option (Fl×aF×aq):=λ(v,σ)=>(bJ c ρ σ t v).bind ke
noncomputable def ya(xs:List Nat):List V×aq→Option (Fl×aF×aq):=λ(vs,σ)=>if vs.length==xs.length&&vs.length<100 then(bindAll c ρ (xs.zip vs).reverse).map λρ=>(.next,ρ,σ) else none
noncomputable def Av(x:Nat)(σ:aq):V→Option (Fl×aF×aq):=λw=>(cZ c ρ x w).map λρ=>(.next,ρ,σ)
noncomputable def Aq(x:Nat)(op:Op)(old:V):V×aq→Option (Fl×aF×aq):=λ(v,σ)=>(tA op old v).bind (Av c ρ x σ)
noncomputable def Gm(σ:aq)(x:Nat)(op:Op)(e:E):V→Option (Fl×aF×aq):=λold=>(r.e c ρ σ e).bind (Aq c ρ x op old)
noncomputable def GR:V×aq→Option (Fl×aF×aq):=λ(v,σ)=>some (.ret v,ρ,σ)
noncomputable def BP(σ:aq)(a b:List S):Bool→Option (Fl×aF×aq)
 |true=>r.ss c ρ σ a|false=>r.ss c ρ σ b
noncomputable def IX(a b:List S):V×aq→Option (Fl×aF×aq):=λ(v,σ)=>(aN σ v).bind (BP r c ρ σ a b)
noncomputable def AD(q:E)(b:List S):Fl×aF×aq→Option (Fl×aF×aq):=λ(fl,ρ,σ)=>match fl with|.next|.cont=>r.ss c ρ σ [.while q b]|.brk=>some (.next,ρ,σ)|.ret _=>none
noncomputable def BI(σ:aq)(q:E)(b:List S):Bool→Option (Fl×aF×aq)
 |true=>(r.ss c ρ σ b).bind (AD r c q b)|false=>some (.next,ρ,σ)
noncomputable def GZ(q:E)(b:List S):V×aq→Option (Fl×aF×aq):=λ(v,σ)=>(aN σ v).bind (BI r c ρ σ q b)
noncomputable def AS(b:List S):aF×aq→Option (Fl×aF×aq):=λ(ρ,σ)=>r.ss c ρ σ b
noncomputable def cW(t:T)(b:List S):aF→aq→V→Option (Fl×aF×aq):=λρ σ x=>(bJ c ρ σ t x).bind (AS r c b)
noncomputable def kFor(t:T)(b:List S):It×aq→Option (Fl×aF×aq):=λ(i,σ)=>lP (cW r c t b) ρ σ i
noncomputable def br(σ:aq):S→Option (Fl×aF×aq)
 |.expr e=>(r.e c ρ σ e).bind (Bh ρ)|.a ts e=>(match ts with|[t]=>(r.e c ρ σ e).bind (ER c ρ t)|_=>none)|.n t=>(bJ c ρ (σ++[.list []]) t (.o σ.length)).bind ke|.d xs es=>(bg r c ρ σ es).bind (ya c ρ xs)|.u x op e=>(aE ρ x).bind (Gm r c ρ σ x op e)|.ret e=>(r.e c ρ σ e).bind (GR ρ)|.ite q a b=>(r.e c ρ σ q).bind (IX r c ρ a b)|.while q b=>(r.e c ρ σ q).bind (GZ r c ρ q b)|.for t it b=>(eQ r c ρ σ it).bind (kFor r c ρ t b)|.brk=>some (.brk,ρ,σ)|.cont=>some (.cont,ρ,σ)|.pass=>none|.try b=>r.ss c ρ σ b
 |.bad=>none
end
noncomputable def c7:aF→aq→List S→Option (Fl×aF×aq)
 |ρ,σ,[]=>some (.next,ρ,σ)|ρ,σ,s::ss=>(br r c ρ σ s).bind λ(fl,ρ,σ)=>match fl with|.next=>c7 ρ σ ss|fl=>some (fl,ρ,σ)
noncomputable def DD(ps:List Nat):Bool:=ps==[115]||ps==[133]
noncomputable def pS:List Nat→Bool
 |[]=>true|x::r=> !r.contains x&&pS r
noncomputable def ia:List Nat→List V→List V→Option aF
 |[],[],_=>some []|p::ps,v::vs,dfl=>(ia ps vs dfl).map ((p,v):: ·)|ps,[],dfl=>if ps.length≤dfl.length then some (ps.zip (dfl.drop (dfl.length -ps.length))) else none|[],_::_,_=>none
noncomputable def oq:Fl→Option V
 |.next=>some .none|.ret v=>some v|_=>none
noncomputable def Fd(σ:aq):Fl×aF×aq→Option (V×aq):=λ(fl,_,σ')=>(oq fl).bind λv=>(aV σ' σ.length 2 v).map λv=>(v,σ'.take σ.length)
noncomputable def DQ(σ:aq):V×aq→Option (V×aq):=λ(v,σ')=>(aV σ' σ.length 2 v).map λv=>(v,σ'.take σ.length)
noncomputable def Ej(C n:Nat)(σ':aq):V→Option (V×aq)
 |.none=>if C==129 then some (.o n,σ') else(aV σ' n 2 (.o n)).map λv=>(v,σ'.take n)|_=>none
noncomputable def Ia(C n:Nat):Fl×aF×aq→Option (V×aq):=λy=>(oq y.1).bind (Ej C n y.2.2)
noncomputable def Iq(C:Nat)(F:Fn)(σ:aq):aF→Option (V×aq):=λρ=>(r.ss ⟨σ.length,F.fz⟩ ρ (σ++[.obj C []]) F.body).bind (Ia C σ.length)
noncomputable def IM(C:Nat)(σ:aq)(args:List V)(k:Nat):Fn→Option (V×aq):=λF=>if(args.length+1 !=F.ps.length)&& !(k==37000&&args.length==1) then none else(ia F.ps (.o σ.length::args) F.dfl).bind (Iq r C F σ)
noncomputable def fD(σ:aq)(f:V)(args:List V):Option (V×aq):=match f with|.fn k=>(fnOf k).bind λF=>if args.length !=F.ps.length then none else(ia F.ps args F.dfl).bind λρ=>(r.ss ⟨σ.length,F.fz⟩ ρ σ F.body).bind (Fd σ)|.cls C=>(pE C).bind λk=>(fnOf k).bind (IM r C σ args k)|.clo ps body MX=>if ps.length==args.length&&DD ps then(r.e ⟨σ.length,[]⟩ (ps.zip args++MX) σ body).bind (DQ σ) else none|.blt k=>(mB σ k args).map λv=>(v,σ)|_=>none
end
noncomputable def ev(cl:Call):Nat→Ev
 |0=>⟨λo_ o_ o_ o_=>none,λo_ o_ o_ o_=>none,cl⟩|n+1=>⟨ca (ev cl n),c7 (ev cl n),cl⟩
noncomputable def ED:Nat:=400
noncomputable def call:Nat→Call
 |0=>λo_ o_ o_=>none|d+1=>fD (ev (call d) ED)
end Internal
namespace Internal.H
open PySem PySem.W
noncomputable abbrev pw:=PySem.Challenge.pw_ai0011_01
noncomputable abbrev kh(P:Params)(s:String):Int:=Qq P (Str.ofString s)
noncomputable def cE(i:Nat):Stmt:=pw.main.body.getD i (.Pass ⟨0,0,0,0⟩)
noncomputable def ee(i j:Nat):Stmt:=match cE i with|.ClassDef _ _ _ b _ _ _ _ _ _ _=>b.getD j (.Pass ⟨0,0,0,0⟩)|s=>s
noncomputable def By(st:Stmt)(name NA:String)(gl:Addr)(dV kV doc pm:Value)(an:Option Addr)(code ct:Value)(bl:Addr):Data:=match st with|.FunctionDef _ args b _ _ _ sc _ _ _=>.func {name:=Str.ofString name,qualname:=Str.ofString NA,params:=args,body:=.stmts b,scope:=sc,globals:=gl,closure:=[],defaults:=dV,kwdefaults:=kV,doc:=doc,pyModule:=pm,annotations:=an,code:=code,closureTuple:=ct,builtins:=bl}|_=>.plain
noncomputable def nt(i:Int):Value:=.int i 0
noncomputable def ss:List String→Nat→List Value
 |[],_=>[]|x::l,n=>.str x n::ss l (n+1)
noncomputable def lc:List (Int×Int×Nat)→List Value
 |[]=>[]|(a,b,c)::l=>nt a::nt b::.ref c::lc l
noncomputable def tu(l:List Value):Obj:=⟨.type "tuple",none,.seq ⟨l⟩ 0,#[]⟩
noncomputable def fl(l:List Value):Obj:=⟨.none,none,.fields ⟨l⟩,#[]⟩
noncomputable def tf(c:String)(l:List Value):Obj:=⟨.type c,none,.fields ⟨l⟩,#[]⟩
noncomputable def en(P:Params)(s:String)(n:Nat)(v:Value):DictEntry:=⟨kh P s,.str s n,v⟩
noncomputable def di(l:List DictEntry)(n:Nat):Obj:=⟨.type "dict",none,.dict ⟨l⟩ n,#[]⟩
noncomputable def fr(c a b:Nat)(s:String)(n:Nat):Obj:=⟨.type "frame",none,.plain,#[some (.ref c),some (.ref a),some (.ref b),none,some (.str s n),none,some (.ref 0)]⟩
noncomputable def cs(s:String)(b m:List Value)(n:Nat)(d:Option Value)(t u:Nat)(w:String):Obj:=⟨.type "type",none,.cls {name:=Str.ofString s,bases:=b,mro:=m,ns:=n,qualname:=Str.ofString s,hasDict:=true,slotNames:=[],subclasses:=[],abstract:=false,collection:=none,hasDel:=false},#[d,none,some (.str s t),some (.str s u),some (.builtin w),some (.bool true)]⟩
noncomputable def fb(a:Nat)(st:Stmt)(q s:String)(t:Nat)(l i j k g:Int)(vs:List String)(dv:Value)(m:String)(mt:Nat):List Obj:=
 [tu [],fl [],tu (ss vs (t+3)),tu [],⟨.none,none,By st s (q++s) 0 .none .none .none .none none .none .none 0,#[]⟩,
  tf "code" [.str s t,.str (q++s) (t+1),.str "/claim/cut.py" (t+2),nt l,nt i,nt j,nt k,nt g,.ref a,.bool true,nt 181,.ref (a+1),.none,.ref (a+2),.ref (a+3),.ref (a+4),nt (t+3+vs.length:Nat),nt l,.str "/claim/cut.py" (t+4+vs.length)],
  ⟨.type "function",none,By st s (q++s) 3 dv .none .none (.str m mt) none (.ref (a+5)) .none 0,#[]⟩]
noncomputable def fc(a:Nat)(st:Stmt)(q s:String)(t:Nat)(l i:Int)(m:String)(mt:Nat):List Obj:=
 [tu [],fl [],⟨.none,none,By st s (q++s) 0 .none .none .none .none none .none .none 0,#[]⟩,
  tf "code" [.str s t,.str (q++s) (t+1),.str "/claim/cut.py" (t+2),nt l,nt i,nt 0,nt 0,nt 3,.ref a,.bool true,nt 181,.ref (a+1),.none,.none,.none,.ref (a+2),nt (t+3:Nat),nt l,.str "/claim/cut.py" (t+4)],
  ⟨.type "function",none,By st s (q++s) 3 .none .none .none (.str m mt) none (.ref (a+3)) .none 0,#[]⟩]
noncomputable def cc(s:String)(t:Nat)(l:Int)(a:Nat):Obj:=tf "code" [.str s t,.str s (t+1),.str "/claim/cut.py" (t+2),nt l,nt 0,nt 0,nt 0,nt 0,.ref a,.bool false,nt 181,.ref (a+1),.none,.none,.none,.none,nt (t+3:Nat),nt l,.str "/claim/cut.py" (t+4)]
noncomputable def ce(c:Nat)(s:String)(n t u w:Nat):List Obj:=[cs s [.type "object"] [.ref c,.type "object"] n none t u "object.__new__",tf "getset_descriptor" [.str "__dict__" w,.ref c,.builtin "function.__dict__",.builtin "function.__dict__#set"],tf "getset_descriptor" [.str "__weakref__" (w+2),.ref c,.builtin "ExceptionGroup.__weakref__",.none],tf "super" [.ref c,.ref c,.ref c],tf "builtin_function_or_method" [.builtin "object.__init_subclass__",.ref c]]
noncomputable def Mg(P:Params):List DictEntry:=[en P "__doc__" 166 .none,en P "__package__" 167 .none,en P "__loader__" 168 (.builtin "__main__.__loader__#opaque"),en P "__spec__" 169 .none,en P "__annotations__" 170 (.ref 6),en P "__builtins__" 171 (.ref 4),en P "__file__" 173 (.str "/claim/cut.py" 172),en P "__cached__" 174 .none,en P "_wall" 193 (.ref 21),en P "_Os" 225 (.ref 38),en P "os" 226 (.ref 44),en P "_Logger" 255 (.ref 61),en P "logger" 256 (.ref 67),en P "_escape" 265 (.ref 74),en P "_read_octet" 273 (.ref 81),en P "_read_class" 285 (.ref 88),en P "_read_parts" 298 (.ref 95),en P "Expression" 378 (.ref 138),en P "_Re" 418 (.ref 167),en P "re" 419 (.ref 173),en P "_SLASH" 423 (.int 47 422),en P "_POSIX_CLASSES" 460 (.ref 174),en P "MalformedPattern" 480 (.ref 184),en P "_render" 493 (.ref 194),en P "_posix_class" 505 (.ref 201),en P "translate_bracket_expression" 521 (.ref 208),en P "_translate_segment" 533 (.ref 215),en P "_split_segments" 545 (.ref 222),en P "_translate_double_asterisk" 554 (.ref 229),en P "_collapse_double_asterisks" 563 (.ref 236),en P "_translate" 575 (.ref 243),en P "translate" 582 (.ref 264),en P "translate_wildmatch" 583 (.ref 250),en P "_handle_leading_patterns" 593 (.ref 257),en P "translate_ignore" 603 (.ref 264),en P "Pattern" 676 (.ref 310),en P "_relative_to" 684 (.ref 321),en P "_last_matching_pattern" 697 (.ref 328),en P "_decide" 712 (.ref 335),en P "_excluded_inside" 724 (.ref 342),en P "_may_prune" 737 (.ref 349),en P "IgnoreFilter" 814 (.ref 403),en P "IgnoreFilterStack" 853 (.ref 431),en P "_law_parts" 861 (.ref 442),en P "_law_rule" 881 (.ref 449),en P "_law_part" 887 (.ref 454),en P "_law_fits" 893 (.ref 459),en P "_law_last" 899 (.ref 464),en P "_law_words" 905 (.ref 469),en P "_law_due" 911 (.ref 474),en P "_law_same" 919 (.ref 481),en P "_law_above" 925 (.ref 486),en P "_law_stacked" 940 (.ref 493),en P "law" 946 (.ref 498)]
noncomputable def IR(P:Params)(s:String)(n k:Nat):Obj:=di (en P "__name__" 165 (.str s n)::(Mg P).take k) (k+1)
noncomputable def MG:List (Int×Int×Nat):=[(1,0,20),(5,0,27),(11,0,50),(16,0,73),(23,0,80),(35,0,87),(47,0,94),(80,0,101),(126,0,148),(138,0,180),(140,0,193),(151,0,200),(165,0,207),(208,0,214),(234,0,221),(252,0,228),(261,0,235),(268,0,242),(287,0,249),(291,0,256),(300,0,263),(312,0,270),(359,0,320),(361,0,327),(368,0,334),(383,0,341),(390,0,348),(399,0,355),(432,0,413),(444,0,441),(446,0,448),(463,0,453),(469,0,458),(477,0,463),(482,0,468),(484,0,473),(490,0,480),(492,0,485),(495,0,492),(507,0,497)]
noncomputable def ev{α:Type}:List α→List α
 |[]=>[]|[x]=>[x]|x::_::l=>x::ev l
noncomputable def bt:Nat→List Obj→BT
 |0,_=>.nil|_,[]=>.nil|n+1,x::l=>.node x (bt n (ev l)) (bt n (ev l.tail))
noncomputable def oL(P:Params)(k:Nat):List Obj:=[tu [],fl (lc (MG.take k)),cc "<module>" 182 1 11,fr 13 3 3 "__main__" 164]++(
 fb 15 (cE 0) "" "_wall" 187 1 1 0 0 3 ["k"] .none "__main__" 164++(
 [tu [],tf "builtin_function_or_method" [.builtin "type.__prepare__",.type "type"],di [en P "__module__" 203 (.str "dulwich.plainly" 194),en P "__qualname__" 205 (.str "_Os" 204),en P "__firstlineno__" 207 (.int 5 206),en P "linesep" 209 (.str "\n" 208),en P "fsencode" 217 (.ref 35),en P "__static_attributes__" 218 (.ref 36)] 6,tu [],fl (lc [(8,4,34)]),cc "_Os" 198 5 25,fr 27 3 24 "dulwich.plainly" 194]++(
 fb 29 (ee 2 1) "_Os." "fsencode" 210 8 2 0 0 3 ["self","text"] .none "dulwich.plainly" 194++(
 [tu [],di [en P "__module__" 203 (.str "dulwich.plainly" 194),en P "__firstlineno__" 207 (.int 5 206),en P "linesep" 209 (.str "\n" 208),en P "fsencode" 217 (.ref 35),en P "__static_attributes__" 218 (.ref 36),en P "__dict__" 220 (.ref 39),en P "__weakref__" 222 (.ref 40),en P "__doc__" 223 .none] 4]++(
 ce 38 "_Os" 37 196 204 219++(
 [di [] 0,⟨(.ref 38),(some 43),.plain,#[]⟩,tu [],tf "builtin_function_or_method" [.builtin "type.__prepare__",.type "type"],di [en P "__module__" 234 (.str "dulwich.plainly" 194),en P "__qualname__" 236 (.str "_Logger" 235),en P "__firstlineno__" 238 (.int 11 237),en P "warning" 247 (.ref 58),en P "__static_attributes__" 248 (.ref 59)] 5,tu [],fl (lc [(13,4,57)]),cc "_Logger" 229 11 48,fr 50 3 47 "dulwich.plainly" 194]++(
 fb 52 (ee 4 0) "_Logger." "warning" 239 13 2 0 0 7 ["self","text","values"] .none "dulwich.plainly" 194++(
 [tu [],di [en P "__module__" 234 (.str "dulwich.plainly" 194),en P "__firstlineno__" 238 (.int 11 237),en P "warning" 247 (.ref 58),en P "__static_attributes__" 248 (.ref 59),en P "__dict__" 250 (.ref 62),en P "__weakref__" 252 (.ref 63),en P "__doc__" 253 .none] 4]++(
 ce 61 "_Logger" 60 227 235 249++(
 [di [] 0,⟨(.ref 61),(some 66),.plain,#[]⟩]++(
 fb 68 (cE 6) "" "_escape" 257 16 1 0 0 3 ["octets","out","octet"] .none "dulwich.plainly" 194++(
 fb 75 (cE 7) "" "_read_octet" 266 23 2 0 0 3 ["text","i"] .none "dulwich.plainly" 194++(
 fb 82 (cE 8) "" "_read_class" 274 35 2 0 0 3 ["text","i","negated","ranges","low","high"] .none "dulwich.plainly" 194++(
 fb 89 (cE 9) "" "_read_parts" 286 47 2 0 0 3 ["text","i","parts","kind","what","least","most"] .none "dulwich.plainly" 194++(
 [tu [],tf "builtin_function_or_method" [.builtin "type.__prepare__",.type "type"],di [en P "__module__" 306 (.str "dulwich.plainly" 194),en P "__qualname__" 308 (.str "Expression" 307),en P "__firstlineno__" 310 (.int 80 309),en P "__init__" 320 (.ref 109),en P "holds" 335 (.ref 116),en P "once" 341 (.ref 121),en P "ends" 360 (.ref 128),en P "match" 368 (.ref 135),en P "__static_attributes__" 371 (.ref 136)] 9,tu [],fl (lc [(82,4,108),(86,4,115),(99,4,120),(108,4,127),(124,4,134)]),cc "Expression" 301 80 99,fr 101 3 98 "dulwich.plainly" 194]++(
 fb 103 (ee 10 0) "Expression." "__init__" 311 82 3 0 0 3 ["self","text","ignorecase","_"] .none "dulwich.plainly" 194++(
 fb 110 (ee 10 1) "Expression." "holds" 321 86 3 0 0 3 ["self","what","octet","negated","ranges","octets","low","high","one"] .none "dulwich.plainly" 194++(
 fc 117 (ee 10 2) "Expression." "once" 336 99 5 "dulwich.plainly" 194++(
 fb 122 (ee 10 3) "Expression." "ends" 342 108 4 0 0 3 ["self","parts","name","places","kind","what","least","most","done","now","many","fresh","place"] .none "dulwich.plainly" 194++(
 fb 129 (ee 10 4) "Expression." "match" 361 124 2 0 0 3 ["self","name"] .none "dulwich.plainly" 194++(
 [tu (ss ["ignorecase","parts"] 369),di [en P "__module__" 306 (.str "dulwich.plainly" 194),en P "__firstlineno__" 310 (.int 80 309),en P "__init__" 320 (.ref 109),en P "holds" 335 (.ref 116),en P "once" 341 (.ref 121),en P "ends" 360 (.ref 128),en P "match" 368 (.ref 135),en P "__static_attributes__" 371 (.ref 136),en P "__dict__" 373 (.ref 139),en P "__weakref__" 375 (.ref 140),en P "__doc__" 376 .none] 4]++(
 ce 138 "Expression" 137 299 307 372++(
 [tu [],tf "builtin_function_or_method" [.builtin "type.__prepare__",.type "type"],di [en P "__module__" 386 (.str "dulwich.plainly" 194),en P "__qualname__" 388 (.str "_Re" 387),en P "__firstlineno__" 390 (.int 126 389),en P "IGNORECASE" 392 (.int 2 391),en P "escape" 400 (.ref 156),en P "compile" 410 (.ref 164),en P "__static_attributes__" 411 (.ref 165)] 7,tu [],fl (lc [(129,4,155),(132,4,163)]),cc "_Re" 381 126 146,fr 148 3 145 "dulwich.plainly" 194]++(
 fb 150 (ee 11 1) "_Re." "escape" 393 129 2 0 0 3 ["self","octets"] .none "dulwich.plainly" 194++(
 [tu [.int 0 401]]++(
 fb 158 (ee 11 2) "_Re." "compile" 402 132 3 0 0 3 ["self","text","flags"] (.ref 157) "dulwich.plainly" 194++(
 [tu [],di [en P "__module__" 386 (.str "dulwich.plainly" 194),en P "__firstlineno__" 390 (.int 126 389),en P "IGNORECASE" 392 (.int 2 391),en P "escape" 400 (.ref 156),en P "compile" 410 (.ref 164),en P "__static_attributes__" 411 (.ref 165),en P "__dict__" 413 (.ref 168),en P "__weakref__" 415 (.ref 169),en P "__doc__" 416 .none] 4]++(
 ce 167 "_Re" 166 379 387 412++(
 [di [] 0,⟨(.ref 167),(some 172),.plain,#[]⟩,di [⟨kh P "alnum",(.bytes #[97,108,110,117,109] 424),(.bytes #[48,45,57,65,45,90,97,45,122] 425)⟩,⟨kh P "alpha",(.bytes #[97,108,112,104,97] 426),(.bytes #[65,45,90,97,45,122] 427)⟩,⟨kh P "blank",(.bytes #[98,108,97,110,107] 428),(.bytes #[92,116,32] 429)⟩,⟨kh P "cntrl",(.bytes #[99,110,116,114,108] 430),(.bytes #[92,120,48,48,45,92,120,49,102,92,120,55,102] 431)⟩,⟨kh P "digit",(.bytes #[100,105,103,105,116] 432),(.bytes #[48,45,57] 433)⟩,⟨kh P "graph",(.bytes #[103,114,97,112,104] 434),(.bytes #[33,45,46,48,45,126] 435)⟩,⟨kh P "lower",(.bytes #[108,111,119,101,114] 436),(.bytes #[97,45,122] 437)⟩,⟨kh P "print",(.bytes #[112,114,105,110,116] 438),(.bytes #[32,45,46,48,45,126] 439)⟩,⟨kh P "punct",(.bytes #[112,117,110,99,116] 440),(.bytes #[33,45,46,58,45,64,92,91,45,96,123,45,126] 441)⟩,⟨kh P "space",(.bytes #[115,112,97,99,101] 442),(.bytes #[92,116,92,110,92,114,32] 443)⟩,⟨kh P "upper",(.bytes #[117,112,112,101,114] 444),(.bytes #[65,45,90] 445)⟩,⟨kh P "xdigit",(.bytes #[120,100,105,103,105,116] 446),(.bytes #[48,45,57,65,45,70,97,45,102] 447)⟩] 12,tu [.type "Exception"],tf "builtin_function_or_method" [.builtin "type.__prepare__",.type "type"],di [en P "__module__" 468 (.str "dulwich.wildmatch" 420),en P "__qualname__" 470 (.str "MalformedPattern" 469),en P "__firstlineno__" 472 (.int 138 471),en P "__static_attributes__" 473 (.ref 182)] 4,tu [],fl [],cc "MalformedPattern" 463 138 178,fr 180 3 177 "dulwich.wildmatch" 420,tu [],di [en P "__module__" 468 (.str "dulwich.wildmatch" 420),en P "__firstlineno__" 472 (.int 138 471),en P "__static_attributes__" 473 (.ref 182),en P "__weakref__" 475 (.ref 185),en P "__doc__" 476 .none] 3,cs "MalformedPattern" [.type "Exception"] [.ref 184,.type "Exception",.type "BaseException",.type "object"] 183 (some (.ref 175)) 461 469 "Exception.__new__",tf "getset_descriptor" [.str "__weakref__" 474,.ref 184,.builtin "ExceptionGroup.__weakref__",.none],tf "super" [.ref 184,.ref 184,.ref 184],tf "builtin_function_or_method" [.builtin "object.__init_subclass__",.ref 184]]++(
 fb 188 (cE 17) "" "_render" 481 140 1 0 0 3 ["members","out","low","high","a","b","piece"] .none "dulwich.wildmatch" 420++(
 fb 195 (cE 18) "" "_posix_class" 494 151 4 0 0 3 ["pattern","i","members","classes","start","j"] .none "dulwich.wildmatch" 420++(
 fb 202 (cE 19) "" "translate_bracket_expression" 506 165 2 0 0 3 ["pattern","i","n","negated","members","classes","prev","first","c","body"] .none "dulwich.wildmatch" 420++(
 fb 209 (cE 20) "" "_translate_segment" 522 208 1 0 0 3 ["segment","res","i","n","c","bracket"] .none "dulwich.wildmatch" 420++(
 fb 216 (cE 21) "" "_split_segments" 534 234 1 0 0 3 ["pat","segments","start","i","c","_bracket"] .none "dulwich.wildmatch" 420++(
 fb 223 (cE 22) "" "_translate_double_asterisk" 546 252 2 0 0 3 ["segments","i","remaining"] .none "dulwich.wildmatch" 420++(
 fb 230 (cE 23) "" "_collapse_double_asterisks" 555 261 1 0 0 3 ["segments","collapsed","segment"] .none "dulwich.wildmatch" 420++(
 fb 237 (cE 24) "" "_translate" 564 268 1 0 0 3 ["pat","res","segments","i","segment","regex_part"] .none "dulwich.wildmatch" 420++(
 fb 244 (cE 25) "" "translate" 576 287 1 0 0 3 ["pattern"] .none "dulwich.wildmatch" 420++(
 fb 251 (cE 28) "" "_handle_leading_patterns" 586 291 2 0 0 3 ["pat","res"] .none "dulwich.ignore" 584++(
 fb 258 (cE 29) "" "translate" 594 300 1 0 0 3 ["pat","res","prefix_added"] .none "dulwich.ignore" 584++(
 [tu [],tf "builtin_function_or_method" [.builtin "type.__prepare__",.type "type"],di [en P "__module__" 611 (.str "dulwich.ignore" 584),en P "__qualname__" 613 (.str "Pattern" 612),en P "__firstlineno__" 615 (.int 312 614),en P "__init__" 625 (.ref 279),en P "__eq__" 633 (.ref 286),en P "matches" 642 (.ref 293),en P "reaches_inside" 651 (.ref 300),en P "match" 659 (.ref 307),en P "__static_attributes__" 668 (.ref 308)] 9,tu [],fl (lc [(314,4,278),(333,4,285),(336,4,292),(343,4,299),(349,4,306)]),cc "Pattern" 606 312 268,fr 270 3 267 "dulwich.ignore" 584,tu [.bool false]]++(
 fb 273 (ee 31 0) "Pattern." "__init__" 616 314 3 0 0 3 ["self","pattern","ignorecase","flags"] (.ref 272) "dulwich.ignore" 584++(
 fb 280 (ee 31 1) "Pattern." "__eq__" 626 333 2 0 0 3 ["self","other"] .none "dulwich.ignore" 584++(
 fb 287 (ee 31 2) "Pattern." "matches" 634 336 3 0 0 3 ["self","name","is_dir"] .none "dulwich.ignore" 584++(
 fb 294 (ee 31 3) "Pattern." "reaches_inside" 643 343 2 0 0 3 ["self","name","prefix"] .none "dulwich.ignore" 584++(
 fb 301 (ee 31 4) "Pattern." "match" 652 349 2 0 0 3 ["self","path"] .none "dulwich.ignore" 584++(
 [tu (ss ["_describes_contents","_name_re","_re","ignorecase","is_directory_only","is_empty","is_exclude","pattern"] 660),di [en P "__module__" 611 (.str "dulwich.ignore" 584),en P "__firstlineno__" 615 (.int 312 614),en P "__init__" 625 (.ref 279),en P "__eq__" 633 (.ref 286),en P "matches" 642 (.ref 293),en P "reaches_inside" 651 (.ref 300),en P "match" 659 (.ref 307),en P "__static_attributes__" 668 (.ref 308),en P "__dict__" 670 (.ref 311),en P "__weakref__" 672 (.ref 312),en P "__doc__" 673 .none,en P "__hash__" 674 .none] 5]++(
 ce 310 "Pattern" 309 604 612 669++(
 fb 315 (cE 32) "" "_relative_to" 677 359 2 0 0 3 ["path","depth"] .none "dulwich.ignore" 584++(
 fb 322 (cE 33) "" "_last_matching_pattern" 685 361 3 0 0 3 ["filters","name","is_dir","depth","f","relname","pattern"] .none "dulwich.ignore" 584++(
 fb 329 (cE 34) "" "_decide" 698 368 3 0 0 3 ["filters_for","path","is_dir","name","parts","i","parent","pattern","filters"] .none "dulwich.ignore" 584++(
 fb 336 (cE 35) "" "_excluded_inside" 713 383 2 0 0 3 ["filters","name","depth","f","relname","pattern"] .none "dulwich.ignore" 584++(
 fb 343 (cE 36) "" "_may_prune" 725 390 2 0 0 3 ["filters_for","path","name","parts","i","prefix","pattern"] .none "dulwich.ignore" 584++(
 [tu [],tf "builtin_function_or_method" [.builtin "type.__prepare__",.type "type"],di [en P "__module__" 745 (.str "dulwich.ignore" 584),en P "__qualname__" 747 (.str "IgnoreFilter" 746),en P "__firstlineno__" 749 (.int 399 748),en P "__init__" 760 (.ref 364),en P "append_pattern" 769 (.ref 371),en P "find_matching" 777 (.ref 378),en P "patterns" 785 (.ref 386),en P "is_ignored" 794 (.ref 393),en P "may_prune_directory" 803 (.ref 400),en P "__static_attributes__" 807 (.ref 401)] 10,tu [],fl (lc [(401,4,363),(408,4,370),(416,4,377),(420,4,384),(423,4,392),(428,4,399)]),cc "IgnoreFilter" 740 399 353,fr 355 3 352 "dulwich.ignore" 584,tu [.bool false,.none]]++(
 fb 358 (ee 37 0) "IgnoreFilter." "__init__" 750 401 4 0 0 3 ["self","patterns","ignorecase","path","pattern"] (.ref 357) "dulwich.ignore" 584++(
 fb 365 (ee 37 1) "IgnoreFilter." "append_pattern" 761 408 2 0 0 3 ["self","pattern","compiled"] .none "dulwich.ignore" 584++(
 fb 372 (ee 37 2) "IgnoreFilter." "find_matching" 770 416 2 0 0 3 ["self","path"] .none "dulwich.ignore" 584++(
 fb 379 (ee 37 3) "IgnoreFilter." "patterns" 778 419 1 0 0 3 ["self"] .none "dulwich.ignore" 584++(
 [tf "property" [.ref 385,.none,.none,.none,.str "patterns" 785,.bool false],tu [],fl [],tu (ss ["self","path"] 789),tu [.str "self" 791],⟨.none,none,By (ee 37 4) "is_ignored" "IgnoreFilter.is_ignored" 0 .none .none .none .none none .none .none 0,#[]⟩,tf "code" [.str "is_ignored" 786,.str "IgnoreFilter.is_ignored" 787,.str "/claim/cut.py" 788,nt 423,nt 2,nt 0,nt 0,nt 3,.ref 387,.bool true,nt 181,.ref 388,.none,.ref 389,.ref 390,.ref 391,nt 792,nt 423,.str "/claim/cut.py" 793],⟨.type "function",none,By (ee 37 4) "is_ignored" "IgnoreFilter.is_ignored" 3 .none .none .none (.str "dulwich.ignore" 584) none (.ref 392) .none 0,#[]⟩,tu [],fl [],tu (ss ["self","path"] 798),tu [.str "self" 800],⟨.none,none,By (ee 37 5) "may_prune_directory" "IgnoreFilter.may_prune_directory" 0 .none .none .none .none none .none .none 0,#[]⟩,tf "code" [.str "may_prune_directory" 795,.str "IgnoreFilter.may_prune_directory" 796,.str "/claim/cut.py" 797,nt 428,nt 2,nt 0,nt 0,nt 3,.ref 394,.bool true,nt 181,.ref 395,.none,.ref 396,.ref 397,.ref 398,nt 801,nt 428,.str "/claim/cut.py" 802],⟨.type "function",none,By (ee 37 5) "may_prune_directory" "IgnoreFilter.may_prune_directory" 3 .none .none .none (.str "dulwich.ignore" 584) none (.ref 399) .none 0,#[]⟩,tu (ss ["_ignorecase","_path","_patterns"] 804),di [en P "__module__" 745 (.str "dulwich.ignore" 584),en P "__firstlineno__" 749 (.int 399 748),en P "__init__" 760 (.ref 364),en P "append_pattern" 769 (.ref 371),en P "find_matching" 777 (.ref 378),en P "patterns" 785 (.ref 386),en P "is_ignored" 794 (.ref 393),en P "may_prune_directory" 803 (.ref 400),en P "__static_attributes__" 807 (.ref 401),en P "__dict__" 809 (.ref 404),en P "__weakref__" 811 (.ref 405),en P "__doc__" 812 .none] 4]++(
 ce 403 "IgnoreFilter" 402 738 746 808++(
 [tu [],tf "builtin_function_or_method" [.builtin "type.__prepare__",.type "type"],di [en P "__module__" 822 (.str "dulwich.ignore" 584),en P "__qualname__" 824 (.str "IgnoreFilterStack" 823),en P "__firstlineno__" 826 (.int 432 825),en P "__init__" 834 (.ref 421),en P "is_ignored" 844 (.ref 428),en P "__static_attributes__" 846 (.ref 429)] 6,tu [],fl (lc [(434,4,420),(437,4,427)]),cc "IgnoreFilterStack" 817 432 411,fr 413 3 410 "dulwich.ignore" 584]++(
 fb 415 (ee 38 0) "IgnoreFilterStack." "__init__" 827 434 2 0 0 3 ["self","filters"] .none "dulwich.ignore" 584++(
 fb 422 (ee 38 1) "IgnoreFilterStack." "is_ignored" 835 437 2 0 0 3 ["self","path","filter","status"] .none "dulwich.ignore" 584++(
 [tu [.str "_filters" 845],di [en P "__module__" 822 (.str "dulwich.ignore" 584),en P "__firstlineno__" 826 (.int 432 825),en P "__init__" 834 (.ref 421),en P "is_ignored" 844 (.ref 428),en P "__static_attributes__" 846 (.ref 429),en P "__dict__" 848 (.ref 432),en P "__weakref__" 850 (.ref 433),en P "__doc__" 851 .none] 4]++(
 ce 431 "IgnoreFilterStack" 430 815 823 847++(
 [tu [],fl [],tu [],tu [],⟨.none,none,By (cE 40) "_law_parts" "_law_parts" 0 .none .none .none .none none .none .none 0,#[]⟩,tf "code" [.str "_law_parts" 856,.str "_law_parts" 857,.str "/claim/cut.py" 858,nt 444,nt 0,nt 0,nt 0,nt 3,.ref 436,.bool true,nt 181,.ref 437,.none,.ref 438,.ref 439,.ref 440,nt 859,nt 444,.str "/claim/cut.py" 860],⟨.type "function",none,By (cE 40) "_law_parts" "_law_parts" 3 .none .none .none (.str "law_ai0011_01" 854) none (.ref 441) .none 0,#[]⟩]++(
 fb 443 (cE 41) "" "_law_rule" 862 446 1 0 0 3 ["number","negated","home","pick","more","comps","turn","only","lead","line","deep","holds","wild","rule"] .none "law_ai0011_01" 854++(
 fc 450 (cE 42) "" "_law_part" 882 463 2 "law_ai0011_01" 854++(
 fc 455 (cE 43) "" "_law_fits" 888 469 2 "law_ai0011_01" 854++(
 fc 460 (cE 44) "" "_law_last" 894 477 3 "law_ai0011_01" 854++(
 fc 465 (cE 45) "" "_law_words" 900 482 3 "law_ai0011_01" 854++(
 fc 470 (cE 46) "" "_law_due" 906 484 4 "law_ai0011_01" 854++(
 fb 475 (cE 47) "" "_law_same" 912 490 2 0 0 3 ["told","due"] .none "law_ai0011_01" 854++(
 fc 482 (cE 48) "" "_law_above" 920 492 3 "law_ai0011_01" 854++(
 fb 487 (cE 49) "" "_law_stacked" 926 495 5 0 0 3 ["filters","rules","parts","text","slash","stack","due","some","first"] .none "law_ai0011_01" 854++(
 fc 494 (cE 50) "" "law" 941 507 1 "law_ai0011_01" 854))))))))))))))))))))))))))))))))))))))))))))))))))))))))))))))))))))))))))))
noncomputable def I0(P:Params)(n:Nat)(o2 o3:Obj)(k:Nat):BT:=bt 10 ((boot_o_0 P::boot_o_1 P::o2::o3::boot_o_4 P::boot_o_5 P::boot_o_6 P::boot_o_7 P::boot_o_8 P::boot_o_9 P::boot_o_10 P::oL P k).take n)
noncomputable def L8(P:Params):Obj:=⟨.none,none,(.dict #[en P "type.__subclasses__.Exception.0" 477 (nt 184),en P "type.__subclasses__.Exception.n" 478 (nt 1)] 2),#[]⟩
noncomputable def Lh:Obj:=⟨.none,none,(.dict #[] 0),#[]⟩
end Internal.H
namespace Internal.H
open PySem PySem.W PySem.Calls PyProof.Rows
variable {os:OsState}{es:Array DictEntry}{part:Option Value}
noncomputable def dA{α:Type}:Sem α→Setting→Sem α
 |.ask k=>k|m=>λo_=>m
noncomputable def zm{α:Type}:Sem α→Result→Sem α
 |.call _ _ _ _ k=>k|m=>λo_=>m
noncomputable def GQ(tb:String→Option Builtin)(p:Program)(w:World)(M4:Nat)(kG:Option Value):Nat→SharedT→Thread→Option (SharedT×Thread)
 |0,s,t=>some (s,t)|n+1,s,t=>match through t with|true=>none|false=>match stepOk M4 kG t with|false=>none|true=>match stepT (denote tb) p w s t with|some (s',t')=>GQ tb p w M4 kG n s' t'|none=>none
theorem LJ{tb:String→Option Builtin}{p:Program}{w:World}{M4:Nat}{kG:Option Value}{s:SharedT}{t:Thread}:GQ tb p w M4 kG 0 s t=some (s,t):=rfl
theorem H6{tb:String→Option Builtin}{p:Program}{w:World}{M4 n:Nat}{kG:Option Value}{s:SharedT}{t:Thread}:GQ tb p w M4 kG (n+1) s t=match through t with|true=>none|false=>match stepOk M4 kG t with|false=>none|true=>match stepT (denote tb) p w s t with|some (s',t')=>GQ tb p w M4 kG n s' t'|none=>none:=rfl
theorem lB{tb:String→Option Builtin}{p:Program}{w:World}{M4:Nat}{kG:Option Value}:∀ {n N:Nat} {s s':SharedT} {r:Shared} {t t':Thread},GQ tb p w M4 kG n s t=some (s',t')→topRun tb p w M4 kG N s'.abs t'=some r→topRun tb p w M4 kG (n+N) s.abs t=some r:=by
 intro L_;induction L_ with
 |zero=>intro N s s' r t t' h k;obtain⟨rfl,rfl⟩:=pJ (sJ h);rw[Rx];exact k
 |succ n IH_=>
  intro N s s' r t t' h k;rw[show n+1+N=n+N+1 by exact Qg (aZ [_,_] (.g (.a (.a ab ai) ae) (.a (.a ab ae) ai)) rfl) (aZ [_,_] (.g (.a (.a ab ae) ai) (.a (.a ab ai) ae)) rfl)];rw[H6] at h;unfold topRun
  induction ht:through t using bC with
  |true=>rw[ht] at h;cases h
  |false=>
   rw[ht] at h
   induction hk:stepOk M4 kG t using bC with
   |false=>rw[hk] at h;cases h
   |true=>
    rw[hk] at h
    induction hs:stepT (denote tb) p w s t using oA with
    |none=>rw[hs] at h;exact nomatch h
    |some q=>obtain⟨Nd,t₂⟩:=q;rw[hs] at h;rw[stepT_spec hs];exact IH_ h k
noncomputable abbrev kG:Option Value:=some (.ref 6)
noncomputable def env:Env:={scope:=pw.main.scope,locals:=mainNs,globals:=mainNs,cells:=[],code:=.ref 13,frame:=some 14}
noncomputable abbrev cd:Code:=.body (behindTheImports pw) env
noncomputable abbrev BF:List Frame:=[topFrame ⟨0,0,0,0⟩]
section
variable (w:World) (T:BT) (os:OsState) (tk:Nat) (p:Pos)
noncomputable abbrev ST(T:BT)(tk:Nat)(os:OsState):SharedT:=⟨T,175,{},#[],{},tk,os⟩
noncomputable abbrev TG(n:Nat)(s:SharedT)(t:Thread):=GQ treeTable pw w 11 kG n s t
variable {α:Type} (K:Int→Sem Fin) (Kb:Bool→Sem Fin) (H:Value→Sem Fin) (gd:Bool→Bool) (lv:List Value→List Value)
noncomputable def xI(b:Bool)(P:Params):Setting:=⟨pw,{P with followText:=λo_=>b}⟩
theorem xJ(x:Array UInt8)(t:Tok)(P:Params):dA (pyHash (.bytes x t)) ⟨pw,P⟩=dA (pyHash (.bytes x t)) (xI (P.followText "special-get-raises") P):=by kernel_rfl
theorem xg(x:Array UInt8)(t:Tok)(P:Params):dA (pyHash (.bytes x t)) (xI false P)=dA (pyHash (.bytes x t)) (xI true P):=by kernel_rfl
theorem yL(x:Array UInt8)(t:Tok)(P:Params):dA (pyHash (.bytes x t)) ⟨pw,P⟩=dA (pyHash (.bytes x t)) (xI true P):=by
 rw[xJ]
 induction P.followText "special-get-raises" using bC with
 |true=>rfl|false=>exact xg x t P
noncomputable def hK(x:Array UInt8)(t:Tok)(P:Params):Result→Sem Int:=zm (dA (pyHash (.bytes x t)) (xI true P))
theorem yr(x:Array UInt8)(t:Tok):TG w 1 (ST T tk os) ⟨(pyHash (.bytes x t)).wrap K H gd lv,cd,p,BF⟩=some (ST T tk os,⟨(dA (pyHash (.bytes x t)) ⟨pw,w.params⟩).wrap K H gd lv,cd,p,BF⟩):=rfl
theorem yP(x:Array UInt8)(t:Tok):TG w 5 (ST T tk os) ⟨(dA (pyHash (.bytes x t)) (xI true w.params)).wrap K H gd lv,cd,p,BF⟩=some (ST T (tk+1) os,⟨(hK x t w.params (.ok (.ret (.int (Qq w.params ⟨x.map (·.toNat)⟩) tk)))).wrap K H gd lv,cd,p,BF⟩):=by kernel_rfl
theorem HL(x:Array UInt8)(t:Tok)(P:Params)(i:Int)(u:Tok):hK x t P (.ok (.ret (.int i u)))=pyHashByItsType.reduced i:=by kernel_rfl
end
noncomputable def AY(x:Array UInt8)(t:Tok)(y:Array UInt8)(u:Tok):Sem Bool:=do truthOfDropped (←richCompare .Eq (.bytes x t) (.bytes y u))
theorem Lo(x:Array UInt8)(t:Tok)(y:Array UInt8)(u:Tok)(hne:(Q4 x t==Q4 y u)=false):eqBool (.bytes x t) (.bytes y u)=AY x t y u:=by delta eqBool;rw[iN (by rw[hne];exact fF)];rfl
section
variable (w:World) (T:BT) (os:OsState) (tk:Nat) (p:Pos) (x:Array UInt8) (t:Tok) (y:Array UInt8) (u:Tok) (P:Params)
theorem Gn:dA (AY x t y u) ⟨pw,P⟩=dA (AY x t y u) (xI (P.followText "special-get-raises") P):=by kernel_rfl
theorem Cb:dA (AY x t y u) (xI false P)=dA (AY x t y u) (xI true P):=by kernel_rfl
theorem EP:dA (AY x t y u) ⟨pw,P⟩=dA (AY x t y u) (xI true P):=by
 rw[Gn]
 induction P.followText "special-get-raises" using bC with
 |true=>rfl|false=>exact Cb x t y u P
noncomputable def eK:Result→Sem Bool:=zm (dA (AY x t y u) (xI true P))
noncomputable def Je(x y:Array UInt8):Bool:=Builtin.Bytes.holds "__eq__" (Builtin.Bytes.order x.toList y.toList)
variable (K:Bool→Sem Fin) (H:Value→Sem Fin) (gd:Bool→Bool) (lv:List Value→List Value)
theorem F7:TG w 1 (ST T tk os) ⟨(AY x t y u).wrap K H gd lv,cd,p,BF⟩=some (ST T tk os,⟨(dA (AY x t y u) ⟨pw,w.params⟩).wrap K H gd lv,cd,p,BF⟩):=rfl
theorem EC:TG w 3 (ST T tk os) ⟨(dA (AY x t y u) (xI true w.params)).wrap K H gd lv,cd,p,BF⟩=some (ST T tk os,⟨(eK x t y u w.params (.ok (.ret (.bool (Je x y))))).wrap K H gd lv,cd,p,BF⟩):=by kernel_rfl
end
theorem xi(j:Int): -(2 ^ 63:Int)≤reduceHash j∧reduceHash j<2 ^ 63∧reduceHash j≠ -1:=by
 delta reduceHash;split
 ·rename_i h;simp only[P9,decide_eq_true_eq] at h;split
  ·decide
  ·rename_i h2;exact ou (h.1) (h.2) (by simpa using h2)
 ·have:(0:Int)≤(j.natAbs:Int) % (2 ^ 61 -1)∧(j.natAbs:Int) % (2 ^ 61 -1)<2 ^ 61 -1:=⟨Int.emod_nonneg _ (by decide),Int.emod_lt_of_pos _ (by decide)⟩;generalize (j.natAbs:Int) % (2 ^ 61 -1)=h at this;simp only;split<;>split
  all_goals first|decide|skip
  all_goals
   rename_i h2;simp only[beq_iff_eq] at h2;refine ou (by omega) (by omega) h2
theorem tT(P:Params)(x:Str):pyHashByItsType.reduced (Qq P x)= .pure (Qq P x):=by
 have h: -(2 ^ 63:Int)≤Qq P x∧Qq P x<2 ^ 63∧Qq P x≠ -1:=by
  delta Qq;split
  ·decide
  ·exact xi _
 generalize Qq P x=i at h;delta pyHashByItsType.reduced;rw[iP (by simp only[P9,decide_eq_true_eq];exact⟨h.1,h.2.1⟩),iN (by simpa using h.2.2)];rfl
section
variable {w:World} {p:Pos}
noncomputable abbrev TR(w:World)(p:Pos)(N:Nat)(S:SharedT)(NM:Sem Fin):Option Shared:=topRun treeTable pw w 11 kG N S.abs ⟨NM,cd,p,BF⟩
noncomputable def DT(w:World)(p:Pos){α:Type}(m:Sem α)(S:SharedT)(a:α)(S':SharedT)(n:Nat):Prop:=
 ∀ (K:α→Sem Fin) (H:Value→Sem Fin) (gd:Bool→Bool) (lv:List Value→List Value) (N:Nat) (r:Shared),TR w p N S' (K a)=some r→TR w p (n+N) S (m.wrap K H gd lv)=some r
variable {α β:Type} {S S1 S2:SharedT} {m m':Sem α} {a:α} {b:β} {f:α→Sem β} {n k:Nat}
theorem DT.pure:DT w p (.pure a:Sem α) S a S 0:=λK H gd lv N r h=>by rw[Rx];exact h
theorem DT.mono(h:DT w p m S a S1 n)(hk:n≤k):DT w p m S a S1 k:=λK H gd lv N r q=>by have:=topRun_mono (k -n) _ _ _ _ (h K H gd lv N r q);rw[show n+N+(k -n)=k+N by exact Qg (aZ [_,_,_,_] (.h 1 (.a ab ae) af (.g (.a (.a ae ag) ab) (.a af ag))) rfl (nE (sC hk))) (aZ [_,_,_,_] (.h 1 ab (.a ae af) (.g (.a ab ag) (.a (.a af ag) ae))) rfl (iW _ _))] at this;exact this
theorem DT.bind(x:DT w p m S a S1 n)(y:DT w p (f a) S1 b S2 k):DT w p (m.bind f) S b S2 (n+k):=λK H gd lv N r h=>by
 have e:(m.bind f).wrap K H gd lv=m.wrap (λa=>(f a).wrap K H gd lv) H gd lv:=by simp only[Sem.bind_eq_wrap,Sem.wrap_wrap];rfl
 simp only[e,U6];exact x _ _ _ _ _ _ (y K H gd lv N r h)
theorem DT.tg(h:∀ (K:α→Sem Fin) H gd lv,TG w n S ⟨m.wrap K H gd lv,cd,p,BF⟩=some (S1,⟨m'.wrap K H gd lv,cd,p,BF⟩))(k':DT w p m' S1 a S2 k):DT w p m S a S2 (n+k):=λK H gd lv N r q=>by rw[U6];exact lB (h K H gd lv) (k' K H gd lv N r q)
theorem DT.rule{t:String}{g:Unit→Sem α}(h:DT w p (g ()) S a S1 n):DT w p (.rule t g) S a S1 (1+n):=DT.tg (λo_ o_ o_ o_=>rfl) h
theorem DT.hash{T:BT}{tk:Nat}(x:Array UInt8)(t:Tok):DT w p (pyHash (.bytes x t)) (ST T tk os) (Qq w.params ⟨x.map (·.toNat)⟩) (ST T (tk+1) os) 6:=by refine DT.tg (k:=5) (λK H gd lv=>yr w T os tk p K H gd lv x t) ?_;rw[yL];refine DT.tg (k:=0) (λK H gd lv=>yP w T os tk p K H gd lv x t) ?_;rw[HL,tT];exact DT.pure
theorem DT.eqb{T:BT}{tk:Nat}(x:Array UInt8)(t:Tok)(y:Array UInt8)(u:Tok)(hne:(Q4 x t==Q4 y u)=false):DT w p (eqBool (.bytes x t) (.bytes y u)) (ST T tk os) (Je x y) (ST T tk os) 4:=by rw[Lo x t y u hne];refine DT.tg (k:=3) (λK H gd lv=>F7 w T os tk p x t y u K H gd lv) ?_;rw[EP];refine DT.tg (k:=0) (λK H gd lv=>EC w T os tk p x t y u K H gd lv) ?_;exact DT.pure
structure At(T:BT)(es:Array DictEntry)(c:Nat):Prop where
 get:T.get 174=some ⟨.type "dict",none,.dict es c,#[]⟩
theorem DT.load{T:BT}{tk:Nat}{c:Nat}(hT:At T es c){g:Obj→Sem α}(h:DT w p (g ⟨.type "dict",none,.dict es c,#[]⟩) (ST T tk os) a S1 n):DT w p (.load 174 part g) (ST T tk os) a S1 (1+n):=by
 refine DT.tg (λK H gd lv=>?_) h;refine(?_:(match stepT _ pw w _ ⟨.load 174 part λo=>(g o).wrap K H gd lv,cd,p,BF⟩ with|some (s',t')=>some _|none=>none)=_)
 have:stepT (denote treeTable) pw w (ST T tk os) ⟨.load 174 part λo=>(g o).wrap K H gd lv,cd,p,BF⟩=some (ST T tk os,⟨(g ⟨.type "dict",none,.dict es c,#[]⟩).wrap K H gd lv,cd,p,BF⟩):=by refine(?_:(match T.get 174 with|some o=>(match alive o with|some o'=>some (ST T tk os,(⟨(g o').wrap K H gd lv,cd,p,BF⟩:Thread))|none=>none)|none=>none)=_);rw[hT.get];rfl
 simp only[this]
theorem DT.update{T:BT}{tk:Nat}{c:Nat}(hT:At T es c){f:Obj→Obj}{g:Unit→Sem α}(h:DT w p (g ()) (ST (T.set 174 f) tk os) a S1 n):DT w p (.update 174 part f g) (ST T tk os) a S1 (1+n):=by
 refine DT.tg (λK H gd lv=>?_) h;refine(?_:(match stepT _ pw w _ ⟨.update 174 part f λo=>(g o).wrap K H gd lv,cd,p,BF⟩ with|some (s',t')=>some _|none=>none)=_)
 have:stepT (denote treeTable) pw w (ST T tk os) ⟨.update 174 part f λo=>(g o).wrap K H gd lv,cd,p,BF⟩=some (ST (T.set 174 f) tk os,⟨(g ()).wrap K H gd lv,cd,p,BF⟩):=by refine(?_:(match T.get 174 with|some o=>(match alive o with|some _=>some (ST (T.set 174 f) tk os,(⟨(g ()).wrap K H gd lv,cd,p,BF⟩:Thread))|none=>none)|none=>none)=_);rw[hT.get];rfl
 rw[this]
theorem DT.epoch{T:BT}{tk:Nat}{c:Nat}(hT:At T es c):DT w p (dictEpoch 174 part) (ST T tk os) c (ST T tk os) 1:=DT.load hT (n:=0) DT.pure
theorem DT.entries{T:BT}{tk:Nat}{c:Nat}(hT:At T es c):DT w p (dictEntries 174 part) (ST T tk os) es (ST T tk os) 1:=DT.load hT (n:=0) DT.pure
end
section
variable {w:World} {p:Pos} {T:BT} {tk:Nat} {os:OsState} {es:Array DictEntry} {c:Nat}
noncomputable def q7(y:Array UInt8)(u:Tok)(e:DictEntry):Prop:=∃x t,e.key= .bytes x t∧(Q4 x t==Q4 y u)=false∧Je x y=false
theorem DT.walk(hT:At T es c){y:Array UInt8}{u:Tok}{h:Int}:∀ (places:List Nat),(∀i∈places,∃e,es[i]?=some e∧(e.hash==h)=true∧q7 y u e)→DT w p (dictWalkPlain 174 (.bytes y u) h es places) (ST T tk os) none (ST T tk os) (8*places.length):=by
 intro L_;induction L_ with
 |nil=>
  intro o_;have e:dictWalkPlain 174 (.bytes y u) h es []= .pure none:=by rfl
  refine e▸?_;exact DT.pure.mono (RN _)
 |cons i is IH_=>
  intro hp;refine cps λX_ k_=>gv (hp i mS) λe h1 h2 z1=>?_;obtain⟨x,t,h3,h4,h5⟩:=z1
  have key:dictWalkPlain 174 (.bytes y u) h es (i::is)=(dictEpoch 174 (keyPart (.bytes y u))).bind λO2=>(eqBool (.bytes x t) (.bytes y u)).bind λsame=>(dictEpoch 174 (keyPart (.bytes y u))).bind λnow=>
   if(now !=O2)=true then unsupported "dict.changed-during-lookup" else if same=true then .rule "dict.find.hit" λo_=>.pure (some i) else .rule "dict.find.same-hash-other-key" λo_=>dictWalkPlain 174 (.bytes y u) h es is:=by
   delta dictWalkPlain;simp only[Re,h1,h2,h3,if_true,bind_assoc];refine cG (Sem.bind _) (funext λb=>cG (Sem.bind _) (funext λs=>cG (Sem.bind _) (funext λn=>?_)));cases (n !=b)<;>induction s using bC<;>rfl
  refine k_ ?_;rw[key];refine DT.mono ?_ (by simp;exact aZ [_] (.g (.a ai (.a (.c 4) (.a ai (.a ai (.m 8 ab))))) (.m 8 (.a ab ai))) rfl);refine DT.bind (DT.epoch hT) (DT.bind (DT.eqb x t y u h4) (DT.bind (DT.epoch hT) ?_));rw[iN (by simp),h5,iN fF];exact DT.rule (IH_ (λj hj=>hp j (mM hj)))
end
section
variable {w:World} {p:Pos} {T:BT} {tk:Nat} {os:OsState} {es:Array DictEntry} {c:Nat}
theorem mD{h:Int}{i:Nat}(hi:i∈placesWithHash es.size (λi=>es[i]?.map (·.hash)) h):∃e,es[i]?=some e∧(e.hash==h)=true:=by refine d7 (Qu.mp hi) λh1 h2=>?_;have h1:=QE.mp h1;simp only[Array.getElem?_eq_getElem h1] at h2⊢;exact a7 _ rfl (h2)
theorem DT.find(hT:At T es c){y:Array UInt8}{u:Tok}{h:Int}(ho:∀e∈es,q7 y u e)(hs:es.size≤12):DT w p (dictFind 174 (.bytes y u) h) (ST T tk os) none (ST T tk os) 100:=by
 have key:∀es:Array DictEntry,(∀e∈es,q7 y u e)→((Q4 y u::(placesWithHash es.size (λi=>es[i]?.map (·.hash)) h).filterMap λi=>es[i]?.map (·.key)).all carriedByValue)=true:=by intro es ho;simp only[Rs,SN,P9];refine⟨rfl,λv hv=>?_⟩;refine aQ (Rw.mp hv) λi hi hv=>aQ (mD hi) λe he _=>?_;rw[he] at hv;obtain⟨x,t,hk,_⟩:=ho e (Ud he);injection hv with hv;subst hv;refine(?_:carriedByValue e.key=_);refine hk▸?_;rfl
 have hbody:∃E:Array DictEntry→Sem (Option Nat),dictFind 174 (.bytes y u) h=(dictEntries 174 (keyPart (.bytes y u))).bind λes=>
  if((Q4 y u::(placesWithHash es.size (λi=>es[i]?.map (·.hash)) h).filterMap λi=>es[i]?.map (·.key)).all carriedByValue)=true then dictWalkPlain 174 (.bytes y u) h es (placesWithHash es.size (λi=>es[i]?.map (·.hash)) h) else E es:=by
  exact⟨_,rfl⟩
 obtain⟨E,hbody⟩:=hbody;refine hbody▸?_;refine DT.mono (n:=1+8*(placesWithHash es.size (λi=>es[i]?.map (·.hash)) h).length) (DT.bind (DT.entries hT) ?_) ?_
 ·refine(iP (key es ho))▸?_;exact DT.walk hT _ λi hi=>aQ (mD hi) λe he hh=>sx e he hh (ho e (Ud he))
 ·have:(placesWithHash es.size (λi=>es[i]?.map (·.hash)) h).length≤es.size:=by
   exact nT (RD _ _) (by refine SD▸?_;exact nR)
  exact aZ [_,_] (.h 8 ab ae (.h 8 ae (.c 12) (.g (.a ai (.m 8 ab)) (.c 100)))) rfl this hs
theorem At.set{f:Array DictEntry→Array DictEntry}(hT:At T es c):At (T.set 174 (Obj.mapDictKeys f)) (f es) (c+1):=⟨by rw[BT.get_set,iP rfl,hT.get];rfl⟩
theorem DT.keys(hT:At T es c){f:Array DictEntry→Array DictEntry}(hs:(f es).size≤12):DT w p (updateDictKeys 174 f part) (ST T tk os) () (ST (T.set 174 (Obj.mapDictKeys f)) tk os) 3:=by
 refine DT.load hT (n:=2) ?_;refine DT.update hT (n:=1) ?_;refine DT.load hT.set (n:=0) ?_
 have:(Data.dict (f es) (c+1)).pastItsLine=none:=by exact(iN (by delta sizeLine;exact QQ.mpr (cj hs rfl)))
 simp only[Sem.bind,this];exact DT.pure
theorem DT.set1(hT:At T es c){y:Array UInt8}{u:Tok}{v:Value}(hv:holding [.bytes y u,v]=(id:Sem Unit→Sem Unit))(ho:∀e∈es,q7 y u e)(hs:es.size≤11):
 DT w p (dictSet 174 (.bytes y u) v) (ST T tk os) () (ST (T.set 174 (Obj.mapDictKeys (·.push ⟨Qq w.params ⟨y.map (·.toNat)⟩,.bytes y u,v⟩))) (tk+1) os) 110:=by
 have e:dictSet 174 (.bytes y u) v=(pyHash (.bytes y u)).bind λh=>(dictFind 174 (.bytes y u) h).bind λr=>match r with
  |some i=>(PySem.rule "dict.set.replace-value-keep-key").bind λo_=>(updateDict 174 (·.modify i λe=>{e with val:=v}) (keyPart (.bytes y u))).bind λo_=>point|none=>.rule "dict.set.new-key-at-the-end" λo_=>updateDictKeys 174 (·.push ⟨h,.bytes y u,v⟩) (keyPart (.bytes y u)):=by
  delta dictSet dictSetHashed;rw[hv];rfl
 rw[e];refine DT.mono (n:=6+(100+(1+3))) (DT.bind (DT.hash y u) (DT.bind (DT.find hT ho (Qo (by assumption))) ?_)) (by decide);exact DT.rule (DT.keys hT (by rw[UJ];exact Rf (by assumption)))
end
noncomputable def Lw(P:Params):BT:=I0 P 174 Lh (IR P "dulwich.wildmatch" 420 21) 9
noncomputable def Kv(w:World)(os:OsState):SharedT:=⟨Lw w.params,174,{},#[],{},424,os⟩
noncomputable def Mi(P:Params):BT:=I0 P 175 Lh (IR P "dulwich.wildmatch" 420 22) 9
noncomputable def J0(w:World)(os:OsState):SharedT:=⟨Mi w.params,175,{},#[],{},461,os⟩
noncomputable def yD:Stmt:=cE 15
noncomputable def VS:List (Value×Value):=[(.bytes #[97,108,110,117,109] 424,.bytes #[48,45,57,65,45,90,97,45,122] 425),(.bytes #[97,108,112,104,97] 426,.bytes #[65,45,90,97,45,122] 427),(.bytes #[98,108,97,110,107] 428,.bytes #[92,116,32] 429),(.bytes #[99,110,116,114,108] 430,.bytes #[92,120,48,48,45,92,120,49,102,92,120,55,102] 431),(.bytes #[100,105,103,105,116] 432,.bytes #[48,45,57] 433),(.bytes #[103,114,97,112,104] 434,.bytes #[33,45,46,48,45,126] 435),(.bytes #[108,111,119,101,114] 436,.bytes #[97,45,122] 437),(.bytes #[112,114,105,110,116] 438,.bytes #[32,45,46,48,45,126] 439),(.bytes #[112,117,110,99,116] 440,.bytes #[33,45,46,58,45,64,92,91,45,96,123,45,126] 441),(.bytes #[115,112,97,99,101] 442,.bytes #[92,116,92,110,92,114,32] 443),(.bytes #[117,112,112,101,114] 444,.bytes #[65,45,90] 445),(.bytes #[120,100,105,103,105,116] 446,.bytes #[48,45,57,65,45,70,97,45,102] 447)]
noncomputable abbrev KI:Pos:=⟨136,0,136,6⟩
noncomputable abbrev KL:Pos:=⟨137,0,137,14⟩
noncomputable def u5:Expr:=match yD with|.Assign _ v _=>v|_=>.Constant .none 0 ⟨0,0,0,0⟩
noncomputable def D5:List Expr:=match yD with|.Assign t _ _=>t|_=>[]
noncomputable def Lj:List (Option Expr):=match u5 with|.Dict k _ _=>k|_=>[]
noncomputable def J3:List Expr:=match u5 with|.Dict _ v _=>v|_=>[]
noncomputable def AN:Pos:=match u5 with|.Dict _ _ p=>p|_=>⟨0,0,0,0⟩
noncomputable def Hk:List (Option (Sem Value)×Sem Value):=(evalEachOpt Lj env).zip ((evalEach J3 env).map λv=>do let x ←v;standAt AN;pure x)
noncomputable def oP:List (Sem Value×Sem Value):=Hk.filterMap λx=>x.1.map λk=>(k,x.2)
noncomputable def K5(v:Value):Sem Flow:=do assignStores env v (←swappedStores D5 u5 env) ((assignEach D5 env).map (·.2))
noncomputable def LO(d:Addr)(vs:List (Value×Value)):Sem Unit:=holding (vs.flatMap λ(k,v)=>[k,v]) do
 for (k,v) in vs do dictSet d k v
noncomputable def wf:Value→Option (Array UInt8×Tok)
 |.bytes y u=>some (y,u)|_=>none
theorem vq{v:Value}{y}(h:wf v=some y):v= .bytes y.1 y.2:=by induction v using PySem.Value.casesOn<;>first|(exact(sJ h)▸rfl)|exact absurd h (nofun)
noncomputable def ub:List (Array UInt8×Tok)→List (Value×Value)→Bool
 |_,[]=>true|seen,x::l=>(wf x.1).elim false λy=>(wf x.2).isSome&&(seen.all (λx=> !(Q4 x.1 x.2==Q4 y.1 y.2)&& !(Je x.1 y.1))&&ub (y::seen) l)
noncomputable def Hn(P:Params):Value→Int
 |.bytes y _=>Qq P ⟨y.map (·.toNat)⟩|_=>0
noncomputable def Tn(P:Params):BT→List (Value×Value)→BT
 |T,[]=>T|T,(k,v)::l=>Tn P (T.set 174 (Obj.mapDictKeys (·.push ⟨Hn P k,k,v⟩))) l
section
variable {w:World} {p:Pos} {os:OsState}
theorem DT.to{m m':Sem PUnit}{S S':SharedT}{n n':Nat}(e:m=m')(h:DT w p m' S Q7 S' n)(hn:n=n'):DT w p m S Q7 S' n':=by subst e hn;exact h
theorem DT.loop(l:List (Value×Value)):∀ (seen:List (Array UInt8×Tok)) (es:Array DictEntry) (c:Nat) (T:BT) (tk:Nat),At T es c→(∀e∈es,∃x∈seen,e.key= .bytes x.1 x.2)→es.size+l.length≤12→ub seen l=true→
 DT w p (forIn l Q7 λx o_=>(dictSet 174 x.1 x.2).bind λo_=>.pure (Q1 Q7)) (ST T tk os) Q7 (ST (Tn w.params T l) (tk+l.length) os) (110*l.length):=by
 induction l with
 |nil=>intro seen es c T tk hT hk hs ho;simp only[TU];exact DT.pure
 |cons x l ih=>
  intro seen es c T tk hT hk hs ho;obtain⟨k,v⟩:=x;have ho:((wf k).elim false λy=>(wf v).isSome&&_)=_:=ho
  induction h1:wf k using oA with
  |none=>rw[h1] at ho;exact nomatch ho
  |some y=>
  refine cps λX_ k_=>?_;rw[h1] at ho;obtain⟨y,u⟩:=y;obtain⟨hv,ho⟩:=aA ho;obtain⟨ho,ho2⟩:=aA ho;obtain⟨z,hz⟩:=Qz.mp hv;refine k_ ?_;refine(vq h1)▸?_;refine(vq hz)▸?_
  have h1:∀e∈es,q7 y u e:=λe he=>by exact aQ (hk e he) λx hx hkey=>⟨x.1,x.2,hkey,(R5 _).mp (aA (lA ho x hx)).1,(R5 _).mp (aA (lA ho x hx)).2⟩
  have ih:=ih ((y,u)::seen) _ (c+1) _ (tk+1) (hT.set (f:=(·.push ⟨Qq w.params ⟨y.map (·.toNat)⟩,.bytes y u,.bytes z.1 z.2⟩))) (λe he=>by
   rcases Array.mem_push.mp he with h|h
   ·refine aQ (hk e h) λx hx e1=>?_;exact a7 x (mM hx) e1
   ·rw[h];exact⟨(y,u),mS,rfl⟩) (by rw[UJ];exact aZ [_,_] (.h 1 (.a ab (.a ae ai)) (.c 12) (.g (.a (.a ab ai) ae) (.c 12))) rfl hs) ho2
  rw[Re];refine DT.to (m':=(dictSet 174 (.bytes y u) (.bytes z.1 z.2)).bind λo_=>forIn l Q7 λx o_=>(dictSet 174 x.1 x.2).bind λo_=>Sem.pure (Q1 Q7)) ?_ (DT.bind (DT.set1 hT rfl h1 (aZ [_,_] (.h 1 (.a ab (.a ae ai)) (.c 12) (.g ab (.c 11))) rfl hs)) ?_) (n:=110+(0+110*l.length)) ?_
  ·refine(?_:Sem.bind _ _=_);rw[Sem.bind_assoc];rfl
  ·refine(?_:DT w p _ _ Q7 (ST _ (tk+(l.length+1)) os) _);simp only[show tk+(l.length+1)=tk+1+l.length by exact Qg (aZ [_,_] (.g (.a ab (.a ae ai)) (.a (.a ab ai) ae)) rfl) (aZ [_,_] (.g (.a (.a ab ai) ae) (.a ab (.a ae ai))) rfl),Rx];exact ih
  ·refine(?_:_=_);exact Qg (aZ [_] (.g (.a (.c 110) (.a aj (.m 110 ab))) (.m 110 (.a ab ai))) rfl) (aZ [_] (.g (.m 110 (.a ab ai)) (.a (.c 110) (.a aj (.m 110 ab)))) rfl)
end
theorem Fg:ub [] VS=true:=by kernel_rfl
section
variable (w:World) (os:OsState) (T:BT)
theorem yU(K:List (Value×Value)→Sem Fin)(H:Value→Sem Fin)(gd:Bool→Bool)(lv:List Value→List Value):TG w 36 (ST T 424 os) ⟨(evalPairs oP).wrap K H gd lv,cd,AN,BF⟩=some (ST T 448 os,⟨K VS,cd,AN,BF⟩):=by kernel_rfl
end
noncomputable def D0:Obj:={cls:=.type "dict",data:=.dict #[]}
noncomputable def T0(P:Params):BT:=(Lw P).ins 174 D0
section
variable (w:World) (os:OsState) (K:Flow→Sem Fin) (H:Value→Sem Fin) (gd:Bool→Bool) (lv:List Value→List Value)
noncomputable def JN:Sem Flow:=(((((((evalPairs oP).bind λvs=>LO 174 vs).keep [.ref 174]).bind λo_=>(.pure 174:Sem Addr)).bind λd=>(.pure (some d):Sem (Option Addr))).bind λo=>match o with|some d=>(.pure (.ref d):Sem Value)|none=>newDict).bind K5)
theorem Cj:TG w 3 (Kv w os) ⟨(exec yD env).wrap K H gd lv,cd,KI,BF⟩=some (ST (T0 w.params) 424 os,⟨JN.wrap K H gd lv,cd,AN,BF⟩):=rfl
theorem Ib:TG w 7 (ST (Tn w.params (T0 w.params) VS) 460 os) ⟨(K5 (.ref 174)).wrap K H gd lv,cd,AN,BF⟩=some (J0 w os,⟨K .next,cd,KL,BF⟩):=by kernel_rfl
theorem zt:JN.wrap K H gd lv=(evalPairs oP).wrap (λvs=>(LO 174 vs).wrap (λo_=>(K5 (.ref 174)).wrap K H gd lv) H gd λl=>lv ([.ref 174]++l)) H gd λl=>lv ([.ref 174]++l):=by delta JN;simp only[Sem.bind_eq_wrap,Sem.keep_eq_wrap,Sem.wrap_wrap];rfl
theorem ME:At (T0 w.params) #[] 0:=⟨by kernel_rfl⟩
theorem Dk{N:Nat}{r:Shared}(h:topRun treeTable pw w 11 kG N (J0 w os).abs ⟨K .next,cd,KL,BF⟩=some r):
 topRun treeTable pw w 11 kG (3+(36+(1320+(7+N)))) (Kv w os).abs ⟨(exec yD env).wrap K H gd lv,cd,KI,BF⟩=some r:=by
 refine lB (Cj w os K H gd lv) ?_;rw[zt];refine lB (yU w os (T0 w.params) _ H gd _) ?_;exact(DT.bind (DT.loop VS [] #[] 0 (T0 w.params) 448 (ME w) (λe he=>by simp at he) (by decide) Fg) DT.pure) _ H gd _ (7+N) r (lB (Ib w os K H gd lv) h)
end
end Internal.H
namespace Internal.H
open PySem PySem.W
noncomputable def TA(P:Params):BT:=I0 P 15 Lh (IR P "__main__" 164 8) 0
noncomputable def SA(w:World)(os:OsState):SharedT:=⟨TA w.params,15,{},#[],{},187,os⟩
noncomputable def TZ(P:Params):BT:=I0 P 499 (L8 P) (IR P "law_ai0011_01" 854 54) 40
noncomputable def SZ(w:World)(os:OsState):SharedT:=⟨TZ w.params,499,{},#[],{},947,os⟩
theorem pA(w:World)(os:OsState):segRunT treeTable pw w 11 kG 1 1438 (SA w os) (piecesOf (pw.main.body.take 15) env cd ⟨0,0,0,0⟩ [topFrame ⟨0,0,0,0⟩])=some (.next,Kv w os,cd,KI):=by refine PySem.W.Fast.te10110043849684766642▸?_;refine PySem.W.Fast.te14364793385576792824▸?_;kernel_rfl
noncomputable def TY(P:Params):BT:=I0 P 350 (L8 P) (IR P "dulwich.ignore" 584 41) 27
noncomputable def SY(w:World)(os:OsState):SharedT:=⟨TY w.params,350,{},#[],{},738,os⟩
theorem pY(w:World)(os:OsState):segRunT treeTable pw w 11 kG 1 1126 (J0 w os) (piecesOf ((pw.main.body.drop 16).take 21) env cd KL [topFrame ⟨0,0,0,0⟩])=some (.next,SY w os,cd,⟨390,0,398,16⟩):=by refine PySem.W.Fast.te10110043849684766642▸?_;refine PySem.W.Fast.te14364793385576792824▸?_;kernel_rfl
theorem pZ(w:World)(os:OsState):segRunT treeTable pw w 11 kG 1 1033 (SY w os) (piecesOf (pw.main.body.drop 37) env cd ⟨390,0,398,16⟩ [topFrame ⟨0,0,0,0⟩])=some (.next,SZ w os,cd,⟨507,0,544,94⟩):=by refine PySem.W.Fast.te10110043849684766642▸?_;refine PySem.W.Fast.te14364793385576792824▸?_;kernel_rfl
end Internal.H
namespace Internal.H
open PySem PySem.W PySem.Calls PyProof.Rows
noncomputable def TB(P:Params):BT:=(.node (boot_o_0 P) (.node (boot_o_1 P) (.node (boot_o_3 P) (.node (boot_o_7 P) .nil .nil) .nil) (.node (boot_o_5 P) (.node (boot_o_9 P) .nil .nil) .nil)) (.node (boot_o_2 P) (.node (boot_o_4 P) (.node (boot_o_8 P) .nil .nil) .nil) (.node (boot_o_6 P) (.node (boot_o_10 P) .nil .nil) .nil)))
noncomputable def SB(w:World)(os:OsState):SharedT:=⟨TB w.params,11,{},#[],{},181,os⟩
section
variable (w:World) (os:OsState)
theorem JF:GQ treeTable pw w 11 kG 12 (SB w os) (topStub pw)=some (SA w os,⟨denote treeTable (.body (behindTheImports pw) env),cd,⟨0,0,0,0⟩,BF⟩):=rfl
theorem Ks:segRunT treeTable pw w 11 kG 1 1 (SA w os) (blockOf (behindTheImports pw) env cd ⟨0,0,0,0⟩ BF)=some (.next,SA w os,cd,⟨0,0,0,0⟩):=rfl
theorem tY:behindTheImports pw=pw.main.body.take 15++(yD::pw.main.body.drop 16):=by kernel_rfl
theorem zq:(pw.main.body.drop 16).take 21++(pw.main.body.drop 37++[])=pw.main.body.drop 16:=by kernel_rfl
theorem run:topRun treeTable pw w 11 kG (12+(1+(1438+((3+(36+(1320+(7+(1126+(1033+20)))))))))) (SB w os).abs (topStub pw)=some (SZ w os).abs:=by refine lB (JF w os) (piece_block (segRun_of (Ks w os)) ?_);refine tY▸?_;refine piece_app (segRun_of (pA w os)) ?_;delta restOf;rw[execs_cons_wrap];refine Dk w os _ _ _ _ ?_;refine zq▸?_;refine piece_app (segRun_of (pY w os)) ?_;exact piece_app (segRun_of (pZ w os)) (piece_nil (by kernel_rfl))
end
theorem HA:∀w:World,(fencedOpening treeTable pw w 6000).map (λs=>(s.heap,s.gens,s.drawn,s.toks))=some (boot_heap w.params,#[],{},181):=boot_open (by kernel_rfl) (by decide) (λs=>rfl)
theorem HR:∀w:World,((boot_heap w.params).isNs mainGlobals&&(#[]:Array GenState).size==0,(boot_heap w.params).objs.size,(boot_heap w.params).nsMap mainGlobals "__annotations__")=(true,11,kG):=λw=>by kernel_rfl
noncomputable def qv:Program:={pw with main:={pw.main with body:=[cE 50]}}
noncomputable def tZ:List Str:=pw.boundNames.filter λx=>x !=("law":Str)
noncomputable def HZ(P:Params):Heap:=absHeap (TZ P) 499 {}
theorem Iv(w:World):(λos=>((staticsOk (importedModules pw.main.body) (boot_heap w.params) (HZ w.params)&&namesBound pw (HZ w.params)&&gensDone ⟨HZ w.params,#[],{},947,os⟩&&laidKept (boot_heap w.params) (HZ w.params)),
 openSeen qv tZ (importedModules pw.main.body) (λo_=>true) true ⟨HZ w.params,#[],{},947,os⟩,(⟨HZ w.params,#[],{},947,os⟩:Shared).heap))=λo_=>(true,openGood qv tZ,HZ w.params):=by kernel_rfl
theorem left:LeftO pw qv tZ (λo_=>true) (λs=>s.heap) (λw=>HZ w.params) 6000:=
 LeftO.of_pieces (H₁:=HZ) (gs₁:=#[]) HA HR run (by decide) Iv
end Internal.H
namespace Internal
open PySem PySem.W
noncomputable def L0:List Nat:=[2,3,11,13,15,17,18,20,21,22,24,25,27,29,31,32,34,35,36,37,38,39,40,43,44,45,47,48,50,52,54,55,57,58,59,60,61,62,63,66,67,68,70,71,73,74,75,77,78,80,81,82,84,85,87,88,89,91,92,94,95,96,98,99,101,103,105,106,108,109,110,112,113,115,116,117,120,121,122,124,125,127,128,129,131,132,134,135,136,137,138,139,140,143,145,146,148,150,152,153,155,156,157,158,160,161,163,164,165,166,167,168,169,172,173,174,175,177,178,180,182,183,184,185,188,190,191,193,194,195,197,198,200,201,202,204,205,207,208,209,211,212,214,215,216,218,219,221,222,223,225,226,228,229,230,232,233,235,236,237,239,240,242,243,244,246,247,249,250,251,253,254,256,257,258,260,261,263,264,265,267,268,270,272,273,275,276,278,279,280,282,283,285,286,287,289,290,292,293,294,296,297,299,300,301,303,304,306,307,308,309,310,311,312,315,317,318,320,321,322,324,325,327,328,329,331,332,334,335,336,338,339,341,342,343,345,346,348,349,350,352,353,355,357,358,360,361,363,364,365,367,368,370,371,372,374,375,377,378,379,381,382,384,385,386,387,389,390,392,393,394,396,397,399,400,401,402,403,404,405,408,410,411,413,415,417,418,420,421,422,424,425,427,428,429,430,431,432,433,436,438,439,441,442,443,445,446,448,449,450,453,454,455,458,459,460,463,464,465,468,469,470,473,474,475,477,478,480,481,482,485,486,487,489,490,492,493,494,497,498]
noncomputable def KF(P:Params):Frag:=L0.map λa=>(a,((H.TZ P).get a).getD default)
end Internal
namespace Internal
section
variable {α:Type} [BEq α] [LawfulBEq α]
theorem xr(b c:List α):(if((b.length:Nat):Int)<((c.length:Nat):Int) then false else(b.toArray.extract 0 c.length==c.toArray))=c.isPrefixOf b:=by
 rw[Rn,List.isPrefixOf_iff_prefix,Ua];split
 ·rename_i Na;simp only[Sw,false_iff];intro h2;have:=cG Rc h2;simp only[Ql] at this;lia
 ·simp only[Si,beq_iff_eq,Uv];exact⟨λh=>h.symm,λh=>h.symm⟩
theorem CM(b c:List α):(if((b.length:Nat):Int)<((c.length:Nat):Int) then false else(b.toArray.extract (b.length -c.length) b.length==c.toArray))=c.isSuffixOf b:=by
 rw[Rn,TV,Ub];split
 ·rename_i Na;simp only[Sw,false_iff];intro h2;have:=cG Rc h2;simp only[Rj] at this;omega
 ·rw[Si,beq_iff_eq,Uv,Sy,Qn (by simp only[Rj];exact nR)];exact⟨λh=>h.symm,λh=>h.symm⟩
theorem qZ(c:List α):c.toArray.contains=λx=>c.contains x:=by funext x;simp
end
end Internal
namespace Internal
open PySem.Builtin.Bytes (occurrences between occurrencesFromRight joined)
noncomputable def jr(c:UInt8):List UInt8→Nat→List Nat
 |[],_=>[]|x::r,n=>if x==c then n::jr c r (n+1) else jr c r (n+1)
theorem uR{c:UInt8}{n:Nat}:jr c [] n=[]:=rfl
theorem oQ{c x:UInt8}{r:Ab}{n:Nat}:jr c (x::r) n=if x==c then n::jr c r (n+1) else jr c r (n+1):=rfl
theorem Cy(l:Ab)(pre r:Ab)(x c:UInt8)(e:l=pre++x::r):(l.toArray.extract pre.length (pre.length+1)== #[c])=(x==c):=by subst e;simp
theorem zA(l:Ab)(c:UInt8)(f:List Nat×Nat→Nat→List Nat×Nat)(hf:∀MQ i,f MQ i=if i≥MQ.2&&l.toArray.extract i (i+1)== #[c] then(i::MQ.1,i+1) else MQ):
 ∀ (r pre:Ab) (MQ:List Nat) (m:Nat),l=pre++r→m≤pre.length→((SF pre.length r.length).foldl f (MQ,m)).1=(jr c r pre.length).reverse++MQ:=by
 intro L_;induction L_ with
 |nil=>intro pre MQ m e hm;simp[uR]
 |cons x r IH_=>
  intro pre MQ m e hm;simp only[QK,RQ,Q5,hf,Cy l pre r x c e];have hd:decide (pre.length≥m)=true:=by simpa using hm
  have ih:=IH_ (pre++[x]);rw[Qa,RF] at ih;simp only[oQ,hd,RW];split
  ·rw[ih _ _ (by rw[e];simp) (by simp)];simp
  ·exact(ih _ _ (by rw[e];simp) (Qo (by assumption)))
theorem FX(l:Ab)(c:UInt8):occurrences l.toArray #[c] 0 l.length=jr c l 0:=by
 delta occurrences;have:=zA l c (λMQ i=>if i≥MQ.2&&l.toArray.extract i (i+1)== #[c] then(i::MQ.1,i+1) else MQ) (λo_ o_=>rfl) l [] [] 0 rfl nR;simp only[UP,Qj] at this
 have e:(Qb (l.length+1 -(0+ #[c].size))).map (· +0)=SF 0 l.length:=by simp only[List.range_eq_range'];simp
 simp only[e];have t2:(Vj (λMQ i=>if i≥MQ.2&&l.toArray.extract i (i+1)== #[c] then(i::MQ.1,i+1) else MQ) ([],0) (SF 0 l.length)).1.reverse=jr c l 0:=by simp only[this,QV]
 exact t2
noncomputable def bt(l:List UInt8)(last:Nat):List Nat→List (List UInt8)
 |[]=>[l.drop last]|p::ps=>(l.take p).drop last::bt l (p+1) ps
theorem Gw{l:Ab}{last:Nat}:bt l last []=[l.drop last]:=rfl
theorem Ez{l:Ab}{last p:Nat}{ps:List Nat}:bt l last (p::ps)=(l.take p).drop last::bt l (p+1) ps:=rfl
theorem iY(l:Ab):∀ (ps:List Nat) (parts:Array (Array UInt8)) (last:Nat),
 (let r:=ps.foldl (λ(q:Array (Array UInt8)×Nat) p=>(q.1.push (l.toArray.extract q.2 p),p+1)) (parts,last)
  (r.1.push (l.toArray.extract r.2 l.toArray.size)).toList)=parts.toList++(bt l last ps).map Q8
 |[],parts,last=>by simp only[List.foldl_nil,Gw,Qf,R6,Array.toList_push];rw[Si,P7,Sy,Qn (by simp)]|p::ps,parts,last=>by simp only[Q5,iY l ps _ _];simp only[Ez,Qf,Si,Sy,TW];simp
theorem mn(l:Ab)(ps:List Nat):between l.toArray 1 ps=(bt l 0 ps).map Q8:=by have:=iY l ps #[] 0;simpa[between] using this
theorem yG(c:UInt8):∀ (r Np NM l:Ab),l=Np++NM++r→bt l Np.length (jr c r (Np.length+NM.length))=match aL c r with
 |h::t=>(NM++h)::t|[]=>[NM]:=by
 intro L_;induction L_ with
 |nil=>intro Np NM l e;subst e;simp[uR,Gw,fH]
 |cons x r IH_=>
  intro Np NM l e;simp only[oQ,dW];split
  ·rename_i hx;have ih:=IH_ (Np++NM++[x]) [] l (by rw[e];simp);simp only[Qa,RF,UP,Vb] at ih;simp only[Ez,ih]
   have h1:(l.take (Np.length+NM.length)).drop Np.length=NM:=by simp only[e,show Np.length+NM.length=(Np++NM).length by simp,List.take_left,RJ]
   rw[h1]
   induction hs:aL c r using lC with
   |nil=>
    exfalso
    induction r using lC with
    |nil=>simp[fH] at hs|cons y r'=>simp only[dW] at hs;split at hs<;>(try cases hs)<;>(split at hs<;>cases hs)
   |cons h t=>simp
  ·rename_i hx;have ih:=IH_ Np (NM++[x]) l (by rw[e];simp);simp only[Qa,RF] at ih;simp only[show Np.length+NM.length+1=Np.length+(NM.length+1) by rfl,ih]
   induction hs:aL c r using lC with
   |nil=>simp|cons h t=>simp
theorem xB(c:UInt8):∀l:Ab,aL c l≠[]:=by
 intro L_;induction L_ with
 |nil=>simp[fH]
 |cons x r IH_=>
  simp only[dW];split
  ·simp
  ·split<;>simp
theorem sq(l:Ab)(c:UInt8):between l.toArray 1 (jr c l 0)=(aL c l).map Q8:=by
 rw[mn];have:=yG c l [] [] l rfl;refine this▸?_
 induction hs:aL c l using lC with
 |nil=>exact absurd hs (xB c l)|cons h t=>rfl
theorem De(c:UInt8):∀ (r:Ab) (n:Nat),(jr c r n).length≤r.length:=by
 intro L_;induction L_ with
 |nil=>intro o_;simp[uR]|cons x r IH_=>intro n;have:=IH_ (n+1);simp only[oQ];split<;>simp only[QK]<;>lia
theorem zu(c:UInt8):∀ (r:Ab) (n:Nat),jr c r n=[]→aL c r=[r]:=by
 intro L_;induction L_ with
 |nil=>intro o_ o_;simp[fH]
 |cons x r IH_=>
  intro n h;simp only[oQ] at h;split at h
  ·cases h
  ·rename_i hx;simp only[dW];rw[iN hx,IH_ (n+1) h]
theorem sY(l:Ab)(c:UInt8)(f:List Nat×Nat→Nat→List Nat×Nat)(hf:∀MQ i,f MQ i=if MQ.1.length<1&&i+1≤MQ.2&&l.toArray.extract i (i+1)== #[c] then(i::MQ.1,i) else MQ):
 ∀ (is:List Nat) (a:Nat) (m:Nat),is.foldl f ([a],m)=([a],m):=by
 intro L_;induction L_ with
 |nil=>intro o_ o_;exact rfl|cons i is IH_=>intro a m;rw[Q5,hf];exact IH_ a m
theorem lT(l:Ab)(c:UInt8)(f:List Nat×Nat→Nat→List Nat×Nat)(hf:∀MQ i,f MQ i=if MQ.1.length<1&&i+1≤MQ.2&&l.toArray.extract i (i+1)== #[c] then(i::MQ.1,i) else MQ):
 ∀ (n:Nat),n≤l.length→((Qb n).reverse.foldl f ([],l.length)).1=
   (let tl:=((l.take n).reverse.takeWhile λx=> !(x==c));if(l.take n).contains c then[n -tl.length -1] else[])
 |0,_=>rfl
 |n+1,hn=>by
  simp only[Sn,Qp,S4,Sc,Q5,hf];have Na:n<l.length:=by assumption
  have htk:l.take (n+1)=l.take n++[l[n]]:=by simp only[SG,Qs Na];rfl
  have hx:=Cy l (l.take n) (l.drop (n+1)) l[n] c (by simp only[←QO Na,Sd]);rw[Ql,QT (Qx (by assumption):n≤l.length)] at hx;refine hx▸?_;refine htk▸?_;simp only[(show decide (([]:List Nat).length<1)=true from rfl),(decide_eq_true hn),RW]
  by_cases q:(l[n]==c)=true
  ·rw[iP q,sY l c f hf];have:(l.take n++[l[n]]).contains c=true:=by simp[bA q]
   simp only[Qp,S4,Sc,Us,q,Bool.not_true,this,if_true];simp
  ·rw[iN q,lT l c f hf n (Qx (by assumption))];have q':(l[n]==c)=false:=by simpa using q
   have hc:(l.take n++[l[n]]).contains c=(l.take n).contains c:=by
    simp only[T8,TK]
    have:(c==l[n])=false:=by
     have:l[n]≠c:=λe=>by rw[e] at q;simp at q
     simpa using λe=>this e.symm
    simp[this]
   simp only[Qp,S4,Sc,Us,q',UU,if_true,hc,QK];split
   ·simp only[show n+1 -(Rc (UV (λx=> !x==c) (Uc n l).reverse)+1) -1=n -Rc (UV (λx=> !x==c) (Uc n l).reverse) -1 by lia]
   ·rfl
theorem AI(l:Ab)(c:UInt8):occurrencesFromRight l.toArray #[c] 1=
 if l.contains c then[l.length -(l.reverse.takeWhile λx=> !(x==c)).length -1] else[]:=by
 have t:=lT l c (λMQ i=>if MQ.1.length<1&&i+1≤MQ.2&&l.toArray.extract i (i+1)== #[c] then(i::MQ.1,i) else MQ) (λo_ o_=>rfl) l.length nR;rw[QG] at t;exact t
theorem qA(l:Ab)(c:UInt8)(h:l.contains c=false):dL c l=none:=by delta dL;refine h▸?_;rfl
theorem rT(l:Ab)(c:UInt8)(h:l.contains c=true):
 ∃x y,dL c l=some (x,y)∧between l.toArray 1 [l.length -(l.reverse.takeWhile λx=> !(x==c)).length -1]=[x.toArray,y.toArray]:=by
 refine oD _ _ ((iP h)) ?_;simp only[mn,Gw,Ez,R7,Qf,R6,QH]
 have hle:(l.reverse.takeWhile λx=> !(x==c)).length+1≤l.length:=by
  have h1:=TE (p:=λx=> !(x==c)) (l:=l.reverse)
  induction hd:l.reverse.dropWhile λx=> !(x==c) using lC with
  |nil=>
   exfalso
   rw[hd,Qj] at h1;have hm:c∈l.reverse:=by simpa using h
   rw[←h1] at hm;have:=lA (List.all_takeWhile) c hm;simp at this
  |cons z zs=>have:=cG Rc h1;rw[hd] at this;simp only[Qa,QH] at this;exact aZ [_,_,_] (.h 1 (.a ab (.a ae ai)) af (.g (.a ab ai) af)) rfl (nE this)
 have h2:l.drop (l.length -(l.reverse.takeWhile λx=> !(x==c)).length -1+1)=(l.reverse.takeWhile λx=> !(x==c)).reverse:=by
  rw[show l.length -(l.reverse.takeWhile λx=> !(x==c)).length -1+1=l.length -(l.reverse.takeWhile λx=> !(x==c)).length by exact Qg (nE (sC (aZ [_,_,_] (.h 1 (.a ab ai) ae (.h 1 ae (.a af ab) (.g ai af))) rfl hle (iW _ _)))) (iW _ _)]
  have h3:(l.reverse.takeWhile λx=> !(x==c))=l.reverse.take (l.reverse.takeWhile λx=> !(x==c)).length:=by have:=List.takeWhile_prefix (l:=l.reverse) λx=> !(x==c);exact(Ua.mp this)
  conv=>rhs;rw[h3,List.take_reverse,QV]
 rw[h2]
theorem xd(c:Ab)(ps:List Ab):joined c.toArray (ps.map Q8)=(aB c ps).toArray:=by
 have gen:∀ (ps:List Ab) (k:Nat) (out:Ab),0<k→
  ((ps.map Q8).zipIdx k).foldl (λout (p:Array UInt8×Nat)=>(if p.2>0 then out++c.toArray else out)++p.1) out.toArray=(out++(ps.map λp=>c++p).flatten).toArray:=by
  intro ps
  induction ps with
  |nil=>intro k out o_;simp|cons p ps ih=>intro k out hk;simp only[Qf,List.zipIdx_cons,Q5,iP hk,ih (k+1) _ (Ra _)];simp
 have jn:∀ (p:Ab) (ps:List _),aB c (p::ps)=p++(ps.map λp=>c++p).flatten:=by
  intro p ps
  induction ps generalizing p with
  |nil=>simp[gX]|cons q qs ih=>rw[f7,ih q];simp
 induction ps using lC with
 |nil=>rfl|cons p ps=>refine(?_:Vj _ (#[]++p.toArray) _=_);simp only[Tq,gen ps 1 p (by decide),jn]
end Internal
namespace Internal
open PySem PySem.W PySem.Calls PyProof.Rows PySem.Builtin
variable {A:Around}
theorem ky:Slot "bytes" "rstrip" "bytes.rstrip":=
 .of (owner:="bytes") (n:="rstrip") (by rw[typeLookup_type,builtinLookup_eq_fast];kernel_rfl) (by decide+kernel) (by decide+kernel) (by decide+kernel)
  (by first|exact .inl (by decide+kernel)|exact .inr (by decide+kernel)) (by rw[isSubtype_type];kernel_rfl)
theorem rD:typeOf (.builtin "bytes.rstrip")=pure (.type "method_descriptor"):=rfl
theorem p9:entryFor table "bytes.rstrip"=some Builtin.«bytes.rstrip»:=entryFor_of_tree (by kernel_rfl)
theorem ri(a b:Value):argsOk "bytes.rstrip" ⟨[a,b],[]⟩:=rfl
theorem mv:Slot "bytes" "split" "bytes.split":=
 .of (owner:="bytes") (n:="split") (by rw[typeLookup_type,builtinLookup_eq_fast];kernel_rfl) (by decide+kernel) (by decide+kernel) (by decide+kernel)
  (by first|exact .inl (by decide+kernel)|exact .inr (by decide+kernel)) (by rw[isSubtype_type];kernel_rfl)
theorem tK:typeOf (.builtin "bytes.split")=pure (.type "method_descriptor"):=rfl
theorem rv:entryFor table "bytes.split"=some Builtin.«bytes.split»:=entryFor_of_tree (by kernel_rfl)
theorem uB(a b:Value):argsOk "bytes.split" ⟨[a,b],[]⟩:=rfl
theorem j8:Slot "bytes" "rsplit" "bytes.rsplit":=
 .of (owner:="bytes") (n:="rsplit") (by rw[typeLookup_type,builtinLookup_eq_fast];kernel_rfl) (by decide+kernel) (by decide+kernel) (by decide+kernel)
  (by first|exact .inl (by decide+kernel)|exact .inr (by decide+kernel)) (by rw[isSubtype_type];kernel_rfl)
theorem ry:typeOf (.builtin "bytes.rsplit")=pure (.type "method_descriptor"):=rfl
theorem oW:entryFor table "bytes.rsplit"=some Builtin.«bytes.rsplit»:=entryFor_of_tree (by kernel_rfl)
theorem qx(a b c:Value):argsOk "bytes.rsplit" ⟨[a,b,c],[]⟩:=rfl
theorem nW:Slot "bytes" "join" "bytes.join":=
 .of (owner:="bytes") (n:="join") (by rw[typeLookup_type,builtinLookup_eq_fast];kernel_rfl) (by decide+kernel) (by decide+kernel) (by decide+kernel)
  (by first|exact .inl (by decide+kernel)|exact .inr (by decide+kernel)) (by rw[isSubtype_type];kernel_rfl)
theorem xA:typeOf (.builtin "bytes.join")=pure (.type "method_descriptor"):=rfl
theorem sB:entryFor table "bytes.join"=some Builtin.«bytes.join»:=entryFor_of_tree (by kernel_rfl)
theorem w8(a b:Value):argsOk "bytes.join" ⟨[a,b],[]⟩:=rfl
section
variable {b c:Array UInt8} {t u:Tok}
theorem vI:isInstance (.bytes b t) (.type "tuple")=pure false:=rfl
theorem jW:Gives («bytes.startswith» ⟨[.bytes b t,.bytes c u],[]⟩)
 (.val (.bool (if(min (b.size:Int) b.size) -0<(c.size:Int) then false else b.extract 0 (0+c.size)==c))):=by
 refine .of_wp λM A E s Q hq=>(?_:wpAny M A (Bytes.payload (.bytes b t)>>=λr=>_) _ E s);refine wB (wpAny_of_eq rfl ?_);refine(?_:wpAny M A (isInstance (.bytes c u) _>>=λr=>_) _ E s);refine wB (wpAny_of_eq vI ?_);refine(?_:wpAny M A (Bytes.buffer? _ (.bytes c u)>>=λr=>_) _ E s);refine wB (wpAny_of_eq KBy.buffer_eq ?_);exact wP ⟨_,rfl,hq⟩
end
section
variable {b c:Array UInt8} {t u:Tok}
theorem l8:Gives («bytes.endswith» ⟨[.bytes b t,.bytes c u],[]⟩)
 (.val (.bool (if(min (b.size:Int) b.size) -0<(c.size:Int) then false else b.extract ((min (b.size:Int) b.size).toNat -c.size) (min (b.size:Int) b.size).toNat==c))):=by
 refine .of_wp λM A E s Q hq=>(?_:wpAny M A (Bytes.payload (.bytes b t)>>=λr=>_) _ E s);refine wB (wpAny_of_eq rfl ?_);refine(?_:wpAny M A (isInstance (.bytes c u) _>>=λr=>_) _ E s);refine wB (wpAny_of_eq vI ?_);refine(?_:wpAny M A (Bytes.buffer? _ (.bytes c u)>>=λr=>_) _ E s);refine wB (wpAny_of_eq KBy.buffer_eq ?_);exact wP ⟨_,rfl,hq⟩
theorem oI:Bytes.Kind.same .bytes (.bytes b t)=pure (.bytes b t):=rfl
theorem qf{id:String}:Bytes.bytesLike id (.bytes b t)=pure b:=by delta Bytes.bytesLike;refine KBy.buffer_eq▸?_;rfl
noncomputable def stripped(b c:Array UInt8):List UInt8:=(b.toList.reverse.dropWhile c.contains).reverse
theorem pu:Gives («bytes.rstrip» ⟨[.bytes b t,.bytes c u],[]⟩)
 (if(stripped b c).length==b.size then .val (.bytes b t) else .bytes (stripped b c).toArray):=by
 refine .of_wp λM A E s Q hq=>(?_:wpAny M A (Bytes.bytesLike _ _>>=λr=>_) _ E s);refine wB (wpAny_of_eq qf ?_);refine wB (wpAny_of_eq rfl ?_);refine(?_:wpAny M A (if(stripped b c).length==b.size then _ else _) _ E s);split at hq
 ·rename_i h;rw[iP h];refine wB (wpAny_rule (wB (wpAny_of_eq oI (wP ⟨_,rfl,hq⟩))))
 ·rename_i h;rw[iN h];exact wB (wpAny_mkBytes (wP ⟨_,rfl,hq.2⟩) hq.1)
end
section
variable {M9:Program} {w:World} {A:Around} {E:Aa} {s:Shared} {b c:Ab} {t u:Tok} {Q:Aa}
theorem o9(h:Q (.bool (c.isPrefixOf b)) s):wpAny (model M9 w) A (PySem.call (.builtin "bytes.startswith") [.bytes b.toArray t,.bytes c.toArray u]) Q E s:=by
 refine call_gives FB.slot_bytes_startswith (typeIs_bytes _ _ _) FB.entry_bytes_startswith (FB.args_bytes_startswith_2 _ _) jW ?_
 have e:(if(min ((b.toArray.size:Nat):Int) b.toArray.size) -0<((c.toArray.size:Nat):Int) then false else b.toArray.extract 0 (0+c.toArray.size)==c.toArray)=c.isPrefixOf b:=by simp only[Vc,Rx];exact xr b c
 refine e▸?_;exact h
theorem te(h:Q (.bool (c.isSuffixOf b)) s):wpAny (model M9 w) A (PySem.call (.builtin "bytes.endswith") [.bytes b.toArray t,.bytes c.toArray u]) Q E s:=by
 refine call_gives FB.slot_bytes_endswith (typeIs_bytes _ _ _) FB.entry_bytes_endswith (FB.args_bytes_endswith_2 _ _) l8 ?_
 have e:(if(min ((b.toArray.size:Nat):Int) b.toArray.size) -0<((c.toArray.size:Nat):Int) then false else b.toArray.extract ((min ((b.toArray.size:Nat):Int) b.toArray.size).toNat -c.toArray.size) (min ((b.toArray.size:Nat):Int) b.toArray.size).toNat==c.toArray)=c.isSuffixOf b:=by simp only[Vc,UK];exact CM b c
 refine e▸?_;exact h
theorem pU(hl:b.length≤65536)(h:∀t' k,Q (.bytes ((b.reverse.dropWhile λx=>c.contains x).reverse).toArray t') {s with toks:=k}):wpAny (model M9 w) A (PySem.call (.builtin "bytes.rstrip") [.bytes b.toArray t,.bytes c.toArray u]) Q E s:=by
 refine call_gives ky (typeIs_bytes _ _ _) p9 (ri _ _) pu ?_
 have e:stripped b.toArray c.toArray=(b.reverse.dropWhile λx=>c.contains x).reverse:=by delta stripped;rw[qZ]
 refine e▸?_
 have hs:((b.reverse.dropWhile λx=>c.contains x).reverse).length≤b.length:=by rw[QH,←QH (as:=b)];exact(S5 _).length_le
 split
 ·rename_i q
  have:(b.reverse.dropWhile λx=>c.contains x).reverse=b:=by have:=(S5 (l:=b.reverse) λx=>c.contains x).eq_of_length (by simpa using q);simp only[this,QV]
  refine this▸?_;have:=h t s.toks;exact this
 ·exact⟨by simp only[P7];exact cj (nT hs hl) rfl,h _ _⟩
end
noncomputable def bj:List (List UInt8×Tok)→List Value:=UW λx=>.bytes x.1.toArray x.2
theorem oK{M:Model}{E:Aa}:∀ (l:List Ab) (s:Shared) (Q:List Value→Shared→Prop),(∀x∈l,x.length≤65536)→
 (∀vs k,vs.map (·.1)=l→Q (bj vs) {s with toks:=k})→wpAny M A ((l.map Q8).mapM (Bytes.Kind.new .bytes)) Q E s
 |[],s,Q,_,h=>by exact wP (h [] s.toks rfl)|x::l,s,Q,hl,h=>by rw[Qf,RK];refine wB ?_;refine wpAny_mkBytes ?_ (by have:=hl x (mS ..);rw[P7];exact cj this rfl);refine wB (oK l _ _ (λy hy=>hl y (mM hy)) λvs k hv=>wP ?_);have:=h ((x,s.toks)::vs) k (by simp only[Qf,hv]);exact this
section
variable {M9:Program} {w:World} {A:Around} {E:Aa} {s:Shared} {b c:Ab} {t u u':Tok} {Q:Aa}
theorem cR{α:Type}[BEq α](c:α):∀ (l:List α),(∀x∈aL c l,x.length≤l.length)∧(aL c l).length≤l.length+1:=by
 intro l
 induction l with
 |nil=>simp[fH]
 |cons a l ih=>
  refine d7 ih λh1 h2=>?_;simp only[dW];split
  ·refine⟨λx hx=>?_,by simp;exact h2⟩;rcases P6.mp hx with rfl|hx
   ·simp
   ·have:=h1 x hx;simp;exact Qo this
  ·split
   ·rename_i y ys q;rw[q] at h1 h2;refine⟨λx hx=>?_,by simp at h2⊢;exact Qo (by assumption)⟩;rcases P6.mp hx with rfl|hx
    ·have:=h1 y (by simp);simp;exact this
    ·have:=h1 x (by simp[hx]);simp;exact Qo this
   ·refine⟨λx hx=>?_,by simp⟩;simp at hx;subst hx;simp
theorem rF(b:Ab)(c:UInt8)(hb:b.length≤65536):
 Meets («bytes.split» ⟨[.bytes b.toArray t,.bytes #[c] u],[]⟩) (λo_ R s=>∀vs k,vs.map (·.1)=aL c b→
  R (.ok (.ret (.ref s.heap.objs.size))) {s with heap:=s.heap.push {cls:=.type "list",data:=.seq (bj vs).toArray},toks:=k}):=by
 refine .of_wp λM9 w A R s hS=>wB (wpAny_of_eq (a:=[some (.bytes #[c] u),none]) rfl ?_);refine(?_:wpAny _ _ (Bytes.payload (.bytes b.toArray t)>>=λr=>_) _ _ s);refine wB (wpAny_of_eq rfl ?_);refine(?_:wpAny _ _ (Bytes.bytesLike _ _>>=λr=>_) _ _ s);refine wB (wpAny_of_eq qf ?_)
 refine(?_:wpAny _ _ (if((Bytes.occurrences b.toArray #[c] 0 b.length).take (b.length+1)).isEmpty=true then _ else
  ((Bytes.between b.toArray 1 ((Bytes.occurrences b.toArray #[c] 0 b.length).take (b.length+1))).mapM (Bytes.Kind.new .bytes)>>=λr=>newList r>>=λl=>ret l)) _ _ s)
 rw[FX,Qn (by have:=De c b 0;exact Qo (by assumption))];split
 ·rename_i h;have h:jr c b 0=[]:=by simpa using h
  refine wB (wpAny_rule (wB (wpAny_of_eq oI ?_)));refine wB (wpAny_newList (wP ?_));exact a7 _ rfl (hS [(b,t)] s.toks (by simp only[zu c b 0 h];rfl))
 ·rw[sq];refine wB (oK _ _ _ (λx hx=>nT ((cR c b).1 x hx) hb) λvs k hv=>?_)
  exact wB (wpAny_newList (wP ⟨_,rfl,hS vs k hv⟩) (by have h1:=cG Rc hv;simp only[KE] at h1;simp only[bj,KE];exact aZ [_,_,_] (.h 1 ab ae (.h 1 ae (.a af ai) (.h 1 af (.c 65536) (.g ab (.c 16777216))))) rfl (nE h1) ((cR c b).2) hb))
theorem rE{c:UInt8}(hb:b.length≤65536)(h:∀vs k,vs.map (·.1)=aL c b→
 Q (.ref s.heap.objs.size) {s with heap:=s.heap.push {cls:=.type "list",data:=.seq (bj vs).toArray},toks:=k}):
 wpAny (model M9 w) A (PySem.call (.builtin "bytes.split") [.bytes b.toArray t,.bytes #[c] u]) Q E s:=
 call_meets mv (typeIs_bytes _ _ _) rv (uB _ _) (rF b c hb) h
theorem pB(b:Ab)(c:UInt8)(hb:b.length≤65536):
 Meets («bytes.rsplit» ⟨[.bytes b.toArray t,.bytes #[c] u,.int 1 u'],[]⟩) (λo_ R s=>∀vs k,vs.map (·.1)=(match dL c b with|some (x,y)=>[x,y]|none=>[b])→
  R (.ok (.ret (.ref s.heap.objs.size))) {s with heap:=s.heap.push {cls:=.type "list",data:=.seq (bj vs).toArray},toks:=k}):=by
 refine .of_wp λM9 w A R s hS=>wB (wpAny_of_eq (a:=[some (.bytes #[c] u),some (.int 1 u')]) rfl ?_);refine wB (wpAny_of_eq rfl ?_);refine wB (wpAny_of_eq rfl ?_);refine wB (wpAny_of_eq qf ?_)
 refine(?_:wpAny _ _ (if(Bytes.occurrencesFromRight b.toArray #[c] 1).isEmpty=true then _ else
  ((Bytes.between b.toArray 1 (Bytes.occurrencesFromRight b.toArray #[c] 1)).mapM _>>=λr=>newList r>>=λl=>ret l)) _ _ s)
 rw[AI]
 induction hc:b.contains c using bC with
 |false=>refine wpAny_ite ?_;refine wB (wpAny_rule (wB (wpAny_of_eq oI ?_)));refine wB (wpAny_newList (wP ?_));exact a7 _ rfl (hS [(b,t)] s.toks (by simp only[qA b c hc];rfl))
 |true=>
  refine wpAny_ite ?_;rw[iN (by exact fF)];refine ie (rT b c hc) λx y h1 h2=>h2▸?_
  have MZ:x.length≤65536∧y.length≤65536:=by
   unfold dL at h1;rw[iP hc] at h1;simp only[Vp,Prod.mk.injEq] at h1;have:=(Ue (l:=b.reverse) λx=> !(x==c)).length_le;simp only[←h1.1,←h1.2,Ql,QH] at this⊢
   (first|exact⟨aZ [_,_] (.h 1 ab ae (.h 1 ae (.c 65536) (.g ab (.c 65536)))) rfl (QM _ _) hb,aZ [_,_] (.h 1 ab ae (.h 1 ae (.c 65536) (.g ab (.c 65536)))) rfl this hb⟩)
  refine wB (oK [x,y] _ _ (λz hz=>?_) λvs k hv=>?_)
  ·simp only[P6,Qd,or_false] at hz;rcases hz with rfl|rfl
   ·exact MZ.1
   ·exact MZ.2
  ·exact wB (wpAny_newList (wP ⟨_,rfl,hS vs k (by refine h1▸?_;exact hv)⟩) (by have h1:=cG Rc hv;simp only[KE] at h1;simp only[bj,KE];exact cj (nE h1) rfl))
theorem pL{c:UInt8}(hb:b.length≤65536)(h:∀vs k,vs.map (·.1)=(match dL c b with|some (x,y)=>[x,y]|none=>[b])→
 Q (.ref s.heap.objs.size) {s with heap:=s.heap.push {cls:=.type "list",data:=.seq (bj vs).toArray},toks:=k}):
 wpAny (model M9 w) A (PySem.call (.builtin "bytes.rsplit") [.bytes b.toArray t,.bytes #[c] u,.int 1 u']) Q E s:=
 call_meets j8 (typeIs_bytes _ _ _) oW (qx _ _ _) (pB b c hb) h
theorem pN{id:String}{b:Array UInt8}:Bytes.takeBufferQuiet? id (.bytes b t) 0=pure (some (b,none)):=by delta Bytes.takeBufferQuiet? Bytes.takeBuffer?;refine(KBy.special_eq KBy.look_buffer)▸?_;refine KBy.own_buffer▸?_;refine(show _=false from rfl)▸?_;kernel_rfl
end
section
theorem o0{M:Model}{E:Aa}{s:Shared}(keep:List Value){Q:Unit→Shared→Prop}:∀ (l:List (Ab×Tok)),Q () s→
 wpAny M A (Bytes.joinLetGo (l.map λx=>(.bytes x.1.toArray x.2,none)) keep) Q E s:=by
 intro L_;induction L_ with
 |nil=>intro h;exact wP h|cons x l IH_=>intro h;refine Qf▸?_;exact wB (wpAny_letGo (IH_ h))
theorem wK(c:Ab)(ps:List Ab)(n:Nat):((ps.map Q8).toArray.foldl (λa p=>a+p.size) n)=n+(ps.map Rc).sum:=by
 rw[Ts]
 induction ps generalizing n with
 |nil=>simp|cons p ps ih=>simp only[Q5,ih,Qf];exact Qg (aZ [_,_,_] (.g (.a (.a ab ae) af) (.a ab (.a ae af))) rfl) (aZ [_,_,_] (.g (.a ab (.a ae af)) (.a (.a ab ae) af)) rfl)
theorem og(c:Ab):∀ (ps:List Ab),c.length*(ps.length -1)+(ps.map Rc).sum=(aB c ps).length
 |[]=>by simp[vr]|[p]=>by simp[gX]|p::q::ps=>by have:=og c (q::ps);simp only[f7,Qa,QK,UC] at this⊢;simp only[←this,Ur];exact Qg (aZ [_,_,_,_,_] (.g (.a (.a ab (.r ae 1)) (.a af (.a ag ah))) (.a (.a af ae) (.a ab (.a ag ah)))) rfl) (aZ [_,_,_,_,_] (.g (.a (.a ab ae) (.a af (.a ag ah))) (.a (.a af (.r ae 1)) (.a ab (.a ag ah)))) rfl)
theorem tp(vs:List (Ab×Tok))(i:Nat)(x:Ab×Tok)(e:vs[i]?=some x):(bj vs).toArray.getD i .none= .bytes x.1.toArray x.2:=by simp[bj,e]
theorem sE(c:Ab)(l:Addr)(n:Nat)(vs:List (Ab×Tok)){t:Tok}(hj:(aB c (vs.map (·.1))).length≤65536):
 Meets («bytes.join» ⟨[.bytes c.toArray t,.ref l],[]⟩) (λo_ R s=>IsL s.heap l (bj vs).toArray n∧∀t' k,
  R (.ok (.ret (.bytes (aB c (vs.map (·.1))).toArray t'))) {s with toks:=k}):=by
 refine .of_wp λM9 w A R s hS=>?_;obtain⟨ho,hS⟩:=hS;have hT:s.TypeIs (.ref l) "list":=⟨_,ho,rfl⟩;refine(?_:wpAny _ _ (Bytes.joinItems _>>=λr=>_) _ _ s);refine wB ?_;refine wB (wpAny_typeOf hT ?_);refine wP ?_;refine wB (wpAny_seqItems ho rfl ?_);rcases(show(∃v,vs=[v])∨¬ ∃v,vs=_ from Vs _) with⟨v,rfl⟩|hn
 ·refine wB (wpAny_typeOf (typeIs_bytes _ _ _) ?_);exact wB (wpAny_rule (wP ⟨_,rfl,hS v.2 s.toks⟩))
 ·have skip:∀ {α:Type} (a:Value→α) (b:α),(match (bj vs).toArray with| #[x]=>a x|_=>b)=b:=by
   intro α a b;rcases vs with _|⟨v,_|⟨v2,vs⟩⟩
   ·rfl
   ·exact absurd ⟨v,rfl⟩ hn
   ·rfl
  refine(?_:wpAny _ _ (match (bj vs).toArray with| #[x]=>_|_=>_) _ _ s);rw[skip];refine wB ?_;rw[Std.Legacy.Range.forIn_eq_forIn_range'];refine wpAny_forIn_list _ (λrest r s'=>s'=s∧∃i,rest=SF i (vs.length -i)∧i≤vs.length∧r=(((vs.take i).map λx=>x.1.toArray).toArray,(vs.take i).map λx=>(Q4 x.1.toArray x.2,none))) _ ?_ ?_ _ _ ?_
  ·rintro x rest r s' ⟨rfl,i,hr,hi,rfl⟩
   have Na:i<vs.length:=by
    rcases Ui i vs.length with h|h
    ·exact h
    ·rw[Nat.sub_eq_zero_of_le h] at hr;cases hr
   rw[show vs.length -i=(vs.length -(i+1))+1 by omega,RQ] at hr;refine d7 (QD hr) λz1 z2=>?_;subst z1;subst z2;refine wB (wpAny_seqItems ho rfl ?_)
   have hoh:(((vs.take x).map λx=>(Q4 x.1.toArray x.2,(none:Option Value))).any λy=>y.1.onHeap)=false:=by rw[Sv,List.any_eq_false];intro y o_;exact fF
   refine wpAny_ite ?_;rw[hoh,iN (by decide)];refine wB (wpAny_holding ?_);rw[tp vs x vs[x] (Qs Na)];refine wpAny_of_eq pN ?_;refine wB (wpAny_seqItems ho rfl ?_);refine wpAny_ite ?_;rw[iN (by simp)];refine wP ⟨rfl,x+1,rfl,Na,?_⟩;refine SG▸?_;refine(Qs Na)▸?_;simp only[Option.toList_some,Qi,Qf,R6,Tv]
  ·rintro r s' ⟨rfl,i,hr,hi,rfl⟩
   have he:i=vs.length:=by
    rcases Ui i vs.length with h|h
    ·rw[show vs.length -i=(vs.length -(i+1))+1 by omega,RQ] at hr;cases hr
    ·exact Qg (by assumption) (by assumption)
   subst he;refine QG▸?_;refine wB (wpAny_of_eq rfl ?_);have hm:(vs.map λx=>x.1.toArray)=(vs.map (·.1)).map Q8:=by simp only[Qk];rfl
   have tl:Bytes.tooLong (((vs.map λx=>x.1.toArray).toArray).foldl (λx1 x2=>x1+x2.size) (c.toArray.size*(((vs.map λx=>x.1.toArray).toArray).size -1)))=false:=by rw[hm,wK c];have:=og c (vs.map (·.1));simp only[show c.toArray.size*((((vs.map (·.1)).map Q8).toArray).size -1)=c.length*((vs.map (·.1)).length -1) by simp,this];exact KBy.tooLong_not (by(clear hn skip ho hS hT hr hi hm;exact cj hj rfl))
   refine wpAny_ite ?_;rw[tl,iN fF];simp only[hm,xd];refine wB (wpAny_mkBytes ?_ (by rw[P7];exact cj hj rfl));refine wB (wpAny_holding (wpAny_point ?_));refine wB (o0 _ vs (wP ⟨_,rfl,hS _ _⟩))
  ·refine⟨rfl,0,?_,RN _,rfl⟩;simp[bj]
theorem ui{M9:Program}{w:World}{E:Aa}{s:Shared}{c:Ab}{l:Addr}{n:Nat}{vs:List (Ab×Tok)}{t:Tok}{Q:Aa}(hl:IsL s.heap l (bj vs).toArray n)(hj:(aB c (vs.map (·.1))).length≤65536)(h:∀t' k,Q (.bytes (aB c (vs.map (·.1))).toArray t') {s with toks:=k}):
 wpAny (model M9 w) A (PySem.call (.builtin "bytes.join") [.bytes c.toArray t,.ref l]) Q E s:=
 call_meets nW (typeIs_bytes _ _ _) sB (w8 _ _) (sE c l n vs hj) ⟨hl,h⟩
section
variable {M9:Program} {w:World} {A:Around} {E:Aa} {s:Shared} {b:Ab} {t u:Tok}
theorem i4(b:Ab)(i:Int)(h0:0≤i)(h1:i<256):
 Meets («bytes.__contains__» ⟨[.bytes b.toArray t,.int i u],[]⟩) (λo_ R s=>R (.ok (.ret (.bool (b.any λc=>(c.toNat:Int)==i)))) s):=by
 refine .of_wp λM9 w A R s hS=>(?_:wpAny _ _ (Bytes.containsIn _ _ _>>=λr=>_) _ _ s);refine wB ?_;refine wB (wpAny_attempt (wpAny_of_eq rfl ?_));refine wB (wpAny_of_eq KBy.buffer_eq ?_);refine wpAny_ite ?_;rw[iN (by simp;lia)];refine wP (wP ⟨_,rfl,?_⟩)
 have:b.toArray.contains i.toNat.toUInt8=b.any λc=>(c.toNat:Int)==i:=by
  simp only[List.contains_toArray,T8];congr;funext c;rw[Rn,beq_iff_eq,beq_iff_eq];constructor
  ·rintro rfl;simp only[Ut];lia
  ·intro h;apply RY.mp;simp only[Ut];lia
 refine this▸?_;exact hS
end
end
theorem yC(l:Ab)(c:UInt8):(Bytes.find? l.toArray #[c] 0 l.length).isSome=l.contains c:=by
 delta Bytes.find?;rw[show l.length+1 -(0+ #[c].size)=l.length by simp,Rn,List.find?_isSome,Q6];constructor
 ·rintro⟨i,hi,h⟩;refine jz hi λj hj z1=>?_;subst z1;have hj:=QE.mp hj;have e:=Cy l (l.take j) (l.drop (j+1)) l[j] c (by simp only[←QO hj,Sd]);rw[Ql,QT (Qx hj)] at e;have h:(l.toArray.extract j (j+1)== #[c])=_:=h;rw[e] at h;simp only[←bA h];exact SO hj
 ·intro h;obtain⟨j,hj,e⟩:=List.getElem_of_mem h;refine a7 j (Su.mpr ⟨j,QE.mpr hj,rfl⟩) ?_;have e2:=Cy l (l.take j) (l.drop (j+1)) l[j] c (by simp only[←QO hj,Sd]);rw[Ql,QT (Qx hj)] at e2;refine(?_:(l.toArray.extract j (j+1)== #[c])=_);rw[e2,e];simp
section
variable {b c:Ab} {t u:Tok}
theorem Dw:typeLookup (.type "bytes") "__index__"=pure none:=rfl
theorem mW{M:Model}{E:Aa}{s:Shared}{x:Array UInt8}{Q:Int→Shared→Prop}(hh:A.handled=none)(h:∀h' tk e,Heap.NewExc s.heap h' e "TypeError"→E (.ref e) {s with heap:=h',toks:=tk}):wpAny M A (asIndex (.bytes x t)) Q E s:=by refine wB (wpAny_of_eq rfl ?_);refine wB ?_;refine wB (wpAny_specialOf (typeIs_bytes _ _ _) Dw (wP ?_));refine wB (wpAny_of_eq (a:="bytes") (by kernel_rfl) ?_);exact wpAny_raiseErrorMade plainExc_TypeError hh h
theorem gm(b:Ab)(c:UInt8):
 Meets («bytes.__contains__» ⟨[.bytes b.toArray t,.bytes #[c] u],[]⟩) (λA R s=>A.handled=none∧∀h' tk,(∀a o,s.heap.get? a=some o→h'.get? a=some o)→R (.ok (.ret (.bool (b.contains c)))) {s with heap:=h',toks:=tk}):=by
 refine .of_wp λM9 w A R s hS=>d7 hS λhh hS=>(?_:wpAny _ _ (Bytes.containsIn _ _ _>>=λr=>_) _ _ s);refine wB ?_;refine wB (wpAny_attempt (mW (by simp only;exact hh) λh' tk e hn=>?_));refine wB (wpAny_of_eq KBy.buffer_eq ?_);refine wB (wpAny_of_eq KBy.buffer_eq ?_);refine wB (wpAny_rule (wP (wP ⟨_,rfl,?_⟩)));refine(yC b c)▸?_;exact hS h' tk hn.keeps
end
section
variable {M9:Program} {w:World} {A:Around} {E:Aa} {s:Shared} {b c:Ab} {t u:Tok} {Q:Aa}
theorem F9{i:Int}(h0:0≤i)(h1:i<256)(h:Q (.bool (b.any λc=>(c.toNat:Int)==i)) s):wpAny (model M9 w) A (compareOp .In (.int i u) (.bytes b.toArray t)) Q E s:=
 In_slot (typeIs_bytes _ _ _) FB.slot_bytes_contains (call_meets FB.slot_bytes_contains (typeIs_bytes _ _ _) FB.entry_bytes_contains (FB.args_bytes_contains_2 _ _) (i4 b i h0 h1) (wpAny_truthy_bool h))
theorem wN{i:Int}(h0:0≤i)(h1:i<256)(h:Q (.bool (!b.any λc=>(c.toNat:Int)==i)) s):wpAny (model M9 w) A (compareOp .NotIn (.int i u) (.bytes b.toArray t)) Q E s:=
 NotIn_slot (typeIs_bytes _ _ _) FB.slot_bytes_contains (call_meets FB.slot_bytes_contains (typeIs_bytes _ _ _) FB.entry_bytes_contains (FB.args_bytes_contains_2 _ _) (i4 b i h0 h1) (wpAny_truthy_bool h))
theorem Dm{c:UInt8}(hh:A.handled=none)(h:∀h' tk,(∀a o,s.heap.get? a=some o→h'.get? a=some o)→Q (.bool (b.contains c)) {s with heap:=h',toks:=tk}):wpAny (model M9 w) A (compareOp .In (.bytes #[c] u) (.bytes b.toArray t)) Q E s:=
 In_slot (typeIs_bytes _ _ _) FB.slot_bytes_contains (call_meets FB.slot_bytes_contains (typeIs_bytes _ _ _) FB.entry_bytes_contains (FB.args_bytes_contains_2 _ _) (gm b c) ⟨hh,λh' tk k=>(wpAny_truthy_bool (h h' tk k))⟩)
theorem tO{c:UInt8}(hh:A.handled=none)(h:∀h' tk,(∀a o,s.heap.get? a=some o→h'.get? a=some o)→Q (.bool (!b.contains c)) {s with heap:=h',toks:=tk}):wpAny (model M9 w) A (compareOp .NotIn (.bytes #[c] u) (.bytes b.toArray t)) Q E s:=
 NotIn_slot (typeIs_bytes _ _ _) FB.slot_bytes_contains (call_meets FB.slot_bytes_contains (typeIs_bytes _ _ _) FB.entry_bytes_contains (FB.args_bytes_contains_2 _ _) (gm b c) ⟨hh,λh' tk k=>(wpAny_truthy_bool (h h' tk k))⟩)
end
end Internal
namespace Internal
open PySem PySem.W PySem.Calls PyProof.Rows
variable {a:Addr}{o:Obj}
noncomputable abbrev pw:Program:=PySem.Challenge.pw_ai0011_01
noncomputable def uY:Nat→Addr
 |2001=>35|6=>74|7=>81|8=>88|9=>95|10000=>109|10001=>116|10002=>121|10003=>128|10004=>135|11001=>156|11002=>164|20=>215|21=>222|22=>229|23=>236|24=>243|25=>250|28=>257|29=>264|31000=>279|31002=>293|31003=>300|31004=>307|32=>321|33=>328|34=>335|35=>342|36=>349|37000=>364|37001=>371|37003=>385|37004=>393|37005=>400|38000=>421|38001=>428|40=>442|41=>449|42=>454|43=>459|44=>464|45=>469|46=>474|47=>481|48=>486|49=>493|50=>498|_=>0
noncomputable def d6(c:Nat):Addr:=
 if c==3 then 38 else if c==51 then 167 else if c==33 then 138 else if c==100 then 310 else if c==129 then 403 else if c==140 then 431 else 0
noncomputable def nm(k:Nat):Str:=⟨(gK.getD k []).toArray⟩
noncomputable def lim:Nat:=65536
noncomputable def sG(k:Nat):Value:=
 if k==32 then .builtin "len" else if k==147 then .builtin "divmod" else if k==109 then .builtin "isinstance"
 else if k==49 then .type "list" else if k==17 then .type "bytes" else .type "bool"
inductive Ro where
 |imm|lent|cell (n:Nat)|tab
structure Lay where
 G:Addr→Option (Ro×Obj)
 β:Nat→Addr
 N:Nat
structure Pt where
 L:Lay
 σ:aq
 s:Shared
noncomputable abbrev Lay.At(L:Lay)(a:Addr)(o:Obj):Prop:=L.G a=some (.imm,o)
noncomputable abbrev AP:=Addr→Prop
noncomputable abbrev cz:AP:=λo_=>False
noncomputable def Bv(o:Obj)(m:Str→Option Value):Prop:=∃es ep,o.data= .dict es ep∧StrKeys es∧∀name,nsFind es name=m name
noncomputable def uo(c:String)(o:Obj)(vs:List Value):Prop:=vs.length≤lim∧∃n,o={cls:=.type c,data:=.seq vs.toArray n}
theorem Bv.ns{h:Heap}{m}(x:Bv o m)(e:h.get? a=some o):h.Ns a m:=ql x λes ep r=>⟨o,es,ep,e,r⟩
theorem Bv.of{h:Heap}{m}(x:h.Ns a m):∃o,h.get? a=some o∧Bv o m:=JZ x λo es ep e r=>⟨o,e,es,ep,r⟩
structure CloAt(L:Lay)(o:Obj)(fd:FuncData)(ps:List Nat)(body:E)(ks:List Nat):Prop where
 data:o.data= .func fd
 cls:o.cls= .type "function"
 bodyIs:∃pe,fd.body= .expr pe∧bn fd.scope pe=body
 params:∃as,fd.params=⟨[],as,none,[],[],none,[]⟩∧as.map (·.arg)=ps.map nm
 sc:fd.scope.isGenerator=false∧hY fd.scope=true∧(∀y∈fd.scope.names,y.2≠ .cell)∧∀p∈ps,p<NT∧fd.scope.names.lookup (nm p)=some .local
 fr:∀k∈ks,k<NT∧fd.scope.names.lookup (nm k)=some .free
 cl:(∀n,fd.scope.names.lookup n=some .free→∃c,fd.closure.lookup n=some c)∧∀n c,fd.closure.lookup n=some c→∃o,L.At c o
 gl:fd.globals=mainGlobals∧fd.builtins=builtinsNs∧fd.defaults= .none∧fd.kwdefaults= .none
 code:∃c co vs t,fd.code= .ref c∧L.At c co∧co.data= .fields vs∧vs[1]?=some (.str fd.qualname t)
mutual
noncomputable def VR (L:Lay):V→Value→Prop
 |.none,v=>v= .none|.bool b,v=>v= .bool b|.int i,v=>∃t,v= .int i t|.str s,v=>∃t,v= .str ⟨s.toArray⟩ t∧s.length≤lim|.bytes b,v=>∃t,v= .bytes b.toArray t∧b.length≤lim|.t xs,v=>∃a o vs,v= .ref a∧L.At a o∧uo "tuple" o vs∧bQ L xs vs|.list xs,v=>∃a o vs,v= .ref a∧L.At a o∧uo "list" o vs∧bQ L xs vs|.inst C fs,v=>∃a d es n,v= .ref a∧L.At a (instObj (d6 C) d)∧L.At d (dictOf es n)∧gM L fs es|.o n,v=>n<L.N∧v= .ref (L.β n)|.fn k,v=>v= .ref (uY k)|.cls c,v=>v= .ref (d6 c)|.blt k,v=>v=sG k|.clo ps body MX,v=>∃a o fd,v= .ref a∧L.At a o∧CloAt L o fd ps body (MX.map (·.1))∧wI L fd.closure MX
noncomputable def bQ (L:Lay):List V→List Value→Prop
 |[],vs=>vs=[]|x::xs,vs=>∃v r,vs=v::r∧VR L x v∧bQ L xs r
noncomputable def gM (L:Lay):List (Nat×V)→List DictEntry→Prop
 |[],es=>es=[]|(k,x)::fs,es=>∃e r,es=e::r∧(k<NT∧∃t,e.key= .str (nm k) t)∧VR L x e.val∧gM L fs r
noncomputable def wI (L:Lay) (cl:List (Str×Addr)):List (Nat×V)→Prop
 |[]=>True|(k,x)::fs=>(∃c o v,cl.lookup (nm k)=some c∧L.At c o∧o.data= .cell (some v)∧VR L x v)∧wI L cl fs
end
structure Lay.Le(m:Nat)(L L':Lay):Prop where
 i:∀a o,L.At a o→L'.At a o
 b:∀n,n<m→L'.β n=L.β n
 n:m≤L'.N
theorem CloAt.to{m:Nat}{L L':Lay}(g:L.Le m L'){fd:FuncData}{ps ks:List Nat}{body:E}(x:CloAt L o fd ps body ks):CloAt L' o fd ps body ks:=
 {x with cl:=⟨x.cl.1,λn c e=>(x.cl.2 n c e).imp λo=>g.i c o⟩,code:=JH x.code λc co vs t e a r=>⟨c,co,vs,t,e,g.i _ _ a,r⟩}
mutual
theorem VR.to {m:Nat} {L L':Lay} (g:L.Le m L'):∀ {v:V} {x:Value},below m v=true→VR L v x→VR L' v x
 |.none,_,_,r|.bool _,_,_,r|.int _,_,_,r|.str _,_,_,r|.bytes _,_,_,r|.fn _,_,_,r|.cls _,_,_,r|.blt _,_,_,r=>r|.o n,_,b,r=>d7 r λh e=>have q:=of_decide_eq_true b;⟨R3 q g.n,e.trans (cG Tg (g.b n q).symm)⟩|.t xs,_,b,r|.list xs,_,b,r=>sz r λa o vs e h hs r=>Ih a o vs e (g.i _ _ h) hs (bQ.to g b r)|.inst C fs,_,b,r=>IA r λa d es n e h1 h2 r=>Lv a d es n e (g.i _ _ h1) (g.i _ _ h2) (gM.to g b r)|.clo ps body MX,_,b,r=>sz r λa o fd e h hc r=>Ih a o fd e (g.i _ _ h) (hc.to g) (wI.to g b r)
theorem bQ.to {m:Nat} {L L':Lay} (g:L.Le m L'):∀ {xs:List V} {vs:List Value},cr m xs=true→bQ L xs vs→bQ L' xs vs
 |[],_,_,r=>r|x::xs,_,b,r=>fk r λv t e p q=>i6 v t e (VR.to g (aA b).1 p) (bQ.to g (aA b).2 q)
theorem gM.to {m:Nat} {L L':Lay} (g:L.Le m L'):∀ {fs:List (Nat×V)} {es:List DictEntry},dF m fs=true→gM L fs es→gM L' fs es
 |[],_,_,r=>r|(k,x)::fs,_,b,r=>IJ r λv t e h p q=>Ln v t e h (VR.to g (aA b).1 p) (gM.to g (aA b).2 q)
theorem wI.to {m:Nat} {L L':Lay} {cl:List (Str×Addr)} (g:L.Le m L'):∀ {fs:List (Nat×V)},dF m fs=true→wI L cl fs→wI L' cl fs
 |[],_,r=>r|(k,x)::fs,b,r=>d7 r λr q=>⟨sz r λc o v e h d p=>Ih c o v e (g.i _ _ h) d (VR.to g (aA b).1 p),wI.to g (aA b).2 q⟩
end
mutual
theorem VR.below {L:Lay}:∀ {v:V} {x:Value},VR L v x→below L.N v=true
 |.none,_,_|.bool _,_,_|.int _,_,_|.str _,_,_|.bytes _,_,_|.fn _,_,_|.cls _,_,_|.blt _,_,_=>rfl|.o n,_,r=>decide_eq_true r.1|.t xs,_,r|.list xs,_,r=>sz r λo_ o_ o_ o_ o_ o_ r=>bQ.below r|.inst C fs,_,r=>IA r λo_ o_ o_ o_ o_ o_ o_ r=>gM.below r|.clo ps body MX,_,r=>sz r λo_ o_ o_ o_ o_ o_ r=>wI.below r
theorem bQ.below {L:Lay}:∀ {xs:List V} {vs:List Value},bQ L xs vs→cr L.N xs=true
 |[],_,_=>rfl|x::xs,_,r=>fk r λo_ o_ o_ p q=>(P9 _ _).mpr ⟨VR.below p,bQ.below q⟩
theorem gM.below {L:Lay}:∀ {fs:List (Nat×V)} {es:List DictEntry},gM L fs es→dF L.N fs=true
 |[],_,_=>rfl|(k,x)::fs,_,r=>IJ r λo_ o_ o_ o_ p q=>(P9 _ _).mpr ⟨VR.below p,gM.below q⟩
theorem wI.below {L:Lay} {cl:List (Str×Addr)}:∀ {fs:List (Nat×V)},wI L cl fs→dF L.N fs=true
 |[],_=>rfl|(k,x)::fs,r=>d7 r λr q=>sz r λo_ o_ o_ o_ o_ o_ p=>(P9 _ _).mpr ⟨VR.below p,wI.below q⟩
end
noncomputable def j6(L:Lay)(n:Nat):Cell→Prop
 |.list xs=>∃o vs,L.G (L.β n)=some (.cell n,o)∧uo "list" o vs∧bQ L xs vs|.obj C fs=>∃d es k,L.G (L.β n)=some (.cell n,instObj (d6 C) d)∧L.G d=some (.cell n,dictOf es k)∧gM L fs es
noncomputable def fq(b:Nat):Cell→Bool
 |.list xs=>cr b xs|.obj _ fs=>dF b fs
noncomputable def Ge(b:Nat)(σ:aq):Prop:=∀n c,n<b→σ[n]?=some c→fq b c=true
noncomputable def LB(b:Nat)(σ σ':aq):Prop:=∀b',b'≤b→Ge b' σ→Ge b' σ'
structure Wd where
 w:World
 H0:Heap
 os:OsState
noncomputable def TQ:List (Addr×Addr×Str):=[(228,224,"_translate_double_asterisk.<locals>.<genexpr>"),(392,388,"IgnoreFilter.is_ignored.<locals>.<lambda>"),(399,395,"IgnoreFilter.may_prune_directory.<locals>.<lambda>"),(497,495,"law.<locals>.<lambda>")]
noncomputable def jv(a:Addr):Bool:=TQ.any (·.2.1==a)
noncomputable def Dq(L:Lay)(t:Addr×Addr×Str):Prop:=∃ps,L.G t.2.1=some (.tab,tabObj ps)∧TriplesOk ps.toList∧
 ∀pos cv,codeAmong pos ps.toList=some cv→∃c' co vs tk,cv= .ref c'∧L.At c' co∧co.data= .fields vs∧vs[1]?=some (.str t.2.2 tk)
structure Base(U:Wd):Prop where
 g:∃mg,U.H0.Ns mainGlobals mg
 b:∃mb,U.H0.Ns builtinsNs mb∧∀x:Str,x≠"__name__"→mb x=bootBuiltins x
 lim:U.H0.NoLimit
 bm:∃ob,U.H0.get? 4=some ob∧ob.cls= .type "module"∧ob.dict=some builtinsNs∧ob.data= .plain
 k:(KF U.w.params).In U.H0
 t:∀t∈TQ,U.H0.get? t.2.1=some (tabObj #[])
structure SR(U:Wd)(P:Pt):Prop where
 base:Base U
 g:∀ {a k o:_},P.L.G a=some (k,o)→P.s.heap.get? a=some o
 h0:∀a o,U.H0.get? a=some o→jv a=false→P.L.At a o
 tabs:∀t∈TQ,Dq P.L t
 gens:AllBare P.s.gens
 os:P.s.os=U.os
 n:P.L.N=P.σ.length
 cells:∀n c,P.σ[n]?=some c→j6 P.L n c
structure To(U:Wd)(b:Nat)(F:AP)(P P':Pt):Prop where
 le:P.L.Le P.L.N P'.L
 j:∀a o,P.L.G a=some (.lent,o)→¬ F a→P'.L.G a=some (.lent,o)
 lb:LB b P.σ P'.σ
 sr:SR U P'
structure Ext(s s':Shared):Prop where
 keep:∀ {a o:_},s.heap.get? a=some o→s'.heap.get? a=some o
 gens:s'.gens=s.gens
 os:s'.os=s.os
theorem Ext.refl(s:Shared):Ext s s:=⟨id,rfl,rfl⟩
theorem Ext.tok(s:Shared)(t:Nat):Ext s {s with toks:=t}:=⟨id,rfl,rfl⟩
theorem Ext.push(s:Shared)(o:Obj)(t:Nat):Ext s {s with heap:=s.heap.push o,toks:=t}:=⟨λe=>Ri _ e,rfl,rfl⟩
noncomputable def Lay.grow(L:Lay)(r:Addr→Option Ro)(h':Heap):Lay:={L with G:=λa=>match L.G a with|some y=>some y|none=>(r a).bind λk=>(h'.get? a).map λo=>(k,o)}
noncomputable def t5(h:Heap)(a:Addr):Option Ro:=match h.get? a with|none=>some .imm|some _=>none
noncomputable def Pt.ext(P:Pt)(s':Shared):Pt:=⟨P.L.grow (t5 P.s.heap) s'.heap,P.σ,s'⟩
noncomputable def Lay.put(L:Lay)(a:Addr)(k:Ro)(o:Obj):Lay:={L with G:=λb=>if b=a then some (k,o) else L.G b}
section
variable {U:Wd} {b:Nat} {F F':AP} {P P' P'':Pt} {L L' L'':Lay} {s':Shared}
theorem LB.refl(σ:aq):LB b σ σ:=λo_ o_ h=>h
theorem Lay.Le.refl(L:Lay):L.Le L.N L:=⟨λo_ o_ e=>e,λo_ o_=>rfl,nR⟩
theorem Lay.Le.trans(x:L.Le L.N L')(y:L'.Le L'.N L''):L.Le L.N L'':=⟨λa o e=>y.i a o (x.i a o e),λn h=>(y.b n (R3 h x.n)).trans (x.b n h),nT x.n y.n⟩
theorem VR.le(g:L.Le L.N L'){v:V}{x:Value}(r:VR L v x):VR L' v x:=r.to g r.below
theorem bQ.le(g:L.Le L.N L'){v:List V}{x:List Value}(r:bQ L v x):bQ L' v x:=r.to g r.below
theorem To.refl(x:SR U P):To U b F P P:=⟨.refl _,λo_ o_ e o_=>e,.refl _,x⟩
theorem To.trans(x:To U b F P P')(y:To U b F P' P''):To U b F P P'':=⟨x.le.trans y.le,λa o e h=>y.j a o (x.j a o e h) h,λb' h l=>y.lb b' h (x.lb b' h l),y.sr⟩
theorem To.wide(x:To U b cz P P'):To U b F P P':=⟨x.le,λa o e o_=>x.j a o e id,x.lb,x.sr⟩
theorem To.v(T:To U b F P P'){v:V}{x:Value}(r:VR P.L v x):VR P'.L v x:=r.le T.le
theorem To.vs(T:To U b F P P'){v:List V}{x:List Value}(r:bQ P.L v x):bQ P'.L v x:=r.le T.le
theorem j6.to{m n:Nat}{c:Cell}(g:L.Le m L')(hn:n<m)(hb:fq m c=true)(hg:∀a o,L.G a=some (.cell n,o)→L'.G a=some (.cell n,o))(r:j6 L n c):j6 L' n c:=match c,hb,r with|.list xs,hb,r=>fk r λo vs e hs r=>i6 o vs ((g.b n hn).symm▸hg _ _ e) hs (bQ.to g hb r)|.obj C fs,hb,r=>Jb r λd es k e e2 r=>Mo d es k ((g.b n hn).symm▸hg _ _ e) (hg _ _ e2) (gM.to g hb r)
theorem j6.below{n:Nat}{c:Cell}(r:j6 L n c):fq L.N c=true:=match c,r with|.list xs,r=>fk r λo_ o_ o_ o_ r=>bQ.below r|.obj C fs,r=>Jb r λo_ o_ o_ o_ o_ r=>gM.below r
theorem Dq.to{m:Nat}{t:Addr×Addr×Str}(g:L.Le m L')(hg:∀a o,L.G a=some (.tab,o)→L'.G a=some (.tab,o))(x:Dq L t):Dq L' t:=
 gv x λps a b c=>⟨ps,hg _ _ a,b,λpos cv e=>JH (c pos cv e) λc' co vs tk e1 e2 r=>⟨c',co,vs,tk,e1,g.i _ _ e2,r⟩⟩
theorem SR.lt(x:SR U P){n:Nat}{c:Cell}(e:P.σ[n]?=some c):n<P.L.N:=x.n▸(Qe.mp e).1
theorem SR.told(x:SR U P)(hk:∀a k o,P.L.G a=some (k,o)→L'.G a=some (k,o))(hg:∀ {a k o},L'.G a=some (k,o)→s'.heap.get? a=some o)(hb:L'.β=P.L.β)(hN:L'.N=P.L.N)(Nw:AllBare s'.gens)(ho:s'.os=P.s.os):To U b F P ⟨L',P.σ,s'⟩:=
 have le:P.L.Le P.L.N L':=⟨λa o e=>hk a _ o e,λn o_=>congrFun hb n,nE hN.symm⟩
 ⟨le,λa o e o_=>hk a _ o e,.refl _,⟨x.base,hg,λa o e t=>hk _ _ _ (x.h0 a o e t),λt ht=>(x.tabs t ht).to le λa o e=>hk a _ o e,Nw,ho.trans x.os,hN.trans x.n,
  λn c e=>(x.cells n c e).to le (x.lt e) (x.cells n c e).below λa o e=>hk a _ o e⟩⟩
theorem Lay.grow_old{r:Addr→Option Ro}{h':Heap}{y:Ro×Obj}(e:L.G a=some y):(L.grow r h').G a=some y:=by refine(?_:(match L.G a with|some y=>some y|none=>_)=_);rw[e]
theorem Lay.grow_new{r:Addr→Option Ro}{h':Heap}{k:Ro}(e:L.G a=none)(hr:r a=some k)(h:h'.get? a=some o):(L.grow r h').G a=some (k,o):=by refine(?_:(match L.G a with|some y=>some y|none=>_)=_);simp only[e,hr,h];rfl
theorem Lay.grow_get{r:Addr→Option Ro}{h':Heap}{k:Ro}(h:(L.grow r h').G a=some (k,o)):L.G a=some (k,o)∨(r a=some k∧h'.get? a=some o):=by
 have h:(match L.G a with|some y=>some y|none=>(r a).bind λk=>(h'.get? a).map λo=>(k,o))=_:=h
 induction e:L.G a using oA with
 |some y=>rw[e] at h;exact .inl h|none=>rw[e] at h;refine aQ (QU.mp h) λk' e1 h=>aQ (Q0.mp h) λo' e2 h=>?_;cases h;exact .inr ⟨e1,e2⟩
theorem SR.no(x:SR U P)(e:P.s.heap.get? a=none):P.L.G a=none:=by
 induction h:P.L.G a using oA with
 |none=>rfl|some y=>exact nomatch e.symm.trans (x.g h)
theorem SR.grow(x:SR U P)(r:Addr→Option Ro)(e:Ext P.s s'):To U b F P ⟨P.L.grow r s'.heap,P.σ,s'⟩:=
 x.told (λa k o=>Lay.grow_old) (λh=>(Lay.grow_get h).elim (λq=>e.keep (x.g q)) λq=>q.2) rfl rfl (e.gens▸x.gens) e.os
theorem SR.ext(x:SR U P)(e:Ext P.s s'):To U b F P (P.ext s'):=x.grow _ e
theorem SR.ext_new(x:SR U P)(n:P.s.heap.get? a=none)(e:s'.heap.get? a=some o):(P.ext s').L.At a o:=Lay.grow_new (x.no n) (by delta t5;exact n▸rfl) e
theorem SR.put(x:SR U P){o':Obj}(e:P.L.G a=some (.lent,o)){k:Ro}(hk:k= .lent∨k= .imm)(hs:S6 a P.s.heap s'.heap)(e':s'.heap.get? a=some o')(hF:F a)(hg:s'.gens=P.s.gens)(ho:s'.os=P.s.os):
 To U b F P ⟨P.L.put a k o',P.σ,s'⟩:=
 have ne:∀ {b r o2},P.L.G b=some (r,o2)→r≠ .lent→(P.L.put a k o').G b=some _:=λ {b r o2} h hr=>by refine(?_:(if b=a then _ else _)=_);rw[iN (by rintro rfl;rw[e] at h;obtain⟨rfl,rfl⟩:=pJ (sJ h);exact hr rfl)];exact h
 have le:P.L.Le P.L.N _:=⟨λb o h=>ne h nofun,λo_ o_=>rfl,nR⟩
 ⟨le,λb o h hb=>by refine(?_:(if b=a then _ else _)=_);rw[iN (by rintro rfl;exact hb hF)];exact h,.refl _,⟨x.base,λ {b r o2} h=>by
  by_cases q:b=a
  ·subst q;have h:(if b=b then some _ else P.L.G b)=_:=h;rw[iP rfl] at h;obtain⟨rfl,rfl⟩:=pJ (sJ h);exact e'
  ·have h:(if b=a then some _ else P.L.G b)=_:=h;rw[iN q] at h;exact(hs.2 b q).trans (x.g h),
  λb o h t=>ne (x.h0 b o h t) nofun,λt ht=>(x.tabs t ht).to le λb o h=>ne h nofun,hg▸x.gens,ho.trans x.os,x.n,λn c h=>(x.cells n c h).to le (x.lt h) (x.cells n c h).below λb o h=>ne h nofun⟩⟩
end
theorem rQ:∀ (l:List (List Nat)) (n:Nat) (x:List Nat) (k:Nat),oM l n x=some k→n≤k∧k<n+l.length∧l.getD (k -n) []=x:=by
 intro L_;induction L_ with
 |nil=>intro o_ o_ o_ h;exact nomatch h
 |cons y r IH_=>
  intro n x k h;have h:(if _=true then some n else oM r _ x)=_:=h
  induction e:y==x using bC with
  |true=>rw[e,iP rfl] at h;obtain rfl:=sJ h;exact ou nR (Nat.lt_add_of_pos_right (Ra _)) (by rw[Rb];exact bA e)|false=>rw[e,iN fF] at h;refine dR (IH_ (n+1) x k h) λa b c=>ou (Qx (by assumption)) (by simp only[QK];exact aZ [_,_,_] (.h 1 (.a ab ai) (.a (.a ae ai) af) (.g (.a ab ai) (.a ae (.a af ai)))) rfl b) ?_;rw[show k -n=(k -(n+1))+1 by exact Qg (aZ [_,_,_,_] (.h 1 (.a ab ae) af (.h 1 af (.a ag (.a ae ai)) (.g ab (.a ag ai)))) rfl (nE (sC (aZ [n,k] (.h 1 (.a ab ai) ae (.g ab ae)) rfl a))) (iW _ _)) (aZ [_,_,_,_] (.h 1 (.a ab (.a ae ai)) af (.h 1 af (.a ag ae) (.g (.a ab ai) ag))) rfl (nE (sC a)) (iW _ _))];exact c
theorem bx{x:Str}{k:Nat}(h:idOf x=some k):k<NT∧nm k=x:=
 dR (rQ gK 0 x.cps.toList k h) λo_ b c=>
 ⟨by simpa[show gK.length=204 from rfl] using b,show(⟨(gK.getD k []).toArray⟩:Str)=x by rw[show gK.getD k []=_ from c]⟩
theorem GN:((Qb NT).all λk=>idOf (nm k)==some k&& !(nm k==("__debug__":Str))&& !(nm k==("__classdict__":Str)))=true:=rfl
theorem kq{k:Nat}(h:k<NT):idOf (nm k)=some k∧(nm k==("__debug__":Str))=false∧(nm k==("__classdict__":Str))=false:=by have:=lA GN k (QE.mpr h);simpa[and_assoc] using this
theorem l6{k k':Nat}(h:k<NT)(h':k'<NT)(e:nm k=nm k'):k=k':=sJ ((kq h).1.symm.trans ((cG idOf e).trans (kq h').1))
theorem dE{sc:Scope}{x:Str}{k:Nat}(h:cu sc x= .v k):idOf x=some k∧(sc.names.lookup x=some .local∨sc.names.lookup x=some .cell∨sc.names.lookup x=some .free):=by
 delta cu at h;generalize sc.names.lookup x=l at h⊢;generalize idOf x=i at h⊢
 induction l using oA with
 |none=>injection h
 |some y=>
  induction i using oA with
  |none=>induction y using PySem.NameKind.casesOn<;>injection h|some k'=>induction y using PySem.NameKind.casesOn<;>first|(injection h;done)|(injection h with h;have h:=cG some h;first|exact⟨h,.inl rfl⟩|exact⟨h,.inr (.inl rfl)⟩|exact⟨h,.inr (.inr rfl)⟩)
theorem eE{sc:Scope}{x:Str}{k:Nat}(h:cu sc x= .g k):idOf x=some k∧sc.names.lookup x=some .globalImplicit:=by
 delta cu at h;generalize sc.names.lookup x=l at h⊢;generalize idOf x=i at h⊢
 induction l using oA with
 |none=>injection h
 |some y=>
  induction i using oA with
  |none=>induction y using PySem.NameKind.casesOn<;>injection h|some k'=>induction y using PySem.NameKind.casesOn<;>first|(injection h;done)|(injection h with h;subst h;exact⟨rfl,rfl⟩)
theorem cQ(y:Nat)(u:V)(r:aF)(k:Nat):aE ((y,u)::r) k=if k==y then some u else aE r k:=by delta aE;rw[QW];cases k==y<;>rfl
theorem fw:∀ (ρ:aF) (k:Nat) (v:V) (j:Nat),aE (bT ρ k v) j=if j=k then some v else aE ρ j:=by
 intro ρ;induction ρ with
 |nil=>intro k v j;show aE [(k,v)] j=_;rw[cQ];simp
 |cons z r ih=>
  intro k v j;obtain⟨y,u⟩:=z;show aE (if _=true then(y,v)::r else(y,u)::bT r k v) j=_;split
  ·rename_i e;rw[bA e,cQ,cQ];simp only[beq_iff_eq];split<;>rfl
  ·rename_i e;have e:¬ y=k:=λq=>e (by rw[q];exact beq_self_eq_true k);simp only[cQ,ih k v j,beq_iff_eq]
   by_cases q:j=y
   ·rw[iP q,iP q,iN (q▸e)]
   ·rw[iN q,iN q]
structure Kx where
 U:Wd
 A:Around
 d:Nat
 c:Cx
 env:Env
 ws:Scope
 F:AP
noncomputable abbrev HK(sc:Scope)(k:Nat):Prop:=k<NT∧kK sc (nm k)=true
noncomputable def Jy(K:Kx)(L:Lay)(m:Str→Option Value)(k:Nat)(v:V):Prop:=
 (K.env.kindOf (nm k)=some .local∧∃x,m (nm k)=some x∧VR L v x)∨
 ((K.env.kindOf (nm k)=some .cell∨K.env.kindOf (nm k)=some .free)∧∃c o x,K.env.cells.lookup (nm k)=some c∧(L.At c o∨(L.G c=some (.lent,o)∧k∉K.c.fz))∧o.data= .cell (some x)∧VR L v x)
noncomputable def Jp(K:Kx)(ρ:aF)(L:Lay)(k:Nat):Prop:=
 K.env.kindOf (nm k)=some .local∨
 (K.env.kindOf (nm k)=some .cell∧((k∈K.c.fz→aE ρ k=none)→∃c o v,K.env.cells.lookup (nm k)=some c∧K.F c∧L.G c=some (.lent,o)∧o.data= .cell v∧∀x,K.env.cells.lookup x=some c→x=nm k))
structure FR(K:Kx)(ρ:aF)(L:Lay):Prop where
 kind:K.env.scope.kind= .function
 gl:K.env.globals=mainGlobals
 bl:K.env.builtins=builtinsNs
 loc:K.F K.env.locals
 ns:∃o m,L.G K.env.locals=some (.lent,o)∧Bv o m∧∀k v,aE ρ k=some v→k<NT∧Jy K L m k v
 st:∀k,HK K.ws k→Jp K ρ L k
 cl:∀n,(K.env.kindOf n=some .cell∨K.env.kindOf n=some .free)→∃c,K.env.cells.lookup n=some c
 lt:∀n c,K.env.cells.lookup n=some c→∃o,L.At c o∨L.G c=some (.lent,o)
 ft:∀a,K.F a→a=K.env.locals∨∃n,K.env.cells.lookup n=some a
 cd:K.c.fz≠[]→∃t∈TQ,K.env.code= .ref t.1∧t.2.2=K.env.qual++(if K.c.fz=[1] then("<genexpr>":Str) else("<lambda>":Str))
structure RoomA(A:Around)(d:Nat):Prop where
 h:A.handled=none
 depth:A.depth+4*d+4<1000
 units:A.units+20*d+20<9900
structure Kx.At(K:Kx)(ρ:aF)(P:Pt):Prop where
 room:RoomA K.A K.d
 low:K.c.b≤P.L.N
 sr:SR K.U P
 fr:FR K ρ P.L
noncomputable def Apart(K:Kx)(a:Addr):Prop:=¬ K.F a∧∀n c,K.env.cells.lookup n=some c→c≠a
noncomputable abbrev WP(β:Type):=(β→Shared→Prop)→(Value→Shared→Prop)→Shared→Prop
noncomputable abbrev Kx.w{β:Type}(K:Kx)(t:Sem β):WP β:=wpAny (model pw K.U.w) K.A t
noncomputable abbrev qG{β δ:Type}(W:WP β)(g:β→WP δ):WP δ:=λQ E s=>W (λx s1=>g x Q E s1) E s
structure SimW{α β:Type}(K:Kx)(F:AP)(P:Pt)(R:Pt→α→β→Prop)(m:Option α)(W:WP β):Prop where
 run:∀ {a:_},m=some a→∀Q E,(∀P' x,To K.U K.c.b F P P'→R P' a x→Q x P'.s)→W Q E P.s
noncomputable abbrev hO{α β:Type}(K:Kx)(F:AP)(P:Pt)(R:Pt→α→β→Prop)(m:Option α)(t:Sem β):Prop:=SimW K F P R m (K.w t)
structure SimT(K:Kx)(P:Pt)(m:Option (V×aq))(W:WP Bool):Prop where
 run:∀ {v σ' b:_},m=some (v,σ')→aN σ' v=some b→∀Q E,(∀P',To K.U K.c.b cz P P'→P'.σ=σ'→Q b P'.s)→W Q E P.s
noncomputable abbrev RE{α β:Type}(R:Pt→α→β→Prop)(P:Pt)(a:α×aq)(x:β):Prop:=a.2=P.σ∧R P a.1 x
noncomputable abbrev RV(P:Pt)(v:V)(x:Value):Prop:=VR P.L v x
noncomputable abbrev MB(P:Pt)(v:List V)(x:List Value):Prop:=bQ P.L v x
noncomputable abbrev RT(P:Pt)(v b:Bool):Prop:=v=b
noncomputable abbrev RB(K:Kx)(P:Pt)(a:aF×aq)(x:Unit):Prop:=a.2=P.σ∧FR K a.1 P.L
noncomputable def Mh(L:Lay):Fl→Flow→Prop
 |.next,f=>f= .next|.brk,f=>f= .brk|.cont,f=>f= .cont|.ret v,f=>∃x,f= .ret x∧VR L v x
noncomputable abbrev RS(K:Kx)(P:Pt)(a:Fl×aF×aq)(x:Flow):Prop:=a.2.2=P.σ∧FR K a.2.1 P.L∧Mh P.L a.1 x
section
variable {K:Kx} {F F':AP} {P P':Pt} {ρ ρ':aF} {L L':Lay} {b:Nat} {α β γ δ:Type} {R:Pt→α→β→Prop} {R':Pt→γ→δ→Prop}
theorem Jy.le(g:L.Le L.N L'){m:Str→Option Value}{k:Nat}{v:V}(hj:∀c o x,K.env.cells.lookup (nm k)=some c→o.data= .cell x→L.G c=some (.lent,o)→L'.G c=some (.lent,o)):Jy K L m k v→Jy K L' m k v:=λz=>z.imp (U7 λz=>aQ z λx e r=>a7 x e (r.le g)) (U7 λz=>sz z λc o x e h d r=>Ih c o x e (h.imp (g.i _ _) (And.imp_left (hj _ _ _ e d))) d (r.le g))
theorem Jp.to(hj:∀a o,L.G a=some (.lent,o)→L'.G a=some (.lent,o)){k:Nat}:Jp K ρ L k→Jp K ρ L' k
 |.inl q=>.inl q|.inr z3=>d7 z3 λq h=>.inr ⟨q,λe=>sz (h e) λc o v a1 a2 a3 a4=>⟨c,o,v,a1,a2,hj _ _ a3,a4⟩⟩
theorem FR.to(x:FR K ρ L)(g:L.Le L.N L')(hj:∀a o,L.G a=some (.lent,o)→L'.G a=some (.lent,o)):FR K ρ L':=
 {x with
  ns:=fk x.ns λo m e d h=>⟨o,m,hj _ _ e,d,λk v q=>⟨(h k v q).1,(h k v q).2.le g λc o o_ o_ o_=>hj c o⟩⟩
  st:=λk h=>(x.st k h).to hj
  lt:=λn c e=>(x.lt n c e).imp λo=>Or.imp (g.i _ _) (hj _ _)}
theorem FR.congr(x:FR K ρ L)(e:∀k,aE ρ k=aE ρ' k):FR K ρ' L:=
 {x with
  ns:=fk x.ns λo m h1 h2 h3=>⟨o,m,h1,h2,λk v q=>h3 k v ((e k).trans q)⟩
  st:=λk h=>(x.st k h).imp id λz1=>d7 z1 λq f=>⟨q,λy=>f λz=>(e k).trans (y z)⟩}
theorem Kx.At.to(p:K.At ρ P)(T:To K.U b cz P P'):K.At ρ P':=⟨p.room,nT p.low T.le.n,T.sr,p.fr.to T.le λa o e=>T.j a o e id⟩
theorem Kx.At.toF(p:K.At ρ P)(T:To K.U b F P P')(f:FR K ρ' P'.L):K.At ρ' P':=⟨p.room,nT p.low T.le.n,T.sr,f⟩
section
variable {m:Option α} {W W':WP β} {f:α→Option γ} {g:β→WP δ} {G:β→Sem δ} {t:Sem β}
theorem SimW.go(h:SimW K F P R m W){a:α}(e:m=some a){Q E}(q:∀P' x,To K.U K.c.b F P P'→R P' a x→Q x P'.s):W Q E P.s:=h.run e Q E q
theorem SimT.go{m:Option (V×aq)}{W:WP Bool}(h:SimT K P m W){v σ' b}(e:m=some (v,σ'))(ht:aN σ' v=some b){Q E}(q:∀P',To K.U K.c.b cz P P'→P'.σ=σ'→Q b P'.s):W Q E P.s:=h.run e ht Q E q
theorem SimW.bind(h1:SimW K F P R m W)(h2:∀P' a x,To K.U K.c.b F P P'→R P' a x→SimW K F P' R' (f a) (g x)):SimW K F P R' (m.bind f) (qG W g):=⟨λ {a} e Q E h=>
 aQ (QU.mp e) λo_ e1 e2=>
 h1.go e1 λP1 x T hx=>(h2 P1 _ x T hx).go e2 λP2 y T2 hy=>h P2 y (T.trans T2) hy⟩
theorem SimW.bindE{m:Option (α×aq)}{f:α×aq→Option γ}(h1:SimW K F P (RE R) m W)(h2:∀P',To K.U K.c.b F P P'→∀a x,R P' a x→SimW K F P' R' (f (a,P'.σ)) (g x)):SimW K F P R' (m.bind f) (qG W g):=
 h1.bind λP' a x T h=>by have h3:=h2 P' T a.1 x h.2;rwa [←h.1] at h3
theorem SimT.bind{m:Option (V×aq)}{W:WP Bool}{f:V×aq→Option γ}{k:aq→Bool→Option γ}{g:Bool→WP δ}(h1:SimT K P m W)(hf:∀v σ,f (v,σ)=(aN σ v).bind (k σ))(h2:∀P',To K.U K.c.b cz P P'→∀b,SimW K F P' R' (k P'.σ b) (g b)):SimW K F P R' (m.bind f) (qG W g):=⟨λ {a} e Q E h=>by refine aQ (QU.mp e) λz2 e1 e2=>?_;obtain⟨v,σ1⟩:=z2;rw[hf] at e2;exact aQ (QU.mp e2) λb e2 e3=>h1.go e1 e2 λP1 T hs=>(h2 P1 T b).go (hs▸e3) λP2 y T2 hy=>h P2 y (T.wide.trans T2) hy⟩
theorem SimW.to(h:SimW K F P R m W)(k:∀ {Q E},W Q E P.s→W' Q E P.s):SimW K F P R m W':=⟨λe o_ o_ q=>k (h.go e q)⟩
theorem SimT.to{m:Option (V×aq)}{W W':WP Bool}(h:SimT K P m W)(k:∀ {Q E},W Q E P.s→W' Q E P.s):SimT K P m W':=⟨λe e2 o_ o_ q=>k (h.go e e2 q)⟩
theorem SimW.bad:SimW K F P R none W:=⟨λe=>nomatch e⟩
theorem SimW.ite{c:Prop}[Decidable c](h:c→SimW K F P R m W):SimW K F P R (if c then m else none) W:=by
 by_cases q:c
 ·rw[iP q];exact h q
 ·rw[iN q];exact .bad
theorem hO.ret{a:α}{x:β}(p:SR K.U P)(h:R P a x):hO K F P R (some a) (pure x):=⟨λe o_ o_ q=>by obtain rfl:=sJ e;exact wP (q _ _ (To.refl p) h)⟩
theorem SimW.ext(p:SR K.U P)(h:∀ {a},m=some a→∀Q E,(∀s' x,Ext P.s s'→R (P.ext s') a x→Q x s')→W Q E P.s):SimW K F P (RE R) (m.map λv=>(v,P.σ)) W:=⟨λe o_ o_ q=>by refine aQ (Q0.mp e) λb e1 e2=>?_;subst e2;exact h e1 _ _ λs' x y z=>q _ _ (p.ext y) ⟨rfl,z⟩⟩
end
theorem eM{M:Model}{A:Around}{E:Aa}{k:Nat}{v:V}{Q:Aa}(p:K.At ρ P)(e:aE ρ k=some v)(h:∀y,VR P.L v y→Q y P.s):wpAny M A (loadName K.env (nm k)) Q E P.s:=
 fk p.fr.ns λo m h1 h2 h3=>
 d7 (h3 k v e) λhk at_=>
 at_.elim (λz=>aQ z.2 λx hx r=>have q:=z.1;wpAny_loadName_local p.fr.kind q (h2.ns (p.sr.g h1)) hx (h x r)) λz=>sz z.2 λc o x hc ho d r=>z.1.elim (λq=>wpAny_loadName_cell p.fr.kind q hc ⟨o,ho.elim p.sr.g λz=>p.sr.g z.1,d⟩ (h x r)) λq=>wpAny_loadName_free p.fr.kind q hc ⟨o,ho.elim p.sr.g λz=>p.sr.g z.1,d⟩ (h x r) (kq hk).2.2
theorem Lay.put_ne{b:Addr}{k:Ro}{y:Option (Ro×Obj)}(h:b≠a)(e:L.G b=y):(L.put a k o).G b=y:=(iN h).trans e
theorem Lay.put_self{k:Ro}:(L.put a k o).G a=some (k,o):=iP rfl
theorem hZ{k:Nat}{v:V}{y:Value}(p:K.At ρ P)(hW:HK K.ws k)(hz:k∈K.c.fz→aE ρ k=none)(hv:VR P.L v y):hO K K.F P (RB K) (some (bT ρ k v,P.σ)) (storeName K.env (nm k) y):=⟨λe0 Q E h=>by
 obtain rfl:=sJ e0;refine fk p.fr.ns λo m h1 h2 h3=>?_;rcases p.fr.st k hW with q|⟨q,hc⟩
 ·refine wpAny_storeName_local q (h2.ns (p.sr.g h1)) (λh' hn hs=>?_) (by refine p.fr.kind▸?_;rfl);refine aQ (Bv.of hn) λo' NX hn=>?_;have T:=p.sr.put (b:=K.c.b) (s':={P.s with heap:=h',toks:=P.s.toks+1}) h1 (.inl rfl) hs NX p.fr.loc rfl rfl;refine h _ () T ⟨rfl,{p.fr with ns:=⟨o',_,Lay.put_self,hn,λj u e=>?_⟩,st:=λj hj=>?_,lt:=λn c e=>?_}⟩
  ·rw[fw] at e
   by_cases jk:j=k
   ·rw[iP jk] at e;obtain rfl:=sJ e;subst jk;exact⟨hW.1,.inl ⟨q,y,iP rfl,hv.le T.le⟩⟩
   ·rw[iN jk] at e;refine d7 (h3 j u e) λhj x=>⟨hj,(x.le T.le λc o x o_ hd hc=>Lay.put_ne ?_ hc).imp (λ⟨a,x,b,r⟩=>⟨a,x,(iN λz=>jk (l6 hj hW.1 z)).trans b,r⟩) id⟩;rintro rfl;obtain⟨es,ep,hd2,_⟩:=h2;rw[h1] at hc;cases hc;rw[hd2] at hd;cases hd
  ·refine(p.fr.st j hj).elim .inl λz6=>d7 z6 λa f=>?_
   by_cases jk:j=k
   ·subst jk;exact .inl q
   ·refine .inr ⟨a,λz=>?_⟩;rw[fw,iN jk] at z;refine Jj (f z) λc oc vc c1 c2 c3 c4 c5=>JB c oc vc c1 c2 (Lay.put_ne ?_ c3) c4 c5;rintro rfl;obtain⟨es,ep,hd,_⟩:=h2;rw[h1] at c3;cases c3;rw[hd] at c4;cases c4
  ·by_cases z:c=K.env.locals
   ·subst z;exact⟨o',.inr Lay.put_self⟩
   ·exact(p.fr.lt n c e).imp λo x=>x.imp (Lay.put_ne z) (Lay.put_ne z)
 ·refine Jj (hc hz) λc oc vc c1 c2 c3 c4 c5=>wpAny_storeName_cell p.fr.kind q c1 ⟨oc,p.sr.g c3,c4⟩ λh' hi hs=>?_;obtain⟨o',NX,O7⟩:=hi
  obtain⟨t,ht,hi,hl⟩:∃t:Ro,(t= .lent∨t= .imm)∧(t= .imm∨(t= .lent∧k∉K.c.fz))∧(k∉K.c.fz→t= .lent):=by
   by_cases kz:k∈K.c.fz
   ·exact sx (.imm) (.inr rfl) (.inl rfl) (λz=>absurd kz z)
   ·exact sx (.lent) (.inl rfl) (.inr ⟨rfl,kz⟩) (λo_=>rfl)
  have cl:K.env.locals≠c:=by rintro rfl;obtain⟨es,ep,hd,_⟩:=h2;rw[h1] at c3;cases c3;rw[hd] at c4;cases c4
  refine h _ () (p.sr.put (s':={P.s with heap:=h'}) c3 ht hs NX c2 rfl rfl) ⟨rfl,{p.fr with ns:=⟨o,m,Lay.put_ne cl h1,h2,λj u e=>?_⟩,st:=λj hj=>?_,lt:=λn d e=>?_}⟩
  ·rw[fw] at e
   by_cases jk:j=k
   ·rw[iP jk] at e;obtain rfl:=sJ e;subst jk;exact⟨hW.1,.inr ⟨.inl q,c,o',y,c1,hi.elim (λz=>.inl (by refine z▸?_;exact Lay.put_self)) λz=>.inr ⟨by refine z.1▸?_;exact Lay.put_self,z.2⟩,O7,hv.le (p.sr.put (b:=K.c.b) (s':={P.s with heap:=h'}) c3 ht hs NX c2 rfl rfl).le⟩⟩
   ·rw[iN jk] at e;exact⟨(h3 j u e).1,(h3 j u e).2.le (p.sr.put (b:=K.c.b) (s':={P.s with heap:=h'}) c3 ht hs NX c2 rfl rfl).le λc' o' x a1 o_ a3=>Lay.put_ne (λe'=>jk (l6 (h3 j u e).1 hW.1 (c5 _ (e'▸a1)))) a3⟩
  ·refine(p.fr.st j hj).imp id λz5=>d7 z5 λa f=>⟨a,λz=>?_⟩
   by_cases jk:j=k
   ·subst jk;refine JB c o' (some y) c1 c2 ?_ O7 c5;refine(hl λkz=>by have:=z kz;rw[fw,iP rfl] at this;cases this)▸?_;exact Lay.put_self
   ·rw[fw,iN jk] at z;exact Jj (f z) λc' oc' vc' a1 a2 a3 a4 a5=>JB c' oc' vc' a1 a2 (Lay.put_ne (λe=>jk (l6 hj.1 hW.1 (c5 _ (e▸a1)))) a3) a4 a5
  ·by_cases z:d=c
   ·subst z;exact⟨o',ht.elim (λz=>.inr (by rw[z];exact Lay.put_self)) λz=>.inl (by rw[z];exact Lay.put_self)⟩
   ·exact(p.fr.lt n d e).imp λo x=>x.imp (Lay.put_ne z) (Lay.put_ne z)⟩
end
end Internal
namespace Internal
open PySem PySem.W PySem.Calls PyProof.Rows PySem.SeqAt
variable {a:V}{x y:Value}{i:Int}{t:Bool}{Q:Aa}
section
variable {U:Wd} {K:Kx} {F:AP} {P:Pt} {L:Lay} {A:Around} {E:Aa}
theorem bQ.len{xs:List V}:∀ {vs:List Value},bQ L xs vs→xs.length=vs.length:=by
 induction xs with
 |nil=>rintro _ rfl;rfl|cons x xs ih=>rintro _ ⟨v,t,rfl,_,b⟩;exact cG (· +1) (ih b)
theorem bQ.get{xs:List V}:∀ {vs:List Value} {j:Nat} {x:V},bQ L xs vs→xs[j]?=some x→∃v,vs[j]?=some v∧VR L x v:=by
 induction xs with
 |nil=>intro vs j x r e;cases e
 |cons x xs ih=>
  rintro _ j y ⟨v,t,rfl,a,b⟩ e
  induction j using Qy with
  |zero=>obtain rfl:=sJ e;exact a7 v rfl a|succ j=>exact ih (j:=j) b e
theorem bQ.append{ys:List V}{us:List Value}{xs:List V}:∀ {vs:List Value},bQ L xs vs→bQ L ys us→bQ L (xs++ys) (vs++us):=by
 induction xs with
 |nil=>intro vs r q;refine(show _=_ from r)▸?_;exact q|cons x xs ih=>rintro _ ⟨v,t,rfl,a,b⟩ q;exact⟨v,_,rfl,a,ih b q⟩
theorem bQ.drop{xs:List V}:∀ {vs:List Value} (n:Nat),bQ L xs vs→bQ L (xs.drop n) (vs.drop n):=by
 induction xs with
 |nil=>rintro _ n rfl;induction n using Qy<;>rfl
 |cons x xs ih=>
  intro vs n r
  induction n using Qy with
  |zero=>exact r|succ n=>obtain⟨v,t,rfl,a,b⟩:=r;exact ih n b
theorem bQ.take{xs:List V}:∀ {vs:List Value} (n:Nat),bQ L xs vs→bQ L (xs.take n) (vs.take n):=by
 induction xs with
 |nil=>rintro _ n rfl;induction n using Qy<;>rfl
 |cons x xs ih=>
  intro vs n r
  induction n using Qy with
  |zero=>rfl|succ n=>obtain⟨v,t,rfl,a,b⟩:=r;exact⟨v,_,rfl,a,ih n b⟩
theorem bQ.rev{xs:List V}:∀ {vs:List Value},bQ L xs vs→bQ L xs.reverse vs.reverse:=by
 induction xs with
 |nil=>rintro _ rfl;rfl|cons x xs ih=>rintro _ ⟨v,t,rfl,a,b⟩;simp only[UD];exact(ih b).append ⟨v,[],rfl,a,rfl⟩
theorem uo.list{c:String}{o:Obj}{vs:List Value}(i:uo c o vs):vs.length≤lim∧o.cls= .type c∧∃n,o.data= .seq vs.toArray n:=by obtain⟨h,n,rfl⟩:=i;exact ou h rfl ⟨n,rfl⟩
theorem dg{α:Prop}(e:false=true):α:=nomatch e
theorem no{α:Prop}{β:Type}{a:β}(e:none=some a):α:=nomatch e
theorem l4{α:Type}{a b:Option α}{v:α}(e:a.or b=some v):a=some v∨b=some v:=by
 induction a using oA with
 |none=>exact .inr e|some a=>exact .inl e
theorem cN{α β:Type}{f:α→β}{o:Option α}{b:β}(e:o.map f=some b):∃a,o=some a∧f a=b:=Q0.mp e
theorem eL{α β:Type}{f:α→Option β}{o:Option α}{b:β}(e:o.bind f=some b):∃a,o=some a∧f a=some b:=QU.mp e
theorem fO{α:Type}{c:Prop}[Decidable c]{a b:α}(e:(if c then some a else none)=some b):c∧a=b:=by
 by_cases h:c
 ·rw[iP h] at e;exact⟨h,sJ e⟩
 ·rw[iN h] at e;exact no e
theorem de{v:V}(r:VR L v x)(e:EW v=some i):∃t,x= .int i t:=by
 induction v using Internal.V.casesOn with
 |int j=>exact sJ e▸r|_=>exact no e
theorem bR{v:V}{i:Ab}(r:VR L v x)(e:mT v=some i):∃t,x= .bytes i.toArray t∧i.length≤lim:=by
 induction v using Internal.V.casesOn with
 |bytes j=>exact sJ e▸r|_=>exact no e
theorem dH{v:V}{i:List Nat}(r:VR L v x)(e:Bm v=some i):∃t,x= .str ⟨i.toArray⟩ t∧i.length≤lim:=by
 induction v using Internal.V.casesOn with
 |str j=>exact sJ e▸r|_=>exact no e
theorem nX{v:V}{i:Bool}(r:VR L v x)(e:FL v=some i):x= .bool i:=by
 induction v using Internal.V.casesOn with
 |bool j=>exact sJ e▸r|_=>exact no e
noncomputable def JI:Option Bool→Value
 |none=>.none|some b=>.bool b
theorem jR{v:V}{i:Option Bool}(r:VR L v x)(e:I9 v=some i):x=JI i:=by
 induction v using Internal.V.casesOn with
 |none=>exact sJ e▸r|bool j=>exact sJ e▸r|_=>exact no e
section
variable {α:Type} {C:Value→Value→α→Prop} {a b:V} {x y:Value} {r:α}
theorem oY{f:Int→Int→Option α}(h:∀i j t u r,f i j=some r→C (.int i t) (.int j u) r)(ha:VR L a x)(hb:VR L b y)(e:i2 f a b=some r):C x y r:=by refine bu e λi e1 e=>bu e λj e2 e=>?_;obtain⟨t,h1⟩:=de ha e1;obtain⟨u,h2⟩:=de hb e2;simp only[h1,h2];exact h i j t u r e
theorem ez{f:Int→Int→α}(h:∀i j t u,C (.int i t) (.int j u) (f i j))(ha:VR L a x)(hb:VR L b y)(e:i2 (λi j=>some (f i j)) a b=some r):C x y r:=
 oY (λi j t u r e=>sJ e▸h i j t u) ha hb e
theorem lg{f:Ab→Ab→Option α}(h:∀i j t u r,i.length≤lim→j.length≤lim→f i j=some r→C (.bytes i.toArray t) (.bytes j.toArray u) r)(ha:VR L a x)(hb:VR L b y)(e:y2 f a b=some r):C x y r:=by refine bu e λi e1 e=>bu e λj e2 e=>aQ (bR ha e1) λt h1 l1=>aQ (bR hb e2) λu h2 l2=>?_;simp only[h1,h2];exact h i j t u r l1 l2 e
theorem v3{f:List Nat→List Nat→Option α}(h:∀i j t u r,i.length≤lim→j.length≤lim→f i j=some r→C (.str ⟨i.toArray⟩ t) (.str ⟨j.toArray⟩ u) r)(ha:VR L a x)(hb:VR L b y)(e:s2 f a b=some r):C x y r:=by refine bu e λi e1 e=>bu e λj e2 e=>aQ (dH ha e1) λt h1 l1=>aQ (dH hb e2) λu h2 l2=>?_;simp only[h1,h2];exact h i j t u r l1 l2 e
end
theorem dr{h:Heap}{a:Addr}{xs:Array Value}(x:∃n,IsL h a xs n):h.IsList a xs:=ek x λn e=>⟨_,e,rfl,n,rfl⟩
noncomputable def IT(P:Pt)(x:Value)(xs:List V):Prop:=∃a vs,x= .ref a∧(∃n,IsL P.s.heap a vs.toArray n)∧vs.length≤lim∧bQ P.L xs vs
noncomputable def Kh(P:Pt)(x:Value)(xs:List V):Prop:=∃a vs,x= .ref a∧(P.s.heap.IsList a vs.toArray∨P.s.heap.IsTuple a vs.toArray)∧vs.length≤lim∧bQ P.L xs vs
theorem bk(p:SR U P){v:V}{xs:List V}(hv:VR P.L v x)(e:bc P.σ v=some xs):IT P x xs:=by
 induction v using Internal.V.casesOn with
 |list ys=>obtain⟨a,o,vs,hx,ho,hs,hr⟩:=hv;exact⟨a,vs,hx,hs.2.imp λn q=>(p.g ho).trans (cG some q),hs.1,sJ e▸hr⟩
 |o n=>
  have e:(match P.σ[n]? with|some (.list xs)=>some xs|_=>none)=_:=e
  induction h:P.σ[n]? using oA with
  |none=>rw[h] at e;exact no e
  |some c=>
   rw[h] at e
   induction c using Internal.Cell.casesOn with
   |obj C fs=>exact no e|list ys=>obtain⟨o,vs,ho,hs,hr⟩:=p.cells n _ h;exact⟨_,vs,hv.2,hs.2.imp λn q=>(p.g ho).trans (cG some q),hs.1,sJ e▸hr⟩
 |_=>exact no e
theorem iC(p:SR U P){v:V}{xs:List V}(hv:VR P.L v x)(e:rA P.σ v=some xs):Kh P x xs:=by
 rcases l4 e with e|e
 ·obtain⟨a,vs,h1,h2,h3⟩:=bk p hv e;exact⟨a,vs,h1,.inl (dr h2),h3⟩
 ·induction v using Internal.V.casesOn with|t ys=>obtain⟨a,o,vs,hx,ho,hs,hr⟩:=hv;exact⟨a,vs,hx,.inr ⟨o,p.g ho,hs.list.2⟩,hs.1,sJ e▸hr⟩|_=>exact no e
theorem n8{n:Nat}(h:n≤lim):(n:Int)<2 ^ 63:=by delta lim at h;lia
theorem fZ(p:SR U P){v:V}{Q:Bool→Shared→Prop}(hv:VR P.L v x)(e:aN P.σ v=some t)(h:∀s',Ext P.s s'→Q t s'):wpAny (model pw U.w) A (truthy x) Q E P.s:=by
 rcases l4 e with e|e
 ·refine(nX hv e)▸?_;exact wpAny_truthy_bool (h _ (Ext.refl _))
 rcases l4 e with e|e
 ·refine eN e λc e1 e2=>aQ (bR hv e1) λu hx hl=>?_;have:(((c.toArray.size:Nat):Int) !=0)=t:=by simp only[←e2];induction c using lC<;>simp;lia
  refine hx▸?_;exact truthy_bytes (by delta lim at hl;simp;exact cj hl rfl) (this▸h _ (Ext.tok _ _))
 ·refine cps λX_ k_=>eN e λxs e1 e2=>?_;obtain⟨a,vs,hx,hl,hn,hr⟩:=bk p hv e1
  have:(!vs.toArray.isEmpty)=t:=by
   have:=hr.len
   induction xs using lC<;>induction vs using lC<;>first|exact e2|cases this
  refine k_ ?_;refine hx▸?_;exact wpAny_truthy_list (dr hl) (n8 hn) (this▸h _ (Ext.tok _ _))
noncomputable def LW(A:Around)(s:Shared)(x y:Value)(t:Bool):Prop:=EqAt A s x y t∧RcAt A s x y t∧RcNeAt A s x y (!t)∧(x=y→t=true)
theorem qP{p q:Ab}:decide (p=q)=(p==q):=by cases h:p==q<;>simp_all
theorem xp{s:Shared}{c:V}(ha:VR L a x)(hc:VR L c y)(e:Jw a c=some t):LW A s x y t:=by
 rcases l4 e with e|e
 ·exact ez (λi j t u=>⟨EqAt.int_int _ _ _ _,RcAt.int_int _ _ _ _,RcNeAt.int_int _ _ _ _,λh=>beq_iff_eq.mpr (by injection h)⟩) ha hc e
 rcases l4 e with e|e
 ·exact lg (λi j t u r o_ o_ e=>sJ e▸⟨λM9 w E Q h=>eqBool_bytes (qP▸h),λM9 w E Q h=>eq_bytes h,λM9 w E Q h=>ne_bytes h,λh=>beq_iff_eq.mpr (by injection h with h;injection h)⟩) ha hc e
 rcases l4 e with e|e
 ·exact v3 (λi j t u r o_ o_ e=>sJ e▸(str_beq (x:=⟨_⟩) (y:=⟨_⟩))▸⟨EqAt.str_str _ _ _ _,RcAt.str_str _ _ _ _,RcNeAt.str_str _ _ _ _,λh=>beq_iff_eq.mpr (by injection h)⟩) ha hc e
 ·refine bu e λi e1 e=>eN e λj e2 e=>?_;simp only[jR ha e1,jR hc e2,←e]
  induction i using oA<;>induction j using oA
  ·exact⟨EqAt.same _,RcAt.none_none,RcNeAt.none_none,λo_=>rfl⟩
  ·exact⟨EqAt.none_bool _,RcAt.none_bool _,RcNeAt.none_bool _,λh=>nomatch h⟩
  ·exact⟨EqAt.bool_none _,RcAt.bool_none _,RcNeAt.bool_none _,λh=>nomatch h⟩
  ·exact⟨EqAt.bool_bool _ _,RcAt.bool_bool _ _,RcNeAt.bool_bool _ _,λh=>beq_iff_eq.mpr (cG some (by injection h))⟩
theorem xD{R:Value→Value→Bool→Prop}{f:V→V→Option Bool}(hf:∀ {a c x y t},VR L a x→VR L c y→f a c=some t→R x y t){xs:List V}:∀ {ys:List V} {vs us:List Value} {t:Bool},bQ L xs vs→bQ L ys us→xs.length=ys.length→Bl f xs ys=some t→
 ∃g:Nat→Bool,t=(Qb vs.length).all g∧∀j (h1:j<vs.length) (h2:j<us.length),R vs[j] us[j] (g j):=by
 induction xs with
 |nil=>
  intro ys vs us t r1 r2 hl e
  induction ys using lC with
  |nil=>exact a7 (λo_=>true) ((sJ e).symm.trans (by refine(show _=_ from r1)▸?_;rfl)) (λj h=>by rw[show vs=[] from r1] at h;exact nomatch h)|cons y ys=>exact nn hl rfl
 |cons x xs ih=>
  intro ys vs us t r1 r2 hl e
  induction ys using lC with
  |nil=>exact nn hl rfl|cons y ys=>refine cps λX_ k_=>?_;obtain⟨v,vs,h1,r1,q1⟩:=r1;obtain⟨u,us,h2,r2,q2⟩:=r2;refine aQ (QU.mp e) λa e1 e=>aQ (Q0.mp e) λb e2 e=>aQ (ih q1 q2 (R1 hl) e2) λg h3 hg=>k_ ?_;rw[h1,h2,←e,h3];exact a7 (λj=>Qy j a g) (by simp only[QK,Uf,Rs,U8];rfl) (λj=>Qy j (λo_ o_=>hf r1 r2 e1) λj h1 h2=>hg j (Uj h1) (Uj h2))
theorem lx{h:Heap}{a:Addr}{xs ys:Array Value}(x:h.IsList a xs)(y:h.IsList a ys):xs=ys:=by obtain⟨o,ho,_,n,hd⟩:=x;obtain⟨o',NX,_,n',O7⟩:=y;have:=hd.symm.trans ((cG Obj.data (sJ (ho.symm.trans NX))).trans O7);injection this
theorem n6(p:SR U P)(n:Nat):∀ {A:Around} {a c:V} {x y:Value} {t:Bool},A.units+n<cLine→VR P.L a x→VR P.L c y→G3 P.σ n a c=some t→LW A P.s x y t:=by
 induction n with
 |zero=>intro A a c x y t hu o_ o_ e;exact no e
 |succ n ih=>
  intro A a c x y t hu ha hc e;have e:(match Jw a c with|some t=>some t|none=>_)=_:=e
  induction h:Jw a c using oA with
  |some u=>rw[h] at e;exact xp ha hc (h.trans e)|none=>
  rw[h] at e
  induction h1:bc P.σ a using oA with
  |none=>simp only[h1] at e;exact no e|some xs=>
  induction h2:bc P.σ c using oA with
  |none=>simp only[h1,h2] at e;exact no e|some ys=>
  refine cps λX_ k_=>?_;rw[h1,h2] at e;obtain⟨l1,vs,hx,OH,_,r1⟩:=bk p ha h1;obtain⟨l2,us,hy,N6,_,r2⟩:=bk p hc h2;have OH:=dr OH;have N6:=dr N6
  have core:RcAt A P.s x y t∧RcNeAt A P.s x y (!t)∧(x=y→t=true):=by
   refine hx▸?_;refine hy▸?_;dsimp only at e;split at e
   ·rename_i hl;refine aQ (xD (R:=λx y t=>EqAt A.in1 P.s x y t∧(x=y→t=true)) (λha hc e=>have q:=ih (by simp only;exact aZ [_,_,_] (.h 1 (.a (.a ab (.a ae ai)) ai) af (.g (.a (.a (.a ab ai) ae) ai) af)) rfl hu) ha hc e;⟨q.1,q.2.2.2⟩) r1 r2 (bA hl) e) λg h3 hg=>?_;have hs:=(r1.len.symm.trans (bA hl)).trans r2.len;refine h3▸?_;refine⟨RcAt.lists OH N6 hs (by omega) λj h1 h2=>(hg j h1 h2).1,RcNeAt.lists OH N6 hs (by omega) λj h1 h2=>(hg j h1 h2).1,λq=>SN.mpr λj hj=>?_⟩;have hj:=QE.mp hj;have e4:vs=us:=cG U1 (lx (Ta q▸OH) N6);exact(hg j hj (e4▸hj)).2 (by subst e4;rfl)
   ·rename_i hl;have hs:(vs.toArray.size !=us.toArray.size)=true:=by simp only[P7,←r1.len,←r2.len];simpa using hl
    rw[←sJ e];exact⟨RcAt.lists_lengths OH N6 hs (by omega),RcNeAt.lists_lengths OH N6 hs (by omega),λq=>by have e4:=lx (Ta q▸OH) N6;rw[e4,bne_self_eq_false] at hs;exact dg hs⟩
  refine k_ ?_;refine⟨?_,core⟩
  by_cases q:x=y
  ·rw[core.2.2 q,q];exact EqAt.same _
  ·rw[hx,hy] at q core⊢;exact EqAt.of_refs (λh=>q (cG _ h)) core.1
noncomputable def L6:Cm→PySem.CmpOp
 |.eq=>.Eq|.ne=>.NotEq|.lt=>.Lt|.le=>.LtE|.gt=>.Gt|.ge=>.GtE|.is=>.Is|.isNot=>.IsNot|.in=>.In|.notIn=>.NotIn
theorem GK(op:PySem.CmpOp):L6 (pR op)=op:=by induction op using PySem.CmpOp.casesOn<;>rfl
end
noncomputable def Pv(P:Pt)(v:V)(Q:Value→Shared→Prop):Prop:=∀s' x,Ext P.s s'→VR (P.ext s').L v x→Q x s'
section
variable {U:Wd} {P:Pt} {L:Lay} {A:Around} {E:Aa}
theorem Pv.tok{v:V}(h:Pv P v Q){k:Nat}(hx:∀L,VR L v x):Q x {P.s with toks:=k}:=h _ _ (Ext.tok _ _) (hx _)
theorem Pv.int(h:Pv P (.int i) Q){k t:Nat}:Q (.int i t) {P.s with toks:=k}:=h.tok λo_=>⟨t,rfl⟩
theorem Pv.bytes{i:Ab}(h:Pv P (.bytes i) Q)(hl:i.length≤lim){k t:Nat}:Q (.bytes i.toArray t) {P.s with toks:=k}:=h.tok λo_=>⟨t,rfl,hl⟩
theorem Pv.str{i:List Nat}(h:Pv P (.str i) Q)(hl:i.length≤lim){k t:Nat}:Q (.str ⟨i.toArray⟩ t) {P.s with toks:=k}:=h.tok λo_=>⟨t,rfl,hl⟩
theorem Pv.old{v:V}(h:Pv P v Q)(p:SR U P)(hx:VR P.L v x):Q x P.s:=h _ _ (Ext.refl _) ((p.ext (b:=0) (F:=cz) (Ext.refl _)).v hx)
noncomputable def El:V→Value→Bool
 |.int i,.int j _=>j==i|.bool b,.bool c=>c==b|.str a,.str b _=>b==⟨a.toArray⟩|.bytes a,.bytes b _=>b.toList==a|_,_=>false
theorem yE{u:V}(k:lZ a u=true)(ha:VR L a x)(hu:VR L u y):(∀A s,EqAt A s y x (El a y))∧El a y=Hb u a:=by
 induction a using Internal.V.casesOn
 case int=>induction u using Internal.V.casesOn<;>first|exact dg k|(obtain⟨_,h1⟩:=ha;obtain⟨_,h2⟩:=hu;refine h1▸?_;refine h2▸?_;exact⟨λo_ o_=>EqAt.int_int _ _ _ _,rfl⟩)
 case bool=>induction u using Internal.V.casesOn<;>first|exact dg k|(refine(show x=_ from ha)▸?_;refine(show y=_ from hu)▸?_;exact⟨λo_ o_=>EqAt.bool_bool _ _,rfl⟩)
 case str=>induction u using Internal.V.casesOn<;>first|exact dg k|(obtain⟨_,h1,_⟩:=ha;obtain⟨_,h2,_⟩:=hu;refine h1▸?_;refine h2▸?_;exact⟨λo_ o_=>EqAt.str_str _ _ _ _,(str_beq ⟨_⟩ ⟨_⟩).symm⟩)
 case bytes=>induction u using Internal.V.casesOn<;>first|exact dg k|(obtain⟨_,h1,_⟩:=ha;obtain⟨_,h2,_⟩:=hu;refine h1▸?_;refine h2▸?_;exact⟨λo_ o_ M9 w E Q h=>eqBool_bytes (qP▸h),rfl⟩)
 all_goals exact dg k
theorem bQ.mem{xs:List V}:∀ {vs:List Value} {y:Value},bQ L xs vs→y∈vs→∃u∈xs,VR L u y:=by
 induction xs with
 |nil=>intro vs y r m;rw[show vs=[] from r] at m;exact nomatch m
 |cons x xs ih=>
  rintro _ y ⟨v,t,rfl,a,q⟩ m;rcases P6.mp m with rfl|m
  ·exact a7 x (mS ..) a
  ·exact(ih q m).imp λu h=>⟨mM h.1,h.2⟩
theorem Co(ha:VR L a x){xs:List V}:∀ {vs:List Value},bQ L xs vs→xs.all (lZ a)=true→vs.any (El a)=xs.any λy=>Hb y a:=by
 induction xs with
 |nil=>rintro _ rfl _;rfl|cons u xs ih=>rintro _ ⟨v,t,rfl,p,q⟩ k;have k:=aA (Rs▸k);simp only[RA,ih q k.2,(yE k.1 ha p).2]
noncomputable def L7(U:Wd)(A:Around)(s:Shared)(x y:Value)(t:Bool):Prop:=∀ {Q:Value→Shared→Prop} {E:Value→Shared→Prop},
 ((∀s',Ext s s'→Q (.bool t) s')→wpAny (model pw U.w) A (compareOp .In x y) Q E s)∧((∀s',Ext s s'→Q (.bool (!t)) s')→wpAny (model pw U.w) A (compareOp .NotIn x y) Q E s)
theorem rh(p:SR U P)(hh:A.handled=none){c:V}(ha:VR P.L a x)(hc:VR P.L c y)(e:wv P.σ a c=some t):L7 U A P.s x y t:=by
 rcases l4 e with e|e;rcases l4 e with e|e
 ·obtain⟨i,e1,e⟩:=eL e;obtain⟨b,e2,e⟩:=eL e;obtain⟨hi,e⟩:=fO e;obtain⟨_,h1⟩:=de ha e1;obtain⟨_,h2,_⟩:=bR hc e2;simp only[h1,h2,←e];exact λ {Q E}=>⟨λh=>F9 hi.1 hi.2 (h _ (Ext.refl _)),λh=>wN hi.1 hi.2 (h _ (Ext.refl _))⟩
 ·refine lg (C:=λx y t=>L7 U A P.s x y t) (λi j t u r o_ o_ e=>?_) ha hc e;obtain⟨c,e1,e⟩:=cN e
  have:i=[c]:=by
   induction i using lC with
   |nil=>exact no e1|cons a l=>induction l using lC with|nil=>exact cG (λx=>[x]) (sJ e1)|cons _ _=>exact no e1
  refine this▸?_;refine e▸?_;exact λ {Q E}=>⟨λh=>Dm hh λh' tk k=>h _ ⟨λe=>k _ _ e,rfl,rfl⟩,λh=>tO hh λh' tk k=>h _ ⟨λe=>k _ _ e,rfl,rfl⟩⟩
 ·obtain⟨ys,e1,e⟩:=eL e;obtain⟨k,e⟩:=fO e;obtain⟨l,vs,hy,hl,_,hr⟩:=iC p hc e1
  have he:∀y,y∈vs.toArray→EqAt A.in1 P.s y x _:=λy hy=>by exact aQ (hr.mem (UL.mp hy)) λu hu hur=>(yE (lA k u hu) ha hur).1 _ _
  have OA:vs.toArray.any (El a)=t:=by rw[List.any_toArray,Co ha hr k];exact e
  refine hy▸?_
  exact λ {Q E}=>hl.elim (λhl=>⟨λh=>in_listAt (El a) hl he (OA.symm▸h _ (Ext.refl _)),λh=>notIn_listAt (El a) hl he (OA.symm▸h _ (Ext.refl _))⟩)
   λhl=>⟨λh=>in_tupleAt (El a) hl he (OA.symm▸h _ (Ext.refl _)),λh=>notIn_tupleAt (El a) hl he (OA.symm▸h _ (Ext.refl _))⟩
theorem vR{v:V}(hv:VR L v x):(x==Value.none)=Ha v:=by
 induction v using Internal.V.casesOn with
 |none=>rw[show x=_ from hv];rfl|bool _=>rw[show x=_ from hv];rfl|int _=>obtain⟨_,h⟩:=hv;rw[h];rfl|str _=>obtain⟨_,h,_⟩:=hv;rw[h];rfl|bytes _=>obtain⟨_,h,_⟩:=hv;rw[h];rfl|t _=>obtain⟨_,_,_,h,_⟩:=hv;refine h▸?_;rfl|list _=>obtain⟨_,_,_,h,_⟩:=hv;refine h▸?_;rfl|inst _ _=>obtain⟨_,_,_,_,h,_⟩:=hv;refine h▸?_;rfl|o _=>rw[hv.2];rfl|fn _=>rw[show x=_ from hv];rfl|cls _=>rw[show x=_ from hv];rfl
 |blt k=>
  rw[show x=_ from hv];delta sG
  repeat' split
  all_goals rfl
 |clo _ _ _=>obtain⟨_,_,_,h,_⟩:=hv;refine h▸?_;rfl
theorem yb{v:V}(hv:VR L v x)(h:Ha v=true):x= .none:=by
 induction v using Internal.V.casesOn with
 |none=>exact hv|_=>exact dg h
theorem nr(p:SR U P)(hh:A.handled=none)(hu:A.units+10<cLine){op:Cm}{c:V}(ha:VR P.L a x)(hc:VR P.L c y)(e:iI P.σ op a c=some t)(h:∀s',Ext P.s s'→Q (.bool t) s'):wpAny (model pw U.w) A (compareOp (L6 op) x y) Q E P.s:=by
 have h0:=h _ (Ext.refl _)
 induction op using Internal.Cm.casesOn with
 |eq=>exact(n6 p 4 (by omega) ha hc e).2.1 pw U.w E Q h0|ne=>exact eN e λt' e e'=>(n6 p 4 (by omega) ha hc e).2.2.1 pw U.w E Q (e'.symm▸h0)|lt=>exact ez (C:=λx y t=>Q (.bool t) P.s→wpAny (model pw U.w) A (compareOp .Lt x y) Q E P.s) (λi j t u h=>PySem.P.lt_int h) ha hc e h0|le=>exact ez (C:=λx y t=>Q (.bool t) P.s→wpAny (model pw U.w) A (compareOp .LtE x y) Q E P.s) (λi j t u h=>PySem.P.le_int h) ha hc e h0|gt=>exact ez (C:=λx y t=>Q (.bool t) P.s→wpAny (model pw U.w) A (compareOp .Gt x y) Q E P.s) (λi j t u h=>PySem.P.gt_int h) ha hc e h0|ge=>exact no e|is=>refine km e λh1 h2=>(yb hc h1)▸?_;exact is_none ((vR ha).symm▸h2.symm▸h0)|isNot=>refine km e λh1 h2=>(yb hc h1)▸?_;exact isNot_none ((vR ha).symm▸h2.symm▸h0)|«in»=>exact(rh p hh ha hc e).1 h|notIn=>exact eN e λt' e e'=>(rh p hh ha hc e).2 (e'.symm▸h)
end
section
variable {U:Wd} {P:Pt} {L:Lay} {A:Around} {E:Aa}
theorem bS(h:Heap):h.get? h.objs.size=none:=by
 induction e:h.get? h.objs.size using oA with
 |none=>rfl|some o=>exact absurd (Q9 e) (R0 _)
theorem vh(p:SR U P){c:String}{o:Obj}{xs:List V}{vs:List Value}(hr:bQ P.L xs vs)(hl:vs.length≤lim){k:Nat}(ho:o={cls:=.type c,data:=.seq vs.toArray}):
 ∃a o' vs,Tg P.s.heap.objs.size= .ref a∧(P.ext {P.s with heap:=P.s.heap.push o,toks:=k}).L.At a o'∧uo c o' vs∧bQ (P.ext {P.s with heap:=P.s.heap.push o,toks:=k}).L xs vs:=
 ⟨_,o,vs,rfl,p.ext_new (bS _) (Qr _ (by refine ho▸?_;rfl)),⟨hl,0,ho⟩,(p.ext (b:=0) (F:=cz) (Ext.push _ _ _)).vs hr⟩
theorem Pv.list(p:SR U P){xs:List V}{vs:List Value}(hr:bQ P.L xs vs)(hl:vs.length≤lim)(h:Pv P (.list xs) Q){k:Nat}:Q (.ref P.s.heap.objs.size) {P.s with heap:=P.s.heap.push {cls:=.type "list",data:=.seq vs.toArray},toks:=k}:=
 h _ _ (Ext.push _ _ _) (vh p hr hl rfl)
theorem Pv.tup(p:SR U P){xs:List V}{vs:List Value}(hr:bQ P.L xs vs)(hl:vs.length≤lim)(h:Pv P (.t xs) Q){k:Nat}:Q (.ref P.s.heap.objs.size) {P.s with heap:=P.s.heap.push {cls:=.type "tuple",data:=.seq vs.toArray},toks:=k}:=
 h _ _ (Ext.push _ _ _) (vh p hr hl rfl)
theorem cM{n:Nat}(h:n≤lim):n≤sizeLine:=by delta lim at h;delta sizeLine;exact cj h rfl
theorem kc{n m:Nat}(h:n≤lim)(h2:m≤lim):n+m≤sizeLine:=by delta lim at h h2;delta sizeLine;exact cj (QF h h2) rfl
theorem nk{M:Model}(p:SR U P){xs:List V}{vs:List Value}(hr:bQ P.L xs vs)(hl:vs.length≤lim)(h:Pv P (.list xs) Q):wpAny M A (newList vs) Q E P.s:=wpAny_newList (h.list p hr hl) (cM hl)
theorem gA{M:Model}(p:SR U P){xs:List V}{vs:List Value}(hr:bQ P.L xs vs)(hl:vs.length≤lim)(h:Pv P (.t xs) Q):wpAny M A (newTuple vs) Q E P.s:=wpAny_newTuple (h.tup p hr hl) (cM hl)
noncomputable def Lg:Op→PySem.Operator
 |.add=>.Add|.sub=>.Sub|.fdiv=>.FloorDiv|.mod=>.Mod
theorem ym{op:PySem.Operator}{o:Op}(e:qd op=some o):Lg o=op:=by induction op using PySem.Operator.casesOn<;>first|exact no e|exact sJ e▸rfl
theorem rC{a c:Int}(hc:c.natAbs<2 ^ 60):Builtin.divisionGoesByPylong a c=false:=by
 delta Builtin.divisionGoesByPylong
 have:((if c==0 then 0 else c.natAbs.log2 / 30+1):Nat)≤300:=by
  split
  ·decide
  ·rename_i hne;have:c.natAbs.log2<60:=(Nat.log2_lt (by intro e;apply hne;simpa using e)).mpr hc;exact aZ [_,_] (.h 1 ab ae (.h 1 (.a ae ai) (.c 60) (.g (.a ab ai) (.c 300)))) rfl dS this
 simp only[Bool.and_eq_false_iff,decide_eq_false_iff_not,QQ];exact .inl this
theorem uJ(a c:List Nat):(⟨a.toArray⟩:Str)++(⟨c.toArray⟩:Str)=⟨(a++c).toArray⟩:=by refine(?_:(⟨a.toArray++c.toArray⟩:Str)=_);rw[RR]
noncomputable def EV(U:Wd)(P:Pt)(A:Around)(t:Value→Value→Sem Value)(x y:Value)(v:V):Prop:=∀ (Q:Value→Shared→Prop) (E:Value→Shared→Prop),Pv P v Q→wpAny (model pw U.w) A (t x y) Q E P.s
theorem pb(p:SR U P){op:Op}{c:V}{v:V}(ha:VR P.L a x)(hc:VR P.L c y)(e:ii P.σ op a c=some v):EV U P A (binaryOp (Lg op)) x y v:=by
 cases op with
 |add=>
  rcases l4 e with e|e
  ·exact ez (C:=EV U P A (binaryOp .Add)) (λi j t u Q E h=>PySem.P.add_int h.int) ha hc e
  rcases l4 e with e|e
  ·exact lg (C:=EV U P A (binaryOp .Add)) (λi j t u r l1 l2 e Q E h=>by refine km e λhl e=>?_;subst e;exact KBy.add_bytes (by unfold lim at l1 l2;simp only[P7,P7];exact cj (QF l1 l2) rfl) λt' k=>RR .. ▸h.bytes hl) ha hc e
  rcases l4 e with e|e
  ·exact v3 (C:=EV U P A (binaryOp .Add)) (λi j t u r l1 l2 e Q E h=>by refine km e λhl e=>?_;subst e;exact add_str (λt' k=>uJ .. ▸h.str hl) (by refine(?_:(Q8 _).size+(Q8 _).size≤_);simp only[P7,P7];exact kc l1 l2)) ha hc e
  ·refine cps λX_ k_=>bu e λxs e1 e=>bu e λys e2 e=>km e λhl e=>?_;obtain⟨l1,vs,hx,⟨n1,h1⟩,b1,r1⟩:=bk p ha e1;obtain⟨l2,us,hy,⟨n2,h2⟩,b2,r2⟩:=bk p hc e2;refine k_ ?_;simp only[hx,hy];subst e;exact λQ E h=>PySem.P.add_list h1 h2 (RR .. ▸h.list p (r1.append r2) (by refine((r1.append r2).len)▸?_;exact hl)) (by simp only[P7];exact kc b1 b2)
 |sub=>exact ez (λi j t u Q E h=>PySem.P.sub_int h.int) ha hc e|fdiv=>exact oY (λi j t u r e Q E h=>by refine km e λhg e=>?_;subst e;simp only[P9,decide_eq_true_eq] at hg;refine floordiv_int (by omega) ?_ (.inl (rC hg.2));rw[T6 _ (by omega)];exact h.int) ha hc e|mod=>exact oY (λi j t u r e Q E h=>by refine km e λhg e=>?_;subst e;refine mod_int (by omega) ?_;rw[T7 _ (by omega)];exact h.int) ha hc e
theorem xz:typeLookup (.type "bytes") (dunderI "add")=pure none:=rfl
theorem wS(p:SR U P){op:Op}{c:V}{v:V}(ha:VR P.L a x)(hc:VR P.L c y)(e:tA op a c=some v):EV U P A (inplaceOp (Lg op)) x y v:=by
 induction op using Internal.Op.casesOn with
 |add=>
  rcases l4 e with e|e
  ·exact ez (λi j t u Q E h=>PySem.P.iadd_int h.int) ha hc e
  ·exact lg (λi j t u r l1 l2 e Q E h=>by
    refine km e λhl e=>?_;subst e
    refine iconcat_gives (typeIs_bytes _ _ _) (typeIs_bytes _ _ _) xz KBy.noFill_bytes_add KBy.seq_bytes_add FB.slot_bytes_add FB.entry_bytes_add (FB.args_bytes_add_2 _ _)
     (KBy.gives_bytes_add (KBy.tooLong_not (by delta lim at l1 l2;simp only[P7];exact cj (QF l1 l2) rfl))) ?_
    induction i using lC with
    |nil=>exact h.old p ⟨_,rfl,l2⟩
    |cons p0 i=>
     induction j using lC with
     |nil=>exact h.old p ⟨_,by rw[Qj],hl⟩|cons q0 j=>exact⟨by rw[RR,P7];exact cM hl,RR .. ▸h.bytes hl⟩) ha hc e
 |_=>exact no e
theorem iD{α:Type}{l:List α}{x:α}(h:itemAt l i=some x):∃j,seqIndex? i l.length=some j∧l[j]?=some x∧ -(l.length:Int)≤i∧i<l.length:=by
 delta itemAt at h;split at h
 ·rename_i h0;split at h
  ·rename_i h1;obtain⟨hj,_⟩:=Qe.mp h;refine GX _ ?_ h (by omega) (by omega);delta seqIndex?;rw[iP h0,iP];simp only[P9,decide_eq_true_eq];omega
  ·exact no h
 ·rename_i h0;obtain⟨hj,_⟩:=Qe.mp h;refine⟨_,?_,h,by omega,by omega⟩;delta seqIndex?;rw[iN h0,iP];simp only[P9,decide_eq_true_eq];omega
theorem bQ.item{xs:List V}{vs:List Value}{x:V}(r:bQ L xs vs)(e:itemAt xs i=some x):∃v,itemAt vs i=some v∧VR L x v:=by
 delta itemAt at e⊢;refine r.len▸?_
 by_cases h0:i<0
 ·rw[iP h0] at e⊢
  by_cases h1:0≤i+xs.length
  ·rw[iP h1] at e⊢;exact r.get e
  ·rw[iN h1] at e;exact no e
 ·rw[iN h0] at e⊢;exact r.get e
section
variable {s:Shared}
theorem item_list{l:Addr}{vs:List Value}{t:Tok}{v:Value}(hl:s.heap.IsList l vs.toArray)(hn:vs.length≤lim)(e:itemAt vs i=some v)(h:Q v s):wpAny (model pw U.w) A (getItem (.ref l) (.int i t)) Q E s:=by
 refine DH (iD e) λj o_ o_ b1 b2=>?_;delta lim at hn;delta itemAt at e;split at e
 ·rename_i h0;split at e
  ·exact wpAny_getItem_list_neg hl h0 (b1) (by lia) (by simpa using e) h
  ·exact no e
 ·exact wpAny_getItem_list hl (by lia) (by lia) (by simpa using e) h
theorem AZ{l:Addr}{vs:List Value}{t:Tok}{v:Value}(hl:s.heap.IsTuple l vs.toArray)(hn:vs.length≤lim)(e:itemAt vs i=some v)(h:Q v s):wpAny (model pw U.w) A (getItem (.ref l) (.int i t)) Q E s:=by refine DH (iD e) λj e1 e2 b1 b2=>?_;delta lim at hn;exact getItem_tuple hl (by lia) (by lia) (e1) (by simpa using e2) h
theorem td{l:Ab}{t u:Tok}{c:UInt8}(hn:l.length≤lim)(e:itemAt l i=some c)(h:Q (.int c.toNat s.toks) {s with toks:=s.toks+1}):wpAny (model pw U.w) A (getItem (.bytes l.toArray t) (.int i u)) Q E s:=by
 refine DH (iD e) λj e1 e2 b1 b2=>?_;delta lim at hn;refine getItem_gives (typeIs_bytes _ _ _) (by decide+kernel) FB.slot_bytes_getitem FB.entry_bytes_getitem (FB.args_bytes_getitem_2 _ _) (gives_bytes_getitem l.toArray i t u c ?_ ?_) h
 ·delta Builtin.Bytes.fitsIndex;simp only[P9,decide_eq_true_eq];(clear e h e1 e2;lia)
 ·simp only[P7,e1];simpa using e2
end
theorem w6(p:SR U P){i:V}{v:V}(ha:VR P.L a x)(hi:VR P.L i y)(e:fJ P.σ a i=some v):EV U P A getItem x y v:=by
 refine bu e λi e1 e=>ek (de hi e1) λu h1=>h1▸?_;rcases l4 e with e|e
 ·refine bu e λb e1 e=>eN e λc e2 e=>aQ (bR ha e1) λt hx hl=>?_;subst e;refine hx▸?_;exact λo_ o_ h=>td hl e2 h.int
 ·refine cps λX_ k_=>bu e λxs e1 e=>?_;obtain⟨l,vs,hx,hl,hn,hr⟩:=iC p ha e1;refine aQ (hr.item e) λy e2 hy=>k_ ?_;rw[hx];exact hl.elim (λhl Q E h=>item_list hl hn e2 (h.old p hy)) λhl Q E h=>AZ hl hn e2 (h.old p hy)
theorem tr(n:Nat)(i:Int):rZ n i=clipAt n i:=rfl
theorem lG{α:Type}(l:List α)(lo hi:Option Int):cut l lo hi=(l.drop (lo.elim 0 (clipAt l.length))).take (hi.elim l.length (clipAt l.length) -lo.elim 0 (clipAt l.length)):=by
 delta cut;refine TW▸?_
 induction lo using oA<;>induction hi using oA<;>simp only[Option.elim_none,Uw,tr]
theorem yV(vs:List Value)(lo hi:Option Int):slicePick vs.toArray lo hi none=(cut vs lo hi).toArray:=by rw[kmk_pick_nat vs.toArray (sliceBounds_plain lo hi vs.toArray.size),lG,P7]
theorem sU(l:Ab)(lo hi:Option Int):KBy.picked l.toArray lo hi=(cut l lo hi).toArray:=by rw[KBc.picked_eq,lG,P7]
theorem wc{α:Type}(l:List α)(lo hi:Option Int):(cut l lo hi).length≤l.length:=by simp only[lG,Ql,Rj];exact nT (QM _ _) (Sh _ _)
theorem bQ.cut{xs:List V}{vs:List Value}(r:bQ L xs vs)(lo hi:Option Int):bQ L (cut xs lo hi) (cut vs lo hi):=by rw[lG,lG,r.len];exact(r.drop _).take _
theorem tw{α:Type}(cs:List α)(n:Nat):(Qb n).filterMap (λk=>cs[k]?)=cs.take n:=by
 induction n with
 |zero=>rfl|succ n ih=>simp only[Sn,List.filterMap_append,ih,SG];cases h:cs[n]?<;>simp[h]
noncomputable def nh(L:Lay):Option V→Value→Prop
 |none,x=>x= .none|some v,x=>VR L v x
theorem part_of{lo:Option V}{l:Option Int}(e:yo lo=some l)(r:nh L lo x):IsPart x l:=by
 induction lo using oA with
 |none=>simp only[show x=_ from r,←sJ e];exact .none|some v=>refine eN e λi e1 e=>ek (de r e1) λt h=>?_;simp only[h,←e];exact .int _ _
theorem uq{cs:List Nat}{t:Tok}(h:0≤i∧i≤cs.length):slicePicked ⟨cs.toArray⟩ none (some (i,t)) none=Qb i.toNat:=by have:=StrLaws.strSliceIndices_plain (b:=i.toNat) (len:=cs.length) (RN _) (by lia);delta slicePicked;simp only[Option.map_none,QI,Option.getD_none];rw[StrLaws.sliceIdx_none_lo];rw[show((i.toNat:Nat):Int)=i by(clear this;lia)] at this;rw[show(⟨cs.toArray⟩:Str).length=cs.length from P7 ..];rw[show((0:Nat):Int)=0 from rfl] at this;rw[this];simp
theorem su(p:SR U P){lo hi:Option V}{xl xh:Value}{sl:Addr}{v:V}(ha:VR P.L a x)(hl:nh P.L lo xl)(hh:nh P.L hi xh)(Pu:P.s.heap.IsSliceOf sl xl xh .none)(e:du P.σ a lo hi=some v):EV U P A getItem x (.ref sl) v:=by
 refine bu e λl e1 e=>bu e λu e2 e=>?_;have p1:=part_of e1 hl;have p2:=part_of e2 hh;rcases l4 e with e|e
 ·refine eN e λb e3 e=>aQ (bR ha e3) λt hx hn=>?_;subst e;refine hx▸?_;refine λQ E h=>getItem_meets (typeIs_bytes _ _ _) (by decide+kernel) FB.slot_bytes_getitem FB.entry_bytes_getitem (FB.args_bytes_getitem_2 _ _) (KBc.meets_slice2 _ t sl p1 p2) ⟨Pu,nT (KBc.size_picked_le _ l u) (P7 .. ▸cM hn),λt' k=>?_⟩;rw[sU];exact h.bytes (nT (wc _ _ _) hn)
 rcases l4 e with e|e
 ·refine bu e λcs e3 e=>aQ (dH ha e3) λt hx hn=>hx▸?_
  induction l using oA with
  |some _=>exact no e|none=>
  induction u using oA with
  |none=>exact no e|some i=>
  refine cps λX_ k_=>km e λhi0 e=>?_;subst e;cases p1;cases p2;refine k_ ?_;rename_i ti;obtain⟨o,ho,hc,hd⟩:=Pu;refine λQ E h=>wpAny_getItem_str_slice (show P.s.heap.IsSlice sl none (some (i,ti)) none from⟨o,ho,hc,hd⟩) rfl ?_;delta sliceMade;refine(uq hi0)▸?_;split
  ·rename_i hq;simp only[P9,beq_iff_eq,SD] at hq;rw[(hq.2.trans (P7 ..)),QG] at h;exact h.old p ⟨_,rfl,hn⟩
  ·have e3:((Qb i.toNat).filterMap λk=>(⟨cs.toArray⟩:Str).cps[k]?).toArray=(cs.take i.toNat).toArray:=by
    rw[←(tw cs i.toNat)];congr;funext k;simp
   refine e3▸?_;exact⟨by refine(?_:(Q8 _).size≤_);rw[P7];exact cM (nT (by rw[Ql];exact(QM _ _)) hn),h.str (nT (by rw[Ql];exact(QM _ _)) hn)⟩
 ·refine cps λX_ k_=>eN e λxs e3 e=>?_;obtain⟨la,vs,hx,hl3,hn,hr⟩:=bk p ha e3;subst e;refine k_ ?_;refine hx▸?_;refine λQ E h=>wpAny_getItem_list_slice (dr hl3) Pu p1 p2 .none (λq=>no q) ?_ (P7 .. ▸cM hn);rw[yV];exact h.list p (hr.cut l u) (nT (wc _ _ _) hn)
end
end Internal
namespace Internal
open PySem PySem.W PySem.Calls PyProof.Rows Builtin
variable {l:List Nat}
theorem BB{l:Ab}(ha:l.all (· <128)=true){p:Nat}(hp:p<l.length)(b:Bool):_codecs.utf8Decoder.find b l.toArray p= .text [l[p].toNat] (p+1):=by
 have h:l[p]<128:=by simpa using lA ha _ (SO hp)
 have h':l[p].toNat<128:=by simpa[UInt8.lt_iff_toNat_lt] using h
 delta _codecs.utf8Decoder;delta Bytes.utf8At;have hg:(l.toArray.getD p 0)=l[p]:=by simp[hp]
 simp[hg,h'];rfl
theorem zf{α β:Type}(l:List α)(N:Nat)(A:Nat→β)(f:Nat→Nat×β→Sem (ForInStep (Nat×β)))(hf:∀x p,p<N→f x (p,A p)=pure (.yield (p+1,A (p+1)))):
 ∀n p q,p+n=N→forIn (SF q n) (p,A p) f=pure (N,A N):=by
 intro n
 induction n with
 |zero=>intro p q h;rw[List.range'_zero,TU,show p=N by exact h]|succ n ih=>intro p q h;rw[RQ,Re,hf q p (aZ [_,_,_] (.h 1 (.a ab (.a ae ai)) af (.g (.a ab ai) af)) rfl (nE h))];exact ih (p+1) (q+1) (by lia)
theorem Dd{l:Ab}(hl:l.length≤lim)(ha:l.all (· <128)=true)(id:String):_codecs.runDecoder id _codecs.utf8Decoder none true l.toArray 0 []=pure ((l.map Rm).toArray,l.length):=by
 delta _codecs.runDecoder;simp only[Std.Legacy.Range.forIn_eq_forIn_range'];have key:=λf hf=>zf (α:=Unit) [] l.length (λp=>(((l.take p).map Rm).toArray,({held:=[]}:_codecs.Faults))) f hf l.length 0 0 (by simp);simp only[Rk,R6,QG] at key;have hs:([:l.toArray.size]:Std.Legacy.Range).size=l.length:=by simp
 simp only[hs];rw[key]
 ·rfl
 ·intro x p hp
  have h1:¬ ((UW Rm (Uc p l)).toArray.size>sizeLine):=by delta lim at hl;simp;exact cj (nT (QM _ _) hl) rfl
  have h2:¬ (p≥l.toArray.size):=by simp;exact hp
  rw[iN h1,iN h2,BB ha hp];dsimp only;congr 3;refine cG (λz=>(z,({}:_codecs.Faults))) (SM.mp ?_);simp only[Tw hp,So,Qi,Qf,R6]
theorem wx:∀ (l:List Nat) (a:Array UInt8),l.all (· <128)=true→l.foldl (λMQ y=>MQ++(Str.utf8Of y).toArray) a=a++(l.map Q3).toArray:=by
 intro L_;induction L_ with
 |nil=>intro a o_;exact rfl
 |cons x l IH_=>
  intro a h;simp only[Rs,P9,decide_eq_true_eq] at h;simp only[Q5,IH_ _ h.2];have:Str.utf8Of x=[Q3 x]:=by exact(iP (h.1))
  rw[this];simp
theorem Bc{β:Type}(N:Nat)(a b:β)(f:Nat→Nat×β→Sem (ForInStep (Nat×β)))(h1:∀x,f x (0,a)=pure (.yield (N,b)))(h2:∀x,f x (N,b)=pure (.done (N,b)))(n:Nat)(hn:0<n):
 forIn (SF 0 n) (0,a) f=pure (N,b):=by
 obtain⟨m,rfl⟩:∃m,n=m+1:=⟨n -1,(Qg (iW _ _) (nE (sC (aZ [n] (.h 1 (.a aj ai) ab (.g ai ab)) rfl hn))))⟩;rw[RQ,Re,h1,pure_bind]
 induction m using Qy with
 |zero=>rfl|succ m=>refine RQ▸?_;refine(?_:forIn (_::_) (N,b) f=_);rw[Re,h2,pure_bind]
theorem nK{x:Nat}(h:x<128):Str.isSurrogate x=false:=by delta Str.isSurrogate;simp;lia
theorem yI(id:String)(v:Value)(s:PySem.Str):∃F:Nat→Nat×Array UInt8×_codecs.Faults→Sem (ForInStep (Nat×Array UInt8×_codecs.Faults)),
 _codecs.encodeNarrow id _codecs.utf8Codec none v s=(do let r ←forIn ([:s.length]:Std.Legacy.Range) (0,#[],{}) F;pure r.2.1)∧
 ∀x i out st,out.size≤sizeLine→(s.cps[i]?=none→F x (i,out,st)=pure (.done (i,out,st)))∧
   (∀y,s.cps[i]?=some y→_codecs.utf8Codec.bad y=false→F x (i,out,st)=pure (.yield (i+((s.cps.extract i s.cps.size).findIdx? _codecs.utf8Codec.bad).getD (s.cps.extract i s.cps.size).size,((s.cps.extract i s.cps.size).extract 0 (((s.cps.extract i s.cps.size).findIdx? _codecs.utf8Codec.bad).getD (s.cps.extract i s.cps.size).size)).foldl (λMQ y=>MQ++(_codecs.utf8Codec.bytesOf y).toArray) out,st))):=by
 refine a7 _ rfl (λx i out st h=>⟨λh1=>?_,λy h1 h2=>?_⟩)
 ·exact(iN (QQ.mpr h)).trans (by rw[h1])
 ·exact(iN (QQ.mpr h)).trans (by rw[h1];exact iP (by rw[h2];rfl))
theorem w7(ha:l.all (· <128)=true):(l.toArray.findIdx? _codecs.utf8Codec.bad).getD l.toArray.size=l.length:=by refine(Array.findIdx?_eq_none_iff.mpr λy hy=>nK (of_decide_eq_true (lA ha y (UL.mp hy))))▸?_;rfl
theorem CS(ha:l.all (· <128)=true):l.toArray.foldl (λMQ y=>MQ++(_codecs.utf8Codec.bytesOf y).toArray) #[]=(l.map Q3).toArray:=by rw[Ts];exact(wx l #[] ha).trans (Tq)
theorem xt(ha:l.all (· <128)=true){st:_codecs.Faults}:(0+((l.toArray.extract 0 l.toArray.size).findIdx? _codecs.utf8Codec.bad).getD (l.toArray.extract 0 l.toArray.size).size,((l.toArray.extract 0 l.toArray.size).extract 0 (((l.toArray.extract 0 l.toArray.size).findIdx? _codecs.utf8Codec.bad).getD (l.toArray.extract 0 l.toArray.size).size)).foldl (λMQ y=>MQ++(_codecs.utf8Codec.bytesOf y).toArray) #[],st)=(l.length,(l.map Q3).toArray,st):=by
 have h:l.toArray.extract 0 l.toArray.size=l.toArray:=by simp
 rw[h,w7 ha,←P7,h,CS ha,Rx]
theorem BS(hl:l.length≤lim)(ha:l.all (· <128)=true)(id:String)(v:Value):_codecs.encodeNarrow id _codecs.utf8Codec none v ⟨l.toArray⟩=pure ((l.map Q3).toArray):=by
 refine aQ (yI id v ⟨l.toArray⟩) λF e h=>?_;simp only[e,Std.Legacy.Range.forIn_eq_forIn_range']
 induction l using lC with
 |nil=>rfl
 |cons c l=>
  refine(Bc (c::l).length (#[],{}) (((c::l).map Q3).toArray,{}) F (λx=>((h x 0 #[] {} (RN _)).2 c rfl (nK (of_decide_eq_true (lA ha c mS)))).trans (cG (λz=>pure (Q1 z)) (xt ha)))
   (λx=>(h x _ _ _ (by simp only[P7,KE];exact nT hl (by decide))).1 (by rw[QA];exact RG nR)) _ (by refine(?_:0<((c::l).length -0+1 -1) / 1);simp only[Nat.div_one];exact Ra _))▸?_
  rfl
theorem Ad(v:Value)(x:PySem.Str):_codecs.encodeRoad "str.encode" v x (PySem.Str.ofString "utf-8") none=(_codecs.encodeNarrow "str.encode" _codecs.utf8Codec none v x>>=λb=>mkBytes b):=by kernel_rfl
theorem wM(x:PySem.Str)(t:Tok):«str.encode» ⟨[.str x t],[]⟩=(_codecs.encodeRoad "str.encode" (.str x t) x (PySem.Str.ofString "utf-8") none>>=λv=>ret v):=rfl
section
variable {w:World} {s:Shared} {A:Around} {E:Aa}
theorem AV{l:Ab}{t:Tok}{Q:Aa}(hn:l.isEmpty=false)(hl:l.length≤lim)(ha:l.all (· <128)=true)(h:∀t' k,Q (.str ⟨(l.map Rm).toArray⟩ t') {s with toks:=k}):
 wpAny (model pw w) A (PySem.call (.builtin "bytes.decode") [.bytes l.toArray t]) Q E s:=by
 induction l using lC with
 |nil=>cases hn|cons c l=>refine KBd.decode (x:=⟨((c::l).map Rm).toArray⟩) (λid=>Dd hl ha id) ?_ h;delta lim at hl;simp[Str.length] at hl⊢;exact cj hl rfl
theorem yz{t:Tok}{Q:Aa}(hl:l.length≤lim)(ha:l.all (· <128)=true)(h:∀t' k,Q (.bytes (l.map Q3).toArray t') {s with toks:=k}):
 wpAny (model pw w) A (PySem.call (.builtin "str.encode") [.str ⟨l.toArray⟩ t]) Q E s:=by
 refine call_meets (S:=λo_ R s=>∀t' k,R (.ok (.ret (.bytes (l.map Q3).toArray t'))) {s with toks:=k}) F.slot_str_encode (typeIs_str _ _ _) F.entry_str_encode (F.args_str_encode_1 _) ?_ h;refine .of_wp λM9 w A R s hS=>?_;simp only[wM,Ad,BS hl ha];refine wB (wB (wP (wpAny_mkBytes ?_ ?_)))
 ·exact wP ⟨_,rfl,hS _ _⟩
 ·delta lim at hl;simp;exact cj hl rfl
end
theorem tR(c:Nat):∀ (y r:List Nat),c∉y→aL c (y++c::r)=y::aL c r:=by
 intro L_;induction L_ with
 |nil=>intro r o_;simp[dW]|cons a y IH_=>intro r h;simp only[P6,not_or] at h;rw[TF,dW,iN (by simpa using Ne.symm h.1),IH_ r h.2]
theorem rM(c:Nat):∀ (y:List Nat),c∉y→aL c y=[y]:=by
 intro L_;induction L_ with
 |nil=>intro o_;simp[fH]|cons a y IH_=>intro h;simp only[P6,not_or] at h;rw[dW,iN (by simpa using Ne.symm h.1),IH_ h.2]
theorem j0(c:Nat):∀ (ys:List (List Nat)),ys≠[]→(∀y∈ys,c∉y)→aL c (aB [c] ys)=ys
 |[],h,_=>absurd rfl h|[y],_,h=>by simp only[gX];exact rM c y (h y (by simp))|y::z::r,_,h=>by rw[f7];simp only[Qc,Sc,tR c y _ (h y (by simp)),j0 c (z::r) (by simp) λw hw=>h w (by simp[hw])]
theorem sd(c:List Nat):∀ (l:List PySem.Str),(PySem.Str.join ⟨c.toArray⟩ l).cps.toList=aB c (l.map (·.cps.toList))
 |[]=>rfl|[x]=>rfl|x::y::r=>by refine(?_:(x++_++PySem.Str.join _ _).cps.toList=_);simp only[PySem.Str.cps_append,So,sd c (y::r)];simp[f7]
theorem zc(x:PySem.Str)(y:PySem.Str):Txt.split x y≠[]:=by
 delta Txt.split;split
 ·simp
 ·split
  ·simp
  ·rw[PySem.StrLaws.partsBetween_eq];refine ql (PySem.StrLaws.partsFrom_ne x y.length 0 (Builtin.Str.occurrences x y 0 x.length (x.length+1))) λp r e=>?_;rw[e];simp
theorem tB(l:List Nat)(c:Nat):(Txt.split ⟨l.toArray⟩ ⟨#[c]⟩).map (·.cps.toList)=aL c l:=by
 have h5:=j0 c ((Txt.split ⟨l.toArray⟩ ⟨#[c]⟩).map (·.cps.toList)) (by simpa using zc _ _) (λy hy=>by refine jz hy λz hz z1=>?_;subst z1;exact PySem.StrLaws.split_free _ c z hz)
 rw[((sd [c] (Txt.split ⟨l.toArray⟩ ⟨#[c]⟩)).symm.trans (cG (λz:PySem.Str=>z.cps.toList) (PySem.StrLaws.join_split ⟨l.toArray⟩ ⟨#[c]⟩)))] at h5;exact h5.symm
section
open PySem.SeqAt
variable {w:World} {A:Around} {E:Aa} {s:Shared}
theorem w3(l p:List Nat):Txt.endswith ⟨l.toArray⟩ ⟨p.toArray⟩=p.isSuffixOf l:=by
 delta Txt.endswith Builtin.Str.subAt Str.length;rw[Rn];simp only[P7,Rx,P9,decide_eq_true_eq,beq_iff_eq,TV,Ub];constructor
 ·rintro⟨hm,e⟩;have:=cG U1 e;simp at this;rw[Qn (by simp;omega)] at this;exact this.symm
 ·intro e;have hm:p.length≤l.length:=by rw[e];simp
  refine⟨hm,?_⟩;apply SM.mp;simp;rw[Qn (by simp;omega)];exact e.symm
theorem rx(c:List Nat):∀ (l:List Str) (a:Array Nat),(l.foldl (λMQ p=>MQ++c.toArray++p.cps) a).toList=match l with|[]=>a.toList|l=>a.toList++c++aB c (l.map (·.cps.toList)):=by
 intro l
 induction l with
 |nil=>intro a;rfl
 |cons x l ih=>
  intro a;simp only[Q5];rw[ih]
  induction l using lC with
  |nil=>simp[gX]|cons y l=>simp[f7]
theorem xc(c:List Nat)(l:List Str):Txt.join ⟨c.toArray⟩ l=⟨(aB c (l.map (·.cps.toList))).toArray⟩:=by
 delta Txt.join Builtin.Str.glued;congr 1;apply SM.mp
 induction l using lC with
 |nil=>simp[vr,Str.empty]
 |cons x l=>
  simp only[List.headD_cons,List.drop_succ_cons,R7];rw[rx]
  induction l using lC with
  |nil=>simp[gX]|cons y l=>simp[f7]
theorem Ci(k:Nat):∀ (l:List Str) (a:Nat),l.foldl (λx1 (x2:Str)=>x1+x2.length+k) a=a+(l.map λx=>x.cps.toList.length+k).sum:=by
 intro l
 induction l with
 |nil=>intro a;simp|cons x l ih=>intro a;simp only[Q5,ih];simp;exact Qg (aZ [_,_,_,_] (.g (.a (.a (.a ab ae) af) ag) (.a ab (.a (.a ae af) ag))) rfl) (aZ [_,_,_,_] (.g (.a ab (.a (.a ae af) ag)) (.a (.a (.a ab ae) af) ag)) rfl)
theorem B5(c:List Nat):∀ (l:List Str),(l.map λx=>x.cps.toList.length+c.length).sum≤(aB c (l.map (·.cps.toList))).length+c.length:=by
 intro l
 induction l with
 |nil=>simp
 |cons x l ih=>
  induction l using lC with
  |nil=>simp[gX]|cons y l=>simp only[Qf,f7,Qa] at ih⊢;exact aZ [_,_,_,_,_] (.h 1 (.a (.a ab ae) af) (.a ag ae) (.g (.a (.a ah ae) (.a (.a ab ae) af)) (.a (.a (.a ah ae) ag) ae))) rfl ih
theorem q8(c:List Nat)(l:List Str)(h1:c.length≤lim)(h:(aB c (l.map (·.cps.toList))).length≤65536):JoinOk ⟨c.toArray⟩ l=true:=by
 delta JoinOk Builtin.Str.tooLong
 have e:Array.foldl (λx1 (x2:Str)=>x1+x2.length+(⟨c.toArray⟩:Str).length) 0 l.toArray=0+(l.map λx=>x.cps.toList.length+c.length).sum:=by rw[Ts];exact Ci c.length l 0
 refine e▸?_;have:=B5 c l;simp only[R5];refine decide_eq_false λz=>?_;exact(Nat.not_succ_le_zero 0 (aZ [_,_,_] (.h 1 (.a (.c 16777216) ai) (.a aj ab) (.h 1 ab (.a ae af) (.h 1 af (.c 65536) (.h 1 ae (.c 65536) (.g ai aj))))) rfl z this h1 h))
theorem AE(g:Nat→Bool)(l:List Nat):(l.reverse.dropWhile g).reverse=l.take (l.length -(l.reverse.takeWhile g).length):=by
 have h2:l=(l.reverse.dropWhile g).reverse++(l.reverse.takeWhile g).reverse:=by rw[←Qp,(TE),QV]
 have hl:l.length=(l.reverse.dropWhile g).length+(l.reverse.takeWhile g).length:=by have:=cG Rc h2;simpa using this
 have h3:l.length -(l.reverse.takeWhile g).length=(l.reverse.dropWhile g).reverse.length:=by simp;exact Qg (aZ [_,_,_,_] (.h 1 (.a ab ae) af (.h 1 af (.a ag ae) (.g ab ag))) rfl (nE (sC (aZ [_,_,_] (.h 1 (.a ab ae) af (.g ae af)) rfl (nE hl.symm)))) (nE hl)) (aZ [_,_,_,_] (.h 1 (.a ab ae) af (.h 1 af (.a ag ae) (.g ab ag))) rfl (nE hl.symm) (iW _ _))
 rw[h3];exact(List.take_left' rfl).symm.trans (cG (Uc _) h2.symm)
theorem sf(l p:List Nat):Txt.rstripChars ⟨l.toArray⟩ ⟨p.toArray⟩=⟨(a8 p l).toArray⟩:=by
 delta Txt.rstripChars;simp only[Vk];delta Builtin.Str.strSub stripHi stripLo a8;rw[iP rfl,iN (by decide)];congr 1;apply SM.mp;simp only[AE];have e:(λx=>p.contains x)=(p.toArray.contains):=by funext x;simp
 rw[e];simp[Str.length]
theorem tF(l:List Nat)(c:Nat)(hl:l.length<65536):(Builtin.Str.partsBetween ⟨l.toArray⟩ (Builtin.Str.occurrences ⟨l.toArray⟩ ⟨#[c]⟩ 0 (⟨l.toArray⟩:Str).length ((⟨l.toArray⟩:Str).length+1)) 1).length≤sizeLine:=by delta Builtin.Str.partsBetween;simp only[KE,TL,QK];exact aZ [_,_,_] (.h 1 ab (.a ae ai) (.h 1 ae (.a af ai) (.h 1 (.a af ai) (.c 65536) (.g ab (.c 16777216))))) rfl (R2 _ _) (PySem.StrLaws.occ_length_le (⟨l.toArray⟩:Str) ⟨#[c]⟩ 0 (⟨l.toArray⟩:Str).length ((⟨l.toArray⟩:Str).length+1)) hl
theorem ku{α:Type}[BEq α](p l:List α):(a8 p l).length≤l.length:=by delta a8;rw[QH,←QH (as:=l)];exact(S5 _).length_le
theorem qI{x y:Str}{t u:Tok}{Q:Aa}(hy:(y.length==0)=false)(hq:∀ (l:List (Str×Tok)) (k:Nat),l.map (·.1)=Txt.split x y→Q (.ref s.heap.objs.size) {s with heap:=s.heap.push {cls:=.type "list",data:=.seq (strValues l).toArray},toks:=k})(Pq:x.length≤sizeLine)(hsz2:(Builtin.Str.partsBetween x (Builtin.Str.occurrences x y 0 x.length (x.length+1)) y.length).length≤sizeLine):
 wpAny (model pw w) A (PySem.call (.builtin "str.split") [.str x t,.str y u]) Q E s:=by
 cases h1:(decide (x.length<y.length)||decide (Builtin.Str.strKind x<Builtin.Str.strKind y))
 ·cases hf:(Builtin.Str.occurrences x y 0 x.length (x.length+1)).isEmpty
  ·refine call_meets F.slot_str_split (typeIs_str _ _ _) F.entry_str_split (F.args_str_split_2 _ _) (meets_str_split_sep x y t u h1 hy hf Pq hsz2) ?_;rw[strsFrom_eq];exact hq (numbered s.toks _) _ ((numbered_texts _ _).trans ((iN (ne_true_of_eq_false h1)).trans (iN (ne_true_of_eq_false hf))).symm)
  ·exact call_meets F.slot_str_split (typeIs_str _ _ _) F.entry_str_split (F.args_str_split_2 _ _) (meets_str_split_not_found x y t u h1 hy hf) (hq [(x,t)] s.toks ((iN (ne_true_of_eq_false h1)).trans (iP hf)).symm)
 ·exact call_meets F.slot_str_split (typeIs_str _ _ _) F.entry_str_split (F.args_str_split_2 _ _) (meets_str_split_cannot_occur x y t u h1) (hq [(x,t)] s.toks (iP h1).symm)
end
end Internal
namespace Internal
open PySem PySem.W PySem.Calls PyProof.Rows PySem.SeqAt
variable {s:Shared}{t o e1:Ac}{x y xv:Value}{a i n C:Nat}{id:String}{pos:Pos}{A:Around}{U:Wd}{es:List Ac}{Q:Aa}{fs:List (Nat×V)}{pl:Sem Bool}{sc:Scope}
theorem wG:nm 202=("decode":Str):=by kernel_rfl
theorem nB:nm 196=("startswith":Str):=by kernel_rfl
theorem kg:nm 197=("endswith":Str):=by kernel_rfl
theorem n3:nm 198=("rstrip":Str):=by kernel_rfl
theorem se:nm 199=("split":Str):=by kernel_rfl
theorem wQ:nm 200=("rsplit":Str):=by kernel_rfl
theorem uU:nm 201=("join":Str):=by kernel_rfl
theorem w4:nm 203=("encode":Str):=by kernel_rfl
theorem wn:nm 195=("append":Str):=by kernel_rfl
noncomputable def IC:List String:=["bytes.decode","bytes.startswith","bytes.endswith","bytes.rstrip","bytes.split","bytes.rsplit","bytes.join","str.encode","str.endswith","str.rstrip","str.split","str.join"]
noncomputable def JE(i:Nat):String:=IC.getD i ""
noncomputable def BY(x:Value)(a i:Nat):Prop:=∀ {M:Model} {A:Around} {s:Shared} {pl:Sem Bool} {Q:Value×List Value→Shared→Prop} {E:Value→Shared→Prop},Q (.builtin (JE i),[x]) s→wpAny M A (getMethod x (nm a) pl) Q E s
theorem iU{b:Array UInt8}{t:Tok}:∀a,Q4 b t= .ref a→∃o,s.heap.get? a=some o∧o.dict=none:=λo_ e=>nomatch e
theorem lD{b:Str}{t:Tok}:∀a,UE b t= .ref a→∃o,s.heap.get? a=some o∧o.dict=none:=λo_ e=>nomatch e
theorem ea{n:Str}(hn:nm a=n)(hi:JE i=id)(h:∀ {M:Model} {A:Around} {s:Shared} {pl:Sem Bool} {Q:Value×List Value→Shared→Prop} {E:Aa},Q (.builtin id,[x]) s→wpAny M A (getMethod x n pl) Q E s):BY x a i:=λq=>by refine hn▸?_;exact h (hi▸q)
theorem Hi(b:Array UInt8)(t:Tok):∀y∈CY,BY (.bytes b t) y.1 y.2:=
 Qm.mpr ⟨ea (id:="bytes.decode") wG rfl λq=>by with_reducible exact KBd.method_of _ (typeIs_bytes _ _ _) FB.slot_bytes_decode FB.type_bytes_decode iU q,
 Qm.mpr ⟨ea (id:="bytes.startswith") nB rfl λq=>by with_reducible exact KBd.method_of _ (typeIs_bytes _ _ _) FB.slot_bytes_startswith FB.type_bytes_startswith iU q,
 Qm.mpr ⟨ea (id:="bytes.endswith") kg rfl λq=>by with_reducible exact KBd.method_of _ (typeIs_bytes _ _ _) FB.slot_bytes_endswith FB.type_bytes_endswith iU q,
 Qm.mpr ⟨ea (id:="bytes.rstrip") n3 rfl λq=>by with_reducible exact KBd.method_of _ (typeIs_bytes _ _ _) ky rD iU q,
 Qm.mpr ⟨ea (id:="bytes.split") se rfl λq=>by with_reducible exact KBd.method_of _ (typeIs_bytes _ _ _) mv tK iU q,
 Qm.mpr ⟨ea (id:="bytes.rsplit") wQ rfl λq=>by with_reducible exact KBd.method_of _ (typeIs_bytes _ _ _) j8 ry iU q,
 Qm.mpr ⟨ea (id:="bytes.join") uU rfl λq=>by with_reducible exact KBd.method_of _ (typeIs_bytes _ _ _) nW xA iU q,nofun⟩⟩⟩⟩⟩⟩⟩
theorem HF(b:Str)(t:Tok):∀y∈BV,BY (.str b t) y.1 y.2:=
 Qm.mpr ⟨ea (id:="str.encode") w4 rfl λq=>by with_reducible exact GM.of _ (typeIs_str _ _ _) F.slot_str_encode F.type_str_encode lD q,
 Qm.mpr ⟨ea (id:="str.endswith") kg rfl λq=>by with_reducible exact GM.of _ (typeIs_str _ _ _) F.slot_str_endswith F.type_str_endswith lD q,
 Qm.mpr ⟨ea (id:="str.rstrip") n3 rfl λq=>by with_reducible exact GM.of _ (typeIs_str _ _ _) F.slot_str_rstrip F.type_str_rstrip lD q,
 Qm.mpr ⟨ea (id:="str.split") se rfl λq=>by with_reducible exact GM.of _ (typeIs_str _ _ _) F.slot_str_split F.type_str_split lD q,
 Qm.mpr ⟨ea (id:="str.join") uU rfl λq=>by with_reducible exact GM.of _ (typeIs_str _ _ _) F.slot_str_join F.type_str_join lD q,nofun⟩⟩⟩⟩⟩
theorem mem_lookup{α:Type}{x:Nat}{n:α}{l:List (Nat×α)}(h:l.lookup x=some n):(x,n)∈l:=by
 induction l with
 |nil=>exact no h
 |cons y l ih=>
  obtain⟨y,m⟩:=y;rw[QW] at h
  induction hb:x==y using bC with
  |true=>rw[hb] at h;simp only[←sJ h,bA hb];exact mS ..|false=>rw[hb] at h;exact mM (ih h)
noncomputable def pn:V→List (Nat×Nat)
 |.bytes _=>CY|.str _=>BV|_=>[]
section
variable {U:Wd} {P:Pt} {L:Lay} {A:Around} {E:Aa}
theorem zM{o:V}(r:VR L o x)(e:(pn o).lookup a=some i):BY x a i:=by
 induction o using Internal.V.casesOn
 case bytes=>obtain⟨t,h,_⟩:=r;rw[h];exact Hi _ _ _ (mem_lookup e)
 case str=>obtain⟨t,h,_⟩:=r;rw[h];exact HF _ _ _ (mem_lookup e)
 all_goals exact no e
theorem kX{α:Type}{c:Bool}{x y:Option α}{v:α}(e:(if c=true then x else y)=some v):(c=true∧x=some v)∨y=some v:=by
 induction c using bC with
 |true=>exact .inl ⟨rfl,e⟩|false=>exact .inr e
theorem Ah{α:Type}{c:Bool}{x:Option α}{v:α}(e:(if c=true then x else none)=some v):c=true∧x=some v:=(kX e).elim id no
noncomputable def Fw(U:Wd)(P:Pt)(A:Around)(i:Nat)(x:Value)(vs:List Value)(v:V):Prop:=∀ (Q:Value→Shared→Prop) (E:Value→Shared→Prop),Pv P v Q→wpAny (model pw U.w) A (PySem.call (.builtin (JE i)) (x::vs)) Q E P.s
theorem jm(vs:List (Ab×Tok)):(∀x∈vs,x.1.length≤lim)→bQ L (vs.map λx=>V.bytes x.1) (bj vs):=by
 induction vs with
 |nil=>intro o_;rfl|cons x vs ih=>intro hl;exact⟨_,_,rfl,⟨_,rfl,hl x (mS ..)⟩,ih λy hy=>hl y (mM hy)⟩
theorem um(vs:List (Str×Tok)):(∀x∈vs,x.1.cps.toList.length≤lim)→bQ L (vs.map λx=>V.str x.1.cps.toList) (strValues vs):=by
 induction vs with
 |nil=>intro o_;rfl|cons x vs ih=>intro hl;exact⟨_,_,rfl,⟨_,rfl,hl x (mS ..)⟩,ih λy hy=>hl y (mM hy)⟩
theorem nV{α β:Type}{f:V→Option α}{g:β→α}{mk:β→Value}(hf:∀ {v x a},VR L v x→f v=some a→∃b,x=mk b∧g b=a){xs:List V}:∀ {ys:List α} {vs:List Value},lO f xs=some ys→bQ L xs vs→∃l:List β,vs=l.map mk∧l.map g=ys:=by
 induction xs with
 |nil=>intro ys vs e r;refine(show _=_ from r)▸?_;refine(sJ e)▸?_;exact a7 ([]) rfl rfl|cons x xs ih=>intro ys vs e r;refine cps λX_ k_=>bu e λb e1 e=>eN e λzs e2 e=>?_;obtain⟨v,t,h,a,q⟩:=r;refine aQ (ih e2 q) λl h1 h2=>aQ (hf a e1) λc h3 h4=>k_ ?_;simp only[h,h1,h3,←e,←h2,←h4];exact a7 (c::l) rfl rfl
theorem pT{α:Type}{l:List α}{c:α}(e:Dl l=some c):l=[c]:=by
 induction l using lC with
 |nil=>exact no e|cons a l=>induction l using lC with|nil=>exact cG (λx=>[x]) (sJ e)|cons _ _=>exact no e
theorem iG{α β:Type}{ws:List α}{l:List β}{f:α→β}(h:ws.map f=l)(hn:l.length≤n+1)(h2:n<65536):ws.length≤lim:=by rw[←h,KE] at hn;exact nT (by assumption) (by assumption)
noncomputable def G0(c:UInt8)(b:List UInt8):List (List UInt8):=match dL c b with|some (x,y)=>[x,y]|none=>[b]
theorem GC(p:SR U P){b:Ab}{args:List V}{vs:List Value}{v:V}(hi:CY.lookup a=some i)(e:fC P.σ (.bytes b) a args=some v)(ho:VR P.L (.bytes b) x)(ha:bQ P.L args vs):Fw U P A i x vs v:=by
 obtain⟨t,hx,hl⟩:=ho;refine hx▸?_
 induction args using lC with
 |nil=>
  refine(show _=_ from ha)▸?_;rcases kX e with⟨hc,e⟩|e
  ·rw[bA hc] at hi;refine(sJ hi)▸?_;refine km e λhg e=>?_;have hg:=aA hg;subst e;exact λo_ o_ h=>AV (by simpa using hg.2) hl hg.1 λt' k=>h.str (by rw[KE];exact hl)
  ·exact no (Ah e).2
 |cons y args=>
 obtain⟨yv,us,OU,hy,ha⟩:=ha;simp only[OU]
 induction args using lC with
 |nil=>
  refine(show _=_ from ha)▸?_
  have o {f:Ab→Ab→Option V} {g:List Nat→List Nat→Option V} (e:(y2 f (.bytes b) y).or (s2 g (.bytes b) y)=some v):∃q u,yv= .bytes q.toArray u∧q.length≤lim∧f b q=some v:=by
   rcases l4 e with e|e
   ·exact bu (show(mT y).bind (f b)=_ from e) λq e1 e=>aQ (bR hy e1) λu h1 h2=>i6 q u h1 h2 e
   ·exact no e
  rcases kX e with⟨hc,e⟩|e
  ·rw[bA hc] at hi;refine(sJ hi)▸?_;refine cps λX_ k_=>fk (o (g:=λo_ o_=>none) (show _=_ by rw[e];rfl)) λq u h1 o_ e=>?_;have e:=sJ e;subst e;refine k_ ?_;refine h1▸?_;exact λo_ o_ h=>o9 (h.tok λo_=>rfl)
  rcases kX e with⟨hc,e⟩|e
  ·rw[bA hc] at hi;refine(sJ hi)▸?_;refine cps λX_ k_=>fk (o e) λq u h1 o_ e=>?_;have e:=sJ e;subst e;refine k_ ?_;refine h1▸?_;exact λo_ o_ h=>te (h.tok λo_=>rfl)
  rcases kX e with⟨hc,e⟩|e
  ·rw[bA hc] at hi;refine(sJ hi)▸?_;refine fk (o e) λq u h1 o_ e=>?_;have e:=sJ e;subst e;refine h1▸?_;exact λo_ o_ h=>pU hl λt' k=>h.bytes (nT (ku q b) hl)
  rcases kX e with⟨hc,e⟩|e
  ·rw[bA hc] at hi;rw[←sJ hi];refine fk (o e) λq u h1 o_ e=>bu e λc hq e=>km e λNa e=>?_;subst e;simp only[h1,pT hq];refine λQ E h=>rE hl λws k hw=>?_;rw[show(aL c b).map V.bytes=ws.map λx=>V.bytes x.1 by simp only[←hw,Qk];rfl] at h;exact h.list p (jm ws λy hy=>nT ((cR c b).1 y.1 (hw▸RU hy)) hl) (by simp only[bj,KE];exact iG hw (cR c b).2 Na)
  ·refine vO e λhc e=>?_;rw[bA hc] at hi;rw[←sJ hi];refine bu e λxs e1 e=>?_;obtain⟨la,ws,h1,⟨n,hL⟩,hn,hr⟩:=bk p hy e1;rcases l4 e with e|e
   ·refine bu (show(lO mT xs).bind _=_ from e) λys e2 e=>km e λNa e=>?_;subst e;refine aQ (nV (mk:=λx:Ab×Tok=>Q4 x.1.toArray x.2) (g:=(·.1)) (λr e=>aQ (bR r e) λt a o_=>⟨(_,t),a,rfl⟩) e2 hr) λl h2 h3=>?_;subst h3;refine h1▸?_;exact λo_ o_ h=>ui (h2▸hL) Na λt' k=>h.bytes Na
   ·exact no e
 |cons z args=>
 induction args using lC with
 |cons _ _=>exact no e
 |nil=>
  obtain⟨zv,us',OU,hz,ha⟩:=ha;simp only[OU,show us'=[] from ha];refine vO e λhc e=>?_;rw[bA hc] at hi;refine(sJ hi)▸?_;refine bu (show(mT y).bind _=_ from e) λq e1 e=>aQ (bR hy e1) λu h1 o_=>bu e λc hq e=>bu e λk e2 e=>vO e λhk e=>?_;obtain⟨u',h2⟩:=de hz e2;simp only[h1,h2,pT hq,bA hk]
  have hv:v= .list ((G0 c b).map V.bytes):=by rw[←sJ e];delta G0;cases dL c b<;>rfl
  subst hv;refine λQ E h=>pL hl λws k hw=>?_;have hw:_=G0 c b:=hw;have h:Pv P (V.list ((ws.map (·.1)).map V.bytes)) Q:=by refine hw▸?_;exact h
  rw[Qk] at h
  have hb:(∀z∈(G0 c b),z.length≤lim)∧(G0 c b).length≤1+1:=by
   delta G0 dL;split
   ·rename_i x y q;split at q
    ·have q:=sJ q;have h3:=(Ue (l:=b.reverse) λx=> !(x==c)).length_le;simp only[QH] at h3;refine((pJ q).1)▸?_;refine((pJ q).2)▸?_;refine⟨Qm.mpr ⟨nT (List.length_take_le' _ _) hl,Qm.mpr ⟨by rw[QH];exact nT h3 hl,nofun⟩⟩,nR⟩
    ·exact no q
   ·exact⟨Qm.mpr ⟨hl,nofun⟩,R4 _⟩
  exact h.list p (jm ws λy hy=>hb.1 _ (by refine hw▸?_;exact RU hy)) (by simp only[bj,KE];exact iG hw hb.2 (by decide))
theorem Gi(p:SR U P){b:List Nat}{args:List V}{vs:List Value}{v:V}(hi:BV.lookup a=some i)(e:fC P.σ (.str b) a args=some v)(ho:VR P.L (.str b) x)(ha:bQ P.L args vs):Fw U P A i x vs v:=by
 obtain⟨t,hx,hl⟩:=ho;refine hx▸?_
 induction args using lC with
 |nil=>
  refine(show _=_ from ha)▸?_;rcases kX e with⟨_,e⟩|e
  ·exact no e
  ·refine vO e λhc e=>?_;rw[bA hc] at hi;refine(sJ hi)▸?_;refine km e λhg e=>?_;subst e;exact λo_ o_ h=>yz hl hg λt' k=>h.bytes (by rw[KE];exact hl)
 |cons y args=>
 obtain⟨yv,us,OU,hy,ha⟩:=ha;simp only[OU]
 induction args using lC with
 |cons z args=>induction args using lC with|cons _ _=>exact no e|nil=>exact no (Ah e).2
 |nil=>
  refine(show _=_ from ha)▸?_
  have o {f:Ab→Ab→Option V} {g:List Nat→List Nat→Option V} (e:(y2 f (.str b) y).or (s2 g (.str b) y)=some v):∃q u,yv= .str ⟨q.toArray⟩ u∧g b q=some v:=by exact bu e λq e1 e=>aQ (dH hy e1) λu h1 o_=>oD q u h1 e
  rcases kX e with⟨_,e⟩|e
  ·exact no e
  rcases kX e with⟨hc,e⟩|e
  ·rw[bA hc] at hi;refine(sJ hi)▸?_;refine cps λX_ k_=>ie (o e) λq u h1 e=>?_;have e:=sJ e;subst e;refine k_ ?_;refine h1▸?_;exact λo_ o_ h=>SC.endswith (w3 .. ▸h.tok λo_=>rfl)
  rcases kX e with⟨hc,e⟩|e
  ·rw[bA hc] at hi;refine(sJ hi)▸?_;refine ie (o e) λq u h1 e=>?_;have e:=sJ e;subst e;refine h1▸?_;exact λo_ o_ h=>SC.rstripChars (λt' k=>sf .. ▸h.str (nT (ku q b) hl)) (cM hl)
  rcases kX e with⟨hc,e⟩|e
  ·rw[bA hc] at hi;rw[←sJ hi];refine ie (o e) λq u h1 e=>bu e λc hq e=>km e λNa e=>?_;subst e;refine h1▸?_;refine(pT hq)▸?_;refine λQ E h=>qI rfl (λws k hw=>?_) (cM hl) (tF b c Na);have hw:ws.map (·.1.cps.toList)=aL c b:=by rw[←tB,←hw,Qk];rfl
   rw[show(aL c b).map V.str=ws.map λx=>V.str x.1.cps.toList by simp only[←hw,Qk];rfl] at h;exact h.list p (um ws λy hy=>nT ((cR c b).1 _ (hw▸RU hy)) hl) (by simp only[strValues,KE];exact iG hw (cR c b).2 Na)
  ·refine vO e λhc e=>?_;rw[bA hc] at hi;rw[←sJ hi];refine cps λX_ k_=>bu e λxs e1 e=>?_;obtain⟨la,ws,h1,hL,hn,hr⟩:=bk p hy e1;refine bu e λys e2 e=>km e λNa e=>?_;subst e;refine aQ (nV (mk:=λx:Str×Tok=>UE x.1 x.2) (g:=(·.1.cps.toList)) (λr e=>aQ (dH r e) λt a o_=>⟨(_,t),a,rfl⟩) e2 hr) λl h2 h3=>?_;have h3:(l.map (·.1)).map (·.cps.toList)=ys:=by rw[Qk];exact h3
   subst h3;refine k_ ?_;refine h1▸?_;subst h2;exact λo_ o_ h=>SC.join (dr hL) rfl (q8 b _ hl Na) λt' k=>xc .. ▸h.str Na
theorem wk(p:SR U P){o:V}{args:List V}{vs:List Value}{v:V}(hi:(pn o).lookup a=some i)(e:fC P.σ o a args=some v)(ho:VR P.L o x)(ha:bQ P.L args vs):Fw U P A i x vs v:=by
 induction o using Internal.V.casesOn
 case bytes=>exact GC p hi e ho ha
 case str=>exact Gi p hi e ho ha
 all_goals exact no hi
end
theorem Fa(P:Params):((KF P).map (·.1)).all (λa=> !jv a)=true:=by kernel_rfl
theorem Frag.mem_keys{K:Frag}{a:Addr}{o:Obj}(e:K.lookup a=some o):a∈K.map (·.1):=by
 induction K with
 |nil=>exact no e
 |cons x r ih=>
  obtain⟨b,o'⟩:=x;rw[QW] at e
  induction hb:a==b using bC with
  |true=>simp only[bA hb];exact mS|false=>rw[hb] at e;exact mM (ih e)
section
variable {U:Wd} {P:Pt}
theorem SR.kAt(x:SR U P){a:Addr}{o:Obj}(e:(KF U.w.params).lookup a=some o):P.L.At a o:=
 x.h0 a o (x.base.k a o e) (by have:=lA (Fa U.w.params) a (Frag.mem_keys e);rwa [R5] at this)
theorem SR.k(x:SR U P):(KF U.w.params).In P.s.heap:=λa o e=>x.g (x.kAt e)
theorem SR.ns(x:SR U P){a:Addr}{m}(h:U.H0.Ns a m)(t:jv a=false):P.s.heap.Ns a m:=by obtain⟨o,es,ep,e,r⟩:=h;exact⟨o,es,ep,x.g (x.h0 a o e t),r⟩
end
noncomputable def jj(K:Frag)(x:Nat)(v:Value):Bool:=nsIn K mainGlobals (nm x)==some (some v)
noncomputable def fS(K:Frag)(x:Nat)(v:Value):Bool:=nsIn K mainGlobals (nm x)==some none&&bootBuiltins (nm x)==some v
theorem xE(P:Params):(D3.all λy=>jj (KF P) y.1 (.ref (uY y.2)))=true:=by kernel_rfl
theorem uD(P:Params):(y5.all λy=>jj (KF P) y (.ref (d6 y)))=true:=by kernel_rfl
theorem uS(P:Params):(jL.all λy=>fS (KF P) y (sG y)&&y !=2)=true:=by kernel_rfl
theorem An(P:Params):(jj (KF P) 56 (.ref 173)&&jj (KF P) 8 (.ref 44))=true:=by kernel_rfl
theorem kS(P:Params):(KF P).lookup 173=some (instObj (d6 51) 172)∧(KF P).lookup 172=some (dictOf [] 0)∧(KF P).lookup 44=some (instObj (d6 3) 43)∧(KF P).lookup 43=some (dictOf [] 0):=⟨by kernel_rfl,by kernel_rfl,by kernel_rfl,by kernel_rfl⟩
section
variable {K:Kx} {P:Pt} {ρ:aF}
theorem jc{x:Str}{k:Nat}{v:Value}(p:K.At ρ P)(hx:K.env.kindOf x=some .globalImplicit)(NC:idOf x=some k)(e:jj (KF K.U.w.params) k v=true){Q E}(h:Q v P.s):wpAny (model pw K.U.w) K.A (eval (.Name x pos) K.env) Q E P.s:=by refine d7 (bx NC) λhk h1=>ek p.sr.base.g λmg hg=>?_;rw[←h1] at hx⊢;exact Name_function_global p.fr.kind hx (loadGlobal_global (by rw[p.fr.gl];exact p.sr.ns hg rfl) (mg_of p.sr.k (p.sr.ns hg rfl) (bA e)) h) (kq hk).2.1
theorem Da{k:Nat}(h:k<NT)(hn:(k !=2)=true):nm k≠"__name__":=λe=>bne_iff_ne.mp hn (l6 h (by decide) (e.trans (show _=_ by kernel_rfl)))
theorem mo{x:Str}{k:Nat}{v:Value}(p:K.At ρ P)(hx:K.env.kindOf x=some .globalImplicit)(NC:idOf x=some k)(e:(fS (KF K.U.w.params) k v&&k !=2)=true){Q E}(h:Q v P.s):wpAny (model pw K.U.w) K.A (eval (.Name x pos) K.env) Q E P.s:=by refine d7 (bx NC) λhk h1=>ek p.sr.base.g λmg hg=>aQ p.sr.base.b λmb hb PS=>?_;have e:=aA e;rw[←h1] at hx⊢;exact Name_function_global p.fr.kind hx (loadGlobal_builtin (by rw[p.fr.gl];exact p.sr.ns hg rfl) (mg_none_of p.sr.k (p.sr.ns hg rfl) (bA (aA e.1).1)) (by rw[p.fr.bl];exact p.sr.ns hb rfl) ((PS _ (Da hk e.2)).trans (bA (aA e.1).2)) h) (kq hk).2.1
theorem zp(p:SR K.U P){a d:Addr}(h1:(KF K.U.w.params).lookup a=some (instObj (d6 C) d))(h2:(KF K.U.w.params).lookup d=some (dictOf [] 0)):VR P.L (.inst C []) (.ref a):=⟨a,d,[],0,rfl,p.kAt h1,p.kAt h2,rfl⟩
theorem tU{x:Str}{k:Nat}(p:K.At ρ P)(hx:K.env.kindOf x=some .globalImplicit)(NC:idOf x=some k):hO K cz P (RE RV) (ca r K.c ρ P.σ (.g k)) (eval (.Name x pos) K.env):=.ext p.sr λ {v} e Q E h=>by
 have h:∀y,VR P.L v y→Q y P.s:=λy hy=>Pv.old h p.sr hy;delta yh at e;split at e
 ·rename_i n hn;rw[←sJ e] at h;exact jc p hx NC (lA (xE _) _ (mem_lookup hn)) (h _ rfl)
 rcases kX e with⟨hc,e⟩|e
 ·rw[←sJ e] at h;exact jc p hx NC (lA (uD _) _ (Q6.mp hc)) (h _ rfl)
 rcases kX e with⟨hc,e⟩|e
 ·rw[←sJ e] at h;exact jc p hx NC (bA hc▸(aA (An K.U.w.params)).1) (h _ (zp p.sr (kS K.U.w.params).1 (kS K.U.w.params).2.1))
 rcases kX e with⟨hc,e⟩|e
 ·rw[←sJ e] at h;exact jc p hx NC (bA hc▸(aA (An K.U.w.params)).2) (h _ (zp p.sr (kS K.U.w.params).2.2.1 (kS K.U.w.params).2.2.2))
 ·refine vO e λhc e=>?_;rw[←sJ e] at h;exact mo p hx NC (lA (uS _) _ (Q6.mp hc)) (h _ rfl)
theorem dy(sc:Scope)(x:Str):cu sc x= .bad∨(∃k,cu sc x= .v k)∨∃k,cu sc x= .g k:=by
 delta cu
 induction sc.names.lookup x using oA with
 |none=>exact .inl rfl
 |some y=>
  induction idOf x using oA with
  |none=>induction y using PySem.NameKind.casesOn<;>exact .inl rfl|some k=>induction y using PySem.NameKind.casesOn<;>first|exact .inl rfl|exact .inr (.inl ⟨k,rfl⟩)|exact .inr (.inr ⟨k,rfl⟩)
theorem Fv(r:Ev){x:Str}(p:K.At ρ P):hO K cz P (RE RV) (ca r K.c ρ P.σ (cu K.env.scope x)) (eval (.Name x pos) K.env):=by
 rcases dy K.env.scope x with hv|⟨k,hv⟩|⟨k,hv⟩
 ·refine hv▸?_;exact .bad
 ·refine d7 (bx (dE hv).1) λhk hx=>hv▸?_;refine hx▸?_;exact .ext p.sr λ {v} e Q E h=>wpAny_Name (eM p e λy hy=>Pv.old h p.sr hy) (kq hk).2.1
 ·refine hv▸?_;exact tU p (eE hv).2 (eE hv).1
theorem Cu(r:Ev){co:Const}(p:K.At ρ P):hO K cz P (RE RV) (ca r K.c ρ P.σ (match B1 co with|some k=>.k k|none=>.bad)) (eval (.Constant co n pos) K.env):=by
 have go:∀k,(IV k=true→∀Q E,Pv P (kV k) Q→wpAny _ K.A (eval (.Constant co n pos) K.env) Q E P.s)→hO K cz P (RE RV) (ca r K.c ρ P.σ (.k k)) _:=λk h=>.ite λok=>.ext (m:=some (kV k)) p.sr λ {a} e Q E q=>h ok Q E (sJ e▸q)
 induction co using PySem.Const.casesOn with
 |none=>exact go .none λo_ Q E h=>wP (Pv.old h p.sr rfl)|bool b=>exact go (.bool b) λo_ Q E h=>wP (Pv.old h p.sr rfl)|int i=>exact go (.int i) λo_ Q E h=>wpAny_Constant_int (Pv.int h)|str x=>exact go (.str x.cps.toList) λok Q E h=>(wpAny_mkText (Pv.str h (of_decide_eq_true ok)))|bytes x=>exact go (.bytes x) λok Q E h=>Constant_bytes (Pv.bytes h (of_decide_eq_true ok))|_=>exact .bad
end
structure RoomC(A:Around)(d:Nat):Prop where
 h:A.handled=none
 depth:A.depth+4*d+2<1000
 units:A.units+20*d+10<9900
theorem RoomA.c{d:Nat}(x:RoomA A d):RoomC A d:=⟨x.h,by have:=x.depth;exact aZ [_,_] (.h 1 (.a (.a (.a ab (.m 4 ae)) (.c 4)) ai) (.c 1000) (.g (.a (.a (.a ab (.m 4 ae)) al) ai) (.c 1000))) rfl this,by have:=x.units;exact aZ [_,_] (.h 1 (.a (.a (.a ab (.m 20 ae)) (.c 20)) ai) (.c 9900) (.g (.a (.a (.a ab (.m 20 ae)) (.c 10)) ai) (.c 9900))) rfl this⟩
theorem RoomA.c1{d:Nat}(x:RoomA A d):RoomC A.in1 d:=⟨by simp only;exact x.h,by have:=x.depth;simp only;exact aZ [_,_] (.h 1 (.a (.a (.a ab (.m 4 ae)) (.c 4)) ai) (.c 1000) (.g (.a (.a (.a ab (.m 4 ae)) al) ai) (.c 1000))) rfl this,by have:=x.units;simp only;exact aZ [_,_] (.h 1 (.a (.a (.a ab (.m 20 ae)) (.c 20)) ai) (.c 9900) (.g (.a (.a (.a (.a ab ai) (.m 20 ae)) (.c 10)) ai) (.c 9900))) rfl this⟩
noncomputable def xQ:V→Bool
 |.blt _=>true|_=>false
noncomputable def mN:V→Bool
 |.fn k=>(fnOf k).isSome|.cls C=>(pE C).isSome|.blt k=>jL.contains k|.clo .. =>true|_=>false
noncomputable abbrev rR(U:Wd)(A:Around)(fv:Value)(vs:List Value):WP Value:=λQ E s=>codeAny (model pw U.w) A (.call fv ⟨vs,[]⟩) (λr s'=>match r with|.ok (.ret v)=>Q v s'|.ok _=>False|.error e=>E e s') s
structure Calls(U:Wd)(cl:Call)(d:Nat):Prop where
 c:∀ {A P f args fv vs v σ':_},RoomC A d→xQ f=false→SR U P→VR P.L f fv→bQ P.L args vs→cl P.σ f args=some (v,σ')→∀Q E,(∀P' x,To U P.L.N cz P P'→P'.σ=σ'→VR P'.L v x→Q x P'.s)→rR U A fv vs Q E P.s
 b:∀ {A P k args vs v σ':_},RoomC A d→SR U P→bQ P.L args vs→cl P.σ (.blt k) args=some (v,σ')→∀ (Q:Value→Shared→Prop) E,(∀P' x,To U P.L.N cz P P'→P'.σ=σ'→VR P'.L v x→Q x P'.s)→wpAny (model pw U.w) A (PySem.call (sG k) vs) Q E P.s
 fnc:∀σ f args z,cl σ f args=some z→mN f=true
theorem To.lower{b b':Nat}{F:AP}{P P':Pt}(T:To U b F P P')(h:b'≤b):To U b' F P P':=⟨T.le,T.j,λb'' hb=>T.lb b'' (nT hb h),T.sr⟩
noncomputable def sw(C:Addr)(s:Shared)(Q:Shared→Prop):Prop:=∃m,s.heap.Ns C m∧∀h' m',h'.Ns C m'→S6 C s.heap h'→Q {s with heap:=h'}
noncomputable def UseQ(K:Kx)(P:Pt)(v:V)(σ':aq)(W:Value→Addr→Pt→Prop):Prop:=∀P' D C,To K.U K.c.b cz P P'→P'.σ=σ'→VR P'.L v (.ref D)→Apart K C→(∀o,P.L.G C≠some (.lent,o))→(∃o m,P'.L.G C=some (.lent,o)∧Bv o m)→W (.ref D) C P'
structure Snd(K:Kx)(r:Ev):Prop where
 e:∀ {ρ P:_} (pe:PySem.Expr),K.At ρ P→hO K cz P (RE RV) (r.e K.c ρ P.σ (bn K.env.scope pe)) (eval pe K.env)
 t:∀ {ρ P:_} (pe:PySem.Expr),K.At ρ P→SimT K P (r.e K.c ρ P.σ (bn K.env.scope pe)) (K.w (isTrue pe K.env (eval pe K.env)))
 bad:∀ρ σ,r.e K.c ρ σ .bad=none
 u:∀ {ρ P elt gens csc pos v σ':_} (f:Value→Sem Unit),K.At ρ P→e9 K.env.scope csc gens=true→r.e K.c ρ P.σ (bn K.env.scope (.ListComp elt gens csc pos))=some (v,σ')→∀ (Q:Shared→Prop) (E:Value→Shared→Prop),
  UseQ K P v σ' (λD C P'=>wpAny (model pw K.U.w) K.A (f D) (λo_ s=>sw C s Q) E P'.s)→wpAny (model pw K.U.w) K.A (evalThenUse (.ListComp elt gens csc pos) K.env f) (λo_ s'=>Q s') E P.s
 cs:Calls K.U r.call K.d
noncomputable abbrev SE(K:Kx)(r:Ev)(ρ:aF)(P:Pt)(pe:PySem.Expr)(e:E):Prop:=hO K cz P (RE RV) (ca r K.c ρ P.σ e) (eval pe K.env)
noncomputable abbrev ST(K:Kx)(r:Ev)(ρ:aF)(P:Pt)(pe:PySem.Expr)(e:E):Prop:=SimT K P (ca r K.c ρ P.σ e) (K.w (isTrue pe K.env (eval pe K.env)))
section
variable {K:Kx} {F:AP} {P P':Pt} {ρ:aF} {r:Ev} {α β γ δ:Type} {R:Pt→α→β→Prop} {R':Pt→γ→δ→Prop} {pos:Pos}
theorem SimW.mapE{m:Option (α×aq)}{W:WP β}{f:α×aq→Option (γ×aq)}{φ:α→γ}{g:β→δ}(h:SimW K F P (RE R) m W)(hf:∀a σ,f (a,σ)=some (φ a,σ))(k:∀P' a x,To K.U K.c.b F P P'→R P' a x→R' P' (φ a) (g x)):
 SimW K F P (RE R') (m.bind f) (λQ E s=>W (λx s1=>Q (g x) s1) E s):=⟨λ {a} e Q E q=>by
 refine bu e λz1 e1 e2=>?_;obtain⟨b,σ1⟩:=z1;rw[hf] at e2;exact h.go e1 λP' x T hx=>q P' _ T (sJ e2▸⟨hx.1,k P' _ x T hx.2⟩)⟩
theorem qe(e:Ac):(∃a b,e= .Starred a b)∨∀es env,starEach (e::es) env=(false,eval e env)::starEach es env:=by induction e using PySem.Expr.casesOn<;>first|exact .inr λo_ o_=>rfl|exact .inl ⟨_,_,rfl⟩
theorem gB(S:Snd K r)(es:List Ac):∀ {P:Pt},K.At ρ P→hO K cz P (RE MB) (bg r K.c ρ P.σ (bP K.env.scope es)) (spliced (backTo pos (starEach es K.env))):=by
 induction es with
 |nil=>intro P p;exact⟨λe o_ o_ q=>spliced_nil (q P [] (To.refl p.sr) (sJ e▸⟨rfl,rfl⟩))⟩
 |cons e es ih=>
  intro P p;rcases qe e with⟨a,b,h⟩|N9
  ·refine h▸?_
   exact⟨λh o_ o_=>by have h:(r.e K.c ρ P.σ .bad).bind _=_:=h;rw[S.bad] at h;exact no h⟩
  ·exact((S.e e p).bindE (g:=λv Q E s=>K.w (spliced (backTo pos (starEach es K.env))) (λvs s2=>Q (v::vs) s2) E s) λP1 T1 v x hx=>(ih (p.to T1)).mapE (φ:=(v:: ·)) (λo_ o_=>rfl) λP2 vs xs T2 hv=>⟨x,xs,rfl,T2.v hx,hv⟩).to λh=>spliced_more h (N9 _ _)
theorem IY(S:Snd K r){l q:Ac}{op:PySem.Operator}(p:K.At ρ P):SE K r ρ P (.BinOp l op q pos) (match qd op with|some o=>.bin o (bn K.env.scope l) (bn K.env.scope q)|none=>.bad):=by
 induction h:qd op using oA with
 |none=>exact .bad|some o=>exact((S.e l p).bindE (g:=λx=>qG (K.w (eval q K.env)) λy=>K.w (binaryOp op x y)) λP1 T1 x xv hx=>(S.e q (p.to T1)).bindE λP2 T2 y yv hy=>.ext T2.sr λe Q E k=>by refine(ym h)▸?_;exact pb T2.sr (T2.v hx) hy e Q E k).to λh=>wpAny_BinOp h
theorem ID(S:Snd K r){q:Ac}(p:K.At ρ P):SE K r ρ P (.UnaryOp .Not q pos) (.not (bn K.env.scope q)):=
 ((S.e q p).bindE (g:=λx=>K.w (unaryOp .Not x)) λP1 T1 x xv hx=>⟨λe o_ o_ k=>by exact eN e λt e1 e2=>not_value (fZ T1.sr hx e1 λs' y=>k (P1.ext s') _ (T1.sr.ext y) (e2▸⟨rfl,rfl⟩))⟩).to λh=>wpAny_UnaryOp h
theorem I1(S:Snd K r){q:Ac}(p:K.At ρ P):ST K r ρ P (.UnaryOp .Not q pos) (.not (bn K.env.scope q)):=⟨λ {v σ' b} e ht Q E h=>by refine cps λX_ k_=>bu e λz2 h1 h2=>?_;obtain⟨x,σ1⟩:=z2;refine eN h2 λt1 h2 h3=>?_;have h3:=pJ h3;have hb:=sJ (show _=some b by simp only[←ht,←h3.1];rfl);subst hb;refine k_ ?_;exact wpAny_isTrue_Not ((S.t q p).go h1 h2 λP' T e=>h P' T (e.trans h3.2))⟩
theorem Ho(S:Snd K r){q:Ac}(p:K.At ρ P):SE K r ρ P (.UnaryOp .USub q pos) (.neg (bn K.env.scope q)):=
 ((S.e q p).bindE (g:=λx=>K.w (unaryOp .USub x)) λP1 T1 x xv hx=>by
   induction x using Internal.V.casesOn with
   |int i=>exact SimW.ext (m:=some (V.int (-i))) T1.sr λe Q E k=>Exists.elim hx λt h=>h▸neg_int (Pv.int (by refine(sJ e)▸?_;exact k))|_=>exact .bad).to λh=>wpAny_UnaryOp h
theorem HV(S:Snd K r){q a b:Ac}(p:K.At ρ P):SE K r ρ P (.IfExp q a b pos) (.ite (bn K.env.scope q) (bn K.env.scope a) (bn K.env.scope b)):=
 ((S.t q p).bind (g:=λt=>K.w (if t then eval a K.env else eval b K.env)) (λo_ o_=>rfl) λP1 T t=>match t with|true=>S.e a (p.to T)|false=>S.e b (p.to T)).to λh=>wB h
theorem IZ(S:Snd K r){q a b:Ac}(p:K.At ρ P):ST K r ρ P (.IfExp q a b pos) (.ite (bn K.env.scope q) (bn K.env.scope a) (bn K.env.scope b)):=⟨λ {v σ' t} e ht Q E h=>by
 refine bu e λz3 h1 h2=>?_;obtain⟨x,σ1⟩:=z3;refine bu h2 λt1 h2 h3=>isTrue_IfExp ((S.t q p).go h1 h2 λP1 T hs=>?_);subst hs
 induction t1 using bC with
 |true=>exact(S.t a (p.to T)).go h3 ht λP2 T2 e=>h P2 (T.trans T2) e|false=>exact(S.t b (p.to T)).go h3 ht λP2 T2 e=>h P2 (T.trans T2) e⟩
theorem xa{c:Cx}{es:List E}:∀ {σ σ':aq} {vs:List V},bg r c ρ σ es=some (vs,σ')→vs.length=es.length:=by
 induction es with
 |nil=>intro σ σ' vs e;exact cG Rc (pJ (sJ e)).1.symm|cons x es ih=>intro σ σ' vs e;refine bu e λz5 o_ e=>?_;obtain⟨v,σ1⟩:=z5;refine bu e λz4 h2 e=>?_;obtain⟨ws,σ2⟩:=z4;refine((pJ (sJ e)).1)▸?_;exact cG (· +1) (ih h2)
theorem oy(S:Snd K r)(es:List Ac)(p:K.At ρ P){mk:List V→V}{k:List V×aq→Option (V×aq)}{t:List Value→Sem Value}(hk:∀vs σ,k (vs,σ)=some (mk vs,σ))(ht:∀ {P':Pt} {xs:List V} {vs:List Value} {Q E},SR K.U P'→bQ P'.L xs vs→vs.length≤lim→Pv P' (mk xs) Q→wpAny (model pw K.U.w) K.A (t vs) Q E P'.s):
 hO K cz P (RE RV) (if(bP K.env.scope es).length<100 then(bg r K.c ρ P.σ (bP K.env.scope es)).bind k else none) (standAt pos>>=λo_=>spliced (backTo pos (starEach es K.env))>>=t):=
 .ite λhl=>⟨λ {a} e Q E h=>by refine bu e λz6 e1 e2=>?_;obtain⟨vs,σ1⟩:=z6;refine wB (wpAny_standAt (wB ((gB S es p).go e1 λP1 xs T hx=>?_)));rw[hk] at e2;exact ht T.sr hx.2 (by simp only[←hx.2.len,(xa e1)];exact GT hl rfl) λs' x y hv=>h (P1.ext s') x (T.trans (T.sr.ext y)) (sJ e2▸⟨(hx.1),hv⟩)⟩
theorem F8(S:Snd K r)(p:K.At ρ P):SE K r ρ P (.List es pos) (.list (bP K.env.scope es)):=oy S es p (λo_ o_=>rfl) λq hr hl h=>nk q hr hl h
theorem HS(S:Snd K r){k:Nat}(p:K.At ρ P):SE K r ρ P (.Tuple es k pos) (.t (bP K.env.scope es)):=oy S es p (λo_ o_=>rfl) λq hr hl h=>gA q hr hl h
end
section
variable {K:Kx} {F:AP} {P P':Pt} {ρ:aF} {r:Ev} {pos:Pos}
theorem qq(S:Snd K r)(op:BoolOp)(es:List Ac):∀ {P:Pt},K.At ρ P→hO K cz P (RE RV) (dh r K.c ρ (op== .And) P.σ (bP K.env.scope es)) (boolOp pos op (evalEach es K.env)):=by
 induction es with
 |nil=>intro P p;exact .bad
 |cons x es ih=>
  intro P p
  induction es using lC with
  |nil=>exact(S.e x p).mapE (λo_ o_=>rfl) λo_ o_ o_ o_ h=>h
  |cons y es=>
   refine⟨λ {a} e Q E h=>?_⟩;refine bu e λz1 h1 e=>?_;obtain⟨u,σ1⟩:=z1;refine bu e λt h2 e=>wB ((S.e x p).go h1 λP1 xv T hx=>?_);have hs:=hx.1;subst hs;refine wB (wpAny_standAt (wB (wpAny_holding (fZ T.sr hx.2 h2 λs2 e2=>?_))));have T2:=T.trans (T.sr.ext e2);have stop (e:some (u,P1.σ)=some a):Q xv s2:=h _ _ T2 (sJ e▸⟨rfl,(T.sr.ext (b:=0) (F:=cz) e2).v hx.2⟩)
   induction op using PySem.BoolOp.casesOn<;>induction t using bC
   ·exact wP (stop e)
   ·exact((ih (p.to T2)).go (Q:=Q)) e λP3 y T3 hy=>h P3 y (T2.trans T3) hy
   ·exact((ih (p.to T2)).go (Q:=Q)) e λP3 y T3 hy=>h P3 y (T2.trans T3) hy
   ·exact wP (stop e)
theorem qY(S:Snd K r)(op:BoolOp)(es:List Ac):∀ {P:Pt},K.At ρ P→SimT K P (dh r K.c ρ (op== .And) P.σ (bP K.env.scope es)) (K.w (allTrue op es K.env)):=by
 induction es with
 |nil=>intro P p;exact⟨λe=>no e⟩
 |cons x es ih=>
  intro P p;refine⟨λ {v σ' t} e ht Q E h=>?_⟩
  induction es using lC with
  |nil=>
   refine bu e λz3 h1 e=>?_;obtain⟨u,σ1⟩:=z3;have e5:u=v∧σ1=σ':=pJ (sJ e);refine wB ((S.t x p).go h1 (by simp only[e5.1,e5.2];exact ht) λP1 T hs=>?_)
   induction op using PySem.BoolOp.casesOn<;>induction t using bC<;>exact wP (h P1 T (hs.trans e5.2))
  |cons y es=>
   refine bu e λz2 h1 e=>?_;obtain⟨u,σ1⟩:=z2;refine bu e λt1 h2 e=>wB ((S.t x p).go h1 h2 λP1 T hs=>?_);subst hs
   have stop (e:some (u,P1.σ)=some (v,σ')):Q t1 P1.s:=by have e:=pJ (sJ e);simp only[←e.1,←e.2,h2] at ht;exact sJ ht▸h P1 T e.2
   induction op using PySem.BoolOp.casesOn<;>induction t1 using bC
   ·exact wP (stop e)
   ·exact(λe=>(ih (p.to T)).go e ht λP3 T3 hy=>h P3 (T.trans T3) hy) e
   ·exact(λe=>(ih (p.to T)).go e ht λP3 T3 hy=>h P3 (T.trans T3) hy) e
   ·exact wP (stop e)
theorem ye(S:Snd K r){op:BoolOp}(p:K.At ρ P):SE K r ρ P (.BoolOp op es pos) (.b (op== .And) (bP K.env.scope es)):=qq S op es p
theorem CF(slice:Ac)(o i:Value):∃MW,subscripted slice false o i=operate MW (getItem o i):=by
 induction slice using PySem.Expr.casesOn
 case Slice a b c p=>induction c using oA<;>exact⟨_,rfl⟩
 all_goals exact⟨_,rfl⟩
theorem DZ{w:World}{E:Aa}{value slice:Ac}{o i:Value}{T:String}(hT:s.TypeIs o T)(hl:typeLookup (.type T) "__getitem__"=pure (some (.builtin id)))(h:wpAny (model pw w) A (getItem o i) Q E s):
 wpAny (model pw w) A (subscriptTail value slice o i) Q E s:=by
 refine wB ?_;refine(getitemInPython_of_ne hT.not_modules)▸?_;refine wB (wpAny_specialOf hT hl ?_)
 have fin:wpAny (model pw w) A (subscripted slice false o i) (λr M8=>wpAny (model pw w) A (letTemporaryGo value o r>>=λo_=>pure r) Q E M8) E s:=by
  have g:∀MW,wpAny _ A (operate MW _) (λr M8=>wpAny (model pw w) A (letTemporaryGo value o r>>=λo_=>pure r) Q E M8) E s:=λMW=>wpAny_operate' (wpAny_mono h (λr M8 Nl=>wB (wpAny_letTemporaryGo (wP Nl))) λo_ o_ x=>x)
  refine ek (CF slice o i) λMW h1=>h1▸?_;exact g MW
 first
  |exact wP (wB fin)|exact wB (wP (wB fin))|exact wB fin
noncomputable def Sub(s:Shared)(o:Value):Prop:=∃T id,s.TypeIs o T∧typeLookup (.type T) "__getitem__"=pure (some (.builtin id))
theorem r9{l:Addr}{xs:Array Value}(h:s.heap.IsList l xs):Sub s (.ref l):=⟨_,_,h.typeIs,slot_list_getitem.lookup⟩
theorem wY{l:Array UInt8}{t:Tok}:Sub s (.bytes l t):=⟨_,_,typeIs_bytes _ _ _,FB.slot_bytes_getitem.lookup⟩
theorem yT(p:SR U P){a:V}{xs:List V}(ha:VR P.L a x)(e:bc P.σ a=some xs):Sub P.s x:=by obtain⟨l,vs,h,hl,_⟩:=bk p ha e;simp only[h];exact r9 (dr hl)
theorem vf{L:Lay}{a:V}{b:Ab}(ha:VR L a x)(e:mT a=some b):Sub s x:=by refine aQ (bR ha e) λt h o_=>?_;simp only[h];exact wY
theorem xP(p:SR U P){a i:V}{v:V}(ha:VR P.L a x)(e:fJ P.σ a i=some v):Sub P.s x:=by
 refine bu e λi o_ e=>?_;rcases l4 e with e|e
 ·exact bu e λb e o_=>vf ha e
 ·refine bu e λxs e o_=>?_;obtain⟨l,vs,h,hl,_⟩:=iC p ha e;simp only[h];exact hl.elim r9 λhl=>⟨_,_,IsTup.typeIs hl,slot_tuple_getitem.lookup⟩
theorem sD(p:SR U P){a:V}{lo hi:Option V}{v:V}(ha:VR P.L a x)(e:du P.σ a lo hi=some v):Sub P.s x:=by
 refine bu e λi o_ e=>bu e λj o_ e=>?_;rcases l4 e with e|e
 ·exact eN e λb e o_=>vf ha e
 rcases l4 e with e|e
 ·refine bu e λb e o_=>aQ (dH ha e) λt h o_=>?_;simp only[h];exact⟨_,_,typeIs_str _ _ _,F.slot_str_getitem.lookup⟩
 ·exact eN e λxs e o_=>yT p ha e
theorem Hm(S:Snd K r){i:Ac}(p:K.At ρ P):SE K r ρ P (.Subscript o i pos) (.sub (bn K.env.scope o) (bn K.env.scope i)):=
 ((S.e o p).bindE (g:=λx=>qG (K.w (eval i K.env)) λy=>K.w (subscriptTail o i x y)) λP1 T1 x xv hx=>(S.e i (p.to T1)).bindE λP2 T2 y yv hy=>.ext T2.sr λe Q E k=>by obtain⟨T,id,hT,hl⟩:=xP T2.sr (T2.v hx) e;exact DZ hT hl (w6 T2.sr (T2.v hx) hy e Q E k)).to λh=>Subscript_ h
noncomputable abbrev RO(P:Pt)(l:Option V)(x:Value):Prop:=nh P.L l x
theorem nh.to{b:Nat}(T:To U b F P P'){l:Option V}(hv:nh P.L l x):nh P'.L l x:=by
 induction l using oA with
 |none=>exact hv|some u=>exact T.v hv
theorem j4(S:Snd K r)(lo:Option Ac)(p:K.At ρ P):hO K cz P (RE RO) (gf r K.c ρ P.σ (IS K.env.scope lo)) (valueOrNone (evalOpt lo K.env)):=by
 induction lo using oA with
 |none=>exact hO.ret p.sr ⟨rfl,rfl⟩|some x=>exact(S.e x p).mapE (λo_ o_=>rfl) λo_ o_ o_ o_ h=>h
theorem Cg(S:Snd K r){lo hi:Option Ac}{pos':Pos}(p:K.At ρ P):SE K r ρ P (.Subscript o (.Slice lo hi none pos') pos) (.l (bn K.env.scope o) (IS K.env.scope lo) (IS K.env.scope hi)):=by refine((S.e o p).bindE λP1 T1 x xv hx=>⟨λ {a} e Q E k=>?_⟩).to λh=>Subscript_ h;refine cps λX_ k_=>bu e λz5 e1 e=>?_;obtain⟨l,σ2⟩:=z5;refine bu e λz4 e2 e=>?_;obtain⟨u,OO⟩:=z4;refine eN e λz e e3=>k_ ?_;refine wB ((j4 S lo (p.to T1)).go e1 λP2 lv T2 hl=>?_);have hs:=hl.1;subst hs;refine wB (wpAny_holding ((j4 S hi (p.to (T1.trans T2))).go e2 λP3 uv T3 hu=>?_));have hs:=hu.1;subst hs;refine wB (wpAny_holding (wP ?_));refine wpAny_newObj_type ?_ (by delta sizeOk;simp[sizeLine]);have T4:To K.U K.c.b cz P3 _:=T3.sr.ext (Ext.push P3.s {cls:=.type "slice",data:=.fields #[lv,uv,.none]} P3.s.toks);obtain⟨T,id,hT,hlk⟩:=sD T4.sr (T4.v (T3.v (T2.v hx))) e;refine DZ hT hlk (su T4.sr (T4.v (T3.v (T2.v hx))) (nh.to T4 (nh.to T3 hl.2)) (nh.to T4 hu.2) ⟨_,Qr _ rfl,rfl,rfl⟩ e Q E λs' x ex hv=>?_);exact k _ _ ((T2.trans T3).trans (T4.trans (T4.sr.ext ex))) (e3▸⟨rfl,hv⟩)
end
theorem pG{op:CmpOp}{e:Ac}(h:dT e=true):behindInMarks op e=false:=by induction e using PySem.Expr.casesOn<;>first|rfl|exact dg h
theorem fN(MW:List CmpOp):∀ (rs:List Ac) (ts:List (Sem Value)),rs.all dT=true→markedEach MW rs ts=ts:=by
 induction MW with
 |nil=>intro rs ts o_;rfl
 |cons op MW ih=>
  intro rs ts h
  induction rs using lC with
  |nil=>induction MW using lC<;>(rfl)
  |cons e es=>
   have h:=aA (Rs▸h)
   induction ts using lC with
   |nil=>induction MW using lC<;>induction es using lC<;>(rfl)
   |cons t ts=>
    induction MW using lC with
    |cons op2 MW=>exact cG _ (ih es ts h.2)
    |nil=>
     induction es using lC with
     |cons e2 es=>exact cG _ (ih (e2::es) ts h.2)
     |nil=>
      induction ts using lC with
      |nil=>unfold markedEach markedBehindIn;exact(pG h.1)▸rfl|cons _ _=>exact(ih [] _ rfl)
theorem RoomA.line{d:Nat}(x:RoomA A d):A.units+10<cLine:=by have:=x.units;delta cLine;exact aZ [_,_] (.h 1 (.a (.a (.a ab (.m 20 ae)) (.c 20)) ai) (.c 9900) (.g (.a (.a ab (.c 10)) ai) (.c 9900))) rfl this
section
variable {K:Kx} {F:AP} {P P':Pt} {ρ:aF} {r:Ev} {pos:Pos}
theorem jw(S:Snd K r){op:CmpOp}{x:V}{α:Type}{k:V×aq→Bool→Option α}(p:K.At ρ P)(hx:VR P.L x xv){a:α}(e:((r.e K.c ρ P.σ (bn K.env.scope e1)).bind λy=>(iI y.2 (pR op) x y.1).bind (k y))=some a){E:Aa}(h:∀P1 y yv b,To K.U K.c.b cz P P1→VR P1.L y yv→k (y,P1.σ) b=some a→(∀Q E,(∀s',Ext P1.s s'→Q (.bool b) s')→wpAny (model pw K.U.w) K.A (compareOp op xv yv) Q E P1.s)→Q yv P1.s):wpAny (model pw K.U.w) K.A (eval e1 K.env) Q E P.s:=by refine bu e λz1 h1 e=>?_;obtain⟨y,σ1⟩:=z1;refine bu e λb h2 e=>(S.e e1 p).go h1 λP1 yv T hy=>?_;have hs:=hy.1;subst hs;exact h P1 y yv b T hy.2 e λQ E q=>GK op▸nr T.sr p.room.h p.room.line (T.v hx) hy.2 h2 q
theorem hO.end{P1:Pt}{b:Bool}{s2:Shared}{a:V×aq}(h:∀P' x,To K.U K.c.b F P P'→RE RV P' a x→Q x P'.s)(T:To K.U K.c.b F P P1)(e2:Ext P1.s s2)(e:some (V.bool b,P1.σ)=some a):Q (.bool b) s2:=
 h (P1.ext s2) _ (T.trans (T.sr.ext e2)) (sJ e▸⟨rfl,rfl⟩)
theorem sV(S:Snd K r)(rs:List Ac):∀ (MW:List CmpOp),MW.length=rs.length→∀ {x:V} {xv:Value} {P:Pt},K.At ρ P→VR P.L x xv→hO K cz P (RE RV) (ni r K.c ρ P.σ x (MW.map pR) (bP K.env.scope rs)) (compareChain pos xv MW (evalEach rs K.env)):=by
 induction rs with
 |nil=>intro MW hl x xv P p hx;induction MW using lC with|nil=>exact .bad|cons _ _=>exact nn hl rfl
 |cons e1 es ih=>
  intro MW hl x xv P p hx;refine⟨λ {a} e Q E h=>?_⟩
  induction MW using lC with
  |nil=>exact nn hl rfl|cons op MW=>
  induction es using lC with
  |nil=>
   induction MW using lC with
   |cons _ _=>exact nn hl rfl|nil=>refine wB (wpAny_holding (jw S p hx e λP1 y yv b T hy e hc=>?_));exact wB (wpAny_standAt (wpAny_operate' (hc _ _ λs' e2=>hO.end h T e2 e)))
  |cons e2 es=>
   induction MW using lC with
   |nil=>exact nn hl rfl
   |cons op2 MW=>
    refine wB (wpAny_holding (jw S p hx e λP1 y yv b T hy e hc=>?_));refine wB (wpAny_standAt (wB (wpAny_holding (hc _ _ λs2 ex=>?_))));refine wB (wpAny_release' (wB (wpAny_holding (wpAny_truthy_bool ?_))));have T2:To K.U K.c.b cz P1 _:=T.sr.ext ex
    induction b using bC with
    |true=>exact(ih (op2::MW) (R1 hl) (p.to (T.trans T2)) (T2.v hy)).go e λP3 z T3 hz=>h P3 z ((T.trans T2).trans T3) hz|false=>exact wP (hO.end h T ex e)
theorem uk(S:Snd K r)(rs:List Ac):∀ (MW:List CmpOp),MW.length=rs.length→∀ {x:V} {xv:Value} {P:Pt},K.At ρ P→VR P.L x xv→SimT K P (ni r K.c ρ P.σ x (MW.map pR) (bP K.env.scope rs)) (K.w (testChain pos xv MW (evalEach rs K.env))):=by
 induction rs with
 |nil=>intro MW hl x xv P p hx;induction MW using lC with|nil=>exact⟨λe=>no e⟩|cons _ _=>exact nn hl rfl
 |cons e1 es ih=>
  intro MW hl x xv P p hx;refine⟨λ {v σ' t} e ht Q E h=>?_⟩
  have fin {P1:Pt} {b:Bool} {s2:Shared} (T:To K.U K.c.b cz P P1) (e2:Ext P1.s s2) (e:some (V.bool b,P1.σ)=some (v,σ')):Q b s2:=by have e:=pJ (sJ e);rw[←e.1] at ht;exact sJ ht▸h (P1.ext s2) (T.trans (T.sr.ext e2)) e.2
  induction MW using lC with
  |nil=>exact nn hl rfl|cons op MW=>
  induction es using lC with
  |nil=>
   induction MW using lC with
   |cons _ _=>exact nn hl rfl|nil=>refine wB (wpAny_holding (jw S p hx e λP1 y yv b T hy e hc=>?_));exact wB (wpAny_standAt (wB (wpAny_operate' (hc _ _ λs' e2=>wpAny_holding (wpAny_truthy_bool (fin T e2 e))))))
  |cons e2 es=>
   induction MW using lC with
   |nil=>exact nn hl rfl
   |cons op2 MW=>
    refine wB (wpAny_holding (jw S p hx e λP1 y yv b T hy e hc=>?_));refine wB (wpAny_standAt (wB (wpAny_holding (hc _ _ λs2 ex=>?_))));refine wB (wpAny_release' (wB (wpAny_holding (wpAny_truthy_bool ?_))));have T2:To K.U K.c.b cz P1 _:=T.sr.ext ex
    induction b using bC with
    |true=>exact(ih (op2::MW) (R1 hl) (p.to (T.trans T2)) (T2.v hy)).go e ht λP3 T3 hz=>h P3 ((T.trans T2).trans T3) hz|false=>exact wP (fin T ex e)
theorem H7(S:Snd K r){l:Ac}{MW:List CmpOp}{rs:List Ac}(p:K.At ρ P):SE K r ρ P (.Compare l MW rs pos) (if rs.all dT&&MW.length==rs.length then .p (bn K.env.scope l) (MW.map pR) (bP K.env.scope rs) else .bad):=by
 by_cases q:(rs.all dT&&MW.length==rs.length)=true
 ·rw[iP q];have q:=aA q
  exact((S.e l p).bindE λP1 T x xv hx=>sV S rs MW (bA q.2) (p.to T) hx).to λh=>by rw[show K.w (eval (.Compare l MW rs pos) K.env)=_ from cG K.w (arm_eval_Compare ..),fN MW rs _ q.1];exact wB h
 ·rw[iN q];exact .bad
theorem IK(S:Snd K r){l:Ac}{MW:List CmpOp}{rs:List Ac}(p:K.At ρ P):ST K r ρ P (.Compare l MW rs pos) (if rs.all dT&&MW.length==rs.length then .p (bn K.env.scope l) (MW.map pR) (bP K.env.scope rs) else .bad):=by
 by_cases q:(rs.all dT&&MW.length==rs.length)=true
 ·rw[iP q];have q:=aA q;refine⟨λ {v σ' t} e ht Q E h=>?_⟩;refine bu e λz2 h1 e=>?_;obtain⟨x,σ1⟩:=z2;refine wB ((S.e l p).go h1 λP1 xv T hx=>?_);have hs:=hx.1;subst hs;refine(fN MW rs _ q.1)▸?_;exact(uk S rs MW (bA q.2) (p.to T) hx.2).go e ht λP2 T2 hs=>h P2 (T.trans T2) hs
 ·rw[iN q];exact⟨λe=>no e⟩
end
noncomputable def attrOk(K:Frag)(y:Nat×Nat):Bool:=decide (y.2<NT)&&plainGet K (d6 y.1) (nm y.2)&&hasDictIn K (d6 y.1)&&(match findIn K (.ref (d6 y.1)) (nm y.2) with|some a=>noGet K a|none=>false)
 &&findIn K (.ref (d6 y.1)) "__setattr__"==some (some (.builtin "object.__setattr__"))&&plainOver K (d6 y.1)&&takerIn K (d6 y.1) (nm y.2)==some none&&(clsIn K (d6 y.1)).any (·.hasDict)
theorem lr(P:Params):dP.all (attrOk (KF P))=true:=by kernel_rfl
noncomputable def AK(K:Frag)(y:(Nat×Nat)×Nat):Bool:=decide (y.1.2<NT)&&plainGet K (d6 y.1.1) (nm y.1.2)&&findIn K (.ref (d6 y.1.1)) (nm y.1.2)==some (some (.ref (uY y.2)))&&isFn K (.ref (uY y.2))&&fnIn K (uY y.2)
theorem sH(P:Params):vA.all (AK (KF P))=true:=by kernel_rfl
section
variable {U:Wd} {P:Pt} {L:Lay} {A:Around} {E:Aa}
theorem nP{v:V}(hv:VR L v x):handedIn x=true:=by
 induction v using Internal.V.casesOn with
 |none=>rw[show x=_ from hv];rfl|bool _=>rw[show x=_ from hv];rfl|int _=>obtain⟨_,h⟩:=hv;rw[h];rfl|str _=>obtain⟨_,h,_⟩:=hv;rw[h];rfl|bytes _=>obtain⟨_,h,_⟩:=hv;rw[h];rfl|t _=>obtain⟨_,_,_,h,_⟩:=hv;rw[h];rfl|list _=>obtain⟨_,_,_,h,_⟩:=hv;rw[h];rfl|inst _ _=>obtain⟨_,_,_,_,h,_⟩:=hv;rw[h];rfl|o _=>rw[hv.2];rfl|fn _=>rw[show x=_ from hv];rfl|cls _=>rw[show x=_ from hv];rfl
 |blt k=>
  rw[show x=_ from hv];delta sG
  repeat' split
  all_goals kernel_rfl
 |clo _ _ _=>obtain⟨_,_,_,h,_⟩:=hv;rw[h];rfl
theorem qR{k:Nat}{t:Tok}{key:Value}(hk:k<NT)(ha:a<NT)(e:key= .str (nm k) t):key.isStr (nm a)=(a==k):=by rw[e];refine(?_:(nm k==nm a)=_);rw[Rn,beq_iff_eq,beq_iff_eq];exact⟨λq=>(l6 hk ha q).symm,λq=>by exact q▸rfl⟩
theorem gM.look(ha:a<NT):∀ {es:List DictEntry},gM L fs es→match aE fs a with|some v=>∃x,lookIn (nm a) (dictOf es n)=some (some x)∧VR L v x|none=>lookIn (nm a) (dictOf es n)=some none:=by
 have main:∀ {es:List DictEntry},gM L fs es→es.any (·.refKey)=false∧match aE fs a with|some v=>∃e,es.find? (·.key.isStr (nm a))=some e∧VR L v e.val|none=>es.find? (·.key.isStr (nm a))=none:=by
  induction fs with
  |nil=>intro es r;refine(show _=_ from r)▸?_;exact⟨rfl,rfl⟩
  |cons y fs ih=>
   intro es r;obtain⟨k,x⟩:=y;obtain⟨e,t,h,⟨hk,u,hu⟩,hv,q⟩:=r;refine h▸?_;refine⟨?_,?_⟩
   ·simp only[RA,(ih q).1];delta DictEntry.refKey;exact hu▸rfl
   ·rw[cQ,S9,qR hk ha hu]
    induction a==k using bC with
    |true=>exact⟨e,rfl,hv⟩|false=>exact(ih q).2
 intro es r;obtain⟨h1,h2⟩:=main r;delta lookIn dictOf
 induction h:aE fs a using oA with
 |some v=>rw[h] at h2;exact aQ h2 λe h2 h3=>a7 (e.val) (by simp only[h2]) h3|none=>rw[h] at h2;have h2:=h2;simp only[h2,h1];rfl
noncomputable def A8(P:Pt)(x:Value)(C:Nat)(fs:List (Nat×V)):Prop:=∃a dx es n,x= .ref a∧InstAt P.s.heap a (instObj (d6 C) dx) (d6 C) (some (dictOf es n))∧gM P.L fs es
theorem ij(p:SR U P){v:V}(hv:VR P.L v x)(e:jX P.σ v=some (C,fs)):A8 P x C fs:=by
 induction v using Internal.V.casesOn with
 |inst C' fs'=>obtain⟨a,dx,es,n,h,h1,h2,h3⟩:=hv;have e:=pJ (sJ e);simp only[←e.1,←e.2];exact⟨a,dx,es,n,h,⟨p.g h1,rfl,rfl,p.g h2⟩,h3⟩
 |o n=>
  have e:(match P.σ[n]? with|some (.obj C fs)=>some _|_=>none)=_:=e
  induction h:P.σ[n]? using oA with
  |none=>rw[h] at e;exact no e
  |some c=>
   rw[h] at e
   induction c using Internal.Cell.casesOn with
   |list _=>exact no e|obj C' fs'=>obtain⟨dx,es,k,h1,h2,h3⟩:=p.cells n _ h;have e:=pJ (sJ e);simp only[←e.1,←e.2];exact⟨_,dx,es,k,hv.2,⟨p.g h1,rfl,rfl,p.g h2⟩,h3⟩
 |_=>exact no e
theorem AH(p:SR U P){expr:Bool}{v:V}(ho:A8 P x C fs)(ok:dP.contains (C,a)=true)(e:aE fs a=some v)(h:Pv P v Q):wpAny (model pw U.w) A (getAttr x (nm a) expr) Q E P.s:=by
 obtain⟨ad,dx,es,n,hx,I,hf⟩:=ho;have k:=lA (lr U.w.params) (C,a) (Q6.mp ok);unfold attrOk at k;refine cps λX_ k_=>?_;simp only[P9,decide_eq_true_eq] at k;obtain⟨⟨⟨⟨⟨⟨⟨k1,k2⟩,k3⟩,k4⟩,k5⟩,k6⟩,k7⟩,k8⟩:=k;have f:=gM.look k1 (n:=n) hf;rw[e] at f;refine aQ f λy f1 f2=>k_ ?_;refine hx▸?_
 induction O8:findIn (KF U.w.params) (.ref (d6 C)) (nm a) using oA with
 |none=>rw[O8] at k4;exact dg k4|some at_=>rw[O8] at k4;exact get_value p.k I (plainGet_of k2).1 (findObj_own k3 O8 k4 f1) (nP f2) (h _ _ (Ext.tok _ _) ((p.ext (b:=0) (F:=cz) (Ext.tok _ _)).v f2))
theorem kE{α β:Type}[BEq α][LawfulBEq α]{l:List (α×β)}{x:α}{n:β}(h:l.lookup x=some n):(x,n)∈l:=by
 induction l with
 |nil=>exact no h
 |cons y l ih=>
  obtain⟨y,m⟩:=y;rw[QW] at h
  induction hb:x==y using bC with
  |true=>rw[hb] at h;simp only[←sJ h,bA hb];exact mS ..|false=>rw[hb] at h;exact mM (ih h)
theorem wO(p:SR U P){k:Nat}(ho:A8 P x C fs)(hm:tc C a=some k)(e:(aE fs a).isNone=true){Q:Value×List Value→Shared→Prop}(h:Q (.ref (uY k),[x]) P.s):wpAny (model pw U.w) A (getMethod x (nm a) pl) Q E P.s:=by obtain⟨ad,dx,es,n,hx,I,hf⟩:=ho;have k:=lA (sH U.w.params) ((C,a),k) (kE hm);unfold AK at k;simp only[P9,decide_eq_true_eq,beq_iff_eq] at k;obtain⟨⟨⟨⟨k1,k2⟩,k3⟩,k4⟩,k5⟩:=k;have f:=gM.look k1 (n:=n) hf;simp only[Option.isNone_iff_eq_none.mp e] at f;rw[hx] at h⊢;exact method_fn p.k I (plainGet_of k2).1 (plainGet_of k2).2 k3 (bA k4) (by refine(?_:(lookIn (nm a) _).map _=_);rw[f];rfl) h
end
mutual
theorem ip {m n:Nat} (h:m≤n):∀ {v:V},below m v=true→below n v=true
 |.o k,e=>decide_eq_true (R3 (of_decide_eq_true e) h)|.t xs,e|.list xs,e=>j7 h e|.inst C fs,e|.clo _ _ fs,e=>kb h e|.none,_|.bool _,_|.int _,_|.str _,_|.bytes _,_|.fn _,_|.cls _,_|.blt _,_=>rfl
theorem j7 {m n:Nat} (h:m≤n):∀ {xs:List V},cr m xs=true→cr n xs=true
 |[],_=>rfl|x::xs,e=>have e:=aA e;(P9 _ _).mpr ⟨ip h e.1,j7 h e.2⟩
theorem kb {m n:Nat} (h:m≤n):∀ {xs:List (Nat×V)},dF m xs=true→dF n xs=true
 |[],_=>rfl|(k,x)::xs,e=>have e:=aA e;(P9 _ _).mpr ⟨ip h e.1,kb h e.2⟩
end
theorem m9{m:Nat}{ys:List V}(h:cr m ys=true){xs:List V}(e:cr m xs=true):cr m (xs++ys)=true:=by
 induction xs with
 |nil=>exact h|cons x xs ih=>have e:=aA e;exact(P9 _ _).mpr ⟨e.1,ih e.2⟩
theorem tS{m:Nat}{v:V}(hv:below m v=true)(e:dF m fs=true):dF m (bT fs a v)=true:=by
 induction fs with
 |nil=>exact(P9 _ _).mpr ⟨hv,rfl⟩
 |cons y fs ih=>
  obtain⟨k,x⟩:=y;have e:=aA e;simp only[tL];split
  ·exact(P9 _ _).mpr ⟨hv,e.2⟩
  ·exact(P9 _ _).mpr ⟨e.1,ih e.2⟩
section
variable {U:Wd} {P:Pt} {L:Lay} {A:Around} {E:Aa} {b:Nat} {F:AP} {s':Shared}
theorem LB.set{σ:aq}{v:V}{cl cl':Cell}(e:σ[n]?=some cl)(hb:(decide (b≤n)||below n v)=true)(h:∀b',below b' v=true→fq b' cl=true→fq b' cl'=true):LB b σ (σ.set n cl'):=by
 intro b' PU hl m cc hm e2;rw[Tx] at e2
 by_cases q:n=m
 ·rw[iP q] at e2;subst q;rw[iP (Qe.mp e).1] at e2;refine(sJ e2)▸?_;exact h b' (ip (Qx hm) ((Bool.or_eq_true_iff.mp hb).elim (λh=>absurd (R3 hm PU) (QQ.mpr (of_decide_eq_true h))) id)) (hl n cl hm e)
 ·rw[iN q] at e2;exact hl m cc hm e2
theorem SR.cell(x:SR U P){cl cl':Cell}{a:Addr}{o o':Obj}(e:P.σ[n]?=some cl)(ha:P.L.G a=some (.cell n,o))(hs:S6 a P.s.heap s'.heap)(e':s'.heap.get? a=some o')(hg:s'.gens=P.s.gens)(ho:s'.os=P.s.os)(nc:P.L.Le P.L.N (P.L.put a (.cell n) o')→j6 (P.L.put a (.cell n) o') n cl')(lb:LB b P.σ (P.σ.set n cl')):To U b F P ⟨P.L.put a (.cell n) o',P.σ.set n cl',s'⟩:=
 have ne:∀ {b r o2},P.L.G b=some (r,o2)→r≠ .cell n→(P.L.put a (.cell n) o').G b=some _:=λ {b r o2} h hr=>Lay.put_ne (by rintro rfl;rw[ha] at h;obtain⟨rfl,rfl⟩:=pJ (sJ h);exact hr rfl) h;have le:P.L.Le P.L.N _:=⟨λb o h=>ne h nofun,λo_ o_=>rfl,nR⟩
 ⟨le,λb o h o_=>ne h nofun,lb,⟨x.base,λ {b r o2} h=>by
  by_cases q:b=a
  ·subst q;rw[Lay.put_self] at h;obtain⟨rfl,rfl⟩:=pJ (sJ h);exact e'
  ·exact(hs.2 b q).trans (x.g ((Lay.put_ne q rfl).symm.trans h)),
  λb o h t=>ne (x.h0 b o h t) nofun,λt ht=>(x.tabs t ht).to le λb o h=>ne h nofun,hg▸x.gens,ho.trans x.os,x.n.trans (UQ ..).symm,λm c h=>by
   rw[Tx] at h
   by_cases q:n=m
   ·rw[iP q] at h;subst q;rw[iP (Qe.mp e).1] at h;exact sJ h▸nc le
   ·rw[iN q] at h;exact(x.cells m c h).to le (x.lt h) (x.cells m c h).below λb o h=>ne h (by rintro⟨⟩;exact q rfl)⟩⟩
theorem oO(x:SR U P){xs:List V}{v:V}(e:P.σ[n]?=some (.list xs))(hv:VR P.L v y)(hl:xs.length<65536)(hb:(decide (b≤n)||below n v)=true)(h:∀P',To U b F P P'→P'.σ=P.σ.set n (.list (xs++[v]))→Q .none P'.s):wpAny (model pw U.w) A (PySem.call (.builtin "list.append") [.ref (P.L.β n),y]) Q E P.s:=by obtain⟨o,vs,ho,⟨hn,k,hk⟩,hr⟩:=x.cells n _ e;refine append_at ((x.g ho).trans (cG some hk)) (λh' hs hD=>?_) (by rw[P7];exact cj hn rfl);refine h _ (x.cell (s':={P.s with heap:=h'}) (cl':=.list (xs++[v])) e ho hs hD rfl rfl (λle=>?_) (LB.set e hb λb' h1 h2=>m9 (ys:=[v]) ((P9 _ _).mpr ⟨h1,rfl⟩) h2)) rfl;exact⟨_,vs++[y],Lay.put_self,⟨by simp only[Qa,←hr.len];assumption,k+1,by rw[Tv]⟩,(hr.le le).append ⟨y,[],rfl,hv.le le,rfl⟩⟩
theorem Fz{x dx C:Addr}{K:Frag}{ox:Obj}{es:List DictEntry}{name:Str}{tk:Tok}{R:Result→Shared→Prop}(X:K.In s.heap)(I:InstAt s.heap x ox C (some (dictOf es n)))(hd:ox.dict=some dx)(D:s.heap.get? dx=some (dictOf es n))(hp:plainOver K C=true)(ht:takerIn K C name=some none)(hh:(clsIn K C).any (·.hasDict)=true)(hl:(lookIn name (dictOf es n)).isSome=true)(hz:(putL name (Qq U.w.params name) (.str name s.toks) y es).length≤1000)(h:∀h',S6 dx s.heap h'→h'.get? dx=some (dictOf (putL name (Qq U.w.params name) (.str name s.toks) y es) (putN name es n))→R (.ok (.ret .none)) {s with heap:=h',toks:=s.toks+1}):
 codeAny (model pw U.w) A (.call (.builtin "object.__setattr__") ⟨[.ref x,.str name tk,y],[]⟩) R s:=by
 refine osa_open X I hp ht λb=>aQ (any_some hh) λcd hc O7=>?_
 have D':(s.heap.update dx (Obj.putName name (Qq U.w.params name) (.str name s.toks) y)).get? dx=some (dictOf (putL name (Qq U.w.params name) (.str name s.toks) y es) (putN name es n)):=by simp only[←(show Obj.putName name (Qq U.w.params name) (.str name s.toks) y (dictOf es n)=_ from putName_dict ..)];exact Heap.get?_update_self _ D (by rw[(show _=_ from putName_dict ..)];rfl)
 obtain⟨hx,Oz,hn,-⟩:=I;obtain⟨oc,odi,oda,osl⟩:=ox;dsimp only at Oz hd;subst Oz hd;refine wB (wP (wB (wB (wpAny_loadPart hx (wB ((looks_clsIn X hc).here ?_))))));rw[O7];refine wP (wB (wP (wB ?_)));refine wB (wB (wpAny_askSetting (wP (wB (wpAny_mkText (wB (wpAny_loadPart D ?_)))))))
 have c:(!es.toArray.any (·.key.isStr name)&&es.toArray.any (·.refKey))=false:=by
  refine UF▸?_;refine UF▸?_
  induction he:es.find? (·.key.isStr name) using oA with
  |some en=>rw[QX.mpr ⟨en,Sz he,List.find?_some he⟩];rfl
  |none=>
   delta lookIn dictOf at hl;simp only[he] at hl
   induction z:es.any (·.refKey) using bC with
   |true=>rw[z] at hl;exact dg hl|false=>rw[TX]
 dsimp only[dictOf];rw[aRefKeyMayBeTheName_at,c];refine wpAny_updatePart D ?_;refine wB (wpAny_lookBehind D' (pastItsLine_dict (by simp only[sizeLine_eq];exact cj hz rfl)) ?_);exact wP (h _ (Vl ..) D')
theorem gM.put{v:V}{hsh:Int}{t:Tok}(ha:a<NT)(hv:VR L v y):∀ {es:List DictEntry},gM L fs es→gM L (bT fs a v) (putL (nm a) hsh (.str (nm a) t) y es):=by
 induction fs with
 |nil=>intro es r;simp only[show es=[] from r];exact⟨_,[],rfl,⟨ha,t,rfl⟩,hv,rfl⟩
 |cons z fs ih=>
  intro es r;refine cps λX_ k_=>?_;obtain⟨k,x⟩:=z;obtain⟨e,q,h,⟨hk,u,hu⟩,hx,hr⟩:=r;refine k_ ?_;simp only[h];unfold bT putL;rw[qR hk ha hu]
  by_cases z:k=a
  ·rw[z,beq_self_eq_true,iP rfl,iP rfl];exact⟨_,q,rfl,⟨ha,u,z▸hu⟩,hv,hr⟩
  ·rw[iN (λh=>z (bA h)),iN (λh=>z (bA h).symm)];exact⟨_,_,rfl,⟨hk,u,hu⟩,hx,ih hr⟩
theorem gM.len:∀ {es:List DictEntry},gM L fs es→es.length=fs.length:=by
 induction fs with
 |nil=>intro es r;refine(show _=_ from r)▸?_;rfl|cons z fs ih=>intro es r;obtain⟨e,q,h,_,_,hr⟩:=r;refine h▸?_;exact cG (· +1) (ih hr)
theorem A3(a:Nat)(v:V)(fs:List (Nat×V)):(bT fs a v).length≤fs.length+1:=by
 induction fs with
 |nil=>exact nR
 |cons z fs ih=>
  obtain⟨k,x⟩:=z;simp only[tL];split
  ·exact R4 _
  ·exact UO ih
theorem ny(x:SR U P){c:Cx}{v:V}{σ':aq}(e:fy c P.σ n a v=some σ')(hv:VR P.L v y){Q:Unit→Shared→Prop}(h:∀P',To U c.b cz P P'→P'.σ=σ'→Q () P'.s):wpAny (model pw U.w) A (setAttr (.ref (P.L.β n)) (nm a) y) Q E P.s:=by
 delta fy at e
 induction q:P.σ[n]? using oA with
 |none=>rw[q] at e;exact no e|some cl=>
 rw[q] at e
 induction cl using Internal.Cell.casesOn with
 |list _=>exact no e|obj C fs=>
 refine km e λok e=>?_;have ok:=aA ok;have ok2:=aA (aA ok.1).1;have k:=lA (lr U.w.params) (C,a) (Q6.mp ok2.2);unfold attrOk at k;refine cps λX_ k_=>?_;simp only[P9,decide_eq_true_eq,beq_iff_eq] at k;obtain⟨⟨⟨⟨⟨⟨⟨k1,k2⟩,k3⟩,k4⟩,k5⟩,k6⟩,k7⟩,k8⟩:=k;obtain⟨dx,es,m,h1,h2,hr⟩:=x.cells n _ q
 have hl:(lookIn (nm a) (dictOf es m)).isSome=true:=by
  have f:=gM.look k1 (n:=m) hr
  induction hg:aE fs a using oA with
  |some u=>rw[hg] at f;refine aQ f λy f o_=>?_;rw[f];rfl|none=>simp only[hg] at f;rw[show lookIn (nm a) (dictOf es m)=_ from f];rfl
 refine k_ ?_
 refine set_plain x.k (show InstAt P.s.heap _ _ _ (some _) from⟨x.g h1,rfl,rfl,x.g h2⟩) k5 (Fz (s:={P.s with toks:=P.s.toks+1}) x.k (show InstAt P.s.heap _ _ _ _ from⟨x.g h1,rfl,rfl,x.g h2⟩) rfl (x.g h2) k6 k7 k8 hl (by have z1:=(gM.put (hsh:=Qq U.w.params (nm a)) (t:=P.s.toks+1) k1 hv hr).len;have z2:=A3 a v fs;simp only[z1];exact cj (nT z2 (of_decide_eq_true ok2.1)) rfl) λh' hs hD=>?_)
 refine h _ (x.cell (s':={P.s with heap:=h',toks:=P.s.toks+1+1}) (cl':=.obj C (bT fs a v)) q h2 hs hD rfl rfl (λle=>?_) (LB.set q (aA ok.1).2 λb' z1 z2=>tS z1 z2)) e;have ne:P.L.β n≠dx:=λz=>by simp only[z,h2] at h1;cases h1
 exact⟨dx,_,_,Lay.put_ne ne h1,Lay.put_self,gM.put k1 (hv.le le) (gM.to le (gM.below hr) hr)⟩
end
theorem E7(P:Params):(vD.all λy=>fnIn (KF P) (uY y.1)&&keepIn (KF P) (.ref (uY y.1)))=true:=by kernel_rfl
theorem DC(P:Params):(pH.all λy=>keepIn (KF P) (.ref (d6 y.1)))=true:=by kernel_rfl
noncomputable def gD(f:Value)(h:Heap):Prop:=∀M,∃k,(k=Keeper.frame∨k=Keeper.machine∨k=Keeper.boundFrame)∧Looks M h (keeperOf f) k
theorem gN{h:Heap}:gD (.builtin id) h:=λM=>⟨.machine,.inr (.inl rfl),Looks.of_pure rfl⟩
theorem mI{h:Heap}:gD (.type id) h:=λM=>⟨.machine,.inr (.inl rfl),Looks.of_pure rfl⟩
section
variable {K:Kx} {P P':Pt} {ρ:aF} {r:Ev} {pos:Pos}
theorem Cf(x:SR U P){f:V}{fv:Value}(ok:mN f=true)(hf:VR P.L f fv):gD fv P.s.heap:=by
 induction f using Internal.V.casesOn with
 |fn k=>rw[show fv=_ from hf];exact ek (Qz.mp ok) λFn hk=>λM=>keeps_K (aA (lA (E7 U.w.params) _ (mem_lookup hk))).2 _ x.k|cls C=>rw[show fv=_ from hf];exact ek (Qz.mp ok) λFn hk=>λM=>keeps_K (lA (DC U.w.params) _ (mem_lookup hk)) _ x.k
 |blt k=>
  rw[show fv=_ from hf];delta sG
  repeat' split
  any_goals exact gN
  all_goals exact mI
 |clo ps body MX=>obtain⟨a,o,fd,h,ho,hc,_⟩:=hf;rw[h];refine λM=>⟨.frame,.inl rfl,(Looks.ld (x.g ho)).andThen ?_⟩;refine hc.data▸?_;exact .now|_=>exact dg ok
theorem mh(S:Snd K r):∀ {σ σ2:aq} {vs:List V},bg r K.c ρ σ (bP K.env.scope es)=some (vs,σ2)→(backTo pos (starEach es K.env)).any (·.1)=false∧(backTo pos (starEach es K.env)).all (!·.1)=true:=by
 induction es with
 |nil=>intro σ σ2 vs e;exact⟨rfl,rfl⟩
 |cons e es ih=>
  intro σ σ2 vs e0;refine kF e0 λu σ1 h1 e0=>kF e0 λus OO h2 o_=>?_;rcases qe e with⟨a,b,h⟩|N9
  ·rw[h] at h1;exact no ((S.bad _ _).symm.trans h1)
  ·rw[N9];exact ih h2
theorem cI(S:Snd K r){fv:Value}{first:List Value}{vs:List V}{σ2:aq}(p:K.At ρ P)(e:bg r K.c ρ P.σ (bP K.env.scope es)=some (vs,σ2)){E}(h:∀P2 xs,To K.U K.c.b cz P P2→σ2=P2.σ→bQ P2.L vs xs→gD fv P2.s.heap∧wpAny (model pw K.U.w) K.A (PySem.call fv (first++xs)) Q E P2.s):
 wpAny (model pw K.U.w) K.A (callWith pos fv first (backTo pos (starEach es K.env)) (backToKw pos (keywordEach [] K.env))) Q E P.s:=by
 have ar:=(gB (pos:=pos) S es p).go e (Q:=λvs s'=>gD fv s'.heap∧wpAny (model pw K.U.w) K.A (PySem.call fv (first++vs)) Q E s') (E:=E) λP2 xs T hx=>h P2 xs T hx.1 hx.2;refine callWith_of (P:=gD fv) (by rw[(mh S e).1];rfl) (λh k=>k (model pw K.U.w)) ?_
 induction es using lC with
 |nil=>have e:=pJ (sJ e);exact evalArgs_empty (h P [] (To.refl p.sr) e.2.symm (e.1▸rfl))
 |cons e1 es=>
  rcases qe e1 with⟨a,b,hs⟩|N9
  ·refine kF e λu σ1 h1 o_=>?_;rw[hs] at h1;exact no ((S.bad _ _).symm.trans h1)
  ·rw[N9] at ar⊢;refine(?_:wpAny _ K.A (evalArgs fv true ((false,eval e1 K.env)::backTo pos _) []) _ E P.s);exact evalArgs_plain ar
theorem ki(S:Snd K r)(p:K.At ρ P){f:V}{args:List V}{fv:Value}{vs:List Value}{v:V}{σ':aq}(hf:VR P.L f fv)(ha:bQ P.L args vs)(e:r.call P.σ f args=some (v,σ')){E}(h:∀P' x,To K.U K.c.b cz P P'→σ'=P'.σ∧VR P'.L v x→Q x P'.s):gD fv P.s.heap∧wpAny (model pw K.U.w) K.A (PySem.call fv vs) Q E P.s:=by
 refine⟨Cf p.sr (S.cs.fnc _ _ _ _ e) hf,?_⟩;have fin:∀P' x,To K.U P.L.N cz P P'→P'.σ=σ'→VR P'.L v x→Q x P'.s:=λP' x T hs hx=>h P' x (T.lower p.low) ⟨hs.symm,hx⟩
 induction hb:xQ f using bC with
 |false=>exact wpAny_call (S.cs.c p.room.c hb p.sr hf ha e Q E fin)
 |true=>
  induction f using Internal.V.casesOn with
  |blt k=>refine(show _=_ from hf)▸?_;exact S.cs.b p.room.c p.sr ha e Q E fin|_=>exact dg hb
theorem ze{func:Ac}(hne:∀a b c,func≠ .Attribute a b c)(args:List Ac)(Ok:List Keyword)(pos:Pos)(env:Env):
 eval (.Call func args Ok pos) env=(eval func env>>=λf=>callWith pos f [] (backTo pos (starEach args env)) (backToKw pos (keywordEach Ok env))):=by
 induction func using PySem.Expr.casesOn with
 |Attribute a b c=>exact absurd rfl (hne a b c)|_=>rfl
theorem EU(S:Snd K r){func:Ac}{args:List Ac}(hne:∀a b c,func≠ .Attribute a b c)(hg:ju (bP K.env.scope args)=false)(p:K.At ρ P):SE K r ρ P (.Call func args [] pos) (.call (bn K.env.scope func) (bP K.env.scope args)):=⟨λ {a} e Q E h=>by have e:(if ju _=true then _ else(r.e K.c ρ P.σ _).bind _)=_:=e;rw[hg,iN fF] at e;refine kF e λf σ1 h1 e=>kF e λvs σ2 h2 e=>?_;rw[ze hne];refine wB ((S.e func p).go h1 λP1 fv T1 hf=>?_);have hs:=hf.1;subst hs;refine cI S (p.to T1) h2 λP2 xs T2 hs NQ=>?_;subst hs;exact ki S ((p.to T1).to T2) (T2.v hf.2) NQ e λP3 x T3 hx=>h P3 x ((T1.trans T2).trans T3) hx⟩
end
noncomputable def Ei:Option (List Value)→Bool
 |some (.ref f::_)=>f==385|_=>false
theorem xU{o:Option (List Value)}(h:Ei o=true):∃rest,o=some (.ref 385::rest):=by
 induction o using oA with
 |none=>exact dg h|some l=>induction l using lC with|nil=>exact dg h|cons v l=>induction v using PySem.Value.casesOn with|ref f=>exact⟨l,cG (λz=>some (Tg z::l)) (bA h)⟩|_=>exact dg h
noncomputable def DN(K:Frag):Bool:=plainGet K 403 (nm 130)&&hasDictIn K 403&&findIn K (.ref 403) (nm 130)==some (some (.ref 386))&&specialIn K (.ref 386) "__get__"==some (some (.builtin "property.__get__"))
 &&takesIn K (.ref 386)==some true&&Ei (recIn K 386 "property")
theorem sL(P:Params):DN (KF P)=true:=by kernel_rfl
theorem xm{k:Nat}(h:jM C a=some k):C=129∧a=130∧k=37003:=by refine km h λq e=>?_;have q:=aA q;exact ou (bA q.1) (bA q.2) (e.symm)
section
variable {K:Kx} {P P':Pt} {ρ:aF} {r:Ev} {pos:Pos}
theorem Ew{M:Model}{E:Aa}{env:Env}{a:Str}(hn:dM o=true){whole:Sem Value}(h:wpAny M A whole Q E s):wpAny M A (attributeBase o a env whole) Q E s:=by
 induction o using PySem.Expr.casesOn
 case Call f as ks p=>
  induction f using PySem.Expr.casesOn
  case Name id q=>
   induction as using lC with
   |cons _ _=>exact h
   |nil=>induction ks using lC with|cons _ _=>exact h|nil=>
     delta attributeBase;refine(?_:wpAny M A (@ite _ _ (instDecidableEqBool _ true) _ _) Q E s);rw[iP]
     ·first|exact h|exact wB (wpAny_mono h (λv s hq=>wP hq) λo_ o_ z=>z)
     ·rw[(show(id !=_)=_ from hn)];rfl
  all_goals exact h
 all_goals exact h
theorem EM(S:Snd K r){a:Str}(p:K.At ρ P):SE K r ρ P (.Attribute o a pos) (match idOf a with|some a=>if dM o then .attr (bn K.env.scope o) a else .bad|none=>.bad):=by
 induction NC:idOf a using oA with
 |none=>exact .bad|some k=>
 induction hn:dM o using bC with
 |false=>exact .bad|true=>
 rw[←(bx NC).2];refine⟨λ {a0} e Q E h=>?_⟩;refine bu e λz3 h1 e=>?_;obtain⟨x,σ1⟩:=z3;refine kF e λC fs ho e=>wB (Ew hn ((S.e o p).go h1 λP1 xv T hx=>?_));have hs:=hx.1;subst hs;refine wB (wpAny_standAt (wB (wpAny_holding ?_)));have e:(match jM C k with|some k=>r.call P1.σ _ [x]|none=>if dP.contains (C,k) then(aE fs k).map λv=>_ else none)=_:=e
 induction hp:jM C k using oA with
 |none=>rw[hp] at e;exact vO e λok e=>eN e λv hg e=>AH T.sr (ij T.sr hx.2 ho) ok hg λs2 y e2 hy=>wB (wpAny_letTemporaryGo (wP (h (P1.ext s2) y (T.trans (T.sr.ext e2)) (e▸⟨rfl,hy⟩))))
 |some k'=>
  refine cps λX_ k_=>?_;simp only[hp] at e;refine dR (xm hp) λhC hk NZ=>?_;subst hC hk NZ;obtain⟨ax,dx,es,n,hxv,I,hf⟩:=(ij T.sr hx.2 ho);have k:=sL K.U.w.params;refine k_ ?_;unfold DN at k;simp only[P9,beq_iff_eq] at k;obtain⟨⟨⟨⟨⟨k1,k2⟩,k3⟩,k4⟩,k5⟩,k6⟩:=k;obtain⟨rest,Oa⟩:=xU k6;have O5:=hx.2;rw[hxv] at O5⊢;refine get_bind T.sr.k I (plainGet_of k1).1 (findObj_data (by refine aQ (any_some k2) λcd hcd o_=>?_;exact(by refine(show _=_ from hcd)▸?_;rfl)) k3 k4 k5) (plainGet_of k1).2 ?_;have T2:To K.U K.c.b cz P1 (P1.ext {P1.s with toks:=P1.s.toks+1}):=T.sr.ext (Ext.tok _ _);refine wpAny_call (prop_get T2.sr.k Oa ?_)
  refine codeAny_mono (S.cs.c (f:=.fn 37003) (fv:=.ref 385) (args:=[x]) ((p.to T).to T2).room.c1 rfl T2.sr rfl ⟨_,[],rfl,T2.v O5,rfl⟩ e
   (λv s'=>wpAny (model pw K.U.w) K.A (handedOut v) (λr s3=>wpAny (model pw K.U.w) K.A (letTemporaryGo o (.ref ax) r>>=λo_=>pure r) Q E s3) E s') (λe s'=>wpAny (model pw K.U.w) K.A (noteIf true (.ref ax) (.str (nm 130) P1.s.toks) e) (λo_ Pi=>E e Pi) E s') λP3 y T3 hs hy=>?_) λr s' q=>q
  exact handed_on (nP hy) (wB (wpAny_letTemporaryGo (wP (h P3 y ((T.trans T2).trans (T3.lower ((p.to T).to T2).low)) ⟨hs.symm,hy⟩))))
theorem Ae{w:World}{E:Aa}{env:Env}{a:Str}{apos pos:Pos}{args:List Ac}(hl:(apos.endLine==pos.line)=true)(hn:dM o=true)(Oe:(backTo pos (starEach args env)).all (!·.1)=true)(MZ:args.length≤20)(h:wpAny (model pw w) A (eval o env) (λov M1=>∀pl,wpAny (model pw w) A (getMethod ov a pl) (λfx Nd=>wpAny (model pw w) A (callWith pos fx.1 fx.2 (backTo pos (starEach args env)) (backToKw pos (keywordEach [] env))) Q E Nd) E M1) E s):
 wpAny (model pw w) A (eval (.Call (.Attribute o a apos) args [] pos) env) Q E s:=by
 refine wB (Ew hn (wpAny_mono h (λov s1 h1=>?_) λo_ o_ z=>z));refine wB (wpAny_standAt ?_);delta methodCall
 have few:methodCallForm (args.length+([]:List Keyword).length) (backTo pos (starEach args env)) (backToKw pos (keywordEach [] env))=true:=by delta methodCallForm;rw[Oe];exact decide_eq_true (kJ MZ rfl)
 refine few▸?_;refine wB (wpAny_holding ?_);refine wpAny_mono (h1 _) (λfx s2 h2=>?_) λo_ o_ z=>z;refine wB ?_;delta methodCallPos;rw[hl];exact wP h2
noncomputable abbrev MethW(K:Kx)(args:List PySem.Expr)(pos:Pos)(x:Value)(k:Nat)(pl:Sem Bool):WP Value:=λQ E s=>wpAny (model pw K.U.w) K.A (getMethod x (nm k) pl) (λfx Nd=>wpAny (model pw K.U.w) K.A (callWith pos fx.1 fx.2 (backTo pos (starEach args K.env)) (backToKw pos (keywordEach [] K.env))) Q E Nd) E s
theorem zB(S:Snd K r){args:List Ac}{x:V}{k k':Nat}(p:K.At ρ P)(hx:VR P.L x xv)(ho:jX P.σ x=some (C,fs))(hg:(aE fs k).isNone=true)(hm:tc C k=some k'):
 SimW K cz P (RE RV) ((bg r K.c ρ P.σ (bP K.env.scope args)).bind (f8 r K.c x k (.fnm k'))) (MethW K args pos xv k pl):=⟨λ {a} e Q E h=>by
 refine bu e λz4 h2 e=>?_;obtain⟨vs,σ2⟩:=z4;refine wO p.sr (ij p.sr hx ho) hm hg (cI S p h2 λP2 xs T2 hs NQ=>?_);subst hs;exact ki S (p.to T2) (f:=.fn k') rfl (args:=x::vs) ⟨_,xs,rfl,T2.v hx,NQ⟩ e λP3 y T3 hy=>h P3 y (T2.trans T3) hy⟩
theorem zF(S:Snd K r){args:List Ac}{x:V}{k:Nat}(p:K.At ρ P)(hx:VR P.L x xv)(hi:(pn x).lookup k=some i):
 SimW K cz P (RE RV) ((bg r K.c ρ P.σ (bP K.env.scope args)).bind (f8 r K.c x k (.val i))) (MethW K args pos xv k pl):=⟨λ {a} e Q E h=>by
 refine bu e λz5 h2 e=>?_;obtain⟨vs,σ2⟩:=z5;refine eN e λv e e2=>zM hx hi (cI S p h2 λP2 xs T2 hs NQ=>⟨gN,?_⟩);subst hs;exact wk T2.sr hi e (T2.v hx) NQ Q E λs' y ex hy=>h _ _ (T2.trans (T2.sr.ext ex)) (e2▸⟨rfl,hy⟩)⟩
theorem A4(S:Snd K r){args:List Ac}{k:Nat}(p:K.At ρ P)(hx:VR P.L (.o n) xv)(hc:(vb P.σ[n]?&&k==195)=true):
 SimW K cz P (RE RV) ((bg r K.c ρ P.σ (bP K.env.scope args)).bind (f8 r K.c (.o n) k (.app n))) (MethW K args pos xv k pl):=⟨λ {a} e Q E h=>by
 refine cps λX_ k_=>bu e λz6 h2 e=>?_;obtain⟨vs,σ2⟩:=z6;have hc:=aA hc;obtain⟨hnN,hxv⟩:=hx;refine k_ ?_
 induction q:P.σ[n]? using oA with
 |none=>rw[q] at hc;exact dg hc.1|some cl=>
 induction cl using Internal.Cell.casesOn with
 |obj _ _=>rw[q] at hc;exact dg hc.1|list xs=>
 obtain⟨ob,us,ho,⟨hn1,m,hm⟩,hr1⟩:=p.sr.cells n _ q;simp only[bA hc.2,hxv];have e:(match (generalizing:=false) σ2[n]?,vs with|some (.list xs),[v]=>if _&&below σ2.length v&&xs.length<65536 then some _ else none|_,_=>none)=_:=e
 induction q2:σ2[n]? using oA with
 |none=>rw[q2] at e;exact no e|some cl=>
 rw[q2] at e
 induction cl using Internal.Cell.casesOn with
 |obj _ _=>exact no e|list ys=>
 induction vs using lC with
 |nil=>exact no e|cons v vs=>
 induction vs using lC with
 |cons _ _=>exact no e|nil=>
 obtain⟨hg,e⟩:=fO e;have hg:=aA hg;refine(?_:wpAny _ K.A _ _ E P.s);refine wn▸?_;refine getMethod_list_append ((p.sr.g ho).trans (cG some hm)) rfl rfl ?_;refine cI S p h2 λP2 xs T2 hs NQ=>⟨gN,?_⟩;refine cps λX_ k_=>?_;subst hs;obtain⟨y,_,h3,hy,h4⟩:=NQ;refine k_ ?_;simp only[h3,show _=_ from h4,←T2.le.b n hnN];exact oO T2.sr q2 hy (of_decide_eq_true hg.2) (aA hg.1).1 λP3 T3 hs=>h P3 _ (T2.trans T3) (e▸⟨hs.symm,rfl⟩)⟩
theorem F6(S:Snd K r){a:Str}{apos:Pos}{args:List Ac}(p:K.At ρ P):SE K r ρ P (.Call (.Attribute o a apos) args [] pos)
 (match idOf a with|some a=>if dM o&&apos.endLine==pos.line&&decide (args.length≤20) then .m (bn K.env.scope o) a (bP K.env.scope args) else .bad|none=>.bad):=by
 induction NC:idOf a using oA with
 |none=>exact .bad|some k=>
 induction hn:dM o&&apos.endLine==pos.line&&decide (args.length≤20) using bC with
 |false=>exact .bad|true=>
 have hn:=aA hn;rw[←(bx NC).2];refine⟨λ {a0} e Q E h=>?_⟩;refine cps λX_ k_=>bu e λz7 h1 e=>?_;obtain⟨x,σ1⟩:=z7;refine bu e λmk hm e=>bu e λz h2 o_=>k_ ?_;refine Ae (aA hn.1).2 (aA hn.1).1 (mh S h2).2 (of_decide_eq_true hn.2) ((S.e o p).go h1 λP1 xv T hx pl=>?_);have hs:=hx.1;subst hs;have fin (w:SimW K cz P1 (RE RV) ((bg r K.c ρ P1.σ (bP K.env.scope args)).bind (f8 r K.c x k mk)) (MethW K args pos xv k pl)):MethW K args pos xv k pl Q E P1.s:=w.go e λP3 y T3 hy=>h P3 y (T.trans T3) hy;refine fin ?_;delta da at hm
 induction ho:jX P1.σ x using oA with
 |some y=>refine cps λX_ k_=>?_;obtain⟨C,fs⟩:=y;rw[ho] at hm;refine vO hm λhg hm=>eN hm λk' hm hk=>k_ ?_;refine hk▸?_;exact zB S (p.to T) hx.2 ho hg hm
 |none=>
  rw[ho] at hm
  have val (hm:((pn x).lookup k).map MK.val=some mk):SimW K cz P1 (RE RV) ((bg r K.c ρ P1.σ (bP K.env.scope args)).bind (f8 r K.c x k mk)) (MethW K args pos xv k pl):=by refine eN hm λi hm hk=>hk▸?_;exact zF S (p.to T) hx.2 hm
  induction x using Internal.V.casesOn with
  |o n=>refine km hm λhc hm=>?_;rw[←hm];exact A4 S (p.to T) hx.2 hc|bytes _=>exact val hm|str _=>exact val hm|_=>exact no hm
end
section
variable {K:Kx} {P P':Pt} {ρ:aF} {r:Ev} {pos:Pos}
theorem jb{k:Nat}{v:V}(p:K.At ρ P)(hw:HK K.ws k)(hv:VR P.L v y):hO K K.F P (RB K) ((cZ K.c ρ k v).map λρ=>(ρ,P.σ)) (storeName K.env (nm k) y):=⟨λ {a} e Q E h=>by
 refine eN e λρ1 e1 e2=>?_;have e1:(if _=true then none else some _)=_:=e1
 induction hz:K.c.fz.contains k&&(aE ρ k).isSome using bC with
 |true=>rw[hz] at e1;exact no e1
 |false=>
  rw[hz] at e1
  have w:=hZ p hw (λq=>by
   induction hg:aE ρ k using oA with
   |none=>rfl|some u=>rw[hg,Q6.mpr q] at hz;exact nomatch hz) hv
  exact w.go (by refine e2▸?_;exact(sJ e1)▸rfl) h⟩
theorem jy{x:Str}{k:Nat}{v:V}(p:K.At ρ P)(NC:idOf x=some k)(hs:kK K.ws x=true)(hv:VR P.L v y):hO K K.F P (RB K) ((cZ K.c ρ k v).map λρ=>(ρ,P.σ)) (bindName K.env x y):=by refine d7 (bx NC) λhk hx=>?_;rw[←hx] at hs⊢;exact(jb p ⟨hk,hs⟩ hv).to λh=>wpAny_bindName h
theorem ud{ts:List Ac}(h:ts.all (xZ sc)=true)(env:Env):assignEach ts env=ts.map λt=>(false,assign t env):=by
 induction ts with
 |nil=>rfl
 |cons t ts ih=>
  have h:=aA (Rs▸h);have ih:=ih h.2
  induction t using PySem.Expr.casesOn with
  |Starred a b=>exact dg h.1|_=>exact cG (List.cons _) ih
theorem sQ{c:Cx}(ts:List Ac):∀ {ρ ρ':aF} {σ σ':aq} {vs:List V},fh c ρ σ (yd sc ts) vs=some (ρ',σ')→ts.length=vs.length:=by
 induction ts with
 |nil=>intro ρ ρ' σ σ' vs e;induction vs using lC with|nil=>rfl|cons _ _=>exact no e
 |cons t ts ih=>
  intro ρ ρ' σ σ' vs e
  induction vs using lC with
  |nil=>exact no e|cons v vs=>exact bu e λz o_ e=>cG (· +1) (ih e)
theorem kB{v:V}(ok:xZ K.ws t=true)(p:K.At ρ P)(hv:VR P.L v y):hO K K.F P (RB K) (bJ K.c ρ P.σ (nA K.env.scope t) v) (assign t K.env y):=by
 induction t using PySem.Expr.casesOn with
 |Name x pos=>
  refine(?_:hO K K.F P (RB K) (bJ K.c ρ P.σ (match cu K.env.scope x with|.v k=>.v k|_=>.bad) v) _);rcases dy K.env.scope x with hk|⟨k,hk⟩|⟨k,hk⟩
  ·refine hk▸?_;exact .bad
  ·rw[hk];exact(jy p (dE hk).1 ok hv).to λh=>wB (wpAny_standAt h)
  ·rw[hk];exact .bad
 |Attribute o a pos=>
  induction o using PySem.Expr.casesOn with
  |Name x px=>
   refine(?_:hO K K.F P (RB K) (bJ K.c ρ P.σ (match cu K.env.scope x,idOf a with|.v k,some a=>.attr k a|_,_=>.bad) v) _);rcases dy K.env.scope x with hk|⟨k,hk⟩|⟨k,hk⟩
   ·refine hk▸?_;exact .bad
   ·rw[hk]
    induction ha:idOf a using oA with
    |none=>exact .bad
    |some ak=>
     refine⟨λ {b} e Q E h=>?_⟩;have e:(match aE ρ k with|some (.o n)=>(fy K.c P.σ n ak v).map λσ=>(ρ,σ)|_=>none)=_:=e
     induction hg:aE ρ k using oA with
     |none=>rw[hg] at e;exact no e|some u=>
     rw[hg] at e
     induction u using Internal.V.casesOn with
     |o n=>refine eN e λσ1 e1 e2=>d7 (bx (dE hk).1) λhx O5=>O5▸?_;refine((bx ha).2)▸?_;refine wB (wpAny_holding (wpAny_Name (eM p hg λz hz=>?_) (kq hx).2.1));refine hz.2▸?_;refine wB (wpAny_standAt (wB (wpAny_holding (ny p.sr e1 hv λP' T hs=>wpAny_release' ?_))));exact h P' () T.wide (e2▸⟨hs.symm,(p.to T).fr⟩)|_=>exact no e
   ·rw[hk];exact .bad
  |_=>exact dg ok
 |_=>exact dg ok
theorem pd(ts:List Ac):∀ {ρ:aF} {P:Pt} {vs:List V} {ys:List Value},ts.all (xZ K.ws)=true→K.At ρ P→bQ P.L vs ys→hO K K.F P (RB K) (fh K.c ρ P.σ (yd K.env.scope ts) vs) (assignInOrder (ts.map λt=>assign t K.env) ys):=by
 induction ts with
 |nil=>
  intro ρ P vs ys ok p hv
  induction vs using lC with
  |nil=>exact⟨λe Q E h=>wP (h P () (To.refl p.sr) (sJ e▸⟨rfl,p.fr⟩))⟩|cons _ _=>exact .bad
 |cons t ts ih=>
  intro ρ P vs ys ok p hv
  induction vs using lC with
  |nil=>exact .bad|cons v vs=>have ok:=aA (Rs▸ok);obtain⟨y,q,hys,hy,hq⟩:=hv;simp only[hys];refine((kB ok.1 p hy).bind (f:=λz:aF×aq=>fh K.c z.1 z.2 (yd K.env.scope ts) vs) (g:=λo_=>K.w (assignInOrder (ts.map λt=>assign t K.env) q)) λP1 a x T h=>?_).to λh=>wB (wpAny_holding h);refine(show _=_ from h.1)▸?_;exact ih ok.2 (p.toF T h.2) (T.vs hq)
theorem eW{v:V}(ok:mZ K.ws t=true)(p:K.At ρ P)(hv:VR P.L v y):hO K K.F P (RB K) (bJ K.c ρ P.σ (nA K.env.scope t) v) (assign t K.env y):=by
 induction t using PySem.Expr.casesOn with
 |Tuple ts n pos=>
  induction v using Internal.V.casesOn with
  |t vs=>
   obtain⟨a,o,us,h1,ho,hi,hr⟩:=hv;refine⟨λ {b} e Q E h=>?_⟩;refine h1▸?_;refine wB (wpAny_standAt ?_);delta unpack;refine(ud ok K.env)▸?_
   have hfi:(ts.map λt=>(false,assign t K.env)).findIdx? (·.1)=none:=by rw[List.findIdx?_eq_none_iff];intro x hx;refine jz hx λt o_ z1=>?_;subst z1;rfl
   rw[hfi,KE];have Pq:ts.length=us.toArray.size:=by simp only[P7,←hr.len,(sQ ts e)]
   refine Pq▸?_;refine wB (wpAny_holding (unpackItems_tuple p.room.h ⟨o,p.sr.g ho,hi.list.2⟩ λh' hx=>?_));have T:To K.U K.c.b cz P (P.ext {P.s with heap:=h'}):=p.sr.ext ⟨λ {b o} q=>hx b o (Sb (Q9 q)) q,rfl,rfl⟩;rw[Qk];exact(pd ts ok (p.to T) (T.vs hr)).go e λP2 x T2 hx=>h P2 x (T.wide.trans T2) hx
  |_=>exact .bad
 |_=>exact kB ok p hv
end
noncomputable abbrev SS(K:Kx)(r:Ev)(ρ:aF)(P:Pt)(st:PySem.Stmt)(e:S):Prop:=hO K K.F P (RS K) (br r K.c ρ P.σ e) (exec st K.env)
noncomputable abbrev uE(K:Kx)(Nf:PySem.Expr)(body:List PySem.Stmt):WP Flow:=λQ E s=>codeAny (model pw K.U.w) K.A (.whileLoop Nf body [] K.env) (λr s'=>match r with|.ok f=>Q f s'|.error e=>E e s') s
structure SndS(K:Kx)(r:Ev):Prop extends Snd K r where
 ws:K.ws=K.env.scope
 s:∀ {ρ P:_} (ss:List PySem.Stmt),K.At ρ P→hO K K.F P (RS K) (r.ss K.c ρ P.σ (fW K.env.scope ss)) (execs ss K.env)
 wh:∀ {ρ P:_} (Nf:PySem.Expr) (body:List PySem.Stmt),K.At ρ P→SimW K K.F P (RS K) (r.ss K.c ρ P.σ [.while (bn K.env.scope Nf) (fW K.env.scope body)]) (uE K Nf body)
section
variable {K:Kx} {P P':Pt} {ρ:aF} {r:Ev} {pos:Pos}
theorem qK{env:Env}(hk:env.scope.kind= .function):interactive env=false:=by delta interactive;refine hk▸?_;rfl
theorem gu{env:Env}{e:Ac}(hn:eI e=true)(t:Option Ac)(l:Nat):swapsWith e t l env=pure false:=by induction e using PySem.Expr.casesOn<;>first|rfl|exact dg hn
theorem FZ(S:SndS K r)(p:K.At ρ P):SS K r ρ P (.Expr e1 pos) (if eI e1 then .expr (bn K.env.scope e1) else .bad):=by
 induction hn:eI e1 using bC with
 |false=>exact .bad
 |true=>
  refine⟨λ {a} e Q E h=>?_⟩;refine kF e λx σ1 h1 e=>wpAny_Expr ((S.e e1 p).go h1 λP1 xv T hx=>?_) (qK p.fr.kind) (gu hn _ _);have hs:=hx.1;subst hs
  induction x using Internal.V.casesOn with
  |none=>refine(show _=_ from hx.2)▸?_;exact h P1 .next T.wide (sJ e▸⟨rfl,(p.to T).fr,rfl⟩)|_=>exact no e
theorem IN(S:SndS K r)(p:K.At ρ P):SS K r ρ P (.Return (some e1) pos) (.ret (bn K.env.scope e1)):=⟨λ {a} e Q E h=>by exact kF e λx σ1 h1 e=>wpAny_Return_some ((S.e e1 p).go h1 λP1 xv T hx=>h P1 _ T.wide (sJ e▸⟨hx.1,(p.to T).fr,xv,rfl,hx.2⟩))⟩
theorem KA(S:SndS K r){a1 a2:List PySem.Stmt}(p:K.At ρ P):SS K r ρ P (.If e1 a1 a2 pos) (.ite (bn K.env.scope e1) (fW K.env.scope a1) (fW K.env.scope a2)):=
 ((S.t e1 p).bind (g:=λt Q E s=>if t=true then K.w (execs a1 K.env) Q E s else K.w (execs a2 K.env) Q E s) (λo_ o_=>rfl) λP1 T t=>match t with|true=>S.s a1 (p.to T)|false=>S.s a2 (p.to T)).to λh=>wpAny_If h
theorem Ic(S:SndS K r){x:Str}{px:Pos}{op:PySem.Operator}(p:K.At ρ P):SS K r ρ P (.AugAssign (.Name x px) op e1 pos)
 (match cu K.env.scope x,qd op with|.v k,some o=>if kK K.env.scope x then .u k o (bn K.env.scope e1) else .bad|_,_=>.bad):=by
 rcases dy K.env.scope x with hk|⟨k,hk⟩|⟨k,hk⟩
 ·rw[hk];exact .bad
 ·rw[hk]
  induction ho:qd op using oA with
  |none=>exact .bad|some o=>
  induction hs:kK K.env.scope x using bC with
  |false=>exact .bad|true=>
  refine⟨λ {a} e Q E h=>?_⟩;refine cps λX_ k_=>bu e λold h1 e=>kF e λv σ1 h2 e=>bu e λnw h3 e=>eN e λρ1 h4 e=>?_;have NC:=(dE hk).1;refine k_ ?_;refine wpAny_AugAssign_Name ?_;refine((bx NC).2)▸?_;refine eM p h1 λy hy=>(S.e e1 p).go h2 λP1 xv T hx=>?_;have Nt:=hx.1;subst Nt;refine(ym ho)▸?_;refine wS T.sr (T.v hy) hx.2 h3 _ _ λs2 z e2 hz=>?_;have T2:=T.trans (T.sr.ext e2);exact((jb (p.to T2) ⟨(bx NC).1,by simp only[(bx NC).2,S.ws];exact hs⟩ hz).go (by rw[h4];rfl) λP3 u T3 hb=>h P3 .next (T2.wide.trans T3) (e▸⟨hb.1,hb.2,rfl⟩))
 ·rw[hk];exact .bad
theorem rU(S:SndS K r)(one:∀ {ρ P} (st:PySem.Stmt),K.At ρ P→SS K r ρ P st (Kr K.env.scope st))(ss:List PySem.Stmt):∀ {ρ P},K.At ρ P→hO K K.F P (RS K) (c7 r K.c ρ P.σ (fW K.env.scope ss)) (execs ss K.env):=by
 induction ss with
 |nil=>intro ρ P p;exact⟨λe Q E h=>wpAny_execs_nil (h P .next (To.refl p.sr) (sJ e▸⟨rfl,p.fr,rfl⟩))⟩
 |cons st ss ih=>
  intro ρ P p;refine⟨λ {a} e Q E h=>?_⟩;refine bu e λz1 h1 e=>?_;obtain⟨fl,ρ1,σ1⟩:=z1;refine wpAny_execs_cons ((one st p).go h1 λP1 f T hf=>?_);have Nt:=hf.1;subst Nt
  induction fl using Internal.Fl.casesOn with
  |next=>rw[show f=_ from hf.2.2];exact(ih (p.toF T hf.2.1)).go e λP2 x T2 hx=>h P2 x (T.trans T2) hx|brk=>rw[show f=_ from hf.2.2];exact h P1 .brk T (sJ e▸⟨rfl,hf.2.1,rfl⟩)|cont=>rw[show f=_ from hf.2.2];exact h P1 .cont T (sJ e▸⟨rfl,hf.2.1,rfl⟩)|ret v=>obtain⟨y,hy,hv⟩:=hf.2.2;simp only[hy];exact h P1 (.ret y) T (sJ e▸⟨rfl,hf.2.1,y,rfl,hv⟩)
end
noncomputable def IF(N:Nat)(h:Heap)(a:Addr):Option Ro:=match h.get? a with|none=>some (.cell N)|some _=>none
noncomputable def Pt.cell(P:Pt)(a:Addr)(cl:Cell)(s':Shared):Pt:=⟨{P.L.grow (IF P.L.N P.s.heap) s'.heap with β:=λn=>if n=P.L.N then a else P.L.β n,N:=P.L.N+1},P.σ++[cl],s'⟩
section
variable {K:Kx} {P P':Pt} {ρ:aF} {r:Ev} {pos:Pos} {U:Wd} {b:Nat} {F:AP} {s':Shared}
theorem SR.newcell(x:SR U P)(hb:b≤P.L.N)(e:Ext P.s s'){a:Addr}{cl:Cell}(nc:P.L.Le P.L.N (P.cell a cl s').L→(∀y o,P.s.heap.get? y=none→s'.heap.get? y=some o→(P.cell a cl s').L.G y=some (.cell P.L.N,o))→j6 (P.cell a cl s').L P.L.N cl):To U b F P (P.cell a cl s'):=
 have le:=⟨λa o e=>Lay.grow_old e,λn h=>iN (Sb h),R4 _⟩
 ⟨le,λa o e o_=>Lay.grow_old e,λb' PU hl n c hn h=>hl n c hn (by
  have h:(P.σ++[cl])[n]?=_:=h
  rwa [QP (by simp only[←x.n];exact aZ [_,_,_,_] (.h 1 (.a ab ai) ae (.h 1 ae af (.h 1 af ag (.g (.a ab ai) ag)))) rfl hn PU hb)] at h),⟨x.base,λh=>(Lay.grow_get h).elim (λq=>e.keep (x.g q)) λq=>q.2,λa o e t=>Lay.grow_old (x.h0 a o e t),λt ht=>(x.tabs t ht).to le λa o e=>Lay.grow_old e,e.gens▸x.gens,e.os.trans x.os,
  by refine(?_:P.L.N+1=_);simp only[show(P.cell a cl s').σ=P.σ++[cl] from rfl,Qa,x.n];rfl,λn c h=>by
   have h:(P.σ++[cl])[n]?=_:=h
   by_cases q:n<P.σ.length
   ·rw[QP q] at h;exact(x.cells n c h).to le (x.lt h) (x.cells n c h).below λa o e=>Lay.grow_old e
   ·simp only[QB (QQ.mp q)] at h
    have hn:n=P.σ.length:=by have:=(Qe.mp h).1;simp at this;exact Qg (aZ [_,_,_] (.h 1 ab (.a ae af) (.h 1 ae aj (.g ab af))) rfl (iW _ _) (nE this)) (SV q)
    subst hn;rw[Rb] at h;simp only[←sJ h,←x.n];exact nc le λy o n1 h1=>Lay.grow_new (x.no n1) (by delta IF;exact n1▸rfl) h1⟩⟩
theorem fK{env:Env}{e:Ac}(h:∀ts k p vs k' p',t= .Tuple ts k p→e= .Tuple vs k' p'→False)(hl:∀ts p,t≠ .List ts p):swappedStores [t] e env=pure none:=by
 induction t using PySem.Expr.casesOn with
 |Tuple ts k p=>
  induction e using PySem.Expr.casesOn with
  |Tuple vs k' p'=>exact(h _ _ _ _ _ _ rfl rfl).elim|_=>rfl
 |List ts p=>exact absurd rfl (hl _ _)|_=>rfl
theorem iT(ok:mZ sc t=true):∀ts p,t≠ .List ts p:=by rintro ts p rfl;exact dg ok
theorem uw(ok:mZ sc t=true)(env:Env):assignEach [t] env=[(false,assign t env)]:=by
 induction t using PySem.Expr.casesOn with
 |Starred a b=>exact dg ok|_=>rfl
theorem pI(S:SndS K r)(p:K.At ρ P)(ok:mZ K.env.scope t=true)(Ol:swapsWith e1 (some t) pos.line K.env=pure false)(N9:swappedStores [t] e1 K.env=pure none){m:Option (V×aq)}{k:V×aq→Option (Fl×aF×aq)}(hk:∀v σ,k (v,σ)=(bJ K.c ρ σ (nA K.env.scope t) v).bind ke)(hv:hO K cz P (RE RV) m (eval e1 K.env)):hO K K.F P (RS K) (m.bind k) (exec (.Assign [t] e1 pos) K.env):=⟨λ {a} e Q E h=>by refine kF e λv σ1 h1 e=>?_;rw[hk] at e;refine kF e λρ2 σ2 h2 e3=>?_;refine wB (wpAny_standAt (wB ?_));refine(?_:wpAny _ K.A (swapsWith e1 _ pos.line K.env) _ E P.s);simp only[Ol];refine wP ?_;refine N9▸?_;refine wB (hv.go h1 λP1 y T hy=>?_);have Nt:=hy.1;subst Nt;refine wB (wP ?_);simp only[uw ok K.env];refine wB ((eW (by refine S.ws▸?_;exact ok) (p.to T) hy.2).go h2 λP2 x T2 hx=>wP ?_);exact h P2 .next (T.wide.trans T2) (sJ e3▸⟨hx.1,hx.2,rfl⟩)⟩
theorem zS(S:SndS K r)(hc:eI e1=true)(N9:swappedStores [t] e1 K.env=pure none)(ok:mZ K.env.scope t=true)(p:K.At ρ P):SS K r ρ P (.Assign [t] e1 pos) (.a [nA K.env.scope t] (bn K.env.scope e1)):=
 pI S p ok (gu hc _ _) N9 (λo_ o_=>rfl) (S.e e1 p)
theorem qc(p:SR K.U P)(low:K.c.b≤P.L.N):hO K cz P (RE RV) (some (V.o P.σ.length,P.σ++[Cell.list []])) (newList []):=⟨λ {a} e Q E h=>wpAny_newList (by
 refine h (P.cell P.s.heap.objs.size (.list []) _) _ (p.newcell low (Ext.push P.s {cls:=.type "list",data:=.seq ([]:List Value).toArray} P.s.toks) λle hg=>?_) (sJ e▸⟨rfl,?_⟩)
 ·exact⟨_,[],(cG _ (iP rfl)).trans (hg _ _ (bS _) (Qr _ rfl)),⟨RN _,0,rfl⟩,rfl⟩
 ·exact⟨by refine p.n▸?_;exact SU _,cG Tg (iP p.n.symm).symm⟩) (by decide)⟩
theorem wg(S:SndS K r){q:Pos}(ok:mZ K.env.scope t=true)(p:K.At ρ P):SS K r ρ P (.Assign [t] (.List [] q) pos) (.n (nA K.env.scope t)):=
 pI S p ok (gu rfl _ _) (fK (λo_ o_ o_ o_ o_ o_ o_ q=>by cases q) (iT ok)) (k:=λz=>(bJ K.c ρ z.2 (nA K.env.scope t) z.1).bind ke) (λo_ o_=>rfl)
  ((qc p.sr p.low).to λh=>wB (wpAny_standAt (wB (spliced_nil h))))
end
section
variable {w:World} {A:Around} {s:Shared} {env:Env}
theorem s8{R:Result→Shared→Prop}{Nf:Ac}{body NO:List PySem.Stmt}(turn:wpAny (model pw w) A (isTrue Nf env (eval Nf env)) (λb Nd=>
  if b then wpAny (model pw w) A (execs body env) (λf M8=>match f with|.next|.cont=>codeAny (model pw w) A (.whileLoop Nf body NO env) R M8|.brk=>R (.ok .next) M8|.ret v=>R (.ok (.ret v)) M8) (notedBy (model pw w) A env λe s'=>R (.error e) s') Nd
  else wpAny (model pw w) A (execs NO env) (λf M8=>R (.ok f) M8) (notedBy (model pw w) A env λe s'=>R (.error e) s') Nd)
  (notedBy (model pw w) A env λe s'=>R (.error e) s') s):codeAny (model pw w) A (.whileLoop Nf body NO env) R s:=by
 refine codeAny_of_tree ?_;refine(?_:wpAny _ A _ _ _ s);refine wpAny_noted ?_;refine wB (wpAny_mono turn (λb Nd NH=>?_) λo_ o_ h'=>h')
 induction b using bC with
 |false=>exact wB (wpAny_mono NH (λf M8 Nl=>wP Nl) λo_ o_ h'=>h')
 |true=>
  refine wB (wpAny_mono NH (λf M8 Nl=>?_) λo_ o_ h'=>h')
  induction f using PySem.Flow.casesOn with
  |next=>exact wP ⟨rfl,Nl⟩|cont=>exact wP ⟨rfl,Nl⟩|brk=>exact wP Nl|ret v=>exact wP Nl
end
section
variable {K:Kx} {P P':Pt} {ρ:aF} {r:Ev} {pos:Pos}
theorem yi(S:SndS K r){Nf:Ac}{body:List PySem.Stmt}(p:K.At ρ P):SimW K K.F P (RS K) (br r K.c ρ P.σ (.while (bn K.env.scope Nf) (fW K.env.scope body))) (uE K Nf body):=⟨λ {a} e Q E h=>by
 refine kF e λx σ1 h1 e=>bu e λt h2 e=>s8 ((S.t Nf p).go h1 h2 λP1 T hs=>?_);subst hs
 induction t using bC with
 |false=>exact wpAny_execs_nil (h P1 .next T.wide (sJ e▸⟨rfl,(p.to T).fr,rfl⟩))
 |true=>
  refine cps λX_ k_=>bu e λz1 h4 e=>?_;obtain⟨fl,ρ1,σ2⟩:=z1;refine k_ ?_;refine(S.s body (p.to T)).go h4 λP2 f T2 hf=>?_;have Nt:=hf.1;subst Nt;have again (e2:r.ss K.c ρ1 P2.σ [.while (bn K.env.scope Nf) (fW K.env.scope body)]=some a):uE K Nf body Q E P2.s:=(S.wh Nf body ((p.to T).toF T2 hf.2.1)).go e2 λP3 y T3 hy=>h P3 y ((T.wide.trans T2).trans T3) hy
  induction fl using Internal.Fl.casesOn with
  |next=>rw[show f=_ from hf.2.2];exact again e|cont=>rw[show f=_ from hf.2.2];exact again e|brk=>rw[show f=_ from hf.2.2];exact h P2 .next (T.wide.trans T2) (sJ e▸⟨rfl,hf.2.1,rfl⟩)|ret v=>exact no e⟩
theorem Cd(S:SndS K r){Nf:Ac}{body:List PySem.Stmt}(p:K.At ρ P):SS K r ρ P (.While Nf body [] pos) (.while (bn K.env.scope Nf) (fW K.env.scope body)):=⟨λe Q E h=>wpAny_While ((yi S p).run e Q (λe s'=>cameBackBy (model pw K.U.w) K.A K.env E e s') h)⟩
theorem Ix(S:SndS K r){body:List PySem.Stmt}{h0:ExceptHandler}{hs:List ExceptHandler}(p:K.At ρ P):SS K r ρ P (.Try body (h0::hs) [] [] pos) (.try (fW K.env.scope body)):=⟨λ {a} e Q E h=>by
 refine wpAny_Try_except ((S.s body p).go e λP1 f T hf=>?_);have q:=h P1 f T hf
 induction f using PySem.Flow.casesOn with
 |next=>exact wpAny_execs_nil q|_=>exact q⟩
theorem FI(p:K.At ρ P):SS K r ρ P (.Break pos) .brk:=⟨λe Q E h=>wpAny_Break (h P .brk (To.refl p.sr) (sJ e▸⟨rfl,p.fr,rfl⟩))⟩
theorem Dn(p:K.At ρ P):SS K r ρ P (.Continue pos) .cont:=⟨λe Q E h=>wpAny_Continue (h P .cont (To.refl p.sr) (sJ e▸⟨rfl,p.fr,rfl⟩))⟩
end
inductive Lst where
 |fix (xs:List V)|cell (n:Nat)
noncomputable def Lst.xs(σ:aq):Lst→Option (List V)
 |.fix xs=>some xs|.cell n=>bc σ (.o n)
inductive ItS where
 |fwd (l:Lst) (k:Nat)|bts (bs:List UInt8) (k:Nat)|rng (a:Int) (n:Nat)|bwd (l:Lst) (k:Nat)
noncomputable def ew(σ:aq):ItS→Option (Option (V×ItS))
 |.fwd l k=>(l.xs σ).map λxs=>(xs[k]?).map λx=>(x,.fwd l (k+1))|.bts bs k=>some ((bs[k]?).map λx=>(.int x.toNat,.bts bs (k+1)))|.rng _ 0=>some none|.rng a (n+1)=>some (some (.int a,.rng (a+1) n))|.bwd _ 0=>some none|.bwd l (k+1)=>(l.xs σ).bind λxs=>(xs[k]?).map λx=>some (x,.bwd l k)
noncomputable def LstAt(L:Lay)(a:Addr):Lst→Prop
 |.fix xs=>VR L (.list xs) (.ref a)|.cell n=>VR L (.o n) (.ref a)
noncomputable def GB(L:Lay)(h:Heap)(it:Addr):ItS→Prop
 |.fwd l k=>∃a,LstAt L a l∧h.IsListIter it a k|.bts bs k=>∃t,KBw.IsBytesIter h it bs.toArray t k|.rng a n=>IsRangeIter h it a n 1|.bwd l k=>∃a,LstAt L a l∧h.IsRevIter it a ((k:Int) -1)
noncomputable def kD(L:Lay)(it:Addr)(i:ItS):Prop:=∃o,L.G it=some (.lent,o)∧∀h:Heap,h.get? it=some o→GB L h it i
section
variable {U:Wd} {P P':Pt} {b:Nat} {F:AP} {it:Addr} {i:ItS} {L L':Lay}
theorem LstAt.le(g:L.Le L.N L'){a:Addr}{l:Lst}(x:LstAt L a l):LstAt L' a l:=by
 induction l using Internal.Lst.casesOn with
 |fix xs=>exact VR.le g x|cell n=>exact VR.le g x
theorem GB.le(g:L.Le L.N L'){h:Heap}(x:GB L h it i):GB L' h it i:=by
 induction i using Internal.ItS.casesOn with
 |fwd l k=>exact Ul (λa q=>⟨q.1.le g,q.2⟩) x|bwd l k=>exact Ul (λa q=>⟨q.1.le g,q.2⟩) x|_=>exact x
theorem kD.to(T:To U b F P P')(nf:¬ F it)(x:kD P.L it i):kD P'.L it i:=by obtain⟨o,h1,h2⟩:=x;exact⟨o,T.j _ _ h1 nf,λh e=>(h2 h e).le T.le⟩
theorem er(p:SR U P){a:Addr}{l:Lst}{xs:List V}(x:LstAt P.L a l)(e:l.xs P.σ=some xs):∃vs,P.s.heap.IsList a vs.toArray∧vs.length≤lim∧bQ P.L xs vs:=by
 have go {v:V} (hv:VR P.L v (.ref a)) (e:bc P.σ v=some xs):∃vs,P.s.heap.IsList a vs.toArray∧vs.length≤lim∧bQ P.L xs vs:=by obtain⟨a',vs,h1,h2,h3⟩:=bk p hv e;injection h1 with h1;subst h1;exact a7 vs (dr h2) h3
 induction l using Internal.Lst.casesOn with
 |fix ys=>exact go x e|cell n=>exact go x e
end
end Internal
namespace Internal
open PySem PySem.W PySem.Calls PyProof.Rows PySem.SeqAt
open Classical in
noncomputable def Lay.upd (L:Lay) (T:AP) (h h':Heap):Lay:={L with G:=λa=>if T a then(h'.get? a).map (Ro.lent,·) else(L.grow (t5 h) h').G a}
theorem To.mono{U:Wd}{b:Nat}{F F':AP}{P P':Pt}(T:To U b F P P')(h:∀a,F a→F' a):To U b F' P P':=⟨T.le,λa o e n=>T.j a o e λq=>n (h a q),T.lb,T.sr⟩
section
variable {U:Wd} {P:Pt} {b:Nat} {s':Shared} {K:Kx} {ρ:aF} {L L':Lay} {T:AP}
theorem Lay.upd_lent{h h':Heap}{a:Addr}{o:Obj}(t:T a)(e:h'.get? a=some o):(L.upd T h h').G a=some (.lent,o):=(iP t).trans (by refine e▸?_;rfl)
theorem SR.upd(x:SR U P)(hT:∀a,T a→∃o,P.L.G a=some (.lent,o))(keep:∀a o,¬ T a→P.s.heap.get? a=some o→s'.heap.get? a=some o)(hg:AllBare s'.gens)(ho:s'.os=P.s.os):To U b T P ⟨P.L.upd T P.s.heap s'.heap,P.σ,s'⟩:=
 have old {a:Addr} {y:Ro×Obj} (e:P.L.G a=some y) (n:¬ T a):(P.L.upd T P.s.heap s'.heap).G a=some y:=(iN n).trans (Lay.grow_old e);have ne {a:Addr} {r:Ro} {o:Obj} (e:P.L.G a=some (r,o)) (hr:r≠ .lent):¬ T a:=λt=>ek (hT a t) λo' e'=>hr (cG Rg (sJ (e.symm.trans e')));have le:P.L.Le P.L.N _:=⟨λa o e=>old e (ne e nofun),λo_ o_=>rfl,nR⟩
 ⟨le,λa o e n=>old e n,.refl _,⟨x.base,λ {a k o} h=>by
  by_cases t:T a
  ·exact eN ((iP t).symm.trans h) λo' e q=>(pJ q).2▸e
  ·exact(Lay.grow_get ((iN t).symm.trans h)).elim (λq=>keep a o t (x.g q)) λq=>q.2,
  λa o h q=>old (x.h0 a o h q) (ne (x.h0 a o h q) nofun),λt ht=>(x.tabs t ht).to le λa o e=>old e (ne e nofun),hg,ho.trans x.os,x.n,λn c h=>(x.cells n c h).to le (x.lt h) (x.cells n c h).below λa o e=>old e (ne e nofun)⟩⟩
theorem FR.but(x:FR K ρ L)(g:L.Le L.N L')(hj:∀a o,L.G a=some (.lent,o)→¬ T a→L'.G a=some (.lent,o))(hA:∀a,T a→Apart K a):FR K ρ L':=
 have nF:∀ {a},K.F a→¬ T a:=λh t=>(hA _ t).1 h;have nl:∀ {n c},K.env.cells.lookup n=some c→¬ T c:=λe t=>(hA _ t).2 _ _ e rfl
 {x with
  ns:=fk x.ns λo m e d h=>⟨o,m,hj _ _ e (nF x.loc),d,λk v q=>⟨(h k v q).1,(h k v q).2.le g λc o o_ e o_ z=>hj c o z (nl e)⟩⟩
  st:=λk h=>(x.st k h).imp id λz1=>d7 z1 λq f=>⟨q,λe=>sz (f e) λc o v a1 a2 a3 a4=>⟨c,o,v,a1,a2,hj _ _ a3 (nF a2),a4⟩⟩
  lt:=λn c e=>(x.lt n c e).imp λo=>Or.imp (g.i _ _) λq=>hj _ _ q (nl e)}
theorem Kx.At.but{P':Pt}(p:K.At ρ P)(T':To K.U b T P P')(hA:∀a,T a→Apart K a):K.At ρ P':=p.toF T' (p.fr.but T'.le (λa o e n=>T'.j a o e n) hA)
end
end Internal
namespace Internal
open PySem PySem.W PySem.Calls PyProof.Rows PySem.SeqAt
variable {i:It}{o:Obj}{Q:Aa}{R:Result→Shared→Prop}{target pe iter elt:Ac}{Nh y:Value}{M:Model}{n d:Nat}{A:Around}{σ σ':aq}{t:Addr×Addr×Str}{ρ:aF}{sc scope Nb:Scope}{p pos:Pos}{e:Internal.E}{a:Addr}{U:Wd}{h:Heap}{fd:FuncData}{L:Lay}{gens:List Comprehension}{M5:List Ac}
section
variable {U:Wd} {P:Pt} {b:Nat} {A:Around} {E:Aa}
theorem oe(x:SR U P)(hh:A.handled=none){it:Addr}{i:ItS}(hi:kD P.L it i){o:Option (V×ItS)}(e:ew P.σ i=some o){Q:Option Value→Shared→Prop}(hn:o=none→∀P',To U b (λa=>a=it) P P'→P'.σ=P.σ→Q none P'.s)(hs:∀v i',o=some (v,i')→∀P' y,To U b (λa=>a=it) P P'→P'.σ=P.σ→kD P'.L it i'→VR P'.L v y→Q (some y) P'.s):wpAny (model pw U.w) A (pyNext (.ref it)) Q E P.s:=by
 obtain⟨ob,hG,hI⟩:=hi;have hI:=hI _ (x.g hG);have fin (ho:o=none):∀h',Um it P.s.heap h'→Q none {P.s with heap:=h'}:=λh' hE=>hn ho _ (x.upd (s':={P.s with heap:=h'}) (λa t=>⟨ob,t▸hG⟩) (λa o n e=>hE a o n e) x.gens rfl) rfl
 have go {v:V} {i':ItS} {y:Value} {s':Shared} {o':Obj} (ho:o=some (v,i')) (he:s'.heap.get? it=some o') (Ov:S6 it P.s.heap s'.heap) (hg:s'.gens=P.s.gens) (hos:s'.os=P.s.os) (hk:∀h:Heap,h.get? it=some o'→GB P.L h it i') (hy:VR P.L v y):Q (some y) s':=by have T:=x.put (b:=b) (F:=λa=>a=it) hG (.inl rfl) Ov he rfl hg hos;exact hs v i' ho _ y T rfl ⟨o',Lay.put_self,λh q=>(hk h q).le T.le⟩ (hy.le T.le)
 induction i using Internal.ItS.casesOn with
 |fwd l k=>
  obtain⟨a,hl,hit⟩:=hI;refine eN e λxs e1 e=>gv (er x hl e1) λvs h1 h2 h3=>?_
  induction hx:xs[k]? using oA with
  |none=>
   rw[hx] at e
   have hv:vs.toArray[k]?=none:=by have:=h3.len;rw[QA];rw[Qv] at hx⊢;exact nT (nE this.symm) hx
   exact wpAny_pyNext_list_end hh hit h1 hv (fin e.symm)
  |some u=>rw[hx] at e;refine aQ (h3.get hx) λy hy hr=>wpAny_pyNext_list_item hit h1 (by rw[QA];exact hy) λh' OI Ov=>?_;obtain⟨o',NX,r⟩:=OI;exact go e.symm NX Ov rfl rfl (λh q=>⟨a,hl,o',q,r⟩) hr
 |bts bs k=>
  obtain⟨t,hit⟩:=hI;have e:=sJ e
  induction hx:bs[k]? using oA with
  |none=>rw[hx] at e;exact KBw.next_end hh hit (by rw[QA];exact hx) (fin e.symm)|some u=>rw[hx] at e;refine KBw.next_item hit (by rw[QA];exact hx) λh' OI Ov=>?_;obtain⟨o',NX,r⟩:=OI;exact go e.symm NX Ov rfl rfl (λh q=>⟨t,o',q,r⟩) ⟨_,rfl⟩
 |rng a n=>
  induction n using Qy with
  |zero=>exact wpAny_pyNext_range_end hh hI (by simp) (fin (sJ e).symm)
  |succ n=>
   refine wpAny_pyNext_range_item hI (by simp) λh' OI Ov=>?_;have:((n+1:Nat):Int) -1=n:=by lia
   rw[this] at OI;exact go (s':={P.s with heap:=h',toks:=P.s.toks+1}) (sJ e).symm OI Ov rfl rfl (λh q=>q) ⟨_,rfl⟩
 |bwd l k=>
  obtain⟨a,hl,hit⟩:=hI
  induction k using Qy with
  |zero=>exact wpAny_pyNext_rev_end hh hit (fin (sJ e).symm)
  |succ k=>
   refine cps λX_ k_=>bu e λxs e1 e=>eN e λu hx e=>gv (er x hl e1) λvs h1 h2 h3=>aQ (h3.get hx) λy hy hr=>?_;have hk:((k+1:Nat):Int) -1=(k:Nat):=by lia
   simp only[hk] at hit;refine k_ ?_;refine wpAny_pyNext_rev_item hit h1 (by rw[QA];exact hy) λh' OI Ov=>?_;obtain⟨o',NX,r⟩:=OI;exact go e.symm NX Ov rfl rfl (λh q=>⟨a,hl,o',q,r⟩) hr
end
noncomputable def uu(body:aF→aq→V→Option (Fl×aF×aq)):Nat→ItS→aF→aq→Option (Fl×aF×aq)
 |0,_,_,_=>none|m+1,i,ρ,σ=>(ew σ i).bind λo=>match o with|none=>some (.next,ρ,σ)|some (x,i')=>(body ρ σ x).bind λ(fl,ρ,σ)=>match fl with|.next|.cont=>uu body m i' ρ σ|.brk=>some (.next,ρ,σ)|.ret v=>some (.ret v,ρ,σ)
section
variable {w:World} {A:Around} {s:Shared} {env:Env} {it:Addr} {E:Aa}
theorem x8{body:List PySem.Stmt}(turn:wpAny (model pw w) A (pyNext Nh) (λo M1=>match o with
  |none=>R (.ok .next) M1|some v=>wpAny (model pw w) A (letOwnedTupleGo target Nh v) (λo_ NG=>wpAny (model pw w) A (assign target env v) (λo_ Nd=>wpAny (model pw w) A (execs body env) (λf M8=>match f with|.next|.cont=>codeAny (model pw w) A (.forLoop target Nh body [] env) R M8|.brk=>R (.ok .next) M8|.ret v=>R (.ok (.ret v)) M8) (notedBy (model pw w) A env λe s'=>R (.error e) s') Nd) (notedBy (model pw w) A env λe s'=>R (.error e) s') NG) (notedBy (model pw w) A env λe s'=>R (.error e) s') M1)
  (notedBy (model pw w) A env λe s'=>R (.error e) s') s):codeAny (model pw w) A (.forLoop target Nh body [] env) R s:=by
 refine codeAny_of_tree ?_;refine(?_:wpAny _ A _ _ _ s);refine wpAny_noted ?_;refine wB (wpAny_standAt (wB (wpAny_onRaise (wpAny_mono turn (λo M1 NP=>?_) λo_ o_ h'=>wpAny_standAt h'))))
 induction o using oA with
 |none=>exact wP ⟨rfl,codeAny_block (wpAny_execs_nil NP)⟩
 |some v=>
  refine wB (wpAny_mono NP (λo_ NG N8=>?_) λo_ o_ h'=>h');refine wB (wpAny_mono N8 (λo_ Nd NH=>wB (wpAny_mono NH (λf M8 Nl=>?_) λo_ o_ h'=>h')) λo_ o_ h'=>h')
  induction f using PySem.Flow.casesOn with
  |next=>exact wP ⟨rfl,Nl⟩|cont=>exact wP ⟨rfl,Nl⟩|brk=>exact wP Nl|ret v=>exact wP Nl
theorem gU{n:String}{Q:Unit→Shared→Prop}(ho:s.heap.get? it=some o)(hc:o.cls= .type n)(hn:["enumerate","zip","dict_itemiterator","dict_reverseitemiterator","odict_iterator","itertools.zip_longest","itertools.pairwise"].contains n=false)(h:Q () s):wpAny M A (letOwnedTupleGo target (.ref it) y) Q E s:=by
 induction target using PySem.Expr.casesOn<;>first
  |exact wP h
  |(induction y using PySem.Value.casesOn<;>first
   |exact wP h
   |(refine wB (wpAny_load ho ?_)
     refine hc▸?_
     cases o.data<;>first
      |exact wP h|(simp only[hn];exact wP h)))
end
section
variable {K:Kx} {P P':Pt} {ρ:aF} {r:Ev} {pos:Pos} {it:Addr} {L L':Lay}
theorem l7{E:Aa}{s:Shared}{i:ItS}{Q:Unit→Shared→Prop}(x:GB L s.heap it i)(h:Q () s):wpAny M A (letOwnedTupleGo target (.ref it) y) Q E s:=by
 induction i using Internal.ItS.casesOn with
 |fwd l k=>obtain⟨a,_,oi,ho,hc,_⟩:=x;exact gU ho hc (by decide) h|bts bs k=>obtain⟨t,oi,ho,hc,_⟩:=x;exact gU ho hc (by decide) h|rng a n=>exact gU x rfl (by decide) h|bwd l k=>obtain⟨a,_,oi,ho,hc,_⟩:=x;exact gU ho hc (by decide) h
end
noncomputable abbrev Kc(K:Kx)(target:PySem.Expr)(it:Addr)(body:List PySem.Stmt):WP Flow:=λQ E s=>codeAny (model pw K.U.w) K.A (.forLoop target (.ref it) body [] K.env) (λr s'=>match r with|.ok f=>Q f s'|.error e=>E e s') s
section
variable {K:Kx} {P P':Pt} {ρ:aF} {r:Ev} {pos:Pos} {it:Addr}
theorem zz(S:SndS K r){body:List PySem.Stmt}(tk:mZ K.env.scope target=true)(hA:Apart K it)(m:Nat):∀ {ρ P i},K.At ρ P→kD P.L it i→
 SimW K (λa=>K.F a∨a=it) P (RS K) (uu (cW r K.c (nA K.env.scope target) (fW K.env.scope body)) m i ρ P.σ) (Kc K target it body):=by
 have Og:∀a,a=it→Apart K a:=λa e=>e▸hA
 induction m with
 |zero=>intro ρ P i p hi;exact .bad
 |succ m ih=>
  intro ρ P i p hi;refine⟨λ {a} e Q E h=>?_⟩;refine bu e λo e1 e=>x8 (oe (b:=K.c.b) p.sr p.room.h hi e1 (λhn P1 T hs=>?_) λx i' ho P1 y T hs PJ hv=>?_)
  ·subst hn;exact h P1 .next (T.mono λo_=>.inr) (sJ e▸⟨hs.symm,(p.but T Og).fr,rfl⟩)
  ·subst ho;obtain⟨ob,hG,hI⟩:=id PJ;refine l7 (hI _ (T.sr.g hG)) ?_;refine cps λX_ k_=>?_;rw[←hs] at e;refine bu e λz2 e3 e=>?_;obtain⟨fl,ρ1,σ1⟩:=z2;refine kF e3 λρ2 σ2 e5 e6=>k_ ?_;refine(eW (by refine S.ws▸?_;exact tk) (p.but T Og) hv).go e5 λP2 z T2 hb=>?_;have Nt:=hb.1;subst Nt;have p2:=(p.but T Og).toF T2 hb.2;refine(S.s body p2).go e6 λP3 f T3 hf=>?_;have Nt:=hf.1;subst Nt;have TT:To K.U K.c.b (λa=>K.F a∨a=it) P P3:=(T.mono λo_=>.inr).trans ((T2.trans T3).mono λo_=>.inl)
   induction fl using Internal.Fl.casesOn with
   |next=>rw[show f=_ from hf.2.2];exact(ih (p2.toF T3 hf.2.1) ((PJ.to T2 hA.1).to T3 hA.1)).go e λP4 y T4 hy=>h P4 y (TT.trans T4) hy|cont=>rw[show f=_ from hf.2.2];exact(ih (p2.toF T3 hf.2.1) ((PJ.to T2 hA.1).to T3 hA.1)).go e λP4 y T4 hy=>h P4 y (TT.trans T4) hy|brk=>rw[show f=_ from hf.2.2];exact h P3 .next TT (sJ e▸⟨rfl,hf.2.1,rfl⟩)|ret v=>obtain⟨y,hy,hv⟩:=hf.2.2;simp only[hy];exact h P3 (.ret y) TT (sJ e▸⟨rfl,hf.2.1,y,rfl,hv⟩)
end
noncomputable def Gives{ι:Type}(nx:aq→ι→Option (Option (V×ι))):List V→ι→Prop
 |[],i=>∀σ,nx σ i=some none|x::xs,i=>∃i',(∀σ,nx σ i=some (some (x,i')))∧Gives nx xs i'
theorem iq{α ι:Type}{nx:aq→ι→Option (Option (V×ι))}{l:List α}{f:α→V}{mk:Nat→ι}(h:∀σ k,nx σ (mk k)=some ((l[k]?).map λx=>(f x,mk (k+1))))(zs:List α):∀k,l.drop k=zs→Gives nx (zs.map f) (mk k):=by
 induction zs with
 |nil=>intro k e σ;simp only[h,RG (Rp.mp e)];rfl
 |cons z zs ih=>
  intro k e;have h1:l[k]?=some z:=by have:=cG (λz=>z[0]?) e;simpa[Ux] using this
  refine⟨mk (k+1),λσ=>by simp only[h,h1];rfl,ih (k+1) ?_⟩;have:=cG Vq e
  rwa [UX] at this
theorem wA(n:Nat):∀a:Int,Gives ew ((Qb n).map λ(k:Nat)=>V.int (a+(k:Int))) (.rng a n):=by
 induction n with
 |zero=>intro a σ;rfl|succ n ih=>intro a;simp only[Uf,Qf,Qk];refine⟨.rng (a+1) n,λσ=>cG (λz=>some (some (V.int z,ItS.rng (a+1) n))) (Int.add_zero a).symm,?_⟩;rw[show((λk:Nat=>V.int (a+(k:Int)))∘Nat.succ)=λ(k:Nat)=>V.int (a+1+(k:Int)) from funext λk=>cG V.int (by refine(?_:a+((k+1:Nat):Int)=_);lia)];exact ih (a+1)
theorem xb(ys:List V)(k:Nat):k≤ys.length→Gives ew (ys.take k).reverse (.bwd (.fix ys) k):=by
 induction k with
 |zero=>intro o_ σ;rfl|succ k ih=>intro hk;simp only[SG,(Qs hk),Qp];exact⟨.bwd (.fix ys) k,λσ=>by refine(?_:(ys[k]?).map _=_);simp only[(Qs hk)];rfl,ih (UM hk)⟩
noncomputable def lz:It→ItS→Prop
 |.items xs,i=>Gives ew xs i|.o n,i=>i= .fwd (.cell n) 0|.revLoc n k,i=>i= .bwd (.cell n) k
section
variable {body:aF→aq→V→Option (Fl×aF×aq)} {z:Fl×aF×aq} {n:Nat}
theorem DE(xs:List V):∀ {i:ItS} {ρ:aF} {σ:aq},Gives ew xs i→eu body ρ σ xs=some z→∃m,uu body m i ρ σ=some z:=by
 induction xs with
 |nil=>intro i ρ σ hi e;exact⟨1,by refine(?_:(ew σ i).bind _=_);rw[hi];exact e⟩
 |cons x xs ih=>
  intro i ρ σ ⟨i',h1,h2⟩ e;refine cps λX_ k_=>bu e λz1 e1 e2=>?_;obtain⟨fl,ρ1,σ1⟩:=z1
  have go (m:Nat) (h:(match fl with|.next|.cont=>uu body m i' ρ1 σ1|.brk=>some (.next,ρ1,σ1)|.ret v=>some (.ret v,ρ1,σ1))=some z):uu body (m+1) i ρ σ=some z:=by refine(?_:(ew σ i).bind _=_);rw[h1];refine(?_:(body ρ σ x).bind _=_);refine e1▸?_;induction fl using Internal.Fl.casesOn<;>exact h
  refine k_ ?_
  induction fl using Internal.Fl.casesOn with
  |next=>exact(ih h2 e2).elim λm hm=>⟨m+1,go m hm⟩|cont=>exact(ih h2 e2).elim λm hm=>⟨m+1,go m hm⟩|brk=>exact no e2|ret v=>exact⟨1,go 0 e2⟩
theorem ra{at_:Nat→List V→Option (Option V)}{mk:Nat→ItS}(hk:∀k σ xs o,σ[n]?=some (.list xs)→at_ k xs=some o→ew σ (mk k)=some (o.map λx=>(x,mk (k+1))))(m:Nat):∀ {k:Nat} {ρ:aF} {σ:aq},
 cT body n at_ m k ρ σ=some z→uu body m (mk k) ρ σ=some z:=by
 induction m with
 |zero=>intro k ρ σ e;exact no e
 |succ m ih=>
  intro k ρ σ e;have e:(match σ[n]? with|some (.list xs)=>(match at_ k xs with|none=>none|some none=>some _|some (some x)=>(body ρ σ x).bind λ(fl,ρ,σ)=>match fl with|.next|.cont=>cT body n at_ m (k+1) ρ σ|.brk=>none|.ret v=>some (.ret v,ρ,σ))|_=>none)=_:=e
  induction hx:σ[n]? using oA with
  |none=>rw[hx] at e;exact no e|some cl=>
  rw[hx] at e
  induction cl using Internal.Cell.casesOn with
  |obj C fs=>exact no e|list xs=>
  have e:(match at_ k xs with|none=>none|some none=>some _|some (some x)=>(body ρ σ x).bind λ(fl,ρ,σ)=>match fl with|.next|.cont=>cT body n at_ m _ ρ σ|.brk=>none|.ret v=>some (.ret v,ρ,σ))=_:=e
  induction ha:at_ k xs using oA with
  |none=>rw[ha] at e;exact no e|some o=>
  rw[ha] at e;refine(?_:(ew σ (mk k)).bind _=_);refine(hk k σ xs o hx ha)▸?_
  induction o using oA with
  |none=>exact e
  |some x=>
   refine cps λX_ k_=>bu e λz2 e1 e2=>?_;obtain⟨fl,ρ1,σ1⟩:=z2;refine k_ ?_;refine(?_:(body ρ σ x).bind _=_);refine e1▸?_
   induction fl using Internal.Fl.casesOn with
   |next=>exact ih e2|cont=>exact ih e2|brk=>exact no e2|ret v=>exact e2
theorem mq{xs:List V}(h:σ[n]?=some (.list xs)):(Lst.cell n).xs σ=some xs:=by refine(?_:(match σ[n]? with|some (.list xs)=>some xs|_=>none)=_);exact h▸rfl
theorem CI{t:It}{i:ItS}(st:lz t i)(e:lP body ρ σ t=some z):∃m,uu body m i ρ σ=some z:=by
 induction t using Internal.It.casesOn with
 |items xs=>exact DE xs st e
 |o n=>
  have e:(match σ[n]? with|some (.list xs)=>cT body n _ _ 0 ρ σ|_=>none)=_:=e
  induction hx:σ[n]? using oA with
  |none=>rw[hx] at e;exact no e
  |some cl=>
   rw[hx] at e
   induction cl using Internal.Cell.casesOn with
   |obj C fs=>exact no e
   |list xs=>
    rw[show i=_ from st]
    exact⟨_,ra (λk σ xs o h e=>by refine(?_:((Lst.cell n).xs σ).map _=_);simp only[mq h,←sJ e];rfl) _ e⟩
 |revLoc n Nk=>
  rw[show i=_ from st]
  exact⟨_,ra (mk:=λk=>.bwd (.cell n) (Nk -k)) (λk σ xs o h e=>by
   by_cases hk:k<Nk
   ·obtain⟨j,hj⟩:∃j,Nk -k=j+1:=⟨Nk -k -1,(Qg (iW _ _) (nE (sC (aZ [k,Nk,Nk -k] (.h 1 (.a ab ai) ae (.h 1 ae (.a af ab) (.g ai af))) rfl hk (iW _ _)))))⟩;rw[iP hk,show Nk -1 -k=j by exact Qg (aZ [_,_,_,_,_,_] (.h 1 (.a ab ae) af (.h 1 (.a af ai) ag (.h 1 ag (.a ah ae) (.h 1 ah (.a (.v 5) ai) (.g ab (.v 5)))))) rfl (nE (sC (aZ [k,Nk,Nk -1] (.h 1 (.a ab ai) ae (.h 1 ae (.a af ai) (.g ab af))) rfl hk (iW _ _)))) (nE (sC (aZ [k,Nk] (.h 1 (.a ab ai) ae (.g ai ae)) rfl hk))) (iW _ _) (nE hj)) (aZ [_,_,_,_,_,_] (.h 1 (.a ab ai) ae (.h 1 (.a ae af) ag (.h 1 ag (.a ah ai) (.h 1 ah (.a (.v 5) af) (.g ab (.v 5)))))) rfl (nE hj.symm) (nE (sC (aZ [k,Nk] (.h 1 (.a ab ai) ae (.g ab ae)) rfl hk))) (iW _ _) (iW _ _))] at e;refine eN e λx e1 e2=>?_;simp only[←e2];refine(?_:ew σ _=some (some (x,.bwd _ _)));rw[hj,show Nk -(k+1)=j by exact Qg (aZ [_,_,_,_,_] (.h 1 (.a ab (.a ae ai)) af (.h 1 af (.a ag ae) (.h 1 ag (.a ah ai) (.g ab ah)))) rfl (nE (sC hk)) (iW _ _) (nE hj)) (aZ [_,_,_,_,_] (.h 1 (.a ab ai) ae (.h 1 (.a ae af) ag (.h 1 ag (.a ah (.a af ai)) (.g ab ah)))) rfl (nE hj.symm) (nE (sC (aZ [k,Nk] (.h 1 (.a ab ai) ae (.g ab ae)) rfl hk))) (iW _ _))];refine(?_:((Lst.cell n).xs σ).bind _=_);rw[mq h];refine(?_:(xs[j]?).map _=_);rw[e1];rfl
   ·rw[iN hk] at e;simp only[←sJ e,show Nk -k=0 by lia];rfl) _ e⟩
end
noncomputable def hd:Internal.E→Nat
 |.g _|.v _=>23|.call _ _=>16|.gen .. =>11|.p .. =>15|.k _=>19|_=>0
noncomputable def s7(e:PySem.Expr):Bool:=e.ctorIdx==20
theorem pF(f:Ac):s7 f=false∨∃o a q,f= .Attribute o a q:=by
 induction f using PySem.Expr.casesOn with
 |Attribute o a q=>exact .inr ⟨o,a,q,rfl⟩|_=>exact .inl rfl
theorem vH{f:Ac}(h:s7 f=false):∀a b c,f≠ .Attribute a b c:=λa b c e=>by rw[e] at h;exact nomatch h
theorem p8{f:Ac}{args:List Ac}(h:s7 f=false):bn sc (.Call f args [] p)= .call (bn sc f) (bP sc args):=by induction f using PySem.Expr.casesOn<;>first|rfl|exact nomatch h
theorem tP{f:Ac}{args:List Ac}{k:Keyword}{ks:List Keyword}:bn sc (.Call f args (k::ks) p)= .bad:=by induction f using PySem.Expr.casesOn<;>rfl
theorem DS(op:UnaryOp):op= .Not∨op= .USub∨∀sc e p,bn sc (.UnaryOp op e p)= .bad:=by induction op using PySem.UnaryOp.casesOn<;>first|exact .inl rfl|exact .inr (.inl rfl)|exact .inr (.inr λo_ o_ o_=>rfl)
noncomputable def Hu:PySem.Expr→Bool
 |.Slice _ _ none _=>true|_=>false
theorem Bb{e i:Ac}(h:Hu i=false):bn sc (.Subscript e i p)= .sub (bn sc e) (bn sc i):=by
 induction i using PySem.Expr.casesOn with
 |Slice lo hi st q=>induction st using oA with
  |none=>exact nomatch h
  |some s=>rfl
 |_=>rfl
theorem Em(i:Ac):Hu i=false∨∃lo hi q,i= .Slice lo hi none q:=by
 induction i using PySem.Expr.casesOn with
 |Slice lo hi st q=>induction st using oA with|none=>exact .inr ⟨lo,hi,q,rfl⟩|some s=>exact .inl rfl
 |_=>exact .inl rfl
theorem zi(as:Arguments):(∃ps,as=⟨[],ps,none,[],[],none,[]⟩)∨∀sc b Nb p,bn sc (.Lambda as b Nb p)= .bad:=by
 obtain⟨po,ar,va,ko,kd,kw,df⟩:=as
 induction po using lC with
 |cons _ _=>exact .inr λo_ o_ o_ o_=>rfl|nil=>induction va using oA with|some _=>exact .inr λo_ o_ o_ o_=>rfl|none=>induction ko using lC with|cons _ _=>exact .inr λo_ o_ o_ o_=>rfl|nil=>induction kd using lC with|cons _ _=>exact .inr λo_ o_ o_ o_=>rfl|nil=>induction kw using oA with|some _=>exact .inr λo_ o_ o_ o_=>rfl|none=>induction df using lC with|cons _ _=>exact .inr λo_ o_ o_ o_=>rfl|nil=>exact .inl ⟨ar,rfl⟩
theorem jE{c:Prop}[Decidable c](h:hd e=n):hd (if c then e else .bad)=0∨hd (if c then e else .bad)=n:=by
 by_cases q:c
 ·rw[iP q];exact .inr h
 ·rw[iN q];exact .inl rfl
theorem uX{o:Ac}{a:Str}{q:Pos}{args:List Ac}:hd (bn sc (.Call (.Attribute o a q) args [] p))=0:=by
 refine(?_:hd (match idOf a with|some a=>if dM o&&q.endLine==p.line&&decide (args.length≤20) then .m _ a _ else .bad|none=>.bad)=0)
 induction idOf a using oA with
 |none=>rfl|some a=>exact(jE rfl).elim id id
theorem Gy(sc:Scope)(pe:Ac):hd (bn sc pe)=0∨hd (bn sc pe)=pe.ctorIdx:=by
 induction pe using PySem.Expr.casesOn with
 |Name x p=>
  refine(?_:hd (cu sc x)=0∨hd (cu sc x)=23);rcases dy sc x with h|⟨k,h⟩|⟨k,h⟩<;>rw[h]
  ·exact .inl rfl
  ·exact .inr rfl
  ·exact .inr rfl
 |Call f args Ok p=>
  induction Ok using lC with
  |cons k ks=>rw[tP];exact .inl rfl
  |nil=>
   rcases pF f with h|⟨o,a,q,h⟩
   ·rw[p8 h];exact .inr rfl
   ·subst h;exact .inl uX
 |GeneratorExp elt gens csc p=>exact jE rfl|Constant co n p=>show hd (match B1 co with|some k=>.k k|none=>.bad)=0∨hd (match B1 co with|some k=>.k k|none=>.bad)=19;cases B1 co<;>first|exact .inl rfl|exact .inr rfl
 |BinOp a op b p=>show hd (match qd op with|some o=>.bin o _ _|none=>.bad)=0∨_;cases qd op<;>exact .inl rfl
 |UnaryOp op e p=>
  rcases DS op with h|h|h
  ·subst h;exact .inl rfl
  ·subst h;exact .inl rfl
  ·rw[h];exact .inl rfl
 |Compare l MW rs p=>exact jE rfl
 |Attribute e a p=>
  refine(?_:hd (match idOf a with|some a=>if dM e then .attr _ a else .bad|none=>.bad)=0∨_)
  induction idOf a using oA with
  |none=>exact .inl rfl|some a=>exact .inl ((jE rfl).elim id id)
 |Subscript e i p=>
  rcases Em i with h|⟨lo,hi,q,h⟩
  ·rw[Bb h];exact .inl rfl
  ·subst h;exact .inl rfl
 |ListComp elt gens csc p=>exact .inl ((jE rfl).elim id id)
 |Lambda as b Nb p=>
  rcases zi as with⟨ps,h⟩|h
  ·subst h;exact .inl ((jE rfl).elim id id)
  ·rw[h];exact .inl rfl
 |_=>exact .inl rfl
theorem kv(h:bn sc pe=e)(hn:hd e=n+1):pe.ctorIdx=n+1:=by
 rcases Gy sc pe with q|q
 ·simp only[h,hn] at q;exact nn q rfl
 ·simp only[←q,h,hn]
theorem Jt(h:pe.ctorIdx=23):∃x p,pe= .Name x p:=PySem.Expr.Name.elim pe h λx p=>⟨x,p,rfl⟩
theorem Mz(h:pe.ctorIdx=16):∃f args Ok p,pe= .Call f args Ok p:=PySem.Expr.Call.elim pe h λa b c d=>⟨a,b,c,d,rfl⟩
theorem AT(h:hd e≠16):dB e= .val e:=by induction e using Internal.E.casesOn<;>first|rfl|exact absurd rfl h
theorem uF{f:Internal.E}{args:List Internal.E}(h:∀k,f≠ .g k):dB (.call f args)= .val (.call f args):=by induction f using Internal.E.casesOn<;>first|rfl|exact absurd rfl (h _)
inductive SrcP (sc:Scope) (pe:PySem.Expr):Prop where
 |one (x:Str) (p0 p:Pos) (a:PySem.Expr) (k:Nat) (h:pe= .Call (.Name x p0) [a] [] p) (hx:cu sc x= .g k) (e:bn sc pe= .call (.g k) [bn sc a])|two (x:Str) (p0 p:Pos) (a b:PySem.Expr) (k:Nat) (h:pe= .Call (.Name x p0) [a,b] [] p) (hx:cu sc x= .g k) (e:bn sc pe= .call (.g k) [bn sc a,bn sc b])|val (e:dB (bn sc pe)= .val (bn sc pe))
theorem vj(sc:Scope)(pe:Ac):SrcP sc pe:=by
 by_cases h2:hd (bn sc pe)=16
 ·refine K7 (Mz (kv rfl h2)) λf args Ok p h=>?_;subst h
  induction Ok using lC with
  |cons k ks=>rw[tP] at h2;exact nn h2 rfl
  |nil=>
   rcases pF f with hf|⟨o,a,q,hf⟩
   ·have he:=p8 (sc:=sc) (args:=args) (p:=p) hf
    by_cases hk:∃k,bn sc f= .g k
    ·obtain⟨k,hk⟩:=hk;refine ql (Jt (kv hk rfl)) λx p0 h=>?_;subst h;rw[hk] at he
     induction args using lC with
     |nil=>exact .val (by rw[he];rfl)|cons a l=>induction l using lC with|nil=>exact .one x p0 p a k rfl hk he|cons b l=>induction l using lC with|nil=>exact .two x p0 p a b k rfl hk he|cons _ _=>exact .val (by rw[he];rfl)
    ·exact .val (by rw[he];exact uF λk q=>hk ⟨k,q⟩)
   ·subst hf;rw[uX] at h2;exact nn h2 rfl
 ·exact .val (AT h2)
theorem vd(P:Params):(fS (KF P) 125 (.type "range")&&125 !=2)=true:=by kernel_rfl
theorem C6(P:Params):(fS (KF P) 122 (.type "reversed")&&122 !=2)=true:=by kernel_rfl
theorem C7(P:Params):(fS (KF P) 174 (.type "zip")&&174 !=2)=true:=by kernel_rfl
theorem li(a b:Int):Builtin.Range.rangeSize a b 1=((b -a).toNat:Int):=by
 delta Builtin.Range.rangeSize;simp
 try lia
theorem rp{a b:Int}(h1: -1000000<a)(h2:a<1000000)(h3: -1000000<b)(h4:b<1000000):Builtin.Range.small a b 1=true:=by
 delta Builtin.Range.small;rw[li];delta Builtin.Range.rangeFitsLong;simp
 try omega
noncomputable def RI(K:Kx)(P P':Pt)(i:It)(x:Value):Prop:=∃a j,x= .ref a∧kD P'.L a j∧lz i j∧Apart K a∧∀o,P.L.G a≠some (.lent,o)
section
variable {K:Kx} {P P':Pt} {ρ:aF} {r:Ev} {pos:Pos}
theorem Kx.At.apart(p:K.At ρ P)(n:P.s.heap.get? a=none):Apart K a:=by
 have cl:∀n c,K.env.cells.lookup n=some c→c≠a:=λn c e z=>by refine ek (p.fr.lt n c e) λo h=>?_;subst z;rcases h with h|h<;>exact nomatch (p.sr.no n).symm.trans h
 refine⟨λh=>?_,cl⟩;rcases p.fr.ft a h with e|⟨n,e⟩
 ·refine ie p.fr.ns λo m h1 o_=>?_;rw[←e] at h1;exact nomatch (p.sr.no n).symm.trans h1
 ·exact cl n a e rfl
theorem To.past{b:Nat}{F F2:AP}{P1 P2:Pt}(x:To U b cz P P1)(y:To U b F2 P1 P2)(h:∀a o,P.L.G a=some (.lent,o)→¬ F a→¬ F2 a):To U b F P P2:=
 ⟨x.le.trans y.le,λa o e n=>y.j a o (x.j a o e id) (h a o e n),λb' h l=>y.lb b' h (x.lb b' h l),y.sr⟩
noncomputable abbrev m8(K:Kx)(P:Pt)(i:It)(σ':aq)(Q:Value→Shared→Prop):Prop:=∀P' x,To K.U K.c.b cz P P'→P'.σ=σ'→RI K P P' i x→Q x P'.s
theorem m8.then(h:m8 K P i σ' Q)(T:To K.U K.c.b cz P P'):m8 K P' i σ' Q:=λP2 x T2 hs z1=>LS z1 λa j h1 h2 h3 h4 h5=>h P2 x (T.trans T2) hs ⟨a,j,h1,h2,h3,h4,λo e=>h5 o (T.j a o e id)⟩
theorem gR(p:K.At ρ P){j:ItS}{t:Nat}(hf:o.isFreed=false)(st:lz i j)(hi:∀h:Heap,h.get? P.s.heap.objs.size=some o→GB P.L h P.s.heap.objs.size j)(h:m8 K P i P.σ Q):
 Q (.ref P.s.heap.objs.size) {P.s with heap:=P.s.heap.push o,toks:=t}:=by
 have T:=p.sr.grow (b:=K.c.b) (F:=cz) (s':={P.s with heap:=P.s.heap.push o,toks:=t}) (λa=>if a=P.s.heap.objs.size then some .lent else none) (Ext.push _ _ _);exact h _ _ T rfl ⟨_,j,rfl,⟨o,Lay.grow_new (p.sr.no (bS _)) (iP rfl) (Qr _ hf),λh q=>(hi h q).le T.le⟩,st,p.apart (bS _),λo e=>nomatch (p.sr.no (bS _)).symm.trans e⟩
theorem nJ(p:K.At ρ P){l:Lst}{xs:List V}(hL:LstAt P.L a l)(hx:l.xs P.σ=some xs)(st:lz i (.fwd l 0)){E}(h:m8 K P i P.σ Q):wpAny (model pw K.U.w) K.A (pyIter (.ref a)) Q E P.s:=by exact gv (er p.sr hL hx) λvs h1 o_ o_=>wpAny_pyIter_list h1 (gR p rfl st (λh ho=>⟨a,hL,_,ho,rfl,rfl⟩) h)
theorem rO(p:K.At ρ P){l:Lst}{xs:List V}(hL:LstAt P.L a l)(hx:l.xs P.σ=some xs)(st:lz i (.bwd l xs.length)){E}(h:m8 K P i P.σ Q):
 wpAny (model pw K.U.w) K.A (PySem.call (.type "reversed") [.ref a]) (λz s'=>wpAny (model pw K.U.w) K.A (pyIter z) Q E s') E P.s:=by
 refine gv (er p.sr hL hx) λvs h1 o_ h3=>?_;have hit:∀hp:Heap,hp.get? P.s.heap.objs.size=some (revObj a (↑vs.toArray.size -1))→hp.IsRevIter P.s.heap.objs.size a ((xs.length:Int) -1):=λhp q=>⟨_,q,rfl,by refine h3.len▸?_;refine P7▸?_;rfl⟩;exact call_reversed_list h1 (wpAny_pyIter_revIter (hit _ (Qr _ rfl)) (gR p rfl st (λh ho=>⟨a,hL,hit h ho⟩) h))
theorem wo(p:K.At ρ P){v:V}(hv:VR P.L v y)(e:Hd v=some i)(hl:∀n,i= .o n→∃xs,P.σ[n]?=some (.list xs)){E}(h:m8 K P i P.σ Q):wpAny (model pw K.U.w) K.A (pyIter y) Q E P.s:=by
 induction v using Internal.V.casesOn with
 |list xs=>
  have O6:=hv;obtain⟨a,o,vs,hy,_⟩:=O6;subst hy;refine nJ p (l:=.fix xs) hv rfl (sJ e▸?_) h;have g:=iq (nx:=ew) (f:=id) (mk:=λk=>ItS.fwd (.fix xs) k) (λσ k=>rfl) xs 0 rfl
  rwa [Vd] at g
 |bytes bs=>obtain⟨t,hy,_⟩:=hv;subst hy;exact KBw.pyIter_bytes (gR p (j:=.bts bs 0) rfl (sJ e▸iq (λσ k=>rfl) bs 0 rfl) (λh ho=>⟨t,_,ho,rfl,rfl⟩) h)|o n=>rw[←sJ e] at hl h;obtain⟨xs,hx⟩:=hl n rfl;refine hv.2▸?_;exact nJ p (i:=.o n) (l:=.cell n) (⟨hv.1,rfl⟩) (mq hx) rfl h|_=>exact no e
theorem uC(p:K.At ρ P){v:V}(hv:VR P.L v y)(e:DG P.σ v=some i){E}(h:m8 K P i P.σ Q):
 wpAny (model pw K.U.w) K.A (PySem.call (.type "reversed") [y]) (λz s'=>wpAny (model pw K.U.w) K.A (pyIter z) Q E s') E P.s:=by
 induction v using Internal.V.casesOn with
 |list xs=>
  have O6:=hv;obtain⟨a,o,vs,hy,_⟩:=O6;subst hy;refine rO p (l:=.fix xs) hv rfl (sJ e▸?_) h;have g:=xb xs xs.length nR
  rwa [Qn nR] at g
 |o n=>
  have e:(match P.σ[n]? with|some (.list xs)=>some _|_=>none)=_:=e
  induction hx:P.σ[n]? using oA with
  |none=>rw[hx] at e;exact no e
  |some cl=>
   rw[hx] at e
   induction cl using Internal.Cell.casesOn with
   |obj C fs=>exact no e|list xs=>rw[←sJ e] at h;rw[hv.2];exact rO p (i:=.revLoc n xs.length) (l:=.cell n) (⟨hv.1,rfl⟩) (mq hx) rfl h
 |_=>exact no e
theorem wT(p:K.At ρ P){a b:Int}(e:nj a b=some i){rg:Addr}{t1 t2 t3:Tok}(hr:IsRange P.s.heap rg a b 1 t1 t2 t3){E}(h:m8 K P i P.σ Q):wpAny (model pw K.U.w) K.A (pyIter (.ref rg)) Q E P.s:=by refine km e λq e=>?_;simp only[P9,decide_eq_true_eq] at q;refine wpAny_pyIter_range hr (rp q.1.1.1 q.1.1.2 q.1.2 q.2) (gR p (j:=.rng a (b -a).toNat) rfl (e▸wA _ a) (λh ho=>?_) h);rw[li] at ho;exact ho
theorem gO(S:Snd K r){x:Str}{pos0:Pos}{args:List Ac}{k:Nat}{T:String}{vs:List V}{σ2:aq}(p:K.At ρ P)(hx:cu K.env.scope x= .g k)(eb:(fS (KF K.U.w.params) k (.type T)&&k !=2)=true)(e:bg r K.c ρ P.σ (bP K.env.scope args)=some (vs,σ2)){E}(h:∀P2 xs,To K.U K.c.b cz P P2→σ2=P2.σ→bQ P2.L vs xs→wpAny (model pw K.U.w) K.A (PySem.call (.type T) xs) Q E P2.s):wpAny (model pw K.U.w) K.A (eval (.Call (.Name x pos0) args [] pos) K.env) Q E P.s:=by refine d7 (eE hx) λa b=>?_;exact wB (mo p b a eb (cI S p e λP2 xs T hs NQ=>⟨mI,h P2 xs T hs NQ⟩))
theorem s5{σ1:aq}{e:Ac}{v:V}(h:r.e K.c ρ σ (bn K.env.scope e)=some (v,σ1)):bg r K.c ρ σ (bP K.env.scope [e])=some ([v],σ1):=by refine(?_:(r.e K.c ρ σ _).bind _=_);refine h▸?_;rfl
theorem zy{σ1 σ2:aq}{e e':Ac}{v v':V}(h:r.e K.c ρ σ (bn K.env.scope e)=some (v,σ1))(h':r.e K.c ρ σ1 (bn K.env.scope e')=some (v',σ2)):bg r K.c ρ σ (bP K.env.scope [e,e'])=some ([v,v'],σ2):=by refine(?_:(r.e K.c ρ σ _).bind _=_);refine h▸?_;refine(?_:(bg r K.c ρ σ1 _).bind _=_);rw[s5 h'];rfl
theorem jH(S:Snd K r)(p:K.At ρ P)(pe:Ac)(e:eQ r K.c ρ P.σ (bn K.env.scope pe)=some (i,σ'))(hl:∀n,i= .o n→∃xs,σ'[n]?=some (.list xs)){E}(h:m8 K P i σ' Q):
 wpAny (model pw K.U.w) K.A (eval pe K.env) (λx M1=>wpAny (model pw K.U.w) K.A (pyIter x) Q E M1) E P.s:=by
 have val (e:(r.e K.c ρ P.σ (bn K.env.scope pe)).bind HE=some (i,σ')):wpAny (model pw K.U.w) K.A (eval pe K.env) (λx M1=>wpAny (model pw K.U.w) K.A (pyIter x) Q E M1) E P.s:=by refine bu e λz6 e1 e=>?_;obtain⟨v,σ1⟩:=z6;refine eN e λi' e2 e=>?_;have e:=pJ e;refine(S.e pe p).go e1 λP1 y T hy=>?_;have hs:=hy.1;subst hs;exact wo (p.to T) hy.2 (e2.trans (cG some e.1)) (λn q=>e.2▸hl n q) (e.2▸h.then T)
 have range {P2:Pt} (T:To K.U K.c.b cz P P2) {a b:Int} {t1 t2 t3:Tok} {k:Nat} (e:(nj a b).map (λi=>(i,P2.σ))=some (i,σ')):
  wpAny (model pw K.U.w) K.A (pyIter (.ref P2.s.heap.objs.size)) Q E {P2.s with heap:=P2.s.heap.push {cls:=.type "range",data:=.fields #[.int a t1,.int b t2,.int 1 t3]},toks:=k}:=by
  refine eN e λi' e2 e=>?_;have e:=pJ e;have T2:=T.trans (T.sr.ext (Ext.push P2.s {cls:=.type "range",data:=.fields #[.int a t1,.int b t2,.int 1 t3]} k));exact wT (p.to T2) (e2.trans (cG some e.1)) (Qr _ rfl) (e.2▸h.then T2)
 delta eQ at e
 induction vj K.env.scope pe using Internal.SrcP.casesOn with
 |one x p0 q a k h1 hx es=>
  by_cases k1:k=122
  ·refine cps λX_ k_=>?_;subst k1 h1;rw[es] at e;refine kF e λv σ1 e1 e=>eN e λi' e2 e=>?_;have e:=pJ e;refine k_ ?_;refine gO S p hx (C6 _) (s5 e1) λP2 xs T hs NQ=>?_;obtain⟨y,z,hz,hy,hn⟩:=NQ;simp only[hz,show z=[] from hn];subst hs;exact uC (p.to T) hy (e2.trans (cG some e.1)) (e.2▸h.then T)
  by_cases k2:k=125
  ·subst k2 h1;rw[es] at e;refine kF e λv σ1 e1 e=>?_
   induction v using Internal.V.casesOn with
   |int b'=>refine gO S p hx (vd _) (s5 e1) λP2 xs T hs NQ=>?_;obtain⟨y,z,hz,⟨t,hy⟩,hn⟩:=NQ;simp only[hz,show z=[] from hn,hy];subst hs;exact call_range_1 (range T e)|_=>exact no e
  ·rw[es,show dB (.call (.g k) [bn K.env.scope a])= .val (.call (.g k) [bn K.env.scope a]) from(iN λz=>k1 (bA z)).trans (iN λz=>k2 (bA z)),←es] at e;exact val e
 |two x p0 q a b k h1 hx es=>
  by_cases k1:k=125
  ·subst k1 h1;rw[es] at e;refine kF e λu σ1 e1 e=>kF e λv σ2 e1' e=>?_
   induction u using Internal.V.casesOn with
   |int a'=>
    induction v using Internal.V.casesOn with
    |int b'=>refine gO S p hx (vd _) (zy e1 e1') λP2 xs T hs NQ=>?_;obtain⟨y,z,hz,⟨t,hy⟩,y2,z2,hz2,⟨t2,hy2⟩,hn⟩:=NQ;simp only[hz,hz2,show z2=[] from hn,hy,hy2];subst hs;exact call_range_2 (range T e)|_=>exact no e
   |_=>exact no e
  by_cases k2:k=174
  ·subst k2;rw[es] at e;exact no e
  ·rw[es,show dB (.call (.g k) [bn K.env.scope a,bn K.env.scope b])= .val (.call (.g k) [bn K.env.scope a,bn K.env.scope b]) from(iN λz=>k1 (bA z)).trans (iN λz=>k2 (bA z)),←es] at e;exact val e
 |val es=>rw[es] at e;exact val e
theorem me{it:Ac}{z:It×aq}(S:Snd K r)(e:eQ r K.c ρ σ (bn sc it)=some z):dT it=true:=by
 induction it using PySem.Expr.casesOn with
 |Set a b cc=>have e:(r.e K.c ρ σ .bad).bind _=_:=e;rw[S.bad] at e;exact no e|_=>rfl
theorem gL{env:Env}{it:Ac}(hs:dT it=true)(x:Value):foldedSetIterable it env x=pure x:=by induction it using PySem.Expr.casesOn<;>first|rfl|exact dg hs
theorem HN(S:SndS K r){body:List PySem.Stmt}(p:K.At ρ P):SS K r ρ P (.For target iter body [] pos) (if mZ K.env.scope target then .for (nA K.env.scope target) (bn K.env.scope iter) (fW K.env.scope body) else .bad):=by
 induction tk:mZ K.env.scope target using bC with
 |false=>exact .bad
 |true=>
  refine⟨λ {a} e Q E h=>?_⟩;refine kF e λi σ1 e1 e2=>?_;refine wpAny_For (jH S.toSnd p iter e1 (λn q=>?_) λP1 x T hs hI=>?_) (gL (me S.toSnd e1))
  ·subst q;have e2:(match σ1[n]? with|some (.list xs)=>cT _ n _ _ 0 ρ σ1|_=>none)=_:=e2
   induction hx:σ1[n]? using oA with
   |none=>rw[hx] at e2;exact no e2
   |some cl=>
    rw[hx] at e2
    induction cl using Internal.Cell.casesOn with
    |obj C fs=>exact no e2|list xs=>exact⟨xs,rfl⟩
  ·refine cps λX_ k_=>?_;obtain⟨it,j,hx,hi,st,hA,nw⟩:=hI;subst hx;subst hs;refine ek (CI st e2) λm hm=>k_ ?_;exact(zz S tk hA m (p.to T) hi).run hm Q (λe s'=>cameBackBy (model pw K.U.w) K.A K.env E e s') λP' y T2 hy=>h P' y (T.past T2 λa o e n q=>q.elim n λz=>nw o (z▸e)) hy
end
theorem sZ{c1 c2 c3 c4 c5 d:Bool}{N:List Str}{o:Option (List Str)}{u:Sem (Option (List Str))}(hd:d=false)(e:(if c1=true then some none else if c2=true then some none else if c3=true then some none else if c4=true then some none else if c5=true then none else some (some N))=some o):
 (if(c1||d)=true then pure none else if c2=true then pure none else if c3=true then pure none else if c4=true then pure none else if c5=true then u else pure (some N))=(pure o:Sem (Option (List Str))):=by
 subst hd
 induction c1 using bC with
 |true=>exact cG pure (sJ e)|false=>induction c2 using bC with|true=>exact cG pure (sJ e)|false=>induction c3 using bC with|true=>exact cG pure (sJ e)|false=>induction c4 using bC with|true=>exact cG pure (sJ e)|false=>induction c5 using bC with|true=>exact no e|false=>exact cG pure (sJ e)
theorem uL{c1 c2 c3 c4 c5:Bool}{N o:List Str}(e:(if c1=true then some none else if c2=true then some none else if c3=true then some none else if c4=true then some none else if c5=true then none else some (some N))=some (some o)):N=o:=by
 induction c1 using bC with
 |true=>exact nomatch sJ e
 |false=>induction c2 using bC with
  |true=>exact nomatch sJ e
  |false=>induction c3 using bC with
   |true=>exact nomatch sJ e
   |false=>induction c4 using bC with
    |true=>exact nomatch sJ e
    |false=>induction c5 using bC with|true=>exact no e|false=>exact sJ (sJ e)
section
variable {K:Kx} {P P':Pt} {ρ:aF} {r:Ev} {pos:Pos}
theorem mP{env:Env}(hk:env.scope.kind= .function){ts vs:List Ac}{k:Nat}{k':Nat}{p':Pos}{o:Option (List Str)}(e:jS env.scope ts vs=some o):swappedStores [.Tuple ts k p] (.Tuple vs k' p') env=pure o:=
 have hb:_=_:=by delta Env.blockKind;rw[hk];rfl
 sZ hb e
theorem ut{ts vs:List Ac}{names:List Str}(e:jS sc ts vs=some (some names)):∀n∈names,kK sc n=true:=by
 intro n hn;rw[←uL e] at hn;refine aQ (Rw.mp hn) λt o_ ht=>?_
 induction t using PySem.Expr.casesOn with
 |Name id pos=>refine km ht λhc ht=>ht▸?_;delta kK;exact(bA (aA hc).1)▸rfl|_=>exact no ht
theorem mU(names:List Str):∀ {ρ:aF} {P:Pt} {vs:List V} {ys:List Value},(∀n∈names,(idOf n).isSome=true)→(∀n∈names,kK K.ws n=true)→K.At ρ P→names.length=vs.length→bQ P.L vs ys→
 hO K K.F P (RB K) ((bindAll K.c ρ ((names.filterMap idOf).zip vs)).map λρ=>(ρ,P.σ)) (assignInOrder (names.map λn=>bindName K.env n) ys):=by
 induction names with
 |nil=>
  intro ρ P vs ys o_ o_ p hl hv
  induction vs using lC with
  |cons _ _=>exact nn hl rfl|nil=>exact⟨λe Q E h=>wP (h P () (To.refl p.sr) (sJ e▸⟨rfl,p.fr⟩))⟩
 |cons n names ih=>
  intro ρ P vs ys h1 h2 p hl hv
  induction vs using lC with
  |nil=>exact nn hl rfl|cons v vs=>
  refine cps λX_ k_=>?_;obtain⟨k,hk⟩:=Qz.mp (h1 n mS);obtain⟨y,q,hys,hy,hq⟩:=hv;refine k_ ?_;rw[hys,SI hk];refine⟨λ {a} e Q E h=>?_⟩;refine eN e λρ2 e e4=>bu (show(cZ K.c ρ k v).bind (λρ=>bindAll K.c ρ ((names.filterMap idOf).zip vs))=_ from e) λρ1 e1 e2=>wB (m:=holding q (bindName K.env n y)) (wpAny_holding ((jy p hk (h2 n mS) hy).go (a:=(ρ1,P.σ)) (by refine e1▸?_;rfl) λP1 x T hb=>?_));exact(ih (λm hm=>h1 m (mM hm)) (λm hm=>h2 m (mM hm)) (p.toF T hb.2) (R1 hl) (T.vs hq)).go (by refine e2▸?_;refine(hb.1)▸?_;exact cG some e4) λP2 x T2 hx=>h P2 x (T.trans T2) hx
theorem vy{names:List Str}(h:∀n∈names,(idOf n).isSome=true):(names.filterMap idOf).length=names.length:=by
 induction names with
 |nil=>rfl|cons n names ih=>refine ek (Qz.mp (h n mS)) λk hk=>?_;simp only[SI hk,QK,ih λm hm=>h m (mM hm)]
theorem xk(S:SndS K r){ts vs:List Ac}{k k':Nat}{pt pv:Pos}{names:List Str}(Ol:jS K.env.scope ts vs=some (some names))(Of:(names.all λn=>(idOf n).isSome)=true)(p:K.At ρ P):
 SS K r ρ P (.Assign [.Tuple ts k pt] (.Tuple vs k' pv) pos) (.d (names.filterMap idOf) (bP K.env.scope vs)):=⟨λ {a} e Q E h=>by
 refine kF e λxs σ1 e1 e=>?_;have e:(if _=true then(bindAll K.c ρ ((names.filterMap idOf).zip xs).reverse).map λρ=>_ else none)=_:=e
 by_cases hc:(xs.length==(names.filterMap idOf).length&&decide (xs.length<100))=true
 ·rw[iP hc] at e;have hc:=aA hc;have OY:=lA Of;have hl:=((bA hc.1).trans (vy OY)).symm;refine wB (wpAny_standAt (wB ?_));refine wP ?_;rw[mP p.fr.kind Ol];refine wB (wB (wpAny_standAt (wB ((gB S.toSnd vs p).go e1 λP1 ys T hr=>?_))));have hs:=hr.1;subst hs;refine gA T.sr hr.2 (by have hq:xs.length=_:=hr.2.len;delta lim;lia) λs2 x e2 hx=>wB (wP ?_);have T2:=T.trans (T.sr.ext e2);obtain⟨ta,o,us,Pn,ho,hi,On⟩:=hx;refine Pn▸?_;refine wB (wpAny_rule (wB ?_));rw[show names.length=us.toArray.size by simp only[P7,←On.len,hl]];refine unpackItems_tuple p.room.h ⟨o,T2.sr.g ho,hi.list.2⟩ λh' hx=>?_;have T3':=T2.sr.ext (b:=K.c.b) (F:=cz) (s':={s2 with heap:=h'}) ⟨λ {b o} q=>hx b o (Sb (Q9 q)) q,rfl,rfl⟩;refine eN e λρ1 e3 e4=>?_;rw[Uu,List.reverse_zipWith (by simp only[vy OY,hl]),←Uu,←List.filterMap_reverse] at e3;refine wB ((mU names.reverse (vs:=xs.reverse) (λn hn=>OY n (QL.mp hn)) (λn hn=>by refine S.ws▸?_;exact ut Ol n (QL.mp hn)) (p.to (T2.trans T3')) (by simp only[QH,hl]) ?_).go (a:=(ρ1,P1.σ)) ?_ λP4 x T4 hb=>wP ?_)
  ·exact(T3'.vs On).rev
  ·rw[e3];rfl
  ·exact h P4 .next ((T2.trans T3').wide.trans T4) (e4▸⟨hb.1,hb.2,rfl⟩)
 ·rw[iN hc] at e;exact no e⟩
end
theorem ux:isSubtype (.type "bytes") (.type "bytes")=pure true:=by first|exact F.sub_bytes_bytes|rfl|(with_unfolding_all rfl)
section
variable {U:Wd} {P:Pt} {A:Around} {E:Aa} {v x y:V} {xv yv:Value} {Q:Aa}
theorem xo{b:Array UInt8}{t:Tok}{s:Shared}(h:Q (.bool true) s):wpAny (model pw U.w) A (PySem.call (.builtin "isinstance") [.bytes b t,.type "bytes"]) Q E s:=
 call_isinstance_yes rfl F.isi_meta_bytes ux h
theorem xe(p:SR U P)(ha:VR P.L x xv)(e:((mT x).map λb=>V.int b.length).or ((bc P.σ x).map λxs=>.int xs.length)=some v)(h:Pv P v Q):wpAny (model pw U.w) A (PySem.call (.builtin "len") [xv]) Q E P.s:=by
 rcases l4 e with e|e
 ·refine eN e λb e1 e2=>aQ (bR ha e1) λt hx hl=>hx▸?_;subst e2;exact len_bytes (by refine P7▸?_;exact cj hl rfl) (by refine P7▸?_;exact h.int)
 ·refine cps λX_ k_=>eN e λxs e1 e2=>?_;obtain⟨a,ws,hx,hL,hl,hr⟩:=bk p ha e1;refine k_ ?_;refine hx▸?_;subst e2;exact call_len_list (dr hL) (by refine P7▸?_;exact n8 hl) (by rw[hr.len] at h;refine P7▸?_;exact h.int)
theorem tm(p:SR U P)(ha:VR P.L x xv)(e:(bc P.σ x).map V.list=some v)(h:Pv P v Q):wpAny (model pw U.w) A (PySem.call (.type "list") [xv]) Q E P.s:=by refine cps λX_ k_=>eN e λxs e1 e2=>?_;obtain⟨a,ws,hx,⟨n,hL⟩,hl,hr⟩:=bk p ha e1;refine k_ ?_;refine hx▸?_;subst e2;refine call_list_seq a (.inl rfl) hL rfl rfl (λh' c' hk ho=>?_) (by delta lim at hl;simp;exact cj hl rfl);have ex:Ext P.s {P.s with heap:=h'}:=⟨λ {a o}=>hk a o,rfl,rfl⟩;exact h _ _ ex ⟨_,_,ws,rfl,p.ext_new (bS _) ho,⟨hl,_,rfl⟩,(p.ext (b:=0) (F:=cz) ex).vs hr⟩
theorem sb(p:SR U P)(hh:A.handled=none)(e:(match x with|.list [.int i]=>if 0≤i∧i<256 then some (V.bytes [Q3 i.toNat]) else none|_=>none)=some v)(ha:VR P.L x xv)(h:Pv P v Q):wpAny (model pw U.w) A (PySem.call (.type "bytes") [xv]) Q E P.s:=by
 induction x using Internal.V.casesOn with
 |list xs=>
  induction xs using lC with
  |nil=>exact no e
  |cons u us=>
   induction u using Internal.V.casesOn with
   |int i=>
    induction us using lC with
    |cons _ _=>exact no e
    |nil=>
     refine cps λX_ k_=>km e λq e2=>?_;obtain⟨a,o,ws,hx,ho,hi,z,w,hw,⟨t,hz⟩,hn⟩:=ha;refine k_ ?_;refine hx▸?_;rw[show w=[] from hn,hz] at hw;subst hw e2;refine call_bytes_ints ⟨o,p.g ho,hi.list.2⟩ (.cons i t .nil) (λn hn=>?_) (by simp[sizeLine]) hh λh' t' k hk=>?_
     ·refine(mA hn)▸?_;exact q
     ·exact h {P.s with heap:=h',toks:=k} _ ⟨λ {a o}=>hk a o,rfl,rfl⟩ ⟨t',rfl,(by decide:1≤lim)⟩
   |_=>exact no e
 |_=>exact no e
theorem p7(p:SR U P)(ha:VR P.L x xv)(hb:VR P.L y yv)(e:i2 (λa b=>if b>0&&a.natAbs<2 ^ 60&&b.natAbs<2 ^ 60 then some (V.t [.int (a / b),.int (a % b)]) else none) x y=some v)(h:Pv P v Q):
 wpAny (model pw U.w) A (PySem.call (.builtin "divmod") [xv,yv]) Q E P.s:=by
 refine cps λX_ k_=>bu e λa e1 e=>bu e λb e2 e=>?_;obtain⟨t,h1⟩:=de ha e1;obtain⟨u,h2⟩:=de hb e2;refine km e λq e=>?_;simp only[P9,decide_eq_true_eq] at q;refine k_ ?_;refine h1▸?_;refine h2▸?_;subst e;refine divmod_int (by lia) ?_ (.inl (rC q.2));refine(T6 _ (Ve q.1.1))▸?_;refine(T7 _ (Ve q.1.1))▸?_;exact Pv.tup (xs:=[.int (a / b),.int (a % b)]) p ⟨_,_,rfl,⟨_,rfl⟩,_,_,rfl,⟨_,rfl⟩,rfl⟩ (by decide:2≤lim) h
theorem pD(p:SR U P)(ha:VR P.L x xv)(hb:VR P.L y yv)(e:(vK x y).map V.bool=some v)(h:Pv P v Q):wpAny (model pw U.w) A (PySem.call (.builtin "isinstance") [xv,yv]) Q E P.s:=by
 refine eN e λt e e4=>bu e λk e1 e=>?_;subst e4
 induction y using Internal.V.casesOn with
 |blt k'=>
  refine(show _=_ from hb)▸?_;have e1:=sJ e1;subst e1;rcases kX e with⟨hc,e⟩|e
  ·rw[bA hc];rcases l4 e with e|e
   ·obtain⟨b,e1,e2⟩:=cN e;obtain⟨t,hx,_⟩:=bR ha e1;rw[←e2] at h;rw[hx];exact xo (h.old p rfl)
   ·obtain⟨b,e1,e2⟩:=cN e;obtain⟨t,hx,_⟩:=dH ha e1;rw[←e2] at h;rw[hx];exact IsiPair.str_bytes (h _ _ (Ext.tok _ _) rfl)
  ·refine vO e λhc e=>?_;rw[bA hc];refine eN e λb e1 e2=>?_;rw[←e2] at h;refine(jR ha e1)▸?_
   induction b using oA with
   |none=>exact IsiPair.NoneType_bool (h _ _ (Ext.tok _ _) rfl)|some b=>exact IsiPair.bool_bool (h.old p rfl)
 |_=>exact no e1
theorem xn(p:SR U P)(hh:A.handled=none){k:Nat}{args:List V}{vs:List Value}(ha:bQ P.L args vs)(e:mB P.σ k args=some v)(h:Pv P v Q):wpAny (model pw U.w) A (PySem.call (sG k) vs) Q E P.s:=by
 induction args using lC with
 |nil=>exact no e|cons x l=>
 obtain⟨xv,w,hw,hx,hl⟩:=ha
 induction l using lC with
 |nil=>
  refine hw▸?_;refine(show w=_ from hl)▸?_;rcases kX e with⟨hc,e⟩|e
  ·refine(bA hc)▸?_;exact xe p hx e h
  rcases kX e with⟨hc,e⟩|e
  ·refine(bA hc)▸?_;exact tm p hx e h
  rcases kX e with⟨hc,e⟩|e
  ·rw[bA hc];exact sb p hh e hx h
  ·refine vO e λhc e=>?_;rw[bA hc];refine eN e λb e1 e2=>(nX hx e1)▸?_;exact call_bool_bool (h.old p (e2▸rfl))
 |cons y l=>
 obtain⟨yv,w',hw',hy,hl⟩:=hl
 induction l using lC with
 |cons _ _=>exact no e
 |nil=>
  refine hw▸?_;refine hw'▸?_;refine(show _=_ from hl)▸?_;rcases kX e with⟨hc,e⟩|e
  ·rw[bA hc];exact p7 p hx hy e h
  ·refine vO e λhc e=>?_;rw[bA hc];exact pD p hx hy e h
theorem uK{k:Nat}{args:List V}(e:mB σ k args=some v):jL.contains k=true:=by
 have go (n:Nat) (h:jL.contains n=true) (hc:(k==n)=true):jL.contains k=true:=bA hc▸h
 induction args using lC with
 |nil=>exact no e|cons x l=>
 induction l using lC with
 |nil=>
  rcases kX e with⟨hc,e⟩|e
  ·exact go _ (by decide) hc
  rcases kX e with⟨hc,e⟩|e
  ·exact go _ (by decide) hc
  rcases kX e with⟨hc,e⟩|e
  ·exact go _ (by decide) hc
  ·exact go _ (by decide) (Ah e).1
 |cons y l=>
 induction l using lC with
 |cons _ _=>exact no e
 |nil=>
  rcases kX e with⟨hc,e⟩|e
  ·exact go _ (by decide) hc
  ·exact go _ (by decide) (Ah e).1
end
section
variable {K:Kx} {P P':Pt} {ρ:aF} {r:Ev} {pos:Pos}
theorem Do(hp:isTrue pe K.env (eval pe K.env)=(do let v ←eval pe K.env;standAt pe.pos;holding [v] (truthy v)))(one:SE K r ρ P pe e):ST K r ρ P pe e:=⟨λ {v σ' b} e1 ht Q E h=>wpAny_isTrue_value (one.go e1 λP1 x T hx=>fZ T.sr hx.2 (hx.1▸ht) λs' y=>h (P1.ext s') (T.trans (T.sr.ext y)) hx.1.symm) hp⟩
end
noncomputable def sR(N:Nat):Option (Ro×Obj)→Option (Ro×Obj)
 |some (.cell n,o)=>if n<N then some (.cell n,o) else some (.imm,o)|y=>y
noncomputable def Pt.cut(P:Pt)(N:Nat):Pt:=⟨⟨λa=>sR N (P.L.G a),P.L.β,N⟩,P.σ.take N,P.s⟩
section
variable {U:Wd} {P P2:Pt} {b N:Nat} {L L':Lay}
theorem ji(h:P2.L.At a o):(P2.cut N).L.At a o:=cG (sR N) h
theorem yx(h:P2.L.G a=some (.lent,o)):(P2.cut N).L.G a=some (.lent,o):=cG (sR N) h
theorem Cn(h:P2.L.G a=some (.tab,o)):(P2.cut N).L.G a=some (.tab,o):=cG (sR N) h
theorem B7(hn:n<N)(h:P2.L.G a=some (.cell n,o)):(P2.cut N).L.G a=some (.cell n,o):=(cG (sR N) h).trans (iP hn)
theorem mJ(hn:¬ n<N)(h:P2.L.G a=some (.cell n,o)):(P2.cut N).L.At a o:=(cG (sR N) h).trans (iN hn)
theorem Db{k:Ro}(h:(P2.cut N).L.G a=some (k,o)):∃k',P2.L.G a=some (k',o):=by
 have h:sR N _=_:=h
 induction e:P2.L.G a using oA with
 |none=>rw[e] at h;exact no h
 |some y=>
  obtain⟨k',o'⟩:=y;rw[e] at h
  have:o'=o:=by
   induction k' using Internal.Ro.casesOn with
   |cell n=>
    have h:(if n<N then some _ else some _)=_:=h
    by_cases q:n<N
    ·rw[iP q] at h;exact cG Sj (sJ h)
    ·rw[iN q] at h;exact cG Sj (sJ h)
   |_=>exact cG Sj (sJ h)
  exact⟨k',this▸rfl⟩
theorem SR.low(x:SR U P):Ge P.L.N P.σ:=λn c o_ e=>(x.cells n c e).below
theorem To.cut(x:SR U P)(T:To U P.L.N cz P P2):To U P.L.N cz P (P2.cut P.L.N):=
 have y:=T.sr;have cj:=⟨λa o e=>ji e,λo_ o_=>rfl,nR⟩
 have get {n:Nat} {c:Cell} (e:(P2.σ.take P.L.N)[n]?=some c):n<P.L.N∧P2.σ[n]?=some c:=by
  rw[List.getElem?_take] at e
  by_cases q:n<P.L.N
  ·rw[iP q] at e;exact⟨q,e⟩
  ·rw[iN q] at e;exact no e
 ⟨⟨λa o e=>ji (T.le.i a o e),λn h=>T.le.b n h,nR⟩,λa o e h=>yx (T.j a o e h),λb' hb hl n c hn e=>T.lb b' hb hl n c hn (get e).2,
   ⟨y.base,λh=>(Db h).elim λk' q=>y.g q,λa o e t=>ji (y.h0 a o e t),λt ht=>(y.tabs t ht).to cj λa o=>Cn,y.gens,y.os,
    by refine(?_:P.L.N=(P2.σ.take P.L.N).length);simp only[Ql,←y.n,QT T.le.n],
    λn c e=>have e:=get e;(y.cells n c e.2).to cj e.1 ((T.lb P.L.N nR x.low) n c e.1 e.2) λa o=>B7 e.1⟩⟩
mutual
theorem dn {f:Nat→Option V} (hf:∀n v' X,f n=some v'→VR L (.o n) X→VR L' v' X) (hi:∀a o,L.At a o→L'.At a o):∀ {v v':V} {X:Value},aY f v=some v'→VR L v X→VR L' v' X
 |.none,_,_,e,r|.bool _,_,_,e,r|.int _,_,_,e,r|.str _,_,_,e,r|.bytes _,_,_,e,r|.fn _,_,_,e,r|.cls _,_,_,e,r|.blt _,_,_,e,r=>sJ e▸r|.clo _ _ _,_,_,e,_=>no e|.o n,v',X,e,r=>hf n v' X e r|.t xs,_,_,e,z5=>sz z5 λa o vs e1 h hs r=>aQ (cN e) λys e2 e3=>e3▸⟨a,o,vs,e1,hi _ _ h,hs,d9 hf hi e2 r⟩|.list xs,_,_,e,z4=>sz z4 λa o vs e1 h hs r=>aQ (cN e) λys e2 e3=>e3▸⟨a,o,vs,e1,hi _ _ h,hs,d9 hf hi e2 r⟩|.inst C fs,_,_,e,z3=>IA z3 λa d es n e1 h1 h2 r=>aQ (cN e) λys e2 e3=>e3▸⟨a,d,es,n,e1,hi _ _ h1,hi _ _ h2,gb hf hi e2 r⟩
theorem d9 {f:Nat→Option V} (hf:∀n v' X,f n=some v'→VR L (.o n) X→VR L' v' X) (hi:∀a o,L.At a o→L'.At a o):∀ {xs ys:List V} {vs:List Value},aP f xs=some ys→bQ L xs vs→bQ L' ys vs
 |[],_,_,e,r=>sJ e▸r|x::xs,_,_,e,z2=>fk z2 λu t h a q=>aQ (eL e) λy e1 e2=>aQ (cN e2) λys e2 e3=>e3▸⟨u,t,h,dn hf hi e1 a,d9 hf hi e2 q⟩
theorem gb {f:Nat→Option V} (hf:∀n v' X,f n=some v'→VR L (.o n) X→VR L' v' X) (hi:∀a o,L.At a o→L'.At a o):∀ {xs ys:List (Nat×V)} {vs:List DictEntry},cy f xs=some ys→gM L xs vs→gM L' ys vs
 |[],_,_,e,r=>sJ e▸r|(k,x)::xs,_,_,e,z1=>IJ z1 λu t h hk a q=>aQ (eL e) λy e1 e2=>aQ (cN e2) λys e2 e3=>e3▸⟨u,t,h,hk,dn hf hi e1 a,gb hf hi e2 q⟩
end
theorem mf{α β:Type}{f:α→Option β}{x:α}{xs:List α}{ys:List β}(e:(x::xs).mapM f=some ys):∃y zs,f x=some y∧xs.mapM f=some zs∧y::zs=ys:=by rw[RK] at e;exact bu e λy e1 e=>bu e λzs e2 e=>i6 y zs e1 e2 (sJ e)
theorem oo{α β:Type}{f:α→Option β}{ys:List β}(e:([]:List α).mapM f=some ys):[]=ys:=by simp only[U2] at e;exact sJ e
theorem yS{f:V→Option V}(hf:∀v v' X,f v=some v'→VR L v X→VR L' v' X)(xs:List V):∀ {ys:List V} {vs:List Value},xs.mapM f=some ys→bQ L xs vs→bQ L' ys vs:=by
 induction xs with
 |nil=>intro ys vs e r;refine(oo e)▸?_;exact r|cons x xs ih=>intro ys vs e r;refine fk (mf e) λy zs e1 e2 e3=>?_;obtain⟨u,t,h,a,q⟩:=r;refine e3▸?_;exact⟨u,t,h,hf _ _ _ e1 a,ih e2 q⟩
theorem x6{f:V→Option V}(hf:∀v v' X,f v=some v'→VR L v X→VR L' v' X)(xs:List (Nat×V)):∀ {ys:List (Nat×V)} {vs:List DictEntry},(xs.mapM λy=>(f y.2).map (TS y.1))=some ys→gM L xs vs→gM L' ys vs:=by
 induction xs with
 |nil=>intro ys vs e r;refine(oo e)▸?_;exact r|cons x xs ih=>intro ys vs e r;obtain⟨k,x⟩:=x;refine fk (mf e) λy zs e1 e2 e3=>eN e1 λz e1 e4=>?_;obtain⟨u,t,h,hk,a,q⟩:=r;simp only[←e3,←e4];exact⟨u,t,h,hk,hf _ _ _ e1 a,ih e2 q⟩
theorem BR{X:Value}(hn:n<N)(r:VR P2.L (.o n) X):VR (P2.cut N).L (.o n) X:=⟨hn,r.2⟩
theorem pK(y:SR U P2)(d:Nat):∀ {v v':V} {X:Value},aV P2.σ N d v=some v'→VR P2.L v X→VR (P2.cut N).L v' X:=by
 have old {n:Nat} {v':V} {X:Value} (hn:n<N) (e:some (V.o n)=some v') (r:VR P2.L (.o n) X):VR (P2.cut N).L v' X:=sJ e▸BR hn r
 induction d with
 |zero=>exact dn (λn v' X e r=>by exact km e λhn e=>old hn (cG some e) r) λa o=>ji
 |succ d ih=>
  intro v v' X e0 r0;refine dn (λn v' X e r=>?_) (λa o=>ji) e0 r0
  by_cases hn:n<N
  ·rw[iP hn] at e;exact old hn e r
  ·rw[iN hn] at e;simp only[r.2]
   induction hq:P2.σ[n]? using oA with
   |none=>rw[hq] at e;exact no e|some cl=>
   rw[hq] at e
   induction cl using Internal.Cell.casesOn with
   |list xs=>refine cps λX_ k_=>?_;obtain⟨ys,e1,e2⟩:=cN e;obtain⟨o,vs,ho,hs,hr⟩:=y.cells n _ hq;refine k_ ?_;rw[←e2];exact⟨_,o,vs,rfl,mJ hn ho,hs,yS (λv v' X a b=>ih a b) xs e1 hr⟩|obj C fs=>refine eN e λys e1 e2=>?_;obtain⟨d,es,k,h1,h2,hr⟩:=y.cells n _ hq;rw[←e2];exact⟨_,d,es,k,rfl,mJ hn h1,mJ hn h2,x6 (λv v' X a b=>ih a b) fs e1 hr⟩
theorem mG{v0 v:V}(x:SR U P)(T:To U P.L.N cz P P2)(hv:VR P2.L v0 y)(e:((aV P2.σ P.σ.length 2 v0).map λv=>(v,P2.σ.take P.σ.length))=some (v,σ'))(h:∀P' x,To U P.L.N cz P P'→P'.σ=σ'→VR P'.L v x→Q x P'.s):Q y P2.s:=by refine eN e λu e1 e2=>?_;rw[←x.n] at e1 e2;have e2:=pJ e2;exact h (P2.cut P.L.N) y (T.cut x) e2.2 (e2.1▸pK T.sr 2 e1 hv)
end
structure Clo(L:Lay)(scope:Scope)(clo:List (Str×Addr))(MX:aF):Prop where
 fr:∀n,scope.names.lookup n=some .free→∃c,clo.lookup n=some c
 lt:∀n c,clo.lookup n=some c→∃o,L.At c o∨L.G c=some (.lent,o)
 vals:∀k v,aE MX k=some v→k<NT∧scope.names.lookup (nm k)=some .free∧∃c o x,clo.lookup (nm k)=some c∧(L.At c o∨L.G c=some (.lent,o))∧o.data= .cell (some x)∧VR L v x
noncomputable def pg(sc Os:Scope):Prop:=Os.kind= .function∧∀n,Os.names.lookup n=sc.names.lookup n∨(sc.names.lookup n=some .free∧Os.names.lookup n=some .cell)
theorem dQ(names:List (Str×NameKind)):∀ (n:Nat) (MQ:List (Str×Addr)),cellsFrom n names MQ=cellsFrom n names []++MQ:=by
 induction names with
 |nil=>intro n MQ;rfl
 |cons y r ih=>
  intro n MQ;obtain⟨x,k⟩:=y;simp only[cellsFrom]
  induction k==NameKind.cell using bC with
  |true=>rw[iP rfl,iP rfl,ih (n+1) ((x,n)::MQ),ih (n+1) [(x,n)],Qc];rfl|false=>exact ih n MQ
theorem mV(names:List (Str×NameKind)):∀ (n:Nat) {x:Str} {c:Addr},(x,c)∈cellsFrom n names []→(x,NameKind.cell)∈names:=by
 induction names with
 |nil=>intro n x c h;exact nomatch h
 |cons y r ih=>
  intro n x c h;obtain⟨y,k⟩:=y;simp only[cellsFrom] at h
  induction q:k==NameKind.cell using bC with
  |true=>
   rw[q,iP rfl,dQ] at h;rcases Qh.mp h with h|h
   ·exact mM (ih (n+1) h)
   ·have h:=pJ (mA h);refine h.1▸?_;refine(bA q)▸?_;exact mS
  |false=>rw[q] at h;exact mM (ih n h)
theorem m7(names:List (Str×NameKind)):∀ (n:Nat) {x:Str},(x,NameKind.cell)∈names→∃c,(x,c)∈cellsFrom n names []:=by
 induction names with
 |nil=>intro n x h;exact nomatch h
 |cons y r ih=>
  intro n x h;obtain⟨y,k⟩:=y;simp only[cellsFrom];rcases P6.mp h with h|h
  ·have h:=pJ h;rw[←h.1,←h.2,iP (by rfl),dQ];exact⟨n,Tb _ mS⟩
  ·induction k==NameKind.cell using bC with|true=>rw[iP rfl,dQ];exact(ih (n+1) h).imp λc hc=>RL _ hc|false=>exact ih n h
theorem lu{α:Type}{l:List (Str×α)}{x:Str}{c:α}(h:(x,c)∈l):∃c',l.lookup x=some c':=by
 induction l with
 |nil=>exact nomatch h
 |cons y r ih=>
  obtain⟨y,d⟩:=y;rw[QW]
  induction q:x==y using bC with
  |true=>exact⟨d,rfl⟩
  |false=>
   rcases P6.mp h with h|h
   ·rw[(pJ h).1,beq_self_eq_true] at q;exact nomatch q
   ·exact ih h
theorem dX(one:hY sc=true){x:Str}{k:NameKind}:(x,k)∈sc.names↔sc.names.lookup x=some k:=
 ⟨λh=>bA (lA (aA one).2 _ h),mem_of_lookup⟩
theorem dK(one:hY sc=true):sc.kind= .function:=bA (aA (aA one).1).1
theorem pM(one:hY sc=true):sc.isCoroutine=false:=by
 have h:=(aA (aA one).1).2
 induction q:sc.isCoroutine using bC with
 |true=>rw[q] at h;exact dg h|false=>rfl
noncomputable def zE(h:Heap)(a:Addr):Option Ro:=match h.get? a with|none=>some .lent|some _=>none
section
variable {U:Wd} {P:Pt} {E:Aa} {scope Os:Scope} {clo:List (Str×Addr)} {MX:aF} {fz:List Nat}
structure CellsOf(h:Heap)(scope:Scope)(clo cs new:List (Str×Addr)):Prop where
 look:∀n,cs.lookup n=(new.lookup n).or (clo.lookup n)
 cell:∀n c,new.lookup n=some c→scope.names.lookup n=some .cell∧h.IsCell c none
 has:∀n,scope.names.lookup n=some .cell→∃c,new.lookup n=some c
 apart:∀n m c,new.lookup n=some c→new.lookup m=some c→n=m
theorem CellsOf.split{cs new:List (Str×Addr)}(C:CellsOf h scope clo cs new){n:Str}{c:Addr}(e:cs.lookup n=some c):new.lookup n=some c∨clo.lookup n=some c:=by rw[C.look] at e;exact l4 e
theorem CellsOf.free{cs new:List (Str×Addr)}(C:CellsOf h scope clo cs new){n:Str}(e:scope.names.lookup n=some .free):cs.lookup n=clo.lookup n:=by
 rw[C.look]
 induction q:new.lookup n using oA with
 |none=>rfl|some c=>exact nomatch (C.cell n c q).1.symm.trans e
theorem Bk(x:SR U P){s':Shared}(ex:Ext P.s s'){env:Env}{new:List (Str×Addr)}(C:Clo P.L scope clo MX)(CC:CellsOf s'.heap scope clo env.cells new)(nu:∀n c,new.lookup n=some c→P.s.heap.get? c=none)(ss:pg scope Os)(N1:env.scope=Os)(egl:env.globals=mainGlobals)(ebl:env.builtins=builtinsNs)(nl:P.s.heap.get? env.locals=none)(ho:s'.heap.get? env.locals=some o)(hn:Bv o λo_=>none)(hz:fz=[]∨MX=[])(cd:fz≠[]→∃t∈TQ,env.code= .ref t.1∧t.2.2=env.qual++(if fz=[1] then("<genexpr>":Str) else("<lambda>":Str)))(A:Around)(d b:Nat):
 FR ⟨U,A,d,⟨b,fz⟩,env,scope,λa=>a=env.locals∨∃n,new.lookup n=some a⟩ MX (P.L.grow (zE P.s.heap) s'.heap):=
 have T:=x.grow (b:=0) (zE P.s.heap) ex;have lent {a:Addr} {o:Obj} (n:P.s.heap.get? a=none) (h:s'.heap.get? a=some o):(P.L.grow (zE P.s.heap) s'.heap).G a=some (.lent,o):=Lay.grow_new (x.no n) (by delta zE;exact n▸rfl) h
 have kf {n:Str} (h:scope.names.lookup n=some .free):env.kindOf n=some .cell∨env.kindOf n=some .free:=by
  rcases ss.2 n with e|e
  ·exact .inr (by refine(?_:env.scope.names.lookup n=_);rw[N1,e,h])
  ·exact .inl (by refine(?_:env.scope.names.lookup n=_);rw[N1];exact e.2)
 have same {n:Str} {t:NameKind} (h:scope.names.lookup n=some t) (ne:t≠ .free):env.kindOf n=some t:=by
  refine(?_:env.scope.names.lookup n=_);rw[N1];rcases ss.2 n with e|e
  ·rw[e,h]
  ·exact absurd (sJ (h.symm.trans e.1)) ne
 {kind:=by rw[N1];exact ss.1
  gl:=egl
  bl:=ebl
  loc:=.inl rfl
  ft:=λa h=>h.imp id λz4=>ek z4 λn e=>⟨n,(CC.look n).trans (by rw[e];rfl)⟩
  ns:=⟨o,_,lent nl ho,hn,λk v e=>by refine cps λX_ k_=>dR (C.vals k v e) λhk hl z3=>sz z3 λc oc y h1 h2 h3 h4=>k_ ?_;exact⟨hk,.inr ⟨kf hl,c,oc,y,(CC.free hl).trans h1,h2.imp (T.le.i _ _) (λh2=>⟨T.j _ _ h2 id,λz=>hz.elim (λq=>by simp only[q] at z;exact nomatch z) λq=>by rw[q] at e;exact no e⟩),h3,h4.le T.le⟩⟩⟩
  st:=λk hk=>by
   have hs:=hk.2;unfold kK at hs
   induction q:scope.names.lookup (nm k) using oA with
   |none=>rw[q] at hs;exact dg hs
   |some t=>
    rw[q] at hs
    induction t using PySem.NameKind.casesOn with
    |«local»=>exact .inl (same q (by decide))
    |cell=>
     refine cps λX_ k_=>?_;obtain⟨c,hc⟩:=CC.has _ q;refine d7 (CC.cell _ c hc) λo_ z1=>?_;obtain⟨oc,ho,hd⟩:=z1;refine k_ ?_;refine .inr ⟨same q (by decide),λo_=>⟨c,oc,none,(CC.look _).trans (by rw[hc];rfl),.inr ⟨_,hc⟩,lent (nu _ c hc) ho,hd,λy hy=>?_⟩⟩;rcases CC.split hy with e|e
     ·exact CC.apart _ _ c e hc
     ·refine ek (C.lt y c e) λo2 h=>?_;rcases h with h|h<;>exact nomatch (x.no (nu _ c hc)).symm.trans h
    |_=>exact dg hs
  cl:=λn h=>by
   have h:scope.names.lookup n=some .cell∨scope.names.lookup n=some .free:=by
    have h:env.scope.names.lookup n=some .cell∨env.scope.names.lookup n=some .free:=h;rw[N1] at h;rcases ss.2 n with e|e
    ·refine e▸?_;exact h
    ·exact .inr e.1
   rcases h with h|h
   ·obtain⟨c,hc⟩:=CC.has n h;exact⟨c,(CC.look n).trans (by rw[hc];rfl)⟩
   ·obtain⟨c,hc⟩:=C.fr n h;exact⟨c,(CC.free h).trans hc⟩
  lt:=λn c e=>by
   rcases CC.split e with e|e
   ·refine d7 (CC.cell n c e) λo_ z1=>?_;obtain⟨oc,ho,_⟩:=z1;exact⟨oc,.inr (lent (nu n c e) ho)⟩
   ·exact(C.lt n c e).imp λo h=>h.imp (T.le.i _ _) λh=>T.j _ _ h id
  cd:=cd}
theorem Ag(x:SR U P){binds:List (Str×Value)}{NA:Str}{func:Option Addr}{code:Value}{M6:Option Env}{bi:Addr}{Q:Env→Shared→Prop}(one:hY scope=true)(ss:pg scope Os)(C:Clo P.L scope clo MX)(ND:(newEnv scope 0 mainGlobals [] NA func code M6 bi).builtins=builtinsNs)(hz:fz=[]∨MX=[])(cd:fz≠[]→∃t∈TQ,(newEnv scope 0 mainGlobals [] NA func code M6 bi).code= .ref t.1∧t.2.2=NA++(if fz=[1] then("<genexpr>":Str) else("<lambda>":Str)))(h:∀env F P1,env.scope=scope→(∀b,To U b cz P P1)→P1.σ=P.σ→(∀a,F a→P.s.heap.get? a=none)→(∀A d b,FR ⟨U,A,d,⟨b,fz⟩,{env with scope:=Os},scope,F⟩ MX P1.L)→(∀n c,env.cells.lookup n=some c→F c∨clo.lookup n=some c)→
  wpAny M A (forIn binds Q7 λ(y:Str×Value) _=>do storeName env y.1 y.2;pure (Q1 Q7)) (λo_ s'=>Q env s') E P1.s):
 wpAny M A (newFunctionEnv scope mainGlobals clo binds NA func code M6 bi) Q E P.s:=by
 obtain⟨ob,hob⟩:∃ob:Obj,ob={cls:=.type (if M6.isSome then "dict" else "frame"),data:=.dict #[]}:=⟨_,rfl⟩
 have core:∀env,env=newEnv scope P.s.heap.objs.size mainGlobals (cellsFrom (P.s.heap.objs.size+1) scope.names clo) NA func code M6 bi→
  wpAny M A (forIn binds Q7 λy _=>do storeName env y.1 y.2;pure (Q1 Q7)) (λo_ s'=>Q env s') E {P.s with heap:=pushCells (P.s.heap.push ob) scope.names}:=by
  intro env he;have N1:env.scope=scope:=by rw[he];induction M6 using oA<;>rfl
  have O1:env.locals=P.s.heap.objs.size:=by rw[he];induction M6 using oA<;>rfl
  have egl:env.globals=mainGlobals:=by rw[he];induction M6 using oA<;>rfl
  have ebl:env.builtins=builtinsNs:=by rw[he];induction M6 using oA<;>exact ND
  have PX:env.cells=cellsFrom (P.s.heap.objs.size+1) scope.names clo:=by rw[he];induction M6 using oA<;>rfl
  have ecd:env.code=(newEnv scope 0 mainGlobals [] NA func code M6 bi).code:=by rw[he];induction M6 using oA<;>rfl
  have eq:env.qual=NA:=by rw[he];induction M6 using oA<;>rfl
  have ex:Ext P.s {P.s with heap:=pushCells (P.s.heap.push ob) scope.names}:=⟨λ {a o} e=>pushCells_keeps _ _ a o (Ri _ e),rfl,rfl⟩;have ok:=cellsFrom_ok scope.names (P.s.heap.push ob) (P.s.heap.objs.size+1) [] ⟨λo_ o_ hm=>(nomatch hm),Vf⟩ (by simp only[Th];exact nR);rw[Th] at ok
  have nu:∀a,P.s.heap.objs.size≤a→P.s.heap.get? a=_:=λa q=>by
   induction e:P.s.heap.get? a using oA with
   |none=>rfl|some o=>exact absurd (Q9 e) (QQ.mpr q)
  have CC:CellsOf _ scope clo (cellsFrom _ scope.names clo) _:=
   ⟨λn=>by rw[dQ,Uy],λn c e=>⟨(dX one).mp (mV _ _ (mem_of_lookup e)),(ok.empty n c (mem_of_lookup e)).1⟩,
    λn e=>(m7 scope.names (P.s.heap.objs.size+1) ((dX one).mpr e)).elim λc hc=>lu hc,λn m c e e2=>name_of_addr ok.apart (mem_of_lookup e) (mem_of_lookup e2)⟩
  have nuC:=λn c e=>nu c (UM (ok.empty n c (mem_of_lookup e)).2);refine h env (λa=>a=env.locals∨∃n,(cellsFrom (P.s.heap.objs.size+1) scope.names []).lookup n=some a) ⟨P.L.grow (zE P.s.heap) (pushCells (P.s.heap.push ob) scope.names),P.σ,{P.s with heap:=pushCells (P.s.heap.push ob) scope.names}⟩ N1 (λb=>x.grow _ ex) rfl ?_ (λA d b=>?_) λn c q=>?_
  ·rintro a (q|⟨n,q⟩)
   ·rw[q,O1];exact nu _ nR
   ·exact nuC n a q
  ·exact Bk (env:={env with scope:=Os}) x ex C (by rw[PX];exact CC) nuC ss rfl egl ebl (by refine(?_:P.s.heap.get? env.locals=_);rw[O1];exact nu _ nR) (by rw[O1];exact(pushCells_keeps _ _ _ _ (Qr _ (by rw[hob];rfl))))
    (by rw[hob];exact⟨#[],_,rfl,λe he=>absurd he (Array.not_mem_empty _),λo_=>rfl⟩) hz (λq=>by simp only[ecd,eq];exact cd q) A d b
  ·rw[PX] at q;exact(CC.split q).imp (λq=>.inr ⟨n,q⟩) id
 refine wB (wpAny_alloc ?_);refine hob▸?_;refine wB (wpAny_layCells _ (λname kind cells=>by cases hkc:kind==NameKind.cell<;>simp[hkc]) _ _ _ _ ?_);refine(show _=P.s.heap.objs.size+1 from Th ..)▸?_;have core:=core _ rfl
 induction M6 using oA with
 |none=>exact wB (wpAny_mono core (λo_ s' q=>wP q) λo_ o_ z=>z)|some o=>exact wB (wpAny_mono core (λo_ s' q=>wP q) λo_ o_ z=>z)
end
theorem uH{α β:Type}(c:β)(f:α→β→Sem (ForInStep β))(l:List α)(h:∀x∈l,f x c=pure (.yield c)):forIn l c f=pure c:=by
 induction l with
 |nil=>rfl|cons x l ih=>rw[Re,h x mS,pure_bind];exact ih λy hy=>h y (mM hy)
noncomputable def sW(o:Obj):Option FuncData:=match o.data with|.func fd=>some fd|_=>none
theorem wX(h:sW o=some fd):o.data= .func fd:=by
 delta sW at h
 induction hd:o.data using PySem.Data.casesOn with
 |func f=>rw[hd] at h;exact cG _ (sJ h)|_=>rw[hd] at h;exact no h
noncomputable def fieldsOf(o:Obj):Option (Array Value):=match o.data with|.fields vs=>some vs|_=>none
theorem kr{vs:Array Value}(h:fieldsOf o=some vs):o.data= .fields vs:=by
 delta fieldsOf at h
 induction hd:o.data using PySem.Data.casesOn with
 |fields f=>rw[hd] at h;exact cG _ (sJ h)|_=>rw[hd] at h;exact no h
noncomputable def refOf:Value→Option Addr
 |.ref a=>some a|_=>none
theorem xV{v:Value}(h:refOf v=some a):v= .ref a:=by
 induction v using PySem.Value.casesOn with
 |ref b=>exact cG _ (sJ h)|_=>exact no h
noncomputable def strOf:Value→Option Str
 |.str s _=>some s|_=>none
theorem y4{v:Value}{a:Str}(h:strOf v=some a):∃t,v= .str a t:=by
 induction v using PySem.Value.casesOn with
 |str b t=>exact⟨t,cG (UE · t) (sJ h)⟩|_=>exact no h
noncomputable def v4:FuncBody→Option (List PySem.Stmt)
 |.stmts b=>some b|_=>none
theorem uz{v:FuncBody}{a:List PySem.Stmt}(h:v4 v=some a):v= .stmts a:=by
 induction v using PySem.FuncBody.casesOn with
 |stmts b=>exact cG _ (sJ h)|_=>exact no h
noncomputable def fdOf(K:Frag)(k:Nat):Option FuncData:=(K.lookup (uY k)).bind sW
noncomputable def zR(K:Frag)(fd:FuncData):Bool:=((((refOf fd.code).bind (K.lookup ·)).bind fieldsOf).bind λvs=>(vs[1]?).bind strOf)==some fd.qualname
noncomputable def Kp(fz:List Nat)(fd:FuncData):Bool:=fz.isEmpty||TQ.any λt=>fd.code== .ref t.1&&t.2.2==(fd.qualname++".<locals>.")++(if fz=[1] then("<genexpr>":Str) else("<lambda>":Str))
noncomputable def Af(K:Frag)(Fn:Fn)(fd:FuncData):Bool:=Fn.ps.all (λp=>decide (p<NT)&&kK fd.scope (nm p))&&(pS Fn.ps&&(fd.globals==mainGlobals&&(fd.builtins==builtinsNs&&(fd.closure.isEmpty&&(hY fd.scope&&(!fd.scope.isGenerator&&
 (fd.scope.names.all (λy=>y.2 != .free)&&(zR K fd&&Kp Fn.fz fd))))))))
noncomputable def D7(K:Frag)(y:Nat×Fn):Bool:=match fdOf K y.1 with|some fd=>Af K y.2 fd|none=>false
theorem wC(P:Params):(vD.all (D7 (KF P)))=true:=by kernel_rfl
noncomputable def y9(K:Frag)(k:Nat):Option (List S):=(fdOf K k).bind λfd=>(v4 fd.body).map (fW fd.scope)
noncomputable def jB(K:Frag)(k:Nat)(vs:List Value)(S:Setting):Option (List (Str×Value)):=(fdOf K k).bind λfd=>peek K S (bindArgs fd ⟨vs,[]⟩)
noncomputable def args(n:Nat)(f:Nat→Value):List Value:=(Qb n).map f
noncomputable def mu(K:Frag):List (Nat×Fn)→Prop
 |[]=>True|y::r=>(y9 K y.1=some y.2.body∧∀S f,jB K y.1 (args y.2.ps.length f) S=some ((y.2.ps.map nm).zip (args y.2.ps.length f)))∧mu K r
theorem jo{K:Frag}{l:List (Nat×Fn)}{y:Nat×Fn}(h:mu K l)(hy:y∈l):y9 K y.1=some y.2.body∧∀S f,jB K y.1 (args y.2.ps.length f) S=some ((y.2.ps.map nm).zip (args y.2.ps.length f)):=by
 induction l with
 |nil=>exact nomatch hy
 |cons z l ih=>
  rcases P6.mp hy with e|hy
  ·rw[e];exact h.1
  ·exact ih h.2 hy
theorem lI(P:Params):mu (KF P) vD:=by repeat (first|exact trivial|refine Ug ⟨by kernel_rfl,by intro S f;kernel_rfl⟩ ?_)
theorem yg(P:Params)(S:Setting)(a b:Value):jB (KF P) 37000 [a,b] S=some [(nm 6,a),(nm 130,b),(nm 35,.bool false),(nm 115,.none)]:=by kernel_rfl
theorem zk{a:Arg}{p:Nat}{v:Value}(hp:fd.params=⟨[],[a],none,[],[],none,[]⟩)(ha:a.arg=nm p)(hd:fd.defaults= .none)(hk:p=115∨p=133):bindArgs fd ⟨[v],[]⟩=pure [(nm p,v)]:=by
 obtain⟨na,qn,pa,bo,sc,gl,cl,df,kd,dc,pm,an,co,ct,bi⟩:=fd;obtain⟨ar,aa,ap⟩:=a;subst hp ha hd;rcases hk with h|h
 ·subst h;kernel_rfl
 ·subst h;kernel_rfl
structure FnAt(K:Frag)(k:Nat)(Fn:Fn)(fd:FuncData)(bd:List PySem.Stmt):Prop where
 ho:∃o,K.lookup (uY k)=some o∧o.data= .func fd
 chk:Af K Fn fd=true
 body:fd.body= .stmts bd
 bd:fW fd.scope bd=Fn.body
 binds:∀ {vs:List Value} {l:_},(∀S,jB K k vs S=some l)→∀S,peek K S (bindArgs fd ⟨vs,[]⟩)=some l
 full:∀S f,jB K k (args Fn.ps.length f) S=some ((Fn.ps.map nm).zip (args Fn.ps.length f))
theorem we{P:Params}{k:Nat}{Fn:Fn}(h:fnOf k=some Fn):∃fd bd,FnAt (KF P) k Fn fd bd:=by
 have hm:=mem_lookup h;have h1:=lA (wC P) _ hm;refine bu (jo (lI P) hm).1 λfd e1 e2=>eN e2 λbd e2 e3=>?_;unfold D7 at h1;rw[e1] at h1
 exact bu e1 λo e4 e5=>G4 fd bd ⟨⟨o,e4,wX e5⟩,h1,uz e2,e3,λ {vs l} h S=>by have h:=h S;unfold jB at h;rw[e1] at h;exact h,(jo (lI P) hm).2⟩
theorem Dh(vs:List Value):args vs.length (λi=>vs.getD i .none)=vs:=by
 refine UG λi=>?_;delta args
 by_cases h:i<vs.length
 ·simp only[R8,List.getElem?_range h,Qs h];exact cG some (by simp only[List.getD,Qs h];rfl)
 ·rw[RG (by simp only[KE,SD];exact QQ.mp h),RG (QQ.mp h)]
theorem FnAt.all{K:Frag}{k:Nat}{Fn:Fn}{bd:List PySem.Stmt}(fa:FnAt K k Fn fd bd){vs:List Value}(h:vs.length=Fn.ps.length)(S:Setting):peek K S (bindArgs fd ⟨vs,[]⟩)=some ((Fn.ps.map nm).zip vs):=
 fa.binds (λS=>by have:=fa.full S λi=>vs.getD i .none;rwa [←h,Dh] at this) S
structure FdOk(K:Frag)(Fn:Fn)(fd:FuncData):Prop where
 ps:∀p∈Fn.ps,HK fd.scope p
 nd:pS Fn.ps=true
 gl:fd.globals=mainGlobals
 bl:fd.builtins=builtinsNs
 clo:fd.closure=[]
 one:hY fd.scope=true
 gen:fd.scope.isGenerator=false
 fr:∀y∈fd.scope.names,y.2≠ .free
 cod:zR K fd=true
 fz:Fn.fz≠[]→∃t∈TQ,fd.code= .ref t.1∧t.2.2=(fd.qualname++".<locals>.")++(if Fn.fz=[1] then("<genexpr>":Str) else("<lambda>":Str))
theorem oF{a b:Bool}(h:(a&&b)=true):a=true∧b=true:=aA h
theorem Ie{a:Bool}(h:(!a)=true):a=false:=by induction a using bC with|true=>exact dg h|false=>rfl
theorem B3{K:Frag}{Fn:Fn}(h:Af K Fn fd=true):FdOk K Fn fd:=by
 refine cps λX_ k_=>bO h λh2 h=>bO h λh3 h=>bO h λh5 h=>bO h λh6 h=>bO h λh7 h=>bO h λh8 h=>bO h λh9 h=>bO h λh10 h=>bO h λh11 h12=>k_ ?_;refine⟨λp hp=>?_,h3,bA h5,bA h6,TH.mp h7,h8,Ie h9,λy hy=>bne_iff_ne.mp (lA h10 y hy),h11,λne=>?_⟩
 ·exact bO (lA h2 p hp) λa b=>⟨of_decide_eq_true a,b⟩
 ·rcases(UR _ _).mp h12 with q|q
  ·exact absurd (TH.mp q) ne
  ·exact aQ (QX.mp q) λt ht q=>bO q λa b=>sx t ht (bA a) (bA b)
theorem codeRec_of{K:Frag}(X:K.In h)(e:zR K fd=true):h.CodeRec fd.code fd.qualname:=by refine bu (bA e) λvs e e4=>bu e λo e e3=>bu e λa e1 e2=>bu e4 λx e4 e5=>ek (y4 e5) λt e5=>?_;rw[e5] at e4;exact⟨a,o,vs,t,xV e1,X _ _ e2,kr e3,e4⟩
theorem SR.lim{P:Pt}(x:SR U P):P.s.heap.NoLimit:=aQ x.base.lim λmc hn e=>⟨mc,x.ns hn rfl,e⟩
theorem xC{l:List Nat}(h:pS l=true):l.Nodup:=by
 induction l with
 |nil=>exact Sa|cons x r ih=>exact bO h λa b=>TM.mpr ⟨by simpa using a,ih b⟩
theorem zU{k:Nat}{v:V}(e:aE ρ k=none):bT ρ k v=ρ++[(k,v)]:=by
 induction ρ with
 |nil=>rfl
 |cons y r ih=>
  obtain⟨y,u⟩:=y;rw[cQ] at e
  induction q:k==y using bC with
  |true=>rw[q] at e;exact nomatch e
  |false=>rw[q] at e;simp only[tL];rw[(beq_eq_false_iff_ne.mpr λz=>beq_eq_false_iff_ne.mp q z.symm),iN fF,ih e];rfl
theorem kl(a c:aF)(k:Nat):aE (a++c) k=(aE a k).or (aE c k):=Uy
theorem ka(h:sc.kind= .function):pg sc sc:=⟨h,λo_=>.inl rfl⟩
theorem Dp(hf:∀y∈scope.names,y.2≠ .free):Clo L scope [] []:=
 ⟨λn q=>absurd rfl (hf _ (mem_of_lookup q)),λn c q=>(no q),λk v q=>(no q)⟩
noncomputable def xK:List Nat→List V→List Value→List (Nat×V×Value)
 |k::ks,v::vs,x::xs=>(k,v,x)::xK ks vs xs|_,_,_=>[]
theorem sj(ks:List Nat):∀ {vs:List V} {xs:List Value},vs.length=ks.length→vs.length=xs.length→(xK ks vs xs).map (·.1)=ks∧((xK ks vs xs).map λy=>(y.1,y.2.1))=ks.zip vs∧((xK ks vs xs).map λy=>(nm y.1,y.2.2))=(ks.map nm).zip xs:=by
 induction ks with
 |nil=>intro vs xs h h';induction vs using lC with
  |nil=>induction xs using lC with|nil=>exact ou rfl rfl rfl|cons _ _=>exact nn h' rfl
  |cons _ _=>exact nn h rfl
 |cons k ks ih=>intro vs xs h h';induction vs using lC with|nil=>exact nn h rfl|cons v vs=>induction xs using lC with|nil=>exact nn h' rfl|cons x xs=>exact dR (ih (R1 h) (R1 h')) λa b c=>ou (cG (k:: ·) a) (cG ((k,v):: ·) b) (cG ((nm k,x):: ·) c)
theorem rX(ks:List Nat):∀ {vs:List V} {xs:List Value},bQ L vs xs→∀y∈xK ks vs xs,VR L y.2.1 y.2.2:=by
 induction ks with
 |nil=>intro vs xs o_ y hy;induction vs using lC<;>exact nomatch hy
 |cons k ks ih=>
  intro vs xs r y hy
  induction vs using lC with
  |nil=>exact nomatch hy
  |cons v vs=>
   obtain⟨x,t,h,a,q⟩:=r;rw[h] at hy;rcases P6.mp hy with e|hy
   ·refine e▸?_;exact a
   ·exact ih q y hy
theorem lN(ps:List Nat):∀ {args dfl:List V},args.length=ps.length→ia ps args dfl=some (ps.zip args):=by
 induction ps with
 |nil=>intro args dfl h;induction args using lC with|nil=>rfl|cons _ _=>exact nn h rfl
 |cons p ps ih=>intro args dfl h;induction args using lC with|nil=>exact nn h rfl|cons a args=>exact cG (RH ((p,a):: ·)) (ih (R1 h))
structure RoomF(A:Around)(d:Nat):Prop where
 h:A.handled=none
 depth:A.depth+4*d+5<1000
 units:A.units+20*d+24<9900
theorem uf(x:RoomC A (d+1)):RoomF A d:=⟨x.h,by have:=x.depth;exact Qx (by assumption),by have:=x.units;(clear x;exact aZ [_,_] (.h 1 (.a (.a (.a ab (.m 20 (.a ae ai))) (.c 10)) ai) (.c 9900) (.g (.a (.a (.a ab (.m 20 ae)) (.c 24)) ai) (.c 9900))) rfl this)⟩
theorem RoomF.deeper(x:RoomF A d)(env:Env):RoomA (A.deeper env) d:=⟨x.h,by have:=x.depth;refine(?_:A.depth+1+4*d+4<1000);exact aZ [_,_] (.h 1 (.a (.a (.a ab (.m 4 ae)) (.c 5)) ai) (.c 1000) (.g (.a (.a (.a (.a ab ai) (.m 4 ae)) (.c 4)) ai) (.c 1000))) rfl this,by have:=x.units;refine(?_:A.units+3+20*d+20<9900);exact aZ [_,_] (.h 1 (.a (.a (.a ab (.m 20 ae)) (.c 24)) ai) (.c 9900) (.g (.a (.a (.a (.a ab (.c 3)) (.m 20 ae)) (.c 20)) ai) (.c 9900))) rfl this⟩
theorem RoomF.in1(x:RoomF A d):RoomA A.in1 d:=⟨x.h,by have:=x.depth;exact Qx (by assumption),by have:=x.units;refine(?_:A.units+1+20*d+20<9900);exact aZ [_,_] (.h 1 (.a (.a (.a ab (.m 20 ae)) (.c 24)) ai) (.c 9900) (.g (.a (.a (.a (.a ab ai) (.m 20 ae)) (.c 20)) ai) (.c 9900))) rfl this⟩
theorem FR.re{K:Kx}(x:FR K ρ L)(A:Around)(d b:Nat):FR ⟨K.U,A,d,⟨b,K.c.fz⟩,K.env,K.ws,K.F⟩ ρ L:=⟨x.kind,x.gl,x.bl,x.loc,x.ns,x.st,x.cl,x.lt,x.ft,x.cd⟩
theorem iZ{K:Kx}{E:Aa}{Q:Shared→Prop}(l:List (Nat×V×Value)):∀ {ρ:aF} {P:Pt},K.At ρ P→(∀y∈l,HK K.ws y.1)→(∀y∈l,aE ρ y.1=none)→(l.map (·.1)).Nodup→(∀y∈l,VR P.L y.2.1 y.2.2)→
 (∀P',To K.U K.c.b K.F P P'→P.σ=P'.σ→K.At (ρ++l.map λy=>(y.1,y.2.1)) P'→Q P'.s)→
 wpAny (model pw K.U.w) K.A (forIn (l.map λy=>(nm y.1,y.2.2)) Q7 λ(y:Str×Value) _=>do storeName K.env y.1 y.2;pure (Q1 Q7)) (λo_ s'=>Q s') E P.s:=by
 induction l with
 |nil=>intro ρ P p o_ o_ o_ o_ h;exact wP (h P (To.refl p.sr) rfl (by simp only[R6,Qj];exact p))|cons y l ih=>intro ρ P p hw hn nd hv h;rw[Qf,Re];have nd:=TM.mp (show(y.1::l.map (·.1)).Nodup from nd);refine wB (wB ((hZ p (hw y mS) (λo_=>(hn y mS)) (hv y mS)).go rfl λP1 x T hb=>wP ?_));rw[zU (hn y mS)] at hb;refine ih (p.toF T hb.2) (λz hz=>hw z (mM hz)) (λz hz=>?_) nd.2 (λz hz=>T.v (hv z (mM hz))) λP2 T2 hs p2=>h P2 (T.trans T2) (S7 hb.1 hs) (by rwa [Qc] at p2);rw[kl,hn z (mM hz),cQ,iN λq:(z.1==y.1)=true=>nd.1 (bA q▸RU hz)];rfl
noncomputable abbrev nC(U:Wd)(d:Nat)(r:Ev):Prop:=∀K:Kx,K.U=U→K.d=d→Snd K r
noncomputable abbrev A0(U:Wd)(d:Nat)(r:Ev):Prop:=∀K:Kx,K.U=U→K.d=d→K.ws=K.env.scope→SndS K r
section
variable {U:Wd} {P:Pt} {d:Nat} {r:Ev} {A:Around} {E:Aa}
theorem u8(S:A0 U d r){k:Nat}{Fn1:Fn}{bd:List PySem.Stmt}{vs:List Value}{l:List (Nat×V×Value)}{fl:Fl}{v0:V}{ρ':aF}{σ2:aq}(room:RoomF A d)(x:SR U P)(fa:FnAt (KF U.w.params) k Fn1 fd bd)(hl:l.map (·.1)=Fn1.ps)(hv:∀y∈l,VR P.L y.2.1 y.2.2)(hb:∀S,peek (KF U.w.params) S (bindArgs fd ⟨vs,[]⟩)=some (l.map λy=>(nm y.1,y.2.2))){bb:Nat}(PS:bb≤P.L.N)(e:r.ss ⟨bb,Fn1.fz⟩ (l.map λy=>(y.1,y.2.1)) P.σ Fn1.body=some (fl,ρ',σ2))(hr:oq fl=some v0)(h:∀P2 y,To U bb cz P P2→P2.σ=σ2→VR P2.L v0 y→R (.ok (.ret y)) P2.s):codeAny (model pw U.w) A (.call (.ref (uY k)) ⟨vs,[]⟩) R P.s:=by
 refine aQ fa.ho λo ho hd=>?_;have F:=B3 fa.chk;refine codeAny_call_function (by have:=room.depth;refine(?_:A.depth<1000);exact aZ [_,_] (.h 1 (.a (.a (.a ab (.m 4 ae)) (.c 5)) ai) (.c 1000) (.g (.a ab ai) (.c 1000))) rfl this) (x.k _ _ ho) hd (pM F.one) F.gen fa.body (codeRec_of x.k F.cod) (kp_binds x.k hb _ _ _ _ ?_);simp only[F.gl,F.clo,F.bl];refine Ag x F.one (ka (dK F.one)) (Dp F.fr) rfl (.inr rfl) F.fz λenv Fr P1 N1 T1 NR nu f1 ecl=>?_;rw[show({env with scope:=fd.scope}:Env)=env by rw[←N1]] at f1;refine iZ l (show Kx.At ⟨U,A.in1,d,_,env,fd.scope,Fr⟩ [] P1 from⟨room.in1,nT PS (T1 0).le.n,(T1 0).sr,f1 _ _ _⟩) (λy hy=>F.ps _ (hl▸RU hy)) (λo_ o_=>rfl) (by simp only[hl];exact xC F.nd) (λy hy=>(T1 0).v (hv y hy)) λP2 T2 NL p2=>?_;simp only[←NR,NL] at e;refine⟨p2.sr.lim,codeAny_func (((S ⟨U,A.deeper env,d,⟨bb,Fn1.fz⟩,env,fd.scope,Fr⟩ rfl rfl N1.symm).s bd (⟨room.deeper env,p2.low,p2.sr,p2.fr.re _ _ _⟩)).go (by simp only[N1,fa.bd];exact e) λP3 f T3 hf=>?_)⟩;have TT:To U bb cz P P3:=(T1 bb).past (T2.trans T3) λa o e o_ hF=>nomatch (x.no (nu a hF)).symm.trans e;have Om:_=σ2:=hf.1.symm
 induction fl using Internal.Fl.casesOn with
 |next=>refine(show f=_ from hf.2.2)▸?_;exact h P3 .none TT Om (sJ hr▸rfl)|ret u=>obtain⟨y,hy,hv⟩:=hf.2.2;refine hy▸?_;exact h P3 y TT Om (sJ hr▸hv)|_=>exact no hr
theorem Cw(S:A0 U d r){k:Nat}{args:List V}{vs:List Value}{v:V}(room:RoomC A (d+1))(x:SR U P)(ha:bQ P.L args vs)(e:fD r P.σ (.fn k) args=some (v,σ'))(h:∀P' x,To U P.L.N cz P P'→P'.σ=σ'→VR P'.L v x→Q x P'.s):rR U A (.ref (uY k)) vs Q E P.s:=by
 refine bu e λFn1 hF e=>?_
 induction hc:args.length !=Fn1.ps.length using bC with
 |true=>rw[hc,iP rfl] at e;exact no e
 |false=>
  refine cps λX_ k_=>?_;rw[hc,iN fF] at e;have MZ:args.length=Fn1.ps.length:=by simpa using hc
  refine bu e λρ M3 e=>bu e λz1 e1 e=>?_;obtain⟨fl,ρ',σ2⟩:=z1;refine bu e λv0 e2 e3=>?_;rw[lN _ MZ] at M3;refine ql (we (P:=U.w.params) hF) λfd bd fa=>?_;have hlv:=ha.len;refine dR (sj Fn1.ps MZ hlv) λz1 z2 z3=>?_;rw[←sJ M3,←z2,←x.n] at e1;refine k_ ?_;refine u8 S (uf room) x fa z1 (rX _ ha) (λS=>by simp only[z3];exact fa.all (hlv▸MZ) S) nR e1 e2 λP2 y T hs hy=>?_;subst hs;exact mG x T hy e3 h
end
noncomputable def F1(K:Frag)(y:Nat×Nat):Bool:=makesIn K (d6 y.1)&&(findIn K (.ref (d6 y.1)) "__init__"==some (some (.ref (uY y.2)))&&typeIn K (.ref (uY y.2))==some (.type "function"))
theorem sN(P:Params):pH.all (F1 (KF P))=true:=by kernel_rfl
theorem xF(C:Addr)(rest:List Value):(Code.builtin "type.__call__" ⟨.ref C::rest,[]⟩).weight=1:=by kernel_rfl
theorem AX(C:Addr)(rest:List Value):(Code.builtin "type.__call__" ⟨.ref C::rest,[]⟩).cUnits=1:=by kernel_rfl
noncomputable abbrev FY(s:Shared)(C:Nat):Shared:={s with heap:=(s.heap.push emptyDict).push (instObj (d6 C) s.heap.objs.size)}
section
variable {U:Wd} {P:Pt} {d:Nat} {r:Ev} {A:Around} {E:Aa}
theorem f6(x:SR U P)(C:Nat):To U P.L.N cz P (P.cell (P.s.heap.objs.size+1) (.obj C []) (FY P.s C)):=
 x.newcell (s':=FY P.s C) nR ⟨λe=>Ri _ (Ri _ e),rfl,rfl⟩ λle hg=>by
  have n2:P.s.heap.get? (P.s.heap.objs.size+1)=none:=by
   induction e:P.s.heap.get? (P.s.heap.objs.size+1) using oA with
   |none=>rfl|some o=>exact absurd (Q9 e) (QQ.mpr (R4 _))
  have D2:=Qr (P.s.heap.push emptyDict) (show(instObj (d6 C) P.s.heap.objs.size).isFreed=_ from rfl);rw[Th] at D2;exact⟨_,[],0,(cG _ (iP rfl)).trans (hg _ _ n2 D2),hg _ _ (bS _) (Ri _ (Qr _ rfl)),rfl⟩
theorem Mn{α:Type}{c:Bool}{x:Option α}{v:α}{X:Prop}(e:(if c=true then none else x)=some v)(F:c=false→x=some v→X):X:=by
 induction c using bC with
 |true=>exact no e|false=>exact F rfl e
theorem DF{C:Nat}{v0 v:V}{P2:Pt}{self:Addr}(x:SR U P)(T:To U P.L.N cz P P2)(hs:VR P2.L (.o P.σ.length) (.ref self))(hy:VR P2.L v0 y)(e:Ej C P.σ.length P2.σ v0=some (v,σ'))(h:∀P' x,To U P.L.N cz P P'→P'.σ=σ'→VR P'.L v x→Q x P'.s):y= .none∧Q (.ref self) P2.s:=by
 induction v0 using Internal.V.casesOn with
 |none=>
  refine⟨hy,?_⟩;rcases kX e with⟨_,e⟩|e
  ·have e:=pJ (sJ e);exact h P2 _ T e.2 (e.1▸hs)
  ·exact mG x T hs e h
 |_=>exact no e
theorem A9{self:Value}{args:List V}{vs:List Value}(hl:(args.length==1)=true)(ha:bQ L args vs)(hs:VR L (.o n) self):∃u y,args=[u]∧vs=[y]∧∀z∈[(6,V.o n,self),(130,u,y),(35,.bool false,.bool false),(115,.none,.none)],VR L z.2.1 z.2.2:=by
 induction args using lC with
 |nil=>exact dg hl|cons u us=>induction us using lC with|cons _ _=>exact dg hl|nil=>exact fk ha λy w hw hy hn=>i6 u y rfl (hw.trans (cG _ hn)) λz hz=>(P6.mp hz).elim (λhz=>hz▸hs) λhz=>(P6.mp hz).elim (λhz=>hz▸hy) λhz=>(P6.mp hz).elim (λhz=>hz▸rfl) λhz=>mA hz▸rfl
theorem Bs{k:Nat}{Fn1:Fn}{bd:List PySem.Stmt}{args:List V}{vs:List Value}{self:Value}(hF:fnOf k=some Fn1)(fa:FnAt (KF U.w.params) k Fn1 fd bd)(ha:bQ L args vs)(hs:VR L (.o n) self)(hc:((args.length+1 !=Fn1.ps.length)&& !(k==37000&&args.length==1))=false)(M3:ia Fn1.ps (.o n::args) Fn1.dfl=some ρ):
 ∃l:List (Nat×V×Value),l.map (·.1)=Fn1.ps∧(∀y∈l,VR L y.2.1 y.2.2)∧(l.map λy=>(y.1,y.2.1))=ρ∧∀S,peek (KF U.w.params) S (bindArgs fd ⟨self::vs,[]⟩)=some (l.map λy=>(nm y.1,y.2.2)):=by
 induction Ny:args.length+1 !=Fn1.ps.length using bC with
 |false=>have Ny:=bne_eq_false_iff_eq.mp Ny;have ha1:bQ L (.o n::args) _:=⟨_,_,rfl,hs,ha⟩;rw[lN _ (args:=.o n::args) Ny] at M3;exact dR (sj Fn1.ps (vs:=.o n::args) Ny ha1.len) λz1 z2 z3=>⟨_,z1,rX _ ha1,z2.trans (sJ M3),λS=>z3▸fa.all (ha1.len▸Ny) S⟩|true=>refine cps λX_ k_=>?_;rw[Ny] at hc;refine bO ((Bool.not_eq_false' _).mp hc) λhk hl=>?_;have hk:=bA hk;subst hk;refine fk (A9 hl ha hs) λu y h1 h2 h3=>?_;have hF:=(sJ hF).symm;subst h1 h2 hF;refine k_ ?_;exact GX _ rfl h3 (sJ M3) (λS=>fa.binds (λS=>yg U.w.params S _ _) S)
theorem call_cls(S:A0 U d r){C:Nat}{args:List V}{vs:List Value}{v:V}(room:RoomC A (d+1))(x:SR U P)(ha:bQ P.L args vs)(e:fD r P.σ (.cls C) args=some (v,σ'))(h:∀P' x,To U P.L.N cz P P'→P'.σ=σ'→VR P'.L v x→Q x P'.s):rR U A (.ref (d6 C)) vs Q E P.s:=by
 refine bu e λk hk e=>bu e λF hF e=>Mn e λhc e=>bu e λρ M3 e=>bu e λz e1 e=>bu e λv0 e2 e3=>ql (we (P:=U.w.params) hF) λfd bd fa=>bO (lA (sN U.w.params) _ (mem_lookup hk)) λi1 i2=>bO i2 λi2 i3=>make_core (makes_of x.k i1) (looks_findIn x.k (bA i2)) (λself=>bind_fn x.k self (bA i3)) (.inl rfl) ?_;have hs:VR (P.cell (P.s.heap.objs.size+1) (.obj C []) (FY P.s C)).L (.o P.σ.length) _:=⟨Nat.lt_of_lt_of_eq (SU _) (cG (· +1) x.n.symm),cG Tg (iP x.n.symm).symm⟩;refine gv (Bs hF fa ((f6 x C).vs ha) hs hc M3) λl a1 a2 a3=>?_
 have Pj:RoomF (A.under (.builtin "type.__call__" ⟨.ref (d6 C)::vs,[]⟩)) d:=⟨room.h,by have:=room.depth;refine(?_:A.depth+_+4*d+5<1000);rw[xF];exact aZ [_,_] (.h 1 (.a (.a (.a ab (.m 4 (.a ae ai))) al) ai) (.c 1000) (.g (.a (.a (.a (.a ab ai) (.m 4 ae)) (.c 5)) ai) (.c 1000))) rfl this,by have:=room.units;refine(?_:A.units+_+20*d+24<9900);rw[AX];exact aZ [_,_] (.h 1 (.a (.a (.a ab (.m 20 (.a ae ai))) (.c 10)) ai) (.c 9900) (.g (.a (.a (.a (.a ab ai) (.m 20 ae)) (.c 24)) ai) (.c 9900))) rfl this⟩
 exact u8 S Pj (f6 x C).sr fa a1 a2 a3.2 (σ2:=z.2.2) (R4 _) (by simp only[a3.1,x.n];exact e1) e2
  λP2 y T NL hy=>DF x ((f6 x C).trans T) (T.v hs) hy (NL▸e3) h
theorem v7{cl:List (Str×Addr)}{MX:aF}:∀ {k:Nat} {v:V},wI L cl MX→aE MX k=some v→k∈MX.map (·.1)∧∃c o x,cl.lookup (nm k)=some c∧L.At c o∧o.data= .cell (some x)∧VR L v x:=by
 induction MX with
 |nil=>intro k v o_ e;exact no e
 |cons y MX ih=>
  intro k v r e;obtain⟨j,u⟩:=y;rw[cQ] at e
  induction q:k==j using bC with
  |true=>rw[q] at e;rw[bA q];exact sz r.1 λc o x a1 a2 a3 a4=>⟨mS,c,o,x,a1,a2,a3,sJ e▸a4⟩|false=>rw[q] at e;exact⟨mM (ih r.2 e).1,(ih r.2 e).2⟩
theorem A7(S:nC U d r){ps:List Nat}{body:Internal.E}{MX:aF}{fv:Value}{args:List V}{vs:List Value}{v:V}(room:RoomC A (d+1))(x:SR U P)(hf:VR P.L (.clo ps body MX) fv)(ha:bQ P.L args vs)(e:fD r P.σ (.clo ps body MX) args=some (v,σ'))(h:∀P' x,To U P.L.N cz P P'→P'.σ=σ'→VR P'.L v x→Q x P'.s):rR U A fv vs Q E P.s:=by
 obtain⟨a,o,fd,hfv,ho,hc,OM⟩:=hf;obtain⟨PQ,e⟩:(ps.length==args.length&&DD ps)=true∧(r.e ⟨P.σ.length,[]⟩ (ps.zip args++MX) P.σ body).bind (DQ P.σ)=some (v,σ'):=Ah e;refine bO PQ λMZ hone=>?_
 obtain⟨p,NV,hp⟩:∃p,ps=[p]∧(p=115∨p=133):=by
  rcases(UR _ _).mp hone with q|q
  ·exact⟨_,bA q,.inl rfl⟩
  ·exact⟨_,bA q,.inr rfl⟩
 subst NV
 induction args using lC with
 |nil=>exact dg MZ|cons u us=>
 induction us using lC with
 |cons _ _=>exact dg MZ|nil=>
 obtain⟨y,w,hw,hy,hn⟩:=ha;rw[show w=[] from hn] at hw;subst hw;refine bu e λz3 e1 e2=>?_;obtain⟨v0,σ2⟩:=z3;refine aQ hc.bodyIs λpe hb1 N0=>aQ hc.params λas hp1 PB=>ty hc.sc λsc1 sc2 sc3 sc4=>ty hc.gl λgl1 gl2 gl3 gl4=>IA hc.code λcc co cvs ct NK hco hcd hcn=>hfv▸?_
 induction as using lC with
 |nil=>exact nomatch PB
 |cons a1 as=>
 induction as using lC with
 |cons a2 as=>exact nomatch (QD PB).2
 |nil=>
 refine kla_callFunE (by have:=room.depth;refine(?_:A.depth<1000);exact aZ [_,_] (.h 1 (.a (.a (.a ab (.m 4 (.a ae ai))) al) ai) (.c 1000) (.g (.a ab ai) (.c 1000))) rfl this) (x.g ho) hc.data (pM sc2) sc1 hb1 ⟨cc,co,cvs,ct,NK,x.g hco,hcd,hcn⟩ ?_;refine(zk hp1 (QD PB).1 gl3 hp)▸?_;refine gl1▸?_;refine gl2▸?_;refine wP ?_
 have clo:Clo P.L fd.scope fd.closure MX:=⟨hc.cl.1,λn c q=>(hc.cl.2 n c q).imp λo=>.inl,λk v q=>by obtain⟨hm,c,oc,y,a1,a2,a3,a4⟩:=v7 OM q;exact ou ((hc.fr k hm).1) ((hc.fr k hm).2) ⟨c,oc,y,a1,.inl a2,a3,a4⟩⟩
 refine Ag x sc2 (ka (dK sc2)) clo rfl (.inl rfl) (λne=>absurd rfl ne) λenv Fr P1 N1 T1 NR nu f1 ecl=>?_;rw[show({env with scope:=fd.scope}:Env)=env by exact N1▸rfl] at f1
 have dis:aE MX p=none:=by
  induction q:aE MX p using oA with
  |none=>rfl|some u=>exact nomatch (sc4 p mS).2.symm.trans (hc.fr p (v7 OM q).1).2
 refine iZ [(p,u,y)] (show Kx.At ⟨U,A.in1,d,⟨P.L.N,[]⟩,env,fd.scope,Fr⟩ MX P1 from⟨(uf room).in1,(T1 0).le.n,(T1 0).sr,f1 _ _ _⟩) (λz hz=>?_) (λz hz=>?_) (TM.mpr ⟨Qd,Sa⟩) (λz hz=>?_) λP2 T2 NL p2=>?_
 ·refine(mA hz)▸?_;exact⟨(sc4 p mS).1,by delta kK;exact(sc4 p mS).2▸rfl⟩
 ·refine(mA hz)▸?_;exact dis
 ·rw[mA hz];exact(T1 0).v hy
 have f2:FR ⟨U,A.deeper env,d,⟨P.L.N,[]⟩,env,fd.scope,Fr⟩ ((p,u)::MX) P2.L:=(p2.fr.re _ _ _).congr λk=>by
  refine(?_:aE (MX++[(p,u)]) k=_);simp only[kl,cQ]
  induction q:k==p using bC with
  |true=>refine(bA q)▸?_;refine dis▸?_;rfl|false=>cases aE MX k<;>rfl
 rw[←NR,NL] at e1;simp only[←NR,NL] at e2;refine⟨p2.sr.lim,kla_codeExpr (((S ⟨U,A.deeper env,d,⟨P.L.N,[]⟩,env,fd.scope,Fr⟩ rfl rfl).e pe ⟨(uf room).deeper env,p2.low,p2.sr,f2⟩).go (by simp only[N1,N0,x.n,←NR,NL];exact e1) λP3 y T3 hf=>?_)⟩;have Om:=hf.1;subst Om;rw[←NL,NR] at e2;exact mG x ((T1 _).past (T2.trans T3.wide) λa o e o_ hF=>nomatch (x.no (nu a hF)).symm.trans e) hf.2 e2 h
theorem t6(S:A0 U d r)(SE:nC U d r){f:V}{fv:Value}{args:List V}{vs:List Value}{v:V}(room:RoomC A (d+1))(hb:xQ f=false)(x:SR U P)(hf:VR P.L f fv)(ha:bQ P.L args vs)(e:fD r P.σ f args=some (v,σ'))(Q:Aa)(E:Aa)(h:∀P' x,To U P.L.N cz P P'→P'.σ=σ'→VR P'.L v x→Q x P'.s):rR U A fv vs Q E P.s:=by
 induction f using Internal.V.casesOn with
 |fn k=>rw[show fv=_ from hf];exact Cw S room x ha e h|cls C=>rw[show fv=_ from hf];exact call_cls S room x ha e h|clo ps body MX=>exact A7 SE room x hf ha e h|blt k=>exact nomatch hb
 |_=>exact no e
end
noncomputable def Km(vs:Array Value):Bool:=(vs.getD 18 .none).ctorIdx==6&&((vs.getD 7 .none).ctorIdx==4&&((vs.getD 9 .none).ctorIdx==3&&(vs.getD 10 .none).ctorIdx==4))
theorem isStr{v:Value}(h:(v.ctorIdx==6)=true):∃f t,v= .str f t:=Vt v (bA h) λf t=>⟨f,t,rfl⟩
theorem isInt{v:Value}(h:(v.ctorIdx==4)=true):∃f t,v= .int f t:=Vu v (bA h) λf t=>⟨f,t,rfl⟩
theorem Go{v:Value}(h:(v.ctorIdx==3)=true):∃b,v= .bool b:=Vr v (bA h) λb=>⟨b,rfl⟩
noncomputable def Gh(K:Frag)(t:Addr×Addr×Str):Bool:=match K.lookup t.1 with|some o=>o.cls== .type "code"&&(match fieldsOf o with|some vs=>vs[11]?==some (.ref t.2.1)&&Km vs|none=>false)&&t.1 !=t.2.1|_=>false
theorem Ef(P:Params):(TQ.all (Gh (KF P)))=true:=by kernel_rfl
theorem DV{K:Frag}(X:K.In h)(e:Gh K t=true):CodeHd h t.1 t.2.1:=by
 delta Gh at e
 induction ho:K.lookup t.1 using oA with
 |none=>rw[ho] at e;exact dg e
 |some o=>
  rw[ho] at e;refine bO e λe e3=>bO e λe1 e2=>?_
  induction hf:fieldsOf o using oA with
  |none=>rw[hf] at e2;exact dg e2
  |some vs=>
   rw[hf] at e2
   exact bO e2 λe2 q=>bO q λq1 q=>bO q λq2 q=>bO q λq3 q4=>ql (isStr q1) λf tf q1=>ql (isInt q2) λi ti q2=>ek (Go q3) λb q3=>ql (isInt q4) λj tj q4=>⟨o,vs,f,tf,i,ti,b,j,tj,X _ _ ho,bA e1,kr hf,bA e2,by rw[Array.getD_eq_getD_getElem?,bA e2];rfl,q1,q2,q3,q4,bne_iff_ne.mp e3⟩
theorem AW:(TQ.all λt=>TQ.all λt'=> !(t.2.1==t'.2.1)||t==t')=true:=rfl
theorem nv{a b:Int}{c cv:Value}(l:List Value)(h:TriplesOk l)(e:codeAmong pos (l++[rawInt a,rawInt b,c])=some cv):codeAmong pos l=some cv∨cv=c:=by
 fun_induction TriplesOk l with
 |case1=>exact .inr (fO e).2.symm
 |case2 a' t b' u x rest ih=>
  have e:(if _ then some x else codeAmong pos (rest++_))=_:=e;show(if _ then some x else codeAmong pos rest)=some cv∨_;split at e
  ·rename_i q;rw[iP q];exact .inl e
  ·rename_i q;rw[iN q];exact ih h e
 |case3=>exact h.elim
noncomputable def eY(L:Lay)(q:Str)(cv:Value):Prop:=∃c' co vs tk,cv= .ref c'∧L.At c' co∧co.data= .fields vs∧vs[1]?=some (.str q tk)
theorem eY.le{L':Lay}{q:Str}{cv:Value}(g:L.Le L.N L')(x:eY L q cv):eY L' q cv:=JH x λc' co vs tk e1 e2 r=>⟨c',co,vs,tk,e1,g.i _ _ e2,r⟩
section
variable {U:Wd} {P:Pt} {E:Aa}
theorem zL(x:SR U P)(ht:t∈TQ){ps:Array Value}{i j:Int}{c':Addr}{h':Heap}{tk:Nat}(hP:P.L.G t.2.1=some (.tab,tabObj ps))(NI:TriplesOk ps.toList)(Ox:∀pos cv,codeAmong pos ps.toList=some cv→eY P.L t.2.2 cv)(hx:Um t.2.1 P.s.heap h')(PL:P.s.heap.objs.size≤c')(Oa:h'.CodeRec (.ref c') t.2.2)(hP':h'.get? t.2.1=some (tabObj (ps++#[rawInt i,rawInt j,.ref c']))):
 ∃P',P'.s={P.s with heap:=h',toks:=tk}∧P'.σ=P.σ∧(∀b,To U b cz P P')∧eY P'.L t.2.2 (.ref c'):=by
 refine cps λX_ k_=>?_;obtain⟨L',hL⟩:∃L',L'=(P.L.grow (t5 P.s.heap) h').put t.2.1 .tab (tabObj (ps++#[rawInt i,rawInt j,.ref c'])):=⟨_,rfl⟩
 have ne {a:Addr} {k:Ro} {o:Obj} (e:P.L.G a=some (k,o)) (n:k≠ .tab):a≠t.2.1:=λz=>by simp only[z,hP] at e;exact n (cG Rg (sJ e)).symm
 have put {a:Addr} {y:Ro×Obj} (e:P.L.G a=some y) (n:a≠t.2.1):L'.G a=some y:=hL▸Lay.put_ne n (Lay.grow_old e);have le:P.L.Le P.L.N L':=⟨λa o e=>put e (ne e nofun),λo_ o_=>hL▸rfl,nE (hL▸rfl)⟩;obtain⟨c2,oc,vs,tq,e1,e2,e3,e4⟩:=Oa;injection e1 with e1;subst e1
 have nc:P.s.heap.get? c'=none:=by
  induction e:P.s.heap.get? c' using oA with
  |none=>rfl|some o=>exact absurd (Q9 e) (QQ.mpr PL)
 have out:eY L' t.2.2 _:=⟨c',oc,vs,tq,rfl,hL▸Lay.put_ne (λz=>by simp only[z,x.g hP] at nc;exact no nc.symm) (Lay.grow_new (x.no nc) (by delta t5;exact nc▸rfl) e2),e3,e4⟩;refine k_ ?_
 refine GX ⟨L',P.σ,{P.s with heap:=h',toks:=tk}⟩ rfl rfl (λb=>⟨le,λa o e o_=>put e (ne e nofun),.refl _,⟨x.base,λ {a k o} h=>?_,λa o e q=>put (x.h0 a o e q) (ne (x.h0 a o e q) nofun),λt' OE=>?_,x.gens,x.os,(cG Lay.N hL).trans x.n,
  λn c h=>(x.cells n c h).to le (x.lt h) (x.cells n c h).below λa o e=>put e (ne e nofun)⟩⟩) out
 ·by_cases q:a=t.2.1
  ·simp only[q,(hL▸Lay.put_self)] at h;obtain⟨rfl,rfl⟩:=pJ (sJ h);simp only[q];exact hP'
  ·have h:((P.L.grow (t5 P.s.heap) h').put t.2.1 .tab (tabObj (ps++#[rawInt i,rawInt j,.ref c']))).G a=some (k,o):=hL▸h;have h:=(iN q).symm.trans h;exact(Lay.grow_get h).elim (λz=>hx _ _ q (x.g z)) λz=>z.2
 ·by_cases q:t.2.1=t'.2.1
  ·have:=lA (lA AW t ht) t' OE;rw[q,beq_self_eq_true] at this;simp only[←bA this];refine⟨_,(hL▸Lay.put_self),?_,λpos cv e=>?_⟩
   ·simp only[So];exact TriplesOk_snoc _ _ _ _ NI
   ·rw[So] at e;rcases nv _ NI e with e|e
    ·exact(Ox pos cv e).le le
    ·refine e▸?_;exact out
  ·obtain⟨Oj,a1,a2,a3⟩:=x.tabs t' OE;exact⟨Oj,put a1 (λz=>q z.symm),a2,λpos cv e=>eY.le le (a3 pos cv e)⟩
noncomputable abbrev Al(U:Wd)(P:Pt)(q:Str)(Q:Value→Shared→Prop):Prop:=∀P' cv,(∀b,To U b cz P P')→P'.σ=P.σ→eY P'.L q cv→Q cv P'.s
theorem rj(x:SR U P)(ht:t∈TQ){G:Prop}(hQ:Al U P t.2.2 Q)(hit:∀ps cv,P.s.heap.IsCode t.1 t.2.1 ps→codeAmong pos ps.toList=some cv→Q cv P.s→G)(new:∀ps,P.s.heap.IsCode t.1 t.2.1 ps→P.s.heap.TableAt t.1 t.2.1 ps→codeAmong pos ps.toList=none→(∀c' h' tk,Um t.2.1 P.s.heap h'→P.s.heap.objs.size≤c'→c'<h'.objs.size→h'.IsCode t.1 t.2.1 (ps++#[rawInt pos.line,rawInt pos.col,.ref c'])→h'.CodeRec (.ref c') t.2.2→
  h'.TableAt t.1 t.2.1 (ps++#[rawInt pos.line,rawInt pos.col,.ref c'])→(∃P',P.s.heap.objs.size≤P'∧h'.IsCode c' P' #[]∧h'.TableAt c' P' #[])→Q (.ref c') {P.s with heap:=h',toks:=tk})→G):G:=by
 obtain⟨ps,hP,NI,Ox⟩:=x.tabs t ht;have hd:=DV x.k (lA (Ef U.w.params) t ht)
 induction hf:codeAmong pos ps.toList using oA with
 |some cv=>exact hit ps cv (hd.code (x.g hP) NI) hf (hQ P cv (λb=>To.refl x) rfl (Ox pos cv hf))|none=>exact new ps (hd.code (x.g hP) NI) (hd.tab (x.g hP)) hf λc' h' tk hx PL o_ o_ Oa htb o_=>DH (zL x ht (tk:=tk) hP NI Ox hx PL Oa htb.2) λP' h1 h2 h3 h4=>h1▸hQ P' _ h3 h2 h4
theorem im(x:SR U P)(ht:t∈TQ){env:Env}(hc:env.code= .ref t.1){fl:Nat}{name:Str}{p:Arguments}{body:FuncBody}(hQ:Al U P t.2.2 Q):
 wpAny M A (functionCode env pos fl name t.2.2 p scope body) Q E P.s:=
 rj x ht hQ (λps cv h1 h2 h3=>wpAny_functionCode_hit hc h1 h2 h3) λps h1 h2 h3 h4=>wpAny_functionCodeX hc h1 h2 h3 h4
theorem jd(x:SR U P)(ht:t∈TQ){env:Env}(hc:env.code= .ref t.1)(hQ:Al U P t.2.2 Q):wpAny M A (genexprCode env pos t.2.2 scope) Q E P.s:=
 rj x ht hQ (λps cv h1 h2 h3=>wpAny_genexprCode_hit hc h1 h2 h3) λps h1 h2 h3 h4=>wpAny_genexprCodeX hc h1 h2 h3 h4
end
noncomputable def dq(env:Env):List (Str×NameKind)→List (Str×Addr)→List (Str×Addr)
 |[],MQ=>MQ|(n,k)::r,MQ=>if k== .free then dq env r ((n,(env.cells.lookup n).getD 0)::MQ) else dq env r MQ
theorem ml{env:Env}{names:List (Str×NameKind)}:∀ {MQ:List (Str×Addr)} {n:Str} {c:Addr},(n,c)∈dq env names MQ↔(n,c)∈MQ∨((n,NameKind.free)∈names∧c=(env.cells.lookup n).getD 0):=by
 induction names with
 |nil=>intro MQ n c;exact⟨.inl,λh=>h.elim id λh=>nomatch h.1⟩
 |cons y r ih=>
  intro MQ n c;obtain⟨m,k⟩:=y;show(n,c)∈(if _=true then dq env r _ else dq env r MQ)↔_
  induction q:k==NameKind.free using bC with
  |true=>
   rw[iP rfl,ih,P6,P6,bA q];constructor
   ·rintro((h|h)|h)
    ·obtain⟨rfl,rfl⟩:=pJ h;exact .inr ⟨.inl rfl,rfl⟩
    ·exact .inl h
    ·exact .inr ⟨.inr h.1,h.2⟩
   ·rintro(h|⟨h|h,e⟩)
    ·exact .inl (.inr h)
    ·injection h with h;subst h;exact .inl (.inl (cG _ e))
    ·exact .inr ⟨h,e⟩
  |false=>rw[iN fF,ih,P6];refine or_congr Iff.rfl (and_congr ⟨.inr,λh=>h.elim (λh=>?_) id⟩ Iff.rfl);rw[←(pJ h).2] at q;exact nomatch q
theorem nG{env:Env}(h:∀n,(n,NameKind.free)∈scope.names→∃c,env.cells.lookup n=some c):closureFor scope env=pure (dq env scope.names []):=by
 have loop:∀ (names:List (Str×NameKind)) (MQ:List (Str×Addr)),(∀n,(n,NameKind.free)∈names→∃c,env.cells.lookup n=some c)→
  (forIn names MQ λx (r:List (Str×Addr))=>if(x.2==NameKind.free)=true then(do let y ←cellOf env x.1;pure (Q1 ((x.1,y)::r))) else pure (Q1 r):Sem (List (Str×Addr)))=pure (dq env names MQ):=by
  intro names
  induction names with
  |nil=>intro MQ o_;rfl
  |cons y r ih=>
   intro MQ hh;obtain⟨n,k⟩:=y;simp only[Re];show _=pure (if _=true then dq env r _ else dq env r MQ)
   induction q:k==NameKind.free using bC with
   |true=>refine ek (hh n (by simp only[←bA q];exact mS)) λc hc=>?_;rw[iP rfl,iP rfl,show cellOf env n=pure c by delta cellOf;rw[hc],hc];exact ih _ λm hm=>hh m (mM hm)|false=>exact ih _ λm hm=>hh m (mM hm)
 have:=loop scope.names [] h;delta closureFor;simpa only[bind_pure] using this
structure ClosOk(K:Kx)(csc:Scope)(clo:List (Str×Addr)):Prop where
 eq:closureFor csc K.env=pure clo
 fr:∀n,csc.names.lookup n=some .free→clo.lookup n=K.env.cells.lookup n∧∃c,clo.lookup n=some c
 old:∀n c,clo.lookup n=some c→csc.names.lookup n=some .free∧K.env.cells.lookup n=some c
section
variable {K:Kx} {P P':Pt} {ρ:aF} {r:Ev} {pos:Pos} {L:Lay} {csc:Scope}
theorem nS(fb:lM K.env.scope csc=true){n:Str}(h:(n,NameKind.free)∈csc.names):K.env.kindOf n=some .cell∨K.env.kindOf n=some .free:=by
 have h:J8 K.env.scope n=_:=lA fb _ h;delta J8 at h;refine(?_:K.env.scope.names.lookup n=_∨K.env.scope.names.lookup n=_)
 induction q:K.env.scope.names.lookup n using oA with
 |none=>rw[q] at h;exact dg h|some t=>rw[q] at h;induction t using PySem.NameKind.casesOn<;>first|exact .inl rfl|exact .inr rfl|exact dg h
theorem ey(one:hY csc=true)(fb:lM K.env.scope csc=true)(f:FR K ρ L):ClosOk K csc (dq K.env csc.names []):=by
 have has:=λn hn=>f.cl n (nS fb hn)
 have old:∀n c,(dq K.env csc.names []).lookup n=some c→csc.names.lookup n=some .free∧K.env.cells.lookup n=some c:=λn c q=>by
  rcases ml.mp (mem_of_lookup q) with q|⟨q,e⟩
  ·exact nomatch q
  ·obtain⟨c',hc'⟩:=has n q;rw[hc'] at e;exact⟨(dX one).mp q,e▸hc'⟩
 refine⟨nG has,λn q=>?_,old⟩;obtain⟨c,hc⟩:=lu (ml.mpr (.inr ⟨(dX one).mpr q,rfl⟩));exact⟨hc.trans (old n c hc).2.symm,c,hc⟩
theorem mO{k:Nat}(one:hY csc=true)(h:k∈dO csc):k<NT∧csc.names.lookup (nm k)=some .free:=by exact aQ (Rw.mp h) λy hy e=>vO e λq e=>⟨(bx e).1,by simp only[(bx e).2,(dX one).mp hy,bA q]⟩
theorem fM{ρ:aF}{frees:List Nat}{y:Nat×V}(h:y∈bB ρ frees):y.1∈frees∧aE ρ y.1=some y.2:=by refine aQ (Rw.mp h) λx hx e=>eN e λu e1 e2=>e2▸?_;exact⟨hx,e1⟩
theorem lj{clo:List (Str×Addr)}(C:ClosOk K csc clo){k:Nat}{v:V}(one:hY csc=true)(fb:lM K.env.scope csc=true)(f:FR K ρ L)(hk:k∈dO csc)(e:aE ρ k=some v):
 k<NT∧csc.names.lookup (nm k)=some .free∧∃c o x,clo.lookup (nm k)=some c∧(L.At c o∨(L.G c=some (.lent,o)∧k∉K.c.fz))∧o.data= .cell (some x)∧VR L v x:=by
 refine d7 (mO one hk) λhk hl=>fk f.ns λo m o_ o_ hv=>ou hk hl ?_;rw[(C.fr _ hl).1];rcases(hv k v e).2 with q|q
 ·rcases nS fb ((dX one).mpr hl) with z|z<;>exact nomatch q.1.symm.trans z
 ·exact q.2
theorem Fy{cl:List (Str×Addr)}{MX:aF}(h:∀y∈MX,∃c o x,cl.lookup (nm y.1)=some c∧L.At c o∧o.data= .cell (some x)∧VR L y.2 x):wI L cl MX:=by
 induction MX with
 |nil=>exact trivial|cons y MX ih=>exact⟨h y mS,ih λz hz=>h z (mM hz)⟩
theorem p6{ps:List Arg}(h:∀a∈ps,(idOf a.arg).isSome=true):ps.map (·.arg)=(ps.filterMap λa=>idOf a.arg).map nm:=by
 induction ps with
 |nil=>rfl|cons a ps ih=>refine ek (Qz.mp (h a mS)) λk hk=>?_;rw[Qf,List.filterMap_cons,hk,Qf,←(bx hk).2,←ih λz hz=>h z (mM hz)]
theorem SR.top(x:SR K.U P):∃mg ob,P.s.heap.Ns mainGlobals mg∧mg "__builtins__"=some (.ref 4)∧P.s.heap.get? 4=some ob∧ob.cls= .type "module"∧ob.dict=some builtinsNs∧ob.data= .plain:=by refine ek x.base.g λmg Ob=>aQ x.base.bm λob b1 b2=>?_;have Ob:=x.ns Ob rfl;exact Ln mg ob Ob (mg_of x.k Ob (by kernel_rfl)) (x.g (x.h0 4 ob b1 rfl)) b2
theorem IG{ps:List Arg}{body:Ac}(p:K.At ρ P):SE K r ρ P (.Lambda ⟨[],ps,none,[],[],none,[]⟩ body Nb pos) (if zb K.env.scope Nb ps then .lam (ps.filterMap λa=>idOf a.arg) (dO Nb) (bn Nb body) else .bad):=by
 induction ok:zb K.env.scope Nb ps using bC with
 |false=>exact .bad|true=>
 refine cps λX_ k_=>bO ok λok NV=>bO ok λok nc=>bO ok λok ng=>bO ok λone fb=>k_ ?_;refine⟨λ {a} e Q E h=>?_⟩;refine cps λX_ k_=>km e λhc e=>bO hc λhc hc4=>bO hc λhc hc3=>bO hc λhc1 OZ=>?_;have OJ:=λk hk=>Q6.mp (lA hc1 k hk)
 have fzne:K.c.fz≠[]:=λq=>by
  induction PM:dO Nb using lC with
  |nil=>rw[PM] at hc3;exact dg hc3|cons k _=>exact nomatch q▸OJ k (by refine PM▸?_;exact mS)
 refine gv (p.fr.cd fzne) λt ht NK hq=>?_;rw[iN λz=>by rw[z] at hc4;exact dg hc4] at hq;have C:=ey one fb p.fr;refine k_ ?_;refine kla_eval rfl ?_;rw[makeFunction_eq];simp only[List.zip_nil_right,List.filterMap_nil,List.isEmpty_nil,if_true,pure_bind];delta makeTail;refine C.eq▸?_;refine p.fr.gl▸?_;refine wB (wP ?_)
 have step:∀ (s1:Shared) (ctv:Value),Ext P.s s1→wpAny (model pw K.U.w) K.A (functionCode K.env pos pos.line "<lambda>" (K.env.qual++"<lambda>") ⟨[],ps,none,[],[],none,[]⟩ Nb (.expr body)) (λcode s2=>wpAny (model pw K.U.w) K.A (builtinsFor mainGlobals K.env.builtins) (λbi s3=>wpAny (model pw K.U.w) K.A (nsGet mainGlobals "__name__") (λnmv s4=>
  wpAny (model pw K.U.w) K.A (newObj (.type "function") (.func {name:="<lambda>",qualname:=K.env.qual++"<lambda>",params:=⟨[],ps,none,[],[],none,[]⟩,body:=.expr body,scope:=Nb,globals:=mainGlobals,closure:=dq K.env Nb.names [],closureTuple:=ctv,code:=code,builtins:=bi,defaults:=.none,kwdefaults:=.none,annotations:=none,pyModule:=nmv.getD .none,doc:=.none})) Q E s4) E s3) E s2) E s1:=by
  intro s1 ctv ex;have T1:=p.sr.ext (b:=K.c.b) (F:=cz) ex;refine hq▸?_;refine im T1.sr ht NK λP2 cv T2 NL out=>?_;have T:=T1.trans (T2 K.c.b);refine LQ (SR.top T.sr) λmg ob Ob hbm b1 b2 b3 b4=>wpAny_builtinsFor Ob hbm (by decide) b1 b2 b3 b4 (wpAny_nsGet Ob (wpAny_newObj_type ?_ (by size_fits)));have T3:=λo=>T.sr.ext (b:=K.c.b) (F:=cz) (Ext.push P2.s o P2.s.toks);refine h (P2.ext _) _ (T.trans (T3 _)) (e▸⟨NL.symm,_,_,_,rfl,T.sr.ext_new (bS _) (Qr _ rfl),⟨rfl,rfl,⟨body,rfl,rfl⟩,⟨ps,rfl,p6 λa ha=>(oF (lA NV a ha)).1⟩,⟨Ie ng,one,λy hy=>bne_iff_ne.mp (oF (lA nc y hy)).1,λq hq'=>?_⟩,λk hk=>?_,⟨λn q=>(C.fr n q).2,λn c q=>?_⟩,⟨rfl,rfl,rfl,rfl⟩,out.le (T3 _).le⟩,Fy λy hy=>?_⟩)
  ·exact aQ (Rw.mp hq') λa ha e=>d7 (bx e) λh1 h2=>⟨h1,by simp only[h2];exact bA (oF (lA NV a ha)).2⟩
  ·exact jz hk λy hy e=>e▸mO one (fM hy).1
  ·refine d7 (C.old n c q) λh1 h2=>?_;have hm:=(dX one).mpr h1;refine ek (Qz.mp (show(idOf n).isSome=_ from(oF (lA nc _ hm)).2)) λk hk=>?_;have OX:k∈dO Nb:=Rw.mpr ⟨_,hm,hk⟩;refine ek (Qz.mp (lA OZ k OX)) λv hv=>dR (lj C one fb p.fr OX hv) λo_ o_ z1=>Jb z1 λc' o x a1 a2 _=>?_;rw[(bx hk).2,q] at a1;obtain rfl:=sJ a1;exact I8 o ((T.trans (T3 _)).le.i _ _ (a2.resolve_right λz=>z.2 (OJ k OX)))
  ·exact d7 (fM hy) λk1 k2=>dR (lj C one fb p.fr k1 k2) λo_ o_ z1=>sz z1 λc o x a1 a2 a3 a4=>Ih c o x a1 ((T.trans (T3 _)).le.i _ _ (a2.resolve_right λz=>z.2 (OJ _ k1))) a3 (a4.le (T.trans (T3 _)).le)
 induction Oz:(dq K.env Nb.names []).isEmpty using bC with
 |false=>refine wB (wpAny_newTextTuple ?_);exact wB (wpAny_mono (step _ _ (Ext.push P.s _ P.s.toks)) (λcode s2 h2=>wB (wpAny_mono h2 (λbi s3 h3=>wB (wpAny_mono h3 (λnmv s4 h4=>wB (wP h4)) λo_ o_ z=>z)) λo_ o_ z=>z)) λo_ o_ z=>z)|true=>exact wB (wP (wB (wpAny_mono (step P.s .none (Ext.refl P.s)) (λcode s2 h2=>wB (wpAny_mono h2 (λbi s3 h3=>wB (wpAny_mono h3 (λnmv s4 h4=>wB (wP h4)) λo_ o_ z=>z)) λo_ o_ z=>z)) λo_ o_ z=>z)))
end
noncomputable def zo(M5:List PySem.Expr)(env:Env):Sem Bool:=forIn M5 true λc r=>if r=true then do let ok ←isTrue c env (eval c env);pure (Q1 ok) else pure (Q1 r)
noncomputable def Eb(elt:PySem.Expr)(MQ:Value)(env:Env):Sem PUnit:=do let _ ←PySem.call (.builtin "list.append") [MQ,←eval elt env]
noncomputable def mQ(e elt:PySem.Expr)(gens:List Comprehension)(k:Nat)(MQ:Value)(env:Env):Sem PUnit:=match gens[k+1]? with
 |some g'=>do
  let x ←eval g'.iter env
  standAt g'.iter.pos
  let x ←if g'.is_async !=0 then foldedIterable g'.iter x else foldedSetIterable g'.iter env x
  let _ ←runOwn (.compStart e (k+1) (←holding [x] (if g'.is_async !=0 then asyncIter x else pyIter x)) MQ env) env
 |none=>Eb elt MQ env
theorem rJ{k:Nat}{MQ:Value}{env:Env}(hg:gens[k]?=some ⟨target,iter,M5,0⟩):
 compTurn (.ListComp elt gens Nb pos) k Nh MQ env=(standAt iter.pos>>=λo_=>pyNext Nh>>=λr=>match r with
  |none=>pure (.done .next)
  |some v=>letOwnedTupleGo target Nh v>>=λo_=>assign target env v>>=λo_=>zo M5 env>>=λok=>if ok=true then mQ (.ListComp elt gens Nb pos) elt gens k MQ env>>=λo_=>again (.compLoop (.ListComp elt gens Nb pos) k Nh MQ env)
   else again (.compLoop (.ListComp elt gens Nb pos) k Nh MQ env)):=by
 delta compTurn;simp only[hg];delta zo mQ Eb;congr 1;funext u;refine(?_:(pyNext Nh>>=_)=_);congr 1;funext o
 induction o using oA with
 |none=>rfl
 |some v=>
  dsimp only;congr 1;funext u1;congr 1;funext u2;congr 1;funext ok
  induction ok using bC with
  |false=>rfl
  |true=>
   induction gens[k+1]? using oA with
   |none=>rfl|some g'=>dsimp only;cases (g'.is_async !=0)<;>simp only[bind_assoc,pure_bind,Sw,if_false,if_true]
section
variable {w:World} {A:Around} {s:Shared} {env:Env} {E:Aa}
theorem xy{k:Nat}{MQ:Value}(hg:gens[k]?=some ⟨target,iter,M5,0⟩)(turn:wpAny (model pw w) A (pyNext Nh) (λo M1=>match o with
  |none=>R (.ok .next) M1
  |some v=>wpAny (model pw w) A (letOwnedTupleGo target Nh v) (λo_ NG=>wpAny (model pw w) A (assign target env v) (λo_ Nd=>wpAny (model pw w) A (zo M5 env) (λok M8=>
   if ok=true then wpAny (model pw w) A (mQ (.ListComp elt gens Nb pos) elt gens k MQ env) (λo_ NN=>codeAny (model pw w) A (.compLoop (.ListComp elt gens Nb pos) k Nh MQ env) R NN) (notedBy (model pw w) A env λe s'=>R (.error e) s') M8
   else codeAny (model pw w) A (.compLoop (.ListComp elt gens Nb pos) k Nh MQ env) R M8) (notedBy (model pw w) A env λe s'=>R (.error e) s') Nd) (notedBy (model pw w) A env λe s'=>R (.error e) s') NG) (notedBy (model pw w) A env λe s'=>R (.error e) s') M1)
  (notedBy (model pw w) A env λe s'=>R (.error e) s') s):codeAny (model pw w) A (.compLoop (.ListComp elt gens Nb pos) k Nh MQ env) R s:=by
 refine codeAny_of_tree ?_;refine(?_:wpAny _ A _ _ _ s);refine wpAny_noted ?_;refine(rJ hg)▸?_;refine wB (wpAny_standAt (wB (wpAny_mono turn (λo M1 NP=>?_) λo_ o_ h'=>h')))
 induction o using oA with
 |none=>exact wP NP
 |some v=>
  refine wB (wpAny_mono NP (λo_ NG N8=>?_) λo_ o_ h'=>h');refine wB (wpAny_mono N8 (λo_ Nd NH=>wB (wpAny_mono NH (λok M8 Nl=>?_) λo_ o_ h'=>h')) λo_ o_ h'=>h')
  induction ok using bC with
  |true=>exact wB (wpAny_mono Nl (λo_ NN OT=>wP ⟨rfl,OT⟩) λo_ o_ h'=>h')|false=>exact wP ⟨rfl,Nl⟩
theorem mK{k:Nat}{MQ:Value}(hg:gens[k]?=some ⟨target,iter,M5,0⟩)(self:∀ {Q:Aa} {E:Aa},Q Nh s→wpAny (model pw w) A (pyIter Nh) Q E s)(h:codeAny (model pw w) A (.compLoop (.ListComp elt gens Nb pos) k Nh MQ env) R s):
 codeAny (model pw w) A (.compStart (.ListComp elt gens Nb pos) k Nh MQ env) R s:=by
 refine codeAny_of_tree ?_;refine(?_:wpAny _ A _ _ _ s);refine wpAny_notedAt ?_;delta compStart;simp only[(show clausesOf (.ListComp elt gens Nb pos)=gens from rfl),hg,Uw];refine wB (wpAny_askSetting ?_);split
 ·first
   |exact wB (wP (wP (Ug rfl h)))|exact wP (Ug rfl h)
 ·refine wB (wpAny_rule ?_);refine wB (wpAny_standAt ?_);exact wB (self (wP (Ug rfl h)))
end
structure IterOk(U:Wd)(T:AP)(Nh:Value)(Oq:PySem.Expr){ι:Type}(nx:aq→ι→Option (Option (V×ι)))(J:Lay→ι→Prop):Prop where
 to:∀ {b F P P' i:_},J P.L i→To U b F P P'→(∀a,T a→¬ F a)→J P'.L i
 next:∀ {A b P i o:_} {Q:Option Value→Shared→Prop} {E:Value→Shared→Prop},SR U P→A.handled=none→J P.L i→nx P.σ i=some o→(o=none→∀P',To U b T P P'→P'.σ=P.σ→Q none P'.s)→
  (∀v i' y s1,o=some (v,i')→(∀ {Q':Unit→Shared→Prop} {E':Value→Shared→Prop},(∀P',To U b T P P'→P'.σ=P.σ→J P'.L i'→VR P'.L v y→Q' () P'.s)→wpAny (model pw U.w) A (letOwnedTupleGo Oq Nh y) Q' E' s1)→Q (some y) s1)→
  wpAny (model pw U.w) A (pyNext Nh) Q E P.s
 self:∀ {A P i:_} {Q:Value→Shared→Prop} {E:Value→Shared→Prop},SR U P→J P.L i→Q Nh P.s→wpAny (model pw U.w) A (pyIter Nh) Q E P.s
theorem iQ(it:Addr)(Oq:Ac):IterOk U (λa=>a=it) (.ref it) Oq ew (λL i=>kD L it i) where
 to:=λx T hT=>x.to T (hT it rfl)
 self:=λ {A P i Q E} x j h=>by
  obtain⟨o,hG,hI⟩:=j;have hI:=hI _ (x.g hG)
  induction i using Internal.ItS.casesOn with
  |fwd l k=>obtain⟨a,_,hit⟩:=hI;exact wpAny_pyIter_listiter hit h|bts bs k=>obtain⟨t,hit⟩:=hI;exact KBw.pyIter_self hit h|rng a n=>exact wpAny_pyIter_rangeiter hI h|bwd l k=>obtain⟨a,_,hit⟩:=hI;exact wpAny_pyIter_revIter hit h
 next:=λ {A b P i o Q E} x hh j e hn hs=>oe x hh j e hn λv i' ho P' y T Nt hi hv=>hs v i' y P'.s ho λ {Q' E'} hQ=>by obtain⟨o,hG,hI⟩:=id hi;exact l7 (hI _ (T.sr.g hG)) (hQ P' T Nt hi hv)
noncomputable abbrev kH:=List V×aF×aq
noncomputable def rP{ι:Type}(nx:aq→ι→Option (Option (V×ι)))(turn:kH→V→Option kH):Nat→ι→kH→Option kH
 |0,_,_=>none|m+1,i,a=>(nx a.2.2 i).bind λo=>match o with|none=>some a|some (x,i')=>(turn a x).bind λa=>rP nx turn m i' a
noncomputable def uN(L:Lay)(D:Addr)(MQ:List V):Prop:=∃vs n,L.G D=some (.lent,{cls:=.type "list",data:=.seq vs.toArray n})∧vs.length≤lim∧bQ L MQ vs
noncomputable abbrev FD(K:Kx)(D:Addr):AP:=λy=>K.F y∨y=D
noncomputable abbrev RC(K:Kx)(D:Addr)(P:Pt)(a:kH)(x:Unit):Prop:=a.2.2=P.σ∧FR K a.2.1 P.L∧uN P.L D a.1
noncomputable abbrev BodyOk(K:Kx)(D:Addr)(W:WP Unit)(body:aF→aq→List V→Option kH):Prop:=∀ {ρ P MQ},K.At ρ P→uN P.L D MQ→SimW K (FD K D) P (RC K D) (body ρ P.σ MQ) W
noncomputable abbrev HD(K:Kx)(e:PySem.Expr)(k:Nat)(Nh MQ:Value):WP Unit:=λQ E s=>codeAny (model pw K.U.w) K.A (.compLoop e k Nh MQ K.env) (λr s'=>match r with|.ok _=>Q () s'|.error e=>E e s') s
section
variable {K:Kx} {P P':Pt} {ρ:aF} {r:Ev} {D:Addr} {U:Wd} {b:Nat} {F:AP}
theorem uN.to{MQ:List V}(x:uN P.L D MQ)(T:To U b F P P')(nf:¬ F D):uN P'.L D MQ:=fk x λvs n h1 h2 h3=>⟨vs,n,T.j _ _ h1 nf,h2,T.vs h3⟩
theorem w9(S:Snd K r)(M5:List Ac):∀ {P:Pt},K.At ρ P→hO K cz P (RE RT) (pC r K.c ρ P.σ (bP K.env.scope M5)) (zo M5 K.env):=by
 delta zo
 induction M5 with
 |nil=>intro P p;exact⟨λe Q E h=>wP (h P true (To.refl p.sr) (sJ e▸⟨rfl,rfl⟩))⟩
 |cons x M5 ih=>
  intro P p;refine⟨λ {a} e Q E h=>?_⟩;refine kF e λv σ1 e1 e=>bu e λt e2 e=>?_;rw[Re];refine wB (wB ((S.t x p).go e1 e2 λP1 T hs=>wP ?_));subst hs
  induction t using bC with
  |true=>exact(ih (p.to T)).go e λP2 x T2 hx=>h P2 x (T.trans T2) hx|false=>dsimp only;rw[uH _ _ M5 λy o_=>rfl];exact wP (h P1 false T (sJ e▸⟨rfl,rfl⟩))
theorem nH(S:Snd K r){k:Nat}(hg:gens[k]?=some ⟨target,iter,M5,0⟩)(tk:mZ K.ws target=true){T:AP}{ι:Type}{nx:aq→ι→Option (Option (V×ι))}{J:Lay→ι→Prop}(I:IterOk K.U T Nh target nx J){body:aF→aq→List V→Option kH}(hbody:BodyOk K D (K.w (mQ (.ListComp elt gens Nb pos) elt gens k (.ref D) K.env)) body)(hTD:¬ T D)(hD:¬ K.F D)(hA:∀a,T a→Apart K a)(m:Nat):∀ {ρ:aF} {P:Pt} {MQ:List V} {i:ι},K.At ρ P→uN P.L D MQ→J P.L i→
 SimW K (λy=>FD K D y∨T y) P (RC K D) (rP nx (λa x=>(bJ K.c a.2.1 a.2.2 (nA K.env.scope target) x).bind λ(ρ,σ)=>(pC r K.c ρ σ (bP K.env.scope M5)).bind λ(b,σ)=>if b then body ρ σ a.1 else some (a.1,ρ,σ)) m i (MQ,ρ,P.σ))
  (HD K (.ListComp elt gens Nb pos) k Nh (.ref D)):=by
 induction m with
 |zero=>intro ρ P MQ i o_ o_ o_;exact .bad
 |succ m ih=>
  intro ρ P MQ i p ac j;refine⟨λ {a} e Q E h=>?_⟩;refine bu e λo e1 e=>xy hg (I.next (b:=K.c.b) p.sr p.room.h j e1 (λhn P1 T1 hs=>?_) λx i' y s1 ho hx=>?_)
  ·subst hn;exact h P1 () (T1.mono λo_=>.inr) (sJ e▸⟨hs.symm,(p.but T1 hA).fr,ac.to T1 hTD⟩)
  ·subst ho;refine hx λP1 T1 hs j1 hv=>cps λX_ k_=>?_;have p1:=p.but T1 hA;refine bu e λa1 e e4=>?_;rw[←hs] at e;refine bu e λz3 e5 e=>?_;obtain⟨ρ2,σ2⟩:=z3;refine bu e λz2 e7 e8=>?_;obtain⟨t,OO⟩:=z2;refine k_ ?_;refine(eW tk p1 hv).go e5 λP2 z T2 hb=>?_;have Nt:=hb.1;subst Nt;have p2:=p1.toF T2 hb.2;refine(w9 S M5 p2).go e7 λP3 tb T3 ht=>?_;have Nt:=ht.1;have htb:t=_:=ht.2;subst Nt htb;have p3:=p2.to T3;have ac3:=((ac.to T1 hTD).to T2 hD).to T3 id;have j3:=I.to (I.to j1 T2 λa t=>(hA a t).1) T3 λo_ o_=>id;have T123:To K.U K.c.b (λy=>FD K D y∨T y) P P3:=(T1.mono λo_=>.inr).trans ((T2.mono λo_ q=>.inl (.inl q)).trans (T3.mono λo_ q=>q.elim))
   induction t using bC with
   |false=>have e8:(MQ,ρ2,P3.σ)=_:=sJ e8;rw[←e8] at e4;exact(ih p3 ac3 j3).go e4 λP4 y T4 hy=>h P4 y (T123.trans T4) hy|true=>refine(hbody p3 ac3).go e8 λP4 z T4 hc=>cps λX_ k_=>?_;obtain⟨acc4,ρ4,σ4⟩:=a1;have Nt:=hc.1;subst Nt;refine k_ ?_;exact(ih (⟨p3.room,nT p3.low T4.le.n,T4.sr,(hc.2.1)⟩) hc.2.2 (I.to j3 T4 λa t q=>q.elim (hA a t).1 λz=>hTD (z▸t))).go e4 λP5 y T5 hy=>h P5 y ((T123.trans (T4.mono λo_=>.inl)).trans T5) hy
end
section
variable {turn:kH→V→Option kH} {n:Nat} {ι:Type} {nx:aq→ι→Option (Option (V×ι))}
theorem uT(xs:List V):∀ {j:ι} {a a':kH},Gives nx xs j→xs.foldlM turn a=some a'→∃m,rP nx turn m j a=some a':=by
 induction xs with
 |nil=>intro j a a' hj e;exact⟨1,by refine(?_:(nx a.2.2 j).bind _=_);rw[hj];exact e⟩|cons x xs ih=>intro j a a' ⟨j',h1,h2⟩ e;refine bu e λa1 e1 e2=>ek (ih h2 e2) λm hm=>⟨m+1,?_⟩;refine(?_:(nx a.2.2 j).bind _=_);rw[h1];refine(?_:(turn a x).bind _=_);refine e1▸?_;exact hm
theorem xj(m:Nat):∀ {k:Nat} {a a':kH},dN turn n m k a=some a'→rP ew turn m (.fwd (.cell n) k) a=some a':=by
 induction m with
 |zero=>intro k a a' e;exact no e
 |succ m ih=>
  intro k a a' e;have e:(match a.2.2[n]? with|some (.list xs)=>(match xs[k]? with|none=>some a|some x=>(turn a x).bind λa=>dN turn n m _ a)|_=>none)=_:=e
  induction hx:a.2.2[n]? using oA with
  |none=>rw[hx] at e;exact no e|some cl=>
  rw[hx] at e
  induction cl using Internal.Cell.casesOn with
  |obj C fs=>exact no e|list xs=>
  refine(?_:(((Lst.cell n).xs a.2.2).map _).bind _=_);simp only[mq hx];have e:(match xs[k]? with|none=>some a|some x=>(turn a x).bind λa=>dN turn n m _ a)=_:=e
  induction hk:xs[k]? using oA with
  |none=>rw[hk] at e;simp only[QI,hk];exact e|some x=>rw[hk] at e;refine bu e λa1 e1 e2=>?_;simp only[QI,P8,hk,e1];exact ih e2
end
section
variable {K:Kx} {r:Ev} {D:Addr}
theorem tQ(S:Snd K r)(hc:sP K.ws gens=true)(hA:Apart K D)(rest:List Comprehension):∀k,gens.drop (k+1)=rest→
 BodyOk K D (K.w (mQ (.ListComp elt gens Nb pos) elt gens k (.ref D) K.env)) (λρ σ MQ=>on r K.c (bn K.env.scope elt) (oV K.env.scope K.ws K.env.scope rest) ρ σ MQ):=by
 induction rest with
 |nil=>
  intro k hk ρ P MQ p ac;have hg:gens[k+1]?=none:=by rw[Qv];exact Rp.mp hk
  refine⟨λ {a} e Q E h=>?_⟩;have e:(if MQ.length<65536 then(r.e K.c ρ P.σ _).map λ(v,σ)=>(MQ++[v],ρ,σ) else none)=_:=e
  by_cases hl:MQ.length<65536
  ·rw[iP hl] at e;refine Mx e λv σ1 e1 e2=>?_;delta mQ;refine hg▸?_;refine wB ((S.e elt p).go e1 λP1 x T1 hx=>?_);refine cps λX_ k_=>?_;have Nt:=hx.1;subst Nt;obtain⟨vs,n,a1,a2,a3⟩:=ac.to T1 id;have MZ:=a3.len;refine k_ ?_;refine wB (append_at (T1.sr.g a1) (λh' hs hD=>wP ?_) (by rw[P7];exact aZ [_,_] (.h 1 ab ae (.h 1 (.a ae ai) (.c 65536) (.g ab (.c 16777216)))) rfl (nE MZ.symm) hl));have T2:=T1.sr.put (b:=K.c.b) (F:=λy=>y=D) (s':={P1.s with heap:=h'}) a1 (.inl rfl) hs hD rfl rfl rfl;refine h _ () ((T1.mono λo_ q=>q.elim).trans (T2.mono λo_=>.inr)) (e2▸⟨rfl,((p.to T1).but T2 λa e=>e▸hA).fr,vs++[x],n+1,?_,?_,(T2.vs a3).append ⟨x,[],rfl,T2.v hx.2,rfl⟩⟩)
   ·rw[←Tv];exact Lay.put_self
   ·simp only[Qa];exact Ry (nE MZ.symm) hl
  ·rw[iN hl] at e;exact no e
 |cons g' rest ih=>
  intro k hk ρ P MQ p ac;obtain⟨t',OC,ifs',as'⟩:=g'
  have hg:gens[k+1]?=some ⟨t',OC,ifs',as'⟩:=by have:=cG (λz=>z[0]?) hk;simpa[Ux] using this
  refine bO (lA hc _ (Un hg)) λha tk=>?_;have ha:as'=0:=bA ha;subst ha
  have N7:gens.drop (k+1+1)=rest:=by
   have:=cG Vq hk
   rwa [UX] at this
  refine⟨λ {a} e Q E h=>?_⟩;refine kF e λi σ1 e1 e2=>?_
  induction i using Internal.It.casesOn with
  |items xs=>
   delta mQ;refine hg▸?_;refine wpAny_mono (wB (wpAny_mono (jH S (Q:=λNh M1=>wpAny (model pw K.U.w) K.A (do let _ ←runOwn (.compStart (.ListComp elt gens Nb pos) (k+1) Nh (.ref D) K.env) K.env) (λo_ s'=>Q () s') E M1) p OC e1 (λn q=>nomatch q) λP1 x T1 hs hI=>?_) (λx M1 hx=>?_) λo_ o_ z=>z)) (λo_ o_ z=>z) λo_ o_ z=>z
   ·refine cps λX_ k_=>?_;obtain⟨it,j,hx,hi,st,hAi,nw⟩:=hI;subst hx;subst hs;obtain⟨m,hm⟩:=uT xs st e2
    have itD:it≠D:=by rintro rfl;obtain⟨vs,n,a1,_⟩:=ac;exact nw _ a1
    refine k_ ?_;refine wB (wpAny_runOwn (mK hg (λ {Q E} q=>(iQ it t').self T1.sr hi q) ?_));exact((nH S hg tk (iQ it t') (ih (k+1) N7) (λq=>itD q.symm) hA.1 (λa e=>e▸hAi) m (p.to T1) (ac.to T1 id) hi).run hm (λo_ s'=>wpAny (model pw K.U.w) K.A (pure Q7) (λo_ s'=>Q () s') E s') (λe s'=>cameBackBy (model pw K.U.w) K.A K.env E e s') λP2 z T2 hc=>wP (h P2 () (T1.past T2 λa o e n q=>q.elim n λz=>nw o (z▸e)) hc))
   ·refine wB (wpAny_standAt ?_);refine wB (wpAny_of_eq ((gL (me S e1)) x) ?_);refine wB (wpAny_holding ?_);exact hx
  |o n=>exact no e2|revLoc n k=>exact no e2
end
noncomputable def JG(xs ys:List V):List V:=(xs.zip ys).map λy=>.t [y.1,y.2]
noncomputable def Eo(xs ys:List V):aq→Nat→Option (Option (V×Nat)):=λo_ k=>some (((xs.zip ys)[k]?).map λy=>(.t [y.1,y.2],k+1))
noncomputable def LI(L:Lay)(it l:Addr)(k:Nat):Prop:=∃o,L.G it=some (.lent,o)∧o.cls= .type "list_iterator"∧o.data= .fields #[.ref l,.int k 0]
noncomputable def Bp(a b:Value):Obj:={cls:=.type "tuple",data:=.seq #[a,b]}
structure ZipJ(z TI TO i1 i2 l1 l2:Addr)(xs ys:List V)(L:Lay)(k:Nat):Prop where
 z:∃o,L.G z=some (.lent,o)∧∀h:Heap,h.get? z=some o→IsZip h z TI TO .none
 ti:L.At TI (Bp (.ref i1) (.ref i2))
 t0:∃a b,L.G TO=some (.lent,Bp a b)
 a1:LI L i1 l1 k
 a2:LI L i2 l2 k
 v1:VR L (.list xs) (.ref l1)
 v2:VR L (.list ys) (.ref l2)
noncomputable abbrev zN(z TO i1 i2:Addr):AP:=λa=>a=z∨a=TO∨a=i1∨a=i2
section
variable {U:Wd} {z TI TO i1 i2 l1 l2:Addr} {xs ys:List V} {k:Nat} {L:Lay} {P:Pt}
theorem LI.at(x:SR U P){it l:Addr}(h:LI P.L it l k):P.s.heap.IsListIter it l k:=aQ h λo h1 h2=>⟨o,x.g h1,h2⟩
theorem ZipJ.lent(j:ZipJ z TI TO i1 i2 l1 l2 xs ys L k):∀a,zN z TO i1 i2 a→∃o,L.G a=some (.lent,o):=by
 rintro a (h|h|h|h)
 ·refine aQ j.z λo q o_=>?_;exact⟨o,h▸q⟩
 ·refine ql j.t0 λo_ o_ q=>?_;exact⟨_,h▸q⟩
 ·obtain⟨o,q,_⟩:=j.a1;exact⟨o,h▸q⟩
 ·obtain⟨o,q,_⟩:=j.a2;exact⟨o,h▸q⟩
theorem tI{es:List Ac}{kk:Nat}(D:ZipApart z TI TO i1 i2 l1 l2)(MZ:xs.length=ys.length):IterOk U (zN z TO i1 i2) (.ref z) (.Tuple es kk pos) (Eo xs ys) (ZipJ z TI TO i1 i2 l1 l2 xs ys) where
 self:=λx j h=>by exact aQ j.z λo q hz=>wpAny_pyIter_zip (hz _ (x.g q)) h
 to:=λj T hT=>
  have keep {a:Addr} {o:Obj} (t:zN z TO i1 i2 a) (e:_=some (Ro.lent,o)):=T.j a o e (hT a t)
  ⟨j.z.imp λo q=>⟨keep (.inl rfl) q.1,q.2⟩,T.le.i _ _ j.ti,j.t0.imp λa=>Ul λb=>keep (.inr (.inl rfl)),j.a1.imp λo q=>⟨keep (.inr (.inr (.inl rfl))) q.1,q.2⟩,j.a2.imp λo q=>⟨keep (.inr (.inr (.inr rfl))) q.1,q.2⟩,j.v1.le T.le,j.v2.le T.le⟩
 next:=λ {A b P k o Q E} x hh j e hn hs=>by
  refine cps λX_ k_=>aQ j.z λoz qz hz=>?_;have hz:=hz _ (x.g qz);refine ql j.t0 λa b' hTO=>gv (er x (l:=.fix xs) j.v1 rfl) λus h1 o_ r1=>gv (er x (l:=.fix ys) j.v2 rfl) λvs h2 o_ r2=>?_;have e:=sJ e;refine k_ ?_
  induction hx:(xs.zip ys)[k]? using oA with
  |none=>
   rw[hx] at e
   have Pn:us.toArray[k]?=none:=by have:=r1.len;rw[Qv,TL] at hx;rw[QA,Qv];lia
   exact wpAny_pyNext_zip_end hh D hz (x.g j.ti) (x.g hTO) (j.a1.at x) (j.a2.at x) h1 h2 (.inl Pn) λh' hk=>hn e.symm _ (x.upd j.lent (s':={P.s with heap:=h'}) (λc o n q=>hk c o (λz=>n (.inl z)) (λz=>n (.inr (.inl z))) (λz=>n (.inr (.inr (.inl z)))) (λz=>n (.inr (.inr (.inr z)))) q) x.gens rfl) rfl
  |some y=>
   refine cps λX_ k_=>?_;rw[hx] at e;obtain⟨Pn,O5⟩:=List.getElem?_zip_eq_some.mp hx;refine aQ (r1.get Pn) λy1 hy1 hr1=>aQ (r2.get O5) λy2 hy2 On=>k_ ?_;refine wpAny_pyNext_zip_item D hz (x.g j.ti) (x.g hTO) (j.a1.at x) (j.a2.at x) h1 h2 (by rw[QA];exact hy1) (by rw[QA];exact hy2) λh' c1 c2 c3 c4 c5 c6 hk=>hs _ _ _ {P.s with heap:=h'} e.symm λ {Q' E'} hQ=>wpAny_letOwnedTupleGo_zip c1 λh'' hz'' hs''=>cps λX_ k_=>?_;have hx:=hs''.extBut;have T:=x.upd (b:=b) j.lent (s':={P.s with heap:=h''}) (λc o n q=>hx _ _ (λz=>n (.inl z)) (hk c o (λz=>n (.inl z)) (λz=>n (.inr (.inl z))) (λz=>n (.inr (.inr (.inl z)))) (λz=>n (.inr (.inr (.inr z)))) q)) x.gens rfl;obtain⟨o3,p3,q3⟩:=c3;obtain⟨o4,p4,q4⟩:=c4
   have nz:¬ zN z TO i1 i2 P.s.heap.objs.size:=λt=>by obtain⟨o,e⟩:=j.lent _ t;exact nomatch (x.no (bS _)).symm.trans e
   refine k_ ?_
   refine hQ _ T rfl ⟨⟨_,Lay.upd_lent (.inl rfl) hz'',λh q=>q⟩,T.le.i _ _ j.ti,⟨_,_,Lay.upd_lent (.inr (.inl rfl)) (hx _ _ D.TOz c2)⟩,⟨o3,Lay.upd_lent (.inr (.inr (.inl rfl))) (hx _ _ D.i1z p3),q3⟩,⟨o4,Lay.upd_lent (.inr (.inr (.inr rfl))) (hx _ _ D.i2z p4),q4⟩,j.v1.le T.le,j.v2.le T.le⟩
    ⟨_,Bp y1 y2,[y1,y2],rfl,(iN nz).trans (Lay.grow_new (x.no (bS _)) (by delta t5;rw[bS]) (hx _ _ (λz=>nz (.inl z)) c5)),⟨(by decide:2≤lim),0,rfl⟩,y1,_,rfl,hr1.le T.le,y2,_,rfl,On.le T.le,rfl⟩
end
noncomputable def KD(K:Kx)(Oq:PySem.Expr)(P:Pt)(i:It)(σ':aq)(Q:Value→Shared→Prop):Prop:=∀P' Nh (T:AP) (ι:Type) (nx:aq→ι→Option (Option (V×ι))) (J:Lay→ι→Prop) (j:ι),To K.U K.c.b cz P P'→P'.σ=σ'→(∀a,T a→Apart K a∧(∀o,P.L.G a≠some (.lent,o))∧∃o,P'.s.heap.get? a=some o)→
 IterOk K.U T Nh Oq nx J→J P'.L j→(∀turn (a a':kH),a.2.2=σ'→iF turn i a=some a'→∃m,rP nx turn m j a=some a')→Q Nh P'.s
section
variable {K:Kx} {P P':Pt} {ρ:aF} {r:Ev}
theorem uI(S:Snd K r)(p:K.At ρ P)(pe Oq:Ac){tup:Bool}(e:ms r K.c ρ P.σ (bn K.env.scope pe) tup=some (i,σ'))(ht:tup=true→∃es k pos,Oq= .Tuple es k pos)(hl:∀n,i= .o n→∃xs,σ'[n]?=some (.list xs)){E}(h:KD K Oq P i σ' Q):wpAny (model pw K.U.w) K.A (eval pe K.env) (λx M1=>wpAny (model pw K.U.w) K.A (pyIter x) Q E M1) E P.s:=by
 have plain (e:eQ r K.c ρ P.σ (bn K.env.scope pe)=some (i,σ')):wpAny (model pw K.U.w) K.A (eval pe K.env) (λx M1=>wpAny (model pw K.U.w) K.A (pyIter x) Q E M1) E P.s:=
  jH S p pe e hl λP' x T hs z3=>LS z3 λit j hx hi st hA nw=>by
   subst hx;refine h P' (.ref it) (λa=>a=it) ItS ew _ j T hs (λa t=>⟨t▸hA,t▸nw,?_⟩) (iQ it Oq) hi λturn a a' ha hf=>?_
   ·obtain⟨o,hG,_⟩:=hi;exact⟨o,t▸T.sr.g hG⟩
   ·induction i using Internal.It.casesOn with
    |items xs=>exact uT xs st hf|o n=>
     have hf:(match a.2.2[n]? with|some (.list xs)=>dN turn n _ 0 a|_=>none)=_:=hf;refine(show j=_ from st)▸?_
     induction hx:a.2.2[n]? using oA with
     |none=>rw[hx] at hf;exact no hf
     |some cl=>
      rw[hx] at hf
      induction cl using Internal.Cell.casesOn with
      |obj C fs=>exact no hf|list xs=>exact⟨_,xj _ hf⟩
    |revLoc n k=>exact no hf
 delta ms at e
 induction vj K.env.scope pe using Internal.SrcP.casesOn with
 |one x p0 q a k h1 hx es=>
  have e2:=e;rw[es] at e2
  by_cases k1:k=122
  ·subst k1;exact plain (by rw[es];exact e2)
  by_cases k2:k=125
  ·subst k2;exact plain (by refine es▸?_;exact e2)
  ·rw[show dB (.call (.g k) [bn K.env.scope a])= .val (.call (.g k) [bn K.env.scope a]) from(iN λz=>k1 (bA z)).trans (iN λz=>k2 (bA z)),←es] at e2;exact plain e2
 |two x p0 q a b k h1 hx es=>
  by_cases k2:k=174
  case neg=>
   have e2:=e;rw[es] at e2
   by_cases k1:k=125
   ·subst k1;exact plain (by rw[es];exact e2)
   ·rw[show dB (.call (.g k) [bn K.env.scope a,bn K.env.scope b])= .val (.call (.g k) [bn K.env.scope a,bn K.env.scope b]) from(iN λz=>k1 (bA z)).trans (iN λz=>k2 (bA z)),←es] at e2;exact plain e2
  subst k2;rw[es] at e
  induction tup using bC with
  |false=>exact no e|true=>
  refine cps λX_ k_=>LN (ht rfl) λtes kk tpos ht=>?_;subst ht;refine kF e λu σ1 e1 e=>bu e λz1 e2 e=>?_;obtain⟨v,σ2⟩:=z1;subst h1;refine k_ ?_
  induction u using Internal.V.casesOn with
  |list xs=>
   induction v using Internal.V.casesOn with
   |list ys=>
    refine km e λMZ e=>?_;have MZ:=bA MZ;have e:=pJ e;refine gO S p hx (C7 _) (zy e1 e2) λP2 zs T hs hzs=>?_;obtain⟨z1,w,hw,hv1,z2,w2,hw2,hv2,hn⟩:=hzs;simp only[hw,hw2,show w2=[] from hn];refine cps λX_ k_=>?_;have hv1':=hv1;have hv2':=hv2;obtain⟨l1,o1,us,q1,a1,a2,a3⟩:=hv1';obtain⟨l2,o2,vs,q2,b1,b2,b3⟩:=hv2';subst q1 q2;have g1:=T.sr.g a1;have g2:=T.sr.g b1;refine k_ ?_;refine call_zip_2 ⟨o1,g1,a2.list.2⟩ ⟨o2,g2,b2.list.2⟩ λh' hz hTI hTO PJ hi2 Pq hk=>cps λX_ k_=>?_
    have nu:∀a,P2.s.heap.objs.size≤a→P2.s.heap.get? a=_:=λa q=>by
     induction e:P2.s.heap.get? a using oA with
     |none=>rfl|some o=>exact absurd (Q9 e) (QQ.mpr q)
    have nuT:∀a,zN (P2.s.heap.objs.size+4) (P2.s.heap.objs.size+3) P2.s.heap.objs.size (P2.s.heap.objs.size+1) a→P2.s.heap.get? a=_:=λa t=>nu a (by rcases t with t|t|t|t<;>simp only[t]<;>omega);obtain⟨ro,hro⟩:∃ro:Addr→Option Ro,ro=λa=>if a=P2.s.heap.objs.size+2 then some .imm else some .lent:=⟨_,rfl⟩
    have T2:=T.sr.grow (b:=K.c.b) (F:=cz) (s':={P2.s with heap:=h'}) ro ⟨λ {a o}=>hk a o,rfl,rfl⟩;have lent {o:Obj} (k:Nat) (ne:k≠2) (e:h'.get? (P2.s.heap.objs.size+k)=some o):(P2.L.grow ro h').G (P2.s.heap.objs.size+k)=some (.lent,o):=Lay.grow_new (T.sr.no (nu _ (SW _ k))) (by rw[hro];exact iN λq=>ne (Nat.add_left_cancel q)) e;obtain⟨oi,pi,qi⟩:=PJ;obtain⟨oj,pj,qj⟩:=hi2
    have J:ZipJ (P2.s.heap.objs.size+4) _ _ P2.s.heap.objs.size _ l1 l2 xs ys _ 0:=
     ⟨⟨_,lent 4 (by decide) hz,λh q=>q⟩,Lay.grow_new (T.sr.no (nu _ (SW _ 2))) (by rw[hro];exact iP rfl) hTI,⟨_,_,lent 3 (by decide) hTO⟩,⟨oi,lent 0 (by decide) pi,qi⟩,⟨oj,lent 1 (by decide) pj,qj⟩,hv1.le T2.le,hv2.le T2.le⟩
    refine k_ ?_;refine wpAny_pyIter_zip hz (h _ (.ref (P2.s.heap.objs.size+4)) _ Nat (Eo xs ys) _ 0 (T.trans T2) (hs.symm.trans e.2) (λa t=>⟨(p.to T).apart (nuT a t),λo q=>(nomatch (T.sr.no (nuT a t)).symm.trans (T.j _ _ q id)),?_⟩) (tI (zipApart_new (Q9 g1) (Q9 g2)) MZ) J λturn a a' o_ hf=>?_)
    ·refine ek (J.lent a t) λo q=>?_;exact⟨o,T2.sr.g q⟩
    ·rw[←e.1] at hf;exact uT (JG xs ys) (iq (l:=xs.zip ys) (mk:=id) (λσ k=>rfl) _ 0 rfl) hf
   |_=>exact no e
  |_=>exact no e
 |val es=>rw[es] at e;exact plain e
end
noncomputable abbrev LL(Q:Shared→Prop):Result→Shared→Prop:=λr s'=>match r with|.ok _=>Q s'|.error _=>False
noncomputable def Kl(M:Model)(A:Around)(E:Value→Shared→Prop)(Pg:Option (Value→Sem Unit))(Q:Value→Shared→Prop)(MQ:Value)(C:Addr)(s':Shared):Prop:=match Pg with|none=>sw C s' (Q MQ)|some u=>wpAny M A (u MQ) (λo_ Pi=>sw C Pi (Q .none)) E s'
section
variable {M:Model} {A:Around} {E:Aa} {s:Shared} {env:Env}
theorem mj{e:Ac}{first:Sem Value}{g:Comprehension}{gs:List Comprehension}{cl:List (Str×Addr)}{Pg:Option (Value→Sem Unit)}(Oz:clausesOf e=g::gs)(hs:∀x,foldedSetIterable g.iter env x=pure x)(PR:closureFor scope env=pure cl)(one:hY scope=true)(h:wpAny M A first (λx M1=>wpAny M A (pyIter x) (λit Nd=>wpAny M A (newList []) (λMQ M8=>wpAny M A (newFunctionEnv scope env.globals cl [] env.qual none .none (some env)) (λcenv NN=>
  codeAny M A (.compStart e 0 it MQ {cenv with scope:=cL env.scope scope}) (LL (Kl M A E Pg Q MQ cenv.locals)) NN) E M8) E Nd) E M1) E s):
 wpAny M A (comprehension e scope env pos (newList []) false first Pg) Q E s:=by
 have loc:∀ (l:List _),(∀x∈l,x∈scope.names)→∀x∈l,x.2= .local→(cL env.scope scope).names.lookup x.1=some .local:=λl hl x hx e=>by have h1:=(dX one).mp (hl x hx);simp only[e] at h1;exact lookup_relabel_local h1
 have sub:∀x∈(scope.names.filter λx=>(x.2== .local||x.2== .cell)&&x.1 !=(".0":Str)).reverse,x∈scope.names:=λx hx=>(Qu.mp (QL.mp hx)).1;delta comprehension;refine PR▸?_;refine Oz▸?_;refine wB (wpAny_mono h (λx M1 NP=>?_) λo_ o_ z=>z);refine wB (wpAny_standAt (wB (wpAny_of_eq (hs x) (wB (wpAny_holding (wpAny_mono NP (λit Nd NH=>wpAny_standIf ?_) λo_ o_ z=>z))))));refine wB (wpAny_mono NH (λMQ M8 Nl=>wB (wP (wB (wpAny_mono Nl (λcenv NN OT=>?_) λo_ o_ z=>z)))) λo_ o_ z=>z);dsimp only;refine wpAny_holding (wB (wpAny_attempt (wpAny_holding (wpAny_run (codeAny_mono OT λr s' hr=>?_)))))
 induction r using Except.casesOn with
 |error x=>exact hr.elim
 |ok f=>
  induction Pg using oA with
  |none=>obtain⟨m,hn,hr⟩:=hr;exact wB (wpAny_holding (wpAny_comp_letGo (show scope.kind=_ from dK one) _ s' m (loc _ sub) hn λh' m' PF Px=>wP (hr h' m' PF Px)))|some u=>refine wB (wpAny_rule (wB (wpAny_holding (wpAny_mono hr (λo_ Pi OW=>?_) λo_ o_ z=>z))));obtain⟨m,hn,OW⟩:=OW;refine wB (wpAny_comp_letGo (cenv:={cenv with scope:=cL env.scope scope}) (show scope.kind=_ from dK one) _ Pi m (loc _ λx hx=>?_) hn λh' m' PF Px=>wP (OW h' m' PF Px));exact(Qh.mp hx).elim (λh1=>sub x (Rq h1)) λh1=>sub x (QY h1)
end
theorem uA(sc:Scope)(n:Str)(names:List (Str×NameKind)):(names.map λ(n,k)=>if(k== .free&&sc.kind== .function&&sc.names.lookup n==some .cell) then(n,.cell) else(n,k)).lookup n=names.lookup n∨
 (names.lookup n=some .free∧(names.map λ(n,k)=>if(k== .free&&sc.kind== .function&&sc.names.lookup n==some .cell) then(n,.cell) else(n,k)).lookup n=some .cell):=by
 induction names with
 |nil=>exact .inl rfl
 |cons y r ih=>
  obtain⟨m,k⟩:=y;rw[Qf];dsimp only
  by_cases hc:(k==NameKind.free&&sc.kind== .function&&sc.names.lookup m==some .cell)=true
  ·rw[iP hc,QW,QW]
   induction n==m using bC with
   |true=>exact .inr ⟨cG some (bA (oF (oF hc).1).1),rfl⟩|false=>exact ih
  ·rw[iN hc,QW,QW]
   induction n==m using bC with
   |true=>exact .inl rfl|false=>exact ih
theorem qg{csc:Scope}(one:hY csc=true):pg csc (cL sc csc):=⟨(dK one:csc.kind= .function),λn=>uA sc n csc.names⟩
section
variable {U:Wd} {P:Pt} {b:Nat}
theorem SR.lend(x:SR U P)(hb:b≤P.L.N){D:Addr}{xs:List V}{vs:List Value}(h:P.L.G D=some (.lent,o))(hs:uo "list" o vs)(hr:bQ P.L xs vs):
 ∃P',P'.s=P.s∧P'.σ=P.σ++[.list xs]∧To U b (λa=>a=D) P P'∧VR P'.L (.o P.σ.length) (.ref D):=by
 have ne {a:Addr} {k:Ro} {o:Obj} (e:P.L.G a=some (k,o)) (n:k≠ .lent):a≠D:=λz=>by simp only[z,h] at e;exact n (cG Rg (sJ e)).symm
 obtain⟨L',hL⟩:∃L',L'=({G:=λa=>if a=D then some (.cell P.L.N,o) else P.L.G a,β:=λn=>if n=P.L.N then D else P.L.β n,N:=P.L.N+1}:Lay):=⟨_,rfl⟩;have old {a:Addr} {y:Ro×Obj} (e:P.L.G a=some y) (n:a≠D):L'.G a=some y:=hL▸(iN n).trans e;have PO:L'.G D=some (.cell P.L.N,o):=hL▸iP rfl;have hβ:L'.β P.L.N=D:=hL▸iP rfl;have hN:L'.N=P.L.N+1:=hL▸rfl;have le:P.L.Le P.L.N L':=⟨λa o e=>old e (ne e nofun),λn q=>hL▸iN (Sb q),hN▸R4 _⟩;refine GX ⟨L',P.σ++[.list xs],P.s⟩ rfl rfl ⟨le,λa o e n=>old e n,λb' PU hl n c hn q=>hl n c hn ?_,⟨x.base,λ {a k o'} q=>?_,λa o e t=>old (x.h0 a o e t) (ne (x.h0 a o e t) nofun),λt ht=>(x.tabs t ht).to le λa o e=>old e (ne e nofun),x.gens,x.os,?_,λn c q=>?_⟩⟩ ⟨by simp only[hN,x.n];exact SU _,by refine x.n▸?_;exact cG _ hβ.symm⟩
 ·have q:=q
  rwa [QP (by simp only[←x.n];exact R3 hn (nT PU hb))] at q
 ·by_cases z:a=D
  ·simp only[z,PO] at q;obtain⟨rfl,rfl⟩:=pJ (sJ q);rw[z];exact x.g h
  ·have q:L'.G a=_:=q;rw[hL] at q;exact x.g ((iN z).symm.trans q)
 ·simp only[hN,x.n,Qa];rfl
 ·have q:=q
  by_cases z:n<P.σ.length
  ·rw[QP z] at q;exact(x.cells n c q).to le (x.lt q) (x.cells n c q).below λa o e=>old e (ne e nofun)
  ·simp only[QB (QQ.mp z)] at q
   have hn:n=P.σ.length:=by have:=(Qe.mp q).1;simp at this;exact Qg (aZ [_,_,_] (.h 1 ab (.a ae af) (.h 1 ae aj (.g ab af))) rfl (iW _ _) (nE this)) (SV z)
   subst hn;rw[Rb] at q;simp only[←sJ q,←x.n];exact⟨o,vs,by rw[hβ];exact PO,hs,hr.le le⟩
end
section
variable {K:Kx} {P:Pt} {ρ:aF} {r:Ev}
theorem A2{t:Ac}(q:gq (nA sc t)=true):∃es k pos,t= .Tuple es k pos:=by
 induction t using PySem.Expr.casesOn with
 |Tuple es k pos=>exact Mp es k pos rfl|Name x pp=>have q:gq (match cu sc x with|.v k=>.v k|_=>.bad)=_:=q;rcases dy sc x with h|⟨k,h⟩|⟨k,h⟩<;>(rw[h] at q;exact dg q)
 |Attribute o a pp=>
  induction o using PySem.Expr.casesOn with
  |Name x px=>
   have q:gq (match cu sc x,idOf a with|.v k,some a=>.attr k a|_,_=>.bad)=_:=q;rcases dy sc x with h|⟨k,h⟩|⟨k,h⟩<;>rw[h] at q
   ·exact dg q
   ·cases h2:idOf a<;>(rw[h2] at q;exact dg q)
   ·exact dg q
  |_=>exact dg q
 |_=>exact dg q
theorem om(S:Snd K r)(SA:nC K.U K.d r){csc:Scope}{gs:List Comprehension}{t it:Ac}{v:V}(ok:e9 K.env.scope csc gens=true)(Nw:gens=⟨t,it,M5,0⟩::gs)(p:K.At ρ P)(e:yJ r K.c ρ P.σ (bn (cL K.env.scope csc) elt) (oV K.env.scope csc (cL K.env.scope csc) gens) (dO csc)=some (v,σ')){G:Value→Addr→Shared→Prop}{E:Aa}(h:UseQ K P v σ' λD C P'=>G D C P'.s):
 wpAny (model pw K.U.w) K.A (eval it K.env) (λx M1=>wpAny (model pw K.U.w) K.A (pyIter x) (λNh Nd=>wpAny (model pw K.U.w) K.A (newList []) (λMQ M8=>wpAny (model pw K.U.w) K.A (newFunctionEnv csc K.env.globals (dq K.env csc.names []) [] K.env.qual none .none (some K.env)) (λcenv NN=>codeAny (model pw K.U.w) K.A (.compStart (.ListComp elt gens csc pos) 0 Nh MQ {cenv with scope:=cL K.env.scope csc}) (LL (G MQ cenv.locals)) NN) E M8) E Nd) E M1) E P.s:=by
 refine cps λX_ k_=>bO ok λok NF=>bO ok λone fb=>?_;rw[Nw] at e;refine bu e λz4 e e3=>?_;obtain⟨MQ,ρ1,σ2⟩:=z4;refine bu e λz3 e1 e2=>?_;obtain⟨i,σ1⟩:=z3;refine k_ ?_;refine uI S p it t e1 A2 (λn q=>?_) λP1 Nh T ι nx J j T1 NR hT I hJ run=>?_
 ·subst q;have e2:(match σ1[n]? with|some (.list xs)=>dN _ n _ 0 _|_=>none)=_:=e2
  induction hx:σ1[n]? using oA with
  |none=>rw[hx] at e2;exact no e2
  |some cl=>
   rw[hx] at e2
   induction cl using Internal.Cell.casesOn with
   |obj C fs=>exact no e2|list xs=>exact⟨xs,rfl⟩
 subst NR;have p1:=p.to T1;refine wpAny_newList ?_ (by decide);have T2:=p1.sr.grow (b:=K.c.b) (F:=cz) (s':={P1.s with heap:=P1.s.heap.push {cls:=.type "list",data:=.seq ([]:List Value).toArray}}) (λa=>if a=P1.s.heap.objs.size then some .lent else none) (Ext.push _ _ _);have D2:=Qr P1.s.heap (show({cls:=.type "list",data:=.seq ([]:List Value).toArray}:Obj).isFreed=_ from rfl);have p2:=p1.to T2;have C:=ey one fb p2.fr
 have clo:Clo (P1.L.grow _ (P1.s.heap.push {cls:=.type "list",data:=.seq ([]:List Value).toArray})) csc _ _:=⟨λn q=>(C.fr n q).2,λn c q=>p2.fr.lt n c (C.old n c q).2,λk v q=>by exact d7 (fM (kE q)) λhk hv=>dR (lj C one fb p2.fr hk hv) λa1 a2 z2=>sz z2 λc o x a3 a4 a5 a6=>ou a1 a2 ⟨c,o,x,a3,a4.imp id And.left,a5,a6⟩⟩
 refine p.fr.gl▸?_;refine Ag T2.sr one (qg (sc:=K.env.scope) one) clo p.fr.bl (.inl rfl) (λne=>absurd rfl ne) λcenv Fr P3 N1 T3 Om nu f3 ecl=>?_;refine wP ?_;have nfD:¬ Fr P1.s.heap.objs.size:=λq=>nomatch (nu _ q).symm.trans D2;have aD:Apart ⟨K.U,K.A,K.d,⟨K.c.b,[]⟩,{cenv with scope:=cL K.env.scope csc},csc,Fr⟩ P1.s.heap.objs.size:=⟨nfD,λn c q z=>(ecl n c q).elim (λq=>nfD (z▸q)) λq=>(p1.apart (bS _)).2 n c (C.old n c q).2 z⟩
 have aT:∀a,T a→Apart ⟨K.U,K.A,K.d,⟨K.c.b,[]⟩,{cenv with scope:=cL K.env.scope csc},csc,Fr⟩ a:=λa t=>
  have nF:=λq=>ek ((hT a t).2.2) λo ho=>nomatch (nu a q).symm.trans (Ri _ ho)
  ⟨nF,λn c q z=>(ecl n c q).elim (λq=>nF (z▸q)) λq=>(hT a t).1.2 n c (C.old n c q).2 z⟩
 have hg:gens[0]?=some ⟨t,it,M5,0⟩:=by rw[Nw];rfl
 refine ek (run _ _ _ rfl e2) λm hm=>?_;simp only[show P1.σ=P3.σ from Om.symm] at hm;have p3:Kx.At ⟨K.U,K.A,K.d,⟨K.c.b,[]⟩,{cenv with scope:=cL K.env.scope csc},csc,Fr⟩ _ P3:=⟨p.room,nT p2.low (T3 0).le.n,(T3 0).sr,f3 _ _ _⟩;refine mK hg (λ {Q E} q=>I.self (T3 0).sr (I.to (I.to hJ T2 λo_ o_=>id) (T3 K.c.b) λo_ o_=>id) q) ?_;refine(nH (SA ⟨K.U,K.A,K.d,⟨K.c.b,[]⟩,{cenv with scope:=cL K.env.scope csc},csc,Fr⟩ rfl rfl) hg ((oF (lA NF ⟨t,it,M5,0⟩ (by rw[Nw];exact mS))).2) I (tQ (SA ⟨K.U,K.A,K.d,⟨K.c.b,[]⟩,{cenv with scope:=cL K.env.scope csc},csc,Fr⟩ rfl rfl) NF aD gs 0 (by rw[Nw];rfl)) (λt=>ek ((hT _ t).2.2) λo ho=>nomatch (bS _).symm.trans ho) nfD aT m p3 ((show uN (P1.L.grow (λa=>if a=P1.s.heap.objs.size then some .lent else none) _) P1.s.heap.objs.size [] from⟨[],0,Lay.grow_new (p1.sr.no (bS _)) (iP rfl) D2,RN _,rfl⟩).to (T3 0) id) (I.to (I.to hJ T2 λo_ o_=>id) (T3 K.c.b) λo_ o_=>id)).run hm (λo_ s'=>G (.ref P1.s.heap.objs.size) cenv.locals s') (λo_ o_=>False) λP4 z T4 hc=>cps λX_ k_=>?_;obtain⟨Nt,f4,vs,n,hD,hl,hr⟩:=hc;subst Nt;refine fk f4.ns λoC mC hC hnC o_=>?_;have FC:Fr cenv.locals:=f4.loc;have CD:cenv.locals≠P1.s.heap.objs.size:=λq=>nfD (q▸FC);have OB {a:Addr} {o:Obj} (e:P.L.G a=some (.lent,o)):=T2.j _ _ (T1.j _ _ e id) id
 have fin {F5:AP} {P5:Pt} (T5:To K.U K.c.b (λa=>a=P1.s.heap.objs.size) P4 P5):To K.U K.c.b cz P P5:=(T1.trans (T2.trans (T3 _))).past (T4.trans (T5.mono λa q=>.inl (.inr q))) λa o e o_ q=>by
  rcases q with(q|q)|q
  ·exact nomatch (nu a q).symm.trans (T2.sr.g (OB e))
  ·rw[q] at e;exact nomatch (p1.sr.no (bS _)).symm.trans (T1.j _ _ e id)
  ·exact(hT a q).2.1 o e
 have CP:∀o,P.L.G cenv.locals≠some (.lent,o):=λo e=>nomatch (nu _ FC).symm.trans (T2.sr.g (OB e));have e3:(if ga _=true then some (V.o P4.σ.length,P4.σ++[Cell.list MQ]) else some (.list MQ,P4.σ))=_:=e3;refine k_ ?_
 induction NI:ga (bn (cL K.env.scope csc) elt) using bC with
 |false=>rw[NI,iN fF] at e3;have e3:=pJ (sJ e3);have T5:=T4.sr.put (b:=K.c.b) (F:=λa=>a=P1.s.heap.objs.size) hD (.inr rfl) ⟨rfl,λo_ o_=>rfl⟩ (T4.sr.g hD) rfl rfl rfl;exact(h ⟨P4.L.put P1.s.heap.objs.size .imm {cls:=.type "list",data:=.seq vs.toArray n},P4.σ,P4.s⟩ P1.s.heap.objs.size cenv.locals (fin (F5:=cz) T5) e3.2 (by refine e3.1▸?_;exact⟨_,_,vs,rfl,Lay.put_self,⟨hl,n,rfl⟩,T5.vs hr⟩) (p2.apart (nu _ FC)) CP ⟨oC,mC,Lay.put_ne CD hC,hnC⟩)|true=>rw[NI,iP rfl] at e3;have e3:=pJ (sJ e3);refine DH (T4.sr.lend (b:=K.c.b) (nT p3.low T4.le.n) hD ⟨hl,n,rfl⟩ hr) λP5 hs5 hσ5 T5 hv5=>?_;have:=h P5 _ _ (fin (F5:=cz) T5) (hσ5.trans e3.2) (e3.1▸hv5) (p2.apart (nu _ FC)) CP ⟨oC,mC,(T5.j _ _ hC CD),hnC⟩;exact hs5▸this
end
section
variable {K:Kx} {P P':Pt} {ρ:aF} {r:Ev} {pos cpos:Pos} {csc:Scope} {elt:Ac} {gens:List Comprehension}
theorem qV{C:Addr}{b:Nat}(x:SR K.U P)(hC:∃o m,P.L.G C=some (.lent,o)∧Bv o m){Q:Shared→Prop}(h:∀P2,To K.U b (λa=>a=C) P P2→P.σ=P2.σ→Q P2.s):sw C P.s Q:=by refine ie hC λo m hG hn=>⟨m,hn.ns (x.g hG),λh' m' PF Px=>?_⟩;exact aQ (Bv.of PF) λo' NX o_=>h _ (x.put (s':={P.s with heap:=h'}) hG (.inl rfl) Px NX rfl rfl rfl) rfl
theorem nZ(S:Snd K r){O3:Scope}{elt:Internal.E}{frees:List Nat}{z:V×aq}(NF:sP csc gens=true)(e:yJ r K.c ρ σ elt (oV sc csc O3 gens) frees=some z):∃t it M5 gs,gens=⟨t,it,M5,0⟩::gs∧dT it=true:=by
 induction gens using lC with
 |nil=>exact no e
 |cons g gs=>
  obtain⟨t,it,M5,a⟩:=g;have ha:=bA (oF (lA NF _ mS)).1;subst ha;refine Ml t it M5 gs rfl ?_
  induction it using PySem.Expr.casesOn with
  |Set a b cc=>refine bu e λo_ e o_=>bu e λo_ e o_=>bu (show(r.e K.c ρ σ .bad).bind _=_ from e) λo_ e o_=>?_;rw[S.bad] at e;exact no e|_=>rfl
theorem FP(S:Snd K r)(SA:nC K.U K.d r)(p:K.At ρ P):SE K r ρ P (.ListComp elt gens csc pos) (if e9 K.env.scope csc gens then .comp (bn (cL K.env.scope csc) elt) (oV K.env.scope csc (cL K.env.scope csc) gens) (dO csc) else .bad):=by
 induction ok:e9 K.env.scope csc gens using bC with
 |false=>exact .bad
 |true=>
  refine⟨λ {a} e Q E h=>?_⟩;refine bO ok λok1 NF=>bO ok1 λone fb=>?_;refine KH (nZ S NF e) λt it M5 gs Nw Nu=>?_;subst Nw
  exact mj rfl (gL Nu) (ey one fb p.fr).eq one (om S SA ok rfl p e λP' D C T hs hv hA nl hC=>qV T.sr hC λP2 T2 NL=>h P2 _ (T.past T2 λa o e o_ z=>nl o (z▸e)) ⟨hs.symm.trans NL,T2.v hv⟩)
theorem GE(S:Snd K r)(SA:nC K.U K.d r){v:V}(f:Value→Sem Unit)(p:K.At ρ P)(ok:e9 K.env.scope csc gens=true)(e:ca r K.c ρ P.σ (bn K.env.scope (.ListComp elt gens csc pos))=some (v,σ'))(Q:Shared→Prop)(E:Aa)(h:UseQ K P v σ' (λD C P'=>wpAny (model pw K.U.w) K.A (f D) (λo_ s=>sw C s Q) E P'.s)):wpAny (model pw K.U.w) K.A (evalThenUse (.ListComp elt gens csc pos) K.env f) (λo_ s'=>Q s') E P.s:=by refine bO ok λok1 NF=>bO ok1 λone fb=>?_;have e:ca r K.c ρ P.σ (if e9 K.env.scope csc gens then .comp _ _ _ else .bad)=_:=e;rw[iP ok] at e;refine KH (nZ S NF e) λt it M5 gs Nw Nu=>?_;subst Nw;exact wB (wpAny_mono (mj (Q:=λo_ s'=>Q s') rfl (gL Nu) (ey one fb p.fr).eq one (om S SA ok rfl p e h)) (λo_ s' q=>wP q) λo_ o_ z=>z)
theorem t8{t:Ac}{l:Nat}:∃bb,swapsWith (.ListComp elt gens csc cpos) (some t) l K.env=pure bb∧(bb=true→∃y py,t= .Name y py):=by
 induction t using PySem.Expr.casesOn with
 |Name y py=>exact a7 _ rfl (λo_=>⟨y,py,rfl⟩)|_=>exact a7 false rfl dg
theorem w5(S:SndS K r){t:Ac}(ok:e9 K.env.scope csc gens=true)(tk:mZ K.env.scope t=true)(p:K.At ρ P):
 SS K r ρ P (.Assign [t] (.ListComp elt gens csc cpos) pos) (.a [nA K.env.scope t] (bn K.env.scope (.ListComp elt gens csc cpos))):=by
 refine aQ (t8 (K:=K) (elt:=elt) (gens:=gens) (csc:=csc) (cpos:=cpos) (t:=t) (l:=pos.line)) λbb Ol PE=>?_
 induction bb using bC with
 |false=>exact pI S p tk Ol (fK (λts k p vs k' p' o_ q=>nomatch q) (iT tk)) (λo_ o_=>rfl) (S.e _ p)|true=>refine ql (PE rfl) λy py ht=>?_;subst ht;refine⟨λ {a} e Q E h=>?_⟩;refine kF e λv σ1 e1 e=>kF e λρ2 σ2 e2 e3=>(exec_Assign_Name_used _ _ _ _ Ol)▸?_;refine wB (wpAny_standAt (wB ?_));refine wpAny_mono (S.u (assign (.Name y py) K.env) p ok e1 (λs'=>Q .next s') E λP' D C T hs hv hA nl hC=>?_) (λo_ s' q=>wP q) λo_ o_ z=>z;subst hs;refine(eW (by refine S.ws▸?_;exact tk) (p.to T) hv).go e2 λP2 x T2 hb=>ie hC λo m hG hn=>qV T2.sr ⟨o,m,T2.j _ _ hG hA.1,hn⟩ λP3 T3 Om=>h P3 .next (T.past (F2:=λa=>K.F a∨a=C) ((T2.mono λo_=>.inl).trans (T3.mono λo_=>.inr)) λa o e n q=>q.elim n λz=>nl o (z▸e)) (sJ e3▸⟨S7 hb.1 Om,((p.to T).toF T2 hb.2 |>.but T3 λa e=>e▸hA).fr,rfl⟩)
end
theorem w1{co:Const}{b:Ab}(h:B1 co=some (.bytes b)):co= .bytes b:=by
 induction co using PySem.Const.casesOn with
 |bytes c=>have h:=sJ h;injection h with h;exact cG _ h
 |none=>exact nomatch sJ h
 |bool b=>exact nomatch sJ h
 |int i=>exact nomatch sJ h
 |str s=>exact nomatch sJ h
 |_=>exact no h
theorem CX(P:Params):(fS (KF P) 89 (.builtin "all")&&89 !=2)=true:=by kernel_rfl
theorem Mq(h:pe.ctorIdx=11):∃a b c d,pe= .GeneratorExp a b c d:=PySem.Expr.GeneratorExp.elim pe h λa b c d=>⟨a,b,c,d,rfl⟩
theorem MF(h:pe.ctorIdx=15):∃a b c d,pe= .Compare a b c d:=PySem.Expr.Compare.elim pe h λa b c d=>⟨a,b,c,d,rfl⟩
theorem MH(h:pe.ctorIdx=19):∃a b c,pe= .Constant a b c:=PySem.Expr.Constant.elim pe h λa b c=>⟨a,b,c,rfl⟩
theorem gH{c:Prop}[Decidable c]{x:Internal.E}(h:(if c then e else .bad)=x)(hx:hd x≠0):c∧e=x:=by
 by_cases q:c
 ·rw[iP q] at h;exact⟨q,h⟩
 ·rw[iN q] at h;rw[←h] at hx;exact absurd rfl hx
theorem jl{q}(h:vW e=some q):e= .p q.1 q.2.1 q.2.2:=by induction e using Internal.E.casesOn<;>first|exact no h|exact sJ h▸rfl
theorem Eg{x}(h:vE e=some x):e= .v x:=by induction e using Internal.E.casesOn<;>first|exact no h|exact sJ h▸rfl
theorem DY{t:T}{x}(h:tV t=some x):t= .v x:=by induction t using Internal.T.casesOn<;>first|exact no h|exact sJ h▸rfl
theorem BZ{p}(h:H1 e=some p):∃fz,e= .gen p.1 p.2 fz:=by induction e using Internal.E.casesOn<;>first|exact no h|exact⟨_,by rw[←sJ h]⟩
theorem xG(h:Hx e=true):e= .k (.bytes []):=by
 induction e using Internal.E.casesOn with
 |k k=>induction k using Internal.K.casesOn with
  |bytes b=>induction b using lC with|nil=>rfl|cons _ _=>exact dg h
  |_=>exact dg h
 |_=>exact dg h
theorem y7{o:List PySem.CmpOp}(h:vp (o.map pR)=true):o=[.Eq]:=by
 induction o using lC with
 |nil=>exact dg h
 |cons a l=>induction l using lC with
  |nil=>induction a using PySem.CmpOp.casesOn<;>first|rfl|exact dg h
  |cons b l=>induction a using PySem.CmpOp.casesOn<;>exact dg h
theorem B9{t:Ac}{k:Nat}(h:tV (nA sc t)=some k)(hs:mZ sc t=true)(hc:∀y∈sc.names,y.2≠ .cell):∃y p,t= .Name y p∧idOf y=some k∧sc.names.lookup y=some .local:=by
 induction t using PySem.Expr.casesOn with
 |Name y p=>
  have ht:(match cu sc y with|.v k=>T.v k|_=>.bad)=_:=DY h;rcases dy sc y with hv|⟨k',hv⟩|⟨k',hv⟩
  ·simp only[hv] at ht;exact nomatch ht
  ·simp only[hv] at ht;have hk:k'=k:=by injection ht
   refine i6 y p rfl (hk▸(dE hv).1) ?_
   exact(dE hv).2.resolve_right λq=>q.elim (λq=>hc _ (mem_of_lookup q) rfl) λq=>by have ho:(match sc.names.lookup y with|some .local|some .cell=>true|_=>false)=_:=hs;rw[q] at ho;exact dg ho
  ·simp only[hv] at ht;exact nomatch ht
 |Tuple es kk pp=>exact no h
 |Attribute a b pp=>
  induction a using PySem.Expr.casesOn with
  |Name x px=>
   have ht:(match cu sc x,idOf b with|.v k,some a=>T.attr k a|_,_=>.bad)=_:=DY h;rcases dy sc x with hv|⟨k',hv⟩|⟨k',hv⟩<;>rw[hv] at ht
   ·exact nomatch ht
   ·cases q:idOf b<;>(simp only[q] at ht;exact nomatch ht)
   ·exact nomatch ht
  |_=>exact dg hs
 |_=>exact dg hs
theorem y0{e:Ac}{q x}(h:vW (bn sc e)=some q)(hx:vE q.1=some x)(ho:vp q.2.1=true)(hn:Gg q.2.2=true):
 ∃y px pc n pos,e= .Compare (.Name y px) [.Eq] [.Constant (.bytes []) n pc] pos∧idOf y=some x:=by
 refine K7 (MF (kv (jl h) rfl)) λpl pops prs PW hc=>?_;subst hc;have hl:bn sc pl=q.1:=by injection (gH (jl h) (nofun)).2
 have hops:pops.map pR=q.2.1:=by injection (gH (jl h) (nofun)).2
 have hrs:bP sc prs=q.2.2:=by injection (gH (jl h) (nofun)).2
 have hl:=hl.trans (Eg hx);refine ql (Jt (kv hl rfl)) λyn yp hy=>?_;subst hy;rw[←hrs] at hn
 induction prs using lC with
 |nil=>exact dg hn
 |cons pr prs=>induction prs using lC with|cons _ _=>exact dg hn|nil=>
   have Ow:=xG hn;refine LN (MH (kv Ow rfl)) λco cn cp hco=>?_;subst hco
   have hk:B1 co=some (.bytes []):=by
    have Ow:(match B1 co with|some k=>Internal.E.k k|none=>.bad)=_:=Ow
    induction q:B1 co using oA with
    |none=>rw[q] at Ow;exact nomatch Ow
    |some c=>rw[q] at Ow;injection Ow with Ow;exact cG _ Ow
   refine(w1 hk)▸?_;refine(y7 (hops▸ho))▸?_;exact Mr yn yp cp cn PW rfl ((dE hl).1)
theorem CV{No:Scope}{g}(h:EZ (oV sc No No gens)=some g):∃t it as,gens=[⟨t,it,[],as⟩]∧nA No t=g.1∧bn sc it=g.2:=by
 induction gens using lC with
 |nil=>exact no h
 |cons c cs=>
  obtain⟨t,it,M5,as⟩:=c
  induction cs using lC with
  |cons c cs=>obtain⟨t2,it2,ifs2,as2⟩:=c;induction M5 using lC<;>exact no h|nil=>induction M5 using lC with|cons _ _=>exact no h|nil=>exact sJ h▸⟨t,it,as,rfl,rfl,rfl⟩
theorem EI{args:List Ac}{p}(h:EK (bP sc args)=some p):
 ∃elt gens No pos,args=[.GeneratorExp elt gens No pos]∧Ex sc No gens=true∧bn No elt=p.1∧oV sc No No gens=p.2:=by
 induction args using lC with
 |nil=>exact no h|cons ge l=>induction l using lC with|cons g2 l=>exact no h|nil=>refine ek (BZ h) λfz e=>K7 (Mq (kv e rfl)) λelt gens No pos PL=>?_;subst PL;exact Lv elt gens No pos rfl (gH e (nofun)).1 (by injection (gH e (nofun)).2) (by injection (gH e (nofun)).2)
theorem AR{args:List Ac}{p q g x y z}(h:EK (bP sc args)=some p)(h1:vW p.1=some q)(h2:vE q.1=some x)(h3:EZ p.2=some g)(h4:tV g.1=some y)(h5:vE g.2=some z)(h6:x=y)(h7:vp q.2.1=true)(h8:Gg q.2.2=true):
 ∃y px pc n pos py it No N3,args=[.GeneratorExp (.Compare (.Name y px) [.Eq] [.Constant (.bytes []) n pc] pos) [⟨.Name y py,it,[],0⟩] No N3]∧hY No=true∧lM sc No=true∧(∀y∈No.names,y.2≠ .cell)∧No.names.lookup (".0":Str)=some NameKind.local∧
   idOf y=some x∧No.names.lookup y=some .local∧bn sc it= .v z:=by
 refine cps λX_ k_=>IA (EI h) λelt gens No N3 ha NF e1 e2=>Jb (CV (e2▸h3)) λt it as hg e3 e4=>?_;subst ha hg;obtain⟨NF,h0⟩:=oF NF;refine bO NF λNF Oc=>bO NF λNF _=>bO NF λNF O0=>bO NF λone fb=>bO (lA O0 _ mS) λhas htk=>?_;have has0:as=0:=bA has;have hc:=λy hy=>bne_iff_ne.mp (lA Oc y hy);refine fk (B9 (e3▸h4) htk hc) λyt py hty hy hyl=>Mj (y0 (e1▸h1) h2 h7 h8) λyn px pc n pos hcm hn=>?_;have hyn:yn=yt:=by simp only[←(bx hn).2,←(bx hy).2,h6]
 subst hty hcm hyn has0;refine k_ ?_;exact⟨yn,px,pc,n,pos,py,it,No,N3,rfl,one,fb,hc,bA h0,hn,hyl,e4.trans (Eg h5)⟩
theorem zO{r:Ev}{c:Cx}{args:List Ac}{z:V×aq}(e:Gj r c ρ σ (bP sc args)=some z):∃k z0,(∃y px pc n pos py it No N3,args=[.GeneratorExp (.Compare (.Name y px) [.Eq] [.Constant (.bytes []) n pc] pos) [⟨.Name y py,it,[],0⟩] No N3]∧hY No=true∧lM sc No=true∧(∀y∈No.names,y.2≠ .cell)∧No.names.lookup (".0":Str)=some NameKind.local∧
 idOf y=some k∧No.names.lookup y=some .local∧bn sc it= .v z0)∧c.fz=[1]∧
 ∃xs σ',r.e c ρ σ (.v z0)=some (.list xs,σ')∧xs.all G9=true∧z=(.bool (xs.all wp),σ'):=by
 refine cps λX_ k_=>bu e λp h1 e=>bu e λq h2 e=>bu e λx h3 e=>bu e λg h4 e=>bu e λy h5 e=>bu e λz0 h6 e=>vO e λt e=>bO t λt1 t=>bO t λt2 t=>bO t λt3 t4=>k_ ?_;refine i6 x z0 (AR h1 h2 h3 h4 h5 h6 (bA t1) t2 t3) (bA t4) ?_;refine kF e λv σ1 e1 e=>bu e λxs e2 e=>km e λhb e=>?_;have hv:v= .list xs:=by induction v using Internal.V.casesOn<;>first|exact no e2|exact cG _ (sJ e2)
 exact i6 xs σ1 (hv▸e1) hb (e.symm)
theorem rS(n:Nat):passing (λo_=>true) n 0=Qb n:=by simp[passing]
theorem wu{xs:List V}{q:V→Bool}:(Qb xs.length).all (λj=>match xs[j]? with|some u=>q u|none=>true)=xs.all q:=by rw[←all_rangeD xs q];congr 1;funext j;cases xs[j]?<;>rfl
section
variable {w:World} {A:Around} {s:Shared} {E:Aa}
theorem wi{cenv:Env}{y:Str}{px pc:Pos}{m:Str→Option Value}{bs:Ab}{t:Tok}(hk:cenv.scope.kind= .function)(hl:cenv.kindOf y=some .local)(hn:s.heap.Ns cenv.locals m)(hm:m y=some (.bytes bs.toArray t))(hd:(y==("__debug__":Str))=false)(h:Q (.bool bs.isEmpty) {s with toks:=s.toks+1}):wpAny (model pw w) A (eval (.Compare (.Name y px) [.Eq] [.Constant (.bytes []) n pc] pos) cenv) Q E s:=by
 refine wB (wpAny_Name (wpAny_loadName_local hk hl hn hm ?_) hd);refine(fN [.Eq] [.Constant (.bytes []) n pc] _ rfl)▸?_;refine wB (wpAny_holding (Constant_bytes ?_));refine wB (wpAny_standAt ?_);refine wpAny_operate' (eq_bytes ?_);have e:(bs.toArray.toList==([]:Ab).toArray.toList)=bs.isEmpty:=by induction bs using lC<;>rfl
 refine e▸?_;exact h
end
section
variable {K:Kx} {P:Pt} {ρ:aF} {r:Ev} {pos:Pos}
theorem tW{xs:List V}{vs:List Value}(hr:bQ L xs vs)(hB:xs.all G9=true){i:Nat}{v:Value}(h:vs.toArray[i]?=some v):∃bs tk,xs[i]?=some (.bytes bs)∧v= .bytes bs.toArray tk:=by
 rw[QA] at h
 induction hx:xs[i]? using oA with
 |none=>have:=hr.len;rw[Qv] at hx;rw[RG (nT (nE this.symm) hx)] at h;exact no h
 |some u=>
  refine aQ (hr.get hx) λv' O6 hq=>?_;rw[h] at O6;refine(sJ O6)▸?_;have hb:=lA hB u (Un hx)
  induction u using Internal.V.casesOn with
  |bytes bs=>obtain⟨t,ht,_⟩:=hq;exact oD bs t rfl ht|_=>exact dg hb
theorem HQ(S:Snd K r){func:Ac}{args:List Ac}(hne:∀a b c,func≠ .Attribute a b c)(hg:ju (bP K.env.scope args)=true)(p:K.At ρ P):SE K r ρ P (.Call func args [] pos) (.call (bn K.env.scope func) (bP K.env.scope args)):=⟨λ {a} e Q E h=>by
 refine cps λX_ k_=>?_;have e:(if ju _=true then _ else(r.e K.c ρ P.σ _).bind _)=_:=e;rw[hg,iP rfl] at e
 obtain⟨k,hF,e2⟩:∃k,bn K.env.scope func= .g k∧(if k==89 then Gj r K.c ρ P.σ (bP K.env.scope args) else none)=some a:=by
  revert e
  induction bn K.env.scope func using Internal.E.casesOn with
  |g k=>exact λe=>⟨k,rfl,e⟩|_=>exact λe=>no e
 refine vO e2 λhk e3=>?_;have hk:=bA hk;subst hk;refine ql (Jt (kv hF rfl)) λfn fpos hfn=>?_;subst hfn;refine fk (zO e3) λk z0 Po OJ z2=>fk z2 λxs σ1 e1 hB hz=>?_;obtain⟨y,px,pc,n,PW,py,it,No,N3,Oe,one,fb,Oc,h0,hy,hyl,hit⟩:=Po;subst Oe hz;have hdbg:(y==("__debug__":Str))=false:=by refine((bx hy).2)▸?_;exact(kq (bx hy).1).2.1
 refine k_ ?_;refine wB (mo p (eE hF).2 (eE hF).1 (CX _) ?_);refine callWith_of (P:=gD (.builtin "all")) (by rfl) (λh k=>k (model pw K.U.w)) ?_;refine(?_:wpAny _ K.A (evalArgs _ true [(false,eval _ K.env)] []) _ E P.s);refine evalArgs_plain (Calls.spliced_cons ?_);refine cps λX_ k_=>gv (p.fr.cd (by refine OJ▸?_;exact List.cons_ne_nil _ _)) λt htq NK OF=>?_;rw[iP OJ] at OF;refine ql (Jt (kv hit rfl)) λitn itp hitn=>k_ ?_;refine wpAny_GeneratorExp_walksQD p.room.h (pM one) (ey one fb p.fr).eq Oc h0 hyl (dK one) (by have:=p.room.depth;refine(?_:K.A.depth<1000);exact aZ [_,_] (.h 1 (.a (.a (.a ab (.m 4 ae)) (.c 4)) ai) (.c 1000) (.g (.a ab ai) (.c 1000))) rfl this) ?_ (λx=>by refine hitn▸?_;rfl);refine(S.e it p).go (by simp only[hit];exact e1) λP1 lv T1 hlv=>cps λX_ k_=>?_;obtain⟨NR,hv⟩:=hlv;obtain⟨l,o,vs,hl,ho,hi,hr⟩:=hv;subst hl;refine k_ ?_;refine wpAny_pyIter_list ⟨o,T1.sr.g ho,hi.list.2⟩ ?_;have T2:=T1.sr.grow (b:=K.c.b) (F:=cz) (s':={P1.s with heap:=P1.s.heap.push {cls:=.type "list_iterator",data:=.fields #[.ref l,.int 0 0]}}) (λa=>if a=P1.s.heap.objs.size then some .lent else none) (Ext.push _ _ _);refine⟨T2.sr.lim,?_⟩;simp only[←OF];refine jd T2.sr htq NK λP3 cv T3 Om out=>?_;have T:=(T1.trans T2).trans (T3 K.c.b);refine LQ (SR.top T.sr) λmg ob Ob hbm b1 b2 b3 b4=>?_;simp only[p.fr.gl];refine wpAny_builtinsFor Ob hbm (by decide) b1 b2 b3 b4 ?_;have nI:=T1.sr.no (bS P1.s.heap);have gI3:=(T3 0).j _ _ (Lay.grow_new nI (iP rfl) (Qr P1.s.heap rfl)) id;have gI:=T.sr.g gI3;have gl:=T.sr.g ((T2.trans (T3 K.c.b)).le.i _ _ ho);refine⟨P1.s.heap.objs.size,[P1.s.heap.objs.size,l],[P1.s.heap.objs.size],vs.toArray.size,λi v=>vs.toArray[i]?=some v,λi h=>h.IsListIter P1.s.heap.objs.size l i∧h.IsList l vs.toArray,λo_=>true,λi y=>∃u,xs[i]?=some u∧y= .bool (wp u),rfl,λA' hA=>Walks.list hA P1.s.heap.objs.size l (λq=>by rw[q] at ho;exact nomatch nI.symm.trans ho) vs.toArray,⟨⟨_,gI,rfl,rfl⟩,o,gl,hi.list.2⟩,λbb PS=>?_,T.sr.lim,λq=>?_,λhref hk=>⟨λA' E' i v Nd m₂ hA o_ o_ hP PC hm PH=>?_,λA' E' i v Nd m₂ hA o_ o_ hP o_ PC hm PH=>?_⟩,λa h₅ tk₅ gst PT Na Pq hk5 WS GA=>?_⟩
 ·rcases P6.mp PS with q|q
  ·rw[q];exact Q9 gI
  ·rw[mA q];exact Q9 gl
 ·obtain⟨mc,⟨oc,es,ep,hoc,_⟩,_⟩:=T1.sr.lim;rw[mA q,bS] at hoc;exact no hoc
 ·simp only[TU];exact wP ⟨rfl,_,_,rfl,λo_ o_ e=>e⟩
 ·refine ie (tW hr hB hP) λbs tkk hxi hvv=>?_;subst hvv;exact wi (dK one) hyl PC hm hdbg ⟨⟨_,hxi,rfl⟩,_,_,rfl,λo_ o_ e=>e⟩
 ·refine Calls.spliced_nil ⟨gN,?_⟩;have hn0:(passing (λo_=>true) vs.toArray.size 0)=Qb xs.length:=by simp only[rS,P7,hr.len]
  refine call_all_walkS ((WS.in4_1).self 0 _ _ _ GA ⟨a,_,_,_,_,_,_,λj=>match xs[j]? with|some u=>wp u|none=>true,rfl,WS.in4_1,GA,λj y s₆ Q₆ E₆ hj hq=>?_,λs6 hm=>?_⟩)
  ·obtain⟨i,hi,u,hu,hyv⟩:=hj;subst hyv;rw[hn0] at hi
   have hij:i=j:=by refine ek (Qe.mp hi) λh1 h2=>?_;rw[←h2,List.getElem_range]
   subst hij;dsimp only at hq;rw[hu] at hq;exact wpAny_truthy_bool hq
  ·rw[hn0,SD,wu];exact h _ _ (T.past (T.sr.upd (T:=λa=>a=P1.s.heap.objs.size) (λa t=>⟨_,t▸gI3⟩) (λb o n q=>hm.heap b o (λz=>(P6.mp z).elim (λz=>absurd (Q9 q) (by refine z▸?_;exact R0 _)) λz=>n (mA z)) (hk5 b o q)) (AllBare.movedS (T.sr.gens.push PT) hm) (hm.os.trans rfl)) λa o e o_ q=>by rw[q] at e;exact nomatch nI.symm.trans (T1.j _ _ e id)) ⟨NR.trans Om.symm,rfl⟩⟩
end
theorem vz{t:Ac}{a}(h:Gx t=some a):∃k p,t= .Tuple a k p:=by induction t using PySem.Expr.casesOn<;>first|exact no h|exact G4 _ _ (by rw[←sJ h])
theorem zQ{t e:Ac}{y:List Ac×List Ac}(h:n9 t e=some y):∃k p k' p',t= .Tuple y.1 k p∧e= .Tuple y.2 k' p':=
 bu h λa h1 h=>eN h λb h2 h=>h▸ql (vz h1) λk p q=>ql (vz h2) λk' p' q'=>⟨k,p,k',p',q,q'⟩
theorem ua{t e:Ac}(h:n9 t e=none):∀ts k p vs k' p',t= .Tuple ts k p→e= .Tuple vs k' p'→False:=by intro ts k p vs k' p' h1 h2;rw[h1,h2] at h;exact nomatch h
theorem B2{e:Ac}(h:E9 e=true):∃q,e= .List [] q:=by
 induction e using PySem.Expr.casesOn with
 |List es q=>induction es using lC with|nil=>exact⟨q,rfl⟩|cons _ _=>exact dg h
 |_=>exact dg h
section
variable {K:Kx} {P:Pt} {ρ:aF} {r:Ev}
theorem Be(S:Snd K r)(SA:nC K.U K.d r)(pe:Ac)(p:K.At ρ P):SE K r ρ P pe (bn K.env.scope pe):=by
 induction pe using PySem.Expr.casesOn with
 |Constant co n pos=>exact Cu r p|Name x pos=>exact Fv r p|BoolOp op es pos=>exact ye S p|BinOp a op b pos=>exact IY S p
 |UnaryOp op q pos=>
  rcases DS op with h|h|h
  ·subst h;exact ID S p
  ·subst h;exact Ho S p
  ·rw[h];exact .bad
 |Compare l MW rs pos=>exact H7 S p|IfExp a b c pos=>exact HV S p|Attribute o a pos=>exact EM S p
 |Subscript o i pos=>
  rcases Em i with h|⟨lo,hi,q,h⟩
  ·rw[Bb h];exact Hm S p
  ·subst h;exact Cg S p
 |List es pos=>exact F8 S p|Tuple es k pos=>exact HS S p
 |Call func args Ok pos=>
  induction Ok using lC with
  |cons k ks=>simp only[tP];exact .bad
  |nil=>
   rcases pF func with h|⟨o,a,q,h⟩
   ·rw[p8 h]
    induction hg:ju (bP K.env.scope args) using bC with
    |false=>exact EU S (vH h) hg p|true=>exact HQ S (vH h) hg p
   ·subst h;exact F6 S p
 |ListComp elt gens csc pos=>exact FP S SA p|GeneratorExp elt gens csc pos=>show SE K r ρ P _ (if _ then _ else _);split<;>exact .bad
 |Lambda as body Nb pos=>
  rcases zi as with⟨ps,h⟩|h
  ·subst h;exact IG p
  ·rw[h];exact .bad
 |_=>exact .bad
theorem Fp(S:Snd K r)(SA:nC K.U K.d r)(pe:Ac)(p:K.At ρ P):ST K r ρ P pe (bn K.env.scope pe):=by
 have plain:=λhp=>Do hp (Be S SA pe p)
 induction pe using PySem.Expr.casesOn with
 |UnaryOp op q pos=>
  induction op using PySem.UnaryOp.casesOn with
  |Not=>exact I1 S p|_=>exact plain rfl
 |BoolOp op es pos=>exact(qY S op es p).to λh=>wpAny_isTrue_BoolOp h|IfExp a b c pos=>exact IZ S p|Compare l MW rs pos=>exact IK S p|_=>exact plain rfl
theorem FM(S:SndS K r){t e:Ac}(p:K.At ρ P):SS K r ρ P (.Assign [t] e pos) (IQ K.env.scope t e):=by
 have plain (N9:mZ K.env.scope t=true→swappedStores [t] e K.env=pure none) (hn:∀y,n9 t e=some y→eI e=true):SS K r ρ P (.Assign [t] e pos) (if mZ K.env.scope t then .a [nA K.env.scope t] (bn K.env.scope e) else .bad):=by
  induction tk:mZ K.env.scope t using bC with
  |false=>exact .bad
  |true=>
   induction hc:eI e using bC with
   |true=>exact zS S hc (N9 tk) tk p
   |false=>
    have bad (h:bn K.env.scope e= .bad):SS K r ρ P (.Assign [t] e pos) (.a [nA K.env.scope t] (bn K.env.scope e)):=⟨λ {a} q=>by have q:(r.e K.c ρ P.σ _).bind _=_:=q;rw[h,S.bad] at q;exact no q⟩
    induction e using PySem.Expr.casesOn with
    |ListComp elt gens csc cpos=>
     induction hok:e9 K.env.scope csc gens using bC with
     |true=>exact w5 S hok tk p|false=>exact bad (by show(if _ then _ else _)=_;refine hok▸?_;rfl)
    |SetComp a b c d=>exact bad rfl|DictComp a b c d f=>exact bad rfl|_=>exact nomatch hc
 refine(?_:SS K r ρ P _ (match n9 t e with|some (ts,vs)=>_|none=>_))
 induction hs:n9 t e using oA with
 |none=>
  induction hn:E9 e using bC with
  |false=>exact plain (λtk=>fK (ua hs) (iT tk)) λy q=>nomatch hs.symm.trans q
  |true=>
   refine ek (B2 hn) λq he=>?_;subst he
   induction tk:mZ K.env.scope t using bC with
   |false=>exact .bad|true=>exact wg S tk p
 |some y=>
  refine KH (zQ hs) λk pt k' pv h1 h2=>?_;obtain⟨ts,vs⟩:=y;subst h1 h2;refine(?_:SS K r ρ P _ (match jS K.env.scope ts vs with|some none=>_|some (some names)=>_|none=>_))
  induction Ol:jS K.env.scope ts vs using oA with
  |none=>exact .bad
  |some o=>induction o using oA with|none=>exact plain (λo_=>mP p.fr.kind Ol) λo_ o_=>rfl|some names=>
    refine(?_:SS K r ρ P _ (if(names.all λn=>(idOf n).isSome)=true then .d _ _ else .bad))
    induction Of:names.all λn=>(idOf n).isSome using bC with
    |false=>exact .bad|true=>exact xk S Ol Of p
theorem Gv(S:SndS K r)(st:PySem.Stmt)(p:K.At ρ P):SS K r ρ P st (Kr K.env.scope st):=by
 induction st using PySem.Stmt.casesOn with
 |Expr e1 pos=>exact FZ S p|Return v pos=>induction v using oA with|none=>exact .bad|some e1=>exact IN S p
 |If a b c pos=>exact KA S p|While a b o pos=>induction o using lC with|nil=>exact Cd S p|cons _ _=>exact .bad
 |For t it b o pos=>induction o using lC with|cons _ _=>exact .bad|nil=>exact HN S p
 |Break pos=>exact FI p|Continue pos=>exact Dn p|Try b hs o f pos=>induction hs using lC with|nil=>exact .bad|cons h0 hs=>induction o using lC with|cons _ _=>exact .bad|nil=>induction f using lC with|cons _ _=>exact .bad|nil=>exact Ix S p
 |AugAssign t op e1 pos=>induction t using PySem.Expr.casesOn with|Name x px=>exact Ic S p|_=>exact .bad
 |Assign ts val pos=>induction ts using lC with|nil=>exact .bad|cons t ts=>induction ts using lC with|cons _ _=>exact .bad|nil=>exact FM S p
 |_=>exact .bad
end
theorem qE{cl:Call}(hc:Calls U cl d)(n:Nat):nC U d (ev cl n)∧A0 U d (ev cl n):=by
 induction n with
 |zero=>have E:nC U d (ev cl 0):=λK hU hd=>⟨λo_ o_=>.bad,λo_ o_=>⟨λe=>no e⟩,λo_ o_=>rfl,λf o_ o_ e=>no e,hU▸hd▸hc⟩;exact⟨E,λK hU hd hw=>⟨E K hU hd,hw,λo_ o_=>.bad,λo_ o_ o_=>.bad⟩⟩
 |succ n ih=>
  have E:nC U d (ev cl (n+1)):=λK hU hd=>
   have S:=ih.1 K hU hd;have SA:=hU▸hd▸ih.1
   ⟨λpe p=>Be S SA pe p,λpe p=>Fp S SA pe p,λo_ o_=>rfl,λf p ok e Q E h=>GE S SA f p ok e Q E h,hU▸hd▸hc⟩
  exact⟨E,λK hU hd hw=>
   have S:=ih.2 K hU hd hw
   ⟨E K hU hd,hw,λss p=>rU S (λst p=>Gv S st p) ss p,λNf body p=>⟨λ {a} e Q E h=>by
    refine bu e λz1 e1 e2=>?_;obtain⟨fl1,ρ1,σ1⟩:=z1;have e3:(fl1,ρ1,σ1)=a:=by induction fl1 using Internal.Fl.casesOn<;>exact sJ e2
    exact(yi S p).go (e1.trans (cG some e3)) h⟩⟩⟩
theorem qU{r:Ev}{f:V}{args:List V}{z:V×aq}(e:fD r σ f args=some z):mN f=true:=by
 induction f using Internal.V.casesOn with
 |fn k=>refine bu e λF hF o_=>?_;refine(?_:(fnOf k).isSome=_);refine hF▸?_;rfl|cls k=>refine bu e λF hF o_=>?_;refine(?_:(pE k).isSome=_);refine hF▸?_;rfl|clo _ _ _=>rfl|blt k=>refine eN e λv e o_=>?_;exact uK e|_=>exact no e
theorem wD(U:Wd)(d:Nat):Calls U (call d) d:=by
 induction d with
 |zero=>exact⟨λo_ o_ o_ o_ o_ e=>no e,λo_ o_ o_ e=>no e,λo_ o_ o_ o_ e=>no e⟩|succ d ih=>exact⟨λroom hb x hf ha e Q E h=>t6 (qE ih ED).2 (qE ih ED).1 room hb x hf ha e Q E h,λ {A P k args vs v σ'} room x ha e Q E h=>by refine eN e λv' e1 e2=>?_;have e2:=pJ e2;exact xn x room.h ha e1 λs' y ex hy=>h (P.ext s') y (x.ext ex) e2.2 (e2.1▸hy),λo_ o_ o_ o_ e=>qU e⟩
end Internal
namespace Internal
variable {x a i n d C N lead:Nat}{es M5:List E}{op:Op}{b:List S}{y o ov:V}{e elt it:E}{MW:List Cm}{rs frees fz:List Nat}{hi:Option E}{cl:Call}{t s p t2 name:Ab}{ts:List T}{R:Nat→Nat→Prop}{σ:aq}{neg:Bool}{ρ tl:aF}{fs:List (Nat×V)}{M:Nat→V→Bool}
theorem bY(cl:Call)(n:Nat):(ev cl (n+1)).e=ca (ev cl n):=rfl
theorem L3(cl:Call)(n:Nat):(ev cl (n+1)).ss=c7 (ev cl n):=rfl
theorem vk(cl:Call):∀n:Nat,(ev cl n).call=cl:=by
 intro L_;induction L_ with
 |zero=>exact rfl|succ _ IH_=>exact rfl
section
variable (r:Ev) (c:Cx) (ρ:aF)
noncomputable def LY(f:V→Option V):V×aq→Option (V×aq):=λ(v,σ)=>(f v).map λv=>(v,σ)
noncomputable def yO(x:V)(op:Cm)(MW:List Cm)(es:List E):V×aq→Option (V×aq):=λ(y,σ)=>(iI σ op x y).bind λb=>match MW with|[]=>some (.bool b,σ)|MW=>if b then ni r c ρ σ y MW es else some (.bool false,σ)
noncomputable def qw(σ:aq)(y:V):List Cm→List E→Bool→Option (V×aq)
 |[],_,b=>some (.bool b,σ)|o::MW,es,true=>ni r c ρ σ y (o::MW) es|_::_,_,false=>some (.bool false,σ)
noncomputable def mr(Nq:Bool):List E→V×aq→Option (V×aq)
 |[],p=>some p|e::es,(v,σ)=>(aN σ v).bind λt=>if t==Nq then dh r c ρ Nq σ (e::es) else some (v,σ)
noncomputable def lL(σ:aq)(v:V)(es:List E):Bool→Bool→Option (V×aq)
 |true,true=>dh r c ρ true σ es|false,false=>dh r c ρ false σ es|_,_=>some (v,σ)
noncomputable def kL(es:List E):V×aq→Option (List V×aq):=λ(v,σ)=>(bg r c ρ σ es).bind λ(vs,σ)=>some (v::vs,σ)
noncomputable def wl(ss:List S):Fl×aF×aq→Option (Fl×aF×aq):=λ(fl,ρ,σ)=>match fl with|.next=>c7 r c ρ σ ss|fl=>some (fl,ρ,σ)
noncomputable def kT(ts:List T)(vs:List V):aF×aq→Option (aF×aq):=λ(ρ,σ)=>fh c ρ σ ts vs
noncomputable def kAt(σ:aq)(a:Nat)(v:V):V→Option (aF×aq)
 |.o n=>(fy c σ n a v).map λσ=>(ρ,σ)|_=>none
end
section
variable {r:Ev} {c:Cx} {ρ ρ':aF} {σ σ':aq}
theorem sa:ca r c ρ σ (.v x)=(aE ρ x).map λv=>(v,σ):=rfl
theorem Kg:ca r c ρ σ (.g x)=(yh x).map λv=>(v,σ):=rfl
theorem Cz{k:K}(h:IV k=true):ca r c ρ σ (.k k)=some (kV k,σ):=iP h
theorem K1{a:Bool}:ca r c ρ σ (.b a es)=dh r c ρ a σ es:=rfl
theorem HG{a b:E}:ca r c ρ σ (.bin op a b)=(r.e c ρ σ a).bind (EG r c ρ op b):=rfl
theorem Ma{b:E}{x:V}:EG r c ρ op b (x,σ)=(r.e c ρ σ b).bind (yu op x):=rfl
theorem JD{x:V}:yu op x (y,σ)=(ii σ op x y).map λv=>(v,σ):=rfl
theorem H3:ca r c ρ σ (.not e)=(r.e c ρ σ e).bind Ey:=rfl
theorem Hq{v:V}:Ey (v,σ)=(aN σ v).map λt=>(.bool (!t),σ):=rfl
theorem LX:ca r c ρ σ (.neg e)=(r.e c ρ σ e).bind Gb:=rfl
theorem Me{i:Int}:Gb (.int i,σ)=some (.int (-i),σ):=rfl
theorem DO{l:E}{rs:List E}:ca r c ρ σ (.p l MW rs)=(r.e c ρ σ l).bind (GV r c ρ MW rs):=rfl
theorem Hv{rs:List E}{x:V}:GV r c ρ MW rs (x,σ)=ni r c ρ σ x MW rs:=rfl
theorem jG{x:V}{op:Cm}:ni r c ρ σ x (op::MW) (e::es)=(r.e c ρ σ e).bind (yO r c ρ x op MW es):=by induction MW using lC<;>rfl
theorem AF{x:V}{op:Cm}:yO r c ρ x op MW es (y,σ)=(iI σ op x y).bind (qw r c ρ σ y MW es):=by refine(?_:Q2 _ _=_);congr 1;funext b;induction MW using lC<;>induction b using bC<;>rfl
theorem eA{a:Bool}:dh r c ρ a σ (e::es)=(r.e c ρ σ e).bind (mr r c ρ a es):=by induction es using lC<;>rfl
theorem Jx{a:Bool}{v:V}:mr r c ρ a [] (v,σ)=some (v,σ):=rfl
theorem oB{a:Bool}{v:V}:mr r c ρ a (e::es) (v,σ)=(aN σ v).bind (lL r c ρ σ v (e::es) a):=by refine(?_:Q2 _ _=_);congr 1;funext t;induction a using bC<;>induction t using bC<;>rfl
theorem Im{v:V}:lL r c ρ σ v es true true=dh r c ρ true σ es:=rfl
theorem HY{v:V}:lL r c ρ σ v es false false=dh r c ρ false σ es:=rfl
theorem G5{v:V}:lL r c ρ σ v es true false=some (v,σ):=rfl
theorem G8{v:V}:lL r c ρ σ v es false true=some (v,σ):=rfl
theorem D4{q a b:E}:ca r c ρ σ (.ite q a b)=(r.e c ρ σ q).bind (zV r c ρ a b):=rfl
theorem Eh{a b:E}{v:V}:zV r c ρ a b (v,σ)=(aN σ v).bind (wa r c ρ σ a b):=rfl
theorem EL:ca r c ρ σ (.attr e a)=(r.e c ρ σ e).bind (Bu r a):=rfl
theorem KM:Bu r a (o,σ)=jq r σ o a:=rfl
theorem Hl{i:E}:ca r c ρ σ (.sub e i)=(r.e c ρ σ e).bind (ET r c ρ i):=rfl
theorem LP{i:E}:ET r c ρ i (o,σ)=(r.e c ρ σ i).bind (Au o):=rfl
theorem J5{i:V}:Au o (i,σ)=(fJ σ o i).map λv=>(v,σ):=rfl
theorem CJ{lo:Option E}:ca r c ρ σ (.l e lo hi)=(r.e c ρ σ e).bind (JT r c ρ lo hi):=rfl
theorem Mf{lo:Option E}:JT r c ρ lo hi (o,σ)=(gf r c ρ σ lo).bind (FF r c ρ o hi):=rfl
theorem Mc{lo:Option V}:FF r c ρ o hi (lo,σ)=(gf r c ρ σ hi).bind (GP o lo):=rfl
theorem LU{lo hi:Option V}:GP o lo (hi,σ)=(du σ o lo hi).map λv=>(v,σ):=rfl
theorem F3:gf r c ρ σ none=some (none,σ):=rfl
theorem fR:gf r c ρ σ (some e)=(r.e c ρ σ e).bind kO:=rfl
theorem MN{v:V}:kO (v,σ)=some (some v,σ):=rfl
theorem jP(h:es.length<100):ca r c ρ σ (.list es)=(bg r c ρ σ es).bind uG:=iP h
theorem Ki{vs:List V}:uG (vs,σ)=some (.list vs,σ):=rfl
theorem kt(h:es.length<100):ca r c ρ σ (.t es)=(bg r c ρ σ es).bind yZ:=iP h
theorem LG{vs:List V}:yZ (vs,σ)=some (.t vs,σ):=rfl
theorem Hc:bg r c ρ σ []=some ([],σ):=rfl
theorem t7:bg r c ρ σ (e::es)=(r.e c ρ σ e).bind (kL r c ρ es):=rfl
theorem MP{v:V}:kL r c ρ es (v,σ)=(bg r c ρ σ es).bind (JR v):=rfl
theorem ML{v:V}{vs:List V}:JR v (vs,σ)=some (v::vs,σ):=rfl
theorem E4{f:E}{args:List E}(h:ju args=false):ca r c ρ σ (.call f args)=(r.e c ρ σ f).bind (zd r c ρ args):=iN (by rw[h];exact fF)
theorem KJ{f:V}{args:List E}:zd r c ρ args (f,σ)=(bg r c ρ σ args).bind (sF r f):=rfl
theorem Ju{f:V}{vs:List V}:sF (ev cl n) f (vs,σ)=cl σ f vs:=by induction n using Qy<;>rfl
theorem mw{o:E}{args:List E}:ca r c ρ σ (.m o a args)=(r.e c ρ σ o).bind (AL r c ρ a args):=rfl
theorem xW{args:List E}:AL r c ρ a args (o,σ)=(da σ o a).bind (tC r c ρ σ o a args):=rfl
theorem BK{args:List E}{mk:MK}:tC r c ρ σ o a args mk=(bg r c ρ σ args).bind (f8 r c o a mk):=rfl
theorem zI{k:Nat}{vs:List V}:f8 (ev cl n) c o a (.fnm k) (vs,σ)=cl σ (.fn k) (o::vs):=by induction n using Qy<;>rfl
theorem Ip{vs:List V}:f8 r c o a (.val i) (vs,σ)=(fC σ o a vs).map λv=>(v,σ):=rfl
theorem fP{t:T}{gs:List G}:ca r c ρ σ (.comp elt (.mk t it M5::gs) frees)=((ms r c ρ σ it (gq t)).bind (Br r c ρ elt t M5 gs frees)).bind (Bq elt):=rfl
theorem lS{t:T}{gs:List G}{i:It}:Br r c ρ elt t M5 gs frees (i,σ)=iF (bG r {c with fz:=[]} elt t M5 gs) i ([],bB ρ frees,σ):=rfl
theorem gy{vs:List V}(h:ga elt=false):Bq elt (vs,ρ,σ)=some (.list vs,σ):=iN (by rw[h];exact fF)
theorem J4:c7 r c ρ σ []=some (.next,ρ,σ):=rfl
theorem kQ{s:S}{ss:List S}:c7 r c ρ σ (s::ss)=(br r c ρ σ s).bind (wl r c ss):=rfl
theorem JV{ss:List S}:wl r c ss (.next,ρ,σ)=c7 r c ρ σ ss:=rfl
theorem Ll{ss:List S}{v:V}:wl r c ss (.ret v,ρ,σ)=some (.ret v,ρ,σ):=rfl
theorem Lb{ss:List S}:wl r c ss (.brk,ρ,σ)=some (.brk,ρ,σ):=rfl
theorem Lc{ss:List S}:wl r c ss (.cont,ρ,σ)=some (.cont,ρ,σ):=rfl
theorem Cs:br r c ρ σ (.expr e)=(r.e c ρ σ e).bind (Bh ρ):=rfl
theorem Kk:Bh ρ (.none,σ)=some (.next,ρ,σ):=rfl
theorem HW{t:T}:br r c ρ σ (.a [t] e)=(r.e c ρ σ e).bind (ER c ρ t):=rfl
theorem LR{t:T}{v:V}:ER c ρ t (v,σ)=(bJ c ρ σ t v).bind ke:=rfl
theorem KU:ke (ρ,σ)=some (.next,ρ,σ):=rfl
theorem GH{xs:List Nat}:br r c ρ σ (.d xs es)=(bg r c ρ σ es).bind (ya c ρ xs):=rfl
theorem GW{xs:List Nat}{vs:List V}(h:(vs.length==xs.length&&decide (vs.length<100))=true):ya c ρ xs (vs,σ)=(bindAll c ρ (xs.zip vs).reverse).map λρ=>(.next,ρ,σ):=iP h
theorem Bo{t:T}:br r c ρ σ (.n t)=(bJ c ρ (σ++[.list []]) t (.o σ.length)).bind ke:=rfl
theorem Fk:br r c ρ σ (.u x op e)=(aE ρ x).bind (Gm r c ρ σ x op e):=rfl
theorem LH{old:V}:Gm r c ρ σ x op e old=(r.e c ρ σ e).bind (Aq c ρ x op old):=rfl
theorem K6{old v:V}:Aq c ρ x op old (v,σ)=(tA op old v).bind (Av c ρ x σ):=rfl
theorem Li{v:V}:Av c ρ x σ v=(cZ c ρ x v).map λρ=>(.next,ρ,σ):=rfl
theorem EN:br r c ρ σ (.ret e)=(r.e c ρ σ e).bind (GR ρ):=rfl
theorem L1{v:V}:GR ρ (v,σ)=some (.ret v,ρ,σ):=rfl
theorem Ee{q:E}{a:List S}:br r c ρ σ (.ite q a b)=(r.e c ρ σ q).bind (IX r c ρ a b):=rfl
theorem IP{a:List S}{v:V}:IX r c ρ a b (v,σ)=(aN σ v).bind (BP r c ρ σ a b):=rfl
theorem LC{a:List S}:BP r c ρ σ a b true=r.ss c ρ σ a:=rfl
theorem LA{a:List S}:BP r c ρ σ a b false=r.ss c ρ σ b:=rfl
theorem Kw{a b:E}:wa r c ρ σ a b true=r.e c ρ σ a:=rfl
theorem JM{a b:E}:wa r c ρ σ a b false=r.e c ρ σ b:=rfl
theorem Ko{b:Bool}:qw r c ρ σ y [] es b=some (.bool b,σ):=rfl
theorem Dr{o:Cm}:qw r c ρ σ y (o::MW) es true=ni r c ρ σ y (o::MW) es:=rfl
theorem BH{o:Cm}:qw r c ρ σ y (o::MW) es false=some (.bool false,σ):=rfl
theorem mi{q:E}:br r c ρ σ (.while q b)=(r.e c ρ σ q).bind (GZ r c ρ q b):=rfl
theorem EY{q:E}{v:V}:GZ r c ρ q b (v,σ)=(aN σ v).bind (BI r c ρ σ q b):=rfl
theorem LK{q:E}:BI r c ρ σ q b true=(r.ss c ρ σ b).bind (AD r c q b):=rfl
theorem LD{q:E}:BI r c ρ σ q b false=some (.next,ρ,σ):=rfl
theorem Ku{q:E}:AD r c q b (.next,ρ,σ)=r.ss c ρ σ [.while q b]:=rfl
theorem Ld{q:E}:AD r c q b (.cont,ρ,σ)=r.ss c ρ σ [.while q b]:=rfl
theorem JX{q:E}:AD r c q b (.brk,ρ,σ)=some (.next,ρ,σ):=rfl
theorem EE{t:T}:br r c ρ σ (.for t it b)=(eQ r c ρ σ it).bind (kFor r c ρ t b):=rfl
theorem Md{t:T}{i:It}:kFor r c ρ t b (i,σ)=lP (cW r c t b) ρ σ i:=rfl
theorem Dg{t:T}{x:V}:cW r c t b ρ σ x=(bJ c ρ σ t x).bind (AS r c b):=rfl
theorem JW:AS r c b (ρ,σ)=r.ss c ρ σ b:=rfl
theorem Ly:br r c ρ σ .brk=some (.brk,ρ,σ):=rfl
theorem JL:br r c ρ σ .cont=some (.cont,ρ,σ):=rfl
theorem J9:br r c ρ σ (.try b)=r.ss c ρ σ b:=rfl
theorem lF{e':E}(h:dB e= .val e'):eQ r c ρ σ e=(r.e c ρ σ e').bind HE:=by delta eQ;exact h▸rfl
theorem mx{x:E}(h:dB e= .rev x):eQ r c ρ σ e=(r.e c ρ σ x).bind Fj:=by delta eQ;exact h▸rfl
theorem nU{x:E}(h:dB e= .rng1 x):eQ r c ρ σ e=(r.e c ρ σ x).bind vt:=by delta eQ;exact h▸rfl
theorem wW{x y:E}(h:dB e= .rng2 x y):eQ r c ρ σ e=(r.e c ρ σ x).bind (FG r c ρ y):=by delta eQ;exact h▸rfl
theorem jt{e':E}{b:Bool}(h:dB e= .val e'):ms r c ρ σ e b=(r.e c ρ σ e').bind HE:=by delta ms;refine h▸?_;exact lF h
theorem xu{x:E}{b:Bool}(h:dB e= .rng1 x):ms r c ρ σ e b=(r.e c ρ σ x).bind vt:=by delta ms;refine h▸?_;exact nU h
theorem MI{v:V}:HE (v,σ)=(Hd v).map λi=>(i,σ):=rfl
theorem Io{v:V}:Fj (v,σ)=(DG σ v).map λi=>(i,σ):=rfl
theorem zW{b:Int}:vt (.int b,σ)=(nj 0 b).map λi=>(i,σ):=rfl
theorem Hf{y:E}{u:V}:FG r c ρ y (u,σ)=(r.e c ρ σ y).bind (Bn u):=rfl
theorem FW{a b:Int}:Bn (.int a) (.int b,σ)=(nj a b).map λi=>(i,σ):=rfl
theorem gw{v:V}:bJ c ρ σ (.v x) v=(cZ c ρ x v).map λρ=>(ρ,σ):=rfl
theorem KN{vs:List V}:bJ c ρ σ (.t ts) (.t vs)=fh c ρ σ ts vs:=rfl
theorem B6{v:V}:bJ c ρ σ (.attr x a) v=(aE ρ x).bind (kAt c ρ σ a v):=by
 show(match aE ρ x with|some (.o n)=>(fy c σ n a v).map λσ=>(ρ,σ)|_=>none)=_
 induction aE ρ x using oA with
 |none=>rfl|some w=>induction w using Internal.V.casesOn<;>rfl
theorem Ms{v:V}:kAt c ρ σ a v (.o n)=(fy c σ n a v).map λσ=>(ρ,σ):=rfl
theorem Jq:fh c ρ σ [] []=some (ρ,σ):=rfl
theorem HP{t:T}{v:V}{vs:List V}:fh c ρ σ (t::ts) (v::vs)=(bJ c ρ σ t v).bind (kT c ts vs):=rfl
theorem MO{vs:List V}:kT c ts vs (ρ,σ)=fh c ρ σ ts vs:=rfl
theorem iX{b:Nat}{v:V}:cZ ⟨b,[]⟩ ρ x v=some (bT ρ x v):=rfl
theorem qa{b:Nat}{v:V}(h:fz.contains x=false):cZ ⟨b,fz⟩ ρ x v=some (bT ρ x v):=iN (by rw[h];exact fF)
theorem Ja{b:Nat}{v:V}(h:aE ρ x=none):cZ ⟨b,fz⟩ ρ x v=some (bT ρ x v):=iN (by rw[h];exact λq=>fF ((TX _).symm.trans q))
theorem DW:bindAll c ρ []=some ρ:=rfl
theorem CL{v:V}{l:List (Nat×V)}:bindAll c ρ ((x,v)::l)=(cZ c ρ x v).bind λρ=>bindAll c ρ l:=rfl
theorem k9{v:V}:aE ((x,v)::ρ) x=some v:=List.lookup_cons_self
theorem fA{y:Nat}{v:V}(h:(x==y)=false):aE ((y,v)::ρ) x=aE ρ x:=by show(match x==y with|true=>some v|false=>List.lookup x ρ)=_;rw[h];rfl
theorem Js:aE [] x=none:=rfl
theorem CK{v:V}:bT [] x v=[(x,v)]:=rfl
theorem vS{v w:V}:bT ((x,w)::ρ) x v=(x,v)::ρ:=iP (beq_self_eq_true x)
theorem jf{y:Nat}{v w:V}(h:(y==x)=false):bT ((y,w)::ρ) x v=(y,w)::bT ρ x v:=iN (by rw[h];exact fF)
theorem et:bB ρ []=[]:=rfl
theorem cX{v:V}{l:List Nat}(h:aE ρ x=some v):bB ρ (x::l)=(x,v)::bB ρ l:=SI (by rw[h];rfl)
theorem En{body:aF→aq→V→Option (Fl×aF×aq)}{xs:List V}:lP body ρ σ (.items xs)=eu body ρ σ xs:=rfl
theorem qh{k:Nat}{F:Fn}{args:List V}(h:fnOf k=some F)(hl:(args.length !=F.ps.length)=false)(hb:ia F.ps args F.dfl=some ρ):
 call (d+1) σ (.fn k) args=(c7 (ev (call d) 399) ⟨σ.length,F.fz⟩ ρ σ F.body).bind (Fd σ):=by
 refine(?_:Q2 _ _=_);simp only[h];show ite _ _ _=_;refine hl▸?_;refine hb▸?_;rfl
theorem dk{k:Nat}{args:List V}:call (d+1) σ (.blt k) args=(mB σ k args).map λv=>(v,σ):=rfl
theorem L4{fl:Fl}:Fd σ (fl,ρ,σ')=(oq fl).bind λv=>(aV σ' σ.length 2 v).map λv=>(v,σ'.take σ.length):=rfl
theorem Gs:oq .next=some .none:=rfl
theorem GY{v:V}:oq (.ret v)=some v:=rfl
end
noncomputable abbrev ba(r:Ev)(c:Cx)(ρ:aF)(σ:aq)(ss:List S)(fl:Fl)(ρ':aF)(σ':aq):Prop:=c7 r c ρ σ ss=some (fl,ρ',σ')
section
variable {r:Ev} {c:Cx} {ρ ρ1 ρ':aF} {σ σ1 σ2 σ':aq} {s:S} {ss a b:List S} {q e:E} {v:V} {t:T} {fl:Fl} {r':Ev}
theorem cC(h:ba (ev cl n) c ρ σ ss fl ρ' σ'):(ev cl (n+1)).ss c ρ σ ss=some (fl,ρ',σ'):=h
theorem aw:ba r c ρ σ [] .next ρ σ:=rfl
theorem az(h:br r c ρ σ s=some (.next,ρ1,σ1))(k:ba r c ρ1 σ1 ss fl ρ' σ'):ba r c ρ σ (s::ss) fl ρ' σ':=by delta ba;simp only[kQ,h];exact k
theorem cq(h:br r c ρ σ s=some (.ret v,ρ1,σ1)):ba r c ρ σ (s::ss) (.ret v) ρ1 σ1:=by delta ba;simp only[kQ,h];rfl
theorem eD(h:r.e c ρ σ e=some (v,σ1)):ba r c ρ σ (.ret e::ss) (.ret v) ρ σ1:=cq (by simp only[EN,h];rfl)
theorem n5{σ:aq}{v:V}{xs:List V}(h:bc σ v=some xs):rA σ v=some xs:=by delta rA;rw[h];rfl
theorem Jo:ba r c ρ σ (.brk::ss) .brk ρ σ:=rfl
theorem HC:ba r c ρ σ (.cont::ss) .cont ρ σ:=rfl
theorem aI(he:r.e c ρ σ e=some (v,σ1))(hb:bJ c ρ σ1 t v=some (ρ1,σ2))(k:ba r c ρ1 σ2 ss fl ρ' σ'):ba r c ρ σ (.a [t] e::ss) fl ρ' σ':=
 az (by simp only[HW,he];refine(?_:(bJ c ρ σ1 t v).bind ke=_);rw[hb];rfl) k
theorem el(he:r.e c ρ σ e=some (.none,σ1))(k:ba r c ρ σ1 ss fl ρ' σ'):ba r c ρ σ (.expr e::ss) fl ρ' σ':=az (by simp only[Cs,he];rfl) k
theorem cO{old w:V}(h0:aE ρ x=some old)(he:r.e c ρ σ e=some (v,σ1))(hw:tA op old v=some w)(hs:cZ c ρ x w=some ρ1)(k:ba r c ρ1 σ1 ss fl ρ' σ'):ba r c ρ σ (.u x op e::ss) fl ρ' σ':=
 az (by simp only[Fk,h0];refine(?_:(r.e c ρ σ e).bind _=_);refine he▸?_;refine(?_:(tA op old v).bind _=_);refine hw▸?_;refine(?_:(cZ c ρ x w).map _=_);rw[hs];rfl) k
theorem lW(he:r.e c ρ σ q=some (v,σ1))(ht:aN σ1 v=some true):br r c ρ σ (.ite q a b)=r.ss c ρ σ1 a:=by simp only[Ee,he];refine(?_:(IX r c ρ a b (v,σ1))=_);simp only[IP,ht];rfl
theorem tH(he:r.e c ρ σ q=some (v,σ1))(ht:aN σ1 v=some false):br r c ρ σ (.ite q a b)=r.ss c ρ σ1 b:=by simp only[Ee,he];refine(?_:(IX r c ρ a b (v,σ1))=_);simp only[IP,ht];rfl
theorem ec(he:r.e c ρ σ q=some (v,σ1))(ht:aN σ1 v=some true)(hs:r.ss c ρ σ1 a=some (.next,ρ1,σ2))(k:ba r c ρ1 σ2 ss fl ρ' σ'):ba r c ρ σ (.ite q a b::ss) fl ρ' σ':=az ((lW he ht).trans hs) k
theorem aR(he:r.e c ρ σ q=some (v,σ1))(ht:aN σ1 v=some false)(hs:r.ss c ρ σ1 b=some (.next,ρ1,σ2))(k:ba r c ρ1 σ2 ss fl ρ' σ'):ba r c ρ σ (.ite q a b::ss) fl ρ' σ':=az ((tH he ht).trans hs) k
theorem ig{w:V}(he:r.e c ρ σ q=some (v,σ1))(ht:aN σ1 v=some true)(hs:r.ss c ρ σ1 a=some (.ret w,ρ1,σ2)):ba r c ρ σ (.ite q a b::ss) (.ret w) ρ1 σ2:=cq ((lW he ht).trans hs)
theorem lK{w:V}(he:r.e c ρ σ q=some (v,σ1))(ht:aN σ1 v=some false)(hs:r.ss c ρ σ1 b=some (.ret w,ρ1,σ2)):ba r c ρ σ (.ite q a b::ss) (.ret w) ρ1 σ2:=cq ((tH he ht).trans hs)
theorem DI(he:r.e c ρ σ q=some (v,σ1))(ht:aN σ1 v=some true)(hs:r.ss c ρ σ1 a=some (.brk,ρ1,σ2)):ba r c ρ σ (.ite q a b::ss) .brk ρ1 σ2:=by delta ba;simp only[kQ,lW he ht,hs];rfl
theorem HU(he:r.e c ρ σ q=some (v,σ1))(ht:aN σ1 v=some true)(hs:r.ss c ρ σ1 a=some (.cont,ρ1,σ2)):ba r c ρ σ (.ite q a b::ss) .cont ρ1 σ2:=by delta ba;simp only[kQ,lW he ht,hs];rfl
theorem cH{k:Nat}{F:Fn}{args:List V}{w:V}(h:fnOf k=some F)(hl:(args.length !=F.ps.length)=false)(hb:ia F.ps args F.dfl=some ρ)(hr:ba (ev (call d) 399) ⟨σ.length,F.fz⟩ ρ σ F.body (.ret v) ρ' σ')(hf:aV σ' σ.length 2 v=some w)(ht:σ'.take σ.length=σ):call (d+1) σ (.fn k) args=some (w,σ):=by rw[qh h hl hb,hr];refine(?_:(aV σ' σ.length 2 v).map _=_);rw[hf,ht];rfl
theorem I4{k:Nat}{F:Fn}{args:List V}(h:fnOf k=some F)(hl:(args.length !=F.ps.length)=false)(hb:ia F.ps args F.dfl=some ρ)(hr:ba (ev (call d) 399) ⟨σ.length,F.fz⟩ ρ σ F.body .next ρ' σ')(ht:σ'.take σ.length=σ):call (d+1) σ (.fn k) args=some (.none,σ):=by rw[qh h hl hb,hr];refine(?_:some (V.none,σ'.take σ.length)=_);rw[ht]
noncomputable def fu(r:Ev)(c:Cx)(ρ:aF)(σ:aq)(ss:List S)(v:V)(σ':aq):Prop:=∃ρ',c7 r c ρ σ ss=some (.ret v,ρ',σ')
theorem gF(h:ba r c ρ σ ss (.ret v) ρ' σ'):fu r c ρ σ ss v σ':=⟨_,h⟩
theorem aG(h:br r c ρ σ s=some (.next,ρ1,σ1))(k:fu r c ρ1 σ1 ss v σ'):fu r c ρ σ (s::ss) v σ':=ek k λρ' k=>⟨ρ',az h k⟩
theorem aO(h:r.e c ρ σ e=some (v,σ1)):fu r c ρ σ (.ret e::ss) v σ1:=⟨_,eD h⟩
theorem aJ{w:V}(he:r.e c ρ σ e=some (w,σ1))(hb:bJ c ρ σ1 t w=some (ρ1,σ2))(k:fu r c ρ1 σ2 ss v σ'):fu r c ρ σ (.a [t] e::ss) v σ':=ek k λρ' k=>⟨ρ',aI he hb k⟩
theorem Jz(he:r.e c ρ σ e=some (.none,σ1))(k:fu r c ρ σ1 ss v σ'):fu r c ρ σ (.expr e::ss) v σ':=ek k λρ' k=>⟨ρ',el he k⟩
theorem Du{old w u:V}(h0:aE ρ x=some old)(he:r.e c ρ σ e=some (u,σ1))(hw:tA op old u=some w)(hs:cZ c ρ x w=some ρ1)(k:fu r c ρ1 σ1 ss v σ'):fu r c ρ σ (.u x op e::ss) v σ':=ek k λρ' k=>⟨ρ',cO h0 he hw hs k⟩
theorem cF{w:V}(he:r.e c ρ σ q=some (w,σ1))(ht:aN σ1 w=some true)(hs:fu r' c ρ σ1 a v σ2)(hr:r.ss=c7 r'):fu r c ρ σ (.ite q a b::ss) v σ2:=ek hs λo_ k=>⟨_,ig he ht (by rw[hr];exact k)⟩
theorem L9{w:V}(he:r.e c ρ σ q=some (w,σ1))(ht:aN σ1 w=some false)(hs:fu r' c ρ σ1 b v σ2)(hr:r.ss=c7 r'):fu r c ρ σ (.ite q a b::ss) v σ2:=ek hs λo_ k=>⟨_,lK he ht (by rw[hr];exact k)⟩
theorem jF{w:V}(he:r.e c ρ σ q=some (w,σ1))(ht:aN σ1 w=some true)(hs:r.ss c ρ σ1 a=some (.next,ρ1,σ2))(k:fu r c ρ1 σ2 ss v σ'):fu r c ρ σ (.ite q a b::ss) v σ':=aG ((lW he ht).trans hs) k
theorem fY{w:V}(he:r.e c ρ σ q=some (w,σ1))(ht:aN σ1 w=some false)(hs:r.ss c ρ σ1 b=some (.next,ρ1,σ2))(k:fu r c ρ1 σ2 ss v σ'):fu r c ρ σ (.ite q a b::ss) v σ':=aG ((tH he ht).trans hs) k
theorem aH{w:V}(he:r.e c ρ σ q=some (w,σ1))(ht:aN σ1 w=some false)(hb:b=[])(h2:r.ss c ρ σ1 []=some (.next,ρ,σ1))(k:fu r c ρ σ1 ss v σ'):fu r c ρ σ (.ite q a b::ss) v σ':=fY he ht (by refine hb▸?_;exact h2) k
theorem au{k:Nat}{F:Fn}{args:List V}(h:fnOf k=some F)(hl:(args.length !=F.ps.length)=false)(hb:ia F.ps args F.dfl=some ρ)(hf:aV σ σ.length 2 v=some v)(hr:fu (ev (call d) 399) ⟨σ.length,F.fz⟩ ρ σ F.body v σ):
 call (d+1) σ (.fn k) args=some (v,σ):=ek hr λo_ hr=>cH h hl hb hr hf QG
theorem ao{f:E}{args:List E}{fv:V}{vs:List V}(hg:ju args=false)(hf:(ev cl n).e c ρ σ f=some (fv,σ1))(ha:bg (ev cl n) c ρ σ1 args=some (vs,σ2)){R:Option (V×aq)}(hc:cl σ2 fv vs=R):(ev cl (n+1)).e c ρ σ (.call f args)=R:=by simp only[bY,E4 hg,hf];refine(?_:(bg _ c ρ σ1 args).bind _=_);refine ha▸?_;refine(?_:(ev cl n).call σ2 fv vs=_);rw[vk,hc]
theorem aS{o:E}{k:Nat}{args:List E}{vs:List V}(ho:(ev cl n).e c ρ σ o=some (ov,σ1))(hk:da σ1 ov x=some (.fnm k))(ha:bg (ev cl n) c ρ σ1 args=some (vs,σ2)){R:Option (V×aq)}(hc:cl σ2 (.fn k) (ov::vs)=R):
 (ev cl (n+1)).e c ρ σ (.m o x args)=R:=by
 simp only[bY,mw,ho];refine(?_:(da σ1 ov x).bind _=_);refine hk▸?_;refine(?_:(bg _ c ρ σ1 args).bind _=_);simp only[ha,←hc];exact zI (c:=c) (a:=x)
theorem am{vs:List V}(h:r.e c ρ σ e=some (v,σ1))(hs:bg r c ρ σ1 es=some (vs,σ2)):bg r c ρ σ (e::es)=some (v::vs,σ2):=by simp only[t7,h];refine(?_:(bg r c ρ σ1 es).bind _=_);rw[hs];rfl
theorem aX{a b:E}{x:V}(ha:(ev cl n).e c ρ σ a=some (x,σ1))(hb:(ev cl n).e c ρ σ1 b=some (y,σ2))(h:ii σ2 op x y=some v):(ev cl (n+1)).e c ρ σ (.bin op a b)=some (v,σ2):=by simp only[bY,HG,ha];refine(?_:((ev cl n).e c ρ σ1 b).bind _=_);refine hb▸?_;refine(?_:(ii σ2 op x y).map _=_);rw[h];rfl
end
theorem tk(σ:aq):σ.take σ.length=σ:=QG
noncomputable def ru(p:List UInt8):List UInt8×List UInt8:=
 if[47,42,42,47].isPrefixOf p then(cut p (some 4) none,[40,46,42,47,41,63])
 else if[42,42,47].isPrefixOf p then(cut p (some 3) none,[40,46,42,47,41,63])
 else if[47].isPrefixOf p then(cut p (some 1) none,[]) else(p,[])
theorem E5(d:Nat)(σ:aq)(p:Ab)(q:V):call (d+1) σ (.fn 28) [.bytes p,q]=some (.t [.bytes (ru p).1,.bytes (ru p).2],σ):=by
 delta ru
 induction h1:[47,42,42,47].isPrefixOf p using bC with
 |true=>exact cH rfl rfl rfl (ig rfl (cG some h1) rfl) rfl (tk σ)|false=>
 induction h2:[42,42,47].isPrefixOf p using bC with
 |true=>exact cH rfl rfl rfl (lK rfl (cG some h1) (ig rfl (cG some h2) rfl)) rfl (tk σ)|false=>
 induction h3:[47].isPrefixOf p using bC with
 |true=>exact cH rfl rfl rfl (lK rfl (cG some h1) (lK rfl (cG some h2) (ig rfl (cG some h3) rfl))) rfl (tk σ)|false=>exact cH rfl rfl rfl (lK rfl (cG some h1) (lK rfl (cG some h2) (lK rfl (cG some h3) rfl))) rfl (tk σ)
section
variable {r:Ev} {c:Cx} {ρ ρ1 ρ':aF} {σ σ1 σ2 σ':aq} {s:S} {ss a b:List S} {q e:E} {v:V} {t:T} {fl:Fl}
theorem iy(he:r.e c ρ σ q=some (v,σ1))(ht:aN σ1 v=some false):br r c ρ σ (.while q b)=some (.next,ρ,σ1):=by simp only[mi,he];refine(?_:GZ r c ρ q b (v,σ1)=_);simp only[EY,ht];rfl
theorem i7(he:(ev cl (n+1)).e c ρ σ q=some (v,σ1))(ht:aN σ1 v=some true)(hb:(ev cl (n+1)).ss c ρ σ1 b=some (.next,ρ1,σ2))(k:br (ev cl n) c ρ1 σ2 (.while q b)=some (.next,ρ',σ')):
 br (ev cl (n+1)) c ρ σ (.while q b)=some (.next,ρ',σ'):=by
 simp only[mi,he];refine(?_:GZ _ c ρ q b (v,σ1)=_);simp only[EY,ht];refine(?_:((ev cl (n+1)).ss c ρ σ1 b).bind _=_);rw[hb];refine(?_:(br _ c ρ1 σ2 _).bind (wl _ c [])=_);rw[k];rfl
theorem Kj(he:(ev cl (n+1)).e c ρ σ q=some (v,σ1))(ht:aN σ1 v=some true)(hb:(ev cl (n+1)).ss c ρ σ1 b=some (.brk,ρ1,σ2)):
 br (ev cl (n+1)) c ρ σ (.while q b)=some (.next,ρ1,σ2):=by
 simp only[mi,he];refine(?_:GZ _ c ρ q b (v,σ1)=_);simp only[EY,ht];refine(?_:((ev cl (n+1)).ss c ρ σ1 b).bind _=_);rw[hb];rfl
theorem Ct{z:Nat}{xs:List V}{b:Nat}(hz:(ev cl n).e ⟨b,[1]⟩ ρ σ (.v z)=some (.list xs,σ1))(hb:xs.all G9=true):
 (ev cl (n+1)).e ⟨b,[1]⟩ ρ σ (.call (.g 89) [.gen (.p (.v x) [.eq] [.k (.bytes [])]) [.mk (.v x) (.v z) []] []])=some (.bool (xs.all wp),σ1):=by
 refine(?_:(if(x==x&&([1]:List Nat)==[1])=true then((ev cl n).e _ ρ σ _).bind _ else none)=_);rw[iP (by simp),hz];refine(?_:(if xs.all G9=true then some (V.bool _,σ1) else none)=_);exact(iP hb)
end
noncomputable def lets:List UInt8:=[97,98,47]
theorem xO(d:Nat)(σ:aq):∀x∈lets,call (d+2) σ (.fn 6) [.bytes [x]]=some (.bytes [x],σ):=by
 intro x hx;simp only[lets,P6,Qd,or_false] at hx;rcases hx with rfl|rfl|rfl
 ·exact au rfl rfl rfl rfl (aG rfl (aG (σ1:=σ) (ρ1:=[(14,.bytes [97]),(15,.bytes [97]),(16,.int 97)]) rfl (aO rfl)))
 ·exact au rfl rfl rfl rfl (aG rfl (aG (σ1:=σ) (ρ1:=[(14,.bytes [98]),(15,.bytes [98]),(16,.int 98)]) rfl (aO rfl)))
 ·exact au rfl rfl rfl rfl (aG rfl (aG (σ1:=σ) (ρ1:=[(14,.bytes [47]),(15,.bytes [47]),(16,.int 47)]) rfl (aO rfl)))
theorem fQ(d:Nat)(σ:aq){x:UInt8}(hx:x∈lets):call (d+3) σ (.fn 11001) [.inst 51 [],.bytes [x]]=some (.bytes [x],σ):=
 au rfl rfl rfl rfl (aO (ao rfl rfl rfl (xO d σ x hx)))
noncomputable def mF(s:List UInt8):List UInt8:=
 if s==[42] then[91,94,47,93,43] else s.flatMap λc=>if c==42 then[91,94,47,93,42] else if c==63 then[91,94,47,93] else[c]
noncomputable def jD:List (List UInt8):=[[97],[98],[97,98],[42],[63],[97,42],[42,98],[]]
theorem hA:(97:UInt8)∈lets:=by decide
theorem hB:(98:UInt8)∈lets:=by decide
theorem Bz(d:Nat)(σ:aq):∀s∈jD,call (d+4) σ (.fn 20) [.bytes s]=some (.bytes (mF s),σ):=by
 intro s hs;simp only[jD,P6,Qd,or_false] at hs;rcases hs with rfl|rfl|rfl|rfl|rfl|rfl|rfl|rfl
 ·refine au rfl rfl rfl rfl (fY rfl rfl rfl (aG rfl (aG rfl ?_)));refine aG (σ1:=σ) (ρ1:=?r0) ?a0 (aO ?b0)
  case a0=>refine(i7 rfl rfl (cC (az rfl (az rfl (aR rfl rfl (cC (aR rfl rfl (cC (aR rfl rfl (cC (aR rfl rfl (cC (cO rfl (aS rfl rfl rfl (fQ d σ hA)) rfl rfl aw)) aw)) aw)) aw)) aw)))) ?_);refine iy (v:=.bool false) ?_ ?_<;>rfl
  case b0=>rfl
 ·refine au rfl rfl rfl rfl (fY rfl rfl rfl (aG rfl (aG rfl ?_)));refine aG (σ1:=σ) (ρ1:=?r1) ?a1 (aO ?b1)
  case a1=>refine(i7 rfl rfl (cC (az rfl (az rfl (aR rfl rfl (cC (aR rfl rfl (cC (aR rfl rfl (cC (aR rfl rfl (cC (cO rfl (aS rfl rfl rfl (fQ d σ hB)) rfl rfl aw)) aw)) aw)) aw)) aw)))) ?_);refine iy (v:=.bool false) ?_ ?_<;>rfl
  case b1=>rfl
 ·refine au rfl rfl rfl rfl (fY rfl rfl rfl (aG rfl (aG rfl ?_)));refine aG (σ1:=σ) (ρ1:=?r2) ?a2 (aO ?b2)
  case a2=>refine(i7 rfl rfl (cC (az rfl (az rfl (aR rfl rfl (cC (aR rfl rfl (cC (aR rfl rfl (cC (aR rfl rfl (cC (cO rfl (aS rfl rfl rfl (fQ d σ hA)) rfl rfl aw)) aw)) aw)) aw)) aw)))) ?_);refine(i7 rfl rfl (cC (az rfl (az rfl (aR rfl rfl (cC (aR rfl rfl (cC (aR rfl rfl (cC (aR rfl rfl (cC (cO rfl (aS rfl rfl rfl (fQ d σ hB)) rfl rfl aw)) aw)) aw)) aw)) aw)))) ?_);refine iy (v:=.bool false) ?_ ?_<;>rfl
  case b2=>rfl
 ·exact au rfl rfl rfl rfl (cF rfl rfl (aO rfl) rfl)
 ·refine au rfl rfl rfl rfl (fY rfl rfl rfl (aG rfl (aG rfl ?_)));refine aG (σ1:=σ) (ρ1:=?r3) ?a3 (aO ?b3)
  case a3=>refine(i7 rfl rfl rfl ?_);refine iy (v:=.bool false) ?_ ?_<;>rfl
  case b3=>rfl
 ·refine au rfl rfl rfl rfl (fY rfl rfl rfl (aG rfl (aG rfl ?_)));refine aG (σ1:=σ) (ρ1:=?r4) ?a4 (aO ?b4)
  case a4=>refine(i7 rfl rfl (cC (az rfl (az rfl (aR rfl rfl (cC (aR rfl rfl (cC (aR rfl rfl (cC (aR rfl rfl (cC (cO rfl (aS rfl rfl rfl (fQ d σ hA)) rfl rfl aw)) aw)) aw)) aw)) aw)))) ?_);refine(i7 rfl rfl rfl ?_);refine iy (v:=.bool false) ?_ ?_<;>rfl
  case b4=>rfl
 ·refine au rfl rfl rfl rfl (fY rfl rfl rfl (aG rfl (aG rfl ?_)));refine aG (σ1:=σ) (ρ1:=?r5) ?a5 (aO ?b5)
  case a5=>refine(i7 rfl rfl rfl ?_);refine(i7 rfl rfl (cC (az rfl (az rfl (aR rfl rfl (cC (aR rfl rfl (cC (aR rfl rfl (cC (aR rfl rfl (cC (cO rfl (aS rfl rfl rfl (fQ d σ hB)) rfl rfl aw)) aw)) aw)) aw)) aw)))) ?_);refine iy (v:=.bool false) ?_ ?_<;>rfl
  case b5=>rfl
 ·refine au rfl rfl rfl rfl (fY rfl rfl rfl (aG rfl (aG rfl ?_)));refine aG (σ1:=σ) (ρ1:=?r6) ?a6 (aO ?b6)
  case a6=>refine iy (v:=.bool false) ?_ ?_<;>rfl
  case b6=>rfl
section
variable {r:Ev} {c:Cx} {ρ ρ1 ρ':aF} {σ σ1 σ2 σ':aq} {s:S} {ss a b:List S} {q e e2:E} {es:List E} {v:V} {t:T} {fl:Fl} {R:Option (V×aq)}
theorem bH(he:r.e c ρ σ e=some (v,σ1))(ht:aN σ1 v=some false):dh r c ρ true σ (e::e2::es)=some (v,σ1):=by rw[eA,he];refine(?_:mr r c ρ true (e2::es) (v,σ1)=_);rw[oB,ht];rfl
theorem bw(he:r.e c ρ σ e=some (v,σ1))(ht:aN σ1 v=some true)(k:dh r c ρ true σ1 (e2::es)=R):dh r c ρ true σ (e::e2::es)=R:=by rw[eA,he];refine(?_:mr r c ρ true (e2::es) (v,σ1)=_);rw[oB,ht];exact k
theorem oX(he:r.e c ρ σ e=some (v,σ1))(ht:aN σ1 v=some true):dh r c ρ false σ (e::e2::es)=some (v,σ1):=by rw[eA,he];refine(?_:mr r c ρ false (e2::es) (v,σ1)=_);rw[oB,ht];rfl
theorem o8(he:r.e c ρ σ e=some (v,σ1))(ht:aN σ1 v=some false)(k:dh r c ρ false σ1 (e2::es)=R):dh r c ρ false σ (e::e2::es)=R:=by rw[eA,he];refine(?_:mr r c ρ false (e2::es) (v,σ1)=_);rw[oB,ht];exact k
theorem cw{x:Bool}(k:r.e c ρ σ e=R):dh r c ρ x σ [e]=R:=by rw[eA,k];induction R using oA<;>rfl
theorem av{x:Bool}(k:dh (ev cl n) c ρ x σ es=R):(ev cl (n+1)).e c ρ σ (.b x es)=R:=k
theorem bV{a b:E}(he:(ev cl n).e c ρ σ q=some (v,σ1))(ht:aN σ1 v=some true)(k:(ev cl n).e c ρ σ1 a=R):(ev cl (n+1)).e c ρ σ (.ite q a b)=R:=by simp only[bY,D4,he];refine(?_:zV _ c ρ a b (v,σ1)=_);simp only[Eh,ht];exact k
theorem bN{a b:E}(he:(ev cl n).e c ρ σ q=some (v,σ1))(ht:aN σ1 v=some false)(k:(ev cl n).e c ρ σ1 b=R):(ev cl (n+1)).e c ρ σ (.ite q a b)=R:=by simp only[bY,D4,he];refine(?_:zV _ c ρ a b (v,σ1)=_);simp only[Eh,ht];exact k
theorem bD{o:E}{args:List E}{vs:List V}(ho:(ev cl n).e c ρ σ o=some (ov,σ1))(hk:da σ1 ov x=some (.val i))(ha:bg (ev cl n) c ρ σ1 args=some (vs,σ2))(hm:fC σ2 ov x vs=some v):
 (ev cl (n+1)).e c ρ σ (.m o x args)=some (v,σ2):=by
 simp only[bY,mw,ho];refine(?_:(da σ1 ov x).bind _=_);refine hk▸?_;refine(?_:(bg _ c ρ σ1 args).bind _=_);refine ha▸?_;refine(?_:(fC σ2 ov x vs).map _=_);rw[hm];rfl
theorem aK{o:E}{lo:Option E}{lv hv:Option V}{OO:aq}(ho:(ev cl n).e c ρ σ o=some (ov,σ1))(hl:gf (ev cl n) c ρ σ1 lo=some (lv,σ2))(hh:gf (ev cl n) c ρ σ2 hi=some (hv,OO))(hm:du OO ov lv hv=some v):
 (ev cl (n+1)).e c ρ σ (.l o lo hi)=some (v,OO):=by
 simp only[bY,CJ,ho];refine(?_:(gf _ c ρ σ1 lo).bind _=_);rw[hl];refine(?_:(gf _ c ρ σ2 hi).bind _=_);rw[hh];refine(?_:(du OO ov lv hv).map _=_);rw[hm];rfl
theorem aU{o i:E}{iv:V}(ho:(ev cl n).e c ρ σ o=some (ov,σ1))(hi:(ev cl n).e c ρ σ1 i=some (iv,σ2))(hm:fJ σ2 ov iv=some v):(ev cl (n+1)).e c ρ σ (.sub o i)=some (v,σ2):=by simp only[bY,Hl,ho];refine(?_:((ev cl n).e c ρ σ1 i).bind _=_);rw[hi];refine(?_:(fJ σ2 ov iv).map _=_);rw[hm];rfl
theorem aC{l e:E}{op:Cm}{x:V}{b:Bool}(hl:(ev cl n).e c ρ σ l=some (x,σ1))(he:(ev cl n).e c ρ σ1 e=some (y,σ2))(hm:iI σ2 op x y=some b):(ev cl (n+1)).e c ρ σ (.p l [op] [e])=some (.bool b,σ2):=by simp only[bY,DO,hl];refine(?_:ni _ c ρ σ1 x [op] [e]=_);simp only[jG,he];refine(?_:yO (ev cl n) c ρ x op [] [] (y,σ2)=_);simp only[AF,hm];rfl
theorem c8{body:aF→aq→V→Option (Fl×aF×aq)}{x:V}{xs:List V}(h:body ρ σ x=some (.next,ρ1,σ1)):eu body ρ σ (x::xs)=eu body ρ1 σ1 xs:=by simp only[uc,h];rfl
theorem EF{body:aF→aq→V→Option (Fl×aF×aq)}{x:V}{xs:List V}(h:body ρ σ x=some (.cont,ρ1,σ1)):eu body ρ σ (x::xs)=eu body ρ1 σ1 xs:=by simp only[uc,h];rfl
theorem iV{body:aF→aq→V→Option (Fl×aF×aq)}{x:V}{xs:List V}(h:body ρ σ x=some (.ret v,ρ1,σ1)):eu body ρ σ (x::xs)=some (.ret v,ρ1,σ1):=by simp only[uc,h];rfl
theorem cK{i:It}(h:eQ r c ρ σ it=some (i,σ1)):br r c ρ σ (.for t it b)=lP (cW r c t b) ρ σ1 i:=by simp only[EE,h];rfl
end
theorem ib{f:Nat→Option V}:∀l:List Ab,aP f (l.map .bytes)=some (l.map .bytes):=by
 intro L_;induction L_ with
 |nil=>exact rfl|cons x l IH_=>refine(?_:(some _).bind _=_);simp only[IH_];rfl
theorem pV(σ:aq)(n d:Nat)(l:List Ab):aV σ n d (.list (l.map .bytes))=some (.list (l.map .bytes)):=by induction d using Qy<;>(show(aP _ (l.map .bytes)).map V.list=_;rw[ib];rfl)
theorem u6{c:UInt8}(hl:p.length<65536):fC σ (.bytes p) 199 [.bytes [c]]=some (.list ((aL c p).map .bytes)):=by refine(?_:RM (if p.length<65536 then _ else none) _=_);rw[iP hl];rfl
theorem Dt(d:Nat)(σ:aq)(p:Ab)(h:p.contains 91=false)(hl:p.length<65536):call (d+1) σ (.fn 21) [.bytes p]=some (.list ((aL 47 p).map .bytes),σ):=
 au rfl rfl rfl (pV _ _ _ _) (cF (w:=.bool (!p.contains 91)) rfl (by refine h▸?_;rfl) (aO (bD rfl rfl rfl (u6 hl))) rfl)
noncomputable def hV(i:Nat)(rest:List (List UInt8)):List UInt8:=
 if rest.all (·.isEmpty) then(if rest.isEmpty then[46,42] else[46,42,47]) else if i==0 then[40,63,58,46,42,47,41,63,63] else[40,63,58,91,94,47,93,43,47,41,42]
theorem kW{l:List Ab}{lo hi:Option Int}:cut (l.map V.bytes) lo hi=(cut l lo hi).map .bytes:=by delta cut;rw[T9,SJ,KE]
theorem gY:rZ n (i:Int)=min i n:=by delta rZ;rw[iN (Int.not_lt.mpr (UH i)),show min (i:Int) (n:Int)=((min i n:Nat):Int) from(Lean.Omega.Int.ofNat_min i n).symm,Int.max_eq_right (UH _),UK]
theorem dU{α:Type}{l:List α}:cut l (some (i:Int)) none=l.drop i:=by
 delta cut;simp only[QG];rw[gY]
 by_cases h:i≤l.length
 ·rw[QT h]
 ·rw[SX (Qx (QN h)),Se,Qw (Qx (QN h))]
theorem BJ:∀l:List Ab,(l.map V.bytes).all G9=true:=by
 intro L_;induction L_ with
 |nil=>exact rfl|cons o_ l IH_=>exact IH_
theorem yB:∀l:List Ab,(l.map V.bytes).all wp=l.all (·.isEmpty):=by
 intro L_;induction L_ with
 |nil=>exact rfl|cons x l IH_=>refine(?_:(x.isEmpty&&_)=_);refine(IH_)▸?_;rfl
theorem FV(d:Nat)(σ:aq)(l:List Ab)(i:Nat):call (d+1) σ (.fn 22) [.list (l.map .bytes),.int i]=some (.bytes (hV i (l.drop (i+1))),σ):=by
 have hc:du σ (.list (l.map .bytes)) (some (.int ((i:Int)+1))) none=some (.list ((l.drop (i+1)).map .bytes)):=by refine(?_:some (V.list _)=_);rw[kW,show((i:Int)+1)=((i+1:Nat):Int) from rfl,dU]
 generalize l.drop (i+1)=m at hc;refine au rfl rfl rfl rfl (aJ (ρ1:=[(85,.list (l.map .bytes)),(19,.int i),(88,.list (m.map .bytes))]) (σ1:=σ) ?_ rfl ?_)
 ·exact aK rfl rfl rfl hc
 have ha:=λn cl=>Ct (cl:=cl) (n:=n) (x:=90) (z:=88) (b:=σ.length) (ρ:=[(85,.list (l.map .bytes)),(19,.int i),(88,.list (m.map .bytes))]) (σ:=σ) (σ1:=σ) (xs:=m.map .bytes);have ha:=λn cl=>ha (n+1) cl ((λo_ o_=>rfl) n cl) (BJ m);rw[yB] at ha;delta hV
 induction h1:m.all (·.isEmpty) using bC with
 |true=>
  induction m using lC with
  |nil=>exact cF (ha _ _) (by refine h1▸?_;rfl) (fY rfl rfl rfl (aO rfl)) rfl|cons x m=>exact cF (ha _ _) (by rw[h1];rfl) (cF rfl rfl (aO rfl) rfl) rfl
 |false=>
  refine aH (ha _ _) (by refine h1▸?_;rfl) rfl rfl ?_
  induction h2:(i==0) using bC with
  |true=>exact cF rfl (by refine(bA h2)▸?_;rfl) (aO rfl) rfl|false=>exact aH rfl (cG some (by simp at h2⊢;exact Vg ((Nat.pos_of_ne_zero h2)))) rfl rfl (aO rfl)
section
variable {σ:aq} {xs:List V} {cl:Call} {n:Nat} {c:Cx} {ρ:aF} {v:V}
theorem eU{x:Cell}:(σ++[x])[σ.length]?=some x:=by rw[QB nR,Rb];rfl
theorem B4{x y:Cell}:(σ++[x]).set σ.length y=σ++[y]:=by rw[Tc _ _ nR,Rb];rfl
theorem iM{x:Cell}:(σ++[x]).take σ.length=σ:=by rw[Ru nR];exact QG
theorem cP:bc (σ++[.list xs]) (.o σ.length)=some xs:=by refine(?_:(match (σ++_)[σ.length]? with|some (.list xs)=>some xs|_=>none)=_);exact eU▸rfl
theorem lf{o:E}{args:List E}{b:Nat}(hb:b≤σ.length)(ho:(ev cl n).e ⟨b,fz⟩ ρ (σ++[.list xs]) o=some (.o σ.length,σ++[.list xs]))(ha:bg (ev cl n) ⟨b,fz⟩ ρ (σ++[.list xs]) args=some ([v],σ++[.list xs]))(hv:below (σ++[Cell.list xs]).length v=true)(hl:xs.length<65536):(ev cl (n+1)).e ⟨b,fz⟩ ρ (σ++[.list xs]) (.m o 195 args)=some (.none,σ++[.list (xs++[v])]):=by
 simp only[bY,mw,ho];have hk:da (σ++[.list xs]) (.o σ.length) 195=some (.app σ.length):=by delta da jX;simp only[eU];rfl
 refine(?_:(da (σ++[.list xs]) (.o σ.length) 195).bind _=_);rw[hk];refine(?_:(bg (ev cl n) ⟨b,fz⟩ ρ _ args).bind _=_);rw[ha];refine(?_:so (ev cl n) _ _ (.o σ.length) 195 (.app σ.length) [v]=_);rw[Qa] at hv;delta so;simp only[eU];simp at hv;simp[hv,hl,hb]
end
theorem iw{α:Type}(l:List α)(i:Nat):itemAt l (i:Int)=l[i]?:=rfl
theorem d0{α:Type}(l:List α)(x:α):itemAt (l++[x]) (-1)=some x:=by
 delta itemAt;rw[iP (by decide),iP (by simp;lia)];have:((-1:Int)+((l++[x]).length:Int)).toNat=l.length:=by simp;lia
 simp only[this,QB nR,Rb];rfl
theorem ul(σ:aq)(n d:Nat):∀l:List Ab,(l.map V.bytes).mapM (aV σ n d)=some (l.map .bytes):=by
 intro L_;induction L_ with
 |nil=>exact rfl|cons x l IH_=>simp only[Qf,RK,show aV σ n d (.bytes x)=some (.bytes x) from by induction d using Qy<;>rfl];rw[IH_];rfl
theorem tX{l:List Ab}:aV (σ++[.list (l.map .bytes)]) σ.length (d+1) (.o σ.length)=some (.list (l.map .bytes)):=by
 refine(?_:(if σ.length<σ.length then some (V.o σ.length) else match (σ++[Cell.list (l.map V.bytes)])[σ.length]? with|some (.list xs)=>(xs.mapM (aV _ σ.length d)).map .list|some (.obj C fs)=>(fs.mapM λy=>(aV _ σ.length d y.2).map (TS y.1)).map (.inst C)|none=>none)=_)
 rw[iN (R0 _),eU];simp only[ul];rfl
noncomputable def bL(MQ:List (List UInt8))(s:List UInt8):List (List UInt8):=if s==[42,42]&&(MQ.getLast?==some [42,42]) then MQ else MQ++[s]
noncomputable def JY:List S:=match HT with|[_,.for _ _ b,_]=>b|_=>[]
theorem xq(cl:Call)(n:Nat)(σ:aq)(S0:V):∀ (l MQ:List Ab) (tl:aF),(tl=[]∨∃v,tl=[(80,v)])→MQ.length+l.length<65536→
 ∃MT,eu (cW (ev cl (n+12)) ⟨σ.length,[]⟩ (.v 80) JY) ((85,S0)::(92,.o σ.length)::tl) (σ++[.list (MQ.map .bytes)]) (l.map .bytes)=
   some (.next,(85,S0)::(92,.o σ.length)::MT,σ++[.list ((l.foldl bL MQ).map .bytes)]):=by
 intro L_;induction L_ with
 |nil=>intro MQ tl o_ o_;exact⟨tl,rfl⟩
 |cons s l IH_=>
  intro MQ tl Ni hl
  have set:∃jg,jg=[(80,V.bytes s)]∧bT ((85,S0)::(92,.o σ.length)::tl) 80 (.bytes s)=(85,S0)::(92,.o σ.length)::jg:=by rcases Ni with rfl|⟨v,rfl⟩<;>exact a7 (_) rfl rfl
  refine aQ set λjg z1 Nu=>?_;subst z1;obtain⟨MT,ih⟩:=IH_ (bL MQ s) [(80,.bytes s)] (.inr ⟨_,rfl⟩) (by delta bL;split<;>simp at hl⊢ <;>omega);refine⟨MT,?_⟩
  have hb:∀Oo σ',ba (ev cl (n+11)) ⟨σ.length,[]⟩ ((85,S0)::(92,.o σ.length)::[(80,V.bytes s)]) (σ++[.list (MQ.map .bytes)]) JY Oo ((85,S0)::(92,.o σ.length)::[(80,V.bytes s)]) σ'→
   cW (ev cl (n+12)) ⟨σ.length,[]⟩ (.v 80) JY ((85,S0)::(92,.o σ.length)::tl) (σ++[.list (MQ.map .bytes)]) (.bytes s)=some (Oo,(85,S0)::(92,.o σ.length)::[(80,V.bytes s)],σ'):=by
   intro Oo σ' h;simp only[Dg,gw,iX,Nu];exact h
  have push:ba (ev cl (n+11)) ⟨σ.length,[]⟩ ((85,S0)::(92,.o σ.length)::[(80,V.bytes s)]) (σ++[.list (MQ.map .bytes)]) [.expr (.m (.v 92) 195 [.v 80])] .next
   ((85,S0)::(92,.o σ.length)::[(80,V.bytes s)]) (σ++[.list ((MQ++[s]).map .bytes)]):=by
   rw[Qi];exact el (lf nR rfl rfl rfl (by simp at hl⊢;exact aZ [_,_] (.h 1 (.a (.a ab (.a ae ai)) ai) (.c 65536) (.g (.a ab ai) (.c 65536))) rfl hl)) aw
  have cond:∃v,(ev cl (n+11)).e ⟨σ.length,[]⟩ ((85,S0)::(92,.o σ.length)::[(80,V.bytes s)]) (σ++[.list (MQ.map .bytes)]) (.b true [(.p (.v 80) [.eq] [(.k (.bytes [42,42]))]),(.v 92),(.p (.sub (.v 92) (.neg (.k (.int 1)))) [.eq] [(.k (.bytes [42,42]))])])=some (v,σ++[.list (MQ.map .bytes)])∧
   aN (σ++[.list (MQ.map .bytes)]) v=some (s==[42,42]&&(MQ.getLast?==some [42,42])):=by
   induction h1:(s==[42,42]) using bC with
   |false=>exact a7 (_) (av (bH (v:=.bool (s==[42,42])) rfl (cG some h1))) (cG some h1)
   |true=>
    rcases QR MQ with rfl|⟨init,p,hp⟩
    ·have hq:aN (σ++[.list (([]:List _).map .bytes)]) (.o σ.length)=some false:=by refine(?_:(bc _ _).map _=_);rw[cP];rfl
     exact a7 _ (av (bw rfl (cG some h1) (bH rfl hq))) hq
    ·simp only[QS] at hp;subst hp;have hq:aN (σ++[.list ((init++[p]).map .bytes)]) (.o σ.length)=some true:=by refine(?_:(bc _ _).map _=_);rw[cP];simp
     have hs:fJ (σ++[.list ((init++[p]).map .bytes)]) (.o σ.length) (.int (-1))=some (.bytes p):=by refine(?_:(rA _ _).bind _=_);have:rA (σ++[.list ((init++[p]).map .bytes)]) (.o σ.length)=some ((init++[p]).map .bytes):=n5 cP;refine this▸?_;refine Qi▸?_;exact d0 _ _
     refine a7 (.bool (p==[42,42])) (av (bw rfl (cG some h1) (bw rfl hq (cw (aC (aU rfl rfl hs) rfl rfl))))) ?_;simp[aN,FL]
  refine aQ cond λv hv ht=>?_;simp only[Qf]
  induction h1:(s==[42,42]&&(MQ.getLast?==some [42,42])) using bC with
  |false=>
   rw[h1] at ht;rw[c8 (hb _ _ (aR hv ht rfl push))];have:bL MQ s=MQ++[s]:=by delta bL;rw[h1];rfl
   rw[this] at ih;rw[ih];refine(?_:_=some (Fl.next,_,σ++[Cell.list ((l.foldl bL _).map .bytes)]));rw[this]
  |true=>
   rw[h1] at ht;rw[EF (hb _ _ (HU hv ht rfl))];have:bL MQ s=MQ:=by delta bL;rw[h1];rfl
   rw[this] at ih;rw[ih];refine(?_:_=some (Fl.next,_,σ++[Cell.list ((l.foldl bL _).map .bytes)]));rw[this]
theorem Ai(d:Nat)(σ:aq)(l:List Ab)(hl:l.length<65536):call (d+1) σ (.fn 23) [.list (l.map .bytes)]=some (.list ((l.foldl bL []).map .bytes),σ):=by exact ek (xq (call d) 387 σ (.list (l.map .bytes)) l [] [] (.inl rfl) (by simpa using hl)) λtl h=>cH rfl rfl rfl (az rfl (az ((cK (i:=.items (l.map .bytes)) rfl).trans h) (eD rfl))) tX iM
noncomputable def kC:Nat→List UInt8→List (List UInt8)→List UInt8
 |_,_,[]=>[]
 |i,p,s::rest=>(if decide (0<i)&& !(p==[42,42]) then[47] else[])++
  (if s==[42,42] then(if hV i rest==[46,42] then[46,42] else hV i rest++kC (i+1) s rest) else mF s++kC (i+1) s rest)
theorem Iy:kC i p []=[]:=rfl
theorem zK{rest:List Ab}:kC i p (s::rest)=(if decide (0<i)&& !p==[42,42] then[47] else[])++if s==[42,42] then if hV i rest==[46,42] then[46,42] else hV i rest++kC (i+1) s rest else mF s++kC (i+1) s rest:=rfl
noncomputable def Jg:List S:=match H5 with|[_,_,_,_,.while _ b,_]=>b|_=>[]
noncomputable def KR:E:=.p (.v 19) [.lt] [.call (.g 32) [.v 85]]
noncomputable abbrev rI(pat:V)(res:List UInt8)(l:List (List UInt8))(i:Nat)(tl:aF):aF:=(84,pat)::(81,.bytes res)::(85,.list (l.map .bytes))::(19,.int i)::tl
theorem lh{c:Cx}{a b:Ab}(h:(a++b).length≤65536):tA .add (.bytes a) (.bytes b)=some (.bytes (a++b)):=by exact(iP h)
theorem oG(d n:Nat)(c:Cx)(σ:aq)(pat:V)(res:Ab)(l:List Ab)(i:Nat)(tl:aF):(ev (call (d+1)) (n+8)).e c (rI pat res l i tl) σ KR=some (.bool (decide ((i:Int)<(l.length:Int))),σ):=by refine(aC (y:=.int (l.map V.bytes).length) rfl rfl rfl).trans ?_;rw[KE]
theorem uW(d:Nat)(σ:aq)(c:Cx)(hc:c.fz=[])(pat:V):∀ (rest done:List Ab) (p res:Ab) (tl:aF) (m:Nat),
 (tl=[]∨(∃v,tl=[(80,v)])∨∃v w,tl=[(80,v),(94,w)])→(∀s∈rest,s=[42,42]∨s∈jD)→(done≠[]→done.getLast?=some p)→(res++kC done.length p rest).length≤65536→rest.length≤m→
 ∃i' MT,br (ev (call (d+4)) (m+14)) c (rI pat res (done++rest) done.length tl) σ (.while KR Jg)=some (.next,rI pat (res++kC done.length p rest) (done++rest) i' MT,σ)
 |[],done,p,res,tl,m,_,_,_,_,_=>by refine G4 (done.length) tl ?_;simp only[show kC done.length p []=[] from rfl,Qj];exact iy (oG _ _ _ _ _ _ _ _ _) (by simp[aN,FL,mT,bc])|s::rest,done,p,res,tl,0,_,_,_,_,hm=>by simp at hm
 |s::rest,done,p,res,tl,m+1,Ni,hs,hp,hl,hm=>by
  obtain⟨b,fz⟩:=c;subst hc
  have set:∃jg,bT (rI pat res (done++s::rest) done.length tl) 80 (.bytes s)=rI pat res (done++s::rest) done.length ((80,.bytes s)::jg)∧(jg=[]∨∃w,jg=[(94,w)]):=by
   rcases Ni with rfl|⟨v,rfl⟩|⟨v,w,rfl⟩
   ·exact a7 _ rfl (.inl rfl)
   ·exact a7 _ rfl (.inl rfl)
   ·exact a7 _ rfl (.inr ⟨_,rfl⟩)
  refine aQ set λjg Nu Pp=>?_;generalize hL:done++s::rest=L at*
  have hseg:fJ σ (.list (L.map .bytes)) (.int done.length)=some (.bytes s):=by refine(?_:itemAt _ (done.length:Int)=_);rw[iw,R8,←hL,QB nR,Rb];rfl
  have Pu:∀n,∃v,(ev (call (d+4)) (n+8)).e ⟨b,[]⟩ (rI pat res L done.length ((80,.bytes s)::jg)) σ (.b true [(.p (.v 19) [.gt] [(.k (.int 0))]),(.p (.sub (.v 85) (.bin .sub (.v 19) (.k (.int 1)))) [.ne] [(.k (.bytes [42,42]))])])=some (v,σ)∧
   aN σ v=some (decide (0<done.length)&& !(p==[42,42])):=by
   intro n
   induction hd:decide ((0:Int)<(done.length:Int)) using bC with
   |false=>
    have:decide (0<done.length)=false:=by simp at hd⊢;exact hd
    refine this▸?_;exact a7 _ (av (bH rfl (cG some hd))) (cG some hd)
   |true=>
    have h0:0<done.length:=by simp at hd;exact hd
    have h1:decide (0<done.length)=true:=by simp only[h0,decide_true]
    rw[h1];have hg:done[done.length -1]?=some p:=by refine List.getLast?_eq_getElem?▸?_;exact hp (by intro q;rw[q] at h0;exact absurd h0 (by decide))
    have NR:fJ σ (.list (L.map .bytes)) (.int ((done.length:Int) -1))=some (.bytes p):=by refine(?_:itemAt _ _=_);rw[show((done.length:Int) -1)=((done.length -1:Nat):Int) by omega,iw,R8,←hL,QP (by exact(nE (sC (aZ [_] (.h 1 (.a aj ai) ab (.g ai ab)) rfl h0)))),hg];rfl
    exact a7 (.bool (!(p==[42,42]))) (av (bw rfl (cG some hd) (cw (aC (aU rfl rfl NR) rfl rfl)))) rfl
  generalize hb:(decide (0<done.length)&& !(p==[42,42]))=sl at*;have NI:kC done.length p (s::rest)=(if sl then[47] else[])++(if s==[42,42] then(if hV done.length rest==[46,42] then[46,42] else hV done.length rest++kC (done.length+1) s rest) else mF s++kC (done.length+1) s rest):=by rw[zK,hb]
  rw[NI] at hl⊢;generalize NB:(if sl then[47] else([]:Ab))=pre at*
  have slash:∀ss fl ρ' σ',ba (ev (call (d+4)) (m+14)) ⟨b,[]⟩ (rI pat (res++pre) L done.length ((80,.bytes s)::jg)) σ ss fl ρ' σ'→
   ba (ev (call (d+4)) (m+14)) ⟨b,[]⟩ (rI pat res L done.length ((80,.bytes s)::jg)) σ (.ite (.b true [(.p (.v 19) [.gt] [(.k (.int 0))]),(.p (.sub (.v 85) (.bin .sub (.v 19) (.k (.int 1)))) [.ne] [(.k (.bytes [42,42]))])]) [(.u 81 .add (.m (.g 56) 53 [(.k (.bytes [47]))]))] []::ss) fl ρ' σ':=by
   intro ss fl ρ' σ' k;refine aQ (Pu (m+6)) λv hv ht=>?_
   induction sl using bC with
   |true=>subst NB;exact ec hv ht (cC (cO rfl (aS rfl rfl rfl (fQ (d+1) σ (by decide))) (lh (c:=⟨b,[]⟩) (by simp at hl⊢;exact aZ [_,_] (.h 1 (.a ab (.a ae ai)) (.c 65536) (.g ab (.c 65535))) rfl hl)) rfl aw)) k|false=>subst NB;rw[iN fF,Qj] at k;exact aR hv ht rfl k
  have Na:aN σ (.bool (decide ((done.length:Int)<(L.length:Int))))=some true:=by
   have:L.length=done.length+(rest.length+1):=by refine hL▸?_;simp
   simp[aN,FL,mT,bc];exact aZ [_,_,_] (.h 1 (.a ab (.a ae ai)) af (.g (.a ab ai) af)) rfl (nE this.symm)
  have start:∀fl ρ' σ',ba (ev (call (d+4)) (m+14)) ⟨b,[]⟩ (rI pat (res++pre) L done.length ((80,.bytes s)::jg)) σ
   [(.ite (.p (.v 80) [.eq] [(.k (.bytes [42,42]))]) [
   .a [(.v 94)] (.call (.g 87) [(.v 85),(.v 19)]),
   .u 81 .add (.v 94),
   .ite (.p (.v 94) [.eq] [(.k (.bytes [46,42]))]) [
    .brk] []] [
   .u 81 .add (.call (.g 79) [(.v 80)])]),
  .u 19 .add (.k (.int 1))] fl ρ' σ'→ba (ev (call (d+4)) (m+14)) ⟨b,[]⟩ (rI pat res L done.length tl) σ Jg fl ρ' σ':=λfl ρ' σ' h=>aI (aU rfl rfl hseg) (by simp only[gw,iX,Nu];rfl) (slash _ _ _ _ h)
  have hL2:L=(done++[s])++rest:=by rw[←hL];simp
  have hk:(done++[s]).length=done.length+1:=by simp
  have hi:((done.length:Int)+1)=_:=rfl
  have more:∀ (x:Ab) (M2:aF),(M2=[]∨(∃v,M2=[(80,v)])∨∃v w,M2=[(80,v),(94,w)])→(res++(pre++(x++kC (done.length+1) s rest))).length≤65536→
   ba (ev (call (d+4)) (m+14)) ⟨b,[]⟩ (rI pat res L done.length tl) σ Jg .next (rI pat (res++pre++x) L (done.length+1) M2) σ→
   ∃i' MT,br (ev (call (d+4)) (m+1+14)) ⟨b,[]⟩ (rI pat res L done.length tl) σ (.while KR Jg)=some (.next,rI pat (res++(pre++(x++kC (done.length+1) s rest))) L i' MT,σ):=by
   intro x M2 h2 hlx hr;refine ql (uW d σ ⟨b,[]⟩ rfl pat rest (done++[s]) s (res++pre++x) M2 m h2 (λy hy=>hs y (mM hy)) (λo_=>by simp) (by refine hk▸?_;simp only[Qc] at hlx⊢;exact hlx) (by simpa using hm)) λi' MT ih=>?_;rw[hk,←hL2] at ih;refine G4 i' MT (i7 (oG _ _ _ _ _ _ _ _ _) Na (cC hr) ?_);simp only[ih];simp only[Qc]
  induction h1:(s==[42,42]) using bC with
  |false=>
   rw[h1] at hl;have Pw:=(hs s mS).resolve_left λq=>by rw[q] at h1;exact absurd h1 (by decide)
   refine more (mF s) ((80,.bytes s)::jg) (by rcases Pp with rfl|⟨w,rfl⟩;exact .inr (.inl ⟨_,rfl⟩);exact .inr (.inr ⟨_,_,rfl⟩)) hl (start _ _ _ ?_);exact aR rfl (cG some h1) (cC (cO rfl (ao rfl rfl rfl (Bz d σ s Pw)) (lh (c:=⟨b,[]⟩) (by simp at hl⊢;exact aZ [_,_,_,_] (.h 1 (.a ab (.a ae (.a af ag))) (.c 65536) (.g (.a ab (.a ae af)) (.c 65536))) rfl hl)) rfl aw)) (az rfl aw)
  |true=>
   rw[h1] at hl
   have hda:call (d+4) σ (.fn 22) [.list (L.map .bytes),.int done.length]=some (.bytes (hV done.length rest),σ):=by rw[FV (d+3) σ L done.length,hL2,←hk,RJ]
   have Ph:bT (rI pat (res++pre) L done.length ((80,.bytes s)::jg)) 94 (.bytes (hV done.length rest))=rI pat (res++pre) L done.length [(80,.bytes s),(94,.bytes (hV done.length rest))]:=by rcases Pp with rfl|⟨w,rfl⟩<;>rfl
   cases h2:(hV done.length rest==[46,42]) with
   |true=>rw[h2,iP rfl] at hl;refine G4 (done.length) ([(80,.bytes s),(94,.bytes (hV done.length rest))]) (Kj (oG _ _ _ _ _ _ _ _ _) Na (cC (start _ _ _ ?_)));rw[←Qc];refine DI rfl (cG some h1) (cC (aI (ao rfl rfl rfl hda) (by rw[gw,iX,Ph];rfl) (cO rfl rfl (lh (c:=⟨b,[]⟩) (by rw[bA h2];simp at hl⊢;exact hl)) rfl (DI (v:=.bool (hV done.length rest==[46,42])) rfl (cG some h2) ?_))));refine(bA h2)▸?_;rfl|false=>rw[h2,iN fF] at hl;refine more (hV done.length rest) [(80,.bytes s),(94,.bytes (hV done.length rest))] (.inr (.inr ⟨_,_,rfl⟩)) hl (start _ _ _ ?_);exact ec rfl (cG some h1) (cC (aI (ao rfl rfl rfl hda) (by rw[gw,iX,Ph];rfl) (cO rfl rfl (lh (c:=⟨b,[]⟩) (by simp at hl⊢;exact aZ [_,_,_,_] (.h 1 (.a ab (.a ae (.a af ag))) (.c 65536) (.g (.a ab (.a ae af)) (.c 65536))) rfl hl)) rfl (aR (v:=.bool (hV done.length rest==[46,42])) rfl (cG some h2) rfl aw)))) (az rfl aw)
noncomputable def Bw(p:List UInt8):List UInt8:=if p==[42,42] then[46,42] else kC 0 [] ((aL 47 p).foldl bL [])
structure PatOk(p:List UInt8):Prop where
 nb:p.contains 91=false
 len:p.length<65536
 sl:(aL 47 p).length≤300
 sl2:((aL 47 p).foldl bL []).length≤300
 seg:∀s∈(aL 47 p).foldl bL [],s=[42,42]∨s∈jD
 out:(Bw p).length≤60000
theorem FU(d:Nat)(σ:aq)(p:Ab)(h:PatOk p):call (d+5) σ (.fn 24) [.bytes p]=some (.bytes (Bw p),σ):=by
 obtain⟨h1,h2,h3,h4,h5,h6⟩:=h;delta Bw at h6⊢
 induction hp:(p==[42,42]) using bC with
 |true=>exact au rfl rfl rfl rfl (cF rfl (cG some hp) (aO rfl) rfl)|false=>rw[hp,iN fF] at h6;refine ql (uW d σ ⟨σ.length,[]⟩ rfl (.bytes p) ((aL 47 p).foldl bL []) [] [] [] [] 385 (.inl rfl) h5 (λq=>absurd rfl q) (by simp;exact cj h6 rfl) (cj h4 rfl)) λi' MT k=>au rfl rfl rfl rfl (aH rfl (cG some hp) rfl rfl (aG rfl (aJ (ao rfl rfl (am (ao rfl rfl rfl (Dt (d+3) σ p h1 h2)) rfl) (Ai (d+3) σ (aL 47 p) (kJ h3 rfl))) rfl (aG rfl (aG (ρ1:=rI (.bytes p) (kC 0 [] ((aL 47 p).foldl bL [])) ((aL 47 p).foldl bL []) i' MT) k (aO rfl))))))
theorem Dz(d:Nat)(σ:aq)(p:Ab)(h:PatOk p):call (d+6) σ (.fn 25) [.bytes p]=some (.bytes (Bw p),σ):=au rfl rfl rfl rfl (aO (ao rfl rfl rfl (FU d σ p h)))
theorem Ds(p:Ab):(ru p).2.length≤6:=by
 delta ru
 repeat' split
 all_goals simp
noncomputable def jg(p:List UInt8):List UInt8:=[40,63,109,115,41]++(if !(cut p none (some (-1))).contains 47 then[40,46,42,47,41,63] else[])
noncomputable def KX(p:List UInt8):List UInt8:=jg p++(ru p).2++Bw (ru p).1++(if !([47].isSuffixOf (ru p).1) then[47,63] else[])++[92,90]
theorem Gc(d:Nat)(σ:aq)(p:Ab)(h:PatOk (ru p).1):call (d+7) σ (.fn 29) [.bytes p]=some (.bytes (KX p),σ):=by
 have ho:=h.out;have hq:=Ds p;have h1:(jg p).length≤11:=by delta jg;split<;>simp
 delta KX;refine au rfl rfl rfl rfl (aG rfl ?_)
 have first:∀ss v,fu (ev (call (d+6)) 399) ⟨σ.length,[]⟩ [(84,.bytes p),(81,.bytes (jg p))] σ ss v σ→
  fu (ev (call (d+6)) 399) ⟨σ.length,[]⟩ [(84,.bytes p),(81,.bytes [40,63,109,115,41])] σ (.ite (.p (.k (.bytes [47])) [.notIn] [(.l (.v 84) none (some (.neg (.k (.int 1)))))]) [
  .u 81 .add (.k (.bytes [40,46,42,47,41,63]))] []::ss) v σ:=by
  intro ss v k;delta jg at k
  induction h2:(cut p none (some (-1))).contains 47 using bC with
  |true=>rw[h2] at k;exact aH (w:=.bool (!(cut p none (some (-1))).contains 47)) rfl (by rw[h2];rfl) rfl rfl k|false=>rw[h2] at k;exact jF (w:=.bool (!(cut p none (some (-1))).contains 47)) rfl (by rw[h2];rfl) rfl k
 refine first _ _ ?_
 generalize jg p=a at h1;refine aJ (ao rfl rfl rfl (E5 (d+5) σ p (.bytes a))) rfl ?_;generalize (ru p).1=q at*;generalize (ru p).2=u at*
 have OR:∀ss v,fu (ev (call (d+6)) 399) ⟨σ.length,[]⟩ [(84,.bytes q),(81,.bytes (a++u)),(98,.bytes u)] σ ss v σ→
  fu (ev (call (d+6)) 399) ⟨σ.length,[]⟩ [(84,.bytes q),(81,.bytes a),(98,.bytes u)] σ (.ite (.v 98) [.u 81 .add (.v 98)] []::ss) v σ:=by
  intro ss v k
  induction u using lC with
  |nil=>rw[Qj] at k;exact aH rfl rfl rfl rfl k|cons y u=>exact jF rfl rfl (cC (cO rfl rfl (lh (c:=⟨0,[]⟩) (by simp at hq⊢;exact kJ (QF h1 hq) rfl)) rfl aw)) k
 refine OR _ _ ?_;have ha:(a++u).length≤17:=by simp;exact QF h1 hq
 generalize a++u=a at ha;have ht:(a++Bw q).length≤60017:=by simp;exact QF ha ho
 refine Du rfl (ao rfl rfl rfl (Dz d σ q h)) (lh (c:=⟨0,[]⟩) (cj ht rfl)) rfl ?_;generalize a++Bw q=a at ht
 have bb:∀ {x:Ab},x.length≤2→ii σ .add (.bytes _) (.bytes [92,90])=some _:=λ {x} hx=>by refine(?_:RM (if(a++x++_).length≤65536 then _ else none) _=_);rw[iP (by simp;exact aZ [_,_] (.h 1 ab (.c 60017) (.h 1 ae al (.g (.a ab (.a ae al)) (.c 65536)))) rfl ht hx)];rfl
 induction h3:[47].isSuffixOf q using bC with
 |true=>exact aH rfl (by rw[h3];rfl) rfl rfl (aO (aX (x:=.bytes (a++[])) (by rw[Qj];rfl) rfl (bb (by decide))))|false=>exact jF rfl (by rw[h3];rfl) (cC (cO rfl rfl (lh (c:=⟨0,[]⟩) (by simp;exact cj ht rfl)) rfl aw)) (aO (aX rfl rfl (bb (by decide))))
noncomputable def r7(s:List Nat):List UInt8:=s.map Q3
theorem jK(d:Nat)(σ:aq)(o:V)(s:List Nat)(h:s.all (· <128)=true):call (d+1) σ (.fn 2001) [o,.str s]=some (.bytes (r7 s),σ):=
 au rfl rfl rfl rfl (aO (bD rfl rfl rfl (by refine(?_:(if(203==203&&s.all _)=true then _ else none)=_);rw[h];rfl)))
theorem rm:∀l:List (List Nat),lO Bm (l.map .str)=some l:=by
 intro L_;induction L_ with
 |nil=>exact rfl|cons x l IH_=>refine(?_:(lO Bm _).map _=_);refine(IH_)▸?_;rfl
theorem qb:∀l:List Ab,lO mT (l.map .bytes)=some l:=by
 intro L_;induction L_ with
 |nil=>exact rfl|cons x l IH_=>refine(?_:(lO mT _).map _=_);refine(IH_)▸?_;rfl
theorem rc{α β:Type}{f:α→β}{l:List α}{lo hi:Option Int}:cut (l.map f) lo hi=(cut l lo hi).map f:=by delta cut;rw[T9,SJ,KE]
theorem pz{p:List Nat}{c:Nat}(hl:p.length<65536):fC σ (.str p) 199 [.str [c]]=some (.list ((aL c p).map .str)):=by exact(iP hl)
theorem sK{c:List Nat}{l:List (List Nat)}(hl:(aB c l).length≤65536):fC σ (.str c) 201 [.list (l.map .str)]=some (.str (aB c l)):=by refine(?_:(lO Bm _).bind _=_);simp only[rm];exact iP hl
theorem yF{c:Ab}{l:List Ab}(hc:c=[47])(hl:(aB c l).length≤65536):fC σ (.bytes c) 201 [.list (l.map .bytes)]=some (.bytes (aB c l)):=by subst hc;refine(?_:RM ((lO mT _).bind _) _=_);simp only[qb,P8,show BM (aB [47] l)=_ from iP hl];rfl
theorem vZ(d:Nat)(σ:aq)(s:List Nat)(k:Nat)(h:s.length<65536)(h2:(aB [47] ((aL 47 s).drop k)).length≤65536):call (d+1) σ (.fn 32) [.str s,.int k]=some (.str (aB [47] ((aL 47 s).drop k)),σ):=by refine au rfl rfl rfl rfl (aO (bD (ov:=.str [47]) rfl rfl (am (aK (bD (vs:=[.str [47]]) rfl rfl rfl (pz h)) rfl rfl ?_) rfl) (sK h2)));refine(?_:some (V.list _)=_);rw[rc,dU]
inductive Qt where
 |one|opt|star|plus
noncomputable def Qt.least:Qt→V
 |.one|.plus=>.int 1|_=>.int 0
noncomputable def Qt.most:Qt→V
 |.one|.opt=>.int 1|_=>.none
inductive RP where
 |oct (neg:Bool) (rs:List Nat) (q:Qt)|grp (ps:List RP) (q:Qt)|fin (q:Qt)
noncomputable def i8:V:=.str [111,99,116,101,116]
noncomputable def ug:V:=.str [103,114,111,117,112]
noncomputable def xH:V:=.str [101,110,100]
noncomputable def bZ(neg:Bool)(rs:List Nat):V:=.t [.bool neg,.list (rs.map λ(x:Nat)=>.t [.int x,.int x])]
mutual
noncomputable def RP.toV:RP→V
 |.oct neg rs q=>.t [i8,bZ neg rs,q.least,q.most]|.grp ps q=>.t [ug,.list (RP.toVs ps),q.least,q.most]|.fin q=>.t [xH,bZ true [],q.least,q.most]
noncomputable def RP.toVs:List RP→List V
 |[]=>[]|p::ps=>RP.toV p::RP.toVs ps
end
theorem As{q:Qt}:(RP.oct neg rs q).toV= .t [i8,bZ neg rs,q.least,q.most]:=rfl
theorem yN{ps:List RP}{q:Qt}:(RP.grp ps q).toV= .t [ug,.list (RP.toVs ps),q.least,q.most]:=rfl
theorem DX{q:Qt}:(RP.fin q).toV= .t [xH,bZ true [],q.least,q.most]:=rfl
theorem jV:RP.toVs []=[]:=rfl
theorem iJ{p:RP}{ps:List RP}:RP.toVs (p::ps)=p.toV::RP.toVs ps:=rfl
theorem rV:∀ (a b:List RP),RP.toVs (a++b)=RP.toVs a++RP.toVs b:=by
 intro L_;induction L_ with
 |nil=>intro b;simp only[Sp,jV]|cons p a IH_=>intro b;simp only[TF,iJ,IH_ b]
theorem aW{u:Ab}{c:UInt8}(h:t.drop i=c::u):t[i]?=some c∧t.drop (i+1)=u∧i<t.length:=by
 have hl:i<t.length:=by
  rcases Ui i t.length with q|q
  ·exact q
  ·rw[Qw q] at h;cases h
 rw[QO hl] at h;obtain⟨rfl,rfl⟩:=QD h;exact ou (Qs hl) rfl hl
theorem q5(h:t.drop i=[]):t.length≤i:=Rp.mp h
theorem dI{c:UInt8}(h:t[i]?=some c):fJ σ (.bytes t) (.int i)=some (.int c.toNat):=by refine(?_:RM ((itemAt t _).map _) _=_);rw[iw,h];rfl
theorem FO{k:Nat}:cut t (some (i:Int)) (some ((i:Int)+(k:Int)))=(t.drop i).take k:=by
 delta cut;simp only[show((i:Int)+(k:Int))=((i+k:Nat):Int) from rfl,gY,TW]
 by_cases h:i≤t.length
 ·rw[QT h]
  by_cases h2:i+k≤t.length
  ·rw[QT h2,S3]
  ·rw[SX (Qx (QN h2)),Qn (by simp),Qn (by simp;exact aZ [_,_,_] (.h 1 (.a ab ai) (.a ae af) (.g ab (.a af ae))) rfl (QN h2))]
 ·rw[SX (Qx (QN h):t.length≤i),Se,Qw (Qx (QN h))];simp
theorem nY{xs ys:List V}(h:xs.mapM (aV (σ++[Cell.list xs]) σ.length d)=some ys):∃f,aV (σ++[Cell.list xs]) σ.length (d+1)=aY f∧f σ.length=some (.list ys):=by
 refine a7 _ rfl ?_
 refine(?_:(if σ.length<σ.length then some (V.o σ.length) else match (σ++[Cell.list xs])[σ.length]? with|some (.list zs)=>(zs.mapM (aV _ σ.length d)).map .list|some (.obj C fs)=>(fs.mapM λy=>(aV _ σ.length d y.2).map (TS y.1)).map (.inst C)|none=>none)=_)
 rw[iN (R0 _),eU];simp only[h];rfl
theorem C0(d:Nat)(σ:aq)(t:Ab)(i:Nat)(h:t[i]?=some 47):call (d+1) σ (.fn 7) [.bytes t,.int i]=some (.t [.int 47,.int ((i+1:Nat):Int)],σ):=
 au rfl rfl rfl rfl (cF (aC (aU rfl rfl (dI h)) rfl rfl) rfl (aO (by rw[bY,kt (by decide),am (aU rfl rfl (dI h)) (am (v:=.int ((i+1:Nat):Int)) rfl rfl)];rfl)) rfl)
theorem Dy(d:Nat)(σ:aq)(t u:Ab)(i:Nat)(h:t.drop i=94::47::93::u):call (d+3) σ (.fn 8) [.bytes t,.int i]=some (.t [bZ true [47],.int ((i+3:Nat):Int)],σ):=by
 refine cps λX_ k_=>dR (aW h) λh0 h o_=>dR (aW h) λh1 h o_=>dR (aW h) λh2 o_ o_=>k_ ?_
 refine cH (v:=.t [.t [.bool true,.o σ.length],.int ((i+3:Nat):Int)]) (σ':=σ++[Cell.list [.t [.int 47,.int 47]]]) rfl rfl rfl
  (aI (aC (x:=.int 94) (aU rfl rfl (dI h0)) rfl rfl) rfl (ec rfl rfl rfl (az rfl (az (ρ1:=?r) (σ1:=σ++[Cell.list [.t [.int 47,.int 47]]]) ?w (eD ?x))))) ?f iM
 case w=>
  refine i7 (aC (x:=.int 47) (aU rfl rfl (dI h1)) rfl rfl) rfl
   (cC (aI (ao rfl rfl rfl (C0 (d+1) _ t (i+1) h1)) rfl (az rfl (aR (aC (x:=.int 93) (aU rfl rfl (dI h2)) rfl rfl) rfl rfl (el (lf nR rfl rfl rfl (by decide)) aw))))) ?_
  refine iy (v:=.bool false) ?_ ?_;exact aC (x:=.int 93) (y:=.int 93) (aU rfl rfl (dI h2)) rfl rfl;rfl
 case x=>rfl
 case f=>refine aQ (nY (σ:=σ) (xs:=[.t [.int 47,.int 47]]) (d:=1) rfl) λf e hf=>?_;simp only[e,kj,tJ,oN,hf];rfl
inductive It9 (G:List UInt8→List RP→List UInt8→Prop):List UInt8→V→V→(Qt→RP)→List UInt8→Prop
 |cls {t0:_}:It9 G (91::94::47::93::t0) i8 (bZ true [47]) (RP.oct true [47]) t0|dot {t0:_}:It9 G (46::t0) i8 (bZ true []) (RP.oct true []) t0|fin {t0:_}:It9 G (92::90::t0) xH (bZ true []) RP.fin t0|lit {c t0:_}:c∈lets→It9 G (c::t0) i8 (bZ false [c.toNat]) (RP.oct false [c.toNat]) t0|grp {g ps t0:_}:G g ps (41::t0)→It9 G (40::63::58::g) ug (.list (RP.toVs ps)) (RP.grp ps) t0|grpD {g ps t0:_}:G (46::g) ps (41::t0)→It9 G (40::46::g) ug (.list (RP.toVs ps)) (RP.grp ps) t0
inductive Qt9:List UInt8→Qt→List UInt8→Prop
 |one0:Qt9 [] .one []|one {c t:_}:c≠42→c≠43→c≠63→Qt9 (c::t) .one (c::t)|plus {c t:_}:c≠63→Qt9 (43::c::t) .plus (c::t)|star {c t:_}:c≠63→Qt9 (42::c::t) .star (c::t)|opt {c t:_}:c≠63→Qt9 (63::c::t) .opt (c::t)|lopt {t:_}:Qt9 (63::63::t) .opt t
inductive Rd (G:List UInt8→List RP→List UInt8→Prop):List UInt8→List RP→List UInt8→Prop
 |nil:Rd G [] [] []|close {t:_}:Rd G (41::t) [] (41::t)|step {t k w f t0 q t1 ps t2:_}:It9 G t k w f t0→Qt9 t0 q t1→Rd G t1 ps t2→Rd G t (f q::ps) t2
noncomputable def b9:List S:=match KO with|[_,.while _ b,_]=>b|_=>[]
noncomputable def q9:E:=match KO with|[_,.while q _,_]=>q|_=>.bad
noncomputable def Lu:S:=match b9 with|[_,_,s,_,_,_]=>s|_=>.bad
noncomputable def Mm:S:=match b9 with|[_,_,_,_,s,_]=>s|_=>.bad
noncomputable abbrev R9(M0:List UInt8)(i:Nat)(n:Nat)(tl:aF):aF:=(7,.bytes M0)::(19,.int i)::(27,.o n)::tl
noncomputable abbrev KW(k w:V)(tl:aF):aF:=(28,k)::(29,w)::tl
section
variable {cl:Call} {m i n:Nat} {c:Cx} {σ σ':aq} {M0 t t0:Ab} {tl:aF} {ss:List S} {fl:Fl} {ρ':aF} {k w:V} {f:Qt→RP} {G:Ab→List RP→Ab→Prop}
theorem jx{k:Nat}(h:M0.drop i=t):du σ (.bytes M0) (some (.int i)) (some (.int ((i:Int)+(k:Int))))=some (.bytes (t.take k)):=by refine(?_:some (V.bytes _)=_);refine FO▸?_;exact h▸rfl
theorem bz{x:UInt8}{op:Cm}{z:Int}{b:Bool}(hx:aE ρ 7=some (.bytes M0))(hi:aE ρ 19=some (.int i))(h:M0[i]?=some x)(hb:iI σ op (.int x.toNat) (.int z)=some b):
 (ev cl (m+4)).e c ρ σ (.p (.sub (.v 7) (.v 19)) [op] [.k (.int z)])=some (.bool b,σ):=
 aC (aU (by refine(?_:(aE ρ 7).map _=_);rw[hx];rfl) (by refine(?_:(aE ρ 19).map _=_);rw[hi];rfl) (dI h)) rfl hb
theorem rW(d:Nat)(Oz:cl=call (d+3))(hc:c.fz=[])(hG:∀g ps u j,M0.drop j=g→G g ps (41::u)→∃j',call (d+3) σ (.fn 9) [.bytes M0,.int j]=some (.t [.list (RP.toVs ps),.int (j':Nat)],σ)∧M0.drop j'=41::u)(h:M0.drop i=t)(it:It9 G t k w f t0):∃i0,M0.drop i0=t0∧∀ss fl ρ' σ',ba (ev cl (m+22)) c (R9 M0 i0 n (KW k w tl)) σ ss fl ρ' σ'→ba (ev cl (m+22)) c (R9 M0 i n (KW i8 (bZ true []) tl)) σ (Lu::ss) fl ρ' σ':=by
 obtain⟨b,fz⟩:=c;subst hc;subst Oz;cases it with
 |cls=>obtain⟨h0,h1,_⟩:=aW h;obtain⟨_,h2,_⟩:=aW h1;refine dR (aW h2) λo_ h3 o_=>dR (aW h3) λo_ h4 o_=>a7 (i+4) h4 (λss fl ρ' σ' r=>?_);exact aR (aC (aK rfl rfl rfl (jx h)) rfl rfl) rfl (cC (aR (bz rfl rfl h0 rfl) rfl (cC (ec (bz rfl rfl h0 rfl) rfl (cC (aI (ao rfl rfl rfl (Dy d σ M0 t0 (i+1) h1)) rfl aw)) aw)) aw)) r|dot=>refine dR (aW h) λh0 h1 o_=>a7 (i+1) h1 (λss fl ρ' σ' r=>?_);exact aR (aC (aK rfl rfl rfl (jx h)) rfl rfl) rfl (cC (aR (bz rfl rfl h0 rfl) rfl (cC (aR (bz rfl rfl h0 rfl) rfl (cC (aR (aC (aK rfl rfl rfl (jx h)) rfl rfl) rfl (cC (ec (bz rfl rfl h0 rfl) rfl rfl aw)) aw)) aw)) aw)) r|fin=>refine cps λX_ k_=>dR (aW h) λh0 h1 _=>dR (aW h1) λo_ h2 o_=>k_ ?_;refine a7 (i+2) h2 (λss fl ρ' σ' r=>?_);exact aR (aC (aK rfl rfl rfl (jx h)) rfl rfl) rfl (cC (aR (bz rfl rfl h0 rfl) rfl (cC (aR (bz rfl rfl h0 rfl) rfl (cC (ec (aC (aK rfl rfl rfl (jx h)) rfl rfl) rfl rfl aw)) aw)) aw)) r
 |lit hx=>
  refine dR (aW h) λh0 h1 o_=>a7 (i+1) h1 (λss fl ρ' σ' r=>?_);have ht:∀x∈lets,M0[i]?=some x→bg (ev (call (d+3)) (m+14)) ⟨b,[]⟩ (R9 M0 i n (KW i8 (bZ true []) tl)) σ [(.sub (.v 7) (.v 19)),(.sub (.v 7) (.v 19))]=some _:=λx o_ h0=>am (aU rfl rfl (dI h0)) (am (aU rfl rfl (dI h0)) rfl)
  have fin:∀x∈lets,M0[i]?=some x→(ev (call (d+3)) (m+17)).e ⟨b,[]⟩ (R9 M0 i n (KW i8 (bZ true []) tl)) σ (.t [(.k (.bool false)),(.list [(.t [(.sub (.v 7) (.v 19)),(.sub (.v 7) (.v 19))])])])=some (bZ false [x.toNat],σ):=λx hx h0=>by
   rw[bY,kt (by decide)]
   have e1:(ev (call (d+3)) (m+15)).e ⟨b,[]⟩ (R9 M0 i n (KW i8 (bZ true []) tl)) σ (.t [(.sub (.v 7) (.v 19)),(.sub (.v 7) (.v 19))])=some (.t [.int x.toNat,.int x.toNat],σ):=by rw[bY,kt (by decide),ht x hx h0];rfl
   have e2:(ev (call (d+3)) (m+16)).e ⟨b,[]⟩ (R9 M0 i n (KW i8 (bZ true []) tl)) σ (.list [(.t [(.sub (.v 7) (.v 19)),(.sub (.v 7) (.v 19))])])=some (.list [.t [.int x.toNat,.int x.toNat]],σ):=by rw[bY,jP (by decide),am e1 rfl];rfl
   rw[am rfl (am e2 rfl)];rfl
  have f2:=fin _ hx h0;simp only[lets,P6,Qd,or_false] at hx;rcases hx with rfl|rfl|rfl<;>
  exact aR (aC (aK rfl rfl rfl (jx h)) rfl rfl) rfl (cC (aR (bz rfl rfl h0 rfl) rfl (cC (aR (bz rfl rfl h0 rfl) rfl (cC (aR (aC (aK rfl rfl rfl (jx h)) rfl rfl) rfl (cC (aR (bz rfl rfl h0 rfl) rfl (cC (aR (bz rfl rfl h0 rfl) rfl rfl (aI f2 rfl (az rfl aw)))) aw)) aw)) aw)) aw)) r
 |grp hg=>
  refine dR (aW h) λh0 h1 o_=>dR (aW h1) λg1 h2 o_=>dR (aW h2) λo_ h3 o_=>aQ (hG _ _ _ _ h3 hg) λj' Od hj=>dR (aW hj) λo_ h5 o_=>a7 (j'+1) h5 (λss fl ρ' σ' r=>?_)
  exact aR (aC (aK rfl rfl rfl (jx h)) rfl rfl) rfl (cC (ec (bz rfl rfl h0 rfl) rfl (cC (az rfl (aI (ao rfl rfl (am rfl (am (v:=.int ((i+3:Nat):Int))
   (bV (aC (x:=.int 63) (aU rfl rfl (dI g1)) rfl rfl) rfl rfl) rfl)) Od) rfl (az rfl aw)))) aw)) r
 |grpD hg=>
  refine dR (aW h) λh0 h1 o_=>dR (aW h1) λg1 o_ o_=>aQ (hG _ _ _ _ h1 hg) λj' Od hj=>dR (aW hj) λo_ h5 o_=>a7 (j'+1) h5 (λss fl ρ' σ' r=>?_)
  exact aR (aC (aK rfl rfl rfl (jx h)) rfl rfl) rfl (cC (ec (bz rfl rfl h0 rfl) rfl (cC (az rfl (aI (ao rfl rfl (am rfl (am
   (bN (aC (aU rfl rfl (dI g1)) rfl rfl) rfl rfl) rfl)) Od) rfl (az rfl aw)))) aw)) r
theorem ne_int{x:UInt8}{k:Nat}(hk:k<256)(h:x≠Q3 k):((x.toNat:Int)==(k:Int))=false:=by
 induction q:((x.toNat:Int)==(k:Int)) using bC with
 |false=>rfl|true=>refine absurd ?_ h;have:=Uz (bA q);simp only[←this,UInt8.ofNat_toNat]
theorem CZ{x:UInt8}{b:Ab}:wv σ (.int x.toNat) (.bytes b)=some (b.contains x):=by
 have hx:x.toNat<256:=x.toNat_lt;refine(?_:RM (RM (if 0≤(x.toNat:Int)∧(x.toNat:Int)<256 then some _ else none) _) _=_);rw[iP ⟨by lia,by lia⟩];refine(?_:some _=_);congr 1
 induction b with
 |nil=>rfl
 |cons y b ih=>
  simp only[RA];congr 1
  induction q:(x==y) using bC with
  |true=>rw[bA q];simp
  |false=>
   induction q2:((y.toNat:Int)==(x.toNat:Int)) using bC with
   |false=>rfl|true=>rw[RY.mp (Uz (bA q2))] at q;simp at q
theorem rt{x:UInt8}{z:Ab}{b:Bool}(hz:IV (.bytes z)=true)(hx:aE ρ 7=some (.bytes M0))(hi:aE ρ 19=some (.int i))(h:M0[i]?=some x)(hb:z.contains x=b):
 (ev cl (m+4)).e c ρ σ (.p (.sub (.v 7) (.v 19)) [.in] [.k (.bytes z)])=some (.bool b,σ):=
 aC (aU (by refine(?_:(aE ρ 7).map _=_);rw[hx];rfl) (by refine(?_:(aE ρ 19).map _=_);rw[hi];rfl) (dI h)) (by simp only[bY,Cz hz];rfl) (by subst hb;exact CZ)
theorem gC{b:Bool}(hx:aE ρ 7=some (.bytes M0))(hi:aE ρ 19=some (.int i))(h3:decide (i<M0.length)=b):(ev (call (d+1)) (m+5)).e c ρ σ (.p (.v 19) [.lt] [.call (.g 32) [.v 7]])=some (.bool b,σ):=by refine aC (y:=.int M0.length) (by refine(?_:(aE ρ 19).map _=_);rw[hi];rfl) (ao rfl rfl (am (by refine(?_:(aE ρ 7).map _=_);rw[hx];rfl) rfl) rfl) ?_;subst h3;refine(?_:some _=_);congr 1;simp
theorem wZ(d:Nat)(Oz:cl=call (d+1))(hc:c.fz=[]){q:Qt}{t1:Ab}{l m0:V}(h:M0.drop i=t0)(qt:Qt9 t0 q t1)(hl:l= .int 1)(hm:m0= .int 1):∃i1,M0.drop i1=t1∧∀ss fl ρ' σ',ba (ev cl (m+22)) c (R9 M0 i1 n (KW k w [(30,q.least),(31,q.most)])) σ ss fl ρ' σ'→
 ba (ev cl (m+22)) c (R9 M0 i n (KW k w [(30,l),(31,m0)])) σ (Mm::ss) fl ρ' σ':=by
 obtain⟨b,fz⟩:=c;subst hc;subst Oz;subst hl hm
 have tail:∀ (j:Nat) (t1:Ab) (l1 m1:V) (c0:UInt8),M0.drop j=c0::t1→c0≠63→ba (ev (call (d+1)) (m+21)) ⟨b,[]⟩ (R9 M0 j n (KW k w [(30,l1),(31,m1)])) σ
  [.ite (.b true [(.p (.v 19) [.lt] [(.call (.g 32) [(.v 7)])]),(.p (.sub (.v 7) (.v 19)) [.eq] [(.k (.int 63))])]) [.u 19 .add (.k (.int 1))] []] .next (R9 M0 j n (KW k w [(30,l1),(31,m1)])) σ:=by
  intro j t1 l1 m1 c0 hj hc0;exact dR (aW hj) λg0 o_ gl=>aR (av (bw (gC rfl rfl (decide_eq_true gl)) rfl (cw (bz rfl rfl g0 (cG some (ne_int (by decide) hc0)))))) rfl rfl aw
 induction qt using Internal.Qt9.casesOn with
 |one0=>refine a7 i h (λss fl ρ' σ' r=>?_);exact aR (av (bH (gC rfl rfl (decide_eq_false (QQ.mpr (q5 h)))) rfl)) rfl rfl r|one a1 a2 a3=>obtain⟨h0,h1,Na⟩:=aW h;refine a7 i h (λss fl ρ' σ' r=>?_);exact aR (av (bw (gC rfl rfl (decide_eq_true Na)) rfl (cw (rt (by decide) rfl rfl h0 (by simp[a1,a2,a3]))))) rfl rfl r
 |plus a1=>
  obtain⟨h0,h1,Na⟩:=aW h;refine a7 (i+1) h1 (λss fl ρ' σ' r=>?_)
  exact ec (av (bw (gC rfl rfl (decide_eq_true Na)) rfl (cw (rt (by decide) rfl rfl h0 (by decide))))) rfl
   (cC (aI (v:=.int 1) (bV (bz rfl rfl h0 rfl) rfl rfl) rfl (aI (v:=.none) (bN (bz rfl rfl h0 rfl) rfl rfl) rfl (az rfl (tail (i+1) _ _ _ _ h1 a1))))) r
 |star a1=>
  obtain⟨h0,h1,Na⟩:=aW h;refine a7 (i+1) h1 (λss fl ρ' σ' r=>?_)
  exact ec (av (bw (gC rfl rfl (decide_eq_true Na)) rfl (cw (rt (by decide) rfl rfl h0 (by decide))))) rfl
   (cC (aI (v:=.int 0) (bN (bz rfl rfl h0 rfl) rfl rfl) rfl (aI (v:=.none) (bN (bz rfl rfl h0 rfl) rfl rfl) rfl (az rfl (tail (i+1) _ _ _ _ h1 a1))))) r
 |opt a1=>
  obtain⟨h0,h1,Na⟩:=aW h;refine a7 (i+1) h1 (λss fl ρ' σ' r=>?_)
  exact ec (av (bw (gC rfl rfl (decide_eq_true Na)) rfl (cw (rt (by decide) rfl rfl h0 (by decide))))) rfl
   (cC (aI (v:=.int 0) (bN (bz rfl rfl h0 rfl) rfl rfl) rfl (aI (v:=.int 1) (bV (bz rfl rfl h0 rfl) rfl rfl) rfl (az rfl (tail (i+1) _ _ _ _ h1 a1))))) r
 |lopt=>
  obtain⟨h0,h1,Na⟩:=aW h;refine dR (aW h1) λg0 h2 glt=>a7 (i+2) h2 (λss fl ρ' σ' r=>?_)
  exact ec (av (bw (gC rfl rfl (decide_eq_true Na)) rfl (cw (rt (by decide) rfl rfl h0 (by decide))))) rfl
   (cC (aI (v:=.int 0) (bN (bz rfl rfl h0 rfl) rfl rfl) rfl (aI (v:=.int 1) (bV (bz rfl rfl h0 rfl) rfl rfl) rfl (az rfl (ec (v:=.bool true) (av (bw (gC rfl rfl (decide_eq_true glt)) rfl (cw (bz rfl rfl g0 rfl)))) rfl rfl aw))))) r
end
theorem A6{G:Ab→List RP→Ab→Prop}{t0:Ab}{k w:V}{f:Qt→RP}(h:It9 G t k w f t0):∃c u,t=c::u∧c≠41:=by
 induction h using Internal.It9.casesOn with
 |lit hx=>refine oD _ _ rfl ?_;simp only[lets,P6,Qd,or_false] at hx;rcases hx with rfl|rfl|rfl<;>decide
 |_=>exact oD _ _ rfl (by decide)
theorem vg{G:Ab→List RP→Ab→Prop}{t0:Ab}{k w:V}{f:Qt→RP}(h:It9 G t k w f t0)(q:Qt):(f q).toV= .t [k,w,q.least,q.most]:=by induction h using Internal.It9.casesOn<;>simp only[As,yN,DX]
mutual
theorem n7 (n:Nat):∀p:RP,below n p.toV=true
 |.oct neg rs q=>by
   have:cr n (rs.map λ(x:Nat)=>V.t [.int x,.int x])=true:=by induction rs with|nil=>rfl|cons x rs ih=>show(true&&cr n _)=_;rw[ih];rfl
   induction q using Internal.Qt.casesOn<;>(refine(cG (λz=>true&&((true&&(z&&true))&&_)) this).trans ?_;rfl)
 |.grp ps q=>by
   have:=fU n ps
   induction q using Internal.Qt.casesOn<;>(refine(cG (λz=>true&&(z&&_)) this).trans ?_;rfl)
 |.fin q=>by induction q using Internal.Qt.casesOn<;>rfl
theorem fU (n:Nat):∀ps:List RP,cr n (RP.toVs ps)=true
 |[]=>by simp only[jV];rfl|p::ps=>by simp only[iJ,Hp,n7 n p,fU n ps];rfl
end
theorem yW:∀ps:List RP,(RP.toVs ps).length=ps.length:=by
 intro L_;induction L_ with
 |nil=>simp only[jV];rfl|cons p ps IH_=>simp only[iJ,QK,IH_]
theorem BA(d:Nat)(σ:aq)(M0:Ab){G:Ab→List RP→Ab→Prop}(hG:∀σ g ps u j,M0.drop j=g→G g ps (41::u)→∃j',call (d+3) σ (.fn 9) [.bytes M0,.int j]=some (.t [.list (RP.toVs ps),.int (j':Nat)],σ)∧M0.drop j'=41::u){ps:List RP}(rd:Rd G t ps t2):
 ∀ (i m:Nat) (MQ:List RP) (tl:aF),M0.drop i=t→(tl=[]∨∃a b c e,tl=KW a b [(30,c),(31,e)])→ps.length≤m→MQ.length+ps.length<60000→
   ∃i' MT,br (ev (call (d+3)) (m+24)) ⟨σ.length,[]⟩ (R9 M0 i σ.length tl) (σ++[Cell.list (RP.toVs MQ)]) (.while q9 b9)=some (.next,R9 M0 i' σ.length MT,σ++[Cell.list (RP.toVs (MQ++ps))])∧M0.drop i'=t2:=by
 induction rd with
 |nil=>intro i m MQ tl h Ni hm hl;refine oD i tl ?_ h;rw[Qj];exact iy (av (bH (gC rfl rfl (decide_eq_false (QQ.mpr (q5 h)))) rfl)) rfl|close=>intro i m MQ tl h Ni hm hl;refine dR (aW h) λh0 o_ Na=>oD i tl ?_ h;rw[Qj];exact iy (v:=.bool false) (av (bw (gC rfl rfl (decide_eq_true Na)) rfl (cw (bz rfl rfl h0 rfl)))) rfl
 | @step t k w f t0 q t1 ps t2 it qt _ ih=>
   intro i m MQ tl h Ni hm hl;obtain⟨m,rfl⟩:∃m',m=m'+1:=⟨m -1,by simp at hm;exact Qg (iW _ _) (nE (sC (aZ [_,m] (.h 1 (.a ab ai) ae (.g ai ae)) rfl hm)))⟩;refine ie (A6 it) λx u z2 hx=>?_;subst z2;refine dR (aW h) λh0 o_ Na=>?_
   have Pm:∃i0,M0.drop i0=t0∧∃M2,(M2=[]∨∃c e,M2=[(30,c),(31,e)])∧∀ss fl ρ' σ',ba (ev (call (d+3)) (m+24)) ⟨σ.length,[]⟩ (R9 M0 i0 σ.length (KW k w M2)) (σ++[Cell.list (RP.toVs MQ)]) ss fl ρ' σ'→
    ba (ev (call (d+3)) (m+24)) ⟨σ.length,[]⟩ (R9 M0 i σ.length tl) (σ++[Cell.list (RP.toVs MQ)]) (.a [(.v 28)] (.k (.str [111,99,116,101,116]))::.a [(.v 29)] (.t [(.k (.bool true)),(.list [])])::Lu::ss) fl ρ' σ':=by
    rcases Ni with rfl|⟨a,b,c,e,rfl⟩
    ·exact aQ (rW (m:=m+2) (c:=⟨σ.length,[]⟩) (n:=σ.length) (tl:=[]) d rfl rfl (hG (σ++[Cell.list (RP.toVs MQ)])) h it) λi0 g0 r0=>a7 i0 g0 ⟨[],.inl rfl,λss fl ρ' σ' r=>az rfl (az rfl (r0 ss fl ρ' σ' r))⟩
    ·exact aQ (rW (m:=m+2) (c:=⟨σ.length,[]⟩) (n:=σ.length) (tl:=[(30,c),(31,e)]) d rfl rfl (hG (σ++[Cell.list (RP.toVs MQ)])) h it) λi0 g0 r0=>a7 i0 g0 ⟨_,.inr ⟨c,e,rfl⟩,λss fl ρ' σ' r=>az rfl (az rfl (r0 ss fl ρ' σ' r))⟩
   refine aQ Pm λi0 g0 z1=>aQ z1 λM2 htl2 r0=>aQ (wZ (m:=m+2) (σ:=σ++[Cell.list (RP.toVs MQ)]) (c:=⟨σ.length,[]⟩) (n:=σ.length) (k:=k) (w:=w) (d+2) rfl rfl g0 qt rfl rfl) λi1 g1 r1=>ie (ih i1 m (MQ++[f q]) (KW k w [(30,q.least),(31,q.most)]) g1 (.inr ⟨_,_,_,_,rfl⟩) (by simpa using hm) (by simp at hl⊢;exact aZ [_,_] (.h 1 (.a (.a ab (.a ae ai)) ai) (.c 60000) (.g (.a (.a (.a ab ai) ae) ai) (.c 60000))) rfl hl)) λi' MT O4 OD=>oD i' MT (i7 (av (bw (gC rfl rfl (decide_eq_true Na)) rfl (cw (bz rfl rfl h0 ?_)))) rfl (cC (r0 _ _ _ _ ?_)) (O4.trans (by rw[Qc];rfl))) OD
   ·refine(?_:some _=_);refine(ne_int (by decide) hx)▸?_;rfl
   have app:∀ρ',ρ'=R9 M0 i1 σ.length (KW k w [(30,q.least),(31,q.most)])→ba (ev (call (d+3)) (m+24)) ⟨σ.length,[]⟩ ρ' (σ++[Cell.list (RP.toVs MQ)]) [.expr (.m (.v 27) 195 [(.t [(.v 28),(.v 29),(.v 30),(.v 31)])])] .next ρ' (σ++[Cell.list (RP.toVs (MQ++[f q]))]):=by intro ρ' e;subst e;rw[rV,show RP.toVs [f q]=[V.t [k,w,q.least,q.most]] by simp only[jV,iJ,vg it]];exact el (lf nR rfl rfl (by refine(vg it q)▸?_;exact n7 _ _) (by rw[yW];exact aZ [_,_] (.h 1 (.a (.a ab (.a ae ai)) ai) (.c 60000) (.g (.a ab ai) (.c 65536))) rfl hl)) aw
   rcases htl2 with rfl|⟨c,e,rfl⟩
   ·exact az rfl (r1 _ _ _ _ (app _ rfl))
   ·exact az rfl (r1 _ _ _ _ (app _ rfl))
mutual
theorem RP.frz (f:Nat→Option V):∀p:RP,aY f p.toV=some p.toV
 |.oct neg rs q=>by
   have:aP f (rs.map λ(x:Nat)=>V.t [.int x,.int x])=some (rs.map λ(x:Nat)=>V.t [.int x,.int x]):=by induction rs with|nil=>rfl|cons x rs ih=>show(some (V.t [.int x,.int x])).bind _=_;simp only[ih];rfl
   induction q using Internal.Qt.casesOn<;>simp[As,bZ,oN,i5,vC,vu,yk,A1,vG,kj,this,i8,Qt.least,Qt.most]
 |.grp ps q=>by
   have:=RP.frzs f ps
   induction q using Internal.Qt.casesOn<;>simp[yN,oN,i5,vC,yk,A1,vG,kj,this,ug,Qt.least,Qt.most]
 |.fin q=>by induction q using Internal.Qt.casesOn<;>rfl
theorem RP.frzs (f:Nat→Option V):∀ps:List RP,aP f (RP.toVs ps)=some (RP.toVs ps)
 |[]=>by simp only[jV];rfl|p::ps=>by simp only[iJ,kj,RP.frz f p,RP.frzs f ps,P8,QI]
end
theorem fV(σ:aq)(n:Nat){v:V}(h:∀f,aY f v=some v):∀d,aV σ n d v=some v
 |0=>h _|_+1=>h _
theorem CT(σ:aq)(n d:Nat):∀ps:List RP,(RP.toVs ps).mapM (aV σ n d)=some (RP.toVs ps):=by
 intro L_;induction L_ with
 |nil=>simp only[jV];rfl|cons p ps IH_=>simp only[iJ,RK,fV σ n (λf=>RP.frz f p) d];rw[IH_];rfl
theorem yA(d:Nat)(σ:aq)(M0:Ab){G:Ab→List RP→Ab→Prop}(hG:∀σ g ps u j,M0.drop j=g→G g ps (41::u)→∃j',call (d+3) σ (.fn 9) [.bytes M0,.int j]=some (.t [.list (RP.toVs ps),.int (j':Nat)],σ)∧M0.drop j'=41::u){ps:List RP}(rd:Rd G (M0.drop i) ps t2)(hl:ps.length≤370):
 ∃i',call (d+4) σ (.fn 9) [.bytes M0,.int i]=some (.t [.list (RP.toVs ps),.int (i':Nat)],σ)∧M0.drop i'=t2:=by
 refine ie (BA d σ M0 hG rd i 375 [] [] rfl (.inl rfl) (cj hl rfl) (by simp;exact kJ hl rfl)) λi' MT h1 h2=>a7 i' (cH rfl rfl rfl (az (by simp only;rfl) (az h1 (eD rfl))) ?_ iM) h2;refine aQ (nY (σ:=σ) (xs:=RP.toVs ([]++ps)) (d:=1) (CT _ _ _ _)) λf e hf=>?_;simp only[e,kj,tJ,oN,hf];rfl
noncomputable def Lm:List UInt8→List RP→List UInt8→Prop:=Rd λo_ o_ o_=>False
noncomputable def qk:List UInt8→List RP→List UInt8→Prop:=Rd λg ps t=>Lm g ps t∧ps.length≤370
theorem Dx(d:Nat)(σ:aq)(M0:Ab){ps:List RP}(rd:qk (M0.drop i) ps t2)(hl:ps.length≤370):∃i',call (d+5) σ (.fn 9) [.bytes M0,.int i]=some (.t [.list (RP.toVs ps),.int (i':Nat)],σ)∧M0.drop i'=t2:=
 yA (d+1) σ M0 (λσ g ps u j hj hg=>by subst hj;exact yA d σ M0 (λo_ o_ o_ o_ o_ o_ q=>q.elim) hg.1 hg.2) rd hl
theorem gS{k:Nat}{F:Fn}{args:List V}{σ':aq}{ρ':aF}{w:V}(hC:pE C=some k)(h:fnOf k=some F)(hn:(k==37000)=false)(hI:(C==129)=false)(hl:(args.length+1 !=F.ps.length)=false)(hb:ia F.ps (.o σ.length::args) F.dfl=some ρ)(hr:ba (ev (call d) 399) ⟨σ.length,F.fz⟩ ρ (σ++[.obj C []]) F.body .next ρ' σ')(hf:aV σ' σ.length 2 (.o σ.length)=some w)(ht:σ'.take σ.length=σ):call (d+1) σ (.cls C) args=some (w,σ):=by refine(?_:Q2 _ _=_);simp only[hC,h,P8];delta IM;simp only[hl,hb,P8];refine(?_:Q2 (c7 (ev _ 399) _ ρ _ F.body) _=_);rw[hr];refine(?_:(if(C==129)=true then some (V.o σ.length,σ') else RH (λv=>(v,σ'.take σ.length)) (aV σ' σ.length 2 (.o σ.length)))=_);rw[hI,iN fF,hf];refine(?_:some _=_);rw[ht]
theorem jC{b:Nat}{v:V}(hb:b≤σ.length)(h:(decide (fs.length<100)&&dP.contains (C,a))=true)(hv:below (σ.length+1) v=true):
 fy ⟨b,fz⟩ (σ++[.obj C fs]) σ.length a v=some (σ++[.obj C (bT fs a v)]):=by
 simp only[P9] at h;delta fy;simp only[eU,B4,Qa,RF];rw[iP];simp only[h.1,h.2,hb,hv,decide_true,U9,U3]
theorem gZ{c:Cx}{σ':aq}{v:V}(hx:aE ρ x=some (.o n))(h:fy c σ n a v=some σ'):bJ c ρ σ (.attr x a) v=some (ρ,σ'):=by rw[B6,hx];refine(?_:(fy c σ n a v).map _=_);rw[h];rfl
theorem iL{gs:List (Nat×V)}(h:(fs.mapM λy=>(aV (σ++[Cell.obj C fs]) σ.length d y.2).map (TS y.1))=some gs):aV (σ++[Cell.obj C fs]) σ.length (d+1) (.o σ.length)=some (.inst C gs):=by
 refine(?_:(if σ.length<σ.length then some (V.o σ.length) else match (σ++[Cell.obj C fs])[σ.length]? with|some (.list zs)=>(zs.mapM (aV _ σ.length d)).map .list|some (.obj C' fs')=>(fs'.mapM λy=>(aV _ σ.length d y.2).map (TS y.1)).map (.inst C')|none=>none)=_)
 rw[iN (R0 _),eU];simp only[h];rfl
noncomputable def cY(ic:Bool)(ps:List RP):V:=.inst 33 [(35,.bool ic),(27,.list (RP.toVs ps))]
theorem E0(d:Nat)(σ:aq)(M0:Ab)(ic:Bool){ps:List RP}(rd:qk M0 ps t2)(hl:ps.length≤370):call (d+6) σ (.cls 33) [.bytes ([40,63,109,115,41]++M0),.bool ic]=some (cY ic ps,σ):=by
 refine aQ (Dx d (σ++[Cell.obj 33 [(35,.bool ic)]]) ([40,63,109,115,41]++M0) (i:=5) (t2:=t2) (by refine(show List.drop 5 _=_ from rfl)▸?_;exact rd) hl) λi' h1 o_=>?_
 have hs:du (σ++[Cell.obj 33 [(35,.bool ic)]]) (.bytes ([40,63,109,115,41]++M0)) none (some (.int 5))=some (.bytes [40,63,109,115,41]):=by refine(?_:some (V.bytes (cut _ none (some ((5:Nat):Int))))=_);delta cut;simp only[gY];rw[QT (by simp)];rfl
 refine gS (ρ':=[(6,.o σ.length),(7,.bytes ([40,63,109,115,41]++M0)),(35,.bool ic),(36,.int i')]) (σ':=σ++[.obj 33 [(35,.bool ic),(27,.list (RP.toVs ps))]]) rfl rfl rfl rfl rfl rfl
  (aI rfl (gZ rfl (jC nR (by decide) rfl)) (aI (ao rfl rfl (am rfl (am (bV (aC (aK rfl rfl rfl hs) rfl rfl) rfl rfl) rfl)) h1) ?_ aw)) ?_ iM
 ·have e:=gZ (c:=⟨σ.length,[]⟩) (ρ:=[(6,.o σ.length),(7,.bytes ([40,63,109,115,41]++M0)),(35,.bool ic)]) (x:=6) (a:=27) (v:=.list (RP.toVs ps)) rfl
   (jC (C:=33) (fs:=[(35,.bool ic)]) nR rfl (fU _ ps))
  exact(cG (λo=>Q2 o (kT ⟨σ.length,[]⟩ [T.v 36] [.int i'])) e).trans rfl
 ·refine iL ?_;have:=fV (σ++[Cell.obj 33 [(35,.bool ic),(27,.list (RP.toVs ps))]]) σ.length (v:=.list (RP.toVs ps)) (λf=>by refine(?_:(aP f _).map _=_);rw[RP.frzs];rfl) 1;simp only[RK,this];rfl
theorem Am(d:Nat)(σ:aq)(o:V)(M0:Ab){ps:List RP}(rd:qk M0 ps t2)(hl:ps.length≤370):call (d+7) σ (.fn 11002) [o,.bytes ([40,63,109,115,41]++M0),.int 0]=some (cY false ps,σ):=
 cH rfl rfl rfl (eD (ao rfl rfl (am rfl (am rfl rfl)) (E0 d σ M0 false rd hl)))
  (fV _ _ (λf=>by refine(?_:(cy f _).map _=_);simp only[Er,yq,i5,RP.frzs];rfl) 2) (tk σ)
noncomputable def aM(l:List Nat):List V:=l.map λ(n:Nat)=>V.int n
noncomputable def fi(neg:Bool)(rs:List Nat)(o:Nat):Bool:=if rs.contains o then !neg else neg
noncomputable def tx:List S:=match pX with|[_,_,_,_,.for _ _ b,_]=>b|_=>[]
theorem ur(cl:Call)(n:Nat)(c:Cx)(hc:c.fz=[])(σ:aq)(s w r0:V)(neg:Bool)(o:Nat):∀ (rs:List Nat) (tl:aF),(tl=[]∨∃a b e,tl=[(24,a),(25,b),(38,e)])→
 ∃ρ',eu (cW (ev cl (n+12)) c (.t [.v 24,.v 25]) tx) ((6,s)::(29,w)::(16,.int o)::(22,.bool neg)::(23,r0)::(14,.list [.int o])::tl) σ (rs.map λ(x:Nat)=>.t [.int x,.int x])=
   (if rs.contains o then some (.ret (.bool (!neg)),ρ',σ) else some (.next,ρ',σ))∧aE ρ' 22=some (.bool neg):=by
 intro L_;induction L_ with
 |nil=>intro tl o_;exact⟨_,rfl,rfl⟩
 |cons x rs IH_=>
  intro tl Ni;obtain⟨b,fz⟩:=c;subst hc
  have hb:∀Oo,ba (ev cl (n+10)) ⟨b,[]⟩ ((6,s)::(29,w)::(16,.int o)::(22,.bool neg)::(23,r0)::(14,.list [.int o])::[(24,.int x),(25,.int x),(38,.int o)]) σ [.ite (.p (.v 24) [.le,.le] [(.v 38),(.v 25)]) [
   .ret (.not (.v 22))] []] Oo ((6,s)::(29,w)::(16,.int o)::(22,.bool neg)::(23,r0)::(14,.list [.int o])::[(24,.int x),(25,.int x),(38,.int o)]) σ→Oo= .next∨Oo= .ret (.bool (!neg))→
   cW (ev cl (n+12)) ⟨b,[]⟩ (.t [.v 24,.v 25]) tx ((6,s)::(29,w)::(16,.int o)::(22,.bool neg)::(23,r0)::(14,.list [.int o])::tl) σ (.t [.int x,.int x])=
   some (Oo,(6,s)::(29,w)::(16,.int o)::(22,.bool neg)::(23,r0)::(14,.list [.int o])::[(24,.int x),(25,.int x),(38,.int o)],σ):=by
   intro Oo h PN
   have inner:∀M2,(M2=[(24,V.int x),(25,V.int x)]∨∃e,M2=[(24,V.int x),(25,V.int x),(38,e)])→br (ev cl (n+11)) ⟨b,[]⟩ ((6,s)::(29,w)::(16,.int o)::(22,.bool neg)::(23,r0)::(14,.list [.int o])::M2) σ
    (.for (.v 38) (.v 14) [.ite (.p (.v 24) [.le,.le] [(.v 38),(.v 25)]) [.ret (.not (.v 22))] []])=some (Oo,(6,s)::(29,w)::(16,.int o)::(22,.bool neg)::(23,r0)::(14,.list [.int o])::[(24,.int x),(25,.int x),(38,.int o)],σ):=by
    intro M2 h2;refine(cK rfl).trans ?_;rcases PN with rfl|rfl
    ·exact(c8 ((by rcases h2 with rfl|⟨e,rfl⟩<;>exact h))).trans rfl
    ·exact iV ((by rcases h2 with rfl|⟨e,rfl⟩<;>exact h))
   rcases Ni with rfl|⟨a,b',e,rfl⟩<;>rcases PN with rfl|rfl
   ·exact az (inner _ (.inl rfl)) aw
   ·exact cq (inner _ (.inl rfl))
   ·exact az (inner _ (.inr ⟨_,rfl⟩)) aw
   ·exact cq (inner _ (.inr ⟨_,rfl⟩))
  have cmp:∀ρ,aE ρ 24=some (.int x)→aE ρ 38=some (.int o)→aE ρ 25=some (.int x)→(ev cl (n+10)).e ⟨b,[]⟩ ρ σ (.p (.v 24) [.le,.le] [(.v 38),(.v 25)])=some (.bool (x==o),σ):=by
   intro ρ h1 h2 h3;simp only[bY,DO,sa,h1,QI,P8,Hv,jG,h2,AF];refine(?_:qw _ _ ρ σ _ [.le] _ _=_)
   induction hq:decide ((x:Int)≤(o:Int)) using bC with
   |false=>
    simp only[BH];have:(x==o)=false:=by simp at hq⊢;exact Vg (by assumption)
    exact this▸rfl
   |true=>
    simp only[Dr,jG,bY,sa,h3];refine(?_:some _=_)
    have:decide ((o:Int)≤(x:Int))=(x==o):=by
     simp at hq
     induction h:(x==o) using bC with
     |true=>simp at h⊢;exact(nE h.symm)|false=>simp at h⊢;exact(Nat.lt_of_le_of_ne hq h)
    exact this▸rfl
  induction hx:(x==o) using bC with
  |true=>refine a7 ((6,s)::(29,w)::(16,.int o)::(22,.bool neg)::(23,r0)::(14,.list [.int o])::[(24,.int x),(25,.int x),(38,.int o)]) ?_ rfl;rw[Qf,iV (hb (.ret (.bool (!neg))) (ig (cmp _ rfl rfl rfl) (cG some hx) rfl) (.inr rfl))];simp only[UA,show(o==x)=true from by rw[bA hx];simp];rfl|false=>refine aQ (IH_ [(24,.int x),(25,.int x),(38,.int o)] (.inr ⟨_,_,_,rfl⟩)) λρ' ih OD=>a7 ρ' ?_ OD;rw[Qf,c8 (hb .next (aR (cmp _ rfl rfl rfl) (cG some hx) rfl aw) (.inl rfl)),ih];simp only[UA,show(o==x)=false from by simp at hx⊢;(clear Ni hb cmp ih OD;lia)];rfl
theorem w0(d:Nat)(σ:aq)(ps:List RP)(neg:Bool)(rs:List Nat)(o:Nat):call (d+1) σ (.fn 10001) [cY false ps,bZ neg rs,.int o]=some (.bool (fi neg rs o),σ):=by
 refine aQ (ur (call d) 387 ⟨σ.length,[]⟩ rfl σ (cY false ps) (bZ neg rs) (.list (rs.map λ(x:Nat)=>.t [.int x,.int x])) neg o rs [] (.inl rfl)) λρ' h hn=>?_
 have MV:br (ev _ 399) _ _ σ (.for _ (.v 23) tx)=_:=
  (cK (i:=.items (rs.map λ(x:Nat)=>.t [.int x,.int x])) rfl).trans h
 have pre:∀v,fu _ ⟨σ.length,[]⟩ _ σ _ v σ→
  fu (ev (call d) 399) _ [(6,cY false ps),(29,bZ neg rs),(16,.int o)] σ pX v σ:=λv k=>
  aG rfl (aG rfl (aH (av (bH rfl rfl)) rfl rfl rfl (aH (av (bH rfl rfl)) rfl rfl rfl k)))
 delta fi
 induction hq:rs.contains o using bC with
 |true=>rw[hq] at MV;exact au rfl rfl rfl rfl (pre _ (gF (cq MV)))|false=>rw[hq] at MV;exact au rfl rfl rfl rfl (pre _ (aG MV (aO (by simp only[bY,sa,hn];rfl))))
section
variable {α:Type} {mk:α→V} {g:α→List V} {turn:List V×aF×aq→V→Option (List V×aF×aq)} {P:aF→Prop} {σ:aq}
noncomputable def cU(turn:List V×aF×aq→V→Option (List V×aF×aq))(P:aF→Prop)(σ:aq)(mk:α→V)(g:α→List V)(l:List α):Prop:=
 ∀x∈l,∀ (MQ:List V) (ρ:aF),P ρ→MQ.length<65536→∃ρ',P ρ'∧turn (MQ,ρ,σ) (mk x)=some (MQ++g x,ρ',σ)
theorem f9(hg:∀x,(g x).length≤1):∀ (l:List α) (MQ:List V) (ρ:aF),cU turn P σ mk g l→P ρ→MQ.length+l.length<65536→∃ρ',P ρ'∧(l.map mk).foldlM turn (MQ,ρ,σ)=some (MQ++l.flatMap g,ρ',σ):=by
 intro L_;induction L_ with
 |nil=>intro MQ ρ o_ hp o_;exact⟨ρ,hp,by simp⟩|cons x l IH_=>intro MQ ρ h hp hl;refine aQ (h x mS MQ ρ hp (by simp at hl;exact aZ [_,_] (.h 1 (.a (.a ab (.a ae ai)) ai) (.c 65536) (.g (.a ab ai) (.c 65536))) rfl hl)) λρ1 p1 e1=>aQ (IH_ (MQ++g x) ρ1 (λy hy=>h y (mM hy)) p1 (by have:=hg x;simp at hl⊢;exact aZ [_,_,_] (.h 1 (.a (.a ab (.a ae ai)) ai) (.c 65536) (.h 1 af ai (.g (.a (.a (.a ab af) ae) ai) (.c 65536)))) rfl hl this)) λρ2 p2 e2=>a7 ρ2 p2 ?_;simp only[Qf,Sf,e1];refine(?_:(l.map mk).foldlM turn _=_);simp only[e2,QC,Qc]
theorem zG(hg:∀x,(g x).length≤1){l:List α}(hn:σ[n]?=some (.list (l.map mk))):∀ (m k:Nat) (MQ:List V) (ρ:aF),cU turn P σ mk g l→P ρ→MQ.length+(l.drop k).length<65536→(l.drop k).length<m→∃ρ',P ρ'∧dN turn n m k (MQ,ρ,σ)=some (MQ++(l.drop k).flatMap g,ρ',σ):=by
 intro L_;induction L_ with
 |zero=>intro k MQ ρ o_ o_ o_ hm;lia
 |succ m IH_=>
  intro k MQ ρ h hp hl hm;simp only[wq,hn,R8]
  induction hk:l[k]? using oA with
  |none=>exact a7 ρ hp (by rw[Qw (Qv.mp hk)];simp)|some x=>obtain⟨PI,N7⟩:=Qe.mp hk;rw[QO PI,N7] at hl hm⊢;refine aQ (h x (N7▸SO PI) MQ ρ hp (by simp at hl;exact aZ [_,_] (.h 1 (.a (.a ab (.a ae ai)) ai) (.c 65536) (.g (.a ab ai) (.c 65536))) rfl hl)) λρ1 p1 e1=>aQ (IH_ (k+1) (MQ++g x) ρ1 h p1 (by have:=hg x;simp at hl⊢;exact aZ [_,_,_] (.h 1 ab ai (.h 1 (.a (.a ae (.a af ai)) ai) (.c 65536) (.g (.a (.a (.a ae ab) af) ai) (.c 65536)))) rfl this hl) (by simp at hm⊢;exact hm)) λρ2 p2 e2=>a7 ρ2 p2 ?_;refine(?_:(turn _ (mk x)).bind _=_);simp only[e1,P8,e2,QC,Qc]
theorem wt{σ:aq}{xs:List V}(h:bc σ (.o n)=some xs):σ[n]?=some (.list xs):=by
 have h:(match σ[n]? with|some (.list xs)=>some xs|_=>none)=_:=h;generalize σ[n]?=o at h⊢
 induction o using oA with
 |none=>exact nomatch h
 |some c=>induction c using Internal.Cell.casesOn with|list ys=>exact cG (λz=>some (Cell.list z)) (sJ h)|obj _ _=>exact nomatch h
theorem vN(hg:∀x,(g x).length≤1){pv:V}{l:List α}(hp:bc σ pv=some (l.map mk))(h:cU turn P σ mk g l)(p:P ρ)(hl:l.length<65536):∃i,Hd pv=some i∧∃ρ',iF turn i ([],ρ,σ)=some (l.flatMap g,ρ',σ):=by
 induction pv using Internal.V.casesOn with
 |list xs=>obtain rfl:=sJ hp;exact aQ (f9 hg l [] ρ h p (by simpa using hl)) λρ' o_ e=>a7 _ rfl ⟨ρ',e.trans (rfl)⟩|o n=>have hn:=wt hp;refine aQ (zG hg hn (l.length+1) 0 [] ρ h p (by simpa using hl) (by simp)) λρ' o_ e=>a7 _ rfl ⟨ρ',?_⟩;delta iF;simp only[hn,KE,e];simp|_=>cases hp
theorem cV(hg:∀x,(g x).length≤1){c:Cx}{N4:aF}{OC:E}{t:T}{pv:V}{l:List α}(NI:ga elt=false)(hs:dB it= .val OC)(he:(ev cl n).e c ρ σ OC=some (pv,σ))(hp:bc σ pv=some (l.map mk))(hr:bB ρ frees=N4)(p:P N4)(h:cU (bG (ev cl n) ⟨c.b,[]⟩ elt t M5 []) P σ mk g l)(hl:l.length<65536):(ev cl (n+1)).e c ρ σ (.comp elt [.mk t it M5] frees)=some (.list (l.flatMap g),σ):=by refine aQ (vN hg hp h p hl) λi h1 z1=>ek z1 λρ' h2=>?_;simp only[bY,fP,jt hs,he];refine(?_:(((Hd pv).map λi=>(i,σ)).bind _).bind _=_);rw[h1];refine(?_:(iF _ i _).bind _=_);rw[hr,h2];exact gy NI
end
theorem iu{b:Nat}{q:E}{t:T}{ρ1:aF}{MQ:List V}{x u w:V}{tt:Bool}(hb:bJ ⟨b,[]⟩ ρ σ t x=some (ρ1,σ))(hq:(ev cl n).e ⟨b,[]⟩ ρ1 σ q=some (u,σ))(ht:aN σ u=some tt)(he:tt=true→(ev cl n).e ⟨b,[]⟩ ρ1 σ elt=some (w,σ))(hl:MQ.length<65536):bG (ev cl n) ⟨b,[]⟩ elt t [q] [] (MQ,ρ,σ) x=some (MQ++(if tt then[w] else[]),ρ1,σ):=by
 delta bG;simp only[hb,P8,mR,Fm,hq,ht]
 induction tt using bC with
 |true=>simp only[if_true,P8,kY,hl,he rfl,QI]|false=>simp
theorem eC{b:Nat}{t:T}{ρ1:aF}{MQ:List V}{x w:V}(hb:bJ ⟨b,[]⟩ ρ σ t x=some (ρ1,σ))(he:(ev cl n).e ⟨b,[]⟩ ρ1 σ elt=some (w,σ))(hl:MQ.length<65536):
 bG (ev cl n) ⟨b,[]⟩ elt t [] [] (MQ,ρ,σ) x=some (MQ++[w],ρ1,σ):=by
 delta bG;simp only[hb,P8,mR,if_true,kY,hl,he,QI]
theorem oU{f:Nat→Option V}:∀l:List Nat,aP f (aM l)=some (aM l):=by
 intro L_;induction L_ with
 |nil=>exact rfl|cons x l IH_=>refine(?_:(some _).bind _=_);simp only[show aP f (UW (λ(n:Nat)=>V.int n) l)=some (aM l) from IH_];rfl
theorem eT(σ:aq)(n d:Nat)(l:List Nat):aV σ n d (.list (aM l))=some (.list (aM l)):=fV σ n (λf=>by refine(?_:(aP f _).map V.list=_);rw[oU];rfl) d
theorem qL{q:Nat→Bool}:∀l:List Nat,l.flatMap (λn=>if q n then[V.int n] else[])=aM (l.filter q):=by
 intro L_;induction L_ with
 |nil=>exact rfl|cons x l IH_=>simp only[QC,IH_,SP];cases q x<;>rfl
theorem xx{q:Nat→List Nat}:∀l:List Nat,l.flatMap (λn=>aM (q n))=aM (l.flatMap q):=by
 intro L_;induction L_ with
 |nil=>exact rfl|cons x l IH_=>simp only[IH_,QC];exact Qi.symm
noncomputable def iA(neg:Bool)(rs:List Nat)(name:List UInt8)(p:Nat):List Nat:=match name[p]? with|some c=>if fi neg rs c.toNat then[p+1] else[]|none=>[]
theorem IL(neg:Bool)(rs:List Nat)(name:Ab)(x:Nat):(aM (iA neg rs name x)).length≤1:=by
 delta iA;split
 ·split<;>simp[aM]
 ·simp[aM]
theorem Bd(d:Nat)(σ:aq)(s w:V)(name:Ab)(pv:V)(pl:List Nat)(hp:bc σ pv=some (aM pl))(hl:pl.length<65536):call (d+2) σ (.fn 10002) [s,xH,w,.bytes name,pv]=some (.list (aM (pl.filter λp=>p==name.length)),σ):=by
 have MY:cU (bG (ev (call (d+1)) 397) ⟨σ.length,[]⟩ (.v 43) (.v 43) [.p (.v 43) [.eq] [.call (.g 32) [.v 40]]] []) (λρ=>ρ=[(40,.bytes name)]∨∃v,ρ=[(40,.bytes name),(43,v)]) σ (λ(n:Nat)=>V.int n) (λn=>if n==name.length then[V.int n] else[]) pl:=by
  intro x o_ MQ ρ M3 ha;refine a7 ([(40,.bytes name),(43,.int x)]) (.inr ⟨_,rfl⟩) ?_;refine iu (by rcases M3 with rfl|⟨v,rfl⟩<;>rfl) rfl ?_ (λo_=>rfl) ha;refine(?_:some _=_);congr 1
  induction h:(x==name.length) using bC with
  |true=>simp at h⊢;omega|false=>simp at h⊢;omega
 have hc:=cV (λx=>by split<;>simp) (c:=⟨σ.length,[]⟩) (ρ:=[(6,s),(28,xH),(29,w),(40,.bytes name),(41,pv)]) (it:=.v 41) (frees:=[40]) rfl rfl rfl hp rfl (.inl rfl) MY hl;rw[qL] at hc;exact au rfl rfl rfl (eT _ _ _ _) (aH rfl rfl rfl rfl (cF rfl rfl (aO hc) rfl))
theorem A5(d:Nat)(σ:aq)(ps:List RP)(neg:Bool)(rs:List Nat)(name:Ab)(pv:V)(pl:List Nat)(hp:bc σ pv=some (aM pl))(hl:pl.length<65536):call (d+2) σ (.fn 10002) [cY false ps,i8,bZ neg rs,.bytes name,pv]=some (.list (aM (pl.flatMap (iA neg rs name))),σ):=by
 have MY:cU (bG (ev (call (d+1)) 398) ⟨σ.length,[]⟩ (.bin .add (.v 43) (.k (.int 1))) (.v 43) [(.b true [(.p (.v 43) [.lt] [(.call (.g 32) [(.v 40)])]),(.m (.v 6) 37 [(.v 29),(.sub (.v 40) (.v 43))])])] [])
  (λρ=>ρ=[(40,.bytes name),(6,cY false ps),(29,bZ neg rs)]∨∃v,ρ=[(40,.bytes name),(6,cY false ps),(29,bZ neg rs),(43,v)]) σ (λ(n:Nat)=>V.int n) (λn=>aM (iA neg rs name n)) pl:=by
  intro x o_ MQ ρ M3 ha;refine a7 ([(40,.bytes name),(6,cY false ps),(29,bZ neg rs),(43,.int x)]) (.inr ⟨_,rfl⟩) ?_;have hb:bJ ⟨σ.length,[]⟩ ρ σ (.v 43) (.int x)=some ([(40,.bytes name),(6,cY false ps),(29,bZ neg rs),(43,.int x)],σ):=by rcases M3 with rfl|⟨v,rfl⟩<;>rfl
  have lt:∀n,(ev (call (d+1)) (n+6)).e ⟨σ.length,[]⟩ [(40,.bytes name),(6,cY false ps),(29,bZ neg rs),(43,.int x)] σ (.p (.v 43) [.lt] [(.call (.g 32) [(.v 40)])])=_:=λn=>rfl;refine(?_:_=some (MQ++aM _,_,σ))
  induction hx:name[x]? using oA with
  |none=>
   have h1:decide ((x:Int)<(name.length:Int))=false:=by have:=Qv.mp hx;simp;exact this
   rw[show iA neg rs name x=[] by delta iA;exact hx▸rfl];exact iu (w:=.none) hb (av (bH (lt 391) (cG some h1))) (cG some h1) (λh=>by cases h) ha
  |some ch=>
   have h1:decide ((x:Int)<(name.length:Int))=true:=by have:=(Qe.mp hx).1;simp;exact this
   rw[show iA neg rs name x=if fi neg rs ch.toNat then[x+1] else[] by delta iA;rw[hx]];have:=iu (q:=.b true [(.p (.v 43) [.lt] [(.call (.g 32) [(.v 40)])]),(.m (.v 6) 37 [(.v 29),(.sub (.v 40) (.v 43))])]) (w:=.int ((x+1:Nat):Int)) (elt:=.bin .add (.v 43) (.k (.int 1))) hb (av (bw (lt 391) (cG some h1) (cw (aS rfl rfl (am rfl (am (aU rfl rfl (dI hx)) rfl)) (w0 d σ ps neg rs ch.toNat))))) rfl (λo_=>rfl) ha;simp only[this];cases fi neg rs ch.toNat<;>rfl
 have hc:=cV (λx=>IL neg rs name x)
  (c:=⟨σ.length,[]⟩) (ρ:=[(6,cY false ps),(28,i8),(29,bZ neg rs),(40,.bytes name),(41,pv)]) (it:=.v 41) (frees:=[40,6,29]) rfl rfl rfl hp rfl (.inl rfl) MY hl
 rw[xx] at hc;exact au rfl rfl rfl (eT _ _ _ _) (aH rfl rfl rfl rfl (aH rfl rfl rfl rfl (aH rfl rfl rfl rfl (aO hc))))
theorem yl(d:Nat)(σ:aq)(ps:List RP)(qs:V)(name:Ab)(pv:V){w:V}(hw:∀σ n,aV σ n 2 w=some w)(h:call (d+1) σ (.fn 10003) [cY false ps,qs,.bytes name,pv]=some (w,σ)):call (d+2) σ (.fn 10002) [cY false ps,ug,qs,.bytes name,pv]=some (w,σ):=
 au rfl rfl rfl (hw _ _) (cF rfl rfl (aO (aS rfl rfl rfl h)) rfl)
inductive Star (R:Nat→Nat→Prop):Nat→Nat→Prop
 |refl {a:_}:Star R a a|step {a b c:_}:R a b→Star R b c→Star R a c
noncomputable def kI:Qt→(Nat→Nat→Prop)→Nat→Nat→Prop
 |.one,R,p,x=>R p x|.opt,R,p,x=>x=p∨R p x|.star,R,p,x=>Star R p x|.plus,R,p,x=>∃z,R p z∧Star R z x
noncomputable def RP.q:RP→Qt
 |.oct _ _ q|.grp _ q|.fin q=>q
noncomputable def RP.kind:RP→V
 |.oct .. =>i8|.grp .. =>ug|.fin _=>xH
noncomputable def RP.what:RP→V
 |.oct neg rs _=>bZ neg rs|.grp ps _=>.list (RP.toVs ps)|.fin _=>bZ true []
theorem RP.toV_eq(p:RP):p.toV= .t [p.kind,p.what,p.q.least,p.q.most]:=by induction p using Internal.RP.casesOn<;>simp only[As,yN,DX,RP.kind,RP.what,RP.q]
mutual
noncomputable def gj (name:List UInt8):RP→Nat→Nat→Prop
 |.oct neg rs _,p,x=>x∈iA neg rs name p|.grp ps _,p,x=>iS name ps p x|.fin _,p,x=>p=name.length∧x=p
noncomputable def iS (name:List UInt8):List RP→Nat→Nat→Prop
 |[],p,x=>x=p|a::as,p,x=>∃y,kI a.q (gj name a) p y∧iS name as y x
end
theorem uP{p:Nat}{q:Qt}:gj name (.oct neg rs q) p x=(x∈iA neg rs name p):=rfl
theorem GU{p:Nat}{ps:List RP}{q:Qt}:gj name (.grp ps q) p x=iS name ps p x:=rfl
theorem Fe{p:Nat}{q:Qt}:gj name (.fin q) p x=(p=name.length∧x=p):=rfl
theorem t9{p:Nat}:iS name [] p x=(x=p):=rfl
theorem FE{p:Nat}{a:RP}{as:List RP}:iS name (a::as) p x=∃y,kI a.q (gj name a) p y∧iS name as y x:=rfl
theorem Star.le(h:∀p x,R p x→p≤N→x≤N){p:Nat}(s:Star R p x):p≤N→x≤N:=by
 induction s with
 |refl=>exact id|step r _ ih=>exact λq=>ih (h _ _ r q)
theorem kI.le{q:Qt}(h:∀p x,R p x→p≤N→x≤N){p:Nat}(s:kI q R p x)(hp:p≤N):x≤N:=by
 induction q using Internal.Qt.casesOn with
 |one=>exact h _ _ s hp|opt=>rcases s with rfl|s;exact hp;exact h _ _ s hp
 |star=>exact Star.le h s hp|plus=>obtain⟨z,a,b⟩:=s;exact Star.le h b (h _ _ a hp)
mutual
theorem vl (name:List UInt8):∀ (a:RP) (p x:Nat),gj name a p x→p≤name.length→x≤name.length
 |.oct neg rs _,p,x,h,hp=>by
   rw[uP] at h;unfold iA at h;split at h
   ·rename_i q;have:=(Qe.mp q).1;split at h
    ·simp at h;exact nT (nE h) this
    ·simp at h
   ·simp at h
 |.grp ps _,p,x,h,hp=>by exact vJ name ps p x h hp|.fin _,p,x,h,hp=>by delta gj at h;(clear hp;exact nT (nE h.2) (nE h.1))
theorem vJ (name:List UInt8):∀ (as:List RP) (p x:Nat),iS name as p x→p≤name.length→x≤name.length
 |[],p,x,h,hp=>by delta iS at h;exact nT (nE h) hp|a::as,p,x,h,hp=>by exact aQ h λy h1 h2=>vJ name as y x h2 (kI.le (vl name a) h1 hp)
end
noncomputable def jT(done fr:List Nat)(x:Nat):List Nat:=if done.contains x||fr.contains x then fr else fr++[x]
theorem yy(done:List Nat):∀ (l fr:List Nat) (x:Nat),x∈l.foldl (jT done) fr↔x∈fr∨(x∈l∧x∉done):=by
 intro L_;induction L_ with
 |nil=>intro fr x;simp
 |cons y l IH_=>
  intro fr x;simp only[Q5,IH_];delta jT
  by_cases h:(done.contains y||fr.contains y)=true
  ·rw[iP h];simp at h;constructor
   ·rintro(h1|⟨h1,h2⟩)
    ·exact .inl h1
    ·exact .inr ⟨mM h1,h2⟩
   ·rintro(h1|⟨h1,h2⟩)
    ·exact .inl h1
    ·rcases P6.mp h1 with rfl|h1
     ·rcases h with h|h
      ·exact absurd h h2
      ·exact .inl h
     ·exact .inr ⟨h1,h2⟩
  ·rw[iN h];simp at h;constructor
   ·rintro(h1|⟨h1,h2⟩)
    ·rcases Qh.mp h1 with h1|h1
     ·exact .inl h1
     ·have:=mA h1;subst this;exact .inr ⟨mS,h.1⟩
    ·exact .inr ⟨mM h1,h2⟩
   ·rintro(h1|⟨h1,h2⟩)
    ·exact .inl (RL _ h1)
    ·rcases P6.mp h1 with rfl|h1
     ·exact .inl (Tb _ (Rv.mpr rfl))
     ·exact .inr ⟨h1,h2⟩
theorem rk(done:List Nat):∀ (l fr:List Nat),fr.Nodup→(l.foldl (jT done) fr).Nodup:=by
 intro L_;induction L_ with
 |nil=>intro fr h;exact h
 |cons y l IH_=>
  intro fr h;refine IH_ _ ?_;delta jT;split
  ·exact h
  ·rename_i q;simp at q;exact Tz.mpr ⟨h,by simp,λa ha b hb=>by have:=mA hb;subst this;exact λe=>q.2 (e▸ha)⟩
theorem sp:∀ (N:Nat) (l:List Nat),l.Nodup→(∀x∈l,x<N)→l.length≤N
 |0,[],_,_=>nR|0,x::l,_,h=>absurd (h x mS) (UT _)
 |N+1,l,hn,h=>by
  have:=sp N (l.erase N) (hn.erase N) λx hx=>by have:=(hn.mem_erase_iff).mp hx;have:=h x this.2;lia
  rw[List.length_erase] at this;split at this<;>lia
theorem gP{l:List Nat}(h:l.Nodup)(hb:∀x∈l,x≤N):l.length≤N+1:=sp _ _ h λx hx=>Rf (hb x hx)
theorem xT(x:Nat):∀l:List Nat,((aM l).any λy=>Hb y (.int x))=l.contains x:=by
 intro L_;induction L_ with
 |nil=>exact rfl
 |cons y l IH_=>
  refine(?_:(((y:Int)==_)||(aM l).any λy=>Hb y _)=_);congr 1
  induction h:(x==y) using bC with
  |true=>simp at h⊢;lia|false=>simp at h⊢;lia
theorem AU(x:Nat):∀l:List Nat,(aM l).all (lZ (.int x))=true:=by
 intro L_;induction L_ with
 |nil=>exact rfl|cons y l IH_=>exact IH_
theorem ve{sv:V}{l:List Nat}(h:bc σ sv=some (aM l)):wv σ (.int x) sv=some (l.contains x):=by
 have e:wv σ (.int x) sv=(rA σ sv).bind λys=>if ys.all (lZ (.int x)) then some (ys.any λy=>Hb y (.int x)) else none:=by induction sv using Internal.V.casesOn<;>first|rfl|cases h
 rw[e,(n5 h)];refine(?_:(if(aM l).all _=true then some _ else none)=_);rw[iP (AU x l),xT]
noncomputable abbrev ES(s ps nm pv:V)(tl:aF):aF:=(6,s)::(27,ps)::(40,nm)::(41,pv)::tl
noncomputable abbrev KS(k w l m:V)(done:List Nat)(now:V)(many:Nat)(tl:aF):aF:=(28,k)::(29,w)::(30,l)::(31,m)::(45,.list (aM done))::(46,now)::(47,.int many)::tl
noncomputable def bE:List S:=match vV with|[.for _ _ b,_]=>b|_=>[]
noncomputable def bW:List S:=match bE with|[_,_,_,.while _ b,_]=>b|_=>[]
noncomputable def qW:E:=match bE with|[_,_,_,.while q _,_]=>q|_=>.bad
noncomputable def bF:List S:=match bW with|[_,_,.for _ _ b,_,_]=>b|_=>[]
section
variable {s ps nm pv k w l m now:V} {done:List Nat} {many:Nat} {cl:Call} {n b:Nat}
theorem uO(σ:aq)(hb:b≤σ.length):∀ (xs fr:List Nat) (tl:aF),(tl=[(48,V.o σ.length)]∨∃v,tl=[(48,.o σ.length),(43,v)])→fr.length+xs.length<65536→
 ∃MT,(MT=[(48,V.o σ.length)]∨∃v,MT=[(48,.o σ.length),(43,v)])∧eu (cW (ev cl (n+14)) ⟨b,[]⟩ (.v 43) bF) (ES s ps nm pv (KS k w l m done now many tl)) (σ++[.list (aM fr)]) (aM xs)=
   some (.next,ES s ps nm pv (KS k w l m done now many MT),σ++[.list (aM (xs.foldl (jT done) fr))]):=by
 intro L_;induction L_ with
 |nil=>intro fr tl ht o_;exact⟨tl,ht,rfl⟩
 |cons x xs IH_=>
  intro fr tl ht hl;refine aQ (IH_ (jT done fr x) [(48,.o σ.length),(43,.int x)] (.inr ⟨_,rfl⟩) (by delta jT;split<;>simp at hl⊢ <;>omega)) λMT OE ih=>a7 MT OE ?_
  have hB:∀σ',ba (ev cl (n+13)) ⟨b,[]⟩ (ES s ps nm pv (KS k w l m done now many [(48,.o σ.length),(43,.int x)])) (σ++[.list (aM fr)]) bF .next (ES s ps nm pv (KS k w l m done now many [(48,.o σ.length),(43,.int x)])) σ'→
   cW (ev cl (n+14)) ⟨b,[]⟩ (.v 43) bF (ES s ps nm pv (KS k w l m done now many tl)) (σ++[.list (aM fr)]) (.int x)=some (.next,ES s ps nm pv (KS k w l m done now many [(48,.o σ.length),(43,.int x)]),σ'):=by
   intro σ' h;rcases ht with rfl|⟨v,rfl⟩<;>exact h
  have c1:(ev cl (n+12)).e ⟨b,[]⟩ (ES s ps nm pv (KS k w l m done now many [(48,.o σ.length),(43,.int x)])) (σ++[.list (aM fr)]) (.p (.v 43) [.notIn] [(.v 45)])=_:=
   aC rfl rfl (by refine(?_:(wv _ _ _).map not=_);rw[(ve rfl)];rfl)
  have c2:(ev cl (n+12)).e ⟨b,[]⟩ (ES s ps nm pv (KS k w l m done now many [(48,.o σ.length),(43,.int x)])) (σ++[.list (aM fr)]) (.p (.v 43) [.notIn] [(.v 48)])=_:=
   aC rfl rfl (by refine(?_:(wv _ _ _).map not=_);rw[(ve cP)];rfl)
  have fin:∀q,(ev cl (n+13)).e ⟨b,[]⟩ (ES s ps nm pv (KS k w l m done now many [(48,.o σ.length),(43,.int x)])) (σ++[.list (aM fr)]) (.b true [(.p (.v 43) [.notIn] [(.v 45)]),(.p (.v 43) [.notIn] [(.v 48)])])=some (.bool q,σ++[.list (aM fr)])→q= !(done.contains x||fr.contains x)→
   eu (cW (ev cl (n+14)) ⟨b,[]⟩ (.v 43) bF) (ES s ps nm pv (KS k w l m done now many tl)) (σ++[.list (aM fr)]) (V.int x::aM xs)=some (.next,ES s ps nm pv (KS k w l m done now many MT),σ++[.list (aM (xs.foldl (jT done) (jT done fr x)))]):=by
   intro q hq e
   induction q using bC with
   |false=>
    have:jT done fr x=fr:=by delta jT;rw[iP];cases h:(done.contains x||fr.contains x)<;>simp_all
    rw[this] at ih⊢;rw[c8 (hB _ (aR hq rfl rfl aw)),ih]
   |true=>
    have:jT done fr x=fr++[x]:=by delta jT;rw[iN];cases h:(done.contains x||fr.contains x)<;>simp_all
    rw[this] at ih⊢;rw[c8 (hB (σ++[.list (aM (fr++[x]))]) (ec hq rfl (cC (el ?_ aw)) aw)),ih];rw[show aM (fr++[x])=aM fr++[V.int x] from Qi];exact lf hb rfl rfl rfl (by delta aM;rw[KE];simp at hl;exact aZ [_,_] (.h 1 (.a (.a ab (.a ae ai)) ai) (.c 65536) (.g (.a ab ai) (.c 65536))) rfl hl)
  induction hd:done.contains x using bC with
  |true=>rw[hd] at c1;exact fin false (av (bH c1 rfl)) (by rw[hd];rfl)|false=>rw[hd] at c1;exact fin (!fr.contains x) (av (bw c1 rfl (cw c2))) (by rw[hd];rfl)
end
theorem dD{v:V}{xs:List V}(h:bc σ v=some xs):aN σ v=some (!xs.isEmpty):=by
 induction v using Internal.V.casesOn with
 |list ys=>obtain rfl:=sJ h;rfl|o n=>show(bc σ _).map _=_;refine h▸?_;rfl|_=>cases h
theorem vn{x:Cell}{v:V}{xs:List V}(h:bc σ v=some xs):bc (σ++[x]) v=some xs:=by
 induction v using Internal.V.casesOn with
 |list ys=>exact h
 |o n=>
  simp only[bc] at h⊢
  induction q:σ[n]? using oA with
  |none=>rw[q] at h;cases h|some c=>rw[QP ((Qe.mp q).1),q];rw[q] at h;exact h
 |_=>cases h
noncomputable def qM(tl:aF):Prop:=tl=[]∨(∃v,tl=[(48,v)])∨∃v u,tl=[(48,v),(43,u)]
section
variable {s ps nm pv k w l m now:V} {done:List Nat} {many:Nat} {cl:Call} {n b:Nat} {qs:List RP}
theorem qO{xs:List Nat}(hb:b≤σ.length)(ht:qM tl)(hc:cl (σ++[Cell.list []]) (.fn 10002) [cY false qs,k,w,nm,now]=some (.list (aM xs),σ++[Cell.list []]))(hx:xs.length<60000)(hd:(done++xs.foldl (jT done) []).length≤65536):
 ∃MT,qM MT∧ba (ev cl (n+15)) ⟨b,[]⟩ (ES (cY false qs) ps nm pv (KS k w l m done now many tl)) σ bW .next (ES (cY false qs) ps nm pv (KS k w l m (done++xs.foldl (jT done) []) (.o σ.length) (many+1) MT)) (σ++[.list (aM (xs.foldl (jT done) []))]):=by
 have set:∃jg,(jg=[(48,V.o σ.length)]∨∃v,jg=[(48,.o σ.length),(43,v)])∧bT (ES (cY false qs) ps nm pv (KS k w l m done now (many+1) tl)) 48 (.o σ.length)=ES (cY false qs) ps nm pv (KS k w l m done now (many+1) jg):=by
  rcases ht with rfl|⟨v,rfl⟩|⟨v,u,rfl⟩
  ·exact a7 _ (.inl rfl) rfl
  ·exact a7 _ (.inl rfl) rfl
  ·exact a7 _ (.inr ⟨_,rfl⟩) rfl
 refine aQ set λjg ht1 Nu=>aQ (uO (s:=cY false qs) (ps:=ps) (nm:=nm) (pv:=pv) (k:=k) (w:=w) (l:=l) (m:=m) (now:=now) (done:=done) (many:=many+1) (cl:=cl) (n:=n+1) σ hb xs [] jg ht1 (by simp;exact cj hx rfl)) λM2 ht2 hf=>a7 M2 (by rcases ht2 with rfl|⟨v,rfl⟩;exact .inr (.inl ⟨_,rfl⟩);exact .inr (.inr ⟨_,_,rfl⟩)) ?_
 have MV:br _ ⟨b,[]⟩ _ _ (.for _ (.m (.v 6) 39 [(.v 28),(.v 29),(.v 40),(.v 46)]) bF)=_:=
  (cK (i:=.items (aM xs)) (by rw[lF rfl,aS rfl rfl rfl hc];rfl)).trans hf
 have NE:ii (σ++[.list (aM (xs.foldl (jT done) []))]) .add (.list (aM done)) (.o σ.length)=some (.list (aM (done++xs.foldl (jT done) []))):=by refine(?_:(bc _ _).bind _=_);refine cP▸?_;refine(?_:(if(aM done++aM _).length≤65536 then some _ else none)=_);rw[show aM done++aM (xs.foldl (jT done) [])=aM (done++xs.foldl (jT done) []) from Qi.symm,iP (by delta aM;rw[KE];exact hd)]
 have rest:∀M2,(M2=[(48,V.o σ.length)]∨∃v,M2=[(48,.o σ.length),(43,v)])→ba (ev cl (n+15)) ⟨b,[]⟩ (ES (cY false qs) ps nm pv (KS k w l m done now (many+1) M2)) (σ++[.list (aM (xs.foldl (jT done) []))]) [.a [(.v 45)] (.bin .add (.v 45) (.v 48)),.a [(.v 46)] (.v 48)] .next
  (ES (cY false qs) ps nm pv (KS k w l m (done++xs.foldl (jT done) []) (.o σ.length) (many+1) M2)) (σ++[.list (aM (xs.foldl (jT done) []))]):=by
  intro M2 h2;rcases h2 with rfl|⟨v,rfl⟩<;>exact aI (aX rfl rfl NE) rfl (az rfl aw)
 exact az rfl (az (by simp only[Bo];refine(?_:(some (bT (ES _ ps nm pv (KS k w l m done now (many+1) tl)) 48 _,_)).bind _=_);rw[Nu];rfl) (az MV (rest M2 ht2)))
theorem zZ(h:bc σ now=some (aM [])):(ev cl (n+8)).e ⟨b,[]⟩ (ES s ps nm pv (KS k w l m done now many tl)) σ qW=some (now,σ):=av (bH rfl (dD h))
theorem Fb{nl:List Nat}(h:bc σ now=some (aM (x::nl))):(ev cl (n+8)).e ⟨b,[]⟩ (ES s ps nm pv (KS k w l .none done now many tl)) σ qW=some (.bool true,σ):=
 av (bw rfl (dD h) (cw (av (oX rfl rfl))))
theorem D8{nl:List Nat}(h:bc σ now=some (aM (x::nl))):(ev cl (n+8)).e ⟨b,[]⟩ (ES s ps nm pv (KS k w l (.int 1) done now many tl)) σ qW=some (.bool (decide ((many:Int)<1)),σ):=
 av (bw rfl (dD h) (cw (av (o8 (v:=.bool false) rfl rfl (cw rfl)))))
noncomputable def ix(cl:Call)(s k w nm:V)(R:Nat→Nat→Prop)(N:Nat):Prop:=∀ (σ:aq) (now:V) (nl:List Nat),bc σ now=some (aM nl)→nl.Nodup→(∀p∈nl,p≤N)→
 ∃xs,cl σ (.fn 10002) [s,k,w,nm,now]=some (.list (aM xs),σ)∧(∀x,x∈xs↔ ∃p∈nl,R p x)∧xs.length≤N+1
noncomputable def Inv(R:Nat→Nat→Prop)(done nl base:List Nat):Prop:=∀y,(y∈done∨y∈base)→y∉nl→∀z,R y z→z∈done
theorem jO(hN:N≤300)(hR:∀p x,R p x→p≤N→x≤N)(base:List Nat)(ho:ix cl (cY false qs) k w nm R N):∀ (μ:Nat) (done nl:List Nat) (now:V) (many:Nat) (tl:aF) (σ:aq),
 N+1 -done.length+(if nl=[] then 0 else 1)≤μ→done.Nodup→(∀x∈done,x≤N)→nl.Nodup→(∀x∈nl,x≤N)→bc σ now=some (aM nl)→b≤σ.length→qM tl→Inv R done nl base→
 ∃MS Nj M7 MT cells,br (ev cl (μ+20)) ⟨b,[]⟩ (ES (cY false qs) ps nm pv (KS k w l .none done now many tl)) σ (.while qW bW)=some (.next,ES (cY false qs) ps nm pv (KS k w l .none MS Nj M7 MT),σ++cells)∧
   qM MT∧MS.Nodup∧(∀x∈MS,x≤N)∧Inv R MS [] base∧(∀x∈done,x∈MS)∧∀x∈MS,x∈done∨∃p∈nl,∃z,R p z∧Star R z x
 |μ,done,[],now,many,tl,σ,hm,hd,OL,hn,NY,hv,ND,ht,hi=>⟨done,now,many,tl,[],by rw[Qj];exact iy (zZ hv) (dD hv),ht,hd,OL,hi,λo_ q=>q,λo_ q=>.inl q⟩|0,done,y::nl,now,many,tl,σ,hm,hd,OL,hn,NY,hv,ND,ht,hi=>by simp at hm
 |μ+1,done,y::nl,now,many,tl,σ,hm,hd,OL,hn,NY,hv,ND,ht,hi=>by
  refine gv (ho (σ++[Cell.list []]) now (y::nl) (vn hv) hn NY) λxs h1 h2 h3=>?_;have fm:∀x,x∈xs.foldl (jT done) []↔x∈xs∧x∉done:=λx=>by rw[yy];simp
  have fnd:=rk done xs [] Sa
  have fb:=λx hx=>by exact aQ ((h2 x).mp ((fm x).mp hx).1) λp hp hr=>hR p x hr (NY p hp)
  have PZ:=Tz.mpr ⟨hd,fnd,λa ha b hb e=>((fm b).mp hb).2 (e▸ha)⟩;have db:=λx hx=>(Qh.mp hx).elim (OL x) (fb x);have dl:=gP PZ db;refine aQ (qO (ps:=ps) (pv:=pv) (l:=l) (m:=V.none) (many:=many) (n:=μ+5) ND ht h1 (aZ [_,_] (.h 1 ab (.a ae ai) (.h 1 ae (.c 300) (.g (.a ab ai) (.c 60000)))) rfl h3 hN) (aZ [_,_] (.h 1 ab (.a ae ai) (.h 1 ae (.c 300) (.g ab (.c 65536)))) rfl dl hN)) λMT OE hr=>?_;generalize hf:xs.foldl (jT done) []=fresh at*
  refine KT (jO hN hR base ho μ (done++fresh) fresh (.o σ.length) (many+1) MT (σ++[.list (aM fresh)])
   (by
    simp at hm;refine Qa▸?_
    induction fresh using lC with
    |nil=>simp;exact hm|cons a f=>simp at dl⊢;exact aZ [_,_,_,_,_] (.h 1 (.a ab (.a ae (.a af ai))) (.a ag ai) (.h 1 (.a ag ai) (.a ah ae) (.g (.a ab ai) ah))) rfl (nE (sC dl)) hm)
   PZ db fnd fb cP (by simp only[Qa];exact nT ND (SW _ _)) OE (by
    intro a ha hna z hz
    by_cases hin:a∈y::nl
    ·by_cases hzd:z∈done
     ·exact RL _ hzd
     ·exact Tb _ ((fm z).mpr ⟨(h2 z).mpr ⟨a,hin,hz⟩,hzd⟩)
    ·refine RL _ (hi a ?_ hin z hz);rcases ha with ha|ha
     ·rcases Qh.mp ha with ha|ha
      ·exact .inl ha
      ·exact absurd ha hna
     ·exact .inr ha)) λMS Nj M7 tl'' cells e e1 e2 e3 e4 e5 e6=>?_
  refine Mu MS Nj M7 tl'' (Cell.list (aM fresh)::cells) (i7 (Fb hv) rfl (cC hr) (by simp only[e,Qc];rfl)) e1 e2 e3 e4 (λx hx=>e5 x (RL _ hx)) (λx hx=>?_);rcases e6 x hx with hx|⟨p,hp,z,hz,hs⟩
  ·rcases Qh.mp hx with hx|hx
   ·exact .inl hx
   ·exact aQ ((h2 x).mp ((fm x).mp hx).1) λp hp hr=>.inr ⟨p,hp,x,hr,.refl⟩
  ·exact aQ ((h2 p).mp ((fm p).mp hp).1) λp0 hp0 hr0=>.inr ⟨p0,hp0,p,hr0,.step hz hs⟩
end
section
variable {ps nm pv k w l now:V} {qs:List RP} {b:Nat}
theorem qF(hN:N≤300)(hR:∀p x,R p x→p≤N→x≤N)(ho:ix cl (cY false qs) k w nm R N)(done nl:List Nat)(tl:aF)(σ:aq)(hd:done.Nodup)(OL:∀x∈done,x≤N)(hn:nl.Nodup)(NY:∀x∈nl,x≤N)(hv:bc σ now=some (aM nl))(ND:b≤σ.length)(ht:qM tl):∃MS Nj M7 MT cells,br (ev cl (n+20)) ⟨b,[]⟩ (ES (cY false qs) ps nm pv (KS k w l (.int 1) done now 0 tl)) σ (.while qW bW)=some (.next,ES (cY false qs) ps nm pv (KS k w l (.int 1) MS Nj M7 MT),σ++cells)∧
  qM MT∧MS.Nodup∧(∀x∈MS,x≤N)∧∀x,x∈MS↔x∈done∨∃p∈nl,R p x:=by
 induction nl using lC with
 |nil=>exact Lr done now 0 tl ([]) (by rw[Qj];exact iy (zZ hv) (dD hv)) ht hd OL (λx=>by simp)
 |cons y nl=>
  refine gv (ho (σ++[Cell.list []]) now (y::nl) (vn hv) hn NY) λxs h1 h2 h3=>?_;have fm:∀x,x∈xs.foldl (jT done) []↔x∈xs∧x∉done:=λx=>by rw[yy];simp
  have fb:=λx hx=>by exact aQ ((h2 x).mp ((fm x).mp hx).1) λp hp hr=>hR p x hr (NY p hp)
  have PZ:=Tz.mpr ⟨hd,(rk done xs [] Sa),λa ha b hb e=>((fm b).mp hb).2 (e▸ha)⟩;refine aQ (qO (ps:=ps) (pv:=pv) (l:=l) (m:=V.int 1) (many:=0) (n:=n+4) ND ht h1 (aZ [_,_] (.h 1 ab (.a ae ai) (.h 1 ae (.c 300) (.g (.a ab ai) (.c 60000)))) rfl h3 hN) (aZ [_,_] (.h 1 ab (.a ae ai) (.h 1 ae (.c 300) (.g ab (.c 65536)))) rfl (gP PZ (λx hx=>(Qh.mp hx).elim (OL x) (fb x))) hN)) λMT OE hr=>?_;generalize hf:xs.foldl (jT done) []=fresh at*;refine Lr (done++fresh) (.o σ.length) 1 MT ([Cell.list (aM fresh)]) (i7 (D8 hv) rfl (cC hr) ?_) OE PZ (λx hx=>(Qh.mp hx).elim (OL x) (fb x)) (λx=>?_)
  ·induction PM:fresh using lC with|nil=>subst PM;exact iy (zZ cP) (dD cP)|cons a f=>subst PM;exact iy (D8 cP) rfl
  ·rw[Qh,fm,h2];constructor
   ·rintro(h|⟨h,_⟩)
    ·exact .inl h
    ·exact .inr h
   ·rintro(h|h)
    ·exact .inl h
    ·by_cases q:x∈done
     ·exact .inl q
     ·exact .inr ⟨h,q⟩
theorem qp{done:List Nat}(h:∀y∈done,∀z,R y z→z∈done){p:Nat}(s:Star R p x):p∈done→x∈done:=by
 induction s with
 |refl=>exact id|step r _ ih=>exact λq=>ih (h _ q _ r)
theorem zj(d:Nat)(a:RP)(hN:name.length≤300)(ho:ix (call (d+1)) (cY false qs) a.kind a.what (.bytes name) (gj name a) name.length)(pl:List Nat)(tl:aF)(σ:aq)(hn:pl.Nodup)(NY:∀x∈pl,x≤name.length)(hv:bc σ pv=some (aM pl))(ND:b≤σ.length)(ht:tl=[]∨∃k w l m done now many M2,qM M2∧tl=KS k w l m done now many M2):
 ∃MS MT cells,cW (ev (call (d+1)) 399) ⟨b,[]⟩ (.t [.v 28,.v 29,.v 30,.v 31]) bE (ES (cY false qs) ps (.bytes name) pv tl) σ a.toV=some (.next,ES (cY false qs) ps (.bytes name) (.list (aM MS)) MT,σ++cells)∧
   (∃k w l m done now many M2,qM M2∧MT=KS k w l m done now many M2)∧MS.Nodup∧(∀x∈MS,x≤name.length)∧∀x,x∈MS↔ ∃p∈pl,kI a.q (gj name a) p x:=by
 have Ng:∀σ,bc σ pv=some (aM pl)→call (d+1) σ (.blt 49) [pv]=some _:=λσ hv=>by refine(?_:(mB σ 49 [pv]).map _=_);simp only[show mB σ 49 [pv]=(bc σ pv).map .list from rfl,hv];rfl
 have le:=vl name a
 have start:∀ (Nz:List Nat) (R':aF×aq),(if a.q.least matches .int 0 then pl else[])=Nz→∀M2,qM M2→
  (∀ (Nn:aF),Nn=M2→∃MS Nj M7 MT cells,br (ev (call (d+1)) 398) ⟨b,[]⟩ (ES (cY false qs) ps (.bytes name) pv (KS a.kind a.what a.q.least a.q.most Nz (.list (aM pl)) 0 M2)) σ (.while qW bW)=some (.next,ES (cY false qs) ps (.bytes name) pv (KS a.kind a.what a.q.least a.q.most MS Nj M7 MT),σ++cells)∧qM MT∧MS.Nodup∧(∀x∈MS,x≤name.length)∧∀x,x∈MS↔ ∃p∈pl,kI a.q (gj name a) p x)→True:=λo_ o_ o_ o_ o_ o_=>trivial
 clear start
 have loop:∀M2,qM M2→∃Nz MS Nj M7 MT cells,(ev (call (d+1)) 398).e ⟨b,[]⟩ (ES (cY false qs) ps (.bytes name) pv []) σ (.v 41)=some (pv,σ)∧Nz=(match a.q with|.opt|.star=>pl|_=>[])∧
  br (ev (call (d+1)) 398) ⟨b,[]⟩ (ES (cY false qs) ps (.bytes name) pv (KS a.kind a.what a.q.least a.q.most Nz (.list (aM pl)) 0 M2)) σ (.while qW bW)=some (.next,ES (cY false qs) ps (.bytes name) pv (KS a.kind a.what a.q.least a.q.most MS Nj M7 MT),σ++cells)∧qM MT∧MS.Nodup∧(∀x∈MS,x≤name.length)∧∀x,x∈MS↔ ∃p∈pl,kI a.q (gj name a) p x:=by
  intro M2 h2
  induction hq:a.q using Internal.Qt.casesOn with
  |one=>exact LF (qF (n:=378) (ps:=ps) (pv:=pv) (l:=Qt.one.least) (now:=.list (aM pl)) hN le ho [] pl M2 σ Sa (by simp) hn NY rfl ND h2) λMS Nj M7 MT cells e1 e2 e3 e4 e5=>Jv ([]) MS Nj M7 MT cells rfl rfl e1 e2 e3 e4 (λx=>by rw[e5];simp[kI])
  |opt=>
   refine LF (qF (n:=378) (ps:=ps) (pv:=pv) (l:=Qt.opt.least) (now:=.list (aM pl)) hN le ho pl pl M2 σ hn NY hn NY rfl ND h2) λMS Nj M7 MT cells e1 e2 e3 e4 e5=>Jv pl MS Nj M7 MT cells rfl rfl e1 e2 e3 e4 (λx=>?_);rw[e5];constructor
   ·rintro(h|⟨p,hp,h⟩)
    ·exact a7 x h (.inl rfl)
    ·exact a7 p hp (.inr h)
   ·rintro⟨p,hp,rfl|h⟩
    ·exact .inl hp
    ·exact .inr ⟨p,hp,h⟩
  |star=>
   refine KT (jO (ps:=ps) (pv:=pv) (l:=Qt.star.least) hN le [] ho 378 pl pl (.list (aM pl)) 0 M2 σ (by split<;>(clear ho hn NY hv ND ht Ng le h2 hq;omega)) hn NY hn NY rfl ND h2 (λy hy hny=>absurd (hy.resolve_right (by simp)) hny)) λMS Nj M7 MT cells e1 e2 e3 e4 e5 e6 e7=>Jv pl MS Nj M7 MT cells rfl rfl e1 e2 e3 e4 (λx=>⟨λhx=>?_,λz3=>aQ z3 λp hp h=>?_⟩)
   ·rcases e7 x hx with h|⟨p,hp,z,h1,h2⟩
    ·exact a7 x h (.refl)
    ·exact a7 p hp (.step h1 h2)
   ·exact qp (λy hy z hz=>e5 y (.inl hy) (by simp) z hz) h (e6 p hp)
  |plus=>
   refine KT (jO (ps:=ps) (pv:=pv) (l:=Qt.plus.least) hN le pl ho 378 [] pl (.list (aM pl)) 0 M2 σ (by split<;>simp<;>lia) Sa (by simp) hn NY rfl ND h2 (λy hy hny=>absurd (hy.resolve_left (by simp)) hny)) λMS Nj M7 MT cells e1 e2 e3 e4 e5 e6 e7=>Jv ([]) MS Nj M7 MT cells rfl rfl e1 e2 e3 e4 (λx=>⟨λhx=>?_,λ⟨p,hp,z,h1,h2⟩=>?_⟩)
   ·rcases e7 x hx with h|⟨p,hp,z,h1,h2⟩
    ·simp at h
    ·exact a7 p hp ⟨z,h1,h2⟩
   ·exact qp (λy hy z hz=>e5 y (.inl hy) (by simp) z hz) h2 (e5 p (.inr hp) (by simp) z h1)
 have tail:∀Nx M2,qM M2→(∀ss fl ρ' σ',ba (ev (call (d+1)) 398) ⟨b,[]⟩ (ES (cY false qs) ps (.bytes name) pv (KS a.kind a.what a.q.least a.q.most (match a.q with|.opt|.star=>pl|_=>[]) (.list (aM pl)) 0 M2)) σ ss fl ρ' σ'→
  ba (ev (call (d+1)) 398) ⟨b,[]⟩ (ES (cY false qs) ps (.bytes name) pv Nx) σ (.a [(.v 45)] (.ite (.p (.v 30) [.eq] [(.k (.int 0))]) (.call (.g 49) [(.v 41)]) (.list []))::.a [(.v 46)] (.call (.g 49) [(.v 41)])::.a [(.v 47)] (.k (.int 0))::ss) fl ρ' σ')→
  ∃MS MT cells,ba (ev (call (d+1)) 398) ⟨b,[]⟩ (ES (cY false qs) ps (.bytes name) pv Nx) σ bE .next (ES (cY false qs) ps (.bytes name) (.list (aM MS)) MT) (σ++cells)∧
  (∃k w l m done now many M2,qM M2∧MT=KS k w l m done now many M2)∧MS.Nodup∧(∀x∈MS,x≤name.length)∧∀x,x∈MS↔ ∃p∈pl,kI a.q (gj name a) p x:=by
  intro Nx M2 h2 pre;refine MA (loop M2 h2) λNz MS Nj M7 MT cells o_ z1 e1 e2 e3 e4 e5=>?_;subst z1;exact JB MS _ cells (pre _ _ _ _ (az e1 (az rfl aw))) ⟨_,_,_,_,_,_,_,_,e2,rfl⟩ e3 e4 e5
 rw[RP.toV_eq]
 have asg:∀Nx,(Nx=[(28,a.kind),(29,a.what),(30,a.q.least),(31,a.q.most)]∨∃x y z M2,Nx=(28,a.kind)::(29,a.what)::(30,a.q.least)::(31,a.q.most)::(45,x)::(46,y)::(47,z)::M2∧qM M2)→∃M2,qM M2∧
  (∀ss fl ρ' σ',ba (ev (call (d+1)) 398) ⟨b,[]⟩ (ES (cY false qs) ps (.bytes name) pv (KS a.kind a.what a.q.least a.q.most (match a.q with|.opt|.star=>pl|_=>[]) (.list (aM pl)) 0 M2)) σ ss fl ρ' σ'→
  ba (ev (call (d+1)) 398) ⟨b,[]⟩ (ES (cY false qs) ps (.bytes name) pv Nx) σ (.a [(.v 45)] (.ite (.p (.v 30) [.eq] [(.k (.int 0))]) (.call (.g 49) [(.v 41)]) (.list []))::.a [(.v 46)] (.call (.g 49) [(.v 41)])::.a [(.v 47)] (.k (.int 0))::ss) fl ρ' σ'):=by
  intro Nx h0;rcases h0 with rfl|⟨x,y,z,M2,rfl,h2⟩
  ·refine a7 ([]) (.inl rfl) (λss fl ρ' σ' h=>?_);cases hq:a.q<;>rw[hq] at h
   ·exact aI (v:=.list (aM [])) (bN (v:=.bool false) rfl rfl rfl) rfl (aI (ao rfl rfl rfl (Ng σ hv)) rfl (az rfl h))
   ·exact aI (bV (v:=.bool true) rfl rfl (ao rfl rfl rfl (Ng σ hv))) rfl (aI (ao rfl rfl rfl (Ng σ hv)) rfl (az rfl h))
   ·exact aI (bV (v:=.bool true) rfl rfl (ao rfl rfl rfl (Ng σ hv))) rfl (aI (ao rfl rfl rfl (Ng σ hv)) rfl (az rfl h))
   ·exact aI (v:=.list (aM [])) (bN (v:=.bool false) rfl rfl rfl) rfl (aI (ao rfl rfl rfl (Ng σ hv)) rfl (az rfl h))
  ·refine a7 M2 h2 (λss fl ρ' σ' h=>?_);cases hq:a.q<;>rw[hq] at h
   ·exact aI (v:=.list (aM [])) (bN (v:=.bool false) rfl rfl rfl) rfl (aI (ao rfl rfl rfl (Ng σ hv)) rfl (az rfl h))
   ·exact aI (bV (v:=.bool true) rfl rfl (ao rfl rfl rfl (Ng σ hv))) rfl (aI (ao rfl rfl rfl (Ng σ hv)) rfl (az rfl h))
   ·exact aI (bV (v:=.bool true) rfl rfl (ao rfl rfl rfl (Ng σ hv))) rfl (aI (ao rfl rfl rfl (Ng σ hv)) rfl (az rfl h))
   ·exact aI (v:=.list (aM [])) (bN (v:=.bool false) rfl rfl rfl) rfl (aI (ao rfl rfl rfl (Ng σ hv)) rfl (az rfl h))
 rcases ht with rfl|⟨k,w,l,m,done,now,many,M2,h2,rfl⟩
 ·exact aQ (asg _ (.inl rfl)) λM2 h2 pre=>JZ (tail _ M2 h2 pre) λMS MT cells e r=>L5 MS MT cells e r
 ·refine cps λX_ k_=>?_;obtain⟨Nn,h3,pre⟩:=asg _ (.inr ⟨_,_,_,M2,rfl,h2⟩);refine JZ (tail _ Nn h3 pre) λMS MT cells e r=>k_ ?_;exact L5 MS MT cells e r
end
noncomputable def EQ(E:Nat)(qs:List RP)(name:List UInt8)(ps:List RP):Prop:=∀ (σ:aq) (pv:V) (pl:List Nat),bc σ pv=some (aM pl)→pl.Nodup→(∀x∈pl,x≤name.length)→
 ∃done,call E σ (.fn 10003) [cY false qs,.list (RP.toVs ps),.bytes name,pv]=some (.list (aM done),σ)∧done.Nodup∧(∀x∈done,x≤name.length)∧∀x,x∈done↔ ∃p∈pl,iS name ps p x
theorem th(d b:Nat)(qs:List RP)(name:Ab)(hN:name.length≤300)(ps:V):∀ (as:List RP) (pv:V) (pl:List Nat) (tl:aF) (σ:aq),(∀a∈as,ix (call (d+1)) (cY false qs) a.kind a.what (.bytes name) (gj name a) name.length)→
 bc σ pv=some (aM pl)→pl.Nodup→(∀x∈pl,x≤name.length)→b≤σ.length→(tl=[]∨∃k w l m done now many M2,qM M2∧tl=KS k w l m done now many M2)→
 ∃done Pk MT cells,eu (cW (ev (call (d+1)) 399) ⟨b,[]⟩ (.t [.v 28,.v 29,.v 30,.v 31]) bE) (ES (cY false qs) ps (.bytes name) pv tl) σ (RP.toVs as)=some (.next,ES (cY false qs) ps (.bytes name) Pk MT,σ++cells)∧
   (as≠[]∨pv= .list (aM pl)→Pk= .list (aM done))∧done.Nodup∧(∀x∈done,x≤name.length)∧∀x,x∈done↔ ∃p∈pl,iS name as p x:=by
 intro L_;induction L_ with
 |nil=>intro pv pl tl σ o_ hv hn hb o_ o_;exact⟨pl,pv,tl,[],by simp only[Qj];rfl,λh=>h.resolve_left (λq=>q rfl),hn,hb,λx=>by simp only[t9];exact⟨λh=>⟨x,h,rfl⟩,λz1=>aQ z1 λp hp e=>e▸hp⟩⟩
 |cons a as IH_=>
  intro pv pl tl σ ho hv hn hb ND ht;refine Jj (zj (ps:=ps) d a hN (ho a mS) pl tl σ hn hb hv ND ht) λON jg Oh e1 e2 e3 e4 e5=>L2 (IH_ (.list (aM ON)) ON jg (σ++Oh) (λa ha=>ho a (mM ha)) rfl e3 e4 (by simp only[Qa];exact nT ND (SW _ _)) (.inr e2)) λdone Pk MT cells f1 f2 f3 f4 f5=>My done Pk MT (Oh++cells) ?_ (λo_=>f2 (.inr rfl)) f3 f4 (λx=>?_)
  ·simp only[show RP.toVs (a::as)=a.toV::RP.toVs as by simp only[iJ],c8 e1,f1,Qc]
  ·rw[f5];constructor
   ·rintro⟨y,hy,h⟩;exact aQ ((e5 y).mp hy) λp hp hq=>a7 p hp ⟨y,hq,h⟩
   ·rintro⟨p,hp,y,hq,h⟩;exact a7 y ((e5 y).mpr ⟨p,hp,hq⟩) h
theorem u9(d:Nat){qs:List RP}(hN:name.length≤300){ps:List RP}(NV:ps≠[])(ho:∀a∈ps,ix (call (d+1)) (cY false qs) a.kind a.what (.bytes name) (gj name a) name.length):EQ (d+2) qs name ps:=by intro σ pv pl hv hn hb;refine L2 (th d σ.length qs name hN (.list (RP.toVs ps)) ps pv pl [] σ ho hv hn hb nR (.inl rfl)) λdone Pk MT cells e1 e2 e3 e4 e5=>?_;have e2:=e2 (.inl NV);subst e2;refine GX done ?_ e3 e4 e5;exact cH rfl rfl rfl (az ((cK (i:=.items (RP.toVs ps)) rfl).trans e1) (eD rfl)) (eT _ _ _ _) (by refine(Ru nR)▸?_;exact QG)
theorem jQ(d:Nat){qs:List RP}{a:RP}(hN:name.length≤300)(h:∀ps q,a≠ .grp ps q):ix (call (d+2)) (cY false qs) a.kind a.what (.bytes name) (gj name a) name.length:=by
 intro σ pv pl hv hn hb;have hl:=gP hn hb
 induction a using Internal.RP.casesOn with
 |oct neg rs q=>
  refine sx _ (A5 d σ qs neg rs name pv pl hv (aZ [_,_] (.h 1 ab (.a ae ai) (.h 1 ae (.c 300) (.g (.a ab ai) (.c 65536)))) rfl hl hN)) (λx=>?_) ?_
  ·rw[SQ];simp only[uP]
  ·refine nT ?_ hl
   have:∀l:List Nat,(l.flatMap (iA neg rs name)).length≤l.length:=λl=>by
    induction l with
    |nil=>simp|cons x l ih=>have h1:=IL neg rs name x;unfold aM at h1;rw[KE] at h1;simp only[QC,Qa];exact aZ [_,_,_] (.h 1 ab ae (.h 1 af ai (.g (.a af ab) (.a ae ai)))) rfl ih h1
   exact this pl
 |grp ps q=>exact absurd rfl (h ps q)
 |fin q=>
  refine sx _ (Bd d σ (cY false qs) _ name pv pl hv (aZ [_,_] (.h 1 ab (.a ae ai) (.h 1 ae (.c 300) (.g (.a ab ai) (.c 65536)))) rfl hl hN)) (λx=>?_) (nT (RD _ _) hl);rw[Qu];simp only[Fe];constructor
  ·rintro⟨h1,h2⟩;exact sx x h1 (bA h2) rfl
  ·rintro⟨p,h1,h2,rfl⟩;exact⟨h1,by simp[h2]⟩
noncomputable def JC(a:RP):Prop:=∀ps q,a≠ .grp ps q
noncomputable def Bx(a:RP):Prop:=∀ps q,a= .grp ps q→ps≠[]∧∀b∈ps,JC b
theorem Dv(d:Nat){qs:List RP}{a:RP}(hN:name.length≤300)(h:Bx a):ix (call (d+4)) (cY false qs) a.kind a.what (.bytes name) (gj name a) name.length:=by
 induction a using Internal.RP.casesOn with
 |grp ps q=>intro σ pv pl hv hn hb;exact DH ((u9 (d+1) (qs:=qs) hN (h ps q rfl).1 λb hb=>jQ d hN ((h ps q rfl).2 b hb)) σ pv pl hv hn hb) λdone e1 e2 e3 e4=>sx done (yl (d+2) σ qs (.list (RP.toVs ps)) name pv (λσ n=>eT σ n 2 done) e1) (λx=>by rw[e4];simp only[GU]) (gP e2 e3)|oct neg rs q=>exact jQ (d+2) hN (λo_ o_=>by simp)|fin q=>exact jQ (d+2) hN (λo_ o_=>by simp)
theorem oa(d:Nat)(σ:aq){ps:List RP}(hN:name.length≤300)(NV:ps≠[])(h:∀a∈ps,Bx a):∃b,call (d+6) σ (.fn 10004) [cY false ps,.bytes name]=some (.bool b,σ)∧(b=true↔ ∃x,iS name ps 0 x):=by
 refine DH (u9 (d+3) (qs:=ps) hN NV (λa ha=>Dv d hN (h a ha)) σ (.list (aM [0])) [0] rfl (by simp) (by simp)) λdone e1 e2 e3 e4=>a7 (decide ((0:Int)<(done.length:Int))) ?_ ?_
 ·have MZ:mB σ 32 [.list (aM done)]=some (.int done.length):=by refine(?_:some (V.int (aM done).length)=_);delta aM;rw[KE]
  exact au rfl rfl rfl rfl (aO (aC (ao rfl rfl (am (aS rfl rfl rfl e1) rfl) (by simp only[dk,MZ];rfl)) rfl rfl))
 ·simp only[decide_eq_true_eq];constructor
  ·intro h
   induction done using lC with
   |nil=>simp at h|cons x l=>refine aQ ((e4 x).mp mS) λp hp hs=>?_;have:=mA hp;subst this;exact I8 x hs
  ·rintro⟨x,hx⟩;have:=(e4 x).mpr ⟨0,by simp,hx⟩;have:=List.length_pos_of_mem this;lia
theorem xS{r:Ev}{v:V}(hp:jM C a=none)(ht:dP.contains (C,a)=true)(hg:aE fs a=some v):jq r (σ++[.obj C fs]) (.o σ.length) a=some (v,σ++[.obj C fs]):=by delta jq jX;simp only[P8,eU,hp,ht,hg,if_true,QI]
theorem dY{c:Cx}{σ1:aq}{R:Option (V×aq)}(ho:(ev cl n).e c ρ σ e=some (o,σ1))(h:jq (ev cl n) σ1 o a=R):(ev cl (n+1)).e c ρ σ (.attr e a)=R:=by simp only[bY,EL,ho];exact h
theorem cx{b:Nat}{ρ':aF}{σ':aq}{v:V}{ss:List S}{fl:Fl}(hb:b≤σ.length)(hx:aE ρ 6=some (.o σ.length))(he:(ev cl n).e ⟨b,[]⟩ ρ (σ++[.obj C fs]) e=some (v,σ++[.obj C fs]))(ht:(decide (fs.length<100)&&dP.contains (C,a))=true)(hv:below (σ.length+1) v=true)(k:ba (ev cl n) ⟨b,[]⟩ ρ (σ++[.obj C (bT fs a v)]) ss fl ρ' σ'):ba (ev cl n) ⟨b,[]⟩ ρ (σ++[.obj C fs]) (.a [.attr 6 a] e::ss) fl ρ' σ':=
 aI he (gZ hx (jC hb ht hv)) k
noncomputable def IE(p:List UInt8):List UInt8:=(if !(cut p none (some (-1))).contains 47 then[40,46,42,47,41,63] else[])++(ru p).2++Bw (ru p).1++(if !([47].isSuffixOf (ru p).1) then[47,63] else[])++[92,90]
theorem E8(p:Ab):KX p=[40,63,109,115,41]++IE p:=rfl
structure Comp(p:List UInt8)(ps:List RP):Prop where
 ok:PatOk (ru p).1
 rd:qk (IE p) ps []
 len:ps.length≤370
theorem od(d:Nat){ps:List RP}(h:Comp p ps){c:Cx}(he:(ev (call (d+7)) n).e c ρ σ e=some (.bytes p,σ))(hf:aE ρ 55=some (.int 0)):
 (ev (call (d+7)) (n+2)).e c ρ σ (.m (.g 56) 54 [(.call (.g 99) [e]),(.v 55)])=some (cY false ps,σ):=by
 have h1:(ev (call (d+7)) (n+1)).e c ρ σ (.call (.g 99) [e])=some (.bytes ([40,63,109,115,41]++IE p),σ):=by
  induction n using Qy with
  |zero=>cases he
  |succ n=>
   have hg:ju [e]=false:=by induction e using Internal.E.casesOn<;>first|rfl|cases he
   rw[ao hg rfl (am he rfl) (Gc d σ p h.ok),E8]
 exact aS rfl rfl (am h1 (am (by simp only[bY,sa,hf];rfl) rfl)) (Am d σ _ (IE p) h.rd h.len)
noncomputable def DU(p:List UInt8):Bool:=[47,42].isSuffixOf p||[47,42,42].isSuffixOf p
noncomputable def iz(line:List UInt8)(neg only:Bool)(p0:List UInt8)(P1 P2:List RP):V:=.inst 100 [(69,.bytes line),(35,.bool false),(101,.bool (!neg)),(102,.bool only),(103,.bool false),(104,cY false P1),(105,cY false P2),(106,.bool (DU p0))]
structure PatF(line body p0:List UInt8)(neg only:Bool)(P1 P2:List RP):Prop where
 hneg:[33].isPrefixOf line=neg
 hbs:[92].isPrefixOf line=false
 hbody:body=if neg then cut line (some 1) none else line
 honly:[47].isSuffixOf body=only
 hp0:a8 [47] body=p0
 hne:p0.isEmpty=false
 c1:Comp body P1
 c2:Comp p0 P2
theorem jp(n:Nat)(ic:Bool)(ps:List RP):below n (cY ic ps)=true:=by refine(?_:(true&&(below n _&&true))=_);rw[show below n (.list (RP.toVs ps))=true from fU n ps];rfl
theorem uQ(f:Nat→Option V)(ic:Bool)(ps:List RP):aY f (cY ic ps)=some (cY ic ps):=by refine(?_:(cy f _).map _=_);simp only[Er,yq,i5,RP.frzs];rfl
theorem Dj(d:Nat)(σ:aq){line body p0:Ab}{only:Bool}{P1 P2:List RP}(h:PatF line body p0 neg only P1 P2):call (d+8) σ (.cls 100) [.bytes line,.bool false]=some (iz line neg only p0 P1 P2,σ):=by
 obtain⟨hn,hbs,hbody,ho,hp0,hne,h1,h2⟩:=h
 have fin:∀ (q:Ab),q=body→ba (ev (call (d+7)) 399) ⟨σ.length,[]⟩ [(6,.o σ.length),(69,.bytes q),(35,.bool false)] (σ++[.obj 100 [(69,.bytes line),(35,.bool false),(101,.bool (!neg))]])
  [.a [(.attr 6 102)] (.m (.v 69) 197 [(.k (.bytes [47]))]),
 .a [(.attr 6 103)] (.not (.m (.v 69) 198 [(.k (.bytes [47]))])),
 .a [(.v 55)] (.k (.int 0)),
 .ite (.attr (.v 6) 35) [
  .a [(.v 55)] (.attr (.g 56) 52)] [],
 .a [(.attr 6 104)] (.m (.g 56) 54 [(.call (.g 99) [(.v 69)]),(.v 55)]),
 .a [(.attr 6 105)] (.m (.g 56) 54 [(.call (.g 99) [(.m (.v 69) 198 [(.k (.bytes [47]))])]),(.v 55)]),
 .a [(.attr 6 106)] (.b false [(.m (.m (.v 69) 198 [(.k (.bytes [47]))]) 197 [(.k (.bytes [47,42]))]),(.m (.m (.v 69) 198 [(.k (.bytes [47]))]) 197 [(.k (.bytes [47,42,42]))])])] .next
     [(6,.o σ.length),(69,.bytes q),(35,.bool false),(55,.int 0)] (σ++[.obj 100 [(69,.bytes line),(35,.bool false),(101,.bool (!neg)),(102,.bool only),(103,.bool false),(104,cY false P1),(105,cY false P2),(106,.bool (DU p0))]]):=by
  intro q e;subst e;refine cx (v:=.bool only) nR rfl (by refine ho▸?_;rfl) rfl rfl ?_;refine cx (v:=.bool false) nR rfl ?_ rfl rfl ?_
  ·refine(?_:some (V.bool (!(!(a8 [47] q).isEmpty)),_)=_);rw[hp0,hne];rfl
  refine az rfl (aR (dY rfl (xS rfl rfl rfl)) rfl rfl ?_);refine cx nR rfl (od d h1 rfl rfl) rfl (jp _ _ _) ?_;refine cx nR rfl (od d h2 ?_ rfl) rfl (jp _ _ _) ?_
  ·refine hp0▸?_;rfl
  refine cx nR rfl ?_ rfl rfl aw;delta DU
  induction hd:[47,42].isSuffixOf p0 using bC with
  |true=>exact av (oX (v:=.bool true) (S7 (b:=some (V.bool ([47,42].isSuffixOf (a8 [47] q)),_)) rfl (by rw[hp0,hd])) rfl)|false=>exact av (o8 (S7 (b:=some (V.bool ([47,42].isSuffixOf (a8 [47] q)),_)) rfl (by rw[hp0,hd])) rfl (cw (S7 (b:=some (V.bool ([47,42,42].isSuffixOf (a8 [47] q)),_)) rfl (by rw[hp0];rfl))))
 have frz:aV (σ++[.obj 100 [(69,.bytes line),(35,.bool false),(101,.bool (!neg)),(102,.bool only),(103,.bool false),(104,cY false P1),(105,cY false P2),(106,.bool (DU p0))]]) σ.length 2 (.o σ.length)=some (iz line neg only p0 P1 P2):=by refine iL ?_;simp only[RK,U2,fV _ _ (λf=>uQ f false P1) 1,fV _ _ (λf=>uQ f false P2) 1];rfl
 induction neg using bC with
 |true=>refine gS rfl rfl rfl rfl rfl rfl (cx nR rfl rfl rfl rfl (cx nR rfl rfl rfl rfl (ec rfl (cG some hn) (cC (cx (v:=.bool false) nR rfl rfl rfl rfl (az rfl aw))) (fin _ hbody.symm)))) frz iM|false=>refine gS rfl rfl rfl rfl rfl rfl (cx nR rfl rfl rfl rfl (cx nR rfl rfl rfl rfl (aR rfl (cG some hn) (cC (aR (av (bH rfl (cG some hbs))) (cG some hbs) rfl (cx nR rfl rfl rfl rfl aw))) (fin _ hbody.symm)))) frz iM
noncomputable def RX(ps:List RP)(name:List UInt8):Prop:=∃x,iS name ps 0 x
structure POk(ps:List RP):Prop where
 ne:ps≠[]
 ok:∀a∈ps,Bx a
section
variable {line p0:Ab} {neg only:Bool} {P1 P2:List RP}
theorem qQ(d:Nat)(σ:aq)(dir:Bool)(hN:name.length≤300)(h2:POk P2):∃b,call (d+7) σ (.fn 31002) [iz line neg only p0 P1 P2,.bytes name,.bool dir]=some (.bool b,σ)∧(b=true↔(only=true→dir=true)∧RX P2 name):=by
 refine aQ (oa d σ hN h2.ne h2.ok) λb e1 e2=>?_
 have mt:∀n,(ev (call (d+6)) (n+5)).e ⟨σ.length,[]⟩ [(6,iz line neg only p0 P1 P2),(40,.bytes name),(111,.bool dir)] σ (.call (.g 112) [(.m (.attr (.v 6) 105) 50 [(.v 40)])])=some (.bool b,σ):=λn=>ao rfl rfl (am (aS rfl rfl rfl e1) rfl) rfl
 induction only using bC with
 |false=>refine a7 b (au rfl rfl rfl rfl (aH rfl rfl rfl rfl (aH (av (bH rfl rfl)) rfl rfl rfl (aO (mt _))))) ?_;rw[e2];simp[RX]
 |true=>
  induction dir using bC with
  |true=>refine a7 b (au rfl rfl rfl rfl (aH rfl rfl rfl rfl (aH (w:=.bool false) (av (bw rfl rfl (cw rfl))) rfl rfl rfl (aO (mt _))))) ?_;rw[e2];simp[RX]|false=>exact a7 false (au rfl rfl rfl rfl (aH rfl rfl rfl rfl (cF (w:=.bool true) (av (bw rfl rfl (cw rfl))) rfl (aO rfl) rfl))) (by simp)
theorem ma(d:Nat)(σ:aq)(hN:name.length≤300)(h1:POk P1):∃b,call (d+7) σ (.fn 31004) [iz line neg false p0 P1 P2,.bytes name]=some (.bool b,σ)∧(b=true↔RX P1 name):=by
 refine aQ (oa d σ hN h1.ne h1.ok) λb e1 e2=>?_
 have mt:∀n,(ev (call (d+6)) (n+4)).e ⟨σ.length,[]⟩ [(6,iz line neg false p0 P1 P2),(115,.bytes name)] σ (.m (.attr (.v 6) 104) 50 [(.v 115)])=_:=λn=>aS rfl rfl rfl e1
 refine a7 b ?_ e2
 induction b using bC with
 |true=>exact au rfl rfl rfl rfl (aH rfl rfl rfl rfl (aH (av (bH rfl rfl)) rfl rfl rfl (cF (mt _) rfl (aO rfl) rfl)))|false=>exact au rfl rfl rfl rfl (aH rfl rfl rfl rfl (aH (av (bH rfl rfl)) rfl rfl rfl (aH (mt _) rfl rfl rfl (aH (av (bH rfl rfl)) rfl rfl rfl (aO rfl)))))
theorem xM(d:Nat)(σ:aq)(nm:V)(h:DU p0=false):call (d+1) σ (.fn 31003) [iz line neg only p0 P1 P2,nm]=some (.bool false,σ):=
 au rfl rfl rfl rfl (cF rfl (by refine h▸?_;rfl) (aO rfl) rfl)
theorem wL(d:Nat)(σ:aq)(hN:name.length≤290)(h1:POk P1)(h:DU p0=true):∃b,call (d+8) σ (.fn 31003) [iz line neg false p0 P1 P2,.bytes name]=some (.bool b,σ)∧(b=true↔RX P1 (name++[47]++[120])∨RX P1 (name++[47]++[120,47])):=by
 refine aQ (ma (line:=line) (neg:=neg) (p0:=p0) (P2:=P2) d σ (name:=name++[47]++[120]) (by simp;exact cj hN rfl) h1) λb1 e1 f1=>?_;refine aQ (ma (line:=line) (neg:=neg) (p0:=p0) (P2:=P2) d σ (name:=name++[47]++[120,47]) (by simp;exact cj hN rfl) h1) λb2 e2 f2=>?_;have add:∀ {a x:Ab},(a++x).length≤65536→ii σ .add (.bytes a) (.bytes x)=some (.bytes (a++x)):=λ {a x} hl=>by refine(?_:RM (if(a++x).length≤65536 then _ else none) _=_);rw[iP hl];rfl
 have m1:∀n,(ev (call (d+7)) (n+5)).e ⟨σ.length,[]⟩ [(6,iz line neg false p0 P1 P2),(40,.bytes name),(114,.bytes (name++[47]))] σ (.m (.v 6) 50 [(.bin .add (.v 114) (.k (.bytes [120])))])=_:=λn=>aS rfl rfl (am (aX rfl rfl (add (by simp;exact cj hN rfl))) rfl) e1
 have m2:∀n,(ev (call (d+7)) (n+5)).e ⟨σ.length,[]⟩ [(6,iz line neg false p0 P1 P2),(40,.bytes name),(114,.bytes (name++[47]))] σ (.m (.v 6) 50 [(.bin .add (.v 114) (.k (.bytes [120,47])))])=_:=λn=>aS rfl rfl (am (aX rfl rfl (add (by simp;exact cj hN rfl))) rfl) e2
 have go:∀b,(ev _ 398).e _ [_,_,_] σ _=some (.bool b,σ)→
  call (d+8) σ (.fn 31003) [iz line neg false p0 P1 P2,.bytes name]=some _:=λb hb=>
  au rfl rfl rfl rfl (aH rfl (by refine h▸?_;rfl) rfl rfl (aJ (aX rfl rfl (add (by simp;exact cj hN rfl))) rfl (aO (ao rfl rfl (am hb rfl) rfl))))
 induction b1 using bC with
 |true=>exact⟨true,go true (av (oX (m1 392) rfl)),⟨λo_=>.inl (f1.mp rfl),λo_=>rfl⟩⟩|false=>refine⟨b2,go b2 (av (o8 (m1 392) rfl (cw (m2 392)))),?_⟩;rw[f2];exact⟨.inr,λq=>q.resolve_left λq=>by have:=f1.mpr q;cases this⟩
end
theorem rL(h:n<1000000):nj 0 (n:Int)=some (.items ((Qb n).map λ(k:Nat)=>V.int k)):=by delta nj tv;rw[iP (by simp;omega)];simp
theorem lU{mk:Nat→V}{g:Nat→List V}{P:aF→Prop}(OX:mk=λ(k:Nat)=>V.int k)(hg:∀x,(g x).length≤1){c:Cx}{N4:aF}{OC:E}{t:T}(NI:ga elt=false)(hs:dB it= .rng1 OC)(he:(ev cl n).e c ρ σ OC=some (.int N,σ))(hr:bB ρ frees=N4)(p:P N4)(h:cU (bG (ev cl n) ⟨c.b,[]⟩ elt t M5 []) P σ mk g (Qb N))(hN:N<60000):(ev cl (n+1)).e c ρ σ (.comp elt [.mk t it M5] frees)=some (.list ((Qb N).flatMap g),σ):=by refine cps λX_ k_=>?_;subst OX;refine aQ (f9 hg (Qb N) [] N4 h p (by simp;exact cj hN rfl)) λρ' o_ h2=>k_ ?_;simp only[bY,fP,xu hs,he];rw[P8,zW,rL (cj hN rfl),QI,P8,lS,hr];refine(?_:Q2 (((Qb N).map λ(k:Nat)=>V.int k).foldlM _ _) _=_);rw[h2];exact gy NI
theorem oT:∀l:List Bool,wv σ (.bool true) (.list (l.map .bool))=some (l.any id):=by
 intro l;refine(?_:(if(l.map V.bool).all _=true then some _ else none)=_)
 have h1:(l.map V.bool).all (lZ (.bool true))=true:=by induction l with|nil=>rfl|cons x l ih=>exact ih
 refine(iP h1)▸?_;congr 1
 induction l with
 |nil=>rfl
 |cons x l ih=>
  simp only[Qf,ih (h1),RA]
  induction x using bC<;>rfl
theorem dj{α:Type}{f:α→V}:∀l:List α,l.flatMap (λx=>[f x])=l.map f:=by
 intro L_;induction L_ with
 |nil=>exact rfl|cons x l IH_=>simp only[QC,IH_];rfl
noncomputable def bU:List UInt8→List UInt8→Bool
 |[],name=>name.isEmpty|c::t,name=>if c==42 then((Qb (name.length+1)).map λk=>bU t (name.drop k)).any id else !name.isEmpty&&((c==63||name.take 1==[c])&&bU t (name.drop 1))
theorem Jr{x:Ab}:bU [] x=x.isEmpty:=rfl
theorem js{c:UInt8}{x:Ab}:bU (c::t) x=if c==42 then((Qb (x.length+1)).map λk=>bU t (x.drop k)).any id else !x.isEmpty&&((c==63||x.take 1==[c])&&bU t (x.drop 1)):=rfl
theorem lQ{α:Type}{l:List α}:cut l none (some (i:Int))=l.take i:=by
 delta cut;simp only[R7];rw[gY]
 by_cases h:i≤l.length
 ·rw[QT h]
 ·rw[SX (Qx (QN h)),Qn nR,Qn (Qx (QN h))]
theorem Jd{k:Nat}:du σ (.bytes p) (some (.int (k:Nat))) none=some (.bytes (p.drop k)):=by exact dU▸rfl
theorem Kn{k:Nat}:du σ (.bytes p) none (some (.int (k:Nat)))=some (.bytes (p.take k)):=by exact lQ▸rfl
theorem ow:∀ (t name:Ab) (σ:aq) (D:Nat),name.length<50000→t.length+2≤D→call D σ (.fn 42) [.bytes t,.bytes name]=some (.bool (bU t name),σ)
 |[],name,σ,0,hl,hD=>by simp at hD
 |[],name,σ,D+1,hl,hD=>au rfl rfl rfl rfl (cF rfl rfl (aO (by
    refine(?_:some (V.bool _,σ)=_)
    induction name using lC<;>rfl)) rfl)
 |c::t,name,σ,0,hl,hD=>by simp at hD|c::t,name,σ,1,hl,hD=>by simp at hD
 |c::t,name,σ,D+2,hl,hD=>by
  have ih:=λnm (h:nm.length<50000)=>ow t nm σ (D+1) h (by simp at hD;exact Rf (by assumption));have hq:∀n cl,(ev cl (n+6)).e ⟨σ.length,[]⟩ [(7,.bytes (c::t)),(40,.bytes name)] σ (.l (.v 7) none (some (.k (.int 1))))=some (.bytes [c],σ):=λn cl=>aK rfl (hv:=some (.int ((1:Nat):Int))) rfl rfl Kn;simp only[js]
  induction h1:(c==42) using bC with
  |true=>
   have MY:cU (bG (ev (call (D+1)) 396) ⟨σ.length,[]⟩ (.call (.g 159) [(.l (.v 7) (some (.k (.int 1))) none),(.l (.v 40) (some (.v 1)) none)]) (.v 1) [] []) (λρ=>ρ=[(40,.bytes name),(7,.bytes (c::t))]∨∃v,ρ=[(40,.bytes name),(7,.bytes (c::t)),(1,v)]) σ (λ(k:Nat)=>V.int k) (λk=>[V.bool (bU t (name.drop k))]) (Qb (name.length+1)):=by intro k o_ MQ ρ M3 ha;refine a7 ([(40,.bytes name),(7,.bytes (c::t)),(1,.int k)]) (.inr ⟨_,rfl⟩) ?_;exact eC (by rcases M3 with rfl|⟨v,rfl⟩<;>rfl) (ao rfl rfl (am (v:=.bytes t) (aK rfl (lv:=some (.int ((1:Nat):Int))) rfl rfl Jd) (am (aK rfl rfl rfl Jd) rfl)) (ih (name.drop k) (by simp;(clear hD ih hq h1 o_ M3 ha;exact Ry (Sh _ _) hl)))) ha
   have hc:=lU rfl (λx=>by simp) (c:=⟨σ.length,[]⟩) (ρ:=[(7,.bytes (c::t)),(40,.bytes name)]) (it:=.call (.g 125) [(.bin .add (.call (.g 32) [(.v 40)]) (.k (.int 1)))]) (frees:=[40,7]) rfl rfl rfl rfl (.inl rfl) MY (kJ hl rfl);rw[dj,show(Qb (name.length+1)).map (λk=>V.bool (bU t (name.drop k)))=((Qb (name.length+1)).map λk=>bU t (name.drop k)).map .bool by simp only[Qk];rfl] at hc;exact au rfl rfl rfl rfl (aH rfl rfl rfl rfl (cF (aC (hq 392 _) rfl rfl) (by refine(?_:some (c==42&&true)=_);rw[h1];rfl) (aO (aC rfl hc (oT _))) rfl))
  |false=>
   rw[iN fF]
   have e3:∀n,(ev (call (D+1)) (n+6)).e ⟨σ.length,[]⟩ [(7,.bytes (c::t)),(40,.bytes name)] σ (.call (.g 159) [(.l (.v 7) (some (.k (.int 1))) none),(.l (.v 40) (some (.k (.int 1))) none)])=_:=λn=>ao rfl rfl (am (v:=.bytes t) (aK rfl (lv:=some (.int ((1:Nat):Int))) rfl rfl Jd) (am (aK rfl rfl rfl Jd) rfl)) (ih (name.drop 1) (by simp;(clear hD ih hq h1;exact Ry (Sh _ _) hl)))
   have e2:∀n,(ev _ (n+8)).e _ _ σ (.p _ [.in] _)=some (.bool (c==63||name.take 1==[c]),σ):=λn=>by
    have ht:(ev (call (D+1)) (n+7)).e ⟨σ.length,[]⟩ [(7,.bytes (c::t)),(40,.bytes name)] σ (.t [(.k (.bytes [63])),(.l (.v 40) none (some (.k (.int 1))))])=some (.t [.bytes [63],.bytes (name.take 1)],σ):=by rw[bY,kt (by decide),am (v:=.bytes [63]) rfl (am (aK rfl (hv:=some (.int ((1:Nat):Int))) rfl rfl Kn) rfl)];rfl
    refine aC (hq (n+1) _) ht ?_;refine(?_:some (([63]==[c])||((name.take 1==[c])||false))=_);congr 1;rw[SK];congr 1;refine(?_:(_==c&&true)=_);rw[U4];exact Tr
   refine au rfl rfl rfl rfl (aH rfl rfl rfl rfl (aH (aC (hq 392 _) rfl rfl) (by refine(?_:some (c==42&&true)=_);rw[h1];rfl) rfl rfl (aO ?_)))
   induction h2:name.isEmpty using bC with
   |true=>
    cases name with
    |nil=>exact av (bH rfl rfl)|cons=>cases h2
   |false=>
    have hn:(!(name==([]:Ab)))=true:=by cases name<;>first|rfl|cases h2
    induction h3:(c==63||name.take 1==[c]) using bC with
    |false=>exact av (bw rfl (cG some hn) (bH (v:=.bool false) ((e2 390).trans (by rw[h3])) rfl))|true=>exact av (bw rfl (cG some hn) (bw (e2 390) (cG some h3) (cw (e3 392))))
noncomputable abbrev BL:=List (List UInt8)
variable {ps qs r sg:BL}
noncomputable abbrev bl(l:BL):V:=.list (l.map .bytes)
theorem EJ:∀l:BL,iI σ .eq (bl l) (.list [])=some l.isEmpty:=by
 intro L_;induction L_ with
 |nil=>exact rfl|cons o_ _ IH_=>exact rfl
theorem Fu:∀l:BL,iI σ .ne (bl l) (.list [])=some (!l.isEmpty):=by
 intro L_;induction L_ with
 |nil=>exact rfl|cons o_ _ IH_=>exact rfl
theorem Eu:∀l:BL,iI σ .eq (bl l) (.list [.bytes [42,42]])=some (l==[[42,42]])
 |[]=>rfl|[x]=>by rfl|_::_::_=>by refine(?_:some false=some (_&&false));rw[TX]
theorem Jf{l:BL}{k:Nat}:du σ (bl l) (some (.int (k:Nat))) none=some (bl (l.drop k)):=by refine(?_:some (V.list _)=_);refine kW▸?_;exact dU▸rfl
theorem xN{l:BL}{k:Nat}:du σ (bl l) none (some (.int (k:Nat)))=some (bl (l.take k)):=by refine(?_:some (V.list _)=_);refine kW▸?_;exact lQ▸rfl
theorem o5{l:BL}:mB σ 32 [bl l]=some (.int l.length):=by refine(?_:some (V.int (l.map V.bytes).length)=_);rw[KE]
noncomputable def cf:BL→BL→Bool
 |[],ps=>ps.isEmpty
 |c::cs,ps=>if c==[42,42]&&cs.isEmpty then !ps.isEmpty else if c==[42,42] then((Qb (ps.length+1)).map λk=>cf cs (ps.drop k)).any id
  else match ps with|[]=>false|p::ps=>bU c p&&cf cs ps
theorem vT{c:Ab}{cs:BL}:cf (c::cs) ps=if c==[42,42]&&cs.isEmpty then !ps.isEmpty else if c==[42,42] then((Qb (ps.length+1)).map λk=>cf cs (ps.drop k)).any id
 else match ps with|[]=>false|p::ps=>bU c p&&cf cs ps:=rfl
theorem Ck:cf [] ps=ps.isEmpty:=rfl
theorem oh:∀ (cs ps:BL) (σ:aq) (D:Nat),(∀c∈cs,c.length≤8)→(∀p∈ps,p.length<50000)→ps.length<50000→cs.length+12≤D→call D σ (.fn 43) [bl cs,bl ps]=some (.bool (cf cs ps),σ)
 |cs,ps,σ,0,_,_,_,hD=>by lia|cs,ps,σ,1,_,_,_,hD=>by lia|[],ps,σ,D+2,_,_,_,_=>au rfl rfl rfl rfl (cF rfl rfl (aO (aC rfl rfl (EJ ps))) rfl)
 |c::cs,ps,σ,D+2,hc,hp,hl,hD=>by
  have ih:=λqs (h1:∀p∈qs,p.length<50000) (h2:qs.length<50000)=>oh cs qs σ (D+1) (λx hx=>hc x (mM hx)) h1 h2 (by simp at hD;exact Rf (by assumption))
  have go:∀v,((c==[42,42]&&cs.isEmpty)=false)→fu _ ⟨σ.length,[]⟩ _ σ (Fx.drop 2) v σ→fu (ev (call (D+1)) 399) ⟨σ.length,[]⟩ [(151,bl (c::cs)),(27,bl ps)] σ Fx v σ:=λv h k=>aH rfl rfl rfl rfl (aH (w:=.bool ((c::cs)==[[42,42]])) (aC (y:=.list [.bytes [42,42]]) rfl rfl (Eu _)) (cG some (by rw[←h];cases cs<;>rfl)) rfl rfl k)
  simp only[vT];cases h1:(c==[42,42]&&cs.isEmpty) with
  |true=>refine(iP rfl)▸?_;exact au rfl rfl rfl rfl (aH rfl rfl rfl rfl (cF (w:=.bool ((c::cs)==[[42,42]])) (aC (y:=.list [.bytes [42,42]]) rfl rfl (Eu _)) (cG some (by rw[←h1];cases cs<;>rfl)) (aO (aC rfl rfl (Fu ps))) rfl))
  |false=>
   refine(iN fF)▸?_
   induction h2:(c==[42,42]) using bC with
   |true=>
    have MY:cU (bG (ev (call (D+1)) 396) ⟨σ.length,[]⟩ (.call (.g 160) [(.l (.v 151) (some (.k (.int 1))) none),(.l (.v 27) (some (.v 1)) none)]) (.v 1) [] []) (λρ=>ρ=[(151,bl (c::cs)),(27,bl ps)]∨∃v,ρ=[(151,bl (c::cs)),(27,bl ps),(1,v)]) σ (λ(k:Nat)=>V.int k) (λk=>[V.bool (cf cs (ps.drop k))]) (Qb (ps.length+1)):=by intro k o_ MQ ρ M3 ha;refine a7 ([(151,bl (c::cs)),(27,bl ps),(1,.int k)]) (.inr ⟨_,rfl⟩) ?_;exact eC (by rcases M3 with rfl|⟨v,rfl⟩<;>rfl) (ao rfl rfl (am (v:=bl cs) (aK rfl rfl rfl Jf) (am (aK rfl rfl rfl Jf) rfl)) (ih (ps.drop k) (λp PB=>hp p (Rq PB)) (by simp;exact Ry (Sh _ _) hl))) ha
    have hcn:=lU rfl (λx=>by simp) (c:=⟨σ.length,[]⟩) (ρ:=[(151,bl (c::cs)),(27,bl ps)]) (it:=.call (.g 125) [(.bin .add (.call (.g 32) [(.v 27)]) (.k (.int 1)))]) (frees:=[151,27]) rfl rfl
     (aX (ao rfl rfl rfl (by simp only[dk,o5];rfl)) rfl rfl) rfl (.inl rfl) MY (kJ hl rfl)
    rw[dj,show(Qb (ps.length+1)).map (λk=>V.bool (cf cs (ps.drop k)))=((Qb (ps.length+1)).map λk=>cf cs (ps.drop k)).map .bool by simp only[Qk];rfl] at hcn;exact au rfl rfl rfl rfl (go _ h1 (cF rfl (cG some h2) (aO (aC rfl hcn (oT _))) rfl))
   |false=>
    refine au rfl rfl rfl rfl (go _ h1 (aH rfl (cG some h2) rfl rfl (aO ?_)))
    induction ps using lC with
    |nil=>exact av (bH rfl rfl)
    |cons p ps=>
     have e2:(ev (call (D+1)) 398).e ⟨σ.length,[]⟩ [(151,bl (c::cs)),(27,bl (p::ps))] σ (.call (.g 159) [(.sub (.v 151) (.k (.int 0))),(.sub (.v 27) (.k (.int 0)))])=_:=
      ao rfl rfl (am rfl (am rfl rfl)) (ow c p σ (D+1) (hp p mS) (by have:=hc c mS;exact aZ [_,_,_] (.h 1 ab (.c 8) (.h 1 (.a (.a ae ai) (.c 12)) (.a af al) (.g (.a ab al) (.a af ai)))) rfl this hD))
     have e3:(ev (call (D+1)) 398).e ⟨σ.length,[]⟩ [(151,bl (c::cs)),(27,bl (p::ps))] σ (.call (.g 160) [(.l (.v 151) (some (.k (.int 1))) none),(.l (.v 27) (some (.k (.int 1))) none)])=_:=
      ao rfl rfl (am (v:=bl cs) (aK rfl rfl rfl Jf) (am (v:=bl ps) (aK rfl rfl rfl Jf) rfl)) (ih ps (λq hq=>hp q (mM hq)) (by simp at hl;exact Qx (by assumption)))
     refine(?_:_=some (V.bool (bU c p&&cf cs ps),σ))
     induction h3:bU c p using bC with
     |false=>rw[h3] at e2;exact av (bw (v:=.bool true) rfl rfl (bH e2 rfl))|true=>rw[h3] at e2;exact av (bw (v:=.bool true) rfl rfl (bw e2 rfl (cw e3)))
structure Rl where
 neg:Bool
 only:Bool
 holds:Bool
 comps:BL
noncomputable def Rl.toV(r:Rl):V:=.t [.bool r.neg,.bool r.only,.bool r.holds,bl r.comps]
noncomputable abbrev ej(rs:List Rl):V:=.list (rs.map Rl.toV)
noncomputable def ck:Option Bool→V
 |none=>.none|some b=>.bool b
noncomputable def eB:Option Bool→V
 |none=>.str []|some true=>.str [105,110]|some false=>.str [111,117,116]
theorem rY(d:Nat)(σ:aq)(a b:Option Bool):call (d+2) σ (.fn 47) [ck a,ck b]=some (.bool (a==b),σ):=by
 induction a using oA with
 |none=>induction b using oA with|none=>exact au rfl rfl rfl rfl (aO rfl)|some b=>exact au rfl rfl rfl rfl (aO rfl)
 |some a=>induction b using oA with|none=>exact au rfl rfl rfl rfl (aO rfl)|some b=>
   refine au rfl rfl rfl rfl (aO ?_);refine(?_:_=some (V.bool (a==b),σ))
   induction h:(a==b) using bC with
   |true=>exact av (bw (v:=.bool (a==b)) rfl (cG some h) (cw rfl))|false=>exact av (bH (S7 (b:=some (V.bool (a==b),σ)) rfl (h▸rfl)) rfl)
noncomputable def dw(ps:BL)(folder:Bool)(r:Rl):Bool:=(folder|| !r.only)&&cf r.comps ps
noncomputable def a9(rs:List Rl)(ps:BL)(folder:Bool):Option Bool:=((rs.filter (dw ps folder)).map Rl.neg).getLast?
structure RsOk(rs:List Rl):Prop where
 len:rs.length<50000
 comps:∀r∈rs,r.comps.length≤8∧∀c∈r.comps,c.length≤8
structure PsOk(ps:BL):Prop where
 len:ps.length<40000
 each:∀p∈ps,p.length<50000
theorem uZ:∀l:List Bool,iI σ .eq (.list (l.map .bool)) (.list [])=some l.isEmpty:=by
 intro L_;induction L_ with
 |nil=>exact rfl|cons o_ _ IH_=>exact rfl
theorem uj{α:Type}{q f:α→Bool}:∀l:List α,l.flatMap (λn=>if q n then[V.bool (f n)] else[])=((l.filter q).map f).map .bool:=by
 intro L_;induction L_ with
 |nil=>exact rfl|cons x l IH_=>simp only[QC,IH_,SP];cases q x<;>rfl
theorem jU(rs:List Rl)(ps:BL)(folder:Bool)(σ:aq)(D:Nat)(h1:RsOk rs)(h2:PsOk ps):call (D+23) σ (.fn 44) [ej rs,bl ps,.bool folder]=some (eB (a9 rs ps folder),σ):=by
 have MY:cU (bG (ev (call (D+22)) 398) ⟨σ.length,[]⟩ (.v 22) (.t [(.v 22),(.v 153),(.v 37),(.v 151)]) [(.b true [(.b false [(.v 163),(.not (.v 153))]),(.call (.g 160) [(.v 151),(.v 27)])])] [])
  (λρ=>ρ=[(163,.bool folder),(27,bl ps)]∨∃a b c e,ρ=[(163,.bool folder),(27,bl ps),(22,a),(153,b),(37,c),(151,e)]) σ Rl.toV (λr=>if dw ps folder r then[V.bool r.neg] else[]) rs:=by
  intro r hr MQ ρ M3 ha;refine a7 ([(163,.bool folder),(27,bl ps),(22,.bool r.neg),(153,.bool r.only),(37,.bool r.holds),(151,bl r.comps)]) (.inr ⟨_,_,_,_,rfl⟩) ?_
  have hb:bJ ⟨σ.length,[]⟩ ρ σ (.t [(.v 22),(.v 153),(.v 37),(.v 151)]) r.toV=some ([(163,.bool folder),(27,bl ps),(22,.bool r.neg),(153,.bool r.only),(37,.bool r.holds),(151,bl r.comps)],σ):=by rcases M3 with rfl|⟨a,b,c,e,rfl⟩<;>rfl
  refine d7 (h1.comps r hr) λhc1 OZ=>?_
  have e1:(ev (call (D+22)) 397).e ⟨σ.length,[]⟩ [(163,.bool folder),(27,bl ps),(22,.bool r.neg),(153,.bool r.only),(37,.bool r.holds),(151,bl r.comps)] σ (.b false [(.v 163),(.not (.v 153))])=some (.bool (folder|| !r.only),σ):=by
   induction folder using bC with
   |true=>exact av (oX rfl rfl)|false=>exact av (o8 rfl rfl (cw rfl))
  refine iu (u:=.bool (dw ps folder r)) hb ?_ rfl (λo_=>rfl) ha;delta dw
  induction h3:(folder|| !r.only) using bC with
  |false=>rw[h3] at e1;exact av (bH e1 rfl)|true=>rw[h3] at e1;exact av (bw e1 rfl (cw (ao rfl rfl rfl (oh r.comps ps σ (D+22) OZ h2.each (by have:=h2.len;exact cj this rfl) (aZ [_,_] (.h 1 ab (.c 8) (.g (.a ab (.c 12)) (.a ae (.c 22)))) rfl hc1)))))
 have hc:=cV (λx=>by split<;>simp)
  (c:=⟨σ.length,[]⟩) (ρ:=[(162,ej rs),(27,bl ps),(163,.bool folder)]) (it:=.v 162) (frees:=[163,27]) rfl rfl rfl rfl rfl (.inl rfl) MY (by have:=h1.len;exact cj this rfl)
 rw[uj] at hc;delta a9;generalize (rs.filter (dw ps folder)).map Rl.neg=l at hc;have fz:∀x,aV σ σ.length 2 (eB x)=some (eB x):=λx=>by rcases x with _|_|_<;>rfl
 rcases QR l with rfl|⟨init,p,hp⟩
 ·exact au rfl rfl rfl (fz _) (aJ hc rfl (cF (aC rfl rfl (uZ [])) rfl (aO rfl) rfl))
 ·simp only[QS] at hp;subst hp;refine QZ▸?_
  have hs:fJ σ (.list ((init++[p]).map .bool)) (.int (-1))=some (.bool p):=by rw[Qi];exact d0 _ _
  refine au rfl rfl rfl (fz _) (aJ hc rfl (aH (aC rfl rfl (uZ _)) (by simp[aN,FL]) rfl rfl (aO ?_)))
  induction p using bC with
  |true=>exact bV (aU rfl rfl hs) rfl rfl|false=>exact bN (aU rfl rfl hs) rfl rfl
noncomputable def cm(rs:List Rl)(ps:BL)(folder:Bool):List (Option Bool):=(Qb ps.length).map λk=>a9 rs (ps.take (k+1)) (folder||decide (k+1<ps.length))
noncomputable abbrev zY(ws:List (Option Bool)):V:=.list (ws.map eB)
theorem np{f:Nat→Option V}:∀l:List (Option Bool),aP f (l.map eB)=some (l.map eB):=by
 intro L_;induction L_ with
 |nil=>exact rfl|cons x l IH_=>rw[Qf];refine(?_:(aY f _).bind _=_);simp only[show aY f (eB x)=some (eB x) by rcases x with _|_|_<;>rfl,IH_];rfl
theorem PsOk.take(h:PsOk ps)(k:Nat):PsOk (ps.take k):=⟨by have:=h.len;refine Ql▸?_;exact Ry (QM _ _) this,λp hp=>h.each p (QY hp)⟩
theorem ly(rs:List Rl)(ps:BL)(folder:Bool)(σ:aq)(D:Nat)(h1:RsOk rs)(h2:PsOk ps):call (D+24) σ (.fn 45) [ej rs,bl ps,.bool folder]=some (zY (cm rs ps folder),σ):=by
 have MY:cU (bG (ev (call (D+23)) 398) ⟨σ.length,[]⟩ (.call (.g 161) [(.v 162),(.l (.v 27) none (some (.bin .add (.v 1) (.k (.int 1))))),(.b false [(.v 163),(.p (.bin .add (.v 1) (.k (.int 1))) [.lt] [(.call (.g 32) [(.v 27)])])])]) (.v 1) [] [])
  (λρ=>ρ=[(163,.bool folder),(27,bl ps),(162,ej rs)]∨∃v,ρ=[(163,.bool folder),(27,bl ps),(162,ej rs),(1,v)]) σ (λ(k:Nat)=>V.int k) (λk=>[eB (a9 rs (ps.take (k+1)) (folder||decide (k+1<ps.length)))]) (Qb ps.length):=by
  intro k o_ MQ ρ M3 ha;refine a7 ([(163,.bool folder),(27,bl ps),(162,ej rs),(1,.int k)]) (.inr ⟨_,rfl⟩) ?_
  have e3:(ev (call (D+23)) 397).e ⟨σ.length,[]⟩ [(163,.bool folder),(27,bl ps),(162,ej rs),(1,.int k)] σ (.b false [(.v 163),(.p (.bin .add (.v 1) (.k (.int 1))) [.lt] [(.call (.g 32) [(.v 27)])])])=some (.bool (folder||decide (k+1<ps.length)),σ):=by
   induction folder using bC with
   |true=>exact av (oX rfl rfl)
   |false=>
    refine av (o8 rfl rfl (cw (aC rfl (ao rfl rfl rfl (by simp only[dk,o5];rfl)) ?_)));refine(?_:some _=_);congr 1
    by_cases h:k+1<ps.length
    ·rw[decide_eq_true h];exact decide_eq_true (by lia)
    ·rw[decide_eq_false h];exact decide_eq_false (by lia)
  exact eC (by rcases M3 with rfl|⟨v,rfl⟩<;>rfl) (ao rfl rfl (am rfl (am (v:=bl (ps.take (k+1))) (aK rfl rfl rfl xN) (am e3 rfl))) (jU rs (ps.take (k+1)) (folder||decide (k+1<ps.length)) σ D h1 (h2.take _))) ha
 have hc:=lU rfl (λx=>by simp) (c:=⟨σ.length,[]⟩) (ρ:=[(162,ej rs),(27,bl ps),(163,.bool folder)]) (it:=.call (.g 125) [(.call (.g 32) [(.v 27)])]) (frees:=[163,27,162]) rfl rfl
  (ao rfl rfl rfl (by simp only[dk,o5];rfl)) rfl (.inl rfl) MY (by have:=h2.len;exact cj this rfl)
 rw[dj,show(Qb ps.length).map (λk=>eB (a9 rs (ps.take (k+1)) (folder||decide (k+1<ps.length))))=(cm rs ps folder).map eB by delta cm;simp only[Qk];rfl] at hc;exact au rfl rfl rfl (fV _ _ (λf=>by refine(?_:(aP f _).map V.list=_);rw[np];rfl) 2) (aO hc)
noncomputable def mY(rs:List Rl)(ws:List (Option Bool))(ps:BL)(slash:Bool):Option Bool:=
 if ws.any (· ==some false) then some true else if slash&&a9 (rs.filter Rl.holds) (ps++[[120]]) true==some false then some true else if ws.getLast?==some none then none else some false
theorem yc:∀l:List (Option Bool),wv σ (.str [111,117,116]) (zY l)=some (l.any (· ==some false)):=by
 intro l;refine(?_:(if(l.map eB).all _=true then some _ else none)=_)
 have h1:(l.map eB).all (lZ (.str [111,117,116]))=true:=by induction l with|nil=>rfl|cons x l ih=>simp only[Qf,Rs,ih];rcases x with _|_|_<;>rfl
 rw[iP h1];congr 1;clear h1
 induction l with
 |nil=>rfl|cons x l ih=>simp only[Qf,ih,RA];rcases x with _|_|_<;>rfl
theorem eg{α:Type}{q:α→Bool}{f:α→V}:∀l:List α,l.flatMap (λn=>if q n then[f n] else[])=(l.filter q).map f:=by
 intro L_;induction L_ with
 |nil=>exact rfl|cons x l IH_=>simp only[QC,IH_,SP];cases q x<;>rfl
theorem RsOk.filter{rs:List Rl}(h:RsOk rs)(q:Rl→Bool):RsOk (rs.filter q):=⟨Ry (RD _ _) h.len,λr hr=>h.comps r (Qu.mp hr).1⟩
theorem rn(rs:List Rl)(ws:List (Option Bool))(ps:BL)(slash:Bool)(σ:aq)(D:Nat)(hw:ws≠[])(h1:RsOk rs)(h2:PsOk ps)(hl:ps.length<30000):call (D+24) σ (.fn 46) [ej rs,zY ws,bl ps,.bool slash]=some (ck (mY rs ws ps slash),σ):=by
 have c1:(ev (call (D+23)) 399).e ⟨σ.length,[]⟩ [(162,ej rs),(167,zY ws),(27,bl ps),(168,.bool slash)] σ (.p (.k (.str [111,117,116])) [.in] [(.v 167)])=_:=aC rfl rfl (yc ws);delta mY
 induction h3:ws.any (· ==some false) using bC with
 |true=>rw[h3] at c1;rw[iP rfl];exact au rfl rfl rfl rfl (cF c1 rfl (aO rfl) rfl)
 |false=>
  rw[h3] at c1
  have MY:cU (bG (ev (call (D+23)) 395) ⟨σ.length,[]⟩ (.v 158) (.v 158) [(.sub (.v 158) (.k (.int 2)))] []) (λρ=>ρ=[]∨∃v,ρ=[(158,v)]) σ Rl.toV (λr=>if r.holds then[r.toV] else[]) rs:=by intro r hr MQ ρ M3 ha;refine a7 ([(158,r.toV)]) (.inr ⟨_,rfl⟩) ?_;exact iu (by rcases M3 with rfl|⟨v,rfl⟩<;>rfl) rfl rfl (λo_=>rfl) ha
  have hc:=cV (λx=>by split<;>simp)
   (c:=⟨σ.length,[]⟩) (ρ:=[(162,ej rs),(167,zY ws),(27,bl ps),(168,.bool slash)]) (it:=.v 162) (frees:=[]) rfl rfl rfl rfl rfl (.inl rfl) MY (by have:=h1.len;exact cj this rfl)
  rw[eg] at hc
  have NE:ii σ .add (bl ps) (.list [.bytes [120]])=some (bl (ps++[[120]])):=by refine(?_:(if(ps.map V.bytes++_).length≤65536 then some _ else none)=_);rw[iP (by simp;exact GT hl rfl)];refine(?_:_=some (V.list _));rw[Qi];rfl
  have c2:(ev (call (D+23)) 398).e ⟨σ.length,[]⟩ [(162,ej rs),(167,zY ws),(27,bl ps),(168,.bool slash)] σ (.p (.call (.g 161) [(.comp (.v 158) [(.mk (.v 158) (.v 162) [(.sub (.v 158) (.k (.int 2)))])] []),(.bin .add (.v 27) (.list [(.k (.bytes [120]))])),(.k (.bool true))]) [.eq] [(.k (.str [111,117,116]))])=some (.bool (a9 (rs.filter Rl.holds) (ps++[[120]]) true==some false),σ):=by refine aC (ao rfl rfl (am hc (am (aX rfl rfl NE) rfl)) (jU (rs.filter Rl.holds) (ps++[[120]]) true σ D (h1.filter _) (⟨by simp;exact kJ hl rfl,λp hp=>by rcases Qh.mp hp with h|h;exact h2.each p h;rw[mA h];decide⟩))) rfl ?_;rcases a9 (rs.filter Rl.holds) (ps++[[120]]) true with _|_|_<;>rfl
  have c3:∃v,(ev (call (D+23)) 399).e ⟨σ.length,[]⟩ [(162,ej rs),(167,zY ws),(27,bl ps),(168,.bool slash)] σ (.b true [(.v 168),(.p (.call (.g 161) [(.comp (.v 158) [(.mk (.v 158) (.v 162) [(.sub (.v 158) (.k (.int 2)))])] []),(.bin .add (.v 27) (.list [(.k (.bytes [120]))])),(.k (.bool true))]) [.eq] [(.k (.str [111,117,116]))])])=some (v,σ)∧aN σ v=some (slash&&a9 (rs.filter Rl.holds) (ps++[[120]]) true==some false):=by
   induction slash using bC with
   |false=>exact a7 _ (av (bH rfl rfl)) rfl|true=>exact a7 _ (av (bw rfl rfl (cw c2))) rfl
  obtain⟨v,c3,t3⟩:=c3
  induction h4:(slash&&a9 (rs.filter Rl.holds) (ps++[[120]]) true==some false) using bC with
  |true=>rw[h4] at t3;refine(iP rfl)▸?_;exact au rfl rfl rfl rfl (aH c1 rfl rfl rfl (cF c3 t3 (aO rfl) rfl))
  |false=>
   rw[h4] at t3;refine(iN fF)▸?_;rcases QR ws with rfl|⟨init,p,hp⟩
   ·exact absurd rfl hw
   ·simp only[QS] at hp;subst hp
    have hs:fJ σ (zY (init++[p])) (.int (-1))=some (eB p):=by refine(?_:itemAt _ (-1)=_);rw[Qi];exact d0 _ _
    refine QZ▸?_;refine au rfl rfl rfl ((show ∀x,aV σ σ.length 2 (ck x)=some (ck x) from λx=>by rcases x with _|_<;>rfl) _) (aH c1 rfl rfl rfl (aH c3 t3 rfl rfl (aO ?_)));rcases p with _|_|_
    ·exact bV (aC (aU rfl rfl hs) rfl rfl) rfl rfl
    ·exact bN (aC (aU rfl rfl hs) rfl rfl) rfl rfl
    ·exact bN (aC (aU rfl rfl hs) rfl rfl) rfl rfl
theorem dm(d:Nat)(σ:aq){k:Nat}(hk:0<k)(N7:k<1000)(hn:n<2000000000):call (d+1) σ (.blt 147) [.int n,.int k]=some (.t [.int ((n / k:Nat):Int),.int ((n % k:Nat):Int)],σ):=by
 rw[dk,(show mB σ 147 _=(if _=true then some _ else none) from rfl),iP (by
  have a1:(n:Int).natAbs<2 ^ 60:=by rw[Tu];exact cj hn rfl
  have a2:(k:Int).natAbs<2 ^ 60:=by rw[Tu];exact cj N7 rfl
  have a3:(k:Int)>0:=by lia
  simp only[decide_eq_true a1,decide_eq_true a2,decide_eq_true a3];rfl)]
 rfl
noncomputable def b8:BL:=[[97],[98],[97,98],[42],[42,42],[63],[97,42],[42,98]]
noncomputable def pk(n:Nat):List UInt8:=b8.getD (n % 8) []
theorem p5(n:Nat):pk n∈b8:=by
 delta pk;have:n % 8<8:=QJ _ (by decide);generalize n % 8=k at this;rcases k with _|_|_|_|_|_|_|_|k
 any_goals decide
 exact absurd this (QQ.mpr (Rz 8 k))
theorem jN(d:Nat)(σ:aq):call (d+1) σ (.fn 40) []=some (bl b8,σ):=au rfl rfl rfl rfl (aO rfl)
theorem sM(σ:aq)(n:Nat):fJ σ (bl b8) (.int ((n % 8:Nat):Int))=some (.bytes (pk n)):=by
 refine(?_:itemAt _ ((n % 8:Nat):Int)=_);delta pk;have:n % 8<8:=QJ _ (by decide);generalize n % 8=k at this
 match k,this with
 |0,_|1,_|2,_|3,_|4,_|5,_|6,_|7,_=>rfl|k+8,h=>lia
noncomputable def qr(neg lead only:Nat)(comps:BL):List UInt8:=[33].take neg++[47].take lead++aB [47] comps++[47].take only
noncomputable def dC(lead:Nat)(comps:BL):Bool:=lead==1||decide (1<comps.length)
noncomputable def d8(lead:Nat)(comps:BL):Bool:=dC lead comps&&(comps.getLast?==some [42]||comps.getLast?==some [42,42])
noncomputable def lJ:BL→Bool
 |[_,b,c]=>c==[42,42]&&(b==[42]||b==[63])|_=>false
noncomputable def lk(neg lead only:Nat)(comps:BL):Rl:=⟨neg==1,only==1,d8 lead comps,if dC lead comps then comps else[42,42]::comps⟩
noncomputable def yf(home:Nat)(neg lead only:Nat)(comps:BL):V:=.t [.int home,.bytes (qr neg lead only comps),.bool (d8 lead comps&&(only==1||lJ comps)),(lk neg lead only comps).toV]
noncomputable abbrev Rr(num neg home Nr more:Nat)(comps:BL)(tl:aF):aF:=(146,.int num)::(22,.int neg)::(148,.int home)::(149,.int Nr)::(150,.int more)::(151,bl comps)::tl
noncomputable def Lq:List S:=match za with|[_,_,_,_,_,.for _ _ b,_,_,_,_,_,_,_,_]=>b|_=>[]
theorem sS(d:Nat)(σ:aq)(b n neg home Nr more:Nat)(comps:BL)(tl:aF)(x:Nat)(Ni:tl=[]∨∃v,tl=[(152,v)])(hn:n<2000000000)(hc:comps.length<10):
 cW (ev (call (d+2)) 399) ⟨b,[]⟩ (.v 152) Lq (Rr n neg home Nr more comps tl) σ (.int x)=some (.next,Rr (n / 8) neg home (n % 8) more (comps++[pk n]) [(152,.int x)],σ):=by
 have NE:ii σ .add (bl comps) (.list [.bytes (pk n)])=some (bl (comps++[pk n])):=by refine(?_:(if(comps.map V.bytes++_).length≤65536 then some _ else none)=_);rw[iP (by simp;exact GT hc rfl)];refine(?_:_=some (V.list _));simp only[Qi];rfl
 have hl:∀tl,(ev (call (d+2)) 397).e ⟨b,[]⟩ (Rr (n / 8) neg home (n % 8) more comps tl) σ (.list [(.sub (.call (.g 144) []) (.v 149))])=some _:=λtl=>by rw[bY,jP (by decide),am (aU (ao rfl rfl rfl (jN (d+1) σ)) rfl (sM σ n)) rfl];rfl
 have go:ba _ _ (Rr n neg home Nr more comps [(152,.int x)]) σ Lq .next _ σ:=
  aI (ao (vs:=[.int n,.int (8:Nat)]) rfl rfl rfl (dm (d+1) σ (by decide) (by decide) hn)) rfl (aI (aX rfl (hl _) NE) rfl aw)
 rcases Ni with rfl|⟨v,rfl⟩<;>exact go
section
variable {cl:Call} {n b:Nat} {ρ:aF} {σ:aq} {lead more only neg:Nat} {comps:BL} {dp hd wd:Bool}
theorem ay{v:V}{c:Cx}(h:aE ρ x=some v):(ev cl (n+1)).e c ρ σ (.v x)=some (v,σ):=by simp only[bY,sa,h];rfl
theorem kM{σ:aq}(k:Nat):iI σ .eq (.int k) (.int 1)=some (k==1):=by
 refine(?_:some _=_);congr 1
 induction h:(k==1) using bC with
 |true=>simp at h⊢;lia|false=>simp at h⊢;lia
theorem EH{c:Cx}(h1:aE ρ 154=some (.int lead))(h2:aE ρ 150=some (.int (comps.length -1:Nat)))(hn:comps≠[]):(ev cl (n+4)).e c ρ σ (.b false [(.p (.v 154) [.eq] [(.k (.int 1))]),(.p (.v 150) [.gt] [(.k (.int 0))])])=some (.bool (dC lead comps),σ):=by
 have e1:(ev cl (n+3)).e c ρ σ (.p _ [.eq] [(.k (.int 1))])=_:=aC (ay h1) rfl (kM lead)
 have e2:(ev cl (n+3)).e c ρ σ (.p (.v 150) [.gt] [(.k (.int 0))])=some (.bool (decide (1<comps.length)),σ):=aC (ay h2) rfl (by
  refine(?_:some _=_);congr 1
  by_cases h:1<comps.length
  ·rw[decide_eq_true h];exact decide_eq_true (by omega)
  ·rw[decide_eq_false h];exact decide_eq_false (by omega))
 delta dC
 induction h:(lead==1) using bC with
 |true=>rw[h] at e1;exact av (oX e1 rfl)|false=>rw[h] at e1;exact av (o8 e1 rfl (cw e2))
theorem x4{σ:aq}{x a b:Ab}:wv σ (.bytes x) (.t [.bytes a,.bytes b])=some (x==a||x==b):=by
 have h:wv σ (.bytes x) (.t [.bytes a,.bytes b])=some ((a==x)||((b==x)||false)):=by induction x using lC with|nil=>rfl|cons y x=>induction x using lC<;>rfl
 simp only[h,SK,Tr (a:=x) (b:=a),Tr (a:=x) (b:=b)]
theorem C2{c:Cx}(h1:aE ρ 156=some (.bool dp))(h2:aE ρ 151=some (bl comps))(hn:comps≠[]):(ev cl (n+6)).e c ρ σ (.b true [(.v 156),(.p (.sub (.v 151) (.neg (.k (.int 1)))) [.in] [(.t [(.k (.bytes [42])),(.k (.bytes [42,42]))])])])=
 some (.bool (dp&&(comps.getLast?==some [42]||comps.getLast?==some [42,42])),σ):=by
 induction dp using bC with
 |false=>exact av (bH (ay h1) rfl)
 |true=>
  rcases QR comps with rfl|⟨init,p,hp⟩
  ·exact absurd rfl hn
  ·simp only[QS] at hp;subst hp
   have hs:fJ σ (bl (init++[p])) (.int (-1))=some (.bytes p):=by refine(?_:itemAt _ (-1)=_);refine Qi▸?_;exact d0 _ _
   refine QZ▸?_;refine av (bw (ay h1) rfl (cw (aC (aU (ay h2) rfl hs) rfl x4)))
theorem FJ{c:Cx}(h1:aE ρ 150=some (.int (comps.length -1:Nat)))(h2:aE ρ 151=some (bl comps))(h3:comps.length≤3):(ev cl (n+6)).e c ρ σ (.b true [(.p (.v 150) [.eq] [(.k (.int 2))]),(.p (.sub (.v 151) (.k (.int 2))) [.eq] [(.k (.bytes [42,42]))]),(.p (.sub (.v 151) (.k (.int 1))) [.in] [(.t [(.k (.bytes [42])),(.k (.bytes [63]))])])])=
 some (.bool (lJ comps),σ):=by
 match comps,h3 with
 |[],_=>exact av (bH (aC (ay h1) rfl rfl) rfl)|[a],_=>exact av (bH (aC (ay h1) rfl rfl) rfl)|[a,b],_=>exact av (bH (aC (ay h1) rfl rfl) rfl)
 |[a,b,d],_=>
  have e1:(ev cl (n+5)).e c ρ σ (.p (.sub (.v 151) (.k (.int 2))) [.eq] [(.k (.bytes [42,42]))])=_:=aC (aU (ay h2) rfl rfl) rfl rfl;refine(?_:_=some (V.bool (d==_&&_),σ))
  induction h:(d==[42,42]) using bC with
  |true=>rw[h] at e1;exact av (bw (aC (ay h1) rfl rfl) rfl (bw e1 rfl (cw (aC (aU (ay h2) rfl rfl) rfl x4))))|false=>rw[h] at e1;exact av (bw (aC (ay h1) rfl rfl) rfl (bH e1 rfl))
 |_::_::_::_::_,h=>simp at h
theorem GD{c:Cx}(h1:aE ρ 22=some (.int neg))(h2:aE ρ 154=some (.int lead))(h3:aE ρ 151=some (bl comps))(h4:aE ρ 153=some (.int only))(hj:(aB [47] comps).length≤100):
 (ev cl (n+8)).e c ρ σ (.bin .add (.bin .add (.bin .add (.l (.k (.bytes [33])) none (some (.v 22))) (.l (.k (.bytes [47])) none (some (.v 154)))) (.m (.k (.bytes [47])) 201 [(.v 151)])) (.l (.k (.bytes [47])) none (some (.v 153))))=some (.bytes (qr neg lead only comps),σ):=by
 have add:∀ {a x:Ab},(a++x).length≤65536→ii σ .add (.bytes a) (.bytes x)=some _:=λ {a x} hl=>by refine(?_:RM (if(a++x).length≤65536 then _ else none) _=_);rw[iP hl];rfl
 have l1:∀ (y:UInt8) k,([y].take k).length≤1:=λy k=>by rw[Ql];simp;exact(QM _ _)
 have sl:∀ {m k:Nat} {y:UInt8} {x:Nat},aE ρ x=some (.int k)→(ev cl (m+3)).e c ρ σ (.l (.k (.bytes [y])) none _)=some _:=λ {m k y x} h=>aK rfl rfl (by rw[fR,ay h];rfl) Kn
 have a1:=l1 33 neg;have a2:=l1 47 lead;exact aX (aX (aX (sl h1) (sl h2) (add (by rw[Qa];exact cj (QF a1 a2) rfl))) (bD rfl rfl (am (ay h3) rfl) (yF rfl (cj hj rfl))) (add (by simp only[Qa];exact aZ [_,_,_] (.h 1 ab (.c 100) (.h 1 ae ai (.h 1 af ai (.g (.a (.a ae af) ab) (.c 65536))))) rfl hj a1 a2))) (sl h4) (add (by simp only[Qa];exact aZ [_,_,_,_] (.h 1 ab (.c 100) (.h 1 ae ai (.h 1 af ai (.h 1 ag ai (.g (.a (.a (.a ae af) ab) ag) (.c 65536)))))) rfl hj a1 a2 (l1 47 only)))
theorem Fh{c:Cx}(h1:aE ρ 22=some (.int neg))(h2:aE ρ 153=some (.int only))(h3:aE ρ 37=some (.bool (d8 lead comps)))(h4:aE ρ 156=some (.bool (dC lead comps)))(h5:aE ρ 151=some (bl comps))(hl:comps.length≤3):
 (ev cl (n+6)).e c ρ σ (.t [(.p (.v 22) [.eq] [(.k (.int 1))]),(.p (.v 153) [.eq] [(.k (.int 1))]),(.v 37),(.ite (.v 156) (.v 151) (.bin .add (.list [(.k (.bytes [42,42]))]) (.v 151)))])=some ((lk neg lead only comps).toV,σ):=by
 have NE:ii σ .add (.list [.bytes [42,42]]) (bl comps)=some (bl ([42,42]::comps)):=by refine(?_:(if(_++comps.map V.bytes).length≤65536 then some _ else none)=_);rw[iP (by simp;exact cj hl rfl)];rfl
 have e4:(ev cl (n+5)).e c ρ σ (.ite (.v 156) (.v 151) (.bin .add (.list [(.k (.bytes [42,42]))]) (.v 151)))=some (bl (if dC lead comps then comps else[42,42]::comps),σ):=by
  induction h:dC lead comps using bC with
  |true=>rw[h] at h4;exact bV (ay h4) rfl (ay h5)|false=>rw[h] at h4;exact bN (ay h4) rfl (aX (x:=.list [.bytes [42,42]]) rfl (ay h5) NE)
 rw[bY,kt (by decide),am (aC (ay h1) rfl (kM neg)) (am (aC (ay h2) rfl (kM only)) (am (ay h3) (am e4 rfl)))];rfl
theorem H8{c:Cx}{home:Nat}(h1:aE ρ 148=some (.int home))(h2:aE ρ 153=some (.int only))(h3:aE ρ 37=some (.bool (d8 lead comps)))(h4:aE ρ 157=some (.bool (lJ comps)))(h5:aE ρ 155=some (.bytes (qr neg lead only comps)))(h6:aE ρ 158=some (lk neg lead only comps).toV):
 (ev cl (n+6)).e c ρ σ (.t [(.v 148),(.v 155),(.b true [(.v 37),(.b false [(.p (.v 153) [.eq] [(.k (.int 1))]),(.v 157)])]),(.v 158)])=some (yf home neg lead only comps,σ):=by
 have e3:(ev cl (n+5)).e c ρ σ (.b true [(.v 37),(.b false [(.p (.v 153) [.eq] [(.k (.int 1))]),(.v 157)])])=some (.bool (d8 lead comps&&(only==1||lJ comps)),σ):=by
  induction h:d8 lead comps using bC with
  |false=>rw[h] at h3;exact av (bH (ay h3) rfl)
  |true=>
   rw[h] at h3;refine av (bw (ay h3) rfl (cw ?_));have e1:(ev cl (n+3)).e c ρ σ (.p _ [.eq] [(.k (.int 1))])=_:=aC (ay h2) rfl (kM only)
   induction ho:(only==1) using bC with
   |true=>rw[ho] at e1;exact av (oX e1 rfl)|false=>rw[ho] at e1;exact av (o8 e1 rfl (cw (ay h4)))
 rw[bY,kt (by decide),am (ay h1) (am (ay h5) (am e3 (am (ay h6) rfl)))];rfl
end
theorem CG(σ:aq)(n:Nat)(home neg lead only:Nat)(comps:BL):aV σ n 2 (yf home neg lead only comps)=some (yf home neg lead only comps):=fV σ n (λf=>by
 have h:aY f (lk neg lead only comps).toV=some (lk neg lead only comps).toV:=by refine(?_:(aP f _).map V.t=_);simp only[vG,kj,i5,ib];rfl
 refine(?_:(aP f _).map V.t=_);simp only[vG,kj,h];rfl) 2
theorem un(d:Nat)(σ:aq)(n neg home Nr:Nat)(comps:BL)(tl:aF)(Ni:tl=[]∨∃v,tl=[(152,v)])(hn:n<2000000000)(hc:comps≠[])(hl:comps.length≤3)(hj:(aB [47] comps).length≤100):
 fu (ev (call (d+2)) 399) ⟨σ.length,[]⟩ (Rr n neg home Nr (comps.length -1) comps tl) σ (za.drop 6) (yf home neg (n / 2 % 2) (n % 2) comps) σ:=by
 have h0:=dm (d+1) σ (n:=n) (k:=2) (by decide) (by decide) hn;generalize hnum:n / 2=n2 at*;rcases Ni with rfl|⟨v,rfl⟩<;>
 exact aJ (ao (fv:=.blt 147) (vs:=[.int n,.int (2:Nat)]) rfl rfl rfl h0) rfl (aJ (w:=.int ((n2 % 2:Nat):Int)) (aX (x:=.int n2) (y:=.int 2) rfl rfl (rfl)) rfl
  (aJ (GD (neg:=neg) (lead:=n2 % 2) (only:=n % 2) (comps:=comps) rfl rfl rfl rfl hj) rfl (aJ (EH (lead:=n2 % 2) rfl rfl hc) rfl (aJ (C2 rfl rfl hc) rfl (aJ (FJ rfl rfl hl) rfl
  (aJ (Fh rfl rfl rfl rfl rfl hl) rfl (aO (H8 rfl rfl rfl rfl rfl rfl))))))))
theorem c9{c:Ab}(h:c∈b8):c.length≤2:=by simp only[b8,P6,Qd,or_false] at h;rcases h with rfl|rfl|rfl|rfl|rfl|rfl|rfl|rfl<;>decide
theorem lE{comps:BL}(h:∀c∈comps,c∈b8)(hl:comps.length≤3):(aB [47] comps).length≤100:=by
 match comps,hl with
 |[],_=>decide|[a],_=>have:=c9 (h a (by simp));refine(?_:a.length≤100);exact cj this rfl|[a,b],_=>have h1:=c9 (h a (by simp));have h2:=c9 (h b (by simp));refine(?_:(a++[47]++b).length≤100);simp;exact kJ (QF h1 h2) rfl|[a,b,c],_=>have h1:=c9 (h a (by simp));have h2:=c9 (h b (by simp));have h3:=c9 (h c (by simp));refine(?_:(a++[47]++(b++[47]++c)).length≤100);simp;exact aZ [_,_,_] (.h 1 ab al (.h 1 ae al (.h 1 af al (.g (.a ab (.a (.a ae (.a af ai)) ai)) (.c 100))))) rfl h1 h2 h3|_::_::_::_::_,h=>simp at h
structure Row where
 home:Nat
 neg:Nat
 lead:Nat
 only:Nat
 comps:BL
structure RowOk(r:Row):Prop where
 home:r.home<4
 neg:r.neg<2
 lead:r.lead<2
 only:r.only<2
 ne:r.comps≠[]
 len:r.comps.length≤3
 mem:∀c∈r.comps,c∈b8
noncomputable def Row.toV(r:Row):V:=yf r.home r.neg r.lead r.only r.comps
theorem lR{c:Cx}{k:Nat}(h:aE ρ 150=some (.int k))(hk:k<10):eQ (ev cl (n+1)) c ρ σ (.call (.g 125) [(.v 150)])=some (.items ((Qb k).map λ(j:Nat)=>V.int j),σ):=by rw[nU rfl,ay h,P8,zW,rL (cj hk rfl)];rfl
theorem Bj(d:Nat)(σ:aq)(n:Nat)(hn:n<1000000000):∃r,RowOk r∧call (d+3) σ (.fn 41) [.int n]=some (r.toV,σ):=by
 have k1:=dm (d+1) σ (k:=2) (by decide) (by decide) (cj hn rfl);have k2:=dm (d+1) σ (n:=n / 2) (k:=4) (by decide) (by decide) (aZ [_,_] (.h 1 ab ae (.h 1 (.a ae ai) (.c 1000000000) (.g (.a ab ai) (.c 2000000000)))) rfl dS hn);have k3:=dm (d+1) σ (n:=n / 2 / 4) (k:=8) (by decide) (by decide) (aZ [_,_,_] (.h 1 ab ae (.h 1 ae af (.h 1 (.a af ai) (.c 1000000000) (.g (.a ab ai) (.c 2000000000))))) rfl dS dS hn);have k4:=dm (d+1) σ (n:=n / 2 / 4 / 8) (k:=3) (by decide) (by decide) (aZ [_,_,_,_] (.h 1 ab ae (.h 1 ae af (.h 1 af ag (.h 1 (.a ag ai) (.c 1000000000) (.g (.a ab ai) (.c 2000000000)))))) rfl dS dS dS hn);have b1:n % 2<2:=QJ _ (by decide);have b2:n / 2 % 4<4:=QJ _ (by decide);have b4:n / 2 / 4 / 8 % 3<3:=QJ _ (by decide);have c1:n / 2 / 4 / 8 / 3<1000000000:=by exact aZ [_,_,_,_,_] (.h 1 ab ae (.h 1 ae af (.h 1 af ag (.h 1 ag ah (.h 1 (.a ah ai) (.c 1000000000) (.g (.a ab ai) (.c 1000000000))))))) rfl dS dS dS dS hn
 have OS:=sM σ (n / 2 / 4);have pm:=p5 (n / 2 / 4);generalize pk (n / 2 / 4)=p0 at OS pm;generalize Pz:n / 2 / 4 % 8=Nr at*;generalize n % 2=neg at*;generalize n / 2 % 4=home at*;generalize n / 2 / 4 / 8 % 3=more at*;generalize n / 2 / 4 / 8 / 3=m at*
 have start:∀v,fu _ ⟨σ.length,[]⟩ (Rr m neg home Nr more [p0] []) σ (za.drop 5) v σ→fu (ev (call (d+2)) 399) ⟨σ.length,[]⟩ [(146,.int n)] σ za v σ:=λv k=>
  aJ (ao rfl rfl rfl k1) rfl (aJ (ao rfl rfl rfl k2) rfl (aJ (ao rfl rfl rfl k3) rfl
   (aJ (ao rfl rfl rfl k4) rfl (aJ (by rw[bY,jP (by decide),am (aU (ao rfl rfl rfl (jN (d+1) σ)) rfl OS) rfl];rfl) rfl k))))
 have fz:=CG σ σ.length home neg;have NJ:more=0∨more=1∨more=2:=by lia
 rcases NJ with NJ|NJ|NJ<;>subst NJ
 ·
  refine a7 ⟨home,neg,m / 2 % 2,m % 2,[p0]⟩ ⟨b2,b1,QJ _ (by decide),QJ _ (by decide),by simp,by simp,by simpa using pm⟩ ?_;exact au rfl rfl rfl (fz _ _ _) (start _ (aG ((cK (i:=.items []) (lR (k:=0) rfl (by decide))).trans rfl) (un d σ m neg home Nr [p0] [] (.inl rfl) (cj c1 rfl) (by simp) (by simp) (lE (by simpa using pm) (by simp)))))
 ·
  have q1:=p5 m;refine a7 ⟨home,neg,m / 8 / 2 % 2,m / 8 % 2,[p0,pk m]⟩ ⟨b2,b1,QJ _ (by decide),QJ _ (by decide),by simp,by simp,by simp[pm,q1]⟩ ?_;have t1:=sS d σ σ.length m neg home Nr 1 [p0] [] 0 (.inl rfl) (cj c1 rfl) (by simp);exact au rfl rfl rfl (fz _ _ _) (start _ (aG ((cK (i:=.items [.int (0:Nat)]) (lR (k:=1) rfl (by decide))).trans ((c8 t1).trans rfl)) (un d σ (m / 8) neg home (m % 8) [p0,pk m] _ (.inr ⟨_,rfl⟩) (aZ [_,_] (.h 1 ab ae (.h 1 (.a ae ai) (.c 1000000000) (.g (.a ab ai) (.c 2000000000)))) rfl dS c1) (by simp) (by simp) (lE (by simp[pm,q1]) (by simp)))))
 ·
  have q1:=p5 m;have q2:=p5 (m / 8);refine a7 ⟨home,neg,m / 8 / 8 / 2 % 2,m / 8 / 8 % 2,[p0,pk m,pk (m / 8)]⟩ ⟨b2,b1,QJ _ (by decide),QJ _ (by decide),by simp,by simp,by simp[pm,q1,q2]⟩ ?_;have t1:=sS d σ σ.length m neg home Nr 2 [p0] [] 0 (.inl rfl) (cj c1 rfl) (by simp);exact au rfl rfl rfl (fz _ _ _) (start _ (aG ((cK (i:=.items [.int (0:Nat),.int (1:Nat)]) (lR (k:=2) rfl (by decide))).trans ((c8 t1).trans ((c8 (sS d σ σ.length (m / 8) neg home (m % 8) 2 [p0,pk m] [(152,.int (0:Nat))] 1 (.inr ⟨_,rfl⟩) (aZ [_,_] (.h 1 ab ae (.h 1 (.a ae ai) (.c 1000000000) (.g (.a ab ai) (.c 2000000000)))) rfl dS c1) (by simp))).trans rfl))) (un d σ (m / 8 / 8) neg home (m / 8 % 8) [p0,pk m,pk (m / 8)] _ (.inr ⟨_,rfl⟩) (by(clear hn pm Pz k3 OS k1 b1 k2 b2 fz b4 k4 start q1 q2 t1;exact aZ [_,_,_] (.h 1 ab ae (.h 1 ae af (.h 1 (.a af ai) (.c 1000000000) (.g (.a ab ai) (.c 2000000000))))) rfl dS dS c1)) (by simp) (by simp) (lE (by simp[pm,q1,q2]) (by simp)))))
structure Ft where
 n:Nat
 m:Nat
 pats:List V
noncomputable def dJ(σ:aq)(f:Ft):Prop:=σ[f.n]?=some (.obj 129 [(131,.o f.m),(132,.bool false),(133,.none)])∧σ[f.m]?=some (.list f.pats)
theorem dJ.lt{f:Ft}(h:dJ σ f):f.n<σ.length∧f.m<σ.length:=⟨(Qe.mp h.1).1,(Qe.mp h.2).1⟩
theorem ue(h:n<N):aV σ N d (.o n)=some (.o n):=by
 induction d using Qy with
 |zero=>show _=_;exact(iP h)|succ d=>exact(iP h)
theorem mL{r:Ev}{v:V}(h:σ[n]?=some (.obj C fs))(hp:jM C a=none)(ht:dP.contains (C,a)=true)(hg:aE fs a=some v):jq r σ (.o n) a=some (v,σ):=by delta jq jX;simp only[P8,h,hp,ht,hg,if_true,QI]
theorem yM(d:Nat)(σ:aq)(f:Ft)(h:dJ σ f):call (d+1) σ (.fn 37003) [.o f.n]=some (.o f.m,σ):=
 au rfl rfl rfl (ue h.lt.2) (aO (dY rfl (mL h.1 rfl rfl rfl)))
theorem nQ{c:Cx}{f:Ft}(h:dJ σ f)(hx:aE ρ x=some (.o f.n)):(ev (call (d+1)) (n+2)).e c ρ σ (.attr (.v x) 130)=some (.o f.m,σ):=by refine dY (ay hx) ?_;delta jq jX;simp only[h.1];rw[vk];exact yM d σ f h
theorem rH{c:Cx}{f:Ft}(h:dJ σ f)(hx:aE ρ x=some (.o f.n)):eQ (ev (call (d+1)) (n+2)) c ρ σ (.call (.g 122) [.attr (.v x) 130])=some (.revLoc f.m f.pats.length,σ):=by rw[mx rfl,nQ h hx,P8,Io];delta DG;simp only[h.2,QI]
theorem vx{body:aF→aq→V→Option (Fl×aF×aq)}{at_:Nat→List V→Option (Option V)}{m k:Nat}{ρ1:aF}{σ1:aq}{xs:List V}{x:V}(h1:σ[n]?=some (.list xs))(h2:at_ k xs=some (some x))(h3:body ρ σ x=some (.next,ρ1,σ1)):cT body n at_ (m+1) k ρ σ=cT body n at_ m (k+1) ρ1 σ1:=by rw[lV,h1];dsimp only;rw[h2];dsimp only;rw[h3];rfl
theorem CR{body:aF→aq→V→Option (Fl×aF×aq)}{at_:Nat→List V→Option (Option V)}{m k:Nat}{ρ1:aF}{σ1:aq}{xs:List V}{x v:V}(h1:σ[n]?=some (.list xs))(h2:at_ k xs=some (some x))(h3:body ρ σ x=some (.ret v,ρ1,σ1)):cT body n at_ (m+1) k ρ σ=some (.ret v,ρ1,σ1):=by rw[lV,h1];dsimp only;rw[h2];dsimp only;rw[h3];rfl
theorem v5{body:aF→aq→V→Option (Fl×aF×aq)}{at_:Nat→List V→Option (Option V)}{m k:Nat}{xs:List V}(h1:σ[n]?=some (.list xs))(h2:at_ k xs=some none):cT body n at_ (m+1) k ρ σ=some (.next,ρ,σ):=by rw[lV,h1];dsimp only;rw[h2]
theorem vY{body:aF→aq→V→Option (Fl×aF×aq)}{m:Nat}{pats:List V}(hm:σ[m]?=some (.list pats)){P:aF→Prop}{q:V→Bool}{w:V→V}(hb:∀v∈pats,∀ρ,P ρ→∃ρ',P ρ'∧body ρ σ v=some (if q v then .ret (w v) else .next,ρ',σ)):∀ (k:Nat) (ρ:aF),P ρ→k≤pats.length→∃ρ',P ρ'∧
  cT body m (λk xs=>if k<pats.length then(xs[pats.length -1 -k]?).map some else some none) (k+1) (pats.length -k) ρ σ=some (match (pats.take k).reverse.find? q with|some v=>.ret (w v)|none=>.next,ρ',σ):=by
 intro L_;induction L_ with
 |zero=>intro ρ hp o_;refine a7 ρ hp ?_;exact v5 hm (iN (R0 _))
 |succ k IH_=>
  intro ρ hp hk;have NZ:k<pats.length:=by assumption
  refine aQ (hb pats[k] (SO NZ) ρ hp) λρ1 p1 e1=>?_;have Na:pats.length -(k+1)<pats.length:=by exact aZ [_,_,_] (.h 1 (.a ab (.a ae ai)) af (.g (.a ab ai) af)) rfl (nE (sC hk))
  have hidx:pats.length -1 -(pats.length -(k+1))=k:=by exact Qg (aZ [_,_,_,_,_] (.h 1 (.a ab ae) af (.h 1 (.a af ai) ag (.h 1 ag (.a ae (.a ah ai)) (.g ab ah)))) rfl (nE (sC (aZ [_,_,_] (.h 1 (.a ab ai) ae (.h 1 ae (.a af ai) (.g ab af))) rfl Na (iW _ _)))) (nE (sC (aZ [k,_] (.h 1 (.a ab ai) ae (.g ai ae)) rfl hk))) (iW _ _)) (aZ [_,_,_,_,_] (.h 1 (.a ab (.a ae ai)) af (.h 1 af (.a ag ai) (.h 1 ag (.a ah ab) (.g ae ah)))) rfl (nE (sC hk)) (iW _ _) (iW _ _))
  have NS:(pats.take (k+1)).reverse=pats[k]::(pats.take k).reverse:=by simp only[Tw NZ,Qp];rfl
  have O8:(if pats.length -(k+1)<pats.length then(pats[pats.length -1 -(pats.length -(k+1))]?).map some else some none)=some (some pats[k]):=by rw[iP Na,hidx,Qs NZ];rfl
  refine NS▸?_;refine S9▸?_
  induction hq:q pats[k] using bC with
  |true=>rw[hq] at e1;exact a7 ρ1 p1 (CR hm O8 e1)|false=>rw[hq] at e1;rw[vx hm O8 e1];refine aQ (IH_ ρ1 p1 (Qx (by assumption))) λρ2 p2 e2=>a7 ρ2 p2 ?_;rw[show pats.length -(k+1)+1=pats.length -k by exact Qg (aZ [_,_,_,_] (.h 1 (.a ab (.a ae ai)) af (.h 1 af (.a ag ae) (.g (.a ab ai) ag))) rfl (nE (sC hk)) (iW _ _)) (aZ [_,_,_,_] (.h 1 (.a ab ae) af (.h 1 af (.a ag (.a ae ai)) (.g ab (.a ag ai)))) rfl (nE (sC (aZ [k,_] (.h 1 (.a ab ai) ae (.g ab ae)) rfl hk))) (iW _ _))];exact e2
noncomputable def cD(v:V):Prop:=∃line neg only p0 P1 P2,v=iz line neg only p0 P1 P2
theorem C8{v:V}(h:cD v)(f:Nat→Option V):aY f v=some v:=by obtain⟨line,neg,only,p0,P1,P2,rfl⟩:=h;refine(?_:(cy f _).map _=_);simp only[yq,uQ,vu];rfl
theorem zJ{v:V}(h:cD v)(σ:aq):da σ v 110=some (.fnm 31002)∧da σ v 113=some (.fnm 31003):=by obtain⟨line,neg,only,p0,P1,P2,rfl⟩:=h;exact⟨rfl,rfl⟩
noncomputable def kx(x:Nat×Ft):V:=.t [.int x.1,.o x.2.n]
noncomputable def cS(nm:List Nat)(k:Nat):List UInt8:=r7 (aB [47] ((aL 47 nm).drop k))
structure NmOk(nm:List Nat):Prop where
 len:nm.length<60000
 asc:∀k,(aB [47] ((aL 47 nm).drop k)).all (· <128)=true
 out:∀k,(aB [47] ((aL 47 nm).drop k)).length≤65536
noncomputable def n4(M:Nat→V→Bool)(fl:List (Nat×Ft)):Option V:=fl.reverse.findSome? λx=>x.2.pats.reverse.find? (M x.1)
noncomputable def iH:Option V→V
 |some v=>v|none=>.none
noncomputable def I7:List S:=match Iu with|[.for _ _ b,_]=>b|_=>[]
noncomputable abbrev sy(a n d:V)(tl:aF):aF:=(119,a)::(40,n)::(111,d)::tl
noncomputable def qS(tl:aF):Prop:=tl=[]∨(∃a b c,tl=[(117,a),(120,b),(121,c)])∨∃a b c e,tl=[(117,a),(120,b),(121,c),(69,e)]
theorem FS(d:Nat)(σ:aq)(b:Nat)(a:V)(nm:List Nat)(dir:Bool)(hn:NmOk nm)(x:Nat×Ft)(hf:dJ σ x.2)(hp:∀v∈x.2.pats,cD v)(hm:∀v∈x.2.pats,call (d+2) σ (.fn 31002) [v,.bytes (cS nm x.1),.bool dir]=some (.bool (M x.1 v),σ))(tl:aF)(Ni:qS tl):
 ∃MT,qS MT∧cW (ev (call (d+2)) 399) ⟨b,[]⟩ (.t [.v 117,.v 120]) I7 (sy a (.str nm) (.bool dir) tl) σ (kx x)=some (match x.2.pats.reverse.find? (M x.1) with|some v=>.ret v|none=>.next,sy a (.str nm) (.bool dir) MT,σ):=by
 have NU:call (d+2) σ _ _=_:=vZ (d+1) σ nm x.1 (by have:=hn.len;exact cj this rfl) (hn.out x.1)
 have inner:∀ (Nn:aF),(Nn=[]∨∃e,Nn=[(69,e)])→∃ρ',(∃MT,qS MT∧ρ'=sy a (.str nm) (.bool dir) MT)∧ba (ev (call (d+2)) 398) ⟨b,[]⟩ (sy a (.str nm) (.bool dir) ((117,.int x.1)::(120,.o x.2.n)::(121,.bytes (cS nm x.1))::Nn)) σ
  [.for (.v 69) (.call (.g 122) [(.attr (.v 120) 130)]) [.ite (.m (.v 69) 110 [(.v 121),(.v 111)]) [.ret (.v 69)] []]] (match x.2.pats.reverse.find? (M x.1) with|some v=>.ret v|none=>.next) ρ' σ:=by
  intro Nn h3
  obtain⟨ρ',rfl|⟨e,rfl⟩,h⟩:=vY hf.2 (P:=λρ=>ρ=sy a (.str nm) (.bool dir) ((117,.int x.1)::(120,.o x.2.n)::(121,.bytes (cS nm x.1))::[])∨∃e,ρ=sy a (.str nm) (.bool dir) ((117,.int x.1)::(120,.o x.2.n)::(121,.bytes (cS nm x.1))::[(69,e)]))
   (body:=cW (ev (call (d+2)) 398) ⟨b,[]⟩ (.v 69) [.ite (.m (.v 69) 110 [(.v 121),(.v 111)]) [.ret (.v 69)] []]) (by
    intro v hv ρ M3;refine a7 (sy a (.str nm) (.bool dir) ((117,.int x.1)::(120,.o x.2.n)::(121,.bytes (cS nm x.1))::[(69,v)])) (.inr ⟨v,rfl⟩) ?_;have e1:(ev (call (d+2)) 397).e ⟨b,[]⟩ (sy a (.str nm) (.bool dir) ((117,.int x.1)::(120,.o x.2.n)::(121,.bytes (cS nm x.1))::[(69,v)])) σ (.m (.v 69) 110 [(.v 121),(.v 111)])=_:=aS rfl (zJ (hp v hv) σ).1 rfl (hm v hv)
    have go:ba (ev (call (d+2)) 397) ⟨b,[]⟩ (sy a (.str nm) (.bool dir) ((117,.int x.1)::(120,.o x.2.n)::(121,.bytes (cS nm x.1))::[(69,v)])) σ [.ite (.m (.v 69) 110 [(.v 121),(.v 111)]) [.ret (.v 69)] []] (if M x.1 v then .ret (id v) else .next) (sy a (.str nm) (.bool dir) ((117,.int x.1)::(120,.o x.2.n)::(121,.bytes (cS nm x.1))::[(69,v)])) σ:=by
     induction h:M x.1 v using bC with
     |true=>rw[h] at e1;exact ig e1 rfl rfl|false=>rw[h] at e1;exact aR e1 rfl rfl aw
    rcases M3 with rfl|⟨e,rfl⟩<;>exact go) x.2.pats.length (sy a (.str nm) (.bool dir) ((117,.int x.1)::(120,.o x.2.n)::(121,.bytes (cS nm x.1))::Nn)) (by rcases h3 with rfl|⟨e,rfl⟩;exact .inl rfl;exact .inr ⟨e,rfl⟩) nR
  all_goals
   rw[QG,Rb] at h;have MV:=(cK (r:=ev (call (d+2)) 398) (rH hf (x:=120) rfl)).trans h
  ·refine a7 (sy a (.str nm) (.bool dir) [(117,.int x.1),(120,.o x.2.n),(121,.bytes (cS nm x.1))]) ⟨_,.inr (.inl ⟨_,_,_,rfl⟩),rfl⟩ ?_
   induction hq:x.2.pats.reverse.find? (M x.1) using oA with
   |none=>rw[hq] at MV;exact az MV aw|some v=>rw[hq] at MV;exact cq MV
  ·refine a7 (sy a (.str nm) (.bool dir) [(117,.int x.1),(120,.o x.2.n),(121,.bytes (cS nm x.1)),(69,e)]) ⟨_,.inr (.inr ⟨_,_,_,_,rfl⟩),rfl⟩ ?_
   induction hq:x.2.pats.reverse.find? (M x.1) using oA with
   |none=>rw[hq] at MV;exact az MV aw|some v=>rw[hq] at MV;exact cq MV
 have start:∀Nn fl ρ',(Nn=[]∨∃e,Nn=[(69,e)])→∀Nx,(Nn=[]→Nx=[(117,V.int x.1),(120,.o x.2.n)]∨∃c,Nx=[(117,V.int x.1),(120,.o x.2.n),(121,c)])→(∀e,Nn=[(69,e)]→∃c,Nx=[(117,V.int x.1),(120,.o x.2.n),(121,c),(69,e)])→
  ba (ev (call (d+2)) 398) ⟨b,[]⟩ (sy a (.str nm) (.bool dir) ((117,.int x.1)::(120,.o x.2.n)::(121,.bytes (cS nm x.1))::Nn)) σ
  [.for (.v 69) (.call (.g 122) [(.attr (.v 120) 130)]) [.ite (.m (.v 69) 110 [(.v 121),(.v 111)]) [.ret (.v 69)] []]] fl ρ' σ→ba (ev (call (d+2)) 398) ⟨b,[]⟩ (sy a (.str nm) (.bool dir) Nx) σ I7 fl ρ' σ:=by
  intro Nn fl ρ' h3 Nx h0 h1 k;rcases h3 with rfl|⟨e,rfl⟩
  ·rcases h0 rfl with rfl|⟨c,rfl⟩
   ·exact aI (aS rfl rfl (am (ao rfl rfl rfl NU) rfl) (jK (d+1) σ _ _ (hn.asc x.1))) rfl k
   ·exact aI (aS rfl rfl (am (ao rfl rfl rfl NU) rfl) (jK (d+1) σ _ _ (hn.asc x.1))) rfl k
  ·obtain⟨c,rfl⟩:=h1 e rfl;exact aI (aS rfl rfl (am (ao rfl rfl rfl NU) rfl) (jK (d+1) σ _ _ (hn.asc x.1))) rfl k
 rcases Ni with rfl|⟨u1,u2,u3,rfl⟩|⟨u1,u2,u3,u4,rfl⟩
 ·refine cps λX_ k_=>aQ (inner [] (.inl rfl)) λρ' z3 k=>?_;obtain⟨MT,h',rfl⟩:=z3;refine k_ ?_;exact a7 MT h' (start [] _ _ (.inl rfl) _ (λo_=>.inl rfl) (λe he=>by cases he) k)
 ·refine cps λX_ k_=>aQ (inner [] (.inl rfl)) λρ' z2 k=>aQ z2 λMT h' z2=>?_;subst z2;refine k_ ?_;exact a7 MT h' (start [] _ _ (.inl rfl) _ (λo_=>.inr ⟨u3,rfl⟩) (λe he=>by cases he) k)
 ·refine aQ (inner [(69,u4)] (.inr ⟨_,rfl⟩)) λρ' z1 k=>aQ z1 λMT h' z1=>?_;subst z1;exact a7 MT h' (start [(69,u4)] _ _ (.inr ⟨_,rfl⟩) _ (λh=>by cases h) (λe he=>by cases he;exact⟨u3,rfl⟩) k)
theorem EB(d:Nat)(σ:aq)(b:Nat)(a:V)(nm:List Nat)(dir:Bool)(hn:NmOk nm):∀ (l:List (Nat×Ft)) (tl:aF),(∀x∈l,dJ σ x.2∧(∀v∈x.2.pats,cD v)∧∀v∈x.2.pats,call (d+2) σ (.fn 31002) [v,.bytes (cS nm x.1),.bool dir]=some (.bool (M x.1 v),σ))→qS tl→
 ∃ρ',eu (cW (ev (call (d+2)) 399) ⟨b,[]⟩ (.t [.v 117,.v 120]) I7) (sy a (.str nm) (.bool dir) tl) σ (l.map kx)=some (match l.findSome? (λx=>x.2.pats.reverse.find? (M x.1)) with|some v=>.ret v|none=>.next,ρ',σ):=by
 intro L_;induction L_ with
 |nil=>intro tl o_ o_;exact⟨_,rfl⟩
 |cons x l IH_=>
  intro tl h Ni;refine dR (h x mS) λhf hp hm=>aQ (FS d σ b a nm dir hn x hf hp hm tl Ni) λMT h' e=>Qf▸?_;refine Rh▸?_
  induction hq:x.2.pats.reverse.find? (M x.1) using oA with
  |some v=>rw[hq] at e;exact⟨_,iV e⟩|none=>rw[hq] at e;obtain⟨ρ',ih⟩:=IH_ MT (λy hy=>h y (mM hy)) h';exact⟨ρ',(c8 e).trans ih⟩
theorem yK(d:Nat)(σ:aq)(nm:List Nat)(dir:Bool)(hn:NmOk nm)(fl:List (Nat×Ft))(h:∀x∈fl,dJ σ x.2∧(∀v∈x.2.pats,cD v)∧∀v∈x.2.pats,call (d+2) σ (.fn 31002) [v,.bytes (cS nm x.1),.bool dir]=some (.bool (M x.1 v),σ)):
 call (d+3) σ (.fn 33) [.list (fl.map kx),.str nm,.bool dir]=some (iH (n4 M fl),σ):=by
 refine ek (EB d σ σ.length (.list (fl.map kx)) nm dir hn fl.reverse [] (λx hx=>h x (QL.mp hx)) (.inl rfl)) λρ' e=>?_;rw[TJ] at e
 have MV:br _ _ _ σ (.for _ (.call (.g 122) [(.v 119)]) I7)=_:=
  (cK (i:=.items ((fl.map kx).reverse)) (by rw[mx rfl];rfl)).trans e
 delta n4
 have PA:∀v,fl.reverse.findSome? (λx=>x.2.pats.reverse.find? (M x.1))=some v→cD v:=λv hv=>by exact aQ (TC hv) λx hx hv=>(h x (QL.mp hx)).2.1 v (QL.mp (Sz hv))
 induction hq:fl.reverse.findSome? (λx=>x.2.pats.reverse.find? (M x.1)) using oA with
 |some v=>rw[hq] at MV;exact au rfl rfl rfl (fV _ _ (C8 (PA v hq)) 2) (gF (cq MV))|none=>rw[hq] at MV;exact au rfl rfl rfl rfl (aG MV (aO rfl))
noncomputable def je:V→Bool
 |.inst _ fs=>(match aE fs 101 with|some (.bool b)=>b|_=>false)|_=>false
theorem v8{v:V}(h:cD v){r:Ev}:jq r σ v 101=some (.bool (je v),σ):=by obtain⟨line,neg,only,p0,P1,P2,rfl⟩:=h;rfl
noncomputable def I6:List S:=match HI with|[.for _ _ b,_]=>b|_=>[]
noncomputable abbrev sA(a n:V)(tl:aF):aF:=(119,a)::(40,n)::tl
theorem Gu(d:Nat)(σ:aq)(b:Nat)(a:V)(nm:List Nat)(hn:NmOk nm)(x:Nat×Ft)(hf:dJ σ x.2)(hp:∀v∈x.2.pats,cD v)(hm:∀v∈x.2.pats,call (d+2) σ (.fn 31003) [v,.bytes (cS nm x.1)]=some (.bool (M x.1 v),σ))(tl:aF)(Ni:qS tl):
 ∃MT,qS MT∧cW (ev (call (d+2)) 399) ⟨b,[]⟩ (.t [.v 117,.v 120]) I6 (sA a (.str nm) tl) σ (kx x)=some (match x.2.pats.reverse.find? (M x.1) with|some v=>.ret (.bool (je v))|none=>.next,sA a (.str nm) MT,σ):=by
 have NU:call (d+2) σ _ _=_:=vZ (d+1) σ nm x.1 (by have:=hn.len;exact cj this rfl) (hn.out x.1)
 have inner:∀ (Nn:aF),(Nn=[]∨∃e,Nn=[(69,e)])→∃ρ',(∃MT,qS MT∧ρ'=sA a (.str nm) MT)∧ba (ev (call (d+2)) 398) ⟨b,[]⟩ (sA a (.str nm) ((117,.int x.1)::(120,.o x.2.n)::(121,.bytes (cS nm x.1))::Nn)) σ
  [.for (.v 69) (.call (.g 122) [(.attr (.v 120) 130)]) [.ite (.m (.v 69) 113 [(.v 121)]) [.ret (.attr (.v 69) 101)] []]] (match x.2.pats.reverse.find? (M x.1) with|some v=>.ret (.bool (je v))|none=>.next) ρ' σ:=by
  intro Nn h3
  obtain⟨ρ',rfl|⟨e,rfl⟩,h⟩:=vY hf.2 (P:=λρ=>ρ=sA a (.str nm) ((117,.int x.1)::(120,.o x.2.n)::(121,.bytes (cS nm x.1))::[])∨∃e,ρ=sA a (.str nm) ((117,.int x.1)::(120,.o x.2.n)::(121,.bytes (cS nm x.1))::[(69,e)]))
   (body:=cW (ev (call (d+2)) 398) ⟨b,[]⟩ (.v 69) [.ite (.m (.v 69) 113 [(.v 121)]) [.ret (.attr (.v 69) 101)] []]) (by
    intro v hv ρ M3;refine a7 (sA a (.str nm) ((117,.int x.1)::(120,.o x.2.n)::(121,.bytes (cS nm x.1))::[(69,v)])) (.inr ⟨v,rfl⟩) ?_;have e1:(ev (call (d+2)) 397).e ⟨b,[]⟩ (sA a (.str nm) ((117,.int x.1)::(120,.o x.2.n)::(121,.bytes (cS nm x.1))::[(69,v)])) σ (.m (.v 69) 113 [(.v 121)])=_:=aS rfl (zJ (hp v hv) σ).2 rfl (hm v hv)
    have go:ba (ev (call (d+2)) 397) ⟨b,[]⟩ (sA a (.str nm) ((117,.int x.1)::(120,.o x.2.n)::(121,.bytes (cS nm x.1))::[(69,v)])) σ [.ite (.m (.v 69) 113 [(.v 121)]) [.ret (.attr (.v 69) 101)] []] (if M x.1 v then .ret (.bool (je v)) else .next) (sA a (.str nm) ((117,.int x.1)::(120,.o x.2.n)::(121,.bytes (cS nm x.1))::[(69,v)])) σ:=by
     induction h:M x.1 v using bC with
     |true=>rw[h] at e1;exact ig e1 rfl (cC (eD (dY rfl (v8 (hp v hv)))))|false=>rw[h] at e1;exact aR e1 rfl rfl aw
    rcases M3 with rfl|⟨e,rfl⟩<;>exact go) x.2.pats.length (sA a (.str nm) ((117,.int x.1)::(120,.o x.2.n)::(121,.bytes (cS nm x.1))::Nn)) (by rcases h3 with rfl|⟨e,rfl⟩;exact .inl rfl;exact .inr ⟨e,rfl⟩) nR
  all_goals
   rw[QG,Rb] at h;have MV:=(cK (r:=ev (call (d+2)) 398) (rH hf (x:=120) rfl)).trans h
  ·refine a7 (sA a (.str nm) [(117,.int x.1),(120,.o x.2.n),(121,.bytes (cS nm x.1))]) ⟨_,.inr (.inl ⟨_,_,_,rfl⟩),rfl⟩ ?_
   induction hq:x.2.pats.reverse.find? (M x.1) using oA with
   |none=>rw[hq] at MV;exact az MV aw|some v=>rw[hq] at MV;exact cq MV
  ·refine a7 (sA a (.str nm) [(117,.int x.1),(120,.o x.2.n),(121,.bytes (cS nm x.1)),(69,e)]) ⟨_,.inr (.inr ⟨_,_,_,_,rfl⟩),rfl⟩ ?_
   induction hq:x.2.pats.reverse.find? (M x.1) using oA with
   |none=>rw[hq] at MV;exact az MV aw|some v=>rw[hq] at MV;exact cq MV
 have start:∀Nn fl ρ',(Nn=[]∨∃e,Nn=[(69,e)])→∀Nx,(Nn=[]→Nx=[(117,V.int x.1),(120,.o x.2.n)]∨∃c,Nx=[(117,V.int x.1),(120,.o x.2.n),(121,c)])→(∀e,Nn=[(69,e)]→∃c,Nx=[(117,V.int x.1),(120,.o x.2.n),(121,c),(69,e)])→
  ba (ev (call (d+2)) 398) ⟨b,[]⟩ (sA a (.str nm) ((117,.int x.1)::(120,.o x.2.n)::(121,.bytes (cS nm x.1))::Nn)) σ
  [.for (.v 69) (.call (.g 122) [(.attr (.v 120) 130)]) [.ite (.m (.v 69) 113 [(.v 121)]) [.ret (.attr (.v 69) 101)] []]] fl ρ' σ→ba (ev (call (d+2)) 398) ⟨b,[]⟩ (sA a (.str nm) Nx) σ I6 fl ρ' σ:=by
  intro Nn fl ρ' h3 Nx h0 h1 k;rcases h3 with rfl|⟨e,rfl⟩
  ·rcases h0 rfl with rfl|⟨c,rfl⟩
   ·exact aI (aS rfl rfl (am (ao rfl rfl rfl NU) rfl) (jK (d+1) σ _ _ (hn.asc x.1))) rfl k
   ·exact aI (aS rfl rfl (am (ao rfl rfl rfl NU) rfl) (jK (d+1) σ _ _ (hn.asc x.1))) rfl k
  ·obtain⟨c,rfl⟩:=h1 e rfl;exact aI (aS rfl rfl (am (ao rfl rfl rfl NU) rfl) (jK (d+1) σ _ _ (hn.asc x.1))) rfl k
 rcases Ni with rfl|⟨u1,u2,u3,rfl⟩|⟨u1,u2,u3,u4,rfl⟩
 ·refine cps λX_ k_=>aQ (inner [] (.inl rfl)) λρ' z3 k=>?_;obtain⟨MT,h',rfl⟩:=z3;refine k_ ?_;exact a7 MT h' (start [] _ _ (.inl rfl) _ (λo_=>.inl rfl) (λe he=>by cases he) k)
 ·refine cps λX_ k_=>aQ (inner [] (.inl rfl)) λρ' z2 k=>aQ z2 λMT h' z2=>?_;subst z2;refine k_ ?_;exact a7 MT h' (start [] _ _ (.inl rfl) _ (λo_=>.inr ⟨u3,rfl⟩) (λe he=>by cases he) k)
 ·refine aQ (inner [(69,u4)] (.inr ⟨_,rfl⟩)) λρ' z1 k=>aQ z1 λMT h' z1=>?_;subst z1;exact a7 MT h' (start [(69,u4)] _ _ (.inr ⟨_,rfl⟩) _ (λh=>by cases h) (λe he=>by cases he;exact⟨u3,rfl⟩) k)
theorem F4(d:Nat)(σ:aq)(b:Nat)(a:V)(nm:List Nat)(hn:NmOk nm):∀ (l:List (Nat×Ft)) (tl:aF),(∀x∈l,dJ σ x.2∧(∀v∈x.2.pats,cD v)∧∀v∈x.2.pats,call (d+2) σ (.fn 31003) [v,.bytes (cS nm x.1)]=some (.bool (M x.1 v),σ))→qS tl→
 ∃ρ',eu (cW (ev (call (d+2)) 399) ⟨b,[]⟩ (.t [.v 117,.v 120]) I6) (sA a (.str nm) tl) σ (l.map kx)=some (match l.findSome? (λx=>x.2.pats.reverse.find? (M x.1)) with|some v=>.ret (.bool (je v))|none=>.next,ρ',σ):=by
 intro L_;induction L_ with
 |nil=>intro tl o_ o_;exact⟨_,rfl⟩
 |cons x l IH_=>
  intro tl h Ni;refine dR (h x mS) λhf hp hm=>aQ (Gu d σ b a nm hn x hf hp hm tl Ni) λMT h' e=>Qf▸?_;refine Rh▸?_
  induction hq:x.2.pats.reverse.find? (M x.1) using oA with
  |some v=>rw[hq] at e;exact⟨_,iV e⟩|none=>rw[hq] at e;obtain⟨ρ',ih⟩:=IH_ MT (λy hy=>h y (mM hy)) h';exact⟨ρ',(c8 e).trans ih⟩
theorem sI(d:Nat)(σ:aq)(nm:List Nat)(hn:NmOk nm)(fl:List (Nat×Ft))(h:∀x∈fl,dJ σ x.2∧(∀v∈x.2.pats,cD v)∧∀v∈x.2.pats,call (d+2) σ (.fn 31003) [v,.bytes (cS nm x.1)]=some (.bool (M x.1 v),σ)):
 call (d+3) σ (.fn 35) [.list (fl.map kx),.str nm]=some (.bool (match n4 M fl with|some v=>je v|none=>false),σ):=by
 refine ek (F4 d σ σ.length (.list (fl.map kx)) nm hn fl.reverse [] (λx hx=>h x (QL.mp hx)) (.inl rfl)) λρ' e=>?_;rw[TJ] at e
 have MV:br _ _ _ σ (.for _ (.call (.g 122) [(.v 119)]) I6)=_:=
  (cK (i:=.items ((fl.map kx).reverse)) (by rw[mx rfl];rfl)).trans e
 delta n4
 have PA:∀v,fl.reverse.findSome? (λx=>x.2.pats.reverse.find? (M x.1))=some v→cD v:=λv hv=>by exact aQ (TC hv) λx hx hv=>(h x (QL.mp hx)).2.1 v (QL.mp (Sz hv))
 induction hq:fl.reverse.findSome? (λx=>x.2.pats.reverse.find? (M x.1)) using oA with
 |some v=>rw[hq] at MV;exact au rfl rfl rfl rfl (gF (cq MV))|none=>rw[hq] at MV;exact au rfl rfl rfl rfl (aG MV (aO rfl))
noncomputable def fj(o:Option V):Bool:=match o with|some v=>je v|none=>false
noncomputable def Lp:List S:=match IU with|[_,_,.for _ _ b,_]=>b|_=>[]
noncomputable abbrev sl(l:List (List Nat)):V:=.list (l.map .str)
noncomputable abbrev Fc(f p n:V)(ps:List (List Nat))(tl:aF):aF:=(124,f)::(115,p)::(40,n)::(27,sl ps)::tl
noncomputable def K4(tl:aF):Prop:=tl=[]∨∃a b c,tl=[(19,a),(114,b),(69,c)]
noncomputable def pre(ps:List (List Nat))(i:Nat):List Nat:=aB [47] (ps.take i)
theorem LZ{l:List (List Nat)}{k:Nat}:du σ (sl l) none (some (.int (k:Nat)))=some (sl (l.take k)):=by refine(?_:some (V.list _)=_);refine rc▸?_;exact lQ▸rfl
theorem oE{a x:List Nat}(h:(a++x).length≤65536):ii σ .add (.str a) (.str x)=some (.str (a++x)):=by refine(?_:RM (if(a++x).length≤65536 then _ else none) _=_);rw[iP h];rfl
structure LookOk(D:Nat)(σ:aq)(f:V)(p:List Nat)(nm:List Nat)(dir:Bool)(o:Option V):Prop where
 fl:∃fl,call D σ f [.str p]=some (.list fl,σ)∧call D σ (.fn 33) [.list fl,.str nm,.bool dir]=some (iH o,σ)
 pat:∀v,o=some v→cD v
theorem my{c:Cx}{o:Option V}(hp:∀v,o=some v→cD v)(h:aE ρ 69=some (iH o)):∃v,(ev cl (n+5)).e c ρ σ (.b true [(.p (.v 69) [.isNot] [(.k .none)]),(.attr (.v 69) 101)])=some (v,σ)∧aN σ v=some (fj o):=by
 induction o using oA with
 |none=>exact a7 (.bool false) (av (bH (aC (ay h) rfl rfl) rfl)) rfl|some v=>refine a7 (.bool (je v)) (av (bw (aC (ay h) rfl ?_) rfl (cw (dY (ay h) (v8 (hp v rfl)))))) rfl;obtain⟨line,neg,only,p0,P1,P2,rfl⟩:=(hp v rfl);rfl
theorem EA(D:Nat)(σ:aq)(b:Nat)(f p n:V)(ps:List (List Nat))(o:Nat→Option V):∀ (l:List Nat) (tl:aF),(∀i∈l,LookOk (D+1) σ f (pre ps i++[47]) (pre ps i) true (o i)∧(pre ps i++[47]).length≤65536)→K4 tl→
 ∃ρ',eu (cW (ev (call (D+1)) 399) ⟨b,[]⟩ (.v 19) Lp) (Fc f p n ps tl) σ (aM l)=some (if l.any (λi=>fj (o i)) then .ret (.bool true) else .next,ρ',σ):=by
 intro L_;induction L_ with
 |nil=>intro tl o_ o_;exact⟨_,rfl⟩
 |cons i l IH_=>
  intro tl h Ni;obtain⟨⟨⟨fl,h1,h2⟩,hp⟩,hl⟩:=h i mS;have hj:(pre ps i).length≤65536:=by simp at hl;exact Qo (by assumption)
  refine aQ (my (cl:=call (D+1)) (n:=393) (c:=⟨b,[]⟩) (ρ:=Fc f p n ps [(19,.int i),(114,.str (pre ps i)),(69,iH (o i))]) (σ:=σ) hp rfl) λv e1 t1=>?_
  have go:ba (ev (call (D+1)) 398) ⟨b,[]⟩ (Fc f p n ps [(19,.int i),(114,.str (pre ps i)),(69,iH (o i))]) σ [.ite (.b true [(.p (.v 69) [.isNot] [(.k .none)]),(.attr (.v 69) 101)]) [.ret (.k (.bool true))] []] (if fj (o i) then .ret (.bool true) else .next) (Fc f p n ps [(19,.int i),(114,.str (pre ps i)),(69,iH (o i))]) σ:=by
   induction hq:fj (o i) using bC with
   |true=>rw[hq] at t1;exact ig e1 t1 rfl|false=>rw[hq] at t1;exact aR e1 t1 rfl aw
  have body:cW (ev (call (D+1)) 399) ⟨b,[]⟩ (.v 19) Lp (Fc f p n ps tl) σ (.int i)=some (if fj (o i) then .ret (.bool true) else .next,Fc f p n ps [(19,.int i),(114,.str (pre ps i)),(69,iH (o i))],σ):=by
   rcases Ni with rfl|⟨a1,a2,a3,rfl⟩<;>
   exact aI (v:=.str (pre ps i)) (bD (ov:=.str [47]) rfl rfl (am (aK rfl rfl rfl LZ) rfl) (sK hj)) rfl (aI (ao rfl rfl (am (ao rfl rfl (am (aX rfl rfl (oE hl)) rfl) h1) (am rfl (am rfl rfl))) h2) rfl go)
  refine RA▸?_
  induction hq:fj (o i) using bC with
  |true=>rw[hq] at body;exact⟨_,iV body⟩|false=>rw[hq] at body;obtain⟨ρ',ih⟩:=IH_ _ (λj hj=>h j (mM hj)) (.inr ⟨_,_,_,rfl⟩);exact⟨ρ',(c8 body).trans ih⟩
theorem GO(h:n<100000):nj 1 ((n+1:Nat):Int)=some (.items (aM ((Qb n).map (· +1)))):=by delta nj tv aM;rw[iP (by simp;lia)];congr 1;congr 1;simp only[show(((n+1:Nat):Int) -1).toNat=n by lia,Qk];apply Sr;intro a o_;congr 1;lia
theorem AJ{c:Cx}(he:(ev cl (n+1)).e c ρ σ e=some (.int ((N+1:Nat):Int),σ))(h:N<100000):eQ (ev cl (n+1)) c ρ σ (.call (.g 125) [(.k (.int 1)),e])=some (.items (aM ((Qb N).map (· +1))),σ):=by rw[wW rfl,show(ev cl (n+1)).e c ρ σ (.k (.int 1))=some (.int 1,σ) from rfl,P8,Hf,he,P8,FW,GO h];rfl
theorem wF(D:Nat)(σ:aq)(f:V)(MU nm:List Nat)(ps:List (List Nat))(o:Nat→Option V)(hn:a8 [47] MU=nm)(hs:aL 47 nm=ps)(hl:nm.length<65536)(NV:ps.length<1000)(h:∀i∈(Qb ps.length).map (· +1),LookOk (D+1) σ f (pre ps i++[47]) (pre ps i) true (o i)∧(pre ps i++[47]).length≤65536):
 call (D+2) σ (.fn 36) [f,.str MU]=some (.bool (((Qb ps.length).map (· +1)).any λi=>fj (o i)),σ):=by
 subst hn;obtain⟨ρ',e⟩:=EA D σ σ.length f (.str MU) (.str (a8 [47] MU)) ps o ((Qb ps.length).map (· +1)) [] h (.inl rfl)
 have MZ:(ev (call (D+1)) 399).e ⟨σ.length,[]⟩ (Fc f (.str MU) (.str (a8 [47] MU)) ps []) σ (.bin .add (.call (.g 32) [(.v 27)]) (.k (.int 1)))=some (.int ((ps.length+1:Nat):Int),σ):=by
  have:mB σ 32 [sl ps]=some (.int ps.length):=by refine(?_:some (V.int (ps.map V.str).length)=_);rw[KE]
  exact aX (ao rfl rfl rfl (by simp only[dk,this];rfl)) rfl rfl
 have MV:=(cK (AJ MZ (cj NV rfl))).trans e;have Ou:(ev (call (D+1)) 399).e ⟨σ.length,[]⟩ [(124,f),(115,.str MU),(40,.str (a8 [47] MU))] σ (.m (.v 40) 199 [(.k (.str [47]))])=_:=bD (vs:=[.str [47]]) rfl rfl rfl (by rw[pz hl,hs])
 induction hq:((Qb ps.length).map (· +1)).any (λi=>fj (o i)) using bC with
 |true=>rw[hq] at MV;exact au rfl rfl rfl rfl (aG rfl (aJ Ou rfl (gF (cq MV))))|false=>rw[hq] at MV;exact au rfl rfl rfl rfl (aG rfl (aJ Ou rfl (aG MV (aO rfl))))
noncomputable def Mb:List S:=match F0 with|[_,_,.for _ _ b,_,_,_,_,_]=>b|_=>[]
noncomputable abbrev Ea(f p d n:V)(ps:List (List Nat))(tl:aF):aF:=(124,f)::(115,p)::(111,d)::(40,n)::(27,sl ps)::tl
noncomputable def HJ(tl:aF):Prop:=tl=[]∨∃a b c,tl=[(19,a),(126,b),(69,c)]
theorem Gr(D:Nat)(σ:aq)(b:Nat)(f p dd n:V)(ps:List (List Nat))(o:Nat→Option V):∀ (l:List Nat) (tl:aF),(∀i∈l,LookOk (D+1) σ f (pre ps i++[47]) (pre ps i) true (o i)∧(pre ps i++[47]).length≤65536)→HJ tl→
 ∃MT,HJ MT∧eu (cW (ev (call (D+1)) 399) ⟨b,[]⟩ (.v 19) Mb) (Ea f p dd n ps tl) σ (aM l)=some (if l.any (λi=>fj (o i)) then .ret (.bool true) else .next,Ea f p dd n ps MT,σ):=by
 intro L_;induction L_ with
 |nil=>intro tl o_ h;exact⟨tl,h,rfl⟩
 |cons i l IH_=>
  intro tl h Ni;obtain⟨⟨⟨fl,h1,h2⟩,hp⟩,hl⟩:=h i mS;have hj:(pre ps i).length≤65536:=by simp at hl;exact Qo (by assumption)
  refine aQ (my (cl:=call (D+1)) (n:=393) (c:=⟨b,[]⟩) (ρ:=Ea f p dd n ps [(19,.int i),(126,.str (pre ps i)),(69,iH (o i))]) (σ:=σ) hp rfl) λv e1 t1=>?_
  have go:ba (ev (call (D+1)) 398) ⟨b,[]⟩ (Ea f p dd n ps [(19,.int i),(126,.str (pre ps i)),(69,iH (o i))]) σ [.ite (.b true [(.p (.v 69) [.isNot] [(.k .none)]),(.attr (.v 69) 101)]) [.ret (.k (.bool true))] []] (if fj (o i) then .ret (.bool true) else .next) (Ea f p dd n ps [(19,.int i),(126,.str (pre ps i)),(69,iH (o i))]) σ:=by
   induction hq:fj (o i) using bC with
   |true=>rw[hq] at t1;exact ig e1 t1 rfl|false=>rw[hq] at t1;exact aR e1 t1 rfl aw
  have body:cW (ev (call (D+1)) 399) ⟨b,[]⟩ (.v 19) Mb (Ea f p dd n ps tl) σ (.int i)=some (if fj (o i) then .ret (.bool true) else .next,Ea f p dd n ps [(19,.int i),(126,.str (pre ps i)),(69,iH (o i))],σ):=by
   rcases Ni with rfl|⟨a1,a2,a3,rfl⟩<;>
   exact aI (v:=.str (pre ps i)) (bD (ov:=.str [47]) rfl rfl (am (aK rfl rfl rfl LZ) rfl) (sK hj)) rfl (aI (ao rfl rfl (am (ao rfl rfl (am (aX rfl rfl (oE hl)) rfl) h1) (am rfl (am rfl rfl))) h2) rfl go)
  refine RA▸?_
  induction hq:fj (o i) using bC with
  |true=>rw[hq] at body;exact a7 _ (.inr ⟨_,_,_,rfl⟩) (iV body)|false=>rw[hq] at body;obtain⟨MT,h',ih⟩:=IH_ _ (λj hj=>h j (mM hj)) (.inr ⟨_,_,_,rfl⟩);exact a7 MT h' ((c8 body).trans ih)
noncomputable def BD(par:Bool)(of:Option V)(slash N5:Bool):Option Bool:=if par then some true else if fj of then some true else if slash&&N5 then some true else if of.isNone then none else some false
theorem zh(D:Nat)(σ:aq)(ρ:aF)(MU nm:List Nat)(fl:List V)(of:Option V)(N5:Bool)(hp:∀v,of=some v→cD v)(g1:aE ρ 69=some (iH of))(g2:aE ρ 115=some (.str MU))(g3:aE ρ 119=some (.list fl))(g4:aE ρ 40=some (.str nm))(hi:[47].isSuffixOf MU=true→call (D+1) σ (.fn 35) [.list fl,.str nm]=some (.bool N5,σ)):fu (ev (call (D+1)) 399) ⟨σ.length,[]⟩ ρ σ (F0.drop 5) (ck (BD false of ([47].isSuffixOf MU) N5)) σ:=by
 refine aQ (my (cl:=call (D+1)) (n:=394) (c:=⟨σ.length,[]⟩) (σ:=σ) hp g1) λv e1 t1=>?_
 have e2:∃v,(ev (call (D+1)) 399).e ⟨σ.length,[]⟩ ρ σ (.b true [(.m (.v 115) 197 [(.k (.str [47]))]),(.call (.g 127) [(.v 119),(.v 40)])])=some (v,σ)∧aN σ v=some ([47].isSuffixOf MU&&N5):=by
  induction h:[47].isSuffixOf MU using bC with
  |false=>exact a7 (.bool false) (av (bH (((λn=>bD (vs:=[.str [47]]) (ay g2) rfl rfl rfl) 395).trans (by rw[h])) rfl)) rfl|true=>exact a7 (.bool N5) (av (bw (((λn=>bD (vs:=[.str [47]]) (ay g2) rfl rfl rfl) 395).trans (by rw[h])) rfl (cw (ao rfl rfl (am (ay g3) (am (ay g4) rfl)) (hi h))))) rfl
 refine aQ e2 λv2 e2 t2=>?_;delta BD
 induction h1:fj of using bC with
 |true=>rw[h1] at t1;rw[iP rfl];exact cF e1 t1 (aO rfl) rfl
 |false=>
  rw[h1] at t1
  induction h2:([47].isSuffixOf MU&&N5) using bC with
  |true=>rw[h2] at t2;rw[iP rfl];exact aH e1 t1 rfl rfl (cF e2 t2 (aO rfl) rfl)
  |false=>
   rw[h2] at t2
   induction of using oA with
   |none=>exact aH e1 t1 rfl rfl (aH e2 t2 rfl rfl (aO (bV (v:=.bool true) (aC (ay g1) rfl rfl) rfl rfl)))|some w=>obtain⟨line,neg,only,p0,P1,P2,rfl⟩:=hp w rfl;exact aH e1 t1 rfl rfl (aH e2 t2 rfl rfl (aO (bN (v:=.bool false) (aC (ay g1) rfl rfl) rfl rfl)))
theorem tG(D:Nat)(σ:aq)(f:V)(MU nm:List Nat)(dir:Bool)(ps:List (List Nat))(o:Nat→Option V)(of:Option V)(N5:Bool)(hn:a8 [47] MU=nm)(hs:aL 47 nm=ps)(hl:nm.length<65536)(NV:ps.length<1000)(hps0:0<ps.length)(h:∀i∈(Qb (ps.length -1)).map (· +1),LookOk (D+1) σ f (pre ps i++[47]) (pre ps i) true (o i)∧(pre ps i++[47]).length≤65536)(hp:∀v,of=some v→cD v)(hf:∃fl,call (D+1) σ f [.str MU]=some (.list fl,σ)∧call (D+1) σ (.fn 33) [.list fl,.str nm,.bool dir]=some (iH of,σ)∧([47].isSuffixOf MU=true→call (D+1) σ (.fn 35) [.list fl,.str nm]=some (.bool N5,σ))):
 call (D+2) σ (.fn 34) [f,.str MU,.bool dir]=some (ck (BD (((Qb (ps.length -1)).map (· +1)).any λi=>fj (o i)) of ([47].isSuffixOf MU) N5),σ):=by
 refine cps λX_ k_=>?_;subst hn;obtain⟨fl,f1,f2,f3⟩:=hf;refine aQ (Gr D σ σ.length f (.str MU) (.bool dir) (.str (a8 [47] MU)) ps o ((Qb (ps.length -1)).map (· +1)) [] h (.inl rfl)) λMT Ni e=>?_
 have MZ:(ev (call (D+1)) 399).e ⟨σ.length,[]⟩ (Ea f (.str MU) (.bool dir) (.str (a8 [47] MU)) ps []) σ (.call (.g 32) [(.v 27)])=some (.int ((ps.length -1+1:Nat):Int),σ):=by
  have:mB σ 32 [sl ps]=some (.int ps.length):=by refine(?_:some (V.int (ps.map V.str).length)=_);rw[KE]
  rw[show ps.length -1+1=ps.length by exact Qg (nE (sC (aZ [_] (.h 1 (.a aj ai) ab (.g ai ab)) rfl hps0))) (iW _ _)];exact ao rfl rfl rfl (by simp only[dk,this];rfl)
 have MV:=(cK (AJ MZ (aZ [_,_] (.h 1 ab ae (.h 1 (.a ae ai) (.c 1000) (.g (.a ab ai) (.c 100000)))) rfl (Sh _ _) NV))).trans e;have Ou:(ev (call (D+1)) 399).e ⟨σ.length,[]⟩ [(124,f),(115,.str MU),(111,.bool dir),(40,.str (a8 [47] MU))] σ (.m (.v 40) 199 [(.k (.str [47]))])=_:=bD (vs:=[.str [47]]) rfl rfl rfl (by rw[pz hl,hs]);refine k_ ?_
 induction hq:((Qb (ps.length -1)).map (· +1)).any (λi=>fj (o i)) using bC with
 |true=>rw[hq] at MV;exact au rfl rfl rfl rfl (aG rfl (aJ Ou rfl (gF (cq MV))))
 |false=>
  rw[hq] at MV;refine au rfl rfl rfl ((show ∀x,aV σ σ.length 2 _=some _ from λx=>by rcases x with _|_<;>rfl) _) (aG rfl (aJ Ou rfl (aG MV ?_)));rcases Ni with rfl|⟨a1,a2,a3,rfl⟩
  ·exact aJ (ao rfl rfl rfl f1) rfl (aJ (ao rfl rfl rfl f2) rfl (zh D σ _ MU _ fl of N5 hp rfl rfl rfl rfl f3))
  ·exact aJ (ao rfl rfl rfl f1) rfl (aJ (ao rfl rfl rfl f2) rfl (zh D σ _ MU _ fl of N5 hp rfl rfl rfl rfl f3))
theorem vX{ps:List Nat}{body:E}{MX:aF}{args:List V}{v w:V}(hl:(ps.length==args.length&&DD ps)=true)(he:(ev (call d) 400).e ⟨σ.length,[]⟩ (ps.zip args++MX) σ body=some (v,σ))(hf:aV σ σ.length 2 v=some w):call (d+1) σ (.clo ps body MX) args=some (w,σ):=by refine(?_:(if(ps.length==args.length&&DD ps)=true then((ev _ 400).e _ (ps.zip args++MX) σ body).bind _ else none)=_);rw[iP hl,he];refine(?_:(aV σ σ.length 2 v).map _=_);refine hf▸?_;refine QG▸?_;rfl
noncomputable def kZ(n:Nat):V:=.clo [133] (.list [.t [.k (.int 0),.v 6]]) [(6,.o n)]
theorem iK:∀ (fl:List (Nat×Ft)),(∀x∈fl,x.2.n<σ.length)→aV σ σ.length d (.list (fl.map kx))=some (.list (fl.map kx)):=by
 intro fl h
 have key:∀f:Nat→Option V,(∀n,n<σ.length→f n=some (.o n))→∀l:List _,(∀x∈l,x.2.n<σ.length)→aP f (l.map kx)=some (l.map kx):=by
  intro f hf l
  induction l with
  |nil=>intro o_;rfl
  |cons x l ih=>
   intro hl
   have e1:aY f (kx x)=some (kx x):=by refine(?_:(aP f _).map V.t=_);simp only[kj,tJ,hf _ (hl x mS)];rfl
   refine(?_:(aY f _).bind _=_);simp only[e1,ih λy hy=>hl y (mM hy)];rfl
 induction d using Qy with
 |zero=>refine(?_:(aP _ _).map V.list=_);rw[key _ (λn hn=>iP hn) fl h];rfl|succ d=>refine(?_:(aP _ _).map V.list=_);rw[key _ (λn hn=>iP hn) fl h];rfl
theorem Ax(d:Nat)(σ:aq)(f:Ft)(h:f.n<σ.length)(p:V):call (d+1) σ (kZ f.n) [p]=some (.list [kx (0,f)],σ):=
 vX rfl rfl (iK [(0,f)] (by simpa using h))
theorem Cv(σ:aq)(n:Nat)(x:Option Bool):aV σ n 2 (ck x)=some (ck x):=by rcases x with _|_<;>rfl
theorem j5(D:Nat)(σ:aq)(n:Nat)(MU:List Nat)(r:Option Bool)(hd:call (D+2) σ (.fn 34) [kZ n,.str MU,.bool ([47].isSuffixOf MU)]=some (ck r,σ)):call (D+3) σ (.fn 37004) [.o n,.str MU]=some (ck r,σ):=
 au rfl rfl rfl (Cv _ _ _) (aH (w:=.bool false) rfl rfl rfl rfl (aO (ao rfl rfl rfl hd)))
theorem Aj(D:Nat)(σ:aq)(n:Nat)(MU:Ab)(r:Bool)(ha:MU.all (· <128)=true)(hne:MU.isEmpty=false)(hd:call (D+2) σ (.fn 36) [kZ n,.str (MU.map Rm)]=some (.bool r,σ)):call (D+3) σ (.fn 37005) [.o n,.bytes MU]=some (.bool r,σ):=by
 have hdec:fC σ (.bytes MU) 202 []=some (.str (MU.map Rm)):=by refine(?_:(if(202==202&&MU.all _&& !MU.isEmpty)=true then _ else none)=_);rw[ha,hne];rfl
 exact au rfl rfl rfl rfl (jF (w:=.bool true) rfl rfl (cC (aI (bD rfl rfl rfl hdec) rfl aw)) (aO (ao rfl rfl rfl hd)))
noncomputable def iO(ns:List Nat):V:=.inst 140 [(141,.list (ns.map .o))]
noncomputable def Hw:List S:=match vP with|[.for _ _ b,_]=>b|_=>[]
theorem sO(D:Nat)(σ:aq)(b:Nat)(s p:V)(r:Nat→Option Bool):∀ (ns:List Nat) (tl:aF),(∀n∈ns,call D σ (.fn 37004) [.o n,p]=some (ck (r n),σ)∧∃fs,σ[n]?=some (.obj 129 fs)∧aE fs 138=none)→(tl=[]∨∃a c,tl=[(142,a),(143,c)])→
 ∃ρ',eu (cW (ev (call D) 399) ⟨b,[]⟩ (.v 142) Hw) ((6,s)::(115,p)::tl) σ (ns.map .o)=some (match ns.findSome? r with|some v=>.ret (.bool v)|none=>.next,ρ',σ):=by
 intro L_;induction L_ with
 |nil=>intro tl o_ o_;exact⟨_,rfl⟩
 |cons n ns IH_=>
  intro tl h Ni;obtain⟨hc,fs,h1,h2⟩:=h n mS;have hk:da σ (.o n) 138=some (.fnm 37004):=by delta da jX;simp only[h1,h2];rfl
  have ce:(ev (call D) 398).e ⟨b,[]⟩ ((6,s)::(115,p)::[(142,.o n),(143,ck (r n))]) σ (.p (.v 143) [.isNot] [(.k .none)])=some (.bool (r n).isSome,σ):=by rcases r n with _|_<;>exact aC rfl rfl rfl
  have go:ba (ev (call D) 398) ⟨b,[]⟩ ((6,s)::(115,p)::[(142,.o n),(143,ck (r n))]) σ [.ite (.p (.v 143) [.isNot] [(.k .none)]) [.ret (.v 143)] []] (match r n with|some v=>.ret (.bool v)|none=>.next) ((6,s)::(115,p)::[(142,.o n),(143,ck (r n))]) σ:=by
   induction hq:r n using oA with
   |none=>rw[hq] at ce;exact aR ce rfl rfl aw|some v=>rw[hq] at ce;exact ig ce rfl rfl
  have body:cW (ev (call D) 399) ⟨b,[]⟩ (.v 142) Hw ((6,s)::(115,p)::tl) σ (.o n)=some (match r n with|some v=>.ret (.bool v)|none=>.next,(6,s)::(115,p)::[(142,.o n),(143,ck (r n))],σ):=by rcases Ni with rfl|⟨a,c,rfl⟩<;>exact aI (aS rfl hk rfl hc) rfl go
  refine Qf▸?_;refine Rh▸?_
  induction hq:r n using oA with
  |some v=>rw[hq] at body;exact⟨_,iV body⟩|none=>rw[hq] at body;obtain⟨ρ',ih⟩:=IH_ _ (λm hm=>h m (mM hm)) (.inr ⟨_,_,rfl⟩);exact⟨ρ',(c8 body).trans ih⟩
theorem nN(D:Nat)(σ:aq)(p:V)(r:Nat→Option Bool)(ns:List Nat)(h:∀n∈ns,call D σ (.fn 37004) [.o n,p]=some (ck (r n),σ)∧∃fs,σ[n]?=some (.obj 129 fs)∧aE fs 138=none):call (D+1) σ (.fn 38001) [iO ns,p]=some (ck (ns.findSome? r),σ):=by
 refine ek (sO D σ σ.length (iO ns) p r ns [] h (.inl rfl)) λρ' e=>?_;have MV:=(cK (r:=ev (call D) 399) (ρ:=[(6,iO ns),(115,p)]) (it:=.attr (.v 6) 141) rfl).trans e
 induction hq:ns.findSome? r using oA with
 |some v=>rw[hq] at MV;exact au rfl rfl rfl rfl (gF (cq MV))|none=>rw[hq] at MV;exact au rfl rfl rfl rfl (aG MV (aO rfl))
theorem yY(ns:List Nat)(h:∀n∈ns,n<N):aV σ N d (.list (ns.map .o))=some (.list (ns.map .o)):=by
 have key:∀f:Nat→Option V,(∀n,n<N→f n=some (.o n))→∀l:List Nat,(∀x∈l,x<N)→aP f (l.map .o)=some (l.map .o):=by
  intro f hf l
  induction l with
  |nil=>intro o_;rfl|cons x l ih=>intro hl;refine(?_:(f x).bind _=_);simp only[hf x (hl x mS),ih λy hy=>hl y (mM hy)];rfl
 induction d using Qy with
 |zero=>refine(?_:(aP _ _).map V.list=_);rw[key _ (λn hn=>iP hn) ns h];rfl|succ d=>refine(?_:(aP _ _).map V.list=_);rw[key _ (λn hn=>iP hn) ns h];rfl
theorem s9:∀ (ns:List Nat),(∀n∈ns,n<N)→below N (.list (ns.map .o))=true:=by
 intro L_;induction L_ with
 |nil=>intro o_;exact rfl|cons n ns IH_=>intro h;refine(?_:(decide (n<N)&&below N (.list _))=_);simp only[decide_eq_true (h n mS),IH_ λm hm=>h m (mM hm)];rfl
theorem wr(d:Nat)(σ:aq)(ns:List Nat)(h:∀n∈ns,n<σ.length):call (d+1) σ (.cls 140) [.list (ns.map .o)]=some (iO ns,σ):=by
 refine gS (σ':=σ++[.obj 140 [(141,.list (ns.map .o))]]) rfl rfl rfl rfl rfl rfl
  (cx nR rfl rfl rfl (s9 ns λn hn=>UI (h n hn)) aw) ?_ iM
 refine iL ?_;simp only[RK,yY ns h];rfl
theorem ww{v:V}(h:cD v)(n:Nat):below n v=true:=by obtain⟨line,neg,only,p0,P1,P2,rfl⟩:=h;refine(?_:(true&&(true&&(true&&(true&&(true&&(below n (cY false P1)&&(below n (cY false P2)&&(true&&true))))))))=_);rw[jp,jp];rfl
theorem md(D:Nat)(σ:aq)(f:Ft)(line:Ab)(v:V)(hf:dJ σ f)(hv:cD v)(hl:f.pats.length<65536)(hc:call D σ (.cls 100) [.bytes line,.bool false]=some (v,σ)):
 call (D+1) σ (.fn 37001) [.o f.n,.bytes line]=some (.none,σ.set f.m (.list (f.pats++[v]))):=by
 have hk:da σ (.o f.m) 195=some (.app f.m):=by delta da jX;simp only[hf.2];rfl
 have happ:(ev (call D) 399).e ⟨σ.length,[]⟩ [(6,.o f.n),(69,.bytes line),(135,v)] σ (.m (.attr (.v 6) 131) 195 [(.v 135)])=some (.none,σ.set f.m (.list (f.pats++[v]))):=by rw[bY,mw,dY rfl (mL hf.1 rfl rfl rfl),P8,xW,hk,P8,BK,show bg (ev (call D) 398) ⟨σ.length,[]⟩ [(6,.o f.n),(69,.bytes line),(135,v)] σ [.v 135]=some ([v],σ) from rfl,P8];refine(?_:so (ev (call D) 398) _ σ (.o f.m) 195 (.app f.m) [v]=_);delta so;simp only[hf.2,ww hv,hl,S8,RW,decide_true,if_true]
 have hr:ba (ev _ 399) _ [(6,.o f.n),(69,.bytes line)] σ u0 .next _ _:=
  az (cC (aI (ao rfl rfl (am rfl (am (dY rfl (mL hf.1 rfl rfl rfl)) rfl)) hc) rfl aw)) (el happ aw)
 rw[qh (ρ:=[(6,.o f.n),(69,.bytes line)]) rfl rfl rfl,hr];refine(?_:some (V.none,(σ.set f.m _).take σ.length)=_);rw[Qn (by rw[UQ];exact nR)]
noncomputable def tN:List S:=match kN with|[_,_,_,.for _ _ b]=>b|_=>[]
noncomputable def cb(m:Nat):Cell:=.obj 129 [(131,.o m),(132,.bool false),(133,.none)]
theorem lX{α:Type}{l:List α}:cut l none (some (-1))=l.dropLast:=by refine(?_:(l.take (max 0 (min (if(-1:Int)<0 then -1+(l.length:Int) else -1) l.length)).toNat).drop 0=_);rw[iP (by decide),R7,Td];congr 1;omega
theorem uy(n:Nat):∀a b:BL,Bl (G3 σ (n+1)) (a.map .bytes) (b.map .bytes)=some (a==b)
 |[],[]=>rfl|[],_::_=>rfl|_::_,[]=>rfl|x::a,y::b=>by refine(?_:(some _).bind _=_);simp only[P8];simp only[uy n a b];rfl
theorem Hz(a b:BL):iI σ .eq (bl a) (bl b)=some (a==b):=by
 refine(?_:(if((a.map V.bytes).length==(b.map V.bytes).length)=true then Bl _ _ _ else some false)=_);simp only[uy 2];split
 ·rfl
 ·rename_i h
  induction h2:(a==b) using bC with
  |false=>rfl|true=>exact absurd (by rw[bA h2];exact beq_self_eq_true _) h
theorem xY{α:Type}{mk:α→V}{g:α→List V}{P:aF→Prop}(hg:∀x,(g x).length≤1){c:Cx}{N4:aF}{x y:E}{xs ys:List V}{l:List α}(NI:ga elt=false)(hs:dB it= .zip x y)(hx:(ev cl n).e c ρ σ x=some (.list xs,σ))(hy:(ev cl n).e c ρ σ y=some (.list ys,σ))(hl:(xs.length==ys.length)=true)(hz:(xs.zip ys).map (λy=>V.t [y.1,y.2])=l.map mk)(hr:bB ρ frees=N4)(p:P N4)(h:cU (bG (ev cl n) ⟨c.b,[]⟩ elt (.t ts) M5 []) P σ mk g l)(hn:l.length<65536):(ev cl (n+1)).e c ρ σ (.comp elt [.mk (.t ts) it M5] frees)=some (.list (l.flatMap g),σ):=by
 refine aQ (f9 hg l [] N4 h p (by simpa using hn)) λρ' o_ h2=>?_
 have OV:ms (ev cl n) c ρ σ it (gq (.t ts))=some (.items (l.map mk),σ):=by delta ms;refine hs▸?_;refine(?_:(if gq _=true then _ else none)=_);rw[iP (show gq _=true from rfl),hx,P8];refine(?_:((ev cl n).e c ρ σ y).bind _=_);rw[hy,P8];refine(?_:(if(xs.length==ys.length)=true then some _ else none)=_);rw[iP hl,hz]
 simp only[bY,fP,OV,P8,lS,hr];refine(?_:Q2 ((l.map mk).foldlM _ _) _=_);simp only[h2];exact gy NI
noncomputable def ik(homes:List BL)(fts:List Ft)(ps:BL):List (Nat×Ft):=((homes.zip fts).filter λx=>ps.dropLast.take x.1.length==x.1).map λx=>(x.1.length,x.2)
noncomputable abbrev bp(homes:List BL):V:=.list (homes.map bl)
noncomputable abbrev rf(fts:List Ft):V:=.list (fts.map λf=>.o f.n)
theorem wy(d:Nat)(σ:aq)(homes:List BL)(fts:List Ft)(MU nm:List Nat)(ps:BL)(hn:a8 [47] MU=nm)(ha:nm.all (· <128)=true)(hs:aL 47 (r7 nm)=ps)(hl:nm.length<60000)(MZ:homes.length=fts.length)(Na:∀f∈fts,f.n<σ.length)(h4:homes.length<60000):
 call (d+2) σ (.fn 48) [bp homes,rf fts,.str MU]=some (.list ((ik homes fts ps).map kx),σ):=by
 subst hn
 have MY:cU (bG (ev (call (d+1)) 398) ⟨σ.length,[]⟩ (.t [(.call (.g 32) [(.v 148)]),(.v 176)]) (.t [(.v 148),(.v 176)]) [(.p (.l (.v 175) none (some (.call (.g 32) [(.v 148)]))) [.eq] [(.v 148)])] [])
  (λρ=>ρ=[(175,bl ps.dropLast)]∨∃a b,ρ=[(175,bl ps.dropLast),(148,a),(176,b)]) σ (λy=>V.t [bl y.1,.o y.2.n]) (λy=>if ps.dropLast.take y.1.length==y.1 then[kx (y.1.length,y.2)] else[]) (homes.zip fts):=by
  intro y hy MQ ρ M3 hacc;refine a7 ([(175,bl ps.dropLast),(148,bl y.1),(176,.o y.2.n)]) (.inr ⟨_,_,rfl⟩) ?_
  have e1:∀n,(ev (call (d+1)) (n+2)).e ⟨σ.length,[]⟩ [(175,bl ps.dropLast),(148,bl y.1),(176,.o y.2.n)] σ (.call (.g 32) [(.v 148)])=_:=λn=>ao rfl rfl rfl (by simp only[dk,o5];rfl)
  have NL:(ev (call (d+1)) 397).e ⟨σ.length,[]⟩ [(175,bl ps.dropLast),(148,bl y.1),(176,.o y.2.n)] σ (.l (.v 175) none (some (.call (.g 32) [(.v 148)])))=_:=
   aK rfl rfl (by simp only[fR,e1 394];rfl) xN
  refine iu (u:=.bool (ps.dropLast.take y.1.length==y.1)) (by rcases M3 with rfl|⟨a,b,rfl⟩<;>rfl) (aC NL rfl (Hz _ _)) rfl (λo_=>?_) hacc;rw[bY,kt (by decide),am (e1 395) rfl];rfl
 have hc:=xY (λy=>by split<;>simp)
  (c:=⟨σ.length,[]⟩) (ρ:=[(173,bp homes),(119,rf fts),(115,.str MU),(175,bl ps.dropLast)]) (it:=.call (.g 174) [.v 173,.v 119]) (frees:=[175]) rfl rfl rfl rfl
  (by simp[MZ]) (by simp only[List.zip_map,Qk];rfl) rfl (.inl rfl) MY (by rw[TL];exact aZ [_,_] (.h 1 ab ae (.h 1 (.a ae ai) (.c 60000) (.g (.a ab ai) (.c 65536)))) rfl (R2 _ _) h4)
 rw[eg] at hc;have hm:((homes.zip fts).filter λx=>ps.dropLast.take x.1.length==x.1).map (λy=>kx (y.1.length,y.2))=(ik homes fts ps).map kx:=by delta ik;simp only[Qk];rfl
 rw[hm] at hc
 have OJ:aV σ σ.length 2 (.list ((ik homes fts ps).map kx))=_:=iK _ λx hx=>by refine jz hx λy hy z1=>?_;subst z1;exact Na _ (US (Qu.mp hy).1).2
 have e1:(ev (call (d+1)) 398).e ⟨σ.length,[]⟩ [(173,bp homes),(119,rf fts),(115,.str MU)] σ (.m (.m (.m (.v 115) 198 [(.k (.str [47]))]) 203 []) 199 [(.k (.bytes [47]))])=some (bl ps,σ):=by
  refine bD (ov:=.bytes (r7 (a8 [47] MU))) (vs:=[.bytes [47]]) (bD rfl rfl rfl ?_) rfl rfl ?_
  ·refine(?_:(if(203==203&&(a8 [47] MU).all _)=true then _ else none)=_);rw[ha];rfl
  ·rw[u6 (by delta r7;rw[KE];exact cj hl rfl),hs]
 have e2:(ev (call (d+1)) 399).e ⟨σ.length,[]⟩ [(173,bp homes),(119,rf fts),(115,.str MU)] σ (.l (.m (.m (.m (.v 115) 198 [(.k (.str [47]))]) 203 []) 199 [(.k (.bytes [47]))]) none (some (.neg (.k (.int 1)))))=some (bl ps.dropLast,σ):=by
  refine aK (ov:=bl ps) ?_ rfl rfl ?_
  ·exact e1
  ·refine(?_:some (V.list _)=_);rw[kW,lX]
 exact au rfl rfl rfl OJ (aJ e2 rfl (aO hc))
noncomputable def yj(homes:List BL)(fts:List Ft):V:=.clo [115] (.call (.g 172) [(.v 173),(.v 119),(.v 115)]) [(119,rf fts),(173,bp homes)]
theorem zD(d:Nat)(σ:aq)(homes:List BL)(fts:List Ft)(MU nm:List Nat)(ps:BL)(hn:a8 [47] MU=nm)(ha:nm.all (· <128)=true)(hs:aL 47 (r7 nm)=ps)(hl:nm.length<60000)(MZ:homes.length=fts.length)(Na:∀f∈fts,f.n<σ.length)(h4:homes.length<60000):
 call (d+3) σ (yj homes fts) [.str MU]=some (.list ((ik homes fts ps).map kx),σ):=
 vX rfl (ao rfl rfl rfl (wy d σ homes fts MU nm ps hn ha hs hl MZ Na h4)) (iK _ λx hx=>by refine jz hx λy hy z2=>?_;subst z2;exact Na _ (US (Qu.mp hy).1).2)
section
variable {r:Ev} {c:Cx} {ρ:aF} {σ σ1:aq} {e:E}
theorem eV{v:V}{t:Bool}(h:(ev cl n).e c ρ σ e=some (v,σ1))(ht:aN σ1 v=some t):(ev cl (n+1)).e c ρ σ (.not e)=some (.bool (!t),σ1):=by simp only[bY,H3,h,P8,Hq,ht];rfl
end
theorem get_set{w:V}:aE (bT ρ x w) x=some w:=by
 induction ρ with
 |nil=>simp[Fo,aE]
 |cons y ρ ih=>
  obtain⟨y,u⟩:=y
  induction h:(y==x) using bC with
  |true=>rw[bA h,vS,k9]|false=>rw[jf h,fA (by simp only[←h];exact Tr),ih]
theorem bM{y:Nat}{w:V}(h:(x==y)=false):aE (bT ρ y w) x=aE ρ x:=by
 induction ρ with
 |nil=>simp only[CK,fA h]
 |cons z ρ ih=>
  obtain⟨z,u⟩:=z
  induction h2:(z==y) using bC with
  |true=>rw[bA h2,vS,fA h,fA h]
  |false=>
   rw[jf h2]
   induction h3:(x==z) using bC with
   |true=>simp only[bA h3,k9]|false=>simp only[fA h3,ih]
noncomputable def fp(parts:BL)(slash:Bool)(rs:List Rl):Option Bool:=mY rs (cm rs parts slash) parts slash
noncomputable def Jk:List S:=match Gq with|[_,_,.for _ _ b,_,_,_,_]=>b|_=>[]
noncomputable abbrev FK(fl rl:V)(parts:BL)(text:List Nat)(slash:Bool)(st:V)(due:Option Bool)(tl:aF):aF:=(119,fl)::(162,rl)::(27,bl parts)::(7,.str text)::(168,.bool slash)::(178,st)::(171,ck due)::tl
theorem rq{rs:List Rl}{f:Bool}(h:ps≠[]):cm rs ps f≠[]:=by
 delta cm
 induction ps using lC with
 |nil=>exact absurd rfl h|cons a l=>simp
theorem Ff(D:Nat)(σ:aq)(b:Nat)(fl rl st:V)(parts:BL)(text:List Nat)(slash:Bool)(hp:PsOk parts)(hne:parts≠[])(hl:parts.length<30000):∀ (rs:List (List Rl)) (due:Option Bool) (tl:aF),(∀r∈rs,RsOk r)→(tl=[]∨∃v,tl=[(179,v)])→
 ∃MT,(MT=[]∨∃v,MT=[(179,v)])∧eu (cW (ev (call (D+24)) 399) ⟨b,[]⟩ (.v 179) Jk) (FK fl rl parts text slash st due tl) σ (rs.map ej)=some (.next,FK fl rl parts text slash st (due <|> rs.findSome? (fp parts slash)) MT,σ):=by
 intro L_;induction L_ with
 |nil=>intro due tl o_ h;exact⟨tl,h,by induction due using oA<;>rfl⟩
 |cons r rs IH_=>
  intro due tl h Ni
  have go:∀MT,(MT=[]∨∃v,MT=[(179,v)])→cW (ev (call (D+24)) 399) ⟨b,[]⟩ (.v 179) Jk (FK fl rl parts text slash st due MT) σ (ej r)=some (.next,FK fl rl parts text slash st (due <|> fp parts slash r) [(179,ej r)],σ):=by
   intro MT htl'
   have k:ba (ev (call (D+24)) 398) ⟨b,[]⟩ (FK fl rl parts text slash st due [(179,ej r)]) σ Jk .next (FK fl rl parts text slash st (due <|> fp parts slash r) [(179,ej r)]) σ:=by
    induction due using oA with
    |some x=>exact aR (aC rfl rfl rfl) rfl rfl aw|none=>refine ec (aC rfl rfl rfl) rfl (cC (aI (v:=ck (fp parts slash r)) (ao rfl rfl ?_ (rn r (cm r parts slash) parts slash σ D (rq hne) (h r mS) hp hl)) rfl aw)) aw;exact am rfl (am (ao rfl rfl rfl (ly r parts slash σ D (h r mS) hp)) rfl)
   rcases htl' with rfl|⟨v,rfl⟩<;>exact k
  refine aQ (IH_ (due <|> fp parts slash r) [(179,ej r)] (λx hx=>h x (mM hx)) (.inr ⟨_,rfl⟩)) λMT h' ih=>⟨MT,h',?_⟩;rw[Qf,c8 (go tl Ni),ih,Rh]
  induction due using oA with
  |some x=>rfl|none=>cases fp parts slash r<;>rfl
theorem GF(x:Option Bool):iI σ .eq (eB x) (.str [111,117,116])=some (x==some false):=by rcases x with _|_|_<;>rfl
set_option maxHeartbeats 2000000 in
theorem rB(D:Nat)(σ:aq)(n0:Nat)(Nv:List Rl)(fr:List (Nat×List Rl))(parts:BL)(p0:Ab)(text:List Nat)(slash:Bool)(r1 r2:Nat→Option Bool)(hp:PsOk parts)(hp0:parts.head?=some p0)(hl:parts.length<30000)(ht:text.length<60000)(OG:p0.length<60000)(hr:∀x∈(n0,Nv)::fr,RsOk x.2∧r1 x.1=fp parts slash x.2∧x.1<σ.length∧(∃fs,σ[x.1]?=some (.obj 129 fs)∧aE fs 138=none∧aE fs 139=none)∧
  call (D+23) σ (.fn 37004) [.o x.1,.str (text++if slash then[47] else[])]=some (ck (r1 x.1),σ)∧call (D+23) σ (.fn 37004) [.o x.1,.str (text++[47,98])]=some (ck (r2 x.1),σ))(hf:call (D+24) σ (.fn 37005) [.o n0,.bytes (p0++[47])]=some (.bool (a9 Nv (parts.take 1) true==some false),σ))(h2:a9 Nv (parts.take 1) true=some false→(((n0,Nv)::fr).map Rg).findSome? r2=some true):
 call (D+25) σ (.fn 49) [.list (((n0,Nv)::fr).map λx=>.o x.1),.list (((n0,Nv)::fr).map λx=>ej x.2),bl parts,.str text,.bool slash]=some (.bool true,σ):=by
 generalize hL:(n0,Nv)::fr=L at*;have hne:parts≠[]:=by rintro rfl;cases hp0
 have PN:V.list (L.map λx=>.o x.1)= .list ((L.map Rg).map .o):=by rw[Qk];rfl
 have hrl:V.list (L.map λx=>ej x.2)= .list ((L.map Sj).map ej):=by rw[Qk];rfl
 simp only[PN,hrl];have PC:∀n∈L.map Rg,n<σ.length:=λn hn=>by refine jz hn λx hx z1=>?_;subst z1;exact(hr x hx).2.2.1
 have s0:=wr (D+23) σ (L.map Rg) PC;obtain⟨tl,Ni,lp⟩:=Ff D σ σ.length (.list ((L.map Rg).map .o)) (.list ((L.map Sj).map ej)) (iO (L.map Rg)) parts text slash hp hne hl (L.map Sj) none [] (λr OW=>by refine jz OW λx hx z5=>?_;subst z5;exact(hr x hx).1) (.inl rfl)
 have hdue:(L.map Sj).findSome? (fp parts slash)=(L.map Rg).findSome? r1:=by
  simp only[List.findSome?_map];clear lp PC s0 h2 hf PN hrl hL
  induction L with
  |nil=>rfl|cons x L ih=>simp only[Rh,ih λy hy=>hr y (mM hy),Function.comp,(hr x mS).2.1]
 have st1:=nN (D+23) σ (.str (text++if slash then[47] else[])) r1 (L.map Rg) λn hn=>by obtain⟨x,hx,rfl⟩:=Su.mp hn;refine Lx (hr x hx) λo_ o_ o_ z3 q3 o_=>?_;obtain⟨fs,q1,q2,_⟩:=z3;exact⟨q3,fs,q1,q2⟩
 have st2:=nN (D+23) σ (.str (text++[47,98])) r2 (L.map Rg) λn hn=>by refine jz hn λx hx z2=>?_;subst z2;refine Lx (hr x hx) λo_ o_ o_ z1 o_ q4=>?_;obtain⟨fs,q1,q2,_⟩:=z1;exact⟨q4,fs,q1,q2⟩
 have h0:=(hr (n0,Nv) (hL▸mS)).2.2.2.1.choose_spec.1;have h0':=(hr (n0,Nv) (hL▸mS)).2.2.2.1.choose_spec.2.2;generalize (hr (n0,Nv) (hL▸mS)).2.2.2.1.choose=fs0 at h0 h0';have hk:da σ (.o n0) 139=some (.fnm 37005):=by delta da jX;simp only[h0,h0'];rfl
 simp only[hdue] at lp
 have fin:∀ρ:aF,ρ=FK (.list ((L.map Rg).map .o)) (.list ((L.map Sj).map ej)) parts text slash (iO (L.map Rg)) ((L.map Rg).findSome? r1) tl→(tl=[]∨∃v,tl=[(179,v)])→fu (ev (call (D+24)) 399) ⟨σ.length,[]⟩ ρ σ (Gq.drop 3) (.bool true) σ:=by
  intro ρ M3 Ni;have g1:aE ρ 178=some (iO (L.map Rg)):=by rw[M3];rfl
  have g2:aE ρ 7=some (.str text):=by rw[M3];rfl
  have g3:aE ρ 168=some (.bool slash):=by rw[M3];rfl
  have g4:aE ρ 171=some (ck ((L.map Rg).findSome? r1)):=by rw[M3];rfl
  have g5:aE ρ 162=some (.list ((L.map Sj).map ej)):=by rw[M3];rfl
  have g6:aE ρ 27=some (bl parts):=by rw[M3];rfl
  have g7:aE ρ 119=some (.list ((L.map Rg).map .o)):=by rw[M3];rfl
  have a1:(ev (call (D+24)) 396).e ⟨σ.length,[]⟩ ρ σ (.bin .add (.v 7) (.ite (.v 168) (.k (.str [47])) (.k (.str []))))=some (.str (text++if slash then[47] else[]),σ):=by
   cases slash with
   |true=>exact aX (ay g2) (bV (ay g3) rfl rfl) (oE (by simp;exact GT ht rfl))|false=>exact aX (ay g2) (bN (ay g3) rfl rfl) (oE (by simp;exact GT ht rfl))
  have sm:∀ _,call _ σ _ _=_:=λa=>by rw[rY (D+22) σ a a,show(a==a)=true from beq_self_eq_true _]
  have q1:(ev (call (D+24)) 399).e ⟨σ.length,[]⟩ ρ σ (.not (.call (.g 169) [(.m (.v 178) 138 [_]),(.v 171)]))=some (.bool false,σ):=
   eV (t:=true) (ao rfl rfl (am (aS (ay g1) rfl (am a1 rfl) st1) (am (ay g4) rfl)) (sm _)) rfl
  have a3:(ev (call (D+24)) 399).e ⟨σ.length,[]⟩ ρ σ (.p (.call (.g 161) [(.sub (.v 162) (.k (.int 0))),(.l (.v 27) none (some (.k (.int 1)))),(.k (.bool true))]) [.eq] [(.k (.str [111,117,116]))])=some (.bool (a9 Nv (parts.take 1) true==some false),σ):=by refine aC (ao rfl rfl ?_ (jU Nv (parts.take 1) true σ (D+1) (hr (n0,Nv) (hL▸mS)).1 (hp.take 1))) rfl (GF _);exact am (aU (ay g5) rfl (by refine hL▸?_;rfl)) (am (aK (ay g6) rfl rfl xN) (am rfl rfl))
  refine aH q1 rfl rfl rfl (aJ a3 rfl ?_);have G1:=(bM (w:=.bool (a9 Nv (parts.take 1) true==some false)) (y:=76) rfl).trans g1;have G2:=(bM (w:=.bool (a9 Nv (parts.take 1) true==some false)) (y:=76) rfl).trans g2;have G6:=(bM (w:=.bool (a9 Nv (parts.take 1) true==some false)) (y:=76) rfl).trans g6;have G7:=(bM (w:=.bool (a9 Nv (parts.take 1) true==some false)) (y:=76) rfl).trans g7;have Gf:=get_set (ρ:=ρ) (x:=76) (w:=.bool (a9 Nv (parts.take 1) true==some false));generalize bT ρ 76 (.bool (a9 Nv (parts.take 1) true==some false))=ρ2 at G1 G2 G6 G7 Gf
  have b1:(ev (call (D+24)) 397).e ⟨σ.length,[]⟩ ρ2 σ (.m (.sub (.v 119) (.k (.int 0))) 139 [(.bin .add (.sub (.v 27) (.k (.int 0))) (.k (.bytes [47])))])=some (ck (some (a9 Nv (parts.take 1) true==some false)),σ):=by
   refine aS (aU (ay G7) rfl (by refine hL▸?_;rfl)) hk (am (aX (x:=.bytes p0) (aU (ay G6) rfl ?_) rfl ?_) rfl) hf
   ·cases parts with|nil=>cases hp0|cons a l=>obtain rfl:=sJ hp0;rfl
   ·refine(?_:RM (if(p0++[47]).length≤65536 then _ else none) _=_);rw[iP (by simp;exact GT OG rfl)];rfl
  refine aH (w:=.bool false) (eV (t:=true) (ao rfl rfl (am b1 (am (ay Gf) rfl)) (sm _)) rfl) rfl rfl rfl (aO ?_);have c1:(ev (call (D+24)) 397).e ⟨σ.length,[]⟩ ρ2 σ (.m (.v 178) 138 [(.bin .add (.v 7) (.k (.str [47,98])))])=_:=aS (ay G1) rfl (am (aX (ay G2) rfl (oE (by simp;exact GT ht rfl))) rfl) st2;cases hx:(a9 Nv (parts.take 1) true==some false) with
  |false=>rw[hx] at Gf;exact av (oX (eV (ay Gf) rfl) rfl)|true=>rw[h2 (bA hx)] at c1;rw[hx] at Gf;exact av (o8 (v:=.bool false) (eV (ay Gf) rfl) rfl (cw (ao rfl rfl (am c1 (am rfl rfl)) (sm (some true)))))
 have lpe:br _ _ _ σ (.for _ (.v 162) Jk)=_:=
  (cK (i:=.items ((L.map Sj).map ej)) rfl).trans lp
 exact au rfl rfl rfl rfl (aJ (ao rfl rfl rfl s0) rfl (aG rfl (aG lpe (fin _ rfl Ni))))
noncomputable abbrev eZ:Cx:=⟨0,[119,173]⟩
structure Made where
 nums:List Nat
 ask:Nat
 many:Nat
 leaf:Nat
 kind:Nat
 one:Nat
 two:Nat
 turn:Nat
 rows:List Row
variable {m:Made}
structure MadeOk(m:Made):Prop where
 many:m.many<2
 leaf:m.leaf<3
 kind:m.kind<4
 one:m.one<3
 two:m.two<3
 turn:m.turn<2
 ask:m.ask<1000000000
 len:m.rows.length≤4
 rows:∀r∈m.rows,RowOk r
noncomputable def Made.fold(m:Made):BL:=[pk m.one,pk m.two].take (m.many+1)
noncomputable def Made.parts(m:Made):BL:=m.fold++[pk m.leaf]
noncomputable def strN(b:List UInt8):List Nat:=b.map Rm
noncomputable def Made.asked(m:Made):List Nat:=strN (aB [47] m.fold)
noncomputable def Made.text(m:Made):List Nat:=strN (aB [47] m.parts)
noncomputable abbrev Made.ρ1(m:Made)(sc:V)(tl:aF):aF:=(181,sc)::(182,.list (aM m.nums))::(183,.int m.ask)::(47,.int m.many)::(184,.int m.leaf)::(28,.int m.kind)::(38,.int m.one)::(185,.int m.two)::(152,.int m.turn)::
 (186,.list (m.rows.map Row.toV))::(187,bl m.fold)::(27,bl m.parts)::(7,.str m.text)::(188,.str m.asked)::tl
theorem qo(d:Nat)(MR:List Int):∃ (init:List Nat) (p:Nat),init.length≤4∧(∀n∈init++[p],n<1000000000)∧(ev (call (d+1)) 399).e eZ [(181,.list (MR.map .int))] [] (.ite (.v 181) (.comp (.bin .mod (.v 146) (.k (.int 1000000000))) [(.mk (.v 146) (.l (.v 181) none (some (.k (.int 5)))) [])] []) (.list [(.k (.int 0))]))=
 some (.list (aM (init++[p])),[]):=by
 induction MR using lC with
 |nil=>exact i6 ([]) 0 (by decide) (by simp) rfl
 |cons s0 MR=>
  have MY:cU (bG (ev (call (d+1)) 397) ⟨0,[]⟩ (.bin .mod (.v 146) (.k (.int 1000000000))) (.v 146) [] []) (λρ=>ρ=[]∨∃v,ρ=[(146,v)]) [] V.int (λi=>[V.int (i % 1000000000)]) ((s0::MR).take 5):=by intro i o_ MQ ρ M3 ha;refine a7 ([(146,.int i)]) (.inr ⟨_,rfl⟩) ?_;exact eC (by rcases M3 with rfl|⟨v,rfl⟩<;>rfl) rfl ha
  have hc:=cV (λx=>by simp) (c:=eZ) (ρ:=[(181,.list ((s0::MR).map .int))]) (it:=.l (.v 181) none (some (.k (.int 5)))) (frees:=[]) rfl rfl
   (aK rfl rfl (hv:=some (.int ((5:Nat):Int))) rfl (by refine(?_:some (V.list _)=_);rw[lQ,←SJ])) rfl rfl (.inl rfl) MY (by rw[Ql];exact kJ (R2 _ _) rfl)
  rw[dj] at hc
  have hv:((s0::MR).take 5).map (λi=>V.int (i % 1000000000))=aM (((s0::MR).take 5).map λi=>(i % 1000000000).toNat):=by delta aM;simp only[Qk];apply Sr;intro i o_;congr 1;lia
  rw[hv] at hc
  have Na:∀n∈((s0::MR).take 5).map (λi=>(i % 1000000000).toNat),n<1000000000:=λn hn=>by refine jz hn λi o_ z1=>?_;subst z1;lia
  have MZ:(((s0::MR).take 5).map λi=>(i % 1000000000).toNat).length≤5:=by simp only[KE,Ql];exact(R2 _ _)
  rcases QR (((s0::MR).take 5).map λi=>(i % 1000000000).toNat) with h|⟨init,p,h⟩
  ·simp at h
  ·simp only[QS] at h;rw[h] at hc Na MZ;exact i6 init p (by simp at MZ;exact MZ) Na (bV rfl rfl hc)
theorem AC(d:Nat)(nums:List Nat)(k:Nat)(hk:k<5)(hn:∀n∈nums,n<1000000000)(ρ:aF)(h1:aE ρ 182=some (.list (aM nums)))(h2:aE ρ 47=some (.int k)):∃rows:List Row,rows.length≤3+k∧(∀r∈rows,RowOk r)∧
 (ev (call (d+3)) 399).e eZ ρ [] (.comp (.call (.g 145) [(.v 146)]) [(.mk (.v 146) (.l (.v 182) none (some (.bin .add (.k (.int 3)) (.v 47)))) [])] [])=some (.list (rows.map Row.toV),[]):=by
 have hex:∀n:Nat,∃r:Row,n<1000000000→RowOk r∧call _ [] _ _=_:=λn=>by
  by_cases h:n<1000000000
  ·refine aQ (Bj d [] n h) λr a b=>?_;exact⟨r,λo_=>⟨a,b⟩⟩
  ·exact⟨⟨0,0,0,0,[]⟩,λq=>absurd q h⟩
 have MY:cU (bG (ev (call (d+3)) 398) ⟨0,[]⟩ (.call (.g 145) [(.v 146)]) (.v 146) [] []) (λρ=>ρ=[]∨∃v,ρ=[(146,v)]) [] (λ(n:Nat)=>V.int n) (λn=>[(hex n).choose.toV]) (nums.take (3+k)):=by intro n hm MQ ρ M3 ha;refine a7 ([(146,.int n)]) (.inr ⟨_,rfl⟩) ?_;exact eC (by rcases M3 with rfl|⟨v,rfl⟩<;>rfl) (ao rfl rfl rfl ((hex n).choose_spec (hn n (QY hm))).2) ha
 have hc:=cV (λx=>by simp) (c:=eZ) (it:=.l (.v 182) none (some (.bin .add (.k (.int 3)) (.v 47)))) (frees:=[]) (pv:=.list (aM (nums.take (3+k)))) rfl rfl
  (aK (ay h1) rfl (by rw[fR,aX (v:=.int ((3+k:Nat):Int)) rfl (ay h2) (by congr 1)];rfl) (by refine(?_:some (V.list _)=_);rw[lQ];exact SJ▸rfl)) rfl rfl (.inl rfl) MY (by rw[Ql];exact aZ [_,_] (.h 1 ab (.a (.c 3) ae) (.h 1 (.a ae ai) (.c 5) (.g (.a ab ai) (.c 65536)))) rfl (R2 _ _) hk)
 rw[dj] at hc;refine sx ((nums.take (3+k)).map λn=>(hex n).choose) (by simp only[KE,Ql];exact(R2 _ _)) (λr hr=>?_) ?_
 ·refine jz hr λn hm z2=>?_;subst z2;exact((hex n).choose_spec (hn n (QY hm))).1
 ·rw[Qk];exact hc
theorem C4(σ:aq)(h:n<8):fJ σ (bl b8) (.int (n:Int))=some (.bytes (pk n)):=by have:=sM σ n;rw[Nat.mod_eq_of_lt h] at this;exact this
theorem j9(h:n<3):(pk n).all (· <128)=true∧(pk n).length≤2∧pk n≠[]∧47∉pk n:=by rcases JA h with rfl|rfl|rfl<;>decide
theorem Made.fold_eq(h:MadeOk m):m.fold=[pk m.one]∨m.fold=[pk m.one,pk m.two]:=by delta Made.fold;exact(Ls h.many).imp (λe=>by rw[e];rfl) λe=>by rw[e];rfl
theorem zn(σ:aq){l:BL}(h:l=[pk 0]∨True)(ha:(aB [47] l).all (· <128)=true)(hne:aB [47] l≠[]):fC σ (.bytes (aB [47] l)) 202 []=some (.str (strN (aB [47] l))):=by
 refine(?_:(if(202==202&&(aB [47] l).all _&& !(aB [47] l).isEmpty)=true then _ else none)=_);rw[ha]
 induction hj:aB [47] l using lC with
 |nil=>exact absurd hj hne|cons a b=>rfl
theorem ci(h:MadeOk m):(∀p∈m.parts,∃k,k<3∧p=pk k)∧(∀p∈m.fold,∃k,k<3∧p=pk k)∧m.fold≠[]∧m.fold.length≤2:=by
 have key:∀p∈m.fold,∃k,k<3∧p=pk k:=by
  intro p hp;rcases Made.fold_eq h with e|e<;>rw[e] at hp<;>simp at hp
  ·exact a7 _ (h.one) hp
  ·rcases hp with rfl|rfl
   ·exact a7 _ (h.one) rfl
   ·exact a7 _ (h.two) rfl
 refine LM (λp hp=>?_) key ?_ ?_
 ·rcases Qh.mp hp with q|q
  ·exact key p q
  ·exact⟨_,h.leaf,mA q⟩
 ·rcases Made.fold_eq h with e|e<;>rw[e]<;>simp
 ·rcases Made.fold_eq h with e|e<;>rw[e]<;>simp
theorem fL:∀ {l:BL},(∀p∈l,∃k,k<3∧p=pk k)→(aB [47] l).all (· <128)=true∧(aB [47] l).length≤3*l.length
 |[],_=>by decide|[a],h=>by refine aQ (h a (by simp)) λk hk z2=>?_;subst z2;exact ty (j9 hk) λa1 a2 a3 a4=>⟨a1,by simp;exact Qo (by assumption)⟩
 |a::b::l,h=>by
  refine aQ (h a (by simp)) λk hk z1=>?_;subst z1;refine ty (j9 hk) λa1 a2 a3 a4=>d7 (fL (λp hp=>h p (mM hp))) λi1 i2=>⟨?_,?_⟩
  ·refine(?_:(pk k++[47]++aB [47] _).all _=_);simp only[TN,a1,i1];rfl
  ·refine(?_:(pk k++[47]++aB [47] _).length≤_);simp only[Qa] at i2⊢;exact aZ [_,_,_] (.h 1 ab al (.h 1 ae (.m 3 (.a af ai)) (.g (.a (.a ab ai) ae) (.m 3 (.a (.a af ai) ai))))) rfl a2 i2
theorem Ce{l:BL}(h:∀p∈l,∃k,k<3∧p=pk k)(hne:l≠[]):aB [47] l≠[]:=by
 match l,hne with
 |[a],_=>refine aQ (h a (by simp)) λk hk z3=>?_;subst z3;exact(j9 hk).2.2.1|a::b::l,_=>show a++[47]++aB [47] _≠[];simp
theorem Lk(d:Nat)(MR:List Int):∃m:Made,MadeOk m∧∀v σ',fu (ev (call (d+3)) 399) eZ (m.ρ1 (.list (MR.map .int)) []) [] (rz.drop 11) v σ'→fu (ev (call (d+3)) 399) eZ [(181,.list (MR.map .int))] [] rz v σ':=by
 refine fk (qo (d+2) MR) λinit p hl hn e1=>?_;have hp:=hn p (by simp);generalize hA:p / 5+(init++[p]).length=A;have Og:A<1000000000:=by rw[←hA];simp;lia
 have m1:A % 2<2:=QJ _ (by decide);have m2:A / 2 % 3<3:=QJ _ (by decide);have m3:A / 2 / 3 % 4<4:=QJ _ (by decide);have m4:A / 2 / 3 / 4 % 3<3:=QJ _ (by decide);have m5:A / 2 / 3 / 4 / 3 % 3<3:=QJ _ (by decide);have m6:A / 2 / 3 / 4 / 3 / 3 % 2<2:=QJ _ (by decide);have k1:=dm (d+2) [] (n:=A) (k:=2) (by decide) (by decide) (cj Og rfl);have k2:=dm (d+2) [] (n:=A / 2) (k:=3) (by decide) (by decide) (aZ [_,_] (.h 1 ab ae (.h 1 (.a ae ai) (.c 1000000000) (.g (.a ab ai) (.c 2000000000)))) rfl dS Og);have k3:=dm (d+2) [] (n:=A / 2 / 3) (k:=4) (by decide) (by decide) (aZ [_,_,_] (.h 1 ab ae (.h 1 ae af (.h 1 (.a af ai) (.c 1000000000) (.g (.a ab ai) (.c 2000000000))))) rfl dS dS Og);have k4:=dm (d+2) [] (n:=A / 2 / 3 / 4) (k:=3) (by decide) (by decide) (aZ [_,_,_,_] (.h 1 ab ae (.h 1 ae af (.h 1 af ag (.h 1 (.a ag ai) (.c 1000000000) (.g (.a ab ai) (.c 2000000000)))))) rfl dS dS dS Og);have k5:=dm (d+2) [] (n:=A / 2 / 3 / 4 / 3) (k:=3) (by decide) (by decide) (aZ [_,_,_,_,_] (.h 1 ab ae (.h 1 ae af (.h 1 af ag (.h 1 ag ah (.h 1 (.a ah ai) (.c 1000000000) (.g (.a ab ai) (.c 2000000000))))))) rfl dS dS dS dS Og);have k6:=dm (d+2) [] (n:=A / 2 / 3 / 4 / 3 / 3) (k:=2) (by decide) (by decide) (aZ [_,_,_,_,_,_] (.h 1 ab ae (.h 1 ae af (.h 1 af ag (.h 1 ag ah (.h 1 ah (.v 5) (.h 1 (.a (.v 5) ai) (.c 1000000000) (.g (.a ab ai) (.c 2000000000)))))))) rfl dS dS dS dS dS Og);have c6:A / 2 / 3 / 4 / 3 / 3 / 2<1000000000:=by exact aZ [_,_,_,_,_,_,_] (.h 1 ab ae (.h 1 ae af (.h 1 af ag (.h 1 ag ah (.h 1 ah (.v 5) (.h 1 (.v 5) (.v 6) (.h 1 (.a (.v 6) ai) (.c 1000000000) (.g (.a ab ai) (.c 1000000000))))))))) rfl dS dS dS dS dS dS Og
 have hlast:fJ [] (.list (aM (init++[p]))) (.int (-1))=some (.int p):=by unfold aM;rw[Qi];exact d0 _ _
 have Oy:ii [] .fdiv (.int p) (.int 5)=some (.int ((p / 5:Nat):Int)):=by show(if((5:Int)>0&&(p:Int).natAbs<2 ^ 60&&(5:Int).natAbs<2 ^ 60)=true then some (V.int ((p:Int) / 5)) else none)=_;rw[iP (by simp only[Tu];simp;exact cj hp rfl)];rfl
 have hbig:∀n,(ev (call (d+3)) (n+8)).e eZ [(181,.list (MR.map .int)),(182,.list (aM (init++[p])))] [] (.bin .add (.bin .fdiv (.sub (.v 182) (.neg (.k (.int 1)))) (.k (.int 5))) (.call (.g 32) [(.v 182)]))=some (.int A,[]):=λn=>by
  refine aX (x:=.int ((p / 5:Nat):Int)) (y:=.int ((init++[p]).length:Nat)) (aX (x:=.int p) (aU (iv:=.int (-1)) rfl rfl hlast) rfl Oy) (ao (fv:=.blt 32) (vs:=[.list (aM (init++[p]))]) rfl rfl rfl ?_) ?_
  ·simp only[dk];show some (V.int (aM (init++[p])).length,[])=_;unfold aM;rw[KE]
  ·show some (V.int (((p / 5:Nat):Int)+((init++[p]).length:Int)))=_;rw[←hA];rfl
 generalize hq1:A % 2=many at*;generalize hq2:A / 2 % 3=leaf at*;generalize hq3:A / 2 / 3 % 4=kind at*;generalize hq4:A / 2 / 3 / 4 % 3=one at*;generalize hq5:A / 2 / 3 / 4 / 3 % 3=two at*;generalize hq6:A / 2 / 3 / 4 / 3 / 3 % 2=turn at*;generalize hq7:A / 2 / 3 / 4 / 3 / 3 / 2=ask at*;refine gv (AC d (init++[p]) many (aZ [_,_] (.h 1 ab ae (.h 1 (.a ae ai) al (.g (.a ab ai) (.c 5)))) rfl (nE hq1.symm) (QJ _ (Ra _))) hn ((181,.list (MR.map .int))::(182,.list (aM (init++[p])))::(183,.int ask)::(47,.int many)::(184,.int leaf)::(28,.int kind)::(38,.int one)::(185,.int two)::(152,.int turn)::[]) rfl rfl) λrows r1 r2 r3=>?_;have ok:MadeOk ⟨init++[p],ask,many,leaf,kind,one,two,turn,rows⟩:=⟨m1,m2,m3,m4,m5,m6,c6,by show rows.length≤4;exact aZ [_,_,_] (.h 1 ab (.a (.c 3) ae) (.h 1 ae af (.h 1 (.a af ai) al (.g ab (.c 4))))) rfl r1 (nE hq1.symm) (QJ _ (Ra _)),r2⟩;refine a7 (_) ok (λv σ' k=>?_);refine ty (ci ok) λpf ff fne PV=>?_;generalize hM:(⟨init++[p],ask,many,leaf,kind,one,two,turn,rows⟩:Made)=M at*;have plen:M.parts.length≤3:=by unfold Made.parts;simp;exact PV
 have Ou:∀n (i:Nat) (x:Nat) (ρ:aF),i<3→aE ρ x=some (.int i)→(ev (call (d+3)) (n+4)).e eZ ρ [] (.sub (.call (.g 144) []) (.v x))=some (.bytes (pk i),[]):=λn i x ρ hi h=>aU (ao (vs:=[]) rfl rfl rfl (jN (d+2) [])) (ay h) (C4 [] (cj hi rfl))
 refine aJ e1 rfl ?_;refine aJ (ao (fv:=.blt 147) (vs:=[.int A,.int (2:Nat)]) rfl rfl (am (hbig 390) rfl) k1) rfl ?_;refine aJ (ao (fv:=.blt 147) (vs:=[.int (A / 2:Nat),.int (3:Nat)]) rfl rfl rfl k2) rfl ?_;refine aJ (ao (fv:=.blt 147) (vs:=[.int (A / 2 / 3:Nat),.int (4:Nat)]) rfl rfl rfl k3) rfl ?_;refine aJ (ao (fv:=.blt 147) (vs:=[.int (A / 2 / 3 / 4:Nat),.int (3:Nat)]) rfl rfl rfl k4) rfl ?_;refine aJ (ao (fv:=.blt 147) (vs:=[.int (A / 2 / 3 / 4 / 3:Nat),.int (3:Nat)]) rfl rfl rfl k5) rfl ?_;refine aJ (ao (fv:=.blt 147) (vs:=[.int (A / 2 / 3 / 4 / 3 / 3:Nat),.int (2:Nat)]) rfl rfl rfl k6) rfl ?_;refine(?_:fu (ev (call (d+3)) 399) eZ [(181,.list (MR.map .int)),(182,.list (aM (init++[p]))),(183,.int ask),(47,.int many),(184,.int leaf),(28,.int kind),(38,.int one),(185,.int two),(152,.int turn)] [] _ v σ');refine aJ r3 rfl ?_
 have eF:∀n ρ,aE ρ 38=some (.int one)→aE ρ 185=some (.int two)→aE ρ 47=some (.int many)→(ev (call (d+3)) (n+7)).e eZ ρ [] (.l (.list [(.sub (.call (.g 144) []) (.v 38)),(.sub (.call (.g 144) []) (.v 185))]) none (some (.bin .add (.v 47) (.k (.int 1)))))=some (bl M.fold,[]):=λn ρ g1 g2 g3=>by
  refine aK (ov:=bl [pk one,pk two]) (hv:=some (.int ((many+1:Nat):Int))) (lv:=none) (σ2:=[]) ?_ rfl ?_ ?_
  ·rw[bY,jP (by decide),am (Ou _ one 38 ρ m4 g1) (am (vs:=[]) (Ou _ two 185 ρ m5 g2) rfl)];rfl
  ·rw[fR,aX (x:=.int many) (y:=.int 1) (v:=.int ((many+1:Nat):Int)) (ay g3) rfl rfl];rfl
  ·rw[←hM];exact xN
 refine aJ (eF 392 _ rfl rfl rfl) rfl ?_
 have eP:∀n ρ,aE ρ 187=some (bl M.fold)→aE ρ 184=some (.int leaf)→(ev (call (d+3)) (n+6)).e eZ ρ [] (.bin .add (.v 187) (.list [(.sub (.call (.g 144) []) (.v 184))]))=some (bl M.parts,[]):=λn ρ g1 g2=>by
  refine aX (y:=bl [pk leaf]) (ay g1) ?_ ?_
  ·rw[bY,jP (by decide),am (Ou _ leaf 184 ρ m2 g2) rfl];rfl
  ·refine(?_:(if(M.fold.map V.bytes++[pk leaf].map V.bytes).length≤65536 then some _ else none)=_);rw[iP (by simp;exact cj PV rfl)];have:M.parts=M.fold++[pk leaf]:=by rw[←hM];rfl
   rw[this];refine(?_:_=some (V.list _));rw[Qi]
 refine aJ (eP 393 _ rfl rfl) rfl ?_
 have eJ:∀n (x:Nat) (l:BL) (ρ:aF),aE ρ x=some (bl l)→_→l≠[]→l.length≤3→(ev (call (d+3)) (n+5)).e eZ ρ [] (.m (.m (.k (.bytes [47])) 201 [(.v x)]) 202 [])=some _:=λn x l ρ g h hne hl=>by exact d7 (fL h) λj1 j2=>bD (bD rfl rfl (am (ay g) rfl) (yF rfl (aZ [_,_] (.h 1 ab (.m 3 ae) (.h 3 ae (.c 3) (.g ab (.c 65536)))) rfl j2 hl))) rfl rfl (zn [] (.inr trivial) j1 (Ce h hne))
 refine aG ?_ k;rw[GH,am (eJ 394 187 M.fold _ rfl ff fne (Qo (by assumption))) (am (eJ 394 27 M.parts _ rfl pf (by delta Made.parts;simp) plen) rfl),P8,GW rfl];subst hM;rfl
theorem uM(D:Nat)(b:Nat)(q n m:Nat)(pv:Ab→V)(all:List Ab):∀ (ls:List Ab) (k:Nat) (σ:aq) (pats:List V) (tl:aF),all.drop k=ls→σ[q]?=some (.list (all.map .bytes))→q≠m→dJ σ ⟨n,m,pats⟩→(∀l∈ls,cD (pv l)∧∀σ,call D σ (.cls 100) [.bytes l,.bool false]=some (pv l,σ))→pats.length+ls.length<65536→n≠m→(tl=[]∨∃v,tl=[(69,v)])→
 ∃ρ',cT (cW (ev (call (D+1)) 399) ⟨b,[]⟩ (.v 69) tN) q (λk xs=>some xs[k]?) (ls.length+1) k ((6,.o n)::(130,.o q)::(35,.bool false)::(115,.none)::tl) σ=some (.next,ρ',σ.set m (.list (pats++ls.map pv))):=by
 intro L_;induction L_ with
 |nil=>
  intro k σ pats tl hk hq o_ hf o_ o_ o_ o_;refine⟨(6,.o n)::(130,.o q)::(35,.bool false)::(115,.none)::tl,?_⟩
  have hs:σ.set m (.list (pats++[]))=σ:=by
   apply UG;intro i;rw[Tx,Qj];split
   ·rename_i h;subst h;split
    ·exact hf.2.symm
    ·rename_i h;exact absurd hf.lt.2 h
   ·rfl
  have PD:(all.map V.bytes)[k]?=none:=by rw[Qv,KE];exact Rp.mp hk
  rw[R6,hs];exact v5 hq (cG some PD)
 |cons l ls IH_=>
  intro k σ pats tl hk hq hqm hf h hl hnm Ni
  have hf2:dJ (σ.set m (.list (pats++[pv l]))) ⟨n,m,pats++[pv l]⟩:=by
   refine⟨?_,?_⟩
   ·refine(?_:(σ.set m _)[n]?=_);rw[Uo (by lia)];exact hf.1
   ·exact(List.getElem?_set_self hf.lt.2)
  have hkm:da σ (.o n) 134=some (.fnm 37001):=by delta da jX;have:=hf.1;simp only at this;simp only[this];rfl
  have PI:k<all.length:=by apply QN;intro q';rw[Qw q'] at hk;cases hk
  have N7:all.drop (k+1)=ls∧all[k]?=some l:=by rw[QO PI] at hk;injection hk with e1 e2;exact⟨e2,by simp only[Qs PI,e1]⟩
  obtain⟨ρ',ih⟩:=IH_ (k+1) (σ.set m (.list (pats++[pv l]))) (pats++[pv l]) [(69,.bytes l)] N7.1 (by rw[Uo (by lia)];exact hq) hqm hf2 (λx hx=>h x (mM hx)) (by simp at hl⊢;exact aZ [_,_] (.h 1 (.a (.a ab (.a ae ai)) ai) (.c 65536) (.g (.a (.a (.a ab ai) ae) ai) (.c 65536))) rfl hl) hnm (.inr ⟨_,rfl⟩)
  have body:cW (ev (call (D+1)) 399) ⟨b,[]⟩ (.v 69) tN ((6,.o n)::(130,.o q)::(35,.bool false)::(115,.none)::tl) σ (.bytes l)=some (.next,(6,.o n)::(130,.o q)::(35,.bool false)::(115,.none)::[(69,.bytes l)],σ.set m (.list (pats++[pv l]))):=by rcases Ni with rfl|⟨v,rfl⟩<;>exact el (aS rfl hkm rfl (md D σ ⟨n,m,pats⟩ l (pv l) hf (h l mS).1 (by simp at hl⊢;lia) ((h l mS).2 σ))) aw
  refine⟨ρ',?_⟩;have Ps:(all.map V.bytes)[k]?=some (.bytes l):=by simp only[R8,N7.2];rfl
  rw[QK,vx hq (cG some Ps) body,ih,List.set_set,Qc];rfl
theorem qu(D:Nat)(σ:aq)(q:Nat)(ls:List Ab)(pv:Ab→V)(hq:σ[q]?=some (.list (ls.map .bytes)))(h:∀l∈ls,cD (pv l)∧∀σ,call D σ (.cls 100) [.bytes l,.bool false]=some (pv l,σ))(hl:ls.length<60000):
 call (D+2) σ (.cls 129) [.o q]=some (.o σ.length,σ++[cb (σ.length+1),.list (ls.map pv)]):=by
 have hql:=(Qe.mp hq).1
 have hf:dJ (σ++[cb (σ.length+1),.list []]) ⟨σ.length,σ.length+1,[]⟩:=by
  refine⟨?_,?_⟩
  ·rw[QB nR,Rb];rfl
  ·rw[QB (by exact R4 _),S3];rfl
 have hq2:(σ++[cb (σ.length+1),Cell.list []])[q]?=some (.list (ls.map .bytes)):=by rw[QP hql];exact hq
 obtain⟨ρ',e⟩:=uM D σ.length q σ.length (σ.length+1) pv ls ls 0 (σ++[cb (σ.length+1),.list []]) [] [] rfl hq2 (Sb (Qo hql)) hf h (by simp;exact cj hl rfl) (Sb nR) (.inl rfl)
 have Nu:(σ++[cb (σ.length+1),Cell.list []]).set (σ.length+1) (.list ([]++ls.map pv))=σ++[cb (σ.length+1),.list (ls.map pv)]:=by rw[Tc _ _ (by exact R4 _),S3];rfl
 rw[Nu] at e
 have st:∀ (fs:List (Nat×V)) (a:Nat) (v:V),(decide (fs.length<100)&&dP.contains (129,a))=true→below (σ.length+2) v=true→fy ⟨σ.length,[]⟩ (σ++[.obj 129 fs,.list []]) σ.length a v=some (σ++[.obj 129 (bT fs a v),.list []]):=by
  intro fs a v h1 h2;simp only[P9] at h1;delta fy;have g:(σ++[Cell.obj 129 fs,Cell.list []])[σ.length]?=some (.obj 129 fs):=by rw[QB nR,Rb];rfl
  have hl:(σ++[Cell.obj 129 fs,Cell.list []]).length=σ.length+2:=by simp
  simp only[g,(show ∀y,(σ++[Cell.obj 129 fs,Cell.list []]).set σ.length y=σ++[y,.list []] from λy=>by rw[Tc _ _ nR,Rb];rfl),hl,h1.1,h1.2,h2,Vi,decide_true,U9,U3,if_true]
 have MV:lP (cW (ev (call (D+1)) 399) ⟨σ.length,[]⟩ (.v 69) tN) [(6,.o σ.length),(130,.o q),(35,.bool false),(115,.none)] (σ++[cb (σ.length+1),.list []]) (.o q)=some (.next,ρ',σ++[cb (σ.length+1),.list (ls.map pv)]):=by delta lP;simp only[hq2,KE];exact e
 have hr:ba (ev (call (D+1)) 399) ⟨σ.length,[]⟩ [(6,.o σ.length),(130,.o q),(35,.bool false),(115,.none)] (σ++[.obj 129 []]) kN .next ρ' (σ++[cb (σ.length+1),.list (ls.map pv)]):=by
  refine az (ρ1:=[(6,.o σ.length),(130,.o q),(35,.bool false),(115,.none)]) (σ1:=σ++[.obj 129 [(131,.o (σ.length+1))],.list []]) ?_ ?_
  ·simp only[Bo,Qc,Qa,RF];rw[show[Cell.obj 129 []]++[Cell.list []]=[Cell.obj 129 [],Cell.list []] from rfl,gZ rfl (st [] 131 (.o (σ.length+1)) rfl (decide_eq_true nR))];rfl
  ·exact aI rfl (gZ rfl (st _ 132 _ rfl rfl)) (aI rfl (gZ rfl (st _ 133 _ rfl rfl)) (az ((cK rfl).trans MV) aw))
 refine(?_:Q2 (c7 (ev _ 399) ⟨σ.length,[]⟩ [_,_,_,_] _ kN) _=_);rw[hr];rfl
noncomputable def Row.line(r:Row):List UInt8:=qr r.neg r.lead r.only r.comps
noncomputable def Row.rule(r:Row):Rl:=lk r.neg r.lead r.only r.comps
noncomputable def Row.hazy(r:Row):Bool:=d8 r.lead r.comps&&(r.only==1||lJ r.comps)
noncomputable def Made.at(m:Made)(k:Nat):List Row:=m.rows.filter λr=>r.home==k
noncomputable def Made.lines(m:Made)(k:Nat):BL:=(m.at k).map Row.line
noncomputable def Made.rules(m:Made)(k:Nat):List Rl:=(m.at k).map Row.rule
noncomputable abbrev lw:T:=.t [(.v 148),(.v 155),(.v 190),(.v 158)]
noncomputable abbrev y8(pre:aF)(r:Row):aF:=pre++[(148,.int r.home),(155,.bytes r.line),(190,.bool r.hazy),(158,r.rule.toV)]
theorem eR(a k:Nat):iI σ .eq (.int a) (.int k)=some (a==k):=by
 refine(?_:some _=_);congr 1
 induction h:(a==k) using bC with
 |true=>simp at h⊢;omega|false=>simp at h⊢;omega
theorem lY(b n k:Nat)(σ:aq)(x:Nat)(g:Row→V)(hg:∀r,aE (y8 [(1,.int k)] r) x=some (g r))(rows:List Row):cU (bG (ev cl (n+4)) ⟨b,[]⟩ (.v x) lw [(.p (.v 148) [.eq] [(.v 1)])] [])
 (λρ=>ρ=[(1,.int k)]∨∃r,ρ=y8 [(1,.int k)] r) σ Row.toV (λr=>if r.home==k then[g r] else[]) rows:=by
 intro r o_ MQ ρ M3 ha;refine a7 (y8 [(1,.int k)] r) (.inr ⟨r,rfl⟩) ?_;exact iu (by rcases M3 with rfl|⟨r',rfl⟩<;>rfl) (aC rfl rfl (eR _ _)) rfl (λo_=>ay (hg r)) ha
theorem Ap{α:Type}{q:Bool}{v:α}:(if q then[v] else[]).length≤1:=by induction q using bC<;>simp
theorem zP(b n k:Nat)(fz:List Nat)(ρ:aF)(σ:aq)(m:Made)(hm:MadeOk m)(h1:aE ρ 186=some (.list (m.rows.map Row.toV)))(h2:aE ρ 1=some (.int k)):
 (ev cl (n+5)).e ⟨b,fz⟩ ρ σ (.comp (.v 155) [(.mk lw (.v 186) [(.p (.v 148) [.eq] [(.v 1)])])] [1])=some (.o σ.length,σ++[.list ((m.lines k).map .bytes)]):=by
 refine aQ (vN (pv:=.list (m.rows.map Row.toV)) (λr=>Ap) rfl (lY (cl:=cl) b n k σ 155 (λr=>.bytes r.line) (λr=>rfl) m.rows) (.inl rfl) (by have:=hm.len;exact kJ this rfl)) λi e1 z1=>ek z1 λρ' e2=>?_;have hr:bB ρ [1]=[(1,.int k)]:=by simp only[cX h2,et]
 rw[bY,fP,jt rfl,ay h1];refine(?_:(((Hd (.list _)).map λi=>(i,σ)).bind _).bind _=_);rw[e1];refine(?_:(iF (bG _ ⟨b,[]⟩ _ lw _ []) i _).bind _=_);rw[hr,e2,eg];delta Made.lines Made.at;rw[Qk];rfl
theorem Ak(b n k:Nat)(fz:List Nat)(ρ:aF)(σ:aq)(m:Made)(hm:MadeOk m)(h1:aE ρ 186=some (.list (m.rows.map Row.toV)))(h2:aE ρ 1=some (.int k)):
 (ev cl (n+5)).e ⟨b,fz⟩ ρ σ (.comp (.v 158) [(.mk lw (.v 186) [(.p (.v 148) [.eq] [(.v 1)])])] [1])=some (ej (m.rules k),σ):=by
 have hr:bB ρ [1]=[(1,.int k)]:=by simp only[cX h2,et]
 rw[cV (λr=>Ap) rfl rfl (ay h1) rfl hr (.inl rfl) (lY b n k σ 158 (λr=>r.rule.toV) (λr=>rfl) m.rows) (by have:=hm.len;exact kJ this rfl),eg];delta Made.rules Made.at;simp only[ej,Qk];rfl
theorem Gl{c:Cx}{b:Bool}:ms (ev cl (n+1)) c ρ σ (.call (.g 125) [(.k (.int 4))]) b=some (.items [.int (0:Nat),.int (1:Nat),.int (2:Nat),.int (3:Nat)],σ):=rfl
theorem sn{turn:List V×aF×aq→V→Option (List V×aF×aq)}{a0 a1 a2 a3 a4:List V×aF×aq}{x0 x1 x2 x3:V}(h0:turn a0 x0=some a1)(h1:turn a1 x1=some a2)(h2:turn a2 x2=some a3)(h3:turn a3 x3=some a4):[x0,x1,x2,x3].foldlM turn a0=some a4:=by rw[Sf,h0];refine(?_:[x1,x2,x3].foldlM turn a1=_);rw[Sf,h1];refine(?_:[x2,x3].foldlM turn a2=_);rw[Sf,h2];refine(?_:[x3].foldlM turn a3=_);rw[Sf,h3];rfl
noncomputable abbrev Made.rowsV(m:Made):V:=.list (m.rows.map Row.toV)
noncomputable def bq(l:BL):Cell:=.list (l.map .bytes)
theorem wV(n:Nat)(ρ:aF)(m:Made)(hm:MadeOk m)(h1:aE ρ 186=some m.rowsV):(ev cl (n+6)).e eZ ρ [] (.comp (.comp (.v 155) [(.mk lw (.v 186) [(.p (.v 148) [.eq] [(.v 1)])])] [1]) [(.mk (.v 1) (.call (.g 125) [(.k (.int 4))]) [])] [186])=
 some (.list [.o 0,.o 1,.o 2,.o 3],[bq (m.lines 0),bq (m.lines 1),bq (m.lines 2),bq (m.lines 3)]):=by
 have hr:bB ρ [186]=[(186,m.rowsV)]:=by simp only[cX h1,et]
 have turn:∀ (k:Nat) (MQ:List V) (ρ:aF) (σ:aq),(ρ=[(186,m.rowsV)]∨∃v,ρ=[(186,m.rowsV),(1,v)])→MQ.length<65536→bG (ev cl (n+5)) ⟨0,[]⟩ (.comp (.v 155) [(.mk lw (.v 186) [(.p (.v 148) [.eq] [(.v 1)])])] [1]) (.v 1) [] [] (MQ,ρ,σ) (.int k)=
  some (MQ++[.o σ.length],[(186,m.rowsV),(1,.int k)],σ++[bq (m.lines k)]):=by
  intro k MQ ρ σ M3 ha;have hb:bJ ⟨0,[]⟩ ρ σ (.v 1) (.int k)=some ([(186,m.rowsV),(1,.int k)],σ):=by rcases M3 with rfl|⟨v,rfl⟩<;>rfl
  delta bG;simp only[hb,P8,mR,if_true,kY,ha,zP 0 n k [] [(186,m.rowsV),(1,.int k)] σ m hm rfl rfl];rfl
 simp only[bY,fP,Gl,P8,lS,hr];refine(?_:Q2 (Ti _ _ _) _=_);simp only[sn (turn 0 [] _ [] (.inl rfl) (by decide)) (turn 1 _ _ _ (.inr ⟨_,rfl⟩) (by simp)) (turn 2 _ _ _ (.inr ⟨_,rfl⟩) (by simp)) (turn 3 _ _ _ (.inr ⟨_,rfl⟩) (by simp))];exact gy rfl
noncomputable def Made.rulesV(m:Made):V:=.list [ej (m.rules 0),ej (m.rules 1),ej (m.rules 2),ej (m.rules 3)]
theorem wm(n:Nat)(ρ:aF)(σ:aq)(m:Made)(hm:MadeOk m)(h1:aE ρ 186=some m.rowsV):(ev cl (n+6)).e eZ ρ σ (.comp (.comp (.v 158) [(.mk lw (.v 186) [(.p (.v 148) [.eq] [(.v 1)])])] [1]) [(.mk (.v 1) (.call (.g 125) [(.k (.int 4))]) [])] [186])=some (m.rulesV,σ):=by
 have hr:bB ρ [186]=[(186,m.rowsV)]:=by simp only[cX h1,et]
 have turn:∀ (k:Nat) (MQ:List V) (ρ:aF),(ρ=[(186,m.rowsV)]∨∃v,ρ=[(186,m.rowsV),(1,v)])→MQ.length<65536→bG (ev cl (n+5)) ⟨0,[]⟩ (.comp (.v 158) [(.mk lw (.v 186) [(.p (.v 148) [.eq] [(.v 1)])])] [1]) (.v 1) [] [] (MQ,ρ,σ) (.int k)=
  some (MQ++[ej (m.rules k)],[(186,m.rowsV),(1,.int k)],σ):=by
  intro k MQ ρ M3 ha;exact eC (by rcases M3 with rfl|⟨v,rfl⟩<;>rfl) (Ak 0 n k [] [(186,m.rowsV),(1,.int k)] σ m hm rfl rfl) ha
 simp only[bY,fP,Gl,P8,lS,hr];refine(?_:Q2 (Ti _ _ _) _=_);rw[sn (turn 0 [] _ (.inl rfl) (by decide)) (turn 1 _ _ (.inr ⟨_,rfl⟩) (by simp)) (turn 2 _ _ (.inr ⟨_,rfl⟩) (by simp)) (turn 3 _ _ (.inr ⟨_,rfl⟩) (by simp))];exact gy rfl
noncomputable def Made.homes(m:Made):List BL:=[[],[],m.fold.take 1,m.fold]
noncomputable def bv(m:Made)(k:Nat):BL:=m.homes.getD k []
noncomputable def Made.wholeAt(m:Made)(k:Nat):List Rl:=(m.rules k).map λr=>⟨r.neg,r.only,r.holds,bv m k++r.comps⟩
noncomputable def Made.whole(m:Made):List Rl:=m.wholeAt 0++m.wholeAt 1++m.wholeAt 2++m.wholeAt 3
theorem wz(n:Nat)(ρ:aF)(σ:aq)(m:Made)(h1:aE ρ 187=some (bl m.fold)):(ev cl (n+4)).e eZ ρ σ (.list [(.list []),(.list []),(.l (.v 187) none (some (.k (.int 1)))),(.v 187)])=some (bp m.homes,σ):=by rw[bY,jP (by decide),am rfl (am rfl (am (aK (ay h1) rfl rfl xN) (am (ay h1) rfl)))];rfl
theorem iE(hm:MadeOk m){k:Nat}{r:Rl}(h:r∈m.rules k):r.comps.length≤4∧(∀c∈r.comps,c.length≤2)∧r.comps≠[]:=by
 refine jz h λw hw z1=>?_;subst z1;have ok:=hm.rows w (Qu.mp hw).1;have h3:=ok.len;have hc:=λc hc=>c9 (ok.mem c hc);delta Row.rule lk;simp only;split
 ·exact⟨by exact Qo (by assumption),hc,ok.ne⟩
 ·refine⟨by simp;exact h3,λc h=>?_,by simp⟩;rcases P6.mp h with rfl|h
  ·decide
  ·exact hc c h
theorem q6(m:Made)(k:Nat):(bv m k).length≤2:=by
 delta bv Made.homes;have:m.fold.length≤2:=by delta Made.fold;rw[Ql];simp;exact(QM _ _)
 match k with
 |0=>simp|1=>simp|2=>simp;exact Ra _|3=>exact this|k+4=>simp
theorem gV(hm:MadeOk m)(k:Nat):(m.rules k).length≤4:=by delta Made.rules Made.at;rw[KE];exact nT (RD _ _) hm.len
noncomputable abbrev GS:T:=.t [(.v 22),(.v 153),(.v 37),(.v 151)]
noncomputable abbrev GL:E:=.t [(.v 22),(.v 153),(.v 37),(.bin .add (.sub (.v 173) (.v 1)) (.v 151))]
theorem whole_run(n:Nat)(ρ:aF)(σ:aq)(m:Made)(hm:MadeOk m)(h1:aE ρ 173=some (bp m.homes))(h2:aE ρ 162=some m.rulesV):
 (ev cl (n+6)).e eZ ρ σ (.comp GL [(.mk (.v 1) (.call (.g 125) [(.k (.int 4))]) []),(.mk GS (.sub (.v 162) (.v 1)) [])] [173,162])=some (ej m.whole,σ):=by
 refine cps λX_ k_=>?_;have hr:bB ρ [173,162]=[(173,bp m.homes),(162,m.rulesV)]:=by simp only[cX h1,cX h2,et]
 have Ot:∀k,k<4→fJ σ m.rulesV (.int (k:Nat))=some (ej (m.rules k))∧fJ σ (bp m.homes) (.int (k:Nat))=some (bl (bv m k)):=by intro k hk;rcases I5 hk with rfl|rfl|rfl|rfl<;>exact⟨rfl,rfl⟩
 have turn:∀ (k:Nat) (MQ:List V) (ρ:aF),k<4→(ρ=[(173,bp m.homes),(162,m.rulesV)]∨(∃v,ρ=[(173,bp m.homes),(162,m.rulesV),(1,v)])∨∃v a b c e,ρ=[(173,bp m.homes),(162,m.rulesV),(1,v),(22,a),(153,b),(37,c),(151,e)])→MQ.length<60000→
  ∃ρ',((∃v,ρ'=[(173,bp m.homes),(162,m.rulesV),(1,v)])∨∃v a b c e,ρ'=[(173,bp m.homes),(162,m.rulesV),(1,v),(22,a),(153,b),(37,c),(151,e)])∧
  bG (ev cl (n+5)) ⟨0,[]⟩ GL (.v 1) [] [.mk GS (.sub (.v 162) (.v 1)) []] (MQ,ρ,σ) (.int k)=some (MQ++(m.wholeAt k).map Rl.toV,ρ',σ):=by
  intro k MQ ρ hk M3 ha
  have MY:cU (bG (ev cl (n+5)) ⟨0,[]⟩ GL GS [] []) (λρ=>ρ=[(173,bp m.homes),(162,m.rulesV),(1,.int k)]∨∃a b c e,ρ=[(173,bp m.homes),(162,m.rulesV),(1,.int k),(22,a),(153,b),(37,c),(151,e)]) σ Rl.toV (λr=>[Rl.toV ⟨r.neg,r.only,r.holds,bv m k++r.comps⟩]) (m.rules k):=by
   intro r hr MQ ρ M3 ha;refine a7 ([(173,bp m.homes),(162,m.rulesV),(1,.int k),(22,.bool r.neg),(153,.bool r.only),(37,.bool r.holds),(151,bl r.comps)]) (.inr ⟨_,_,_,_,rfl⟩) ?_;refine eC (by rcases M3 with rfl|⟨a,b,c,e,rfl⟩<;>rfl) ?_ ha
   have NE:ii σ .add (bl (bv m k)) (bl r.comps)=some (bl (bv m k++r.comps)):=by refine(?_:(if((bv m k).map V.bytes++r.comps.map V.bytes).length≤65536 then some _ else none)=_);rw[iP (by have:=q6 m k;have:=(iE hm hr).1;simp;lia),←Qi]
   rw[bY,kt (by decide),am rfl (am rfl (am rfl (am (aX (aU rfl rfl (Ot k hk).2) rfl NE) rfl)))];rfl
  have hP:(bT ρ 1 (.int k)=[(173,bp m.homes),(162,m.rulesV),(1,.int k)]∨∃a b c e,bT ρ 1 (.int k)=[(173,bp m.homes),(162,m.rulesV),(1,.int k),(22,a),(153,b),(37,c),(151,e)]):=by
   rcases M3 with rfl|⟨v,rfl⟩|⟨v,a,b,c,e,rfl⟩
   ·exact .inl rfl
   ·exact .inl rfl
   ·exact .inr ⟨a,b,c,e,rfl⟩
  have OV:eQ (ev cl (n+5)) ⟨0,[]⟩ (bT ρ 1 (.int k)) σ (.sub (.v 162) (.v 1))=some (.items ((m.rules k).map Rl.toV),σ):=by
   have:(ev cl (n+5)).e ⟨0,[]⟩ (bT ρ 1 (.int k)) σ (.sub (.v 162) (.v 1))=some (ej (m.rules k),σ):=by rcases hP with e|⟨_,_,_,_,e⟩<;>refine e▸?_<;>exact aU rfl rfl (Ot k hk).1
   rw[lF rfl,this];rfl
  refine aQ (f9 (λx=>by simp) (m.rules k) MQ (bT ρ 1 (.int k)) MY hP (by have:=gV hm k;exact aZ [_,_] (.h 1 (.a ab ai) (.c 60000) (.h 1 ae (.c 4) (.g (.a (.a ab ae) ai) (.c 65536)))) rfl ha this)) λρ' p' e'=>?_;rw[dj] at e';refine a7 ρ' ?_ ?_
  ·rcases p' with e|⟨a,b,c,f,e⟩
   ·exact .inl ⟨_,e⟩
   ·exact .inr ⟨_,_,_,_,_,e⟩
  ·delta bG;simp only[(show bJ ⟨0,[]⟩ ρ σ (.v 1) (.int k)=some (bT ρ 1 _,σ) from rfl),P8,mR,if_true];rw[CN,OV,P8];delta Made.wholeAt;rw[Qk];exact e'
 refine aQ (turn 0 [] _ (by decide) (.inl rfl) (by decide)) λN4 p0 t0=>?_;have ln:∀k,((m.wholeAt k).map Rl.toV).length≤4:=λk=>by delta Made.wholeAt;simp only[KE];exact gV hm k
 have l0:=ln 0;have l1:=ln 1;have l2:=ln 2;refine aQ (turn 1 ([]++(m.wholeAt 0).map Rl.toV) N4 (by decide) (.inr p0) (by simp at l0⊢;exact kJ l0 rfl)) λρ1 p1 t1=>aQ (turn 2 ([]++(m.wholeAt 0).map Rl.toV++(m.wholeAt 1).map Rl.toV) ρ1 (by decide) (.inr p1) (by simp at l0 l1⊢;exact kJ (QF l0 l1) rfl)) λρ2 p2 t2=>aQ (turn 3 ([]++(m.wholeAt 0).map Rl.toV++(m.wholeAt 1).map Rl.toV++(m.wholeAt 2).map Rl.toV) ρ2 (by decide) (.inr p2) (by simp at l0 l1 l2⊢;exact aZ [_,_,_] (.h 1 ab (.c 4) (.h 1 ae (.c 4) (.h 1 af (.c 4) (.g (.a (.a ab (.a ae af)) ai) (.c 60000))))) rfl l0 l1 l2)) λρ3 p3 t3=>k_ ?_;simp only[bY,fP,Gl,P8,lS,hr];refine(?_:Q2 (Ti _ _ _) _=_);rw[sn t0 t1 t2 t3];refine(gy rfl).trans ?_;delta Made.whole;simp only[ej,Qi];rfl
noncomputable def Made.sto(m:Made)(pv:List UInt8→V):aq:=[bq (m.lines 0),bq (m.lines 1),bq (m.lines 2),bq (m.lines 3),cb 5,.list ((m.lines 0).map pv),cb 7,.list ((m.lines 1).map pv),cb 9,.list ((m.lines 2).map pv),cb 11,.list ((m.lines 3).map pv)]
noncomputable def dG:V:=.list [.o 0,.o 1,.o 2,.o 3]
noncomputable def cJ:V:=.list [.o 4,.o 6,.o 8,.o 10]
theorem nO(hm:MadeOk m)(k:Nat):(m.lines k).length≤4:=by delta Made.lines Made.at;rw[KE];exact nT (RD _ _) hm.len
theorem qH(D n:Nat)(ρ:aF)(m:Made)(hm:MadeOk m)(pv:Ab→V)(hp:∀k,∀l∈m.lines k,cD (pv l)∧∀σ,call D σ (.cls 100) [.bytes l,.bool false]=some (pv l,σ))(h1:aE ρ 189=some dG):
 (ev (call (D+2)) (n+4)).e eZ ρ [bq (m.lines 0),bq (m.lines 1),bq (m.lines 2),bq (m.lines 3)] (.comp (.call (.g 129) [(.v 179)]) [(.mk (.v 179) (.v 189) [])] [])=some (cJ,m.sto pv):=by
 have turn:∀ (q:Nat) (ls:BL) (MQ:List V) (ρ:aF) (σ:aq),σ[q]?=some (bq ls)→ls.length<60000→(∀l∈ls,cD (pv l)∧∀σ,call D σ (.cls 100) [.bytes l,.bool false]=some (pv l,σ))→(ρ=[]∨∃v,ρ=[(179,v)])→MQ.length<65536→
  bG (ev (call (D+2)) (n+3)) ⟨0,[]⟩ (.call (.g 129) [(.v 179)]) (.v 179) [] [] (MQ,ρ,σ) (.o q)=some (MQ++[.o σ.length],[(179,.o q)],σ++[cb (σ.length+1),.list (ls.map pv)]):=by
  intro q ls MQ ρ σ hq hl hp M3 ha;have hb:bJ ⟨0,[]⟩ ρ σ (.v 179) (.o q)=some ([(179,.o q)],σ):=by rcases M3 with rfl|⟨v,rfl⟩<;>rfl
  delta bG;simp only[hb,P8,mR,if_true,kY,ha,(show(ev (call (D+2)) (n+3)).e ⟨0,[]⟩ [(179,.o q)] σ (.call (.g 129) [(.v 179)])=_ from ao rfl rfl rfl (qu D σ q ls pv hq hp hl)),QI]
 have ll:∀k,(m.lines k).length<60000:=λk=>by have:=nO hm k;exact kJ this rfl
 rw[bY,fP,jt rfl,ay h1];refine(?_:Q2 (Ti _ ([],[],_) _) _=_);rw[sn (turn 0 (m.lines 0) [] [] _ rfl (ll 0) (hp 0) (.inl rfl) (by decide)) (turn 1 (m.lines 1) _ _ _ rfl (ll 1) (hp 1) (.inr ⟨_,rfl⟩) (by simp)) (turn 2 (m.lines 2) _ _ _ rfl (ll 2) (hp 2) (.inr ⟨_,rfl⟩) (by simp)) (turn 3 (m.lines 3) _ _ _ rfl (ll 3) (hp 3) (.inr ⟨_,rfl⟩) (by simp))];exact gy rfl
noncomputable def Made.folder(m:Made):Bool:=m.kind==1||m.kind==2
noncomputable def Made.slash(m:Made):Bool:=m.kind==2&& !(m.rows.map Row.hazy).any id
noncomputable def Made.words(m:Made):List (Option Bool):=cm m.whole m.parts m.folder
noncomputable def Made.pruned(m:Made):Bool:=m.words.dropLast.any (· ==some false)
noncomputable def Made.due(m:Made):Option Bool:=mY m.whole m.words m.parts m.slash
noncomputable def Made.ft(m:Made)(pv:List UInt8→V)(k:Nat):Ft:=⟨4+2*k,5+2*k,(m.lines k).map pv⟩
noncomputable def Made.fts(m:Made)(pv:List UInt8→V):List Ft:=[m.ft pv 0,m.ft pv 1,m.ft pv 2,m.ft pv 3]
noncomputable def Made.look(m:Made)(pv:List UInt8→V):V:=yj m.homes (m.fts pv)
noncomputable def ed:List UInt8:=[33,42]
noncomputable def Made.sto3(m:Made)(pv:List UInt8→V):aq:=[bq (m.lines 0),bq (m.lines 1),bq (m.lines 2),bq (m.lines 3++[ed]),cb 5,.list ((m.lines 0).map pv),cb 7,.list ((m.lines 1).map pv),cb 9,.list ((m.lines 2).map pv),cb 11,.list ((m.lines 3++[ed]).map pv)]
noncomputable def mE(l:List UInt8)(v:V):Prop:=∃neg only p0 P1 P2,v=iz l neg only p0 P1 P2
structure PvOk(m:Made)(pv:List UInt8→V):Prop where
 at_:∀k,∀l∈m.lines k,mE l (pv l)∧∀σ,call 37 σ (.cls 100) [.bytes l,.bool false]=some (pv l,σ)
 back:mE ed (pv ed)∧∀σ,call 38 σ (.cls 100) [.bytes ed,.bool false]=some (pv ed,σ)
structure LawH(m:Made)(pv:List UInt8→V):Prop where
 prune:call 39 (m.sto pv) (.fn 36) [m.look pv,.str (m.asked++[47].take m.turn)]=some (.bool m.pruned,m.sto pv)
 inner:m.pruned=true→call 39 (m.sto pv) (.fn 34) [m.look pv,.str (m.text++[47,98]),.bool m.folder]=some (.bool true,m.sto pv)
 stack:m.many=0→∀o:List Nat,(o=[0,1,2,3]∨o=[3,2,1,0])→call 39 (m.sto pv) (.fn 49) [.list (o.map λk=>.o (4+2*k)),.list (o.map λk=>ej (m.rules k)),bl m.parts,.str m.text,.bool m.slash]=some (.bool true,m.sto pv)
 dec:m.kind≠3→call 39 (m.sto pv) (.fn 34) [m.look pv,.str (m.text++if m.slash then[47] else[]),.bool m.folder]=some (ck m.due,m.sto pv)
 dec3:m.kind=3→call 39 (m.sto3 pv) (.fn 34) [m.look pv,.str (m.text++if m.slash then[47] else[]),.bool m.folder]=some (.bool m.pruned,m.sto3 pv)
theorem sm(d:Nat)(σ:aq)(a:Option Bool):call (d+2) σ (.fn 47) [ck a,ck a]=some (.bool true,σ):=by rw[rY d σ a a,show(a==a)=true from beq_self_eq_true _]
theorem lH(hm:MadeOk m):m.text.length≤9∧m.asked.length≤6:=by
 refine ty (ci hm) λpf ff o_ fl=>?_;have pl:m.parts.length≤3:=by delta Made.parts;simp;exact fl
 delta Made.text Made.asked strN;simp only[KE]
 (first|exact⟨aZ [_,_] (.h 1 ab (.m 3 ae) (.h 3 ae (.c 3) (.g ab (.c 9)))) rfl ((fL pf).2) pl,aZ [_,_] (.h 1 ab (.m 3 ae) (.h 3 ae al (.g ab (.c 6)))) rfl ((fL ff).2) fl⟩)
theorem wb(ls:List BL)(pv:Ab→V)(l0 l1 l2 l3:BL)(h0:σ[0]?=some (bq l0))(h1:σ[1]?=some (bq l1))(h2:σ[2]?=some (bq l2))(h3:σ[3]?=some (bq l3))(f0:dJ σ ⟨4,5,l0.map pv⟩)(f1:dJ σ ⟨6,7,l1.map pv⟩)(f2:dJ σ ⟨8,9,l2.map pv⟩)(f3:dJ σ ⟨10,11,l3.map pv⟩)(hp:∀l,l∈l0∨l∈l1∨l∈l2∨l∈l3→mE l (pv l))(hl:l0.length<60000∧l1.length<60000∧l2.length<60000∧l3.length<60000)(g1:aE ρ 119=some cJ)(g2:aE ρ 189=some dG):(ev (call (d+1)) (n+6)).e eZ ρ σ (.p (.comp (.comp (.attr (.v 69) 69) [(.mk (.v 69) (.attr (.v 176) 130) [])] []) [(.mk (.v 176) (.v 119) [])] []) [.eq] [(.v 189)])=some (.bool true,σ):=by
 have turn:∀ (q mm:Nat) (l:BL) (MQ:List V) (ρ:aF),dJ σ ⟨q,mm,l.map pv⟩→(∀x∈l,mE x (pv x))→l.length<60000→(ρ=[]∨∃v,ρ=[(176,v)])→MQ.length<65536→
  bG (ev (call (d+1)) (n+4)) ⟨0,[]⟩ (.comp (.attr (.v 69) 69) [(.mk (.v 69) (.attr (.v 176) 130) [])] []) (.v 176) [] [] (MQ,ρ,σ) (.o q)=some (MQ++[bl l],[(176,.o q)],σ):=by
  intro q mm l MQ ρ hf hp hl M3 ha
  have MY:cU (bG (ev (call (d+1)) (n+3)) ⟨0,[]⟩ (.attr (.v 69) 69) (.v 69) [] []) (λρ=>ρ=[]∨∃v,ρ=[(69,v)]) σ pv (λx=>[V.bytes x]) l:=by intro x hx MQ ρ M3 ha;obtain⟨neg,only,p0,P1,P2,e⟩:=hp x hx;refine a7 ([(69,pv x)]) (.inr ⟨_,rfl⟩) (eC (by rcases M3 with rfl|⟨v,rfl⟩<;>rfl) (dY rfl ?_) ha);rw[e];rfl
  have hc:=cV (λx=>by simp) (c:=⟨0,[]⟩) (ρ:=[(176,.o q)]) (it:=.attr (.v 176) 130) (frees:=[]) rfl rfl (nQ hf rfl) (by refine(?_:(match σ[mm]? with|some (.list xs)=>some xs|_=>none)=_);have:=hf.2;simp only at this;exact this▸rfl) rfl (.inl rfl) MY (cj hl rfl)
  rw[dj] at hc;exact eC (by rcases M3 with rfl|⟨v,rfl⟩<;>rfl) hc ha
 have e1:(ev (call (d+1)) (n+5)).e eZ ρ σ (.comp (.comp (.attr (.v 69) 69) [(.mk (.v 69) (.attr (.v 176) 130) [])] []) [(.mk (.v 176) (.v 119) [])] [])=some (.list [bl l0,bl l1,bl l2,bl l3],σ):=by rw[bY,fP,jt rfl,ay g1];refine(?_:Q2 (Ti _ _ _) _=_);refine(sn (turn 4 5 l0 [] [] f0 (λx h=>hp x (.inl h)) hl.1 (.inl rfl) (by decide)) (turn 6 7 l1 _ _ f1 (λx h=>hp x (.inr (.inl h))) hl.2.1 (.inr ⟨_,rfl⟩) (by simp)) (turn 8 9 l2 _ _ f2 (λx h=>hp x (.inr (.inr (.inl h)))) hl.2.2.1 (.inr ⟨_,rfl⟩) (by simp)) (turn 10 11 l3 _ _ f3 (λx h=>hp x (.inr (.inr (.inr h)))) hl.2.2.2 (.inr ⟨_,rfl⟩) (by simp)))▸?_;exact gy rfl
 refine aC e1 (ay g2) ?_
 have one:∀ (q:Nat) (l:BL),σ[q]?=some (bq l)→G3 σ 3 (bl l) (.o q)=some true:=by intro q l h;refine(?_:(match some (l.map V.bytes),(match σ[q]? with|some (.list xs)=>some xs|_=>none) with|some xs,some ys=>if(xs.length==ys.length)=true then Bl _ xs ys else some false|_,_=>none)=_);refine h▸?_;refine(?_:(if((l.map V.bytes).length==(l.map V.bytes).length)=true then Bl _ _ _ else some false)=_);rw[iP (beq_self_eq_true _),uy 1,show(l==l)=true from beq_self_eq_true _]
 refine(?_:Bl _ _ _=_);simp only[Hr,II,one 0 l0 h0,one 1 l1 h1,one 2 l2 h2,one 3 l3 h3];rfl
theorem sT(m:Made)(pv:Ab→V):dJ (m.sto pv) (m.ft pv 0)∧dJ (m.sto pv) (m.ft pv 1)∧dJ (m.sto pv) (m.ft pv 2)∧dJ (m.sto pv) (m.ft pv 3):=⟨⟨rfl,rfl⟩,⟨rfl,rfl⟩,⟨rfl,rfl⟩,⟨rfl,rfl⟩⟩
noncomputable abbrev J7:E:=.not (.call (.g 169) [(.call (.g 123) [(.v 192),(.bin .add (.v 7) (.ite (.v 168) (.k (.str [47])) (.k (.str [])))),(.v 163)]),(.v 171)])
theorem x9(m:Made)(hm:MadeOk m)(pv:Ab→V)(due:Option Bool)(h:call 39 σ (.fn 34) [m.look pv,.str (m.text++if m.slash then[47] else[]),.bool m.folder]=some (ck due,σ))(g1:aE ρ 192=some (m.look pv))(g2:aE ρ 7=some (.str m.text))(g3:aE ρ 168=some (.bool m.slash))(g4:aE ρ 163=some (.bool m.folder))(g5:aE ρ 171=some (ck due)):(ev (call 39) (n+8)).e eZ ρ σ J7=some (.bool false,σ):=by
 have tl:=(lH hm).1
 have a1:(ev (call 39) (n+5)).e eZ ρ σ (.bin .add (.v 7) (.ite (.v 168) (.k (.str [47])) (.k (.str []))))=some (.str (m.text++if m.slash then[47] else[]),σ):=by
  induction hs:m.slash using bC with
  |true=>rw[hs] at g3;exact aX (ay g2) (bV (ay g3) rfl rfl) (oE (by simp;exact cj tl rfl))|false=>rw[hs] at g3;exact aX (ay g2) (bN (ay g3) rfl rfl) (oE (by simp;exact cj tl rfl))
 exact eV (ao rfl rfl (am (ao rfl rfl (am (ay g1) (am a1 (am (ay g4) rfl))) h) (am (ay g5) rfl)) (sm 37 σ _)) rfl
theorem FN(ρ:aF)(m:Made)(hm:MadeOk m)(pv:Ab→V)(ok:PvOk m pv)(H:LawH m pv)(hw:RsOk m.whole)(hp:PsOk m.parts)(OG:m.parts.length<30000)(g1:aE ρ 192=some (m.look pv))(g2:aE ρ 7=some (.str m.text))(g3:aE ρ 168=some (.bool m.slash))(g4:aE ρ 163=some (.bool m.folder))(g5:aE ρ 191=some (ej m.whole))(g6:aE ρ 167=some (zY m.words))(g7:aE ρ 27=some (bl m.parts))(g8:aE ρ 28=some (.int m.kind))(g9:aE ρ 119=some cJ)(O9:aE ρ 189=some dG)(g11:aE ρ 193=some (.bool m.pruned)):∃σ',fu (ev (call 39) 399) eZ ρ (m.sto pv) (rz.drop 24) (.bool true) σ':=by
 have e0:(ev (call 39) 399).e eZ ρ _ (.call (.g 166) [_,_,_,_])=some (ck m.due,m.sto pv):=
  ao rfl rfl (am (ay g5) (am (ay g6) (am (ay g7) (am (ay g3) rfl)))) (rn m.whole m.words m.parts m.slash (m.sto pv) 15 (rq (by delta Made.parts;simp)) hw hp OG)
 have G:∀ {x:Nat} {v:V},_=false→aE ρ x=some v→aE (bT ρ 171 (ck m.due)) x=some v:=λh k=>(bM h).trans k;have fo:=sT m pv;have ll:=λk=>nO hm k
 induction hk:(m.kind==3) using bC with
 |false=>
  have NZ:m.kind≠3:=λe=>by rw[e] at hk;cases hk
  refine⟨m.sto pv,aJ e0 (gw.trans (by rw[qa rfl];rfl)) (aH (aC (ay (G rfl g8)) rfl (eR _ _)) (by rw[hk];rfl) rfl rfl
   (aH (x9 m hm pv m.due (H.dec NZ) (G rfl g1) (G rfl g2) (G rfl g3) (G rfl g4) get_set) rfl rfl rfl (aO ?_)))⟩
  exact wb [] pv (m.lines 0) (m.lines 1) (m.lines 2) (m.lines 3) rfl rfl rfl rfl fo.1 fo.2.1 fo.2.2.1 fo.2.2.2 (λl h=>by rcases h with h|h|h|h<;>exact(ok.at_ _ l h).1)
   (by have:=ll 0;have:=ll 1;have:=ll 2;have:=ll 3;(clear hm ok H hw hp OG g1 g2 g3 g4 g5 g6 g7 g8 g9 O9 g11 e0 G fo ll hk NZ;omega)) (G rfl g9) (G rfl O9)
 |true=>
  have NZ:m.kind=3:=by simpa using hk
  have hap:=md 38 (m.sto pv) (m.ft pv 3) ed (pv ed) fo.2.2.2 (MC ok.back.1 λa b c d e f=>⟨_,a,b,c,d,e,f⟩) (by refine(?_:((m.lines 3).map pv).length<65536);rw[KE];have:=ll 3;(clear hm ok H hw hp OG g1 g2 g3 g4 g5 g6 g7 g8 g9 O9 g11 e0 G fo ll hk NZ;exact kJ this rfl)) (ok.back.2 _)
  have NR:(m.sto pv).set (m.ft pv 3).m (.list ((m.ft pv 3).pats++[pv ed]))=[bq (m.lines 0),bq (m.lines 1),bq (m.lines 2),bq (m.lines 3),cb 5,.list ((m.lines 0).map pv),cb 7,.list ((m.lines 1).map pv),cb 9,.list ((m.lines 2).map pv),cb 11,.list ((m.lines 3++[ed]).map pv)]:=by refine Qi▸?_;rfl
  simp only[NR] at hap;generalize M3:bT ρ 171 (ck m.due)=ρ1 at G;have g12:aE ρ1 171=some (ck m.due):=by refine M3▸?_;exact get_set
  have a1:(ev (call 39) 398).e eZ ρ1 (m.sto pv) (.m (.sub (.v 119) (.k (.int 3))) 134 [(.k (.bytes [33,42]))])=_:=
   aS (aU (ay (G rfl g9)) rfl rfl) rfl rfl hap
  have a2:(ev (call 39) 398).e eZ ρ1 [bq (m.lines 0),bq (m.lines 1),bq (m.lines 2),bq (m.lines 3),cb 5,.list ((m.lines 0).map pv),cb 7,.list ((m.lines 1).map pv),cb 9,.list ((m.lines 2).map pv),cb 11,.list ((m.lines 3++[ed]).map pv)]
   (.m (.sub (.v 189) (.k (.int 3))) 195 [(.k (.bytes [33,42]))])=some (.none,m.sto3 pv):=by
   have hl:((m.lines 3).map V.bytes).length<65536:=by rw[KE];have:=ll 3;exact kJ this rfl
   rw[bY,mw,aU (ay (G rfl O9)) rfl rfl,P8,xW];show(if _ then _ else none)=_;rw[iP (by simp only[decide_eq_true hl];rfl)];delta Made.sto3 bq;rw[show(m.lines 3++[ed]).map V.bytes=(m.lines 3).map V.bytes++[V.bytes ed] from Qi];rfl
  refine⟨m.sto3 pv,aJ e0 (gw.trans (by rw[qa rfl,M3];rfl)) (jF (aC (ay (G rfl g8)) (y:=.int ((3:Nat):Int)) rfl (eR _ _)) (by rw[hk];rfl)
   (cC (el a1 (el a2 (aI (ay (G rfl g11)) (ρ1:=bT ρ1 171 (.bool m.pruned)) (gw.trans (by rw[qa rfl];rfl)) aw))))
   (aH (x9 m hm pv (some m.pruned) (H.dec3 NZ) ((bM rfl).trans (G rfl g1)) ((bM rfl).trans (G rfl g2)) ((bM rfl).trans (G rfl g3)) ((bM rfl).trans (G rfl g4)) get_set) rfl rfl rfl (aO ?_)))⟩
  exact wb [] pv (m.lines 0) (m.lines 1) (m.lines 2) (m.lines 3++[ed]) rfl rfl rfl rfl ⟨rfl,rfl⟩ ⟨rfl,rfl⟩ ⟨rfl,rfl⟩ ⟨rfl,rfl⟩ (λl h=>by
   rcases h with h|h|h|h
   ·exact(ok.at_ _ l h).1
   ·exact(ok.at_ _ l h).1
   ·exact(ok.at_ _ l h).1
   ·rcases Qh.mp h with h|h
    ·exact(ok.at_ _ l h).1
    ·rw[mA h];exact ok.back.1)
   (by have:=ll 0;have:=ll 1;have:=ll 2;have:=ll 3;simp;(clear hm ok H hw hp OG g1 g2 g3 g4 g5 g6 g7 g8 g9 O9 g11 e0 fo ll hk NZ hap NR M3 G g12 a1 a2;omega)) ((bM rfl).trans (G rfl g9)) ((bM rfl).trans (G rfl O9))
theorem qy(hm:MadeOk m):RsOk m.whole:=by
 have ln:∀k,(m.wholeAt k).length≤4:=λk=>by delta Made.wholeAt;rw[KE];exact gV hm k
 have mem:∀k,∀r∈m.wholeAt k,r.comps.length≤8∧∀c∈r.comps,c.length≤8:=by
  intro k r hr;refine jz hr λq hq z1=>?_;subst z1;refine dR (iE hm hq) λa b o_=>?_;have:=q6 m k;refine⟨by simp;exact cj (QF this a) rfl,λc hc=>?_⟩;rcases Qh.mp hc with h|h
  ·have:∀c∈m.fold,c.length≤2:=λc h=>by refine aQ ((ci hm).2.1 c h) λi hi z1=>?_;subst z1;exact(j9 hi).2.1
   have Ot:c∈m.fold:=by
    rcases k with _|_|_|_|k
    ·exact absurd h Qd
    ·exact absurd h Qd
    ·exact QY (h)
    ·exact h
    ·exact absurd h Qd
   have:=this c Ot;exact cj this rfl
  ·have:=b c h;exact cj this rfl
 delta Made.whole;refine⟨?_,λr hr=>?_⟩
 ·have:=ln 0;have:=ln 1;have:=ln 2;have:=ln 3;simp only[Qa];lia
 ·simp only[Qh] at hr;rcases hr with((h|h)|h)|h<;>exact mem _ r h
theorem qX(hm:MadeOk m):PsOk m.parts∧m.parts.length≤3:=by
 refine ty (ci hm) λpf o_ o_ fl=>?_;have:m.parts.length≤3:=by delta Made.parts;simp;exact fl
 exact⟨⟨by omega,λp hp=>by refine aQ (pf p hp) λk hk z3=>?_;subst z3;have:=(j9 hk).2.1;lia⟩,this⟩
noncomputable abbrev Made.ρ2(m:Made)(pv:List UInt8→V)(sc:V)(tl:aF):aF:=m.ρ1 sc ((173,bp m.homes)::(189,dG)::(162,m.rulesV)::(191,ej m.whole)::(119,cJ)::(192,m.look pv)::(163,.bool m.folder)::(168,.bool m.slash)::(167,zY m.words)::(193,.bool m.pruned)::tl)
theorem AM(ρ:aF)(σ:aq)(m:Made)(hm:MadeOk m)(h1:aE ρ 186=some m.rowsV)(n:Nat):(ev cl (n+4)).e eZ ρ σ (.comp (.v 190) [(.mk lw (.v 186) [])] [])=some (.list ((m.rows.map Row.hazy).map .bool),σ):=by
 have MY:cU (bG (ev cl (n+3)) ⟨0,[]⟩ (.v 190) lw [] []) (λρ=>ρ=[]∨∃r,ρ=y8 [] r) σ Row.toV (λr=>[V.bool r.hazy]) m.rows:=by intro r o_ MQ ρ M3 ha;exact a7 (y8 [] r) (.inr ⟨r,rfl⟩) (eC (by rcases M3 with rfl|⟨r',rfl⟩<;>rfl) rfl ha)
 have hc:=cV (λx=>by simp) (c:=eZ) (it:=.v 186) (frees:=[]) rfl rfl (ay h1) rfl rfl (.inl rfl) MY (by have:=hm.len;exact kJ this rfl);rw[dj] at hc;refine hc▸?_;refine Qk▸?_;rfl
theorem pick_run(n:Nat)(ρ:aF)(σ:aq)(x:Nat)(Oi:V)(f:Nat→V)(o:List Nat)(h1:aE ρ x=some Oi)(h2:aE ρ 194=some (.list (aM o)))(hx:x≠1)(hs:∀k∈o,fJ σ Oi (.int (k:Nat))=some (f k))(hl:o.length<60000):(ev cl (n+4)).e eZ ρ σ (.comp (.sub (.v x) (.v 1)) [(.mk (.v 1) (.v 194) [])] [x])=some (.list (o.map f),σ):=by
 have hr:bB ρ [x]=[(x,Oi)]:=by simp only[cX h1,et]
 have hb:∀ (v w:V) (k:Nat),bT [(x,Oi)] 1 w=[(x,Oi),(1,w)]∧bT [(x,Oi),(1,v)] 1 w=[(x,Oi),(1,w)]:=λv w k=>by
  have:(x==1)=false:=by simp;exact hx
  rw[jf this,jf this];exact⟨rfl,rfl⟩
 have MY:cU (bG (ev cl (n+3)) ⟨0,[]⟩ (.sub (.v x) (.v 1)) (.v 1) [] []) (λρ=>ρ=[(x,Oi)]∨∃v,ρ=[(x,Oi),(1,v)]) σ (λ(k:Nat)=>V.int k) (λk=>[f k]) o:=by
  intro k hk MQ ρ M3 ha;refine a7 ([(x,Oi),(1,.int k)]) (.inr ⟨_,rfl⟩) (eC ?_ (aU (ay k9) (ay ?_) (hs k hk)) ha)
  ·simp only[gw,iX];rcases M3 with rfl|⟨v,rfl⟩
   ·rw[(hb .none (.int k) k).1];rfl
   ·rw[(hb v (.int k) k).2];rfl
  ·rw[fA (by simp;exact λe=>hx e.symm),k9]
 have hc:=cV (λx=>by simp) (c:=eZ) (it:=.v 194) rfl rfl (ay h2) rfl hr (.inl rfl) MY (cj hl rfl);simp only[dj] at hc;exact hc
theorem Cc(MR:List Int)(hH:∀m,MadeOk m→∃pv,PvOk m pv∧LawH m pv):∃σ,call 40 [] (.fn 50) [.list (MR.map .int)]=some (.bool true,σ):=by
 refine aQ (Lk 36 MR) λm hm start=>?_;refine aQ (hH m hm) λpv ok H=>?_;refine d7 (qX hm) λhp OG=>?_;have tl:=lH hm
 suffices h:∃σ',fu (ev (call 39) 399) eZ [(181,.list (MR.map .int))] [] rz (.bool true) σ' by obtain⟨σ',ρ',h⟩:=h;exact⟨[],cH (F:=⟨[181],[],rz,[119,173]⟩) rfl rfl rfl h rfl rfl⟩
 generalize hsc:V.list (MR.map .int)=sc at start
 have fin:∀tl,(tl=[]∨∃v,tl=[(194,v)])→∃σ',fu (ev (call 39) 399) eZ (m.ρ2 pv sc tl) (m.sto pv) (rz.drop 24) (.bool true) σ':=λtl Ni=>FN _ m hm pv ok H (qy hm) hp (kJ OG rfl) rfl rfl rfl rfl rfl rfl rfl rfl rfl rfl rfl
 have mid:∃σ',fu (ev (call 39) 399) eZ (m.ρ2 pv sc []) (m.sto pv) (rz.drop 23) (.bool true) σ':=by
  induction hk:(m.many==0) using bC with
  |false=>refine ek (fin [] (.inl rfl)) λσ' k=>?_;exact⟨σ',aH (w:=.bool (m.many==0)) (aC (x:=.int m.many) (y:=.int ((0:Nat):Int)) rfl rfl (eR _ _)) (by rw[hk];rfl) rfl rfl k⟩
  |true=>
   have OX:m.many=0:=by simpa using hk
   have ho:∃o:List Nat,(o=[0,1,2,3]∨o=[3,2,1,0])∧(ev (call 39) 398).e eZ (m.ρ2 pv sc []) (m.sto pv) (.ite (.p (.bin .mod (.v 183) (.k (.int 2))) [.eq] [(.k (.int 0))]) (.list [(.k (.int 0)),(.k (.int 1)),(.k (.int 2)),(.k (.int 3))]) (.list [(.k (.int 3)),(.k (.int 2)),(.k (.int 1)),(.k (.int 0))]))=some (.list (aM o),m.sto pv):=by
    have eq2:(ev (call 39) 397).e eZ (m.ρ2 pv sc []) (m.sto pv) (.p (.bin .mod (.v 183) (.k (.int 2))) [.eq] [(.k (.int 0))])=some (.bool (m.ask % 2==0),m.sto pv):=by refine aC (x:=.int ((m.ask % 2:Nat):Int)) (y:=.int ((0:Nat):Int)) (aX (x:=.int m.ask) (y:=.int 2) rfl rfl ?_) rfl (eR _ _);refine(?_:(if(2:Int)>0 then some (V.int ((m.ask:Int) % 2)) else none)=_);rw[iP (by decide)];rfl
    induction h2:(m.ask % 2==0) using bC with
    |true=>rw[h2] at eq2;exact⟨[0,1,2,3],.inl rfl,bV eq2 rfl rfl⟩|false=>rw[h2] at eq2;exact⟨[3,2,1,0],.inr rfl,bN eq2 rfl rfl⟩
   refine aQ ho λo ho eo=>?_;have hol:o.length<60000∧∀k∈o,k<4:=by rcases ho with rfl|rfl<;>decide
   obtain⟨σ',k⟩:=fin [(194,.list (aM o))] (.inr ⟨_,rfl⟩)
   have e1:(ev (call 39) 396).e eZ (m.ρ2 pv sc [(194,.list (aM o))]) (m.sto pv) (.comp (.sub (.v 119) (.v 1)) [(.mk (.v 1) (.v 194) [])] [119])=some (.list (o.map λk=>.o (4+2*k)),m.sto pv):=
    pick_run 392 _ _ 119 cJ _ o rfl rfl (by decide) (λk hk=>by have:=hol.2 k hk;rcases I5 this with rfl|rfl|rfl|rfl<;>rfl) hol.1
   have e2:(ev (call 39) 396).e eZ (m.ρ2 pv sc [(194,.list (aM o))]) (m.sto pv) (.comp (.sub (.v 162) (.v 1)) [(.mk (.v 1) (.v 194) [])] [162])=some (.list (o.map λk=>ej (m.rules k)),m.sto pv):=
    pick_run 392 _ _ 162 m.rulesV _ o rfl rfl (by decide) (λk hk=>by have:=hol.2 k hk;rcases I5 this with rfl|rfl|rfl|rfl<;>rfl) hol.1
   refine I8 σ' (jF (w:=.bool (m.many==0)) (aC (x:=.int m.many) (y:=.int ((0:Nat):Int)) rfl rfl (eR _ _)) (by rw[hk];rfl) (ρ1:=m.ρ2 pv sc [(194,.list (aM o))]) (σ2:=m.sto pv)
    (cC (aI eo rfl (aR (v:=.bool false) (eV (v:=.bool true) (t:=true) (ao (fv:=.fn 49) rfl rfl (am e1 (am e2 (am (v:=bl m.parts) rfl (am (v:=.str m.text) rfl (am (v:=.bool m.slash) (vs:=[]) rfl rfl))))) (H.stack OX o ho)) rfl) rfl rfl aw))) k)
 refine ek mid λσ' mid=>?_;refine I8 σ' (start _ _ ?_);refine aJ (wz (cl:=call 39) 395 (m.ρ1 sc []) [] m rfl) rfl (aJ (wV (cl:=call 39) 393 (m.ρ1 sc [(173,bp m.homes)]) m hm rfl) rfl (aJ (wm (cl:=call 39) 393 (m.ρ1 sc [(173,bp m.homes),(189,dG)]) [bq (m.lines 0),bq (m.lines 1),bq (m.lines 2),bq (m.lines 3)] m hm rfl) rfl (aJ (whole_run (cl:=call 39) 393 (m.ρ1 sc [(173,bp m.homes),(189,dG),(162,m.rulesV)]) [bq (m.lines 0),bq (m.lines 1),bq (m.lines 2),bq (m.lines 3)] m hm rfl rfl) rfl (aJ (qH 37 395 (m.ρ1 sc [(173,bp m.homes),(189,dG),(162,m.rulesV),(191,ej m.whole)]) m hm pv (λk l h=>⟨⟨_,(ok.at_ k l h).1⟩,(ok.at_ k l h).2⟩) rfl) rfl ?_))));refine aJ (w:=m.look pv) rfl (ρ1:=m.ρ1 sc [(173,bp m.homes),(189,dG),(162,m.rulesV),(191,ej m.whole),(119,cJ),(192,m.look pv)]) rfl ?_
 have ef:(ev (call 39) 399).e eZ (m.ρ1 sc [(173,bp m.homes),(189,dG),(162,m.rulesV),(191,ej m.whole),(119,cJ),(192,m.look pv)]) (m.sto pv) (.b false [(.p (.v 28) [.eq] [(.k (.int 1))]),(.p (.v 28) [.eq] [(.k (.int 2))])])=some (.bool m.folder,m.sto pv):=by
  have e1:∀k:Nat,IV (.int (k:Nat))=true→(ev (call 39) 398).e eZ (m.ρ1 sc [(173,bp m.homes),(189,dG),(162,m.rulesV),(191,ej m.whole),(119,cJ),(192,m.look pv)]) (m.sto pv) (.p (.v 28) [.eq] [(.k (.int (k:Nat)))])=some (.bool (m.kind==k),m.sto pv):=λk o_=>aC (x:=.int m.kind) rfl rfl (eR _ _);delta Made.folder
  induction h:(m.kind==1) using bC with
  |true=>exact av (oX (v:=.bool true) ((e1 1 rfl).trans (by rw[h])) rfl)|false=>exact av (o8 (v:=.bool false) ((e1 1 rfl).trans (by rw[h])) rfl (cw (e1 2 rfl)))
 refine aJ ef rfl ?_
 have es:(ev (call 39) 399).e eZ (m.ρ1 sc [(173,bp m.homes),(189,dG),(162,m.rulesV),(191,ej m.whole),(119,cJ),(192,m.look pv),(163,.bool m.folder)]) (m.sto pv) (.b true [(.p (.v 28) [.eq] [(.k (.int 2))]),(.p (.k (.bool true)) [.notIn] [(.comp (.v 190) [(.mk lw (.v 186) [])] [])])])=some (.bool m.slash,m.sto pv):=by
  have e1:(ev (call 39) 398).e eZ (m.ρ1 sc [(173,bp m.homes),(189,dG),(162,m.rulesV),(191,ej m.whole),(119,cJ),(192,m.look pv),(163,.bool m.folder)]) (m.sto pv) (.p (.v 28) [.eq] [(.k (.int 2))])=some (.bool (m.kind==2),m.sto pv):=aC (x:=.int m.kind) (y:=.int ((2:Nat):Int)) rfl rfl (eR _ _);delta Made.slash
  induction h:(m.kind==2) using bC with
  |false=>rw[h] at e1;exact av (bH e1 rfl)|true=>rw[h] at e1;refine av (bw e1 rfl (cw (aC (x:=.bool true) rfl (AM (m.ρ1 sc [(173,bp m.homes),(189,dG),(162,m.rulesV),(191,ej m.whole),(119,cJ),(192,m.look pv),(163,.bool m.folder)]) (m.sto pv) m hm rfl 393 (cl:=call 39)) ?_)));refine(?_:(wv _ _ _).map not=_);rw[oT];rfl
 refine aJ es rfl ?_;refine aJ (ao rfl rfl rfl (ly m.whole m.parts m.folder (m.sto pv) 15 (qy hm) hp)) rfl ?_
 refine aJ (w:=.bool m.pruned) (aC rfl (aK (ov:=zY m.words) rfl rfl rfl (by refine(?_:some (V.list _)=_);rw[lX,←List.map_dropLast])) (yc _)) rfl ?_
 have ep:(ev (call 39) 399).e eZ (m.ρ2 pv sc []) (m.sto pv) (.not (.call (.g 169) [(.call (.g 128) [(.v 192),(.bin .add (.v 188) (.l (.k (.str [47])) none (some (.v 152))))]),(.v 193)]))=some (.bool false,m.sto pv):=by
  have hturn:=hm.turn
  have a1:(ev (call 39) 396).e eZ (m.ρ2 pv sc []) (m.sto pv) (.bin .add (.v 188) (.l (.k (.str [47])) none (some (.v 152))))=some (.str (m.asked++[47].take m.turn),m.sto pv):=by refine aX rfl (aK rfl rfl rfl ?_) (oE (by simp;exact cj (QF tl.2 (QM _ _)) rfl));refine(?_:RM (if(0:Int)≤_∧(m.turn:Int)≤([47]:List Nat).length then some _ else none) _=_);rw[iP (by constructor<;>simp;lia)];rfl
  exact eV (t:=true) (ao rfl rfl (am (v:=ck (some m.pruned)) (ao rfl rfl (am rfl (am a1 rfl)) H.prune) (am rfl rfl)) (sm 37 _ _)) rfl
 have ei:∃v,(ev (call 39) 399).e eZ (m.ρ2 pv sc []) (m.sto pv) (.b true [(.v 193),(.not (.call (.g 169) [(.call (.g 123) [(.v 192),(.bin .add (.v 7) (.k (.str [47,98]))),(.v 163)]),(.k (.bool true))]))])=some (v,m.sto pv)∧aN (m.sto pv) v=some false:=by
  induction h:m.pruned using bC with
  |false=>exact⟨.bool false,av (bH (S7 (b:=some (V.bool m.pruned,m.sto pv)) rfl (by rw[h])) rfl),rfl⟩|true=>refine⟨.bool false,av (bw (S7 (b:=some (V.bool m.pruned,m.sto pv)) rfl (by rw[h])) rfl (cw (eV (t:=true) (ao rfl rfl (am (v:=ck (some true)) (ao rfl rfl (am rfl (am (aX rfl rfl (oE (by simp;exact cj tl.1 rfl))) (am rfl rfl))) (H.inner h)) (am rfl rfl)) (sm 37 _ _)) rfl))),rfl⟩
 exact aQ ei λvi ei ti=>aH ep rfl rfl rfl (aH ei ti rfl rfl mid)
noncomputable def rG:RP:=.grp [.oct true [] .star,.oct false [47] .one] .opt
noncomputable def rN:RP:=.grp [.oct true [47] .plus,.oct false [47] .one] .star
noncomputable def BG:RP:=.oct true [] .star
noncomputable def Hj:RP:=.oct false [47] .one
noncomputable def nD(s:List UInt8):List RP:=if s==[42] then[.oct true [47] .plus] else s.map λc=>if c==42 then .oct true [47] .star else if c==63 then .oct true [47] .one else .oct false [c.toNat] .one
noncomputable def yR(i:Nat)(rest:BL):List RP:=if rest.all (·.isEmpty) then(if rest.isEmpty then[BG] else[BG,Hj]) else if i==0 then[rG] else[rN]
noncomputable def qm:Nat→List UInt8→BL→List RP
 |_,_,[]=>[]|i,p,s::rest=>(if decide (0<i)&& !(p==[42,42]) then[Hj] else[])++(if s==[42,42] then(if hV i rest==[46,42] then[BG] else yR i rest++qm (i+1) s rest) else nD s++qm (i+1) s rest)
theorem Es:qm i p []=[]:=rfl
theorem zx{rest:List Ab}:qm i p (s::rest)=(if decide (0<i)&& !p==[42,42] then[Hj] else[])++if s==[42,42] then if hV i rest==[46,42] then[BG] else yR i rest++qm (i+1) s rest else nD s++qm (i+1) s rest:=rfl
noncomputable def Gd(u:List UInt8):Prop:=∃c t,u=c::t∧c≠42∧c≠43∧c≠63
section
variable {u:Ab} {qs:List RP} {G:Ab→List RP→Ab→Prop} {t2:Ab}
theorem fg{c:UInt8}(hc:c∈lets)(hu:Gd u)(h:Rd G u qs t2):Rd G (c::u) (.oct false [c.toNat] .one::qs) t2:=by obtain⟨x,t,rfl,a,b,e⟩:=hu;exact .step (.lit hc) (.one a b e) h
theorem Gk(hu:Gd u)(h:Rd G u qs t2):Rd G ([91,94,47,93]++u) (.oct true [47] .one::qs) t2:=by obtain⟨x,t,rfl,a,b,e⟩:=hu;exact .step .cls (.one a b e) h
theorem vv(hu:Gd u)(h:Rd G u qs t2):Rd G ([91,94,47,93,42]++u) (.oct true [47] .star::qs) t2:=by obtain⟨x,t,rfl,a,b,e⟩:=hu;exact .step .cls (.star e) h
theorem uV(hu:Gd u)(h:Rd G u qs t2):Rd G ([91,94,47,93,43]++u) (.oct true [47] .plus::qs) t2:=by obtain⟨x,t,rfl,a,b,e⟩:=hu;exact .step .cls (.plus e) h
theorem zw(hu:Gd u)(h:Rd G u qs t2):Rd G ([46,42]++u) (BG::qs) t2:=by obtain⟨x,t,rfl,a,b,e⟩:=hu;exact .step .dot (.star e) h
theorem GJ(hu:Gd u)(h:Rd G u qs t2):Rd G ([47,63]++u) (.oct false [47] .opt::qs) t2:=by obtain⟨x,t,rfl,a,b,e⟩:=hu;exact .step (.lit (by decide)) (.opt e) h
end
theorem yH{G:Ab→List RP→Ab→Prop}:Rd G [92,90] [.fin .one] []:=.step .fin .one0 .nil
theorem DJ(u:Ab):Lm (46::42::47::41::u) [.oct true [] .star,.oct false [47] .one] (41::u):=
 zw ⟨47,_,rfl,by decide,by decide,by decide⟩ (fg (by decide) ⟨41,_,rfl,by decide,by decide,by decide⟩ .close)
theorem Ij(u:Ab):Lm (91::94::47::93::43::47::41::u) [.oct true [47] .plus,.oct false [47] .one] (41::u):=
 uV ⟨47,_,rfl,by decide,by decide,by decide⟩ (fg (by decide) ⟨41,_,rfl,by decide,by decide,by decide⟩ .close)
section
variable {u:Ab} {qs:List RP} {t2:Ab}
theorem La(hu:Gd u)(h:qk u qs t2):qk ([40,46,42,47,41,63]++u) (rG::qs) t2:=by obtain⟨x,t,rfl,a,b,e⟩:=hu;exact .step (.grpD ⟨DJ _,by decide⟩) (.opt e) h
theorem IW(h:qk u qs t2):qk ([40,63,58,46,42,47,41,63,63]++u) (rG::qs) t2:=.step (.grp ⟨DJ _,by decide⟩) .lopt h
theorem K3(hu:Gd u)(h:qk u qs t2):qk ([40,63,58,91,94,47,93,43,47,41,42]++u) (rN::qs) t2:=by obtain⟨x,t,rfl,a,b,e⟩:=hu;exact .step (.grp ⟨Ij _,by decide⟩) (.star e) h
end
theorem E3:∀s∈jD,∀ {u:Ab} {qs:List RP},Gd u→qk u qs []→qk (mF s++u) (nD s++qs) []∧Gd (mF s++u):=by
 intro s hs u qs hu h;have g1:∀ {c:UInt8} {t:Ab},c∈lets→Gd _:=λ {c t} hc=>⟨c,t,rfl,by revert c;decide⟩;have g2:∀ {t:Ab},Gd _:=λ {t}=>⟨91,t,rfl,by decide⟩;simp only[jD,P6,Qd,or_false] at hs;rcases hs with rfl|rfl|rfl|rfl|rfl|rfl|rfl|rfl
 ·exact⟨fg hA hu h,g1 hA⟩
 ·exact⟨fg hB hu h,g1 hB⟩
 ·exact⟨fg hA (g1 hB) (fg hB hu h),g1 hA⟩
 ·exact⟨uV hu h,g2⟩
 ·exact⟨Gk hu h,g2⟩
 ·exact⟨fg hA g2 (vv hu h),g1 hA⟩
 ·exact⟨vv (g1 hB) (fg hB hu h),g2⟩
 ·exact⟨h,hu⟩
theorem Ep:Gd (47::t):=⟨47,t,rfl,by decide⟩
theorem IB:∀ (l:BL) (i:Nat) (p:Ab) {u:Ab} {qs:List RP},(∀s∈l,s=[42,42]∨s∈jD)→Gd u→qk u qs []→qk (kC i p l++u) (qm i p l++qs) []∧Gd (kC i p l++u):=by
 intro L_;induction L_ with
 |nil=>intro i p u qs o_ hu h;exact⟨h,hu⟩
 |cons s rest IH_=>
  intro i p u qs hs hu h
  have body:qk ((if s==[42,42] then(if hV i rest==[46,42] then[46,42] else hV i rest++kC (i+1) s rest) else mF s++kC (i+1) s rest)++u) ((if s==[42,42] then(if hV i rest==[46,42] then[BG] else yR i rest++qm (i+1) s rest) else nD s++qm (i+1) s rest)++qs) []∧
   Gd ((if s==[42,42] then(if hV i rest==[46,42] then[46,42] else hV i rest++kC (i+1) s rest) else mF s++kC (i+1) s rest)++u):=by
   refine d7 (IH_ (i+1) s (λx hx=>hs x (mM hx)) hu h) λO4 OD=>?_
   induction h1:(s==[42,42]) using bC with
   |true=>
    refine(iP rfl)▸?_;refine(iP rfl)▸?_
    induction h2:(hV i rest==[46,42]) using bC with
    |true=>refine(iP rfl)▸?_;refine(iP rfl)▸?_;exact⟨zw hu h,⟨46,_,rfl,by decide⟩⟩
    |false=>
     rw[iN fF,iN fF];simp only[Qc];delta hV at h2⊢;delta yR
     induction h3:rest.all (·.isEmpty) using bC with
     |true=>
      rw[h3] at h2;refine(iP rfl)▸?_;refine(iP rfl)▸?_
      induction h4:rest.isEmpty using bC with
      |true=>rw[h4] at h2;cases h2|false=>refine(iN fF)▸?_;refine(iN fF)▸?_;exact⟨zw Ep (fg (by decide) OD O4),⟨46,_,rfl,by decide⟩⟩
     |false=>
      induction h4:(i==0) using bC with
      |true=>rw[iP rfl,iP rfl];exact⟨IW O4,⟨40,_,rfl,by decide⟩⟩|false=>rw[iN fF,iN fF];exact⟨K3 OD O4,⟨40,_,rfl,by decide⟩⟩
   |false=>
    simp only[iN fF,Qc];rcases hs s mS with e|e
    ·rw[e] at h1;cases h1
    ·exact E3 s e OD O4
  simp only[zK,zx]
  induction h0:(decide (0<i)&& !(p==[42,42])) using bC with
  |true=>rw[iP rfl,iP rfl,Qc,Qc];exact⟨fg (by decide) body.2 body.1,Ep⟩|false=>simp only[iN fF,Sp];exact body
section
variable {α:Type} [BEq α] [LawfulBEq α] {c:α}
theorem AB:∀ {s:List α},c∉s→aL c s=[s]:=by
 intro L_;induction L_ with
 |nil=>intro o_;exact rfl
 |cons x s IH_=>
  intro h;have hx:(x==c)=false:=by simp;exact λe=>h (e▸mS)
  refine(?_:(if(x==c)=true then[]::aL c s else match aL c s with|h::t=>_::t|[]=>[[x]])=_);refine hx▸?_;refine((IH_ λq=>h (mM q)))▸?_;rfl
theorem xw:∀ {s:List α} {t:List α},c∉s→aL c (s++[c]++t)=s::aL c t:=by
 intro L_;induction L_ with
 |nil=>intro t o_;exact(iP (beq_self_eq_true c))
 |cons x s IH_=>
  intro t h;have hx:(x==c)=false:=by simp;exact λe=>h (e▸mS)
  refine(?_:(if(x==c)=true then[]::aL c (s++[c]++t) else match aL c (s++[c]++t) with|h::t=>_::t|[]=>[[x]])=_);rw[hx,(IH_ λq=>h (mM q))];rfl
theorem bX:∀ {l:List (List α)},l≠[]→(∀s∈l,c∉s)→aL c (aB [c] l)=l
 |[a],_,h=>AB (h a (by simp))|a::b::l,_,h=>by refine(?_:aL c (a++[c]++aB [c] _)=_);rw[xw (h a (by simp)),bX (by simp) λs hs=>h s (mM hs)]
end
noncomputable def CH(c:UInt8):Prop:=c=97∨c=98∨c=42∨c=63
theorem gG(h:s∈b8):(∀c∈s,CH c)∧s≠[]:=by simp only[b8,P6,Qd,or_false] at h;delta CH;rcases h with rfl|rfl|rfl|rfl|rfl|rfl|rfl|rfl<;>decide
theorem CH.ne{c:UInt8}(h:CH c):c≠47∧c≠33∧c≠92∧c≠91:=by rcases h with rfl|rfl|rfl|rfl<;>decide
section
variable {l:BL}
theorem be{a:Ab}{b:Ab}:aB [47] (a::b::l)=a++47::aB [47] (b::l):=by refine(?_:a++[47]++_=_);simp
theorem fG(hl:l≠[])(h:∀s∈l,s∈b8):∃c t,aB [47] l=c::t∧CH c:=by
 induction l using lC with
 |nil=>exact absurd rfl hl
 |cons a l=>
  refine d7 (gG (h a (by simp))) λh1 h2=>?_
  induction a using lC with
  |nil=>exact absurd rfl h2
  |cons c t=>
   induction l using lC with
   |nil=>exact oD c t rfl (h1 c (by simp))|cons b l=>exact oD c _ rfl (h1 c (by simp))
theorem jZ:∀ {l:BL},l≠[]→(∀s∈l,s∈b8)→∃t c,aB [47] l=t++[c]∧CH c
 |[a],_,h=>by
  refine d7 (gG (h a (by simp))) λh1 h2=>?_;rcases QR a with e|⟨t,c,e⟩
  ·exact absurd e h2
  ·simp only[QS] at e;exact oD t c e (h1 c (by simp[e]))
 |a::b::l,_,h=>by exact ie (jZ (by simp) λs hs=>h s (mM hs)) λt c e hc=>oD (a++47::t) c (by simp only[be,e];simp) hc
theorem l5(hl:l≠[]):aB [47] (l++[[]])=aB [47] l++[47]:=by
 induction l with
 |nil=>exact absurd rfl hl
 |cons a l ih=>
  induction l using lC with
  |nil=>show a++[47]++[]=a++[47];simp|cons b l=>refine(?_:aB [47] (a::b::(l++[[]]))=_);simp only[be];have:=ih (by simp);rw[show(b::l)++[[]]=b::(l++[[]]) from rfl] at this;rw[this];simp
end
structure SgOk(sg:BL):Prop where
 ne:sg≠[]
 mem:∀s∈sg,s∈b8∨s=[]
 len:sg.length≤4
 head:∃c t,aB [47] sg=c::t∧CH c
theorem SgOk.sl(h:SgOk sg):∀s∈sg,(47:UInt8)∉s:=λs hs q=>by
 rcases h.mem s hs with e|rfl
 ·exact((gG e).1 _ q).ne.1 rfl
 ·cases q
noncomputable def cA:BL→Bool
 |s::_::_=>s==[42,42]|_=>false
noncomputable def bI(sg:BL):BL:=if cA sg then sg.tail else sg
noncomputable def gT:List UInt8:=[40,46,42,47,41,63]
theorem D1(h:SgOk sg)(hd:lead<2):ru ([47].take lead++aB [47] sg)=(aB [47] (bI sg),if cA sg then gT else[]):=by
 have key:[42,42,47].isPrefixOf (aB [47] sg)=cA sg∧(cA sg=true→aB [47] sg=[42,42,47]++aB [47] sg.tail):=by
  match sg,h.ne with
  |[a],_=>
   refine⟨?_,λq=>by cases q⟩;rcases h.mem a (by simp) with e|rfl
   ·simp only[b8,P6,Qd,or_false] at e;rcases e with rfl|rfl|rfl|rfl|rfl|rfl|rfl|rfl<;>rfl
   ·rfl
  |a::b::l,_=>
   rcases h.mem a (by simp) with e|rfl
   ·simp only[b8,P6,Qd,or_false] at e;refine be▸?_;rcases e with rfl|rfl|rfl|rfl|rfl|rfl|rfl|rfl<;>exact⟨rfl,λq=>by first|rfl|cases q⟩
   ·refine ie h.head λc t e hc=>?_;obtain⟨rfl,rfl⟩:=QD e;exact absurd rfl hc.ne.1
 refine ie h.head λc t hj hc=>?_;delta ru bI
 match lead,hd with
 |0,_=>
  rw[Rk,Sp]
  have h1:[47,42,42,47].isPrefixOf (aB [47] sg)=false:=by rw[hj];refine(?_:(_==c&&_)=_);rw[show((47:UInt8)==c)=false by simp;exact λe=>hc.ne.1 e.symm];rfl
  have h3:[47].isPrefixOf (aB [47] sg)=false:=by rw[hj];refine(?_:(_==c&&_)=_);rw[show((47:UInt8)==c)=false by simp;exact λe=>hc.ne.1 e.symm];rfl
  rw[h1,iN fF,key.1]
  induction hs:cA sg using bC with
  |true=>rw[iP rfl,iP rfl,iP rfl,key.2 hs,show(some (3:Int))=some ((3:Nat):Int) from rfl,dU];rfl|false=>rw[iN fF,h3,iN fF,iN fF,iN fF]
 |1,_=>
  show(if[47,42,42,47].isPrefixOf (47::aB [47] sg) then _ else if[42,42,47].isPrefixOf (47::aB [47] sg) then _ else if[47].isPrefixOf (47::aB [47] sg) then _ else _)=_;rw[show[47,42,42,47].isPrefixOf (47::aB [47] sg)=[42,42,47].isPrefixOf (aB [47] sg) from rfl,key.1]
  induction hs:cA sg using bC with
  |true=>rw[iP rfl,iP rfl,iP rfl,key.2 hs,show(some (4:Int))=some ((4:Nat):Int) from rfl,dU];rfl|false=>rw[iN fF,iN fF,iN fF,show[42,42,47].isPrefixOf (47::aB [47] sg)=false from rfl,iN fF,show[47].isPrefixOf (47::aB [47] sg)=true from rfl,iP rfl,show(some (1:Int))=some ((1:Nat):Int) from rfl,dU];rfl
noncomputable def dz(l:BL):BL:=l.foldl bL []
theorem mz:∀ (l MQ:BL) {x:Ab},x∈l.foldl bL MQ→x∈MQ∨x∈l:=by
 intro L_;induction L_ with
 |nil=>intro MQ x h;exact .inl h
 |cons s l IH_=>
  intro MQ x h;rcases IH_ (bL MQ s) h with h|h
  ·delta bL at h;split at h
   ·exact .inl h
   ·rcases Qh.mp h with h|h
    ·exact .inl h
    ·refine(mA h)▸?_;exact .inr mS
  ·exact .inr (mM h)
theorem qC:∀ (l MQ:BL),(l.foldl bL MQ).length≤MQ.length+l.length:=by
 intro L_;induction L_ with
 |nil=>intro MQ;simp
 |cons s l IH_=>
  intro MQ;have:=IH_ (bL MQ s);have h2:(bL MQ s).length≤MQ.length+1:=by delta bL;split<;>simp
  simp only[QK];exact aZ [_,_,_,_] (.h 1 ab (.a ae af) (.h 1 ae (.a ag ai) (.g ab (.a ag (.a af ai))))) rfl this h2
theorem DA(h:s∈jD):(mF s).length≤6∧(nD s).length≤2:=by simp only[jD,P6,Qd,or_false] at h;rcases h with rfl|rfl|rfl|rfl|rfl|rfl|rfl|rfl<;>decide
theorem EX(i:Nat)(rest:BL):(hV i rest).length≤11∧(yR i rest).length≤2:=by
 delta hV yR
 repeat' split
 all_goals decide
theorem zX:∀ (l:BL) (i:Nat) (p:Ab),(∀s∈l,s=[42,42]∨s∈jD)→(kC i p l).length≤12*l.length∧(qm i p l).length≤3*l.length:=by
 intro L_;induction L_ with
 |nil=>intro o_ o_ o_;simp[Iy,Es]
 |cons s rest IH_=>
  intro i p h;refine d7 (IH_ (i+1) s λx hx=>h x (mM hx)) λa b=>d7 (EX i rest) λc d=>?_;simp only[zK,zx];refine d7 ((show ∀q:Bool,(if q then([47]:Ab) else[]).length≤1∧(if q then[Hj] else[]).length≤1 from λq=>by induction q using bC<;>decide) (decide (0<i)&& !(p==[42,42]))) λh2 h3=>?_;simp only[Qa]
  have key:(if s==[42,42] then(if hV i rest==[46,42] then[46,42] else hV i rest++kC (i+1) s rest) else mF s++kC (i+1) s rest).length≤11+12*rest.length∧
   (if s==[42,42] then(if hV i rest==[46,42] then[BG] else yR i rest++qm (i+1) s rest) else nD s++qm (i+1) s rest).length≤2+3*rest.length:=by
   induction hs:(s==[42,42]) using bC with
   |true=>
    rw[iP rfl,iP rfl];split
    ·simp
     (first|exact⟨aZ [_] (.g al (.a (.c 11) (.m 12 ab))) rfl,aZ [_] (.g ai (.a al (.m 3 ab))) rfl⟩)
    ·simp only[Qa];(first|exact⟨aZ [_,_,_] (.h 1 ab (.m 12 ae) (.h 1 af (.c 11) (.g (.a af ab) (.a (.c 11) (.m 12 ae))))) rfl a c,aZ [_,_,_] (.h 1 ab (.m 3 ae) (.h 1 af al (.g (.a af ab) (.a al (.m 3 ae))))) rfl b d⟩)
   |false=>rw[iN fF,iN fF];have:=(h s mS).resolve_left (λe=>by rw[e] at hs;cases hs);have:=DA this;simp only[Qa];(first|exact⟨aZ [_,_,_] (.h 1 ab (.m 12 ae) (.h 1 af (.c 6) (.g (.a af ab) (.a (.c 11) (.m 12 ae))))) rfl a this.1,aZ [_,_,_] (.h 1 ab (.m 3 ae) (.h 1 af al (.g (.a af ab) (.a al (.m 3 ae))))) rfl b this.2⟩)
  (clear h a b c d;(first|exact⟨aZ [_,_,_] (.h 1 ab ai (.h 1 ae (.a (.c 11) (.m 12 af)) (.g (.a ab ae) (.m 12 (.a af ai))))) rfl h2 key.1,aZ [_,_,_] (.h 1 ab ai (.h 1 ae (.a al (.m 3 af)) (.g (.a ab ae) (.m 3 (.a af ai))))) rfl h3 key.2⟩))
theorem vF(h:s∈b8∨s=[]):s=[42,42]∨s∈jD:=by
 rcases h with h|rfl
 ·simp only[b8,P6,Qd,or_false] at h;rcases h with rfl|rfl|rfl|rfl|rfl|rfl|rfl|rfl<;>decide
 ·decide
theorem o7(h:SgOk sg):bI sg≠[]∧(∀s∈bI sg,s∈sg)∧(bI sg).length≤4:=by
 delta bI
 match sg,h.ne,h.len with
 |[a],_,_=>exact ou (by simp[cA]) (λs hs=>by simpa[cA] using hs) (by simp[cA])
 |a::b::l,_,hl=>
  induction hs:cA (a::b::l) using bC with
  |true=>exact ou (by simp) (λs hs=>mM hs) (by simp at hl⊢;exact Qo (by assumption))|false=>exact ou (by simp) (λs hs=>hs) hl
noncomputable def cp(sh:Bool)(sg:BL):List RP:=(if sh then[rG] else[])++((if cA sg then[rG] else[])++(qm 0 [] (dz (bI sg))++((if[47].isSuffixOf (aB [47] (bI sg)) then[] else[.oct false [47] .opt])++[.fin .one])))
theorem DK(hne:r≠[])(hs:∀s∈r,(47:UInt8)∉s):Bw (aB [47] r)=kC 0 [] (dz r):=by
 delta Bw;rw[bX hne hs];split
 ·rename_i h;have h:=bA h;have h2:=bX hne hs;rw[h] at h2;have:r=[[42,42]]:=h2.symm.trans (by decide);rw[this];decide
 ·rfl
theorem E2(h:SgOk sg):PatOk (aB [47] (bI sg)):=by
 refine dR (o7 h) λr1 r2 r3=>?_;have hs:=λs hs=>h.sl s (r2 s hs)
 have hm:∀s∈dz _,s=_∨s∈jD:=λs hs=>by
  rcases mz _ _ hs with q|q
  ·cases q
  ·exact vF (h.mem s (r2 s q))
 have hc:(dz (bI sg)).length≤4:=by have:=qC (bI sg) [];simp at this;exact nT (by assumption) (by assumption)
 have hj:∀ (l:BL),(∀s∈l,s∈b8∨s=[])→(aB [47] l).length≤3*l.length∧∀c∈aB [47] l,c≠91:=by
  intro l
  induction l with
  |nil=>intro o_;exact⟨nR,λc hc=>by cases hc⟩
  |cons a l ih=>
   intro hl
   have ha:a.length≤2∧∀c∈a,c≠91:=by
    rcases hl a mS with e|rfl
    ·exact⟨c9 e,λc hc=>((gG e).1 c hc).ne.2.2.2⟩
    ·exact⟨by decide,λc hc=>by cases hc⟩
   induction l using lC with
   |nil=>exact⟨by refine(?_:a.length≤_);simp;exact cj ha.1 rfl,ha.2⟩
   |cons b l=>
    refine d7 (ih λs hs=>hl s (mM hs)) λi1 i2=>be▸?_;refine⟨by simp at i1⊢;exact aZ [_,_,_] (.h 1 ab al (.h 1 ae (.m 3 (.a af ai)) (.g (.a ab (.a ae ai)) (.m 3 (.a (.a af ai) ai))))) rfl ha.1 i1,λc hc=>?_⟩;rcases Qh.mp hc with q|q
    ·exact ha.2 c q
    ·rcases P6.mp q with rfl|q
     ·decide
     ·exact i2 c q
 refine d7 (hj (bI sg) λs hs=>h.mem s (r2 s hs)) λj1 j2=>⟨?_,(aZ [_,_] (.h 1 ab (.m 3 ae) (.h 3 ae (.c 4) (.g (.a ab ai) (.c 65536)))) rfl j1 r3),?_,?_,?_,?_⟩
 ·induction hq:(aB [47] (bI sg)).contains 91 using bC with|false=>rfl|true=>exact absurd rfl (j2 91 (by simpa using hq))
 ·rw[bX r1 hs];exact cj r3 rfl
 ·rw[bX r1 hs];exact cj hc rfl
 ·rw[bX r1 hs];exact hm
 ·rw[DK r1 hs];have:=(zX (dz (bI sg)) 0 [] hm).1;exact aZ [_,_] (.h 1 ab (.m 12 ae) (.h 12 ae (.c 4) (.g ab (.c 60000)))) rfl this hc
theorem Ch(h:SgOk sg)(hd:lead<2):Comp ([47].take lead++aB [47] sg) (cp (!(cut ([47].take lead++aB [47] sg) none (some (-1))).contains 47) sg):=by
 refine dR (o7 h) λr1 r2 r3=>?_;have hs:=λs hs=>h.sl s (r2 s hs)
 have hm:∀s∈dz _,s=_∨s∈jD:=λs hs=>by
  rcases mz _ _ hs with q|q
  ·cases q
  ·exact vF (h.mem s (r2 s q))
 have hc:(dz (bI sg)).length≤4:=by have:=qC (bI sg) [];simp at this;exact nT (by assumption) (by assumption)
 refine⟨by rw[(D1 h hd)];exact E2 h,?_,?_⟩
 ·delta IE cp;rw[(D1 h hd),DK r1 hs]
  have f0:qk ((if !([47].isSuffixOf (aB [47] (bI sg))) then[47,63] else[])++[92,90]) ((if[47].isSuffixOf (aB [47] (bI sg)) then[] else[.oct false [47] .opt])++[.fin .one]) []∧Gd ((if !([47].isSuffixOf (aB [47] (bI sg))) then[47,63] else[])++[92,90]):=by
   induction [47].isSuffixOf (aB [47] (bI sg)) using bC with
   |true=>exact⟨yH,⟨92,_,rfl,by decide⟩⟩|false=>exact⟨GJ ⟨92,_,rfl,by decide⟩ yH,⟨47,_,rfl,by decide⟩⟩
  refine d7 (IB (dz (bI sg)) 0 [] hm f0.2 f0.1) λf1 f2=>?_
  have opt:∀ (q:Bool) {u:Ab} {qs:List RP},qk u qs []→Gd u→qk ((if q then gT else[])++u) ((if q then[rG] else[])++qs) []∧Gd ((if q then gT else[])++u):=λq {u qs} a b=>by
   induction q using bC with
   |true=>exact⟨La b a,⟨40,_,rfl,by decide⟩⟩|false=>exact⟨a,b⟩
  refine d7 (opt (!(cut ([47].take lead++aB [47] sg) none (some (-1))).contains 47) (opt (cA sg) f1 f2).1 (opt (cA sg) f1 f2).2) λf5 o_=>?_;simp only[Qc] at f5⊢;exact f5
 ·delta cp;have:=(zX (dz (bI sg)) 0 [] hm).2;have o1:=((show ∀ (q:Bool),(if q then[rG] else[]).length≤1∧(if q then[] else[RP.oct false [47] .opt]).length≤1 from λq=>by induction q using bC<;>decide) (!(cut ([47].take lead++aB [47] sg) none (some (-1))).contains 47)).1;have o2:=((show ∀ (q:Bool),(if q then[rG] else[]).length≤1∧(if q then[] else[RP.oct false [47] .opt]).length≤1 from λq=>by induction q using bC<;>decide) (cA sg)).1;have o3:=((show ∀ (q:Bool),(if q then[rG] else[]).length≤1∧(if q then[] else[RP.oct false [47] .opt]).length≤1 from λq=>by induction q using bC<;>decide) ([47].isSuffixOf (aB [47] (bI sg)))).2;simp only[Qa];exact aZ [_,_,_,_,_] (.h 1 ab (.m 3 ae) (.h 3 ae (.c 4) (.h 1 af ai (.h 1 ag ai (.h 1 ah ai (.g (.a af (.a ag (.a ab (.a ah ai)))) (.c 370))))))) rfl this hc o1 o2 o3
theorem gi{a:Bool}{b:List Nat}{q:Qt}:Bx (.oct a b q):=λo_ o_ e=>by cases e
theorem Fq:Bx rG∧Bx rN:=by constructor<;>(intro ps q e;injection e with e;subst e;refine⟨by simp,λb hb=>?_⟩;simp at hb;rcases hb with rfl|rfl<;>exact λo_ o_ e=>by cases e)
theorem FQ(s:Ab):∀a∈nD s,Bx a:=by
 delta nD;split
 ·intro a ha;rw[mA ha];exact gi
 ·intro a ha;refine jz ha λc o_ z1=>?_;subst z1;split
  ·exact gi
  ·split<;>exact gi
theorem GI:∀ (l:BL) (i:Nat) (p:Ab),∀a∈qm i p l,Bx a:=by
 intro L_;induction L_ with
 |nil=>intro o_ o_ a ha;simp[Es] at ha
 |cons s rest IH_=>
  intro i p a ha
  have hda:∀a∈yR i rest,Bx a:=by
   delta yR;intro a ha;split at ha
   ·split at ha
    ·rw[mA ha];exact gi
    ·simp at ha;rcases ha with rfl|rfl<;>exact gi
   ·split at ha<;>rw[mA ha]
    ·exact Fq.1
    ·exact Fq.2
  rcases Qh.mp ha with h|h
  ·split at h
   ·rw[mA h];exact gi
   ·cases h
  ·split at h
   ·split at h
    ·rw[mA h];exact gi
    ·rcases Qh.mp h with h|h
     ·exact hda a h
     ·exact(IH_ (i+1) s) a h
   ·rcases Qh.mp h with h|h
    ·exact FQ s a h
    ·exact(IH_ (i+1) s) a h
theorem D6(sh:Bool)(sg:BL):POk (cp sh sg):=by
 refine⟨by delta cp;simp,λa ha=>?_⟩
 have opt:∀ (q:Bool),a∈(if q then[rG] else[])→Bx a:=λq h=>by
  induction q using bC with
  |true=>rw[mA h];exact Fq.1|false=>cases h
 unfold cp at ha;simp only[Qh] at ha;rcases ha with h|h|h|h|h
 ·exact opt _ h
 ·exact opt _ h
 ·exact GI _ _ _ a h
 ·split at h
  ·cases h
  ·rw[mA h];exact gi
 ·rw[mA h];exact λo_ o_ e=>by cases e
noncomputable def Di(p:List UInt8):BL:=aL 47 (p.drop (if[47].isPrefixOf p then 1 else 0))
noncomputable def io(p:List UInt8):List RP:=cp (!(cut p none (some (-1))).contains 47) (Di p)
noncomputable def ir(l:List UInt8):List UInt8:=if[33].isPrefixOf l then cut l (some 1) none else l
noncomputable def bh(l:List UInt8):V:=iz l ([33].isPrefixOf l) ([47].isSuffixOf (ir l)) (a8 [47] (ir l)) (io (ir l)) (io (a8 [47] (ir l)))
theorem DL(h:SgOk sg)(hd:lead<2):Di ([47].take lead++aB [47] sg)=sg:=by
 refine ie h.head λc t hj hc=>?_;delta Di
 match lead,hd with
 |0,_=>
  rw[Rk,Sp]
  have h3:[47].isPrefixOf (aB [47] sg)=false:=by rw[hj];refine(?_:(_==c&&_)=_);rw[show((47:UInt8)==c)=false by simp;exact λe=>hc.ne.1 e.symm];rfl
  rw[h3,iN fF,R7,bX h.ne h.sl]
 |1,_=>refine(show[47].isPrefixOf (47::aB [47] sg)=_ from rfl)▸?_;refine(iP rfl)▸?_;exact bX h.ne h.sl
theorem oJ(h:SgOk sg)(hd:lead<2):Comp ([47].take lead++aB [47] sg) (io ([47].take lead++aB [47] sg)):=by delta io;simp only[DL h hd];exact Ch h hd
section
variable {r:Row}
noncomputable def Row.p0(r:Row):List UInt8:=[47].take r.lead++aB [47] r.comps
noncomputable def Row.body(r:Row):List UInt8:=r.p0++[47].take r.only
theorem l9(h:RowOk r):SgOk r.comps:=⟨h.ne,λs hs=>.inl (h.mem s hs),by have:=h.len;exact Qo (by assumption),fG h.ne h.mem⟩
theorem xf(h:RowOk r):SgOk (r.comps++[[]]):=⟨by simp,λs hs=>by
 rcases Qh.mp hs with q|q
 ·exact .inl (h.mem s q)
 ·exact .inr (mA q),by have:=h.len;simp;exact this,by
 exact ie (fG h.ne h.mem) λc t e hc=>oD c (t++[47]) (by simp only[l5 h.ne,e];rfl) hc⟩
theorem r8(h:RowOk r):∃c t,r.p0=c::t∧c≠33∧c≠92:=by
 refine ie (fG h.ne h.mem) λc t e hc=>?_;delta Row.p0
 match r.lead,h.lead with
 |0,_=>exact i6 c t e (hc.ne.2.1) (hc.ne.2.2.1)|1,_=>exact i6 47 _ rfl (by decide) (by decide)
theorem BC(h:RowOk r):∃t c,r.p0=t++[c]∧c≠47:=by exact ie (jZ h.ne h.mem) λt c e hc=>oD ([47].take r.lead++t) c (by delta Row.p0;simp only[e,Qc]) (hc.ne.1)
theorem CB(r:Row):r.line=[33].take r.neg++r.body:=by delta Row.line qr Row.body Row.p0;simp only[Qc]
theorem pP(h:RowOk r):[33].isPrefixOf r.line=(r.neg==1)∧[92].isPrefixOf r.line=false∧ir r.line=r.body:=by
 refine fk (r8 h) λc t e h1 h2=>?_;have hb:r.body=c::(t++[47].take r.only):=by delta Row.body;rw[e];rfl
 have hne:∀k:UInt8,c≠k→[k].isPrefixOf r.body=false:=λk hk=>by rw[hb];refine(?_:(k==c&&_)=_);rw[show(k==c)=false by simp;exact λe=>hk e.symm];rfl
 delta ir;rw[CB]
 match r.neg,h.neg with
 |0,_=>rw[Rk,Sp,hne 33 h1,hne 92 h2];exact ou rfl rfl rfl|1,_=>refine ou rfl rfl ?_;refine(?_:cut _ (some ((1:Nat):Int)) none=_);rw[dU];rfl
theorem kU(h:RowOk r):[47].isSuffixOf r.body=(r.only==1)∧a8 [47] r.body=r.p0:=by
 refine ie (BC h) λt c e hc=>?_;have OZ:([47]:Ab).contains c=false:=by simp;exact hc
 have hr:(r.p0.reverse.dropWhile λx=>([47]:Ab).contains x)=r.p0.reverse:=by rw[e,Qp];refine(?_:(c::t.reverse).dropWhile _=c::t.reverse);rw[Ss,OZ];rfl
 delta Row.body a8
 match r.only,h.only with
 |0,_=>rw[Rk,Qj,hr,QV];refine⟨?_,rfl⟩;rw[e];refine(?_:[47].isPrefixOf (t++[c]).reverse=_);rw[Qp];refine(?_:(_==c&&_)=_);rw[show((47:UInt8)==c)=false by simp;exact λe=>hc e.symm];rfl
 |1,_=>
  have NS:(r.p0++[47].take 1).reverse=47::r.p0.reverse:=by rw[Qp];rfl
  refine⟨?_,?_⟩
  ·show[47].isPrefixOf (r.p0++[47].take 1).reverse=_;rw[NS];rfl
  ·rw[NS,Ss,show([47]:Ab).contains 47=true by decide,iP rfl,hr,QV]
theorem CW(h:RowOk r):r.body=[47].take r.lead++aB [47] (if r.only=1 then r.comps++[[]] else r.comps):=by
 delta Row.body Row.p0
 match r.only,h.only with
 |0,_=>rw[iN (by decide),Rk,Qj]|1,_=>rw[iP rfl,l5 h.ne,Qc];rfl
theorem E6(h:RowOk r):PatF r.line r.body r.p0 (r.neg==1) (r.only==1) (io r.body) (io r.p0):=by
 refine dR (pP h) λb1 b2 b3=>⟨b1,b2,?_,(kU h).1,(kU h).2,?_,?_,?_⟩
 ·rw[←b3];delta ir;rw[b1]
 ·refine ie (r8 h) λc t e o_=>?_;rw[e];rfl
 ·refine(CW h)▸?_;split
  ·exact oJ (xf h) h.lead
  ·exact oJ (l9 h) h.lead
 ·exact oJ (l9 h) h.lead
theorem rK(h:RowOk r):bh r.line=iz r.line (r.neg==1) (r.only==1) r.p0 (io r.body) (io r.p0):=by delta bh;simp only[(pP h).1,(pP h).2.2,(kU h).1,(kU h).2]
theorem Aw(h:RowOk r):mE r.line (bh r.line)∧∀d σ,call (d+8) σ (.cls 100) [.bytes r.line,.bool false]=some (bh r.line,σ):=by refine(rK h)▸?_;exact⟨⟨_,_,_,_,_,rfl⟩,λd σ=>Dj d σ (E6 h)⟩
noncomputable def eh:Row:=⟨0,1,0,0,[[42]]⟩
theorem kP:RowOk eh:=⟨by decide,by decide,by decide,by decide,by decide,by decide,by decide⟩
theorem wH:eh.line=ed:=by decide
theorem Hy(hm:MadeOk m):PvOk m bh:=by
 refine⟨λk l hl=>?_,?_⟩
 ·refine jz hl λr hr z1=>?_;subst z1;have:=Aw (hm.rows r (Qu.mp hr).1);exact⟨this.1,this.2 29⟩
 ·have:=Aw kP;exact⟨this.1,this.2 30⟩
theorem BE(h:RowOk r):(cut r.p0 none (some (-1))).contains 47=dC r.lead r.comps:=by
 rw[lX];refine ie (fG h.ne h.mem) λc t e hc=>?_;delta Row.p0 dC
 match r.lead,h.lead with
 |1,_=>refine e▸?_;refine(?_:_=_);rfl
 |0,_=>
  refine(?_:(aB [47] r.comps).dropLast.contains 47=(false||decide (1<r.comps.length)))
  match N2:r.comps,h.ne with
  |[a],_=>
   refine(?_:a.dropLast.contains 47=false)
   induction hq:a.dropLast.contains 47 using bC with
   |false=>rfl|true=>have:(47:UInt8)∈a:=Up a (by simpa using hq);exact absurd rfl ((gG (h.mem a (by rw[N2];simp))).1 _ this).ne.1
  |a::b::l,_=>
   have ND:aB [47] (b::l)≠[]:=by refine ie (fG (l:=b::l) (by simp) λs hs=>h.mem s (by rw[N2];exact mM hs)) λc t e o_=>?_;rw[e];simp
   rw[be,List.dropLast_append_of_ne_nil (by simp),Sq ND];simp
theorem Ec(h:RowOk r):DU r.p0=d8 r.lead r.comps:=by
 rcases QR r.comps with e|⟨init,z,e⟩
 ·exact absurd e h.ne
 ·simp only[QS] at e;have hz:=h.mem z (by refine e▸?_;simp);have hlast:r.comps.getLast?=some z:=by simp only[e,QZ];rfl
  delta d8;refine hlast▸?_
  have sfx:∀X:Ab,DU _=(z==[42]||z==[42,42]):=λX=>by refine(?_:([42,47].isPrefixOf (X++47::z).reverse||[42,42,47].isPrefixOf (X++47::z).reverse)=_);simp only[Qp];simp only[b8,P6,Qd,or_false] at hz;rcases hz with rfl|rfl|rfl|rfl|rfl|rfl|rfl|rfl<;>rfl
  have hX:(∃X,r.p0=X++47::z)∧dC r.lead r.comps=true∨r.p0=z∧dC r.lead r.comps=false:=by
   delta Row.p0 dC
   have hj:∀ (init:BL),init≠[]→∃X,aB [47] (init++[z])=X++47::z:=by
    intro init
    induction init with
    |nil=>intro q;exact absurd rfl q
    |cons a l ih=>
     intro o_
     induction l using lC with
     |nil=>exact⟨a,by refine(?_:aB [47] [a,z]=_);rw[be];rfl⟩|cons b l=>obtain⟨X,e⟩:=ih (by simp);exact⟨a++47::X,by refine(?_:aB [47] (a::b::(l++[z]))=_);rw[be,show b::(l++[z])=b::l++[z] from rfl,e];simp⟩
   induction hi:init using lC with
   |nil=>
    rw[e,hi]
    match r.lead,h.lead with
    |0,_=>exact .inr ⟨rfl,rfl⟩|1,_=>exact .inl ⟨⟨[],rfl⟩,rfl⟩
   |cons a l=>obtain⟨X,eX⟩:=hj (a::l) (by simp);refine e▸?_;refine hi▸?_;refine .inl ⟨⟨[47].take r.lead++X,by simp only[eX,Qc]⟩,by simp⟩
  rcases hX with⟨⟨X,e1⟩,e2⟩|⟨e1,e2⟩
  ·simp only[e1,e2,sfx];simp
  ·simp only[e1,e2];simp only[b8,P6,Qd,or_false] at hz;rcases hz with rfl|rfl|rfl|rfl|rfl|rfl|rfl|rfl<;>rfl
end
section
variable {nm:Ab} {as:List RP} {φ:Ab→Prop} {p y:Nat} {w t:Ab}
noncomputable def HH(nm:List UInt8)(as:List RP)(p:Nat):Prop:=∃x,iS nm as p x
theorem fI{a:RP}:HH nm (a::as) p↔ ∃y,kI a.q (gj nm a) p y∧HH nm as y:=by exact⟨λz2=>ie z2 λx y h1 h2=>⟨y,h1,x,h2⟩,λ⟨y,h1,x,h2⟩=>⟨x,y,h1,h2⟩⟩
noncomputable def Tl(nm:List UInt8)(as:List RP)(φ:List UInt8→Prop):Prop:=∀y,y≤nm.length→(HH nm as y↔φ (nm.drop y))
theorem bK{c:UInt8}(h:nm.drop p=c::t):nm.drop (p+1)=t∧p+1≤nm.length∧nm[p]?=some c:=by exact dR (aW h) λa b e=>ou b e a
theorem b7(hp:p≤nm.length)(h:nm.drop p=w++t):nm.drop (p+w.length)=t∧p+w.length≤nm.length:=by
 have h1:nm.drop (p+w.length)=t:=by refine Tj▸?_;refine h▸?_;exact RJ▸rfl
 have h2:=cG Rc h;simp only[Rj,Qa] at h2;exact⟨h1,(aZ [_,_,_,_,_] (.h 1 (.a ab ae) af (.h 1 (.a ag ah) ab (.g (.a ae ag) af))) rfl (nE (sC hp)) (nE h2.symm))⟩
theorem cB:x∈iA neg rs nm p↔ ∃c,nm.drop p=c::nm.drop x∧fi neg rs c.toNat=true∧x=p+1:=by
 delta iA
 induction h:nm[p]? using oA with
 |none=>have:nm.drop p=[]:=Qw (Qv.mp h);rw[this];simp
 |some c=>
  obtain⟨h1,h2⟩:=Qe.mp h;have hd:nm.drop p=c::nm.drop (p+1):=by rw[QO h1,h2]
  induction hk:fi neg rs c.toNat using bC with
  |true=>simp only[hk,if_true,Rv];exact⟨λe=>⟨c,by rw[e];exact hd,hk,e⟩,λz3=>gv z3 λo_ o_ o_ e=>e⟩|false=>simp only[hk,Sw,if_false,Qd,false_iff];rintro⟨c',e,NZ,rfl⟩;rw[hd] at e;injection e with e1 _;rw[←e1,hk] at NZ;cases NZ
noncomputable def Az(neg:Bool)(rs:List Nat)(c:UInt8):Prop:=fi neg rs c.toNat=true
theorem dZ:Star (λp x=>x∈iA neg rs nm p) p y↔ ∃w,nm.drop p=w++nm.drop y∧y=p+w.length∧∀c∈w,Az neg rs c:=by
 constructor
 ·intro h
  induction h with
  |refl=>exact sx ([]) rfl rfl (λo_ h=>by cases h)
  |step h _ ih=>
   refine gv (cB.mp h) λc e1 k z5=>?_;refine gv ih λw e2 z4 hw=>?_;refine sx (c::w) (by simp only[e1,e2];rfl) (by simp;lia) (λd hd=>?_);rcases P6.mp hd with rfl|hd
   ·exact k
   ·exact hw d hd
 ·rintro⟨w,e,rfl,hw⟩
  induction w generalizing p with
  |nil=>exact .refl
  |cons c w ih=>
   refine dR (bK e) λd1 d2 d3=>.step (cB.mpr ⟨c,by rw[d1];exact e,hw c (by simp),rfl⟩) ?_;have hl:p+(c::w).length=p+1+w.length:=by simp;exact Qg (aZ [_,_] (.g (.a ab (.a ae ai)) (.a (.a ab ai) ae)) rfl) (aZ [_,_] (.g (.a (.a ab ai) ae) (.a ab (.a ae ai))) rfl)
   rw[hl] at d1⊢;exact ih (λc hc=>hw c (mM hc)) d1
theorem tn(h:Tl nm as φ):Tl nm (.oct neg rs .one::as) λs=>∃c t,s=c::t∧Az neg rs c∧φ t:=by
 intro p hp;rw[fI];constructor
 ·rintro⟨y,h1,h2⟩;refine cps λX_ k_=>?_;simp only[RP.q,kI,uP] at h1;refine gv (cB.mp h1) λc e k z6=>?_;subst z6;refine dR (bK e) λo_ d2 o_=>k_ ?_;exact i6 c _ e k ((h _ d2).mp h2)
 ·rintro⟨c,t,e,k,h2⟩;refine dR (bK e) λd1 d2 o_=>a7 (p+1) ?_ ((h _ d2).mpr (by simp only[d1];exact h2));exact cB.mpr ⟨c,by rw[d1];exact e,k,rfl⟩
theorem oS(h:Tl nm as φ):Tl nm (.oct neg rs .star::as) λs=>∃w t,s=w++t∧(∀c∈w,Az neg rs c)∧φ t:=by
 intro p hp;rw[fI];constructor
 ·rintro⟨y,h1,h2⟩;refine gv (dZ.mp h1) λw e z7 k=>?_;subst z7;exact i6 w _ e k ((h _ (b7 hp e).2).mp h2)
 ·rintro⟨w,t,e,k,h2⟩;exact a7 (p+w.length) (dZ.mpr ⟨w,by rw[(b7 hp e).1];exact e,rfl,k⟩) ((h _ (b7 hp e).2).mpr (by simp only[(b7 hp e).1];exact h2))
theorem Df(h:Tl nm as φ):Tl nm (.oct neg rs .plus::as) λs=>∃w t,s=w++t∧w≠[]∧(∀c∈w,Az neg rs c)∧φ t:=by
 intro p hp;rw[fI];constructor
 ·rintro⟨y,⟨z,h0,h1⟩,h2⟩;refine cps λX_ k_=>gv (cB.mp h0) λc e0 k0 z9=>?_;subst z9;refine gv (dZ.mp h1) λw e z8 k=>?_;subst z8;refine k_ ?_;refine Ln (c::w) _ (by simp only[e0,e];rfl) (by simp) (λd hd=>?_) ((h _ (b7 (bK e0).2.1 e).2).mp h2);rcases P6.mp hd with rfl|hd
  ·exact k0
  ·exact k d hd
 ·rintro⟨w,t,e,hne,k,h2⟩
  induction w using lC with
  |nil=>exact absurd rfl hne|cons c w=>exact dR (bK e) λd1 d2 o_=>a7 (p+1+w.length) ⟨p+1,cB.mpr ⟨c,by rw[d1];exact e,k c (by simp),rfl⟩,dZ.mpr ⟨w,by rw[(b7 d2 d1).1];exact d1,rfl,λc hc=>k c (mM hc)⟩⟩ ((h _ (b7 d2 d1).2).mpr (by simp only[(b7 d2 d1).1];exact h2))
theorem FH(h:Tl nm as φ):Tl nm (.oct neg rs .opt::as) λs=>φ s∨∃c t,s=c::t∧Az neg rs c∧φ t:=by
 intro p hp;rw[fI];constructor
 ·rintro⟨y,rfl|h1,h2⟩
  ·exact .inl ((h _ hp).mp h2)
  ·refine gv (cB.mp h1) λc e k Pf=>?_;subst Pf;exact .inr ⟨c,_,e,k,(h _ (bK e).2.1).mp h2⟩
 ·rintro(h2|⟨c,t,e,k,h2⟩)
  ·exact a7 p (.inl rfl) ((h _ hp).mpr h2)
  ·exact dR (bK e) λd1 d2 o_=>a7 (p+1) (.inr (cB.mpr ⟨c,by rw[d1];exact e,k,rfl⟩)) ((h _ d2).mpr (by rw[d1];exact h2))
theorem GG:Tl nm [.fin .one] λs=>s=[]:=by
 intro p hp;rw[fI];constructor
 ·rintro⟨y,⟨rfl,rfl⟩,_⟩;exact Se
 ·intro e;have:=Rp.mp e;exact a7 p ⟨by exact Qg (by assumption) (by assumption),rfl⟩ ⟨p,by simp only[t9]⟩
theorem Et{c:UInt8}:Az true [47] c↔c≠47:=by
 delta Az fi
 by_cases h:c=47
 ·subst h;decide
 ·have:([47]:List Nat).contains c.toNat=false:=by
   simp;intro e;exact h (RY.mp e)
  refine this▸?_;simp[h]
theorem Iz{c:UInt8}:Az true [] c:=rfl
theorem si{c k:UInt8}:Az false [k.toNat] c↔c=k:=by
 delta Az fi
 by_cases h:c=k
 ·subst h;simp
 ·have:([k.toNat]:List Nat).contains c.toNat=false:=by
   simp;intro e;exact h (RY.mp e)
  rw[this];simp[h]
theorem Tl.cg{ψ:Ab→Prop}(h:Tl nm as φ)(k:∀s,φ s↔ψ s):Tl nm as ψ:=λy hy=>(h y hy).trans (k _)
theorem He(h:Tl nm as φ):Tl nm (Hj::as) λs=>∃t,s=47::t∧φ t:=
 (tn h).cg λs=>⟨λOQ=>fk OQ λc t e k h=>⟨t,by refine e▸?_;exact((si (k:=47)).mp k)▸rfl,h⟩,λPe=>aQ Pe λt e h=>⟨47,t,e,(si).mpr rfl,h⟩⟩
theorem HB(h:Tl nm as φ):Tl nm (BG::as) λs=>∃w t,s=w++t∧φ t:=
 (oS h).cg λs=>⟨λPd=>fk Pd λw t e o_ h=>⟨w,t,e,h⟩,λOP=>ie OP λw t e h=>⟨w,t,e,λo_ o_=>Iz,h⟩⟩
theorem u7{q:Qt}:iS nm [.oct true [] .star,.oct false [47] .one] p y↔ ∃w,nm.drop p=w++47::nm.drop y∧y=p+w.length+1:=by
 constructor
 ·rintro⟨z,h1,z2,h2,rfl⟩;refine gv (dZ.mp h1) λw e Pa o_=>?_;subst Pa;refine gv (cB.mp h2) λc e2 k Pc=>?_;subst Pc;rw[(si (k:=47)).mp k] at e2;exact a7 w (by rw[e,e2]) rfl
 ·rintro⟨w,e,rfl⟩;have hd:nm.drop (p+w.length)=47::nm.drop (p+w.length+1):=by rw[←Tj,e,RJ]
  exact a7 (p+w.length) (dZ.mpr ⟨w,by rw[hd];exact e,rfl,λo_ o_=>Iz⟩) ⟨_,cB.mpr ⟨47,hd,by decide,rfl⟩,rfl⟩
theorem Hh(h:Tl nm as φ):Tl nm (rG::as) λs=>φ s∨∃w t,s=w++47::t∧φ t:=by
 intro p hp;rw[fI];constructor
 ·rintro⟨y,rfl|h1,h2⟩
  ·exact .inl ((h _ hp).mp h2)
  ·refine aQ ((u7 (q:=.one)).mp h1) λw e z17=>?_;subst z17;exact .inr ⟨w,_,e,(h _ (bK (b7 hp e).1).2.1).mp h2⟩
 ·rintro(h2|⟨w,t,e,h2⟩)
  ·exact a7 p (.inl rfl) ((h _ hp).mpr h2)
  ·exact dR (bK (b7 hp e).1) λd3 d4 o_=>a7 (p+w.length+1) (.inr ((u7 (q:=.one)).mpr ⟨w,by rw[d3];exact e,rfl⟩)) ((h _ d4).mpr (by simp only[d3];exact h2))
inductive Dirs:List UInt8→List UInt8→Prop
 |nil (x:List UInt8):Dirs x x|cons (u x z:List UInt8):u≠[]→(47:UInt8)∉u→Dirs x z→Dirs (u++47::x) z
theorem sk:iS nm [.oct true [47] .plus,.oct false [47] .one] p y↔ ∃w,nm.drop p=w++47::nm.drop y∧y=p+w.length+1∧w≠[]∧(47:UInt8)∉w:=by
 simp only[t9,FE,RP.q];constructor
 ·rintro⟨z,⟨z0,h0,h1⟩,z2,h2,rfl⟩;refine cps λX_ k_=>gv (cB.mp h0) λc0 e0 k0 z20=>?_;refine gv (dZ.mp h1) λw e z19 kw=>?_;subst z19;refine gv (cB.mp h2) λc e2 k z18=>?_;subst z18;rw[(si (k:=47)).mp k] at e2;refine k_ ?_;refine GX (c0::w) (by simp only[e0,e,e2];rfl) (by simp;lia) (by simp) (λq=>?_);rcases P6.mp q with q|q
  ·exact Et.mp k0 q.symm
  ·exact Et.mp (kw _ q) rfl
 ·rintro⟨w,e,rfl,hne,hw⟩;have hd:nm.drop (p+w.length)=47::nm.drop (p+w.length+1):=by rw[←Tj,e,RJ]
  induction w using lC with
  |nil=>exact absurd rfl hne
  |cons c w=>
   refine dR (bK e) λd1 d2 o_=>a7 (p+1+w.length) ⟨p+1,cB.mpr ⟨c,by rw[d1];exact e,Et.mpr λq=>hw (by refine q▸?_;simp),rfl⟩,dZ.mpr ⟨w,?_,rfl,λc hc=>Et.mpr λq=>hw (by simp only[←q];exact mM hc)⟩⟩ ⟨_,cB.mpr ⟨47,?_,by decide,rfl⟩,?_⟩
   ·simp only[d1,show p+1+w.length=p+(c::w).length by simp;exact Qg (aZ [_,_] (.g (.a (.a ab ai) ae) (.a ab (.a ae ai))) rfl) (aZ [_,_] (.g (.a ab (.a ae ai)) (.a (.a ab ai) ae)) rfl),hd];rfl
   ·rw[show p+1+w.length=p+(c::w).length by simp;exact Qg (aZ [_,_] (.g (.a (.a ab ai) ae) (.a ab (.a ae ai))) rfl) (aZ [_,_] (.g (.a ab (.a ae ai)) (.a (.a ab ai) ae)) rfl),hd]
   ·simp;exact Qg (aZ [_,_] (.g (.a ab (.a ae ai)) (.a (.a ab ai) ae)) rfl) (aZ [_,_] (.g (.a (.a ab ai) ae) (.a ab (.a ae ai))) rfl)
theorem K8(h:Tl nm as φ):Tl nm (rN::as) λs=>∃t,Dirs s t∧φ t:=by
 intro p hp;rw[fI];constructor
 ·rintro⟨y,h1,h2⟩
  have key:p≤nm.length→Dirs (nm.drop p) (nm.drop y)∧y≤nm.length:=by
   clear hp h2 h
   induction h1 with
   |refl=>exact λhp=>⟨.nil _,hp⟩|step h0 _ ih=>intro hp;refine DH (sk.mp h0) λw e z21 hne hw=>?_;subst z21;exact⟨by rw[e];exact .cons _ _ _ hne hw (ih (bK (b7 hp e).1).2.1).1,(ih (bK (b7 hp e).1).2.1).2⟩
  exact a7 _ ((key hp).1) ((h _ (key hp).2).mp h2)
 ·rintro⟨t,hd,h2⟩;generalize hs:nm.drop p=s at hd
  induction hd generalizing p with
  |nil=>exact a7 p (.refl) ((h _ hp).mpr (by simp only[hs];exact h2))|cons u x z hne hw _ ih=>exact dR (bK (b7 hp hs).1) λd3 d4 o_=>aQ (ih _ d4 h2 d3) λy h3 h4=>a7 y (.step (sk.mpr ⟨_,by rw[d3];exact hs,rfl,hne,hw⟩) h3) h4
end
noncomputable def Sg(s w:List UInt8):Prop:=w≠[]∧(47:UInt8)∉w∧bU s w=true
theorem fB(w:Ab):bU [] w=w.isEmpty:=rfl
theorem gQ{w:Ab}:bU (42::t) w=true↔ ∃k,k≤w.length∧bU t (w.drop k)=true:=by
 rw[js,iP (show((42:UInt8)==42)=true from rfl),QX];constructor
 ·rintro⟨b,hb,h⟩;refine jz hb λk hk z1=>?_;subst z1;exact a7 k (by have:=QE.mp hk;exact SL (by assumption)) h
 ·rintro⟨k,hk,h⟩;exact a7 _ (Su.mpr ⟨k,QE.mpr (Rf (by assumption)),rfl⟩) h
theorem eG{c:UInt8}{w:Ab}(h:c=97∨c=98):bU (c::t) w=true↔ ∃v,w=c::v∧bU t v=true:=by
 have h1:(c==42)=false∧(c==63)=false:=by rcases h with rfl|rfl<;>decide
 simp only[js,h1.1,iN fF,h1.2,U5]
 induction w using lC with
 |nil=>simp|cons d v=>simp only[List.isEmpty_cons,UU,RW,List.take_succ_cons,Rk,P9,beq_iff_eq,Vv,and_true];exact⟨λz2=>d7 z2 λa b=>⟨v,⟨a,rfl⟩,b⟩,λz1=>aQ z1 λo_ z2 e=>d7 z2 λa b=>⟨a,b▸e⟩⟩
theorem qB{w:Ab}:bU (63::t) w=true↔ ∃c v,w=c::v∧bU t v=true:=by
 rw[js,show((63:UInt8)==42)=false from rfl,iN fF]
 induction w using lC with
 |nil=>simp|cons d v=>simp;exact⟨λh=>⟨d,v,⟨rfl,rfl⟩,h⟩,λz3=>ie z3 λo_ o_ z4 h=>d7 z4 λo_ e=>e▸h⟩
theorem ja{w:Ab}:w.isEmpty=true↔w=[]:=by induction w using lC<;>simp
theorem EO{nm:Ab}{as:List RP}{φ:Ab→Prop}(h:Tl nm as φ)(hs:s∈b8)(hne:s≠[42,42]):Tl nm (nD s++as) λx=>∃w t,x=w++t∧Sg s w∧φ t:=by
 have no:∀ {w:Ab},(∀c∈w,Az true [47] c)↔_∉w:=λ {w}=>⟨λk q=>Et.mp (k _ q) rfl,λk c hc=>Et.mpr λe=>k (e▸hc)⟩;simp only[b8,P6,Qd,or_false] at hs;delta Sg
 have lit:∀ {k:UInt8} {as:List RP} {φ:Ab→Prop},Tl nm as φ→Tl nm _ λx=>∃t,x=k::t∧φ t:=λ {k as φ} h=>(tn h).cg λx=>⟨λz17=>fk z17 λc t e k' q=>⟨t,by simp only[e,si.mp k'],q⟩,λPa=>aQ Pa λt e q=>⟨k,t,e,si.mpr rfl,q⟩⟩
 rcases hs with rfl|rfl|rfl|rfl|rfl|rfl|rfl|rfl
 ·refine(lit h).cg λx=>⟨λPc=>aQ Pc λt e q=>⟨[97],t,e,by decide,q⟩,λz20=>fk z20 λw t e z21 q=>dR z21 λo_ o_ k=>?_⟩;refine aQ ((eG (.inl rfl)).mp k) λv Pd k2=>?_;subst Pd;rw[fB,ja] at k2;subst k2;exact a7 t e q
 ·refine(lit h).cg λx=>⟨λOP=>aQ OP λt e q=>⟨[98],t,e,by decide,q⟩,λz18=>fk z18 λw t e z19 q=>dR z19 λo_ o_ k=>?_⟩;refine aQ ((eG (.inr rfl)).mp k) λv OQ k2=>?_;subst OQ;rw[fB,ja] at k2;subst k2;exact a7 t e q
 ·refine(lit (lit h)).cg λx=>⟨λ⟨t,e,t2,e2,q⟩=>⟨[97,98],t2,by simp only[e,e2];rfl,by decide,q⟩,λPc=>fk Pc λw t e Pa q=>dR Pa λo_ o_ k=>?_⟩;refine aQ ((eG (.inl rfl)).mp k) λv Pf k2=>?_;subst Pf;refine aQ ((eG (.inr rfl)).mp k2) λv z9 k3=>?_;subst z9;rw[fB,ja] at k3;subst k3;exact a7 (98::t) e ⟨t,rfl,q⟩
 ·refine(Df h).cg λx=>⟨λz8=>IJ z8 λw t e n k q=>⟨w,t,e,⟨n,no.mp k,gQ.mpr ⟨w.length,nR,by rw[Se];rfl⟩⟩,q⟩,λOP=>fk OP λw t e Pd q=>dR Pd λn k o_=>⟨w,t,e,n,no.mpr k,q⟩⟩
 ·exact absurd rfl hne
 ·refine(tn h).cg λx=>⟨λz7=>fk z7 λc t e k q=>⟨[c],t,e,⟨by simp,by simp;exact λe=>Et.mp k e.symm,qB.mpr ⟨c,[],rfl,rfl⟩⟩,q⟩,λPe=>fk Pe λw t e OQ q=>dR OQ λo_ n k=>?_⟩;refine ie (qB.mp k) λc v z6 k2=>?_;subst z6;rw[fB,ja] at k2;subst k2;exact i6 c t e (Et.mpr λe=>n (by refine e▸?_;simp)) q
 ·refine(lit (oS h)).cg λx=>⟨λ⟨t,e,w,t2,e2,k,q⟩=>⟨97::w,t2,by simp only[e,e2];rfl,⟨by simp,λm=>?_,(eG (.inl rfl)).mpr ⟨w,rfl,gQ.mpr ⟨w.length,nR,by rw[Se];rfl⟩⟩⟩,q⟩,λz8=>fk z8 λw t e z9 q=>dR z9 λo_ n k=>?_⟩
  ·rcases P6.mp m with m|m
   ·cases m
   ·exact no.mp k m
  ·refine aQ ((eG (.inl rfl)).mp k) λv z4 k2=>?_;subst z4;exact a7 (v++t) e ⟨v,t,rfl,no.mpr λm=>n (mM m),q⟩
 ·refine(oS (lit h)).cg λx=>⟨λ⟨w,t,e,k,t2,e2,q⟩=>⟨w++[98],t2,by simp only[e,e2];simp,⟨by simp,λm=>?_,gQ.mpr ⟨w.length,by simp,by rw[RJ];decide⟩⟩,q⟩,λz5=>fk z5 λw t e z6 q=>dR z6 λo_ n k=>?_⟩
  ·rcases Qh.mp m with m|m
   ·exact no.mp k m
   ·cases mA m
  ·refine aQ (gQ.mp k) λj hj k2=>aQ ((eG (.inr rfl)).mp k2) λv e2 k3=>?_;rw[fB,ja] at k3;subst k3;have hw:w.take j++[98]=w:=by simp only[←e2,Sd]
   refine i6 (w.take j) (98::t) ?_ (no.mpr λm=>n (QY m)) ⟨t,rfl,q⟩;rw[e];have:=cG (· ++t) hw;simp only[Qc] at this;exact this.symm
noncomputable def qN(x:List UInt8):Prop:=x=[]∨x=[47]
noncomputable def Sm:Bool→BL→List UInt8→Prop
 |_,[],x=>qN x
 |f,s::rest,x=>if s=[42,42] then(if rest=[] then ∃w t,x=w++t∧qN t else if f then Sm false rest x∨∃w t,x=w++47::t∧Sm false rest t else ∃t,Dirs x t∧Sm false rest t)
  else ∃w t,x=w++t∧Sg s w∧if rest=[] then qN t else ∃t',t=47::t'∧Sm false rest t'
theorem Ii{f:Bool}{x:Ab}:Sm f [] x=qN x:=rfl
theorem xL{f:Bool}{x:Ab}{rest:BL}:Sm f (s::rest) x=if s=[42,42] then if rest=[] then ∃w t,x=w++t∧qN t else if f=true then Sm false rest x∨∃w t,x=w++47::t∧Sm false rest t else ∃t,Dirs x t∧Sm false rest t else ∃w t,x=w++t∧Sg s w∧if rest=[] then qN t else ∃t',t=47::t'∧Sm false rest t':=rfl
noncomputable def T0:List RP:=[.oct false [47] .opt,.fin .one]
theorem Ar{nm:Ab}:Tl nm T0 qN:=(FH GG).cg λx=>by
 constructor
 ·rintro(h|⟨c,t,e,k,h⟩)
  ·exact .inl h
  ·exact .inr (by simp only[e,h,(si (k:=47)).mp k])
 ·rintro(h|h)
  ·exact .inl h
  ·exact .inr ⟨47,[],h,(si).mpr rfl,rfl⟩
theorem D9{nm:Ab}:∀ (l:BL) (i:Nat) (p:Ab),(∀s∈l,s∈b8)→Tl nm (qm i p l++T0) λx=>if(0<i∧p≠[42,42])∧l≠[] then ∃t,x=47::t∧Sm (i==0) l t else Sm (i==0) l x
 |[],i,p,_=>by refine(Ar).cg λx=>?_;simp[Ii]
 |s::rest,i,p,hl=>by
  have ih:=D9 (nm:=nm) rest (i+1) s (λx hx=>hl x (Tf s hx))
  have Of:rest.all (·.isEmpty)=decide (rest=[]):=by
   induction rest using lC with
   |nil=>rfl|cons a r=>have:=(λx hx=>(gG ((λx hx=>hl x (Tf s hx)) x hx)).2) a (by simp);induction a using lC with|nil=>exact absurd rfl this|cons=>simp
  rw[(show(i+1==0)=false from rfl)] at ih
  have body:Tl nm ((if s==[42,42] then(if hV i rest==[46,42] then[BG] else yR i rest++qm (i+1) s rest) else nD s++qm (i+1) s rest)++T0) (Sm (i==0) (s::rest)):=by
   by_cases hs:s=[42,42]
   ·subst hs;delta hV yR;refine Of▸?_
    by_cases h0:rest=[]
    ·subst h0;refine(HB Ar).cg λx=>?_;rw[xL,iP rfl,iP rfl]
    ·rw[(decide_eq_false h0),iN fF,iN fF]
     induction hi0:(i==0) using bC with
     |true=>refine(Hh (ih.cg λx=>by rw[iN λq=>q.1.2 rfl])).cg λx=>?_;rw[xL,iP rfl,iN h0,iP rfl]|false=>refine(K8 (ih.cg λx=>by rw[iN λq=>q.1.2 rfl])).cg λx=>?_;rw[xL,iP rfl,iN h0,iN fF]
   ·have NL:(s==[42,42])=false:=by simpa using hs
    rw[NL,iN fF,Qc];refine(EO ih (hl s (by simp)) hs).cg λx=>?_;rw[xL,iN hs]
    have hc:∀t,(if(0<i+1∧s≠_)∧rest≠[] then ∃t',t=47::t'∧Sm false rest t' else Sm false rest t)↔if rest=[] then qN t else ∃t',t=47::t'∧Sm false rest t':=λt=>by
     by_cases h0:rest=[]
     ·subst h0;simp[Ii]
     ·rw[iP ⟨⟨by exact Ra _,hs⟩,h0⟩,iN h0]
    simp only[hc]
  simp only[zx]
  induction h0:(decide (0<i)&& !(p==[42,42])) using bC with
  |true=>simp only[P9,decide_eq_true_eq,R5,beq_eq_false_iff_ne] at h0;exact(He body).cg λx=>by rw[iP ⟨⟨h0.1,h0.2⟩,by simp⟩]|false=>refine body.cg λx=>?_;rw[iN];rintro⟨⟨a,b⟩,_⟩;simp[a,b] at h0
noncomputable def fE:BL→BL→Prop
 |[],qs=>qs=[]∨qs=[[]]|s::r,qs=>if s=[42,42] then(if r=[] then qs≠[] else ∃k,k<qs.length∧fE r (qs.drop k)) else ∃p rest,qs=p::rest∧Sg s p∧fE r rest
theorem E1{x:BL}:fE [] x=(x=[]∨x=[[]]):=rfl
theorem fe{x:BL}:fE (s::r) x=if s=[42,42] then if r=[] then x≠[] else ∃k,k<x.length∧fE r (x.drop k) else ∃p rest,x=p::rest∧Sg s p∧fE r rest:=rfl
theorem Ek:∀ {l:BL},l≠[]→¬ fE l []
 |s::r,_,h=>by
  simp only[fe] at h;split at h
  ·split at h
   ·exact h rfl
   ·refine aQ h λk hk o_=>?_;cases hk
  ·refine ie h λp rest e o_=>?_;cases e
structure Nc(qs:BL):Prop where
 ne:qs≠[]
 sl:∀p∈qs,(47:UInt8)∉p
 low:∀p∈qs.dropLast,p≠[]
theorem Nc.tail{q:Ab}(h:Nc (p::q::qs)):Nc (q::qs):=⟨by simp,λx hx=>h.sl x (mM hx),λx hx=>h.low x (by rw[Sq (by simp)];exact mM hx)⟩
theorem Nc.hd{q:Ab}(h:Nc (p::q::qs)):p≠[]:=h.low p (by rw[Sq (by simp)];simp)
theorem Nc.drop(h:Nc qs):∀ {k:Nat},k<qs.length→Nc (qs.drop k):=by
 intro k
 induction k generalizing qs with
 |zero=>exact λo_=>h
 |succ k ih=>
  intro hk
  match qs,hk with
  |p::q::qs,hk=>exact ih h.tail (by simp at hk⊢;exact hk)|[p],hk=>simp at hk
theorem lq{a b c d:Ab}(ha:(47:UInt8)∉a)(hc:(47:UInt8)∉c)(h:a++47::b=c++47::d):a=c∧b=d:=by
 induction a generalizing c with
 |nil=>
  induction c using lC with
  |nil=>injection h with _ h;exact⟨rfl,h⟩
  |cons x c=>injection h with h _;exact absurd (h▸mS) hc
 |cons x a ih=>
  induction c using lC with
  |nil=>injection h with h _;exact absurd (h▸mS) ha
  |cons y c=>injection h with h1 h2;exact⟨by simp only[h1,(ih (λq=>ha (mM q)) (λq=>hc (mM q)) h2).1],(ih (λq=>ha (mM q)) (λq=>hc (mM q)) h2).2⟩
theorem jh:∀ {qs:BL},Nc qs→∀ {t:Ab},(∃w,aB [47] qs=w++47::t)↔ ∃k,0<k∧k<qs.length∧t=aB [47] (qs.drop k)
 |[p],h,t=>by
  constructor
  ·rintro⟨w,e⟩;exact absurd (show _∈p by rw[show p=w++47::t from e];simp) (h.sl p (by simp))
  ·rintro⟨k,h0,h1,_⟩;simp at h1;lia
 |p::q::qs,h,t=>by
  have ih:=jh h.tail (t:=t);have hp:=h.sl p (by simp);refine be▸?_;constructor
  ·rintro⟨w,e⟩
   by_cases hw:(47:UInt8)∈w
   ·refine cps λX_ k_=>?_
    obtain⟨a,b,e2,ha⟩:∃a b,w=a++47::b∧(47:UInt8)∉a:=by
     clear e ih
     induction w with
     |nil=>cases hw
     |cons x w ihw=>
      by_cases hx:x=47
      ·exact oD ([]) w (by refine hx▸?_;rfl) (by simp)
      ·exact ie (ihw ((P6.mp hw).resolve_left λe=>hx e.symm)) λa b e ha=>oD (x::a) b (by refine e▸?_;rfl) (λm=>(P6.mp m).elim (λe=>hx e.symm) ha)
    simp only[e2,Qc] at e;refine gv (ih.mp ⟨b,(lq hp ha e).2⟩) λk h0 h1 h2=>k_ ?_;exact sx (k+1) (Rz _ _) (by simp at h1⊢;exact h1) h2
   ·exact sx 1 (by decide) (by simp) ((lq hp hw e).2.symm)
  ·rintro⟨k,h0,h1,h2⟩
   match k,h0 with
   |1,_=>exact⟨p,by refine h2▸?_;rfl⟩|k+2,_=>exact ek (ih.mpr ⟨k+1,(Rz _ _),by simp at h1⊢;exact h1,h2⟩) λw e=>⟨p++47::w,by rw[e];simp⟩
theorem qT(h:Nc qs):Dirs (aB [47] qs) t↔ ∃k,k<qs.length∧t=aB [47] (qs.drop k):=by
 constructor
 ·intro hd;generalize hx:aB [47] qs=x at hd
  induction hd generalizing qs with
  |nil=>exact a7 0 (Rt.mpr h.ne) (hx.symm)
  |cons u x z hne hu _ ih=>
   match qs,h with
   |[p],h=>exact absurd (show _∈p by rw[show p=u++47::x from hx];simp) (h.sl p (by simp))|p::q::qs,h=>rw[be] at hx;exact aQ (ih h.tail (lq (h.sl p (by simp)) hu hx).2) λk hk e2=>a7 (k+1) (by simp at hk⊢;exact hk) e2
 ·rintro⟨k,hk,rfl⟩
  induction k generalizing qs with
  |zero=>exact .nil _
  |succ k ih=>
   match qs,h,hk with
   |[p],h,hk=>simp at hk|p::q::qs,h,hk=>rw[be];exact .cons _ _ _ h.hd (h.sl p (by simp)) (ih h.tail (by simp at hk⊢;exact hk))
theorem seg_iff(h:Nc qs){ψ:Ab→Prop}{χ:BL→Prop}(hψ:∀rest,Nc rest→(ψ (47::aB [47] rest)↔χ rest))(h0:ψ []↔χ [])(hb:∀c t,c≠47→¬ ψ (c::t)):
 (∃w t,aB [47] qs=w++t∧Sg s w∧ψ t)↔ ∃p rest,qs=p::rest∧Sg s p∧χ rest:=by
 match qs,h with
 |[p],h=>
  constructor
  ·rintro⟨w,t,e,hs,ht⟩;have e:p=_:=e
   induction t using lC with
   |nil=>simp only[Qj] at e;exact i6 p ([]) rfl (e▸hs) (h0.mp ht)
   |cons c t=>
    by_cases hc:c=47
    ·exact absurd (show _∈p by rw[e,hc];simp) (h.sl p (by simp))
    ·exact absurd ht (hb c t hc)
  ·rintro⟨p',rest,e,hs,ht⟩;obtain⟨rfl,rfl⟩:=QD e;exact i6 p ([]) ((Qj p).symm) hs (h0.mpr ht)
 |p::q::qs,h=>
  refine be▸?_;constructor
  ·rintro⟨w,t,e,hs,ht⟩
   induction t using lC with
   |nil=>rw[Qj] at e;exact absurd (show _∈w by refine e▸?_;simp) hs.2.1
   |cons c t=>
    by_cases hc:c=47
    ·subst hc;exact i6 p (q::qs) rfl ((lq (h.sl p (by simp)) hs.2.1 e).1▸hs) ((hψ _ h.tail).mp (by rw[(lq (h.sl p (by simp)) hs.2.1 e).2];exact ht))
    ·exact absurd ht (hb c t hc)
  ·rintro⟨p',rest,e,hs,ht⟩;obtain⟨rfl,rfl⟩:=QD e;exact i6 p _ rfl hs ((hψ _ h.tail).mpr ht)
theorem join_nil{rest:BL}(h:Nc rest):aB [47] rest=[]↔rest=[[]]:=by
 match rest,h with
 |[p],h=>show p=[]↔_;simp|p::q::r,h=>refine be▸?_;simp
theorem tE:∀ (l:BL),l≠[]→∀ (f:Bool) {qs:BL},Nc qs→(Sm f l (aB [47] qs)↔fE l qs)
 |s::r,_,f,qs,h=>by
  simp only[xL,fe]
  by_cases hs:s=[42,42]
  ·rw[iP hs,iP hs]
   by_cases hr:r=[]
   ·rw[iP hr,iP hr];exact⟨λo_=>h.ne,λo_=>⟨_,[],(Qj _).symm,.inl rfl⟩⟩
   ·rw[iN hr,iN hr];have ih:=λ {qs:BL} (h:Nc qs)=>tE r hr false h
    induction f using bC with
    |true=>
     constructor
     ·rintro(h1|⟨w,t,e,h1⟩)
      ·exact a7 0 (Rt.mpr h.ne) ((ih h).mp h1)
      ·refine gv ((jh h).mp ⟨w,e⟩) λk o_ hk z4=>?_;subst z4;exact a7 k hk ((ih (h.drop hk)).mp h1)
     ·rintro⟨k,hk,h1⟩
      induction k using Qy with
      |zero=>exact .inl ((ih h).mpr h1)|succ k=>obtain⟨w,e⟩:=(jh h).mpr ⟨k+1,(Rz _ _),hk,rfl⟩;exact .inr ⟨w,_,e,(ih (h.drop hk)).mpr h1⟩
    |false=>
     constructor
     ·rintro⟨t,hd,h1⟩;refine aQ ((qT h).mp hd) λk hk z3=>?_;subst z3;exact a7 k hk ((ih (h.drop hk)).mp h1)
     ·rintro⟨k,hk,h1⟩;exact a7 _ ((qT h).mpr ⟨k,hk,rfl⟩) ((ih (h.drop hk)).mpr h1)
  ·rw[iN hs,iN hs]
   by_cases hr:r=[]
   ·subst hr;refine seg_iff h (λrest hn=>?_) ?_ ?_
    ·simp only[E1];constructor
     ·rintro(e|e)
      ·cases e
      ·injection e with _ e;exact .inr ((join_nil hn).mp e)
     ·rintro(e|e)
      ·exact absurd e hn.ne
      ·exact .inr (cG _ ((join_nil hn).mpr e))
    ·rw[E1];exact⟨λo_=>.inl rfl,λo_=>.inl rfl⟩
    ·rintro c t hc (e|e)
     ·cases e
     ·injection e with e _;exact hc e
   ·simp only[iN hr];refine seg_iff h (λrest hn=>?_) ?_ ?_
    ·simp only[←tE r hr false hn];exact⟨λz2=>aQ z2 λt' e h1=>(QD e).2▸h1,λh1=>⟨_,rfl,h1⟩⟩
    ·exact⟨λz1=>aQ z1 λo_ e o_=>(nomatch e),λh1=>absurd h1 (Ek hr)⟩
    ·rintro c t hc ⟨t',e,_⟩;injection e with e _;exact hc e
theorem fX:fE ([42,42]::[42,42]::r) qs↔fE ([42,42]::r) qs:=by
 rw[fe,iP rfl,iN (by simp)]
 by_cases hr:r=[]
 ·subst hr;constructor
  ·rintro⟨k,hk,_⟩ e;rw[e] at hk;cases hk
  ·intro h;exact a7 0 (Rt.mpr h) h
 ·simp only[fe,if_true,iN hr];constructor
  ·rintro⟨k,hk,j,hj,h⟩;simp only[Rj] at hj;exact a7 (k+j) (aZ [_,_,_,_] (.h 1 (.a ab ae) af (.h 1 (.a ag ai) ab (.g (.a (.a ae ag) ai) af))) rfl (nE (sC (aZ [k,_] (.h 1 (.a ab ai) ae (.g ab ae)) rfl hk))) hj) (by rw[←Tj];exact h)
  ·rintro⟨k,hk,h⟩;exact a7 k hk ⟨0,by simp only[Rj];exact aZ [_,_,_] (.h 1 (.a ab ai) ae (.h 1 ae (.a af ab) (.g (.a aj ai) af))) rfl hk (iW _ _),h⟩
theorem Ao{r':BL}(hr:r≠[])(OW:r'≠[])(h:∀qs,fE r qs↔fE r' qs)(qs:BL):fE (s::r) qs↔fE (s::r') qs:=by simp only[fe,iN hr,iN OW,h]
theorem AO(a:Ab):dz [a]=[a]:=by delta dz;simp[bL]
theorem B0(l:BL)(hl:l.length≤3)(hne:l≠[]):dz l≠[]∧∀qs,fE (dz l) qs↔fE l qs:=by
 rcases Ik hl hne with⟨a,rfl⟩|⟨a,b,rfl⟩|⟨a,b,c,rfl⟩
 ·rw[AO];exact⟨by simp,λo_=>.rfl⟩
 ·by_cases ha:a=[42,42]<;>by_cases hb:b=[42,42]
  ·subst ha hb;exact⟨by decide,λqs=>(fX).symm⟩
  all_goals
   have:dz [a,b]=[a,b]:=by delta dz;simp[bL,ha,hb]
   rw[this];exact⟨by simp,λo_=>.rfl⟩
 ·by_cases ha:a=[42,42]<;>by_cases hb:b=[42,42]<;>by_cases hc:c=[42,42]
  ·subst ha hb hc;exact⟨by decide,λqs=>((Ao (by simp) (by simp) (λqs=>fX) qs).trans (fX)).symm⟩
  ·subst ha hb;have:dz [[42,42],[42,42],c]=[[42,42],c]:=by delta dz;simp[bL,hc]
   rw[this];exact⟨by simp,λqs=>fX.symm⟩
  ·subst ha hc;have:dz [[42,42],b,[42,42]]=[[42,42],b,[42,42]]:=by delta dz;simp[bL,hb]
   rw[this];exact⟨by simp,λo_=>.rfl⟩
  ·have:dz [a,b,c]=[a,b,c]:=by delta dz;simp[bL,hb,hc]
   rw[this];exact⟨by simp,λo_=>.rfl⟩
  ·subst hb hc;have:dz [a,[42,42],[42,42]]=[a,[42,42]]:=by delta dz;simp[bL,ha]
   refine this▸?_;exact⟨by simp,λqs=>Ao (by simp) (by simp) (λqs=>(fX).symm) qs⟩
  all_goals
   have:dz [a,b,c]=[a,b,c]:=by delta dz;simp[bL,ha,hb,hc]
   rw[this];exact⟨by simp,λo_=>.rfl⟩
noncomputable def Ga(q:Bool)(φ:List UInt8→Prop)(x:List UInt8):Prop:=if q then φ x∨∃w t,x=w++47::t∧φ t else φ x
theorem vo{nm:Ab}{as:List RP}{φ:Ab→Prop}(h:Tl nm as φ)(q:Bool):Tl nm ((if q then[rG] else[])++as) (Ga q φ):=by
 induction q using bC with
 |true=>exact(Hh h).cg λx=>.rfl|false=>exact h.cg λx=>.rfl
theorem v9{φ:Ab→Prop}{l:BL}(hl:l≠[])(h:∀qs,Nc qs→(φ (aB [47] qs)↔fE l qs))(q:Bool)(hq:Nc qs):Ga q φ (aB [47] qs)↔fE (if q then[42,42]::l else l) qs:=by
 induction q using bC with
 |false=>exact h qs hq
 |true=>
  rw[iP rfl,fe,iP rfl,iN hl];constructor
  ·rintro(h1|⟨w,t,e,h1⟩)
   ·exact a7 0 (Rt.mpr hq.ne) ((h _ hq).mp h1)
   ·refine gv ((jh hq).mp ⟨w,e⟩) λk o_ hk z1=>?_;subst z1;exact a7 k hk ((h _ (hq.drop hk)).mp h1)
  ·rintro⟨k,hk,h1⟩
   induction k using Qy with
   |zero=>exact .inl ((h _ hq).mpr h1)|succ k=>obtain⟨w,e⟩:=(jh hq).mpr ⟨k+1,by exact Ra _,hk,rfl⟩;exact .inr ⟨w,_,e,(h _ (hq.drop hk)).mpr h1⟩
noncomputable def Row.cs(r:Row):BL:=if dC r.lead r.comps then r.comps else[42,42]::r.comps
theorem tM{r:Row}(h:RowOk r)(hq:Nc qs):RX (io r.p0) (aB [47] qs)↔fE r.cs qs:=by
 have hsg:=l9 h;refine dR (o7 hsg) λr1 r2 o_=>?_;have hm:=λs hs=>h.mem s (r2 s hs)
 have Pr:[47].isSuffixOf (aB [47] (bI r.comps))=false:=by refine ie (jZ r1 hm) λt c e hc=>?_;rw[e];refine(?_:[47].isPrefixOf (t++[c]).reverse=_);rw[Qp];refine(?_:(_==c&&_)=_);rw[show((47:UInt8)==c)=false by simp;exact λe=>hc.ne.1 e.symm];rfl
 have MZ:(bI r.comps).length≤3:=by
  have:=h.len;delta bI;split
  ·rw[List.length_tail];(clear h hq hsg r1 r2 o_ hm Pr;exact nT (Sh _ _) this)
  ·exact this
 refine d7 (B0 (bI r.comps) MZ r1) λc1 c2=>?_
 have e:io r.p0=(if(!dC r.lead r.comps) then[rG] else[])++((if cA r.comps then[rG] else[])++(qm 0 [] (dz (bI r.comps))++T0)):=by delta io;rw[BE h,show Di r.p0=r.comps from DL hsg h.lead];delta cp;rw[Pr,iN fF];rfl
 refine e▸?_;have h2:=(vo (vo ((D9 (nm:=aB [47] qs) (dz (bI r.comps)) 0 [] (λs hs=>(mz _ _ hs).elim (λq=>by cases q) (hm s))).cg (ψ:=Sm true (dz (bI r.comps))) λx=>by rw[iN λq=>absurd q.1.1 (R0 0)];exact .rfl) (cA r.comps)) (!dC r.lead r.comps)) 0 (RN _);simp only[R7] at h2;refine Iff.trans h2 ?_
 have f1:∀qs,Nc qs→(Ga (cA r.comps) _ _↔fE r.comps qs):=λqs hq=>by
  rw[v9 c1 (λqs hq=>tE _ c1 true hq) _ hq];delta bI at c2⊢
  induction hs:cA r.comps using bC with
  |false=>rw[hs] at c2;refine(iN fF)▸?_;exact c2 qs
  |true=>
   have c3:=c1;unfold bI at c3;rw[hs,iP rfl] at c3;rw[hs] at c2;refine(iP rfl)▸?_
   match N2:r.comps,hs,c2,c3 with
   |a::b::l,hs,c2,c3=>refine((bA hs))▸?_;exact Ao c3 (by simp) c2 qs
 rw[v9 h.ne f1 _ hq];delta Row.cs;cases dC r.lead r.comps<;>exact .rfl
noncomputable def Gp(ps:BL):Prop:=∀p∈ps,p≠[]∧(47:UInt8)∉p
theorem Gp.nc(h:Gp ps)(hne:ps≠[]):Nc ps:=⟨hne,λp hp=>(h p hp).2,λp hp=>(h p (Up _ hp)).1⟩
theorem Gp.drop(h:Gp ps)(k:Nat):Gp (ps.drop k):=λp hp=>h p (Rq hp)
theorem jY:∀ (l:BL),l≠[]→cf l []=false
 |c::cs,_=>by
  rw[vT]
  induction h1:(c==[42,42]&&cs.isEmpty) using bC with
  |true=>rfl
  |false=>
   induction h2:(c==[42,42]) using bC with
   |true=>
    have N2:cs≠[]:=by rintro rfl;rw[h2] at h1;cases h1
    simp[jY cs N2]
   |false=>exact(iN fF)
theorem ol{c:Ab}{cs:BL}:cf (c::cs) ps=if c==[42,42]&&cs.isEmpty then !ps.isEmpty else if c==[42,42] then((Qb (ps.length+1)).map λk=>cf cs (ps.drop k)).any id
 else match ps with|[]=>false|p::ps=>bU c p&&cf cs ps:=rfl
theorem vQ:∀ (l:BL) {qs:BL},Gp qs→(cf l qs=true↔fE l qs):=by
 intro L_;induction L_ with
 |nil=>intro qs h;rw[Ck,E1,TH];exact⟨.inl,λq=>q.elim id λe=>absurd rfl (h [] (by refine e▸?_;simp)).1⟩
 |cons c cs IH_=>
  intro qs h;rw[ol,fe]
  by_cases h2:c=[42,42]
  ·rw[iP h2];subst h2
   by_cases N2:cs=[]
   ·subst N2;refine(iP rfl)▸?_
    induction qs using lC<;>simp
   ·rw[iN N2,show(([42,42]:Ab)==[42,42]&&cs.isEmpty)=false by induction cs using lC<;>first|rfl|exact absurd rfl N2,iN fF,iP (show(_==_)=true from rfl),QX];constructor
    ·rintro⟨b,hb,N0⟩;refine jz hb λk hk z2=>?_;subst z2
     by_cases N7:k<qs.length
     ·exact a7 k N7 ((IH_ (h.drop k)).mp N0)
     ·rw[Qw (by(clear h N2 hk hb N0;exact(SV N7))),jY cs N2] at N0;cases N0
    ·rintro⟨k,hk,h1⟩;exact a7 _ (Su.mpr ⟨k,QE.mpr (Qo (by assumption)),rfl⟩) ((IH_ (h.drop k)).mpr h1)
  ·have h3:(c==[42,42])=false:=by simpa using h2
   rw[iN h2,h3,UY,iN fF,iN fF]
   induction qs using lC with
   |nil=>simp
   |cons p ps=>
    simp only[P9,IH_ λq hq=>h q (mM hq)];constructor
    ·rintro⟨a,b⟩;exact i6 p ps rfl ⟨(h p (by simp)).1,(h p (by simp)).2,a⟩ b
    ·rintro⟨p',rest,e,a,b⟩;obtain⟨rfl,rfl⟩:=QD e;exact⟨a.2.2,b⟩
theorem oH:∀ {l:BL},l≠[]→l.getLast?≠some [42,42]→∀ {qs:BL},Gp qs→fE l (qs++[[]])→fE l qs
 |s::r,_,hlast,qs,hg,h=>by
  simp only[fe] at h⊢
  by_cases hs:s=[42,42]
  ·rw[iP hs] at h⊢
   by_cases hr:r=[]
   ·subst hr;subst hs;exact absurd rfl hlast
   ·rw[iN hr] at h⊢;obtain⟨k,hk,h⟩:=h
    have N6:r.getLast?≠some [42,42]:=by
     induction r using lC with
     |nil=>exact absurd rfl hr|cons a r=>simpa[UB] using hlast
    simp only[Qa] at hk;rw[Sk (SL (by assumption))] at h;have h2:=oH hr N6 (hg.drop k) h;refine a7 k ?_ h2;apply QN;intro q;rw[Qw q] at h2;exact Ek hr h2
  ·rw[iN hs] at h⊢;obtain⟨p,rest,e,sg,h⟩:=h
   induction qs using lC with
   |nil=>obtain⟨rfl,rfl⟩:=QD e;exact absurd rfl sg.1
   |cons q qs=>
    injection e with e1 e2;subst e1 e2;refine i6 q qs rfl sg ?_
    by_cases hr:r=[]
    ·subst hr;rcases h with h|h
     ·exact absurd h (by simp)
     ·induction qs using lC with|nil=>exact .inl rfl|cons a b=>induction b using lC<;>cases h
    ·have N6:r.getLast?≠some [42,42]:=by
      induction r using lC with
      |nil=>exact absurd rfl hr|cons a r=>simpa[UB] using hlast
     exact oH hr N6 (λp hp=>hg p (mM hp)) h
theorem H4{b:Ab}(hb:b∈b8)(hs:b≠[42,42])(h:Sg b [120]):b=[42]∨b=[63]:=by
 have h:=h.2.2;simp only[b8,P6,Qd,or_false] at hb;rcases hb with rfl|rfl|rfl|rfl|rfl|rfl|rfl|rfl
 ·exact absurd h (by decide)
 ·exact absurd h (by decide)
 ·exact absurd h (by decide)
 ·exact .inl rfl
 ·exact absurd rfl hs
 ·exact .inr rfl
 ·exact absurd h (by decide)
 ·exact absurd h (by decide)
theorem Kq{l:BL}(hne:l≠[])(hl:l.length≤3)(hm:∀s∈l,s∈b8)(hlast:l.getLast?=some [42,42])(hw:lJ l=false)(hp:ps≠[])(hg:Gp (ps++[[120]]))(h:fE l (ps++[[120]]++[[]])):fE l (ps++[[120]]):=by
 obtain⟨p0,Oj,rfl⟩:∃p0 Oj,ps=p0::Oj:=by induction ps using lC with|nil=>exact absurd rfl hp|cons a b=>exact G4 a b rfl
 rcases Ik hl hne with⟨a,rfl⟩|⟨a,b,rfl⟩|⟨a,b,c,rfl⟩
 ·simp at hlast;subst hlast;rw[fe,iP rfl,iP rfl];simp
 ·simp at hlast;subst hlast
  by_cases ha:a=[42,42]
  ·subst ha;rw[fX,fe,iP rfl,iP rfl];simp
  ·rw[fe,iN ha] at h⊢;refine fk h λp rest e sg o_=>?_;obtain⟨rfl,rfl⟩:=QD e;exact i6 p0 (Oj++[[120]]) rfl sg (by rw[fe,iP rfl,iP rfl];simp)
 ·simp at hlast;subst hlast
  have hb:b≠[42]∧b≠[63]:=by constructor<;>rintro rfl<;>simp[lJ] at hw
  by_cases ha:a=[42,42]
  ·subst ha
   by_cases N0:b=[42,42]
   ·subst N0;rw[fX,fX,fe,iP rfl,iP rfl];simp
   ·rw[fe,iP rfl,iN (by simp)] at h⊢;refine aQ h λk hk h=>?_;rw[fe,iN N0] at h;refine fk h λp rest e sg h=>?_;simp only[Qa] at hk;rw[Sk (by simp;exact SL (by assumption))] at e;cases hd:(p0::Oj++[[120]]).drop k with|nil=>rw[hd] at e;obtain⟨rfl,rfl⟩:=QD e;exact absurd rfl sg.1|cons q qs=>
     rw[hd] at e;injection e with e1 e2;subst e1 e2;refine⟨k,?_,?_⟩
     ·apply QN;intro q';rw[Qw q'] at hd;cases hd
     ·rw[hd,fe,iN N0];refine i6 q qs rfl sg ?_;rintro rfl
      have hq:q=[120]:=by
       have:=cG List.getLast? hd;have hl:(p0::Oj++[[120]]).getLast?=some [120]:=QZ.trans rfl;rw[List.getLast?_drop,hl] at this;split at this
       ·cases this
       ·injection this with this;exact this.symm
      subst hq;exact absurd (H4 (hm b (by simp)) N0 sg) λz=>z.elim hb.1 hb.2
  ·by_cases N0:b=[42,42]
   ·subst N0;rw[fe,iN ha] at h⊢;refine fk h λp rest e sg o_=>?_;obtain⟨rfl,rfl⟩:=QD e;exact i6 p0 (Oj++[[120]]) rfl sg (by rw[fX,fe,iP rfl,iP rfl];simp)
   ·rw[fe,iN ha] at h⊢;obtain⟨p,rest,e,sg,h⟩:=h;obtain⟨rfl,rfl⟩:=QD e;refine i6 p0 (Oj++[[120]]) rfl sg ?_;rw[fe,iN N0] at h⊢;obtain⟨p,rest,e,sg2,h⟩:=h
    induction Oj using lC with
    |nil=>obtain⟨rfl,rfl⟩:=QD e;exact absurd (H4 (hm b (by simp)) N0 sg2) λz=>z.elim hb.1 hb.2|cons q qs=>injection e with e1 e2;subst e1 e2;exact i6 q (qs++[[120]]) rfl sg2 (by rw[fe,iP rfl,iP rfl];simp)
structure Pl(ps:BL):Prop where
 ne:ps≠[]
 len:ps.length≤5
 each:∀p∈ps,p≠[]∧(47:UInt8)∉p∧p.length≤2∧p.all (· <128)=true
theorem Pl.gp(h:Pl ps):Gp ps:=λp hp=>⟨(h.each p hp).1,(h.each p hp).2.1⟩
theorem Pl.drop(h:Pl ps){k:Nat}(hk:k<ps.length):Pl (ps.drop k):=⟨λe=>by have:=Rp.mp e;exact LV this hk,by have:=h.len;refine Rj▸?_;(clear h hk;exact nT (Sh _ _) this),λp hp=>h.each p (Rq hp)⟩
theorem Pl.take(h:Pl ps){k:Nat}(hk:0<k):Pl (ps.take k):=⟨λe=>(List.take_eq_nil_iff.mp e).elim (λq=>(LV (nE q) hk)) h.ne,by have:=h.len;refine Ql▸?_;exact nT (QM _ _) this,λp hp=>h.each p (QY hp)⟩
theorem y6(b:Ab):r7 (strN b)=b:=by
 delta r7 strN;simp only[Qk];have:(Q3∘Rm)=id:=by funext x;simp
 simp only[this,Vd]
theorem pW:∀l:BL,aB [47] (l.map strN)=strN (aB [47] l)
 |[]=>rfl|[a]=>rfl|a::b::l=>by refine(?_:strN a++[47]++aB [47] _=strN (a++[47]++aB [47] _));simp only[pW (b::l)];delta strN;simp
theorem BQ(h:(47:UInt8)∉p):(47:Nat)∉strN p:=by intro q;exact jz q λx hx e=>h ((RY (b:=47)).mp e▸hx)
noncomputable def eO(ps:BL):List Nat:=strN (aB [47] ps)
theorem pO(h:Pl ps):aL 47 (eO ps)=ps.map strN:=by
 delta eO;rw[←pW]
 exact bX (by simp;exact h.ne) λs hs=>by refine jz hs λp hp z1=>?_;subst z1;exact BQ (h.each p hp).2.1
theorem i9:∀ {ps:BL},(∀p∈ps,p.length≤2)→(aB [47] ps).length≤3*ps.length
 |[],_=>nR|[a],h=>by have:=h a (by simp);refine(?_:a.length≤_);simp;exact Qo (by assumption)|a::b::l,h=>by have h2:=i9 λp hp=>h p (mM hp);rw[be];simp at h2⊢;exact aZ [_,_,_] (.h 1 ab al (.h 1 ae (.m 3 (.a af ai)) (.g (.a ab (.a ae ai)) (.m 3 (.a (.a af ai) ai))))) rfl (h a (by simp)) h2
theorem lm:∀ {ps:BL},(∀p∈ps,p.all (· <128)=true)→(aB [47] ps).all (· <128)=true
 |[],_=>rfl|[a],h=>h a (by simp)|a::b::l,h=>by simp only[be,TN,Rs,h a (by simp),lm λp hp=>h p (mM hp)];rfl
theorem DM{b:Ab}(h:b.all (· <128)=true):(strN b).all (· <128)=true:=by delta strN;rw[U8];rw[SN] at h⊢;intro x hx;have:=h x hx;exact this
theorem mH(h:Pl ps):(eO ps).length≤15:=by delta eO strN;rw[KE];have:=i9 λp hp=>(h.each p hp).2.2.1;have:=h.len;lia
theorem Ba(h:Pl ps)(k:Nat):aB [47] ((aL 47 (eO ps)).drop k)=eO (ps.drop k):=by rw[pO h,←T9,pW];rfl
theorem DP(h:Pl ps):NmOk (eO ps):=by
 have e:∀k,(eO (ps.drop k)).length≤15∧(eO (ps.drop k)).all _=_:=λk=>by
  delta eO;refine⟨?_,DM (lm λp hp=>(h.each p (Rq hp)).2.2.2)⟩;delta strN;rw[KE];have:=i9 (ps:=ps.drop k) λp hp=>(h.each p (Rq hp)).2.2.1;have:=h.len;have h3:(ps.drop k).length≤ps.length:=by rw[Rj];exact(Sh _ _)
  lia
 exact⟨by have:=mH h;exact kJ this rfl,λk=>by rw[Ba h];exact(e k).2,λk=>by rw[Ba h];have:=(e k).1;(clear h e;exact cj this rfl)⟩
theorem AQ(h:Pl ps)(k:Nat):cS (eO ps) k=aB [47] (ps.drop k):=by delta cS;rw[Ba h];exact y6 _
theorem Cp(h:Pl ps):∃t c,eO ps=t++[c]∧c≠47:=by
 have hl:∀ {l:BL},l≠[]→(∀p∈l,p≠[]∧(47:UInt8)∉p)→∃t c,aB [47] l=t++[c]∧c≠(47:UInt8):=by
  intro l
  induction l with
  |nil=>intro q;exact absurd rfl q
  |cons a l ih=>
   intro o_ hp
   induction l using lC with
   |nil=>
    refine d7 (hp a (by simp)) λa1 a2=>?_;rcases QR a with e|⟨t,c,e⟩
    ·exact absurd e a1
    ·simp only[QS] at e;exact oD t c e (λq=>a2 (by rw[e,q];simp))
   |cons b l=>exact ie (ih (by simp) λp hq=>hp p (mM hq)) λt c e hc=>oD (a++47::t) c (by simp only[be,e];simp) hc
 refine ie (hl h.ne λp hp=>⟨(h.each p hp).1,(h.each p hp).2.1⟩) λt c e hc=>oD (strN t) (c.toNat) (by delta eO;rw[e];simp[strN]) (λq=>hc ((RY).mp q))
theorem eH(h:Pl ps)(k:Nat)(hk:k≤1):a8 [47] (eO ps++[47].take k)=eO ps∧[47].isSuffixOf (eO ps++[47].take k)=(k==1):=by
 refine ie (Cp h) λt c e hc=>?_;have OZ:([47]:List Nat).contains c=false:=by simp;exact hc
 have hr:((eO ps).reverse.dropWhile λx=>([47]:List Nat).contains x)=(eO ps).reverse:=by rw[e,Qp];refine(?_:(c::t.reverse).dropWhile _=c::t.reverse);rw[Ss,OZ];rfl
 delta a8
 match k,hk with
 |0,_=>rw[Rk,Qj,hr,QV];refine⟨rfl,?_⟩;refine(?_:[47].isPrefixOf (eO ps).reverse=_);simp only[e,Qp];refine(?_:(_==c&&_)=_);rw[show((47:Nat)==c)=false by simp;exact λe=>hc e.symm];rfl
 |1,_=>
  have NS:(eO ps++[47].take 1).reverse=47::(eO ps).reverse:=by rw[Qp];rfl
  refine⟨?_,?_⟩
  ·rw[NS,Ss,show([47]:List Nat).contains 47=true by decide,iP rfl,hr,QV]
  ·refine(?_:[47].isPrefixOf (eO ps++[47].take 1).reverse=_);rw[NS];rfl
theorem IH(h:Pl ps)(i:Nat):pre (ps.map strN) i=eO (ps.take i):=by delta pre eO;rw[←SJ,pW]
structure Fi where
 home:BL
 f:Ft
 rows:List Row
noncomputable def Fi.rl(i:Fi)(r:Row):Rl:=⟨r.rule.neg,r.rule.only,r.rule.holds,i.home++r.rule.comps⟩
structure FiOk(σ:aq)(i:Fi):Prop where
 ft:dJ σ i.f
 pats:i.f.pats=i.rows.map λr=>bh r.line
 rows:∀r∈i.rows,RowOk r
 home:∀p∈i.home,∃k,k<3∧p=pk k
noncomputable def gr(ps:BL)(i:Fi):Bool:=ps.dropLast.take i.home.length==i.home
noncomputable def mX(Fs:List Fi)(ps:BL):List (Nat×Ft):=(Fs.filter (gr ps)).map λi=>(i.home.length,i.f)
noncomputable def bf(Fs:List Fi):List Rl:=Fs.flatMap λi=>i.rows.map i.rl
noncomputable def gk(Fs:List Fi)(Q:Fi→Row→Bool):Option (Fi×Row):=((Fs.flatMap λi=>i.rows.map λr=>(i,r)).filter λx=>Q x.1 x.2).getLast?
theorem wE{α:Type}{q:α→Bool}(l:List α):l.reverse.find? q=(l.filter q).getLast?:=by rw[←List.head?_filter,List.filter_reverse,List.head?_reverse]
theorem kn(Fs:List Fi)(q:Rl→Bool):((bf Fs).filter q).getLast?=(gk Fs λi r=>q (i.rl r)).map λx=>x.1.rl x.2:=by
 have:bf Fs=(Fs.flatMap λi=>i.rows.map λr=>(i,r)).map λx=>x.1.rl x.2:=by delta bf;simp only[List.map_flatMap];congr 1;funext i;simp only[Qk];rfl
 simp only[this,TP,SH];rfl
theorem sX(i:Fi)(Fs:List Fi)(Q:Fi→Row→Bool):gk (i::Fs) Q=(gk Fs Q <|> (i.rows.reverse.find? (Q i)).map λr=>(i,r)):=by delta gk;simp only[QC,List.filter_append,QZ,wE,TP,SH];cases (List.filter (λx=>Q x.1 x.2) (Fs.flatMap λi=>i.rows.map λr=>(i,r))).getLast?<;>rfl
theorem qJ(Fs:List Fi)(ps:BL)(M:Nat→V→Bool)(Q:Fi→Row→Bool)(hp:∀i∈Fs,i.f.pats=i.rows.map λr=>bh r.line)(hM:∀i∈Fs,∀r∈i.rows,gr ps i=true→M i.home.length (bh r.line)=Q i r)(hQ:∀i∈Fs,∀r∈i.rows,gr ps i=false→Q i r=false):
 n4 M (mX Fs ps)=(gk Fs Q).map λx=>bh x.2.line:=by
 delta n4 mX
 induction Fs with
 |nil=>rfl
 |cons i Fs ih=>
  have ih:=ih (λj hj=>hp j (mM hj)) (λj hj=>hM j (mM hj)) (λj hj=>hQ j (mM hj))
  have hh:(RH (λx=>bh x.2.line) (gk Fs Q <|> RH (λr=>(i,r)) (i.rows.reverse.find? (Q i))))=(RH (λx=>bh x.2.line) (gk Fs Q) <|> RH (λr=>bh r.line) (i.rows.reverse.find? (Q i))):=by
   induction gk Fs Q using oA with
   |some x=>rfl|none=>show RH _ (RH _ _)=_;rw[Option.map_map];rfl
  simp only[sX,hh,←ih,SP]
  induction hb:gr ps i using bC with
  |true=>
   rw[iP rfl,Qf,UD,List.findSome?_append]
   have:(i.f.pats.reverse.find? (M i.home.length))=RH (λr=>bh r.line) (i.rows.reverse.find? (Q i)):=by
    rw[hp i mS,←TJ,List.find?_map];congr 1;have hr:=λr hr=>hM i mS r (QL.mp hr) hb;generalize i.rows.reverse=l at hr
    induction l with
    |nil=>rfl|cons r l ih=>rw[S9,S9,ih λx hx=>hr x (mM hx),←hr r mS];rfl
   rw[Rh,this];generalize UZ (λx:Nat×Ft=>Vm (M x.1) x.2.pats.reverse) _=X
   induction X using oA<;>cases RH (λr=>bh r.line) (i.rows.reverse.find? (Q i))<;>rfl
  |false=>
   rw[iN fF]
   have:i.rows.reverse.find? (Q i)=none:=by rw[List.find?_eq_none];intro r hr;rw[hQ i mS r (QL.mp hr) hb];exact fF
   rw[this];generalize UZ (λx:Nat×Ft=>Vm (M x.1) x.2.pats.reverse) _=X
   induction X using oA<;>rfl
end Internal
namespace Internal
variable {r:Row}{ps:BL}
theorem oR(r:Row):r.rule.comps=r.cs∧r.rule.neg=(r.neg==1)∧r.rule.only=(r.only==1)∧r.rule.holds=d8 r.lead r.comps:=⟨rfl,rfl,rfl,rfl⟩
theorem Ig(h:RowOk r):r.cs≠[]:=by delta Row.cs;split;exact h.ne;simp
theorem tD(h:RowOk r):cD (bh r.line):=by simp only[rK h];exact⟨_,_,_,_,_,_,rfl⟩
theorem zl(h:RowOk r):je (bh r.line)= !r.rule.neg:=by rw[rK h];rfl
theorem Ay{k:Nat}(hk:k<3){l:BL}:cf (pk k::l) ps=match ps with|[]=>false|p::ps=>(p==pk k)&&cf l ps:=by
 have h2:(pk k==[42,42])=false:=by rcases JA hk with rfl|rfl|rfl<;>decide
 rw[ol,h2,UY,iN fF,iN fF]
 induction ps using lC with
 |nil=>rfl
 |cons p ps=>
  have:bU (pk k) p=(p==pk k):=by
   have lit:∀ {c:UInt8} {t w:Ab},(c=97∨c=98)→bU (c::t) w=match w with|[]=>false|d::v=>(d==c)&&bU t v:=by
    intro c t w hc;have h1:(c==42)=false∧(c==63)=false:=by rcases hc with rfl|rfl<;>decide
    rw[js,h1.1,iN fF,h1.2,U5]
    induction w using lC with
    |nil=>rfl|cons d v=>show(true&&(_&&bU t v))=_;rw[RW];refine(?_:((d==c&&true)&&_)=_);rw[U4]
   have nil:∀w:Ab,bU [] w=(w==[]):=λw=>by simp only[fB];induction w using lC<;>rfl
   rcases JA hk with rfl|rfl|rfl
   ·rw[show pk 0=[97] from rfl,lit (.inl rfl)];induction p using lC with|nil=>rfl|cons d v=>simp only[nil];rfl
   ·rw[show pk 1=[98] from rfl,lit (.inr rfl)];induction p using lC with|nil=>rfl|cons d v=>simp only[nil];rfl
   ·rw[show pk 2=[97,98] from rfl,lit (.inl rfl)];induction p using lC with|nil=>rfl|cons d v=>
     simp only[lit (Or.inr rfl:(98:UInt8)=97∨(98:UInt8)=98)]
     induction v using lC with
     |nil=>show _=_;rfl|cons e v=>simp only[nil];rfl
  refine(?_:(bU (pk k) p&&cf l ps)=_);rw[this]
theorem wU:∀ {home l ps:BL},(∀p∈home,∃k,k<3∧p=pk k)→cf (home++l) ps=((ps.take home.length==home)&&cf l (ps.drop home.length)):=by
 intro L_;induction L_ with
 |nil=>intro l ps o_;exact rfl
 |cons p home IH_=>
  intro l ps h;refine aQ (h p (by simp)) λk hk z1=>?_;subst z1;refine TF▸?_;refine(Ay hk)▸?_
  induction ps using lC with
  |nil=>rfl|cons q ps=>simp only[IH_ λp hp=>h p (mM hp)];refine(?_:_=((q==pk k&&(ps.take home.length==home))&&_));simp only[Bool.and_assoc];rfl
theorem gg{σ:aq}{i:Fi}(hi:FiOk σ i)(hr:RowOk r)(NV:ps≠[])(dir:Bool):dw ps dir (i.rl r)=(gr ps i&&((dir|| !(r.only==1))&&cf r.cs (ps.drop i.home.length))):=by
 delta dw Fi.rl;simp only;rw[wU hi.home,(oR r).1,(oR r).2.2.1];delta gr
 by_cases hl:i.home.length<ps.length
 ·have e:ps.dropLast.take i.home.length=ps.take i.home.length:=by
   rw[Td,U0,QT (by exact aZ [_,_,_] (.h 1 (.a ab ai) ae (.h 1 ae (.a af ai) (.g ab af))) rfl hl (iW _ _))]
  rw[e];cases (ps.take i.home.length==i.home)<;>cases (dir|| !(r.only==1))<;>rfl
 ·rw[Qw ((SV hl)),jY _ (Ig hr)];simp
section
variable {σ:aq} {Fs:List Fi}
noncomputable def nq(σ:aq)(Fs:List Fi):Prop:=∀i∈Fs,FiOk σ i
theorem vw(h:nq σ Fs):∀x∈mX Fs ps,∃i∈Fs,gr ps i=true∧x=(i.home.length,i.f):=by intro x hx;refine jz hx λi hi z2=>?_;subst z2;exact sx i (Qu.mp hi).1 (Qu.mp hi).2 rfl
theorem gE{i:Fi}(NV:ps≠[])(h:gr ps i=true):i.home.length<ps.length:=by have e:=cG Rc (bA h);rw[Ql,List.length_dropLast] at e;have:=Rt.mpr NV;exact aZ [_,_,_,_] (.h 1 ab ae (.h 1 ae af (.h 1 (.a af ai) ag (.g (.a ab ai) ag)))) rfl (nE e.symm) (QM _ _) (nE (sC (aZ [_] (.h 1 (.a aj ai) ab (.g ai ab)) rfl this)))
theorem kR{i:Fi}(hi:FiOk σ i){v:V}(hv:v∈i.f.pats):∃r∈i.rows,v=bh r.line:=by rw[hi.pats] at hv;refine jz hv λr hr z3=>?_;subst z3;exact a7 r hr rfl
open Classical in
noncomputable def wR (d:Nat) (σ:aq) (k:Nat) (args:List V):Bool:=decide (call d σ (.fn k) args=some (.bool true,σ))
theorem pQ{d k:Nat}{args:List V}{b:Bool}(h:call d σ (.fn k) args=some (.bool b,σ)):call d σ (.fn k) args=some (.bool (wR d σ k args),σ)∧wR d σ k args=b:=by
 have:wR d σ k args=b:=by
  delta wR
  induction b using bC with
  |true=>simp[h]|false=>simp[h];exact nofun
 rw[this];exact⟨h,rfl⟩
theorem ot(d:Nat)(hr:RowOk r)(h:Pl ps){k:Nat}(hk:k<ps.length)(dir:Bool):call (d+7) σ (.fn 31002) [bh r.line,.bytes (cS (eO ps) k),.bool dir]=some (.bool ((dir|| !(r.only==1))&&cf r.cs (ps.drop k)),σ):=by
 refine aQ (qQ (line:=r.line) (p0:=r.p0) (neg:=r.neg==1) (only:=r.only==1) (P1:=io r.body) (P2:=io r.p0) d σ (name:=aB [47] (ps.drop k)) dir (by have:=i9 λp hp=>((h.drop hk).each p hp).2.2.1;have:=(h.drop hk).len;lia) (D6 _ _)) λb e1 e2=>?_
 simp only[AQ h,rK hr,e1];congr 3;rw[Rn,e2,tM hr ((h.drop hk).gp.nc (h.drop hk).ne),←vQ _ (h.drop hk).gp,P9]
 induction dir using bC<;>cases (r.only==1)<;>simp
theorem yw(d:Nat)(hF:nq σ Fs)(h:Pl ps)(dir:Bool):∃o,call (d+8) σ (.fn 33) [.list ((mX Fs ps).map kx),.str (eO ps),.bool dir]=some (iH o,σ)∧(∀v,o=some v→cD v)∧o.map je=(a9 (bf Fs) ps dir).map not:=by
 refine sx ((gk Fs λi r=>dw ps dir (i.rl r)).map λx=>bh x.2.line) ?_ ?_ ?_
 ·rw[←qJ Fs ps (λk v=>wR (d+7) σ 31002 [v,.bytes (cS (eO ps) k),.bool dir]) (λi r=>dw ps dir (i.rl r)) (λi hi=>(hF i hi).pats)]
  ·refine yK (d+5) σ (eO ps) dir (DP h) (mX Fs ps) λx hx=>gv (vw hF x hx) λi hi hp z9=>?_;subst z9;refine ou ((hF i hi).ft) (λv hv=>?_) (λv hv=>?_)
   ·refine aQ (kR (hF i hi) hv) λr hr z8=>?_;subst z8;exact tD ((hF i hi).rows r hr)
   ·refine aQ (kR (hF i hi) hv) λr hr z7=>?_;subst z7;exact(pQ (ot d ((hF i hi).rows r hr) h (gE h.ne hp) dir)).1
  ·intro i hi r hr hp;rw[(pQ (ot d ((hF i hi).rows r hr) h (gE h.ne hp) dir)).2,gg (hF i hi) ((hF i hi).rows r hr) h.ne,hp];rfl
  ·intro i hi r hr hp;rw[gg (hF i hi) ((hF i hi).rows r hr) h.ne,hp];rfl
 ·intro v hv;refine aQ (Q0.mp hv) λx hx z6=>?_;subst z6;have:=Tk hx;refine aQ (SQ.mp (Qu.mp this).1) λi hi hr=>jz hr λr On z5=>?_;subst z5;exact tD ((hF i hi).rows r On)
 ·delta a9;simp only[SH,kn]
  induction hx:gk Fs λi r=>dw ps dir (i.rl r) using oA with
  |none=>rfl|some x=>refine cps λX_ k_=>?_;have:=Tk hx;refine aQ (SQ.mp (Qu.mp this).1) λi hi hr=>jz hr λr On z4=>?_;subst z4;refine k_ ?_;exact cG _ (zl ((hF i hi).rows r On))
theorem nM(d:Nat)(hr:RowOk r)(hz:r.hazy=false)(h:Pl ps){k:Nat}(hk:k<ps.length):call (d+8) σ (.fn 31003) [bh r.line,.bytes (cS (eO ps) k)]=some (.bool (r.rule.holds&&cf r.cs (ps.drop k++[[120]])),σ):=by
 simp only[AQ h,rK hr,(oR r).2.2.2]
 induction hh:d8 r.lead r.comps using bC with
 |false=>exact xM (d+7) σ _ ((Ec hr).trans hh)
 |true=>
  delta Row.hazy at hz;rw[hh,RW,Bool.or_eq_false_iff] at hz
  have ho:r.only=0:=by have:=hr.only;lia
  have hb:r.body=r.p0:=by delta Row.body;refine ho▸?_;simp
  simp only[hz.1,hb]
  refine aQ (wL (line:=r.line) (neg:=r.neg==1) (P1:=io r.p0) (P2:=io r.p0) d σ (name:=aB [47] (ps.drop k)) (by have:=i9 λp hp=>((h.drop hk).each p hp).2.2.1;have:=(h.drop hk).len;lia) (D6 _ _) ((Ec hr).trans hh)) λb e1 e2=>?_
  simp only[e1];congr 3
  have gx:Gp (ps.drop k++[[120]]):=λp hp=>by
   rcases Qh.mp hp with q|q
   ·exact(h.drop hk).gp p q
   ·rw[mA q];decide
  have n2:Nc (ps.drop k++[[120]]++[[]]):=⟨by simp,λp hp=>by
   rcases Qh.mp hp with q|q
   ·exact(gx p q).2
   ·rw[mA q];simp,λp hp=>by rw[Sl] at hp;exact(gx p hp).1⟩
  have j1:aB [47] (ps.drop k)++[47]++[120]=aB [47] (ps.drop k++[[120]]):=by
   have:∀l:BL,l≠[]→aB [47] (l++[[120]])=aB [47] l++[47]++[120]:=by
    intro l
    induction l with
    |nil=>intro q;exact absurd rfl q
    |cons a l ih=>
     intro o_
     induction l using lC with
     |nil=>rfl|cons b l=>refine(?_:aB [47] (a::b::(l++_))=_);rw[be,be,show b::(l++[[120]])=b::l++[[120]] from rfl,ih (by simp)];simp
   exact(this _ (h.drop hk).ne).symm
  have j2:aB [47] (ps.drop k)++[47]++[120,47]=aB [47] (ps.drop k++[[120]]++[[]]):=by rw[l5 (by simp),←j1];simp
  simp only[Rn,e2,j1,j2,tM hr (gx.nc (by simp)),tM hr n2,RW,vQ _ gx];refine⟨λq=>q.elim id λq=>?_,.inl⟩
  have PP:dC r.lead r.comps=true:=by delta d8 at hh;induction hq:dC r.lead r.comps using bC with|true=>rfl|false=>rw[hq] at hh;cases hh
  have N2:r.cs=r.comps:=by delta Row.cs;refine PP▸?_;exact(iP rfl)▸rfl
  rw[N2] at q⊢
  by_cases hl:r.comps.getLast?=some [42,42]
  ·exact Kq hr.ne hr.len hr.mem hl hz.2 (h.drop hk).ne gx q
  ·exact oH hr.ne hl gx q
theorem Bi(d:Nat)(hF:nq σ Fs)(h:Pl ps)(hz:∀i∈Fs,∀r∈i.rows,r.hazy=false)(NB:∀i∈Fs,gr ps i=true):call (d+9) σ (.fn 35) [.list ((mX Fs ps).map kx),.str (eO ps)]=some (.bool (a9 ((bf Fs).filter Rl.holds) (ps++[[120]]) true==some false),σ):=by
 have hq:∀i∈Fs,∀r∈i.rows,dw (ps++[[120]]) true _=cf r.cs _:=λi hi r hr=>by
  have hl:=gE h.ne (NB i hi);rw[gg (hF i hi) ((hF i hi).rows r hr) (by simp)]
  have:gr (ps++[[120]]) i=true:=by have e:=NB i hi;unfold gr at e⊢;rw[Sl];rw[Td,U0,QT (by(clear hF h hz NB hi hr e;exact aZ [_,_,_] (.h 1 (.a ab ai) ae (.h 1 ae (.a af ai) (.g ab af))) rfl hl (iW _ _)))] at e;exact e
  simp only[this,Sk (Qx (by assumption))];rfl
 have e:=sI (M:=λk v=>wR (d+8) σ 31003 [v,.bytes (cS (eO ps) k)]) (d+6) σ (eO ps) (DP h) (mX Fs ps) λx hx=>by
  refine gv (vw hF x hx) λi hi hp OP=>?_;subst OP;refine ou ((hF i hi).ft) (λv hv=>?_) (λv hv=>?_)
  ·refine aQ (kR (hF i hi) hv) λr hr OQ=>?_;subst OQ;exact tD ((hF i hi).rows r hr)
  ·refine aQ (kR (hF i hi) hv) λr hr Pe=>?_;subst Pe;exact(pQ (nM d ((hF i hi).rows r hr) (hz i hi r hr) h (gE h.ne hp))).1
 rw[qJ Fs ps _ (λi r=>r.rule.holds&&dw (ps++[[120]]) true (i.rl r)) (λi hi=>(hF i hi).pats) (λi hi r hr hp=>by rw[(pQ (nM d ((hF i hi).rows r hr) (hz i hi r hr) h (gE h.ne hp))).2,hq i hi r hr]) (λi hi r hr hp=>by rw[NB i hi] at hp;cases hp)] at e
 refine e▸?_;congr 3;delta a9;rw[List.filter_filter,SH,kn]
 have:(λ(i:Fi) (r:Row)=>(dw (ps++[[120]]) true (i.rl r)&&(i.rl r).holds))=λi r=>r.rule.holds&&dw (ps++[[120]]) true (i.rl r):=by funext i r;rw[Bool.and_comm];rfl
 rw[this]
 induction hx:gk Fs λi r=>r.rule.holds&&dw (ps++[[120]]) true (i.rl r) using oA with
 |none=>rfl|some x=>have:=Tk hx;refine aQ (SQ.mp (Qu.mp this).1) λi hi hr=>jz hr λr On Pf=>?_;subst Pf;refine(?_:je _=(some r.rule.neg==some false));refine(zl ((hF i hi).rows r On))▸?_;cases r.rule.neg<;>rfl
end
end Internal
namespace Internal
variable {ps:BL}
section
variable {σ:aq} {Fs:List Fi}
theorem zC{o:Option V}{x:Option Bool}(h:o.map je=x.map not):fj o=(x==some false)∧o.isNone=x.isNone:=by
 induction o using oA with
 |none=>induction x using oA with|none=>exact⟨rfl,rfl⟩|some b=>cases h
 |some v=>induction x using oA with|none=>cases h|some b=>injection h with h;refine⟨?_,rfl⟩;refine(?_:je v=_);rw[h];induction b using bC<;>rfl
noncomputable def kA(d:Nat)(σ:aq)(Fs:List Fi)(f:V):Prop:=∀ps,Pl ps→∀k,k≤1→call d σ f [.str (eO ps++[47].take k)]=some (.list ((mX Fs ps).map kx),σ)
theorem B8(d:Nat){f:V}(hF:nq σ Fs)(hL:kA (d+8) σ Fs f)(h:Pl ps)(dir:Bool):∃o,(∃fl,call (d+8) σ f [.str (eO ps++[47])]=some (.list fl,σ)∧call (d+8) σ (.fn 33) [.list fl,.str (eO ps),.bool dir]=some (iH o,σ))∧(∀v,o=some v→cD v)∧o.map je=(a9 (bf Fs) ps dir).map not:=by exact gv (yw d hF h dir) λo a b c=>sx o ⟨_,hL ps h 1 nR,a⟩ b c
theorem H2(d:Nat){f:V}(hF:nq σ Fs)(hL:kA (d+8) σ Fs f)(h:Pl ps):∃o:Nat→Option V,∀i,0<i→(LookOk (d+8) σ f (pre (ps.map strN) i++[47]) (pre (ps.map strN) i) true (o i)∧(pre (ps.map strN) i++[47]).length≤65536)∧fj (o i)=(a9 (bf Fs) (ps.take i) true==some false):=by
 have hex:∀i,∃o,0<i→(LookOk (d+8) σ f (pre (ps.map strN) i++[47]) (pre (ps.map strN) i) true o∧(pre (ps.map strN) i++[47]).length≤65536)∧fj o=_:=λi=>by
  by_cases hi:0<i
  ·refine gv (B8 d hF hL (h.take hi) true) λo a b c=>?_;rw[IH h];exact⟨o,λo_=>⟨⟨⟨a,b⟩,by have:=mH (h.take hi);simp;exact cj this rfl⟩,(zC c).1⟩⟩
  ·exact⟨none,λq=>absurd q hi⟩
 exact⟨λi=>(hex i).choose,λi hi=>(hex i).choose_spec hi⟩
theorem ph{l:List Nat}{p q:Nat→Bool}(h:∀i∈l,p i=q i):l.any p=l.any q:=by
 induction l with
 |nil=>rfl|cons x l ih=>simp only[RA,h x mS,ih λi hi=>h i (mM hi)]
theorem vU(n:Nat)(p:Nat→Bool):((Qb n).map (· +1)).any p=(Qb n).any λi=>p (i+1):=by rw[Sv];rfl
theorem vM(d:Nat){f:V}(hF:nq σ Fs)(hL:kA (d+8) σ Fs f)(h:Pl ps){k:Nat}(hk:k≤1):
 call (d+9) σ (.fn 36) [f,.str (eO ps++[47].take k)]=some (.bool ((Qb ps.length).any λj=>a9 (bf Fs) (ps.take (j+1)) true==some false),σ):=by
 refine ek (H2 d hF hL h) λo ho=>?_;have MZ:(ps.map strN).length=_:=KE _;rw[wF (d+7) σ f _ (eO ps) (ps.map strN) o (eH h k hk).1 (pO h) (by have:=mH h;omega) (by have:=h.len;rw[MZ];omega) (λi hi=>(ho i (by refine jz hi λj o_ z1=>?_;subst z1;exact Ra _)).1),MZ,vU];congr 3;exact ph λi o_=>(ho (i+1) (Ra _)).2
theorem gz(d:Nat){f:V}(hF:nq σ Fs)(hL:kA (d+10) σ Fs f)(h:Pl ps){k:Nat}(hk:k≤1)(dir:Bool)(hz:k=1→(∀i∈Fs,∀r∈i.rows,r.hazy=false)∧∀i∈Fs,gr ps i=true):
 call (d+11) σ (.fn 34) [f,.str (eO ps++[47].take k),.bool dir]=some (ck (mY (bf Fs) (cm (bf Fs) ps dir) ps (k==1)),σ):=by
 refine cps λX_ k_=>ek (H2 (d+2) hF hL h) λo ho=>gv (yw (d+2) hF h dir) λof l1 l2 l3=>?_;have Py:=Rt.mpr h.ne;refine k_ ?_
 rw[tG (d+9) σ f _ (eO ps) dir (ps.map strN) o of (a9 ((bf Fs).filter Rl.holds) (ps++[[120]]) true==some false) (eH h k hk).1 (pO h) (by have:=mH h;exact kJ this rfl) (by have:=h.len;rw[(KE _)];exact kJ this rfl) (by rw[(KE _)];exact Py)
  (λi hi=>(ho i (by refine jz hi λj o_ z2=>?_;subst z2;exact Rz _ _)).1) l2 ⟨_,hL ps h k hk,l1,λhs=>by rw[(eH h k hk).2] at hs;exact d7 (hz (by simpa using hs)) λz1 z2=>Bi (d+1) hF h z1 z2⟩,(eH h k hk).2,(KE _),vU]
 refine cps λX_ k_=>?_;obtain⟨m,hm⟩:∃m,ps.length=m+1:=⟨ps.length -1,(Qg (iW _ _) (nE (sC (aZ [_] (.h 1 (.a aj ai) ab (.g ai ab)) rfl Py))))⟩;refine d7 (zC l3) λo1 o2=>?_
 have hpar:((Qb (ps.length -1)).any λi=>fj (o (i+1)))=(Qb m).any λj=>a9 (bf Fs) (ps.take (j+1)) true==some false:=by rw[hm,UC];exact ph λi o_=>(ho (i+1) (Rz _ _)).2
 have hwd:cm (bf Fs) ps dir=((Qb m).map λj=>a9 (bf Fs) (ps.take (j+1)) true)++[a9 (bf Fs) ps dir]:=by
  delta cm;rw[hm,Sn,Qi];congr 1
  ·apply Sr;intro j hj;rw[decide_eq_true (by have:=QE.mp hj;exact Rf (by assumption)),S8]
  ·rw[Tt,decide_eq_false (QQ.mpr nR),SK,Qn (nE (by assumption))]
 refine k_ ?_;delta BD mY;rw[hpar,hwd,o1,o2,TK,Sv,QZ];show _=some (ck (if((Qb m).any (λj=>a9 (bf Fs) (ps.take (j+1)) true==some false)||((a9 (bf Fs) ps dir==some false)||false))=true then some true else if _ then some true else if((some (a9 (bf Fs) ps dir):Option (Option Bool))==some none)=true then none else some false),σ)
 induction (Qb m).any (λj=>a9 (bf Fs) (ps.take (j+1)) true==some false) using bC with
 |true=>rfl|false=>rcases a9 (bf Fs) ps dir with _|_|_<;>rfl
theorem wJ(whole:List Rl)(ps:BL)(dir:Bool):(cm whole ps dir).dropLast.any (· ==some false)=(Qb (ps.length -1)).any λj=>a9 whole (ps.take (j+1)) true==some false:=by
 delta cm
 induction hn:ps.length using Qy with
 |zero=>rfl
 |succ m=>
  simp only[Sn,Qi,Tt,Sl,Sv]
  exact ph λj hj=>by refine(?_:(a9 whole _ _==some false)=_);rw[decide_eq_true (by have:=QE.mp hj;exact Rf (by assumption)),S8]
end
section
variable {m:Made}
theorem zH{l:BL}(h:∀p∈l,∃k,k<3∧p=pk k)(hne:l≠[])(hl:l.length≤5):Pl l:=⟨hne,hl,λp hp=>by refine aQ (h p hp) λk hk z1=>?_;subst z1;exact ty (j9 hk) λa b c d=>LM c d b a⟩
theorem vB(hm:MadeOk m):Pl m.fold:=ty (ci hm) λo_ f ne l=>zH f ne (cj l rfl)
theorem gh(hm:MadeOk m):Pl m.parts:=by exact ty (ci hm) λp o_ o_ l=>zH p (by delta Made.parts;simp) (by delta Made.parts;simp;exact cj l rfl)
theorem FA(hm:MadeOk m):Pl (m.parts++[pk 1]):=by
 refine ty (ci hm) λp o_ o_ l=>zH (λx hx=>?_) (by simp) (by delta Made.parts;simp;exact Qo (by assumption));rcases Qh.mp hx with h|h
 ·exact p x h
 ·exact⟨1,by decide,mA h⟩
theorem yQ(hm:MadeOk m):m.text++[47,98]=eO (m.parts++[pk 1])++[47].take 0:=by
 have:∀l:BL,l≠[]→aB [47] (l++[[98]])=aB [47] l++[47,98]:=by
  intro l
  induction l with
  |nil=>intro q;exact absurd rfl q
  |cons a l ih=>
   intro o_
   induction l using lC with
   |nil=>show a++[47]++[98]=a++_;simp|cons b l=>refine(?_:aB [47] (a::b::(l++[[98]]))=_);rw[be,be,show b::(l++[[98]])=b::l++[[98]] from rfl,ih (by simp)];simp
 delta eO;simp only[show pk 1=[98] from rfl,this _ (gh hm).ne,Rk,Qj];delta Made.text strN;simp only[Qi];rfl
noncomputable def Made.files(m:Made):List Fi:=[⟨bv m 0,m.ft bh 0,m.at 0⟩,⟨bv m 1,m.ft bh 1,m.at 1⟩,⟨bv m 2,m.ft bh 2,m.at 2⟩,⟨bv m 3,m.ft bh 3,m.at 3⟩]
noncomputable def Made.ft3(m:Made):Ft:=⟨10,11,(m.lines 3++[ed]).map bh⟩
noncomputable def Made.files3(m:Made):List Fi:=[⟨bv m 0,m.ft bh 0,m.at 0⟩,⟨bv m 1,m.ft bh 1,m.at 1⟩,⟨bv m 2,m.ft bh 2,m.at 2⟩,⟨bv m 3,m.ft3,m.at 3++[eh]⟩]
theorem vL(hm:MadeOk m)(k:Nat):∀r∈m.at k,RowOk r:=λr hr=>hm.rows r (Qu.mp hr).1
theorem oZ(hm:MadeOk m)(k:Nat):∀p∈bv m k,∃j,j<3∧p=pk j:=by
 refine ty (ci hm) λo_ f o_ o_=>?_;intro p hp;rcases k with _|_|_|_|k
 ·exact absurd hp Qd
 ·exact absurd hp Qd
 ·exact f p (QY hp)
 ·exact f p hp
 ·exact absurd hp Qd
theorem o6(k:Nat):(m.ft bh k).pats=(m.at k).map λr=>bh r.line:=by refine(?_:(m.lines k).map bh=_);delta Made.lines;rw[Qk];rfl
theorem jA(hm:MadeOk m):nq (m.sto bh) m.files:=by
 have key:∀k,dJ (m.sto bh) (m.ft bh k)→FiOk _ ⟨bv m k,m.ft bh k,m.at k⟩:=λk h=>⟨h,o6 k,vL hm k,oZ hm k⟩;refine ty (sT m bh) λa b c d=>?_;intro i hi;simp only[Made.files,P6,Qd,or_false] at hi;rcases hi with rfl|rfl|rfl|rfl
 ·exact key 0 a
 ·exact key 1 b
 ·exact key 2 c
 ·exact key 3 d
theorem gJ(hm:MadeOk m):nq (m.sto3 bh) m.files3:=by
 have key:∀k,dJ (m.sto3 bh) (m.ft bh k)→FiOk _ ⟨bv m k,m.ft bh k,m.at k⟩:=λk h=>⟨h,o6 k,vL hm k,oZ hm k⟩;intro i hi;simp only[Made.files3,P6,Qd,or_false] at hi;rcases hi with rfl|rfl|rfl|rfl
 ·exact key 0 ⟨rfl,rfl⟩
 ·exact key 1 ⟨rfl,rfl⟩
 ·exact key 2 ⟨rfl,rfl⟩
 ·refine⟨⟨rfl,rfl⟩,?_,λr hr=>?_,oZ hm 3⟩
  ·refine(?_:(m.lines 3++_).map bh=_);simp only[Qi];delta Made.lines;rw[Qk];refine wH▸?_;rfl
  ·rcases Qh.mp hr with h|h
   ·exact vL hm 3 r h
   ·simp only[mA h];exact kP
theorem eS:bf m.files=m.whole:=by delta bf Made.files Made.whole Made.wholeAt Made.rules;simp only[QC,UN,Qj,Qk,Qc];rfl
noncomputable def gn(m:Made):Rl:=Fi.rl ⟨bv m 3,m.ft3,m.at 3++[eh]⟩ eh
theorem pq:bf m.files3=m.whole++[gn m]:=by refine eS▸?_;delta bf Made.files3 Made.files;simp only[QC,Qi,Qc];rfl
theorem nL(hm:MadeOk m)(k:Nat)(f:Ft)(rows:List Row):gr m.parts ⟨bv m k,f,rows⟩=true:=by
 have hd:m.parts.dropLast=m.fold:=by delta Made.parts;simp only[Sl]
 delta gr;simp only[hd];delta bv Made.homes
 match k with
 |0=>simp|1=>simp|2=>simp|3=>simp|k+4=>simp
theorem xX(Fs:List Fi)(ps:BL):ik (Fs.map Fi.home) (Fs.map Fi.f) ps=mX Fs ps:=by delta ik mX;simp only[List.zip_map',TP,Qk];rfl
theorem zT(d:Nat)(σ:aq)(Fs:List Fi)(hs:∀i∈Fs,i.f.n<σ.length)(hl:Fs.length<60000):kA (d+3) σ Fs (yj (Fs.map Fi.home) (Fs.map Fi.f)):=by
 intro ps h k hk
 rw[zD d σ (Fs.map Fi.home) (Fs.map Fi.f) (eO ps++[47].take k) (eO ps) ps (eH h k hk).1 (DM (lm λp hp=>(h.each p hp).2.2.2)) (by unfold eO;rw[y6];exact bX h.ne λs hs=>(h.each s hs).2.1) (by have:=mH h;omega) (by simp) (λf hf=>by refine jz hf λi hi z2=>?_;subst z2;exact hs i hi) (by simpa using hl),xX]
theorem iR(hm:MadeOk m)(d:Nat):kA (d+3) (m.sto bh) m.files (m.look bh):=
 zT d _ m.files (λi hi=>(jA hm i hi).ft.lt.1) (show 4<60000 by decide)
theorem rb(hm:MadeOk m)(d:Nat):kA (d+3) (m.sto3 bh) m.files3 (m.look bh):=
 zT d _ m.files3 (λi hi=>(gJ hm i hi).ft.lt.1) (show 4<60000 by decide)
theorem il(m:Made){j:Nat}(hj:j<m.fold.length):m.parts.take (j+1)=m.fold.take (j+1):=by exact(Ru (by assumption))
theorem up(m:Made):m.parts.length -1=m.fold.length:=by delta Made.parts;simp
theorem jI(m:Made):m.pruned=(Qb m.fold.length).any λj=>a9 m.whole (m.fold.take (j+1)) true==some false:=by delta Made.pruned Made.words;simp only[wJ,up];exact ph λj hj=>by exact(il m (QE.mp hj))▸rfl
theorem jJ(d:Nat)(σ:aq)(f:Ft)(rows:List Row)(h:f.n<σ.length):kA (d+1) σ [⟨[],f,rows⟩] (kZ f.n):=λps o_ k o_=>Ax d σ f h _
theorem gW(hm:MadeOk m){k:Nat}(hk:k<4):nq (m.sto bh) [⟨[],m.ft bh k,m.at k⟩]:=by
 intro i hi;simp only[mA hi];refine⟨?_,o6 k,vL hm k,λp hp=>by cases hp⟩;refine ty (sT m bh) λa b c d=>?_;rcases I5 hk with rfl|rfl|rfl|rfl
 ·exact a
 ·exact b
 ·exact c
 ·exact d
theorem iB(k:Nat)(f:Ft):bf [⟨[],f,m.at k⟩]=m.rules k:=by delta bf Made.rules;simp only[QC,UN,Qj];rfl
theorem x5(hm:MadeOk m)(k:Nat):RsOk (m.rules k):=⟨by have:=gV hm k;exact kJ this rfl,λr hr=>dR (iE hm hr) λa b o_=>⟨(cj a rfl),λc hc=>by have:=b c hc;exact cj this rfl⟩⟩
theorem Ca{l:List Nat}{p:Nat→Bool}{x:Nat}(hx:x∈l)(h:p x=true):l.any p=true:=QX.mpr ⟨x,hx,h⟩
theorem vm{whole:List Rl}{dir s:Bool}{j:Nat}(hj:j+1<ps.length)(h:a9 whole (ps.take (j+1)) true=some false):mY whole (cm whole ps dir) ps s=some true:=by
 have:(cm whole ps dir).any (· ==some false)=true:=by delta cm;rw[Sv];refine Ca (QE.mpr (Qx (by assumption))) ?_;refine(?_:(a9 whole _ _==some false)=_);simp only[decide_eq_true hj,S8,h];rfl
 delta mY;rw[this,iP rfl]
end
section
variable {m:Made}
theorem rr{whole:List Rl}{dir:Bool}{x:Rl}:a9 (whole++[x]) ps dir=if dw ps dir x then some x.neg else a9 whole ps dir:=by
 delta a9
 induction h:dw ps dir x using bC with
 |true=>simp[h]|false=>simp[h]
theorem BX(hm:MadeOk m){j:Nat}(hj:j<m.fold.length):dw (m.parts.take (j+1)) true (gn m)=false:=by
 delta gn;rw[gg (gJ hm ⟨bv m 3,m.ft3,m.at 3++[eh]⟩ (by simp[Made.files3])) kP ((gh hm).take (by exact Ra _)).ne]
 have:gr (m.parts.take (j+1)) ⟨bv m 3,m.ft3,m.at 3++[eh]⟩=false:=by
  induction h:gr (m.parts.take (j+1)) ⟨bv m 3,m.ft3,m.at 3++[eh]⟩ using bC with
  |false=>rfl|true=>have hl:=gE ((gh hm).take (by exact Ra _)).ne h;have:(bv m 3).length=m.fold.length:=rfl;rw[Ql] at hl;simp only at hl;lia
 rw[this];rfl
theorem x7(hm:MadeOk m):dw m.parts false (gn m)=true:=by
 delta gn;rw[gg (gJ hm ⟨bv m 3,m.ft3,m.at 3++[eh]⟩ (by simp[Made.files3])) kP (gh hm).ne,nL hm 3]
 have:m.parts.drop (bv m 3).length=[pk m.leaf]:=by refine(?_:(m.fold++_).drop m.fold.length=_);simp only[RJ]
 refine this▸?_;have:=hm.leaf;generalize m.leaf=l at this
 match l,this with
 |0,_|1,_|2,_=>decide
theorem AA(hm:MadeOk m):mY (m.whole++[gn m]) (cm (m.whole++[gn m]) m.parts false) m.parts false=some m.pruned:=by
 have hn:m.parts.length=m.fold.length+1:=by delta Made.parts;simp
 have hw:cm (m.whole++[gn m]) m.parts false=((Qb m.fold.length).map λj=>a9 m.whole (m.fold.take (j+1)) true)++[some true]:=by
  delta cm;rw[hn,Sn,Qi];congr 1
  ·apply Sr;intro j hj;have hj:=QE.mp hj;rw[decide_eq_true (by exact Rf (by assumption)),S8,rr,BX hm hj,iN fF,il m hj]
  ·rw[Tt,decide_eq_false (QQ.mpr nR),SK,Qn (nE (by assumption)),rr,x7 hm,iP rfl];rfl
 delta mY;rw[hw,TK,Sv,QZ,jI];refine(?_:(if((Qb m.fold.length).any (λj=>a9 m.whole (m.fold.take (j+1)) true==some false)||_)=true then some true else if(false&&_)=true then some true else if((some (some true):Option (Option Bool))==some none)=true then none else some false)=_);cases (Qb m.fold.length).any (λj=>a9 m.whole (m.fold.take (j+1)) true==some false)<;>rfl
theorem qD(h:m.slash=true):∀r∈m.rows,r.hazy=false:=by
 intro r hr;delta Made.slash at h;simp only[P9] at h
 induction hz:r.hazy using bC with
 |false=>rfl|true=>have:(m.rows.map Row.hazy).any id=true:=QX.mpr ⟨true,Su.mpr ⟨r,hr,hz⟩,rfl⟩;rw[this] at h;cases h.2
theorem fT:(m.text++if m.slash then[47] else[])=eO m.parts++[47].take (if m.slash then 1 else 0):=by cases m.slash<;>rfl
theorem d5:(if m.slash then 1 else 0)≤1∧((if m.slash then 1 else 0)==1)=m.slash:=by cases m.slash<;>decide
theorem Hg(hm:MadeOk m):LawH m bh:=by
 have pp:=gh hm;have hn:m.parts.length=m.fold.length+1:=by delta Made.parts;simp
 refine⟨?_,λhp=>?_,λh0 o ho=>?_,λhk=>?_,λhk=>?_⟩
 ·have:=vM 30 (jA hm) (iR hm 35) (vB hm) (k:=m.turn) (by have:=hm.turn;exact SL (by assumption));rw[eS,←jI] at this;exact this
 ·have:=gz 28 (jA hm) (iR hm 35) (FA hm) (k:=0) (by decide) m.folder (λq=>by cases q);rw[eS,←yQ hm] at this;refine this.trans ?_;rw[jI] at hp;refine aQ (QX.mp hp) λj hj h=>?_;have hj:=QE.mp hj
  rw[vm (j:=j) (by simp;exact Vh hj (nE hn.symm)) (by rw[Ru (Vh hj (nE hn.symm)),il m hj];exact bA h)];rfl
 ·have OK:m.fold=[pk m.one]:=by delta Made.fold;refine h0▸?_;rfl
  have NW:m.parts=[pk m.one,pk m.leaf]:=by delta Made.parts;rw[OK];rfl
  have ign:∀k,k<4→call 37 (m.sto bh) (.fn 37004) [.o (4+2*k),.str (m.text++if m.slash then[47] else[])]=some (ck (fp m.parts m.slash (m.rules k)),m.sto bh):=λk hk=>by
   refine j5 34 _ (4+2*k) _ _ ?_
   have:=gz 25 (gW hm hk) (jJ 34 _ (m.ft bh k) (m.at k) (gW hm hk _ (Rv.mpr rfl)).ft.lt.1) pp d5.1 m.slash (λhs=>⟨λi hi r hr=>by rw[mA hi] at hr;exact qD (by rw[←d5.2,hs];rfl) r (Qu.mp hr).1,λi hi=>by rw[mA hi];delta gr;simp⟩)
   rw[iB,d5.2,←fT] at this;rw[fT,(eH pp _ d5.1).2,d5.2,←fT];exact this
  have ign2:∀k,k<4→call 37 (m.sto bh) (.fn 37004) [.o (4+2*k),.str (m.text++[47,98])]=some (ck (fp (m.parts++[pk 1]) false (m.rules k)),m.sto bh):=λk hk=>by refine j5 34 _ (4+2*k) _ _ ?_;have:=gz 25 (gW hm hk) (jJ 34 _ (m.ft bh k) (m.at k) (gW hm hk _ (Rv.mpr rfl)).ft.lt.1) (FA hm) (k:=0) (by decide) false (λq=>by cases q);rw[iB] at this;refine(yQ hm)▸?_;refine((eH (FA hm) 0 (RN _)).2)▸?_;exact this
  have mp:∀k,k<4→call 38 _ _ [.o _,.bytes (pk m.one++[47])]=some (.bool (a9 _ (m.parts.take 1) true==some false),m.sto bh):=λk hk=>by
   refine ty (j9 hm.one) λa1 o_ a3 o_=>Aj 35 _ (4+2*k) _ _ (by rw[TN,a1];rfl) (by cases hq:pk m.one<;>rfl) ?_;have:=vM 28 (gW hm hk) (jJ 35 _ (m.ft bh k) (m.at k) (gW hm hk _ (Rv.mpr rfl)).ft.lt.1) (OK▸(vB hm)) (k:=1) (by decide);rw[iB] at this;have e1:eO [pk m.one]++[47].take 1=(pk m.one++[47]).map Rm:=by simp only[Qi];rfl
   rw[e1] at this;refine this.trans ?_;refine(?_:some (V.bool (_||false),_)=_);rw[SK];rfl
  have hrow:∀k,k<4→(∃fs,_[4+2*k]?=some _∧aE fs 138=none∧aE fs 139=none)∧4+2*k<(m.sto bh).length:=λk hk=>by
   have hfs:(m.sto bh)[4+2*k]?=some (.obj 129 [(131,.o (5+2*k)),(132,.bool false),(133,.none)]):=by
    match k,hk with
    |0,_|1,_|2,_|3,_=>rfl
   refine⟨⟨_,hfs,?_,?_⟩,by refine(?_:_<12);exact aZ [_] (.h 2 (.a ab ai) (.c 4) (.g (.a (.a (.c 4) (.m 2 ab)) ai) (.c 12))) rfl hk⟩<;>rfl
  have main:∀ (k0:Nat) (ks:List Nat),(∀k∈k0::ks,k<4)→call 39 (m.sto bh) (.fn 49) [.list ((k0::ks).map λk=>.o (4+2*k)),.list ((k0::ks).map λk=>ej (m.rules k)),bl m.parts,.str m.text,.bool m.slash]=some (.bool true,m.sto bh):=by
   intro k0 ks hks;refine d7 (qX hm) λpo pl3=>?_;have Oy:∀k:Nat,(4+2*k -4) / 2=k:=λk=>by lia
   have:=rB 14 (m.sto bh) (4+2*k0) (m.rules k0) (ks.map λk=>(4+2*k,m.rules k)) m.parts (pk m.one) m.text m.slash (λn=>fp m.parts m.slash (m.rules ((n -4) / 2))) (λn=>fp (m.parts++[pk 1]) false (m.rules ((n -4) / 2))) po (by rw[NW];rfl) (kJ pl3 rfl) (by have:=(lH hm).1;exact kJ this rfl) (by have:=(j9 hm.one).2.1;exact kJ this rfl) (λx hx=>by
    have hx:x∈(k0::ks).map λk=>(4+2*k,m.rules k):=hx;refine jz hx λk hk z1=>?_;subst z1;have hk:=hks k hk;refine d7 (hrow k hk) λa b=>?_;simp only[Oy];exact MD (x5 hm k) trivial b a (ign k hk) (ign2 k hk)) (mp k0 (hks k0 mS)) (λh1=>by
    simp only[Qf,Rh,Oy];delta fp;rw[vm (j:=0) (by rw[NW];simp) (by rw[NW] at h1⊢;exact h1)])
   simp only[Qf,Qk] at this;exact this
  rcases ho with rfl|rfl
  ·exact main 0 [1,2,3] (by decide)
  ·exact main 3 [2,1,0] (by decide)
 ·have:=gz 28 (jA hm) (iR hm 35) pp d5.1 m.folder (λhs=>⟨λi hi r hr=>qD (by rw[←d5.2,hs];rfl) r (by
   simp only[Made.files,P6,Qd,or_false] at hi;rcases hi with rfl|rfl|rfl|rfl<;>exact(Qu.mp hr).1),λi hi=>by
   simp only[Made.files,P6,Qd,or_false] at hi;rcases hi with rfl|rfl|rfl|rfl<;>exact nL hm _ _ _⟩)
  rw[eS,d5.2,←fT] at this;exact this
 ·have hf:m.folder=false:=by delta Made.folder;refine hk▸?_;rfl
  have hs:m.slash=false:=by delta Made.slash;refine hk▸?_;rfl
  have:=gz 28 (gJ hm) (rb hm 35) pp (RN _) false (λq=>by cases q);rw[pq] at this;rw[hf,hs];exact this.trans (by simp only[show((0:Nat)==1)=false from rfl,AA hm];rfl)
theorem zg(MR:List Int):∃σ,call 40 [] (.fn 50) [.list (MR.map .int)]=some (.bool true,σ):=Cc MR λm hm=>⟨bh,Hy hm,Hg hm⟩
end
end Internal
section
namespace Internal
open PySem PySem.W PySem.Calls PyProof.Rows PySem.SeqAt
variable {R:WRecords}{s:Shared}
theorem tz{xs:List WData}(h:WShape.hasItems R xs .int=true):∃MR:List Int,xs=MR.map .int:=by
 induction xs with
 |nil=>exact⟨[],rfl⟩|cons x xs ih=>refine bO h λh1 h2=>ek (hasW_int h1) λi hi=>?_;obtain⟨s,hs⟩:=ih h2;exact⟨i::s,by simp only[hi,hs];rfl⟩
theorem Bt{cl:Str→Option Addr}{P:Params}{ord:List DictEntry→List DictEntry}(MR:List Int):∀ {s:Shared},∃vs t,layAllW R cl P ord (MR.map .int) s=some (vs,{s with toks:=t})∧vs.length=MR.length∧∀L,bQ L (MR.map .int) vs:=by
 induction MR with
 |nil=>intro s;exact i6 ([]) (s.toks) rfl rfl (λo_=>rfl)|cons i MR ih=>intro s;refine fk (ih (s:={s with toks:=s.toks+1})) λvs t h1 h0 h2=>i6 (.int i s.toks::vs) t ?_ (cG (· +1) h0) (λL=>⟨_,_,rfl,⟨_,rfl⟩,h2 L⟩);refine(?_:(match layAllW R cl P ord _ {s with toks:=s.toks+1} with|some r=>some (Value.int i s.toks::r.1,r.2)|Sx=>Sx)=_);rw[h1]
noncomputable def zr(o:Obj):Bool:=match o.data with|.freed=>false|_=>true
theorem HM(P:Params):(L0.all λa=>decide (a<499)&&zr (((H.TZ P).get a).getD default))=true:=by kernel_rfl
theorem DR{P:Params}{a:Nat}(h1:a<499)(h2:zr (((H.TZ P).get a).getD default)=true):(H.HZ P).get? a=some (((H.TZ P).get a).getD default):=by
 have h:(H.HZ P).objs[a]?=_:=absHeap_at (H.TZ P) 499 {} a;rw[iP h1] at h;delta Heap.get?;rw[h];generalize ((H.TZ P).get a).getD default=o at h2;obtain⟨c,d,dt,x⟩:=o
 induction dt using PySem.Data.casesOn<;>first|rfl|exact dg h2
theorem I3(P:Params):(KF P).In (H.HZ P):=by
 intro a o e
 have hm:(a,o)∈KF P:=by
  have:∀ (K:Frag),K.lookup a=some o→(a,o)∈K:=by
   intro K
   induction K with
   |nil=>intro e;exact no e
   |cons y K ih=>
    intro e;obtain⟨b,p⟩:=y;rw[QW] at e
    induction q:a==b using bC with
    |true=>rw[q] at e;rw[bA q,sJ e];exact mS|false=>rw[q] at e;exact mM (ih e)
  exact this _ e
 refine jz hm λb hb e2=>bO (lA (HM P) b hb) λq1 q2=>?_;simp only[←(pJ e2).1,←(pJ e2).2];exact DR (of_decide_eq_true q1) q2
theorem CU(P:Params):(TQ.map λt=>((H.TZ P).get t.2.1).getD default)=TQ.map λo_=>tabObj #[]:=by kernel_rfl
theorem v6(P:Params):∀t∈TQ,(H.HZ P).get? t.2.1=some (tabObj #[]):=by intro t ht;have e:=List.map_inj_left.mp (CU P) t ht;have:=DR (P:=P) (of_decide_eq_true (lA (show(TQ.all λt=>decide (t.2.1<499))=_ by decide+kernel) t ht)) (by refine e▸?_;rfl);simp only[this,e]
noncomputable def P0(s:Shared):Pt:=⟨⟨λa=>(s.heap.get? a).map λo=>(if jv a then .tab else .imm,o),λo_=>0,0⟩,[],s⟩
theorem Ed{a:Addr}{o:Obj}(e:s.heap.get? a=some o)(t:jv a=false):(P0 s).L.At a o:=by refine(?_:(s.heap.get? a).map _=_);simp only[e];refine(?_:some (_,o)=_);refine t▸?_;rfl
theorem Mw{w:World}(B:Base ⟨w,s.heap,s.os⟩)(hg:s.gens= #[]):SR ⟨w,s.heap,s.os⟩ (P0 s) where
 base:=B
 g:=λ {a k o} e=>by exact aQ (Q0.mp e) λo' e1 e2=>e1.trans (cG some (pJ e2).2)
 h0:=λa o e t=>Ed e t
 tabs:=λt ht=>⟨#[],by refine(?_:(s.heap.get? t.2.1).map _=_);simp only[B.t t ht];rw[show jv t.2.1=true from QX.mpr ⟨t,ht,beq_self_eq_true _⟩];rfl,trivial,λpos cv e=>no e⟩
 gens:=.of_eq hg
 os:=rfl
 n:=rfl
 cells:=λn c e=>no e
theorem K2{w:World}{s':Shared}(B:Base ⟨w,s.heap,s.os⟩){P':Pt}(x:SR ⟨w,s.heap,s.os⟩ P')(e:P'.s=s'):OldK s.heap s'.heap:=by
 subst e;refine⟨λb o e=>?_,λb o e=>?_⟩
 all_goals induction t:jv b using bC with
  |false=>first|exact .inl (x.g (x.h0 b o e t))|exact⟨_,x.g (x.h0 b o e t)⟩
  |true=>
   refine cps λX_ k_=>aQ (QX.mp t) λq hq eb=>?_;have eb:=bA eb;obtain⟨ps,h1,h2,h3⟩:=x.tabs q hq;subst eb;refine k_ ?_
   first
   |exact⟨_,x.g h1⟩
   |rw[(B.t q hq)] at e
    simp only[←sJ e];exact .inr (.inl ⟨((DV B.k (lA (Ef _) q hq)).tab (B.t q hq)).isCodeTable,rfl,#[],ps,rfl,by rw[x.g h1,Tq]⟩)
noncomputable abbrev gc:OpenRow:=PySem.Challenge.rw_ai0011_01.row
theorem AG{xs:List WData}(h:gc.pre.holds R {args:=[.list xs]}=true):xs.length≤63:=by
 have h:(match (match (match (less? (.int 63) (.int xs.length)).map WData.bool with|some (.bool b)=>some (WData.bool (!b))|_=>none) with|some (.bool false)=>some _|some (.bool true)=>some (WData.bool true)|_=>none) with|some (.bool true)=>true|_=>false)=_:=h
 induction e:decide ((63:Int)<xs.length) using bC with
 |false=>have:=of_decide_eq_false e;omega|true=>rw[show less? (.int 63) (.int xs.length)=some (decide ((63:Int)<xs.length)) from rfl,e] at h;exact dg h
theorem wj{args:List WData}(h:gc.claim.pre args=true):∃MR:List Int,args=[.list (MR.map .int)]∧MR.length≤63:=by refine fk (hasAllW_cons (pre_splitW h).1) λd r e h3 h4=>?_;have e2:=hasAllW_nil h4;subst e e2;refine aQ (hasW_list h3) λxs e3 h5=>?_;obtain⟨MR,e4⟩:=tz h5;subst e3 e4;exact a7 MR rfl (nT (nE (KE _).symm) (AG (pre_splitW h).2))
theorem CQ{cl:Str→Option Addr}{P:Params}{ord:List DictEntry→List DictEntry}{xs:List WData}{s':Shared}{vs:List Value}(e:layAllW R cl P ord xs s=some (vs,s')):
 layAllW R cl P ord [.list xs] s=some ([.ref s'.heap.objs.size],{s' with heap:=s'.heap.push {cls:=.type "list",data:=.seq vs.toArray}}):=by
 refine(?_:(match (match layAllW R cl P ord xs s with|some r=>some (Tg r.2.heap.objs.size,({r.2 with heap:=r.2.heap.push {cls:=.type "list",data:=.seq r.1.toArray}}:Shared))|Sx=>Sx) with|some a=>_|Sx=>Sx)=_)
 refine e▸?_;rfl
theorem Cr(args ds:List WData):gc.claim.post args (.bool true) ds=true:=by kernel_rfl
theorem Ir{d:DefRec}{kwd:List (Str×Ac)}(hn:d.name="law"):WalkX H.qv H.tZ (λo_ o_=>True) (λs=>s.heap) (λw=>H.HZ w.params) gc.toRowW d kwd λf vs=>PySem.call f vs:=by
 intro w Nm M1 mg mb G y a o pm cd doc dV kV ha ho hcd hdf Ob PK args vals as L NB hlay hrd hwell hsys;refine aQ (wj NB) λMR PY MZ=>?_;subst PY;refine aQ L.laid λord _ PG=>fk (Bt (R:=gc.records) (cl:=classAt Nm.heap) (P:=w.params) (ord:=ord) MR (s:=Nm)) λvs t e1 e0 OU=>?_
 have e2:layAllW gc.records (classAt Nm.heap) w.params ord [.list (MR.map .int)] Nm=some ([.ref Nm.heap.objs.size],{Nm with toks:=t,heap:=Nm.heap.push {cls:=.type "list",data:=.seq vs.toArray}}):=by exact CQ e1
 have e3:=sJ (PG.symm.trans e2);have hh:_=Nm.heap.push {cls:=.type "list",data:=.seq vs.toArray}:=cG Shared.heap ((pJ e3).2);have y:Nm.heap=_:=y;have kp:=λ {b ob} e=>L.keeps b ob (y▸e);have K:=λb ob e=>kp (I3 w.params b ob e)
 have B:Base ⟨w,M1.heap,M1.os⟩:={
  g:=⟨mg,G.T.g⟩
  b:=⟨mb,G.T.b,G.T.builtins⟩
  lim:=G.T.nolimit
  bm:=by exact IJ G.T.bmain λbm ob h1 _ h3 h4=>a7 ob ((Ta (sJ (h1.symm.trans (show _=some (.ref 4) from mg_of K G.T.g (by kernel_rfl)))))▸h3) h4
  k:=K
  t:=λq hq=>kp (v6 w.params q hq)}
 have ha:a=498:=by exact Ta (sJ ((hn▸Ob).symm.trans (mg_of K G.T.g (by kernel_rfl))))
 subst ha;have hl:M1.heap.get? Nm.heap.objs.size=some {cls:=.type "list",data:=.seq vs.toArray}:=by refine hh▸?_;exact Qr _ rfl
 have nt:jv Nm.heap.objs.size=false:=by
  induction q:jv Nm.heap.objs.size using bC with
  |false=>rfl|true=>refine aQ (QX.mp q) λq hq eb=>?_;have h1:=kp (v6 w.params q hq);rw[bA eb,hl] at h1;exact nomatch cG Obj.data (sJ h1)
 have VL:bQ (P0 M1).L [.list (MR.map .int)] vals:=by simp only[((pJ e3).1)];exact⟨_,_,rfl,⟨_,_,vs,rfl,Ed hl nt,⟨by rw[e0];exact nT MZ (by decide),0,rfl⟩,OU _⟩,rfl⟩
 refine ek (zg MR) λσ hlaw=>?_
 have C:=(wD ⟨w,M1.heap,M1.os⟩ 40).c (A:=callerA) (f:=.fn 50) (fv:=.ref 498) ⟨rfl,by decide,by decide⟩ rfl (Mw B PK) rfl VL hlaw
  (λv s'=>GoodWG gc.claim (classAt Nm.heap) (ExcName.means Nm.heap) [.list (MR.map .int)] M1 (.ok (.ret v)) s') (λe s'=>GoodWG gc.claim (classAt Nm.heap) (ExcName.means Nm.heap) [.list (MR.map .int)] M1 (.error e) s')
 refine wpAny_call (C λP' x T o_ r=>?_);subst r;exact⟨.inl ⟨_,.bool true,[],rfl,λo_=>rfl,.bool true,Cr _ _,λo_=>⟨.nil,λo_ h=>nomatch h⟩⟩,K2 B T.sr rfl,T.sr.os,T.sr.gens⟩
set_option maxHeartbeats 8000000 in
theorem Bf:PySem.Challenge.rw_ai0011_01.wellSaid=true:=by
 delta OpenLaw.wellSaid
 iterate 18 refine look_both ?_ (by decide+kernel)
 delta OpenRow.wellSaid
 iterate 2 refine look_both ?_ (by decide+kernel)
 delta OpenRow.partSaid
 iterate 13 refine look_both ?_ (by decide+kernel)
 delta looksOpen
 iterate 5 refine look_both ?_ (by decide+kernel)
 decide+kernel
theorem Bg:(chainsOk H.qv&&opensWell gc.prog&&(frees gc.toRowW&&gc.within.isEmpty))=true:=rfl
theorem BO:(defOf H.qv gc.name).isSome=true:=rfl
theorem xR:(defOf H.qv gc.name).map (λx=>(gc.prog.theDef gc.name,kwWritten? x.1.params.kwonlyargs x.1.params.kw_defaults,x.1.name))=(defOf H.qv gc.name).map λx=>(some (x.1.params,x.1.body,x.1.scope),some x.2,("law":Str)):=rfl
theorem uh(said:gc.wellSaid=true):gc.Holds:=by obtain⟨⟨d,kwd⟩,e⟩:=Qz.mp BO;have h:=xR;rw[e] at h;have h:=sJ h;refine d7 (pJ h) λh1 h2=>?_;refine d7 (pJ h2) λh2 h3=>?_;exact holds_openX (q:=H.qv) (loose:=H.tZ) (Xt:=λo_=>true) H.left (λo_ o_=>trivial) (λo_ o_ o_ o_ o_=>trivial) e h1 h2 (λs o_=>recFacts_nil rfl) rfl said Bg ⟨rfl,rfl,rfl,rfl,rfl,by decide+kernel⟩ ⟨[.list []],by decide+kernel,by decide+kernel⟩ (Ir h3)
end Internal
end
theorem PySem.Challenge.cw_ai0011_01_holds : PySem.Challenge.rw_ai0011_01.Holds :=
 PySem.W.holds_law Internal.Bf Internal.uh
